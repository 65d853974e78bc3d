import Derived.Test.Qxb6617989aAll
import Derived.Test.Qxb6617989aReads
namespace Go.Proofs.Qxb6617989a
open Go.RowKit Plain

theorem Arg.kept {w w' : World} {a : Option Addr} {n c : Nat} {f : Nat → Nat} (h : Arg w a n c f) (k : Below w.heap.size w w') : Arg w' a n c f :=
  ⟨h.nil, fun h0 => by
    obtain ⟨b, o, e, hc⟩ := h.at0 h0
    exact ⟨b, o, e, fun j hj => (k.cell (World.block_lt_of_cell? w _ (hc j hj))).trans (hc j hj)⟩, h.lt⟩
theorem Arg.rd {w : World} {a : Option Addr} {n c : Nat} {f : Nat → Nat} (h : Arg w a n c f) : Rd w a n f := h.at0
theorem Num.rd {N : Nat} {w : World} {a : Option Addr} {n c : Nat} {f : Nat → Nat} (h : Num N w a n c f) : Rd w a n f := fun h0 => by
  obtain ⟨b, o, e, _, hR⟩ := h.at0 h0
  exact ⟨b, o, e, fun j hj => (hR j (Nat.lt_of_lt_of_le hj h.le)).1⟩
theorem Rd.drewN {w : World} {a : Option Addr} {n : Nat} {f : Nat → Nat} (h : Rd w a n f) (q : Nat) : Rd (w.drewN q) a n f := h
theorem Rd.congr {w : World} {a : Option Addr} {n : Nat} {f g : Nat → Nat} (h : Rd w a n f) (e : ∀ j, j < n → f j = g j) : Rd w a n g := fun h0 => by
  obtain ⟨b, o, ea, hc⟩ := h h0
  exact ⟨b, o, ea, fun j hj => by rw [← e j hj]; exact hc j hj⟩
theorem Num.keptO {N : Nat} {w w' : World} {a a' : Option Addr} {n c : Nat} {f : Nat → Nat} (h : Num N w a n c f) (k : Ko a' w w') (hb : ∀ x y, n ≠ 0 → a = some x → a' = some y → x.block ≠ y.block) : Num N w' a n c f :=
  ⟨h.le, h.max, fun h0 => by
    obtain ⟨b, o, e, hN, hR⟩ := h.at0 h0
    exact ⟨b, o, e, hN, hR.keptO k (fun y hy => hb _ y h0 e hy)⟩, h.lt⟩
theorem top_len {g : Nat → Nat} {m k : Nat} (h : Top g m) (hv : vl g m < B ^ k) : m ≤ k := by
  by_cases hm : m = 0
  · omega
  · have h1 := top_le h hm
    have h2 : B ^ (m - 1) < B ^ k := Nat.lt_of_le_of_lt h1 hv
    have := (Nat.pow_lt_pow_iff_right (by rw [B_eq]; omega)).1 h2
    omega
theorem shl_len {f g : Nat → Nat} {n m s k : Nat} (hf : ∀ j, j < n → f j < B) (h : Top g m) (hv : vl g m = vl f n * 2 ^ s) (hs : s ≤ 64 * k) : m ≤ n + k := by
  refine top_len h ?_
  rw [hv, Nat.pow_add]
  refine Nat.lt_of_lt_of_le (Nat.mul_lt_mul_of_pos_right (vl_lt hf) (Nat.pow_pos (by omega))) (Nat.mul_le_mul_left _ ?_)
  rw [pow_B]
  exact Nat.pow_le_pow_right (by omega) hs

theorem bytes2_any (a : Option Addr) (n c s t : Nat) (w : World) (hn : n ≤ 65536) : Calls Try.prog 8 #[.slice a n c, .int .u64 s, .int .u64 t] w fun e w' => e = .returned (.bool true) ∧ w' = w := by
  go_enter Try.func8, Try.ntmps8
  go_wp2
  go_ret
  exact ⟨rfl, rfl⟩
theorem bytes2_big (a : Option Addr) (n c s t : Nat) (w : World) (hn : ¬ n ≤ 65536) : Calls Try.prog 8 #[.slice a n c, .int .u64 s, .int .u64 t] w fun e w' => (∃ b, e = .returned (.bool b)) ∧ w' = w := by
  go_enter Try.func8, Try.ntmps8
  by_cases h : n ≤ 1048576
  · go_wp2
    go_ret
    exact ⟨⟨_, rfl⟩, rfl⟩
  · go_wp2
    go_ret
    exact ⟨⟨_, rfl⟩, rfl⟩

theorem law2_early (a : Option Addr) (n c s t : Nat) (w : World) (h : ¬ n ≤ 65536 ∨ ¬ s ≤ 65536 ∨ ¬ t ≤ 65536) (hc : n ≤ maxLen) :
    Calls Try.prog 4 #[.slice a n c, .int .u64 s, .int .u64 t] w fun e w' => e = .returned (.bool true) ∧ w' = w := by
  unfold maxLen at hc
  by_cases hn : n ≤ 65536
  · by_cases hs : s ≤ 65536
    · have ht : ¬ t ≤ 65536 := by omega
      go_enter Try.func4, Try.ntmps4
      go_wp2_with (go_at_call 8; refine (bytes2_any _ _ _ _ _ _ hn).mono ?_; rintro e w' ⟨rfl, rfl⟩)
      go_ret
      exact ⟨rfl, rfl⟩
    · go_enter Try.func4, Try.ntmps4
      go_wp2_with (go_at_call 8; refine (bytes2_any _ _ _ _ _ _ hn).mono ?_; rintro e w' ⟨rfl, rfl⟩)
      go_ret
      exact ⟨rfl, rfl⟩
  · go_enter Try.func4, Try.ntmps4
    go_wp2_with (go_at_call 8; refine (bytes2_big _ _ _ _ _ _ hn).mono ?_; rintro e w' ⟨⟨b, rfl⟩, rfl⟩)
    all_goals (go_ret; exact ⟨rfl, rfl⟩)

set_option maxHeartbeats 1000000 in
theorem law2_main (a : Option Addr) (n c s t : Nat) (f : Nat → Nat) (w : World) (hA : Arg w a n c f) (hn : n ≤ 65536) (hs : s ≤ 65536) (ht : t ≤ 65536) :
    Calls Try.prog 4 #[.slice a n c, .int .u64 s, .int .u64 t] w fun e w' => e = .returned (.bool true) ∧ Below w.heap.size w w' := by
  have hd1 : decide ((65536 : Int) < (n : Int)) = false := decide_eq_false (by omega)
  have hd2 : decide ((65536 : Int) < (s : Int)) = false := decide_eq_false (by omega)
  have hd3 : decide ((65536 : Int) < (t : Int)) = false := decide_eq_false (by omega)
  go_enter Try.func4, Try.ntmps4
  go_wp2_with fail
  refine (bytes2_any a n c s t w hn).mono ?_
  rintro e w' ⟨rfl, hw⟩
  obtain rfl := hw.symm
  clear hw
  go_wp2_with fail
  refine (clone_all a n c f w hA (by omega)).mono ?_
  rintro e w1 ⟨a1, c1, rfl, hN1, hK1, hx1⟩
  have hB1 : Below w.heap.size w w1 := hK1.below (Nat.le_refl _) (Nat.le_refl _)
  have hA1 := hA.kept hB1
  go_wp2_with fail
  refine (clone_all a n c f w1 hA1 (by omega)).mono ?_
  rintro e w2 ⟨a2, c2, rfl, hN2, hK2, hx2⟩
  have hB2 : Below w.heap.size w w2 := hB1.trans (hK2.below hB1.size hB1.size)
  have hN1' : Num w.heap.size w2 a1 n c1 f := hN1.keptO (a' := some ⟨w1.heap.size, 0, none⟩) hK2.ko (fun x y _ hx hy => by injection hy with hy; subst hy; have := hx1 x hx; show x.block ≠ w1.heap.size; omega)
  have hN2' : Num w.heap.size w2 a2 n c2 f := ⟨hN2.le, hN2.max, fun h0 => by obtain ⟨b, o, e, hb, hR⟩ := hN2.at0 h0; exact ⟨b, o, e, Nat.le_trans hB1.size hb, hR⟩, hN2.lt⟩
  go_wp2_with fail
  refine (zzshl_all w.heap.size a1 n c1 s f w2 hN1' hB2.size (by omega) (by omega)).mono ?_
  rintro e w3 ⟨a3, n3, c3, g3, rfl, hN3, hT3, hV3, hB3, hKo3, hx3⟩
  have hB3' := hB2.trans hB3
  have hl3 : n3 ≤ n + 1024 := shl_len hN1.lt hT3 hV3 (by omega)
  have hN2a : Num w.heap.size w3 a2 n c2 f := hN2'.keptO hKo3 (fun x y _ hx hy => by have h1 := hx1 y hy; have h2 := hx2 x hx; have := hB1.size; omega)
  go_wp2_with fail
  refine (zzshl_all w.heap.size a3 n3 c3 t g3 w3 hN3 hB3'.size (by omega) (by omega)).mono ?_
  rintro e w4 ⟨a4, n4, c4, g4, rfl, hN4, hT4, hV4, hB4, hKo4, hx4⟩
  have hB4' := hB3'.trans hB4
  have hN2b : Num w.heap.size w4 a2 n c2 f := hN2a.keptO hKo4 (fun x y _ hx hy => by
    have h2 := hx2 x hx
    have h3 := hx3 y hy
    have hs1 := hB1.size
    have hs2 := hK2.size
    rcases h3 with ⟨z, hz, e⟩ | h3
    · have h1 := hx1 z hz; omega
    · omega)
  go_wp2_with fail
  rw [show ((s : Int) + (t : Int)) = ((s + t : Nat) : Int) from by omega]
  refine (zzshl_all w.heap.size a2 n c2 (s + t) f w4 hN2b hB4'.size (by omega) (by omega)).mono ?_
  rintro e w5 ⟨a5, n5, c5, g5, rfl, hN5, hT5, hV5, hB5, hKo5, hx5⟩
  have hB5' := hB4'.trans hB5
  have hN4' : Num w.heap.size w5 a4 n4 c4 g4 := hN4.keptO hKo5 (fun x y _ hx hy => by
    have h2 := hx2 y hy
    have hs1 := hB1.size
    have hs2 := hK2.size
    have hs3 := hB3.size
    rcases hx4 x hx with ⟨z, hz, e⟩ | h4
    · rcases hx3 z hz with ⟨z', hz', e'⟩ | h3
      · have h1 := hx1 z' hz'; omega
      · omega
    · omega)
  have hsame : n4 = n5 ∧ ∀ j, j < n4 → g4 j = g5 j := top_inj hN4.lt hN5.lt hT4 hT5 (by rw [hV4, hV3, hV5, Nat.mul_assoc, ← Nat.pow_add])
  obtain ⟨hn45, hg45⟩ := hsame
  subst hn45
  have hl5 : n4 ≤ n + 2048 := shl_len hN1.lt hT5 hV5 (by omega)
  go_wp2_with fail
  refine (equal_any a4 a5 n4 c4 c5 g5 w5 (by omega) (hN4'.rd.congr hg45) hN5.rd).mono ?_
  rintro e w6 ⟨rfl, q, rfl⟩
  have hB6 : Below w.heap.size w (w5.drewN q) := ⟨hB5'.os, hB5'.tape, hB5'.output, hB5'.size, hB5'.block⟩
  have hz6 : Rd (w5.drewN q) a n f := (hA.kept hB6).rd
  have ho6 : Rd (w5.drewN q) a5 n4 g5 := hN5.rd.drewN q
  generalize w5.drewN q = w6 at hB6 hz6 ho6
  have hN5l := hN5.lt
  have hfl := hA.lt
  clear hN1 hN1' hN2 hN2' hN2a hN2b hN3 hN4 hN4' hN5 hA hA1 hx1 hx2 hx3 hx4 hx5 hKo3 hKo4 hKo5 hK1 hK2 hB1 hB2 hB3 hB4 hB5 hB3' hB4' hB5'
  go_wp2_with fail
  refine (bitLen_any a n c f w6 (by omega) hz6 hfl).mono ?_
  rintro e w7 ⟨L, rfl, hL, rfl⟩
  by_cases hL0 : L = 0
  · subst hL0
    have hV0 : vl f n = 0 := by have := hL.1; simpa using this
    have hn40 : n4 = 0 := by
      rcases hT5 with h | h
      · exact h
      · refine Nat.le_antisymm (Nat.le_of_not_lt fun hp => ?_) (Nat.zero_le _)
        have h1 := le_vl (f := g5) (k := n4 - 1) (n := n4) (by omega)
        rw [hV5, hV0, Nat.zero_mul] at h1
        have := Nat.mul_pos (Nat.pos_of_ne_zero h) (Nat.pow_pos (n := n4 - 1) B_pos)
        omega
    subst hn40
    clear hV0 hV3 hV4 hV5 hT3 hT4 hT5
    go_wp2
    go_ret
    exact ⟨rfl, hB6⟩
  · have hV0 : vl f n ≠ 0 := fun h => hL0 (by rw [h] at hL; exact hL.zero)
    have hL5 : IsBl (vl g5 n4) (L + (s + t)) := by rw [hV5]; exact hL.shl hV0 _
    have hw := top_words hN5l hT5 hL5
    have hLle : L ≤ 64 * n := hL.le (by rw [← pow_B]; exact vl_lt hfl)
    have hV50 : vl g5 n4 ≠ 0 := by rw [hV5]; exact Nat.mul_ne_zero hV0 (Nat.ne_of_gt (Nat.pow_pos (by omega)))
    have HPC : Hid (pcs (vl g5 n4) (64 * n4) = pcs (vl f n) (64 * n)) := (by
      have h1 : vl g5 n4 < 2 ^ (64 * n4) := by rw [← pow_B]; exact vl_lt hN5l
      have h2 : vl f n < 2 ^ (64 * n) := by rw [← pow_B]; exact vl_lt hfl
      have h3 : vl g5 n4 < 2 ^ ((s + t) + 64 * n) := by rw [hV5, Nat.pow_add 2 (s + t), Nat.mul_comm]; exact Nat.mul_lt_mul_of_pos_left h2 (Nat.two_pow_pos _)
      rw [pcs_eq h1 h3, hV5, pcs_shl] : pcs (vl g5 n4) (64 * n4) = pcs (vl f n) (64 * n))
    have HV5 : Hid (vl g5 n4 = vl f n * 2 ^ (s + t)) := hV5
    have hLz : ((L : Int) == 0) = false := beq_eq_false_iff_ne.2 (by omega)
    have hT1 : ((n4 : Int) != ((L : Int) + ((s : Int) + (t : Int)) + 63) / 64) = false := by rw [bne_eq_false_iff_eq]; omega
    clear hV3 hV4 hV5 hT3 hT4 hT5 hw hg45
    go_wp2_with fail
    refine (bitLen_any a5 n4 c5 g5 w6 (by omega) ho6 hN5l).mono ?_
    rintro e w7 ⟨L', rfl, hL', rfl⟩
    obtain rfl := hL'.uniq hL5
    go_wp2_with fail
    refine (tz_any a5 n4 c5 g5 w6 (by omega) ho6 hN5l hV50).mono ?_
    rintro e w7 ⟨T1, rfl, hT1', hT1b, rfl⟩
    go_wp2_with fail
    refine (tz_any a n c f w6 (by omega) hz6 hfl hV0).mono ?_
    rintro e w7 ⟨T0, rfl, hT0', hT0b, rfl⟩
    have hTT : T1 = T0 + (s + t) := by rw [HV5.out] at hT1'; exact hT1'.uniq (hT0'.shl _)
    subst hTT
    go_wp2_with fail
    refine (pop_any a5 n4 c5 g5 w6 (by omega) ho6 hN5l).mono ?_
    rintro e w7 ⟨rfl, rfl⟩
    rw [HPC.out]
    go_wp2_with fail
    refine (pop_any a n c f w6 (by omega) hz6 hfl).mono ?_
    rintro e w7 ⟨rfl, rfl⟩
    go_wp2
    go_ret
    exact ⟨rfl, hB6⟩
end Go.Proofs.Qxb6617989a
