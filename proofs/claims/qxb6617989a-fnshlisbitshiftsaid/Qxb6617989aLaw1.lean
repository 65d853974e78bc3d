import Derived.Test.Qxb6617989aAll
import Derived.Deep.QuietTactic
import Derived.BigQuiet
namespace Go.Proofs.Qxb6617989a
open Go.RowKit Plain

theorem law1_early (a : Option Addr) (n c s : Nat) (w : World) (h : ¬ n ≤ 65536 ∨ ¬ s ≤ 65536) (hc : n ≤ maxLen) :
    Calls Try.prog 3 #[.slice a n c, .int .u64 s] w fun e w' => e = .returned (.bool true) ∧ w' = w := by
  unfold maxLen at hc
  by_cases hn : n ≤ 65536
  · have hs' : ¬ s ≤ 65536 := by omega
    go_enter Try.func3, Try.ntmps3
    go_wp2_with (go_at_call 5; refine (bytes1_any _ _ _ _ _ hn).mono ?_; rintro e w' ⟨rfl, rfl⟩)
    go_ret
    exact ⟨rfl, rfl⟩
  · go_enter Try.func3, Try.ntmps3
    go_wp2_with (go_at_call 5; refine (bytes1_big _ _ _ _ _ hn).mono ?_; rintro e w' ⟨⟨b, rfl⟩, rfl⟩)
    all_goals (go_ret; exact ⟨rfl, rfl⟩)

/-- 'x>>k&1'. -/
theorem bit_test (x k : Nat) (hx : x < B) : bits .and .u64 ((x : Int) / 2 ^ k) 1 = ((x / 2 ^ k % 2 : Nat) : Int) := by
  rw [cast_shr]
  have h := (bits_nat .u64 64 (by decide) u64_wraps (x / 2 ^ k) 1 (Nat.lt_of_le_of_lt (Nat.div_le_self _ _) hx) (by decide)).1
  rw [Nat.and_one_is_mod] at h
  exact h

/-- 'x | 1<<r'. -/
theorem cast_or_bit (x r : Nat) (hx : x < B) (hr : r < 64) : bits .or .u64 (x : Int) (IntKind.u64.wrap (2 ^ r)) = ((x ||| 2 ^ r : Nat) : Int) := by
  have hp : 2 ^ r < 2 ^ 64 := Nat.pow_lt_pow_right (by omega) hr
  have e : IntKind.u64.wrap (2 ^ r) = ((2 ^ r : Nat) : Int) := by
    rw [Int.natCast_pow]
    refine u64_wraps _ ?_ ?_
    · exact Int.le_of_lt (Int.pow_pos (by decide))
    · exact_mod_cast hp
  rw [e]
  exact (bits_nat .u64 64 (by decide) u64_wraps _ _ hx hp).2

/-- 'want', in the one new block behind w2: S words that spell V. -/
def Wt (w2 : World) (S V : Nat) (wr : World) : Prop := ∃ h, Rw wr w2.heap.size 0 S h ∧ (∀ j, j < S → h j < B) ∧ vl h S = V ∧ Kp w2.heap.size w2 wr

set_option maxHeartbeats 1000000 in
theorem law1_main (a : Option Addr) (n c s : Nat) (f : Nat → Nat) (w : World) (hA : Arg w a n c f) (hn : n ≤ 65536) (hs : s ≤ 65536) :
    Calls Try.prog 3 #[.slice a n c, .int .u64 s] w fun e w' => e = .returned (.bool true) ∧ Below w.heap.size w w' := by
  obtain ⟨wd, b, hb, hsd⟩ : ∃ wd b, b < 64 ∧ s = 64 * wd + b := ⟨s / 64, s % 64, by omega, by omega⟩
  have hq : (s : Int) / 64 = (wd : Int) := by omega
  have hwd : wd ≤ 1024 := by omega
  have hmk := fun W => run_make_words W (n + wd + 1) (by omega)
  rw [show ((n + wd + 1 : Nat) : Int) = (n : Int) + (wd : Int) + 1 from by omega] at hmk
  have HSD : Hid (s = 64 * wd + b) := hsd
  clear hsd
  have hd1 : decide ((65536 : Int) < (n : Int)) = false := decide_eq_false (by omega)
  have hd2 : decide ((65536 : Int) < (s : Int)) = false := decide_eq_false (by omega)
  go_enter Try.func3, Try.ntmps3
  go_wp2_with (go_at_call 5; refine (bytes1_any _ _ _ _ _ hn).mono ?_; rintro e w' ⟨rfl, hw⟩; obtain rfl := hw.symm; clear hw)
  refine (clone_all a n c f w hA (by omega)).mono ?_
  rintro e w1 ⟨a1, c1, rfl, hN1, hK1, _⟩
  go_wp2_with fail
  refine (zzshl_all w.heap.size a1 n c1 s f w1 hN1 hK1.size (by omega) (by omega)).mono ?_
  rintro e w2 ⟨a2, n2, c2, g, rfl, hN2, hT, hV, hB2, _, _⟩
  have hBl : Below w.heap.size w w2 := (hK1.below (Nat.le_refl _) (Nat.le_refl _)).trans hB2
  have hRw : Wt w2 (n + wd + 1) 0 (w2.alloc (.cells (madeCells #[Value.int .u64 0] (n + wd + 1)) 27)) :=
    ⟨fun _ => 0, Rw.new w2 _ 27 _ _ (fun j hj => made_get _ j hj), fun _ _ => B_pos, vl_zero (fun _ _ => rfl), (Kp.refl _ _).alloc _⟩
  go_wp2_with fail
  go_loopw [10] (fun v wr => ∃ i : Nat, i ≤ n ∧ v = .int .i64 i ∧ Wt w2 (n + wd + 1) (vl f i * 2 ^ s) wr) (fun v _ => n - (intOf v).toNat)
  case atStart => exact ⟨0, Nat.zero_le _, rfl, by rw [show vl f 0 * 2 ^ s = 0 by simp [vl]]; exact hRw⟩
  case round =>
    obtain ⟨i, hi, rfl, hWt⟩ := hrel
    by_cases hlt : i < n
    · obtain ⟨xb, xo, rfl, hz⟩ := hA.at0 (by omega)
      go_wp2_with fail
      go_loopw [11] (fun v wr => ∃ bit : Nat, bit ≤ 64 ∧ v = .int .i64 bit ∧ Wt w2 (n + wd + 1) (laid f s i bit) wr) (fun v _ => 64 - (intOf v).toNat)
      case atStart => exact ⟨0, Nat.zero_le _, rfl, by rw [laid_zero]; exact hWt⟩
      case round =>
        obtain ⟨bit, hbit, rfl, hWb⟩ := hrel
        by_cases hbl : bit < 64
        · obtain ⟨h, hRh, hBh, hVh, hKh⟩ := hWb
          have hzi : wr.cell? ⟨xb, xo + i, none⟩ = some (.int .u64 (f i)) := by
            have hzw := hz i hlt
            have hxb : xb < w.heap.size := World.block_lt_of_cell? w _ hzw
            have e1 := hKh.block xb (Nat.lt_of_lt_of_le hxb hBl.size) (by have := hBl.size; omega)
            exact (World.cell?_of_block e1).trans ((hBl.cell hxb).trans hzw)
          have hpos : (i * 64 + bit + s) / 64 < n + wd + 1 := by have := HSD.out; omega
          obtain ⟨hp1, hp2⟩ := hRh _ hpos
          rw [Nat.zero_add] at hp1 hp2
          rcases Nat.mod_two_eq_zero_or_one (f i / 2 ^ bit) with hm | hm
          · have ht : (bits .and .u64 ((f i : Int) / 2 ^ bit) 1 == 1) = false := by rw [bit_test _ _ (hA.lt i hlt), hm]; rfl
            clear hp1 hp2
            go_wp2
            go_roundw
            case rel => exact ⟨bit + 1, by omega, by go_num, h, hRh, hBh, by rw [hVh, laid_succ0 _ _ _ _ hm], hKh⟩
            case measure => simp [intOf]; omega
          · have ht : (bits .and .u64 ((f i : Int) / 2 ^ bit) 1 == 1) = true := by rw [bit_test _ _ (hA.lt i hlt), hm]; rfl
            generalize hx0 : h ((i * 64 + bit + s) / 64) = x0 at hp1
            have HX0 : Hid _ := hx0
            clear hx0
            go_wp2
            go_roundw
            case rel =>
              have hx0 : h ((i * 64 + bit + s) / 64) = x0 := HX0.out
              have hx0B : x0 < B := by rw [← hx0]; exact hBh _ hpos
              have hlt2 : vl h (n + wd + 1) < 2 ^ (i * 64 + bit + s) := by rw [hVh]; exact laid_lt _ _ _ _ (fun j hj => hA.lt j (by omega))
              have hw := word_lt hlt2 hpos
              rw [hx0] at hw
              refine ⟨bit + 1, by omega, by go_num, upd h ((i * 64 + bit + s) / 64) (x0 ||| 2 ^ ((i * 64 + bit + s) % 64)), ?_, ?_, ?_, ?_⟩
              · have := hRh.setZ _ _ hpos (cast_or_bit x0 ((i * 64 + bit + s) % 64) hx0B (by omega))
                rwa [Nat.zero_add] at this
              · intro j hj
                by_cases e : j = (i * 64 + bit + s) / 64
                · rw [e, upd_same]
                  exact Nat.or_lt_two_pow (n := 64) hx0B (Nat.pow_lt_pow_right (by omega) (by omega))
                · rw [upd_other _ _ e]; exact hBh j hj
              · rw [laid_succ1 _ _ _ _ hm, ← hVh]
                exact vl_bit hlt2 hpos (by rw [upd_same, hx0]) (fun j _ hj => upd_other _ _ hj)
              · exact hKh.setCell _ _
            case measure => simp [intOf]; omega
        · go_wp2
          go_roundw
          case rel => exact ⟨i + 1, by omega, by go_num, by rw [← laid_full _ _ _ (hA.lt i hlt), show 64 = bit by omega]; exact hWb⟩
          case measure => simp [intOf]; omega
    · obtain ⟨h, hRh, hBh, hVh, hKh⟩ := hWt
      go_wp2_with fail
      go_loop [13] (fun v => ∃ k : Nat, k ≤ n + wd + 1 ∧ v = .int .i64 k ∧ nrm h k = nrm h (n + wd + 1)) (fun v => (intOf v).toNat)
      case atStart => exact ⟨n + wd + 1, Nat.le_refl _, by go_num, rfl⟩
      case round =>
        obtain ⟨k, hk, rfl, hN⟩ := hrel
        have HN : Hid (nrm h k = nrm h (n + wd + 1)) := hN
        clear hN
        match k, hk, HN with
        | 0, hk, HN =>
          have HNR : Hid (0 = nrm h (n + wd + 1)) := HN.out
          have hM : n2 = 0 ∧ ∀ j, j < n2 → g j = h j := by
            refine top_inj hN2.lt (fun j hj => hBh j ?_) hT ?_ ?_
            · have hj' : j < 0 := hj
              omega
            · show Top h (0)
              rw [HNR.out]; exact top_nrm _ _
            · show vl g n2 = vl h (0)
              rw [HNR.out, vl_nrm, hV, hVh, show i = n by omega]
          obtain ⟨hM1, hM2⟩ := hM
          have hMz : ((n2 : Int) != (0)) = false := by rw [bne_eq_false_iff_eq]; omega
          clear hM1 hM2
          go_wp2_with fail
          go_loopw [14] (fun v wx => ∃ t : Nat, t ≤ 0 ∧ v = .int .i64 t ∧ Rw wx w2.heap.size 0 (n + wd + 1) h ∧ Kp w2.heap.size w2 wx) (fun v _ => 0 - (intOf v).toNat)
          case atStart => exact ⟨0, Nat.zero_le _, rfl, hRh, hKh⟩
          case round =>
            obtain ⟨t, ht, rfl, hRx, hKx⟩ := hrel
            by_cases htl : t < 0
            · exact absurd htl (Nat.not_lt_zero _)
            · go_wp2
              go_ret
              exact ⟨rfl, hBl.trans (hKx.below hBl.size hBl.size)⟩
        | k + 1, hk, HN =>
          obtain ⟨hck, _⟩ := hRh k (by omega)
          rw [Nat.zero_add] at hck
          have hki : (k : Int) < (n : Int) + (wd : Int) + 1 := by omega
          by_cases hz : h k = 0
          · go_wp2
            go_round
            case rel => exact ⟨k, by omega, by go_num, by rw [← HN.out, nrm_zero h k hz]⟩
            case measure => simp [intOf]
          · have HNR : Hid (k + 1 = nrm h (n + wd + 1)) := (by rw [← HN.out, nrm_stop h k hz] : k + 1 = nrm h (n + wd + 1))
            have hM : n2 = (k + 1) ∧ ∀ j, j < n2 → g j = h j := by
              refine top_inj hN2.lt (fun j hj => hBh j ?_) hT ?_ ?_
              · have hj' : j < (k + 1) := hj
                omega
              · show Top h ((k + 1))
                rw [HNR.out]; exact top_nrm _ _
              · show vl g n2 = vl h ((k + 1))
                rw [HNR.out, vl_nrm, hV, hVh, show i = n by omega]
            obtain ⟨hM1, hM2⟩ := hM
            have hMz : ((n2 : Int) != ((k : Int) + 1)) = false := by rw [bne_eq_false_iff_eq]; omega
            have HM : Hid _ := hM2
            have HM1 : Hid (n2 = (k + 1)) := hM1
            clear hM1 hM2
            go_wp2_with fail
            go_loopw [14] (fun v wx => ∃ t : Nat, t ≤ (k + 1) ∧ v = .int .i64 t ∧ Rw wx w2.heap.size 0 (n + wd + 1) h ∧ Kp w2.heap.size w2 wx) (fun v _ => (k + 1) - (intOf v).toNat)
            case atStart => exact ⟨0, Nat.zero_le _, rfl, hRh, hKh⟩
            case round =>
              obtain ⟨t, ht, rfl, hRx, hKx⟩ := hrel
              by_cases htl : t < (k + 1)
              · have hn2 : n2 = (k + 1) := HM1.out
                obtain ⟨gb, go, rfl, _, hRg⟩ := hN2.at0 (by omega)
                have hle2 := hN2.le
                have hRg' := hRg.kept hKx (by have := hRg.lt (by omega); omega)
                obtain ⟨hg1, _⟩ := hRg' t (by omega)
                obtain ⟨hh1, _⟩ := hRx t (by omega)
                have hgh : g t = h t := (HM.out : ∀ j, j < n2 → g j = h j) t (by omega)
                rw [hgh] at hg1
                rw [Nat.zero_add] at hh1
                generalize h t = y at hg1 hh1
                have hi1 : (t : Int) < (n2 : Int) := by omega
                have hi2 : (t : Int) < (n : Int) + (wd : Int) + 1 := by omega
                clear hn2 hgh
                go_wp2
                go_quiet (fail)
                go_wp2
                go_roundw
                case rel => exact ⟨t + 1, by omega, by go_num, hRx, ⟨hKx.os, hKx.tape, hKx.output, hKx.size, hKx.block⟩⟩
                case measure => simp [intOf]; omega
              · go_wp2
                go_ret
                exact ⟨rfl, hBl.trans (hKx.below hBl.size hBl.size)⟩
end Go.Proofs.Qxb6617989a
