import Derived.Test.Qxb6618085aBounds
import Derived.Test.Qxb6618085aText
namespace Go.Proofs.Qxb6618085a
open Go.RowKit Plain

theorem shut_or (f : Nat → Int) (p : Nat) : ∀ n, NoShut f n p ∨ ∃ s, Shut f n p s
  | 0 => .inl (fun j _ h => absurd h (Nat.not_lt_zero _))
  | n + 1 => by
    rcases shut_or f p n with h | ⟨s, h⟩
    · by_cases hn : p + 1 ≤ n ∧ f n = 125
      · exact .inr ⟨n, hn.1, Nat.lt_succ_self _, hn.2, fun j h1 h2 => h j h1 h2⟩
      · refine .inl (fun j h1 h2 => ?_)
        by_cases e : j = n
        · subst e; exact fun e0 => hn ⟨h1, e0⟩
        · exact h j h1 (by omega)
    · exact .inr ⟨s, h.lo, by have := h.hi; omega, h.at0, h.first⟩

theorem bytes_any (a : Option Addr) (n c : Nat) (p : Int) (w : World) (hn : n ≤ maxLen) : Calls Try.prog 24 #[.slice a n c, .int .i64 p] w fun e w' => (∃ b, e = .returned (.bool b) ∧ (n ≤ 262144 → b = true)) ∧ w' = w := by
  unfold maxLen at hn
  go_enter Try.func24, Try.ntmps24
  by_cases h : n ≤ 1048576
  · go_wp2
    go_ret
    exact ⟨⟨_, rfl, fun _ => rfl⟩, rfl⟩
  · go_wp2
    go_ret
    exact ⟨⟨_, rfl, fun h' => by omega⟩, rfl⟩

theorem law_early (a : Option Addr) (n c : Nat) (p : Int) (w : World) (hn : n ≤ maxLen) (h : ¬ (n ≤ 262144 ∧ 0 ≤ p ∧ p < n)) :
    Calls Try.prog 7 #[.slice a n c, .int .i64 p] w fun e w' => e = .returned (.bool true) ∧ w' = w := by
  have hn' := hn
  unfold maxLen at hn'
  by_cases h1 : n ≤ 262144
  · by_cases h2 : 0 ≤ p
    · have h3 : ¬ p < n := fun e => h ⟨h1, h2, e⟩
      go_enter Try.func7, Try.ntmps7
      go_wp2_with (go_at_call 24; refine (bytes_any _ _ _ _ _ hn).mono ?_; rintro e w' ⟨⟨b, rfl, hb⟩, rfl⟩; obtain rfl := hb h1)
      go_ret
      exact ⟨rfl, rfl⟩
    · go_enter Try.func7, Try.ntmps7
      go_wp2_with (go_at_call 24; refine (bytes_any _ _ _ _ _ hn).mono ?_; rintro e w' ⟨⟨b, rfl, hb⟩, rfl⟩; obtain rfl := hb h1)
      go_ret
      exact ⟨rfl, rfl⟩
  · go_enter Try.func7, Try.ntmps7
    go_wp2_with (go_at_call 24; refine (bytes_any _ _ _ _ _ hn).mono ?_; rintro e w' ⟨⟨b, rfl, hb⟩, rfl⟩)
    all_goals (go_ret; exact ⟨rfl, rfl⟩)

theorem info21 : (Try.prog.info? 21).map (fun i => (i.zero, i.size, i.bytes)) = some (some (.int .i32 0), 1, 4) := by kernel_rfl
theorem size21 : (Try.prog.info? 21).map (·.size) = some 1 := by kernel_rfl
theorem made_get21 (n j : Nat) (h : j < n) : (madeCells (Value.cells (.int .i32 0)) n)[j]? = some (.int .i32 0) := by
  simp [madeCells, Value.cells, h]
  simp [Nat.mod_one]
theorem run_make_runes (w : World) (n : Nat) (hn : n ≤ 1000000) :
    (Instr.makeSlice 38 (.int .i64 n) (.int .i64 n)).run Try.prog w = .ok (.slice (some ⟨w.heap.size, 0, none⟩) n n) (w.alloc (.cells (madeCells (Value.cells (.int .i32 0)) n) 21)) := by
  obtain ⟨i0, hi, hz0, hz1, hz2⟩ := info_parts info21
  have h := run_make w 38 21 i0 (.int .i32 0) Try.underlying38 hi hz0 .i64 .i64 (n : Int) (n : Int) (by omega) (by omega) (by rw [hz2]; omega) (by omega)
  simpa [hz1] using h
/-- 'copy(zzc, src)' into the row just made. -/
theorem run_copy_runes (w : World) (b o n c : Nat) (f : Nat → Int) (hn : n ≤ 1000000) (hR : Rs w b o n f) :
    ∃ W1 W2, (Instr.makeSlice 38 (.int .i64 n) (.int .i64 n)).run Try.prog w = .ok (.slice (some ⟨w.heap.size, 0, none⟩) n n) W1 ∧
      (∀ ty, (Builtin.copy_ #[38, 38] ty #[.slice (some ⟨w.heap.size, 0, none⟩) n n, .slice (some ⟨b, o, none⟩) n c]).run Try.prog W1 = .ok (goInt n) W2) ∧ Rs W2 w.heap.size 0 n f ∧ Kp w.heap.size w W2 := by
  obtain ⟨W1, hW1⟩ : ∃ W1, W1 = w.alloc (.cells (madeCells (Value.cells (.int .i32 0)) n) 21) := ⟨_, rfl⟩
  have hcell : ∀ j, j < n → W1.cell? ⟨w.heap.size, 0 + j, none⟩ = some (.int .i32 0) := by
    intro j hj
    rw [hW1, Nat.zero_add, World.cell?_alloc_new]
    exact made_get21 n j hj
  have hfr : ∀ j, j < n → W1.frozen? ⟨w.heap.size, 0 + j, none⟩ = false := by
    intro j hj
    rw [hW1]
    exact World.frozen?_alloc_new _ _ _ _
  refine ⟨W1, W1.setCells w.heap.size 0 ((List.range n).map fun j => Value.int .i32 (f j)), by rw [hW1]; exact run_make_runes w n hn, fun ty => ?_, fun j hj => ?_, ?_⟩
  · have h := run_copy_cells (P := Try.prog) W1 38 38 ty 21 w.heap.size 0 n n ⟨b, o, none⟩ n c ((List.range n).map fun j => Value.int .i32 (f j)) Try.underlying38 size21 (by simp)
      (by
        intro j v hj
        have hjn : j < n := by
          have := (List.getElem?_eq_some_iff.1 hj).1
          simpa using this
        simp [hjn] at hj
        subst hj
        rw [hW1, WideShapes.add_plain, World.cell?_alloc_lt _ _ _ (by exact hR.lt (by omega))]
        exact hR j hjn)
      (fun j hj => by rw [hcell j (by simpa using hj)]; rfl) (fun j hj => hfr j (by simpa using hj)) (by intro v hv; simp at hv; obtain ⟨a, _, rfl⟩ := hv; rfl)
    simpa using h
  · rw [World.cell?_setCells_in w.heap.size _ 0 W1 (fun i hi => by rw [hcell i (by simpa using hi)]; rfl) j (by simpa using hj)]
    simp
  · exact Kp.setCells _ 0 W1 (by rw [hW1]; exact (Kp.refl _ _).alloc _)

/-- What ZZBounds answers, as four values. -/
def Res (f : Nat → Int) (n p : Nat) (lo hi : ByteArray) (ok : Bool) (q : Int) : Prop :=
  (∃ d, One f n p d ∧ lo = txt f (p + 1) d ∧ hi = txt f (p + 1) d ∧ ok = true ∧ q = ((d + 1 : Nat) : Int)) ∨
  (∃ m d, Two f n p m d ∧ lo = txt f (p + 1) m ∧ hi = txt f (m + 1) d ∧ ok = true ∧ q = ((d + 1 : Nat) : Int)) ∨
  (Non f n p ∧ lo = ⟨#[]⟩ ∧ hi = ⟨#[]⟩ ∧ ok = false ∧ q = (p : Int))
theorem res_of {n p : Nat} {f : Nat → Int} {w w' : World} {e : Ending} (h : ZbPost n p f w e w') : ∃ lo hi ok q, e = .returned (.tuple #[.string lo, .string hi, .bool ok, .int .i64 q]) ∧ Res f n p lo hi ok q ∧ Kp w.heap.size w w' := by
  obtain ⟨h, hK⟩ := h
  rcases h with ⟨d, h1, h2⟩ | ⟨m, d, h1, h2⟩ | ⟨h1, h2⟩
  · exact ⟨_, _, _, _, h2, .inl ⟨d, h1, rfl, rfl, rfl, rfl⟩, hK⟩
  · exact ⟨_, _, _, _, h2, .inr (.inl ⟨m, d, h1, rfl, rfl, rfl, rfl⟩), hK⟩
  · exact ⟨_, _, _, _, h2, .inr (.inr ⟨h1, rfl, rfl, rfl, rfl⟩), hK⟩
theorem Res.non {f : Nat → Int} {n p : Nat} {lo hi : ByteArray} {ok : Bool} {q : Int} (h : Res f n p lo hi ok q) (hs : ∀ s, Shut f n p s → s = p + 1) : lo = ⟨#[]⟩ ∧ hi = ⟨#[]⟩ ∧ ok = false ∧ q = (p : Int) := by
  rcases h with ⟨d, h1, _⟩ | ⟨m, d, h1, _⟩ | ⟨_, h2⟩
  · have := hs d h1.shutAt
    have := h1.lt
    omega
  · have := hs d h1.shutAt
    have := h1.lt
    have := h1.run2.lo
    omega
  · exact h2

set_option maxHeartbeats 2000000 in
theorem law_main (xb xo n c p : Nat) (f : Nat → Int) (w : World) (hn : n ≤ 262144) (hp : p < n) (hR : Rs w xb xo n f) :
    Calls Try.prog 7 #[.slice (some ⟨xb, xo, none⟩) n c, .int .i64 p] w fun e w' => e = .returned (.bool true) ∧ Below w.heap.size w w' := by
  obtain ⟨W1, W2, hmk, hcp, hR2, hK2⟩ := run_copy_runes w xb xo n c f (by omega) hR
  have hB2 : Below w.heap.size w W2 := hK2.below (Nat.le_refl _) (Nat.le_refl _)
  have hnn := fun wx => run_neq_slice_nil_any (P := Try.prog) wx 38 21 (some ⟨xb, xo, none⟩) n c 0 0 Try.underlying38
  have hd1 : decide ((262144 : Int) < (n : Int)) = false := decide_eq_false (by omega)
  have hpi : (p : Int) < (n : Int) := by omega
  have hd0 : decide ((p : Int) < 0) = false := decide_eq_false (by omega)
  go_enter Try.func7, Try.ntmps7
  go_wp2_with fail
  refine (bytes_any _ _ _ _ _ (by unfold maxLen; omega)).mono ?_
  rintro e w' ⟨⟨b, rfl, hb⟩, hw⟩
  obtain rfl := hb hn
  obtain rfl := hw.symm
  clear hw hb
  go_wp2_with fail
  refine (zzbounds_any w.heap.size 0 n n p f W2 (by omega) (Nat.le_refl _) (by unfold maxLen; omega) hp hR2).mono ?_
  intro e w3 hzb
  obtain ⟨lo, hi, ok, q, rfl, hRes, hK3⟩ := res_of hzb
  have hR3 : Rs w3 w.heap.size 0 n f := hR2.kept hK3 (by have := hR2.lt (by omega); omega)
  have hB3 : Below w.heap.size w w3 := hB2.trans (hK3.below hB2.size hB2.size)
  clear hzb hmk hcp hR2 hK2 hB2 hK3 hR
  rcases shut_or f p n with hNo | ⟨s, hS⟩
  · obtain ⟨rfl, rfl, rfl, rfl⟩ := hRes.non (fun s hs => absurd hs.at0 (hNo s hs.lo hs.hi))
    go_wp2_with fail
    go_loop [10, 11] (fun v10 v11 => ∃ e : Nat, p + 1 ≤ e ∧ e ≤ n ∧ v10 = .int .i64 (-1) ∧ v11 = .int .i64 e) (fun _ v => n - (intOf v).toNat)
    case atStart => exact ⟨p + 1, Nat.le_refl _, by omega, rfl, by go_num⟩
    case round =>
      obtain ⟨e, he1, he2, rfl, rfl⟩ := hrel
      by_cases hlt : e < n
      · have hc := hR3 e hlt
        have hne := hNo e he1 hlt
        rw [Nat.zero_add] at hc
        generalize f e = y at hc hne
        have hei : (e : Int) < (n : Int) := by omega
        go_wp2
        go_round
        case rel => exact ⟨e + 1, by omega, by omega, rfl, by go_num⟩
        case measure => simp [intOf]; omega
      · go_wp2
        go_ret
        exact ⟨by rfl, hB3⟩
  · go_wp2_with fail
    go_loop [10, 11] (fun v10 v11 => ∃ e : Nat, p + 1 ≤ e ∧ e ≤ s ∧ v10 = .int .i64 (-1) ∧ v11 = .int .i64 e) (fun _ v => n - (intOf v).toNat)
    case atStart => exact ⟨p + 1, Nat.le_refl _, hS.lo, rfl, by go_num⟩
    case round =>
      obtain ⟨e, he1, he2, rfl, rfl⟩ := hrel
      have hsn := hS.hi
      by_cases hlt : e < s
      · have hc := hR3 e (by omega)
        have hne := hS.first e he1 hlt
        rw [Nat.zero_add] at hc
        generalize f e = y at hc hne
        have hei : (e : Int) < (n : Int) := by omega
        go_wp2
        go_round
        case rel => exact ⟨e + 1, by omega, by omega, rfl, by go_num⟩
        case measure => simp [intOf]; omega
      · obtain rfl : e = s := by omega
        have hc := hR3 e (by omega)
        rw [Nat.zero_add, hS.at0] at hc
        have hei : (e : Int) < (n : Int) := by omega
        by_cases hep : e = p + 1
        · obtain ⟨rfl, rfl, rfl, rfl⟩ := hRes.non (fun s hs => (hS.uniq hs) ▸ hep)
          subst hep
          go_wp2
          go_ret
          exact ⟨by rfl, hB3⟩
        · have hlt2 : p + 1 < e := by omega
          go_wp2_with fail
          go_loop [12, 13, 14] (fun v12 v13 v14 => ∃ i : Nat, p + 1 + i ≤ e ∧ v12 = .bool (wk f p i) ∧ v13 = .int .i64 (cm f p i) ∧ v14 = .int .i64 ((p + 1 + i : Nat) : Int)) (fun _ _ v => e - (intOf v).toNat)
          case atStart => exact ⟨0, by omega, rfl, rfl, by go_num⟩
          case round =>
            obtain ⟨i, hie, rfl, rfl, rfl⟩ := hrel
            by_cases hlt3 : p + 1 + i < e
            · have hc2 := hR3 (p + 1 + i) (by omega)
              rw [Nat.zero_add] at hc2
              have hC1 := cm_lo f p i
              have hC2 := cm_hi f p i
              have HW : Hid (wk f p (i + 1) = if f (p + 1 + i) = 44 then (wk f p i && !decide (0 ≤ cm f p i)) else (wk f p i && isD (f (p + 1 + i)))) := rfl
              have HC : Hid (cm f p (i + 1) = if f (p + 1 + i) = 44 then ((p + 1 + i : Nat) : Int) else cm f p i) := rfl
              generalize wk f p i = W at HW
              generalize cm f p i = C at HW HC hC1 hC2
              generalize f (p + 1 + i) = y at HW HC hc2
              have hidx : (p : Int) + 1 + (i : Int) < (n : Int) := by omega
              have hidx2 : (p : Int) + 1 + (i : Int) < (e : Int) := by omega
              clear hc
              by_cases hy : y = 44
              · subst hy
                by_cases hC : 0 ≤ C
                · go_wp2
                  go_round
                  case rel => exact ⟨i + 1, by omega, by rw [HW.out]; simp [hC], by rw [HC.out]; simp, by go_num⟩
                  case measure => simp [intOf]; omega
                · go_wp2
                  go_round
                  case rel => exact ⟨i + 1, by omega, by rw [HW.out]; simp [hC], by rw [HC.out]; simp, by go_num⟩
                  case measure => simp [intOf]; omega
              · cases hD : isD y with
                | true =>
                  go_wp2_with (go_at_call 26; refine (dec_any _ _).mono ?_; rintro e w' ⟨rfl, hw⟩; obtain rfl := hw.symm; clear hw)
                  go_round
                  case rel => exact ⟨i + 1, by omega, by rw [HW.out]; simp [hy, hD], by rw [HC.out]; simp [hy], by go_num⟩
                  case measure => simp [intOf]; omega
                | false =>
                  go_wp2_with (go_at_call 26; refine (dec_any _ _).mono ?_; rintro e w' ⟨rfl, hw⟩; obtain rfl := hw.symm; clear hw)
                  go_round
                  case rel => exact ⟨i + 1, by omega, by rw [HW.out]; simp [hy, hD], by rw [HC.out]; simp [hy], by go_num⟩
                  case measure => simp [intOf]; omega
            · obtain rfl : i = e - (p + 1) := by omega
              clear hc
              rcases hRes with ⟨d, h1, rfl, rfl, rfl, rfl⟩ | ⟨m, d, h1, rfl, rfl, rfl, rfl⟩ | ⟨h1, rfl, rfl, rfl, rfl⟩
              · obtain rfl := hS.uniq h1.shutAt
                obtain ⟨s1, s2⟩ := h1.scan
                rw [s1, s2]
                have hcut : ∀ j, j < e - (p + 1) → w3.cell? ⟨w.heap.size, p + 1 + j, none⟩ = some (.int .i32 (f (p + 1 + j))) := fun j hj => by
                  have := hR3 (p + 1 + j) (by omega)
                  rwa [Nat.zero_add] at this
                have hdg : ∀ j, j < e - (p + 1) → isD (f (p + 1 + j)) = true := fun j hj => h1.run.all _ (by omega) (by omega)
                go_wp2_with fail
                refine (text_any w.heap.size (p + 1) (p + 1) (e - (p + 1)) _ f w3 (by omega) hcut hdg).mono ?_
                rintro e' w4 ⟨rfl, hK4⟩
                rw [show p + 1 + (e - (p + 1)) = e by omega]
                generalize txt f (p + 1) e = T
                clear s1 s2 hcut hdg
                go_wp2
                go_ret
                exact ⟨rfl, hB3.trans (hK4.below hB3.size hB3.size)⟩
              · obtain rfl := hS.uniq h1.shutAt
                obtain ⟨s1, s2⟩ := h1.scan
                rw [s1, s2]
                have hm1 := h1.lt
                have hm2 := h1.run2.lo
                have hcut : ∀ j, j < m - (p + 1) → w3.cell? ⟨w.heap.size, p + 1 + j, none⟩ = some (.int .i32 (f (p + 1 + j))) := fun j hj => by
                  have := hR3 (p + 1 + j) (by omega)
                  rwa [Nat.zero_add] at this
                have hdg : ∀ j, j < m - (p + 1) → isD (f (p + 1 + j)) = true := fun j hj => h1.run.all _ (by omega) (by omega)
                have hdg2 : ∀ j, j < e - (m + 1) → isD (f (m + 1 + j)) = true := fun j hj => h1.run2.all _ (by omega) (by omega)
                have hmp : ((m : Int) == (p : Int) + 1) = false := beq_eq_false_iff_ne.2 (by omega)
                clear s1 s2
                go_wp2_with fail
                refine (text_any w.heap.size (p + 1) (p + 1) (m - (p + 1)) _ f w3 (by omega) hcut hdg).mono ?_
                rintro e' w4 ⟨rfl, hK4⟩
                have hB4 : Below w.heap.size w w4 := hB3.trans (hK4.below hB3.size hB3.size)
                have hlt4 : w.heap.size < w3.heap.size := hR3.lt (by omega)
                have hcut2 : ∀ j, j < e - (m + 1) → w4.cell? ⟨w.heap.size, m + 1 + j, none⟩ = some (.int .i32 (f (m + 1 + j))) := fun j hj => by
                  have := (hR3.kept hK4 (by omega)) (m + 1 + j) (by omega)
                  rwa [Nat.zero_add] at this
                rw [show p + 1 + (m - (p + 1)) = m by omega]
                generalize txt f (p + 1) m = T
                clear hcut hdg
                go_wp2_with fail
                refine (text_any w.heap.size (m + 1) (m + 1) (e - (m + 1)) _ f w4 (by omega) hcut2 hdg2).mono ?_
                rintro e' w5 ⟨rfl, hK5⟩
                rw [show m + 1 + (e - (m + 1)) = e by omega]
                generalize txt f (m + 1) e = S
                clear hcut2 hdg2
                go_wp2
                go_ret
                exact ⟨rfl, hB4.trans (hK5.below hB4.size hB4.size)⟩
              · cases hW : wk f p (e - (p + 1)) with
                | false =>
                  have hC1 := cm_lo f p (e - (p + 1))
                  generalize cm f p (e - (p + 1)) = C at hC1
                  go_wp2
                  go_ret
                  exact ⟨by rfl, hB3⟩
                | true =>
                  have hC : cm f p (e - (p + 1)) = ((p + 1 : Nat) : Int) := by
                    refine Classical.byContradiction fun hne => ?_
                    exact scan_sound hS hlt2 hW hne h1
                  rw [hC]
                  clear hC
                  go_wp2
                  go_ret
                  exact ⟨by rfl, hB3⟩
end Go.Proofs.Qxb6618085a
