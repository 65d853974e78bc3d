import Derived.Test.Qxb6618690aShown
namespace Go.Proofs.Qxb6618690a
open Go.RowKit

set_option maxHeartbeats 400000 in
theorem callShown_any (a s l b : Int) (w : World) (ha : 0 ≤ a) (ha' : a ≤ 1152921504606846976) (hs : 0 ≤ s) (hs' : s ≤ 1152921504606846976) (hl : 0 ≤ l) (hl' : l ≤ 1152921504606846976) :
    Calls Try.prog 18 #[.agg (tal a s l b)] w fun e w' => e = .returned (.int .i64 (max (own a s l) b)) ∧ Below w.heap.size w w' := by
  have hh : (w.alloc (.cells (tal a s l b) 38)).heap[w.heap.size]? = some (.cells (tal a s l b) 38) := heap_alloc_new w _
  go_enter Try.func18, Try.ntmps18
  go_wp2_with (first
    | (refine wpList_load_row rfl 38 (.tmp 1) rfl w.heap.size rfl 38 (tal a s l b) (0, 0) _ hh Try.underlying38 rfl info38 ?_)
    | (go_at_call 22; refine (shown_any a s l b _ ha ha' hs hs' hl hl').mono ?_; rintro e w' ⟨rfl, hb⟩))
  go_ret
  have hb' := ((Below.refl w.heap.size w).alloc (Nat.le_refl _) (.cells (tal a s l b) 38)).trans (hb.mono (by simp))
  exact ⟨rfl, hb'⟩

set_option maxHeartbeats 400000 in
theorem shownOf_any (a s l b : Int) (w : World) (ha : 0 ≤ a) (ha' : a ≤ 1152921504606846976) (hs : 0 ≤ s) (hs' : s ≤ 1152921504606846976) (hl : 0 ≤ l) (hl' : l ≤ 1152921504606846976) :
    Calls Try.prog 8 #[.int .i64 a, .int .i64 s, .int .i64 l, .int .i64 b] w fun e w' => e = .returned (.int .i64 (max (own a s l) b)) ∧ Below w.heap.size w w' := by
  go_enter Try.func8, Try.ntmps8
  go_wp2_with (first
    | (go_at_call 19; refine (tally_any a s l b _).mono ?_; rintro e w' ⟨rfl, rfl⟩)
    | (go_at_call 18; refine (callShown_any a s l b _ ha ha' hs hs' hl hl').mono ?_; rintro e w' ⟨rfl, hb⟩))
  go_ret
  have hb' := ((Below.refl w.heap.size w).alloc (Nat.le_refl _) (.cells (tal a s l b) 38)).trans (hb.mono (by simp))
  exact ⟨rfl, hb'⟩

set_option maxHeartbeats 400000 in
theorem shownIs_any (a s l b r : Int) (w : World) (ha : 0 ≤ a) (ha' : a ≤ 1152921504606846976) (hs : 0 ≤ s) (hs' : s ≤ 1152921504606846976) (hl : 0 ≤ l) (hl' : l ≤ 1152921504606846976)
    (hb : -1152921504606846976 ≤ b) (hb' : b ≤ 1152921504606846976) (hr : r = max (own a s l) b) :
    Calls Try.prog 9 #[.int .i64 a, .int .i64 s, .int .i64 l, .int .i64 b, .int .i64 r] w fun e w' => e = .returned (.bool true) ∧ w' = w := by
  have h1 : ¬ r < b := by omega
  have hq : 4 * (a - l - r) ≤ s := by unfold own at hr; omega
  have hlo : -1152921504606846976 - 1152921504606846976 ≤ r := by omega
  have hhi : r ≤ 1152921504606846976 := by unfold own at hr; omega
  by_cases he : r = b
  · subst he
    clear hr
    go_enter Try.func9, Try.ntmps9
    go_wp2
    go_ret
    exact ⟨rfl, rfl⟩
  · have hq2 : s < 4 * (a - l - r) + 4 := by unfold own at hr; omega
    clear hr
    go_enter Try.func9, Try.ntmps9
    go_wp2
    go_ret
    exact ⟨rfl, rfl⟩

/-- The counts that the law speaks of. -/
def Inside (a s l b d : Int) : Prop := 0 ≤ a ∧ a ≤ 72057594037927936 ∧ 0 ≤ s ∧ s ≤ 72057594037927936 ∧ 0 ≤ l ∧ l ≤ 72057594037927936 ∧ -144115188075855872 ≤ b ∧ b ≤ 144115188075855872 ∧ 0 ≤ d ∧ d ≤ 18014398509481984

set_option maxHeartbeats 2000000 in
theorem law1_early (a s l b d : Int) (w : World) (h : ¬ Inside a s l b d) : Calls Try.prog 3 #[.int .i64 a, .int .i64 s, .int .i64 l, .int .i64 b, .int .i64 d] w fun e w' => e = .returned (.bool true) ∧ w' = w := by
  unfold Inside at h
  by_cases h0 : a < 0
  · go_enter Try.func3, Try.ntmps3
    go_wp2
    go_ret
    exact ⟨rfl, rfl⟩
  by_cases h1 : s < 0
  · go_enter Try.func3, Try.ntmps3
    go_wp2
    go_ret
    exact ⟨rfl, rfl⟩
  by_cases h2 : l < 0
  · go_enter Try.func3, Try.ntmps3
    go_wp2
    go_ret
    exact ⟨rfl, rfl⟩
  by_cases h3 : 72057594037927936 < a
  · go_enter Try.func3, Try.ntmps3
    go_wp2
    go_ret
    exact ⟨rfl, rfl⟩
  by_cases h4 : 72057594037927936 < s
  · go_enter Try.func3, Try.ntmps3
    go_wp2
    go_ret
    exact ⟨rfl, rfl⟩
  by_cases h5 : 72057594037927936 < l
  · go_enter Try.func3, Try.ntmps3
    go_wp2
    go_ret
    exact ⟨rfl, rfl⟩
  by_cases h6 : b < -144115188075855872
  · go_enter Try.func3, Try.ntmps3
    go_wp2
    go_ret
    exact ⟨rfl, rfl⟩
  by_cases h7 : 144115188075855872 < b
  · go_enter Try.func3, Try.ntmps3
    go_wp2
    go_ret
    exact ⟨rfl, rfl⟩
  by_cases h8 : d < 0
  · go_enter Try.func3, Try.ntmps3
    go_wp2
    go_ret
    exact ⟨rfl, rfl⟩
  by_cases h9 : 18014398509481984 < d
  · go_enter Try.func3, Try.ntmps3
    go_wp2
    go_ret
    exact ⟨rfl, rfl⟩
  exact absurd h (by omega)

set_option maxHeartbeats 2000000 in
theorem law1_main (a s l b d : Int) (w : World) (h : Inside a s l b d) : Calls Try.prog 3 #[.int .i64 a, .int .i64 s, .int .i64 l, .int .i64 b, .int .i64 d] w fun e w' => e = .returned (.bool true) ∧ Below w.heap.size w w' := by
  obtain ⟨h0, h1, h2, h3, h4, h5, h6, h7, h8, h9⟩ := h
  have hw : (s + 4 * d) / 4 = s / 4 + d := by omega
  have HA : Hid (max (own a (s + 4 * d) l) b = max (own a s (l + d)) b) := (by unfold own; rw [hw]; congr 1; omega : max (own a (s + 4 * d) l) b = max (own a s (l + d)) b)
  have hR : -144115188075855872 - 144115188075855872 ≤ max (own a s l) b ∧ max (own a s l) b ≤ 144115188075855872 := by unfold own; omega
  have hAb : -288230376151711744 ≤ max (own a s (l + d)) b ∧ max (own a s (l + d)) b ≤ 144115188075855872 := by unfold own; omega
  have hle : max (own a s (l + d)) b ≤ max (own a s l) b := by unfold own; omega
  have hge : max (own a s l) b - d ≤ max (own a s (l + d)) b := by unfold own; omega
  clear hw
  go_enter Try.func3, Try.ntmps3
  go_wp2_with fail
  refine (shownOf_any a s l b w (by omega) (by omega) (by omega) (by omega) (by omega) (by omega)).mono ?_
  rintro e w1 ⟨rfl, hb1⟩
  generalize hr : max (own a s l) b = r at hR hle hge ⊢
  have HR : Hid (max (own a s l) b = r) := hr
  clear hr
  go_wp2_with fail
  refine (shownOf_any a (s + 4 * d) l b w1 (by omega) (by omega) (by omega) (by omega) (by omega) (by omega)).mono ?_
  rintro e w2 ⟨rfl, hb2⟩
  rw [HA.out]
  generalize hv : max (own a s (l + d)) b = v at hAb hle hge ⊢
  have HV : Hid (max (own a s (l + d)) b = v) := hv
  clear hv
  go_wp2_with fail
  refine (shownOf_any a s (l + d) b w2 (by omega) (by omega) (by omega) (by omega) (by omega) (by omega)).mono ?_
  rintro e w3 ⟨rfl, hb3⟩
  rw [HV.out]
  obtain ⟨hR1, hR2⟩ := hR
  obtain ⟨hA1, hA2⟩ := hAb
  have hB3 : Below w.heap.size w w3 := (hb1.trans (hb2.mono hb1.size)).trans (hb3.mono (Nat.le_trans hb1.size hb2.size))
  go_wp2_with fail
  refine (shownIs_any a s l b r w3 (by omega) (by omega) (by omega) (by omega) (by omega) (by omega) (by omega) (by omega) HR.out.symm).mono ?_
  rintro e w4 ⟨rfl, hw⟩
  obtain rfl := hw.symm
  clear hw
  go_wp2_with fail
  refine (shownIs_any a s (l + d) b v w3 (by omega) (by omega) (by omega) (by omega) (by omega) (by omega) (by omega) (by omega) HV.out.symm).mono ?_
  rintro e w4 ⟨rfl, hw⟩
  obtain rfl := hw.symm
  clear hw
  go_wp2
  go_ret
  exact ⟨rfl, hB3⟩
end Go.Proofs.Qxb6618690a
