import Derived.Test.Qxb6618757aProg
import Derived.WalkKit
import Derived.Below
import Derived.OwnWalk
import Derived.WalkSpells
namespace Go.Proofs.Qxb6618757a
open Go.RowKit

/-- A clock in block cb that has ticked k times. -/
structure Ck (w : World) (cb k : Nat) : Prop where
  time : w.cell? ⟨cb, 0, none⟩ = some (.int .u64 k)
  stamp : w.cell? ⟨cb, 1, none⟩ = some (.int .u64 k)
  free0 : w.frozen? ⟨cb, 0, none⟩ = false
  free1 : w.frozen? ⟨cb, 1, none⟩ = false

theorem new_any (w : World) : Calls Try.prog 5 #[] w fun e w' => e = .returned (.pointer (some ⟨w.heap.size, 0, none⟩)) ∧ w' = w.alloc (.cells #[.int .u64 0, .int .u64 0] 33) := by
  go_enter Try.func5, Try.ntmps5
  go_wp2
  go_ret
  exact ⟨rfl, rfl⟩

theorem stamp_any (cb k : Nat) (w : World) (h : Ck w cb k) : Calls Try.prog 6 #[.pointer (some ⟨cb, 0, none⟩)] w fun e w' => e = .returned (.int .u64 k) ∧ w = w' := by
  obtain ⟨h1, h2, h3, h4⟩ := h
  go_enter Try.func6, Try.ntmps6
  go_wp2
  go_ret
  exact ⟨rfl, rfl⟩

/-- What a tick does to the world. -/
def ticked (w : World) (cb k : Nat) : World := (w.setCell ⟨cb, 0, none⟩ (.int .u64 ((k : Int) + 1))).setCell ⟨cb, 1, none⟩ (.int .u64 ((k : Int) + 1))
theorem tick9_any (cb k : Nat) (w : World) (h : Ck w cb k) (hk : k ≤ 1000000) : Calls Try.prog 9 #[.pointer (some ⟨cb, 0, none⟩)] w fun e w' => e = .returned (.tuple #[]) ∧ w' = ticked w cb k := by
  obtain ⟨h1, h2, h3, h4⟩ := h
  go_enter Try.func9, Try.ntmps9
  go_wp2
  go_end0
  exact ⟨rfl, rfl⟩
theorem tick_any (cb k : Nat) (w : World) (h : Ck w cb k) (hk : k ≤ 1000000) : Calls Try.prog 7 #[.pointer (some ⟨cb, 0, none⟩)] w fun e w' => e = .returned (.tuple #[]) ∧ w' = ticked w cb k := by
  go_enter Try.func7, Try.ntmps7
  go_wp2_with (go_at_call 9; refine (tick9_any cb k _ h hk).mono ?_; rintro e w' ⟨rfl, rfl⟩)
  go_end0
  exact ⟨rfl, rfl⟩

theorem Ck.ticked {w : World} {cb k : Nat} (h : Ck w cb k) : Ck (ticked w cb k) cb (k + 1) := by
  have e : ((k + 1 : Nat) : Int) = (k : Int) + 1 := by omega
  refine ⟨?_, ?_, by unfold Qxb6618757a.ticked; rw [World.frozen?_setCell, World.frozen?_setCell]; exact h.free0, by unfold Qxb6618757a.ticked; rw [World.frozen?_setCell, World.frozen?_setCell]; exact h.free1⟩
  · unfold Qxb6618757a.ticked
    rw [World.cell?_setCell_other _ _ _ _ (by intro q; injection q; omega), e]
    exact World.cell?_setCell_same _ _ _ h.time
  · unfold Qxb6618757a.ticked
    rw [e]
    exact World.cell?_setCell_same _ _ (u := .int .u64 k) _ (by rw [World.cell?_setCell_other _ _ _ _ (by intro q; injection q; omega)]; exact h.stamp)
theorem Ck.other {w : World} {cb k cb' k' : Nat} (h : Ck w cb k) (hne : cb ≠ cb') : Ck (Qxb6618757a.ticked w cb' k') cb k := by
  have hc : ∀ o, (Qxb6618757a.ticked w cb' k').cell? ⟨cb, o, none⟩ = w.cell? ⟨cb, o, none⟩ := fun o => by
    unfold Qxb6618757a.ticked
    rw [World.cell?_setCell_other _ _ _ _ (by intro q; injection q with q; exact hne q.symm), World.cell?_setCell_other _ _ _ _ (by intro q; injection q with q; exact hne q.symm)]
  have hf : ∀ o, (Qxb6618757a.ticked w cb' k').frozen? ⟨cb, o, none⟩ = w.frozen? ⟨cb, o, none⟩ := fun o => by
    unfold Qxb6618757a.ticked
    rw [World.frozen?_setCell, World.frozen?_setCell]
  exact ⟨(hc 0).trans h.time, (hc 1).trans h.stamp, (hf 0).trans h.free0, (hf 1).trans h.free1⟩
theorem below_ticked {B : Nat} {u w : World} (h : Below B u w) (cb k : Nat) (hb : B ≤ cb) : Below B u (ticked w cb k) := (h.setCell (p := ⟨cb, 0, none⟩) hb _).setCell (p := ⟨cb, 1, none⟩) hb _

theorem bytes_any (a : Option Addr) (n c : Nat) (w : World) (hn : n ≤ maxLen) : Calls Try.prog 8 #[.slice a n c] w fun e w' => (∃ b, e = .returned (.bool b) ∧ (n ≤ 65536 → b = true)) ∧ w' = w := by
  unfold maxLen at hn
  by_cases h1 : n ≤ 1048576
  · go_enter Try.func8, Try.ntmps8
    go_wp2
    go_ret
    exact ⟨⟨_, rfl, fun _ => rfl⟩, rfl⟩
  · go_enter Try.func8, Try.ntmps8
    go_wp2
    go_ret
    exact ⟨⟨_, rfl, fun h => by omega⟩, rfl⟩

theorem law_early (a : Option Addr) (n c : Nat) (w : World) (hn : n ≤ maxLen) (h : ¬ n ≤ 65536) : Calls Try.prog 4 #[.slice a n c] w fun e w' => e = .returned (.bool true) ∧ w' = w := by
  have hm := hn
  unfold maxLen at hm
  go_enter Try.func4, Try.ntmps4
  go_wp2_with (go_at_call 8; refine (bytes_any _ _ _ _ hn).mono ?_; rintro e w' ⟨⟨b, rfl, hb⟩, rfl⟩)
  all_goals (go_ret; exact ⟨rfl, rfl⟩)

set_option maxHeartbeats 1000000 in
theorem law_main (a : Option Addr) (n c : Nat) (B : Nat → Bool) (w : World) (hn : n ≤ 65536) (hR : n ≠ 0 → ∃ b o, a = some ⟨b, o, none⟩ ∧ ∀ j, j < n → w.cell? ⟨b, o + j, none⟩ = some (.bool (B j))) :
    Calls Try.prog 4 #[.slice a n c] w fun e w' => e = .returned (.bool true) ∧ Below w.heap.size w w' := by
  have hd : decide ((65536 : Int) < (n : Int)) = false := decide_eq_false (by omega)
  have hC1 : Ck ((w.alloc (.cells #[.int .u64 0, .int .u64 0] 33)).alloc (.cells #[.int .u64 0, .int .u64 0] 33)) w.heap.size 0 := by
    refine ⟨?_, ?_, ?_, ?_⟩
    · rw [World.cell?_alloc_lt _ _ _ (by simp), World.cell?_alloc_new]; rfl
    · rw [World.cell?_alloc_lt _ _ _ (by simp), World.cell?_alloc_new]; rfl
    · rw [World.frozen?_alloc_old _ _ _ (by simp)]; exact World.frozen?_alloc_new _ _ _ _
    · rw [World.frozen?_alloc_old _ _ _ (by simp)]; exact World.frozen?_alloc_new _ _ _ _
  have hC2 : Ck ((w.alloc (.cells #[.int .u64 0, .int .u64 0] 33)).alloc (.cells #[.int .u64 0, .int .u64 0] 33)) (w.heap.size + 1) 0 := by
    have e : w.heap.size + 1 = (w.alloc (.cells #[.int .u64 0, .int .u64 0] 33)).heap.size := by simp
    rw [e]
    refine ⟨?_, ?_, World.frozen?_alloc_new _ _ _ _, World.frozen?_alloc_new _ _ _ _⟩
    · rw [World.cell?_alloc_new]; rfl
    · rw [World.cell?_alloc_new]; rfl
  have hB0 : Below w.heap.size w ((w.alloc (.cells #[.int .u64 0, .int .u64 0] 33)).alloc (.cells #[.int .u64 0, .int .u64 0] 33)) := ((Below.refl _ _).alloc (Nat.le_refl _) _).alloc (by simp) _
  go_enter Try.func4, Try.ntmps4
  go_wp2_with fail
  refine (bytes_any _ _ _ _ (by unfold maxLen; omega)).mono ?_
  rintro e w' ⟨⟨b, rfl, hb⟩, hw⟩
  obtain rfl := hb hn
  obtain rfl := hw.symm
  clear hw hb
  go_wp2_with fail
  refine (new_any w).mono ?_
  rintro e w1 ⟨rfl, rfl⟩
  go_wp2_with fail
  refine (new_any _).mono ?_
  rintro e w2 ⟨rfl, rfl⟩
  go_wp2_with fail
  go_loopw [5, 6, 7] (fun v5 v6 v7 wr => ∃ x y k : Nat, x + y = k ∧ k ≤ n ∧ v5 = .int .u64 x ∧ v6 = .int .u64 y ∧ v7 = .int .i64 k ∧ Ck wr w.heap.size x ∧ Ck wr (w.heap.size + 1) y ∧ Below w.heap.size w wr) (fun _ _ v7 _ => n - (intOf v7).toNat)
  case atStart => exact ⟨0, 0, 0, rfl, Nat.zero_le _, rfl, rfl, rfl, hC1, hC2, hB0⟩
  case round =>
    obtain ⟨x, y, k, hxy, hk, rfl, rfl, rfl, h1, h2, hB⟩ := hrel
    have hx : x ≤ k := by omega
    have hy : y ≤ k := by omega
    have HXY : Hid (x + y = k) := hxy
    clear hxy hC1 hC2 hB0
    by_cases hlt : k < n
    · obtain ⟨b, o, rfl, hc⟩ := hR (by omega)
      have h0 := hc k hlt
      have hcell : wr.cell? ⟨b, o + k, none⟩ = some (.bool (B k)) := (hB.cell (World.block_lt_of_cell? w _ h0)).trans h0
      have hki : (k : Int) < (n : Int) := by omega
      clear h0 hc
      cases hBk : B k with
      | true =>
        rw [hBk] at hcell
        go_wp2_with fail
        refine (tick_any w.heap.size x wr h1 (by omega)).mono ?_
        rintro e w3 ⟨rfl, rfl⟩
        have h1' := h1.ticked
        have h2' : Ck (ticked wr w.heap.size x) (w.heap.size + 1) y := h2.other (by omega)
        have hB' := below_ticked hB w.heap.size x (Nat.le_refl _)
        generalize ticked wr w.heap.size x = w3 at h1' h2' hB' ⊢
        clear hcell h1 h2 hB
        go_wp2_with fail
        refine (stamp_any w.heap.size (x + 1) w3 h1').mono ?_
        rintro e w4 ⟨rfl, rfl⟩
        go_wp2_with fail
        refine (stamp_any (w.heap.size + 1) y w3 h2').mono ?_
        rintro e w4 ⟨rfl, rfl⟩
        go_wp2
        go_roundw
        case rel => exact ⟨x + 1, y, k + 1, by have := HXY.out; omega, by omega, by go_num, rfl, by go_num, h1', h2', hB'⟩
        case measure => simp [intOf]; omega
      | false =>
        rw [hBk] at hcell
        go_wp2_with fail
        refine (tick_any (w.heap.size + 1) y wr h2 (by omega)).mono ?_
        rintro e w3 ⟨rfl, rfl⟩
        have h2' := h2.ticked
        have h1' : Ck (ticked wr (w.heap.size + 1) y) w.heap.size x := h1.other (by omega)
        have hB' := below_ticked hB (w.heap.size + 1) y (by omega)
        generalize ticked wr (w.heap.size + 1) y = w3 at h1' h2' hB' ⊢
        clear hcell h1 h2 hB
        go_wp2_with fail
        refine (stamp_any w.heap.size x w3 h1').mono ?_
        rintro e w4 ⟨rfl, rfl⟩
        go_wp2_with fail
        refine (stamp_any (w.heap.size + 1) (y + 1) w3 h2').mono ?_
        rintro e w4 ⟨rfl, rfl⟩
        go_wp2
        go_roundw
        case rel => exact ⟨x, y + 1, k + 1, by have := HXY.out; omega, by omega, rfl, by go_num, by go_num, h1', h2', hB'⟩
        case measure => simp [intOf]; omega
    · go_wp2
      go_ret
      exact ⟨rfl, hB⟩
end Go.Proofs.Qxb6618757a
