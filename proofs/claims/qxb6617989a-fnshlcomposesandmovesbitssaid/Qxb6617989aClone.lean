import Derived.Test.Qxb6617989aProg
import Derived.Test.Qxb6617989aMem
import Derived.WalkKit
import Derived.OwnWalk
import Derived.WalkSpells
namespace Go.Proofs.Qxb6617989a
open Go.RowKit Plain

theorem info27 : (Try.prog.info? 27).map (fun i => (i.zero, i.size, i.bytes)) = some (some (.int .u64 0), 1, 8) := by kernel_rfl
theorem size27 : (Try.prog.info? 27).map (·.size) = some 1 := by kernel_rfl

/-- What 'make([]uint64, n)' lays: zero words. -/
theorem made_get (n j : Nat) (h : j < n) : (madeCells (Value.cells (.int .u64 0)) n)[j]? = some (.int .u64 ((0 : Nat) : Int)) := by
  simp [madeCells, Value.cells, h]
  simp [Nat.mod_one]

theorem run_make_words (w : World) (n : Nat) (hn : n ≤ 1000000) :
    (Instr.makeSlice 22 (.int .i64 n) (.int .i64 n)).run Try.prog w = .ok (.slice (some ⟨w.heap.size, 0, none⟩) n n) (w.alloc (.cells (madeCells (Value.cells (.int .u64 0)) n) 27)) := by
  obtain ⟨i0, hi, hz0, hz1, hz2⟩ := info_parts info27
  have h := run_make w 22 27 i0 (.int .u64 0) Try.underlying22 hi hz0 .i64 .i64 (n : Int) (n : Int) (by omega) (by omega) (by rw [hz2]; omega) (by omega)
  simpa [hz1] using h

theorem clone_nil (w : World) : Calls Try.prog 6 #[.slice none 0 0] w fun e w' => e = .returned (.slice none 0 0) ∧ w' = w := by
  have he := fun wx => Lib.run_eql_slice_nil (P := Try.prog) wx 22 27 none 0 0 0 0 Try.underlying22
  go_enter Try.func6, Try.ntmps6
  go_wp2
  go_ret
  exact ⟨rfl, rfl⟩

theorem clone_some (x : Addr) (n c : Nat) (f : Nat → Nat) (w : World) (hn : n ≤ 1000000) (hcell : ∀ j, j < n → w.cell? (x.add j) = some (.int .u64 (f j))) :
    Calls Try.prog 6 #[.slice (some x) n c] w fun e w' => e = .returned (.slice (some ⟨w.heap.size, 0, none⟩) n n) ∧ Rw w' w.heap.size 0 n f ∧ Kp w.heap.size w w' ∧ w.heap.size < w'.heap.size := by
  have hmk := run_make_words w n hn
  obtain ⟨W1, hW1⟩ : ∃ W1, W1 = w.alloc (.cells (madeCells (Value.cells (.int .u64 0)) n) 27) := ⟨_, rfl⟩
  have hR : Rw W1 w.heap.size 0 n (fun _ => 0) := by rw [hW1]; exact Rw.new w _ 27 n _ (fun j hj => made_get n j hj)
  have hK : Kp w.heap.size w W1 := by rw [hW1]; exact (Kp.refl _ _).alloc _
  have hS : w.heap.size < W1.heap.size := by rw [hW1]; simp
  have hcp : ∀ ty, (Builtin.copy_ #[22, 22] ty #[.slice (some ⟨w.heap.size, 0, none⟩) n n, .slice (some x) n c]).run Try.prog W1 = .ok (goInt n) (W1.setCells w.heap.size 0 ((List.range n).map fun j => Value.int .u64 (f j))) := by
    intro ty
    have h := run_copy_cells (P := Try.prog) W1 22 22 ty 27 w.heap.size 0 n n x n c ((List.range n).map fun j => Value.int .u64 (f j)) Try.underlying22 size27 (by simp)
      (by
        intro j v hj
        have hjn : j < n := by
          have := (List.getElem?_eq_some_iff.1 hj).1
          simpa using this
        simp [hjn] at hj
        subst hj
        rw [hW1, World.cell?_alloc_lt _ _ _ (by simpa [Addr.add] using World.block_lt_of_cell? w _ (hcell j hjn))]
        exact hcell j hjn)
      (fun j hj => by rw [(hR j (by simpa using hj)).1]; rfl) (fun j hj => (hR j (by simpa using hj)).2) (by intro v hv; simp at hv; obtain ⟨a, _, rfl⟩ := hv; rfl)
    simpa using h
  have hR2 : Rw (W1.setCells w.heap.size 0 ((List.range n).map fun j => Value.int .u64 (f j))) w.heap.size 0 n f := (hR.setCells f n (Nat.le_refl _)).congr (fun j hj => ovr_lt _ _ hj)
  have hK2 := Kp.setCells ((List.range n).map fun j => Value.int .u64 (f j)) 0 W1 hK
  have hS2 := hK2.size
  have hS3 : ∀ (vs : List Value) (o : Nat) (v : World), (v.setCells w.heap.size o vs).heap.size = v.heap.size := by
    intro vs
    induction vs with
    | nil => intro o v; rfl
    | cons a r ih => intro o v; show ((v.setCell _ _).setCells _ _ _).heap.size = _; rw [ih]; simp
  have hS4 := hS3 ((List.range n).map fun j => Value.int .u64 (f j)) 0 W1
  generalize W1.setCells w.heap.size 0 ((List.range n).map fun j => Value.int .u64 (f j)) = W2 at hcp hR2 hK2 hS4
  rw [← hW1] at hmk
  clear hS3 hR hK hcell hS2
  have HW1 : Hid _ := hW1
  clear hW1
  have he := fun wx => Lib.run_eql_slice_nil (P := Try.prog) wx 22 27 (some x) n c 0 0 Try.underlying22
  go_enter Try.func6, Try.ntmps6
  go_wp2
  go_ret
  exact ⟨rfl, hR2, hK2, by omega⟩
end Go.Proofs.Qxb6617989a
