import Derived.Test.Qxb6617989aClone
import Derived.Lib.AppendZerosOnto
import Derived.Lib.SliceRun
namespace Go.Proofs.Qxb6617989a
open Go.RowKit Plain

theorem growslice_ok {need old : Nat} (h : need * 8 ≤ 140737488355328) (hlt : old < need) : Builtin.nextslicecap need old * 8 ≤ 281474976710656 := by
  have := growslice_fits (need := need) (old := old) (bytes := 8) hlt h
  exact this

/-- What slices.Grow leaves. -/
def GrowPost (blk n k : Nat) (f : Nat → Nat) (w : World) (e : Ending) (w' : World) : Prop :=
  ∃ b1 o1 c1 g, e = .returned (.slice (some ⟨b1, o1, none⟩) n c1) ∧ n + k ≤ c1 ∧ c1 ≤ maxLen ∧ Rw w' b1 o1 c1 g ∧ (∀ j, j < n → g j = f j) ∧ Kp blk w w' ∧ (b1 = blk ∨ w.heap.size ≤ b1)

theorem zeroCells_get (n j : Nat) (h : j < n) : (Builtin.zeroCells (Value.cells (.int .u64 0)) n)[j]? = some (.int .u64 ((0 : Nat) : Int)) := by
  simp [Builtin.zeroCells, Value.cells, h]
  simp [Nat.mod_one]
theorem zeroCells_size (n : Nat) : (Builtin.zeroCells (Value.cells (.int .u64 0)) n).size = n := by
  simp [Builtin.zeroCells, Value.cells]

set_option maxHeartbeats 400000 in
/-- 'slices.Grow(z, k)': room for k more words; what z holds stands. -/
theorem grow_any (blk off n c k : Nat) (f : Nat → Nat) (w : World) (hn : n ≤ c) (hc : c ≤ maxLen) (hk : n + k ≤ 1000000) (hR : Rw w blk off c f) :
    Calls Try.prog 14 #[.slice (some ⟨blk, off, none⟩) n c, .int .i64 k] w fun e w' => GrowPost blk n k f w e w' := by
  have hc' := hc
  unfold maxLen at hc
  have h1 : ¬ ((k : Int) < 0) := by omega
  by_cases hroom : n + k ≤ c
  · have h4 : ¬ ((k : Int) - ((c : Int) - (n : Int)) > 0) := by omega
    go_enter Try.func14, Try.ntmps14
    go_wp2
    go_ret
    exact ⟨blk, off, c, f, rfl, hroom, hc', hR, fun _ _ => rfl, Kp.refl _ _, .inl rfl⟩
  · have h4 : (k : Int) - ((c : Int) - (n : Int)) > 0 := by omega
    obtain ⟨i0, hi, hz0, hz1, hz2⟩ := info_parts info27
    have hcs : ∀ j v, ((List.range c).map fun j => Value.int .u64 (f j))[j]? = some v → w.cell? ((⟨blk, off, none⟩ : Addr).add j) = some v := by
      intro j v hj
      have hjn : j < c := by
        have := (List.getElem?_eq_some_iff.1 hj).1
        simpa using this
      simp [hjn] at hj
      subst hj
      rw [WideShapes.add_plain]; exact (hR j hjn).1
    have hold : (Builtin.firstCells i0.size c (.slice (some ⟨blk, off, none⟩) c c)).run Try.prog w.drew = .ok ((List.range c).map fun j => Value.int .u64 (f j)).toArray w.drew :=
      run_firstCells_some w.drew i0.size c ⟨blk, off, none⟩ c c _ (by simp [hz1]) (fun j v hj => hcs j v hj)
    have hGn := grownCap_ge w (n + k) c 27
    have hG63 := grownCap_le_maxLen w (n + k) c 27 (by unfold maxLen; omega)
    have hrz : ∀ ty, (Builtin.append_ #[31, 3] ty #[.slice (some ⟨blk, off, none⟩) c c, .int .i64 ((k : Int) - ((c : Int) - (n : Int)))]).run Try.prog w =
        .ok (.slice (some ⟨w.heap.size, 0, none⟩) (n + k) (grownCap w (n + k) c 27)) ((w.drew).alloc (.cells (((List.range c).map fun j => Value.int .u64 (f j)).toArray ++ Builtin.zeroCells (Value.cells (.int .u64 0)) (n + k - c) ++ Builtin.zeroCells (Value.cells (.int .u64 0)) (grownCap w (n + k) c 27 - (n + k))) 27)) := fun ty => by
      have h := Lib.run_append_grow_zeros w 31 3 ty 27 i0 (.int .u64 0) .i64 .i64 Try.underlying31 Try.underlying3 hi hz0 (some ⟨blk, off, none⟩) c c _ hold (n + k - c) (by omega) (by omega) (by omega) (by omega)
        (by rw [hz2]; omega) (by rw [hz2, show c + (n + k - c) = n + k by omega]; exact growslice_ok (by omega) (by omega))
      rw [show c + (n + k - c) = n + k by omega] at h
      rw [show (k : Int) - ((c : Int) - (n : Int)) = ((n + k - c : Nat) : Int) by omega]
      exact h
    generalize hG : grownCap w (n + k) c 27 = G at hrz hGn hG63
    have hRn : Rw ((w.drew).alloc (.cells (((List.range c).map fun j => Value.int .u64 (f j)).toArray ++ Builtin.zeroCells (Value.cells (.int .u64 0)) (n + k - c) ++ Builtin.zeroCells (Value.cells (.int .u64 0)) (G - (n + k))) 27)) w.heap.size 0 G (ovr f c (fun _ => 0)) := by
      refine Rw.new w.drew _ 27 G _ (fun j hj => ?_)
      simp only [Array.getElem?_append, Array.size_append, zeroCells_size, List.size_toArray, List.length_map, List.length_range]
      by_cases h1 : j < c
      · rw [ovr_lt _ _ h1]; simp [h1, show j < c + (n + k - c) by omega]
      · rw [ovr_ge _ _ h1]
        by_cases h2 : j < c + (n + k - c)
        · rw [if_pos h2, if_neg h1]; exact zeroCells_get _ _ (by omega)
        · rw [if_neg h2]; exact zeroCells_get _ _ (by omega)
    have hKn : Kp blk w ((w.drew).alloc (.cells (((List.range c).map fun j => Value.int .u64 (f j)).toArray ++ Builtin.zeroCells (Value.cells (.int .u64 0)) (n + k - c) ++ Builtin.zeroCells (Value.cells (.int .u64 0)) (G - (n + k))) 27)) := ((Kp.refl _ _).drew).alloc _
    generalize (w.drew).alloc (.cells (((List.range c).map fun j => Value.int .u64 (f j)).toArray ++ Builtin.zeroCells (Value.cells (.int .u64 0)) (n + k - c) ++ Builtin.zeroCells (Value.cells (.int .u64 0)) (G - (n + k))) 27) = W2 at hrz hRn hKn
    have hGm := hG63
    unfold maxLen at hG63
    clear hG hold hcs
    go_enter Try.func14, Try.ntmps14
    go_wp2_with (at_builtin; refine Lib.wpList_append_run _ rfl _ _ _ _ rfl _ _ rfl rfl _ _ (hrz _) ?_)
    go_ret
    exact ⟨w.heap.size, 0, G, _, rfl, hGn, hGm, hRn, fun j hj => ovr_lt _ _ (by omega), hKn, .inr (Nat.le_refl _)⟩
end Go.Proofs.Qxb6617989a
