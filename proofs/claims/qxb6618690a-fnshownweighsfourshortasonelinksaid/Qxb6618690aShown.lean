import Derived.Test.Qxb6618690aTally
import Derived.BigRegion
import Derived.RegionTactic
import Derived.Deep.RegionWith
namespace Go.Proofs.Qxb6618690a
open Go.RowKit

/-- A whole struct loaded, as one step of a region that draws. -/
theorem step_load_row {P : Program} {ops : Array Oper} {o : Oper} {a : Act} {w : World} {K : Act → World → Prop} {Q : Exit → Act → World → Prop} {E : Prop}
    (hgd : o.guard = none) (ty : TypeId) (x : Operand) (ho : o.op = .load ty x)
    (g : Nat) (hx : a.eval x = .pointer (some ⟨g, 0, none⟩)) (t : TypeId) (cs : Array Value) (fr : Nat × Nat) (d : TypeDesc) (hg : w.heap[g]? = some (.cells cs t fr))
    (hu : P.underlying ty = some d) (hd : (match d with | .struct _ | .array _ _ => true | _ => false) = true) (hi : (P.info? ty).map (·.size) = some cs.size)
    (h : K (a.put o.dst (.agg cs)) w) : if Region.wanted o (yielded ops a.tmps) = true then Oper.wp P o a w K Q else E := by
  have hw : Region.wanted o (yielded ops a.tmps) = true := by simp [Region.wanted, hgd]
  rw [if_pos hw]
  exact wp_load_row ty x ho g hx t cs fr d hg hu hd hi h

theorem ret_int {k : IntKind} {a b : Int} (h : a = b) : Ending.returned (.int k a) = .returned (.int k b) := by rw [h]

set_option maxHeartbeats 400000 in
theorem shown_any (a s l b : Int) (w : World) (ha : 0 ≤ a) (ha' : a ≤ 1152921504606846976) (hs : 0 ≤ s) (hs' : s ≤ 1152921504606846976) (hl : 0 ≤ l) (hl' : l ≤ 1152921504606846976) :
    Calls Try.prog 22 #[.agg (tal a s l b)] w fun e w' => e = .returned (.int .i64 (max (own a s l) b)) ∧ Below w.heap.size w w' := by
  have HS : Hid _ := fun W => score_any a s l b W ha ha' hs hs' hl hl'
  have hc1 : (w.alloc (.cells (tal a s l b) 38)).cell? ⟨w.heap.size, 23, none⟩ = some (.int .i64 b) := by rw [World.cell?_alloc_new]; rfl
  have hc2 : ((w.alloc (.cells (tal a s l b) 38)).alloc (.cells (tal a s l b) 38)).cell? ⟨w.heap.size, 23, none⟩ = some (.int .i64 b) := by
    rw [World.cell?_alloc_lt _ _ _ (by simp)]; exact hc1
  have hh : (w.alloc (.cells (tal a s l b) 38)).drew.heap[w.heap.size]? = some (.cells (tal a s l b) 38) := heap_alloc_new w _
  go_enter Try.func22, Try.ntmps22
  go_wp2_with fail
  refine wp_region_any (by kernel_rfl) ?_
  change wpAny _ _ _ _ _ _ _ (World.drew _)
  refine wpAny_take (i := 2) (v := ?_) rfl (by kernel_rfl) (by kernel_rfl) (by kernel_rfl) (fun _ _ _ h => h) (Or.inl ⟨by rfl, ?_⟩) ?_
  rotate_left
  · intro w'
    go_simp
    with_reducible rfl
  refine wpAny_ready (rs := [0, 3]) (by kernel_rfl) (by simp) ?_
  refine AllReady.cons rfl (fun K hK => ?_) ?_
  · refine step_load_row rfl 38 (.tmp 1) rfl w.heap.size rfl 38 (tal a s l b) (0, 0) _ hh Try.underlying38 rfl info38 ?_
    refine hK _ _ ?_
    clear hK K
    refine wpAny_ready (rs := [1, 3]) (by kernel_rfl) (by simp) ?_
    refine AllReady.cons rfl (fun K hK => ?_) ?_
    · go_simp
      refine (HS.out _).mono ?_
      rintro e w' ⟨rfl, rfl⟩
      refine hK _ _ ?_
      clear hK K
      refine wpAny_ready (rs := [3]) (by kernel_rfl) (by simp) ?_
      refine AllReady.cons rfl (fun K hK => ?_) AllReady.nil
      go_simp
      refine hK _ _ ?_
      clear hK K
      refine wpAny_ready (rs := [4]) (by kernel_rfl) (by simp) ?_
      refine AllReady.cons rfl (fun K hK => ?_) AllReady.nil
      go_simp
      refine hK _ _ ?_
      clear hK K
      refine wpAny_ready (rs := [5]) (by kernel_rfl) (by simp) ?_
      refine AllReady.cons rfl (fun K hK => ?_) AllReady.nil
      go_simp
      refine hK _ _ ?_
      clear hK K
      refine wpAny_done (by kernel_rfl) ?_ _
      go_wp2
      all_goals
        go_ret
        exact ⟨ret_int (by omega), (((Below.refl _ _).alloc (Nat.le_refl _) _).alloc (by simp) _).drew⟩
    · refine AllReady.cons rfl (fun K hK => ?_) AllReady.nil
      go_simp
      refine hK _ _ ?_
      clear hK K
      refine wpAny_ready (rs := [1]) (by kernel_rfl) (by simp) ?_
      refine AllReady.cons rfl (fun K hK => ?_) AllReady.nil
      go_simp
      refine (HS.out _).mono ?_
      rintro e w' ⟨rfl, rfl⟩
      refine hK _ _ ?_
      clear hK K
      refine wpAny_ready (rs := [4]) (by kernel_rfl) (by simp) ?_
      refine AllReady.cons rfl (fun K hK => ?_) AllReady.nil
      go_simp
      refine hK _ _ ?_
      clear hK K
      refine wpAny_ready (rs := [5]) (by kernel_rfl) (by simp) ?_
      refine AllReady.cons rfl (fun K hK => ?_) AllReady.nil
      go_simp
      refine hK _ _ ?_
      clear hK K
      refine wpAny_done (by kernel_rfl) ?_ _
      go_wp2
      all_goals
        go_ret
        exact ⟨ret_int (by omega), (((Below.refl _ _).alloc (Nat.le_refl _) _).alloc (by simp) _).drew⟩
  · refine AllReady.cons rfl (fun K hK => ?_) AllReady.nil
    go_simp
    refine hK _ _ ?_
    clear hK K
    refine wpAny_ready (rs := [0]) (by kernel_rfl) (by simp) ?_
    refine AllReady.cons rfl (fun K hK => ?_) AllReady.nil
    refine step_load_row rfl 38 (.tmp 1) rfl w.heap.size rfl 38 (tal a s l b) (0, 0) _ hh Try.underlying38 rfl info38 ?_
    refine hK _ _ ?_
    clear hK K
    refine wpAny_ready (rs := [1]) (by kernel_rfl) (by simp) ?_
    refine AllReady.cons rfl (fun K hK => ?_) AllReady.nil
    go_simp
    refine (HS.out _).mono ?_
    rintro e w' ⟨rfl, rfl⟩
    refine hK _ _ ?_
    clear hK K
    refine wpAny_ready (rs := [4]) (by kernel_rfl) (by simp) ?_
    refine AllReady.cons rfl (fun K hK => ?_) AllReady.nil
    go_simp
    refine hK _ _ ?_
    clear hK K
    refine wpAny_ready (rs := [5]) (by kernel_rfl) (by simp) ?_
    refine AllReady.cons rfl (fun K hK => ?_) AllReady.nil
    go_simp
    refine hK _ _ ?_
    clear hK K
    refine wpAny_done (by kernel_rfl) ?_ _
    go_wp2
    all_goals
      go_ret
      exact ⟨ret_int (by omega), (((Below.refl _ _).alloc (Nat.le_refl _) _).alloc (by simp) _).drew⟩
end Go.Proofs.Qxb6618690a
