import Derived.Test.Qxb6618690aProg
import Derived.WalkKit
import Derived.Below
import Derived.OwnWalk
import Derived.WalkSpells
import Derived.Laws.ResultCell
import Derived.Laws.Rows
import Derived.Laws.CopyRow
namespace Go.Proofs.Qxb6618690a
open Go.RowKit

/-- A tally's cells: prose, short, links and best as given, all else zero. -/
def tal (a s l b : Int) : Array Value := #[.int .i64 a, .int .i64 s, .int .i64 l, .int .i64 0, .int .i64 0, .int .i64 0, .int .i64 0, .int .i64 0, .bool false, .bool false, .bool false, .bool false, .int .i64 0, .bool false, .int .i64 0, .bool false, .bool false, .bool false, .int .i64 0, .int .i64 0, .int .i64 0, .int .i64 0, .int .i64 0, .int .i64 b]
def tal0 : Array Value := tal 0 0 0 0
theorem tal_size (a s l b : Int) : (tal a s l b).size = 24 := rfl
theorem tal_one (a s l b : Int) : ∀ v ∈ (tal a s l b).toList, v.oneCell' = true := by
  have h : (tal a s l b).toList.all (·.oneCell') = true := rfl
  exact fun v hv => List.all_eq_true.1 h v hv

theorem info38 : (Try.prog.info? 38).map (·.size) = some 24 := by kernel_rfl

theorem setRow_alloc (w : World) (old cs : Array Value) (t : TypeId) : (w.alloc (.cells old t)).setRow w.heap.size cs = w.alloc (.cells cs t) := by
  unfold World.setRow World.alloc
  congr 1
  apply Array.ext_getElem?
  intro k
  simp only [Array.getElem?_modify, Array.getElem?_push]
  by_cases hk : w.heap.size = k
  · subst hk; simp
  · simp [hk, Ne.symm hk]

/-- A whole struct stored into a block just laid. -/
theorem wpList_store_new {P : Program} {ops : Array Oper} {rest : List Oper} {o : Oper} {a : Act} {Q : Exit → Act → World → Prop} (w : World) (hgd : o.guard = none) (ty : TypeId) (x y : Operand) (ho : o.op = .store ty x y)
    (cs old : Array Value) (hx : a.eval x = .pointer (some ⟨w.heap.size, 0, none⟩)) (hy : a.eval y = .agg cs) (t : TypeId) (hsz : old.size = cs.size) (hi : (P.info? ty).map (·.size) = some cs.size)
    (h1 : ∀ v ∈ cs.toList, v.oneCell' = true) (h : wpList P ops Q rest (a.put o.dst undef) (w.alloc (.cells cs t))) : wpList P ops Q (o :: rest) a (w.alloc (.cells old t)) := by
  refine wpList_plain hgd fun K hK => ?_
  have hst := run_storeCells_at (P := P) w.heap.size 0 t cs.toList 0 old (w.alloc (.cells old t)) (heap_alloc_new w _) (by simp; omega) h1
  have hrow : (old.toList.take (0 + 0) ++ cs.toList ++ old.toList.drop (0 + 0 + cs.toList.length)).toArray = cs := by
    rw [List.drop_of_length_le (by simp; omega)]; simp
  rw [hrow, setRow_alloc] at hst
  have hsv : (storeVar ty ⟨w.heap.size, 0, none⟩ (.agg cs)).run P (w.alloc (.cells old t)) = .ok () (w.alloc (.cells cs t)) := by
    cases hq : P.info? ty with
    | none => simp [hq] at hi
    | some i =>
      have hs : i.size = cs.size := by simpa [hq] using hi
      simp [storeVar, sizeOf, typeInfo, hq, hs, Value.cells, hst]
  unfold Oper.wp execOp
  simp only [ho, hx, hy, Instr.storeAt, Instr.sureAddr, Sem.run_bind, Sem.run_pure, Result.andThen_ok, hsv]
  exact hK _ _ h

set_option maxHeartbeats 400000 in
theorem tally_any (a s l b : Int) (w : World) : Calls Try.prog 19 #[.int .i64 a, .int .i64 s, .int .i64 l, .int .i64 b, .int .i64 0, .int .i64 0] w fun e w' => e = .returned (.agg (tal a s l b)) ∧ w' = w.alloc (.cells (tal a s l b) 38) := by
  go_enter Try.func19, Try.ntmps19
  go_wp2_with (refine wpList_store_new w rfl 38 (.tmp 12) (.tmp 19) rfl (tal a s l b) tal0 rfl rfl 38 rfl info38 (tal_one a s l b) ?_)
  exact bodyPost_ret (v := .agg (tal a s l b)) (results_cell_row Try.results19 _ _ w.heap.size 38 (tal a s l b) (0, 0) _ rfl (heap_alloc_new w _) Try.underlying38 rfl info38) rfl ⟨rfl, rfl⟩

/-- What score gives. -/
def own (a s l : Int) : Int := a - s / 4 - l

set_option maxHeartbeats 400000 in
theorem score_any (a s l b : Int) (w : World) (ha : 0 ≤ a) (ha' : a ≤ 1152921504606846976) (hs : 0 ≤ s) (hs' : s ≤ 1152921504606846976) (hl : 0 ≤ l) (hl' : l ≤ 1152921504606846976) :
    Calls Try.prog 25 #[.agg (tal a s l b)] w fun e w' => e = .returned (.int .i64 (own a s l)) ∧ w' = w.alloc (.cells (tal a s l b) 38) := by
  have h0 : (w.alloc (.cells (tal a s l b) 38)).cell? ⟨w.heap.size, 0, none⟩ = some (.int .i64 a) := by rw [World.cell?_alloc_new]; rfl
  have h1 : (w.alloc (.cells (tal a s l b) 38)).cell? ⟨w.heap.size, 1, none⟩ = some (.int .i64 s) := by rw [World.cell?_alloc_new]; rfl
  have h2 : (w.alloc (.cells (tal a s l b) 38)).cell? ⟨w.heap.size, 2, none⟩ = some (.int .i64 l) := by rw [World.cell?_alloc_new]; rfl
  go_enter Try.func25, Try.ntmps25
  go_wp2
  go_ret
  exact ⟨rfl, rfl⟩
end Go.Proofs.Qxb6618690a
