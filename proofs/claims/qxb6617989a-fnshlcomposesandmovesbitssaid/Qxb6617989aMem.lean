/-
  WORDS IN MEMORY: 'Rw w b o c f': the c cells from o on of block b hold the words f 0, f 1, .. and none is frozen. 'Kp b w w'': w' is w with new blocks and with writes to block b alone.
-/
import Derived.Test.Qxb6617989aPlain
import Derived.WalkKit
import Derived.Below
import Derived.Laws.IdiomCopy
namespace Go.Proofs.Qxb6617989a
open Go.RowKit Plain

/-- f with word i turned to x. -/
def upd (f : Nat → Nat) (i x j : Nat) : Nat := if j = i then x else f j
theorem upd_same (f : Nat → Nat) (i x : Nat) : upd f i x i = x := if_pos rfl
theorem upd_other (f : Nat → Nat) {i j : Nat} (x : Nat) (h : j ≠ i) : upd f i x j = f j := if_neg h
/-- f with its first m words turned to g's. -/
def ovr (g : Nat → Nat) (m : Nat) (f : Nat → Nat) (j : Nat) : Nat := if j < m then g j else f j
theorem ovr_lt (g f : Nat → Nat) {m j : Nat} (h : j < m) : ovr g m f j = g j := if_pos h
theorem ovr_ge (g f : Nat → Nat) {m j : Nat} (h : ¬ j < m) : ovr g m f j = f j := if_neg h

def Rw (w : World) (b o c : Nat) (f : Nat → Nat) : Prop := ∀ j, j < c → w.cell? ⟨b, o + j, none⟩ = some (.int .u64 (f j)) ∧ w.frozen? ⟨b, o + j, none⟩ = false

structure Kp (b : Nat) (w w' : World) : Prop where
  os : w'.os = w.os
  tape : w'.tape = w.tape
  output : w'.output = w.output
  size : w.heap.size ≤ w'.heap.size
  block : ∀ k, k < w.heap.size → k ≠ b → w'.heap[k]? = w.heap[k]?

theorem Kp.refl (b : Nat) (w : World) : Kp b w w := ⟨rfl, rfl, rfl, Nat.le_refl _, fun _ _ _ => rfl⟩
theorem Kp.trans {b : Nat} {u v w : World} (h : Kp b u v) (k : Kp b v w) : Kp b u w :=
  ⟨k.os.trans h.os, k.tape.trans h.tape, k.output.trans h.output, Nat.le_trans h.size k.size, fun i hi hb => (k.block i (Nat.lt_of_lt_of_le hi h.size) hb).trans (h.block i hi hb)⟩
theorem Kp.drew {b : Nat} {u v : World} (h : Kp b u v) : Kp b u v.drew := ⟨h.os, h.tape, h.output, h.size, h.block⟩
theorem Kp.alloc {b : Nat} {u v : World} (h : Kp b u v) (o : Obj) : Kp b u (v.alloc o) :=
  h.trans ⟨rfl, rfl, rfl, by simp, fun k hk _ => Below.heap_alloc _ _ _ hk⟩
theorem Kp.setCell {b : Nat} {u v : World} (h : Kp b u v) (o : Nat) (x : Value) : Kp b u (v.setCell ⟨b, o, none⟩ x) :=
  h.trans ⟨rfl, rfl, rfl, by simp, fun k _ hb => Below.heap_setCell _ _ _ _ hb⟩
theorem Kp.setCells {b : Nat} {u : World} : ∀ (vs : List Value) (o : Nat) (v : World), Kp b u v → Kp b u (v.setCells b o vs)
  | [], _, _, h => h
  | x :: r, o, _, h => Kp.setCells r (o + 1) _ (h.setCell o x)
/-- A block of its own that was not there before may be written too. -/
theorem Kp.fresh {b b' : Nat} {u v w : World} (h : Kp b u v) (k : Kp b' v w) (hb : u.heap.size ≤ b') : Kp b u w :=
  ⟨k.os.trans h.os, k.tape.trans h.tape, k.output.trans h.output, Nat.le_trans h.size k.size, fun i hi hi' => (k.block i (Nat.lt_of_lt_of_le hi h.size) (by omega)).trans (h.block i hi hi')⟩
theorem Kp.below {b : Nat} {u v : World} (h : Kp b u v) {N : Nat} (hN : N ≤ b) (hs : N ≤ u.heap.size) : Below N u v :=
  ⟨h.os, h.tape, h.output, h.size, fun k hk => h.block k (by omega) (by omega)⟩

theorem Rw.lt {w : World} {b o c : Nat} {f : Nat → Nat} (h : Rw w b o c f) (hc : 0 < c) : b < w.heap.size := World.block_lt_of_cell? w _ (h 0 hc).1
theorem Rw.kept {w w' : World} {b b' o c : Nat} {f : Nat → Nat} (h : Rw w b o c f) (k : Kp b' w w') (hb : b ≠ b') : Rw w' b o c f := by
  intro j hj
  have hlt := h.lt (by omega)
  have e := k.block b hlt hb
  exact ⟨(World.cell?_of_block e).trans (h j hj).1, (World.frozen?_of_block e).trans (h j hj).2⟩
theorem Rw.drew {w : World} {b o c : Nat} {f : Nat → Nat} (h : Rw w b o c f) : Rw w.drew b o c f := h
theorem Rw.congr {w : World} {b o c : Nat} {f g : Nat → Nat} (h : Rw w b o c f) (e : ∀ j, j < c → f j = g j) : Rw w b o c g := fun j hj => by rw [← e j hj]; exact h j hj
theorem Rw.le {w : World} {b o c d : Nat} {f : Nat → Nat} (h : Rw w b o c f) (e : d ≤ c) : Rw w b o d f := fun j hj => h j (by omega)
theorem Rw.set {w : World} {b o c : Nat} {f : Nat → Nat} (h : Rw w b o c f) (i x : Nat) (hi : i < c) : Rw (w.setCell ⟨b, o + i, none⟩ (.int .u64 x)) b o c (upd f i x) := by
  intro j hj
  rw [World.frozen?_setCell]
  refine ⟨?_, (h j hj).2⟩
  by_cases e : j = i
  · subst e
    rw [upd_same]
    exact World.cell?_setCell_same _ _ _ (h j hj).1
  · rw [upd_other f x e, World.cell?_setCell_other _ _ _ _ (by intro q; injection q; omega)]
    exact (h j hj).1
/-- The first cells laid anew. -/
theorem Rw.setCells {w : World} {b o c : Nat} {f : Nat → Nat} (h : Rw w b o c f) (g : Nat → Nat) (m : Nat) (hm : m ≤ c) : Rw (w.setCells b o ((List.range m).map fun j => Value.int .u64 (g j))) b o c (ovr g m f) := by
  intro j hj
  rw [World.frozen?_setCells]
  refine ⟨?_, (h j hj).2⟩
  by_cases e : j < m
  · rw [ovr_lt g f e, World.cell?_setCells_in b _ o w (fun i hi => by rw [(h i (by simp at hi; omega)).1]; rfl) j (by simpa using e)]
    simp
  · rw [ovr_ge g f e, World.cell?_setCells_out b _ o w _ (fun _ _ => .inr (by simp; omega))]
    exact (h j hj).1
/-- A new row. -/
theorem Rw.new (w : World) (cs : Array Value) (t : TypeId) (c : Nat) (f : Nat → Nat) (h : ∀ j, j < c → cs[j]? = some (.int .u64 (f j))) : Rw (w.alloc (.cells cs t)) w.heap.size 0 c f := by
  intro j hj
  refine ⟨?_, ?_⟩
  · rw [Nat.zero_add, World.cell?_alloc_new]; exact h j hj
  · exact World.frozen?_alloc_new _ _ _ _

end Go.Proofs.Qxb6617989a
