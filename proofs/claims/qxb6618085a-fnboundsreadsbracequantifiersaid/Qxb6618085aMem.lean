/-
  RUNES AND THE PARSER IN MEMORY: 'Rs w b o n f': the n cells from o on of block b hold the runes f 0, f 1, ..; 'Pr w pb b o n c k f': block pb holds a parser over them that stands at k. 'Kp b w w'': w' is w with new blocks and with writes to block b alone.
-/
import Derived.Test.Qxb6618085aPlain
import Derived.WalkKit
import Derived.Below
import Derived.Laws.IdiomCopy
import Derived.Deep.Draws
namespace Go.Proofs.Qxb6618085a
open Go.RowKit Plain

def Rs (w : World) (b o n : Nat) (f : Nat → Int) : Prop := ∀ j, j < n → w.cell? ⟨b, o + j, none⟩ = some (.int .i32 (f j))

structure Kp (b : Nat) (w w' : World) : Prop where
  os : w'.os = w.os
  tape : w'.tape = w.tape
  output : w'.output = w.output
  size : w.heap.size ≤ w'.heap.size
  block : ∀ k, k < w.heap.size → k ≠ b → w'.heap[k]? = w.heap[k]?

theorem Kp.refl (b : Nat) (w : World) : Kp b w w := ⟨rfl, rfl, rfl, Nat.le_refl _, fun _ _ _ => rfl⟩
theorem Kp.trans {b : Nat} {u v w : World} (h : Kp b u v) (k : Kp b v w) : Kp b u w :=
  ⟨k.os.trans h.os, k.tape.trans h.tape, k.output.trans h.output, Nat.le_trans h.size k.size, fun i hi hb => (k.block i (Nat.lt_of_lt_of_le hi h.size) hb).trans (h.block i hi hb)⟩
theorem Kp.drew {b : Nat} {u v : World} (h : Kp b u v) : Kp b u v.drew := ⟨h.os, h.tape, h.output, h.size, h.block⟩
theorem Kp.drewN {b : Nat} {u v : World} (h : Kp b u v) (n : Nat) : Kp b u (v.drewN n) := ⟨h.os, h.tape, h.output, h.size, h.block⟩
theorem Kp.alloc {b : Nat} {u v : World} (h : Kp b u v) (o : Obj) : Kp b u (v.alloc o) :=
  h.trans ⟨rfl, rfl, rfl, by simp, fun k hk _ => Below.heap_alloc _ _ _ hk⟩
theorem Kp.setCell {b : Nat} {u v : World} (h : Kp b u v) (o : Nat) (x : Value) : Kp b u (v.setCell ⟨b, o, none⟩ x) :=
  h.trans ⟨rfl, rfl, rfl, by simp, fun k _ hb => Below.heap_setCell _ _ _ _ hb⟩
theorem Kp.setCells {b : Nat} {u : World} : ∀ (vs : List Value) (o : Nat) (v : World), Kp b u v → Kp b u (v.setCells b o vs)
  | [], _, _, h => h
  | x :: r, o, _, h => Kp.setCells r (o + 1) _ (h.setCell o x)
theorem Kp.below {b : Nat} {u v : World} (h : Kp b u v) {N : Nat} (hN : N ≤ b) (hs : N ≤ u.heap.size) : Below N u v :=
  ⟨h.os, h.tape, h.output, h.size, fun k hk => h.block k (by omega) (by omega)⟩

theorem Rs.lt {w : World} {b o n : Nat} {f : Nat → Int} (h : Rs w b o n f) (hn : 0 < n) : b < w.heap.size := World.block_lt_of_cell? w _ (h 0 hn)
theorem Rs.kept {w w' : World} {b b' o n : Nat} {f : Nat → Int} (h : Rs w b o n f) (k : Kp b' w w') (hb : b ≠ b') : Rs w' b o n f := fun j hj =>
  (World.cell?_of_block (k.block b (h.lt (by omega)) hb)).trans (h j hj)
theorem Rs.below {w w' : World} {b o n N : Nat} {f : Nat → Int} (h : Rs w b o n f) (k : Below N w w') (hb : b < N) : Rs w' b o n f := fun j hj =>
  (k.cell hb).trans (h j hj)

/-- The parser in block pb. -/
structure Pr (w : World) (pb b o n c k : Nat) (f : Nat → Int) : Prop where
  src : w.cell? ⟨pb, 0, none⟩ = some (.slice (some ⟨b, o, none⟩) n c)
  pos : w.cell? ⟨pb, 1, none⟩ = some (.int .i64 k)
  free : w.frozen? ⟨pb, 1, none⟩ = false
  rs : Rs w b o n f
  ne : b ≠ pb

theorem Pr.drewN {w : World} {pb b o n c k : Nat} {f : Nat → Int} (h : Pr w pb b o n c k f) (q : Nat) : Pr (w.drewN q) pb b o n c k f := ⟨h.src, h.pos, h.free, h.rs, h.ne⟩
theorem Pr.drew {w : World} {pb b o n c k : Nat} {f : Nat → Int} (h : Pr w pb b o n c k f) : Pr w.drew pb b o n c k f := ⟨h.src, h.pos, h.free, h.rs, h.ne⟩
/-- The position is set. -/
theorem Pr.set {w : World} {pb b o n c k : Nat} {f : Nat → Int} (h : Pr w pb b o n c k f) (k' : Nat) {v : Int} (hv : v = (k' : Int)) : Pr (w.setCell ⟨pb, 1, none⟩ (.int .i64 v)) pb b o n c k' f := by
  subst hv
  refine ⟨?_, World.cell?_setCell_same _ _ _ h.pos, by rw [World.frozen?_setCell]; exact h.free, fun j hj => ?_, h.ne⟩
  · rw [World.cell?_setCell_other _ _ _ _ (by intro e; injection e; omega)]; exact h.src
  · rw [World.cell?_setCell_other _ _ _ _ (by intro e; injection e with e1; exact h.ne e1.symm)]; exact h.rs j hj

end Go.Proofs.Qxb6618085a
