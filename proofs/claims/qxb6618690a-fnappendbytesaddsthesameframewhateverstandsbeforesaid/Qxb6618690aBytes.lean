/-
  BYTES IN MEMORY, AND THE SHORT VARINT: lists of numbers below 256; 'bc L': their cells; 'Rd w a L': a slice at a that reads L; 'grownBy' and where an append leaves its row.
-/
import Derived.WalkKit
import Derived.Below
import Derived.OwnWalk
import Derived.WalkSpells
import Derived.Laws.AppendOwn
import Derived.Laws.AppendOwnNone
import Derived.Laws.OwnMore
import Derived.Deep.Draws
import Derived.Lib.VarintMem
namespace Go.Proofs.Qxb6618690a
open Go.RowKit

/-- The cells of bytes. -/
def bc (L : List Nat) : List Value := L.map fun b : Nat => Value.int .u8 (b : Int)
theorem bc_length (L : List Nat) : (bc L).length = L.length := by simp [bc]
theorem bc_append (L M : List Nat) : bc (L ++ M) = bc L ++ bc M := by simp [bc]
theorem bc_get (L : List Nat) (j : Nat) (h : j < L.length) : (bc L)[j]? = some (.int .u8 ((L.getD j 0 : Nat) : Int)) := by
  simp [bc, List.getD_eq_getElem?_getD, h]
theorem bc_one (L : List Nat) : ∀ u ∈ bc L, u.oneCell' = true := by
  intro u hu
  simp [bc] at hu
  obtain ⟨b, _, rfl⟩ := hu
  rfl

/-- A slice at a that reads L. -/
def Rd (w : World) (a : Option Addr) (L : List Nat) : Prop := L.length ≠ 0 → ∃ b o, a = some ⟨b, o, none⟩ ∧ ∀ j, j < L.length → w.cell? ⟨b, o + j, none⟩ = some (.int .u8 ((L.getD j 0 : Nat) : Int))

/-- A slice that came in. -/
structure Arg (w : World) (a : Option Addr) (n c : Nat) (L : List Nat) : Prop where
  nil : a = none → n = 0 ∧ c = 0
  len : L.length = n
  rd : Rd w a L
theorem Rd.below {w w' : World} {a : Option Addr} {L : List Nat} (h : Rd w a L) (k : Below w.heap.size w w') : Rd w' a L := fun h0 => by
  obtain ⟨b, o, e, hc⟩ := h h0
  exact ⟨b, o, e, fun j hj => (k.cell (World.block_lt_of_cell? w _ (hc j hj))).trans (hc j hj)⟩
theorem Arg.kept {w w' : World} {a : Option Addr} {n c : Nat} {L : List Nat} (h : Arg w a n c L) (k : Below w.heap.size w w') : Arg w' a n c L := ⟨h.nil, h.len, h.rd.below k⟩
theorem Rd.drewN {w : World} {a : Option Addr} {L : List Nat} (h : Rd w a L) (q : Nat) : Rd (w.drewN q) a L := h

theorem grown_refl (w : World) (r : Option Nat) : w.grownBy w r := ⟨rfl, rfl, rfl, Nat.le_refl _, fun _ _ _ => rfl⟩
theorem grown_alloc {w w' : World} {r : Option Nat} (h : w.grownBy w' r) (o : Obj) : w.grownBy (w'.alloc o) r :=
  ⟨h.os, h.tape, h.output, Nat.le_trans h.size (by simp), fun k hk hr => (Below.heap_alloc _ _ _ (Nat.lt_of_lt_of_le hk h.size)).trans (h.block k hk hr)⟩
/-- Where an append leaves its row: where it was, or in a block that was not there. -/
def Loc (v' v : Value) (w : World) : Prop := v'.ownBlock = v.ownBlock ∨ ∃ k, v'.ownBlock = some k ∧ w.heap.size ≤ k
theorem grown_trans {u v w : World} {x y : Value} (h : u.grownBy v x.ownBlock) (k : v.grownBy w y.ownBlock) (hl : Loc y x u) : u.grownBy w x.ownBlock :=
  ⟨k.os.trans h.os, k.tape.trans h.tape, k.output.trans h.output, Nat.le_trans h.size k.size, fun i hi hr => (k.block i (Nat.lt_of_lt_of_le hi h.size) (by
    rcases hl with e | ⟨m, e, hm⟩
    · rw [e]; exact hr
    · rw [e]; intro q; injection q with q; omega)).trans (h.block i hi hr)⟩
theorem Loc.trans {u v : World} {x y z : Value} (h : Loc y x u) (k : Loc z y v) (hs : u.heap.size ≤ v.heap.size) : Loc z x u := by
  rcases k with e | ⟨m, e, hm⟩
  · rcases h with e' | ⟨m, e', hm⟩
    · exact .inl (e.trans e')
    · exact .inr ⟨m, e.trans e', hm⟩
  · exact .inr ⟨m, e, Nat.le_trans hs hm⟩

/-- 'append(v, xs...)' onto a row of the call's own, AND WHERE IT LIES THEN. -/
theorem run_append_at {P : Program} (w : World) (base : Nat) (t ty e : TypeId) (i : TypeInfo) (z : Value) (ht : P.underlying t = some (.slice e)) (hi : P.info? e = some i) (hz : i.zero = some z)
    (hsize : i.size = 1) (hby : i.bytes = 1) (hzs : z.cells.size = 1)
    (v : Value) (n : Nat) (xs : List Value) (hown : w.ownsRow base e 1 v n xs)
    (a : Addr) (m c : Nat) (news : List Value) (hl : news.length = m * 1) (hnews : ∀ j u, news[j]? = some u → w.cell? (a.add j) = some u) (h1 : ∀ u ∈ news, u.oneCell' = true)
    (h47 : n + m ≤ 140737488355328) (hbase : base ≤ w.heap.size) :
    ∃ v' w', (Builtin.append_ #[t, t] ty #[v, .slice (some a) m c]).run P w = .ok v' w' ∧ w'.ownsRow base e 1 v' (n + m) (xs ++ news) ∧ w.grownBy w' v.ownBlock ∧ Loc v' v w := by
  obtain ⟨v', w', hr, ho, hg, _⟩ := run_append_own (P := P) w base t ty e i z 1 1 ht hi hz hsize hby hzs (by omega) v n xs hown a m c news hl hnews h1 (by unfold maxLen; omega) (by omega) hbase
  refine ⟨v', w', hr, ho, hg, ?_⟩
  have fin : ∀ {v1 w1}, (Builtin.append_ #[t, t] ty #[v, .slice (some a) m c]).run P w = .ok v1 w1 → v' = v1 := by
    intro v1 w1 h
    rw [hr] at h
    injection h
  rcases hown.2 with ⟨rfl, rfl⟩ | ⟨g, cap, cur, rfl, hbg, hgg, hnc, hcm, hcs, htake⟩
  · by_cases hm : m = 0
    · subst hm
      have hn : news = [] := List.eq_nil_of_length_eq_zero (by simpa using hl)
      subst hn
      have : v' = .slice none 0 0 := fin (w1 := w) (by simp [Builtin.append_, run_underlying ht, sizeOf, typeInfo, hi, Builtin.lenOf, Builtin.firstCells, loadCells, loadCellsFrom])
      subst this
      exact .inl rfl
    · have hr2 := run_append_nil (P := P) w t ty e i z ht hi hz a m c news (by rw [hsize]; exact hl) hnews (by omega) (by omega) (by rw [hby]; omega)
      have := fin hr2
      subst this
      exact .inr ⟨w.heap.size, rfl, Nat.le_refl _⟩
  · by_cases hroom : n + m ≤ cap
    · have hr2 := run_append_room (P := P) w t ty e i ht hi g n cap cur hgg a m c news (by rw [hsize]; exact hl) hnews h1 hroom (by rw [hsize]; omega)
      have := fin hr2
      subst this
      exact .inl rfl
    · have holds : ∀ j u, xs[j]? = some u → w.cell? ((⟨g, 0, none⟩ : Addr).add j) = some u := hown.cells (g := g) rfl
      have hr2 := run_append_grow (P := P) w t ty e i z ht hi hz ⟨g, 0, none⟩ n cap xs (by rw [hsize]; exact hown.1) holds a m c news (by rw [hsize]; exact hl) hnews (by omega) (by omega) (by rw [hby]; exact growslice_fits (by omega) (by omega))
      have := fin hr2
      subst this
      exact .inr ⟨w.heap.size, rfl, Nat.le_refl _⟩

theorem wpList_append_at {P : Program} {w : World} {ops : Array Oper} {rest : List Oper} {o : Oper} {a : Act} {Q : Exit → Act → World → Prop} (hgd : o.guard = none) (s x : Operand) (t : TypeId)
    (ho : o.op = .call { callee := .builtin .append, args := #[s, x], argTypes := #[t, t] })
    (base : Nat) (e : TypeId) (i : TypeInfo) (z : Value) (ht : P.underlying t = some (.slice e)) (hi : P.info? e = some i) (hz : i.zero = some z)
    (hsize : i.size = 1) (hby : i.bytes = 1) (hzs : z.cells.size = 1)
    (v : Value) (n : Nat) (xs : List Value) (hs : a.eval s = v) (hown : w.ownsRow base e 1 v n xs)
    (ad : Addr) (m c : Nat) (news : List Value) (hx : a.eval x = .slice (some ad) m c) (hl : news.length = m * 1) (hnews : ∀ j u, news[j]? = some u → w.cell? (ad.add j) = some u) (h1 : ∀ u ∈ news, u.oneCell' = true)
    (h47 : n + m ≤ 140737488355328) (hbase : base ≤ w.heap.size)
    (h : ∀ v' w', w'.ownsRow base e 1 v' (n + m) (xs ++ news) → w.grownBy w' v.ownBlock → Loc v' v w → wpList P ops Q rest (a.put o.dst v') w') : wpList P ops Q (o :: rest) a w := by
  refine wpList_plain hgd fun K hK => ?_
  obtain ⟨v', w', hr, h2, h3, h4⟩ := run_append_at (P := P) w base t o.type e i z ht hi hz hsize hby hzs v n xs hown ad m c news hl hnews h1 h47 hbase
  unfold Oper.wp
  simp [execOp, ho, resolve, invoke, builtin, hs, hx, hr, Result.andThen]
  exact hK _ _ (h v' w' h2 h3 h4)

/-! ### The short varint -/
/-- The varint of x, x below 2^21: one, two or three bytes. -/
def uv (x : Nat) : List Nat := if x < 128 then [x] else if x < 16384 then [x % 128 + 128, x / 128] else [x % 128 + 128, x / 128 % 128 + 128, x / 16384]
theorem uv_len (x : Nat) : 1 ≤ (uv x).length ∧ (uv x).length ≤ 3 := by
  unfold uv
  split
  · simp
  · split <;> simp
theorem byteCells_eq (l : List UInt8) : Lib.byteCells l = bc (l.map (·.toNat)) := by simp [Lib.byteCells, bc]
theorem uvarint_uv (x : Nat) (h : x < 2097152) : (Lib.uvarint x).map (·.toNat) = uv x := by
  unfold uv
  by_cases h1 : x < 128
  · rw [if_pos h1, Lib.uvarint_small h1]
    simp only [List.map_cons, List.map_nil]
    rw [Lib.toUInt8_toNat (by omega)]
  · rw [if_neg h1, Lib.uvarint_big (by omega)]
    by_cases h2 : x < 16384
    · rw [if_pos h2, Lib.uvarint_small (by omega)]
      simp only [List.map_cons, List.map_nil]
      rw [Lib.toUInt8_toNat (by omega), Lib.toUInt8_toNat (by omega)]
    · rw [if_neg h2, Lib.uvarint_big (by omega), Lib.uvarint_small (by omega)]
      simp only [List.map_cons, List.map_nil]
      rw [Lib.toUInt8_toNat (by omega), Lib.toUInt8_toNat (by omega), Lib.toUInt8_toNat (by omega), Nat.div_div_eq_div_mul]
end Go.Proofs.Qxb6618690a
