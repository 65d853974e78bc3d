import Derived.Test.Qxb6617989aZZ
namespace Go.Proofs.Qxb6617989a
open Go.RowKit Plain

/-- A slice of words that came in: n words f, each a uint64. -/
structure Arg (w : World) (a : Option Addr) (n c : Nat) (f : Nat → Nat) : Prop where
  nil : a = none → n = 0 ∧ c = 0
  at0 : n ≠ 0 → ∃ b o, a = some ⟨b, o, none⟩ ∧ ∀ j, j < n → w.cell? ⟨b, o + j, none⟩ = some (.int .u64 (f j))
  lt : ∀ j, j < n → f j < B

/-- A slice of words of the call's own (blocks from N on). -/
structure Num (N : Nat) (w : World) (a : Option Addr) (n c : Nat) (f : Nat → Nat) : Prop where
  le : n ≤ c
  max : c ≤ maxLen
  at0 : n ≠ 0 → ∃ b o, a = some ⟨b, o, none⟩ ∧ N ≤ b ∧ Rw w b o c f
  lt : ∀ j, j < n → f j < B

/-- Nothing has turned but the block of a. -/
structure Ko (a : Option Addr) (w w' : World) : Prop where
  os : w'.os = w.os
  tape : w'.tape = w.tape
  output : w'.output = w.output
  size : w.heap.size ≤ w'.heap.size
  block : ∀ k, k < w.heap.size → (∀ x, a = some x → k ≠ x.block) → w'.heap[k]? = w.heap[k]?

theorem Ko.refl (a : Option Addr) (w : World) : Ko a w w := ⟨rfl, rfl, rfl, Nat.le_refl _, fun _ _ _ => rfl⟩
theorem Kp.ko {b o : Nat} {w w' : World} (h : Kp b w w') : Ko (some ⟨b, o, none⟩) w w' := ⟨h.os, h.tape, h.output, h.size, fun k hk hb => h.block k hk (hb _ rfl)⟩
theorem Rw.keptO {w w' : World} {b o c : Nat} {a : Option Addr} {f : Nat → Nat} (h : Rw w b o c f) (k : Ko a w w') (hb : ∀ x, a = some x → b ≠ x.block) : Rw w' b o c f := by
  intro j hj
  have hlt := h.lt (by omega)
  have e := k.block b hlt hb
  exact ⟨(World.cell?_of_block e).trans (h j hj).1, (World.frozen?_of_block e).trans (h j hj).2⟩

/-- What a copy is: a slice of the call's own, in the one new block. -/
def ClonePost (n : Nat) (f : Nat → Nat) (w : World) (e : Ending) (w' : World) : Prop :=
  ∃ a1 c1, e = .returned (.slice a1 n c1) ∧ Num w.heap.size w' a1 n c1 f ∧ Kp w.heap.size w w' ∧ (∀ x, a1 = some x → x.block = w.heap.size ∧ w.heap.size < w'.heap.size)

theorem clone_all (a : Option Addr) (n c : Nat) (f : Nat → Nat) (w : World) (h : Arg w a n c f) (hn : n ≤ 100000) :
    Calls Try.prog 6 #[.slice a n c] w fun e w' => ClonePost n f w e w' := by
  cases a with
  | none =>
    obtain ⟨rfl, rfl⟩ := h.nil rfl
    refine (clone_nil w).mono ?_
    rintro e w' ⟨rfl, rfl⟩
    exact ⟨none, 0, rfl, ⟨Nat.le_refl _, by unfold maxLen; omega, fun h => absurd rfl h, h.lt⟩, Kp.refl _ _, fun x hx => by cases hx⟩
  | some x =>
    have hc : ∀ j, j < n → w.cell? (x.add j) = some (.int .u64 (f j)) := by
      intro j hj
      obtain ⟨b, o, hx, hh⟩ := h.at0 (by omega)
      injection hx with hx
      subst hx
      rw [WideShapes.add_plain]
      exact hh j hj
    refine (clone_some x n c f w (by omega) hc).mono ?_
    rintro e w' ⟨rfl, hR, hK, hS⟩
    exact ⟨_, n, rfl, ⟨Nat.le_refl _, by unfold maxLen; omega, fun _ => ⟨_, 0, rfl, Nat.le_refl _, hR⟩, h.lt⟩, hK, fun x hx => by injection hx with hx; subst hx; exact ⟨rfl, hS⟩⟩

def ZZPost (N : Nat) (a : Option Addr) (n s : Nat) (f : Nat → Nat) (w : World) (e : Ending) (w' : World) : Prop :=
  ∃ a1 n1 c1 g, e = .returned (.slice a1 n1 c1) ∧ Num N w' a1 n1 c1 g ∧ Top g n1 ∧ vl g n1 = vl f n * 2 ^ s ∧ Below N w w' ∧ Ko a w w' ∧ (∀ x, a1 = some x → (∃ y, a = some y ∧ x.block = y.block) ∨ w.heap.size ≤ x.block)

theorem zzshl_all (N : Nat) (a : Option Addr) (n c s : Nat) (f : Nat → Nat) (w : World) (h : Num N w a n c f) (hN : N ≤ w.heap.size) (hn : n ≤ 100000) (hs : s ≤ 200000) :
    Calls Try.prog 7 #[.slice a n c, .int .u64 s] w fun e w' => ZZPost N a n s f w e w' := by
  by_cases h0 : n = 0
  · subst h0
    refine (zzshl_empty a c s w).mono ?_
    rintro e w' ⟨rfl, rfl⟩
    exact ⟨a, 0, c, f, rfl, h, .inl rfl, by simp [vl], Below.refl _ _, Ko.refl _ _, fun x hx => .inl ⟨x, hx, rfl⟩⟩
  · obtain ⟨b, o, rfl, hb, hR⟩ := h.at0 h0
    obtain ⟨m, rfl⟩ : ∃ m, n = m + 1 := ⟨n - 1, by omega⟩
    refine (zzshl_any b o m c s f w h.le h.max (by omega) hs hR h.lt).mono ?_
    rintro e w' ⟨b1, o1, c1, n1, g, rfl, h1, h2, h3, h4, h5, h6, h7, h8⟩
    refine ⟨_, n1, c1, g, rfl, ⟨h1, h2, fun _ => ⟨b1, o1, rfl, ?_, h3⟩, h4⟩, h5, h6, h7.below hb hN, h7.ko, fun x hx => ?_⟩
    · rcases h8 with rfl | h8
      · exact hb
      · omega
    · injection hx with hx
      subst hx
      rcases h8 with rfl | h8
      · exact .inl ⟨_, rfl, rfl⟩
      · exact .inr h8
end Go.Proofs.Qxb6617989a
