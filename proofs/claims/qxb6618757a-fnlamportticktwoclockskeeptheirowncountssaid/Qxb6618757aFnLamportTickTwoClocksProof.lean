/-
  THE PROOF OF 'Rows.FnLamportTickTwoClocksKeepTheirOwnCountsSaid': the frame after the kit's skeleton for a slice of integers, turned to a slice of bools by hand; the walk in Qxb6618757aLaw.
-/
import Derived.Test.Qxb6618757aRows
import Derived.WalkKit
import Derived.ProofKit
import Derived.OpenShut
import Derived.ShutString
import Derived.ChangeOld
import Derived.Below
import Derived.Deep.Grids
import Derived.Test.Qxb6618757aLaw
namespace Go.Proofs.Qxb6618757a.fnLamportTickTwoClocks
open Go.ChangeShapes Go.WideShapes Go.ChangeAt Go.RowKit

theorem own : ownKnob Try.prog.godebug = none := by kernel_rfl
theorem laidOut : laidOutB Try.prog = true := by kernel_rfl

/-- WHAT THE WALK IS TOLD OF A SLICE OF BOOLS THAT CAME IN. -/
def IsRow (w : World) (a : Option Addr) (len cap : Nat) (B : Nat → Bool) : Prop :=
  (a = none ∧ len = 0 ∧ cap = 0) ∨
  ∃ x, a = some x ∧ len ≤ cap ∧ cap ≤ maxLen ∧ ∀ i, i < cap → w.cell? (x.add i) = some (.bool (B i))

theorem walk (a0 : Option Addr) (len0 cap0 : Nat) (B : Nat → Bool) (w : World) (w0 : IsRow w a0 len0 cap0 B) :
    Calls Try.prog 4 #[.slice a0 len0 cap0] w fun e w' => e = .returned (.bool true) ∧ Below w.heap.size w w' := by
  have hlm : len0 ≤ maxLen := by
    rcases w0 with ⟨_, rfl, _⟩ | ⟨x, _, hl, hm, _⟩
    · exact Nat.zero_le _
    · exact Nat.le_trans hl hm
  by_cases he : len0 ≤ 65536
  · refine law_main a0 len0 cap0 B w he (fun h0 => ?_)
    rcases w0 with ⟨_, rfl, _⟩ | ⟨x, rfl, hl, hm, hc⟩
    · exact absurd rfl h0
    · obtain ⟨b, off, spot⟩ := x
      have hspot : spot = none := by simpa [Addr.add] using World.cell?_spot (hc 0 (by omega))
      subst hspot
      refine ⟨b, off, rfl, fun j hj => ?_⟩
      have h1 := hc j (by omega)
      rwa [add_plain] at h1
  · refine (law_early a0 len0 cap0 w hlm he).mono ?_
    rintro e w' ⟨rfl, rfl⟩
    exact ⟨rfl, Below.refl _ _⟩

set_option maxRecDepth 100000 in
theorem lifted (os : Os) (started : os.Started) (H : Type) (enc : TypeId × Value → H) :
    ReturnsInHanded {} Try.checked os 4 .any (Rows.fnLamportTickTwoClocksKeepTheirOwnCountsSpec.pre6 enc Try.prog Try.f4 Rows.fnLamportTickTwoClocksKeepTheirOwnCountsRow.domain false) (Rows.fnLamportTickTwoClocksKeepTheirOwnCountsSpec.post enc Try.prog Try.f4 false true false false) := by
  refine returnsInHanded_of_change (C := Try.checked) own started (by kernel_rfl) Try.func4
    (ChangeSpec.witness6 (enc := enc) (C := Try.checked) false ⟨#[], #[.slice none 0 0], []⟩ 8 (by kernel_rfl) (by kernel_rfl) (by kernel_rfl) (by kernel_rfl)) ?_
  intro W base args ds gs before hval0 hW hcnd _
  have hval : ∀ (j : Nat) t v, Try.f4.params[j]? = some t → args[j]? = some v → Value.okWide Try.prog W .any base t v := hval0
  have hW' := hW
  obtain ⟨p, q, hA0, hV, rfl, hfz, hnd⟩ := hW
  have hA : DataW.TrodAll enc Try.prog W 0 (fun _ => true) true Try.f4.params.toList args.toList ds p := hA0
  rw [Try.params4] at hA hval
  obtain ⟨v0, vs0, d0, ds0, p0, q0, hargs, rfl, rfl, h0, r0⟩ := trodAll_cons hA
  obtain ⟨rfl, rfl, rfl⟩ := trodAll_nil r0
  obtain rfl : args = #[v0] := by cases args; simp_all
  obtain ⟨rfl, rfl⟩ := trodVars_none hV
  obtain ⟨a0, len0, cap0, rfl⟩ := okWide_slice Try.underlying28 (hval 0 28 v0 rfl rfl)
  have k0 := h0
  have lt0 : ∀ x ∈ p0, x.block < W.heap.size := by obtain ⟨m, hm⟩ := k0; exact DataW.trod_lt m _ _ _ hm
  obtain ⟨B, w0⟩ : ∃ B, IsRow W a0 len0 cap0 B := by
    obtain ⟨fuel, hf⟩ := h0
    rcases Deep.open_bools Try.underlying28 Try.underlying4 (by kernel_rfl) hf with ⟨hcs, _⟩ | ⟨x, l, c, B, hcs, _, hl, hm, _, hcell⟩
    · simp [Value.cells] at hcs
      obtain ⟨rfl, rfl, rfl⟩ := hcs
      exact ⟨fun _ => false, .inl ⟨rfl, rfl, rfl⟩⟩
    · simp [Value.cells] at hcs
      obtain ⟨rfl, rfl, rfl⟩ := hcs
      exact ⟨B, .inr ⟨_, rfl, hl, hm, hcell⟩⟩
  clear hA0 hval0
  refine (walk a0 len0 cap0 B W w0).mono fun e W' ⟨he, bel⟩ => ?_
  subst he
  exact ⟨_, rfl, _, _, _, [], _, [], hW', trodAll_mk1 (shut_bool Try.underlying4 _), (trodAll_cons_mk (Below.trod laidOut (by kernel_rfl) (of_decide_eq_true (by kernel_rfl)) k0 bel lt0) trodAll_mk0), rfl, bel.frame _, fun h => by cases h⟩

theorem over : Rows.fnLamportTickTwoClocksKeepTheirOwnCountsRow.holds Try.pinned (OpenSpec.ofChange Rows.fnLamportTickTwoClocksKeepTheirOwnCountsSpec) :=
  OpenClaim.holds_of_wide 4 Try.f4 rfl rfl rfl rfl rfl rfl rfl ⟨rfl, rfl, rfl, rfl, rfl⟩ rfl rfl rfl rfl rfl (by kernel_rfl) Try.func4 (by kernel_rfl)
    (of_decide_eq_true (by kernel_rfl)) (by unfold Func.isWrapper; first | (rw [if_pos (by decide +kernel)]; kernel_rfl) | (rw [if_neg (by decide +kernel)]; exact ⟨rfl, rfl⟩))
    (fun os started H enc _ => lifted os started H enc)

theorem proved : Rows.FnLamportTickTwoClocksKeepTheirOwnCountsSaid := over
#print axioms proved
end Go.Proofs.Qxb6618757a.fnLamportTickTwoClocks
