import Derived.Test.Qxb6617989aShl
namespace Go.Proofs.Qxb6617989a
open Go.RowKit Plain

theorem shl_empty (a : Option Addr) (c s : Nat) (w : World) : Calls Try.prog 13 #[.slice a 0 c, .int .u64 s] w fun e w' => e = .returned (.slice a 0 c) ∧ w' = w := by
  go_enter Try.func13, Try.ntmps13
  go_wp2
  go_ret
  exact ⟨rfl, rfl⟩

theorem zzshl_empty (a : Option Addr) (c s : Nat) (w : World) : Calls Try.prog 7 #[.slice a 0 c, .int .u64 s] w fun e w' => e = .returned (.slice a 0 c) ∧ w' = w := by
  go_enter Try.func7, Try.ntmps7
  go_wp2_with (go_at_call 13; refine (shl_empty _ _ _ _).mono ?_; rintro e w' ⟨rfl, rfl⟩)
  go_ret
  exact ⟨rfl, rfl⟩

theorem zzshl_any (blk off m c s : Nat) (f : Nat → Nat) (w : World) (hn : m + 1 ≤ c) (hc : c ≤ maxLen) (hm : m ≤ 100000) (hs : s ≤ 200000) (hR : Rw w blk off c f) (hf : ∀ j, j < m + 1 → f j < B) :
    Calls Try.prog 7 #[.slice (some ⟨blk, off, none⟩) ((m + 1 : Nat)) c, .int .u64 s] w fun e w' => ShlPost blk (m + 1) s f w e w' := by
  go_enter Try.func7, Try.ntmps7
  go_wp2_with (go_at_call 13; refine (shl_any blk off m c s f _ hn hc hm hs hR hf).mono ?_; rintro e w' ⟨b1, o1, c1, n1, g, rfl, hp⟩)
  go_ret
  exact ⟨b1, o1, c1, n1, g, rfl, hp⟩

theorem bytes1_any (a : Option Addr) (n c s : Nat) (w : World) (hn : n ≤ 65536) : Calls Try.prog 5 #[.slice a n c, .int .u64 s] w fun e w' => e = .returned (.bool true) ∧ w' = w := by
  go_enter Try.func5, Try.ntmps5
  go_wp2
  go_ret
  exact ⟨rfl, rfl⟩
theorem bytes1_big (a : Option Addr) (n c s : Nat) (w : World) (hn : ¬ n ≤ 65536) : Calls Try.prog 5 #[.slice a n c, .int .u64 s] w fun e w' => (∃ b, e = .returned (.bool b)) ∧ w' = w := by
  go_enter Try.func5, Try.ntmps5
  by_cases h : n ≤ 1048576
  · go_wp2
    go_ret
    exact ⟨⟨_, rfl⟩, rfl⟩
  · go_wp2
    go_ret
    exact ⟨⟨_, rfl⟩, rfl⟩
end Go.Proofs.Qxb6617989a
