import Derived.Test.Qxb6617989aProg
import Derived.Test.Qxb6617989aPlain
import Derived.WalkKit
import Derived.Below
namespace Go.Proofs.Qxb6617989a
open Go.RowKit Plain

set_option maxHeartbeats 400000 in
/-- 'norm': the zero words at the top go. -/
theorem norm_any (blk off n c : Nat) (f : Nat → Nat) (w : World) (hn : n ≤ c) (hc : c ≤ maxLen) (hcell : ∀ j, j < n → w.cell? ⟨blk, off + j, none⟩ = some (.int .u64 (f j))) :
    Calls Try.prog 15 #[.slice (some ⟨blk, off, none⟩) n c] w fun e w' => e = .returned (.slice (some ⟨blk, off, none⟩) (nrm f n) c) ∧ w' = w := by
  unfold maxLen at hc
  go_enter Try.func15, Try.ntmps15
  go_wp2
  go_loop [3] (fun v => ∃ k : Nat, k ≤ n ∧ v = .int .i64 k ∧ nrm f k = nrm f n) (fun v => (intOf v).toNat)
  case atStart => exact ⟨n, Nat.le_refl _, rfl, rfl⟩
  case round =>
    obtain ⟨k, hk, rfl, hN⟩ := hrel
    have HN : Hid (nrm f k = nrm f n) := hN
    clear hN
    match k, hk, HN with
    | 0, hk, HN =>
      go_wp2
      go_ret
      exact ⟨by rw [← HN.out]; rfl, rfl⟩
    | k + 1, hk, HN =>
      have hck := hcell k (by omega)
      by_cases hz : f k = 0
      · go_wp2
        go_round
        case rel => exact ⟨k, by omega, by go_num, by rw [← HN.out, nrm_zero f k hz]⟩
        case measure => simp [intOf]
      · go_wp2
        go_ret
        exact ⟨by rw [← HN.out, nrm_stop f k hz]; simp, rfl⟩
end Go.Proofs.Qxb6617989a
