import Derived.Test.Qxb6617989aShl
import Derived.Test.Qxb6617989aPlain2
import Derived.Deep.QuietTactic
import Derived.BigQuiet
namespace Go.Proofs.Qxb6617989a
open Go.RowKit Plain

/-- A slice of n words f that can be read. -/
def Rd (w : World) (a : Option Addr) (n : Nat) (f : Nat → Nat) : Prop := n ≠ 0 → ∃ b o, a = some ⟨b, o, none⟩ ∧ ∀ j, j < n → w.cell? ⟨b, o + j, none⟩ = some (.int .u64 (f j))

theorem and_one (x : Nat) (hx : x < B) : bits .and .u64 (x : Int) 1 = ((x % 2 : Nat) : Int) := by
  have h := (bits_nat .u64 64 (by decide) u64_wraps x 1 hx (by decide)).1
  rw [Nat.and_one_is_mod] at h
  exact h
theorem half (x : Nat) : (Value.int .u64 ((x : Int) / 2)) = .int .u64 ((x / 2 : Nat) : Int) := by rw [Int.natCast_ediv]; rfl
theorem half_pow (x c : Nat) : x / 2 ^ (c + 1) = x / 2 ^ c / 2 := by rw [Nat.pow_succ, Nat.div_div_eq_div_mul]

set_option maxHeartbeats 400000 in
theorem equal_any (a a' : Option Addr) (n c c' : Nat) (f : Nat → Nat) (w : World) (hn : n ≤ 1000000) (h : Rd w a n f) (h' : Rd w a' n f) :
    Calls Try.prog 9 #[.slice a n c, .slice a' n c'] w fun e w' => e = .returned (.bool true) ∧ ∃ q, w' = w.drewN q := by
  have hne : ((n : Int) != (n : Int)) = false := by simp
  go_enter Try.func9, Try.ntmps9
  go_wp2_with fail
  go_loopw [5] (fun v wx => ∃ t q : Nat, t ≤ n ∧ v = .int .i64 t ∧ wx = w.drewN q) (fun v _ => n - (intOf v).toNat)
  case atStart => exact ⟨0, 0, Nat.zero_le _, rfl, rfl⟩
  case round =>
    obtain ⟨t, q, ht, rfl, rfl⟩ := hrel
    by_cases hlt : t < n
    · obtain ⟨b, o, rfl, hc⟩ := h (by omega)
      obtain ⟨b', o', rfl, hc'⟩ := h' (by omega)
      have h1 := hc t hlt
      have h2 := hc' t hlt
      generalize f t = y at h1 h2
      have hi : (t : Int) < (n : Int) := by omega
      clear hc hc'
      go_wp2
      go_quiet (fail)
      go_wp2
      go_roundw
      case rel => exact ⟨t + 1, q + nq, by omega, by go_num, by simp [World.drewN]⟩
      case measure => simp [intOf]; omega
    · go_wp2
      go_ret
      exact ⟨rfl, q, rfl⟩

/-- What bitLen gives. -/
def BlPost (N : Nat) (w : World) (e : Ending) (w' : World) : Prop := ∃ L : Nat, e = .returned (.int .i64 L) ∧ IsBl N L ∧ w = w'

set_option maxHeartbeats 400000 in
theorem bitLen_any (a : Option Addr) (n c : Nat) (f : Nat → Nat) (w : World) (hn : n ≤ 1000000) (h : Rd w a n f) (hf : ∀ j, j < n → f j < B) :
    Calls Try.prog 10 #[.slice a n c] w fun e w' => BlPost (vl f n) w e w' := by
  go_enter Try.func10, Try.ntmps10
  go_wp2_with fail
  go_loop [3] (fun v => ∃ k : Nat, k ≤ n ∧ v = .int .i64 ((k : Int) - 1) ∧ ∀ j, k ≤ j → j < n → f j = 0) (fun v => (intOf v + 1).toNat)
  case atStart => exact ⟨n, Nat.le_refl _, rfl, fun j h1 h2 => by omega⟩
  case round =>
    obtain ⟨k, hk, rfl, hz⟩ := hrel
    have HZ : Hid (∀ j, k ≤ j → j < n → f j = 0) := hz
    clear hz
    match k, hk, HZ with
    | 0, hk, HZ =>
      go_wp2
      go_ret
      refine ⟨0, rfl, ?_, rfl⟩
      rw [vl_zero (fun j hj => HZ.out j (Nat.zero_le _) hj)]
      exact ⟨by decide, .inl rfl⟩
    | k + 1, hk, HZ =>
      obtain ⟨b, o, rfl, hc⟩ := h (by omega)
      have hck := hc k (by omega)
      have hki : (k : Int) < (n : Int) := by omega
      clear hc
      by_cases hz : f k = 0
      · go_wp2
        go_round
        case rel =>
          refine ⟨k, by omega, by go_num, fun j h1 h2 => ?_⟩
          by_cases e : j = k
          · rw [e]; exact hz
          · exact HZ.out j (by omega) h2
        case measure => simp [intOf]
      · go_wp2_with fail
        go_loop [4, 5] (fun vx vc => ∃ x c : Nat, vx = .int .u64 x ∧ vc = .int .i64 c ∧ x = f k / 2 ^ c ∧ c ≤ 64 ∧ (c = 0 ∨ 2 ^ (c - 1) ≤ f k)) (fun _ vc => 64 - (intOf vc).toNat)
        case atStart => exact ⟨f k, 0, rfl, rfl, by simp, by omega, .inl rfl⟩
        case round =>
          obtain ⟨x, d, rfl, rfl, hx, hd, hor⟩ := hrel
          have HX : Hid (x = f k / 2 ^ d) := hx
          have HO : Hid _ := hor
          clear hx hor
          by_cases hx0 : x = 0
          · subst hx0
            go_wp2
            go_ret
            refine ⟨k * 64 + d, by simp, ?_, rfl⟩
            have hlt : f k < 2 ^ d := by
              have h0 : f k / 2 ^ d = 0 := HX.out.symm
              rcases Nat.lt_or_ge (f k) (2 ^ d) with h | h
              · exact h
              · have := Nat.div_pos h (Nat.pow_pos (by omega)); omega
            rw [vl_skip (i := k + 1) (by omega) (fun j h1 h2 => HZ.out j h1 h2)]
            exact isBl_top (fun j hj => hf j (by omega)) ⟨hlt, HO.out⟩ hz
          · have hd64 : d < 64 := by
              refine Nat.lt_of_not_le fun hge => hx0 ?_
              rw [HX.out]
              refine Nat.div_eq_of_lt (Nat.lt_of_lt_of_le (hf k (by omega)) ?_)
              exact Nat.pow_le_pow_right (by omega) hge
            have hge : 2 ^ d ≤ f k := by
              rcases Nat.lt_or_ge (f k) (2 ^ d) with h | h
              · exact absurd (HX.out.trans (Nat.div_eq_of_lt h)) hx0
              · exact h
            go_wp2
            go_round
            case rel => exact ⟨x / 2, d + 1, half x, by go_num, by rw [half_pow, ← HX.out], by omega, .inr (by simpa using hge)⟩
            case measure => simp [intOf]; omega
/-- What trailingZeros gives. -/
def TzPost (N : Nat) (w : World) (e : Ending) (w' : World) : Prop := ∃ L : Nat, e = .returned (.int .i64 L) ∧ IsTz N L ∧ L ≤ 64000000 ∧ w = w'

set_option maxHeartbeats 400000 in
theorem tz_any (a : Option Addr) (n c : Nat) (f : Nat → Nat) (w : World) (hn : n ≤ 1000000) (h : Rd w a n f) (hf : ∀ j, j < n → f j < B) (hne : vl f n ≠ 0) :
    Calls Try.prog 11 #[.slice a n c] w fun e w' => TzPost (vl f n) w e w' := by
  go_enter Try.func11, Try.ntmps11
  go_wp2_with fail
  go_loop [3] (fun v => ∃ k : Nat, k ≤ n ∧ v = .int .i64 k ∧ ∀ j, j < k → f j = 0) (fun v => n - (intOf v).toNat)
  case atStart => exact ⟨0, Nat.zero_le _, rfl, fun j h1 => absurd h1 (Nat.not_lt_zero _)⟩
  case round =>
    obtain ⟨k, hk, rfl, hz⟩ := hrel
    have HZ : Hid (∀ j, j < k → f j = 0) := hz
    clear hz
    by_cases hlt : k < n
    · obtain ⟨b, o, rfl, hc⟩ := h (by omega)
      have hck := hc k (by omega)
      have hki : (k : Int) < (n : Int) := by omega
      have hkn : ((k : Int) == (n : Int)) = false := beq_eq_false_iff_ne.2 (by omega)
      clear hc
      by_cases hz : f k = 0
      · go_wp2
        go_round
        case rel =>
          refine ⟨k + 1, by omega, by go_num, fun j h1 => ?_⟩
          by_cases e : j = k
          · rw [e]; exact hz
          · exact HZ.out j (by omega)
        case measure => simp [intOf]; omega
      · go_wp2_with fail
        go_loop [4, 5] (fun vx vc => ∃ x c : Nat, vx = .int .u64 x ∧ vc = .int .i64 c ∧ f k = x * 2 ^ c ∧ x ≠ 0 ∧ c < 64) (fun vx _ => (intOf vx).toNat)
        case atStart => exact ⟨f k, 0, rfl, rfl, by simp, hz, by omega⟩
        case round =>
          obtain ⟨x, d, rfl, rfl, hx, hx0, hd⟩ := hrel
          have hfk := hf k (by omega)
          have hxB : x < B := by
            refine Nat.lt_of_le_of_lt ?_ hfk
            rw [hx]; exact Nat.le_mul_of_pos_right _ (Nat.pow_pos (by omega))
          have hand := and_one x hxB
          have HX : Hid (f k = x * 2 ^ d) := hx
          clear hx hck hz
          rcases Nat.mod_two_eq_zero_or_one x with hm | hm
          · rw [hm] at hand
            have ht : (bits .and .u64 (x : Int) 1 == 0) = true := by rw [hand]; rfl
            clear hand
            have hxe : x = 2 * (x / 2) := by omega
            have hd2 : d + 1 < 64 := by
              refine Nat.lt_of_not_le fun hge => ?_
              have h1 : f k = (x / 2) * 2 ^ (d + 1) := by
                rw [Nat.pow_succ, Nat.mul_comm (2 ^ d), ← Nat.mul_assoc, Nat.mul_comm (x / 2) 2, ← hxe]; exact HX.out
              have h2 : 1 * 2 ^ 64 ≤ (x / 2) * 2 ^ (d + 1) := Nat.mul_le_mul (by omega) (Nat.pow_le_pow_right (by omega) hge)
              rw [← h1] at h2
              have : f k < 2 ^ 64 := hfk
              omega
            have HE : Hid (x = 2 * (x / 2)) := hxe
            clear hxe
            go_wp2
            go_round
            case rel =>
              refine ⟨x / 2, d + 1, half x, by go_num, ?_, by omega, hd2⟩
              rw [Nat.pow_succ, Nat.mul_comm (2 ^ d), ← Nat.mul_assoc, Nat.mul_comm (x / 2) 2, ← HE.out]; exact HX.out
            case measure => simp [intOf]; omega
          · rw [hm] at hand
            have ht : (bits .and .u64 (x : Int) 1 == 0) = false := by rw [hand]; rfl
            clear hand
            go_wp2
            go_ret
            refine ⟨k * 64 + d, by simp, ?_, by omega, rfl⟩
            exact isTz_low (fun j hj => HZ.out j hj) ⟨x / 2, by rw [show 2 * (x / 2) + 1 = x by omega]; exact HX.out⟩ hd hlt
    · exact absurd (vl_zero (fun j hj => HZ.out j (by omega))) hne

/-- What popCount gives. -/
def PcPost (N K : Nat) (w : World) (e : Ending) (w' : World) : Prop := e = .returned (.int .i64 (pcs N K)) ∧ w = w'

set_option maxHeartbeats 400000 in
theorem pop_any (a : Option Addr) (n c : Nat) (f : Nat → Nat) (w : World) (hn : n ≤ 1000000) (h : Rd w a n f) (hf : ∀ j, j < n → f j < B) :
    Calls Try.prog 12 #[.slice a n c] w fun e w' => PcPost (vl f n) (64 * n) w e w' := by
  go_enter Try.func12, Try.ntmps12
  go_wp2_with fail
  go_loop [3, 4] (fun vc vi => ∃ i : Nat, i ≤ n ∧ vi = .int .i64 i ∧ vc = .int .i64 (pcs (vl f i) (64 * i))) (fun _ vi => n - (intOf vi).toNat)
  case atStart => exact ⟨0, Nat.zero_le _, rfl, rfl⟩
  case round =>
    obtain ⟨i, hi, rfl, rfl⟩ := hrel
    by_cases hlt : i < n
    · obtain ⟨b, o, rfl, hc⟩ := h (by omega)
      have hck := hc i (by omega)
      have hki : (i : Int) < (n : Int) := by omega
      have hfi := hf i hlt
      clear hc
      have hP := pcs_le (vl f i) (64 * i)
      have HW : Hid (pcs (vl f (i + 1)) (64 * (i + 1)) = pcs (vl f i) (64 * i) + pcs (f i) 64) := pcs_word (fun j hj => hf j (by omega))
      generalize pcs (vl f i) (64 * i) = p at hP HW
      go_wp2_with fail
      go_loop [3, 5] (fun vc vx => ∃ x t : Nat, vx = .int .u64 x ∧ vc = .int .i64 (p + pcs (f i) t : Nat) ∧ x = f i / 2 ^ t ∧ t ≤ 64) (fun _ vx => (intOf vx).toNat)
      case atStart => exact ⟨f i, 0, rfl, rfl, by simp, by omega⟩
      case round =>
        obtain ⟨x, t, rfl, rfl, hx, ht⟩ := hrel
        have HX : Hid (x = f i / 2 ^ t) := hx
        have hxB : x < B := by rw [hx]; exact Nat.lt_of_le_of_lt (Nat.div_le_self _ _) hfi
        clear hx
        have hq := pcs_le (f i) t
        by_cases hx0 : x = 0
        · have hlt2 : f i < 2 ^ t := by
            have h0 : f i / 2 ^ t = 0 := by rw [← HX.out]; exact hx0
            rcases Nat.lt_or_ge (f i) (2 ^ t) with h | h
            · exact h
            · have := Nat.div_pos h (Nat.pow_pos (by omega)); omega
          have e1 : pcs (f i) t = pcs (f i) 64 := pcs_eq hlt2 hfi
          have HE : Hid (pcs (f i) t = pcs (f i) 64) := e1
          subst hx0
          clear e1
          go_wp2
          go_round
          case rel => exact ⟨i + 1, by omega, by go_num, by rw [HW.out, HE.out]⟩
          case measure => simp [intOf]; omega
        · have ht64 : t < 64 := by
            refine Nat.lt_of_not_le fun hge => hx0 ?_
            rw [HX.out]
            refine Nat.div_eq_of_lt (Nat.lt_of_lt_of_le hfi ?_)
            exact Nat.pow_le_pow_right (by omega) hge
          have hand := and_one x hxB
          have HP : Hid (pcs (f i) (t + 1) = pcs (f i) t + x % 2) := (by rw [HX.out]; rfl : pcs (f i) (t + 1) = pcs (f i) t + x % 2)
          generalize pcs (f i) t = u at hq HP
          go_wp2
          go_round
          case rel => exact ⟨x / 2, t + 1, half x, by rw [HP.out]; go_num, by rw [half_pow, ← HX.out], by omega⟩
          case measure => simp [intOf]; omega
    · go_wp2
      go_ret
      obtain rfl : i = n := by omega
      exact ⟨rfl, rfl⟩
end Go.Proofs.Qxb6617989a
