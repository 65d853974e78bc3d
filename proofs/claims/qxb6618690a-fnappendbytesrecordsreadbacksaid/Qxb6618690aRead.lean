import Derived.Test.Qxb6618690aAppend
namespace Go.Proofs.Qxb6618690a
open Go.RowKit

theorem and127 (c : Nat) (h : c < 256) : bits .and .u8 (c : Int) 127 = ((c % 128 : Nat) : Int) := by
  have h1 := (bits_nat .u8 8 (by decide) wraps_u8 c 127 (by omega) (by decide)).1
  rw [show (c &&& 127) = c % 128 from Nat.and_two_pow_sub_one_eq_mod c 7] at h1
  exact h1
theorem u64_wraps (n : Int) (h0 : 0 ≤ n) (h : n < 2 ^ 64) : IntKind.u64.wrap n = n := by
  rw [IntKind.wrap_u64]
  have e : (2 : Int) ^ 64 = 18446744073709551616 := by decide
  omega
theorem or_shift (v b k : Nat) (hv : v < 2 ^ k) (hb : b < 128) (hk : k ≤ 28) : bits .or .u64 (v : Int) ((b * 2 ^ k : Nat) : Int) = ((v + b * 2 ^ k : Nat) : Int) := by
  have hp : 2 ^ k ≤ 2 ^ 28 := Nat.pow_le_pow_right (by omega) hk
  have h1 : b * 2 ^ k ≤ 127 * 2 ^ 28 := Nat.mul_le_mul (by omega) hp
  have h2 := (bits_nat .u64 64 (by decide) u64_wraps v (b * 2 ^ k) (by omega) (by omega)).2
  rw [h2]
  have := Nat.two_pow_add_eq_or_of_lt hv b
  rw [Nat.or_comm, Nat.mul_comm b, ← this]
  omega

/-- What readUvarint gives. -/
def RuPost (x q : Nat) (w : World) (e : Ending) (w' : World) : Prop := e = .returned (.tuple #[.int .u64 x, .int .i64 q, .bool true]) ∧ w = w'

theorem or_zero (b : Nat) (hb : b < 128) : bits .or .u64 0 (b : Int) = (b : Int) := by
  have := or_shift 0 b 0 (by omega) hb (by omega)
  simpa using this
theorem or_7 (v b : Nat) (hv : v < 128) (hb : b < 128) : bits .or .u64 (v : Int) ((b : Int) * 128) = (v : Int) + (b : Int) * 128 := by
  have := or_shift v b 7 (by omega) hb (by omega)
  simpa using this
theorem or_14 (v b : Nat) (hv : v < 16384) (hb : b < 128) : bits .or .u64 (v : Int) ((b : Int) * 16384) = (v : Int) + (b : Int) * 16384 := by
  have := or_shift v b 14 (by omega) hb (by omega)
  simpa using this

set_option maxHeartbeats 1000000 in
set_option maxRecDepth 100000 in
theorem read1 (g n c p x : Nat) (w : World) (hn : n ≤ 10000000) (hp : p + 1 ≤ n) (hx : x < 128) (h0 : w.cell? ⟨g, p, none⟩ = some (.int .u8 x)) :
    Calls Try.prog 15 #[.slice (some ⟨g, 0, none⟩) n c, .int .i64 p] w fun e w' => RuPost x (p + 1) w e w' := by
  have ha := and127 x (by omega)
  rw [Nat.mod_eq_of_lt hx] at ha
  have ho := or_zero x hx
  have hpi : (p : Int) < (n : Int) := by omega
  go_enter Try.func15, Try.ntmps15
  go_wp2_with fail
  go_loop [7, 8, 9] (fun v s i => v = .int .u64 0 ∧ s = .int .u64 0 ∧ i = .int .i64 0) (fun _ _ i => 10 - (intOf i).toNat)
  case atStart => exact ⟨rfl, rfl, rfl⟩
  case round =>
    obtain ⟨rfl, rfl, rfl⟩ := hrel
    go_wp2
    go_ret3
    exact ⟨by simp, rfl⟩

set_option maxHeartbeats 1000000 in
set_option maxRecDepth 100000 in
theorem read2 (g n c p c0 c1 : Nat) (w : World) (hn : n ≤ 10000000) (hp : p + 2 ≤ n) (h0 : w.cell? ⟨g, p, none⟩ = some (.int .u8 c0)) (h1 : w.cell? ⟨g, p + 1, none⟩ = some (.int .u8 c1)) (hc0 : 128 ≤ c0) (hc0' : c0 < 256) (hc1 : 0 < c1) (hc1' : c1 < 128) :
    Calls Try.prog 15 #[.slice (some ⟨g, 0, none⟩) n c, .int .i64 p] w fun e w' => RuPost (c0 % 128 + c1 * 128) (p + 2) w e w' := by
  have ha := and127 c0 hc0'
  have hb := and127 c1 (by omega)
  rw [Nat.mod_eq_of_lt hc1'] at hb
  obtain ⟨lo, hlo, HLO⟩ : ∃ lo, lo < 128 ∧ Hid (c0 % 128 = lo) := ⟨c0 % 128, Nat.mod_lt _ (by omega), rfl⟩
  rw [HLO.out] at ha ⊢
  have ho := or_zero lo hlo
  have ho2 := or_7 lo c1 hlo hc1'
  have hpi : (p : Int) < (n : Int) := by omega
  have hpi2 : (p : Int) + 1 < (n : Int) := by omega
  have hz : ((c1 : Int) == 0) = false := beq_eq_false_iff_ne.2 (by omega)
  go_enter Try.func15, Try.ntmps15
  go_wp2_with fail
  go_loop [7, 8, 9] (fun v s i => (v = .int .u64 0 ∧ s = .int .u64 0 ∧ i = .int .i64 0) ∨ (v = .int .u64 lo ∧ s = .int .u64 7 ∧ i = .int .i64 1)) (fun _ _ i => 10 - (intOf i).toNat)
  case atStart => exact .inl ⟨rfl, rfl, rfl⟩
  case round =>
    rcases hrel with ⟨rfl, rfl, rfl⟩ | ⟨rfl, rfl, rfl⟩
    · go_wp2
      go_round
      case rel => exact .inr ⟨rfl, rfl, rfl⟩
      case measure => simp [intOf]
    · go_wp2
      go_ret3
      exact ⟨by simp; omega, rfl⟩

set_option maxHeartbeats 1000000 in
set_option maxRecDepth 100000 in
theorem read3 (g n c p c0 c1 c2 : Nat) (w : World) (hn : n ≤ 10000000) (hp : p + 3 ≤ n) (h0 : w.cell? ⟨g, p, none⟩ = some (.int .u8 c0)) (h1 : w.cell? ⟨g, p + 1, none⟩ = some (.int .u8 c1)) (h2 : w.cell? ⟨g, p + 2, none⟩ = some (.int .u8 c2))
    (hc0 : 128 ≤ c0) (hc0' : c0 < 256) (hc1 : 128 ≤ c1) (hc1' : c1 < 256) (hc2 : 0 < c2) (hc2' : c2 < 128) :
    Calls Try.prog 15 #[.slice (some ⟨g, 0, none⟩) n c, .int .i64 p] w fun e w' => RuPost (c0 % 128 + c1 % 128 * 128 + c2 * 16384) (p + 3) w e w' := by
  have ha := and127 c0 hc0'
  have hb := and127 c1 hc1'
  have hd := and127 c2 (by omega)
  rw [Nat.mod_eq_of_lt hc2'] at hd
  obtain ⟨lo, hlo, HLO⟩ : ∃ lo, lo < 128 ∧ Hid (c0 % 128 = lo) := ⟨c0 % 128, Nat.mod_lt _ (by omega), rfl⟩
  obtain ⟨mi, hmi, HMI⟩ : ∃ mi, mi < 128 ∧ Hid (c1 % 128 = mi) := ⟨c1 % 128, Nat.mod_lt _ (by omega), rfl⟩
  rw [HLO.out] at ha ⊢
  rw [HMI.out] at hb ⊢
  have ho := or_zero lo hlo
  have ho2 := or_7 lo mi hlo hmi
  obtain ⟨v2, hv2, HV2⟩ : ∃ v2 : Nat, v2 < 16384 ∧ Hid (lo + mi * 128 = v2) := ⟨lo + mi * 128, by omega, rfl⟩
  have ho3 := or_14 v2 c2 hv2 hc2'
  rw [HV2.out]
  have ev : (lo : Int) + (mi : Int) * 128 = (v2 : Int) := by have := HV2.out; omega
  rw [ev] at ho2
  have hpi : (p : Int) < (n : Int) := by omega
  have hpi2 : (p : Int) + 1 < (n : Int) := by omega
  have hpi3 : (p : Int) + 2 < (n : Int) := by omega
  have hz : ((c2 : Int) == 0) = false := beq_eq_false_iff_ne.2 (by omega)
  clear ev
  go_enter Try.func15, Try.ntmps15
  go_wp2_with fail
  go_loop [7, 8, 9] (fun v s i => (v = .int .u64 0 ∧ s = .int .u64 0 ∧ i = .int .i64 0) ∨ (v = .int .u64 lo ∧ s = .int .u64 7 ∧ i = .int .i64 1) ∨ (v = .int .u64 v2 ∧ s = .int .u64 14 ∧ i = .int .i64 2)) (fun _ _ i => 10 - (intOf i).toNat)
  case atStart => exact .inl ⟨rfl, rfl, rfl⟩
  case round =>
    rcases hrel with ⟨rfl, rfl, rfl⟩ | ⟨rfl, rfl, rfl⟩ | ⟨rfl, rfl, rfl⟩
    · go_wp2
      go_round
      case rel => exact .inr (.inl ⟨rfl, rfl, rfl⟩)
      case measure => simp [intOf]
    · go_wp2
      go_round
      case rel => exact .inr (.inr ⟨rfl, rfl, rfl⟩)
      case measure => simp [intOf]
    · go_wp2
      go_ret3
      exact ⟨by simp; omega, rfl⟩

/-- A varint read back. -/
theorem read_any (g n c p x : Nat) (w : World) (hn : n ≤ 10000000) (hx : x < 2097152) (hp : p + (uv x).length ≤ n) (hc : ∀ j, j < (uv x).length → w.cell? ⟨g, p + j, none⟩ = some (.int .u8 (((uv x).getD j 0 : Nat) : Int))) :
    Calls Try.prog 15 #[.slice (some ⟨g, 0, none⟩) n c, .int .i64 p] w fun e w' => RuPost x (p + (uv x).length) w e w' := by
  by_cases h1 : x < 128
  · have e : uv x = [x] := by simp [uv, h1]
    rw [e] at hp hc ⊢
    exact read1 g n c p x w hn hp h1 (hc 0 (by simp))
  · by_cases h2 : x < 16384
    · have e : uv x = [x % 128 + 128, x / 128] := by simp [uv, h1, h2]
      rw [e] at hp hc ⊢
      have hr := read2 g n c p (x % 128 + 128) (x / 128) w hn hp (hc 0 (by simp)) (hc 1 (by simp)) (by omega) (by omega) (by omega) (by omega)
      rw [show (x % 128 + 128) % 128 + x / 128 * 128 = x by omega] at hr
      exact hr
    · have e : uv x = [x % 128 + 128, x / 128 % 128 + 128, x / 16384] := by simp [uv, h1, h2]
      rw [e] at hp hc ⊢
      have hr := read3 g n c p (x % 128 + 128) (x / 128 % 128 + 128) (x / 16384) w hn hp (hc 0 (by simp)) (hc 1 (by simp)) (hc 2 (by simp)) (by omega) (by omega) (by omega) (by omega) (by omega) (by omega)
      rw [show (x % 128 + 128) % 128 + (x / 128 % 128 + 128) % 128 * 128 + x / 16384 * 16384 = x by omega] at hr
      exact hr

set_option maxHeartbeats 1000000 in
set_option maxRecDepth 100000 in
theorem groups_any (n : Nat) (w : World) (hn : n ≤ 262144) : Calls Try.prog 17 #[.int .i64 n] w fun e w' => e = .returned (.int .i64 (((uv n).length : Nat) : Int)) ∧ w = w' := by
  by_cases h1 : n < 128
  · have e : (uv n).length = 1 := by simp [uv, h1]
    rw [e]
    clear e
    go_enter Try.func17, Try.ntmps17
    go_wp2_with fail
    go_loop [3, 4] (fun k l => k = .int .i64 1 ∧ l = .int .i64 128) (fun k _ => 9 - (intOf k).toNat)
    case atStart => exact ⟨rfl, rfl⟩
    case round =>
      obtain ⟨rfl, rfl⟩ := hrel
      go_wp2
      go_ret
      exact ⟨rfl, rfl⟩
  · by_cases h2 : n < 16384
    · have e : (uv n).length = 2 := by simp [uv, h1, h2]
      rw [e]
      clear e
      go_enter Try.func17, Try.ntmps17
      go_wp2_with fail
      go_loop [3, 4] (fun k l => (k = .int .i64 1 ∧ l = .int .i64 128) ∨ (k = .int .i64 2 ∧ l = .int .i64 16384)) (fun k _ => 9 - (intOf k).toNat)
      case atStart => exact .inl ⟨rfl, rfl⟩
      case round =>
        rcases hrel with ⟨rfl, rfl⟩ | ⟨rfl, rfl⟩
        · go_wp2
          go_round
          case rel => exact .inr ⟨rfl, rfl⟩
          case measure => simp [intOf]
        · go_wp2
          go_ret
          exact ⟨rfl, rfl⟩
    · have e : (uv n).length = 3 := by simp [uv, h1, h2]
      rw [e]
      clear e
      go_enter Try.func17, Try.ntmps17
      go_wp2_with fail
      go_loop [3, 4] (fun k l => (k = .int .i64 1 ∧ l = .int .i64 128) ∨ (k = .int .i64 2 ∧ l = .int .i64 16384) ∨ (k = .int .i64 3 ∧ ∃ M : Int, l = .int .i64 M ∧ 262144 < M ∧ M ≤ 1000000000)) (fun k _ => 9 - (intOf k).toNat)
      case atStart => exact .inl ⟨rfl, rfl⟩
      case round =>
        rcases hrel with ⟨rfl, rfl⟩ | ⟨rfl, rfl⟩ | ⟨rfl, M, rfl, hM1, hM2⟩
        · go_wp2
          go_round
          case rel => exact .inr (.inl ⟨rfl, rfl⟩)
          case measure => simp [intOf]
        · go_wp2
          go_round
          case rel => exact .inr (.inr ⟨rfl, _, rfl, by omega, by omega⟩)
          case measure => simp [intOf]
        · go_wp2
          go_ret
          exact ⟨rfl, rfl⟩
end Go.Proofs.Qxb6618690a
