import Derived.Test.Qxb6617989aGrow
import Derived.Test.Qxb6617989aNorm
import Derived.BigRegion
import Derived.RegionTactic
namespace Go.Proofs.Qxb6617989a
open Go.RowKit Plain

theorem cast_shr (x k : Nat) : (x : Int) / 2 ^ k = ((x / 2 ^ k : Nat) : Int) := by
  rw [Int.natCast_ediv, Int.natCast_pow]; rfl
theorem Rw.setZ {w : World} {b o c : Nat} {f : Nat → Nat} (h : Rw w b o c f) (i x : Nat) {v : Int} (hi : i < c) (e : v = (x : Int)) : Rw (w.setCell ⟨b, o + i, none⟩ (.int .u64 v)) b o c (upd f i x) := by
  subst e; exact h.set i x hi

theorem cast_shl (x b : Nat) : IntKind.u64.wrap ((x : Int) * 2 ^ b) = ((x * 2 ^ b % B : Nat) : Int) := by
  rw [IntKind.wrap_u64, B_eq, Int.natCast_emod, Int.natCast_mul, Int.natCast_pow]; rfl
theorem u64_wraps (n : Int) (h0 : 0 ≤ n) (h : n < 2 ^ 64) : IntKind.u64.wrap n = n := by
  rw [IntKind.wrap_u64]
  have e : (2 : Int) ^ 64 = 18446744073709551616 := by decide
  omega
theorem cast_or (x y b : Nat) (hb : b < 64) (hy : y < B) : bits .or .u64 (IntKind.u64.wrap ((x : Int) * 2 ^ b)) ((y : Int) / 2 ^ (64 - b)) = ((x * 2 ^ b % B + y / 2 ^ (64 - b) : Nat) : Int) := by
  rw [cast_shl, cast_shr, ← or_word x y b hb hy]
  exact (bits_nat .u64 64 (by decide) u64_wraps _ _ (Nat.mod_lt _ B_pos) (Nat.lt_of_le_of_lt (Nat.div_le_self _ _) hy)).2
theorem zero27 (w : World) : (zeroValue 27).run Try.prog w = .ok (.int .u64 0) w := by
  obtain ⟨i0, hi, hz0, hz1, hz2⟩ := info_parts info27
  simp [zeroValue, typeInfo, hi, hz0]
/-- 'clear(z[:n])'. -/
theorem run_clear_words (W : World) (b o n c : Nat) (f : Nat → Nat) (hR : Rw W b o c f) (hn : n ≤ c) : ∀ ty, (Builtin.clear_ #[31] ty #[.slice (some ⟨b, o, none⟩) n c]).run Try.prog W = .ok (.tuple #[]) (W.setCells b o ((List.range n).map fun _ => Value.int .u64 ((0 : Nat) : Int))) := by
  intro ty
  have e : ((List.range n).map fun _ => Value.int .u64 ((0 : Nat) : Int)) = List.replicate n (Value.int .u64 0) := by
    simp [List.map_const']
  rw [e]
  by_cases h0 : n = 0
  · subst h0
    simp [Builtin.clear_, run_underlying Try.underlying31, World.setCells]
  · exact Lib.run_clear_slice W 31 27 ty (.int .u64 0) Try.underlying31 zero27 rfl rfl b o n c (by omega) (fun j hj => by rw [(hR j (by omega)).1]; rfl) (fun j hj => (hR j (by omega)).2)

/-- What shl leaves: words without a zero word at the top that spell z times 2^s. -/
def ShlPost (blk n s : Nat) (f : Nat → Nat) (w : World) (e : Ending) (w' : World) : Prop :=
  ∃ b1 o1 c1 n1 g, e = .returned (.slice (some ⟨b1, o1, none⟩) n1 c1) ∧ n1 ≤ c1 ∧ c1 ≤ maxLen ∧ Rw w' b1 o1 c1 g ∧ (∀ j, j < n1 → g j < B) ∧ Top g n1 ∧ vl g n1 = vl f n * 2 ^ s ∧ Kp blk w w' ∧ (b1 = blk ∨ w.heap.size ≤ b1)

set_option maxHeartbeats 1000000 in
theorem shl_any (blk off m c s : Nat) (f : Nat → Nat) (w : World) (hn : m + 1 ≤ c) (hc : c ≤ maxLen) (hm : m ≤ 100000) (hs : s ≤ 200000) (hR : Rw w blk off c f) (hf : ∀ j, j < m + 1 → f j < B) :
    Calls Try.prog 13 #[.slice (some ⟨blk, off, none⟩) ((m + 1 : Nat)) c, .int .u64 s] w fun e w' => ShlPost blk (m + 1) s f w e w' := by
  obtain ⟨wd, b, hb, hsd⟩ : ∃ wd b, b < 64 ∧ s = 64 * wd + b := ⟨s / 64, s % 64, by omega, by omega⟩
  have hq : (s : Int) / 64 = (wd : Int) := by omega
  have hr : (s : Int) % 64 = (b : Int) := by omega
  have hwd : wd ≤ 3125 := by omega
  have hz : (((m : Int) + 1) == 0) = false := beq_eq_false_iff_ne.2 (by omega)
  have HSD : Hid (s = 64 * wd + b) := hsd
  clear hsd
  go_enter Try.func13, Try.ntmps13
  go_wp2_with fail
  rw [show ((wd : Int) + 1) = ((wd + 1 : Nat) : Int) from by omega]
  refine (grow_any blk off (m + 1) c (wd + 1) f w hn hc (by omega) hR).mono ?_
  rintro e w1 ⟨b1, o1, c1, g, rfl, hc1, hcm, hR1, hg, hK1, hb1⟩
  have hcm' := hcm
  unfold maxLen at hcm'
  have hlast := hR1 m (by omega)
  have hput := hR1 (m + 1 + wd) (by omega)
  obtain ⟨hl1, hl2⟩ := hlast
  obtain ⟨hp1, hp2⟩ := hput
  rw [hg m (by omega)] at hl1
  go_wp2_with fail
  go_loopw [8] (fun v wr => ∃ (k : Nat) (h : Nat → Nat), k ≤ m ∧ v = .int .i64 k ∧ Rw wr b1 o1 c1 h ∧ (∀ j, j ≤ k → h j = f j) ∧ (∀ j, k < j → j ≤ m + 1 → h (j + wd) = res f (m + 1) b j) ∧ Kp b1 w1 wr) (fun v _ => (intOf v).toNat)
  case atStart =>
    refine ⟨m, upd g (m + 1 + wd) (f m / 2 ^ (64 - b)), Nat.le_refl _, rfl, hR1.setZ _ _ (by omega) (cast_shr _ _), fun j hj => ?_, fun j h1 h2 => ?_, (Kp.refl _ _).setCell _ _⟩
    · rw [upd_other _ _ (by omega)]; exact hg j (by omega)
    · obtain rfl : j = m + 1 := by omega
      rw [upd_same]; simp [res]
  case round =>
    obtain ⟨k, h, hk, rfl, hRk, hlo, hhi, hKk⟩ := hrel
    match k, hk, hlo, hhi with
    | 0, hk, hlo, hhi =>
      obtain ⟨ha1, ha2⟩ := hRk 0 (by omega)
      obtain ⟨he1, he2⟩ := hRk wd (by omega)
      rw [hlo 0 (by omega)] at ha1
      have HLO : Hid _ := hlo
      have HHI : Hid _ := hhi
      clear hlo hhi hg hp1 hp2 hl1 hl2
      generalize hh : h wd = x0 at he1
      clear hh
      simp only [Nat.add_zero] at ha1 ha2
      have hR2 := hRk.setZ wd (f 0 * 2 ^ b % B) (by omega) (cast_shl (f 0) b)
      have hK2 : Kp b1 w1 _ := hKk.setCell (o1 + wd) (.int .u64 (IntKind.u64.wrap (↑(f 0) * 2 ^ b)))
      have hcl := run_clear_words _ b1 o1 wd c1 _ hR2 (by omega)
      have hR3 := hR2.setCells (fun _ => 0) wd (by omega)
      have hK3 := Kp.setCells ((List.range wd).map fun _ => Value.int .u64 ((0 : Nat) : Int)) o1 _ hK2
      have hraw : ∀ j, j < m + 1 + wd + 1 → ovr (fun _ => 0) wd (upd h wd (f 0 * 2 ^ b % B)) j = raw f (m + 1) wd b j := by
        intro j hj
        unfold raw
        by_cases h1 : j < wd
        · rw [ovr_lt _ _ h1, if_pos h1]
        · rw [ovr_ge _ _ h1, if_neg h1]
          by_cases h2 : j = wd
          · subst h2; rw [upd_same, Nat.sub_self]; simp [res]
          · rw [upd_other _ _ h2, ← HHI.out (j - wd) (by omega) (by omega), Nat.sub_add_cancel (by omega)]
      generalize (wr.setCell ⟨b1, o1 + wd, none⟩ (.int .u64 (IntKind.u64.wrap (↑(f 0) * 2 ^ b)))).setCells b1 o1 ((List.range wd).map fun _ => Value.int .u64 ((0 : Nat) : Int)) = W3 at hcl hR3 hK3
      generalize ovr (fun _ => 0) wd (upd h wd (f 0 * 2 ^ b % B)) = H at hR3 hraw
      have HRAW : Hid _ := hraw
      clear hraw hR2 hK2
      go_wp2_with (go_at_call 15; refine (norm_any b1 o1 (m + 1 + wd + 1) c1 H W3 (by omega) hcm (fun j hj => (hR3 j (by omega)).1)).mono ?_; rintro e w' ⟨rfl, rfl⟩)
      go_ret
      have hraw : ∀ j, j < m + 1 + wd + 1 → H j = raw f (m + 1) wd b j := HRAW.out
      have hle := nrm_le H (m + 1 + wd + 1)
      refine ⟨b1, o1, c1, nrm H (m + 1 + wd + 1), H, rfl, by omega, hcm, hR3, fun j hj => ?_, top_nrm _ _, ?_, ?_, hb1⟩
      · rw [hraw j (by omega)]; exact raw_lt f (m + 1) wd b hb hf j (by omega)
      · rw [vl_nrm, vl_congr hraw, vl_raw f (m + 1) wd b (by omega) (by omega), ← HSD.out]
      · rcases hb1 with rfl | hb1
        · exact hK1.trans hK3
        · exact hK1.fresh hK3 hb1
    | k + 1, hk, hlo, hhi =>
      obtain ⟨ha1, ha2⟩ := hRk (k + 1) (by omega)
      obtain ⟨hd1, hd2⟩ := hRk k (by omega)
      obtain ⟨he1, he2⟩ := hRk (k + 1 + wd) (by omega)
      rw [hlo (k + 1) (by omega)] at ha1
      rw [hlo k (by omega)] at hd1
      have HLO : Hid _ := hlo
      have HHI : Hid _ := hhi
      clear hlo hhi hg hp1 hp2 hl1 hl2
      generalize hh : h (k + 1 + wd) = x0 at he1
      clear hh
      go_wp2
      go_region
      go_wp2
      go_roundw
      case rel =>
        have hlo : ∀ j, j ≤ k + 1 → h j = f j := HLO.out
        have hhi : ∀ j, k + 1 < j → j ≤ m + 1 → h (j + wd) = res f (m + 1) b j := HHI.out
        refine ⟨k, upd h (k + 1 + wd) (f (k + 1) * 2 ^ b % B + f k / 2 ^ (64 - b)), by omega, rfl, (hRk.setZ _ _ (by omega) (cast_or _ _ _ hb (hf k (by omega)))).drew, fun j hj => ?_, fun j h1 h2 => ?_, (hKk.setCell _ _).drew⟩
        · rw [upd_other _ _ (by omega)]; exact hlo j (by omega)
        · by_cases e : j = k + 1
          · subst e; rw [upd_same]; simp [res, show k + 1 < m + 1 by omega]
          · rw [upd_other _ _ (by omega)]; exact hhi j (by omega) h2
      case measure => simp [intOf]
end Go.Proofs.Qxb6617989a
