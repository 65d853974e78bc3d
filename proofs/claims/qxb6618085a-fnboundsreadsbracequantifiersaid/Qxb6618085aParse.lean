import Derived.Test.Qxb6618085aProg
import Derived.Test.Qxb6618085aMem
import Derived.WalkKit
import Derived.OwnWalk
import Derived.WalkSpells
import Derived.BigRegion
import Derived.RegionTactic
import Derived.Deep.QuietTactic
import Derived.BigQuiet
import Derived.Laws.Cover4
import Derived.Deep.LoopGhost
namespace Go.Proofs.Qxb6618085a
open Go.RowKit Plain

theorem isDigit_any (x : Int) (w : World) : Calls Try.prog 39 #[.int .i32 x] w fun e w' => e = .returned (.bool (isD x)) ∧ w' = w := by
  by_cases h1 : 48 ≤ x
  · by_cases h2 : x ≤ 57
    · go_enter Try.func39, Try.ntmps39
      go_wp2
      go_ret
      exact ⟨by simp [isD_mk h1 h2], rfl⟩
    · have hf : isD x = false := isD_false (by omega)
      go_enter Try.func39, Try.ntmps39
      go_wp2
      go_ret
      exact ⟨by simp, rfl⟩
  · have hf : isD x = false := isD_false (by omega)
    go_enter Try.func39, Try.ntmps39
    go_wp2
    go_ret
    exact ⟨by simp, rfl⟩

theorem peek_yes (pb b o n c k : Nat) (f : Nat → Int) (w : World) (hn : n ≤ 1000000) (h : Pr w pb b o n c k f) (hk : k < n) (ch : Int) (hc : f k = ch) :
    Calls Try.prog 40 #[.pointer (some ⟨pb, 0, none⟩), .int .i64 0, .int .i32 ch] w fun e w' => e = .returned (.bool true) ∧ w' = w := by
  obtain ⟨h1, h2, h3, h4, h5⟩ := h
  have h6 := h4 k hk
  rw [hc] at h6
  have hki : (k : Int) < (n : Int) := by omega
  clear hc
  go_enter Try.func40, Try.ntmps40
  go_wp2
  go_ret
  exact ⟨by simp, rfl⟩
theorem peek_no (pb b o n c k : Nat) (f : Nat → Int) (w : World) (hn : n ≤ 1000000) (hkn : k ≤ n) (h : Pr w pb b o n c k f) (ch : Int) (hc : ¬ (k < n ∧ f k = ch)) :
    Calls Try.prog 40 #[.pointer (some ⟨pb, 0, none⟩), .int .i64 0, .int .i32 ch] w fun e w' => e = .returned (.bool false) ∧ w' = w := by
  obtain ⟨h1, h2, h3, h4, h5⟩ := h
  by_cases hk : k < n
  · have h6 := h4 k hk
    have hne : ¬ f k = ch := fun e => hc ⟨hk, e⟩
    have hki : (k : Int) < (n : Int) := by omega
    generalize f k = y at h6 hne
    have hne' : (y == ch) = false := beq_eq_false_iff_ne.2 hne
    clear hc
    go_enter Try.func40, Try.ntmps40
    go_wp2
    go_ret
    exact ⟨by simp, rfl⟩
  · have hki : ¬ (k : Int) < (n : Int) := by omega
    go_enter Try.func40, Try.ntmps40
    go_wp2
    go_ret
    exact ⟨by simp, rfl⟩
theorem next_yes (pb b o n c k : Nat) (f : Nat → Int) (w : World) (hn : n ≤ 1000000) (h : Pr w pb b o n c k f) (hk : k < n) (ch : Int) (hc : f k = ch) :
    Calls Try.prog 38 #[.pointer (some ⟨pb, 0, none⟩), .int .i32 ch] w fun e w' => e = .returned (.bool true) ∧ Pr w' pb b o n c (k + 1) f ∧ Kp pb w w' := by
  have h1 := h.pos
  have h2 := h.free
  go_enter Try.func38, Try.ntmps38
  go_wp2_with (go_at_call 40; refine (peek_yes pb b o n c k f w hn h hk ch hc).mono ?_; rintro e w' ⟨rfl, hw⟩; obtain rfl := hw.symm; clear hw)
  go_ret
  exact ⟨rfl, h.set (k + 1) (by omega), (Kp.refl _ _).setCell _ _⟩
theorem next_no (pb b o n c k : Nat) (f : Nat → Int) (w : World) (hn : n ≤ 1000000) (hkn : k ≤ n) (h : Pr w pb b o n c k f) (ch : Int) (hc : ¬ (k < n ∧ f k = ch)) :
    Calls Try.prog 38 #[.pointer (some ⟨pb, 0, none⟩), .int .i32 ch] w fun e w' => e = .returned (.bool false) ∧ w' = w := by
  go_enter Try.func38, Try.ntmps38
  go_wp2_with (go_at_call 40; refine (peek_no pb b o n c k f w hn hkn h ch hc).mono ?_; rintro e w' ⟨rfl, hw⟩; obtain rfl := hw.symm; clear hw)
  go_ret
  exact ⟨rfl, rfl⟩

/-! ### 'string(rs)' of digits -/
theorem encode_digit (x : Int) (h : isD x = true) : Utf8.encode x = ⟨#[UInt8.ofNat x.toNat]⟩ := by
  obtain ⟨h1, h2⟩ := isD_true h
  obtain ⟨y, rfl⟩ := Int.eq_ofNat_of_zero_le (show 0 ≤ x by omega)
  have hv : Utf8.valid (y : Int) = true := by simp [Utf8.valid]; omega
  simp only [Utf8.encode, hv, if_true, Int.toNat_natCast]
  rw [if_pos (by omega)]
theorem fold_digits : ∀ (ns : List Int) (s : ByteArray), (∀ x ∈ ns, isD x = true) → ns.foldl (fun r n => r ++ Utf8.encode n) s = ⟨s.data ++ (ns.map fun x => UInt8.ofNat x.toNat).toArray⟩
  | [], s, _ => by simp
  | x :: ns, s, h => by
    rw [List.foldl_cons, fold_digits ns _ (fun y hy => h y (by simp [hy])), encode_digit x (h x (by simp))]
    simp
theorem runes_digits (ns : List Int) (h : ∀ x ∈ ns, isD x = true) : runesBytes ns = ⟨(ns.map fun x => UInt8.ofNat x.toNat).toArray⟩ := by
  unfold runesBytes
  rw [fold_digits ns _ h]
  simp [ByteArray.empty, ByteArray.emptyWithCapacity]
  rfl
theorem conv_digits (W : World) (b o k e n c : Nat) (f : Nat → Int) (hR : Rs W b o n f) (hke : k ≤ e) (hen : e ≤ n) (hall : ∀ i, k ≤ i → i < e → isD (f i) = true) :
    (convert 38 9 (.slice (some ⟨b, o + k, none⟩) (e - k) c)).run Try.prog W = .ok (.string (txt f k e)) W := by
  have h := run_convert_runes W 38 9 21 ⟨b, o + k, none⟩ (e - k) c ((List.range (e - k)).map fun j => f (k + j)) (by simp) Try.underlying38 Try.underlying21 Try.underlying9
    (by
      intro j hj
      simp at hj
      rw [WideShapes.add_plain]
      have := hR (k + j) (by omega)
      rw [← Nat.add_assoc] at this
      rw [this]
      simp [List.getD_eq_getElem?_getD, hj])
  rw [h]
  have hl : ((List.range (e - k)).map fun j => f (k + j)).take (e - k) = (List.range (e - k)).map fun j => f (k + j) := List.take_of_length_le (by simp)
  rw [hl, runes_digits _ (by intro x hx; simp at hx; obtain ⟨j, hj, rfl⟩ := hx; exact hall _ (by omega) (by omega))]
  simp [txt]

/-- What digits leaves. -/
def DgPost (pb b o n c k : Nat) (f : Nat → Int) (w : World) (e : Ending) (w' : World) : Prop :=
  ∃ d, Run f n k d ∧ e = .returned (.string (txt f k d)) ∧ Pr w' pb b o n c d f ∧ Kp pb w w'

set_option maxHeartbeats 1000000 in
theorem digits_any (pb b o n c k : Nat) (f : Nat → Int) (w : World) (hn : n ≤ 1000000) (hnc : n ≤ c) (hcm : c ≤ maxLen) (hkn : k ≤ n) (h : Pr w pb b o n c k f) :
    Calls Try.prog 37 #[.pointer (some ⟨pb, 0, none⟩)] w fun e w' => DgPost pb b o n c k f w e w' := by
  have h1 := h.pos
  unfold maxLen at hcm
  go_enter Try.func37, Try.ntmps37
  go_wp2_with fail
  go_loopg [30] (n + 1 - k) (fun g u wr => ∃ j : Nat, g = n + 1 - j ∧ k ≤ j ∧ j ≤ n ∧ Pr wr pb b o n c j f ∧ (∀ i, k ≤ i → i < j → isD (f i) = true) ∧ Kp pb w wr)
  case atStart => exact ⟨k, rfl, Nat.le_refl _, hkn, h, fun i h1 h2 => by omega, Kp.refl _ _⟩
  case round =>
    obtain ⟨j, rfl, hkj, hjn, hP, hall, hK⟩ := hrel
    have HALL : Hid _ := hall
    clear hall h1 h
    obtain ⟨p1, p2, p3, p4, p5⟩ := hP
    by_cases hlt : j < n
    · have p6 := p4 j hlt
      have hji : (j : Int) < (n : Int) := by omega
      cases hd : isD (f j) with
      | true =>
        generalize hy : f j = y at p6 hd
        have HY : Hid _ := hy
        clear hy
        go_wp2
        go_quiet ((go_at_call 39; exact Calls.quiet_of_same (isDigit_any _ _)))
        go_wp2
        go_roundg (n + 1 - (j + 1))
        case measure => omega
        case rel =>
          refine ⟨j + 1, rfl, by omega, by omega, (Pr.set (k := j) ⟨p1, p2, p3, p4, p5⟩ (j + 1) (by omega)).drewN nq, fun i h1 h2 => ?_, (hK.setCell _ _).drewN nq⟩
          by_cases e : i = j
          · rw [e, HY.out]; exact hd
          · exact HALL.out i h1 (by omega)
      | false =>
        generalize hy : f j = y at p6 hd
        have HY : Hid _ := hy
        clear hy
        have HP4 : Hid _ := p4
        have hcv := fun q => conv_digits (wr.drewN q) b o k j n (c - k) f (fun t ht => p4 t ht) hkj hjn HALL.out
        clear p4
        go_wp2
        go_quiet ((go_at_call 39; exact Calls.quiet_of_same (isDigit_any _ _)))
        go_wp2_with fail
        go_quiet (fail)
        go_wp2
        go_ret
        exact ⟨j, ⟨hkj, hjn, HALL.out, fun _ => by rw [HY.out]; exact hd⟩, rfl, ⟨p1, p2, p3, HP4.out, p5⟩, ⟨hK.os, hK.tape, hK.output, hK.size, hK.block⟩⟩
    · have hji : decide ((j : Int) < (n : Int)) = false := decide_eq_false (by omega)
      have HP4 : Hid _ := p4
      by_cases hkc : c = k
      · obtain rfl : j = c := by omega
        obtain rfl : n = j := by omega
        subst hkc
        have hcv := fun q => conv_digits (wr.drewN q) b o 0 0 n 0 f (fun t ht => p4 t ht) (Nat.le_refl _) (Nat.zero_le _) (fun i _ h => absurd h (Nat.not_lt_zero _))
        simp only [Nat.add_zero, Nat.sub_zero, txt_self] at hcv
        clear p4
        go_wp2
        go_quiet (fail)
        go_wp2_with fail
        go_quiet (fail)
        go_wp2
        go_ret
        exact ⟨n, ⟨hkj, hjn, HALL.out, fun h => absurd h hlt⟩, (by rw [txt_self]; rfl), ⟨p1, p2, p3, HP4.out, p5⟩, ⟨hK.os, hK.tape, hK.output, hK.size, hK.block⟩⟩
      · have hcv := fun q => conv_digits (wr.drewN q) b o k j n (c - k) f (fun t ht => p4 t ht) hkj hjn HALL.out
        clear p4
        go_wp2
        go_quiet (fail)
        go_wp2_with fail
        go_quiet (fail)
        go_wp2
        go_ret
        exact ⟨j, ⟨hkj, hjn, HALL.out, fun h => absurd h hlt⟩, rfl, ⟨p1, p2, p3, HP4.out, p5⟩, ⟨hK.os, hK.tape, hK.output, hK.size, hK.block⟩⟩
end Go.Proofs.Qxb6618085a
