/-
  THE PLAIN LAW OF 'shl', ITS SECOND PART: the highest bit, the lowest bit, how many bits. No Go in sight.
-/
import Derived.Test.Qxb6617989aPlain
namespace Go.Proofs.Qxb6617989a.Plain

/-- L is the length of N in bits. -/
def IsBl (N L : Nat) : Prop := N < 2 ^ L ∧ (L = 0 ∨ 2 ^ (L - 1) ≤ N)

theorem IsBl.le {N L M : Nat} (h : IsBl N L) (k : N < 2 ^ M) : L ≤ M := by
  rcases h.2 with h0 | h1
  · omega
  · have : 2 ^ (L - 1) < 2 ^ M := Nat.lt_of_le_of_lt h1 k
    have := (Nat.pow_lt_pow_iff_right (by omega)).1 this
    omega
theorem IsBl.uniq {N L M : Nat} (h : IsBl N L) (k : IsBl N M) : L = M := Nat.le_antisymm (h.le k.1) (k.le h.1)
theorem IsBl.zero {L : Nat} (h : IsBl 0 L) : L = 0 := h.uniq ⟨by simp, .inl rfl⟩
theorem IsBl.pos {N L : Nat} (h : IsBl N L) (hN : N ≠ 0) : L ≠ 0 := by
  intro e; subst e; have := h.1; simp at this; exact hN this
theorem IsBl.shl {N L : Nat} (h : IsBl N L) (hN : N ≠ 0) (s : Nat) : IsBl (N * 2 ^ s) (L + s) := by
  have hL := h.pos hN
  refine ⟨?_, .inr ?_⟩
  · rw [Nat.pow_add]; exact Nat.mul_lt_mul_of_pos_right h.1 (Nat.pow_pos (by omega))
  · rcases h.2 with h0 | h1
    · exact absurd h0 hL
    · rw [show L + s - 1 = (L - 1) + s by omega, Nat.pow_add]; exact Nat.mul_le_mul_right _ h1

theorem pow_B (i : Nat) : B ^ i = 2 ^ (64 * i) := by rw [B, ← Nat.pow_mul]

/-- The length in bits of a row whose word i is its highest that is not zero. -/
theorem isBl_top {f : Nat → Nat} {i c : Nat} (hf : ∀ j, j < i → f j < B) (hc : IsBl (f i) c) (hne : f i ≠ 0) : IsBl (vl f (i + 1)) (i * 64 + c) := by
  have h1 := vl_lt hf
  have hcp := hc.pos hne
  refine ⟨?_, .inr ?_⟩
  · show vl f i + f i * B ^ i < _
    have h2 := Nat.mul_le_mul_right (B ^ i) hc.1
    rw [Nat.succ_mul] at h2
    rw [Nat.pow_add, Nat.mul_comm (2 ^ (i * 64)), Nat.mul_comm i 64, ← pow_B]
    omega
  · show _ ≤ vl f i + f i * B ^ i
    rcases hc.2 with h0 | h3
    · exact absurd h0 hcp
    · have h2 := Nat.mul_le_mul_right (B ^ i) h3
      rw [show i * 64 + c - 1 = (c - 1) + 64 * i by omega, Nat.pow_add, ← pow_B]
      omega

theorem vl_skip {f : Nat → Nat} {i : Nat} : ∀ {n : Nat}, i ≤ n → (∀ j, i ≤ j → j < n → f j = 0) → vl f n = vl f i
  | 0, h, _ => by rw [show i = 0 by omega]
  | n + 1, h, hz => by
    by_cases e : i = n + 1
    · rw [e]
    · show vl f n + f n * B ^ n = _
      rw [hz n (by omega) (by omega), vl_skip (n := n) (by omega) (fun j h1 h2 => hz j h1 (by omega))]; simp

/-- Of a row without a zero word at the top: as many words as its bits want. -/
theorem top_words {f : Nat → Nat} {m L : Nat} (hf : ∀ j, j < m → f j < B) (ht : Top f m) (hL : IsBl (vl f m) L) : m = (L + 63) / 64 := by
  have h1 := vl_lt hf
  rw [pow_B] at h1
  have a := hL.le h1
  by_cases hm : m = 0
  · subst hm; have : L = 0 := hL.zero; subst this; rfl
  · have h2 := top_le ht hm
    rw [pow_B] at h2
    have : 2 ^ (64 * (m - 1)) < 2 ^ L := Nat.lt_of_le_of_lt h2 hL.1
    have := (Nat.pow_lt_pow_iff_right (by omega)).1 this
    omega

/-- t is the place of N's lowest bit. -/
def IsTz (N t : Nat) : Prop := ∃ q, N = (2 * q + 1) * 2 ^ t

theorem IsTz.shl {N t : Nat} (h : IsTz N t) (s : Nat) : IsTz (N * 2 ^ s) (t + s) := by
  obtain ⟨q, rfl⟩ := h
  exact ⟨q, by rw [Nat.pow_add, Nat.mul_assoc]⟩
theorem IsTz.le {N t u : Nat} (h : IsTz N t) (k : IsTz N u) : t ≤ u := by
  obtain ⟨p, rfl⟩ := h
  obtain ⟨q, hq⟩ := k
  refine Nat.le_of_not_lt fun hlt => ?_
  obtain ⟨d, rfl⟩ : ∃ d, t = u + (d + 1) := ⟨t - u - 1, by omega⟩
  rw [Nat.pow_add, Nat.mul_comm (2 ^ u), ← Nat.mul_assoc] at hq
  have := Nat.eq_of_mul_eq_mul_right (Nat.pow_pos (by omega)) hq
  rw [Nat.pow_succ, ← Nat.mul_assoc] at this
  omega
theorem IsTz.uniq {N t u : Nat} (h : IsTz N t) (k : IsTz N u) : t = u := Nat.le_antisymm (h.le k) (k.le h)

/-- The lowest bit of a row whose word i is its lowest that is not zero. -/
theorem isTz_low {f : Nat → Nat} {i c : Nat} (hz : ∀ j, j < i → f j = 0) (hc : IsTz (f i) c) (hc64 : c < 64) : ∀ {n : Nat}, i < n → IsTz (vl f n) (i * 64 + c)
  | 0, h => absurd h (Nat.not_lt_zero _)
  | n + 1, h => by
    by_cases e : i = n
    · subst e
      obtain ⟨q, hq⟩ := hc
      refine ⟨q, ?_⟩
      show vl f i + f i * B ^ i = _
      rw [vl_zero hz, hq, pow_B, Nat.zero_add, Nat.mul_assoc, ← Nat.pow_add]
      congr 2; omega
    · obtain ⟨q, hq⟩ := isTz_low hz hc hc64 (n := n) (by omega)
      obtain ⟨d, hd⟩ : ∃ d, 64 * n = (i * 64 + c) + (d + 1) := ⟨64 * n - (i * 64 + c) - 1, by omega⟩
      refine ⟨q + f n * 2 ^ d, ?_⟩
      show vl f n + f n * B ^ n = _
      rw [hq, pow_B, hd, Nat.pow_add 2 (i * 64 + c) (d + 1), Nat.pow_succ]
      generalize 2 ^ (i * 64 + c) = X
      generalize 2 ^ d = Y
      have e1 : f n * (X * (Y * 2)) = 2 * (f n * Y) * X := by
        rw [Nat.mul_comm Y 2, Nat.mul_comm X, ← Nat.mul_assoc, ← Nat.mul_assoc, Nat.mul_comm (f n) 2, Nat.mul_assoc 2]
      rw [e1, ← Nat.add_mul]
      congr 1
      omega

/-- How many of the first K bits of N are set. -/
def pcs (N : Nat) : Nat → Nat
  | 0 => 0
  | K + 1 => pcs N K + N / 2 ^ K % 2

theorem pcs_more {N K : Nat} (h : N < 2 ^ K) : ∀ d, pcs N (K + d) = pcs N K
  | 0 => rfl
  | d + 1 => by
    show pcs N (K + d) + N / 2 ^ (K + d) % 2 = _
    rw [pcs_more h d, Nat.div_eq_of_lt (Nat.lt_of_lt_of_le h (Nat.pow_le_pow_right (by omega) (by omega)))]
    rfl
theorem pcs_eq {N K M : Nat} (h : N < 2 ^ K) (k : N < 2 ^ M) : pcs N K = pcs N M := by
  by_cases e : K ≤ M
  · obtain ⟨d, rfl⟩ : ∃ d, M = K + d := ⟨M - K, by omega⟩
    exact (pcs_more h d).symm
  · obtain ⟨d, rfl⟩ : ∃ d, K = M + d := ⟨K - M, by omega⟩
    exact pcs_more k d
theorem pcs_le (N : Nat) : ∀ K, pcs N K ≤ K
  | 0 => Nat.le_refl _
  | K + 1 => by
    show pcs N K + N / 2 ^ K % 2 ≤ _
    have := pcs_le N K
    omega
theorem pcs_zero : ∀ K, pcs 0 K = 0
  | 0 => rfl
  | K + 1 => by show pcs 0 K + 0 / 2 ^ K % 2 = 0; rw [pcs_zero K]; simp
theorem pcs_shl (N s : Nat) : ∀ K, pcs (N * 2 ^ s) (s + K) = pcs N K
  | 0 => by
    show pcs (N * 2 ^ s) s = 0
    have : ∀ t, t ≤ s → pcs (N * 2 ^ s) t = 0 := by
      intro t
      induction t with
      | zero => intro _; rfl
      | succ t ih =>
        intro ht
        show pcs (N * 2 ^ s) t + N * 2 ^ s / 2 ^ t % 2 = 0
        rw [ih (by omega)]
        obtain ⟨d, rfl⟩ : ∃ d, s = t + (d + 1) := ⟨s - t - 1, by omega⟩
        rw [Nat.pow_add, Nat.mul_comm (2 ^ t), ← Nat.mul_assoc, Nat.mul_div_cancel _ (Nat.pow_pos (by omega)), Nat.pow_succ, ← Nat.mul_assoc]
        omega
    exact this s (Nat.le_refl _)
  | K + 1 => by
    show pcs (N * 2 ^ s) (s + K) + N * 2 ^ s / 2 ^ (s + K) % 2 = pcs N K + N / 2 ^ K % 2
    rw [pcs_shl N s K, Nat.pow_add, Nat.mul_comm (2 ^ s), Nat.mul_div_mul_right _ _ (Nat.pow_pos (by omega))]

theorem pcs_add_aux (a x m : Nat) (ha : a < 2 ^ m) : ∀ K, pcs (a + x * 2 ^ m) (m + K) = pcs (a + x * 2 ^ m) m + pcs x K
  | 0 => rfl
  | K + 1 => by
    show pcs (a + x * 2 ^ m) (m + K) + (a + x * 2 ^ m) / 2 ^ (m + K) % 2 = _ + (pcs x K + x / 2 ^ K % 2)
    rw [pcs_add_aux a x m ha K, Nat.pow_add, ← Nat.div_div_eq_div_mul, Nat.add_mul_div_right _ _ (Nat.pow_pos (by omega)), Nat.div_eq_of_lt ha, Nat.zero_add]
    omega
theorem pcs_low (a x m : Nat) : ∀ t, t ≤ m → pcs (a + x * 2 ^ m) t = pcs a t
  | 0, _ => rfl
  | t + 1, ht => by
    show pcs (a + x * 2 ^ m) t + (a + x * 2 ^ m) / 2 ^ t % 2 = pcs a t + a / 2 ^ t % 2
    rw [pcs_low a x m t (by omega)]
    obtain ⟨d, rfl⟩ : ∃ d, m = t + (d + 1) := ⟨m - t - 1, by omega⟩
    rw [Nat.pow_add, Nat.mul_comm (2 ^ t), ← Nat.mul_assoc, Nat.add_mul_div_right _ _ (Nat.pow_pos (by omega)), Nat.pow_succ, ← Nat.mul_assoc]
    omega
/-- A word more. -/
theorem pcs_word {f : Nat → Nat} {i : Nat} (hf : ∀ j, j < i → f j < B) : pcs (vl f (i + 1)) (64 * (i + 1)) = pcs (vl f i) (64 * i) + pcs (f i) 64 := by
  have h1 := vl_lt hf
  show pcs (vl f i + f i * B ^ i) (64 * i + 64) = _
  rw [pow_B] at h1 ⊢
  rw [pcs_add_aux _ _ _ h1, pcs_low _ _ _ _ (Nat.le_refl _)]

end Go.Proofs.Qxb6617989a.Plain
