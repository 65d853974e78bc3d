/-
  THE PLAIN LAW OF 'shl': numbers as words of 64 bits, least first. No Go in sight.
-/
namespace Go.Proofs.Qxb6617989a.Plain

/-- 2^64. -/
def B : Nat := 2 ^ 64
theorem B_eq : B = 18446744073709551616 := rfl
theorem B_pos : 0 < B := by rw [B_eq]; omega

/-- The number that the first n words of f spell. -/
def vl (f : Nat → Nat) : Nat → Nat
  | 0 => 0
  | n + 1 => vl f n + f n * B ^ n

theorem vl_congr {f g : Nat → Nat} : ∀ {n : Nat}, (∀ j, j < n → f j = g j) → vl f n = vl g n
  | 0, _ => rfl
  | n + 1, h => by
    show vl f n + f n * B ^ n = vl g n + g n * B ^ n
    rw [vl_congr (fun j hj => h j (by omega)), h n (by omega)]

theorem vl_lt {f : Nat → Nat} : ∀ {n : Nat}, (∀ j, j < n → f j < B) → vl f n < B ^ n
  | 0, _ => by simp [vl]
  | n + 1, h => by
    have h1 := vl_lt (n := n) (fun j hj => h j (by omega))
    have h2 := h n (by omega)
    show vl f n + f n * B ^ n < B ^ (n + 1)
    have h3 : (f n + 1) * B ^ n ≤ B * B ^ n := Nat.mul_le_mul_right _ h2
    rw [Nat.pow_succ, Nat.mul_comm (B ^ n) B]
    rw [Nat.add_mul, Nat.one_mul] at h3
    omega

theorem vl_inj {f g : Nat → Nat} : ∀ {n : Nat}, (∀ j, j < n → f j < B) → (∀ j, j < n → g j < B) → vl f n = vl g n → ∀ j, j < n → f j = g j
  | 0, _, _, _ => fun j hj => absurd hj (Nat.not_lt_zero _)
  | n + 1, hf, hg, h => by
    have h1 := vl_lt (n := n) (fun j hj => hf j (by omega))
    have h2 := vl_lt (n := n) (fun j hj => hg j (by omega))
    have h3 : vl f n + f n * B ^ n = vl g n + g n * B ^ n := h
    have hp : 0 < B ^ n := Nat.pow_pos B_pos
    have e1 : f n = g n := by
      have a : (vl f n + f n * B ^ n) / B ^ n = f n := by rw [Nat.add_mul_div_right _ _ hp, Nat.div_eq_of_lt h1, Nat.zero_add]
      have b : (vl g n + g n * B ^ n) / B ^ n = g n := by rw [Nat.add_mul_div_right _ _ hp, Nat.div_eq_of_lt h2, Nat.zero_add]
      rw [← a, ← b, h3]
    have e2 : vl f n = vl g n := by rw [e1] at h3; omega
    intro j hj
    by_cases hjn : j = n
    · rw [hjn]; exact e1
    · exact vl_inj (fun j hj => hf j (by omega)) (fun j hj => hg j (by omega)) e2 j (by omega)

theorem vl_zero {f : Nat → Nat} : ∀ {n : Nat}, (∀ j, j < n → f j = 0) → vl f n = 0
  | 0, _ => rfl
  | n + 1, h => by
    show vl f n + f n * B ^ n = 0
    rw [vl_zero (fun j hj => h j (by omega)), h n (by omega)]; simp

/-- One word raised. -/
theorem vl_add {f g : Nat → Nat} {k d : Nat} : ∀ {n : Nat}, k < n → g k = f k + d → (∀ j, j < n → j ≠ k → g j = f j) → vl g n = vl f n + d * B ^ k
  | 0, h, _, _ => absurd h (Nat.not_lt_zero _)
  | n + 1, hk, e, h => by
    show vl g n + g n * B ^ n = vl f n + f n * B ^ n + d * B ^ k
    by_cases hn : k = n
    · subst hn
      rw [vl_congr (f := g) (g := f) (fun j hj => h j (by omega) (by omega)), e, Nat.add_mul]
      omega
    · rw [vl_add (n := n) (by omega) e (fun j hj => h j (by omega)), h n (by omega) (by omega)]
      omega

/-- Each word is bounded by the whole. -/
theorem le_vl {f : Nat → Nat} {k : Nat} : ∀ {n : Nat}, k < n → f k * B ^ k ≤ vl f n
  | 0, h => absurd h (Nat.not_lt_zero _)
  | n + 1, hk => by
    show _ ≤ vl f n + f n * B ^ n
    by_cases hn : k = n
    · subst hn; omega
    · have := le_vl (f := f) (k := k) (n := n) (by omega)
      omega

/-- How many words stay when the zero words at the top go. -/
def nrm (f : Nat → Nat) : Nat → Nat
  | 0 => 0
  | n + 1 => if f n = 0 then nrm f n else n + 1

theorem nrm_zero (f : Nat → Nat) (n : Nat) (h : f n = 0) : nrm f (n + 1) = nrm f n := by simp [nrm, h]
theorem nrm_stop (f : Nat → Nat) (n : Nat) (h : f n ≠ 0) : nrm f (n + 1) = n + 1 := by simp [nrm, h]
theorem nrm_le (f : Nat → Nat) : ∀ n, nrm f n ≤ n
  | 0 => Nat.le_refl _
  | n + 1 => by
    by_cases h : f n = 0
    · rw [nrm_zero f n h]; have := nrm_le f n; omega
    · rw [nrm_stop f n h]; exact Nat.le_refl _
theorem nrm_congr {f g : Nat → Nat} : ∀ {n : Nat}, (∀ j, j < n → f j = g j) → nrm f n = nrm g n
  | 0, _ => rfl
  | n + 1, h => by
    have ih := nrm_congr (n := n) (fun j hj => h j (by omega))
    have e := h n (by omega)
    by_cases hz : f n = 0
    · rw [nrm_zero f n hz, nrm_zero g n (by rw [← e]; exact hz), ih]
    · rw [nrm_stop f n hz, nrm_stop g n (by rw [← e]; exact hz)]
theorem vl_nrm (f : Nat → Nat) : ∀ n, vl f (nrm f n) = vl f n
  | 0 => rfl
  | n + 1 => by
    by_cases h : f n = 0
    · rw [nrm_zero f n h, vl_nrm f n]; show _ = vl f n + f n * B ^ n; rw [h]; simp
    · rw [nrm_stop f n h]

/-- No zero word at the top. -/
def Top (f : Nat → Nat) (m : Nat) : Prop := m = 0 ∨ f (m - 1) ≠ 0
theorem top_nrm (f : Nat → Nat) : ∀ n, Top f (nrm f n)
  | 0 => .inl rfl
  | n + 1 => by
    by_cases h : f n = 0
    · rw [nrm_zero f n h]; exact top_nrm f n
    · rw [nrm_stop f n h]; exact .inr h

theorem top_le {f : Nat → Nat} {m : Nat} (h : Top f m) (hm : m ≠ 0) : B ^ (m - 1) ≤ vl f m := by
  rcases h with h | h
  · exact absurd h hm
  · have := le_vl (f := f) (k := m - 1) (n := m) (by omega)
    have h1 : 1 * B ^ (m - 1) ≤ f (m - 1) * B ^ (m - 1) := Nat.mul_le_mul_right _ (by omega)
    omega

/-- Two numbers without zero words at the top that are one number are one row of words. -/
theorem top_inj {f g : Nat → Nat} {m k : Nat} (hf : ∀ j, j < m → f j < B) (hg : ∀ j, j < k → g j < B) (tf : Top f m) (tg : Top g k) (h : vl f m = vl g k) : m = k ∧ ∀ j, j < m → f j = g j := by
  have h1 := vl_lt hf
  have h2 := vl_lt hg
  have key : ∀ {f g : Nat → Nat} {m k : Nat}, vl f m < B ^ m → Top g k → vl f m = vl g k → k ≤ m := by
    intro f g m k h1 tg h
    by_cases hk : k = 0
    · omega
    · have h3 := top_le tg hk
      have h4 : B ^ (k - 1) < B ^ m := by omega
      have h5 : k - 1 < m := (Nat.pow_lt_pow_iff_right (by rw [B_eq]; omega)).1 h4
      omega
  have e : m = k := Nat.le_antisymm (key h2 tf h.symm) (key h1 tg h)
  subst e
  exact ⟨rfl, vl_inj hf hg h⟩

/-! ### The shift -/
/-- Word j of z times 2^b (b below 64): the low part of word j and what word j - 1 hands on. n words come in, n + 1 go out. -/
def res (f : Nat → Nat) (n b j : Nat) : Nat := (if j < n then f j * 2 ^ b % B else 0) + (if j = 0 then 0 else f (j - 1) / 2 ^ (64 - b))

theorem split_word (x b : Nat) (hb : b ≤ 64) : x * 2 ^ b % B + x / 2 ^ (64 - b) * B = x * 2 ^ b := by
  have e : x / 2 ^ (64 - b) = x * 2 ^ b / B := by
    have hB : B = 2 ^ (64 - b) * 2 ^ b := by rw [← Nat.pow_add, B]; congr 1; omega
    rw [hB, Nat.mul_div_mul_right _ _ (Nat.pow_pos (by omega))]
  rw [e, Nat.mul_comm _ B]
  exact Nat.mod_add_div _ _

theorem vl_res_aux (f : Nat → Nat) (n b : Nat) (hb : b ≤ 64) : ∀ m, m ≤ n → vl (res f n b) m + (if m = 0 then 0 else f (m - 1) / 2 ^ (64 - b)) * B ^ m = vl f m * 2 ^ b
  | 0, _ => by simp [vl]
  | m + 1, hm => by
    have ih := vl_res_aux f n b hb m (by omega)
    have hs := split_word (f m) b hb
    show vl (res f n b) m + res f n b m * B ^ m + (if m + 1 = 0 then 0 else f (m + 1 - 1) / 2 ^ (64 - b)) * B ^ (m + 1) = (vl f m + f m * B ^ m) * 2 ^ b
    rw [if_neg (by omega), Nat.add_sub_cancel]
    have e1 : res f n b m = f m * 2 ^ b % B + (if m = 0 then 0 else f (m - 1) / 2 ^ (64 - b)) := by simp [res, show m < n by omega]
    rw [e1, Nat.add_mul, Nat.add_mul, ← ih, Nat.pow_succ]
    have e2 : f m * B ^ m * 2 ^ b = (f m * 2 ^ b % B + f m / 2 ^ (64 - b) * B) * B ^ m := by rw [hs, Nat.mul_assoc, Nat.mul_comm (B ^ m), ← Nat.mul_assoc]
    rw [e2, Nat.add_mul]
    have e3 : f m / 2 ^ (64 - b) * (B ^ m * B) = f m / 2 ^ (64 - b) * B * B ^ m := by rw [Nat.mul_comm (B ^ m) B, Nat.mul_assoc]
    rw [e3]
    omega

theorem vl_res (f : Nat → Nat) (n b : Nat) (hb : b ≤ 64) (hn : 0 < n) : vl (res f n b) (n + 1) = vl f n * 2 ^ b := by
  have h := vl_res_aux f n b hb n (Nat.le_refl _)
  rw [if_neg (by omega)] at h
  rw [← h]
  show vl (res f n b) n + res f n b n * B ^ n = _
  congr 2
  simp [res, show n ≠ 0 by omega]

/-- The n + w + 1 words of z times 2^(64 w + b). -/
def raw (f : Nat → Nat) (n w b k : Nat) : Nat := if k < w then 0 else res f n b (k - w)

theorem vl_moved (g : Nat → Nat) (w : Nat) : ∀ m, vl (fun k => if k < w then 0 else g (k - w)) (w + m) = vl g m * B ^ w
  | 0 => by rw [Nat.add_zero, vl_zero (fun j hj => by simp [hj])]; simp [vl]
  | m + 1 => by
    show vl (fun k => if k < w then 0 else g (k - w)) (w + m) + (if w + m < w then 0 else g (w + m - w)) * B ^ (w + m) = (vl g m + g m * B ^ m) * B ^ w
    rw [vl_moved g w m, if_neg (by omega), Nat.add_sub_cancel_left, Nat.add_mul, Nat.pow_add, Nat.mul_comm (B ^ w), Nat.mul_assoc]

theorem vl_raw (f : Nat → Nat) (n w b : Nat) (hb : b ≤ 64) (hn : 0 < n) : vl (raw f n w b) (n + w + 1) = vl f n * 2 ^ (64 * w + b) := by
  have h := vl_moved (res f n b) w (n + 1)
  rw [show w + (n + 1) = n + w + 1 by omega] at h
  show vl (fun k => if k < w then 0 else res f n b (k - w)) (n + w + 1) = _
  rw [h, vl_res f n b hb hn, Nat.mul_assoc]
  congr 1
  rw [Nat.pow_add, Nat.mul_comm, B, ← Nat.pow_mul]

theorem res_lt (f : Nat → Nat) (n b j : Nat) (hb : b < 64) (hf : ∀ j, j < n → f j < B) (hj : j ≤ n) : res f n b j < B := by
  have hp : 2 ^ b * 2 ^ (64 - b) = B := by rw [← Nat.pow_add, B]; congr 1; omega
  have h2 : (if j = 0 then 0 else f (j - 1) / 2 ^ (64 - b)) < 2 ^ b := by
    split
    · exact Nat.pow_pos (by omega)
    · have := hf (j - 1) (by omega)
      refine Nat.div_lt_of_lt_mul ?_
      rw [Nat.mul_comm, hp]; exact this
  have h1 : (if j < n then f j * 2 ^ b % B else 0) + 2 ^ b ≤ B := by
    split
    · have e : f j * 2 ^ b % B = (f j % 2 ^ (64 - b)) * 2 ^ b := by rw [← hp, Nat.mul_comm (2 ^ b), Nat.mul_mod_mul_right]
      rw [e]
      have hm : f j % 2 ^ (64 - b) + 1 ≤ 2 ^ (64 - b) := Nat.mod_lt _ (Nat.pow_pos (by omega))
      have := Nat.mul_le_mul_right (2 ^ b) hm
      rw [Nat.add_mul, Nat.one_mul, Nat.mul_comm (2 ^ (64 - b)), hp] at this
      exact this
    · rw [← hp]; have : 1 ≤ 2 ^ (64 - b) := Nat.pow_pos (by omega)
      have := Nat.mul_le_mul_left (2 ^ b) this
      omega
  unfold res
  omega

theorem raw_lt (f : Nat → Nat) (n w b : Nat) (hb : b < 64) (hf : ∀ j, j < n → f j < B) : ∀ k, k < n + w + 1 → raw f n w b k < B := by
  intro k hk
  unfold raw
  split
  · exact B_pos
  · exact res_lt f n b _ hb hf (by omega)

/-- 'x<<b | y>>(64-b)' on words. -/
theorem or_word (x y b : Nat) (hb : b < 64) (hy : y < B) : (x * 2 ^ b % B) ||| (y / 2 ^ (64 - b)) = x * 2 ^ b % B + y / 2 ^ (64 - b) := by
  have hp : 2 ^ b * 2 ^ (64 - b) = B := by rw [← Nat.pow_add, B]; congr 1; omega
  have e : x * 2 ^ b % B = 2 ^ b * (x % 2 ^ (64 - b)) := by rw [← hp, Nat.mul_comm x, Nat.mul_mod_mul_left]
  have h2 : y / 2 ^ (64 - b) < 2 ^ b := by
    refine Nat.div_lt_of_lt_mul ?_
    rw [Nat.mul_comm, hp]; exact hy
  rw [e]
  exact (Nat.two_pow_add_eq_or_of_lt h2 _).symm

/-! ### The law's own reckoning, bit by bit -/
/-- What 'want' spells when the first i words and 'bit' bits of word i have been laid. -/
def laid (f : Nat → Nat) (s i bit : Nat) : Nat := (vl f i + f i % 2 ^ bit * B ^ i) * 2 ^ s

theorem laid_zero (f : Nat → Nat) (s i : Nat) : laid f s i 0 = vl f i * 2 ^ s := by simp [laid, Nat.mod_one]
theorem laid_full (f : Nat → Nat) (s i : Nat) (h : f i < B) : laid f s i 64 = vl f (i + 1) * 2 ^ s := by
  unfold laid
  rw [Nat.mod_eq_of_lt (by exact h)]
  rfl
theorem mod_two_pow_succ (x k : Nat) : x % 2 ^ (k + 1) = x % 2 ^ k + x / 2 ^ k % 2 * 2 ^ k := by
  rw [Nat.pow_succ, Nat.mod_mul, Nat.mul_comm (2 ^ k)]
theorem laid_succ0 (f : Nat → Nat) (s i bit : Nat) (h : f i / 2 ^ bit % 2 = 0) : laid f s i (bit + 1) = laid f s i bit := by
  unfold laid
  rw [mod_two_pow_succ, h]; simp
theorem laid_succ1 (f : Nat → Nat) (s i bit : Nat) (h : f i / 2 ^ bit % 2 = 1) : laid f s i (bit + 1) = laid f s i bit + 2 ^ (i * 64 + bit + s) := by
  unfold laid
  rw [mod_two_pow_succ, h, Nat.one_mul, Nat.add_mul (f i % 2 ^ bit), ← Nat.add_assoc, Nat.add_mul _ (2 ^ bit * B ^ i)]
  congr 1
  rw [B, ← Nat.pow_mul, ← Nat.pow_add, ← Nat.pow_add]
  congr 1
  omega
theorem laid_lt (f : Nat → Nat) (s i bit : Nat) (hf : ∀ j, j < i → f j < B) : laid f s i bit < 2 ^ (i * 64 + bit + s) := by
  have h1 := vl_lt hf
  have h2 : f i % 2 ^ bit + 1 ≤ 2 ^ bit := Nat.mod_lt _ (Nat.pow_pos (by omega))
  have h3 := Nat.mul_le_mul_right (B ^ i) h2
  rw [Nat.add_mul, Nat.one_mul] at h3
  have h4 : vl f i + f i % 2 ^ bit * B ^ i < 2 ^ bit * B ^ i := by omega
  unfold laid
  have h5 := Nat.mul_lt_mul_of_pos_right h4 (Nat.pow_pos (n := s) (show 0 < 2 by omega))
  refine Nat.lt_of_lt_of_le h5 (Nat.le_of_eq ?_)
  rw [B, ← Nat.pow_mul, ← Nat.pow_add, ← Nat.pow_add]
  congr 1
  omega

/-- The word into which the next bit goes lies below that bit. -/
theorem word_lt {g : Nat → Nat} {n p : Nat} (h : vl g n < 2 ^ p) (hk : p / 64 < n) : g (p / 64) < 2 ^ (p % 64) := by
  have h1 := le_vl (f := g) hk
  have e : 2 ^ p = 2 ^ (p % 64) * B ^ (p / 64) := by
    rw [B, ← Nat.pow_mul, ← Nat.pow_add]; congr 1; omega
  rw [e] at h
  exact Nat.lt_of_mul_lt_mul_right (Nat.lt_of_le_of_lt h1 h)

theorem or_bit {x r : Nat} (h : x < 2 ^ r) : x ||| 2 ^ r = x + 2 ^ r := by
  have := Nat.two_pow_add_eq_or_of_lt h 1
  rw [Nat.mul_one] at this
  rw [Nat.or_comm, ← this]; omega

/-- One bit laid. -/
theorem vl_bit {g g' : Nat → Nat} {n p : Nat} (h : vl g n < 2 ^ p) (hk : p / 64 < n) (e : g' (p / 64) = (g (p / 64) ||| 2 ^ (p % 64))) (ho : ∀ j, j < n → j ≠ p / 64 → g' j = g j) : vl g' n = vl g n + 2 ^ p := by
  rw [or_bit (word_lt h hk)] at e
  rw [vl_add hk e ho]
  congr 1
  rw [B, ← Nat.pow_mul, ← Nat.pow_add]; congr 1; omega

end Go.Proofs.Qxb6617989a.Plain
