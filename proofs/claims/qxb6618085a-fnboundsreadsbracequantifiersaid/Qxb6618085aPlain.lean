/-
  THE PLAIN LAW OF THE BRACE QUANTIFIER: what 'bounds' reads, and what the law's own two scans make of the same runes. No Go in sight.
-/
namespace Go.Proofs.Qxb6618085a.Plain

/-- A decimal digit. -/
def isD (x : Int) : Bool := decide (48 ≤ x) && decide (x ≤ 57)
theorem isD_true {x : Int} (h : isD x = true) : 48 ≤ x ∧ x ≤ 57 := by simpa [isD] using h
theorem isD_mk {x : Int} (h : 48 ≤ x) (k : x ≤ 57) : isD x = true := by simp [isD, h, k]
theorem isD_false {x : Int} (h : ¬ (48 ≤ x ∧ x ≤ 57)) : isD x = false := by
  cases hx : isD x with
  | false => rfl
  | true => exact absurd (isD_true hx) h

/-- The digits that begin at k end at e. -/
structure Run (f : Nat → Int) (n k e : Nat) : Prop where
  lo : k ≤ e
  hi : e ≤ n
  all : ∀ j, k ≤ j → j < e → isD (f j) = true
  stop : e < n → isD (f e) = false

theorem Run.uniq {f : Nat → Int} {n k e e' : Nat} (h : Run f n k e) (h' : Run f n k e') : e = e' := by
  rcases Nat.lt_trichotomy e e' with hl | hl | hl
  · have h1 := h'.all e h.lo hl
    have h2 := h.stop (Nat.lt_of_lt_of_le hl h'.hi)
    rw [h1] at h2; cases h2
  · exact hl
  · have h1 := h.all e' h'.lo hl
    have h2 := h'.stop (Nat.lt_of_lt_of_le hl h.hi)
    rw [h1] at h2; cases h2

/-- The bytes of the runes from k on, up to e (each a byte). -/
def txt (f : Nat → Int) (k e : Nat) : ByteArray := ⟨((List.range (e - k)).map fun j => UInt8.ofNat (f (k + j)).toNat).toArray⟩

theorem txt_size (f : Nat → Int) (k e : Nat) : (txt f k e).size = e - k := by simp [txt, ByteArray.size]
theorem txt_self (f : Nat → Int) (k : Nat) : txt f k k = ⟨#[]⟩ := by simp [txt]

/-- '{min}': digits from p + 1 to e, then the brace. -/
structure One (f : Nat → Int) (n p e : Nat) : Prop where
  run : Run f n (p + 1) e
  lt : p + 1 < e
  en : e < n
  shut : f e = 125
/-- '{min,}', '{min,max}'. -/
structure Two (f : Nat → Int) (n p c e : Nat) : Prop where
  run : Run f n (p + 1) c
  lt : p + 1 < c
  cn : c < n
  comma : f c = 44
  run2 : Run f n (c + 1) e
  en : e < n
  shut : f e = 125
/-- Neither. -/
def Non (f : Nat → Int) (n p : Nat) : Prop := (∀ e, ¬ One f n p e) ∧ ∀ c e, ¬ Two f n p c e

/-! ### The law's own scans -/
/-- The last comma among the first m runes behind p, or -1. -/
def cm (f : Nat → Int) (p : Nat) : Nat → Int
  | 0 => -1
  | m + 1 => if f (p + 1 + m) = 44 then ((p + 1 + m : Nat) : Int) else cm f p m
/-- Digits and at most one comma. -/
def wk (f : Nat → Int) (p : Nat) : Nat → Bool
  | 0 => true
  | m + 1 => if f (p + 1 + m) = 44 then (wk f p m && !decide (0 ≤ cm f p m)) else (wk f p m && isD (f (p + 1 + m)))

theorem cm_lo (f : Nat → Int) (p : Nat) : ∀ m, -1 ≤ cm f p m
  | 0 => by simp [cm]
  | m + 1 => by
    have := cm_lo f p m
    unfold cm
    split <;> omega
theorem cm_hi (f : Nat → Int) (p : Nat) : ∀ m, cm f p m < (p + 1 + m : Nat)
  | 0 => by simp [cm]; omega
  | m + 1 => by
    have := cm_hi f p m
    unfold cm
    split <;> omega

theorem scan_digits (f : Nat → Int) (p : Nat) : ∀ m, (∀ j, j < m → isD (f (p + 1 + j)) = true) → wk f p m = true ∧ cm f p m = -1
  | 0, _ => ⟨rfl, rfl⟩
  | m + 1, h => by
    obtain ⟨h1, h2⟩ := scan_digits f p m (fun j hj => h j (by omega))
    have hd := h m (by omega)
    have hne : ¬ f (p + 1 + m) = 44 := by have := isD_true hd; omega
    exact ⟨by simp [wk, hne, h1, hd], by simp [cm, hne, h2]⟩
theorem scan_comma (f : Nat → Int) (p c : Nat) (hc : f (p + 1 + c) = 44) : ∀ m, c < m → (∀ j, j < m → j ≠ c → isD (f (p + 1 + j)) = true) → wk f p m = true ∧ cm f p m = ((p + 1 + c : Nat) : Int)
  | 0, h, _ => absurd h (Nat.not_lt_zero _)
  | m + 1, hm, h => by
    by_cases e : c = m
    · subst e
      obtain ⟨h1, h2⟩ := scan_digits f p c (fun j hj => h j (by omega) (by omega))
      exact ⟨by simp [wk, hc, h1, h2], by simp [cm, hc]⟩
    · obtain ⟨h1, h2⟩ := scan_comma f p c hc m (by omega) (fun j hj => h j (by omega))
      have hd := h m (by omega) (by omega)
      have hne : ¬ f (p + 1 + m) = 44 := by have := isD_true hd; omega
      exact ⟨by simp [wk, hne, h1, hd], by simp [cm, hne, h2]⟩
theorem scan_inv (f : Nat → Int) (p : Nat) : ∀ m, wk f p m = true →
    (cm f p m = -1 ∧ ∀ j, j < m → isD (f (p + 1 + j)) = true) ∨ ∃ c, c < m ∧ cm f p m = ((p + 1 + c : Nat) : Int) ∧ f (p + 1 + c) = 44 ∧ ∀ j, j < m → j ≠ c → isD (f (p + 1 + j)) = true
  | 0, _ => .inl ⟨rfl, fun j hj => absurd hj (Nat.not_lt_zero _)⟩
  | m + 1, h => by
    by_cases hc : f (p + 1 + m) = 44
    · simp [wk, hc] at h
      obtain ⟨h1, h2⟩ := h
      rcases scan_inv f p m h1 with ⟨e, hd⟩ | ⟨c, hcm, e, _, _⟩
      · exact .inr ⟨m, by omega, by simp [cm, hc], hc, fun j hj hne => hd j (by omega)⟩
      · rw [e] at h2; omega
    · simp [wk, hc] at h
      obtain ⟨h1, h2⟩ := h
      rcases scan_inv f p m h1 with ⟨e, hd⟩ | ⟨c, hcm, e, hc44, hd⟩
      · refine .inl ⟨by simp [cm, hc, e], fun j hj => ?_⟩
        by_cases ej : j = m
        · rw [ej]; exact h2
        · exact hd j (by omega)
      · refine .inr ⟨c, by omega, by simp [cm, hc, e], hc44, fun j hj hne => ?_⟩
        by_cases ej : j = m
        · rw [ej]; exact h2
        · exact hd j (by omega) hne

/-- The first brace behind p. -/
structure Shut (f : Nat → Int) (n p s : Nat) : Prop where
  lo : p + 1 ≤ s
  hi : s < n
  at0 : f s = 125
  first : ∀ j, p + 1 ≤ j → j < s → f j ≠ 125
def NoShut (f : Nat → Int) (n p : Nat) : Prop := ∀ j, p + 1 ≤ j → j < n → f j ≠ 125

theorem Shut.uniq {f : Nat → Int} {n p s s' : Nat} (h : Shut f n p s) (h' : Shut f n p s') : s = s' := by
  rcases Nat.lt_trichotomy s s' with hl | hl | hl
  · exact absurd h.at0 (h'.first s h.lo hl)
  · exact hl
  · exact absurd h'.at0 (h.first s' h'.lo hl)

theorem brace_no_digit : isD 125 = false := by decide
theorem comma_no_digit : isD 44 = false := by decide

theorem One.shutAt {f : Nat → Int} {n p e : Nat} (h : One f n p e) : Shut f n p e :=
  ⟨h.run.lo, h.en, h.shut, fun j h1 h2 hj => by have := h.run.all j h1 h2; rw [hj] at this; cases this⟩
theorem Two.shutAt {f : Nat → Int} {n p c e : Nat} (h : Two f n p c e) : Shut f n p e :=
  ⟨by have := h.run2.lo; have := h.lt; omega, h.en, h.shut, fun j h1 h2 hj => by
    rcases Nat.lt_trichotomy j c with hl | hl | hl
    · have := h.run.all j h1 hl; rw [hj] at this; cases this
    · subst hl; rw [h.comma] at hj; cases hj
    · have := h.run2.all j (by omega) h2; rw [hj] at this; cases this⟩

/-- '{min}' as the law's scans see it. -/
theorem One.scan {f : Nat → Int} {n p e : Nat} (h : One f n p e) : wk f p (e - (p + 1)) = true ∧ cm f p (e - (p + 1)) = -1 :=
  scan_digits f p _ (fun j hj => h.run.all _ (by omega) (by omega))
theorem Two.scan {f : Nat → Int} {n p c e : Nat} (h : Two f n p c e) : wk f p (e - (p + 1)) = true ∧ cm f p (e - (p + 1)) = (c : Int) := by
  have hlt := h.lt
  have hlo := h.run2.lo
  have := scan_comma f p (c - (p + 1)) (by rw [show p + 1 + (c - (p + 1)) = c by omega]; exact h.comma) (e - (p + 1)) (by omega) (fun j hj hne => by
    rcases Nat.lt_or_ge (p + 1 + j) c with hl | hl
    · exact h.run.all _ (by omega) hl
    · exact h.run2.all _ (by omega) (by omega))
  rw [show p + 1 + (c - (p + 1)) = c by omega] at this
  exact this

/-- Where the law's scans say yes, 'bounds' reads. -/
theorem scan_sound {f : Nat → Int} {n p s : Nat} (hs : Shut f n p s) (hlt : p + 1 < s) (hw : wk f p (s - (p + 1)) = true) (hc : cm f p (s - (p + 1)) ≠ ((p + 1 : Nat) : Int)) : ¬ Non f n p := by
  intro hn
  rcases scan_inv f p _ hw with ⟨_, hd⟩ | ⟨c, hcm, e, hc44, hd⟩
  · refine hn.1 s ⟨⟨by omega, Nat.le_of_lt hs.hi, fun j h1 h2 => ?_, fun _ => by rw [hs.at0]; rfl⟩, hlt, hs.hi, hs.at0⟩
    have := hd (j - (p + 1)) (by omega)
    rwa [show p + 1 + (j - (p + 1)) = j by omega] at this
  · have hcp : c ≠ 0 := by intro e0; subst e0; exact hc e
    refine hn.2 (p + 1 + c) s ⟨⟨by omega, by have := hs.hi; omega, fun j h1 h2 => ?_, fun _ => by rw [hc44]; rfl⟩, by omega, by have := hs.hi; omega, hc44, ⟨by omega, Nat.le_of_lt hs.hi, fun j h1 h2 => ?_, fun _ => by rw [hs.at0]; rfl⟩, hs.hi, hs.at0⟩
    · have := hd (j - (p + 1)) (by omega) (by omega)
      rwa [show p + 1 + (j - (p + 1)) = j by omega] at this
    · have := hd (j - (p + 1)) (by omega) (by omega)
      rwa [show p + 1 + (j - (p + 1)) = j by omega] at this

/-- How 'bounds' fails. -/
theorem non_empty {f : Nat → Int} {n p : Nat} (h : Run f n (p + 1) (p + 1)) : Non f n p :=
  ⟨fun e k => by have h1 := h.uniq k.run; have h2 := k.lt; omega, fun c e k => by have h1 := h.uniq k.run; have h2 := k.lt; omega⟩
theorem non_end {f : Nat → Int} {n p e : Nat} (h : Run f n (p + 1) e) (hc : ¬ (e < n ∧ f e = 44)) (hb : ¬ (e < n ∧ f e = 125)) : Non f n p :=
  ⟨fun e' k => by obtain rfl := h.uniq k.run; exact hb ⟨k.en, k.shut⟩, fun c e' k => by obtain rfl := h.uniq k.run; exact hc ⟨k.cn, k.comma⟩⟩
theorem non_two {f : Nat → Int} {n p c e : Nat} (h : Run f n (p + 1) c) (hc : c < n ∧ f c = 44) (h2 : Run f n (c + 1) e) (hb : ¬ (e < n ∧ f e = 125)) : Non f n p :=
  ⟨fun e' k => (by obtain rfl := h.uniq k.run; have h1 := k.shut; rw [hc.2] at h1; cases h1), fun c' e' k => by obtain rfl := h.uniq k.run; obtain rfl := h2.uniq k.run2; exact hb ⟨k.en, k.shut⟩⟩

end Go.Proofs.Qxb6618085a.Plain
