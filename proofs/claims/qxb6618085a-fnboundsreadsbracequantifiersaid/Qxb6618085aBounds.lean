import Derived.Test.Qxb6618085aParse
namespace Go.Proofs.Qxb6618085a
open Go.RowKit Plain

/-- What bounds leaves. -/
def BdPost (pb b o n c p : Nat) (f : Nat → Int) (w : World) (e : Ending) (w' : World) : Prop :=
  ((∃ d, One f n p d ∧ e = .returned (.tuple #[.string (txt f (p + 1) d), .string (txt f (p + 1) d), .bool true]) ∧ Pr w' pb b o n c (d + 1) f) ∨
   (∃ m d, Two f n p m d ∧ e = .returned (.tuple #[.string (txt f (p + 1) m), .string (txt f (m + 1) d), .bool true]) ∧ Pr w' pb b o n c (d + 1) f) ∨
   (Non f n p ∧ e = .returned (.tuple #[.string ⟨#[]⟩, .string ⟨#[]⟩, .bool false]) ∧ Pr w' pb b o n c p f)) ∧ Kp pb w w'

set_option maxHeartbeats 1000000 in
theorem bounds_any (pb b o n c p : Nat) (f : Nat → Int) (w : World) (hn : n ≤ 1000000) (hnc : n ≤ c) (hcm : c ≤ maxLen) (hp : p < n) (h : Pr w pb b o n c p f) :
    Calls Try.prog 34 #[.pointer (some ⟨pb, 0, none⟩)] w fun e w' => BdPost pb b o n c p f w e w' := by
  have h1 := h.pos
  have h2 := h.free
  have hP1 : Pr (w.setCell ⟨pb, 1, none⟩ (.int .i64 ((p : Int) + 1))) pb b o n c (p + 1) f := h.set (p + 1) (by omega)
  have hK1 : Kp pb w (w.setCell ⟨pb, 1, none⟩ (.int .i64 ((p : Int) + 1))) := (Kp.refl _ _).setCell _ _
  go_enter Try.func34, Try.ntmps34
  go_wp2_with fail
  generalize w.setCell ⟨pb, 1, none⟩ (.int .i64 ((p : Int) + 1)) = w1 at hP1 hK1 ⊢
  refine (digits_any pb b o n c (p + 1) f w1 hn hnc hcm (by omega) hP1).mono ?_
  rintro e w2 ⟨d, hr, rfl, hP2, hK2⟩
  have hK2' := hK1.trans hK2
  by_cases hd : d = p + 1
  · subst hd
    rw [txt_self]
    have h3 := hP2.pos
    have h4 := hP2.free
    go_wp2
    go_ret3
    exact ⟨.inr (.inr ⟨non_empty hr, rfl, hP2.set p rfl⟩), hK2'.setCell _ _⟩
  · have hlt : p + 1 < d := by have := hr.lo; omega
    generalize hT : txt f (p + 1) d = T
    have hT0 : ¬ T.toList = [] := by
      intro e0
      have hs : T.size = d - (p + 1) := by rw [← hT, txt_size]
      have h0 : T.size = T.toList.length := by rw [ByteArray.toList_eq]; rfl
      rw [e0, hs] at h0
      have h1 : d - (p + 1) = 0 := h0
      omega
    have hTe : T.toList.isEmpty = false := by
      cases hl : T.toList with
      | nil => exact absurd hl hT0
      | cons a r => rfl
    have HT : Hid (txt f (p + 1) d = T) := hT
    clear hT
    have hdn := hr.hi
    go_wp2_with fail
    by_cases hcm1 : d < n ∧ f d = 44
    · refine (next_yes pb b o n c d f w2 hn hP2 hcm1.1 44 hcm1.2).mono ?_
      rintro e w3 ⟨rfl, hP3, hK3⟩
      have hK3' := hK2'.trans hK3
      go_wp2_with fail
      refine (digits_any pb b o n c (d + 1) f w3 hn hnc hcm (by omega) hP3).mono ?_
      rintro e w4 ⟨d2, hr2, rfl, hP4, hK4⟩
      have hK4' := hK3'.trans hK4
      generalize hS : txt f (d + 1) d2 = S
      have HS : Hid (txt f (d + 1) d2 = S) := hS
      clear hS
      have hd2n := hr2.hi
      go_wp2_with fail
      by_cases hbr : d2 < n ∧ f d2 = 125
      · refine (next_yes pb b o n c d2 f w4 hn hP4 hbr.1 125 hbr.2).mono ?_
        rintro e w5 ⟨rfl, hP5, hK5⟩
        go_wp2
        go_ret3
        exact ⟨.inr (.inl ⟨d, d2, ⟨hr, hlt, hcm1.1, hcm1.2, hr2, hbr.1, hbr.2⟩, (by rw [HT.out, HS.out]; rfl), hP5⟩), hK4'.trans hK5⟩
      · refine (next_no pb b o n c d2 f w4 hn hd2n hP4 125 hbr).mono ?_
        rintro e w5 ⟨rfl, hw⟩
        obtain rfl := hw.symm
        clear hw
        have h3 := hP4.pos
        have h4 := hP4.free
        go_wp2
        go_ret3
        exact ⟨.inr (.inr ⟨non_two hr hcm1 hr2 hbr, rfl, hP4.set p rfl⟩), hK4'.setCell _ _⟩
    · refine (next_no pb b o n c d f w2 hn hdn hP2 44 hcm1).mono ?_
      rintro e w3 ⟨rfl, hw⟩
      obtain rfl := hw.symm
      clear hw
      go_wp2_with fail
      by_cases hbr : d < n ∧ f d = 125
      · refine (next_yes pb b o n c d f w2 hn hP2 hbr.1 125 hbr.2).mono ?_
        rintro e w5 ⟨rfl, hP5, hK5⟩
        go_wp2
        go_ret3
        exact ⟨.inl ⟨d, ⟨hr, hlt, hbr.1, hbr.2⟩, (by rw [HT.out]; rfl), hP5⟩, hK2'.trans hK5⟩
      · refine (next_no pb b o n c d f w2 hn hdn hP2 125 hbr).mono ?_
        rintro e w5 ⟨rfl, hw⟩
        obtain rfl := hw.symm
        clear hw
        have h3 := hP2.pos
        have h4 := hP2.free
        go_wp2
        go_ret3
        exact ⟨.inr (.inr ⟨non_end hr hcm1 hbr, rfl, hP2.set p rfl⟩), hK2'.setCell _ _⟩

/-- What ZZBounds leaves: the parser is a block of its own. -/
def ZbPost (n p : Nat) (f : Nat → Int) (w : World) (e : Ending) (w' : World) : Prop :=
  ((∃ d, One f n p d ∧ e = .returned (.tuple #[.string (txt f (p + 1) d), .string (txt f (p + 1) d), .bool true, .int .i64 ((d + 1 : Nat) : Int)])) ∨
   (∃ m d, Two f n p m d ∧ e = .returned (.tuple #[.string (txt f (p + 1) m), .string (txt f (m + 1) d), .bool true, .int .i64 ((d + 1 : Nat) : Int)])) ∨
   (Non f n p ∧ e = .returned (.tuple #[.string ⟨#[]⟩, .string ⟨#[]⟩, .bool false, .int .i64 p]))) ∧ Kp w.heap.size w w'

set_option maxHeartbeats 1000000 in
theorem zzbounds_any (b o n c p : Nat) (f : Nat → Int) (w : World) (hn : n ≤ 1000000) (hnc : n ≤ c) (hcm : c ≤ maxLen) (hp : p < n) (hR : Rs w b o n f) :
    Calls Try.prog 25 #[.slice (some ⟨b, o, none⟩) n c, .int .i64 p] w fun e w' => ZbPost n p f w e w' := by
  have hK : Kp w.heap.size w (w.alloc (.cells #[.slice (some ⟨b, o, none⟩) n c, .int .i64 p, .pointer none, .int .i64 0, .int .i64 0, .int .i64 0, .int .i64 0, .map none, .pointer none, .pointer none, .map none] 56)) := (Kp.refl _ _).alloc _
  have hP' : Pr (w.alloc (.cells #[.slice (some ⟨b, o, none⟩) n c, .int .i64 p, .pointer none, .int .i64 0, .int .i64 0, .int .i64 0, .int .i64 0, .map none, .pointer none, .pointer none, .map none] 56)) w.heap.size b o n c p f :=
    ⟨by rw [World.cell?_alloc_new]; rfl, by rw [World.cell?_alloc_new]; rfl, World.frozen?_alloc_new _ _ _ _, fun j hj => (World.cell?_alloc_lt _ _ _ (by exact hR.lt (by omega))).trans (hR j hj), by have := hR.lt (by omega); omega⟩
  go_enter Try.func25, Try.ntmps25
  go_wp2_with fail
  generalize w.alloc (.cells #[.slice (some ⟨b, o, none⟩) n c, .int .i64 p, .pointer none, .int .i64 0, .int .i64 0, .int .i64 0, .int .i64 0, .map none, .pointer none, .pointer none, .map none] 56) = w1 at hP' hK ⊢
  refine (bounds_any w.heap.size b o n c p f w1 hn hnc hcm hp hP').mono ?_
  rintro e w2 ⟨hcases, hK2⟩
  have hK2' := hK.trans hK2
  rcases hcases with ⟨d, hOne, rfl, hP2⟩ | ⟨m, d, hTwo, rfl, hP2⟩ | ⟨hNon, rfl, hP2⟩
  · have h1 := hP2.pos
    generalize hT : txt f (p + 1) d = T
    have HT : Hid (txt f (p + 1) d = T) := hT
    clear hT
    go_wp2_with fail
    go_quiet (fail)
    go_wp2
    refine bodyPost_ret (v := .tuple #[.string T, .string T, .bool true, .int .i64 ((d : Int) + 1)]) (by simp [results, Try.results25, go_sem]) rfl ⟨.inl ⟨d, hOne, ?_⟩, hK2'.drewN _⟩
    rw [HT.out]
    simp
  · have h1 := hP2.pos
    generalize hT : txt f (p + 1) m = T
    have HT : Hid (txt f (p + 1) m = T) := hT
    clear hT
    generalize hS : txt f (m + 1) d = S
    have HS : Hid (txt f (m + 1) d = S) := hS
    clear hS
    go_wp2_with fail
    go_quiet (fail)
    go_wp2
    refine bodyPost_ret (v := .tuple #[.string T, .string S, .bool true, .int .i64 ((d : Int) + 1)]) (by simp [results, Try.results25, go_sem]) rfl ⟨.inr (.inl ⟨m, d, hTwo, ?_⟩), hK2'.drewN _⟩
    rw [HT.out, HS.out]
    simp
  · have h1 := hP2.pos
    go_wp2_with fail
    go_quiet (fail)
    go_wp2
    exact bodyPost_ret (v := .tuple #[.string ⟨#[]⟩, .string ⟨#[]⟩, .bool false, .int .i64 p]) (by simp [results, Try.results25, go_sem]) rfl ⟨.inr (.inr ⟨hNon, rfl⟩), hK2'.drewN _⟩
end Go.Proofs.Qxb6618085a
