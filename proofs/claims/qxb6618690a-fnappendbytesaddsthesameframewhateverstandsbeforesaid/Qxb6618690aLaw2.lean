import Derived.Test.Qxb6618690aRead
namespace Go.Proofs.Qxb6618690a
open Go.RowKit

theorem getD_mid (A M C : List Nat) (j : Nat) (h : j < M.length) : (A ++ M ++ C).getD (A.length + j) 0 = M.getD j 0 := by
  rw [List.append_assoc]
  simp only [List.getD_eq_getElem?_getD]
  rw [List.getElem?_append_right (by omega), show A.length + j - A.length = j by omega, List.getElem?_append_left h]
theorem own_base {w : World} {N N' : Nat} {e : TypeId} {v : Value} {n : Nat} {xs : List Value} (h : w.ownsRow N' e 1 v n xs) (hN : N ≤ N') : w.ownsRow N e 1 v n xs := by
  refine ⟨h.1, ?_⟩
  rcases h.2 with h | ⟨g, cap, cur, hv, hb, r⟩
  · exact .inl h
  · exact .inr ⟨g, cap, cur, hv, Nat.le_trans hN hb, r⟩
theorem own_none {w w' : World} {N : Nat} {e : TypeId} {v : Value} {n : Nat} {xs : List Value} (h : w.ownsRow N e 1 v n xs) (hg : w.grownBy w' none) : w'.ownsRow N e 1 v n xs :=
  h.kept hg (by cases hv : v.ownBlock <;> simp)
/-- Every cell of a row of the call's own. -/
theorem own_cell {w : World} {N g n cap : Nat} {D : List Nat} (h : w.ownsRow N 5 1 (.slice (some ⟨g, 0, none⟩) n cap) n (bc D)) (j : Nat) (hj : j < D.length) : w.cell? ⟨g, j, none⟩ = some (.int .u8 ((D.getD j 0 : Nat) : Int)) := by
  have hl : D.length = n := by have := h.1; rw [bc_length] at this; omega
  rw [h.cellAt j (by omega), bc_get D j hj]
/-- A part of it, as a slice. -/
theorem own_rd {w : World} {N g n cap : Nat} {A M C : List Nat} (h : w.ownsRow N 5 1 (.slice (some ⟨g, 0, none⟩) n cap) n (bc (A ++ M ++ C))) : Rd w (some ⟨g, A.length, none⟩) M := by
  intro _
  refine ⟨g, A.length, rfl, fun j hj => ?_⟩
  rw [own_cell h (A.length + j) (by simp; omega), getD_mid A M C j hj]
theorem own_cap {w : World} {N g n cap : Nat} {xs : List Value} (h : w.ownsRow N 5 1 (.slice (some ⟨g, 0, none⟩) n cap) n xs) : n ≤ cap ∧ cap ≤ maxLen := by
  rcases h.2 with ⟨h, _⟩ | ⟨g', cap', cur, hv, _, _, h1, h2, _⟩
  · cases h
  · injection hv with _ _ hv
    subst hv
    exact ⟨h1, h2⟩
theorem below_grown {B : Nat} {u w w' : World} {N n : Nat} {e : TypeId} {v : Value} {xs : List Value} (h : Below B u w) (hg : w.grownBy w' v.ownBlock) (ho : w.ownsRow N e 1 v n xs) (hN : B ≤ N) (hs : B ≤ w.heap.size) : Below B u w' :=
  h.grown hg hs (fun k hk => Nat.le_trans hN (ho.lt k hk).1)
/-- Two copies, one made behind the other, lie apart. -/
theorem apart_of {w : World} {N n : Nat} {v v' : Value} {xs : List Value} (h : w.ownsRow N 5 1 v n xs) (hv : v'.ownBlock = none ∨ v'.ownBlock = some w.heap.size) : v'.ownBlock = none ∨ v'.ownBlock ≠ v.ownBlock := by
  rcases hv with hv | hv
  · exact .inl hv
  · refine .inr (fun e => ?_)
    rw [hv] at e
    have := (h.lt _ e.symm).2
    omega

theorem bytes7_any (a a' : Option Addr) (n c n' c' : Nat) (w : World) (hn : n ≤ maxLen) (hn' : n' ≤ maxLen) : Calls Try.prog 16 #[.slice a n c, .slice a' n' c'] w fun e w' => (∃ b, e = .returned (.bool b) ∧ (n ≤ 262144 → n' ≤ 262144 → b = true)) ∧ w' = w := by
  unfold maxLen at hn hn'
  by_cases h1 : n ≤ 1048576
  · by_cases h2 : n' ≤ 1048576
    · by_cases h3 : n + n' ≤ 1048576
      · go_enter Try.func16, Try.ntmps16
        go_wp2
        go_ret
        exact ⟨⟨_, rfl, fun _ _ => rfl⟩, rfl⟩
      · go_enter Try.func16, Try.ntmps16
        go_wp2
        go_ret
        exact ⟨⟨_, rfl, fun h h' => by omega⟩, rfl⟩
    · go_enter Try.func16, Try.ntmps16
      go_wp2
      go_ret
      exact ⟨⟨_, rfl, fun h h' => by omega⟩, rfl⟩
  · go_enter Try.func16, Try.ntmps16
    go_wp2
    go_ret
    exact ⟨⟨_, rfl, fun h h' => by omega⟩, rfl⟩

theorem law7_early (a a' : Option Addr) (n c n' c' : Nat) (w : World) (hn : n ≤ maxLen) (hn' : n' ≤ maxLen) (h : ¬ (n ≤ 262144 ∧ n' ≤ 262144)) :
    Calls Try.prog 7 #[.slice a n c, .slice a' n' c'] w fun e w' => e = .returned (.bool true) ∧ w' = w := by
  have hm := hn
  have hm' := hn'
  unfold maxLen at hm hm'
  by_cases h1 : n ≤ 262144
  · have h2 : ¬ n' ≤ 262144 := fun e => h ⟨h1, e⟩
    go_enter Try.func7, Try.ntmps7
    go_wp2_with (go_at_call 16; refine (bytes7_any _ _ _ _ _ _ _ hn hn').mono ?_; rintro e w' ⟨⟨b, rfl, hb⟩, rfl⟩)
    all_goals (go_ret; exact ⟨rfl, rfl⟩)
  · go_enter Try.func7, Try.ntmps7
    go_wp2_with (go_at_call 16; refine (bytes7_any _ _ _ _ _ _ _ hn hn').mono ?_; rintro e w' ⟨⟨b, rfl, hb⟩, rfl⟩)
    all_goals (go_ret; exact ⟨rfl, rfl⟩)

set_option maxHeartbeats 2000000 in
set_option maxRecDepth 100000 in
theorem law7_main (a a' : Option Addr) (n c n' c' : Nat) (L L' : List Nat) (w : World) (hA : Arg w a n c L) (hA' : Arg w a' n' c' L') (hn : n ≤ 262144) (hn' : n' ≤ 262144) :
    Calls Try.prog 7 #[.slice a n c, .slice a' n' c'] w fun e w' => e = .returned (.bool true) ∧ Below w.heap.size w w' := by
  have hd1 : decide ((262144 : Int) < (n : Int)) = false := decide_eq_false (by omega)
  have hd2 : decide ((262144 : Int) < (n' : Int)) = false := decide_eq_false (by omega)
  go_enter Try.func7, Try.ntmps7
  go_wp2_with fail
  refine (bytes7_any _ _ _ _ _ _ _ (by unfold maxLen; omega) (by unfold maxLen; omega)).mono ?_
  rintro e w' ⟨⟨b, rfl, hb⟩, hw⟩
  obtain rfl := hb hn hn'
  obtain rfl := hw.symm
  clear hw hb
  -- whole
  go_wp2_with fail
  refine (clone_any a n c L w hA hn).mono ?_
  rintro e w1 ⟨x0, d0, rfl, ho0, hg1, hx0⟩
  have hB1 : Below w.heap.size w w1 := (Below.refl _ _).grown hg1 (Nat.le_refl _) (fun k hk => by cases hk)
  go_wp2_with fail
  refine (clone_any a' n' c' L' w1 (hA'.kept hB1) hn').mono ?_
  rintro e w2 ⟨x1, d1, rfl, ho1, hg2, hx1⟩
  have hB2 : Below w.heap.size w w2 := hB1.grown hg2 hB1.size (fun k hk => by cases hk)
  have hap := apart_of ho0 hx1
  have ho0' := own_none ho0 hg2
  have ho1' := own_base ho1 hB1.size
  go_wp2_with fail
  refine (zzappend_any w.heap.size n n' d1 x1 (.slice x0 n d0) (bc L) L' w2 (by omega) hn' ho0' hB2.size ho1' hap).mono ?_
  rintro e w3 ⟨g0, cap0, rfl, how, hg3, _⟩
  have hB3 : Below w.heap.size w w3 := below_grown hB2 hg3 ho0' (Nat.le_refl _) hB2.size
  -- frame
  go_wp2_with fail
  refine (clone_any a' n' c' L' w3 (hA'.kept hB3) hn').mono ?_
  rintro e w4 ⟨x2, d2, rfl, ho2, hg4, hx2⟩
  have hB4 : Below w.heap.size w w4 := hB3.grown hg4 hB3.size (fun k hk => by cases hk)
  have how4 := own_none how hg4
  have ho2' := own_base ho2 hB3.size
  go_wp2_with fail
  refine (zzappend_any w.heap.size 0 n' d2 x2 (.slice none 0 0) (bc []) L' w4 (by omega) hn' (World.ownsRow_nil _ _ _ _) hB4.size ho2' ?_).mono ?_
  · rcases hx2 with h | h
    · exact .inl h
    · exact .inr (by rw [h]; simp [Value.ownBlock])
  rintro e w5 ⟨g1, cap1, rfl, hof, hg5, _⟩
  have hB5 : Below w.heap.size w w5 := hB4.grown hg5 hB4.size (fun k hk => by simp [Value.ownBlock] at hk)
  have how5 := own_none how4 hg5
  rw [← bc_append, ← bc_append] at how5 hof
  have hr0 := hA.rd.below hB5
  have hr1 := hA'.rd.below hB5
  have hl0 := hA.len
  have hl1 := hA'.len
  have hk := uv_len n'
  have hRw0 : Rd w5 (some ⟨g0, 0, none⟩) L := by
    have := own_rd (A := []) (M := L) (C := uv n' ++ L') (by simpa [List.append_assoc] using how5)
    exact this
  have hRw1 : Rd w5 (some ⟨g0, n, none⟩) (uv n' ++ L') := by
    have := own_rd (A := L) (M := uv n' ++ L') (C := []) (by simpa [List.append_assoc] using how5)
    rwa [hl0] at this
  have hRf : Rd w5 (some ⟨g1, 0, none⟩) (uv n' ++ L') := by
    have := own_rd (A := []) (M := uv n' ++ L') (C := []) (by simpa [List.append_assoc] using hof)
    exact this
  have hRf1 : Rd w5 (some ⟨g1, (uv n').length, none⟩) L' := by
    have := own_rd (A := uv n') (M := L') (C := []) (by simpa [List.append_assoc] using hof)
    exact this
  have hcf : ∀ j, j < (uv n').length → w5.cell? ⟨g1, 0 + j, none⟩ = some (.int .u8 (((uv n').getD j 0 : Nat) : Int)) := fun j hj => by
    have h1 := own_cell hof j (by simp; omega)
    have h2 := getD_mid [] (uv n') L' j hj
    simp only [List.length_nil] at h2
    rw [Nat.zero_add] at h2 ⊢
    rw [h1, h2]
  obtain ⟨hcap0, hcm0⟩ := own_cap how5
  obtain ⟨hcap1, hcm1⟩ := own_cap hof
  unfold maxLen at hcm0 hcm1
  clear ho0 ho0' ho1 ho1' ho2 ho2' how how4 how5 hof hg1 hg2 hg3 hg4 hg5 hx0 hx1 hx2 hap hB1 hB2 hB3 hB4 hA hA'
  have hUL : (uv n' ++ L').length = (uv n').length + n' := by rw [List.length_append, hl1]
  have HUL : Hid _ := hUL
  have HL0 : Hid _ := hl0
  have HL1 : Hid _ := hl1
  clear hUL hl0 hl1
  -- the lengths
  go_wp2_with fail
  refine (groups_any n' w5 hn').mono ?_
  rintro e w6 ⟨rfl, rfl⟩
  have HREAD := fun q => read_any g1 ((uv n').length + n') cap1 0 n' ((w5).drewN q) (by omega) (by omega) (by omega) (fun j hj => hcf j hj)
  have hRD : Hid _ := HREAD
  clear HREAD
  obtain ⟨hk1, hk2⟩ := hk
  have hcn : ¬ cap0 = n := by omega
  go_wp2_with fail
  refine (equal_any _ a n cap0 c L w5 HL0.out (by omega) hRw0 hr0).mono ?_
  rintro e w6 ⟨rfl, q, rfl⟩
  go_wp2_with fail
  rw [show n + (uv n').length + n' - n = (uv n').length + n' by omega]
  refine (equal_any _ _ ((uv n').length + n') (cap0 - n) cap1 (uv n' ++ L') (w5.drewN q) HUL.out (by omega) (hRw1.drewN q) (hRf.drewN q)).mono ?_
  rintro e w6 ⟨rfl, q2, rfl⟩
  rw [show (w5.drewN q).drewN q2 = w5.drewN (q + q2) by simp [World.drewN, Nat.add_assoc]]
  go_wp2_with fail
  refine (hRD.out (q + q2)).mono ?_
  rintro e w6 ⟨rfl, rfl⟩
  have hBq : ∀ q3, Below w.heap.size w (w5.drewN q3) := fun q3 => ⟨hB5.os, hB5.tape, hB5.output, hB5.size, hB5.block⟩
  by_cases hc1 : cap1 = (uv n').length
  · have hn0 : n' = 0 := by omega
    subst hn0
    have hL0 : L' = [] := List.eq_nil_of_length_eq_zero HL1.out
    subst hL0
    go_wp2_with fail
    refine (equal_any _ _ 0 0 c' [] (w5.drewN (q + q2)) rfl (by omega) (fun h => absurd rfl h) (fun h => absurd rfl h)).mono ?_
    rintro e w6 ⟨rfl, q3, rfl⟩
    go_wp2
    go_ret
    exact ⟨rfl, hBq (q + q2 + q3)⟩
  · go_wp2_with fail
    refine (equal_any _ _ n' (cap1 - (uv n').length) c' L' (w5.drewN (q + q2)) HL1.out (by omega) (hRf1.drewN _) (hr1.drewN _)).mono ?_
    rintro e w6 ⟨rfl, q3, rfl⟩
    go_wp2
    go_ret
    exact ⟨rfl, hBq (q + q2 + q3)⟩
end Go.Proofs.Qxb6618690a
