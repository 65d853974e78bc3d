import Derived.Test.Qxb6618690aLaw2
namespace Go.Proofs.Qxb6618690a
open Go.RowKit

set_option maxHeartbeats 2000000 in
set_option maxRecDepth 100000 in
theorem bytes6_any (a a' a'' : Option Addr) (n c n' c' n'' c'' : Nat) (w : World) (hn : n ≤ maxLen) (hn' : n' ≤ maxLen) (hn'' : n'' ≤ maxLen) :
    Calls Try.prog 11 #[.slice a n c, .slice a' n' c', .slice a'' n'' c''] w fun e w' => (∃ b, e = .returned (.bool b) ∧ (n ≤ 262144 → n' ≤ 262144 → n'' ≤ 262144 → b = true)) ∧ w' = w := by
  unfold maxLen at hn hn' hn''
  by_cases h1 : n ≤ 1048576
  · by_cases h2 : n' ≤ 1048576
    · by_cases h3 : n + n' ≤ 1048576
      · by_cases h4 : n'' ≤ 1048576
        · by_cases h5 : n + n' + n'' ≤ 1048576
          · go_enter Try.func11, Try.ntmps11
            go_wp2
            go_ret
            exact ⟨⟨_, rfl, fun _ _ _ => rfl⟩, rfl⟩
          · go_enter Try.func11, Try.ntmps11
            go_wp2
            go_ret
            exact ⟨⟨_, rfl, fun h h' h'' => by omega⟩, rfl⟩
        · go_enter Try.func11, Try.ntmps11
          go_wp2
          go_ret
          exact ⟨⟨_, rfl, fun h h' h'' => by omega⟩, rfl⟩
      · go_enter Try.func11, Try.ntmps11
        go_wp2
        go_ret
        exact ⟨⟨_, rfl, fun h h' h'' => by omega⟩, rfl⟩
    · go_enter Try.func11, Try.ntmps11
      go_wp2
      go_ret
      exact ⟨⟨_, rfl, fun h h' h'' => by omega⟩, rfl⟩
  · go_enter Try.func11, Try.ntmps11
    go_wp2
    go_ret
    exact ⟨⟨_, rfl, fun h h' h'' => by omega⟩, rfl⟩

set_option maxHeartbeats 2000000 in
set_option maxRecDepth 100000 in
theorem law6_early (a a' a'' : Option Addr) (n c n' c' n'' c'' : Nat) (w : World) (hn : n ≤ maxLen) (hn' : n' ≤ maxLen) (hn'' : n'' ≤ maxLen) (h : ¬ (n ≤ 262144 ∧ n' ≤ 262144 ∧ n'' ≤ 262144)) :
    Calls Try.prog 6 #[.slice a n c, .slice a' n' c', .slice a'' n'' c''] w fun e w' => e = .returned (.bool true) ∧ w' = w := by
  have hm := hn
  have hm' := hn'
  have hm'' := hn''
  unfold maxLen at hm hm' hm''
  by_cases h1 : n ≤ 262144
  · by_cases h2 : n' ≤ 262144
    · have h3 : ¬ n'' ≤ 262144 := fun e => h ⟨h1, h2, e⟩
      go_enter Try.func6, Try.ntmps6
      go_wp2_with (go_at_call 11; refine (bytes6_any _ _ _ _ _ _ _ _ _ _ hn hn' hn'').mono ?_; rintro e w' ⟨⟨b, rfl, hb⟩, rfl⟩)
      all_goals (go_ret; exact ⟨rfl, rfl⟩)
    · go_enter Try.func6, Try.ntmps6
      go_wp2_with (go_at_call 11; refine (bytes6_any _ _ _ _ _ _ _ _ _ _ hn hn' hn'').mono ?_; rintro e w' ⟨⟨b, rfl, hb⟩, rfl⟩)
      all_goals (go_ret; exact ⟨rfl, rfl⟩)
  · go_enter Try.func6, Try.ntmps6
    go_wp2_with (go_at_call 11; refine (bytes6_any _ _ _ _ _ _ _ _ _ _ hn hn' hn'').mono ?_; rintro e w' ⟨⟨b, rfl, hb⟩, rfl⟩)
    all_goals (go_ret; exact ⟨rfl, rfl⟩)

set_option maxHeartbeats 4000000 in
set_option maxRecDepth 100000 in
theorem law6_main (a a1 a2 : Option Addr) (n c n1 c1 n2 c2 : Nat) (L L1 L2 : List Nat) (w : World) (hA : Arg w a n c L) (hA1 : Arg w a1 n1 c1 L1) (hA2 : Arg w a2 n2 c2 L2) (hn : n ≤ 262144) (hn1 : n1 ≤ 262144) (hn2 : n2 ≤ 262144) :
    Calls Try.prog 6 #[.slice a n c, .slice a1 n1 c1, .slice a2 n2 c2] w fun e w' => e = .returned (.bool true) ∧ Below w.heap.size w w' := by
  have hd1 : decide ((262144 : Int) < (n : Int)) = false := decide_eq_false (by omega)
  have hd2 : decide ((262144 : Int) < (n1 : Int)) = false := decide_eq_false (by omega)
  have hd3 : decide ((262144 : Int) < (n2 : Int)) = false := decide_eq_false (by omega)
  go_enter Try.func6, Try.ntmps6
  go_wp2_with fail
  refine (bytes6_any _ _ _ _ _ _ _ _ _ _ (by unfold maxLen; omega) (by unfold maxLen; omega) (by unfold maxLen; omega)).mono ?_
  rintro e w' ⟨⟨b, rfl, hb⟩, hw⟩
  obtain rfl := hb hn hn1 hn2
  obtain rfl := hw.symm
  clear hw hb
  go_wp2_with fail
  refine (clone_any a n c L w hA hn).mono ?_
  rintro e w1 ⟨x0, d0, rfl, ho0, hg1, hx0⟩
  have hB1 : Below w.heap.size w w1 := (Below.refl _ _).grown hg1 (Nat.le_refl _) (fun k hk => by cases hk)
  go_wp2_with fail
  refine (clone_any a1 n1 c1 L1 w1 (hA1.kept hB1) hn1).mono ?_
  rintro e w2 ⟨x1, d1, rfl, ho1, hg2, hx1⟩
  have hB2 : Below w.heap.size w w2 := hB1.grown hg2 hB1.size (fun k hk => by cases hk)
  have hap := apart_of ho0 hx1
  have ho0' := own_none ho0 hg2
  have ho1' := own_base ho1 hB1.size
  go_wp2_with fail
  refine (zzappend_any w.heap.size n n1 d1 x1 (.slice x0 n d0) (bc L) L1 w2 (by omega) hn1 ho0' hB2.size ho1' hap).mono ?_
  rintro e w3 ⟨g0, cap0, rfl, how, hg3, _⟩
  have hB3 : Below w.heap.size w w3 := below_grown hB2 hg3 ho0' (Nat.le_refl _) hB2.size
  have hk1 := uv_len n1
  have hk2 := uv_len n2
  go_wp2_with fail
  refine (clone_any a2 n2 c2 L2 w3 (hA2.kept hB3) hn2).mono ?_
  rintro e w4 ⟨x2, d2, rfl, ho2, hg4, hx2⟩
  have hB4 : Below w.heap.size w w4 := hB3.grown hg4 hB3.size (fun k hk => by cases hk)
  have hap2 := apart_of how hx2
  have how4 := own_none how hg4
  have ho2' := own_base ho2 hB3.size
  go_wp2_with fail
  refine (zzappend_any w.heap.size (n + (uv n1).length + n1) n2 d2 x2 (.slice (some ⟨g0, 0, none⟩) (n + (uv n1).length + n1) cap0) _ L2 w4 (by omega) hn2 how4 hB4.size ho2' hap2).mono ?_
  rintro e w5 ⟨g, cap, rfl, hof, hg5, _⟩
  have hB5 : Below w.heap.size w w5 := below_grown hB4 hg5 how4 (Nat.le_refl _) hB4.size
  rw [← bc_append, ← bc_append, ← bc_append, ← bc_append] at hof
  have hr0 := hA.rd.below hB5
  have hr1 := hA1.rd.below hB5
  have hr2 := hA2.rd.below hB5
  have hl0 := hA.len
  have hl1 := hA1.len
  have hl2 := hA2.len
  have hR0 : Rd w5 (some ⟨g, 0, none⟩) L := by
    have := own_rd (A := []) (M := L) (C := uv n1 ++ L1 ++ uv n2 ++ L2) (by simpa [List.append_assoc] using hof)
    exact this
  have hR1 : Rd w5 (some ⟨g, n + (uv n1).length, none⟩) L1 := by
    have := own_rd (A := L ++ uv n1) (M := L1) (C := uv n2 ++ L2) (by simpa [List.append_assoc] using hof)
    rwa [List.length_append, hl0] at this
  have hR2 : Rd w5 (some ⟨g, n + (uv n1).length + n1 + (uv n2).length, none⟩) L2 := by
    have := own_rd (A := L ++ uv n1 ++ L1 ++ uv n2) (M := L2) (C := []) (by simpa [List.append_assoc] using hof)
    rwa [List.length_append, List.length_append, List.length_append, hl0, hl1] at this
  have hc1f : ∀ j, j < (uv n1).length → w5.cell? ⟨g, n + j, none⟩ = some (.int .u8 (((uv n1).getD j 0 : Nat) : Int)) := fun j hj => by
    obtain ⟨b, o, e, hc⟩ := own_rd (A := L) (M := uv n1) (C := L1 ++ uv n2 ++ L2) (by simpa [List.append_assoc] using hof) (by omega)
    injection e with e
    injection e with e1 e2
    have := hc j hj
    rw [← e1, ← e2, hl0] at this
    exact this
  have hc2f : ∀ j, j < (uv n2).length → w5.cell? ⟨g, n + (uv n1).length + n1 + j, none⟩ = some (.int .u8 (((uv n2).getD j 0 : Nat) : Int)) := fun j hj => by
    obtain ⟨b, o, e, hc⟩ := own_rd (A := L ++ uv n1 ++ L1) (M := uv n2) (C := L2) (by simpa [List.append_assoc] using hof) (by omega)
    injection e with e
    injection e with e1 e2
    have := hc j hj
    rw [← e1, ← e2, List.length_append, List.length_append, hl0, hl1] at this
    exact this
  obtain ⟨hcap, hcm⟩ := own_cap hof
  unfold maxLen at hcm
  have HREAD1 : Hid _ := fun q => read_any g (n + (uv n1).length + n1 + (uv n2).length + n2) cap n n1 (w5.drewN q) (by omega) (by omega) (by omega) (fun j hj => hc1f j hj)
  have HREAD2 : Hid _ := fun q => read_any g (n + (uv n1).length + n1 + (uv n2).length + n2) cap (n + (uv n1).length + n1) n2 (w5.drewN q) (by omega) (by omega) (by omega) (fun j hj => hc2f j hj)
  clear ho0 ho0' ho1 ho1' ho2 ho2' how how4 hof hg1 hg2 hg3 hg4 hg5 hx0 hx1 hx2 hap hap2 hB1 hB2 hB3 hB4 hA hA1 hA2 hc1f hc2f
  have HL0 : Hid _ := hl0
  have HL1 : Hid _ := hl1
  have HL2 : Hid _ := hl2
  clear hl0 hl1 hl2
  have hBq : ∀ q3, Below w.heap.size w (w5.drewN q3) := fun q3 => ⟨hB5.os, hB5.tape, hB5.output, hB5.size, hB5.block⟩
  generalize (uv n1).length = k1 at hk1 hR1 hR2 hcap HREAD1 HREAD2 ⊢
  generalize (uv n2).length = k2 at hk2 hR2 hcap HREAD1 HREAD2 ⊢
  obtain ⟨hk11, hk12⟩ := hk1
  obtain ⟨hk21, hk22⟩ := hk2
  go_wp2_with fail
  refine (equal_any _ a n cap c L w5 HL0.out (by omega) hR0 hr0).mono ?_
  rintro e w6 ⟨rfl, q, rfl⟩
  go_wp2_with fail
  refine (HREAD1.out q).mono ?_
  rintro e w6 ⟨rfl, rfl⟩
  have hcn : ¬ cap = n + k1 := by omega
  go_wp2_with fail
  refine (equal_any _ _ n1 (cap - (n + k1)) c1 L1 (w5.drewN q) HL1.out (by omega) (hR1.drewN q) (hr1.drewN q)).mono ?_
  rintro e w6 ⟨rfl, q2, rfl⟩
  rw [show (w5.drewN q).drewN q2 = w5.drewN (q + q2) by simp [World.drewN, Nat.add_assoc]]
  go_wp2_with fail
  rw [show (n : Int) + (k1 : Int) + (n1 : Int) = ((n + k1 + n1 : Nat) : Int) by omega]
  refine (HREAD2.out (q + q2)).mono ?_
  rintro e w6 ⟨rfl, rfl⟩
  by_cases hcc : cap = n + k1 + n1 + k2
  · have hn0 : n2 = 0 := by omega
    subst hn0
    have hL0 : L2 = [] := List.eq_nil_of_length_eq_zero HL2.out
    subst hL0
    go_wp2_with fail
    refine (equal_any _ _ 0 _ c2 [] (w5.drewN (q + q2)) rfl (by omega) (fun h => absurd rfl h) (fun h => absurd rfl h)).mono ?_
    rintro e w6 ⟨rfl, q3, rfl⟩
    go_wp2
    go_ret
    exact ⟨rfl, hBq (q + q2 + q3)⟩
  · go_wp2_with fail
    refine (equal_any _ _ n2 _ c2 L2 (w5.drewN (q + q2)) HL2.out (by omega) (hR2.drewN _) (hr2.drewN _)).mono ?_
    rintro e w6 ⟨rfl, q3, rfl⟩
    go_wp2
    go_ret
    exact ⟨rfl, hBq (q + q2 + q3)⟩
end Go.Proofs.Qxb6618690a
