import Derived.Test.Qxb6618690aProg
import Derived.Test.Qxb6618690aBytes
import Derived.Deep.QuietTactic
import Derived.BigQuiet
namespace Go.Proofs.Qxb6618690a
open Go.RowKit

theorem info5 : (Try.prog.info? 5).map (fun i => (i.zero, i.size, i.bytes)) = some (some (.int .u8 0), 1, 1) := by kernel_rfl

/-- What AppendUvarint leaves. -/
def UvPost (N n x : Nat) (sv : Value) (xs : List Value) (w : World) (e : Ending) (w' : World) : Prop :=
  ∃ v', e = .returned v' ∧ w'.ownsRow N 5 1 v' (n + (uv x).length) (xs ++ bc (uv x)) ∧ w.grownBy w' sv.ownBlock ∧ Loc v' sv w

set_option maxHeartbeats 2000000 in
set_option maxRecDepth 100000 in
theorem uvarint_any (N n x : Nat) (hx : x < 2097152) (sv : Value) (xs : List Value) (w : World) (hown : w.ownsRow N 5 1 sv n xs) (hN : N ≤ w.heap.size) (hlim : n + 10 ≤ 140737488355328) :
    Calls Try.prog 24 #[sv, .int .u64 x] w fun e w' => UvPost N n x sv xs w e w' := by
  obtain ⟨i0, hi, hz0, hz1, hz2⟩ := info_parts info5
  have hlen : (Lib.uvarint x).length ≤ 10 := Lib.uvarint_length64 (by omega)
  go_enter Try.func24, Try.ntmps24
  go_wp2_with fail
  go_loopw [0, 1] (fun vb vx wr => ∃ (y : Nat) (pre : List UInt8), vx = .int .u64 y ∧ y ≤ x ∧ Lib.uvarint x = pre ++ Lib.uvarint y ∧ wr.ownsRow N 5 1 vb (n + pre.length) (xs ++ Lib.byteCells pre) ∧ w.grownBy wr sv.ownBlock ∧ Loc vb sv w)
    (fun _ vx _ => (intOf vx).toNat)
  case atStart => exact ⟨x, [], rfl, Nat.le_refl _, rfl, by simpa [Lib.byteCells] using hown, grown_refl _ _, .inl rfl⟩
  case round =>
    obtain ⟨y, pre, rfl, hy, hsplit, hown1, hg, hloc⟩ := hrel
    have hpl : pre.length + (Lib.uvarint y).length ≤ 10 := by
      have h2 := congrArg List.length hsplit
      rw [List.length_append] at h2
      omega
    have hyp := Lib.uvarint_pos y
    have hsz := hg.size
    have HSP : Hid (Lib.uvarint x = pre ++ Lib.uvarint y) := hsplit
    clear hsplit
    by_cases h128 : 128 ≤ y
    · have hor : bits .or .u8 ((y : Int) % 256) 128 = ((y % 128 + 128 : Nat) : Int) := by
        rw [Lib.u8_or128_any _ (by omega) (by omega)]
        omega
      go_wp2_with (at_builtin; refine wpList_append_at rfl _ _ 27 rfl N 5 i0 (.int .u8 0) Try.underlying27 hi hz0 hz1 hz2 rfl _ _ _ rfl (hown1.alloc _) ⟨wr.heap.size, 0, none⟩ 1 1 [Value.int .u8 ((y % 128 + 128 : Nat) : Int)] rfl rfl ?c1 ?c2 ?c3 ?c4 ?_)
      case c1 =>
        intro j u hj
        match j, hj with
        | 0, hj => simp at hj; subst hj; simp [Addr.add]
      case c2 => intro u hu; simp at hu; subst hu; rfl
      case c3 => omega
      case c4 => simp; omega
      intro v' w1 hown' hgrow hl1
      have hg1 := grown_trans (grown_alloc hg _) hgrow hloc
      have hloc1 := hloc.trans hl1 (by simp; omega)
      clear hgrow hl1
      go_wp2
      go_roundw
      case rel =>
        refine ⟨y / 128, pre ++ [(y % 128 + 128).toUInt8], by go_num, by omega, by rw [HSP.out, Lib.uvarint_big h128]; simp, ?_, hg1, hloc1⟩
        have ec : ((y % 128 + 128 : Nat) : Int) = (y : Int) % 128 + 128 := by omega
        rw [Lib.byteCells_snoc pre (by omega), List.length_append, List.length_singleton, ← Nat.add_assoc, ec]
        simpa using hown'
      case measure => simp [intOf]; omega
    · have hsm : Lib.uvarint y = [y.toUInt8] := Lib.uvarint_small (by omega)
      have HSM : Hid _ := hsm
      clear hsm
      go_wp2_with (at_builtin; refine wpList_append_at rfl _ _ 27 rfl N 5 i0 (.int .u8 0) Try.underlying27 hi hz0 hz1 hz2 rfl _ _ _ rfl (hown1.alloc _) ⟨wr.heap.size, 0, none⟩ 1 1 [Value.int .u8 (y : Int)] rfl rfl ?c1 ?c2 ?c3 ?c4 ?_)
      case c1 =>
        intro j u hj
        match j, hj with
        | 0, hj => simp at hj; subst hj; simp [Addr.add]
      case c2 => intro u hu; simp at hu; subst hu; rfl
      case c3 => omega
      case c4 => simp; omega
      intro v' w1 hown' hgrow hl1
      have hg1 := grown_trans (grown_alloc hg _) hgrow hloc
      have hloc1 := hloc.trans hl1 (by simp; omega)
      clear hgrow hl1
      go_wp2
      go_ret
      refine ⟨v', rfl, ?_, hg1, hloc1⟩
      have e1 : uv x = (pre ++ [y.toUInt8]).map (·.toNat) := by rw [← uvarint_uv x hx, HSP.out, HSM.out]
      have e2 : bc (uv x) = Lib.byteCells pre ++ [Value.int .u8 (y : Int)] := by rw [e1, ← byteCells_eq, Lib.byteCells_snoc pre (by omega)]
      have e3 : (uv x).length = pre.length + 1 := by rw [e1]; simp
      rw [e2, e3]
      simpa [Nat.add_assoc] using hown'

/-- What appendBytes leaves: what stood before, the length as a varint, the bytes. -/
def ApPost (N n m : Nat) (sv : Value) (xs : List Value) (S : List Nat) (w : World) (e : Ending) (w' : World) : Prop :=
  ∃ g cap, e = .returned (.slice (some ⟨g, 0, none⟩) (n + (uv m).length + m) cap) ∧ w'.ownsRow N 5 1 (.slice (some ⟨g, 0, none⟩) (n + (uv m).length + m) cap) (n + (uv m).length + m) (xs ++ bc (uv m) ++ bc S) ∧
    w.grownBy w' sv.ownBlock ∧ Loc (.slice (some ⟨g, 0, none⟩) (n + (uv m).length + m) cap) sv w
theorem apPost_mk {N n m : Nat} {sv v : Value} {xs : List Value} {S : List Nat} {w w' : World} (ho : w'.ownsRow N 5 1 v (n + (uv m).length + m) (xs ++ bc (uv m) ++ bc S)) (hg : w.grownBy w' sv.ownBlock) (hl : Loc v sv w) : ApPost N n m sv xs S w (.returned v) w' := by
  have hk := (uv_len m).1
  rcases ho.2 with ⟨_, h0⟩ | ⟨g, cap, cur, rfl, _⟩
  · omega
  · exact ⟨g, cap, rfl, ho, hg, hl⟩

set_option maxHeartbeats 2000000 in
set_option maxRecDepth 100000 in
theorem appendBytes_any (N n m sc : Nat) (sa : Option Addr) (sv : Value) (xs : List Value) (S : List Nat) (w : World) (hn : n ≤ 10000000) (hm : m ≤ 262144) (hown : w.ownsRow N 5 1 sv n xs) (hN : N ≤ w.heap.size)
    (hs : w.ownsRow N 5 1 (.slice sa m sc) m (bc S)) (hne : (Value.slice sa m sc).ownBlock = none ∨ (Value.slice sa m sc).ownBlock ≠ sv.ownBlock) :
    Calls Try.prog 21 #[sv, .slice sa m sc] w fun e w' => ApPost N n m sv xs S w e w' := by
  obtain ⟨i0, hi, hz0, hz1, hz2⟩ := info_parts info5
  have hul := uv_len m
  rcases hs.2 with ⟨hv, rfl⟩ | ⟨g, cap, cur, hv, _⟩
  · obtain ⟨rfl, rfl⟩ : sa = none ∧ sc = 0 := by injection hv with h1 _ h2; exact ⟨h1, h2⟩
    have hS : bc S = [] := List.eq_nil_of_length_eq_zero (by simpa using hs.1)
    go_enter Try.func21, Try.ntmps21
    go_wp2_with fail
    refine (uvarint_any N n 0 (by omega) sv xs w hown hN (by omega)).mono ?_
    rintro e w1 ⟨v1, rfl, hown1, hg1, hl1⟩
    go_wp2_with (at_builtin; refine wpList_append_own_none rfl _ _ 27 rfl N 5 i0 1 Try.underlying27 hi v1 _ _ rfl hown1 rfl ?_)
    go_ret
    exact apPost_mk (by rw [hS]; simpa using hown1) hg1 hl1
  · obtain ⟨rfl, rfl⟩ : sa = some ⟨g, 0, none⟩ ∧ sc = cap := by injection hv with h1 _ h2; exact ⟨h1, h2⟩
    have hSl : (bc S).length = m * 1 := hs.1
    go_enter Try.func21, Try.ntmps21
    go_wp2_with fail
    refine (uvarint_any N n m (by omega) sv xs w hown hN (by omega)).mono ?_
    rintro e w1 ⟨v1, rfl, hown1, hg1, hl1⟩
    have hs1 : w1.ownsRow N 5 1 (.slice (some ⟨g, 0, none⟩) m sc) m (bc S) := hs.kept hg1 hne
    have hcells := hs1.cells (g := g) rfl
    have hsz := hg1.size
    go_wp2_with (at_builtin; refine wpList_append_at rfl _ _ 27 rfl N 5 i0 (.int .u8 0) Try.underlying27 hi hz0 hz1 hz2 rfl v1 _ _ rfl hown1 ⟨g, 0, none⟩ m sc (bc S) rfl hSl hcells (bc_one S) ?c3 ?c4 ?_)
    case c3 => omega
    case c4 => omega
    intro v2 w2 hown2 hg2 hl2
    go_wp2
    go_ret
    exact apPost_mk (v := v2) (by rw [List.append_assoc]; exact hown2) (grown_trans hg1 hg2 hl1) (hl1.trans hl2 hg1.size)

theorem zzappend_any (N n m sc : Nat) (sa : Option Addr) (sv : Value) (xs : List Value) (S : List Nat) (w : World) (hn : n ≤ 10000000) (hm : m ≤ 262144) (hown : w.ownsRow N 5 1 sv n xs) (hN : N ≤ w.heap.size)
    (hs : w.ownsRow N 5 1 (.slice sa m sc) m (bc S)) (hne : (Value.slice sa m sc).ownBlock = none ∨ (Value.slice sa m sc).ownBlock ≠ sv.ownBlock) :
    Calls Try.prog 12 #[sv, .slice sa m sc] w fun e w' => ApPost N n m sv xs S w e w' := by
  go_enter Try.func12, Try.ntmps12
  go_wp2_with (go_at_call 21; refine (appendBytes_any N n m sc sa sv xs S _ hn hm hown hN hs hne).mono ?_; rintro e w' ⟨g, cap, rfl, hp⟩)
  go_ret
  exact ⟨g, cap, rfl, hp⟩

/-! ### cloneBytes -/
theorem run_make_bytes (w : World) (n : Nat) (hn : n ≤ 1000000) :
    (Instr.makeSlice 27 (.int .i64 n) (.int .i64 n)).run Try.prog w = .ok (.slice (some ⟨w.heap.size, 0, none⟩) n n) (w.alloc (.cells (madeCells (Value.cells (.int .u8 0)) n) 5)) := by
  obtain ⟨i0, hi, hz0, hz1, hz2⟩ := info_parts info5
  have h := run_make w 27 5 i0 (.int .u8 0) Try.underlying27 hi hz0 .i64 .i64 (n : Int) (n : Int) (by omega) (by omega) (by rw [hz2]; omega) (by omega)
  simpa [hz1] using h
/-- The first i bytes copied, zeros behind. -/
def half (L : List Nat) (i : Nat) : List Nat := L.take i ++ List.replicate (L.length - i) 0
theorem half_length (L : List Nat) (i : Nat) (h : i ≤ L.length) : (half L i).length = L.length := by simp [half]; omega
theorem half_set (L : List Nat) (i : Nat) (h : i < L.length) : (half L i).set i (L.getD i 0) = half L (i + 1) := by
  obtain ⟨k, hk⟩ : ∃ k, L.length - i = k + 1 := ⟨L.length - i - 1, by omega⟩
  have hk2 : L.length - (i + 1) = k := by omega
  have e1 : L.take (i + 1) = L.take i ++ [L.getD i 0] := by
    rw [List.take_succ_eq_append_getElem h]
    simp [List.getD_eq_getElem?_getD, h]
  unfold half
  rw [hk, hk2, e1, List.replicate_succ, List.set_append_right _ _ (by simp; omega)]
  simp [show i - min i L.length = 0 by omega]
theorem half_step (L : List Nat) (i : Nat) (h : i < L.length) : (bc (half L i)).set i (.int .u8 ((L.getD i 0 : Nat) : Int)) = bc (half L (i + 1)) := by
  rw [← half_set L i h]
  simp [bc, List.map_set]
theorem half_zero (L : List Nat) : bc (half L 0) = List.replicate L.length (Value.int .u8 0) := by simp [half, bc]
theorem half_full (L : List Nat) : half L L.length = L := by simp [half]

/-- What cloneBytes leaves. -/
def ClPost (n : Nat) (L : List Nat) (w : World) (e : Ending) (w' : World) : Prop :=
  ∃ a c, e = .returned (.slice a n c) ∧ w'.ownsRow w.heap.size 5 1 (.slice a n c) n (bc L) ∧ w.grownBy w' none ∧ ((Value.slice a n c).ownBlock = none ∨ (Value.slice a n c).ownBlock = some w.heap.size)

set_option maxHeartbeats 1000000 in
theorem clone_any (a : Option Addr) (n c : Nat) (L : List Nat) (w : World) (hA : Arg w a n c L) (hn : n ≤ 262144) :
    Calls Try.prog 13 #[.slice a n c] w fun e w' => ClPost n L w e w' := by
  obtain ⟨hnil, hlen, hrd⟩ := hA
  have he := fun wx => Lib.run_eql_slice_nil (P := Try.prog) wx 27 5 a n c 0 0 Try.underlying27
  cases a with
  | none =>
    obtain ⟨rfl, rfl⟩ := hnil rfl
    have hL : L = [] := List.eq_nil_of_length_eq_zero hlen
    subst hL
    go_enter Try.func13, Try.ntmps13
    go_wp2
    go_ret
    exact ⟨none, 0, rfl, World.ownsRow_nil _ _ _ _, grown_refl _ _, .inl rfl⟩
  | some x =>
    have hmk := run_make_bytes w n (by omega)
    have hown0 : (w.alloc (.cells (madeCells #[Value.int .u8 0] n) 5)).ownsRow w.heap.size 5 1 (.slice (some ⟨w.heap.size, 0, none⟩) n n) n (bc (half L 0)) := by
      have := World.ownsRow_lit (base := w.heap.size) (e := 5) (size := 1) w (madeCells #[Value.int .u8 0] n) n (Nat.le_refl _) (by unfold maxLen; omega) (by simp [size_madeCells])
      rw [toList_madeCells_one] at this
      rw [half_zero, hlen]
      exact this
    have hg0 : w.grownBy (w.alloc (.cells (madeCells #[Value.int .u8 0] n) 5)) none := World.grownBy_alloc _ _ _
    clear hnil
    go_enter Try.func13, Try.ntmps13
    go_wp2_with fail
    go_loopw [4] (fun v wr => ∃ i : Nat, i ≤ n ∧ v = .int .i64 i ∧ wr.ownsRow w.heap.size 5 1 (.slice (some ⟨w.heap.size, 0, none⟩) n n) n (bc (half L i)) ∧ w.grownBy wr none) (fun v _ => n - (intOf v).toNat)
    case atStart => exact ⟨0, Nat.zero_le _, rfl, hown0, hg0⟩
    case round =>
      obtain ⟨i, hi, rfl, hown, hg⟩ := hrel
      clear hown0 hg0
      by_cases hlt : i < n
      · obtain ⟨b, o, hx, hc⟩ := hrd (by omega)
        injection hx with hx
        subst hx
        have h0 := hc i (by omega)
        have h1 : wr.cell? ⟨b, o + i, none⟩ = some (.int .u8 ((L.getD i 0 : Nat) : Int)) := hg.cell h0 (by simp)
        have h2 : wr.cell? ⟨w.heap.size, i, none⟩ = some (.int .u8 (((half L i).getD i 0 : Nat) : Int)) := by
          rw [hown.cellAt i (by omega), bc_get _ _ (by rw [half_length L i (by omega)]; omega)]
        have h3 := hown.frozenAt i
        have hst := hown.stored i (.int .u8 ((L.getD i 0 : Nat) : Int))
        rw [half_step L i (by omega)] at hst
        have hgs : w.grownBy (wr.setCell ⟨w.heap.size, i, none⟩ (.int .u8 ((L.getD i 0 : Nat) : Int))) none :=
          ⟨hg.os, hg.tape, hg.output, by simpa using hg.size, fun k hk hr => (Below.heap_setCell _ _ _ _ (by show k ≠ w.heap.size; omega)).trans (hg.block k hk hr)⟩
        have hst1 := hst.1
        clear hst
        generalize L.getD i 0 = y at h1 hst1 hgs
        generalize (half L i).getD i 0 = y0 at h2
        have hii : (i : Int) < (n : Int) := by omega
        clear h0 hc hrd
        go_wp2
        go_roundw
        case rel => exact ⟨i + 1, by omega, by go_num, hst1, hgs⟩
        case measure => simp [intOf]; omega
      · obtain rfl : i = n := by omega
        rw [← hlen, half_full, hlen] at hown
        clear hrd
        go_wp2
        go_ret
        exact ⟨_, i, rfl, hown, hg, .inr rfl⟩

/-! ### bytesEqual -/
set_option maxHeartbeats 400000 in
theorem equal_any (a a' : Option Addr) (n c c' : Nat) (L : List Nat) (w : World) (hL : L.length = n) (hn : n ≤ 1000000) (h : Rd w a L) (h' : Rd w a' L) :
    Calls Try.prog 14 #[.slice a n c, .slice a' n c'] w fun e w' => e = .returned (.bool true) ∧ ∃ q, w' = w.drewN q := by
  have hne : ((n : Int) != (n : Int)) = false := by simp
  go_enter Try.func14, Try.ntmps14
  go_wp2_with fail
  go_loopw [5] (fun v wx => ∃ t q : Nat, t ≤ n ∧ v = .int .i64 t ∧ wx = w.drewN q) (fun v _ => n - (intOf v).toNat)
  case atStart => exact ⟨0, 0, Nat.zero_le _, rfl, rfl⟩
  case round =>
    obtain ⟨t, q, ht, rfl, rfl⟩ := hrel
    by_cases hlt : t < n
    · obtain ⟨b, o, rfl, hc⟩ := h (by omega)
      obtain ⟨b', o', rfl, hc'⟩ := h' (by omega)
      have h1 := hc t (by omega)
      have h2 := hc' t (by omega)
      generalize L.getD t 0 = y at h1 h2
      have hi : (t : Int) < (n : Int) := by omega
      clear hc hc'
      go_wp2
      go_quiet (fail)
      go_wp2
      go_roundw
      case rel => exact ⟨t + 1, q + nq, by omega, by go_num, by simp [World.drewN]⟩
      case measure => simp [intOf]; omega
    · go_wp2
      go_ret
      exact ⟨rfl, q, rfl⟩
end Go.Proofs.Qxb6618690a
