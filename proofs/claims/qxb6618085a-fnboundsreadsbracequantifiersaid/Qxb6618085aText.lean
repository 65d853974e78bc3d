import Derived.Test.Qxb6618085aParse
import Derived.Laws.BytesArg
namespace Go.Proofs.Qxb6618085a
open Go.RowKit Plain

theorem dec_no {x : Int} (h : ∀ j : Nat, j < 10 → x ≠ 48 + (j : Int)) : isD x = false :=
  isD_false (fun ⟨h1, h2⟩ => h (x - 48).toNat (by omega) (by omega))

theorem table_at (k : Nat) (h : k < (⟨#[48, 49, 50, 51, 52, 53, 54, 55, 56, 57]⟩ : ByteArray).size) : ((⟨#[48, 49, 50, 51, 52, 53, 54, 55, 56, 57]⟩ : ByteArray)[k]'h).toNat = 48 + k := by
  have h10 : k < 10 := h
  obtain rfl | rfl | rfl | rfl | rfl | rfl | rfl | rfl | rfl | rfl : k = 0 ∨ k = 1 ∨ k = 2 ∨ k = 3 ∨ k = 4 ∨ k = 5 ∨ k = 6 ∨ k = 7 ∨ k = 8 ∨ k = 9 := by omega
  all_goals rfl

set_option maxHeartbeats 1000000 in
theorem dec_any (x : Int) (w : World) : Calls Try.prog 26 #[.int .i32 x] w fun e w' => e = .returned (.bool (isD x)) ∧ w' = w := by
  have htab := table_at
  go_enter Try.func26, Try.ntmps26
  go_wp2_with fail
  go_loop [3] (fun v => ∃ k : Nat, k ≤ 10 ∧ v = .int .i64 k ∧ ∀ j : Nat, j < k → x ≠ 48 + (j : Int)) (fun v => 10 - (intOf v).toNat)
  case atStart => exact ⟨0, by omega, rfl, fun j hj => absurd hj (Nat.not_lt_zero _)⟩
  case round =>
    obtain ⟨k, hk, rfl, hno⟩ := hrel
    have HNO : Hid (∀ j : Nat, j < k → x ≠ 48 + (j : Int)) := hno
    clear hno
    by_cases hk10 : k < 10
    · by_cases hx : x = 48 + (k : Int)
      · have hD : isD x = true := isD_mk (by omega) (by omega)
        have hq : (48 + (k : Int) == x) = true := by rw [hx]; simp
        clear HNO hx
        go_wp2
        go_ret
        exact ⟨rfl, rfl⟩
      · have hq : (48 + (k : Int) == x) = false := beq_eq_false_iff_ne.2 (fun e => hx e.symm)
        go_wp2
        go_round
        case rel =>
          refine ⟨k + 1, by omega, by go_num, fun j hj => ?_⟩
          by_cases e : j = k
          · subst e; exact hx
          · exact HNO.out j (by omega)
        case measure => simp [intOf]; omega
    · obtain rfl : k = 10 := by omega
      have hD : isD x = false := dec_no HNO.out
      go_wp2
      go_ret
      exact ⟨rfl, rfl⟩

/-- Bytes in memory. -/
def Rb (w : World) (b c : Nat) (g : Nat → Int) : Prop := ∀ j, j < c → w.cell? ⟨b, j, none⟩ = some (.int .u8 (g j)) ∧ w.frozen? ⟨b, j, none⟩ = false
def upd (f : Nat → Int) (i : Nat) (x : Int) (j : Nat) : Int := if j = i then x else f j
theorem upd_same (f : Nat → Int) (i : Nat) (x : Int) : upd f i x i = x := if_pos rfl
theorem upd_other (f : Nat → Int) {i j : Nat} (x : Int) (h : j ≠ i) : upd f i x j = f j := if_neg h
theorem Rb.set {w : World} {b c : Nat} {f : Nat → Int} (h : Rb w b c f) (i : Nat) (x : Int) (hi : i < c) : Rb (w.setCell ⟨b, i, none⟩ (.int .u8 x)) b c (upd f i x) := by
  intro j hj
  rw [World.frozen?_setCell]
  refine ⟨?_, (h j hj).2⟩
  by_cases e : j = i
  · subst e
    rw [upd_same]
    exact World.cell?_setCell_same _ _ _ (h j hj).1
  · rw [upd_other f x e, World.cell?_setCell_other _ _ _ _ (by intro q; injection q; omega)]
    exact (h j hj).1

theorem info5 : (Try.prog.info? 5).map (fun i => (i.zero, i.size, i.bytes)) = some (some (.int .u8 0), 1, 1) := by kernel_rfl
theorem made_get5 (n j : Nat) (h : j < n) : (madeCells (Value.cells (.int .u8 0)) n)[j]? = some (.int .u8 0) := by
  simp [madeCells, Value.cells, h]
  simp [Nat.mod_one]
theorem run_make_bytes (w : World) (n : Nat) (hn : n ≤ 1000000) :
    (Instr.makeSlice 66 (.int .i64 n) (.int .i64 n)).run Try.prog w = .ok (.slice (some ⟨w.heap.size, 0, none⟩) n n) (w.alloc (.cells (madeCells (Value.cells (.int .u8 0)) n) 5)) := by
  obtain ⟨i0, hi, hz0, hz1, hz2⟩ := info_parts info5
  have h := run_make w 66 5 i0 (.int .u8 0) Try.underlying66 hi hz0 .i64 .i64 (n : Int) (n : Int) (by omega) (by omega) (by rw [hz2]; omega) (by omega)
  simpa [hz1] using h
theorem Rb.new (w : World) (cs : Array Value) (t : TypeId) (c : Nat) (f : Nat → Int) (h : ∀ j, j < c → cs[j]? = some (.int .u8 (f j))) : Rb (w.alloc (.cells cs t)) w.heap.size c f := by
  intro j hj
  refine ⟨?_, ?_⟩
  · rw [World.cell?_alloc_new]; exact h j hj
  · exact World.frozen?_alloc_new _ _ _ _
theorem conv_bytes (W : World) (b n c : Nat) (f g : Nat → Int) (k : Nat) (hR : Rb W b n g) (hg : ∀ j, j < n → g j = f (k + j)) :
    (convert 66 9 (.slice (some ⟨b, 0, none⟩) n c)).run Try.prog W = .ok (.string (txt f k (k + n))) W := by
  have h := run_convert_bytes_arg W 66 5 Try.underlying66 Try.underlying5 b 0 n c ((List.range n).map fun j => f (k + j)) (by simp)
    (by
      intro j hj
      rw [Nat.zero_add, (hR j hj).1, hg j hj]
      simp [List.getD_eq_getElem?_getD, hj]) 9 Try.underlying9
  rw [h]
  simp [txt, strOfNums]

/-- What asciiText gives. -/
def TxPost (f : Nat → Int) (k n : Nat) (w : World) (e : Ending) (w' : World) : Prop := e = .returned (.string (txt f k (k + n))) ∧ Kp w.heap.size w w'

set_option maxHeartbeats 1000000 in
theorem text_any (b o k n c : Nat) (f : Nat → Int) (w : World) (hn : n ≤ 1000000) (hR : ∀ j, j < n → w.cell? ⟨b, o + j, none⟩ = some (.int .i32 (f (k + j)))) (hd : ∀ j, j < n → isD (f (k + j)) = true) :
    Calls Try.prog 27 #[.slice (some ⟨b, o, none⟩) n c] w fun e w' => TxPost f k n w e w' := by
  have hmk := run_make_bytes w n hn
  have hRb : Rb (w.alloc (.cells (madeCells #[Value.int .u8 0] n) 5)) w.heap.size n (fun _ => 0) := Rb.new w _ 5 _ _ (fun j hj => made_get5 n j hj)
  have hK0 : Kp w.heap.size w (w.alloc (.cells (madeCells #[Value.int .u8 0] n) 5)) := (Kp.refl _ _).alloc _
  go_enter Try.func27, Try.ntmps27
  go_wp2_with fail
  go_loopw [4] (fun v wr => ∃ (i : Nat) (g : Nat → Int), i ≤ n ∧ v = .int .i64 i ∧ Rb wr w.heap.size n g ∧ (∀ j, j < i → g j = f (k + j)) ∧ Kp w.heap.size w wr) (fun v _ => n - (intOf v).toNat)
  case atStart => exact ⟨0, fun _ => 0, Nat.zero_le _, rfl, hRb, fun j hj => absurd hj (Nat.not_lt_zero _), hK0⟩
  case round =>
    obtain ⟨i, g, hi, rfl, hRi, hgi, hKi⟩ := hrel
    have HG : Hid (∀ j, j < i → g j = f (k + j)) := hgi
    clear hgi hRb hK0
    by_cases hlt : i < n
    · have h0 := hR i hlt
      have h1 : wr.cell? ⟨b, o + i, none⟩ = some (.int .i32 (f (k + i))) := by
        have hb := World.block_lt_of_cell? w _ h0
        exact (World.cell?_of_block (hKi.block b hb (Nat.ne_of_lt hb))).trans h0
      obtain ⟨h2, h3⟩ := hRi i hlt
      have hdd := isD_true (hd i hlt)
      generalize hy : f (k + i) = y at h1 hdd
      have HY : Hid (f (k + i) = y) := hy
      generalize g i = y0 at h2
      have hii : (i : Int) < (n : Int) := by omega
      clear hy h0 hR hd
      obtain ⟨hd1, hd2⟩ := hdd
      go_wp2
      go_roundw
      case rel =>
        refine ⟨i + 1, upd g i y, by omega, by go_num, hRi.set i y hlt, fun j hj => ?_, hKi.setCell _ _⟩
        by_cases e : j = i
        · subst e; rw [upd_same]; exact HY.out.symm
        · rw [upd_other _ _ e]; exact HG.out j (by omega)
      case measure => simp [intOf]; omega
    · obtain rfl : i = n := by omega
      have hcv := conv_bytes wr w.heap.size i i f g k hRi HG.out
      clear hR hd
      go_wp2
      go_ret
      exact ⟨rfl, hKi⟩
end Go.Proofs.Qxb6618085a
