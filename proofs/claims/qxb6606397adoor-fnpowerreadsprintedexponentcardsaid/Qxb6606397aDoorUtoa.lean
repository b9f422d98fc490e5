import Derived.Test.Qxb6606397aDoorPower
import Derived.Laws.BytesArg
namespace Go.Proofs.Qxb6606397aDoor
open Go.RowKit Plain

/-- How the loop of b1Utoa stands: the digits 'l' are written from place 'k' on; 'U' is what is left. -/
def Writes (B : Nat) (w wr : World) (k U : Nat) (l : List UInt8) (U0 : Nat) : Prop :=
  l.length = 20 - k ∧ AllDig l ∧ valF U l = U0 ∧ U < 10 ^ k ∧ (∀ j, j < 20 → ∃ v, wr.cell? ⟨B, j, none⟩ = some (.int .u8 v)) ∧ (∀ j, j < 20 → wr.frozen? ⟨B, j, none⟩ = false) ∧
    (∀ j c, l[j]? = some c → wr.cell? ⟨B, k + j, none⟩ = some (.int .u8 (c.toNat : Int))) ∧ Below B w wr

/-- 'buf[i:]' of the array. -/
theorem run_tail (B k : Nat) (hk0 : 1 ≤ k) (hk1 : k ≤ 20) (W : World) :
    (Instr.sliceAt 38 (.pointer (some ⟨B, 0, none⟩)) (some (.int .i64 ((k : Int) - 1))) none none).run Tryd.prog W = .ok (.slice (some ⟨B, k - 1, none⟩) (20 - (k - 1)) (20 - (k - 1))) W := by
  have hl : Tryd.prog.arrayLen 38 = 20 := by kernel_rfl
  rw [run_sliceAt_array_l W 38 ⟨B, 0, none⟩ (by rw [hl]; kernel_rfl) .i64 ((k : Int) - 1) (by omega) (by rw [hl]; omega)]
  rw [hl]
  have hs : (sizeOf (Tryd.prog.elem 38)).run Tryd.prog W = .ok 1 W := by kernel_rfl
  rw [hs]
  have e : ((k : Int) - 1).toNat = k - 1 := by omega
  simp only [Result.andThen, slicedAt, e]
  rw [if_neg (by omega)]
  simp [Addr.add]
  intro h; omega

theorem same_cell {w : World} {a : Addr} {v u : Value} (h : w.cell? a = some u) : (w.setCell a v).cell? a = some v := World.cell?_setCell_same _ _ _ h
theorem other_cell {w : World} {B i j : Nat} {v : Value} (h : i ≠ j) : (w.setCell ⟨B, i, none⟩ v).cell? ⟨B, j, none⟩ = w.cell? ⟨B, j, none⟩ :=
  World.cell?_setCell_other _ _ _ _ (by intro e; injection e; omega)

theorem digit_of (U : Nat) : ∃ c : UInt8, c.toNat = 48 + U % 10 ∧ dig c = true := by
  have h : 48 + U % 10 < 256 := by omega
  have e : (UInt8.ofNat (48 + U % 10)).toNat = 48 + U % 10 := by
    rw [UInt8.toNat_ofNat']; exact Nat.mod_eq_of_lt h
  exact ⟨UInt8.ofNat (48 + U % 10), e, (dig_iff _).2 (by rw [e]; omega)⟩

theorem writes_start (w : World) (U0 : Nat) (hU : U0 < 18446744073709551616) (cs : Array Value) (t : TypeId) (hcs : cs = Array.replicate 20 (.int .u8 0)) :
    Writes w.heap.size w (w.alloc (.cells cs t)) 20 U0 [] U0 := by
  subst hcs
  refine ⟨rfl, fun c h => (by cases h), valF_nil _, Nat.lt_of_lt_of_le hU (by decide), ?_, ?_, fun j c h => (by simp at h), (Below.refl _ _).alloc (Nat.le_refl _) _⟩
  · intro j hj
    refine ⟨0, ?_⟩
    rw [World.cell?_alloc_new]
    simp [hj]
  · intro j hj
    exact World.frozen?_alloc_new _ _ _ _

/-- One round: a digit more. -/
theorem writes_step (B : Nat) (w wr : World) (k U : Nat) (l : List UInt8) (U0 : Nat) (hk0 : 1 ≤ k) (hk1 : k ≤ 20) (c : UInt8) (hc : c.toNat = 48 + U % 10) (hd : dig c = true) (h : Writes B w wr k U l U0) :
    Writes B w (wr.setCell ⟨B, k - 1, none⟩ (.int .u8 (c.toNat : Int))) (k - 1) (U / 10) (c :: l) U0 := by
  obtain ⟨h1, h2, h3, h4, h5, h6, h7, h8⟩ := h
  refine ⟨by simp only [List.length_cons]; omega, ?_, ?_, ?_, ?_, ?_, ?_, h8.setCell (Nat.le_refl _) _⟩
  · intro x hx
    rcases List.mem_cons.1 hx with rfl | hx
    · exact hd
    · exact h2 x hx
  · rw [valF_cons]
    have e : U / 10 * 10 + (c.toNat - 48) = U := by omega
    rw [e]; exact h3
  · have e : 10 ^ k = 10 ^ (k - 1) * 10 := by
      have ek : k = k - 1 + 1 := by omega
      conv => lhs; rw [ek]
      exact Nat.pow_succ 10 (k - 1)
    omega
  · intro j hj
    by_cases hjk : j = k - 1
    · subst hjk
      obtain ⟨v, hv⟩ := h5 (k - 1) hj
      exact ⟨_, same_cell hv⟩
    · obtain ⟨v, hv⟩ := h5 j hj
      exact ⟨v, by rw [other_cell (by omega)]; exact hv⟩
  · intro j hj
    rw [World.frozen?_setCell]; exact h6 j hj
  · intro j x hx
    cases j with
    | zero =>
      have e : c = x := by simpa using hx
      subst e
      obtain ⟨v, hv⟩ := h5 (k - 1) (by omega)
      exact same_cell hv
    | succ j =>
      have hx' : l[j]? = some x := by simpa using hx
      have e : k - 1 + (j + 1) = k + j := by omega
      rw [e, other_cell (by omega)]
      exact h7 j x hx'

/-- The string that is made at the loop's end. -/
theorem writes_text (B : Nat) (w W : World) (k : Nat) (l : List UInt8) (U0 : Nat) (h : Writes B w W k 0 l U0) :
    ∃ t : ByteArray, t.data.toList = l ∧ (convert 39 9 (.slice (some ⟨B, k, none⟩) (20 - k) (20 - k))).run Tryd.prog W = .ok (.string t) W := by
  obtain ⟨h1, h2, h3, h4, h5, h6, h7, h8⟩ := h
  refine ⟨_, ?_, run_convert_bytes_arg (P := Tryd.prog) W 39 5 Tryd.underlying39 Tryd.underlying5 B k (20 - k) (20 - k) (l.map fun c => (c.toNat : Int)) (by rw [List.length_map, h1]) ?_ 9 Tryd.underlying9⟩
  · rw [strOfNums_data, List.map_map]
    conv => rhs; rw [← List.map_id l]
    apply List.map_congr_left
    intro x _
    simp
  · intro i hi
    have hl : i < l.length := by omega
    rw [h7 i _ (List.getElem?_eq_getElem hl)]
    simp [List.getD, List.getElem?_map, List.getElem?_eq_getElem hl]

theorem more_digits (U k : Nat) (h : U < 10 ^ k) (hk : 1 ≤ k) (hz : ¬ U / 10 = 0) : 1 ≤ k - 1 := by
  by_cases e : k = 1
  · subst e
    have e1 : 10 ^ 1 = 10 := rfl
    omega
  · omega
theorem writes_end (B : Nat) (w W : World) (k : Nat) (c : UInt8) (l : List UInt8) (U0 : Nat) (t : ByteArray) (ht : t.data.toList = c :: l) (h : Writes B w W k 0 (c :: l) U0) :
    AllDig t.data.toList ∧ t.data.toList ≠ [] ∧ val t.data.toList = U0 ∧ t.size ≤ 20 ∧ Below B w W := by
  obtain ⟨h1, h2, h3, h4, h5, h6, h7, h8⟩ := h
  rw [Lib.size_eq, ht]
  exact ⟨h2, List.cons_ne_nil _ _, h3, by omega, h8⟩

set_option maxHeartbeats 400000 in
/-- b1Utoa. -/
theorem utoa_any (U0 : Nat) (w : World) (hU : U0 < 18446744073709551616) :
    Calls Tryd.prog 14 #[.int .u64 U0] w fun e w' => ∃ t : ByteArray, e = .returned (.string t) ∧ AllDig t.data.toList ∧ t.data.toList ≠ [] ∧ val t.data.toList = U0 ∧ t.size ≤ 20 ∧ Below w.heap.size w w' := by
  go_enter Tryd.func14, Tryd.ntmps14
  go_wp2
  go_loopw [0, 4] (fun u i wr => ∃ (k U : Nat) (l : List UInt8), 1 ≤ k ∧ k ≤ 20 ∧ u = .int .u64 U ∧ i = .int .i64 k ∧ U < 18446744073709551616 ∧ Hid (Writes w.heap.size w wr k U l U0)) (fun u _ _ => (intOf u).toNat)
  case atStart => exact ⟨20, U0, [], by omega, by omega, rfl, rfl, hU, writes_start w U0 hU _ _ rfl⟩
  case round =>
    obtain ⟨k, U, l, hk0, hk1, rfl, rfl, hUb, HW⟩ := hrel
    obtain ⟨w1, w2, w3, w4, w5, w6, w7, w8⟩ := HW.out
    obtain ⟨v0, hc⟩ := w5 (k - 1) (by omega)
    have hf := w6 (k - 1) (by omega)
    obtain ⟨c, hc1, hc2⟩ := digit_of U
    have hst := writes_step w.heap.size w wr k U l U0 hk0 hk1 c hc1 hc2 HW.out
    have e48 : (c.toNat : Int) = 48 + (U : Int) % 10 := by omega
    rw [e48] at hst
    have HS : Hid (Writes w.heap.size w (wr.setCell ⟨w.heap.size, k - 1, none⟩ (.int .u8 (48 + (U : Int) % 10))) (k - 1) (U / 10) (c :: l) U0) := hst
    have H4 : Hid (U < 10 ^ k) := w4
    clear w1 w2 w3 w4 w5 w6 w7 w8 hst e48 hc1 hc2 HW
    by_cases hz : U / 10 = 0
    · have hz' : ((U : Int) / 10 == 0) = true := by
        have : (U : Int) / 10 = 0 := by omega
        rw [this]; rfl
      have hs0 := HS.out
      rw [hz] at hs0
      obtain ⟨t, ht, hcv⟩ := writes_text _ _ _ _ _ _ hs0
      have hsl := run_tail w.heap.size k hk0 hk1
      have HT : Hid (t.data.toList = c :: l) := ht
      have HS0 : Hid (Writes w.heap.size w (wr.setCell ⟨w.heap.size, k - 1, none⟩ (.int .u8 (48 + (U : Int) % 10))) (k - 1) 0 (c :: l) U0) := hs0
      clear ht hs0 HS hz
      go_wp2
      go_ret
      exact ⟨t, rfl, writes_end _ _ _ _ _ _ _ _ HT.out HS0.out⟩
    · have hz' : ((U : Int) / 10 == 0) = false := by
        simp only [beq_eq_false_iff_ne]; omega
      go_wp2
      go_roundw
      case rel => exact ⟨k - 1, U / 10, c :: l, more_digits U k H4.out hk0 hz, by omega, by go_num, by go_num, by omega, HS⟩
      case measure => simp [intOf]; omega
end Go.Proofs.Qxb6606397aDoor
