import Derived.Test.Qxb6606397aDoorItoa
namespace Go.Proofs.Qxb6606397aDoor
open Go.RowKit Plain

set_option maxHeartbeats 400000 in
theorem bytes11_yes (s : ByteArray) (n : Int) (w : World) (h : s.size ≤ 1048576) :
    Calls Tryd.prog 11 #[.int .i64 n, .string s] w fun e w' => e = .returned (.bool true) ∧ w' = w := by
  go_enter Tryd.func11, Tryd.ntmps11
  go_wp2
  go_ret
  exact ⟨rfl, rfl⟩
set_option maxHeartbeats 400000 in
theorem bytes11_no (s : ByteArray) (n : Int) (w : World) (h : 1048576 < s.size) :
    Calls Tryd.prog 11 #[.int .i64 n, .string s] w fun e w' => e = .returned (.bool false) ∧ w' = w := by
  go_enter Tryd.func11, Tryd.ntmps11
  go_wp2
  go_ret
  exact ⟨rfl, rfl⟩

/-- What ZZpower answers at a text that parts into a sign, digits and a rest. -/
theorem zz_some (s d r : ByteArray) (b : Bool) (g : List UInt8) (lim x : Int) (ev : Value) (w : World) (hm : s.size ≤ 1048600) (hl0 : -9223372036854775808 ≤ lim) (hl1 : lim ≤ 9223372036854775807)
    (hp : Parse s.data.toList b g d.data.toList r.data.toList) (hd : d.data.toList ≠ []) (hx : sgn b (capped (val d.data.toList) lim) = x)
    (hv : w.cell? ⟨1, 0, none⟩ = some ev) (hev : ev = .nilIface ∨ ∃ te pe, ev = .iface te pe) :
    Calls Tryd.prog 7 #[.string s, .int .i64 lim] w fun e w' => e = .returned (.tuple #[.int .i64 x, .string r, .bool true]) ∧ Below w.heap.size w w' := by
  have H := zz_any s d r b g lim ev w hm hl0 hl1 hp hv hev
  rw [ans_some _ _ _ _ hd, hx] at H
  exact H

theorem digits_nosign (d r : List UInt8) (hd : AllDig d) (hne : d ≠ []) : NoSign (d ++ r) := by
  cases d with
  | nil => exact absurd rfl hne
  | cons c t =>
    intro x hx
    have e : c = x := by simpa using hx
    have hc := (dig_iff c).1 (hd c (by simp))
    subst e
    constructor
    · intro e2; subst e2; exact absurd hc (by decide)
    · intro e2; subst e2; exact absurd hc (by decide)
theorem parse_plain (t rest : ByteArray) (hd : AllDig t.data.toList) (hne : t.data.toList ≠ []) (hr : NoDig rest.data.toList) : Parse (t ++ rest).data.toList false [] t.data.toList rest.data.toList := by
  refine ⟨by rw [data_app]; rfl, hd, hr, Or.inr (Or.inr ⟨rfl, rfl, ?_⟩)⟩
  rw [data_app]; exact digits_nosign _ _ hd hne
theorem parse_minus (s t rest : ByteArray) (hs : s.data.toList = 45 :: t.data.toList) (hd : AllDig t.data.toList) (hr : NoDig rest.data.toList) : Parse (s ++ rest).data.toList true [45] t.data.toList rest.data.toList :=
  ⟨by rw [data_app, hs]; rfl, hd, hr, Or.inl ⟨rfl, rfl⟩⟩
theorem parse_plus (t rest : ByteArray) (hd : AllDig t.data.toList) (hr : NoDig rest.data.toList) : Parse (({ data := #[43, 48, 48, 48] } : ByteArray) ++ t ++ rest).data.toList false [43] (({ data := #[48, 48, 48] } : ByteArray) ++ t).data.toList rest.data.toList := by
  refine ⟨?_, ?_, hr, Or.inr (Or.inl ⟨rfl, rfl⟩)⟩
  · rw [data_app, data_app, data_app]; rfl
  · rw [data_app]
    intro c hc
    rcases List.mem_append.1 hc with h | h
    · have h' : c ∈ [48, 48, 48] := h
      simp at h'
      subst h'; rfl
    · exact hd c h
theorem val_zeros (t : ByteArray) : val (({ data := #[48, 48, 48] } : ByteArray) ++ t).data.toList = val t.data.toList := by
  rw [data_app]
  unfold val
  rw [valF_append]
  rfl

theorem sgn_pos (v : Nat) (lim n : Int) (hv : (v : Int) = n) (h : n ≤ lim) : sgn false (capped v lim) = n := by
  rw [capped_le _ _ (by omega)]; exact hv
theorem sgn_pos_over (v : Nat) (lim n : Int) (hv : (v : Int) = n) (h : lim < n) : sgn false (capped v lim) = lim := by
  rw [capped_gt _ _ (by omega)]; rfl
theorem sgn_neg (v : Nat) (lim n : Int) (hv : (v : Int) = -n) (h : -n ≤ lim) (hb : -1073741824 ≤ n) : sgn true (capped v lim) = n := by
  rw [capped_le _ _ (by omega), hv]
  show wrap64 (- -n) = n
  rw [Int.neg_neg, IntWalk.wrap64_in _ ⟨by omega, by omega⟩]
theorem sgn_neg_over (v : Nat) (lim n : Int) (hv : (v : Int) = -n) (h : lim < -n) (h0 : 0 ≤ lim) (h1 : lim ≤ 1073741824) : sgn true (capped v lim) = -lim := by
  rw [capped_gt _ _ (by omega)]
  show wrap64 (-lim) = -lim
  rw [IntWalk.wrap64_in _ ⟨by omega, by omega⟩]
end Go.Proofs.Qxb6606397aDoor
