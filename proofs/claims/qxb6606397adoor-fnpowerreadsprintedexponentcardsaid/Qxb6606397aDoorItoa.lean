import Derived.Test.Qxb6606397aDoorUtoa
namespace Go.Proofs.Qxb6606397aDoor
open Go.RowKit Plain

theorem data_app (a b : ByteArray) : (a ++ b).data.toList = a.data.toList ++ b.data.toList := by simp
theorem size_plus (a b : ByteArray) : (a ++ b).size = a.size + b.size := by simp

set_option maxHeartbeats 400000 in
/-- b1Itoa at n that is not negative. -/
theorem itoa_pos (n : Int) (w : World) (h0 : 0 ≤ n) (h1 : n ≤ 1073741824) :
    Calls Tryd.prog 12 #[.int .i64 n] w fun e w' => ∃ t : ByteArray, e = .returned (.string t) ∧ AllDig t.data.toList ∧ t.data.toList ≠ [] ∧ (val t.data.toList : Int) = n ∧ t.size ≤ 20 ∧ Below w.heap.size w w' := by
  obtain ⟨U, rfl⟩ := Int.eq_ofNat_of_zero_le h0
  go_enter Tryd.func12, Tryd.ntmps12
  go_wp2_with (go_at_call 14; refine (utoa_any U _ (by omega)).mono ?_; rintro e w1 ⟨t, rfl, q1, q2, q3, q4, q5⟩)
  go_ret
  exact ⟨t, rfl, q1, q2, by rw [q3], q4, q5⟩

theorem wrap_neg (n : Int) (h0 : n < 0) (h1 : -1073741824 ≤ n) : IntKind.u64.wrap (-IntKind.u64.wrap n) = ((-n).toNat : Int) := by
  rw [IntKind.wrap_u64, IntKind.wrap_u64]
  omega

set_option maxHeartbeats 400000 in
/-- b1Itoa at n that is negative. -/
theorem itoa_neg (n : Int) (w : World) (h0 : n < 0) (h1 : -1073741824 ≤ n) :
    Calls Tryd.prog 12 #[.int .i64 n] w fun e w' => ∃ s t : ByteArray, e = .returned (.string s) ∧ s.size ≤ 21 ∧ s.data.toList = 45 :: t.data.toList ∧ AllDig t.data.toList ∧ t.data.toList ≠ [] ∧ (val t.data.toList : Int) = -n ∧ t.size ≤ 20 ∧ Below w.heap.size w w' := by
  have hu := fun w => utoa_any (-n).toNat w (by omega)
  rw [← wrap_neg n h0 h1] at hu
  have HU : Hid (∀ w, Calls Tryd.prog 14 #[.int .u64 (IntKind.u64.wrap (-IntKind.u64.wrap n))] w fun e w' => ∃ t : ByteArray, e = .returned (.string t) ∧ AllDig t.data.toList ∧ t.data.toList ≠ [] ∧ val t.data.toList = (-n).toNat ∧ t.size ≤ 20 ∧ Below w.heap.size w w') := hu
  clear hu
  go_enter Tryd.func12, Tryd.ntmps12
  go_wp2_with (go_at_call 14; refine (HU.out _).mono ?_; rintro e w1 ⟨t, rfl, q1, q2, q3, q4, q5⟩)
  go_ret
  exact ⟨_, t, rfl, by rw [size_plus]; have : ({ data := #[45] } : ByteArray).size = 1 := rfl; omega, by rw [data_app]; rfl, q1, q2, by rw [q3]; omega, q4, q5⟩
end Go.Proofs.Qxb6606397aDoor
