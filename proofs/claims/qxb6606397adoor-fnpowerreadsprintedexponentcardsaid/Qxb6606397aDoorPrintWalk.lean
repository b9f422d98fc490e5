import Derived.Test.Qxb6606397aDoorPrint
namespace Go.Proofs.Qxb6606397aDoor
open Go.RowKit Plain

set_option maxHeartbeats 400000 in
theorem print_long (n : Int) (rest : ByteArray) (w : World) (hs : 1048576 < rest.size) :
    Calls Tryd.prog 5 #[.int .i64 n, .string rest] w fun e w' => e = .returned (.bool true) ∧ Below w.heap.size w w' := by
  go_enter Tryd.func5, Tryd.ntmps5
  go_wp2_with (go_at_call 11; refine (bytes11_no _ _ _ hs).mono ?_; rintro e w1 ⟨rfl, rfl⟩)
  go_ret
  exact ⟨rfl, Below.refl _ _⟩

set_option maxHeartbeats 400000 in
theorem print_out (n : Int) (rest : ByteArray) (w : World) (hs : rest.size ≤ 1048576) (hn : n < -1073741824 ∨ 1073741824 < n) :
    Calls Tryd.prog 5 #[.int .i64 n, .string rest] w fun e w' => e = .returned (.bool true) ∧ Below w.heap.size w w' := by
  rcases hn with hn | hn
  · go_enter Tryd.func5, Tryd.ntmps5
    go_wp2_with (go_at_call 11; refine (bytes11_yes _ _ _ hs).mono ?_; rintro e w1 ⟨rfl, rfl⟩)
    go_ret
    exact ⟨rfl, Below.refl _ _⟩
  · have hn' : ¬ n < -1073741824 := by omega
    go_enter Tryd.func5, Tryd.ntmps5
    go_wp2_with (go_at_call 11; refine (bytes11_yes _ _ _ hs).mono ?_; rintro e w1 ⟨rfl, rfl⟩)
    go_ret
    exact ⟨rfl, Below.refl _ _⟩

set_option maxHeartbeats 400000 in
theorem print_digit (n : Int) (rest : ByteArray) (w : World) (hs : rest.size ≤ 1048576) (h0 : -1073741824 ≤ n) (h1 : n ≤ 1073741824) (hp : 0 < rest.size) (hne : rest.toList.isEmpty = false)
    (g1 : 48 ≤ (rest[0].toNat : Int)) (g2 : (rest[0].toNat : Int) ≤ 57) :
    Calls Tryd.prog 5 #[.int .i64 n, .string rest] w fun e w' => e = .returned (.bool true) ∧ Below w.heap.size w w' := by
  have hne' : ¬ rest.toList = [] := by simpa using hne
  go_enter Tryd.func5, Tryd.ntmps5
  go_wp2_with (first | (go_at_call 11; refine (bytes11_yes _ _ _ hs).mono ?_; rintro e w1 ⟨rfl, rfl⟩) | (go_at_call 10; refine (isdig_yes _ _ g1 g2).mono ?_; rintro e w2 ⟨rfl, rfl⟩))
  go_ret
  exact ⟨rfl, Below.refl _ _⟩

set_option maxHeartbeats 1000000 in
theorem print_pos_end (n : Int) (rest : ByteArray) (ev : Value) (w : World) (hs : rest.size ≤ 1048576) (h0 : 0 ≤ n) (h1 : n ≤ 1073741824) (hr : NoDig rest.data.toList)
    (he : rest.toList.isEmpty = true)
    (hv : w.cell? ⟨1, 0, none⟩ = some ev) (hev : ev = .nilIface ∨ ∃ te pe, ev = .iface te pe) :
    Calls Tryd.prog 5 #[.int .i64 n, .string rest] w fun e w' => e = .returned (.bool true) ∧ Below w.heap.size w w' := by
  have HV : Hid (w.cell? ⟨1, 0, none⟩ = some ev) := hv
  have HEV : Hid (ev = .nilIface ∨ ∃ te pe, ev = .iface te pe) := hev
  have HRR : Hid (NoDig rest.data.toList) := hr
  have hB : 1 < w.heap.size := Lib.lt_of_cell hv
  clear hv hev hr
  have he' : rest.toList = [] := by simpa using he
  go_enter Tryd.func5, Tryd.ntmps5
  go_wp2_with (first | (go_at_call 11; refine (bytes11_yes _ _ _ hs).mono ?_; rintro e w1 ⟨rfl, rfl⟩) | (go_at_call 12; refine (itoa_pos _ _ h0 h1).mono ?_; rintro e w2 ⟨t, rfl, q1, q2, q3, q4, hb2⟩))
  have Q1 : Hid (AllDig t.data.toList) := q1
  have Q2 : Hid (t.data.toList ≠ []) := q2
  have Q3 : Hid ((val t.data.toList : Int) = n) := q3
  have P1 : Hid (Parse (t ++ rest).data.toList false [] t.data.toList rest.data.toList) := parse_plain t rest q1 q2 HRR.out
  have Z1 : Hid ((t ++ rest).size ≤ 1048600) := by show (t ++ rest).size ≤ 1048600; rw [size_plus]; omega
  have Z2 : Hid ((({ data := #[43, 48, 48, 48] } : ByteArray) ++ t ++ rest).size ≤ 1048600) := by
    show (({ data := #[43, 48, 48, 48] } : ByteArray) ++ t ++ rest).size ≤ 1048600
    rw [size_plus, size_plus]
    have : ({ data := #[43, 48, 48, 48] } : ByteArray).size = 4 := rfl
    omega
  have P2 : Hid (Parse (({ data := #[43, 48, 48, 48] } : ByteArray) ++ t ++ rest).data.toList false [43] (({ data := #[48, 48, 48] } : ByteArray) ++ t).data.toList rest.data.toList) := parse_plus t rest q1 HRR.out
  have Q5 : Hid ((({ data := #[48, 48, 48] } : ByteArray) ++ t).data.toList ≠ []) := by
    show (({ data := #[48, 48, 48] } : ByteArray) ++ t).data.toList ≠ []
    rw [data_app]; exact List.cons_ne_nil _ _
  have Q6 : Hid ((val (({ data := #[48, 48, 48] } : ByteArray) ++ t).data.toList : Int) = n) := by
    show (val (({ data := #[48, 48, 48] } : ByteArray) ++ t).data.toList : Int) = n
    rw [val_zeros]; exact q3
  clear q1 q2 q3
  have HV2 : Hid (w2.cell? ⟨1, 0, none⟩ = some ev) := (hb2.cell (p := ⟨1, 0, none⟩) hB).trans HV.out
  have hB2 : 1 < w2.heap.size := by have := hb2.size; omega
  refine (zz_some (t ++ rest) t rest false [] 1073741824 n ev _ Z1.out (by omega) (by omega) P1.out Q2.out (sgn_pos _ _ n Q3.out h1) HV2.out HEV.out).mono ?_
  rintro e w3 ⟨rfl, hb3⟩
  have HV3 : Hid (w3.cell? ⟨1, 0, none⟩ = some ev) := (hb3.cell (p := ⟨1, 0, none⟩) hB2).trans HV2.out
  have hB3 : 1 < w3.heap.size := by have := hb3.size; omega
  go_wp2_with fail
  refine (zz_some (t ++ rest) t rest false [] n n ev _ Z1.out (by omega) (by omega) P1.out Q2.out (sgn_pos _ _ n Q3.out (Int.le_refl _)) HV3.out HEV.out).mono ?_
  rintro e w4 ⟨rfl, hb4⟩
  have HV4 : Hid (w4.cell? ⟨1, 0, none⟩ = some ev) := (hb4.cell (p := ⟨1, 0, none⟩) hB3).trans HV3.out
  have hB4 : 1 < w4.heap.size := by have := hb4.size; omega
  go_wp2_with fail
  refine (zz_some ({ data := #[43, 48, 48, 48] } ++ t ++ rest) ({ data := #[48, 48, 48] } ++ t) rest false [43] 1073741824 n ev _ Z2.out (by omega) (by omega) P2.out Q5.out (sgn_pos _ _ n Q6.out h1) HV4.out HEV.out).mono ?_
  rintro e w5 ⟨rfl, hb5⟩
  have HV5 : Hid (w5.cell? ⟨1, 0, none⟩ = some ev) := (hb5.cell (p := ⟨1, 0, none⟩) hB4).trans HV4.out
  have hB5 : 1 < w5.heap.size := by have := hb5.size; omega
  have hb25 := hb2.trans ((hb3.trans ((hb4.trans (hb5.mono hb4.size)).mono hb3.size)).mono hb2.size)
  by_cases hz : n = 0
  · have hz' : ¬ 0 < n := by omega
    clear hz
    go_wp2_with fail
    go_ret
    exact ⟨rfl, hb25⟩
  · have hz' : 0 < n := by omega
    clear hz
    go_wp2_with fail
    refine (zz_some (t ++ rest) t rest false [] (n - 1) (n - 1) ev _ Z1.out (by omega) (by omega) P1.out Q2.out (sgn_pos_over _ _ n Q3.out (by omega)) HV5.out HEV.out).mono ?_
    rintro e w6 ⟨rfl, hb6⟩
    go_wp2_with fail
    go_ret
    exact ⟨rfl, hb25.trans (hb6.mono hb25.size)⟩

set_option maxHeartbeats 1000000 in
theorem print_pos_rest (n : Int) (rest : ByteArray) (ev : Value) (w : World) (hs : rest.size ≤ 1048576) (h0 : 0 ≤ n) (h1 : n ≤ 1073741824) (hr : NoDig rest.data.toList)
    (hp : 0 < rest.size) (hne : rest.toList.isEmpty = false) (hg : ¬ (48 ≤ (rest[0].toNat : Int) ∧ (rest[0].toNat : Int) ≤ 57))
    (hv : w.cell? ⟨1, 0, none⟩ = some ev) (hev : ev = .nilIface ∨ ∃ te pe, ev = .iface te pe) :
    Calls Tryd.prog 5 #[.int .i64 n, .string rest] w fun e w' => e = .returned (.bool true) ∧ Below w.heap.size w w' := by
  have HV : Hid (w.cell? ⟨1, 0, none⟩ = some ev) := hv
  have HEV : Hid (ev = .nilIface ∨ ∃ te pe, ev = .iface te pe) := hev
  have HRR : Hid (NoDig rest.data.toList) := hr
  have hB : 1 < w.heap.size := Lib.lt_of_cell hv
  clear hv hev hr
  have hne' : ¬ rest.toList = [] := by simpa using hne
  have HG : Hid (¬ (48 ≤ (rest[0].toNat : Int) ∧ (rest[0].toNat : Int) ≤ 57)) := hg
  clear hg
  go_enter Tryd.func5, Tryd.ntmps5
  go_wp2_with (first | (go_at_call 11; refine (bytes11_yes _ _ _ hs).mono ?_; rintro e w1 ⟨rfl, rfl⟩) | (go_at_call 10; refine (isdig_no _ _ HG.out).mono ?_; rintro e w10 ⟨rfl, rfl⟩) | (go_at_call 12; refine (itoa_pos _ _ h0 h1).mono ?_; rintro e w2 ⟨t, rfl, q1, q2, q3, q4, hb2⟩))
  have Q1 : Hid (AllDig t.data.toList) := q1
  have Q2 : Hid (t.data.toList ≠ []) := q2
  have Q3 : Hid ((val t.data.toList : Int) = n) := q3
  have P1 : Hid (Parse (t ++ rest).data.toList false [] t.data.toList rest.data.toList) := parse_plain t rest q1 q2 HRR.out
  have Z1 : Hid ((t ++ rest).size ≤ 1048600) := by show (t ++ rest).size ≤ 1048600; rw [size_plus]; omega
  have Z2 : Hid ((({ data := #[43, 48, 48, 48] } : ByteArray) ++ t ++ rest).size ≤ 1048600) := by
    show (({ data := #[43, 48, 48, 48] } : ByteArray) ++ t ++ rest).size ≤ 1048600
    rw [size_plus, size_plus]
    have : ({ data := #[43, 48, 48, 48] } : ByteArray).size = 4 := rfl
    omega
  have P2 : Hid (Parse (({ data := #[43, 48, 48, 48] } : ByteArray) ++ t ++ rest).data.toList false [43] (({ data := #[48, 48, 48] } : ByteArray) ++ t).data.toList rest.data.toList) := parse_plus t rest q1 HRR.out
  have Q5 : Hid ((({ data := #[48, 48, 48] } : ByteArray) ++ t).data.toList ≠ []) := by
    show (({ data := #[48, 48, 48] } : ByteArray) ++ t).data.toList ≠ []
    rw [data_app]; exact List.cons_ne_nil _ _
  have Q6 : Hid ((val (({ data := #[48, 48, 48] } : ByteArray) ++ t).data.toList : Int) = n) := by
    show (val (({ data := #[48, 48, 48] } : ByteArray) ++ t).data.toList : Int) = n
    rw [val_zeros]; exact q3
  clear q1 q2 q3
  have HV2 : Hid (w2.cell? ⟨1, 0, none⟩ = some ev) := (hb2.cell (p := ⟨1, 0, none⟩) hB).trans HV.out
  have hB2 : 1 < w2.heap.size := by have := hb2.size; omega
  refine (zz_some (t ++ rest) t rest false [] 1073741824 n ev _ Z1.out (by omega) (by omega) P1.out Q2.out (sgn_pos _ _ n Q3.out h1) HV2.out HEV.out).mono ?_
  rintro e w3 ⟨rfl, hb3⟩
  have HV3 : Hid (w3.cell? ⟨1, 0, none⟩ = some ev) := (hb3.cell (p := ⟨1, 0, none⟩) hB2).trans HV2.out
  have hB3 : 1 < w3.heap.size := by have := hb3.size; omega
  go_wp2_with fail
  refine (zz_some (t ++ rest) t rest false [] n n ev _ Z1.out (by omega) (by omega) P1.out Q2.out (sgn_pos _ _ n Q3.out (Int.le_refl _)) HV3.out HEV.out).mono ?_
  rintro e w4 ⟨rfl, hb4⟩
  have HV4 : Hid (w4.cell? ⟨1, 0, none⟩ = some ev) := (hb4.cell (p := ⟨1, 0, none⟩) hB3).trans HV3.out
  have hB4 : 1 < w4.heap.size := by have := hb4.size; omega
  go_wp2_with fail
  refine (zz_some ({ data := #[43, 48, 48, 48] } ++ t ++ rest) ({ data := #[48, 48, 48] } ++ t) rest false [43] 1073741824 n ev _ Z2.out (by omega) (by omega) P2.out Q5.out (sgn_pos _ _ n Q6.out h1) HV4.out HEV.out).mono ?_
  rintro e w5 ⟨rfl, hb5⟩
  have HV5 : Hid (w5.cell? ⟨1, 0, none⟩ = some ev) := (hb5.cell (p := ⟨1, 0, none⟩) hB4).trans HV4.out
  have hB5 : 1 < w5.heap.size := by have := hb5.size; omega
  have hb25 := hb2.trans ((hb3.trans ((hb4.trans (hb5.mono hb4.size)).mono hb3.size)).mono hb2.size)
  by_cases hz : n = 0
  · have hz' : ¬ 0 < n := by omega
    clear hz
    go_wp2_with fail
    go_ret
    exact ⟨rfl, hb25⟩
  · have hz' : 0 < n := by omega
    clear hz
    go_wp2_with fail
    refine (zz_some (t ++ rest) t rest false [] (n - 1) (n - 1) ev _ Z1.out (by omega) (by omega) P1.out Q2.out (sgn_pos_over _ _ n Q3.out (by omega)) HV5.out HEV.out).mono ?_
    rintro e w6 ⟨rfl, hb6⟩
    go_wp2_with fail
    go_ret
    exact ⟨rfl, hb25.trans (hb6.mono hb25.size)⟩

set_option maxHeartbeats 1000000 in
theorem print_neg_end (n : Int) (rest : ByteArray) (ev : Value) (w : World) (hs : rest.size ≤ 1048576) (h0 : n < 0) (h1 : -1073741824 ≤ n) (hr : NoDig rest.data.toList)
    (he : rest.toList.isEmpty = true)
    (hv : w.cell? ⟨1, 0, none⟩ = some ev) (hev : ev = .nilIface ∨ ∃ te pe, ev = .iface te pe) :
    Calls Tryd.prog 5 #[.int .i64 n, .string rest] w fun e w' => e = .returned (.bool true) ∧ Below w.heap.size w w' := by
  have HV : Hid (w.cell? ⟨1, 0, none⟩ = some ev) := hv
  have HEV : Hid (ev = .nilIface ∨ ∃ te pe, ev = .iface te pe) := hev
  have HRR : Hid (NoDig rest.data.toList) := hr
  have hB : 1 < w.heap.size := Lib.lt_of_cell hv
  clear hv hev hr
  have he' : rest.toList = [] := by simpa using he
  go_enter Tryd.func5, Tryd.ntmps5
  go_wp2_with (first | (go_at_call 11; refine (bytes11_yes _ _ _ hs).mono ?_; rintro e w1 ⟨rfl, rfl⟩) | (go_at_call 12; refine (itoa_neg _ _ h0 h1).mono ?_; rintro e w2 ⟨s, t, rfl, hs21, q0, q1, q2, q3, q4, hb2⟩))
  have Q2 : Hid (t.data.toList ≠ []) := q2
  have Q3 : Hid ((val t.data.toList : Int) = -n) := q3
  have P1 : Hid (Parse (s ++ rest).data.toList true [45] t.data.toList rest.data.toList) := parse_minus s t rest q0 q1 HRR.out
  have Z1 : Hid ((s ++ rest).size ≤ 1048600) := by
    show (s ++ rest).size ≤ 1048600
    rw [size_plus]; omega
  clear q0 q1 q2 q3
  have HV2 : Hid (w2.cell? ⟨1, 0, none⟩ = some ev) := (hb2.cell (p := ⟨1, 0, none⟩) hB).trans HV.out
  have hB2 : 1 < w2.heap.size := by have := hb2.size; omega
  refine (zz_some (s ++ rest) t rest true [45] 1073741824 n ev _ Z1.out (by omega) (by omega) P1.out Q2.out (sgn_neg _ _ n Q3.out (by omega) h1) HV2.out HEV.out).mono ?_
  rintro e w3 ⟨rfl, hb3⟩
  have HV3 : Hid (w3.cell? ⟨1, 0, none⟩ = some ev) := (hb3.cell (p := ⟨1, 0, none⟩) hB2).trans HV2.out
  have hB3 : 1 < w3.heap.size := by have := hb3.size; omega
  go_wp2_with fail
  refine (zz_some (s ++ rest) t rest true [45] (-n) n ev _ Z1.out (by omega) (by omega) P1.out Q2.out (sgn_neg _ _ n Q3.out (Int.le_refl _) h1) HV3.out HEV.out).mono ?_
  rintro e w4 ⟨rfl, hb4⟩
  have HV4 : Hid (w4.cell? ⟨1, 0, none⟩ = some ev) := (hb4.cell (p := ⟨1, 0, none⟩) hB3).trans HV3.out
  have hB4 : 1 < w4.heap.size := by have := hb4.size; omega
  have hb24 := hb2.trans ((hb3.trans (hb4.mono hb3.size)).mono hb2.size)
  go_wp2_with fail
  refine (zz_some (s ++ rest) t rest true [45] (-n - 1) (-(-n - 1)) ev _ Z1.out (by omega) (by omega) P1.out Q2.out (sgn_neg_over _ _ n Q3.out (by omega) (by omega) (by omega)) HV4.out HEV.out).mono ?_
  rintro e w5 ⟨rfl, hb5⟩
  go_wp2_with fail
  go_ret
  exact ⟨rfl, hb24.trans (hb5.mono hb24.size)⟩

set_option maxHeartbeats 1000000 in
theorem print_neg_rest (n : Int) (rest : ByteArray) (ev : Value) (w : World) (hs : rest.size ≤ 1048576) (h0 : n < 0) (h1 : -1073741824 ≤ n) (hr : NoDig rest.data.toList)
    (hp : 0 < rest.size) (hne : rest.toList.isEmpty = false) (hg : ¬ (48 ≤ (rest[0].toNat : Int) ∧ (rest[0].toNat : Int) ≤ 57))
    (hv : w.cell? ⟨1, 0, none⟩ = some ev) (hev : ev = .nilIface ∨ ∃ te pe, ev = .iface te pe) :
    Calls Tryd.prog 5 #[.int .i64 n, .string rest] w fun e w' => e = .returned (.bool true) ∧ Below w.heap.size w w' := by
  have HV : Hid (w.cell? ⟨1, 0, none⟩ = some ev) := hv
  have HEV : Hid (ev = .nilIface ∨ ∃ te pe, ev = .iface te pe) := hev
  have HRR : Hid (NoDig rest.data.toList) := hr
  have hB : 1 < w.heap.size := Lib.lt_of_cell hv
  clear hv hev hr
  have hne' : ¬ rest.toList = [] := by simpa using hne
  have HG : Hid (¬ (48 ≤ (rest[0].toNat : Int) ∧ (rest[0].toNat : Int) ≤ 57)) := hg
  clear hg
  go_enter Tryd.func5, Tryd.ntmps5
  go_wp2_with (first | (go_at_call 11; refine (bytes11_yes _ _ _ hs).mono ?_; rintro e w1 ⟨rfl, rfl⟩) | (go_at_call 10; refine (isdig_no _ _ HG.out).mono ?_; rintro e w10 ⟨rfl, rfl⟩) | (go_at_call 12; refine (itoa_neg _ _ h0 h1).mono ?_; rintro e w2 ⟨s, t, rfl, hs21, q0, q1, q2, q3, q4, hb2⟩))
  have Q2 : Hid (t.data.toList ≠ []) := q2
  have Q3 : Hid ((val t.data.toList : Int) = -n) := q3
  have P1 : Hid (Parse (s ++ rest).data.toList true [45] t.data.toList rest.data.toList) := parse_minus s t rest q0 q1 HRR.out
  have Z1 : Hid ((s ++ rest).size ≤ 1048600) := by
    show (s ++ rest).size ≤ 1048600
    rw [size_plus]; omega
  clear q0 q1 q2 q3
  have HV2 : Hid (w2.cell? ⟨1, 0, none⟩ = some ev) := (hb2.cell (p := ⟨1, 0, none⟩) hB).trans HV.out
  have hB2 : 1 < w2.heap.size := by have := hb2.size; omega
  refine (zz_some (s ++ rest) t rest true [45] 1073741824 n ev _ Z1.out (by omega) (by omega) P1.out Q2.out (sgn_neg _ _ n Q3.out (by omega) h1) HV2.out HEV.out).mono ?_
  rintro e w3 ⟨rfl, hb3⟩
  have HV3 : Hid (w3.cell? ⟨1, 0, none⟩ = some ev) := (hb3.cell (p := ⟨1, 0, none⟩) hB2).trans HV2.out
  have hB3 : 1 < w3.heap.size := by have := hb3.size; omega
  go_wp2_with fail
  refine (zz_some (s ++ rest) t rest true [45] (-n) n ev _ Z1.out (by omega) (by omega) P1.out Q2.out (sgn_neg _ _ n Q3.out (Int.le_refl _) h1) HV3.out HEV.out).mono ?_
  rintro e w4 ⟨rfl, hb4⟩
  have HV4 : Hid (w4.cell? ⟨1, 0, none⟩ = some ev) := (hb4.cell (p := ⟨1, 0, none⟩) hB3).trans HV3.out
  have hB4 : 1 < w4.heap.size := by have := hb4.size; omega
  have hb24 := hb2.trans ((hb3.trans (hb4.mono hb3.size)).mono hb2.size)
  go_wp2_with fail
  refine (zz_some (s ++ rest) t rest true [45] (-n - 1) (-(-n - 1)) ev _ Z1.out (by omega) (by omega) P1.out Q2.out (sgn_neg_over _ _ n Q3.out (by omega) (by omega) (by omega)) HV4.out HEV.out).mono ?_
  rintro e w5 ⟨rfl, hb5⟩
  go_wp2_with fail
  go_ret
  exact ⟨rfl, hb24.trans (hb5.mono hb24.size)⟩

/-- The law FnPowerReadsPrintedExponent. -/
theorem print_walk (n : Int) (rest : ByteArray) (ev : Value) (w : World)
    (hv : w.cell? ⟨1, 0, none⟩ = some ev) (hev : ev = .nilIface ∨ ∃ te pe, ev = .iface te pe) :
    Calls Tryd.prog 5 #[.int .i64 n, .string rest] w fun e w' => e = .returned (.bool true) ∧ Below w.heap.size w w' := by
  by_cases hs : 1048576 < rest.size
  · exact print_long n rest w hs
  · have hs' : rest.size ≤ 1048576 := by omega
    by_cases hn : n < -1073741824 ∨ 1073741824 < n
    · exact print_out n rest w hs' hn
    · have h0 : -1073741824 ≤ n := by omega
      have h1 : n ≤ 1073741824 := by omega
      cases hl : rest.data.toList with
      | nil =>
        have hr : NoDig rest.data.toList := by rw [hl]; intro c h; cases h
        have he := empty_of rest hl
        by_cases hp : 0 ≤ n
        · exact print_pos_end n rest ev w hs' hp h1 hr he hv hev
        · exact print_neg_end n rest ev w hs' (by omega) h0 hr he hv hev
      | cons c t =>
        obtain ⟨hp, hc⟩ := first_at rest c t hl
        have hne := not_empty_of rest (by rw [hl]; exact List.cons_ne_nil _ _)
        by_cases hd : dig c = true
        · have hd' := (dig_iff c).1 hd
          exact print_digit n rest w hs' h0 h1 hp hne (by rw [hc]; omega) (by rw [hc]; omega)
        · have hd2 : dig c = false := by simpa using hd
          have hd' := (dig_not c).1 hd2
          have hr : NoDig rest.data.toList := by
            rw [hl]; intro x hx
            have e : c = x := by simpa using hx
            rw [← e]; exact hd2
          have hg : ¬ (48 ≤ ((rest[0]'hp).toNat : Int) ∧ ((rest[0]'hp).toNat : Int) ≤ 57) := by rw [hc]; omega
          by_cases hq : 0 ≤ n
          · exact print_pos_rest n rest ev w hs' hq h1 hr hp hne hg hv hev
          · exact print_neg_rest n rest ev w hs' (by omega) h0 hr hp hne hg hv hev
end Go.Proofs.Qxb6606397aDoor
