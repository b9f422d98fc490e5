import Derived.Test.Qxb6606397aDoorModelAny
import Derived.Test.Qxb6606397aDoorShelf
import Derived.Lib.AtoiErrMem
namespace Go.Proofs.Qxb6606397aDoor
open Go.RowKit Plain

theorem below_draws (w : World) (n : Nat) : Below w.heap.size w (w.drewN n) := below_drewN (Below.refl _ _) n
theorem below_after (w W : World) (n : Nat) (h : W = w.drewN n ∨ ∃ t, W = Lib.bytesWorld (w.drewN n) 5 t) : Below w.heap.size w W := by
  rcases h with h | ⟨t, h⟩
  · rw [h]; exact below_draws w n
  · rw [h]
    have h1 : Below w.heap.size w (w.drewN n) := below_draws w n
    have h2 := Lib.bytesWorld_below (w.drewN n) 5 t
    exact h1.trans h2

set_option maxHeartbeats 400000 in
theorem power_core (s s2 d r : ByteArray) (b : Bool) (lim : Int) (ev : Value) (w : World) (hl0 : -9223372036854775808 ≤ lim) (hl1 : lim ≤ 9223372036854775807)
    (hsign : ∀ w, Calls Tryd.prog 15 #[.string s] w fun e w' => e = .returned (.tuple #[.bool b, .string s2]) ∧ ∃ n, w' = w.drewN n)
    (hlead : ∀ w, Calls Tryd.prog 16 #[.string s2] w fun e w' => e = .returned (.tuple #[.string d, .string r]) ∧ ∃ n, w' = w.drewN n)
    (hdm : d.size ≤ 281474976710656) (hd : AllDig d.data.toList)
    (hv : w.cell? ⟨1, 0, none⟩ = some ev) (hev : ev = .nilIface ∨ ∃ te pe, ev = .iface te pe) :
    Calls Tryd.prog 13 #[.string s, .int .i64 lim] w fun e w' => e = .returned (ans b d.data.toList r lim) ∧ Below w.heap.size w w' := by
  have HS : Hid (∀ w, Calls Tryd.prog 15 #[.string s] w fun e w' => e = .returned (.tuple #[.bool b, .string s2]) ∧ ∃ n, w' = w.drewN n) := hsign
  have HL : Hid (∀ w, Calls Tryd.prog 16 #[.string s2] w fun e w' => e = .returned (.tuple #[.string d, .string r]) ∧ ∃ n, w' = w.drewN n) := hlead
  have HV : Hid (∀ n1 n2, ((w.drewN n1).drewN n2).cell? ⟨1, 0, none⟩ = some ev) := fun n1 n2 => hv
  clear hsign hlead hv
  by_cases h0 : d.data.toList = []
  · rw [ans_none _ _ _ _ h0]
    have he := empty_of d h0
    go_enter Tryd.func13, Tryd.ntmps13
    go_wp2_with (first | (go_at_call 15; refine (HS.out _).mono ?_; rintro e w1 ⟨rfl, n1, rfl⟩) | (go_at_call 16; refine (HL.out _).mono ?_; rintro e w2 ⟨rfl, n2, rfl⟩))
    go_ret3
    exact ⟨rfl, below_draws _ _⟩
  · have he := not_empty_of d h0
    by_cases hval : val d.data.toList < 9223372036854775808
    · have ha := atoi_ok _ h0 hd hval
      obtain ⟨v, ev1⟩ : ∃ v : Int, v = (val d.data.toList : Int) := ⟨_, rfl⟩
      rw [← ev1] at ha
      have v0 : 0 ≤ v := by omega
      have v1 : v ≤ 9223372036854775807 := by omega
      have HA : Hid (∀ w, Calls Tryd.prog 17 #[.string d] w fun e w' => e = .returned (.tuple #[.int .i64 v, .nilIface]) ∧ (w' = w ∨ ∃ t, w' = Lib.bytesWorld w 5 t)) := fun w => atoi_yes d (by omega) v ha w
      have HR : Hid (ans b d.data.toList r lim = .tuple #[.int .i64 (sgn b (if v ≤ lim then v else lim)), .string r, .bool true]) := by
        rw [ans_some _ _ _ _ h0, ev1]; rfl
      clear ha ev1 hval h0 hd
      by_cases hc : v ≤ lim
      · cases b with
        | true =>
          have HR2 : Hid (ans true d.data.toList r lim = .tuple #[.int .i64 (-v), .string r, .bool true]) := by
            show _ = _
            rw [HR.out, if_pos hc]
            show Value.tuple #[.int .i64 (wrap64 (-v)), _, _] = _
            rw [IntWalk.wrap64_in _ ⟨by omega, by omega⟩]
          clear HR
          go_enter Tryd.func13, Tryd.ntmps13
          go_wp2_with (first | (go_at_call 15; refine (HS.out _).mono ?_; rintro e w1 ⟨rfl, n1, rfl⟩) | (go_at_call 16; refine (HL.out _).mono ?_; rintro e w2 ⟨rfl, n2, rfl⟩) | (go_at_call 17; refine (HA.out _).mono ?_; rintro e W ⟨rfl, hW⟩))
          go_ret3
          exact ⟨by rw [HR2.out]; rfl, below_after _ _ _ hW⟩
        | false =>
          have HR2 : Hid (ans false d.data.toList r lim = .tuple #[.int .i64 v, .string r, .bool true]) := by
            show _ = _
            rw [HR.out, if_pos hc]
            rfl
          clear HR
          go_enter Tryd.func13, Tryd.ntmps13
          go_wp2_with (first | (go_at_call 15; refine (HS.out _).mono ?_; rintro e w1 ⟨rfl, n1, rfl⟩) | (go_at_call 16; refine (HL.out _).mono ?_; rintro e w2 ⟨rfl, n2, rfl⟩) | (go_at_call 17; refine (HA.out _).mono ?_; rintro e W ⟨rfl, hW⟩))
          go_ret3
          exact ⟨by rw [HR2.out]; rfl, below_after _ _ _ hW⟩
      · have hc' : lim < v := by omega
        have HR2 : Hid (ans b d.data.toList r lim = .tuple #[.int .i64 (sgn b lim), .string r, .bool true]) := by
          show _ = _
          rw [HR.out, if_neg hc]
        clear HR hc
        cases b with
        | true =>
          go_enter Tryd.func13, Tryd.ntmps13
          go_wp2_with (first | (go_at_call 15; refine (HS.out _).mono ?_; rintro e w1 ⟨rfl, n1, rfl⟩) | (go_at_call 16; refine (HL.out _).mono ?_; rintro e w2 ⟨rfl, n2, rfl⟩) | (go_at_call 17; refine (HA.out _).mono ?_; rintro e W ⟨rfl, hW⟩))
          go_ret3
          exact ⟨by rw [HR2.out]; rfl, below_after _ _ _ hW⟩
        | false =>
          go_enter Tryd.func13, Tryd.ntmps13
          go_wp2_with (first | (go_at_call 15; refine (HS.out _).mono ?_; rintro e w1 ⟨rfl, n1, rfl⟩) | (go_at_call 16; refine (HL.out _).mono ?_; rintro e w2 ⟨rfl, n2, rfl⟩) | (go_at_call 17; refine (HA.out _).mono ?_; rintro e W ⟨rfl, hW⟩))
          go_ret3
          exact ⟨by rw [HR2.out]; rfl, below_after _ _ _ hW⟩
    · have ha := atoi_range _ h0 hd (by omega)
      have HA : Hid (∀ n, Calls Tryd.prog 17 #[.string d] (w.drewN n) fun e w' => ∃ N, e = .returned (.tuple #[.int .i64 (Lib.atoiSat d.data.toList), .iface 44 (.pointer (some ⟨N, 0, none⟩))]) ∧ Below w.heap.size w w') := by
        intro n
        refine (atoi_over d hdm ha ev (w.drewN n) (HV.out n 0) hev).mono ?_
        rintro e W ⟨N, he, -, -, hb⟩
        exact ⟨N, he, (below_draws w n).trans hb⟩
      have HR2 : Hid (ans b d.data.toList r lim = .tuple #[.int .i64 (sgn b lim), .string r, .bool true]) := by
        show _ = _
        rw [ans_some _ _ _ _ h0, capped_gt _ _ (by omega)]
      clear ha hval h0 hd HV hev
      generalize Lib.atoiSat d.data.toList = sat at HA
      cases b with
      | true =>
        go_enter Tryd.func13, Tryd.ntmps13
        go_wp2_with (first | (go_at_call 15; refine (HS.out _).mono ?_; rintro e w1 ⟨rfl, n1, rfl⟩) | (go_at_call 16; refine (HL.out _).mono ?_; rintro e w2 ⟨rfl, n2, rfl⟩) | (go_at_call 17; refine (HA.out _).mono ?_; rintro e W ⟨N, rfl, hW⟩))
        go_ret3
        exact ⟨by rw [HR2.out]; rfl, hW⟩
      | false =>
        go_enter Tryd.func13, Tryd.ntmps13
        go_wp2_with (first | (go_at_call 15; refine (HS.out _).mono ?_; rintro e w1 ⟨rfl, n1, rfl⟩) | (go_at_call 16; refine (HL.out _).mono ?_; rintro e w2 ⟨rfl, n2, rfl⟩) | (go_at_call 17; refine (HA.out _).mono ?_; rintro e W ⟨N, rfl, hW⟩))
        go_ret3
        exact ⟨by rw [HR2.out]; rfl, hW⟩

/-- jsonint.power. -/
theorem power_any (s d r : ByteArray) (b : Bool) (g : List UInt8) (lim : Int) (ev : Value) (w : World) (hm : s.size ≤ 1048600) (hl0 : -9223372036854775808 ≤ lim) (hl1 : lim ≤ 9223372036854775807)
    (hp : Parse s.data.toList b g d.data.toList r.data.toList)
    (hv : w.cell? ⟨1, 0, none⟩ = some ev) (hev : ev = .nilIface ∨ ∃ te pe, ev = .iface te pe) :
    Calls Tryd.prog 13 #[.string s, .int .i64 lim] w fun e w' => e = .returned (ans b d.data.toList r lim) ∧ Below w.heap.size w w' := by
  obtain ⟨h, hd, hr, hg⟩ := hp
  have hz : s.size = g.length + (d.data.toList.length + r.data.toList.length) := by rw [size_app s _ _ h, List.length_append]
  have hdz := Lib.size_eq d
  obtain ⟨s2, e2⟩ : ∃ s2 : ByteArray, s2.data.toList = d.data.toList ++ r.data.toList := ⟨⟨(d.data.toList ++ r.data.toList).toArray⟩, rfl⟩
  have hz2 := size_app s2 _ _ e2
  have hlead := fun w => lead_any s2 d r w (by omega) e2 hd hr
  rcases hg with ⟨rfl, rfl⟩ | ⟨rfl, rfl⟩ | ⟨rfl, rfl, hns⟩
  · exact power_core s s2 d r true lim ev w hl0 hl1 (fun w => sign_yes s s2 45 true w (by omega) (by rw [h, e2]; rfl) (Or.inl ⟨rfl, rfl⟩)) hlead (by omega) hd hv hev
  · exact power_core s s2 d r false lim ev w hl0 hl1 (fun w => sign_yes s s2 43 false w (by omega) (by rw [h, e2]; rfl) (Or.inr ⟨rfl, rfl⟩)) hlead (by omega) hd hv hev
  · have es : s2 = s := str_eq (by rw [h, e2]; rfl)
    rw [es] at hlead
    exact power_core s s d r false lim ev w hl0 hl1 (fun w => sign_no s w hns) hlead (by omega) hd hv hev

set_option maxHeartbeats 400000 in
/-- jsonint.ZZpower. -/
theorem zz_any (s d r : ByteArray) (b : Bool) (g : List UInt8) (lim : Int) (ev : Value) (w : World) (hm : s.size ≤ 1048600) (hl0 : -9223372036854775808 ≤ lim) (hl1 : lim ≤ 9223372036854775807)
    (hp : Parse s.data.toList b g d.data.toList r.data.toList)
    (hv : w.cell? ⟨1, 0, none⟩ = some ev) (hev : ev = .nilIface ∨ ∃ te pe, ev = .iface te pe) :
    Calls Tryd.prog 7 #[.string s, .int .i64 lim] w fun e w' => e = .returned (ans b d.data.toList r lim) ∧ Below w.heap.size w w' := by
  have H := fun w => power_any s d r b g lim ev w hm hl0 hl1 hp
  have HP : Hid (∀ w : World, w.cell? ⟨1, 0, none⟩ = some ev → (ev = .nilIface ∨ ∃ te pe, ev = .iface te pe) → Calls Tryd.prog 13 #[.string s, .int .i64 lim] w fun e w' => e = .returned (ans b d.data.toList r lim) ∧ Below w.heap.size w w') := H
  have HV : Hid (w.cell? ⟨1, 0, none⟩ = some ev) := hv
  clear H hp hv
  by_cases h0 : d.data.toList = []
  · rw [ans_none _ _ _ _ h0] at HP ⊢
    clear h0
    go_enter Tryd.func7, Tryd.ntmps7
    go_wp2_with (go_at_call 13; refine (HP.out _ HV.out hev).mono ?_; rintro e w1 ⟨rfl, hW⟩)
    go_ret3
    exact ⟨rfl, hW⟩
  · rw [ans_some _ _ _ _ h0] at HP ⊢
    clear h0
    go_enter Tryd.func7, Tryd.ntmps7
    go_wp2_with (go_at_call 13; refine (HP.out _ HV.out hev).mono ?_; rintro e w1 ⟨rfl, hW⟩)
    go_ret3
    exact ⟨rfl, hW⟩
end Go.Proofs.Qxb6606397aDoor
