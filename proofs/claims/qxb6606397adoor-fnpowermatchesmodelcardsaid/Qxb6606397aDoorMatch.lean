import Derived.Test.Qxb6606397aDoorPower
namespace Go.Proofs.Qxb6606397aDoor
open Go.RowKit Plain

set_option maxHeartbeats 400000 in
theorem bytes_yes (s : ByteArray) (lim : Int) (w : World) (h : s.size ≤ 1048576) :
    Calls Tryd.prog 6 #[.string s, .int .i64 lim] w fun e w' => e = .returned (.bool true) ∧ w' = w := by
  go_enter Tryd.func6, Tryd.ntmps6
  go_wp2
  go_ret
  exact ⟨rfl, rfl⟩
set_option maxHeartbeats 400000 in
theorem bytes_no (s : ByteArray) (lim : Int) (w : World) (h : 1048576 < s.size) :
    Calls Tryd.prog 6 #[.string s, .int .i64 lim] w fun e w' => e = .returned (.bool false) ∧ w' = w := by
  go_enter Tryd.func6, Tryd.ntmps6
  go_wp2
  go_ret
  exact ⟨rfl, rfl⟩

set_option maxHeartbeats 400000 in
/-- The law FnPowerMatchesModel. -/
theorem match_walk (s : ByteArray) (lim : Int) (ev : Value) (w : World) (hl0 : -9223372036854775808 ≤ lim) (hl1 : lim ≤ 9223372036854775807)
    (hv : w.cell? ⟨1, 0, none⟩ = some ev) (hev : ev = .nilIface ∨ ∃ te pe, ev = .iface te pe) :
    Calls Tryd.prog 3 #[.string s, .int .i64 lim] w fun e w' => e = .returned (.bool true) ∧ Below w.heap.size w w' := by
  by_cases hs : 1048576 < s.size
  · go_enter Tryd.func3, Tryd.ntmps3
    go_wp2_with (go_at_call 6; refine (bytes_no _ _ _ hs).mono ?_; rintro e w1 ⟨rfl, rfl⟩)
    go_ret
    exact ⟨rfl, Below.refl _ _⟩
  · have hs' : s.size ≤ 1048576 := by omega
    obtain ⟨b, g, dl, rl, hp⟩ := parse_any s.data.toList
    obtain ⟨d, rfl⟩ : ∃ d : ByteArray, d.data.toList = dl := ⟨⟨dl.toArray⟩, rfl⟩
    obtain ⟨r, rfl⟩ : ∃ r : ByteArray, r.data.toList = rl := ⟨⟨rl.toArray⟩, rfl⟩
    have HZ : Hid (Calls Tryd.prog 7 #[.string s, .int .i64 lim] w fun e w' => e = .returned (ans b d.data.toList r lim) ∧ Below w.heap.size w w') := zz_any s d r b g lim ev w (by omega) hl0 hl1 hp hv hev
    have HM : Hid (∀ w, Calls Tryd.prog 8 #[.string s, .int .i64 lim] w fun e w' => e = .returned (ans b d.data.toList r lim) ∧ ∃ n, w' = w.drewN n) := fun w => model_any s d r b g lim w hs' hl0 hl1 hp
    clear hp hv hev
    by_cases h0 : d.data.toList = []
    · rw [ans_none _ _ _ _ h0] at HZ HM
      clear h0
      go_enter Tryd.func3, Tryd.ntmps3
      go_wp2_with (first | (go_at_call 6; refine (bytes_yes _ _ _ hs').mono ?_; rintro e w1 ⟨rfl, rfl⟩) | (go_at_call 7; refine HZ.out.mono ?_; rintro e w2 ⟨rfl, hW⟩) | (go_at_call 8; refine (HM.out _).mono ?_; rintro e w3 ⟨rfl, n, rfl⟩))
      go_ret
      exact ⟨rfl, below_drewN hW _⟩
    · rw [ans_some _ _ _ _ h0] at HZ HM
      clear h0
      generalize sgn b (capped (val d.data.toList) lim) = x at HZ HM
      go_enter Tryd.func3, Tryd.ntmps3
      go_wp2_with (first | (go_at_call 6; refine (bytes_yes _ _ _ hs').mono ?_; rintro e w1 ⟨rfl, rfl⟩) | (go_at_call 7; refine HZ.out.mono ?_; rintro e w2 ⟨rfl, hW⟩) | (go_at_call 8; refine (HM.out _).mono ?_; rintro e w3 ⟨rfl, n, rfl⟩))
      go_ret
      exact ⟨rfl, below_drewN hW _⟩
end Go.Proofs.Qxb6606397aDoor
