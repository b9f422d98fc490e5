import Derived.Test.Qxb6606120aCount
namespace Go.Proofs.Qxb6606120a
open Go.RowKit Plain

set_option maxHeartbeats 400000 in
/-- zzCeilTiles. -/
theorem ceil_any (s : Int) (w : World) (hs : s ≤ 9223372036854775807) :
    Calls Try.prog 14 #[.int .i64 s] w fun e w' => e = .returned (.int .i64 (ceilT s)) ∧ w' = w := by
  by_cases h : s ≤ 0
  · go_enter Try.func14, Try.ntmps14
    go_wp2
    go_ret
    exact ⟨ret_int (by unfold ceilT; rw [if_pos h]), rfl⟩
  · go_enter Try.func14, Try.ntmps14
    go_wp2
    go_ret
    exact ⟨ret_int (by unfold ceilT; rw [if_neg (by omega)]), rfl⟩

set_option maxHeartbeats 400000 in
/-- zzHashesAt. -/
theorem hashes_any (s : Int) (k : Nat) (w : World) (hk : k ≤ 7) (hs0 : 0 ≤ s) (hs : s ≤ 9223372036854775807) :
    Calls Try.prog 13 #[.int .i64 s, .int .i64 k] w fun e w' => e = .returned (.int .i64 (lh k s)) ∧ w' = w := by
  go_enter Try.func13, Try.ntmps13
  go_wp2
  go_loop [5, 6] (fun d i => ∃ j : Nat, j ≤ k ∧ i = .int .i64 j ∧ d = .int .i64 (pw j)) (fun _ i => k - (intOf i).toNat)
  case atStart => exact ⟨0, Nat.zero_le _, rfl, rfl⟩
  case round =>
    obtain ⟨j, hj, rfl, rfl⟩ := hrel
    have h0 := pw_pos j
    have h1 := pw_bd j (by omega)
    by_cases hlt : j < k
    · have h2 := pw_bd (j + 1) (by omega)
      have h3 : pw (j + 1) = pw j * 256 := rfl
      rw [h3] at h2
      clear h3
      go_wp2
      go_round
      case rel => exact ⟨j + 1, by omega, by go_num, rfl⟩
      case measure => simp [intOf]; omega
    · have e : j = k := by omega
      subst e
      go_wp2
      go_ret
      exact ⟨ret_int (lh_pw j s).symm, rfl⟩

theorem tot_first (j : Nat) (t : Int) (h : ((j : Int) == 0) = true) : tot (j + 1) t = tot j t + ceilT (lh j t) * 2 := by
  have e : j = 0 := by simpa using h
  subst e; rfl
theorem tot_next (j : Nat) (t : Int) (h : ((j : Int) == 0) = false) : tot (j + 1) t = tot j t + ceilT (lh j t) := by
  have e : ¬ j = 0 := by simpa using h
  simp [tot, e]
theorem kep_first (j : Nat) (f t k : Int) (hk : keepT (lh j f) (lh j t) = k) (h : ((j : Int) == 0) = true) : kep (j + 1) f t = kep j f t + k * 2 := by
  have e : j = 0 := by simpa using h
  subst e; rw [← hk]; rfl
theorem kep_next (j : Nat) (f t k : Int) (hk : keepT (lh j f) (lh j t) = k) (h : ((j : Int) == 0) = false) : kep (j + 1) f t = kep j f t + k := by
  have e : ¬ j = 0 := by simpa using h
  rw [← hk]; simp [kep, e]
theorem keep_yes (o g : Int) (h : o = g) (h2 : (g % 256 != 0) = true) : keepT o g = g / 256 + 1 := by
  subst h
  have b : ¬ o % 256 = 0 := by simpa using h2
  simp [keepT, b]
theorem keep_no (o g : Int) (h : o = g) (h2 : (g % 256 != 0) = false) : keepT o g = g / 256 := by
  subst h
  have b : o % 256 = 0 := by simpa using h2
  simp [keepT, b]
theorem keep_ne (o g : Int) (h : ¬ o = g) : keepT o g = o / 256 := by simp [keepT, h]

set_option maxHeartbeats 1000000 in
/-- zzNewTilesLessKept. -/
theorem model_any (f t : Int) (w : World) (hf : 0 ≤ f) (hft : f ≤ t) (ht : t ≤ 9223372036854775807) :
    Calls Try.prog 10 #[.int .i64 f, .int .i64 t] w fun e w' => e = .returned (.int .i64 (tot 8 t - kep 8 f t)) ∧ w' = w := by
  go_enter Try.func10, Try.ntmps10
  go_wp2
  go_loop [5, 6, 7] (fun a b i => ∃ j : Nat, j ≤ 8 ∧ i = .int .i64 j ∧ a = .int .i64 (tot j t) ∧ b = .int .i64 (kep j f t)) (fun _ _ i => 8 - (intOf i).toNat)
  case atStart => exact ⟨0, Nat.zero_le _, rfl, rfl, rfl⟩
  case round =>
    obtain ⟨j, hj, rfl, rfl, rfl⟩ := hrel
    have h0 := lh_nonneg j f hf
    have h1 := lh_mono j f t hft
    have h2 := lh_le j t (by omega)
    have h3 := tot_bd j t (by omega) ht
    have h4 := kep_bd j f t hf (by omega)
    have h5 := ceilT_bd (lh j t) (by omega)
    by_cases hlt : j < 8
    · go_wp2_with (first | (go_at_call 13; refine (hashes_any _ j _ (by omega) (by omega) (by omega)).mono ?_; rintro e w' ⟨rfl, rfl⟩) | (go_at_call 14; refine (ceil_any _ _ (by omega)).mono ?_; rintro e w' ⟨rfl, rfl⟩))
      · have q1 : lh j f = lh j t := by assumption
        have q2 : (lh j t % 256 != 0) = true := by assumption
        have hk := keep_yes _ _ q1 q2
        have q3 : ((j : Int) == 0) = true := by assumption
        have e1 := tot_first j t q3
        have e2 := kep_first j f t _ hk q3
        clear q1 hk
        go_round
        case rel => exact ⟨j + 1, by omega, by go_num, by rw [e1], by rw [e2]⟩
        case measure => simp [intOf]; omega
      · have q1 : lh j f = lh j t := by assumption
        have q2 : (lh j t % 256 != 0) = true := by assumption
        have hk := keep_yes _ _ q1 q2
        have q3 : ((j : Int) == 0) = false := by assumption
        have e1 := tot_next j t q3
        have e2 := kep_next j f t _ hk q3
        clear q1 hk
        go_round
        case rel => exact ⟨j + 1, by omega, by go_num, by rw [e1], by rw [e2]⟩
        case measure => simp [intOf]; omega
      · have q1 : lh j f = lh j t := by assumption
        have q2 : (lh j t % 256 != 0) = false := by assumption
        have hk := keep_no _ _ q1 q2
        have q3 : ((j : Int) == 0) = true := by assumption
        have e1 := tot_first j t q3
        have e2 := kep_first j f t _ hk q3
        clear q1 hk
        go_round
        case rel => exact ⟨j + 1, by omega, by go_num, by rw [e1], by rw [e2]⟩
        case measure => simp [intOf]; omega
      · have q1 : lh j f = lh j t := by assumption
        have q2 : (lh j t % 256 != 0) = false := by assumption
        have hk := keep_no _ _ q1 q2
        have q3 : ((j : Int) == 0) = false := by assumption
        have e1 := tot_next j t q3
        have e2 := kep_next j f t _ hk q3
        clear q1 hk
        go_round
        case rel => exact ⟨j + 1, by omega, by go_num, by rw [e1], by rw [e2]⟩
        case measure => simp [intOf]; omega
      · have q1 : ¬ lh j f = lh j t := by assumption
        have hk := keep_ne _ _ q1
        have q3 : ((j : Int) == 0) = true := by assumption
        have e1 := tot_first j t q3
        have e2 := kep_first j f t _ hk q3
        clear q1 hk
        go_round
        case rel => exact ⟨j + 1, by omega, by go_num, by rw [e1], by rw [e2]⟩
        case measure => simp [intOf]; omega
      · have q1 : ¬ lh j f = lh j t := by assumption
        have hk := keep_ne _ _ q1
        have q3 : ((j : Int) == 0) = false := by assumption
        have e1 := tot_next j t q3
        have e2 := kep_next j f t _ hk q3
        clear q1 hk
        go_round
        case rel => exact ⟨j + 1, by omega, by go_num, by rw [e1], by rw [e2]⟩
        case measure => simp [intOf]; omega
    · have e : j = 8 := by omega
      subst e
      go_wp2
      go_ret
      exact ⟨rfl, rfl⟩

theorem model_eq (f t : Int) (hf : 0 ≤ f) (hft : f ≤ t) : tot 8 t - kep 8 f t = cnt 9 f t := parts 7 f t hf hft
end Go.Proofs.Qxb6606120a
