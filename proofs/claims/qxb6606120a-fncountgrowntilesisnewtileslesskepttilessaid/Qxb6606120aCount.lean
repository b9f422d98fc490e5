import Derived.Test.Qxb6606120aRows
import Derived.Test.Qxb6606120aPlain
import Derived.WalkKit
import Derived.WalkSpells
import Derived.WalkLawsBesides
namespace Go.Proofs.Qxb6606120a
open Go.RowKit Plain

theorem ret_int {k : IntKind} {a b : Int} (h : a = b) : Ending.returned (.int k a) = .returned (.int k b) := by rw [h]

theorem lh_out (j n : Nat) (s : Int) (h : j ≤ n) (h0 : 0 ≤ lh j s) (hz : lh j s ≤ 0) : lh j s = lh n s := by
  have e := lh_stays j (n - j) s (by omega)
  have e2 : j + (n - j) = n := by omega
  rw [e2] at e
  omega

set_option maxHeartbeats 400000 in
/-- tlogtiles.LevelHashes. -/
theorem level_any (lv s : Int) (w : World) (hl0 : -1 ≤ lv) (hl : lv ≤ 8) (hs0 : 0 ≤ s) (_hs : s ≤ 9223372036854775807) :
    Calls Try.prog 15 #[.int .i64 lv, .int .i64 s] w fun e w' => e = .returned (.int .i64 (lh lv.toNat s)) ∧ w' = w := by
  go_enter Try.func15, Try.ntmps15
  go_wp2
  go_loop [1, 5] (fun t i => ∃ j : Nat, j ≤ lv.toNat ∧ i = .int .i64 j ∧ t = .int .i64 (lh j s)) (fun _ i => lv.toNat - (intOf i).toNat)
  case atStart => exact ⟨0, Nat.zero_le _, rfl, rfl⟩
  case round =>
    obtain ⟨j, hj, rfl, rfl⟩ := hrel
    have h0 := lh_nonneg j s hs0
    have h1 := lh_le j s hs0
    go_wp2
    · go_round
      case rel => exact ⟨j + 1, by omega, by go_num, rfl⟩
      case measure => simp [intOf]; omega
    · have hz : lh j s ≤ 0 := by assumption
      go_ret
      exact ⟨ret_int (lh_out j _ s hj h0 hz), rfl⟩
    · have hz : lv ≤ j := by assumption
      have e : lv.toNat = j := by omega
      go_ret
      exact ⟨ret_int (by rw [e]), rfl⟩

theorem wraps_i64_63 (n : Int) (h0 : 0 ≤ n) (h1 : n < 2 ^ 63) : IntKind.i64.wrap n = n := by
  have e : IntKind.i64.wrap n = (n + 9223372036854775808) % 18446744073709551616 - 9223372036854775808 := by
    simp [IntKind.wrap, IntKind.bits, IntKind.signed]
    split <;> omega
  have e2 : ((2 : Int) ^ 63) = 9223372036854775808 := by decide
  rw [e]; omega
theorem and255 (x : Int) (h0 : 0 ≤ x) (h1 : x ≤ 9223372036854775807) : bits .and .i64 x 255 = x % 256 := by
  have e2 : ((2 : Int) ^ 63) = 9223372036854775808 := by decide
  have h := bits_mask .i64 63 (by decide) wraps_i64_63 8 (by decide) x h0 (by omega)
  simpa using h

theorem one_yes (o g : Int) (h0 : 0 ≤ g) (h : g ≤ 9223372036854775807) (h1 : (o == g) = false) (h2 : (bits BinOp.and IntKind.i64 g 255 != 0) = true) : one o g = (g / 256 - o / 256) + 1 := by
  rw [and255 g h0 h] at h2
  have a : ¬ o = g := by simpa using h1
  have b : ¬ g % 256 = 0 := by simpa using h2
  simp [one, a, b]
theorem one_no (o g : Int) (h0 : 0 ≤ g) (h : g ≤ 9223372036854775807) (h1 : (o == g) = false) (h2 : (bits BinOp.and IntKind.i64 g 255 != 0) = false) : one o g = g / 256 - o / 256 := by
  rw [and255 g h0 h] at h2
  have a : ¬ o = g := by simpa using h1
  have b : g % 256 = 0 := by simpa using h2
  simp [one, a, b]
theorem one_eq (o g : Int) (h1 : (o == g) = true) : one o g = 0 := by
  have a : o = g := by simpa using h1
  simp [one, a]
theorem cnt_out (j : Nat) (f t : Int) (hj : j ≤ 9) (h0 : 0 ≤ f) (h : f ≤ t) (hz : lh (j - 1) t ≤ 0) : cnt j f t = cnt 9 f t := by
  have a := lh_nonneg (j - 1) t (by omega)
  have e := cnt_stays j (9 - j) f t h0 h (by omega)
  have e2 : j + (9 - j) = 9 := by omega
  rw [e2] at e
  exact e.symm
theorem lh_eight_le (j : Nat) (t : Int) (hj : j ≤ 9) (h0 : 0 ≤ t) (ht : t ≤ 9223372036854775807) (hp : 0 < lh (j - 1) t) : j ≤ 8 := by
  by_cases e : j = 9
  · subst e
    have := lh_eight t h0 ht
    have e2 : lh (9 - 1) t = lh 8 t := rfl
    omega
  · omega

set_option maxHeartbeats 400000 in
/-- tlogtiles.countGrownTiles. -/
theorem count_any (f t : Int) (w : World) (hf : 0 ≤ f) (hft : f ≤ t) (ht : t ≤ 9223372036854775807) :
    Calls Try.prog 12 #[.int .i64 f, .int .i64 t] w fun e w' => e = .returned (.int .i64 (cnt 9 f t)) ∧ w' = w := by
  go_enter Try.func12, Try.ntmps12
  go_wp2
  go_loop [5, 6] (fun n i => ∃ j : Nat, j ≤ 9 ∧ i = .int .i64 ((j : Int) - 1) ∧ n = .int .i64 (cnt j f t)) (fun _ i => 9 - (intOf i + 1).toNat)
  case atStart => exact ⟨0, Nat.zero_le _, rfl, rfl⟩
  case round =>
    obtain ⟨j, hj, rfl, rfl⟩ := hrel
    have h0 := lh_nonneg (j - 1) f hf
    have h1 := lh_mono (j - 1) f t hft
    have h2 := lh_le (j - 1) t (by omega)
    have h3 := cnt_bd j f t hf hft ht
    have e1 : ((j : Int) - 1).toNat = j - 1 := by omega
    have E1 : Hid (((j : Int) - 1).toNat = j - 1) := e1
    clear e1
    go_wp2_with (go_at_call 15; refine (level_any _ _ _ (by omega) (by omega) (by omega) (by omega)).mono ?_; rintro e w' ⟨rfl, rfl⟩)
    · have hp : 0 < lh (j - 1) t := by assumption
      have hq : (lh (j - 1) f == lh (j - 1) t) = true := by assumption
      have h8 := lh_eight_le j t hj (by omega) ht hp
      have ho := one_eq _ _ hq
      have hc : cnt (j + 1) f t = cnt j f t + one (lh (j - 1) f) (lh (j - 1) t) := rfl
      go_round
      case rel => exact ⟨j + 1, by omega, by go_num, by rw [hc, ho]; go_num⟩
      case measure => simp [intOf]; omega
    · have hp : 0 < lh (j - 1) t := by assumption
      have hq : (lh (j - 1) f == lh (j - 1) t) = false := by assumption
      have hb : (bits BinOp.and IntKind.i64 (lh (j - 1) t) 255 != 0) = true := by assumption
      have h8 := lh_eight_le j t hj (by omega) ht hp
      have ho := one_yes _ _ (by omega) (by omega) hq hb
      have hc : cnt (j + 1) f t = cnt j f t + one (lh (j - 1) f) (lh (j - 1) t) := rfl
      go_round
      case rel => exact ⟨j + 1, by omega, by go_num, by rw [hc, ho]; go_num⟩
      case measure => simp [intOf]; omega
    · have hp : 0 < lh (j - 1) t := by assumption
      have hq : (lh (j - 1) f == lh (j - 1) t) = false := by assumption
      have hb : (bits BinOp.and IntKind.i64 (lh (j - 1) t) 255 != 0) = false := by assumption
      have h8 := lh_eight_le j t hj (by omega) ht hp
      have ho := one_no _ _ (by omega) (by omega) hq hb
      have hc : cnt (j + 1) f t = cnt j f t + one (lh (j - 1) f) (lh (j - 1) t) := rfl
      go_round
      case rel => exact ⟨j + 1, by omega, by go_num, by rw [hc, ho]⟩
      case measure => simp [intOf]; omega
    · have hz : lh (j - 1) t ≤ 0 := by assumption
      go_ret
      exact ⟨ret_int (cnt_out j f t hj hf hft hz), rfl⟩

set_option maxHeartbeats 400000 in
/-- tlogtiles.ZZCountGrownTiles. -/
theorem zz_any (f t : Int) (w : World) (hf : 0 ≤ f) (hft : f ≤ t) (ht : t ≤ 9223372036854775807) :
    Calls Try.prog 9 #[.int .i64 f, .int .i64 t] w fun e w' => e = .returned (.int .i64 (cnt 9 f t)) ∧ w' = w := by
  go_enter Try.func9, Try.ntmps9
  go_wp2_with (go_at_call 12; refine (count_any _ _ _ hf hft ht).mono ?_; rintro e w' ⟨rfl, rfl⟩)
  go_ret
  exact ⟨rfl, rfl⟩
end Go.Proofs.Qxb6606120a
