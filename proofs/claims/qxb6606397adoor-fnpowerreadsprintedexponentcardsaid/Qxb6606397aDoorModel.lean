import Derived.Test.Qxb6606397aDoorSign
import Derived.OwnWalk
namespace Go.Proofs.Qxb6606397aDoor
open Go.RowKit Plain

set_option maxHeartbeats 400000 in
theorem isdig_yes (c : Int) (w : World) (h1 : 48 ≤ c) (h2 : c ≤ 57) :
    Calls Tryd.prog 10 #[.int .u8 c] w fun e w' => e = .returned (.bool true) ∧ w' = w := by
  go_enter Tryd.func10, Tryd.ntmps10
  go_wp2
  go_ret
  exact ⟨rfl, rfl⟩
set_option maxHeartbeats 400000 in
theorem isdig_no (c : Int) (w : World) (h : ¬ (48 ≤ c ∧ c ≤ 57)) :
    Calls Tryd.prog 10 #[.int .u8 c] w fun e w' => e = .returned (.bool false) ∧ w' = w := by
  by_cases h1 : 48 ≤ c
  · have h2 : ¬ c ≤ 57 := fun x => h ⟨h1, x⟩
    clear h
    go_enter Tryd.func10, Tryd.ntmps10
    go_wp2
    go_ret
    exact ⟨rfl, rfl⟩
  · clear h
    go_enter Tryd.func10, Tryd.ntmps10
    go_wp2
    go_ret
    exact ⟨rfl, rfl⟩

/-- The sign laid on. -/
def sgn (b : Bool) (n : Int) : Int := if b then wrap64 (-n) else n

/-- How the model's loop stands behind the digits 'l'. -/
def St (l : List UInt8) (lim v : Int) (cb : Bool) : Prop := (cb = false ∧ v = (val l : Int) ∧ v ≤ lim) ∨ (cb = true ∧ lim < (val l : Int))

theorem val_take_snoc (d : List UInt8) (n : Nat) (c : UInt8) (h : d[n]? = some c) : val (d.take (n + 1)) = val (d.take n) * 10 + (c.toNat - 48) := by
  rw [List.take_add_one, h]
  exact val_snoc _ _
theorem st_start (d : List UInt8) (lim : Int) : St (d.take 0) lim 0 (decide (lim < 0)) := by
  have e : val (d.take 0) = 0 := rfl
  by_cases h : lim < 0
  · exact Or.inr ⟨by simpa using h, by rw [e]; omega⟩
  · exact Or.inl ⟨by simpa using h, by rw [e]; rfl, by omega⟩
theorem st_cap (d : List UInt8) (n : Nat) (c : UInt8) (lim v v' : Int) (h : d[n]? = some c) (hst : St (d.take n) lim v true) : St (d.take (n + 1)) lim v' true := by
  rcases hst with ⟨e, _⟩ | ⟨_, e⟩
  · cases e
  · refine Or.inr ⟨rfl, ?_⟩
    rw [val_take_snoc d n c h]
    omega
theorem st_false (l : List UInt8) (lim v : Int) (hst : St l lim v false) : v = (val l : Int) ∧ v ≤ lim := by
  rcases hst with ⟨_, e⟩ | ⟨e, _⟩
  · exact e
  · cases e
theorem st_true (l : List UInt8) (lim v : Int) (hst : St l lim v true) : lim < (val l : Int) := by
  rcases hst with ⟨e, _⟩ | ⟨_, e⟩
  · cases e
  · exact e
theorem st_over (d : List UInt8) (n : Nat) (c : UInt8) (lim v v' : Int) (h : d[n]? = some c) (hc : 48 ≤ (c.toNat : Int)) (hst : St (d.take n) lim v false) (ho : lim / 10 < v ∨ lim - v * 10 < (c.toNat : Int) - 48) : St (d.take (n + 1)) lim v' true := by
  obtain ⟨e1, e2⟩ := st_false _ _ _ hst
  refine Or.inr ⟨rfl, ?_⟩
  rw [val_take_snoc d n c h]
  omega
theorem st_go (d : List UInt8) (n : Nat) (c : UInt8) (lim v : Int) (h : d[n]? = some c) (hc : 48 ≤ (c.toNat : Int)) (hst : St (d.take n) lim v false) (ho : (c.toNat : Int) - 48 ≤ lim - v * 10) : St (d.take (n + 1)) lim (v * 10 + ((c.toNat : Int) - 48)) false := by
  obtain ⟨e1, e2⟩ := st_false _ _ _ hst
  refine Or.inl ⟨rfl, ?_, by omega⟩
  rw [val_take_snoc d n c h]
  omega
theorem st_end (d : List UInt8) (lim v : Int) (cb : Bool) (h : St d lim v cb) : capped (val d) lim = if cb then lim else v := by
  rcases h with ⟨e, e2, e3⟩ | ⟨e, e2⟩ <;> subst e
  · rw [capped_le _ _ (by omega)]; simp [e2]
  · rw [capped_gt _ _ e2]; simp

set_option maxHeartbeats 2000000 in
theorem model_minus (s : ByteArray) (m : Nat) (d : List UInt8) (lim : Int) (R : Value) (w : World) (hm : s.size ≤ 1048576) (hl0 : -9223372036854775808 ≤ lim) (hl1 : lim ≤ 9223372036854775807)
    (hp : 0 < s.size) (h0 : (s[0].toNat : Int) = 45)
    (hms : 1 + m ≤ s.size) (hdm : d.length = m)
    (hd : ∀ k (hs : k < s.size), 1 ≤ k → k < 1 + m → 48 ≤ (s[k].toNat : Int) ∧ (s[k].toNat : Int) ≤ 57 ∧ d[k - 1]? = some s[k])
    (hr : ∀ hk : 1 + m < s.size, ¬ (48 ≤ (s[1 + m].toNat : Int) ∧ (s[1 + m].toNat : Int) ≤ 57))
    (hn : m = 0 → R = .tuple #[.int .i64 0, .string ⟨#[]⟩, .bool false])
    (hy : m ≠ 0 → R = .tuple #[.int .i64 (sgn true (capped (val d) lim)), .string (s.extract (1 + m) s.size), .bool true]) :
    Calls Tryd.prog 8 #[.string s, .int .i64 lim] w fun e w' => e = .returned R ∧ ∃ n, w' = w.drewN n := by
  have HD : Hid (∀ k (hs : k < s.size), 1 ≤ k → k < 1 + m → 48 ≤ (s[k].toNat : Int) ∧ (s[k].toNat : Int) ≤ 57 ∧ d[k - 1]? = some s[k]) := hd
  have HR : Hid (∀ hk : 1 + m < s.size, ¬ (48 ≤ (s[1 + m].toNat : Int) ∧ (s[1 + m].toNat : Int) ≤ 57)) := hr
  have HM : Hid (d.length = m) := hdm
  have HN : Hid (m = 0 → R = .tuple #[.int .i64 0, .string ⟨#[]⟩, .bool false]) := hn
  have HY : Hid (m ≠ 0 → R = .tuple #[.int .i64 (sgn true (capped (val d) lim)), .string (s.extract (1 + m) s.size), .bool true]) := hy
  clear hd hr hdm hn hy
  go_enter Tryd.func8, Tryd.ntmps8
  go_wp2
  go_loop [9, 10, 11] (fun j v c => ∃ (k : Nat) (V : Int) (cb : Bool), 1 ≤ k ∧ k ≤ 1 + m ∧ j = .int .i64 k ∧ v = .int .i64 V ∧ c = .bool cb ∧ Hid (St (d.take (k - 1)) lim V cb)) (fun j _ _ => 1 + m - (intOf j).toNat)
  case atStart => exact ⟨1, 0, _, Nat.le_refl _, by omega, rfl, rfl, rfl, st_start d lim⟩
  case round =>
    obtain ⟨k, V, cb, hk0, hk1, rfl, rfl, rfl, HST⟩ := hrel
    by_cases hlt : k < 1 + m
    · have hks : k < s.size := by omega
      obtain ⟨g1, g2, g3⟩ := HD.out k hks hk0 hlt
      have G3 : Hid (d[k - 1]? = some s[k]) := g3
      clear g3
      have EK : Hid (k + 1 - 1 = k - 1 + 1) := by show k + 1 - 1 = k - 1 + 1; omega
      cases cb with
      | true =>
        go_wp2_with (go_at_call 10; refine (isdig_yes _ _ g1 g2).mono ?_; rintro e w' ⟨rfl, rfl⟩)
        go_round
        case rel => exact ⟨k + 1, V, true, by omega, by omega, by go_num, rfl, rfl, by rw [EK.out]; exact st_cap d (k - 1) _ lim V V G3.out HST⟩
        case measure => simp [intOf]; omega
      | false =>
        obtain ⟨q1, q2⟩ := st_false _ _ _ HST
        have q3 : 0 ≤ V := by omega
        clear q1
        by_cases c1 : lim / 10 < V
        · go_wp2_with (go_at_call 10; refine (isdig_yes _ _ g1 g2).mono ?_; rintro e w' ⟨rfl, rfl⟩)
          go_round
          case rel => exact ⟨k + 1, V, true, by omega, by omega, by go_num, rfl, rfl, by rw [EK.out]; exact st_over d (k - 1) _ lim V V G3.out g1 HST (Or.inl c1)⟩
          case measure => simp [intOf]; omega
        · by_cases c2 : lim - V * 10 < (s[k].toNat : Int) - 48
          · go_wp2_with (go_at_call 10; refine (isdig_yes _ _ g1 g2).mono ?_; rintro e w' ⟨rfl, rfl⟩)
            go_round
            case rel => exact ⟨k + 1, V, true, by omega, by omega, by go_num, rfl, rfl, by rw [EK.out]; exact st_over d (k - 1) _ lim V V G3.out g1 HST (Or.inr c2)⟩
            case measure => simp [intOf]; omega
          · go_wp2_with (go_at_call 10; refine (isdig_yes _ _ g1 g2).mono ?_; rintro e w' ⟨rfl, rfl⟩)
            go_round
            case rel => exact ⟨k + 1, V * 10 + ((s[k].toNat : Int) - 48), false, by omega, by omega, by go_num, rfl, rfl, by rw [EK.out]; exact st_go d (k - 1) _ lim V G3.out g1 HST (by omega)⟩
            case measure => simp [intOf]; omega
    · have ek : k = 1 + m := by omega
      have EK : Hid (k = 1 + m) := ek
      have g : ∀ hk : k < s.size, ¬ (48 ≤ (s[k].toNat : Int) ∧ (s[k].toNat : Int) ≤ 57) := by subst ek; exact HR.out
      have G : Hid (∀ hk : k < s.size, ¬ (48 ≤ (s[k].toNat : Int) ∧ (s[k].toNat : Int) ≤ 57)) := g
      have hst : capped (val d) lim = if cb then lim else V := by
        have e1 : d.take (k - 1) = d := List.take_of_length_le (by rw [HM.out]; omega)
        have := HST.out
        rw [e1] at this
        exact st_end d lim V cb this
      have HE : Hid (capped (val d) lim = if cb then lim else V) := hst
      have hV : cb = false → 0 ≤ V ∧ V ≤ lim := by
        intro e; subst e
        obtain ⟨q1, q2⟩ := st_false _ _ _ HST.out
        exact ⟨by omega, q2⟩
      have h1 : 1 + m ≤ k := by omega
      clear ek g hst HST
      by_cases hm0 : m = 0
      · have HR0 : Hid (R = .tuple #[.int .i64 0, .string ⟨#[]⟩, .bool false]) := HN.out hm0
        by_cases hks : k < s.size
        · go_wp2_with (go_at_call 10; refine (isdig_no _ _ (G.out hks)).mono ?_; rintro e w' ⟨rfl, rfl⟩)
          go_ret3
          exact ⟨by rw [HR0.out]; rfl, 0, rfl⟩
        · go_wp2
          go_ret3
          exact ⟨by rw [HR0.out]; rfl, 0, rfl⟩
      · have HR0 := HY.out hm0
        have HR1 : Hid (R = .tuple #[.int .i64 (sgn true (capped (val d) lim)), .string (s.extract (1 + m) s.size), .bool true]) := HR0
        clear HR0
        cases cb with
        | true =>
          have he : capped (val d) lim = lim := HE.out
          have HE2 : Hid (capped (val d) lim = lim) := he
          clear he HE hV
          by_cases hks : k < s.size
          · go_wp2_with (go_at_call 10; refine (isdig_no _ _ (G.out hks)).mono ?_; rintro e w' ⟨rfl, rfl⟩)
            go_quiet (fail)
            go_wp2
            go_ret3
            exact ⟨by rw [HR1.out, HE2.out, ← EK.out]; rfl, _, rfl⟩
          · go_wp2
            go_quiet (fail)
            go_wp2
            go_ret3
            exact ⟨by rw [HR1.out, HE2.out, ← EK.out]; rfl, _, rfl⟩
        | false =>
          obtain ⟨q1, q2⟩ := hV rfl
          have he : capped (val d) lim = V := HE.out
          have HE2 : Hid (capped (val d) lim = V) := he
          have HW : Hid (sgn true V = -V) := by show wrap64 (-V) = -V; exact IntWalk.wrap64_in _ ⟨by omega, by omega⟩
          clear he HE hV
          by_cases hks : k < s.size
          · go_wp2_with (go_at_call 10; refine (isdig_no _ _ (G.out hks)).mono ?_; rintro e w' ⟨rfl, rfl⟩)
            go_quiet (fail)
            go_wp2
            go_ret3
            exact ⟨by rw [HR1.out, HE2.out, ← EK.out, HW.out]; rfl, _, rfl⟩
          · go_wp2
            go_quiet (fail)
            go_wp2
            go_ret3
            exact ⟨by rw [HR1.out, HE2.out, ← EK.out, HW.out]; rfl, _, rfl⟩

set_option maxHeartbeats 2000000 in
theorem model_plus (s : ByteArray) (m : Nat) (d : List UInt8) (lim : Int) (R : Value) (w : World) (hm : s.size ≤ 1048576) (hl0 : -9223372036854775808 ≤ lim) (hl1 : lim ≤ 9223372036854775807)
    (hp : 0 < s.size) (h0 : (s[0].toNat : Int) = 43)
    (hms : 1 + m ≤ s.size) (hdm : d.length = m)
    (hd : ∀ k (hs : k < s.size), 1 ≤ k → k < 1 + m → 48 ≤ (s[k].toNat : Int) ∧ (s[k].toNat : Int) ≤ 57 ∧ d[k - 1]? = some s[k])
    (hr : ∀ hk : 1 + m < s.size, ¬ (48 ≤ (s[1 + m].toNat : Int) ∧ (s[1 + m].toNat : Int) ≤ 57))
    (hn : m = 0 → R = .tuple #[.int .i64 0, .string ⟨#[]⟩, .bool false])
    (hy : m ≠ 0 → R = .tuple #[.int .i64 (sgn false (capped (val d) lim)), .string (s.extract (1 + m) s.size), .bool true]) :
    Calls Tryd.prog 8 #[.string s, .int .i64 lim] w fun e w' => e = .returned R ∧ ∃ n, w' = w.drewN n := by
  have HD : Hid (∀ k (hs : k < s.size), 1 ≤ k → k < 1 + m → 48 ≤ (s[k].toNat : Int) ∧ (s[k].toNat : Int) ≤ 57 ∧ d[k - 1]? = some s[k]) := hd
  have HR : Hid (∀ hk : 1 + m < s.size, ¬ (48 ≤ (s[1 + m].toNat : Int) ∧ (s[1 + m].toNat : Int) ≤ 57)) := hr
  have HM : Hid (d.length = m) := hdm
  have HN : Hid (m = 0 → R = .tuple #[.int .i64 0, .string ⟨#[]⟩, .bool false]) := hn
  have HY : Hid (m ≠ 0 → R = .tuple #[.int .i64 (sgn false (capped (val d) lim)), .string (s.extract (1 + m) s.size), .bool true]) := hy
  clear hd hr hdm hn hy
  go_enter Tryd.func8, Tryd.ntmps8
  go_wp2
  go_loop [9, 10, 11] (fun j v c => ∃ (k : Nat) (V : Int) (cb : Bool), 1 ≤ k ∧ k ≤ 1 + m ∧ j = .int .i64 k ∧ v = .int .i64 V ∧ c = .bool cb ∧ Hid (St (d.take (k - 1)) lim V cb)) (fun j _ _ => 1 + m - (intOf j).toNat)
  case atStart => exact ⟨1, 0, _, Nat.le_refl _, by omega, rfl, rfl, rfl, st_start d lim⟩
  case round =>
    obtain ⟨k, V, cb, hk0, hk1, rfl, rfl, rfl, HST⟩ := hrel
    by_cases hlt : k < 1 + m
    · have hks : k < s.size := by omega
      obtain ⟨g1, g2, g3⟩ := HD.out k hks hk0 hlt
      have G3 : Hid (d[k - 1]? = some s[k]) := g3
      clear g3
      have EK : Hid (k + 1 - 1 = k - 1 + 1) := by show k + 1 - 1 = k - 1 + 1; omega
      cases cb with
      | true =>
        go_wp2_with (go_at_call 10; refine (isdig_yes _ _ g1 g2).mono ?_; rintro e w' ⟨rfl, rfl⟩)
        go_round
        case rel => exact ⟨k + 1, V, true, by omega, by omega, by go_num, rfl, rfl, by rw [EK.out]; exact st_cap d (k - 1) _ lim V V G3.out HST⟩
        case measure => simp [intOf]; omega
      | false =>
        obtain ⟨q1, q2⟩ := st_false _ _ _ HST
        have q3 : 0 ≤ V := by omega
        clear q1
        by_cases c1 : lim / 10 < V
        · go_wp2_with (go_at_call 10; refine (isdig_yes _ _ g1 g2).mono ?_; rintro e w' ⟨rfl, rfl⟩)
          go_round
          case rel => exact ⟨k + 1, V, true, by omega, by omega, by go_num, rfl, rfl, by rw [EK.out]; exact st_over d (k - 1) _ lim V V G3.out g1 HST (Or.inl c1)⟩
          case measure => simp [intOf]; omega
        · by_cases c2 : lim - V * 10 < (s[k].toNat : Int) - 48
          · go_wp2_with (go_at_call 10; refine (isdig_yes _ _ g1 g2).mono ?_; rintro e w' ⟨rfl, rfl⟩)
            go_round
            case rel => exact ⟨k + 1, V, true, by omega, by omega, by go_num, rfl, rfl, by rw [EK.out]; exact st_over d (k - 1) _ lim V V G3.out g1 HST (Or.inr c2)⟩
            case measure => simp [intOf]; omega
          · go_wp2_with (go_at_call 10; refine (isdig_yes _ _ g1 g2).mono ?_; rintro e w' ⟨rfl, rfl⟩)
            go_round
            case rel => exact ⟨k + 1, V * 10 + ((s[k].toNat : Int) - 48), false, by omega, by omega, by go_num, rfl, rfl, by rw [EK.out]; exact st_go d (k - 1) _ lim V G3.out g1 HST (by omega)⟩
            case measure => simp [intOf]; omega
    · have ek : k = 1 + m := by omega
      have EK : Hid (k = 1 + m) := ek
      have g : ∀ hk : k < s.size, ¬ (48 ≤ (s[k].toNat : Int) ∧ (s[k].toNat : Int) ≤ 57) := by subst ek; exact HR.out
      have G : Hid (∀ hk : k < s.size, ¬ (48 ≤ (s[k].toNat : Int) ∧ (s[k].toNat : Int) ≤ 57)) := g
      have hst : capped (val d) lim = if cb then lim else V := by
        have e1 : d.take (k - 1) = d := List.take_of_length_le (by rw [HM.out]; omega)
        have := HST.out
        rw [e1] at this
        exact st_end d lim V cb this
      have HE : Hid (capped (val d) lim = if cb then lim else V) := hst
      have hV : cb = false → 0 ≤ V ∧ V ≤ lim := by
        intro e; subst e
        obtain ⟨q1, q2⟩ := st_false _ _ _ HST.out
        exact ⟨by omega, q2⟩
      have h1 : 1 + m ≤ k := by omega
      clear ek g hst HST
      by_cases hm0 : m = 0
      · have HR0 : Hid (R = .tuple #[.int .i64 0, .string ⟨#[]⟩, .bool false]) := HN.out hm0
        by_cases hks : k < s.size
        · go_wp2_with (go_at_call 10; refine (isdig_no _ _ (G.out hks)).mono ?_; rintro e w' ⟨rfl, rfl⟩)
          go_ret3
          exact ⟨by rw [HR0.out]; rfl, 0, rfl⟩
        · go_wp2
          go_ret3
          exact ⟨by rw [HR0.out]; rfl, 0, rfl⟩
      · have HR0 := HY.out hm0
        have HR1 : Hid (R = .tuple #[.int .i64 (sgn false (capped (val d) lim)), .string (s.extract (1 + m) s.size), .bool true]) := HR0
        clear HR0
        cases cb with
        | true =>
          have he : capped (val d) lim = lim := HE.out
          have HE2 : Hid (capped (val d) lim = lim) := he
          clear he HE hV
          by_cases hks : k < s.size
          · go_wp2_with (go_at_call 10; refine (isdig_no _ _ (G.out hks)).mono ?_; rintro e w' ⟨rfl, rfl⟩)
            go_quiet (fail)
            go_wp2
            go_ret3
            exact ⟨by rw [HR1.out, HE2.out, ← EK.out]; rfl, _, rfl⟩
          · go_wp2
            go_quiet (fail)
            go_wp2
            go_ret3
            exact ⟨by rw [HR1.out, HE2.out, ← EK.out]; rfl, _, rfl⟩
        | false =>
          obtain ⟨q1, q2⟩ := hV rfl
          have he : capped (val d) lim = V := HE.out
          have HE2 : Hid (capped (val d) lim = V) := he
          have HW : Hid (sgn false V = V) := rfl
          clear he HE hV
          by_cases hks : k < s.size
          · go_wp2_with (go_at_call 10; refine (isdig_no _ _ (G.out hks)).mono ?_; rintro e w' ⟨rfl, rfl⟩)
            go_quiet (fail)
            go_wp2
            go_ret3
            exact ⟨by rw [HR1.out, HE2.out, ← EK.out, HW.out]; rfl, _, rfl⟩
          · go_wp2
            go_quiet (fail)
            go_wp2
            go_ret3
            exact ⟨by rw [HR1.out, HE2.out, ← EK.out, HW.out]; rfl, _, rfl⟩

set_option maxHeartbeats 2000000 in
theorem model_plain (s : ByteArray) (m : Nat) (d : List UInt8) (lim : Int) (R : Value) (w : World) (hm : s.size ≤ 1048576) (hl0 : -9223372036854775808 ≤ lim) (hl1 : lim ≤ 9223372036854775807)
    (hp : 0 < s.size) (hq1 : ((s[0].toNat : Int) == 45) = false) (hq2 : ((s[0].toNat : Int) == 43) = false)
    (hms : m ≤ s.size) (hdm : d.length = m)
    (hd : ∀ k (hs : k < s.size), 0 ≤ k → k < m → 48 ≤ (s[k].toNat : Int) ∧ (s[k].toNat : Int) ≤ 57 ∧ d[k]? = some s[k])
    (hr : ∀ hk : m < s.size, ¬ (48 ≤ (s[m].toNat : Int) ∧ (s[m].toNat : Int) ≤ 57))
    (hn : m = 0 → R = .tuple #[.int .i64 0, .string ⟨#[]⟩, .bool false])
    (hy : m ≠ 0 → R = .tuple #[.int .i64 (sgn false (capped (val d) lim)), .string (s.extract m s.size), .bool true]) :
    Calls Tryd.prog 8 #[.string s, .int .i64 lim] w fun e w' => e = .returned R ∧ ∃ n, w' = w.drewN n := by
  have HD : Hid (∀ k (hs : k < s.size), 0 ≤ k → k < m → 48 ≤ (s[k].toNat : Int) ∧ (s[k].toNat : Int) ≤ 57 ∧ d[k]? = some s[k]) := hd
  have HR : Hid (∀ hk : m < s.size, ¬ (48 ≤ (s[m].toNat : Int) ∧ (s[m].toNat : Int) ≤ 57)) := hr
  have HM : Hid (d.length = m) := hdm
  have HN : Hid (m = 0 → R = .tuple #[.int .i64 0, .string ⟨#[]⟩, .bool false]) := hn
  have HY : Hid (m ≠ 0 → R = .tuple #[.int .i64 (sgn false (capped (val d) lim)), .string (s.extract m s.size), .bool true]) := hy
  clear hd hr hdm hn hy
  go_enter Tryd.func8, Tryd.ntmps8
  go_wp2
  go_loop [9, 10, 11] (fun j v c => ∃ (k : Nat) (V : Int) (cb : Bool), 0 ≤ k ∧ k ≤ m ∧ j = .int .i64 k ∧ v = .int .i64 V ∧ c = .bool cb ∧ Hid (St (d.take k) lim V cb)) (fun j _ _ => m - (intOf j).toNat)
  case atStart => exact ⟨0, 0, _, Nat.le_refl _, by omega, rfl, rfl, rfl, st_start d lim⟩
  case round =>
    obtain ⟨k, V, cb, hk0, hk1, rfl, rfl, rfl, HST⟩ := hrel
    by_cases hlt : k < m
    · have hks : k < s.size := by omega
      obtain ⟨g1, g2, g3⟩ := HD.out k hks hk0 hlt
      have G3 : Hid (d[k]? = some s[k]) := g3
      clear g3
      cases cb with
      | true =>
        go_wp2_with (go_at_call 10; refine (isdig_yes _ _ g1 g2).mono ?_; rintro e w' ⟨rfl, rfl⟩)
        go_round
        case rel => exact ⟨k + 1, V, true, by omega, by omega, by go_num, rfl, rfl, by exact st_cap d k _ lim V V G3.out HST⟩
        case measure => simp [intOf]; omega
      | false =>
        obtain ⟨q1, q2⟩ := st_false _ _ _ HST
        have q3 : 0 ≤ V := by omega
        clear q1
        by_cases c1 : lim / 10 < V
        · go_wp2_with (go_at_call 10; refine (isdig_yes _ _ g1 g2).mono ?_; rintro e w' ⟨rfl, rfl⟩)
          go_round
          case rel => exact ⟨k + 1, V, true, by omega, by omega, by go_num, rfl, rfl, by exact st_over d (k) _ lim V V G3.out g1 HST (Or.inl c1)⟩
          case measure => simp [intOf]; omega
        · by_cases c2 : lim - V * 10 < (s[k].toNat : Int) - 48
          · go_wp2_with (go_at_call 10; refine (isdig_yes _ _ g1 g2).mono ?_; rintro e w' ⟨rfl, rfl⟩)
            go_round
            case rel => exact ⟨k + 1, V, true, by omega, by omega, by go_num, rfl, rfl, by exact st_over d (k) _ lim V V G3.out g1 HST (Or.inr c2)⟩
            case measure => simp [intOf]; omega
          · go_wp2_with (go_at_call 10; refine (isdig_yes _ _ g1 g2).mono ?_; rintro e w' ⟨rfl, rfl⟩)
            go_round
            case rel => exact ⟨k + 1, V * 10 + ((s[k].toNat : Int) - 48), false, by omega, by omega, by go_num, rfl, rfl, by exact st_go d (k) _ lim V G3.out g1 HST (by omega)⟩
            case measure => simp [intOf]; omega
    · have ek : k = m := by omega
      have EK : Hid (k = m) := ek
      have g : ∀ hk : k < s.size, ¬ (48 ≤ (s[k].toNat : Int) ∧ (s[k].toNat : Int) ≤ 57) := by subst ek; exact HR.out
      have G : Hid (∀ hk : k < s.size, ¬ (48 ≤ (s[k].toNat : Int) ∧ (s[k].toNat : Int) ≤ 57)) := g
      have hst : capped (val d) lim = if cb then lim else V := by
        have e1 : d.take k = d := List.take_of_length_le (by rw [HM.out]; omega)
        have := HST.out
        rw [e1] at this
        exact st_end d lim V cb this
      have HE : Hid (capped (val d) lim = if cb then lim else V) := hst
      have hV : cb = false → 0 ≤ V ∧ V ≤ lim := by
        intro e; subst e
        obtain ⟨q1, q2⟩ := st_false _ _ _ HST.out
        exact ⟨by omega, q2⟩
      have h1 : m ≤ k := by omega
      clear ek g hst HST
      by_cases hm0 : m = 0
      · have HR0 : Hid (R = .tuple #[.int .i64 0, .string ⟨#[]⟩, .bool false]) := HN.out hm0
        by_cases hks : k < s.size
        · go_wp2_with (go_at_call 10; refine (isdig_no _ _ (G.out hks)).mono ?_; rintro e w' ⟨rfl, rfl⟩)
          go_ret3
          exact ⟨by rw [HR0.out]; rfl, 0, rfl⟩
        · exact absurd hp (by omega)
      · have HR0 := HY.out hm0
        have HR1 : Hid (R = .tuple #[.int .i64 (sgn false (capped (val d) lim)), .string (s.extract m s.size), .bool true]) := HR0
        clear HR0
        cases cb with
        | true =>
          have he : capped (val d) lim = lim := HE.out
          have HE2 : Hid (capped (val d) lim = lim) := he
          clear he HE hV
          by_cases hks : k < s.size
          · go_wp2_with (go_at_call 10; refine (isdig_no _ _ (G.out hks)).mono ?_; rintro e w' ⟨rfl, rfl⟩)
            go_quiet (fail)
            go_wp2
            go_ret3
            exact ⟨by rw [HR1.out, HE2.out, ← EK.out]; rfl, _, rfl⟩
          · go_wp2
            go_quiet (fail)
            go_wp2
            go_ret3
            exact ⟨by rw [HR1.out, HE2.out, ← EK.out]; rfl, _, rfl⟩
        | false =>
          obtain ⟨q1, q2⟩ := hV rfl
          have he : capped (val d) lim = V := HE.out
          have HE2 : Hid (capped (val d) lim = V) := he
          have HW : Hid (sgn false V = V) := rfl
          clear he HE hV
          by_cases hks : k < s.size
          · go_wp2_with (go_at_call 10; refine (isdig_no _ _ (G.out hks)).mono ?_; rintro e w' ⟨rfl, rfl⟩)
            go_quiet (fail)
            go_wp2
            go_ret3
            exact ⟨by rw [HR1.out, HE2.out, ← EK.out, HW.out]; rfl, _, rfl⟩
          · go_wp2
            go_quiet (fail)
            go_wp2
            go_ret3
            exact ⟨by rw [HR1.out, HE2.out, ← EK.out, HW.out]; rfl, _, rfl⟩

set_option maxHeartbeats 400000 in
theorem model_empty (s : ByteArray) (lim : Int) (w : World) (hs : s.size = 0) :
    Calls Tryd.prog 8 #[.string s, .int .i64 lim] w fun e w' => e = .returned (.tuple #[.int .i64 0, .string ⟨#[]⟩, .bool false]) ∧ ∃ n, w' = w.drewN n := by
  go_enter Tryd.func8, Tryd.ntmps8
  go_wp2
  go_loop [9, 10, 11] (fun j _ _ => j = .int .i64 0) (fun _ _ _ => 0)
  case atStart => rfl
  case round =>
    obtain rfl := hrel
    go_wp2
    go_ret3
    exact ⟨rfl, 0, rfl⟩

end Go.Proofs.Qxb6606397aDoor
