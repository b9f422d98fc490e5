import Derived.Test.Qxb6606397aDoorRows
import Derived.Test.Qxb6606397aDoorPlain
import Derived.Lib.Strings
import Derived.Lib.IndexBytes
import Derived.WalkKit
import Derived.WalkSpells
import Derived.WalkLawsBesides
import Derived.Deep.QuietTactic
import Derived.BigQuiet
namespace Go.Proofs.Qxb6606397aDoor
open Go.RowKit Plain

/-! ### Byte strings and lists of bytes -/
theorem str_eq {a b : ByteArray} (h : a.data.toList = b.data.toList) : a = b := by
  cases a; cases b
  simp only [ByteArray.mk.injEq]
  exact Array.toList_inj.1 h
theorem rest_eq (s r : ByteArray) (g : List UInt8) (h : s.data.toList = g ++ r.data.toList) : s.extract g.length s.size = r := by
  apply str_eq
  rw [Lib.extract_to_end, h, List.drop_left]
theorem front_eq (s d : ByteArray) (r : List UInt8) (h : s.data.toList = d.data.toList ++ r) : s.extract 0 d.size = d := by
  apply str_eq
  rw [Lib.extract_data, h, Lib.size_eq d]
  simp
theorem size_app (s : ByteArray) (a b : List UInt8) (h : s.data.toList = a ++ b) : s.size = a.length + b.length := by
  rw [Lib.size_eq, h, List.length_append]
theorem byte_at (s : ByteArray) (k : Nat) (c : UInt8) (hk : k < s.size) (h : s.data.toList[k]? = some c) : s[k] = c := by
  have h' : k < s.data.toList.length := by rw [← Lib.size_eq]; exact hk
  rw [List.getElem?_eq_getElem h'] at h
  show s.data[k] = c
  exact Option.some.inj h
theorem empty_of (s : ByteArray) (h : s.data.toList = []) : s.toList.isEmpty = true := by rw [Lib.toList_data, h]; rfl
theorem not_empty_of (s : ByteArray) (h : s.data.toList ≠ []) : s.toList.isEmpty = false := by
  rw [Lib.toList_data]; simpa using h

/-! ### jsonint.sign -/
set_option maxHeartbeats 400000 in
theorem sign_empty (s : ByteArray) (w : World) (h : s.toList.isEmpty = true) :
    Calls Tryd.prog 15 #[.string s] w fun e w' => e = .returned (.tuple #[.bool false, .string s]) ∧ ∃ n, w' = w.drewN n := by
  have h' : s.toList = [] := by simpa using h
  go_enter Tryd.func15, Tryd.ntmps15
  go_wp2
  go_ret2
  exact ⟨rfl, 0, rfl⟩

set_option maxHeartbeats 400000 in
theorem sign_core (s : ByteArray) (w : World) (hp : 0 < s.size) (hm : s.size ≤ 9223372036854775807) (hne : s.toList.isEmpty = false) (h : (s[0].toNat : Int) = 45 ∨ (s[0].toNat : Int) = 43) :
    Calls Tryd.prog 15 #[.string s] w fun e w' => e = .returned (.tuple #[.bool ((s[0].toNat : Int) == 45), .string (s.extract 1 s.size)]) ∧ ∃ n, w' = w.drewN n := by
  have hne' : ¬ s.toList = [] := by simpa using hne
  rcases h with h | h
  · rw [h]
    go_enter Tryd.func15, Tryd.ntmps15
    go_wp2
    go_quiet (fail)
    go_wp2
    go_ret2
    exact ⟨rfl, _, rfl⟩
  · rw [h]
    go_enter Tryd.func15, Tryd.ntmps15
    go_wp2
    go_quiet (fail)
    go_wp2
    go_ret2
    exact ⟨rfl, _, rfl⟩

set_option maxHeartbeats 400000 in
theorem sign_plain (s : ByteArray) (w : World) (hp : 0 < s.size) (hne : s.toList.isEmpty = false) (h1 : ((s[0].toNat : Int) == 45) = false) (h2 : ((s[0].toNat : Int) == 43) = false) :
    Calls Tryd.prog 15 #[.string s] w fun e w' => e = .returned (.tuple #[.bool false, .string s]) ∧ ∃ n, w' = w.drewN n := by
  have hne' : ¬ s.toList = [] := by simpa using hne
  go_enter Tryd.func15, Tryd.ntmps15
  go_wp2
  all_goals go_ret2
  all_goals exact ⟨rfl, 0, rfl⟩

theorem first_at (s : ByteArray) (c : UInt8) (t : List UInt8) (h : s.data.toList = c :: t) : ∃ hp : 0 < s.size, s[0]'hp = c := by
  have hp : 0 < s.size := by rw [Lib.size_eq, h]; exact Nat.succ_pos _
  exact ⟨hp, byte_at s 0 c hp (by rw [h]; rfl)⟩

/-- 'sign' at a text that opens with a sign. -/
theorem sign_yes (s r : ByteArray) (c : UInt8) (b : Bool) (w : World) (hm : s.size ≤ 9223372036854775807) (h : s.data.toList = c :: r.data.toList) (hc : (c = 45 ∧ b = true) ∨ (c = 43 ∧ b = false)) :
    Calls Tryd.prog 15 #[.string s] w fun e w' => e = .returned (.tuple #[.bool b, .string r]) ∧ ∃ n, w' = w.drewN n := by
  obtain ⟨hp, h0⟩ := first_at s c _ h
  have e1 : s.extract 1 s.size = r := rest_eq s r [c] h
  have hne := not_empty_of s (by rw [h]; exact List.cons_ne_nil _ _)
  have hh : ((s[0]'hp).toNat : Int) = 45 ∨ ((s[0]'hp).toNat : Int) = 43 := by
    rw [h0]
    rcases hc with ⟨e, _⟩ | ⟨e, _⟩ <;> subst e
    · exact Or.inl rfl
    · exact Or.inr rfl
  have e2 : (((s[0]'hp).toNat : Int) == 45) = b := by
    rw [h0]
    rcases hc with ⟨e, e'⟩ | ⟨e, e'⟩ <;> subst e <;> subst e' <;> rfl
  have H := sign_core s w hp hm hne hh
  rw [e1, e2] at H
  exact H

/-- 'sign' at a text that does not. -/
theorem sign_no (s : ByteArray) (w : World) (h : NoSign s.data.toList) :
    Calls Tryd.prog 15 #[.string s] w fun e w' => e = .returned (.tuple #[.bool false, .string s]) ∧ ∃ n, w' = w.drewN n := by
  cases hl : s.data.toList with
  | nil => exact sign_empty s w (empty_of s hl)
  | cons c t =>
    obtain ⟨hp, h0⟩ := first_at s c _ hl
    have hc := h c (by rw [hl]; rfl)
    have hne := not_empty_of s (by rw [hl]; exact List.cons_ne_nil _ _)
    refine sign_plain s w hp hne ?_ ?_
    · rw [h0]
      simp only [beq_eq_false_iff_ne]
      intro e
      have e2 : c.toNat = 45 := by omega
      exact hc.1 (UInt8.toNat_inj.1 e2)
    · rw [h0]
      simp only [beq_eq_false_iff_ne]
      intro e
      have e2 : c.toNat = 43 := by omega
      exact hc.2 (UInt8.toNat_inj.1 e2)

/-! ### jsonint.leadingDigits -/
theorem dig_at (s d : ByteArray) (r : List UInt8) (k : Nat) (hk : k < d.size) (h : s.data.toList = d.data.toList ++ r) (hd : AllDig d.data.toList) :
    ∃ hs : k < s.size, 48 ≤ ((s[k]'hs).toNat : Int) ∧ ((s[k]'hs).toNat : Int) ≤ 57 := by
  have hz := size_app s _ _ h
  rw [← Lib.size_eq d] at hz
  have hs : k < s.size := by omega
  have hk' : k < d.data.toList.length := by rw [← Lib.size_eq]; exact hk
  have e : s[k]'hs = d.data.toList[k] := byte_at s k _ hs (by rw [h, List.getElem?_append_left hk', List.getElem?_eq_getElem hk'])
  have hc := (dig_iff _).1 (hd _ (List.getElem_mem hk'))
  refine ⟨hs, ?_, ?_⟩ <;> rw [e] <;> omega
theorem nodig_at (s d : ByteArray) (r : List UInt8) (hk : d.size < s.size) (h : s.data.toList = d.data.toList ++ r) (hr : NoDig r) :
    ¬ (48 ≤ ((s[d.size]'hk).toNat : Int) ∧ ((s[d.size]'hk).toNat : Int) ≤ 57) := by
  have hz := size_app s _ _ h
  rw [← Lib.size_eq d] at hz
  cases r with
  | nil => simp at hz; omega
  | cons c t =>
    have e : s[d.size]'hk = c := byte_at s _ _ hk (by rw [h, Lib.size_eq d, List.getElem?_append_right (Nat.le_refl _)]; simp)
    have hc := (dig_not _).1 (hr c rfl)
    rw [e]; omega

set_option maxHeartbeats 400000 in
theorem lead_core (s : ByteArray) (m : Nat) (w : World) (hm : s.size ≤ 9223372036854775807) (hms : m ≤ s.size)
    (hd : ∀ k (hk : k < s.size), k < m → 48 ≤ (s[k].toNat : Int) ∧ (s[k].toNat : Int) ≤ 57)
    (hr : ∀ hk : m < s.size, ¬ (48 ≤ (s[m].toNat : Int) ∧ (s[m].toNat : Int) ≤ 57)) :
    Calls Tryd.prog 16 #[.string s] w fun e w' => e = .returned (.tuple #[.string (s.extract 0 m), .string (s.extract m s.size)]) ∧ ∃ n, w' = w.drewN n := by
  have HD : Hid (∀ k (hk : k < s.size), k < m → 48 ≤ (s[k].toNat : Int) ∧ (s[k].toNat : Int) ≤ 57) := hd
  have HR : Hid (∀ hk : m < s.size, ¬ (48 ≤ (s[m].toNat : Int) ∧ (s[m].toNat : Int) ≤ 57)) := hr
  clear hd hr
  go_enter Tryd.func16, Tryd.ntmps16
  go_wp2
  go_loop [4] (fun i => ∃ k : Nat, k ≤ m ∧ i = .int .i64 k) (fun i => m - (intOf i).toNat)
  case atStart => exact ⟨0, Nat.zero_le _, rfl⟩
  case round =>
    obtain ⟨k, hk, rfl⟩ := hrel
    by_cases hlt : k < m
    · have hks : k < s.size := by omega
      obtain ⟨g1, g2⟩ := HD.out k hks hlt
      go_wp2
      go_round
      case rel => exact ⟨k + 1, by omega, by go_num⟩
      case measure => simp [intOf]; omega
    · have e : k = m := by omega
      subst e
      by_cases hks : k < s.size
      · have g := HR.out hks
        by_cases g1 : 48 ≤ (s[k].toNat : Int)
        · have g2 : ¬ (s[k].toNat : Int) ≤ 57 := fun x => g ⟨g1, x⟩
          clear g
          go_wp2
          go_quiet (fail)
          go_wp2
          go_ret2
          exact ⟨rfl, _, rfl⟩
        · clear g
          go_wp2
          go_quiet (fail)
          go_wp2
          go_ret2
          exact ⟨rfl, _, rfl⟩
      · go_wp2
        go_quiet (fail)
        go_wp2
        go_ret2
        exact ⟨rfl, _, rfl⟩

/-- 'leadingDigits' at digits 'd' and a rest 'r' that does not open with a digit. -/
theorem lead_any (s d r : ByteArray) (w : World) (hm : s.size ≤ 9223372036854775807) (h : s.data.toList = d.data.toList ++ r.data.toList) (hd : AllDig d.data.toList) (hr : NoDig r.data.toList) :
    Calls Tryd.prog 16 #[.string s] w fun e w' => e = .returned (.tuple #[.string d, .string r]) ∧ ∃ n, w' = w.drewN n := by
  have hz := size_app s _ _ h
  rw [← Lib.size_eq d] at hz
  have e1 := front_eq s d _ h
  have e2 := rest_eq s r _ h
  rw [← Lib.size_eq d] at e2
  have H := lead_core s d.size w hm (by omega)
    (fun k hk hkd => by obtain ⟨_, g⟩ := dig_at s d _ k hkd h hd; exact g)
    (fun hk => nodig_at s d _ hk h hr)
  rw [e1, e2] at H
  exact H
end Go.Proofs.Qxb6606397aDoor
