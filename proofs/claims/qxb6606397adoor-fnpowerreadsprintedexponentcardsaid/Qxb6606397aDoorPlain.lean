import Derived.Lib.AtoiAll
namespace Go.Proofs.Qxb6606397aDoor.Plain

/-- A decimal digit. -/
def dig (c : UInt8) : Bool := decide (48 ≤ c.toNat ∧ c.toNat ≤ 57)
/-- Digits alone. -/
def AllDig (l : List UInt8) : Prop := ∀ c ∈ l, dig c = true
/-- It does not open with a digit. -/
def NoDig (l : List UInt8) : Prop := ∀ c, l.head? = some c → dig c = false
/-- It does not open with a sign. -/
def NoSign (l : List UInt8) : Prop := ∀ c, l.head? = some c → c ≠ 45 ∧ c ≠ 43

theorem dig_iff (c : UInt8) : dig c = true ↔ 48 ≤ c.toNat ∧ c.toNat ≤ 57 := by simp [dig]
theorem dig_not (c : UInt8) : dig c = false ↔ ¬ (48 ≤ c.toNat ∧ c.toNat ≤ 57) := by simp [dig]

/-- The number that digits spell, behind those that spelt 'a'. -/
def valF (a : Nat) (l : List UInt8) : Nat := l.foldl (fun a c => a * 10 + (c.toNat - 48)) a
def val (l : List UInt8) : Nat := valF 0 l

theorem valF_cons (a : Nat) (c : UInt8) (r : List UInt8) : valF a (c :: r) = valF (a * 10 + (c.toNat - 48)) r := by
  unfold valF; rw [List.foldl_cons]
theorem valF_nil (a : Nat) : valF a [] = a := by unfold valF; rw [List.foldl_nil]

theorem valF_ge (l : List UInt8) : ∀ a, a ≤ valF a l := by
  induction l with
  | nil => intro a; rw [valF_nil]; exact Nat.le_refl _
  | cons c r ih =>
    intro a
    rw [valF_cons]
    have h1 := ih (a * 10 + (c.toNat - 48))
    have h2 : a ≤ a * 10 + (c.toNat - 48) := by omega
    exact Nat.le_trans h2 h1

theorem valF_append (l m : List UInt8) (a : Nat) : valF a (l ++ m) = valF (valF a l) m := by
  unfold valF; rw [List.foldl_append]

theorem val_snoc (l : List UInt8) (c : UInt8) : val (l ++ [c]) = val l * 10 + (c.toNat - 48) := by
  unfold val; rw [valF_append, valF_cons, valF_nil]

theorem parse_digits (l : List UInt8) : ∀ acc, acc < 18446744073709551616 → AllDig l →
    Lib.parseUint10 acc l = if valF acc l < 18446744073709551616 then .ok (valF acc l) else .range := by
  induction l with
  | nil => intro acc ha _; simp [Lib.parseUint10, valF_nil, ha]
  | cons c r ih =>
    intro acc ha hd
    have hc := (dig_iff c).1 (hd c (by simp))
    have hr : AllDig r := fun x hx => hd x (by simp [hx])
    have hge := valF_ge r (acc * 10 + (c.toNat - 48))
    have ih' := fun h => ih (acc * 10 + (c.toNat - 48)) h hr
    rw [valF_cons]
    simp only [Lib.parseUint10]
    rw [if_pos hc]
    generalize valF (acc * 10 + (c.toNat - 48)) r = V at hge ih' ⊢
    by_cases h1 : 1844674407370955162 ≤ acc
    · rw [if_pos h1, if_neg (by omega)]
    · rw [if_neg h1]
      by_cases h2 : 18446744073709551616 ≤ acc * 10 + (c.toNat - 48)
      · rw [if_pos h2, if_neg (by omega)]
      · rw [if_neg h2, ih' (by omega)]

theorem atoi_digits (l : List UInt8) (hne : l ≠ []) (hd : AllDig l) :
    Lib.atoiAll l = if val l < 9223372036854775808 then .ok (val l : Int) else .range := by
  cases l with
  | nil => exact absurd rfl hne
  | cons c r =>
    have hc := (dig_iff c).1 (hd c (by simp))
    have hp : Lib.parseMag (c :: r) = if val (c :: r) < 18446744073709551616 then .ok (val (c :: r)) else .range := by
      unfold Lib.parseMag
      rw [if_neg (by simp), parse_digits _ 0 (by omega) hd]
      rfl
    have n1 : ¬ (c.toNat = 43 ∨ c.toNat = 45) := by omega
    have n2 : ¬ c.toNat = 45 := by omega
    simp only [Lib.atoiAll, if_neg n1, hp]
    by_cases h1 : val (c :: r) < 18446744073709551616
    · rw [if_pos h1]
      by_cases h2 : val (c :: r) < 9223372036854775808
      · simp [n2, h2, Nat.not_le.2 h2]
      · simp [n2, h2, Nat.not_lt.1 h2]
    · rw [if_neg h1, if_neg (by omega)]

theorem atoi_ok (l : List UInt8) (hne : l ≠ []) (hd : AllDig l) (h : val l < 9223372036854775808) : Lib.atoiAll l = .ok (val l : Int) := by
  rw [atoi_digits l hne hd, if_pos h]
theorem atoi_range (l : List UInt8) (hne : l ≠ []) (hd : AllDig l) (h : 9223372036854775808 ≤ val l) : Lib.atoiAll l = .range := by
  rw [atoi_digits l hne hd, if_neg (by omega)]

/-- What 'power' reads where the digits spell 'v'. -/
def capped (v : Nat) (lim : Int) : Int := if (v : Int) ≤ lim then (v : Int) else lim

theorem capped_le (v : Nat) (lim : Int) (h : (v : Int) ≤ lim) : capped v lim = v := if_pos h
theorem capped_gt (v : Nat) (lim : Int) (h : lim < (v : Int)) : capped v lim = lim := if_neg (by omega)
theorem capped_bd (v : Nat) (lim : Int) (h : -9223372036854775808 ≤ lim) (h2 : lim ≤ 9223372036854775807) : -9223372036854775808 ≤ capped v lim ∧ capped v lim ≤ 9223372036854775807 := by
  unfold capped; split <;> omega

/-- Digits, then what does not open with a digit: every text parts so. -/
theorem parts (l : List UInt8) : ∃ d r, l = d ++ r ∧ AllDig d ∧ NoDig r := by
  induction l with
  | nil => exact ⟨[], [], rfl, fun c h => (by cases h), fun c h => (by cases h)⟩
  | cons c t ih =>
    by_cases hc : dig c = true
    · obtain ⟨d, r, e, h1, h2⟩ := ih
      refine ⟨c :: d, r, by rw [e]; rfl, ?_, h2⟩
      intro x hx
      rcases List.mem_cons.1 hx with rfl | hx
      · exact hc
      · exact h1 x hx
    · refine ⟨[], c :: t, rfl, fun c h => (by cases h), ?_⟩
      intro x hx
      have e : c = x := by simpa using hx
      rw [← e]; simpa using hc

end Go.Proofs.Qxb6606397aDoor.Plain
