import Derived.Test.Qxb6606397aDoorModel
namespace Go.Proofs.Qxb6606397aDoor
open Go.RowKit Plain

/-- How a text parts: a sign 'g' ('b': a minus) or none, digits 'd', a rest 'r' that does not open with a digit. -/
def Parse (s : List UInt8) (b : Bool) (g d r : List UInt8) : Prop :=
  s = g ++ (d ++ r) ∧ AllDig d ∧ NoDig r ∧ ((g = [45] ∧ b = true) ∨ (g = [43] ∧ b = false) ∨ (g = [] ∧ b = false ∧ NoSign s))

theorem parse_any (s : List UInt8) : ∃ b g d r, Parse s b g d r := by
  cases s with
  | nil => exact ⟨false, [], [], [], rfl, fun c h => (by cases h), fun c h => (by cases h), Or.inr (Or.inr ⟨rfl, rfl, fun c h => (by cases h)⟩)⟩
  | cons c t =>
    by_cases h1 : c = 45
    · obtain ⟨d, r, e, hd, hr⟩ := parts t
      exact ⟨true, [45], d, r, by rw [h1, e]; rfl, hd, hr, Or.inl ⟨rfl, rfl⟩⟩
    · by_cases h2 : c = 43
      · obtain ⟨d, r, e, hd, hr⟩ := parts t
        exact ⟨false, [43], d, r, by rw [h2, e]; rfl, hd, hr, Or.inr (Or.inl ⟨rfl, rfl⟩)⟩
      · obtain ⟨d, r, e, hd, hr⟩ := parts (c :: t)
        refine ⟨false, [], d, r, e, hd, hr, Or.inr (Or.inr ⟨rfl, rfl, ?_⟩)⟩
        intro x hx
        have ex : c = x := by simpa using hx
        rw [← ex]; exact ⟨h1, h2⟩

/-- What 'power' and its model answer. -/
def ans (b : Bool) (d : List UInt8) (r : ByteArray) (lim : Int) : Value :=
  if d = [] then .tuple #[.int .i64 0, .string ⟨#[]⟩, .bool false] else .tuple #[.int .i64 (sgn b (capped (val d) lim)), .string r, .bool true]
theorem ans_none (b : Bool) (d : List UInt8) (r : ByteArray) (lim : Int) (h : d = []) : ans b d r lim = .tuple #[.int .i64 0, .string ⟨#[]⟩, .bool false] := if_pos h
theorem ans_some (b : Bool) (d : List UInt8) (r : ByteArray) (lim : Int) (h : d ≠ []) : ans b d r lim = .tuple #[.int .i64 (sgn b (capped (val d) lim)), .string r, .bool true] := if_neg h

theorem byte_get (s : ByteArray) (k : Nat) (hk : k < s.size) : s.data.toList[k]? = some s[k] := by
  have h' : k < s.data.toList.length := by rw [← Lib.size_eq]; exact hk
  rw [byte_at s k _ hk (List.getElem?_eq_getElem h')]
  exact List.getElem?_eq_getElem h'

theorem mid_at (s : ByteArray) (g d r : List UInt8) (h : s.data.toList = g ++ (d ++ r)) (hd : AllDig d) (k : Nat) (hs : k < s.size) (h0 : g.length ≤ k) (h1 : k < g.length + d.length) :
    48 ≤ (s[k].toNat : Int) ∧ (s[k].toNat : Int) ≤ 57 ∧ d[k - g.length]? = some s[k] := by
  have e := byte_get s k hs
  rw [h, List.getElem?_append_right h0, List.getElem?_append_left (by omega)] at e
  have hc := (dig_iff _).1 (hd _ (List.mem_of_getElem? e))
  exact ⟨by omega, by omega, e⟩
theorem past_at (s : ByteArray) (g d r : List UInt8) (h : s.data.toList = g ++ (d ++ r)) (hr : NoDig r) (hk : g.length + d.length < s.size) :
    ¬ (48 ≤ (s[g.length + d.length].toNat : Int) ∧ (s[g.length + d.length].toNat : Int) ≤ 57) := by
  have e := byte_get s _ hk
  rw [h, List.getElem?_append_right (by omega), List.getElem?_append_right (by omega)] at e
  have e2 : g.length + d.length - g.length - d.length = 0 := by omega
  rw [e2, ← List.head?_eq_getElem?] at e
  have hc := (dig_not _).1 (hr _ e)
  omega

/-- b1ModelPower. -/
theorem model_any (s d r : ByteArray) (b : Bool) (g : List UInt8) (lim : Int) (w : World) (hm : s.size ≤ 1048576) (hl0 : -9223372036854775808 ≤ lim) (hl1 : lim ≤ 9223372036854775807)
    (hp : Parse s.data.toList b g d.data.toList r.data.toList) :
    Calls Tryd.prog 8 #[.string s, .int .i64 lim] w fun e w' => e = .returned (ans b d.data.toList r lim) ∧ ∃ n, w' = w.drewN n := by
  obtain ⟨h, hd, hr, hg⟩ := hp
  have hz : s.size = g.length + (d.data.toList.length + r.data.toList.length) := by rw [size_app s _ _ h, List.length_append]
  have he : s.extract (g.length + d.data.toList.length) s.size = r := by
    have := rest_eq s r (g ++ d.data.toList) (by rw [h, List.append_assoc])
    rw [List.length_append] at this
    exact this
  have f1 := mid_at s g _ _ h hd
  have f2 := past_at s g _ _ h hr
  have hn : d.data.toList.length = 0 → ans b d.data.toList r lim = .tuple #[.int .i64 0, .string ⟨#[]⟩, .bool false] := fun e => ans_none _ _ _ _ (List.length_eq_zero_iff.1 e)
  have hy : d.data.toList.length ≠ 0 → ans b d.data.toList r lim = .tuple #[.int .i64 (sgn b (capped (val d.data.toList) lim)), .string (s.extract (g.length + d.data.toList.length) s.size), .bool true] := by
    intro e
    rw [he]
    exact ans_some _ _ _ _ (fun e2 => e (by rw [e2]; rfl))
  rcases hg with ⟨rfl, rfl⟩ | ⟨rfl, rfl⟩ | ⟨rfl, rfl, hns⟩
  · obtain ⟨hp, h0⟩ := first_at s 45 _ h
    exact model_minus s d.data.toList.length d.data.toList lim _ w hm hl0 hl1 hp (by rw [h0]; rfl) (by simp only [List.length_cons, List.length_nil] at hz; omega) rfl f1 f2 hn hy
  · obtain ⟨hp, h0⟩ := first_at s 43 _ h
    exact model_plus s d.data.toList.length d.data.toList lim _ w hm hl0 hl1 hp (by rw [h0]; rfl) (by simp only [List.length_cons, List.length_nil] at hz; omega) rfl f1 f2 hn hy
  · cases hl : s.data.toList with
    | nil =>
      have hd0 : d.data.toList = [] := by rw [hl] at h; exact (List.append_eq_nil_iff.1 (List.append_eq_nil_iff.1 h.symm).2).1
      rw [ans_none _ _ _ _ hd0]
      exact model_empty s lim w (by rw [Lib.size_eq, hl]; rfl)
    | cons c t =>
      obtain ⟨hp, h0⟩ := first_at s c _ hl
      have hc := hns c (by rw [hl]; rfl)
      simp only [List.length_nil, Nat.zero_add] at f2 hy
      refine model_plain s d.data.toList.length d.data.toList lim _ w hm hl0 hl1 hp ?_ ?_ (by simp only [List.length_nil] at hz; omega) rfl (fun k hs h1 h2 => f1 k hs h1 (by simpa using h2)) f2 hn hy
      · rw [h0]
        simp only [beq_eq_false_iff_ne]
        intro e
        have e2 : c.toNat = 45 := by omega
        exact hc.1 (UInt8.toNat_inj.1 e2)
      · rw [h0]
        simp only [beq_eq_false_iff_ne]
        intro e
        have e2 : c.toNat = 43 := by omega
        exact hc.2 (UInt8.toNat_inj.1 e2)
end Go.Proofs.Qxb6606397aDoor
