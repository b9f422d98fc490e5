namespace Go.Proofs.Qxb6606120a.Plain

/-- The hashes at tile level 'k' of a tree of 's' entries: 's' shifted right by 8, 'k' times over. -/
def lh : Nat → Int → Int
  | 0, s => s
  | k + 1, s => lh k s / 256

theorem lh_nonneg (k : Nat) (s : Int) (h : 0 ≤ s) : 0 ≤ lh k s := by
  induction k with
  | zero => exact h
  | succ k ih => show 0 ≤ lh k s / 256; omega

theorem lh_le (k : Nat) (s : Int) (h : 0 ≤ s) : lh k s ≤ s := by
  induction k with
  | zero => exact Int.le_refl s
  | succ k ih => have := lh_nonneg k s h; show lh k s / 256 ≤ s; omega

theorem lh_mono (k : Nat) (a b : Int) (h : a ≤ b) : lh k a ≤ lh k b := by
  induction k with
  | zero => exact h
  | succ k ih => show lh k a / 256 ≤ lh k b / 256; omega

theorem lh_zero (k : Nat) : lh k 0 = 0 := by
  induction k with
  | zero => rfl
  | succ k ih => show lh k 0 / 256 = 0; omega

theorem lh_stays (k j : Nat) (s : Int) (h : lh k s = 0) : lh (k + j) s = 0 := by
  induction j with
  | zero => exact h
  | succ j ih => show lh (k + j) s / 256 = 0; omega

theorem lh_eight (s : Int) (h0 : 0 ≤ s) (h : s ≤ 9223372036854775807) : lh 8 s = 0 := by
  simp only [lh]; omega

/-- One level's new tiles: 'o' hashes before, 'g' hashes after. -/
def one (o g : Int) : Int := if o = g then 0 else g / 256 - o / 256 + (if g % 256 = 0 then 0 else 1)

theorem one_same (g : Int) : one g g = 0 := by simp [one]
theorem one_bd (o g : Int) (h0 : 0 ≤ o) (h : o ≤ g) (hg : g ≤ 9223372036854775807) : 0 ≤ one o g ∧ one o g ≤ 36028797018963969 := by
  unfold one; split <;> (try split) <;> omega
theorem one_pos (o g : Int) (h : o < g) : 1 ≤ one o g := by
  unfold one; rw [if_neg (by omega)]; split <;> omega

/-- The new tiles of the first 'j' levels, the entry bundles being the first of them ('j = 0': none; 'j = 1': the bundles; 'j = k + 2': tile level 'k' too). -/
def cnt : Nat → Int → Int → Int
  | 0, _, _ => 0
  | j + 1, f, t => cnt j f t + one (lh (j - 1) f) (lh (j - 1) t)

theorem cnt_bd (j : Nat) (f t : Int) (h0 : 0 ≤ f) (h : f ≤ t) (ht : t ≤ 9223372036854775807) : 0 ≤ cnt j f t ∧ cnt j f t ≤ 36028797018963969 * j := by
  induction j with
  | zero => exact ⟨Int.le_refl _, by simp [cnt]⟩
  | succ j ih =>
    have a := lh_nonneg (j - 1) f h0
    have b := lh_mono (j - 1) f t h
    have c := lh_le (j - 1) t (by omega)
    have d := one_bd _ _ a b (by omega)
    simp only [cnt]
    omega

theorem cnt_stays (j i : Nat) (f t : Int) (h0 : 0 ≤ f) (h : f ≤ t) (hz : lh (j - 1) t = 0) : cnt (j + i) f t = cnt j f t := by
  induction i with
  | zero => rfl
  | succ i ih =>
    show cnt (j + i) f t + one (lh (j + i - 1) f) (lh (j + i - 1) t) = cnt j f t
    have e : lh (j + i - 1) t = 0 := by
      by_cases hj : j = 0
      · subst hj
        have ht : t = 0 := hz
        subst ht
        exact lh_zero _
      · have := lh_stays (j - 1) i t hz
        have e2 : j + i - 1 = j - 1 + i := by omega
        rw [e2]; exact this
    have a := lh_nonneg (j + i - 1) f h0
    have b := lh_mono (j + i - 1) f t h
    have e3 : lh (j + i - 1) f = lh (j + i - 1) t := by omega
    rw [ih, e3, one_same]; omega

theorem cnt_same (j : Nat) (t : Int) : cnt j t t = 0 := by
  induction j with
  | zero => rfl
  | succ j ih => simp only [cnt, ih, one_same]; rfl

theorem cnt_grew (f t : Int) (h0 : 0 ≤ f) (h : f < t) (ht : t ≤ 9223372036854775807) : 2 ≤ cnt 9 f t := by
  have e : ∀ j : Nat, 2 ≤ cnt (2 + j) f t := by
    intro j
    induction j with
    | zero => have := one_pos f t h; show 2 ≤ 0 + one f t + one f t; omega
    | succ j ih =>
      have a := lh_nonneg (2 + j - 1) f h0
      have b := lh_mono (2 + j - 1) f t (by omega)
      have c := lh_le (2 + j - 1) t (by omega)
      have d := one_bd _ _ a b (by omega)
      show 2 ≤ cnt (2 + j) f t + one (lh (2 + j - 1) f) (lh (2 + j - 1) t)
      omega
  exact e 7

/-- 256 to the power 'k'. -/
def pw : Nat → Int
  | 0 => 1
  | k + 1 => pw k * 256

theorem pw_pos (k : Nat) : 1 ≤ pw k := by
  induction k with
  | zero => exact Int.le_refl _
  | succ k ih => show 1 ≤ pw k * 256; omega

theorem pw_bd (k : Nat) (h : k ≤ 7) : pw k ≤ 72057594037927936 := by
  have e : k = 0 ∨ k = 1 ∨ k = 2 ∨ k = 3 ∨ k = 4 ∨ k = 5 ∨ k = 6 ∨ k = 7 := by omega
  rcases e with e | e | e | e | e | e | e | e <;> subst e <;> simp [pw]

theorem lh_pw (k : Nat) (s : Int) : lh k s = s / pw k := by
  induction k with
  | zero => show s = s / 1; omega
  | succ k ih =>
    show lh k s / 256 = s / (pw k * 256)
    have hp := pw_pos k
    rw [ih, Int.ediv_ediv_of_nonneg (by omega)]

/-- The tiles, full or not, that hold 's' hashes. -/
def ceilT (s : Int) : Int := if s ≤ 0 then 0 else (s - 1) / 256 + 1
/-- The tiles that one level keeps: 'o' hashes before, 'g' after. -/
def keepT (o g : Int) : Int := o / 256 + (if o = g ∧ o % 256 ≠ 0 then 1 else 0)

theorem ceilT_bd (s : Int) (h : s ≤ 9223372036854775807) : 0 ≤ ceilT s ∧ ceilT s ≤ 36028797018963968 := by
  unfold ceilT; split <;> omega
theorem keepT_bd (o g : Int) (h0 : 0 ≤ o) (h : o ≤ 9223372036854775807) : 0 ≤ keepT o g ∧ keepT o g ≤ 36028797018963968 := by
  unfold keepT; split <;> omega
theorem one_parts (o g : Int) (h0 : 0 ≤ o) (h : o ≤ g) : ceilT g - keepT o g = one o g := by
  unfold ceilT keepT one
  by_cases hog : o = g
  · subst hog
    by_cases hz : o % 256 = 0 <;> by_cases hp : o ≤ 0 <;> simp [hz, hp] <;> omega
  · by_cases hz : g % 256 = 0 <;> by_cases hp : g ≤ 0 <;> simp [hog, hz, hp] <;> omega

/-- The model's sums over the first 'k' tile levels; level 0 counts twice. -/
def tot : Nat → Int → Int
  | 0, _ => 0
  | k + 1, t => tot k t + (if k = 0 then ceilT (lh k t) * 2 else ceilT (lh k t))
def kep : Nat → Int → Int → Int
  | 0, _, _ => 0
  | k + 1, f, t => kep k f t + (if k = 0 then keepT (lh k f) (lh k t) * 2 else keepT (lh k f) (lh k t))

theorem tot_bd (k : Nat) (t : Int) (h0 : 0 ≤ t) (ht : t ≤ 9223372036854775807) : 0 ≤ tot k t ∧ tot k t ≤ 72057594037927936 * k := by
  induction k with
  | zero => exact ⟨Int.le_refl _, by simp [tot]⟩
  | succ k ih =>
    have c := lh_le k t h0
    have d := ceilT_bd (lh k t) (by omega)
    simp only [tot]
    split <;> omega
theorem kep_bd (k : Nat) (f t : Int) (h0 : 0 ≤ f) (ht : f ≤ 9223372036854775807) : 0 ≤ kep k f t ∧ kep k f t ≤ 72057594037927936 * k := by
  induction k with
  | zero => exact ⟨Int.le_refl _, by simp [kep]⟩
  | succ k ih =>
    have b := lh_nonneg k f h0
    have c := lh_le k f h0
    have d := keepT_bd (lh k f) (lh k t) b (by omega)
    simp only [kep]
    split <;> omega

theorem parts (k : Nat) (f t : Int) (h0 : 0 ≤ f) (h : f ≤ t) : tot (k + 1) t - kep (k + 1) f t = cnt (k + 2) f t := by
  induction k with
  | zero =>
    have e := one_parts f t h0 h
    show (0 + ceilT t * 2) - (0 + keepT f t * 2) = 0 + one f t + one f t
    omega
  | succ k ih =>
    have e := one_parts (lh (k + 1) f) (lh (k + 1) t) (lh_nonneg _ _ h0) (lh_mono _ _ _ h)
    have a : tot (k + 1 + 1) t = tot (k + 1) t + ceilT (lh (k + 1) t) := by simp [tot]
    have b : kep (k + 1 + 1) f t = kep (k + 1) f t + keepT (lh (k + 1) f) (lh (k + 1) t) := by simp [kep]
    have c : cnt (k + 1 + 2) f t = cnt (k + 2) f t + one (lh (k + 1) f) (lh (k + 1) t) := rfl
    omega

end Go.Proofs.Qxb6606120a.Plain
