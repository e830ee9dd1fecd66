namespace Go.Proofs.Qxb6602271a.Peel

/-- A number that is not 0 has a lowest set bit. -/
theorem low_exists (f : Nat) (h : 0 < f) : ∃ t m, f = 2 ^ t * (2 * m + 1) := by
  induction f using Nat.strongRecOn with
  | _ f ih =>
    rcases Nat.mod_two_eq_zero_or_one f with h0 | h1
    · obtain ⟨t, m, e⟩ := ih (f / 2) (by omega) (by omega)
      refine ⟨t + 1, m, ?_⟩
      have : f = 2 * (f / 2) := by omega
      rw [this, e, Nat.pow_succ, ← Nat.mul_assoc, Nat.mul_comm 2]
    · exact ⟨0, f / 2, by omega⟩

theorem bit_of {t m : Nat} (j : Nat) : (2 ^ t * (2 * m + 1)).testBit j = if j < t then false else (2 * m + 1).testBit (j - t) := by
  have := Nat.testBit_two_pow_mul_add (2 * m + 1) (Nat.two_pow_pos t) j
  simpa using this

theorem bit_low {f t m : Nat} (e : f = 2 ^ t * (2 * m + 1)) : f.testBit t = true := by
  rw [e, bit_of]
  simp

theorem bit_below {f t m : Nat} (e : f = 2 ^ t * (2 * m + 1)) {j : Nat} (hj : j < t) : f.testBit j = false := by
  rw [e, bit_of, if_pos hj]

/-- f - 1: below t all ones, at t zero, above t as f. -/
theorem bit_pred {f t m : Nat} (e : f = 2 ^ t * (2 * m + 1)) (j : Nat) : (f - 1).testBit j = if j < t then true else if j = t then false else f.testBit j := by
  have hp := Nat.two_pow_pos t
  have e1 : f - 1 = 2 ^ t * (2 * m) + (2 ^ t - 1) := by
    rw [e, Nat.mul_add]; omega
  rw [e1, Nat.testBit_two_pow_mul_add _ (by omega)]
  by_cases hj : j < t
  · rw [if_pos hj, if_pos hj, Nat.testBit_two_pow_sub_one]; simp [hj]
  · rw [if_neg hj, if_neg hj]
    by_cases hjt : j = t
    · subst hjt; simp
    · rw [if_neg hjt, e, bit_of, if_neg hj]
      obtain ⟨d, hd⟩ : ∃ d, j - t = d + 1 := ⟨j - t - 1, by omega⟩
      rw [hd, Nat.testBit_succ, Nat.testBit_succ]
      congr 1
      omega

theorem low_pos {f t m : Nat} (e : f = 2 ^ t * (2 * m + 1)) : 0 < f := by
  rw [e]; exact Nat.mul_pos (Nat.two_pow_pos t) (by omega)

/-- The lowest set bit of a 64-bit word, as Go's 'f & (^f + 1)' finds it. -/
theorem low_is {f t m : Nat} (e : f = 2 ^ t * (2 * m + 1)) (hf : f < 2 ^ 64) : f &&& (2 ^ 64 - f) = 2 ^ t := by
  have hp := low_pos e
  refine Nat.eq_of_testBit_eq fun j => ?_
  have e2 : 2 ^ 64 - f = 2 ^ 64 - ((f - 1) + 1) := by omega
  rw [Nat.testBit_and, e2, Nat.testBit_two_pow_sub_succ (by omega), bit_pred e, Nat.testBit_two_pow]
  by_cases hj : j < t
  · rw [if_pos hj]; have : ¬ t = j := by omega
    simp [this]
  · rw [if_neg hj]
    by_cases hjt : j = t
    · subst hjt
      have h64 : j < 64 := by
        rcases Nat.lt_or_ge j 64 with h | h
        · exact h
        · have := Nat.testBit_lt_two_pow (Nat.lt_of_lt_of_le hf (Nat.pow_le_pow_right (by decide) h))
          rw [bit_low e] at this; cases this
      rw [if_pos rfl, bit_low e]; simp [h64]
    · rw [if_neg hjt]
      have : ¬ t = j := fun h => hjt h.symm
      cases f.testBit j <;> simp [this]

theorem low_lt {f t m : Nat} (e : f = 2 ^ t * (2 * m + 1)) (hf : f < 2 ^ 64) : t < 64 := by
  rcases Nat.lt_or_ge t 64 with h | h
  · exact h
  · have := Nat.testBit_lt_two_pow (Nat.lt_of_lt_of_le hf (Nat.pow_le_pow_right (by decide) h))
    rw [bit_low e] at this; cases this

/-- The word with its lowest bit struck. -/
theorem bit_struck {f t j : Nat} (ht : t < 64) (hj : j < 64) : (f &&& (2 ^ 64 - 1 - 2 ^ t)).testBit j = (f.testBit j && !decide (j = t)) := by
  have hlt : 2 ^ t < 2 ^ 64 := Nat.pow_lt_pow_right (by decide) ht
  have e2 : 2 ^ 64 - 1 - 2 ^ t = 2 ^ 64 - (2 ^ t + 1) := by omega
  rw [Nat.testBit_and, e2, Nat.testBit_two_pow_sub_succ hlt, Nat.testBit_two_pow]
  by_cases h : j = t
  · subst h; simp
  · have : ¬ t = j := fun h' => h h'.symm
    simp [h, this, hj]

theorem struck_lt {f t : Nat} : f &&& (2 ^ 64 - 1 - 2 ^ t) < 2 ^ 64 := Nat.lt_of_le_of_lt Nat.and_le_right (Nat.lt_of_le_of_lt (Nat.sub_le _ _) (by decide))

/-- The list of set bits: its head is the lowest; its tail is the struck word's. -/
theorem peel {f t m : Nat} (e : f = 2 ^ t * (2 * m + 1)) (hf : f < 2 ^ 64) : (List.range 64).filter (fun i => f.testBit i) = t :: (List.range 64).filter (fun i => (f &&& (2 ^ 64 - 1 - 2 ^ t)).testBit i) := by
  have ht := low_lt e hf
  have hsplit : List.range 64 = List.range t ++ (t :: List.range' (t + 1) (63 - t)) := by
    rw [List.range_eq_range', List.range_eq_range']
    have h1 : List.range' 0 64 = List.range' 0 t ++ List.range' (0 + 1 * t) (64 - t) := by
      rw [List.range'_append]; congr 1; omega
    rw [h1]
    congr 1
    rw [show 64 - t = (63 - t) + 1 by omega, List.range'_succ]
    simp
  have hA : ∀ g : Nat → Bool, (∀ j, j < t → g j = false) → (List.range t).filter g = [] := fun g hg => by
    rw [List.filter_eq_nil_iff]
    intro a ha
    rw [hg a (List.mem_range.1 ha)]; simp
  rw [hsplit, List.filter_append, List.filter_append, hA _ (fun j hj => bit_below e hj), hA _ (fun j hj => by rw [bit_struck ht (by omega), bit_below e hj]; rfl), List.nil_append, List.nil_append,
    List.filter_cons, List.filter_cons, if_pos (bit_low e), bit_struck ht ht]
  simp only [decide_true, Bool.not_true, Bool.and_false, Bool.false_eq_true, if_false]
  congr 1
  refine List.filter_congr fun j hj => ?_
  rw [List.mem_range'_1] at hj
  rw [bit_struck ht (by omega)]
  have : ¬ j = t := by omega
  simp [this]
end Go.Proofs.Qxb6602271a.Peel
