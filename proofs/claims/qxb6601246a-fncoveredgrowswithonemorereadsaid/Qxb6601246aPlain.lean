import GoSem.Op.String
/-! Plain facts on byte strings. No program in sight. -/
namespace Go.Proofs.Qxb6601246a

theorem bl_irrefl : (x : List UInt8) → Op.bytesLess x x = false
  | [] => by simp [Op.bytesLess]
  | a :: x => by simp [Op.bytesLess, bl_irrefl x, UInt8.lt_irrefl]

theorem bl_nil (x : List UInt8) : Op.bytesLess x [] = false := by cases x <;> simp [Op.bytesLess]

theorem bl_nil_left (x : List UInt8) (h : x ≠ []) : Op.bytesLess [] x = true := by
  cases x with
  | nil => exact absurd rfl h
  | cons a x => simp [Op.bytesLess]

theorem bl_trans : (x y z : List UInt8) → Op.bytesLess x y = true → Op.bytesLess y z = true → Op.bytesLess x z = true
  | [], y, [], _, h2 => by rw [bl_nil] at h2; exact absurd h2 (by decide)
  | [], _, _ :: _, _, _ => by simp [Op.bytesLess]
  | _ :: _, [], _, h1, _ => by rw [bl_nil] at h1; exact absurd h1 (by decide)
  | _ :: _, _ :: _, [], _, h2 => by rw [bl_nil] at h2; exact absurd h2 (by decide)
  | a :: x, b :: y, c :: z, h1, h2 => by
    simp only [Op.bytesLess, Bool.or_eq_true, decide_eq_true_eq, Bool.and_eq_true, beq_iff_eq] at h1 h2 ⊢
    rcases h1 with h1 | ⟨rfl, h1⟩
    · rcases h2 with h2 | ⟨rfl, h2⟩
      · exact Or.inl (UInt8.lt_trans h1 h2)
      · exact Or.inl h1
    · rcases h2 with h2 | ⟨rfl, h2⟩
      · exact Or.inl h2
      · exact Or.inr ⟨rfl, bl_trans x y z h1 h2⟩

theorem bl_asymm (x y : List UInt8) (h : Op.bytesLess x y = true) : Op.bytesLess y x = false := by
  cases e : Op.bytesLess y x with
  | false => rfl
  | true => have := bl_trans x y x h e; rw [bl_irrefl] at this; exact this.symm

theorem bl_conn : (x y : List UInt8) → Op.bytesLess x y = false → Op.bytesLess y x = false → x = y
  | [], [], _, _ => rfl
  | [], _ :: _, h, _ => by simp [Op.bytesLess] at h
  | _ :: _, [], _, h => by simp [Op.bytesLess] at h
  | a :: x, b :: y, h1, h2 => by
    simp only [Op.bytesLess, Bool.or_eq_false_iff, decide_eq_false_iff_not, Bool.and_eq_false_iff, beq_eq_false_iff_ne] at h1 h2
    have hab : a = b := UInt8.le_antisymm (UInt8.not_lt.mp h2.1) (UInt8.not_lt.mp h1.1)
    subst hab
    have g1 : Op.bytesLess x y = false := by
      rcases h1.2 with h | h
      · exact absurd rfl h
      · exact h
    have g2 : Op.bytesLess y x = false := by
      rcases h2.2 with h | h
      · exact absurd rfl h
      · exact h
    rw [bl_conn x y g1 g2]

/-- 'not less' goes on: x ≤ y, y ≤ z, so x ≤ z. -/
theorem bl_le_trans (x y z : List UInt8) (h1 : Op.bytesLess y x = false) (h2 : Op.bytesLess z y = false) : Op.bytesLess z x = false := by
  cases e : Op.bytesLess z x with
  | false => rfl
  | true =>
    cases e2 : Op.bytesLess y z with
    | true => have := bl_trans y z x e2 e; rw [h1] at this; exact this.symm
    | false => have := bl_conn y z e2 h2; subst this; rw [h1] at e; exact e.symm

/-- k comes before 'l followed by a zero byte' just where l does not come before k. -/
theorem bl_snoc : (l k : List UInt8) → Op.bytesLess k (l ++ [0]) = !Op.bytesLess l k
  | [], [] => by simp [Op.bytesLess]
  | [], b :: k => by
    have : ¬ b < (0 : UInt8) := UInt8.not_lt_zero
    simp [Op.bytesLess, bl_nil]
  | a :: l, [] => by simp [Op.bytesLess]
  | a :: l, b :: k => by
    simp only [List.cons_append, Op.bytesLess, bl_snoc l k]
    by_cases h : a < b
    · have h1 : ¬ b < a := UInt8.not_lt.mpr (UInt8.le_of_lt h)
      have h2 : b ≠ a := fun e => UInt8.lt_irrefl a (e ▸ h)
      simp [h, h1, h2]
    · by_cases h' : b < a
      · have h2 : a ≠ b := fun e => UInt8.lt_irrefl a (e ▸ h')
        simp [h, h', h2]
      · have e : a = b := UInt8.le_antisymm (UInt8.not_lt.mp h') (UInt8.not_lt.mp h)
        subst e
        simp [h]

/-- The later of two ends; the empty end is last. -/
def laterL (x y : List UInt8) : List UInt8 := if x = [] then [] else if y = [] then [] else if Op.bytesLess x y then y else x
/-- x comes no later than y as an end. -/
def noLaterL (x y : List UInt8) : Bool := y.isEmpty || (!x.isEmpty && !Op.bytesLess y x)
/-- k lies before the end e; the empty end excludes none. -/
def withinL (e k : List UInt8) : Bool := e.isEmpty || Op.bytesLess k e

theorem laterL_comm (x y : List UInt8) : laterL x y = laterL y x := by
  unfold laterL
  by_cases hx : x = [] <;> by_cases hy : y = [] <;> simp only [hx, hy, if_true, if_false]
  cases e : Op.bytesLess x y with
  | true => simp [bl_asymm x y e]
  | false =>
    cases e' : Op.bytesLess y x with
    | true => simp
    | false => simp [bl_conn x y e e']

theorem laterL_idem (x : List UInt8) : laterL x x = x := by
  unfold laterL
  by_cases hx : x = [] <;> simp [hx]

theorem laterL_nil_right (x : List UInt8) : laterL x [] = [] := by unfold laterL; simp
theorem laterL_nil_left (x : List UInt8) : laterL [] x = [] := by unfold laterL; simp

theorem laterL_zero (x : List UInt8) : laterL [0] x = x := by
  unfold laterL
  by_cases hx : x = []
  · simp [hx]
  · simp only [hx, if_false]
    cases x with
    | nil => exact absurd rfl hx
    | cons b x =>
      cases e : Op.bytesLess [0] (b :: x) with
      | true => simp
      | false =>
        have h := bl_snoc [] (b :: x)
        simp only [List.nil_append] at h
        rw [bl_nil_left _ (by simp)] at h
        have := bl_conn _ _ e (by simpa using h)
        simp [this]

theorem laterL_eq_nil (x y : List UInt8) (h : laterL x y = []) : x = [] ∨ y = [] := by
  unfold laterL at h
  by_cases hx : x = []
  · exact Or.inl hx
  · by_cases hy : y = []
    · exact Or.inr hy
    · simp only [hx, hy, if_false] at h
      split at h
      · exact absurd h hy
      · exact absurd h hx

theorem laterL_of_less (x y : List UInt8) (hx : x ≠ []) (h : Op.bytesLess x y = true) : laterL x y = y := by
  have hy : y ≠ [] := fun e => by rw [e, bl_nil] at h; cases h
  simp [laterL, hx, hy, h]
theorem laterL_of_not (x y : List UInt8) (hx : x ≠ []) (hy : y ≠ []) (h : Op.bytesLess x y = false) : laterL x y = x := by
  simp [laterL, hx, hy, h]

theorem laterL_assoc (x y z : List UInt8) : laterL (laterL x y) z = laterL x (laterL y z) := by
  by_cases hx : x = []
  · subst hx; simp [laterL_nil_left]
  by_cases hy : y = []
  · subst hy; simp [laterL_nil_left, laterL_nil_right]
  by_cases hz : z = []
  · subst hz; simp [laterL_nil_right]
  cases e1 : Op.bytesLess x y with
  | true =>
    rw [laterL_of_less x y hx e1]
    cases e2 : Op.bytesLess y z with
    | true => rw [laterL_of_less y z hy e2, laterL_of_less x z hx (bl_trans _ _ _ e1 e2)]
    | false => rw [laterL_of_not y z hy hz e2, laterL_of_less x y hx e1]
  | false =>
    rw [laterL_of_not x y hx hy e1]
    cases e2 : Op.bytesLess y z with
    | true => rw [laterL_of_less y z hy e2]
    | false =>
      rw [laterL_of_not y z hy hz e2, laterL_of_not x y hx hy e1]
      exact laterL_of_not x z hx hz (bl_le_trans z y x e2 e1)

theorem laterL_or (x y : List UInt8) : laterL x y = x ∨ laterL x y = y := by
  unfold laterL
  by_cases hx : x = []
  · simp [hx]
  · by_cases hy : y = []
    · simp [hx, hy]
    · simp only [hx, hy, if_false]
      split
      · exact Or.inr rfl
      · exact Or.inl rfl

theorem noLaterL_left (x y : List UInt8) : noLaterL x (laterL x y) = true := by
  unfold noLaterL
  by_cases hx : x = []
  · subst hx; simp [laterL_nil_left]
  by_cases hy : y = []
  · subst hy; simp [laterL_nil_right]
  cases e1 : Op.bytesLess x y with
  | true => rw [laterL_of_less x y hx e1]; simp [hx, bl_asymm x y e1]
  | false => rw [laterL_of_not x y hx hy e1]; simp [bl_irrefl]

theorem noLaterL_right (x y : List UInt8) : noLaterL y (laterL x y) = true := by
  rw [laterL_comm]; exact noLaterL_left y x

theorem laterL_ge (x y : List UInt8) (hx : x ≠ []) (h : Op.bytesLess y x = false) : laterL x y = y := by
  cases e : Op.bytesLess x y with
  | true => exact laterL_of_less x y hx e
  | false => rw [bl_conn x y e h]; exact laterL_idem y

/-- Where l comes no later than m: the end of l and a zero byte comes no later than that of m and a zero byte. -/
theorem laterL_snoc (l m : List UInt8) (h : Op.bytesLess m l = false) : laterL (l ++ [0]) (m ++ [0]) = m ++ [0] := by
  apply laterL_ge
  · simp
  · rw [bl_snoc, bl_snoc, h]; rfl

/-- Where l comes before the end e, or e is empty. -/
theorem laterL_end (l e : List UInt8) (h : e = [] ∨ Op.bytesLess l e = true) : laterL (l ++ [0]) e = e := by
  rcases h with rfl | h
  · exact laterL_nil_right _
  · apply laterL_ge
    · simp
    · rw [bl_snoc, h]; rfl

theorem within_mono (x y k : List UInt8) (h : laterL x y = y) (hk : withinL x k = true) : withinL y k = true := by
  by_cases hy : y = []
  · subst hy; simp [withinL]
  by_cases hx : x = []
  · subst hx; rw [laterL_nil_left] at h; exact absurd h.symm hy
  have h1 := noLaterL_left x y
  rw [h] at h1
  simp only [noLaterL, withinL, Bool.or_eq_true, List.isEmpty_iff, hx, hy, false_or, Bool.and_eq_true, Bool.not_eq_true'] at h1 hk ⊢
  cases e : Op.bytesLess k y with
  | true => rfl
  | false => have := bl_le_trans x y k h1.2 e; rw [hk] at this; exact this.symm

end Go.Proofs.Qxb6601246a
