/-! The number grammar, by reading ahead and by an automaton. No program in sight. -/
namespace Go.Proofs.Qxb6001059a

/-- A decimal digit's byte. -/
def isDig (c : Int) : Bool := decide (48 ≤ c) && decide (c ≤ 57)

/-- Where the run of digits that begins at i ends; c: a bound on its length. -/
def digF (Z : Nat → Int) : Nat → Nat → Nat
  | 0, i => i
  | c + 1, i => if isDig (Z i) then digF Z c (i + 1) else i

/-- Where the run of digits that begins at i ends, of n bytes. -/
def dEnd (Z : Nat → Int) (n i : Nat) : Nat := digF Z (n - i) i

theorem dEnd_step (Z : Nat → Int) (n i : Nat) (h : i < n) (hd : isDig (Z i) = true) : dEnd Z n i = dEnd Z n (i + 1) := by
  unfold dEnd
  rw [show n - i = (n - (i + 1)) + 1 by omega]
  simp [digF, hd]

theorem dEnd_stop (Z : Nat → Int) (n i : Nat) (hd : isDig (Z i) = false) : dEnd Z n i = i := by
  unfold dEnd
  cases n - i with
  | zero => rfl
  | succ c => simp [digF, hd]

theorem dEnd_over (Z : Nat → Int) (n i : Nat) (h : n ≤ i) : dEnd Z n i = i := by
  unfold dEnd
  rw [show n - i = 0 by omega]
  rfl

theorem dEnd_ge (Z : Nat → Int) (n : Nat) : ∀ (c i : Nat), n - i = c → i ≤ dEnd Z n i := by
  intro c
  induction c with
  | zero => intro i h; rw [dEnd_over Z n i (by omega)]; exact Nat.le_refl _
  | succ c ih =>
    intro i h
    cases hd : isDig (Z i) with
    | true => rw [dEnd_step Z n i (by omega) hd]; have := ih (i + 1) (by omega); omega
    | false => rw [dEnd_stop Z n i hd]; exact Nat.le_refl _

theorem dEnd_le (Z : Nat → Int) (n : Nat) : ∀ (c i : Nat), n - i = c → i ≤ n → dEnd Z n i ≤ n := by
  intro c
  induction c with
  | zero => intro i h hi; rw [dEnd_over Z n i (by omega)]; exact hi
  | succ c ih =>
    intro i h hi
    cases hd : isDig (Z i) with
    | true => rw [dEnd_step Z n i (by omega) hd]; exact ih (i + 1) (by omega) (by omega)
    | false => rw [dEnd_stop Z n i hd]; exact hi

theorem dEnd_ne (Z : Nat → Int) (n i : Nat) (h : i < n) (hd : isDig (Z i) = true) : dEnd Z n i ≠ i := by
  rw [dEnd_step Z n i h hd]
  have := dEnd_ge Z n _ (i + 1) rfl
  omega

/-- The last part of an exponent: digits, at least one, and then the end. -/
def e4 (Z : Nat → Int) (n i : Nat) : Bool := decide (dEnd Z n i ≠ i) && decide (dEnd Z n i = n)
/-- An exponent behind its letter. -/
def e6 (Z : Nat → Int) (n i : Nat) : Bool := if decide (i < n) && (Z i == 43 || Z i == 45) then e4 Z n (i + 1) else e4 Z n i
/-- An exponent or none, and then the end. -/
def p4 (Z : Nat → Int) (n i : Nat) : Bool := if decide (i < n) && (Z i == 101 || Z i == 69) then e6 Z n (i + 1) else decide (i = n)
/-- A fraction or none, and what follows. -/
def p3 (Z : Nat → Int) (n i : Nat) : Bool :=
  if decide (i < n) && (Z i == 46) then (if dEnd Z n (i + 1) = i + 1 then false else p4 Z n (dEnd Z n (i + 1))) else p4 Z n i
/-- An integer part, and what follows. -/
def p2 (Z : Nat → Int) (n i : Nat) : Bool :=
  if decide (i < n) && (Z i == 48) then p3 Z n (i + 1) else (if dEnd Z n i = i then false else p3 Z n (dEnd Z n i))
/-- A minus sign or none, and what follows. -/
def p1 (Z : Nat → Int) (n i : Nat) : Bool := if decide (i < n) && (Z i == 45) then p2 Z n (i + 1) else p2 Z n i

/-- One move of the automaton. -/
def step (st c : Int) : Int :=
  if st == 0 then (if c == 45 then 1 else if c == 48 then 2 else if isDig c then 3 else -1)
  else if st == 1 then (if c == 48 then 2 else if isDig c then 3 else -1)
  else if st == 2 then (if c == 46 then 4 else if c == 101 || c == 69 then 6 else -1)
  else if st == 3 then (if isDig c then 3 else if c == 46 then 4 else if c == 101 || c == 69 then 6 else -1)
  else if st == 4 then (if isDig c then 5 else -1)
  else if st == 5 then (if isDig c then 5 else if c == 101 || c == 69 then 6 else -1)
  else if st == 6 then (if c == 43 || c == 45 then 7 else if isDig c then 8 else -1)
  else if st == 7 then (if isDig c then 8 else -1)
  else if st == 8 then (if isDig c then 8 else -1)
  else -1

/-- The states in which the automaton accepts. -/
def acc (st : Int) : Bool := st == 2 || st == 3 || st == 5 || st == 8

def runF (Z : Nat → Int) : Nat → Nat → Int → Bool
  | 0, _, st => acc st
  | c + 1, i, st => if step st (Z i) < 0 then false else runF Z c (i + 1) (step st (Z i))

/-- The automaton, from place i of n on, in state st. -/
def run (Z : Nat → Int) (n i : Nat) (st : Int) : Bool := runF Z (n - i) i st

theorem run_end (Z : Nat → Int) (n i : Nat) (st : Int) (h : n ≤ i) : run Z n i st = acc st := by
  unfold run
  rw [show n - i = 0 by omega]
  rfl

theorem run_no (Z : Nat → Int) (n i : Nat) (st : Int) (h : i < n) (hs : step st (Z i) < 0) : run Z n i st = false := by
  unfold run
  rw [show n - i = (n - (i + 1)) + 1 by omega]
  simp [runF, hs]

theorem run_on (Z : Nat → Int) (n i : Nat) (st st' : Int) (h : i < n) (hs : step st (Z i) = st') (h0 : 0 ≤ st') : run Z n i st = run Z n (i + 1) st' := by
  unfold run
  rw [show n - i = (n - (i + 1)) + 1 by omega]
  have : ¬ st' < 0 := by omega
  simp only [runF, hs, if_neg this]

theorem run8 (Z : Nat → Int) (n : Nat) : ∀ (c i : Nat), n - i = c → i ≤ n → run Z n i 8 = decide (dEnd Z n i = n) := by
  intro c
  induction c with
  | zero =>
    intro i h hi
    have e : i = n := by omega
    subst e
    rw [run_end Z i i 8 (Nat.le_refl _), dEnd_over Z i i (Nat.le_refl _)]
    simp [acc]
  | succ c ih =>
    intro i h hi
    cases hd : isDig (Z i) with
    | true =>
      rw [run_on Z n i 8 8 (by omega) (by simp [step, hd]) (by omega), dEnd_step Z n i (by omega) hd]
      exact ih (i + 1) (by omega) (by omega)
    | false =>
      rw [run_no Z n i 8 (by omega) (by simp [step, hd]), dEnd_stop Z n i hd]
      have : ¬ i = n := by omega
      simp [this]

theorem run7 (Z : Nat → Int) (n i : Nat) (hi : i ≤ n) : run Z n i 7 = e4 Z n i := by
  unfold e4
  by_cases h : i < n
  · cases hd : isDig (Z i) with
    | true =>
      rw [run_on Z n i 7 8 h (by simp [step, hd]) (by omega), run8 Z n _ (i + 1) rfl (by omega), ← dEnd_step Z n i h hd]
      simp [dEnd_ne Z n i h hd]
    | false =>
      rw [run_no Z n i 7 h (by simp [step, hd]), dEnd_stop Z n i hd]
      simp
  · rw [run_end Z n i 7 (by omega), dEnd_over Z n i (by omega)]
    simp [acc]

theorem run6 (Z : Nat → Int) (n i : Nat) (hi : i ≤ n) : run Z n i 6 = e6 Z n i := by
  unfold e6
  by_cases h : i < n
  · cases hs : (Z i == 43 || Z i == 45) with
    | true =>
      rw [run_on Z n i 6 7 h (by simp [step, hs]) (by omega), run7 Z n (i + 1) (by omega)]
      simp [h]
    | false =>
      simp only [h, decide_true, Bool.and_false, Bool.false_eq_true, if_false]
      rw [← run7 Z n i hi]
      cases hd : isDig (Z i) with
      | true => rw [run_on Z n i 6 8 h (by simp [step, hs, hd]) (by omega), run_on Z n i 7 8 h (by simp [step, hd]) (by omega)]
      | false => rw [run_no Z n i 6 h (by simp [step, hs, hd]), run_no Z n i 7 h (by simp [step, hd])]
  · simp only [h, decide_false, Bool.false_and, Bool.false_eq_true, if_false]
    rw [run_end Z n i 6 (by omega), ← run7 Z n i hi, run_end Z n i 7 (by omega)]
    rfl

/-- A state that has no digit to read: an exponent, or the end. -/
theorem run_p4 (Z : Nat → Int) (n i : Nat) (st : Int) (hi : i ≤ n) (ha : acc st = true) (he : ∀ c, (c == 101 || c == 69) = true → step st c = 6) (hn : i < n → (Z i == 101 || Z i == 69) = false → step st (Z i) < 0) : run Z n i st = p4 Z n i := by
  unfold p4
  by_cases h : i < n
  · cases hs : (Z i == 101 || Z i == 69) with
    | true =>
      rw [run_on Z n i st 6 h (he _ hs) (by omega), run6 Z n (i + 1) (by omega)]
      simp [h]
    | false =>
      rw [run_no Z n i st h (hn h hs)]
      have : ¬ i = n := by omega
      simp [this]
  · have : i = n := by omega
    rw [run_end Z n i st (by omega), ha]
    simp [this]

theorem notDig_exp (c : Int) (h : (c == 101 || c == 69) = true) : isDig c = false := by
  simp at h
  rcases h with rfl | rfl <;> decide
theorem notDig_dot (c : Int) (h : (c == 46) = true) : isDig c = false := by
  simp at h
  subst h
  decide
theorem notDot_exp (c : Int) (h : (c == 101 || c == 69) = true) : (c == 46) = false := by
  simp at h
  rcases h with rfl | rfl <;> decide
theorem dig_zero (c : Int) (h : (c == 48) = true) : isDig c = true := by
  simp at h
  subst h
  decide
theorem dig_minus (c : Int) (h : (c == 45) = true) : isDig c = false := by
  simp at h
  subst h
  decide

theorem run5 (Z : Nat → Int) (n : Nat) : ∀ (c i : Nat), n - i = c → i ≤ n → run Z n i 5 = p4 Z n (dEnd Z n i) := by
  intro c
  induction c with
  | zero =>
    intro i h hi
    have e : i = n := by omega
    subst e
    rw [dEnd_over Z i i (Nat.le_refl _)]
    exact run_p4 Z i i 5 (Nat.le_refl _) (by decide) (fun c hc => by simp [step, notDig_exp c hc, hc]) (fun h => by omega)
  | succ c ih =>
    intro i h hi
    cases hd : isDig (Z i) with
    | true =>
      rw [run_on Z n i 5 5 (by omega) (by simp [step, hd]) (by omega), dEnd_step Z n i (by omega) hd]
      exact ih (i + 1) (by omega) (by omega)
    | false =>
      rw [dEnd_stop Z n i hd]
      exact run_p4 Z n i 5 hi (by decide) (fun c hc => by simp [step, notDig_exp c hc, hc]) (fun _ hx => by simp [step, hd, hx])

theorem run4 (Z : Nat → Int) (n i : Nat) (hi : i ≤ n) : run Z n i 4 = if dEnd Z n i = i then false else p4 Z n (dEnd Z n i) := by
  by_cases h : i < n
  · cases hd : isDig (Z i) with
    | true =>
      rw [run_on Z n i 4 5 h (by simp [step, hd]) (by omega), run5 Z n _ (i + 1) rfl (by omega), if_neg (dEnd_ne Z n i h hd), dEnd_step Z n i h hd]
    | false =>
      rw [run_no Z n i 4 h (by simp [step, hd]), dEnd_stop Z n i hd]
      simp
  · rw [run_end Z n i 4 (by omega), dEnd_over Z n i (by omega)]
    simp [acc]

/-- A state that reads no digit here: a fraction, an exponent, or the end. -/
theorem run_p3 (Z : Nat → Int) (n i : Nat) (st : Int) (hi : i ≤ n) (ha : acc st = true) (hd : ∀ c, (c == 46) = true → step st c = 4) (he : ∀ c, (c == 101 || c == 69) = true → step st c = 6)
    (hn : i < n → (Z i == 46) = false → (Z i == 101 || Z i == 69) = false → step st (Z i) < 0) : run Z n i st = p3 Z n i := by
  unfold p3
  by_cases h : i < n
  · cases hs : (Z i == 46) with
    | true =>
      rw [run_on Z n i st 4 h (hd _ hs) (by omega), run4 Z n (i + 1) (by omega)]
      simp [h]
    | false =>
      simp only [h, decide_true, Bool.and_false, Bool.false_eq_true, if_false]
      exact run_p4 Z n i st hi ha he (fun h hx => hn h hs hx)
  · simp only [h, decide_false, Bool.false_and, Bool.false_eq_true, if_false]
    exact run_p4 Z n i st hi ha he (fun h' => absurd h' h)

theorem run2 (Z : Nat → Int) (n i : Nat) (hi : i ≤ n) : run Z n i 2 = p3 Z n i :=
  run_p3 Z n i 2 hi (by decide) (fun c hc => by simp [step, hc]) (fun c hc => by simp [step, notDot_exp c hc, hc]) (fun _ h1 h2 => by simp [step, h1, h2])

theorem run3 (Z : Nat → Int) (n : Nat) : ∀ (c i : Nat), n - i = c → i ≤ n → run Z n i 3 = p3 Z n (dEnd Z n i) := by
  intro c
  induction c with
  | zero =>
    intro i h hi
    have e : i = n := by omega
    subst e
    rw [dEnd_over Z i i (Nat.le_refl _)]
    exact run_p3 Z i i 3 (Nat.le_refl _) (by decide) (fun c hc => by simp [step, notDig_dot c hc, hc]) (fun c hc => by simp [step, notDig_exp c hc, notDot_exp c hc, hc]) (fun h => by omega)
  | succ c ih =>
    intro i h hi
    cases hd : isDig (Z i) with
    | true =>
      rw [run_on Z n i 3 3 (by omega) (by simp [step, hd]) (by omega), dEnd_step Z n i (by omega) hd]
      exact ih (i + 1) (by omega) (by omega)
    | false =>
      rw [dEnd_stop Z n i hd]
      exact run_p3 Z n i 3 hi (by decide) (fun c hc => by simp [step, notDig_dot c hc, hc]) (fun c hc => by simp [step, notDig_exp c hc, notDot_exp c hc, hc]) (fun _ h1 h2 => by simp [step, hd, h1, h2])

/-- The integer part, from a state that reads it. -/
theorem run_p2 (Z : Nat → Int) (n i : Nat) (st : Int) (hi : i ≤ n) (ha : acc st = false) (hz : ∀ c, (c == 48) = true → step st c = 2)
    (hd : i < n → (Z i == 48) = false → isDig (Z i) = true → step st (Z i) = 3) (hn : i < n → (Z i == 48) = false → isDig (Z i) = false → step st (Z i) < 0) : run Z n i st = p2 Z n i := by
  unfold p2
  by_cases h : i < n
  · cases hs : (Z i == 48) with
    | true =>
      rw [run_on Z n i st 2 h (hz _ hs) (by omega), run2 Z n (i + 1) (by omega)]
      simp [h]
    | false =>
      simp only [h, decide_true, Bool.and_false, Bool.false_eq_true, if_false]
      cases hg : isDig (Z i) with
      | true =>
        rw [run_on Z n i st 3 h (hd h hs hg) (by omega), run3 Z n _ (i + 1) rfl (by omega), if_neg (dEnd_ne Z n i h hg), dEnd_step Z n i h hg]
      | false =>
        rw [run_no Z n i st h (hn h hs hg), dEnd_stop Z n i hg]
        simp
  · simp only [h, decide_false, Bool.false_and, Bool.false_eq_true, if_false]
    rw [run_end Z n i st (by omega), ha, dEnd_over Z n i (by omega)]
    simp

theorem run1 (Z : Nat → Int) (n i : Nat) (hi : i ≤ n) : run Z n i 1 = p2 Z n i :=
  run_p2 Z n i 1 hi (by decide) (fun c hc => by simp [step, hc]) (fun _ h1 h2 => by simp [step, h1, h2]) (fun _ h1 h2 => by simp [step, h1, h2])

theorem run0 (Z : Nat → Int) (n i : Nat) (hi : i ≤ n) : run Z n i 0 = p1 Z n i := by
  unfold p1
  by_cases h : i < n
  · cases hs : (Z i == 45) with
    | true =>
      rw [run_on Z n i 0 1 h (by simp [step, hs]) (by omega), run1 Z n (i + 1) (by omega)]
      simp [h]
    | false =>
      simp only [h, decide_true, Bool.and_false, Bool.false_eq_true, if_false]
      have hz : ∀ c, (c == 48) = true → step 0 c = 2 := fun c hc => by
        have : (c == 45) = false := by simp at hc; subst hc; decide
        simp [step, this, hc]
      exact run_p2 Z n i 0 hi (by decide) hz (fun _ h1 h2 => by simp [step, hs, h1, h2]) (fun _ h1 h2 => by simp [step, hs, h1, h2])
  · simp only [h, decide_false, Bool.false_and, Bool.false_eq_true, if_false]
    have hz : ∀ c, (c == 48) = true → step 0 c = 2 := fun c hc => by
      have : (c == 45) = false := by simp at hc; subst hc; decide
      simp [step, this, hc]
    exact run_p2 Z n i 0 hi (by decide) hz (fun h' => absurd h' h) (fun h' => absurd h' h)
end Go.Proofs.Qxb6001059a
