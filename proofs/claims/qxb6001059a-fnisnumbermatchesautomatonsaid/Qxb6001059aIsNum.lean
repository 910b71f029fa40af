import Derived.Test.Qxb6001059aDigits
import Derived.Deep.DeepCutAuto
/-! isNumber: its contract. -/
namespace Go.Proofs.Qxb6001059a
open Go.RowKit
set_option linter.unusedSimpArgs false

theorem numSt_start (w : World) (b off n cap : Nat) (Z : Nat → Int) (hb : b < w.heap.size) (h : Bytes w b off n Z) (i : Nat) (hi : i = 0) :
    NumSt ((w.alloc (.cells #[.slice (some ⟨b, off, none⟩) n cap] 22)).alloc (.cells #[.int .i64 0] 3)) w.heap.size b off n cap Z i where
  sl := by simp [go_sem]
  ix := by subst hi; simp [go_sem]
  fz := by simp [go_sem]
  bs := fun j hj => by
    have hB : Below w.heap.size w ((w.alloc (.cells #[.slice (some ⟨b, off, none⟩) n cap] 22)).alloc (.cells #[.int .i64 0] 3)) := ((Below.refl _ _).alloc (Nat.le_refl _) _).alloc (by simp) _
    exact (hB.cell hb).trans (h j hj)
  sz := by simp
  bN := hb

/-- 'i < n && s[i] == c' -/
def tst1 (Z : Nat → Int) (n i : Nat) (c : Int) : Bool := decide (i < n) && (Z i == c)
/-- 'i < n && (s[i] == c || s[i] == d)' -/
def tst2 (Z : Nat → Int) (n i : Nat) (c d : Int) : Bool := decide (i < n) && (Z i == c || Z i == d)
theorem tst1_yes {Z : Nat → Int} {n i : Nat} {c : Int} (h : i < n) (hq : (Z i == c) = true) : tst1 Z n i c = true := by unfold tst1; rw [hq]; simp [h]
theorem tst1_no {Z : Nat → Int} {n i : Nat} {c : Int} (hq : (Z i == c) = false) : tst1 Z n i c = false := by unfold tst1; rw [hq]; simp
theorem tst1_over {Z : Nat → Int} {n i : Nat} {c : Int} (h : ¬ i < n) : tst1 Z n i c = false := by unfold tst1; simp [h]
theorem tst1_lt {Z : Nat → Int} {n i : Nat} {c : Int} (h : tst1 Z n i c = true) : i < n := by unfold tst1 at h; simp at h; exact h.1
theorem tst2_yes1 {Z : Nat → Int} {n i : Nat} {c d : Int} (h : i < n) (hq : (Z i == c) = true) : tst2 Z n i c d = true := by unfold tst2; rw [hq]; simp [h]
theorem tst2_yes2 {Z : Nat → Int} {n i : Nat} {c d : Int} (h : i < n) (hq : (Z i == d) = true) : tst2 Z n i c d = true := by unfold tst2; rw [hq]; simp [h]
theorem tst2_no {Z : Nat → Int} {n i : Nat} {c d : Int} (hq : (Z i == c) = false) (hr : (Z i == d) = false) : tst2 Z n i c d = false := by unfold tst2; rw [hq, hr]; simp
theorem tst2_over {Z : Nat → Int} {n i : Nat} {c d : Int} (h : ¬ i < n) : tst2 Z n i c d = false := by unfold tst2; simp [h]
theorem tst2_lt {Z : Nat → Int} {n i : Nat} {c d : Int} (h : tst2 Z n i c d = true) : i < n := by unfold tst2 at h; simp at h; exact h.1

theorem p1_eq (Z : Nat → Int) (n i : Nat) : p1 Z n i = if tst1 Z n i 45 then p2 Z n (i + 1) else p2 Z n i := rfl
theorem p2_eq (Z : Nat → Int) (n i : Nat) : p2 Z n i = if tst1 Z n i 48 then p3 Z n (i + 1) else (if dEnd Z n i = i then false else p3 Z n (dEnd Z n i)) := rfl
theorem p3_eq (Z : Nat → Int) (n i : Nat) : p3 Z n i = if tst1 Z n i 46 then (if dEnd Z n (i + 1) = i + 1 then false else p4 Z n (dEnd Z n (i + 1))) else p4 Z n i := rfl
theorem p4_eq (Z : Nat → Int) (n i : Nat) : p4 Z n i = if tst2 Z n i 101 69 then e6 Z n (i + 1) else decide (i = n) := rfl
theorem e6_eq (Z : Nat → Int) (n i : Nat) : e6 Z n i = if tst2 Z n i 43 45 then e4 Z n (i + 1) else e4 Z n i := rfl
theorem e4_eq (Z : Nat → Int) (n i : Nat) : e4 Z n i = if dEnd Z n i = i then false else decide (dEnd Z n i = n) := by
  unfold e4
  by_cases h : dEnd Z n i = i <;> simp [h]

theorem none_read (a b : Nat) (h : a = b) : (((a : Int) - (b : Int)) == 0) = true := by simp; omega
theorem some_read (a b : Nat) (h : ¬ a = b) : (((a : Int) - (b : Int)) == 0) = false := by simp; omega
theorem at_end (a b : Nat) : ((a : Int) == (b : Int)) = decide (a = b) := by
  by_cases h : a = b
  · simp [h]
  · have : ¬ (a : Int) = (b : Int) := by omega
    simp [h, this]

set_option maxRecDepth 100000 in
set_option maxHeartbeats 4000000 in
theorem isNum_some (b off n cap : Nat) (Z : Nat → Int) (w : World) (hn : n ≤ 65536) (hb : b < w.heap.size) (h : Bytes w b off n Z) :
    Calls Try.prog 15 #[.slice (some ⟨b, off, none⟩) n cap] w fun e w' => e = .returned (.bool (p1 Z n 0)) ∧ Below w.heap.size w w' := by
  obtain ⟨i, hi⟩ : ∃ i : Nat, i = 0 := ⟨0, rfl⟩
  have HP0 : Hid (p1 Z n 0 = p1 Z n i) := by rw [hi]; rfl
  have hi0 : i ≤ n := by omega
  have HS0 := hide (numSt_start w b off n cap Z hb h i hi)
  have HB0 : Hid (Below w.heap.size w ((w.alloc (.cells #[.slice (some ⟨b, off, none⟩) n cap] 22)).alloc (.cells #[.int .i64 0] 3))) := ((Below.refl _ _).alloc (Nat.le_refl _) _).alloc (by simp) _
  clear h hi
  go_enter Try.func15, Try.ntmps15
  go_upto_region 3 with fail
  generalize (w.alloc (.cells #[.slice (some ⟨b, off, none⟩) n cap] 22)).alloc (.cells #[.int .i64 0] 3) = w0 at HS0 HB0 ⊢
  go_upto_region 3 with fail
  have c0 := HS0.out.sl
  have c1 := HS0.out.ix
  have c2 := HS0.out.fz
  go_cut [16] (fun s wx => s = .bool (tst1 Z n i 45) ∧ wx = w0)
  case first =>
    by_cases hlt : i < n
    · have c3 := HS0.out.bs _ hlt
      cases hq : (Z i == 45) with
      | true =>
        go_wp2
        go_meet
        exact ⟨by rw [tst1_yes hlt hq], rfl⟩
      | false =>
        go_wp2
        go_meet
        exact ⟨by rw [tst1_no hq], rfl⟩
    · go_wp2
      go_meet
      exact ⟨by rw [tst1_over hlt], rfl⟩
  case rest =>
  obtain ⟨rfl, rfl⟩ := hcut
  clear c0 c1 c2
  go_upto_if 16 with fail
  go_cut [] (fun wx => ∃ j : Nat, j ≤ n ∧ Hid (NumSt wx w.heap.size b off n cap Z j) ∧ Hid (Below w.heap.size w wx) ∧ Hid (p1 Z n 0 = p2 Z n j))
  case first =>
    cases ht : tst1 Z n i 45 with
    | true =>
      have hlt := tst1_lt ht
      have HQ := hide (p1_eq Z n i)
      have c0 := HS0.out.sl
      have c1 := HS0.out.ix
      have c2 := HS0.out.fz
      go_wp2
      go_meet
      exact ⟨i + 1, hlt, numSt_set HS0.out _ _ (by omega), HB0.out.setCell (Nat.le_succ _) _, by rw [HP0.out, HQ.out, ht]; rfl⟩
    | false =>
      have HQ := hide (p1_eq Z n i)
      go_wp2
      go_meet
      exact ⟨i, hi0, HS0.out, HB0.out, by rw [HP0.out, HQ.out, ht]; rfl⟩
  case rest =>
  obtain ⟨i1, hi1, HS1, HB1, HP1⟩ := hcut
  clear HS0 HB0 HP0 hi0
  go_upto_region 5 with fail
  have c0 := HS1.out.sl
  have c1 := HS1.out.ix
  have c2 := HS1.out.fz
  go_cut [29] (fun s wx => s = .bool (tst1 Z n i1 48) ∧ wx = wc)
  case first =>
    by_cases hlt : i1 < n
    · have c3 := HS1.out.bs _ hlt
      cases hq : (Z i1 == 48) with
      | true =>
        go_wp2
        go_meet
        exact ⟨by rw [tst1_yes hlt hq], rfl⟩
      | false =>
        go_wp2
        go_meet
        exact ⟨by rw [tst1_no hq], rfl⟩
    · go_wp2
      go_meet
      exact ⟨by rw [tst1_over hlt], rfl⟩
  case rest =>
  obtain ⟨rfl, rfl⟩ := hcut
  clear c0 c1 c2
  go_upto_if 29 with fail
  go_cut [] (fun wx => ∃ j : Nat, j ≤ n ∧ Hid (NumSt wx w.heap.size b off n cap Z j) ∧ Hid (Below w.heap.size w wx) ∧ Hid (p1 Z n 0 = p3 Z n j))
  case first =>
    have HQ := hide (p2_eq Z n i1)
    cases ht : tst1 Z n i1 48 with
    | true =>
      have hlt := tst1_lt ht
      have c0 := HS1.out.sl
      have c1 := HS1.out.ix
      have c2 := HS1.out.fz
      go_wp2
      go_meet
      exact ⟨i1 + 1, hlt, numSt_set HS1.out _ _ (by omega), HB1.out.setCell (Nat.le_succ _) _, by rw [HP1.out, HQ.out, ht]; rfl⟩
    | false =>
      go_wp2_with fail
      refine (digits_some w.heap.size b off n cap Z i1 _ hn hi1 HS1.out).mono ?_
      rintro e w2 ⟨rfl, hs2, hb2⟩
      have HS2 := hide hs2
      have HB2 : Hid (Below w.heap.size w w2) := HB1.out.trans (hb2.mono (Nat.le_succ _))
      have hle := dEnd_le Z n _ i1 rfl hi1
      clear hs2 hb2
      by_cases hz : dEnd Z n i1 = i1
      · have hzz := none_read _ _ hz
        have HF : Hid (p1 Z n 0 = false) := by show p1 Z n 0 = false; rw [HP1.out, HQ.out, ht, if_neg (by simp), if_pos hz]
        clear hz
        go_wp2_with fail
        go_ret
        exact ⟨ret_bool HF.out.symm, HB2.out⟩
      · have hzz := some_read _ _ hz
        have HF : Hid (p1 Z n 0 = p3 Z n (dEnd Z n i1)) := by show p1 Z n 0 = _; rw [HP1.out, HQ.out, ht, if_neg (by simp), if_neg hz]
        clear hz
        go_wp2_with fail
        go_meet
        exact ⟨dEnd Z n i1, hle, HS2.out, HB2.out, HF⟩
  case rest =>
  obtain ⟨i2, hi2, HS2, HB2, HP2⟩ := hcut
  clear HS1 HB1 HP1 hi1
  go_upto_region 9 with fail
  have c0 := HS2.out.sl
  have c1 := HS2.out.ix
  have c2 := HS2.out.fz
  go_cut [45] (fun s wx => s = .bool (tst1 Z n i2 46) ∧ wx = wc)
  case first =>
    by_cases hlt : i2 < n
    · have c3 := HS2.out.bs _ hlt
      cases hq : (Z i2 == 46) with
      | true =>
        go_wp2
        go_meet
        exact ⟨by rw [tst1_yes hlt hq], rfl⟩
      | false =>
        go_wp2
        go_meet
        exact ⟨by rw [tst1_no hq], rfl⟩
    · go_wp2
      go_meet
      exact ⟨by rw [tst1_over hlt], rfl⟩
  case rest =>
  obtain ⟨rfl, rfl⟩ := hcut
  clear c0 c1 c2
  go_upto_if 45 with fail
  go_cut [] (fun wx => ∃ j : Nat, j ≤ n ∧ Hid (NumSt wx w.heap.size b off n cap Z j) ∧ Hid (Below w.heap.size w wx) ∧ Hid (p1 Z n 0 = p4 Z n j))
  case first =>
    have HQ := hide (p3_eq Z n i2)
    cases ht : tst1 Z n i2 46 with
    | true =>
      have hlt := tst1_lt ht
      have c0 := HS2.out.sl
      have c1 := HS2.out.ix
      have c2 := HS2.out.fz
      go_wp2_with fail
      refine (digits_some w.heap.size b off n cap Z (i2 + 1) _ hn hlt (numSt_set HS2.out (i2 + 1) ((i2 : Int) + 1) (by omega))).mono ?_
      rintro e w3 ⟨rfl, hs3, hb3⟩
      have HS3 := hide hs3
      have HB3 : Hid (Below w.heap.size w w3) := (HB2.out.setCell (Nat.le_succ _) _).trans (hb3.mono (Nat.le_succ _))
      have hle := dEnd_le Z n _ (i2 + 1) rfl hlt
      clear hs3 hb3
      by_cases hz : dEnd Z n (i2 + 1) = i2 + 1
      · have hzz := none_read _ _ hz
        have HF : Hid (p1 Z n 0 = false) := by show p1 Z n 0 = false; rw [HP2.out, HQ.out, ht, if_pos rfl, if_pos hz]
        clear hz
        go_wp2_with fail
        go_ret
        exact ⟨ret_bool HF.out.symm, HB3.out⟩
      · have hzz := some_read _ _ hz
        have HF : Hid (p1 Z n 0 = p4 Z n (dEnd Z n (i2 + 1))) := by show p1 Z n 0 = _; rw [HP2.out, HQ.out, ht, if_pos rfl, if_neg hz]
        clear hz
        go_wp2_with fail
        go_meet
        exact ⟨dEnd Z n (i2 + 1), hle, HS3.out, HB3.out, HF⟩
    | false =>
      go_wp2
      go_meet
      exact ⟨i2, hi2, HS2.out, HB2.out, by rw [HP2.out, HQ.out, ht]; rfl⟩
  case rest =>
  obtain ⟨i3, hi3, HS3, HB3, HP3⟩ := hcut
  clear HS2 HB2 HP2 hi2
  go_upto_region 13 with fail
  have c0 := HS3.out.sl
  have c1 := HS3.out.ix
  have c2 := HS3.out.fz
  go_cut [68] (fun s wx => s = .bool (tst2 Z n i3 101 69) ∧ wx = wc)
  case first =>
    by_cases hlt : i3 < n
    · have c3 := HS3.out.bs _ hlt
      cases hq : (Z i3 == 101) with
      | true =>
        go_wp2
        go_meet
        exact ⟨by rw [tst2_yes1 hlt hq], rfl⟩
      | false =>
        cases hr : (Z i3 == 69) with
        | true =>
          go_wp2
          go_meet
          exact ⟨by rw [tst2_yes2 hlt hr], rfl⟩
        | false =>
          go_wp2
          go_meet
          exact ⟨by rw [tst2_no hq hr], rfl⟩
    · go_wp2
      go_meet
      exact ⟨by rw [tst2_over hlt], rfl⟩
  case rest =>
  obtain ⟨rfl, rfl⟩ := hcut
  clear c0 c1 c2
  have HQ := hide (p4_eq Z n i3)
  cases ht : tst2 Z n i3 101 69 with
  | false =>
    have HF : Hid (p1 Z n 0 = decide (i3 = n)) := by show p1 Z n 0 = _; rw [HP3.out, HQ.out, ht, if_neg (by simp)]
    have c0 := HS3.out.sl
    have c1 := HS3.out.ix
    go_wp2
    go_ret
    exact ⟨ret_bool (by rw [HF.out, ← at_end]), HB3.out⟩
  | true =>
  have hlt3 := tst2_lt ht
  have HP4 : Hid (p1 Z n 0 = e6 Z n (i3 + 1)) := by show p1 Z n 0 = _; rw [HP3.out, HQ.out, ht, if_pos rfl]
  have c0 := HS3.out.sl
  have c1 := HS3.out.ix
  have c2 := HS3.out.fz
  clear ht HQ
  go_upto_region 15 with fail
  have HS4 := hide (numSt_set HS3.out (i3 + 1) ((i3 : Int) + 1) (by omega))
  have HB4 : Hid (Below w.heap.size w (wc.setCell ⟨w.heap.size + 1, 0, none⟩ (.int .i64 ((i3 : Int) + 1)))) := HB3.out.setCell (Nat.le_succ _) _
  generalize wc.setCell ⟨w.heap.size + 1, 0, none⟩ (.int .i64 ((i3 : Int) + 1)) = w4 at HS4 HB4 ⊢
  clear c0 c1 c2 HS3 HB3 HP3 hi3
  obtain ⟨i4, hi4⟩ : ∃ i4 : Nat, i4 = i3 + 1 := ⟨_, rfl⟩
  rw [← hi4] at HS4 HP4
  have hle4 : i4 ≤ n := by omega
  clear hi4 hlt3
  go_upto_region 15 with fail
  have c0 := HS4.out.sl
  have c1 := HS4.out.ix
  have c2 := HS4.out.fz
  go_cut [88] (fun s wx => s = .bool (tst2 Z n i4 43 45) ∧ wx = w4)
  case first =>
    by_cases hlt : i4 < n
    · have c3 := HS4.out.bs _ hlt
      cases hq : (Z i4 == 43) with
      | true =>
        go_wp2
        go_meet
        exact ⟨by rw [tst2_yes1 hlt hq], rfl⟩
      | false =>
        cases hr : (Z i4 == 45) with
        | true =>
          go_wp2
          go_meet
          exact ⟨by rw [tst2_yes2 hlt hr], rfl⟩
        | false =>
          go_wp2
          go_meet
          exact ⟨by rw [tst2_no hq hr], rfl⟩
    · go_wp2
      go_meet
      exact ⟨by rw [tst2_over hlt], rfl⟩
  case rest =>
  obtain ⟨rfl, rfl⟩ := hcut
  clear c0 c1 c2
  go_upto_if 88 with fail
  go_cut [] (fun wx => ∃ j : Nat, j ≤ n ∧ Hid (NumSt wx w.heap.size b off n cap Z j) ∧ Hid (Below w.heap.size w wx) ∧ Hid (p1 Z n 0 = e4 Z n j))
  case first =>
    have HQ := hide (e6_eq Z n i4)
    cases ht : tst2 Z n i4 43 45 with
    | true =>
      have hlt := tst2_lt ht
      have c0 := HS4.out.sl
      have c1 := HS4.out.ix
      have c2 := HS4.out.fz
      go_wp2
      go_meet
      exact ⟨i4 + 1, hlt, numSt_set HS4.out _ _ (by omega), HB4.out.setCell (Nat.le_succ _) _, by rw [HP4.out, HQ.out, ht]; rfl⟩
    | false =>
      go_wp2
      go_meet
      exact ⟨i4, hle4, HS4.out, HB4.out, by rw [HP4.out, HQ.out, ht]; rfl⟩
  case rest =>
  obtain ⟨i5, hi5, HS5, HB5, HP5⟩ := hcut
  clear HS4 HB4 HP4 hle4
  have HQ := hide (e4_eq Z n i5)
  go_wp2_with fail
  refine (digits_some w.heap.size b off n cap Z i5 _ hn hi5 HS5.out).mono ?_
  rintro e w6 ⟨rfl, hs6, hb6⟩
  have HS6 := hide hs6
  have HB6 : Hid (Below w.heap.size w w6) := HB5.out.trans (hb6.mono (Nat.le_succ _))
  have hle := dEnd_le Z n _ i5 rfl hi5
  clear hs6 hb6
  by_cases hz : dEnd Z n i5 = i5
  · have hzz := none_read _ _ hz
    have HF : Hid (p1 Z n 0 = false) := by show p1 Z n 0 = false; rw [HP5.out, HQ.out, if_pos hz]
    clear hz
    go_wp2_with fail
    go_ret
    exact ⟨ret_bool HF.out.symm, HB6.out⟩
  · have hzz := some_read _ _ hz
    have HF : Hid (p1 Z n 0 = decide (dEnd Z n i5 = n)) := by show p1 Z n 0 = _; rw [HP5.out, HQ.out, if_neg hz]
    have c0 := HS6.out.sl
    have c1 := HS6.out.ix
    clear hz
    go_wp2_with fail
    go_ret
    exact ⟨ret_bool (by rw [HF.out, ← at_end]), HB6.out⟩
end Go.Proofs.Qxb6001059a
