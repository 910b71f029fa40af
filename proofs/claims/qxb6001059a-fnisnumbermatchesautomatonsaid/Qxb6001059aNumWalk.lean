import Derived.Test.Qxb6001059aIsNum
import Derived.Test.Qxb6001059aCopy
/-! isNumber at the empty slice, ZZisNumber, and the law's walk. -/
namespace Go.Proofs.Qxb6001059a
open Go.RowKit
set_option linter.unusedSimpArgs false

set_option maxHeartbeats 1000000 in
theorem isNum_none (a : Option Addr) (cap : Nat) (Z : Nat → Int) (w : World) :
    Calls Try.prog 15 #[.slice a 0 cap] w fun e w' => e = .returned (.bool (p1 Z 0 0)) ∧ Below w.heap.size w w' := by
  have HP : Hid (p1 Z 0 0 = false) := by
    show p1 Z 0 0 = false
    have h : dEnd Z 0 0 = 0 := rfl
    simp [p1, p2, h]
  go_enter Try.func15, Try.ntmps15
  go_wp2_with fail
  refine (digits_none w.heap.size cap a _ (by simp [go_sem]) (by simp [go_sem])).mono ?_
  rintro e w' ⟨rfl, rfl⟩
  go_wp2_with fail
  go_ret
  exact ⟨ret_bool HP.out.symm, ((Below.refl _ _).alloc (Nat.le_refl _) _).alloc (by simp) _⟩

theorem isNum_c (a : Option Addr) (n cap : Nat) (Z : Nat → Int) (w : World) (hn : n ≤ 65536) (h : IsBytes w a n Z) :
    Calls Try.prog 15 #[.slice a n cap] w fun e w' => e = .returned (.bool (p1 Z n 0)) ∧ Below w.heap.size w w' := by
  rcases h with rfl | ⟨b, off, rfl, hb, h⟩
  · exact isNum_none a cap Z w
  · exact isNum_some b off n cap Z w hn hb h

theorem zzNum_c (a : Option Addr) (n cap : Nat) (Z : Nat → Int) (w : World) (hn : n ≤ 65536) (h : IsBytes w a n Z) :
    Calls Try.prog 9 #[.slice a n cap] w fun e w' => e = .returned (.bool (p1 Z n 0)) ∧ Below w.heap.size w w' := by
  have HC := hide (isNum_c a n cap Z w hn h)
  clear h
  go_enter Try.func9, Try.ntmps9
  go_wp2_with (go_at_call 15; refine HC.out.mono ?_; rintro e w' ⟨rfl, hb⟩)
  go_ret
  exact ⟨rfl, hb⟩

set_option maxHeartbeats 1000000 in
theorem num_walk (a : Option Addr) (n cap : Nat) (Z : Nat → Int) (w : World) (hn : n ≤ maxLen) (h : IsBytes w a n Z) :
    Calls Try.prog 3 #[.slice a n cap] w fun e w' => e = .returned (.bool true) ∧ Below w.heap.size w w' := by
  have HZ := hide (fun w => zz7_c a n cap w hn)
  have H := hide h
  clear hn h
  by_cases hl : n ≤ 65536
  · go_enter Try.func3, Try.ntmps3
    go_wp2_with fail
    refine (HZ.out _).mono ?_
    rintro e w' ⟨⟨r, rfl⟩, hw'⟩
    subst hw'
    cases r with
    | false =>
      go_wp2_with fail
      go_ret
      exact ⟨rfl, Below.refl _ _⟩
    | true =>
      clear HZ
      go_wp2_with fail
      refine (copy_c a n cap Z _ hl H.out).mono ?_
      rintro e w1 ⟨⟨a1, c1, rfl, h1⟩, hB1⟩
      have H1 := hide h1
      have HB1 := hide hB1
      clear h1 hB1
      go_wp2_with fail
      refine (zzNum_c a1 n c1 Z _ hl H1.out).mono ?_
      rintro e w2 ⟨rfl, hB2⟩
      have HB2 := hide hB2
      have H2 := hide (isBytes_below hB2 H1.out)
      clear hB2
      go_wp2_with fail
      refine (auto_c a1 n c1 Z _ hl H2.out).mono ?_
      rintro e w3 ⟨rfl, hw3⟩
      subst hw3
      have heq : (p1 Z n 0 == run Z n 0 0) = true := by rw [run0 Z n 0 (Nat.zero_le _)]; simp
      go_wp2_with fail
      go_ret
      exact ⟨rfl, HB1.out.trans (HB2.out.mono HB1.out.size)⟩
  · go_enter Try.func3, Try.ntmps3
    go_wp2_with fail
    refine (HZ.out _).mono ?_
    rintro e w' ⟨⟨r, rfl⟩, hw'⟩
    subst hw'
    cases r
    all_goals
      go_wp2_with fail
      go_ret
      exact ⟨rfl, Below.refl _ _⟩
end Go.Proofs.Qxb6001059a
