import Derived.Test.Qxb6601246aLater
import Derived.Deep.QuietTactic
import Derived.BigQuiet
/-! lessBytes, endNoLater, within: their contracts. -/
namespace Go.Proofs.Qxb6601246a
open Go.RowKit

theorem ret_bool {a b : Bool} (h : a = b) : Ending.returned (.bool a) = .returned (.bool b) := by rw [h]

theorem drew3 (w : World) (a b c : Nat) : ∃ n, ((w.drewN a).drewN b).drewN c = w.drewN n := ⟨a + b + c, by simp only [World.drewN_drewN]⟩

/-- What is left to compare from place k on. -/
def lessFrom (x y : ByteArray) (k : Nat) : Bool := Op.bytesLess (x.data.toList.drop k) (y.data.toList.drop k)

theorem lessFrom_zero (x y : ByteArray) : lessFrom x y 0 = Op.bytesLess x.toList y.toList := by
  simp [lessFrom, Lib.toList_data]

theorem lessFrom_eq (x y : ByteArray) (k : Nat) (hx : k < x.size) (hy : k < y.size) (h : (x[k].toNat : Int) = y[k].toNat) : lessFrom x y k = lessFrom x y (k + 1) := by
  have hx' : k < x.data.toList.length := by simpa using hx
  have hy' : k < y.data.toList.length := by simpa using hy
  unfold lessFrom
  rw [List.drop_eq_getElem_cons hx', List.drop_eq_getElem_cons hy']
  have e : x.data.toList[k] = y.data.toList[k] := by
    have h1 : x[k].toNat = y[k].toNat := by omega
    have h2 := UInt8.toNat_inj.mp h1
    simp; exact h2
  simp only [Op.bytesLess]
  rw [e]
  simp

theorem lessFrom_ne (x y : ByteArray) (k : Nat) (hx : k < x.size) (hy : k < y.size) (h : ¬ (x[k].toNat : Int) = y[k].toNat) : lessFrom x y k = decide ((x[k].toNat : Int) < y[k].toNat) := by
  have hx' : k < x.data.toList.length := by simpa using hx
  have hy' : k < y.data.toList.length := by simpa using hy
  unfold lessFrom
  rw [List.drop_eq_getElem_cons hx', List.drop_eq_getElem_cons hy']
  have ex : x.data.toList[k] = x[k] := by simp; rfl
  have ey : y.data.toList[k] = y[k] := by simp; rfl
  simp only [Op.bytesLess]
  rw [ex, ey]
  have hne : x[k] ≠ y[k] := fun e => h (by rw [e])
  simp [hne, UInt8.lt_iff_toNat_lt]

theorem lessFrom_end (x y : ByteArray) (k : Nat) (hk : k ≤ x.size ∧ k ≤ y.size) (h : x.size ≤ k ∨ y.size ≤ k) : lessFrom x y k = decide (x.size < y.size) := by
  unfold lessFrom
  by_cases hx : x.size ≤ k
  · rw [List.drop_eq_nil_of_le (by simpa using hx)]
    by_cases hy : y.size ≤ k
    · rw [List.drop_eq_nil_of_le (by simpa using hy)]
      have : ¬ x.size < y.size := by omega
      simp [Op.bytesLess, this]
    · rw [bl_nil_left _ (by
        intro e
        have := List.drop_eq_nil_iff.mp e
        simp at this
        omega)]
      have : x.size < y.size := by omega
      simp [this]
  · have hy : y.size ≤ k := by omega
    have e : y.data.toList.drop k = [] := List.drop_eq_nil_of_le (by simpa using hy)
    rw [e, bl_nil]
    have : ¬ x.size < y.size := by omega
    simp [this]

set_option maxHeartbeats 400000 in
theorem lessBytes_c (x y : ByteArray) (w : World) (hx : x.size ≤ maxLen) (hy : y.size ≤ maxLen) :
    Calls Try.prog 18 #[.string x, .string y] w fun e w' => e = .returned (.bool (Op.bytesLess x.toList y.toList)) ∧ ∃ n, w' = w.drewN n := by
  unfold maxLen at hx hy
  have H0 : Hid (lessFrom x y 0 = Op.bytesLess x.toList y.toList) := lessFrom_zero x y
  by_cases hyx : y.size < x.size
  all_goals
    go_enter Try.func18, Try.ntmps18
    go_wp2
    go_loopw [6] (fun i wr => ∃ k q : Nat, k ≤ x.size ∧ k ≤ y.size ∧ i = .int .i64 k ∧ wr = w.drewN q ∧ Hid (lessFrom x y k = Op.bytesLess x.toList y.toList)) (fun i _ => x.size - (intOf i).toNat)
    case atStart => exact ⟨0, 0, Nat.zero_le _, Nat.zero_le _, rfl, rfl, H0⟩
    case round =>
      obtain ⟨k, q, hkx, hky, rfl, rfl, H⟩ := hrel
      by_cases hlt : k < x.size ∧ k < y.size
      · obtain ⟨h1, h2⟩ := hlt
        have h1' : (k : Int) < (x.size : Int) := by omega
        have h2' : (k : Int) < (y.size : Int) := by omega
        have HN := fun h => lessFrom_ne x y k h1 h2 h
        have HE := fun h => lessFrom_eq x y k h1 h2 h
        have HN' : Hid _ := HN
        have HE' : Hid _ := HE
        clear HN HE
        cases hb : ((x[k].toNat : Int) != y[k].toNat) with
        | true =>
          go_wp2
          go_quiet (fail)
          go_wp2
          go_quiet (fail)
          go_wp2
          go_ret
          exact ⟨ret_bool (by rw [← H.out, HN'.out (by simpa using hb)]; simp), drew3 _ _ _ _⟩
        | false =>
          go_wp2
          go_quiet (fail)
          go_wp2
          go_roundw
          case rel => exact ⟨k + 1, _, h1, h2, by go_num, rfl, by rw [← HE'.out (by simpa using hb)]; exact H⟩
          case measure => simp [intOf]; omega
      · have HF : Hid _ := lessFrom_end x y k ⟨hkx, hky⟩ (by omega)
        have hge : x.size ≤ k ∨ y.size ≤ k := by omega
        clear hlt
        go_wp2
        go_ret
        exact ⟨ret_bool (by rw [← H.out, HF.out]), _, rfl⟩

set_option maxHeartbeats 400000 in
theorem endNoLater_c (x y : ByteArray) (w : World) (hx : x.size ≤ maxLen) (hy : y.size ≤ maxLen) :
    Calls Try.prog 10 #[.string x, .string y] w fun e w' => e = .returned (.bool (noLaterL x.toList y.toList)) ∧ ∃ n, w' = w.drewN n := by
  have hc := fun w => lessBytes_c y x w hy hx
  have HC : Hid _ := hc
  clear hc
  have HE : Hid (noLaterL x.toList y.toList = (y.toList.isEmpty || (!x.toList.isEmpty && !Op.bytesLess y.toList x.toList))) := rfl
  cases ey : y.toList.isEmpty with
  | true =>
    go_enter Try.func10, Try.ntmps10
    go_wp2
    go_ret
    exact ⟨ret_bool (by rw [HE.out, ey]; rfl), 0, rfl⟩
  | false =>
    cases ex : x.toList.isEmpty with
    | true =>
      go_enter Try.func10, Try.ntmps10
      go_wp2
      go_ret
      exact ⟨ret_bool (by rw [HE.out, ey, ex]; rfl), 0, rfl⟩
    | false =>
      go_enter Try.func10, Try.ntmps10
      go_wp2_with (go_at_call 18; refine (HC.out _).mono ?_; rintro e w' ⟨rfl, n, rfl⟩)
      go_ret
      exact ⟨ret_bool (by rw [HE.out, ey, ex]; rfl), _, rfl⟩

set_option maxHeartbeats 400000 in
theorem within_c (x k : ByteArray) (w : World) (hx : x.size ≤ maxLen) (hk : k.size ≤ maxLen) :
    Calls Try.prog 17 #[.string x, .string k] w fun e w' => e = .returned (.bool (withinL x.toList k.toList)) ∧ ∃ n, w' = w.drewN n := by
  have hc := fun w => lessBytes_c k x w hk hx
  have HC : Hid _ := hc
  clear hc
  have HE : Hid (withinL x.toList k.toList = (x.toList.isEmpty || Op.bytesLess k.toList x.toList)) := rfl
  cases ex : x.toList.isEmpty with
  | true =>
    go_enter Try.func17, Try.ntmps17
    go_wp2
    go_ret
    exact ⟨ret_bool (by rw [HE.out, ex]; rfl), 0, rfl⟩
  | false =>
    go_enter Try.func17, Try.ntmps17
    go_wp2_with (go_at_call 18; refine (HC.out _).mono ?_; rintro e w' ⟨rfl, n, rfl⟩)
    go_ret
    exact ⟨ret_bool (by rw [HE.out, ex]; rfl), _, rfl⟩
end Go.Proofs.Qxb6601246a
