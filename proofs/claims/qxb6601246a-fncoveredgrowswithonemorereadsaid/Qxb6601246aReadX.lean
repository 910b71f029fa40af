import Derived.Test.Qxb6601246aSpecWalk
/-! readBytes, what it returns to the number; zzBytes_FnCoveredGrowsWithOneMoreRead: its contract. -/
namespace Go.Proofs.Qxb6601246a
open Go.RowKit

/-- What readBytes has still to add: c records from place i on, t gathered so far. -/
def rbFrom (K : Nat → ByteArray) : Nat → Nat → Int → Int
  | 0, _, t => t
  | c + 1, i, t => if 1048576 < ((K i).size : Int) then 1048577 else if 1048576 < t + (40 + ((K i).size : Int)) then t + (40 + ((K i).size : Int)) else rbFrom K c (i + 1) (t + (40 + ((K i).size : Int)))

theorem rbFrom_bound (K : Nat → ByteArray) : ∀ (c i : Nat) (t : Int), 0 ≤ t → t ≤ 1048576 → 0 ≤ rbFrom K c i t ∧ rbFrom K c i t ≤ 2097192
  | 0, _, t, h0, h1 => by simp only [rbFrom]; omega
  | c + 1, i, t, h0, h1 => by
    simp only [rbFrom]
    split
    · omega
    · split
      · omega
      · exact rbFrom_bound K c (i + 1) _ (by omega) (by omega)

theorem rbFrom_over (K : Nat → ByteArray) (c i : Nat) (t : Int) (h1 : ((K i).size : Int) ≤ 1048576) (h2 : 1048576 < t + (40 + ((K i).size : Int))) : rbFrom K (c + 1) i t = t + (40 + ((K i).size : Int)) := by
  simp only [rbFrom]
  rw [if_neg (by omega), if_pos h2]

theorem rbFrom_on (K : Nat → ByteArray) (c i : Nat) (t : Int) (h1 : ((K i).size : Int) ≤ 1048576) (h2 : t + (40 + ((K i).size : Int)) ≤ 1048576) : rbFrom K (c + 1) i t = rbFrom K c (i + 1) (t + (40 + ((K i).size : Int))) := by
  simp only [rbFrom]
  rw [if_neg (by omega), if_neg (by omega)]

set_option maxHeartbeats 400000 in
theorem readBytes_some_x (b off n cap : Nat) (K : Nat → ByteArray) (X Y : Nat → Int) (Z : Nat → Bool) (w : World) (hn : n ≤ 1048576) (h : Recs w b off n K X Y Z) (hK : ∀ i, i < n → (K i).size ≤ 1048576) :
    Calls Try.prog 13 #[.slice (some ⟨b, off, none⟩) n cap] w fun e w' => e = .returned (.int .i64 (rbFrom K n 0 0)) ∧ w' = w := by
  go_enter Try.func13, Try.ntmps13
  go_wp2
  go_loop [3, 4] (fun t i => ∃ (k c : Nat) (R : Int), k + c = n ∧ i = .int .i64 k ∧ t = .int .i64 R ∧ 0 ≤ R ∧ R ≤ 1048576 ∧ Hid (rbFrom K c k R = rbFrom K n 0 0)) (fun _ i => n - (intOf i).toNat)
  case atStart => exact ⟨0, n, 0, by omega, rfl, rfl, by omega, by omega, hide rfl⟩
  case round =>
    obtain ⟨k, c, R, hkc, rfl, rfl, hR0, hR1, HR⟩ := hrel
    cases c with
    | succ c =>
      have hlt : k < n := by omega
      have hc := (h k hlt).1
      have hs := hK k hlt
      have HO := hide (rbFrom_over K c k R)
      have HN := hide (rbFrom_on K c k R)
      have hkc' : k + 1 + c = n := by omega
      have HC := hide hkc'
      clear hkc hkc' h hK
      go_wp2
      · have h1 : ((K k).size : Int) ≤ 1048576 := by omega
        have h2 : 1048576 < R + (40 + ((K k).size : Int)) := by assumption
        go_ret
        exact ⟨ret_int (by rw [← HR.out, HO.out h1 h2]), rfl⟩
      · have h1 : ((K k).size : Int) ≤ 1048576 := by omega
        have h2 : R + (40 + ((K k).size : Int)) ≤ 1048576 := by omega
        go_round
        case rel => exact ⟨k + 1, c, _, HC.out, by go_num, rfl, by omega, by omega, by rw [← HN.out h1 h2]; exact HR⟩
        case measure => simp [intOf]; omega
    | zero =>
      have hk : ¬ k < n := by omega
      clear hkc h hK
      go_wp2
      go_ret
      exact ⟨ret_int HR.out, rfl⟩

set_option maxHeartbeats 400000 in
theorem readBytes_none_x (a : Option Addr) (cap : Nat) (w : World) :
    Calls Try.prog 13 #[.slice a 0 cap] w fun e w' => e = .returned (.int .i64 0) ∧ w' = w := by
  go_enter Try.func13, Try.ntmps13
  go_wp2
  go_loop [3, 4] (fun t i => i = .int .i64 0 ∧ t = .int .i64 0) (fun _ _ => 0)
  case atStart => exact ⟨rfl, rfl⟩
  case round =>
    obtain ⟨rfl, rfl⟩ := hrel
    go_wp2
    go_ret
    exact ⟨rfl, rfl⟩

theorem readBytes_x (a : Option Addr) (n cap : Nat) (K : Nat → ByteArray) (X Y : Nat → Int) (Z : Nat → Bool) (w : World) (hn : n ≤ 1048576) (h : IsReads w a n K X Y Z) (hK : ∀ i, i < n → (K i).size ≤ 1048576) :
    Calls Try.prog 13 #[.slice a n cap] w fun e w' => e = .returned (.int .i64 (rbFrom K n 0 0)) ∧ w' = w := by
  rcases h with rfl | ⟨b, off, rfl, _, h⟩
  · exact readBytes_none_x a cap w
  · exact readBytes_some_x b off n cap K X Y Z w hn h hK
end Go.Proofs.Qxb6601246a
