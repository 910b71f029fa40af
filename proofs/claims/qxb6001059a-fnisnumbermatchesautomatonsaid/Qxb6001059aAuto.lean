import Derived.Test.Qxb6001059aStep
import Derived.WalkSpells
/-! The bytes of a slice; zzNumberAutomaton, zzCopyBytes, zzBytes: their contracts. -/
namespace Go.Proofs.Qxb6001059a
open Go.RowKit
set_option linter.unusedSimpArgs false

/-- n bytes lie from place off of block b on. -/
def Bytes (w : World) (b off n : Nat) (Z : Nat → Int) : Prop := ∀ j, j < n → w.cell? ⟨b, off + j, none⟩ = some (.int .u8 (Z j))

/-- A slice of n bytes: it is empty, or leads to n bytes in a block that is there. -/
def IsBytes (w : World) (a : Option Addr) (n : Nat) (Z : Nat → Int) : Prop := n = 0 ∨ ∃ b off, a = some ⟨b, off, none⟩ ∧ b < w.heap.size ∧ Bytes w b off n Z

theorem isBytes_below {w w' : World} {a : Option Addr} {n : Nat} {Z : Nat → Int} (hB : Below w.heap.size w w') (h : IsBytes w a n Z) : IsBytes w' a n Z := by
  rcases h with h | ⟨b, off, rfl, hb, h⟩
  · exact Or.inl h
  · exact Or.inr ⟨b, off, rfl, Nat.lt_of_lt_of_le hb hB.size, fun j hj => (hB.cell hb).trans (h j hj)⟩

theorem step_c (S c : Int) (w : World) (h0 : 0 ≤ S) (h8 : S ≤ 8) :
    Calls Try.prog 16 #[.int .i64 S, .int .u8 c] w fun e w' => e = .returned (.int .i64 (step S c)) ∧ w' = w := by
  have h : S = 0 ∨ S = 1 ∨ S = 2 ∨ S = 3 ∨ S = 4 ∨ S = 5 ∨ S = 6 ∨ S = 7 ∨ S = 8 := by omega
  rcases h with rfl | rfl | rfl | rfl | rfl | rfl | rfl | rfl | rfl
  · exact step0_c c w
  · exact step1_c c w
  · exact step2_c c w
  · exact step3_c c w
  · exact step4_c c w
  · exact step5_c c w
  · exact step6_c c w
  · exact step7_c c w
  · exact step8_c c w

theorem step_le (S c : Int) : step S c ≤ 8 := by
  unfold step
  repeat' split
  all_goals omega

set_option maxHeartbeats 1000000 in
theorem auto_some (b off n cap : Nat) (Z : Nat → Int) (w : World) (hn : n ≤ 65536) (h : Bytes w b off n Z) :
    Calls Try.prog 10 #[.slice (some ⟨b, off, none⟩) n cap] w fun e w' => e = .returned (.bool (run Z n 0 0)) ∧ w' = w := by
  go_enter Try.func10, Try.ntmps10
  go_wp2
  go_loop [3, 4] (fun t i => ∃ (k : Nat) (S : Int), k ≤ n ∧ i = .int .i64 k ∧ t = .int .i64 S ∧ 0 ≤ S ∧ S ≤ 8 ∧ Hid (run Z n k S = run Z n 0 0)) (fun _ i => n - (intOf i).toNat)
  case atStart => exact ⟨0, 0, Nat.zero_le _, rfl, rfl, by omega, by omega, hide rfl⟩
  case round =>
    obtain ⟨k, S, hk, rfl, rfl, hS0, hS8, HR⟩ := hrel
    by_cases hlt : k < n
    · have hc := h k hlt
      have HN := hide (run_no Z n k S hlt)
      have HO := hide (fun h => run_on Z n k S (step S (Z k)) hlt rfl h)
      have hle := step_le S (Z k)
      have HC := hide (fun w => step_c S (Z k) w hS0 hS8)
      clear h
      generalize step S (Z k) = T at HN HO hle HC
      by_cases hneg : T < 0
      · go_wp2_with (go_at_call 16; refine (HC.out _).mono ?_; rintro e w' ⟨rfl, rfl⟩)
        go_ret
        exact ⟨ret_bool (by rw [← HR.out, HN.out hneg]), rfl⟩
      · have hpos : 0 ≤ T := by omega
        go_wp2_with (go_at_call 16; refine (HC.out _).mono ?_; rintro e w' ⟨rfl, rfl⟩)
        go_round
        case rel => exact ⟨k + 1, T, hlt, by go_num, rfl, hpos, hle, by rw [← HO.out hpos]; exact HR⟩
        case measure => simp [intOf]; omega
    · have HE := hide (run_end Z n k S (by omega))
      clear h
      have hS : S = 0 ∨ S = 1 ∨ S = 2 ∨ S = 3 ∨ S = 4 ∨ S = 5 ∨ S = 6 ∨ S = 7 ∨ S = 8 := by omega
      rcases hS with rfl | rfl | rfl | rfl | rfl | rfl | rfl | rfl | rfl
      all_goals
        go_wp2
        go_ret
        exact ⟨ret_bool (by rw [← HR.out, HE.out]; decide), rfl⟩

set_option maxHeartbeats 1000000 in
theorem auto_none (a : Option Addr) (cap : Nat) (Z : Nat → Int) (w : World) :
    Calls Try.prog 10 #[.slice a 0 cap] w fun e w' => e = .returned (.bool (run Z 0 0 0)) ∧ w' = w := by
  have HE := hide (run_end Z 0 0 0 (Nat.le_refl _))
  go_enter Try.func10, Try.ntmps10
  go_wp2
  go_loop [3, 4] (fun t i => i = .int .i64 0 ∧ t = .int .i64 0) (fun _ _ => 0)
  case atStart => exact ⟨rfl, rfl⟩
  case round =>
    obtain ⟨rfl, rfl⟩ := hrel
    go_wp2
    go_ret
    exact ⟨ret_bool (by rw [HE.out]; decide), rfl⟩

theorem auto_c (a : Option Addr) (n cap : Nat) (Z : Nat → Int) (w : World) (hn : n ≤ 65536) (h : IsBytes w a n Z) :
    Calls Try.prog 10 #[.slice a n cap] w fun e w' => e = .returned (.bool (run Z n 0 0)) ∧ w' = w := by
  rcases h with rfl | ⟨b, off, rfl, _, h⟩
  · exact auto_none a cap Z w
  · exact auto_some b off n cap Z w hn h
end Go.Proofs.Qxb6001059a
