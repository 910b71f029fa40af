import Derived.Test.Qxb6601246aLess
import Derived.BigRegion
/-! Slices of four-cell records; readBytes: its contract. -/
namespace Go.Proofs.Qxb6601246a
open Go.RowKit

theorem hide {p : Prop} (h : p) : Hid p := h

theorem ret_int {k : IntKind} {a b : Int} (h : a = b) : Ending.returned (.int k a) = .returned (.int k b) := by rw [h]

/-- n records of four cells each lie from place off of block b on. -/
def Recs (w : World) (b off n : Nat) (K : Nat → ByteArray) (X Y : Nat → Int) (Z : Nat → Bool) : Prop :=
  ∀ i, i < n → w.cell? ⟨b, off + i * 4, none⟩ = some (.string (K i)) ∧ w.cell? ⟨b, off + i * 4 + 1, none⟩ = some (.int .u64 (X i)) ∧
    w.cell? ⟨b, off + i * 4 + 2, none⟩ = some (.int .u64 (Y i)) ∧ w.cell? ⟨b, off + i * 4 + 3, none⟩ = some (.bool (Z i))

theorem Try.cells38 : Try.prog.cellsOf 38 = 4 := by kernel_rfl

set_option maxHeartbeats 400000 in
theorem readBytes_some (b off n cap : Nat) (K : Nat → ByteArray) (X Y : Nat → Int) (Z : Nat → Bool) (w : World) (hn : n ≤ 1048576) (h : Recs w b off n K X Y Z) (hK : ∀ i, i < n → (K i).size ≤ 1048576) :
    Calls Try.prog 13 #[.slice (some ⟨b, off, none⟩) n cap] w fun e w' => (∃ R : Int, e = .returned (.int .i64 R) ∧ 0 ≤ R ∧ R ≤ 2097192) ∧ w' = w := by
  go_enter Try.func13, Try.ntmps13
  go_wp2
  go_loop [3, 4] (fun t i => ∃ (k : Nat) (R : Int), k ≤ n ∧ i = .int .i64 k ∧ t = .int .i64 R ∧ 0 ≤ R ∧ R ≤ 1048576) (fun _ i => n - (intOf i).toNat)
  case atStart => exact ⟨0, 0, Nat.zero_le _, rfl, rfl, by omega, by omega⟩
  case round =>
    obtain ⟨k, R, hk, rfl, rfl, hR0, hR1⟩ := hrel
    by_cases hlt : k < n
    · have hc := (h k hlt).1
      have hs := hK k hlt
      go_wp2
      · go_ret
        exact ⟨⟨_, rfl, by omega, by omega⟩, rfl⟩
      · go_round
        case rel => exact ⟨k + 1, _, hlt, by go_num, rfl, by omega, by omega⟩
        case measure => simp [intOf]; omega
    · go_wp2
      go_ret
      exact ⟨⟨R, rfl, by omega, by omega⟩, rfl⟩

set_option maxHeartbeats 400000 in
theorem readBytes_none (a : Option Addr) (cap : Nat) (w : World) :
    Calls Try.prog 13 #[.slice a 0 cap] w fun e w' => (∃ R : Int, e = .returned (.int .i64 R) ∧ 0 ≤ R ∧ R ≤ 2097192) ∧ w' = w := by
  go_enter Try.func13, Try.ntmps13
  go_wp2
  go_loop [3, 4] (fun t i => i = .int .i64 0 ∧ t = .int .i64 0) (fun _ _ => 0)
  case atStart => exact ⟨rfl, rfl⟩
  case round =>
    obtain ⟨rfl, rfl⟩ := hrel
    go_wp2
    go_ret
    exact ⟨⟨0, rfl, by omega, by omega⟩, rfl⟩

/-- A slice of n records, as the walks are told of it: it is empty, or it leads to n records in a block that is there. -/
def IsReads (w : World) (a : Option Addr) (n : Nat) (K : Nat → ByteArray) (X Y : Nat → Int) (Z : Nat → Bool) : Prop :=
  n = 0 ∨ ∃ b off, a = some ⟨b, off, none⟩ ∧ b < w.heap.size ∧ Recs w b off n K X Y Z

theorem readBytes_c (a : Option Addr) (n cap : Nat) (K : Nat → ByteArray) (X Y : Nat → Int) (Z : Nat → Bool) (w : World) (hn : n ≤ 1048576) (h : IsReads w a n K X Y Z) (hK : ∀ i, i < n → (K i).size ≤ 1048576) :
    Calls Try.prog 13 #[.slice a n cap] w fun e w' => (∃ R : Int, e = .returned (.int .i64 R) ∧ 0 ≤ R ∧ R ≤ 2097192) ∧ w' = w := by
  rcases h with rfl | ⟨b, off, rfl, _, h⟩
  · exact readBytes_none a cap w
  · exact readBytes_some b off n cap K X Y Z w hn h hK
end Go.Proofs.Qxb6601246a
