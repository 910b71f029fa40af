import Derived.Test.Qxb6601246aClone
/-! covered, ZZcovered: their contracts. -/
namespace Go.Proofs.Qxb6601246a
open Go.RowKit

/-- A range's four cells. -/
def IsRange (w : World) (r : Nat) (S E : ByteArray) (ex : Bool) (v : Value) : Prop :=
  w.cell? ⟨r, 0, none⟩ = some (.string S) ∧ w.cell? ⟨r, 1, none⟩ = some (.string E) ∧ w.cell? ⟨r, 2, none⟩ = some (.bool ex) ∧ w.cell? ⟨r, 3, none⟩ = some v

/-- A key followed by a zero byte. -/
def endOf (s : ByteArray) : ByteArray := s ++ ⟨#[0]⟩

set_option maxHeartbeats 400000 in
theorem covered_ex (w : World) (r : Nat) (S E : ByteArray) (v : Value) (h : IsRange w r S E true v) :
    Calls Try.prog 22 #[.pointer (some ⟨r, 0, none⟩)] w fun e w' => e = .returned (.tuple #[.string E, .bool true]) ∧ w' = w := by
  obtain ⟨_, h1, h2, _⟩ := h
  go_enter Try.func22, Try.ntmps22
  go_wp2
  go_ret2
  exact ⟨rfl, rfl⟩

set_option maxHeartbeats 400000 in
theorem covered_none (w : World) (r : Nat) (S E : ByteArray) (a : Option Addr) (cap : Nat) (h : IsRange w r S E false (.slice a 0 cap)) :
    Calls Try.prog 22 #[.pointer (some ⟨r, 0, none⟩)] w fun e w' => e = .returned (.tuple #[.string ⟨#[]⟩, .bool false]) ∧ w' = w := by
  obtain ⟨_, h1, h2, h3⟩ := h
  go_enter Try.func22, Try.ntmps22
  go_wp2
  go_ret2
  exact ⟨rfl, rfl⟩

set_option maxHeartbeats 400000 in
theorem covered_some (w : World) (r : Nat) (S E : ByteArray) (b off n cap : Nat) (K : Nat → ByteArray) (X Y : Nat → Int) (Z : Nat → Bool) (h : IsRange w r S E false (.slice (some ⟨b, off, none⟩) n cap)) (hr : Recs w b off n K X Y Z) (h0 : 0 < n) (hn : n ≤ 1048577) (hK : (K (n - 1)).size ≤ 1048576) :
    Calls Try.prog 22 #[.pointer (some ⟨r, 0, none⟩)] w fun e w' => e = .returned (.tuple #[.string (endOf (K (n - 1))), .bool true]) ∧ ∃ q, w' = w.drewN q := by
  obtain ⟨_, h1, h2, h3⟩ := h
  obtain ⟨m, rfl⟩ : ∃ m, n = m + 1 := ⟨n - 1, by omega⟩
  simp only [Nat.add_sub_cancel] at hK ⊢
  have hc := (hr m (by omega)).1
  go_enter Try.func22, Try.ntmps22
  go_wp2
  go_quiet (fail)
  go_wp2
  go_ret2
  exact ⟨rfl, _, rfl⟩

/-- The end that a scan covers up to. -/
def covE (E : ByteArray) (ex : Bool) (n : Nat) (K : Nat → ByteArray) : ByteArray := if ex then E else if n = 0 then ⟨#[]⟩ else endOf (K (n - 1))
/-- Does it cover a key? -/
def covOk (ex : Bool) (n : Nat) : Bool := ex || decide (0 < n)

theorem covered_c (w : World) (r : Nat) (S E : ByteArray) (ex : Bool) (a : Option Addr) (n cap : Nat) (K : Nat → ByteArray) (X Y : Nat → Int) (Z : Nat → Bool) (h : IsRange w r S E ex (.slice a n cap)) (hr : IsReads w a n K X Y Z) (hn : n ≤ 1048577) (hK : ∀ i, i < n → (K i).size ≤ 1048576) :
    Calls Try.prog 22 #[.pointer (some ⟨r, 0, none⟩)] w fun e w' => e = .returned (.tuple #[.string (covE E ex n K), .bool (covOk ex n)]) ∧ ∃ q, w' = w.drewN q := by
  cases ex with
  | true =>
    refine (covered_ex w r S E _ h).mono ?_
    rintro e w' ⟨rfl, rfl⟩
    exact ⟨rfl, 0, rfl⟩
  | false =>
    rcases hr with rfl | ⟨b, off, rfl, _, hr⟩
    · refine (covered_none w r S E a cap h).mono ?_
      rintro e w' ⟨rfl, rfl⟩
      exact ⟨rfl, 0, rfl⟩
    · by_cases h0 : 0 < n
      · refine (covered_some w r S E b off n cap K X Y Z h hr h0 hn (hK _ (by omega))).mono ?_
        rintro e w' ⟨rfl, q, rfl⟩
        have e1 : covE E false n K = endOf (K (n - 1)) := by simp [covE, Nat.ne_of_gt h0]
        have e2 : covOk false n = true := by simp [covOk, h0]
        exact ⟨by rw [e1, e2], q, rfl⟩
      · obtain rfl : n = 0 := by omega
        refine (covered_none w r S E _ cap h).mono ?_
        rintro e w' ⟨rfl, rfl⟩
        exact ⟨rfl, 0, rfl⟩

set_option maxHeartbeats 400000 in
theorem ZZcovered_c (w : World) (r : Nat) (S E : ByteArray) (ex : Bool) (a : Option Addr) (n cap : Nat) (K : Nat → ByteArray) (X Y : Nat → Int) (Z : Nat → Bool) (h : IsRange w r S E ex (.slice a n cap)) (hr : IsReads w a n K X Y Z) (hn : n ≤ 1048577) (hK : ∀ i, i < n → (K i).size ≤ 1048576) :
    Calls Try.prog 16 #[.pointer (some ⟨r, 0, none⟩)] w fun e w' => e = .returned (.tuple #[.string (covE E ex n K), .bool (covOk ex n)]) ∧ ∃ q, w' = w.drewN q := by
  have HC := hide (covered_c w r S E ex a n cap K X Y Z h hr hn hK)
  clear h hr hn hK
  go_enter Try.func16, Try.ntmps16
  go_wp2_with (go_at_call 22; refine HC.out.mono ?_; rintro e w' ⟨rfl, q, rfl⟩)
  go_ret2
  exact ⟨rfl, q, rfl⟩
end Go.Proofs.Qxb6601246a
