import Derived.Test.Qxb6000966aAnswer2
/-! answersEqualB1, where the two are alike: its contract. -/
namespace Go.Proofs.Qxb6000966a
open Go.RowKit

/-- Three strings at the head of block g. -/
def Res3 (w : World) (g : Nat) (a b c : ByteArray) : Prop :=
  w.cell? ⟨g, 0, none⟩ = some (.string a) ∧ w.cell? ⟨g, 1, none⟩ = some (.string b) ∧ w.cell? ⟨g, 2, none⟩ = some (.string c)

theorem below_drewN {B : Nat} {a w : World} (h : Below B a w) (n : Nat) : Below B a (w.drewN n) := h.trans ⟨rfl, rfl, rfl, Nat.le_refl _, fun _ _ => rfl⟩

set_option maxRecDepth 100000 in
set_option maxHeartbeats 1000000 in
theorem equal_c (pr : ByteArray) (no : Int) (st re vd sb ca : ByteArray) (g1 g2 : Nat) (s0 s1 s2 : ByteArray) (w : World) (hg1 : g1 < w.heap.size) (hg2 : g2 < w.heap.size) (h1 : Res3 w g1 s0 s1 s2) (h2 : Res3 w g2 s0 s1 s2) :
    Calls Try.prog 10 #[.agg #[.string pr, .int .i64 no, .string st, .string re, .string vd, .string sb, .string ca, .pointer (some ⟨g1, 0, none⟩)], .agg #[.string pr, .int .i64 no, .string st, .string re, .string vd, .string sb, .string ca, .pointer (some ⟨g2, 0, none⟩)]] w
      fun e w' => e = .returned (.bool true) ∧ Below w.heap.size w w' := by
  obtain ⟨a0, a1, a2⟩ := h1
  obtain ⟨b0, b1, b2⟩ := h2
  go_enter Try.func10, Try.ntmps10
  go_wp2
  go_quiet (fail)
  go_wp2
  go_ret
  exact ⟨rfl, below_drewN (((Below.refl _ _).alloc (Nat.le_refl _) _).alloc (by simp) _) _⟩
end Go.Proofs.Qxb6000966a
