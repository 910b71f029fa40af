import Derived.Test.Qxb6601246aReads
import Derived.ProofKit
import Derived.Deep.Slices
/-! A slice of records that came in, opened. -/
namespace Go.Proofs.Qxb6601246a
open Go.ChangeShapes Go.WideShapes Go.RowKit

theorem Try.cells9 : Try.prog.cellsOf 9 = 1 := by kernel_rfl
theorem Try.cells36 : Try.prog.cellsOf 36 = 1 := by kernel_rfl
theorem Try.cells4 : Try.prog.cellsOf 4 = 1 := by kernel_rfl

section
variable {H : Type} {enc : TypeId × Value → H} {W : World} {base : Nat} {spare : Nat → Bool} {held : Bool}

/-- One record's four cells, read. -/
theorem read_cells {fuel : Nat} {cs : List Value} {x : DataW H × List MemPlace} (h : DataW.trod enc Try.prog W base spare held fuel 38 cs = some x) :
    ∃ (s : ByteArray) (a b : Int) (z : Bool), cs = [.string s, .int .u64 a, .int .u64 b, .bool z] ∧ s.size ≤ maxLen := by
  obtain ⟨xs, n, _, _, hl, hxl, hf⟩ := DataW.trod_struct Try.underlying38 h
  rw [Try.cells38] at hl
  match cs, hl, xs, hxl with
  | [c0, c1, c2, c3], _, [y0, y1, y2, y3], _ =>
    have g0 := hf 0 _ rfl
    have g1 := hf 1 _ rfl
    have g2 := hf 2 _ rfl
    have g3 := hf 3 _ rfl
    simp [Try.cells9, Try.cells36, Try.cells4] at g0 g1 g2 g3
    obtain ⟨s, e0, _, hs⟩ := DataW.trod_string Try.underlying9 g0
    obtain ⟨a, e1, _, _⟩ := DataW.trod_int Try.underlying36 g1
    obtain ⟨b, e2, _, _⟩ := DataW.trod_int Try.underlying36 g2
    obtain ⟨z, e3, _⟩ := DataW.trod_bool Try.underlying4 g3
    simp at e0 e1 e2 e3
    exact ⟨s, a, b, z, by rw [e0, e1, e2, e3], hs⟩

theorem open_reads {fuel : Nat} {a : Option Addr} {len cap : Nat} {x : DataW H × List MemPlace} (h : DataW.trod enc Try.prog W base (fun _ => true) held fuel 25 [.slice a len cap] = some x) :
    ∃ (K : Nat → ByteArray) (X Y : Nat → Int) (Z : Nat → Bool), IsReads W a len K X Y Z ∧ len ≤ maxLen ∧ ∀ i, i < len → (K i).size ≤ maxLen := by
  rcases Deep.open_slice Try.underlying25 h with ⟨hcs, _⟩ | ⟨ad, l, c, m, n, D, Pl, hcs, _, hl, hm, hmm, _, hx⟩
  · simp at hcs
    obtain ⟨rfl, rfl, rfl⟩ := hcs
    exact ⟨fun _ => ByteArray.empty, fun _ => 0, fun _ => 0, fun _ => false, Or.inl rfl, Nat.zero_le _, fun i hi => absurd hi (Nat.not_lt_zero _)⟩
  · simp at hcs
    obtain ⟨rfl, rfl, rfl⟩ := hcs
    have hlm : len ≤ m := by rw [hmm]; simpa using hl
    have each : ∀ i, i < len → ∃ q : ByteArray × Int × Int × Bool, W.cell? ((ad.add (i * 4)).add 0) = some (.string q.1) ∧ W.cell? ((ad.add (i * 4)).add 1) = some (.int .u64 q.2.1) ∧
        W.cell? ((ad.add (i * 4)).add 2) = some (.int .u64 q.2.2.1) ∧ W.cell? ((ad.add (i * 4)).add 3) = some (.bool q.2.2.2) ∧ q.1.size ≤ maxLen := by
      intro i hi
      obtain ⟨cs', g1, g2⟩ := hx i (by omega)
      rw [Try.cells38] at g1
      obtain ⟨_, _, hcell⟩ := World.cells?_some g1
      obtain ⟨s, p, q, z, rfl, hs⟩ := read_cells g2
      exact ⟨(s, p, q, z), hcell 0 (by omega), hcell 1 (by omega), hcell 2 (by omega), hcell 3 (by omega), hs⟩
    obtain ⟨q, hq⟩ := Deep.choose_lt each
    refine ⟨fun i => (q i).1, fun i => (q i).2.1, fun i => (q i).2.2.1, fun i => (q i).2.2.2, ?_, by omega, fun i hi => (hq i hi).2.2.2.2⟩
    by_cases h0 : len = 0
    · exact Or.inl h0
    · obtain ⟨b, off, spot⟩ := ad
      have c0 := (hq 0 (by omega)).1
      have hspot : spot = none := by simpa [Addr.add] using World.cell?_spot c0
      subst hspot
      have hb : b < W.heap.size := by
        have := World.block_lt_of_cell? _ _ c0
        simpa [Addr.add] using this
      refine Or.inr ⟨b, off, rfl, hb, fun i hi => ?_⟩
      obtain ⟨g0, g1, g2, g3, _⟩ := hq i hi
      rw [add_plain, add_plain] at g0 g1 g2 g3
      exact ⟨g0, g1, g2, g3⟩
end
end Go.Proofs.Qxb6601246a
