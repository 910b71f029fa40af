import Derived.Test.Qxb6601246aReadX
/-! zzBytes_FnCoveredGrowsWithOneMoreRead: its contract. -/
namespace Go.Proofs.Qxb6601246a
open Go.RowKit

/-- What the length test says where it says yes. -/
def SmallN (S E k N : ByteArray) (n : Nat) (K : Nat → ByteArray) : Prop := S.size + E.size + n + N.size + k.size ≤ 1048576 ∧ ∀ i, i < n → (K i).size ≤ 1048576

set_option maxHeartbeats 400000 in
theorem zz19_c (S E : ByteArray) (ex : Bool) (a : Option Addr) (n cap : Nat) (N : ByteArray) (nx ny : Int) (nz : Bool) (kk : ByteArray) (K : Nat → ByteArray) (X Y : Nat → Int) (Z : Nat → Bool) (w : World)
    (hS : S.size ≤ maxLen) (hE : E.size ≤ maxLen) (hN : N.size ≤ maxLen) (hk : kk.size ≤ maxLen) (hn : n ≤ maxLen) (h : IsReads w a n K X Y Z) (hK : ∀ i, i < n → (K i).size ≤ maxLen) :
    Calls Try.prog 19 #[.string S, .string E, .bool ex, .slice a n cap, .agg #[.string N, .int .u64 nx, .int .u64 ny, .bool nz], .string kk] w fun e w' => Says (SmallN S E kk N n K) e ∧ Below w.heap.size w w' := by
  unfold maxLen at hS hE hN hk hn hK
  by_cases hs : S.size + E.size + n ≤ 1048576
  · go_enter Try.func19, Try.ntmps19
    go_wp2
    go_loop [13, 14] (fun t i => ∃ (k : Nat) (R : Int), k ≤ n ∧ i = .int .i64 k ∧ t = .int .i64 R ∧ (S.size + E.size + n : Int) ≤ R ∧ R ≤ 1048576 ∧ Hid (∀ i, i < k → (K i).size ≤ 1048576)) (fun _ i => n - (intOf i).toNat)
    case atStart => exact ⟨0, _, Nat.zero_le _, rfl, rfl, by omega, by omega, fun i hi => absurd hi (Nat.not_lt_zero _)⟩
    case round =>
      obtain ⟨k, R, hkn, rfl, rfl, hR0, hR1, HK⟩ := hrel
      by_cases hlt : k < n
      · rcases h with h | ⟨b, off, rfl, hb, h⟩
        · omega
        · have hc := (h k hlt).1
          have hs1 := hK k hlt
          clear h hK
          go_wp2
          · go_ret
            exact ⟨Says.no _, (Below.refl _ _).alloc (Nat.le_refl _) _⟩
          · go_ret
            exact ⟨Says.no _, (Below.refl _ _).alloc (Nat.le_refl _) _⟩
          · go_round
            case rel =>
              refine ⟨k + 1, _, hlt, by go_num, rfl, by omega, by omega, ?_⟩
              intro i hi
              by_cases e : i = k
              · subst e; omega
              · exact HK.out i (by omega)
            case measure => simp [intOf]; omega
      · have ek : k = n := by omega
        have HF : Hid (∀ i, i < n → (K i).size ≤ 1048576) := by rw [← ek]; exact HK
        clear h hK ek
        go_wp2
        · go_ret
          exact ⟨Says.no _, (Below.refl _ _).alloc (Nat.le_refl _) _⟩
        · go_ret
          exact ⟨Says.no _, (Below.refl _ _).alloc (Nat.le_refl _) _⟩
        · go_ret
          exact ⟨Says.no _, (Below.refl _ _).alloc (Nat.le_refl _) _⟩
        · go_ret
          exact ⟨Says.no _, (Below.refl _ _).alloc (Nat.le_refl _) _⟩
        · go_ret
          exact ⟨Says.yes ⟨by omega, HF.out⟩, (Below.refl _ _).alloc (Nat.le_refl _) _⟩
  · clear h hK
    go_enter Try.func19, Try.ntmps19
    go_wp2
    all_goals
      go_ret
      exact ⟨Says.no _, (Below.refl _ _).alloc (Nat.le_refl _) _⟩
end Go.Proofs.Qxb6601246a
