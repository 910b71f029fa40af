import Derived.Test.Qxb6601246aCov
/-! zzBytes_FnCoveredSpec: its contract. -/
namespace Go.Proofs.Qxb6601246a
open Go.RowKit

/-- What the length test says where it says yes. -/
def Small (S E k : ByteArray) (n : Nat) (K : Nat → ByteArray) : Prop := S.size + E.size + n + k.size ≤ 1048576 ∧ ∀ i, i < n → (K i).size ≤ 1048576

/-- It returns a bool, and where it says yes, p holds. -/
def Says (p : Prop) (e : Ending) : Prop := ∃ r : Bool, e = .returned (.bool r) ∧ (r = true → p)
theorem Says.no (p : Prop) : Says p (.returned (.bool false)) := ⟨false, rfl, fun h => by cases h⟩
theorem Says.yes {p : Prop} (h : p) : Says p (.returned (.bool true)) := ⟨true, rfl, fun _ => h⟩

set_option maxHeartbeats 400000 in
theorem zz12_c (S E : ByteArray) (ex : Bool) (a : Option Addr) (n cap : Nat) (kk : ByteArray) (K : Nat → ByteArray) (X Y : Nat → Int) (Z : Nat → Bool) (w : World)
    (hS : S.size ≤ maxLen) (hE : E.size ≤ maxLen) (hk : kk.size ≤ maxLen) (hn : n ≤ maxLen) (h : IsReads w a n K X Y Z) (hK : ∀ i, i < n → (K i).size ≤ maxLen) :
    Calls Try.prog 12 #[.string S, .string E, .bool ex, .slice a n cap, .string kk] w fun e w' => Says (Small S E kk n K) e ∧ w' = w := by
  unfold maxLen at hS hE hk hn hK
  by_cases hs : S.size + E.size + n ≤ 1048576
  · go_enter Try.func12, Try.ntmps12
    go_wp2
    go_loop [11, 12] (fun t i => ∃ (k : Nat) (R : Int), k ≤ n ∧ i = .int .i64 k ∧ t = .int .i64 R ∧ (S.size + E.size + n : Int) ≤ R ∧ R ≤ 1048576 ∧ Hid (∀ i, i < k → (K i).size ≤ 1048576)) (fun _ i => n - (intOf i).toNat)
    case atStart => exact ⟨0, _, Nat.zero_le _, rfl, rfl, by omega, by omega, fun i hi => absurd hi (Nat.not_lt_zero _)⟩
    case round =>
      obtain ⟨k, R, hkn, rfl, rfl, hR0, hR1, HK⟩ := hrel
      by_cases hlt : k < n
      · rcases h with h | ⟨b, off, rfl, _, h⟩
        · omega
        · have hc := (h k hlt).1
          have hs1 := hK k hlt
          clear h hK
          go_wp2
          · go_ret
            exact ⟨Says.no _, rfl⟩
          · go_ret
            exact ⟨Says.no _, rfl⟩
          · go_round
            case rel =>
              refine ⟨k + 1, _, hlt, by go_num, rfl, by omega, by omega, ?_⟩
              intro i hi
              by_cases e : i = k
              · subst e; omega
              · exact HK.out i (by omega)
            case measure => simp [intOf]; omega
      · have ek : k = n := by omega
        have HF : Hid (∀ i, i < n → (K i).size ≤ 1048576) := by rw [← ek]; exact HK
        clear h hK ek
        go_wp2
        · go_ret
          exact ⟨Says.no _, rfl⟩
        · go_ret
          exact ⟨Says.no _, rfl⟩
        · go_ret
          exact ⟨Says.yes ⟨by omega, HF.out⟩, rfl⟩
  · clear h hK
    go_enter Try.func12, Try.ntmps12
    go_wp2
    all_goals
      go_ret
      exact ⟨Says.no _, rfl⟩
end Go.Proofs.Qxb6601246a
