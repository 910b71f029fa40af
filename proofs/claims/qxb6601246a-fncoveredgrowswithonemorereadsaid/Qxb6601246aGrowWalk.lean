import Derived.Test.Qxb6601246aZzGrow
import Derived.Test.Qxb6601246aFinWalk
/-! FnCoveredGrowsWithOneMoreRead: its walk. -/
namespace Go.Proofs.Qxb6601246a
open Go.RowKit

/-- One record's four cells at the head of block p. -/
def NextAt (w : World) (p : Nat) (N : ByteArray) (nx ny : Int) (nz : Bool) : Prop :=
  w.cell? ⟨p, 0, none⟩ = some (.string N) ∧ w.cell? ⟨p, 1, none⟩ = some (.int .u64 nx) ∧ w.cell? ⟨p, 2, none⟩ = some (.int .u64 ny) ∧ w.cell? ⟨p, 3, none⟩ = some (.bool nz)

theorem nextAt_below {B : Nat} {w w' : World} {p : Nat} {N : ByteArray} {nx ny : Int} {nz : Bool} (hB : Below B w w') (hp : p < B) (h : NextAt w p N nx ny nz) : NextAt w' p N nx ny nz :=
  ⟨(hB.cell hp).trans h.1, (hB.cell hp).trans h.2.1, (hB.cell hp).trans h.2.2.1, (hB.cell hp).trans h.2.2.2⟩

theorem nextAt_alloc (w : World) (N : ByteArray) (nx ny : Int) (nz : Bool) (t : TypeId) : NextAt (w.alloc (.cells #[.string N, .int .u64 nx, .int .u64 ny, .bool nz] t)) w.heap.size N nx ny nz := by
  unfold NextAt
  simp [World.cell?_alloc_at]

/-- f, turned at n. -/
def upd {α : Type} (f : Nat → α) (n : Nat) (v : α) : Nat → α := fun i => if i = n then v else f i
theorem upd_at {α : Type} (f : Nat → α) (n : Nat) (v : α) : upd f n v n = v := by simp [upd]
theorem upd_lt {α : Type} (f : Nat → α) (n : Nat) (v : α) (i : Nat) (h : i < n) : upd f n v i = f i := by
  unfold upd
  rw [if_neg (by omega)]

theorem upd_le {K : Nat → ByteArray} {n : Nat} {N : ByteArray} (h : ∀ i, i < n → (K i).size ≤ 1048576) (hN : N.size ≤ 1048576) : ∀ i, i < n + 1 → (upd K n N i).size ≤ 1048576 := by
  intro i hi
  by_cases e : i = n
  · subst e; rw [upd_at]; exact hN
  · rw [upd_lt _ _ _ _ (by omega)]; exact h i (by omega)

theorem recs_last {w : World} {b n : Nat} {K : Nat → ByteArray} {X Y : Nat → Int} {Z : Nat → Bool} {N : ByteArray} {nx ny : Int} {nz : Bool} (h : Recs w b 0 n K X Y Z) (hR : Room w b (n + 1)) :
    Recs (put4 w b n N nx ny nz) b 0 (n + 1) (upd K n N) (upd X n nx) (upd Y n ny) (upd Z n nz) := by
  have h' : Recs w b 0 n (upd K n N) (upd X n nx) (upd Y n ny) (upd Z n nz) := by
    intro i hi
    rw [upd_lt _ _ _ _ hi, upd_lt _ _ _ _ hi, upd_lt _ _ _ _ hi, upd_lt _ _ _ _ hi]
    exact h i hi
  have g := (recs_step (Nat.lt_succ_self n) h' hR).1
  rw [upd_at, upd_at, upd_at, upd_at] at g
  exact g

theorem isRange_fst2 (w : World) (S E : ByteArray) (x y : Bool) (v v' : Value) (t : TypeId) (r : Nat) (hr : r = w.heap.size) :
    IsRange ((w.alloc (.cells #[.string S, .string E, .bool x, v] t)).alloc (.cells #[.string S, .string E, .bool y, v'] t)) r S E x v := by
  subst hr
  unfold IsRange
  simp [World.cell?_alloc_past, World.cell?_alloc_at]

theorem isRange_snd2 (w : World) (S E : ByteArray) (x y : Bool) (v v' : Value) (t : TypeId) (r : Nat) (hr : r = w.heap.size) :
    IsRange ((w.alloc (.cells #[.string S, .string E, .bool x, v] t)).alloc (.cells #[.string S, .string E, .bool y, v'] t)) (r + 1) S E y v' := by
  subst hr
  unfold IsRange
  simp [World.cell?_alloc_at]

theorem isReads_own2 {w : World} {b n : Nat} {K : Nat → ByteArray} {X Y : Nat → Int} {Z : Nat → Bool} (h : Recs w b 0 n K X Y Z) (hb : b < w.heap.size) (o p : Obj) : IsReads ((w.alloc o).alloc p) (some ⟨b, 0, none⟩) n K X Y Z :=
  isReads_two (Or.inr ⟨b, 0, rfl, hb, h⟩) o p

theorem below_three {B : Nat} {w wr : World} (h : Below B w wr) (hB : B ≤ wr.heap.size) (o p : Obj) : Below B w ((wr.alloc o).alloc p) :=
  (h.alloc hB o).alloc (by simp; omega) p

theorem below_refl0 (w : World) : Below w.heap.size w w := Below.refl _ _

theorem below_chain {w w1 w3 w4 : World} (h1 : Below w.heap.size w w1) (h3 : Below w1.heap.size w1 w3) (h4 : Below w3.heap.size w3 w4) : Below w.heap.size w w4 :=
  (h1.trans (h3.mono h1.size)).trans (h4.mono (Nat.le_trans h1.size h3.size))

theorem below_size {w w1 w3 w4 : World} (h1 : Below w.heap.size w w1) (h3 : Below w1.heap.size w1 w3) (h4 : Below w3.heap.size w3 w4) : w.heap.size ≤ w4.heap.size :=
  Nat.le_trans (Nat.le_trans h1.size h3.size) h4.size

/-- What the two scans cover, in plain words. -/
theorem cov_facts {kk : ByteArray} (S E : ByteArray) (ex : Bool) (n : Nat) (K : Nat → ByteArray) (N : ByteArray) (hb : S.size + E.size + n + N.size + kk.size ≤ 1048576) (hK : ∀ i, i < n → (K i).size ≤ 1048576)
    (hl : ∀ m, n = m + 1 → Op.bytesLess N.toList (K m).toList = false) (hok : covOk ex n = true) :
    (covE E ex n K).size ≤ 1048577 ∧ (covE E ex (n + 1) (upd K n N)).size ≤ 1048577 ∧ ((later (covE E ex n K) (covE E ex (n + 1) (upd K n N))).toList == (covE E ex (n + 1) (upd K n N)).toList) = true ∧
      (withinL (covE E ex n K).toList kk.toList = true → withinL (covE E ex (n + 1) (upd K n N)).toList kk.toList = true) := by
  cases ex with
  | true =>
    rw [covE_done, covE_done]
    exact ⟨by omega, by omega, by rw [later_toList, laterL_idem]; simp, fun h => h⟩
  | false =>
    have h0 : 0 < n := by simpa [covOk] using hok
    obtain ⟨m, rfl⟩ : ∃ m, n = m + 1 := ⟨n - 1, by omega⟩
    rw [covE_stop, covE_stop, upd_at]
    have hs := laterL_snoc (K m).toList N.toList (hl m rfl)
    have hKm := hK m (by omega)
    refine ⟨by rw [endOf_size]; omega, by rw [endOf_size]; omega, by rw [later_toList, endOf_toList, endOf_toList, hs]; simp, fun h => ?_⟩
    rw [endOf_toList] at h ⊢
    exact within_mono _ _ _ hs h

set_option maxRecDepth 100000 in
set_option maxHeartbeats 2000000 in
theorem grow_walk (S E : ByteArray) (ex : Bool) (a : Option Addr) (n cap : Nat) (Nk : ByteArray) (nx ny : Int) (nz : Bool) (kk : ByteArray) (K : Nat → ByteArray) (X Y : Nat → Int) (Z : Nat → Bool) (w : World)
    (hS : S.size ≤ maxLen) (hE : E.size ≤ maxLen) (hN : Nk.size ≤ maxLen) (hk : kk.size ≤ maxLen) (hn : n ≤ maxLen) (h : IsReads w a n K X Y Z) (hK : ∀ i, i < n → (K i).size ≤ maxLen) :
    Calls Try.prog 6 #[.string S, .string E, .bool ex, .slice a n cap, .agg #[.string Nk, .int .u64 nx, .int .u64 ny, .bool nz], .string kk] w fun e w' => e = .returned (.bool true) ∧ Below w.heap.size w w' := by
  have HZ := hide (fun w h => zz19_c S E ex a n cap Nk nx ny nz kk K X Y Z w hS hE hN hk hn h hK)
  have H := hide h
  clear h hK
  go_enter Try.func6, Try.ntmps6
  go_wp2_with fail
  refine (HZ.out _ (isReads_below ((Below.refl _ _).alloc (Nat.le_refl _) _) H.out)).mono ?_
  rintro e w1 ⟨⟨r, rfl, hr⟩, hB1⟩
  have HB1 : Hid (Below w.heap.size w w1) := ((Below.refl _ _).alloc (Nat.le_refl _) _).trans (hB1.mono (by simp))
  have HNx1 : Hid (NextAt w1 w.heap.size Nk nx ny nz) := nextAt_below hB1 (by simp) (nextAt_alloc w Nk nx ny nz 38)
  have HP : Hid (w.heap.size < w1.heap.size) := Nat.lt_of_lt_of_le (by simp) hB1.size
  have H1 := hide (isReads_below HB1.out H.out)
  clear hB1
  cases r with
  | false =>
    clear hr HZ
    go_wp2
    go_ret
    exact ⟨rfl, HB1.out⟩
  | true =>
    obtain ⟨hb2, hK⟩ := hr rfl
    have HK := hide hK
    clear hr HZ hK hS hE hk hn hN
    have hrb := rbFrom_bound K n 0 0 (by omega) (by omega)
    have HRB := hide (fun w h => readBytes_x a n cap K X Y Z w (by omega) h HK.out)
    generalize rbFrom K n 0 0 = R at hrb HRB
    obtain ⟨hR0, hR1⟩ := hrb
    obtain ⟨n0, n1, n2, n3⟩ := HNx1.out
    go_wp2_with fail
    refine (HRB.out _ H1.out).mono ?_
    rintro e w1' ⟨rfl, hw1'⟩
    subst hw1'
    go_wp2_with fail
    · go_ret
      exact ⟨rfl, HB1.out⟩
    go_quiet ((go_at_call 13; exact Calls.quiet_of_same (HRB.out _ (isReads_drewN H1.out _))))
    go_wp2_with fail
    · go_ret
      exact ⟨rfl, below_drewN HB1.out _⟩
    clear HRB
    have HNq : Hid (NextAt (w1'.drewN nq) w.heap.size Nk nx ny nz) := HNx1.out
    have HBq : Hid (Below w.heap.size w (w1'.drewN nq)) := below_drewN HB1.out nq
    have HIq : Hid (IsReads (w1'.drewN nq) a n K X Y Z) := isReads_drewN H1.out nq
    have HPq : Hid (w.heap.size < (w1'.drewN nq).heap.size) := HP.out
    generalize w1'.drewN nq = wq at HNq HBq HIq HPq ⊢
    clear HB1 HNx1 H1 HP n0 n1 n2 n3
    obtain ⟨n0, n1, n2, n3⟩ := HNq.out
    by_cases h0 : n = 0
    · subst h0
      have HLess : Hid (∀ j, 0 = j + 1 → Op.bytesLess Nk.toList (K j).toList = false) := fun j hj => by omega
      go_quiet (fail)
      go_wp2_with fail
      have HQ := hide (isReads_drewN HIq.out nq)
      have HNx : Hid (NextAt (wq.drewN nq) w.heap.size Nk nx ny nz) := HNq.out
      have HP : Hid (w.heap.size < (wq.drewN nq).heap.size) := HPq.out
      have HB1 := hide (below_drewN HBq.out nq)
      generalize wq.drewN nq = wp at HQ HNx HP HB1 ⊢
      clear HNq HBq HIq HPq n0 n1 n2 n3
      refine (clone_c a 0 cap K X Y Z _ (by omega) HQ.out).mono ?_
      rintro e w3 ⟨⟨a3, c3, rfl, h3⟩, hB3⟩
      have H3 := hide h3
      have HB3 := hide hB3
      clear h3 hB3
      go_wp2_with fail
      refine (toReads_c a3 0 c3 K X Y Z _ (by omega) H3.out).mono ?_
      rintro e w4 ⟨⟨a4, c4, rfl, h4⟩, hB4⟩
      have H4 := hide h4
      have HB4 := hide hB4
      clear h4 hB4
      have hp4 : w.heap.size < w4.heap.size := Nat.lt_of_lt_of_le (Nat.lt_of_lt_of_le HP.out HB3.out.size) HB4.out.size
      have HN4 := hide (nextAt_below HB4.out (Nat.lt_of_lt_of_le HP.out HB3.out.size) (nextAt_below HB3.out HP.out HNx.out))
      obtain ⟨i0, hi, hz0, hz1, hz2⟩ := info_parts Try.info43
      have hmk := fun w => run_make (P := Try.prog) w 29 43 i0 _ Try.underlying29 hi hz0 .i64 .i64 1 1 (by omega) (by omega) (by rw [hz2]; omega) (by omega)
      rw [hz1] at hmk
      simp only [Int.toNat_one] at hmk
      clear hi hz0 hz1 hz2
      go_wp2_with fail
      go_loopw [15] (fun i wr => ∃ k : Nat, k ≤ 0 ∧ i = .int .i64 k ∧ Hid (Recs wr w4.heap.size 0 k K X Y Z) ∧ Hid (Room wr w4.heap.size 1) ∧ Hid (Below w4.heap.size w4 wr) ∧ w4.heap.size < wr.heap.size) (fun i _ => 0 - (intOf i).toNat)
      case atStart => exact ⟨0, Nat.zero_le _, rfl, fun i hi => absurd hi (Nat.not_lt_zero _), room_made _ _ _ _, (Below.refl _ _).alloc (Nat.le_refl _) _, by simp⟩
      case round =>
        obtain ⟨k, hk, rfl, HR, HM, HB, hsz⟩ := hrel
        by_cases hlt : k < 0
        · omega
        · have ek : k = 0 := by omega
          have HR' : Hid (Recs wr w4.heap.size 0 0 K X Y Z) := by have t := HR; rw [ek] at t; exact t
          obtain ⟨n0, n1, n2, n3⟩ := nextAt_below HB.out hp4 HN4.out
          obtain ⟨⟨u0, d0⟩, f0⟩ := HM.out 0 (by omega)
          obtain ⟨⟨u1, d1⟩, f1⟩ := HM.out (1) (by omega)
          obtain ⟨⟨u2, d2⟩, f2⟩ := HM.out (2) (by omega)
          obtain ⟨⟨u3, d3⟩, f3⟩ := HM.out (3) (by omega)
          have HL' := hide (recs_last (N := Nk) (nx := nx) (ny := ny) (nz := nz) HR'.out HM.out)
          clear ek HR
          skip
          go_wp2_with fail
          have HB5 := hide (below_three (wr := put4 wr w4.heap.size 0 Nk nx ny nz) (below_put4 HB.out 0 Nk nx ny nz) (Nat.le_of_lt (by simpa [put4] using hsz)) (Obj.cells #[Value.string S, Value.string E, Value.bool ex, Value.slice a4 0 c4] 32) (Obj.cells #[Value.string S, Value.string E, Value.bool ex, Value.slice (some ⟨w4.heap.size, 0, none⟩) 1 1] 32))
          refine (ZZcovered_c _ wr.heap.size S E ex a4 0 c4 K X Y Z (isRange_fst2 (put4 wr w4.heap.size 0 Nk nx ny nz) S E ex ex _ _ 32 _ (by simp [put4])) (isReads_below HB5.out H4.out) (by omega) HK.out).mono ?_
          rintro e w5 ⟨rfl, q1, rfl⟩
          go_wp2_with fail
          refine (ZZcovered_c _ (wr.heap.size + 1) S E ex (some ⟨w4.heap.size, 0, none⟩) 1 1 (upd K 0 Nk) (upd X 0 nx) (upd Y 0 ny) (upd Z 0 nz) (isRange_drewN (isRange_snd2 (put4 wr w4.heap.size 0 Nk nx ny nz) S E ex ex _ _ 32 _ (by simp [put4])) q1) (isReads_drewN (isReads_own2 HL'.out (by simpa [put4] using hsz) _ _) q1) (by omega) (upd_le HK.out (by omega))).mono ?_
          rintro e w6 ⟨rfl, q2, rfl⟩
          have eok : covOk ex 1 = true := by simp [covOk]
          rw [eok]
          clear eok
          have HBf := hide (fun q => below_drewN ((below_drewN (below_refl0 w) 0).trans ((below_chain HB1.out HB3.out HB4.out).trans (HB5.out.mono (below_size HB1.out HB3.out HB4.out)))) q)
          cases hok : covOk ex 0 with
          | false =>
            go_wp2_with fail
            go_ret
            exact ⟨rfl, HBf.out _⟩
          | true =>
            have hfacts := cov_facts (kk := kk) S E ex 0 K Nk hb2 HK.out HLess.out hok
            generalize covE E ex 0 K = e1 at hfacts ⊢
            generalize covE E ex 1 (upd K 0 Nk) = e2 at hfacts ⊢
            obtain ⟨s1, s2, hlat, hmono⟩ := hfacts
            have HMo := hide hmono
            clear hmono hok
            go_wp2_with fail
            refine (ZZlaterEnd_c _ _ _).mono ?_
            rintro e w7 ⟨rfl, rfl⟩
            have HW1 := hide (fun w => within_c e1 kk w (by unfold maxLen; omega) (by unfold maxLen; omega))
            have HW2 := hide (fun w => within_c e2 kk w (by unfold maxLen; omega) (by unfold maxLen; omega))
            cases hw : withinL e1.toList kk.toList with
            | false =>
              rw [hw] at HW1
              go_wp2_with fail
              refine (HW1.out _).mono ?_
              rintro e w8 ⟨rfl, q3, rfl⟩
              go_wp2_with fail
              go_ret
              exact ⟨rfl, HBf.out _⟩
            | true =>
              have hm := HMo.out hw
              rw [hw] at HW1
              rw [hm] at HW2
              clear hw hm
              go_wp2_with fail
              refine (HW1.out _).mono ?_
              rintro e w8 ⟨rfl, q3, rfl⟩
              go_wp2_with fail
              refine (HW2.out _).mono ?_
              rintro e w9 ⟨rfl, q4, rfl⟩
              go_wp2_with fail
              go_ret
              exact ⟨rfl, HBf.out _⟩

    obtain ⟨m, rfl⟩ : ∃ m, n = m + 1 := ⟨n - 1, by omega⟩
    clear h0
    have hKm := HK.out m (by omega)
    have HL := hide (fun w => lessBytes_c Nk (K m) w (by unfold maxLen; omega) (by unfold maxLen; omega))
    obtain ⟨b0, o0, rfl, hb0, hr0⟩ : ∃ b off, a = some ⟨b, off, none⟩ ∧ b < wq.heap.size ∧ Recs wq b off (m + 1) K X Y Z := by
      rcases HIq.out with h | h
      · omega
      · exact h
    have hc0 := (hr0 m (by omega)).1
    clear hr0
    cases hle : Op.bytesLess Nk.toList (K m).toList with
    | true =>
      rw [hle] at HL
      go_quiet ((go_at_call 18; exact Calls.quiet_of (HL.out _)))
      go_wp2_with fail
      go_ret
      exact ⟨rfl, below_drewN HBq.out _⟩
    | false =>
    have HLess : Hid (∀ j, m + 1 = j + 1 → Op.bytesLess Nk.toList (K j).toList = false) := by
      intro j hj
      have : j = m := by omega
      subst this
      exact hle
    rw [hle] at HL
    clear hle
    go_quiet ((go_at_call 18; exact Calls.quiet_of (HL.out _)))
    go_wp2_with fail
    clear hc0 HL hb0
    have HQ := hide (isReads_drewN HIq.out nq)
    have HNx : Hid (NextAt (wq.drewN nq) w.heap.size Nk nx ny nz) := HNq.out
    have HP : Hid (w.heap.size < (wq.drewN nq).heap.size) := HPq.out
    have HB1 := hide (below_drewN HBq.out nq)
    generalize wq.drewN nq = wp at HQ HNx HP HB1 ⊢
    clear HNq HBq HIq HPq n0 n1 n2 n3
    refine (clone_c (some ⟨b0, o0, none⟩) (m + 1) cap K X Y Z _ (by omega) HQ.out).mono ?_
    rintro e w3 ⟨⟨a3, c3, rfl, h3⟩, hB3⟩
    have H3 := hide h3
    have HB3 := hide hB3
    clear h3 hB3
    go_wp2_with fail
    refine (toReads_c a3 (m + 1) c3 K X Y Z _ (by omega) H3.out).mono ?_
    rintro e w4 ⟨⟨a4, c4, rfl, h4⟩, hB4⟩
    have H4 := hide h4
    have HB4 := hide hB4
    clear h4 hB4
    have hp4 : w.heap.size < w4.heap.size := Nat.lt_of_lt_of_le (Nat.lt_of_lt_of_le HP.out HB3.out.size) HB4.out.size
    have HN4 := hide (nextAt_below HB4.out (Nat.lt_of_lt_of_le HP.out HB3.out.size) (nextAt_below HB3.out HP.out HNx.out))
    obtain ⟨i0, hi, hz0, hz1, hz2⟩ := info_parts Try.info43
    have hmk := fun w => run_make (P := Try.prog) w 29 43 i0 _ Try.underlying29 hi hz0 .i64 .i64 ((m : Int) + 1 + 1) ((m : Int) + 1 + 1) (by omega) (by omega) (by rw [hz2]; omega) (by omega)
    rw [hz1] at hmk
    have em : ((m : Int) + 1 + 1).toNat = m + 1 + 1 := by omega
    simp only [em] at hmk
    clear em
    clear hi hz0 hz1 hz2
    go_wp2_with fail
    go_loopw [15] (fun i wr => ∃ k : Nat, k ≤ (m + 1) ∧ i = .int .i64 k ∧ Hid (Recs wr w4.heap.size 0 k K X Y Z) ∧ Hid (Room wr w4.heap.size ((m + 1) + 1)) ∧ Hid (Below w4.heap.size w4 wr) ∧ w4.heap.size < wr.heap.size) (fun i _ => (m + 1) - (intOf i).toNat)
    case atStart => exact ⟨0, Nat.zero_le _, rfl, fun i hi => absurd hi (Nat.not_lt_zero _), room_made _ _ _ _, (Below.refl _ _).alloc (Nat.le_refl _) _, by simp⟩
    case round =>
      obtain ⟨k, hk, rfl, HR, HM, HB, hsz⟩ := hrel
      by_cases hlt : k < (m + 1)
      · obtain ⟨b4, o4, rfl, hb4, hr4⟩ : ∃ b off, a4 = some ⟨b, off, none⟩ ∧ b < w4.heap.size ∧ Recs w4 b off (m + 1) K X Y Z := by
          rcases H4.out with h | h
          · omega
          · exact h
        obtain ⟨s0, s1, s2, s3⟩ := hr4 k hlt
        have c0 := (HB.out.cell (p := ⟨b4, o4 + k * 4, none⟩) hb4).trans s0
        have c1 := (HB.out.cell (p := ⟨b4, o4 + k * 4 + 1, none⟩) hb4).trans s1
        have c2 := (HB.out.cell (p := ⟨b4, o4 + k * 4 + 2, none⟩) hb4).trans s2
        have c3 := (HB.out.cell (p := ⟨b4, o4 + k * 4 + 3, none⟩) hb4).trans s3
        obtain ⟨⟨u0, d0⟩, f0⟩ := HM.out (k * 4) (by omega)
        obtain ⟨⟨u1, d1⟩, f1⟩ := HM.out (k * 4 + 1) (by omega)
        obtain ⟨⟨u2, d2⟩, f2⟩ := HM.out (k * 4 + 2) (by omega)
        obtain ⟨⟨u3, d3⟩, f3⟩ := HM.out (k * 4 + 3) (by omega)
        clear s0 s1 s2 s3 hr4
        have HS : Hid _ := recs_step (Nat.lt_succ_of_lt hlt) HR.out HM.out
        go_wp2
        go_roundw
        case rel => exact ⟨k + 1, hlt, by go_num, HS.out.1, HS.out.2, below_put4 HB.out _ _ _ _ _, by simpa using hsz⟩
        case measure => simp [intOf]; omega
      · have ek : k = (m + 1) := by omega
        have HR' : Hid (Recs wr w4.heap.size 0 (m + 1) K X Y Z) := by have t := HR; rw [ek] at t; exact t
        obtain ⟨n0, n1, n2, n3⟩ := nextAt_below HB.out hp4 HN4.out
        obtain ⟨⟨u0, d0⟩, f0⟩ := HM.out ((m + 1) * 4) (by omega)
        obtain ⟨⟨u1, d1⟩, f1⟩ := HM.out ((m + 1) * 4 + 1) (by omega)
        obtain ⟨⟨u2, d2⟩, f2⟩ := HM.out ((m + 1) * 4 + 2) (by omega)
        obtain ⟨⟨u3, d3⟩, f3⟩ := HM.out ((m + 1) * 4 + 3) (by omega)
        have HL' := hide (recs_last (N := Nk) (nx := nx) (ny := ny) (nz := nz) HR'.out HM.out)
        clear ek HR
        skip
        go_wp2_with fail
        have HB5 := hide (below_three (wr := put4 wr w4.heap.size ((m + 1)) Nk nx ny nz) (below_put4 HB.out ((m + 1)) Nk nx ny nz) (Nat.le_of_lt (by simpa [put4] using hsz)) (Obj.cells #[Value.string S, Value.string E, Value.bool ex, Value.slice a4 ((m + 1)) c4] 32) (Obj.cells #[Value.string S, Value.string E, Value.bool ex, Value.slice (some ⟨w4.heap.size, 0, none⟩) ((m + 1) + 1) ((m + 1) + 1)] 32))
        refine (ZZcovered_c _ wr.heap.size S E ex a4 ((m + 1)) c4 K X Y Z (isRange_fst2 (put4 wr w4.heap.size ((m + 1)) Nk nx ny nz) S E ex ex _ _ 32 _ (by simp [put4])) (isReads_below HB5.out H4.out) (by omega) HK.out).mono ?_
        rintro e w5 ⟨rfl, q1, rfl⟩
        go_wp2_with fail
        refine (ZZcovered_c _ (wr.heap.size + 1) S E ex (some ⟨w4.heap.size, 0, none⟩) ((m + 1) + 1) ((m + 1) + 1) (upd K ((m + 1)) Nk) (upd X ((m + 1)) nx) (upd Y ((m + 1)) ny) (upd Z ((m + 1)) nz) (isRange_drewN (isRange_snd2 (put4 wr w4.heap.size ((m + 1)) Nk nx ny nz) S E ex ex _ _ 32 _ (by simp [put4])) q1) (isReads_drewN (isReads_own2 HL'.out (by simpa [put4] using hsz) _ _) q1) (by omega) (upd_le HK.out (by omega))).mono ?_
        rintro e w6 ⟨rfl, q2, rfl⟩
        have eok : covOk ex ((m + 1) + 1) = true := by simp [covOk]
        rw [eok]
        clear eok
        have HBf := hide (fun q => below_drewN ((below_drewN (below_refl0 w) 0).trans ((below_chain HB1.out HB3.out HB4.out).trans (HB5.out.mono (below_size HB1.out HB3.out HB4.out)))) q)
        cases hok : covOk ex ((m + 1)) with
        | false =>
          go_wp2_with fail
          go_ret
          exact ⟨rfl, HBf.out _⟩
        | true =>
          have hfacts := cov_facts (kk := kk) S E ex ((m + 1)) K Nk hb2 HK.out HLess.out hok
          generalize covE E ex ((m + 1)) K = e1 at hfacts ⊢
          generalize covE E ex ((m + 1) + 1) (upd K ((m + 1)) Nk) = e2 at hfacts ⊢
          obtain ⟨s1, s2, hlat, hmono⟩ := hfacts
          have HMo := hide hmono
          clear hmono hok
          go_wp2_with fail
          refine (ZZlaterEnd_c _ _ _).mono ?_
          rintro e w7 ⟨rfl, rfl⟩
          have HW1 := hide (fun w => within_c e1 kk w (by unfold maxLen; omega) (by unfold maxLen; omega))
          have HW2 := hide (fun w => within_c e2 kk w (by unfold maxLen; omega) (by unfold maxLen; omega))
          cases hw : withinL e1.toList kk.toList with
          | false =>
            rw [hw] at HW1
            go_wp2_with fail
            refine (HW1.out _).mono ?_
            rintro e w8 ⟨rfl, q3, rfl⟩
            go_wp2_with fail
            go_ret
            exact ⟨rfl, HBf.out _⟩
          | true =>
            have hm := HMo.out hw
            rw [hw] at HW1
            rw [hm] at HW2
            clear hw hm
            go_wp2_with fail
            refine (HW1.out _).mono ?_
            rintro e w8 ⟨rfl, q3, rfl⟩
            go_wp2_with fail
            refine (HW2.out _).mono ?_
            rintro e w9 ⟨rfl, q4, rfl⟩
            go_wp2_with fail
            go_ret
            exact ⟨rfl, HBf.out _⟩

end Go.Proofs.Qxb6601246a
