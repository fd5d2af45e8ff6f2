/-
  The walk of 'FnNewWindowHoldsExactlyItsBuckets' (4), seat b6614286a.
-/
import Derived.Test.Qxb6614286aW3
namespace Go.Proofs.Qxb6614286a
open Go.RowKit

/-- What holds of the window behind j puts. -/
structure Inv4 (n : Nat) (N : Int) (j : Nat) (st : WSt) : Prop where
  nw : st.nw = N
  pv : st.pv = 0
  ct : st.ct * 2 = (j : Int) * (j + 1)
  buckets : ∀ d, d ≤ n → bS n st d = (if d < j then floatOfInt .f64 ((d : Int) + 1) else 0) ∧ bC n st d = (if d < j then (d : Int) + 1 else 0)

theorem bd_i64 {x : Int} (h : (Lit.int .i64 x).wf = true) : -9223372036854775808 ≤ x ∧ x ≤ 9223372036854775807 := by
  simp [Lit.wf, IntKind.min, IntKind.max, IntKind.signed, IntKind.bits] at h
  omega

theorem inv4_start (n : Nat) (N x : Int) : Inv4 n N 0 { st0 x 0 with nw := N, pv := 0 } :=
  ⟨rfl, rfl, by simp [st0], fun d _ => by simp [bS, bC, st0]⟩

theorem inv4_step {n : Nat} {N : Int} {j r : Nat} {st : WSt} (hn : n ≤ 65535) (h : Inv4 n N j st) (hj : j ≤ n) (hr : FAdd (bS n st j) (floatOfInt .f64 ((j : Int) + 1)) r) : Inv4 n N (j + 1) (putJ n st j r ((j : Int) + 1)) := by
  have hpv := h.pv
  have h3 : 0 ≤ st.pv := by omega
  have h4 : st.pv < n ∨ n = 0 := by omega
  have hb0 := (h.buckets j hj).1
  have hc0 := (h.buckets j hj).2
  rw [if_neg (by omega)] at hb0 hc0
  rw [hb0] at hr
  have hz := zero_add_float (j + 1) (by omega) (by omega)
  have ej : ((j + 1 : Nat) : Int) = (j : Int) + 1 := by omega
  rw [ej] at hz
  have er : r = floatOfInt .f64 ((j : Int) + 1) := by
    rcases hr with hr | ⟨hr, _⟩
    · rw [hz] at hr; cases hr; rfl
    · rw [hz] at hr; cases hr
  have hjj : (j : Int) * (j + 1) ≤ 65535 * 65536 := Int.mul_le_mul (by omega) (by omega) (by omega) (by omega)
  have hjj0 : 0 ≤ (j : Int) * (j + 1) := Int.mul_nonneg (by omega) (by omega)
  have hct := h.ct
  have ew : wrap64 (st.ct + ((j : Int) + 1)) = st.ct + ((j : Int) + 1) := IntWalk.wrap64_in _ ⟨by omega, by omega⟩
  refine ⟨(putJ_nw ..).trans h.nw, (putJ_pv ..).trans h.pv, ?_, fun d hd => ?_⟩
  · rw [putJ_ct, ew, ej]
    have e1 : ((j : Int) + 1) * ((j : Int) + 1 + 1) = (j : Int) * (j + 1) + 2 * (j + 1) := by
      rw [Int.add_mul, Int.one_mul, Int.mul_add (j : Int) (j + 1) 1, Int.mul_one]; omega
    rw [e1]; omega
  · rw [bS_put hj hd h3 h4, bC_put hj hd h3 h4]
    obtain ⟨g1, g2⟩ := h.buckets d hd
    by_cases e : d = j
    · subst e
      rw [if_pos rfl, if_pos rfl, if_pos (by omega), if_pos (by omega), er, hc0]
      exact ⟨rfl, by rw [IntWalk.wrap64_in _ ⟨by omega, by omega⟩]; omega⟩
    · rw [if_neg e, if_neg e, g1, g2]
      by_cases hdj : d < j
      · rw [if_pos hdj, if_pos hdj, if_pos (by omega), if_pos (by omega)]; exact ⟨rfl, rfl⟩
      · rw [if_neg hdj, if_neg hdj, if_neg (by omega), if_neg (by omega)]; exact ⟨rfl, rfl⟩

theorem below_drewN {B : Nat} {a w : World} (h : Below B a w) (n : Nat) : Below B a (w.drewN n) := ⟨h.os, h.tape, h.output, h.size, h.block⟩

theorem inv4_front {n : Nat} {N : Int} {st : WSt} (h : Inv4 n N (n + 1) st) : (FloatKind.f64.format.order st.fs 4607182418800017408 != some .eq) = false := by
  have h0 := (h.buckets 0 (Nat.zero_le _)).1
  have e : st.fs = floatOfInt .f64 1 := by simpa [bS] using h0
  have ho : FloatKind.f64.format.order (floatOfInt .f64 1) (floatOfInt .f64 1) = some .eq := order_self (float_not_nan 1 (by omega) (by omega))
  rw [← float_one, e, ho]
  rfl

theorem inv4_fc {n : Nat} {N : Int} {st : WSt} (h : Inv4 n N (n + 1) st) : (st.fc != 1) = false := by
  have h0 := (h.buckets 0 (Nat.zero_le _)).2
  have e : st.fc = 1 := by simpa [bC] using h0
  rw [e]; rfl

theorem inv4_ring {n : Nat} {N : Int} {st : WSt} {i m : Nat} (h : Inv4 n N (n + 1) st) (hi : i < n) (hm : (m : Int) = (1 + (i : Int)) % n) : m < n ∧ st.S m = floatOfInt .f64 ((n : Int) - i + 1) ∧ st.C m = (n : Int) - i + 1 := by
  have hpv := h.pv
  obtain ⟨a, b, c⟩ := older_ring (n := n) (st := st) (i := i) (m := m) hi (by omega) (by omega) (by rw [hpv, hm, Int.zero_add])
  obtain ⟨g1, g2⟩ := h.buckets (n - i) (by omega)
  rw [if_pos (by omega)] at g1 g2
  have e : ((n - i : Nat) : Int) = (n : Int) - i := by omega
  rw [e] at g1 g2
  exact ⟨a, b.trans g1, c.trans g2⟩

theorem inv4_same {n i : Nat} (hn : n ≤ 65535) (hi : i < n) : (FloatKind.f64.format.order (floatOfInt .f64 ((n : Int) - i + 1)) (floatOfInt .f64 ((n : Int) - i + 1)) != some .eq) = false := by
  have e : (n : Int) - i + 1 = ((n - i + 1 : Nat) : Int) := by omega
  rw [e, order_self (float_not_nan _ (by omega) (by omega))]
  rfl

theorem inv4_total {n : Nat} {N : Int} {st : WSt} (hn : n ≤ 65535) (h : Inv4 n N (n + 1) st) : (st.ct == wrap64 ((wrap64 (((n : Int) + 1) * ((n : Int) + 1 + 1))).tdiv 2)) = true := by
  have hct := h.ct
  have e : (((n + 1 : Nat) : Int)) = (n : Int) + 1 := by omega
  rw [e] at hct
  have hb : ((n : Int) + 1) * ((n : Int) + 1 + 1) ≤ 65536 * 65537 := Int.mul_le_mul (by omega) (by omega) (by omega) (by omega)
  have hb0 : 0 ≤ ((n : Int) + 1) * ((n : Int) + 1 + 1) := Int.mul_nonneg (by omega) (by omega)
  generalize ((n : Int) + 1) * ((n : Int) + 1 + 1) = q at *
  rw [IntWalk.wrap64_in q ⟨by omega, by omega⟩, Int.tdiv_eq_ediv_of_nonneg hb0, IntWalk.wrap64_in _ ⟨by omega, by omega⟩]
  have : st.ct = q / 2 := by omega
  rw [this]; simp

set_option maxRecDepth 100000 in
set_option maxHeartbeats 1000000 in
theorem law4_in (n : Nat) (wd N : Int) (w : World) (hn : n ≤ 65535) (hw1 : 1 ≤ wd) (hw2 : wd ≤ 9223372036854775807) (hN1 : -9223372036854775808 + (n : Int) ≤ N) (hN2 : N ≤ 9223372036854775807) :
    Calls Try.prog 4 #[.int .i64 ((n : Int) + 1), .int .i64 wd, .int .i64 N] w fun e w' => e = .returned (.bool true) ∧ Below w.heap.size w w' := by
  have H9 := newWindow9 n wd w (by omega) hw1 hw2
  have hd1 : decide ((n : Int) + 1 < 1) = false := decide_eq_false (by omega)
  have hd2 : decide ((65536 : Int) < (n : Int) + 1) = false := decide_eq_false (by omega)
  go_enter Try.func4, Try.ntmps4
  go_wp2_with fail
  refine H9.mono ?_
  rintro e w1 ⟨⟨W, O, rfl, hW, hO, hwin⟩, hb1⟩
  clear H9
  go_wp2_with fail
  refine (olderLen10 W O n _ w1 hwin).mono ?_
  rintro e w' ⟨rfl, rfl⟩
  go_wp2_with fail
  refine (setAt11 W O n _ N 0 w1 hwin).mono ?_
  rintro e w2 ⟨rfl, hwin2, ht2⟩
  have hbel2 : Below w.heap.size w w2 := hb1.trans (ht2.below hW hO)
  clear hwin ht2 hb1
  go_wp2
  go_loopw [9] (fun i wr => ∃ (j : Nat) (st : WSt), j ≤ n + 1 ∧ i = .int .i64 j ∧ WinIs wr W O n st ∧ Inv4 n N j st ∧ Below w.heap.size w wr) (fun i _ => n + 1 - (intOf i).toNat)
  case atStart => exact ⟨0, _, Nat.zero_le _, rfl, hwin2, inv4_start n N _, hbel2⟩
  case round =>
    obtain ⟨j, st, hj, rfl, hwin, hinv, hbel⟩ := hrel
    clear hwin2 hbel2
    by_cases hlt : j < n + 1
    · go_wp2_with fail
      refine (zzput12 W O n st j _ _ _ wr hwin (by omega) (by omega) (by rw [hinv.nw]) (by rw [hinv.pv]; omega) (by rw [hinv.pv]; omega) (by omega) (by rw [hinv.nw]; exact hN2)).mono ?_
      rintro e w3 ⟨rfl, r, hr, hwin3, ht3⟩
      have hbel3 : Below w.heap.size w w3 := hbel.trans (ht3.below hW hO)
      have hinv3 := inv4_step hn hinv (by omega) hr
      clear hwin hinv hbel ht3 hr
      go_wp2
      go_roundw
      case rel => exact ⟨j + 1, _, by omega, by go_num, hwin3, hinv3, hbel3⟩
      case measure => simp [intOf]; omega
    · obtain rfl : j = n + 1 := by omega
      have hfs : (FloatKind.f64.format.order st.fs 4607182418800017408 != some .eq) = false := inv4_front hinv
      have hfc : (st.fc != 1) = false := inv4_fc hinv
      go_wp2_with fail
      refine (front13 W O n st wr hwin).mono ?_
      rintro e w3 ⟨rfl, m3, rfl⟩
      go_wp2
      go_loopw [12] (fun i wv => ∃ i' : Nat, i' ≤ n ∧ i = .int .i64 i' ∧ WinIs wv W O n st ∧ Below w.heap.size w wv) (fun i _ => n - (intOf i).toNat)
      case atStart => exact ⟨0, Nat.zero_le _, rfl, hwin.drewN _, below_drewN hbel _⟩
      case round =>
        obtain ⟨i, hi, rfl, hwin2, hbel2⟩ := hrel
        clear hwin hbel
        by_cases hlt2 : i < n
        · obtain ⟨m, hm⟩ : ∃ m : Nat, (m : Int) = (1 + (i : Int)) % (n : Int) := ⟨((1 + (i : Int)) % (n : Int)).toNat, Int.toNat_of_nonneg (Int.emod_nonneg _ (by omega))⟩
          obtain ⟨hmn, hS, hC⟩ := inv4_ring hinv hlt2 hm
          have hbC : (st.C m != (n : Int) - i + 1) = false := by rw [hC]; simp
          have hbS : (FloatKind.f64.format.order (st.S m) (floatOfInt .f64 ((n : Int) - i + 1)) != some .eq) = false := by rw [hS]; exact inv4_same hn hlt2
          have Hm : Hid ((m : Int) = (1 + (i : Int)) % (n : Int)) := hm
          clear hS hC hfs hfc hm
          go_wp2_with fail
          rw [← Hm.out]
          refine (older14 W O n st m _ hwin2 hmn).mono ?_
          rintro e w4 ⟨rfl, m4, rfl⟩
          clear Hm
          go_wp2
          go_roundw
          case rel => exact ⟨i + 1, by omega, by go_num, hwin2.drewN _, below_drewN hbel2 _⟩
          case measure => simp [intOf]; omega
        · go_wp2_with fail
          refine (count15 W O n st _ hwin2).mono ?_
          rintro e w4 ⟨rfl, rfl⟩
          go_wp2
          go_ret
          refine ⟨?_, hbel2⟩
          show Ending.returned (Value.bool (st.ct == wrap64 ((wrap64 (((n : Int) + 1) * ((n : Int) + 1 + 1))).tdiv 2))) = _
          rw [inv4_total hn hinv]

set_option maxRecDepth 100000 in
set_option maxHeartbeats 1000000 in
theorem law4 (a0 a1 a2 : Int) (w0 : (Lit.int .i64 a0).wf = true) (w1 : (Lit.int .i64 a1).wf = true) (w2 : (Lit.int .i64 a2).wf = true) (w : World) :
    Calls Try.prog 4 #[.int .i64 a0, .int .i64 a1, .int .i64 a2] w fun e w' => e = .returned (.bool true) ∧ Below w.heap.size w w' := by
  obtain ⟨l0, u0⟩ := bd_i64 w0
  obtain ⟨l1, u1⟩ := bd_i64 w1
  obtain ⟨l2, u2⟩ := bd_i64 w2
  clear w0 w1 w2
  by_cases h1 : a0 < 1
  · have hd : decide (a0 < 1) = true := decide_eq_true h1
    go_enter Try.func4, Try.ntmps4
    go_wp2
    go_ret
    exact ⟨rfl, Below.refl _ _⟩
  · have hd : decide (a0 < 1) = false := decide_eq_false h1
    by_cases h2 : 65536 < a0
    · have hd2 : decide (65536 < a0) = true := decide_eq_true h2
      go_enter Try.func4, Try.ntmps4
      go_wp2
      go_ret
      exact ⟨rfl, Below.refl _ _⟩
    · have hd2 : decide (65536 < a0) = false := decide_eq_false h2
      by_cases h3 : a1 < 1
      · go_enter Try.func4, Try.ntmps4
        go_wp2
        go_ret
        exact ⟨rfl, Below.refl _ _⟩
      · by_cases h4 : a2 < -9223372036854775808 + (a0 - 1)
        · go_enter Try.func4, Try.ntmps4
          go_wp2
          go_ret
          exact ⟨rfl, Below.refl _ _⟩
        · obtain ⟨n, rfl⟩ : ∃ n : Nat, a0 = (n : Int) + 1 := ⟨(a0 - 1).toNat, by omega⟩
          exact law4_in n a1 a2 w (by omega) (by omega) u1 (by omega) u2

end Go.Proofs.Qxb6614286a
