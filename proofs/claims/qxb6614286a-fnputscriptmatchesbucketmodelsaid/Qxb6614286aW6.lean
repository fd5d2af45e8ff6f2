/-
  The walk of 'FnPutIsOrderFreeAndKeepsTotal' (6), seat b6614286a.
-/
import Derived.Test.Qxb6614286aPl
import Derived.Deep.RegionHeld3
namespace Go.Proofs.Qxb6614286a
open Go.RowKit

/-- What the walk is told of a script of puts that came in: three cells each. -/
def IsOps (w : World) (a : Option Addr) (len : Nat) (K : Nat → Int) (V : Nat → Nat) (C : Nat → Int) : Prop :=
  len ≤ maxLen ∧ (∀ i, i < len → -9223372036854775808 ≤ K i ∧ K i ≤ 9223372036854775807) ∧
  (len = 0 ∨ ∃ b off, b < w.heap.size ∧ a = some ⟨b, off, none⟩ ∧ ∀ i, i < len → w.cell? ⟨b, off + i * 3, none⟩ = some (.int .i64 (K i)) ∧ w.cell? ⟨b, off + i * 3 + 1, none⟩ = some (.float .f64 (V i)) ∧ w.cell? ⟨b, off + i * 3 + 2, none⟩ = some (.int .i64 (C i)))

def RetBool (e : Ending) : Prop := ∃ r : Bool, e = .returned (.bool r)
theorem RetBool.mk (r : Bool) : RetBool (.returned (.bool r)) := ⟨r, rfl⟩

set_option maxHeartbeats 400000 in
theorem bytes18 (a0 a1 a2 : Int) (a : Option Addr) (len cap : Nat) (w : World) (hlen : len ≤ maxLen) :
    Calls Try.prog 18 #[.int .i64 a0, .int .i64 a1, .int .i64 a2, .slice a len cap] w fun e w' => RetBool e ∧ w = w' := by
  unfold maxLen at hlen
  by_cases h : len ≤ 1048576
  · go_enter Try.func18, Try.ntmps18
    go_wp2
    all_goals (go_ret; exact ⟨RetBool.mk _, rfl⟩)
  · go_enter Try.func18, Try.ntmps18
    go_wp2
    all_goals (go_ret; exact ⟨RetBool.mk _, rfl⟩)

theorem u64_sub (N k : Int) (h1 : k ≤ N) (h2 : -9223372036854775808 ≤ k) (h3 : N ≤ 9223372036854775807) : IntKind.u64.wrap (IntKind.u64.wrap N - IntKind.u64.wrap k) = N - k := by
  rw [IntKind.wrap_u64, IntKind.wrap_u64, IntKind.wrap_u64]; omega

/-- All puts of the script lie inside the window. -/
def InWin (n : Nat) (N : Int) (K : Nat → Int) (j : Nat) : Prop := ∀ m, m < j → K m ≤ N ∧ N - K m ≤ n
theorem inWin_succ {n : Nat} {N : Int} {K : Nat → Int} {j : Nat} (h : InWin n N K j) (h1 : K j ≤ N) (h2 : N - K j ≤ n) : InWin n N K (j + 1) := fun m hm => by
  by_cases e : m = j
  · subst e; exact ⟨h1, h2⟩
  · exact h m (by omega)

/-- How far put m lies before the newest bucket. -/
def dist (N : Int) (K : Nat → Int) (m : Nat) : Nat := (N - K m).toNat

theorem dist_le {n : Nat} {N : Int} {K : Nat → Int} {j : Nat} (h1 : K j ≤ N) (h2 : N - K j ≤ n) : dist N K j ≤ n := by unfold dist; omega

theorem below_drewN {B : Nat} {a w : World} (h : Below B a w) (n : Nat) : Below B a (w.drewN n) := ⟨h.os, h.tape, h.output, h.size, h.block⟩

theorem wrap_wrap (x : Int) : wrap64 (wrap64 x) = wrap64 x := by unfold wrap64; omega

theorem inv6_fc {n : Nat} {N q : Int} {d : Nat → Nat} {g : (Nat → Bool) → Int} {st : WSt} (h : Inv6 n N q d g st) : wrap64 (st.fc + sumC st.C 0) = st.fc := by
  show wrap64 (st.fc + 0) = st.fc
  rw [Int.add_zero, h.fc, wrap_wrap]

theorem sumC_step (x : Int) (C : Nat → Int) (j : Nat) : wrap64 (wrap64 (x + sumC C j) + C j) = wrap64 (x + sumC C (j + 1)) := by
  rw [wrap_add_left]
  show _ = wrap64 (x + (sumC C j + C j))
  congr 1; omega

theorem inv6_same {n : Nat} {N q : Int} {d : Nat → Nat} {C : Nat → Int} {len : Nat} {st1 st2 : WSt} (h1 : Inv6 n N q d (fun p => selSum p C len) st1) (h2 : Inv6 n N q d (fun p => selSum p C len - selSum p C 0) st2) :
    st1.fc = st2.fc ∧ ∀ s, s < n → st1.C s = st2.C s := by
  have e : ∀ p, selSum p C len - selSum p C 0 = selSum p C len := fun p => by simp only [selSum]; omega
  exact ⟨by rw [h1.fc, h2.fc, e], fun s hs => by rw [h1.C s hs, h2.C s hs, e]⟩

theorem touch_cell {W O : Nat} {w w' : World} (h : Touch W O w w') {b o : Nat} (h1 : b ≠ W) (h2 : b ≠ O) : w'.cell? ⟨b, o, none⟩ = w.cell? ⟨b, o, none⟩ := World.cell?_of_block (w := w) (h.block b h1 h2)

theorem put_of {n : Nat} {N q : Int} {K : Nat → Int} {g : (Nat → Bool) → Int} {st : WSt} {W O j v : Nat} {c : Int} (hn : n ≤ 65535) (hv : Inv6 n N q (dist N K) g st) (i1 : K j ≤ N) (i2 : N - K j ≤ n) (hq1 : 0 ≤ q) (hq2 : q < n ∨ n = 0) (hN2 : N ≤ 9223372036854775807)
    (k0 : -9223372036854775808 ≤ K j) :
    ∀ wx, WinIs wx W O n st → Calls Try.prog 12 #[.pointer (some ⟨W, 0, none⟩), .int .i64 (K j), .float .f64 v, .int .i64 c] wx fun e w' => RetPut wx w' W O n st (dist N K j) v c e := fun wx h => by
  have h1 := hv.nw
  have h2 := hv.pv
  have hd : ((dist N K j : Nat) : Int) = N - K j := by unfold dist; omega
  exact zzput12 W O n st (dist N K j) (K j) v c wx h (by omega) (by omega) (by omega) (by omega) (by omega) k0 (by omega)

set_option maxRecDepth 100000 in
set_option maxHeartbeats 2000000 in
theorem law6_in (n : Nat) (N q : Int) (a : Option Addr) (len cap : Nat) (K : Nat → Int) (V : Nat → Nat) (C : Nat → Int) (w : World) (hn : n ≤ 65535) (_hN1 : -9223372036854775808 ≤ N) (hN2 : N ≤ 9223372036854775807)
    (hlen : len ≤ 43690) (hq1 : 0 ≤ q) (hq2 : q < n ∨ n = 0)
    (hz : (((n : Int) == 0) = true ∧ (q != 0) = false) ∨ (((n : Int) == 0) = false ∧ decide ((n : Int) ≤ q) = false))
    (hK : ∀ i, i < len → -9223372036854775808 ≤ K i ∧ K i ≤ 9223372036854775807)
    (hc : len = 0 ∨ ∃ b off, b < w.heap.size ∧ a = some ⟨b, off, none⟩ ∧ ∀ i, i < len → w.cell? ⟨b, off + i * 3, none⟩ = some (.int .i64 (K i)) ∧ w.cell? ⟨b, off + i * 3 + 1, none⟩ = some (.float .f64 (V i)) ∧ w.cell? ⟨b, off + i * 3 + 2, none⟩ = some (.int .i64 (C i))) :
    Calls Try.prog 6 #[.int .i64 ((n : Int) + 1), .int .i64 N, .int .i64 q, .slice a len cap] w fun e w' => e = .returned (.bool true) ∧ Below w.heap.size w w' := by
  have H18 := bytes18 ((n : Int) + 1) N q a len cap w (by unfold maxLen; omega)
  have hd1 : decide ((n : Int) + 1 < 1) = false := decide_eq_false (by omega)
  have hd2 : decide ((65536 : Int) < (n : Int) + 1) = false := decide_eq_false (by omega)
  have hd3 : decide (q < 0) = false := decide_eq_false (by omega)
  have HC : Hid (len = 0 ∨ ∃ b off, b < w.heap.size ∧ a = some ⟨b, off, none⟩ ∧ ∀ i, i < len → w.cell? ⟨b, off + i * 3, none⟩ = some (.int .i64 (K i)) ∧ w.cell? ⟨b, off + i * 3 + 1, none⟩ = some (.float .f64 (V i)) ∧ w.cell? ⟨b, off + i * 3 + 2, none⟩ = some (.int .i64 (C i))) := hc
  have HK : Hid (∀ i, i < len → -9223372036854775808 ≤ K i ∧ K i ≤ 9223372036854775807) := hK
  have HQ2 : Hid (q < n ∨ n = 0) := hq2
  clear hc hK hq2
  rcases hz with ⟨hz1, hz2⟩ | ⟨hz1, hz2⟩
  all_goals
    go_enter Try.func6, Try.ntmps6
    go_wp2_with fail
    refine H18.mono ?_
    rintro e w' ⟨⟨r, rfl⟩, rfl⟩
    clear H18
    cases r with
    | false =>
      clear HC HK
      go_wp2
      go_ret
      exact ⟨rfl, Below.refl _ _⟩
    | true =>
      go_wp2
      clear hz1 hz2 hd1 hd2 hd3
      go_loop [10] (fun i => ∃ j : Nat, j ≤ len ∧ i = .int .i64 j ∧ InWin n N K j) (fun i => len - (intOf i).toNat)
      case atStart => exact ⟨0, Nat.zero_le _, rfl, fun m hm => absurd hm (Nat.not_lt_zero _)⟩
      case round =>
        obtain ⟨j, hj, rfl, hin⟩ := hrel
        by_cases hlt : j < len
        · obtain ⟨k0, k1⟩ := HK j hlt
          rcases HC.out with h0 | ⟨b, off, hb, rfl, hc⟩
          · omega
          obtain ⟨c0, c1, c2⟩ := hc j hlt
          clear hc
          by_cases hKN : N < K j
          · have hb1 : decide (N < K j) = true := decide_eq_true hKN
            clear HC HK hin c1 c2
            go_wp2
            go_ret
            exact ⟨rfl, Below.refl _ _⟩
          · have hb1 : decide (N < K j) = false := decide_eq_false hKN
            have hu := u64_sub N (K j) (by omega) k0 hN2
            by_cases hD : N - K j ≤ n
            · have hin' := inWin_succ hin (by omega) hD
              clear HC HK c1 c2 hin
              go_wp2
              go_round
              case rel => exact ⟨j + 1, by omega, by go_num, hin'⟩
              case measure => simp [intOf]; omega
            · clear HC HK c1 c2 hin
              go_wp2
              go_ret
              exact ⟨rfl, Below.refl _ _⟩
        · obtain rfl : len = j := by omega
          have H9 := newWindow9 n 1 w (by omega) (by omega) (by omega)
          go_wp2_with fail
          refine H9.mono ?_
          rintro e w1 ⟨⟨W1, O1, rfl, hW1, hO1, hwin1⟩, hb1⟩
          clear H9
          have H9 := newWindow9 n 1 w1 (by omega) (by omega) (by omega)
          go_wp2_with fail
          refine H9.mono ?_
          rintro e w2 ⟨⟨W2, O2, rfl, hW2, hO2, hwin2⟩, hb2⟩
          clear H9
          obtain ⟨lW1, lO1⟩ := hwin1.lt
          have hwin1' := hwin1.below hb2
          clear hwin1
          have hb3 : Below w.heap.size w w2 := hb1.trans (hb2.mono hb1.size)
          have hs1 := hb1.size
          clear hb1 hb2
          have ne1 : W1 ≠ W2 := by omega
          have ne2 : W1 ≠ O2 := by omega
          have ne3 : O1 ≠ W2 := by omega
          have ne4 : O1 ≠ O2 := by omega
          go_wp2_with fail
          refine (olderLen10 W1 O1 n _ w2 hwin1').mono ?_
          rintro e w' ⟨rfl, rfl⟩
          go_wp2_with fail
          refine (olderLen10 W2 O2 n _ w2 hwin2).mono ?_
          rintro e w' ⟨rfl, rfl⟩
          go_wp2_with fail
          refine (setAt11 W1 O1 n _ N q w2 hwin1').mono ?_
          rintro e w3 ⟨rfl, hwin13, ht3⟩
          have hwin23 := hwin2.other ht3 (Ne.symm ne1) (Ne.symm ne3) (Ne.symm ne2) (Ne.symm ne4)
          have hb4 : Below w.heap.size w w3 := hb3.trans (ht3.below (by omega) (by omega))
          clear hwin1' hwin2 ht3 hb3
          go_wp2_with fail
          refine (setAt11 W2 O2 n _ N q w3 hwin23).mono ?_
          rintro e w4 ⟨rfl, hwin24, ht4⟩
          have hwin14 := hwin13.other ht4 ne1 ne2 ne3 ne4
          have hb5 : Below w.heap.size w w4 := hb4.trans (ht4.below (by omega) (by omega))
          clear hwin13 hwin23 ht4 hb4
          have hi1 := inv6_start n N q (-9223372036854775808) (dist N K)
          go_wp2
          go_loopw [13, 14] (fun z i wr => ∃ (j : Nat) (st1 : WSt), j ≤ len ∧ i = .int .i64 j ∧ z = .int .i64 (wrap64 (selSum (fun _ => true) C j)) ∧ WinIs wr W1 O1 n st1 ∧ Inv6 n N q (dist N K) (fun p => selSum p C j) st1 ∧
              WinIs wr W2 O2 n { st0 (-9223372036854775808) 0 with nw := N, pv := q } ∧ Below w.heap.size w wr) (fun _ i _ => len - (intOf i).toNat)
          case atStart => exact ⟨0, _, Nat.zero_le _, rfl, by rw [show selSum (fun _ => true) C 0 = 0 from rfl, wrap_zero], hwin14, hi1, hwin24, hb5⟩
          case round =>
            obtain ⟨j, st1, hj, rfl, rfl, hw1, hv1, hw2, hbel⟩ := hrel
            clear hwin14 hwin24 hb5
            by_cases hlt2 : j < len
            · rcases HC.out with h0 | ⟨b, off, hb, rfl, hc⟩
              · omega
              obtain ⟨c0, c1, c2⟩ := hc j hlt2
              clear hc
              have e0 : wr.cell? ⟨b, off + j * 3, none⟩ = some (.int .i64 (K j)) := (hbel.cell (p := ⟨b, off + j * 3, none⟩) hb).trans c0
              have e1 : wr.cell? ⟨b, off + j * 3 + 1, none⟩ = some (.float .f64 (V j)) := (hbel.cell (p := ⟨b, off + j * 3 + 1, none⟩) hb).trans c1
              have e2 : wr.cell? ⟨b, off + j * 3 + 2, none⟩ = some (.int .i64 (C j)) := (hbel.cell (p := ⟨b, off + j * 3 + 2, none⟩) hb).trans c2
              obtain ⟨i1, i2⟩ := hin j hlt2
              have HP : ∀ wx, WinIs wx W1 O1 n st1 → Calls Try.prog 12 #[.pointer (some ⟨W1, 0, none⟩), .int .i64 (K j), .float .f64 (V j), .int .i64 (C j)] wx fun e w' => RetPut wx w' W1 O1 n st1 (dist N K j) (V j) (C j) e :=
                put_of hn hv1 i1 i2 hq1 HQ2.out hN2 (HK j hlt2).1
              have ji : (j : Int) < (len : Int) := by omega
              have nb1 : b ≠ W1 := by omega
              have nb2 : b ≠ O1 := by omega
              clear c0 c1 c2
              go_wp2
              go_region_held3 (fun w' => w'.cell? ⟨b, off + j * 3, none⟩ = some (.int .i64 (K j)) ∧ w'.cell? ⟨b, off + j * 3 + 1, none⟩ = some (.float .f64 (V j)) ∧ w'.cell? ⟨b, off + j * 3 + 2, none⟩ = some (.int .i64 (C j)))
                (first | exact ⟨e0, e1, e2⟩ | exact ⟨(touch_cell ht5 nb1 nb2).trans e0, (touch_cell ht5 nb1 nb2).trans e1, (touch_cell ht5 nb1 nb2).trans e2⟩)
                (first | (go_at_call 12; refine (HP _ (by exact hw1.drew)).mono ?_; rintro e w5 ⟨rfl, r, hr, hwin5, ht5⟩))
              have hv5 := inv6_step (m := j) (r := r) (c := C j) hv1 (dist_le i1 i2) hq1 HQ2.out
              have hw25 := hw2.drew.other ht5 (Ne.symm ne1) (Ne.symm ne3) (Ne.symm ne2) (Ne.symm ne4)
              have hbel5 : Below w.heap.size w w5 := hbel.drew.trans (ht5.below (by omega) (by omega))
              clear HP hr ht5 hw1 hw2 hv1 hbel e0 e1 e2 i1 i2
              go_wp2
              go_roundw
              case rel => exact ⟨j + 1, _, by omega, by go_num, by rw [wrap_add_left]; simp [selSum], hwin5, hv5, hw25, hbel5⟩
              case measure => simp [intOf]; omega
            · obtain rfl : len = j := by omega
              have hi2 := inv6_congr (g' := fun p => selSum p C len - selSum p C len) (inv6_start n N q (-9223372036854775808) (dist N K)) (fun p => by omega)
              go_wp2
              go_loopw [15] (fun i wv => ∃ (j : Nat) (st2 : WSt), j ≤ len ∧ i = .int .i64 ((j : Int) - 1) ∧ WinIs wv W1 O1 n st1 ∧ WinIs wv W2 O2 n st2 ∧ Inv6 n N q (dist N K) (fun p => selSum p C len - selSum p C j) st2 ∧ Below w.heap.size w wv) (fun i _ => (intOf i + 1).toNat)
              case atStart => exact ⟨len, _, Nat.le_refl _, rfl, hw1, hw2, hi2, hbel⟩
              case round =>
                obtain ⟨j, st2, hj2, rfl, hx1, hx2, hv2, hbel2⟩ := hrel
                clear hw1 hw2 hbel hi2
                cases j with
                | zero =>
                  rw [show ((0 : Nat) : Int) - 1 = -1 from rfl]
                  obtain ⟨hfc, hCs⟩ := inv6_same hv1 hv2
                  have f1 : (st1.fc != st2.fc) = false := by rw [hfc]; simp
                  have g1 : wrap64 (st1.fc + sumC st1.C 0) = st1.fc := inv6_fc hv1
                  have g2 : wrap64 (st2.fc + sumC st2.C 0) = st2.fc := inv6_fc hv2
                  have t1 : (st1.ct == wrap64 (st1.fc + sumC st1.C n)) = true := by rw [hv1.tot]; simp
                  have t2 : (st2.ct == wrap64 (st2.fc + sumC st2.C n)) = true := by rw [hv2.tot]; simp
                  have t3 : (wrap64 (st1.fc + sumC st1.C n) == wrap64 (selSum (fun _ => true) C len)) = true := by rw [hv1.tot, hv1.ct]; simp
                  have HCs : Hid (∀ s, s < n → st1.C s = st2.C s) := hCs
                  have G1 : Hid (wrap64 (st1.fc + sumC st1.C 0) = st1.fc) := g1
                  have G2 : Hid (wrap64 (st2.fc + sumC st2.C 0) = st2.fc) := g2
                  have T1 : Hid ((st1.ct == wrap64 (st1.fc + sumC st1.C n)) = true) := t1
                  have T2 : Hid ((st2.ct == wrap64 (st2.fc + sumC st2.C n)) = true) := t2
                  have T3 : Hid ((wrap64 (st1.fc + sumC st1.C n) == wrap64 (selSum (fun _ => true) C len)) = true) := t3
                  clear hfc hCs g1 g2 t1 t2 t3 hv1 hv2 hin HC HK
                  go_wp2_with fail
                  refine (front13 W1 O1 n st1 _ hx1).mono ?_
                  rintro e w5 ⟨rfl, m5, rfl⟩
                  go_wp2_with fail
                  refine (front13 W2 O2 n st2 _ (hx2.drewN m5)).mono ?_
                  rintro e w6 ⟨rfl, m6, rfl⟩
                  go_wp2
                  clear f1
                  go_loopw [20, 21, 22] (fun x y i wv => ∃ j : Nat, j ≤ n ∧ i = .int .i64 j ∧ x = .int .i64 (wrap64 (st1.fc + sumC st1.C j)) ∧ y = .int .i64 (wrap64 (st2.fc + sumC st2.C j)) ∧ WinIs wv W1 O1 n st1 ∧ WinIs wv W2 O2 n st2 ∧ Below w.heap.size w wv) (fun _ _ i _ => n - (intOf i).toNat)
                  case atStart => exact ⟨0, Nat.zero_le _, rfl, by rw [G1.out], by rw [G2.out], hx1.drewN _, hx2.drewN _, below_drewN hbel2 _⟩
                  case round =>
                    obtain ⟨j, hjn, rfl, rfl, rfl, hy1, hy2, hbel3⟩ := hrel
                    clear hx1 hx2 hbel2 G1 G2
                    by_cases hlt3 : j < n
                    · have hCj : (st1.C j != st2.C j) = false := by rw [HCs j hlt3]; simp
                      go_wp2_with fail
                      refine (older14 W1 O1 n st1 j _ hy1 hlt3).mono ?_
                      rintro e w7 ⟨rfl, m7, rfl⟩
                      go_wp2_with fail
                      refine (older14 W2 O2 n st2 j _ (hy2.drewN m7) hlt3).mono ?_
                      rintro e w8 ⟨rfl, m8, rfl⟩
                      go_wp2
                      go_roundw
                      case rel => exact ⟨j + 1, by omega, by go_num, by rw [sumC_step], by rw [sumC_step], hy1.drewN _, hy2.drewN _, below_drewN hbel3 _⟩
                      case measure => simp [intOf]; omega
                    · obtain rfl : n = j := by omega
                      have t1 := T1.out
                      have t2 := T2.out
                      have t3 := T3.out
                      go_wp2_with fail
                      refine (count15 W1 O1 n st1 _ hy1).mono ?_
                      rintro e w7 ⟨rfl, rfl⟩
                      go_wp2_with fail
                      refine (count15 W2 O2 n st2 _ hy2).mono ?_
                      rintro e w7 ⟨rfl, rfl⟩
                      go_wp2
                      go_ret
                      exact ⟨rfl, hbel3⟩
                | succ t =>
                  rw [show ((t + 1 : Nat) : Int) - 1 = (t : Int) from by omega]
                  rcases HC.out with h0 | ⟨b, off, hb, rfl, hc⟩
                  · omega
                  obtain ⟨c0, c1, c2⟩ := hc t (by omega)
                  clear hc
                  have e0 : wr.cell? ⟨b, off + t * 3, none⟩ = some (.int .i64 (K t)) := (hbel2.cell (p := ⟨b, off + t * 3, none⟩) hb).trans c0
                  have e1 : wr.cell? ⟨b, off + t * 3 + 1, none⟩ = some (.float .f64 (V t)) := (hbel2.cell (p := ⟨b, off + t * 3 + 1, none⟩) hb).trans c1
                  have e2 : wr.cell? ⟨b, off + t * 3 + 2, none⟩ = some (.int .i64 (C t)) := (hbel2.cell (p := ⟨b, off + t * 3 + 2, none⟩) hb).trans c2
                  obtain ⟨i1, i2⟩ := hin t (by omega)
                  have HP : ∀ wx, WinIs wx W2 O2 n st2 → Calls Try.prog 12 #[.pointer (some ⟨W2, 0, none⟩), .int .i64 (K t), .float .f64 (V t), .int .i64 (C t)] wx fun e w' => RetPut wx w' W2 O2 n st2 (dist N K t) (V t) (C t) e :=
                    put_of hn hv2 i1 i2 hq1 HQ2.out hN2 (HK t (by omega)).1
                  have ji : (t : Int) < (len : Int) := by omega
                  have nb1 : b ≠ W2 := by omega
                  have nb2 : b ≠ O2 := by omega
                  clear c0 c1 c2
                  go_wp2
                  go_region_held3 (fun w' => w'.cell? ⟨b, off + t * 3, none⟩ = some (.int .i64 (K t)) ∧ w'.cell? ⟨b, off + t * 3 + 1, none⟩ = some (.float .f64 (V t)) ∧ w'.cell? ⟨b, off + t * 3 + 2, none⟩ = some (.int .i64 (C t)))
                    (first | exact ⟨e0, e1, e2⟩ | exact ⟨(touch_cell ht5 nb1 nb2).trans e0, (touch_cell ht5 nb1 nb2).trans e1, (touch_cell ht5 nb1 nb2).trans e2⟩)
                    (first | (go_at_call 12; refine (HP _ (by exact hx2.drew)).mono ?_; rintro e w5 ⟨rfl, r, hr, hwin5, ht5⟩))
                  have hv5 := inv6_congr (g' := fun p => selSum p C len - selSum p C t) (inv6_step (m := t) (r := r) (c := C t) hv2 (dist_le i1 i2) hq1 HQ2.out) (fun p => by simp only [selSum]; omega)
                  have hx15 := hx1.drew.other ht5 ne1 ne2 ne3 ne4
                  have hbel5 : Below w.heap.size w w5 := hbel2.drew.trans (ht5.below (by omega) (by omega))
                  clear HP hr ht5 hx1 hx2 hv2 hbel2 e0 e1 e2 i1 i2
                  go_wp2
                  go_roundw
                  case rel => exact ⟨t, _, by omega, rfl, hx15, hwin5, hv5, hbel5⟩
                  case measure => simp [intOf]

set_option maxRecDepth 100000 in
set_option maxHeartbeats 1000000 in
theorem law6 (a0 N q : Int) (a : Option Addr) (len cap : Nat) (K : Nat → Int) (V : Nat → Nat) (C : Nat → Int) (w : World) (l0 : -9223372036854775808 ≤ a0) (u0 : a0 ≤ 9223372036854775807) (l1 : -9223372036854775808 ≤ N) (u1 : N ≤ 9223372036854775807)
    (l2 : -9223372036854775808 ≤ q) (u2 : q ≤ 9223372036854775807) (h : IsOps w a len K V C) :
    Calls Try.prog 6 #[.int .i64 a0, .int .i64 N, .int .i64 q, .slice a len cap] w fun e w' => e = .returned (.bool true) ∧ Below w.heap.size w w' := by
  obtain ⟨hl, hK, hc⟩ := h
  have H18 := bytes18 a0 N q a len cap w hl
  unfold maxLen at hl
  have out : ∀ (hh : 43690 < len ∨ a0 < 1 ∨ 65536 < a0 ∨ (a0 = 1 ∧ q ≠ 0) ∨ (1 < a0 ∧ (q < 0 ∨ a0 - 1 ≤ q))),
      Calls Try.prog 6 #[.int .i64 a0, .int .i64 N, .int .i64 q, .slice a len cap] w fun e w' => e = .returned (.bool true) ∧ Below w.heap.size w w' := by
    intro hh
    clear hK hc
    by_cases x1 : 43690 < len
    · go_enter Try.func6, Try.ntmps6
      go_wp2_with fail
      refine H18.mono ?_
      rintro e w' ⟨⟨r, rfl⟩, rfl⟩
      clear H18
      cases r
      all_goals
        go_wp2
        go_ret
        exact ⟨rfl, Below.refl _ _⟩
    · by_cases x2 : a0 < 1
      · have hd : decide (a0 < 1) = true := decide_eq_true x2
        go_enter Try.func6, Try.ntmps6
        go_wp2_with fail
        refine H18.mono ?_
        rintro e w' ⟨⟨r, rfl⟩, rfl⟩
        clear H18
        cases r
        all_goals
          go_wp2
          go_ret
          exact ⟨rfl, Below.refl _ _⟩
      · have hd : decide (a0 < 1) = false := decide_eq_false x2
        by_cases x3 : 65536 < a0
        · have hd2 : decide (65536 < a0) = true := decide_eq_true x3
          go_enter Try.func6, Try.ntmps6
          go_wp2_with fail
          refine H18.mono ?_
          rintro e w' ⟨⟨r, rfl⟩, rfl⟩
          clear H18
          cases r
          all_goals
            go_wp2
            go_ret
            exact ⟨rfl, Below.refl _ _⟩
        · have hd2 : decide (65536 < a0) = false := decide_eq_false x3
          by_cases x4 : a0 = 1
          · subst x4
            have hd3 : (q != 0) = true := by simp; omega
            go_enter Try.func6, Try.ntmps6
            go_wp2_with fail
            refine H18.mono ?_
            rintro e w' ⟨⟨r, rfl⟩, rfl⟩
            clear H18
            cases r
            all_goals
              go_wp2
              go_ret
              exact ⟨rfl, Below.refl _ _⟩
          · have hd3 : (a0 - 1 == 0) = false := beq_eq_false_iff_ne.2 (by omega)
            by_cases x5 : q < 0
            · have hd4 : decide (q < 0) = true := decide_eq_true x5
              go_enter Try.func6, Try.ntmps6
              go_wp2_with fail
              refine H18.mono ?_
              rintro e w' ⟨⟨r, rfl⟩, rfl⟩
              clear H18
              cases r
              all_goals
                go_wp2
                go_ret
                exact ⟨rfl, Below.refl _ _⟩
            · have hd4 : decide (q < 0) = false := decide_eq_false x5
              have hd5 : decide (a0 - 1 ≤ q) = true := decide_eq_true (by omega)
              go_enter Try.func6, Try.ntmps6
              go_wp2_with fail
              refine H18.mono ?_
              rintro e w' ⟨⟨r, rfl⟩, rfl⟩
              clear H18
              cases r
              all_goals
                go_wp2
                go_ret
                exact ⟨rfl, Below.refl _ _⟩
  by_cases hh : 43690 < len ∨ a0 < 1 ∨ 65536 < a0 ∨ (a0 = 1 ∧ q ≠ 0) ∨ (1 < a0 ∧ (q < 0 ∨ a0 - 1 ≤ q))
  · exact out hh
  · obtain ⟨n, rfl⟩ : ∃ n : Nat, a0 = (n : Int) + 1 := ⟨(a0 - 1).toNat, by omega⟩
    refine law6_in n N q a len cap K V C w (by omega) l1 u1 (by omega) (by omega) (by omega) ?_ hK hc
    by_cases hn : n = 0
    · subst hn
      exact .inl ⟨rfl, by simp; omega⟩
    · exact .inr ⟨beq_eq_false_iff_ne.2 (by omega), decide_eq_false (by omega)⟩

end Go.Proofs.Qxb6614286a
