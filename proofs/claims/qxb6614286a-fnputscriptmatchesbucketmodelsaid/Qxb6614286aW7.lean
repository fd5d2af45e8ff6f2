/-
  The walk of 'FnPutScriptMatchesBucketModel' (5), seat b6614286a: the law itself.
-/
import Derived.Test.Qxb6614286aW5
namespace Go.Proofs.Qxb6614286a
open Go.RowKit

theorem WinIs.setElse {w : World} {W O n : Nat} {st : WSt} (h : WinIs w W O n st) {p : Addr} (h1 : W ≠ p.block) (h2 : O ≠ p.block) (u : Value) : WinIs (w.setCell p u) W O n st := by
  obtain ⟨f, g, hf, hg, r⟩ := h
  exact ⟨f, g, hf.setOther h1 _, hg.setOther h2 _, r⟩
theorem WinIs.alloc {w : World} {W O n : Nat} {st : WSt} (h : WinIs w W O n st) (o : Obj) : WinIs (w.alloc o) W O n st := by
  obtain ⟨f, g, hf, hg, r⟩ := h
  exact ⟨f, g, hf.alloc _, hg.alloc _, r⟩

/-- What the round's own stores do to what is told of the world. -/
theorem step5 {w wr : World} {W O n : Nat} {st : WSt} {M d : Nat} {x : Int} {r' : Nat} {obj : Obj} {mc : Nat → Int} {ms : Nat → Nat} (h : WinIs wr W O n st) (hM : wr.rowIs M 2 (n + 1) (fun d => .int .i64 (mc d))) (hR : wr.rowIs (M + 1) 32 (n + 1) (fun d => .float .f64 (ms d)))
    (n1 : W ≠ M) (n2 : O ≠ M) (n3 : W ≠ M + 1) (n4 : O ≠ M + 1) (hb : Below w.heap.size w wr) (hs : w.heap.size ≤ M) :
    WinIs (((wr.setCell ⟨M, d, none⟩ (.int .i64 x)).setCell ⟨M + 1, d, none⟩ (.float .f64 r')).alloc obj) W O n st ∧
    (((wr.setCell ⟨M, d, none⟩ (.int .i64 x)).setCell ⟨M + 1, d, none⟩ (.float .f64 r')).alloc obj).rowIs M 2 (n + 1) (fun e => .int .i64 (upd mc d x e)) ∧
    (((wr.setCell ⟨M, d, none⟩ (.int .i64 x)).setCell ⟨M + 1, d, none⟩ (.float .f64 r')).alloc obj).rowIs (M + 1) 32 (n + 1) (fun e => .float .f64 (upd ms d r' e)) ∧
    Below w.heap.size w (((wr.setCell ⟨M, d, none⟩ (.int .i64 x)).setCell ⟨M + 1, d, none⟩ (.float .f64 r')).alloc obj) := by
  refine ⟨((h.setElse (p := ⟨M, d, none⟩) n1 n2 _).setElse (p := ⟨M + 1, d, none⟩) n3 n4 _).alloc _, ?_, ?_, ?_⟩
  · refine (((hM.set d _).setOther (a := ⟨M + 1, d, none⟩) (by simp) _).alloc _).congr (fun i _ => ?_)
    unfold upd
    by_cases e : i = d
    · rw [if_pos e, if_pos e]
    · rw [if_neg e, if_neg e]
  · refine (((hR.setOther (a := ⟨M, d, none⟩) (by simp) _).set d _).alloc _).congr (fun i _ => ?_)
    unfold upd
    by_cases e : i = d
    · rw [if_pos e, if_pos e]
    · rw [if_neg e, if_neg e]
  · exact ((hb.setCell (p := ⟨M, d, none⟩) hs _).setCell (p := ⟨M + 1, d, none⟩) (by show _ ≤ M + 1; omega) _).alloc (by simp; exact hb.size) _

/-- Draws turn nothing. -/
theorem below_drews {B : Nat} {a w w' : World} (h : Below B a w) (h1 : w'.os = w.os := by rfl) (h2 : w'.tape = w.tape := by rfl) (h3 : w'.output = w.output := by rfl) (h4 : w'.heap = w.heap := by rfl) : Below B a w' :=
  ⟨h1.trans h.os, h2.trans h.tape, h3.trans h.output, by rw [h4]; exact h.size, fun k hk => by rw [h4]; exact h.block k hk⟩

set_option maxRecDepth 100000 in
set_option maxHeartbeats 2000000 in
theorem law5_in (n : Nat) (N q : Int) (a : Option Addr) (len cap : Nat) (K : Nat → Int) (V : Nat → Nat) (C : Nat → Int) (w : World) (hn : n ≤ 65535) (hN2 : N ≤ 9223372036854775807)
    (hlen : len ≤ 43690) (hq1 : 0 ≤ q) (hq2 : q < n ∨ n = 0)
    (hz : (((n : Int) == 0) = true ∧ (q != 0) = false) ∨ (((n : Int) == 0) = false ∧ decide ((n : Int) ≤ q) = false))
    (hK : ∀ i, i < len → -9223372036854775808 ≤ K i ∧ K i ≤ 9223372036854775807)
    (hc : len = 0 ∨ ∃ b off, b < w.heap.size ∧ a = some ⟨b, off, none⟩ ∧ ∀ i, i < len → w.cell? ⟨b, off + i * 3, none⟩ = some (.int .i64 (K i)) ∧ w.cell? ⟨b, off + i * 3 + 1, none⟩ = some (.float .f64 (V i)) ∧ w.cell? ⟨b, off + i * 3 + 2, none⟩ = some (.int .i64 (C i))) :
    Calls Try.prog 5 #[.int .i64 ((n : Int) + 1), .int .i64 N, .int .i64 q, .slice a len cap] w fun e w' => e = .returned (.bool true) ∧ Below w.heap.size w w' := by
  have H16 := bytes16 ((n : Int) + 1) N q a len cap w (by unfold maxLen; omega)
  have hd1 : decide ((n : Int) + 1 < 1) = false := decide_eq_false (by omega)
  have hd2 : decide ((65536 : Int) < (n : Int) + 1) = false := decide_eq_false (by omega)
  have hd3 : decide (q < 0) = false := decide_eq_false (by omega)
  have HC : Hid (len = 0 ∨ ∃ b off, b < w.heap.size ∧ a = some ⟨b, off, none⟩ ∧ ∀ i, i < len → w.cell? ⟨b, off + i * 3, none⟩ = some (.int .i64 (K i)) ∧ w.cell? ⟨b, off + i * 3 + 1, none⟩ = some (.float .f64 (V i)) ∧ w.cell? ⟨b, off + i * 3 + 2, none⟩ = some (.int .i64 (C i))) := hc
  have HK : Hid (∀ i, i < len → -9223372036854775808 ≤ K i ∧ K i ≤ 9223372036854775807) := hK
  have HQ2 : Hid (q < n ∨ n = 0) := hq2
  have hmk1 := run_make_row' (P := Try.prog) 42 2 (.int .i64 0) 8 Try.underlying42 Try.info2 rfl .i64 .i64 (n + 1) (by omega) (by omega)
  have hmk2 := run_make_row' (P := Try.prog) 43 32 (.float .f64 0) 8 Try.underlying43 Try.info32 rfl .i64 .i64 (n + 1) (by omega) (by omega)
  rw [show ((n + 1 : Nat) : Int) = (n : Int) + 1 from by omega] at hmk1 hmk2
  clear hc hK hq2
  rcases hz with ⟨hz1, hz2⟩ | ⟨hz1, hz2⟩
  all_goals
    go_enter Try.func5, Try.ntmps5
    go_wp2_with fail
    refine H16.mono ?_
    rintro e w' ⟨⟨r, rfl⟩, rfl⟩
    clear H16
    cases r with
    | false =>
      clear HC HK
      go_wp2
      go_ret
      exact ⟨rfl, Below.refl _ _⟩
    | true =>
      go_wp2
      clear hz1 hz2 hd1 hd2 hd3
      go_loop [10] (fun i => ∃ j : Nat, j ≤ len ∧ i = .int .i64 j ∧ InWin n N K j) (fun i => len - (intOf i).toNat)
      case atStart => exact ⟨0, Nat.zero_le _, rfl, fun m hm => absurd hm (Nat.not_lt_zero _)⟩
      case round =>
        obtain ⟨j, hj, rfl, hin⟩ := hrel
        by_cases hlt : j < len
        · obtain ⟨k0, k1⟩ := HK j hlt
          rcases HC.out with h0 | ⟨b, off, hb, rfl, hc⟩
          · omega
          obtain ⟨c0, c1, c2⟩ := hc j hlt
          clear hc
          by_cases hKN : N < K j
          · have hb1 : decide (N < K j) = true := decide_eq_true hKN
            clear HC HK hin c1 c2
            go_wp2
            go_ret
            exact ⟨rfl, Below.refl _ _⟩
          · have hb1 : decide (N < K j) = false := decide_eq_false hKN
            have hu := u64_sub N (K j) (by omega) k0 hN2
            by_cases hD : N - K j ≤ n
            · have hin' := inWin_succ hin (by omega) hD
              clear HC HK c1 c2 hin
              go_wp2
              go_round
              case rel => exact ⟨j + 1, by omega, by go_num, hin'⟩
              case measure => simp [intOf]; omega
            · clear HC HK c1 c2 hin
              go_wp2
              go_ret
              exact ⟨rfl, Below.refl _ _⟩
        · obtain rfl : len = j := by omega
          have H9 := newWindow9 n 1 w (by omega) (by omega) (by omega)
          go_wp2_with fail
          refine H9.mono ?_
          rintro e w1 ⟨⟨W, O, rfl, hW, hO, hwin⟩, hb1⟩
          clear H9
          go_wp2_with fail
          refine (olderLen10 W O n _ w1 hwin).mono ?_
          rintro e w' ⟨rfl, rfl⟩
          go_wp2_with fail
          refine (setAt11 W O n _ N q w1 hwin).mono ?_
          rintro e w2 ⟨rfl, hwin2, ht2⟩
          have hb2 : Below w.heap.size w w2 := hb1.trans (ht2.below hW hO)
          obtain ⟨lW, lO⟩ := hwin2.lt
          have hs2 := hb2.size
          clear hwin ht2 hb1
          go_wp2
          have hi0 := inv5_start n N q (-9223372036854775808)
          have hwin3 : WinIs ((w2.alloc (.cells (madeCells #[.int .i64 0] (n + 1)) 2)).alloc (.cells (madeCells #[.float .f64 0] (n + 1)) 32)) W O n { st0 (-9223372036854775808) 0 with nw := N, pv := q } :=
            hwin2.below (((Below.refl _ _).alloc (Nat.le_refl _) _).alloc (by simp) _)
          have hb3 : Below w.heap.size w ((w2.alloc (.cells (madeCells #[.int .i64 0] (n + 1)) 2)).alloc (.cells (madeCells #[.float .f64 0] (n + 1)) 32)) := (hb2.alloc hs2 _).alloc (by simp; omega) _
          have hM0 := (World.rowIs_made w2 (.int .i64 0) (n + 1) 2).alloc (.cells (madeCells #[.float .f64 0] (n + 1)) 32)
          have hR0 := World.rowIs_made (w2.alloc (.cells (madeCells #[.int .i64 0] (n + 1)) 2)) (.float .f64 0) (n + 1) 32
          rw [show (w2.alloc (.cells (madeCells #[.int .i64 0] (n + 1)) 2)).heap.size = w2.heap.size + 1 from by simp] at hR0
          clear hwin2 hb2 hmk1 hmk2
          go_loopw [14, 15] (fun z i wr => ∃ (j : Nat) (mc : Nat → Int) (ms : Nat → Nat) (st : WSt), j ≤ len ∧ i = .int .i64 j ∧ z = .int .i64 st.ct ∧ WinIs wr W O n st ∧ Inv5 n N q mc ms st ∧
              wr.rowIs w2.heap.size 2 (n + 1) (fun d => .int .i64 (mc d)) ∧ wr.rowIs (w2.heap.size + 1) 32 (n + 1) (fun d => .float .f64 (ms d)) ∧ Below w.heap.size w wr) (fun _ i _ => len - (intOf i).toNat)
          case atStart => exact ⟨0, _, _, _, Nat.zero_le _, rfl, rfl, hwin3, hi0, hM0, hR0, hb3⟩
          case round =>
            obtain ⟨j, mc, ms, st, hj, rfl, rfl, hwi, hinv, hrM, hrR, hbel⟩ := hrel
            clear hwin3 hb3 hM0 hR0 hi0
            by_cases hlt2 : j < len
            · rcases HC.out with h0 | ⟨b, off, hb, rfl, hc⟩
              · omega
              obtain ⟨c0, c1, c2⟩ := hc j hlt2
              clear hc
              have e0 : wr.cell? ⟨b, off + j * 3, none⟩ = some (.int .i64 (K j)) := (hbel.cell (p := ⟨b, off + j * 3, none⟩) hb).trans c0
              have e1 : wr.cell? ⟨b, off + j * 3 + 1, none⟩ = some (.float .f64 (V j)) := (hbel.cell (p := ⟨b, off + j * 3 + 1, none⟩) hb).trans c1
              have e2 : wr.cell? ⟨b, off + j * 3 + 2, none⟩ = some (.int .i64 (C j)) := (hbel.cell (p := ⟨b, off + j * 3 + 2, none⟩) hb).trans c2
              obtain ⟨i1, i2⟩ := hin j hlt2
              have k0 := (HK j hlt2).1
              have hu := u64_sub N (K j) i1 k0 hN2
              have hdn : (N - K j).toNat ≤ n := by omega
              have m0 := hrM.cell (i := (N - K j).toNat) (by omega)
              have m1 := hrM.frozen (N - K j).toNat
              have r0 := hrR.cell (i := (N - K j).toNat) (by omega)
              have r1 := hrR.frozen (N - K j).toNat
              have lM := hrM.lt
              have lR := hrR.lt
              have hsf := run_store_float
              have HP : ∀ wx, WinIs wx W O n st → Calls Try.prog 12 #[.pointer (some ⟨W, 0, none⟩), .int .i64 (K j), .float .f64 (V j), .int .i64 (C j)] wx fun e w' => RetPut wx w' W O n st (dist N K j) (V j) (C j) e :=
                put_of5 hn hinv i1 i2 hq1 HQ2.out hN2 k0
              have hI1 : 0 ≤ N - K j := by omega
              have hI2 : N - K j < (n : Int) + 1 := by omega
              clear c0 c1 c2
              go_wp2
              go_region
              go_wp2
              cases hA : FloatKind.f64.format.add (ms (N - K j).toNat) (V j) with
              | some r' =>
                have hrun : ∀ t w, (binOp .add t (.float .f64 (ms (N - K j).toNat)) (.float .f64 (V j))).run Try.prog w = .ok (.float .f64 r') w := fun t w => run_float_arith w .add t .f64 _ _ r' hA
                have hF : FAdd (ms (N - K j).toNat) (V j) r' := .inl hA
                clear hA
                go_region
                go_wp2_with fail
                clear hrun
                have X := step5 (w := w) (x := wrap64 (mc (N - K j).toNat + C j)) (r' := r') (d := (N - K j).toNat) (obj := .cells #[.int .i64 (K j), .float .f64 (V j), .int .i64 (C j)] 41) hwi hrM hrR (by omega) (by omega) (by omega) (by omega) hbel hs2
                obtain ⟨x1, x2, x3, x4⟩ := X
                refine (HP _ (by exact x1)).mono ?_
                rintro e w5 ⟨rfl, r, hr, hwin5, ht5⟩
                have hv5 := inv5_step (d := (N - K j).toNat) (c := C j) hinv hdn hq1 HQ2.out hr hF
                have y2 : w5.rowIs w2.heap.size 2 (n + 1) (fun e => .int .i64 (upd mc (N - K j).toNat (wrap64 (mc (N - K j).toNat + C j)) e)) := x2.of_block (ht5.block _ (by omega) (by omega))
                have y3 : w5.rowIs (w2.heap.size + 1) 32 (n + 1) (fun e => .float .f64 (upd ms (N - K j).toNat r' e)) := x3.of_block (ht5.block _ (by omega) (by omega))
                have y4 : Below w.heap.size w w5 := (below_drews x4).trans (ht5.below hW hO)
                clear HP hr hF x1 x2 x3 x4 ht5 hinv hwi hrM hrR hbel m0 m1 r0 r1 e0 e1 e2 hu hsf
                go_wp2
                go_roundw
                case rel => exact ⟨j + 1, _, _, _, by omega, by go_num, by rw [putJ_ct], hwin5, hv5, y2, y3, y4⟩
                case measure => simp [intOf]; omega
              | none =>
                have hF : ∀ t, FAdd (ms (N - K j).toNat) (V j) (Question.cut (.nanBits .f64 (ms (N - K j).toNat) (V j)) t) := fun t => .inr ⟨hA, nan_cut _ _ _⟩
                have hrun : ∀ t w, (binOp .add t (.float .f64 (ms (N - K j).toNat)) (.float .f64 (V j))).run Try.prog w = .ok (.float .f64 (Question.cut (.nanBits .f64 (ms (N - K j).toNat) (V j)) (w.tape w.drawn (.nanBits .f64 (ms (N - K j).toNat) (V j))))) w.drew := fun t w => by
                  simp [binOp, Op.floatArith, hA, Question.forced]
                have HF : Hid (∀ t, FAdd (ms (N - K j).toNat) (V j) (Question.cut (.nanBits .f64 (ms (N - K j).toNat) (V j)) t)) := hF
                clear hA hF
                go_region
                go_wp2_with fail
                clear hrun
                have hF := HF.out (wr.tape (wr.drawn + 1 + 1) (.nanBits .f64 (ms (N - K j).toNat) (V j)))
                clear HF
                generalize Question.cut (.nanBits .f64 (ms (N - K j).toNat) (V j)) (wr.tape (wr.drawn + 1 + 1) (.nanBits .f64 (ms (N - K j).toNat) (V j))) = r' at hF ⊢
                have X := step5 (w := w) (x := wrap64 (mc (N - K j).toNat + C j)) (r' := r') (d := (N - K j).toNat) (obj := .cells #[.int .i64 (K j), .float .f64 (V j), .int .i64 (C j)] 41) hwi hrM hrR (by omega) (by omega) (by omega) (by omega) hbel hs2
                obtain ⟨x1, x2, x3, x4⟩ := X
                refine (HP _ (by exact x1)).mono ?_
                rintro e w5 ⟨rfl, r, hr, hwin5, ht5⟩
                have hv5 := inv5_step (d := (N - K j).toNat) (c := C j) hinv hdn hq1 HQ2.out hr hF
                have y2 : w5.rowIs w2.heap.size 2 (n + 1) (fun e => .int .i64 (upd mc (N - K j).toNat (wrap64 (mc (N - K j).toNat + C j)) e)) := x2.of_block (ht5.block _ (by omega) (by omega))
                have y3 : w5.rowIs (w2.heap.size + 1) 32 (n + 1) (fun e => .float .f64 (upd ms (N - K j).toNat r' e)) := x3.of_block (ht5.block _ (by omega) (by omega))
                have y4 : Below w.heap.size w w5 := (below_drews x4).trans (ht5.below hW hO)
                clear HP hr hF x1 x2 x3 x4 ht5 hinv hwi hrM hrR hbel m0 m1 r0 r1 e0 e1 e2 hu hsf
                go_wp2
                go_roundw
                case rel => exact ⟨j + 1, _, _, _, by omega, by go_num, by rw [putJ_ct], hwin5, hv5, y2, y3, y4⟩
                case measure => simp [intOf]; omega
            · have g0 := hinv.buckets 0 (Nat.zero_le _)
              have f1 : (st.fc != mc 0) = false := by have : st.fc = mc 0 := g0.1; rw [this]; simp
              have f2 : Same st.fs (ms 0) := g0.2
              have m0 := hrM.cell (i := 0) (by omega)
              have r0 := hrR.cell (i := 0) (by omega)
              clear g0 hin HK HC
              go_wp2_with fail
              refine (front13 W O n st _ hwi).mono ?_
              rintro e w5 ⟨rfl, m5, rfl⟩
              go_wp2_with fail
              refine (same17 _ _ _ f2).mono ?_
              rintro e w6 ⟨rfl, rfl⟩
              clear f2
              go_wp2
              clear f1 m0 r0
              go_loopw [20] (fun i wv => ∃ i' : Nat, i' ≤ n ∧ i = .int .i64 i' ∧ WinIs wv W O n st ∧ wv.rowIs w2.heap.size 2 (n + 1) (fun d => .int .i64 (mc d)) ∧ wv.rowIs (w2.heap.size + 1) 32 (n + 1) (fun d => .float .f64 (ms d)) ∧ Below w.heap.size w wv) (fun i _ => n - (intOf i).toNat)
              case atStart => exact ⟨0, Nat.zero_le _, rfl, hwi.drewN _, hrM, hrR, below_drewN hbel _⟩
              case round =>
                obtain ⟨i, hi, rfl, hw8, hM8, hR8, hbel8⟩ := hrel
                clear hwi hrM hrR hbel
                by_cases hlt3 : i < n
                · obtain ⟨m, hm⟩ : ∃ m : Nat, (m : Int) = (q + 1 + (i : Int)) % (n : Int) := ⟨((q + 1 + (i : Int)) % (n : Int)).toNat, Int.toNat_of_nonneg (Int.emod_nonneg _ (by omega))⟩
                  have hpv := hinv.pv
                  have hqn : q < (n : Int) := by have := HQ2.out; omega
                  obtain ⟨hmn, hS, hC⟩ := older_ring (n := n) (st := st) (i := i) (m := m) hlt3 (by omega) (by have := HQ2.out; omega) (by rw [hpv, hm])
                  have g0 := hinv.buckets (n - i) (by omega)
                  have f1 : (st.C m != mc (n - i)) = false := by rw [hC, g0.1]; simp
                  have f2 : Same (st.S m) (ms (n - i)) := by rw [hS]; exact g0.2
                  have m0 := hM8.cell (i := n - i) (by omega)
                  have r0 := hR8.cell (i := n - i) (by omega)
                  have Hm : Hid ((m : Int) = (q + 1 + (i : Int)) % (n : Int)) := hm
                  clear g0 hS hC hm hpv
                  go_wp2_with fail
                  rw [← Hm.out]
                  refine (older14 W O n st m _ hw8 hmn).mono ?_
                  rintro e w9 ⟨rfl, m9, rfl⟩
                  clear Hm
                  go_wp2_with fail
                  refine (same17 _ _ _ f2).mono ?_
                  rintro e w6 ⟨rfl, rfl⟩
                  clear f2
                  go_wp2
                  go_roundw
                  case rel => exact ⟨i + 1, by omega, by go_num, hw8.drewN _, hM8, hR8, below_drewN hbel8 _⟩
                  case measure => simp [intOf]; omega
                · go_wp2_with fail
                  refine (count15 W O n st _ hw8).mono ?_
                  rintro e w9 ⟨rfl, rfl⟩
                  go_wp2
                  go_ret
                  exact ⟨by simp, hbel8⟩

set_option maxRecDepth 100000 in
set_option maxHeartbeats 1000000 in
theorem law5 (a0 N q : Int) (a : Option Addr) (len cap : Nat) (K : Nat → Int) (V : Nat → Nat) (C : Nat → Int) (w : World) (l0 : -9223372036854775808 ≤ a0) (u0 : a0 ≤ 9223372036854775807) (_l1 : -9223372036854775808 ≤ N) (u1 : N ≤ 9223372036854775807)
    (l2 : -9223372036854775808 ≤ q) (u2 : q ≤ 9223372036854775807) (h : IsOps w a len K V C) :
    Calls Try.prog 5 #[.int .i64 a0, .int .i64 N, .int .i64 q, .slice a len cap] w fun e w' => e = .returned (.bool true) ∧ Below w.heap.size w w' := by
  obtain ⟨hl, hK, hc⟩ := h
  have H16 := bytes16 a0 N q a len cap w hl
  unfold maxLen at hl
  have out : ∀ (hh : 43690 < len ∨ a0 < 1 ∨ 65536 < a0 ∨ (a0 = 1 ∧ q ≠ 0) ∨ (1 < a0 ∧ (q < 0 ∨ a0 - 1 ≤ q))),
      Calls Try.prog 5 #[.int .i64 a0, .int .i64 N, .int .i64 q, .slice a len cap] w fun e w' => e = .returned (.bool true) ∧ Below w.heap.size w w' := by
    intro hh
    clear hK hc
    by_cases x1 : 43690 < len
    · go_enter Try.func5, Try.ntmps5
      go_wp2_with fail
      refine H16.mono ?_
      rintro e w' ⟨⟨r, rfl⟩, rfl⟩
      clear H16
      cases r
      all_goals
        go_wp2
        go_ret
        exact ⟨rfl, Below.refl _ _⟩
    · by_cases x2 : a0 < 1
      · have hd : decide (a0 < 1) = true := decide_eq_true x2
        go_enter Try.func5, Try.ntmps5
        go_wp2_with fail
        refine H16.mono ?_
        rintro e w' ⟨⟨r, rfl⟩, rfl⟩
        clear H16
        cases r
        all_goals
          go_wp2
          go_ret
          exact ⟨rfl, Below.refl _ _⟩
      · have hd : decide (a0 < 1) = false := decide_eq_false x2
        by_cases x3 : 65536 < a0
        · have hd2 : decide (65536 < a0) = true := decide_eq_true x3
          go_enter Try.func5, Try.ntmps5
          go_wp2_with fail
          refine H16.mono ?_
          rintro e w' ⟨⟨r, rfl⟩, rfl⟩
          clear H16
          cases r
          all_goals
            go_wp2
            go_ret
            exact ⟨rfl, Below.refl _ _⟩
        · have hd2 : decide (65536 < a0) = false := decide_eq_false x3
          by_cases x4 : a0 = 1
          · subst x4
            have hd3 : (q != 0) = true := by simp; omega
            go_enter Try.func5, Try.ntmps5
            go_wp2_with fail
            refine H16.mono ?_
            rintro e w' ⟨⟨r, rfl⟩, rfl⟩
            clear H16
            cases r
            all_goals
              go_wp2
              go_ret
              exact ⟨rfl, Below.refl _ _⟩
          · have hd3 : (a0 - 1 == 0) = false := beq_eq_false_iff_ne.2 (by omega)
            by_cases x5 : q < 0
            · have hd4 : decide (q < 0) = true := decide_eq_true x5
              go_enter Try.func5, Try.ntmps5
              go_wp2_with fail
              refine H16.mono ?_
              rintro e w' ⟨⟨r, rfl⟩, rfl⟩
              clear H16
              cases r
              all_goals
                go_wp2
                go_ret
                exact ⟨rfl, Below.refl _ _⟩
            · have hd4 : decide (q < 0) = false := decide_eq_false x5
              have hd5 : decide (a0 - 1 ≤ q) = true := decide_eq_true (by omega)
              go_enter Try.func5, Try.ntmps5
              go_wp2_with fail
              refine H16.mono ?_
              rintro e w' ⟨⟨r, rfl⟩, rfl⟩
              clear H16
              cases r
              all_goals
                go_wp2
                go_ret
                exact ⟨rfl, Below.refl _ _⟩
  by_cases hh : 43690 < len ∨ a0 < 1 ∨ 65536 < a0 ∨ (a0 = 1 ∧ q ≠ 0) ∨ (1 < a0 ∧ (q < 0 ∨ a0 - 1 ≤ q))
  · exact out hh
  · obtain ⟨n, rfl⟩ : ∃ n : Nat, a0 = (n : Int) + 1 := ⟨(a0 - 1).toNat, by omega⟩
    refine law5_in n N q a len cap K V C w (by omega) u1 (by omega) (by omega) (by omega) ?_ hK hc
    by_cases hn : n = 0
    · subst hn
      exact .inl ⟨rfl, by simp; omega⟩
    · exact .inr ⟨beq_eq_false_iff_ne.2 (by omega), decide_eq_false (by omega)⟩

end Go.Proofs.Qxb6614286a
