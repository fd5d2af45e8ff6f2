/-
  Walks (seat b6614286a): ZZolderLen (10), ZZsetAt (11), slot (22), put (21), ZZput (12), ZZfront (13), ZZolder (14), ZZcount (15).
-/
import Derived.Test.Qxb6614286aW1
import Derived.Test.Qxb6614286aFlo
namespace Go.Proofs.Qxb6614286a
open Go.RowKit

/-- Nothing but the blocks W and O has turned; no block is new. -/
structure Touch (W O : Nat) (w w' : World) : Prop where
  os : w'.os = w.os
  tape : w'.tape = w.tape
  output : w'.output = w.output
  size : w'.heap.size = w.heap.size
  block : ∀ k, k ≠ W → k ≠ O → w'.heap[k]? = w.heap[k]?

theorem Touch.refl (W O : Nat) (w : World) : Touch W O w w := ⟨rfl, rfl, rfl, rfl, fun _ _ _ => rfl⟩
theorem Touch.trans {W O : Nat} {a b c : World} (h : Touch W O a b) (k : Touch W O b c) : Touch W O a c :=
  ⟨k.os.trans h.os, k.tape.trans h.tape, k.output.trans h.output, k.size.trans h.size, fun i h1 h2 => (k.block i h1 h2).trans (h.block i h1 h2)⟩
theorem Touch.drew {W O : Nat} {a w : World} (h : Touch W O a w) : Touch W O a w.drew := ⟨h.os, h.tape, h.output, h.size, h.block⟩
theorem Touch.drewN {W O : Nat} {a w : World} (h : Touch W O a w) (n : Nat) : Touch W O a (w.drewN n) := ⟨h.os, h.tape, h.output, h.size, h.block⟩
theorem Touch.setCell {W O : Nat} {a w : World} (h : Touch W O a w) {p : Addr} (hp : p.block = W ∨ p.block = O) (u : Value) : Touch W O a (w.setCell p u) :=
  h.trans ⟨rfl, rfl, rfl, by simp [World.setCell], fun k h1 h2 => Below.heap_setCell _ _ _ _ (by rcases hp with e | e <;> rw [e] <;> assumption)⟩
theorem Touch.setW {W O : Nat} {a w : World} (h : Touch W O a w) (i : Nat) (u : Value) : Touch W O a (w.setCell ⟨W, i, none⟩ u) := h.setCell (p := ⟨W, i, none⟩) (.inl rfl) u
theorem Touch.setO {W O : Nat} {a w : World} (h : Touch W O a w) (i : Nat) (u : Value) : Touch W O a (w.setCell ⟨O, i, none⟩ u) := h.setCell (p := ⟨O, i, none⟩) (.inr rfl) u
theorem Touch.below {W O B : Nat} {w w' : World} (h : Touch W O w w') (hW : B ≤ W) (hO : B ≤ O) : Below B w w' :=
  ⟨h.os, h.tape, h.output, by rw [h.size]; exact Nat.le_refl _, fun k hk => h.block k (by omega) (by omega)⟩

/-- The cells of a window, as the walk wants them. -/
theorem WinIs.cells {w : World} {W O n : Nat} {st : WSt} (h : WinIs w W O n st) :
    w.cell? ⟨W, 4, none⟩ = some (.slice (some ⟨O, 0, none⟩) n n) ∧ w.cell? ⟨W, 71, none⟩ = some (.float .f64 st.fs) ∧ w.cell? ⟨W, 72, none⟩ = some (.int .i64 st.fc) ∧ w.cell? ⟨W, 73, none⟩ = some (.int .i64 st.nw) ∧
    w.cell? ⟨W, 74, none⟩ = some (.int .i64 st.ct) ∧ w.cell? ⟨W, 75, none⟩ = some (.int .i64 st.pv) := by
  obtain ⟨f, g, hf, hg, hne, e4, e71, e72, e73, e74, e75, ho⟩ := h
  exact ⟨by rw [hf.cell (by omega), e4], by rw [hf.cell (by omega), e71], by rw [hf.cell (by omega), e72], by rw [hf.cell (by omega), e73], by rw [hf.cell (by omega), e74], by rw [hf.cell (by omega), e75]⟩

theorem WinIs.older {w : World} {W O n : Nat} {st : WSt} (h : WinIs w W O n st) (i : Nat) (hi : i < n) :
    w.cell? ⟨O, i * 2, none⟩ = some (.float .f64 (st.S i)) ∧ w.cell? ⟨O, i * 2 + 1, none⟩ = some (.int .i64 (st.C i)) := by
  obtain ⟨f, g, hf, hg, hne, e4, e71, e72, e73, e74, e75, ho⟩ := h
  obtain ⟨h0, h1⟩ := ho i hi
  exact ⟨by rw [hg.cell (by omega), h0], by rw [hg.cell (by omega), h1]⟩

theorem WinIs.frozenW {w : World} {W O n : Nat} {st : WSt} (h : WinIs w W O n st) (i : Nat) : w.frozen? ⟨W, i, none⟩ = false := by
  obtain ⟨f, g, hf, hg, _⟩ := h
  exact hf.frozen i
theorem WinIs.frozenO {w : World} {W O n : Nat} {st : WSt} (h : WinIs w W O n st) (i : Nat) : w.frozen? ⟨O, i, none⟩ = false := by
  obtain ⟨f, g, hf, hg, _⟩ := h
  exact hg.frozen i
theorem WinIs.ne {w : World} {W O n : Nat} {st : WSt} (h : WinIs w W O n st) : W ≠ O := by
  obtain ⟨f, g, hf, hg, hne, _⟩ := h
  exact hne
theorem WinIs.lt {w : World} {W O n : Nat} {st : WSt} (h : WinIs w W O n st) : W < w.heap.size ∧ O < w.heap.size := by
  obtain ⟨f, g, hf, hg, _⟩ := h
  exact ⟨hf.lt, hg.lt⟩
theorem WinIs.drew {w : World} {W O n : Nat} {st : WSt} (h : WinIs w W O n st) : WinIs w.drew W O n st := h
theorem WinIs.drewN {w : World} {W O n : Nat} {st : WSt} (h : WinIs w W O n st) (m : Nat) : WinIs (w.drewN m) W O n st := h
/-- Another window's calls leave this one alone. -/
theorem WinIs.other {w w' : World} {W O n W' O' : Nat} {st : WSt} (h : WinIs w W O n st) (ht : Touch W' O' w w') (h1 : W ≠ W') (h2 : W ≠ O') (h3 : O ≠ W') (h4 : O ≠ O') : WinIs w' W O n st := by
  obtain ⟨f, g, hf, hg, r⟩ := h
  exact ⟨f, g, hf.of_block (ht.block W h1 h2), hg.of_block (ht.block O h3 h4), r⟩
/-- New blocks leave it alone. -/
theorem WinIs.below {w w' : World} {W O n : Nat} {st : WSt} (h : WinIs w W O n st) (hb : Below w.heap.size w w') : WinIs w' W O n st := by
  have hl := h.lt
  obtain ⟨f, g, hf, hg, r⟩ := h
  exact ⟨f, g, hf.of_block (hb.block W hl.1), hg.of_block (hb.block O hl.2), r⟩

set_option maxHeartbeats 400000 in
theorem olderLen10 (W O n : Nat) (st : WSt) (w : World) (h : WinIs w W O n st) :
    Calls Try.prog 10 #[.pointer (some ⟨W, 0, none⟩)] w fun e w' => e = .returned (.int .i64 n) ∧ w = w' := by
  obtain ⟨c4, _⟩ := h.cells
  clear h
  go_enter Try.func10, Try.ntmps10
  go_wp2
  go_ret
  exact ⟨rfl, rfl⟩

set_option maxHeartbeats 400000 in
theorem count15 (W O n : Nat) (st : WSt) (w : World) (h : WinIs w W O n st) :
    Calls Try.prog 15 #[.pointer (some ⟨W, 0, none⟩)] w fun e w' => e = .returned (.int .i64 st.ct) ∧ w = w' := by
  obtain ⟨_, _, _, _, c74, _⟩ := h.cells
  clear h
  go_enter Try.func15, Try.ntmps15
  go_wp2
  go_ret
  exact ⟨rfl, rfl⟩

set_option maxHeartbeats 400000 in
theorem front13 (W O n : Nat) (st : WSt) (w : World) (h : WinIs w W O n st) :
    Calls Try.prog 13 #[.pointer (some ⟨W, 0, none⟩)] w fun e w' => e = .returned (.tuple #[.float .f64 st.fs, .int .i64 st.fc]) ∧ ∃ m, w.drewN m = w' := by
  obtain ⟨_, c71, c72, _⟩ := h.cells
  clear h
  go_enter Try.func13, Try.ntmps13
  go_wp2
  go_quiet (fail)
  go_wp2
  go_ret2
  exact ⟨rfl, _, rfl⟩

set_option maxHeartbeats 400000 in
theorem older14 (W O n : Nat) (st : WSt) (i : Nat) (w : World) (h : WinIs w W O n st) (hi : i < n) :
    Calls Try.prog 14 #[.pointer (some ⟨W, 0, none⟩), .int .i64 i] w fun e w' => e = .returned (.tuple #[.float .f64 (st.S i), .int .i64 (st.C i)]) ∧ ∃ m, w.drewN m = w' := by
  obtain ⟨c4, _⟩ := h.cells
  obtain ⟨o0, o1⟩ := h.older i hi
  clear h
  have hi' : (i : Int) < (n : Int) := by omega
  go_enter Try.func14, Try.ntmps14
  go_wp2
  go_quiet (fail)
  go_wp2
  go_ret2
  exact ⟨rfl, _, rfl⟩

theorem WinIs.setNw {w : World} {W O n : Nat} {st : WSt} (h : WinIs w W O n st) (x : Int) : WinIs (w.setCell ⟨W, 73, none⟩ (.int .i64 x)) W O n { st with nw := x } := by
  obtain ⟨f, g, hf, hg, hne, e4, e71, e72, e73, e74, e75, ho⟩ := h
  exact ⟨_, g, hf.set 73 _, hg.setOther (Ne.symm hne) _, hne, by simp [e4], by simp [e71], by simp [e72], by simp, by simp [e74], by simp [e75], ho⟩
theorem WinIs.setPv {w : World} {W O n : Nat} {st : WSt} (h : WinIs w W O n st) (x : Int) : WinIs (w.setCell ⟨W, 75, none⟩ (.int .i64 x)) W O n { st with pv := x } := by
  obtain ⟨f, g, hf, hg, hne, e4, e71, e72, e73, e74, e75, ho⟩ := h
  exact ⟨_, g, hf.set 75 _, hg.setOther (Ne.symm hne) _, hne, by simp [e4], by simp [e71], by simp [e72], by simp [e73], by simp [e74], by simp, ho⟩
theorem WinIs.setCt {w : World} {W O n : Nat} {st : WSt} (h : WinIs w W O n st) (x : Int) : WinIs (w.setCell ⟨W, 74, none⟩ (.int .i64 x)) W O n { st with ct := x } := by
  obtain ⟨f, g, hf, hg, hne, e4, e71, e72, e73, e74, e75, ho⟩ := h
  exact ⟨_, g, hf.set 74 _, hg.setOther (Ne.symm hne) _, hne, by simp [e4], by simp [e71], by simp [e72], by simp [e73], by simp, by simp [e75], ho⟩
theorem WinIs.setFs {w : World} {W O n : Nat} {st : WSt} (h : WinIs w W O n st) (x : Nat) : WinIs (w.setCell ⟨W, 71, none⟩ (.float .f64 x)) W O n { st with fs := x } := by
  obtain ⟨f, g, hf, hg, hne, e4, e71, e72, e73, e74, e75, ho⟩ := h
  exact ⟨_, g, hf.set 71 _, hg.setOther (Ne.symm hne) _, hne, by simp [e4], by simp, by simp [e72], by simp [e73], by simp [e74], by simp [e75], ho⟩
theorem WinIs.setFc {w : World} {W O n : Nat} {st : WSt} (h : WinIs w W O n st) (x : Int) : WinIs (w.setCell ⟨W, 72, none⟩ (.int .i64 x)) W O n { st with fc := x } := by
  obtain ⟨f, g, hf, hg, hne, e4, e71, e72, e73, e74, e75, ho⟩ := h
  exact ⟨_, g, hf.set 72 _, hg.setOther (Ne.symm hne) _, hne, by simp [e4], by simp [e71], by simp, by simp [e73], by simp [e74], by simp [e75], ho⟩
/-- One value of a family turned. -/
def upd {α : Type} (f : Nat → α) (i : Nat) (x : α) : Nat → α := fun j => if j = i then x else f j
theorem WinIs.setS {w : World} {W O n : Nat} {st : WSt} (h : WinIs w W O n st) (i : Nat) (x : Nat) : WinIs (w.setCell ⟨O, i * 2, none⟩ (.float .f64 x)) W O n { st with S := upd st.S i x } := by
  obtain ⟨f, g, hf, hg, hne, e4, e71, e72, e73, e74, e75, ho⟩ := h
  refine ⟨f, _, hf.setOther hne _, hg.set (i * 2) _, hne, e4, e71, e72, e73, e74, e75, fun j hj => ?_⟩
  obtain ⟨h0, h1⟩ := ho j hj
  have n1 : ¬ j * 2 + 1 = i * 2 := by omega
  by_cases e : j = i
  · subst e; exact ⟨by simp [upd], by simp only [if_neg n1]; exact h1⟩
  · have n2 : ¬ j * 2 = i * 2 := by omega
    exact ⟨by simp only [if_neg n2, upd, if_neg e]; exact h0, by simp only [if_neg n1]; exact h1⟩
theorem WinIs.setC {w : World} {W O n : Nat} {st : WSt} (h : WinIs w W O n st) (i : Nat) (x : Int) : WinIs (w.setCell ⟨O, i * 2 + 1, none⟩ (.int .i64 x)) W O n { st with C := upd st.C i x } := by
  obtain ⟨f, g, hf, hg, hne, e4, e71, e72, e73, e74, e75, ho⟩ := h
  refine ⟨f, _, hf.setOther hne _, hg.set (i * 2 + 1) _, hne, e4, e71, e72, e73, e74, e75, fun j hj => ?_⟩
  obtain ⟨h0, h1⟩ := ho j hj
  have n1 : ¬ j * 2 = i * 2 + 1 := by omega
  by_cases e : j = i
  · subst e; exact ⟨by simp only [if_neg n1]; exact h0, by simp [upd]⟩
  · have n2 : ¬ j * 2 + 1 = i * 2 + 1 := by omega
    exact ⟨by simp only [if_neg n1]; exact h0, by simp only [if_neg n2, upd, if_neg e]; exact h1⟩

set_option maxHeartbeats 400000 in
theorem setAt11 (W O n : Nat) (st : WSt) (nw pv : Int) (w : World) (h : WinIs w W O n st) :
    Calls Try.prog 11 #[.pointer (some ⟨W, 0, none⟩), .int .i64 nw, .int .i64 pv] w fun e w' => e = .returned (.tuple #[]) ∧ WinIs w' W O n { st with nw := nw, pv := pv } ∧ Touch W O w w' := by
  obtain ⟨_, _, _, c73, _, c75⟩ := h.cells
  have f73 := h.frozenW 73
  have f75 := h.frozenW 75
  have H := h
  clear h
  go_enter Try.func11, Try.ntmps11
  go_wp2
  go_end0
  exact ⟨rfl, (H.setNw nw).setPv pv, ((Touch.refl _ _ _).setW 73 _).setW 75 _⟩

/-- The ring's slot of bucket k. -/
def slotN (n : Nat) (pv nw k : Int) : Nat := if pv - (nw - 1 - k) < 0 then (pv - (nw - 1 - k) + n).toNat else (pv - (nw - 1 - k)).toNat

theorem slotN_lt {n : Nat} {pv nw k : Int} (h1 : k < nw) (h2 : nw - k ≤ n) (h3 : 0 ≤ pv) (h4 : pv < n) : slotN n pv nw k < n := by
  unfold slotN; split <;> omega
theorem slotN_neg {n : Nat} {pv nw k : Int} (h2 : nw - k ≤ n) (h3 : 0 ≤ pv) (h : pv - (nw - 1 - k) < 0) : ((slotN n pv nw k : Nat) : Int) = pv - (nw - 1 - k) + n := by
  unfold slotN; rw [if_pos h]; omega
theorem slotN_pos {n : Nat} {pv nw k : Int} (h : ¬ pv - (nw - 1 - k) < 0) : ((slotN n pv nw k : Nat) : Int) = pv - (nw - 1 - k) := by
  unfold slotN; rw [if_neg h]; omega

theorem wrap_in (x : Int) (h1 : -9223372036854775808 ≤ x) (h2 : x ≤ 9223372036854775807) : IntKind.i64.wrap x = x := by rw [IntKind.wrap_i64]; omega

set_option maxHeartbeats 400000 in
theorem slot22 (W O n : Nat) (st : WSt) (k : Int) (w : World) (h : WinIs w W O n st) (hn : n ≤ 65536) (h1 : k < st.nw) (h2 : st.nw - k ≤ n) (h3 : 0 ≤ st.pv) (h4 : st.pv < n) (h5 : -9223372036854775808 ≤ k) (h6 : st.nw ≤ 9223372036854775807) :
    Calls Try.prog 22 #[.pointer (some ⟨W, 0, none⟩), .int .i64 k] w fun e w' => e = .returned (.int .i64 (slotN n st.pv st.nw k)) ∧ ∃ m, w' = w.drewN m := by
  obtain ⟨c4, _, _, c73, _, c75⟩ := h.cells
  have hw1 := wrap_in (st.nw - 1) (by omega) (by omega)
  have hw2 := wrap_in (st.nw - 1 - k) (by omega) (by omega)
  have hw3 := wrap_in (st.pv - (st.nw - 1 - k)) (by omega) (by omega)
  clear h
  by_cases hs : st.pv - (st.nw - 1 - k) < 0
  · rw [slotN_neg h2 h3 hs]
    go_enter Try.func22, Try.ntmps22
    go_wp2
    go_quiet (fail)
    go_wp2
    go_ret
    exact ⟨rfl, _, rfl⟩
  · rw [slotN_pos hs]
    go_enter Try.func22, Try.ntmps22
    go_wp2
    go_quiet (fail)
    go_wp2
    go_ret
    exact ⟨rfl, _, rfl⟩

/-- The window behind a put at the front. -/
def putFront (st : WSt) (r : Nat) (c : Int) : WSt := { st with fs := r, fc := wrap64 (st.fc + c), ct := wrap64 (st.ct + c) }
/-- The window behind a put at slot i. -/
def putOlder (st : WSt) (i r : Nat) (c : Int) : WSt := { st with S := upd st.S i r, C := upd st.C i (wrap64 (st.C i + c)), ct := wrap64 (st.ct + c) }

/-- The call has put at the front. -/
def RetFront (w w' : World) (W O n : Nat) (st : WSt) (v : Nat) (c : Int) (e : Ending) : Prop :=
  e = .returned (.tuple #[]) ∧ ∃ r, FAdd st.fs v r ∧ WinIs w' W O n (putFront st r c) ∧ Touch W O w w'
/-- The call has put at slot i. -/
def RetOlder (w w' : World) (W O n : Nat) (st : WSt) (i v : Nat) (c : Int) (e : Ending) : Prop :=
  e = .returned (.tuple #[]) ∧ ∃ r, FAdd (st.S i) v r ∧ WinIs w' W O n (putOlder st i r c) ∧ Touch W O w w'

/-- A store of a float (the kit's walk has a law for integers, bools, strings, pointers, slices, not for floats). -/
theorem run_store_float (w : World) (a : Addr) (x : Nat) (m : Mode) : (store a (.float .f64 x) m).run Try.prog w = stored Try.prog w a (.float .f64 x) m := run_store _ _ _ _ _ rfl

set_option maxHeartbeats 400000 in
theorem put21_front (W O n : Nat) (st : WSt) (k : Int) (v : Nat) (c : Int) (w : World) (h : WinIs w W O n st) (hk : k = st.nw) :
    Calls Try.prog 21 #[.pointer (some ⟨W, 0, none⟩), .int .i64 k, .float .f64 v, .int .i64 c] w fun e w' => RetFront w w' W O n st v c e := by
  obtain ⟨_, c71, c72, c73, c74, _⟩ := h.cells
  have f71 := h.frozenW 71
  have f72 := h.frozenW 72
  have f74 := h.frozenW 74
  have H := h
  clear h
  have hk' : (k != st.nw) = false := by simp [hk]
  clear hk
  have hsf := run_store_float
  go_enter Try.func21, Try.ntmps21
  go_wp2_with (refine wpList_fadd _ rfl 32 _ _ _ rfl st.fs v rfl rfl ?_)
  intro r w1 hr hw
  rcases hw with rfl | rfl
  · go_wp2
    go_end0
    exact ⟨rfl, r, hr, ((H.setFs r).setFc _).setCt _, (((Touch.refl _ _ _).setW 71 _).setW 72 _).setW 74 _⟩
  · go_wp2
    go_end0
    exact ⟨rfl, r, hr, (((H.setFs r).setFc _).setCt _).drew, ((((Touch.refl _ _ _).setW 71 _).setW 72 _).setW 74 _).drew⟩

set_option maxHeartbeats 400000 in
theorem put21_older (W O n : Nat) (st : WSt) (k : Int) (v : Nat) (c : Int) (w : World) (h : WinIs w W O n st) (hn : n ≤ 65536) (h1 : k < st.nw) (h2 : st.nw - k ≤ n) (h3 : 0 ≤ st.pv) (h4 : st.pv < n) (h5 : -9223372036854775808 ≤ k) (h6 : st.nw ≤ 9223372036854775807) :
    Calls Try.prog 21 #[.pointer (some ⟨W, 0, none⟩), .int .i64 k, .float .f64 v, .int .i64 c] w fun e w' => RetOlder w w' W O n st (slotN n st.pv st.nw k) v c e := by
  obtain ⟨c4, _, _, c73, c74, _⟩ := h.cells
  have f74 := h.frozenW 74
  have hlt := slotN_lt h1 h2 h3 h4
  have H22 := fun m => slot22 W O n st k (w.drewN m) (h.drewN m) hn h1 h2 h3 h4 h5 h6
  generalize slotN n st.pv st.nw k = i at *
  obtain ⟨o0, o1⟩ := h.older i hlt
  have g0 := h.frozenO (i * 2)
  have g1 := h.frozenO (i * 2 + 1)
  have H := h
  have hne : (W = O) = False := eq_false h.ne
  have hne' : (O = W) = False := eq_false (Ne.symm h.ne)
  clear h
  have hk' : (k != st.nw) = true := by simp; omega
  have hlt' : (i : Int) < (n : Int) := by omega
  have hsf := run_store_float
  go_enter Try.func21, Try.ntmps21
  go_wp2
  go_quiet ((go_at_call 22; exact Calls.quiet_of (H22 _)))
  go_wp2_with (refine wpList_fadd _ rfl 32 _ _ _ rfl (st.S i) v rfl rfl ?_)
  intro r w1 hr hw
  clear H22
  rcases hw with rfl | rfl
  · go_wp2
    go_end0
    exact ⟨rfl, r, hr, (((H.drewN nq).setS i r).setC i _).setCt _, ((((Touch.refl _ _ _).drewN nq).setO (i * 2) _).setO (i * 2 + 1) _).setW 74 _⟩
  · go_wp2
    go_end0
    exact ⟨rfl, r, hr, ((((H.drewN nq).setS i r).setC i _).setCt _).drew, (((((Touch.refl _ _ _).drewN nq).setO (i * 2) _).setO (i * 2 + 1) _).setW 74 _).drew⟩

set_option maxHeartbeats 400000 in
theorem zzput12_front (W O n : Nat) (st : WSt) (k : Int) (v : Nat) (c : Int) (w : World) (h : WinIs w W O n st) (hk : k = st.nw) :
    Calls Try.prog 12 #[.pointer (some ⟨W, 0, none⟩), .int .i64 k, .float .f64 v, .int .i64 c] w fun e w' => RetFront w w' W O n st v c e := by
  have H := put21_front W O n st k v c w h hk
  clear h hk
  go_enter Try.func12, Try.ntmps12
  go_wp2_with fail
  refine H.mono ?_
  rintro e w1 ⟨rfl, hr⟩
  clear H
  go_wp2
  go_end0
  exact ⟨rfl, hr⟩

set_option maxHeartbeats 400000 in
theorem zzput12_older (W O n : Nat) (st : WSt) (k : Int) (v : Nat) (c : Int) (w : World) (h : WinIs w W O n st) (hn : n ≤ 65536) (h1 : k < st.nw) (h2 : st.nw - k ≤ n) (h3 : 0 ≤ st.pv) (h4 : st.pv < n) (h5 : -9223372036854775808 ≤ k) (h6 : st.nw ≤ 9223372036854775807) :
    Calls Try.prog 12 #[.pointer (some ⟨W, 0, none⟩), .int .i64 k, .float .f64 v, .int .i64 c] w fun e w' => RetOlder w w' W O n st (slotN n st.pv st.nw k) v c e := by
  have H := put21_older W O n st k v c w h hn h1 h2 h3 h4 h5 h6
  clear h
  go_enter Try.func12, Try.ntmps12
  go_wp2_with fail
  refine H.mono ?_
  rintro e w1 ⟨rfl, hr⟩
  clear H
  go_wp2
  go_end0
  exact ⟨rfl, hr⟩

end Go.Proofs.Qxb6614286a
