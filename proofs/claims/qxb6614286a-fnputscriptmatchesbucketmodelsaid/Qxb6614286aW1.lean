/-
  Walks (seat b6614286a): newDivisor (19), newWindow (20).
-/
import Derived.Test.Qxb6614286aProg
import Derived.WalkKit
import Derived.WalkSpells
import Derived.WalkLawsBesides
import Derived.Outline
import Derived.Deep.OwnRows
import Derived.RegionTactic
import Derived.BigRegion
import Derived.Deep.QuietTactic
import Derived.BigQuiet
import Derived.Deep.RegionWith
namespace Go.Proofs.Qxb6614286a
open Go.RowKit

/-- The multiplier of a divisor. -/
def divM (d : Int) : Int := 18446744073709551615 / d
/-- What newDivisor lays. -/
def divObj (d : Int) : Obj := .cells #[.int .u64 d, .int .u64 (divM d)] 46

set_option maxHeartbeats 400000 in
theorem div19 (d : Int) (w : World) (hd : 1 ≤ d) (hd2 : d ≤ 9223372036854775807) :
    Calls Try.prog 19 #[.int .i64 d] w fun e w' => e = .returned (.agg #[.int .u64 d, .int .u64 (divM d)]) ∧ w.alloc (divObj d) = w' := by
  go_enter Try.func19, Try.ntmps19
  go_wp2
  exact bodyPost_ret (v := .agg #[.int .u64 d, .int .u64 (divM d)]) (by simp [results, Try.results19, go_sem, divM]) rfl ⟨rfl, rfl⟩

/-- The zero Window. -/
def zeroWin : Array Value :=
  #[.nilIface, .int .i64 0, .int .u64 0, .int .u64 0, .slice none 0 0, .int .u8 0, .int .u8 0, .int .u8 0, .int .u8 0, .int .u8 0, .int .u8 0, .int .u8 0, .int .u8 0, .int .u8 0, .int .u8 0, .int .u8 0, .int .u8 0, .int .u8 0, .int .u8 0, .int .u8 0, .int .u8 0, .int .u8 0, .int .u8 0, .int .u8 0, .int .u8 0, .int .u8 0, .int .u8 0, .int .u8 0, .int .u8 0, .int .u8 0, .int .u8 0, .int .u8 0, .int .u8 0, .int .u8 0, .int .u8 0, .int .u8 0, .int .u8 0, .int .u8 0, .int .u8 0, .int .u8 0, .int .u8 0, .int .u8 0, .int .u8 0, .int .u8 0, .int .u8 0, .int .u8 0, .int .u8 0, .int .u8 0, .int .u8 0, .int .u8 0, .int .u8 0, .int .u8 0, .int .u8 0, .int .u8 0, .int .u8 0, .int .u8 0, .int .u8 0, .int .u8 0, .int .u8 0, .int .u8 0, .int .u8 0, .int .u8 0, .int .u8 0, .int .u8 0, .int .u8 0, .int .u8 0, .int .u8 0, .int .u8 0, .int .u8 0, .int .i32 0, .int .u32 0, .float .f64 0, .int .i64 0, .int .i64 0, .int .i64 0, .int .i64 0, .int .u8 0, .int .u8 0, .int .u8 0, .int .u8 0, .int .u8 0, .int .u8 0, .int .u8 0, .int .u8 0, .int .u8 0, .int .u8 0, .int .u8 0, .int .u8 0, .int .u8 0, .int .u8 0, .int .u8 0, .int .u8 0, .int .u8 0, .int .u8 0, .int .u8 0, .int .u8 0, .int .u8 0, .int .u8 0, .int .u8 0, .int .u8 0, .int .u8 0, .int .u8 0, .int .u8 0, .int .u8 0, .int .u8 0, .int .u8 0, .int .u8 0, .int .u8 0, .int .u8 0, .int .u8 0, .int .u8 0, .int .u8 0, .int .u8 0, .int .u8 0, .int .u8 0, .int .u8 0, .int .u8 0, .int .u8 0, .int .u8 0, .int .u8 0, .int .u8 0, .int .u8 0, .int .u8 0, .int .u8 0, .int .u8 0, .int .u8 0, .int .u8 0, .int .u8 0, .int .u8 0, .int .u8 0, .int .u8 0, .int .u8 0, .int .u8 0, .int .u8 0, .int .u8 0, .int .u8 0, .int .u8 0, .int .u8 0, .int .u8 0, .int .u8 0, .int .u8 0, .int .u8 0, .int .u8 0, .int .u8 0, .int .u8 0, .int .u8 0, .int .u8 0, .int .u8 0, .int .u8 0, .int .u8 0, .int .u8 0, .int .u8 0, .int .u8 0, .int .u8 0, .int .u8 0, .int .u8 0]
theorem zeroWin_size : zeroWin.size = 156 := by kernel_rfl
theorem zeroWin_ne : ¬ zeroWin = #[] := fun h => by have := congrArg Array.size h; rw [zeroWin_size] at this; simp at this
theorem zero67 (w : World) : (zeroValue 67).run Try.prog w = .ok (.agg zeroWin) w := by kernel_rfl

theorem Try.info64 : (Try.prog.info? 64).map (fun i => (i.zero, i.size, i.bytes)) = some (some (.agg #[.float .f64 0, .int .i64 0]), 2, 16) := by kernel_rfl

/-- The buckets that make lays. -/
def bucketObj (n : Nat) : Obj := .cells (madeCells #[.float .f64 0, .int .i64 0] (n * 2)) 64

theorem make64 (n : Nat) (hn : n ≤ 65536) (w : World) : (Instr.makeSlice 55 (.int .i64 (n : Int)) (.int .i64 (n : Int))).run Try.prog w = .ok (.slice (some ⟨w.heap.size, 0, none⟩) n n) (w.alloc (bucketObj n)) := by
  obtain ⟨i, hi, hzz⟩ := Option.map_eq_some_iff.1 Try.info64
  simp only [Prod.mk.injEq] at hzz
  obtain ⟨hz, hs, hb⟩ := hzz
  have hr := run_make (P := Try.prog) w 55 64 i _ Try.underlying55 hi hz .i64 .i64 n n (by omega) (Int.le_refl _) (by rw [hb]; omega) (by omega)
  rw [hs] at hr
  simpa [Value.cells, bucketObj] using hr

/-- What a window holds: its front's sum (bits) and count, its newest bucket's number, its total, its ring index, its older buckets' sums and counts. -/
structure WSt where
  fs : Nat
  fc : Int
  nw : Int
  ct : Int
  pv : Int
  S : Nat → Nat
  C : Nat → Int

/-- Block W is a window with n older buckets in block O, holding 'st'. -/
def WinIs (w : World) (W O n : Nat) (st : WSt) : Prop :=
  ∃ f g, w.rowIs W 67 156 f ∧ w.rowIs O 64 (n * 2) g ∧ W ≠ O ∧ f 4 = .slice (some ⟨O, 0, none⟩) n n ∧ f 71 = .float .f64 st.fs ∧ f 72 = .int .i64 st.fc ∧ f 73 = .int .i64 st.nw ∧ f 74 = .int .i64 st.ct ∧ f 75 = .int .i64 st.pv ∧
    ∀ i, i < n → g (i * 2) = .float .f64 (st.S i) ∧ g (i * 2 + 1) = .int .i64 (st.C i)

/-- A new window. -/
def st0 (nw pv : Int) : WSt := { fs := 0, fc := 0, nw := nw, ct := 0, pv := pv, S := fun _ => 0, C := fun _ => 0 }

theorem rowIs_bucket (w : World) (n : Nat) : (w.alloc (bucketObj n)).rowIs w.heap.size 64 (n * 2) (fun i => if i % 2 = 0 then .float .f64 0 else .int .i64 0) :=
  ⟨_, Go.Deep.blk_alloc_new _ _, size_madeCells _ _, fun i hi => by
    have h2 : i % 2 = 0 ∨ i % 2 = 1 := by omega
    rcases h2 with h | h <;> simp [madeCells, hi, h]⟩

/-- The cells of a new window. -/
def winArr (wd : Int) (O n : Nat) : Array Value :=
  (((((zeroWin.setIfInBounds 0 (.iface 52 (.agg #[]))).setIfInBounds 1 (.int .i64 wd)).setIfInBounds 2 (.int .u64 wd)).setIfInBounds 3 (.int .u64 (divM wd))).setIfInBounds 4 (.slice (some ⟨O, 0, none⟩) n n)).setIfInBounds 73 (.int .i64 (-9223372036854775808))

theorem winArr_size (wd : Int) (O n : Nat) : (winArr wd O n).size = 156 := by simp [winArr, zeroWin_size]

theorem zeroWin_at : zeroWin[71]? = some (.float .f64 0) ∧ zeroWin[72]? = some (.int .i64 0) ∧ zeroWin[74]? = some (.int .i64 0) ∧ zeroWin[75]? = some (.int .i64 0) := ⟨by kernel_rfl, by kernel_rfl, by kernel_rfl, by kernel_rfl⟩

theorem winIs_new {w : World} {O n : Nat} {g : Nat → Value} (wd : Int) (h : w.rowIs O 64 (n * 2) g) (hg : ∀ i, i < n * 2 → g i = if i % 2 = 0 then .float .f64 0 else .int .i64 0) :
    WinIs (w.alloc (.cells (winArr wd O n) 67)) w.heap.size O n (st0 (-9223372036854775808) 0) := by
  have hr := World.rowIs_alloc w (winArr wd O n) 67 (fun i => (winArr wd O n)[i]?.getD undef) (fun i hi => by simp [hi])
  rw [winArr_size] at hr
  obtain ⟨z1, z2, z4, z5⟩ := zeroWin_at
  refine ⟨_, g, hr, h.alloc _, fun e => by have := h.lt; omega, ?_, ?_, ?_, ?_, ?_, ?_, fun i hi => ⟨?_, ?_⟩⟩
  · simp [winArr, zeroWin_size]
  · simp [winArr, z1, st0]
  · simp [winArr, z2, st0]
  · simp [winArr, zeroWin_size, st0]
  · simp [winArr, z4, st0]
  · simp [winArr, z5, st0]
  · rw [hg _ (by omega), if_pos (by omega)]; rfl
  · rw [hg _ (by omega), if_neg (by omega)]; rfl

/-- The call has handed back a new window. -/
def RetWin (w w' : World) (n : Nat) (e : Ending) : Prop :=
  ∃ W O, e = .returned (.pointer (some ⟨W, 0, none⟩)) ∧ w.heap.size ≤ W ∧ w.heap.size ≤ O ∧ WinIs w' W O n (st0 (-9223372036854775808) 0)

theorem retWin_a (w : World) (wd : Int) (n : Nat) :
    RetWin w ((((w.alloc (divObj wd)).alloc (bucketObj n)).alloc (.cells (winArr wd (w.heap.size + 1) n) 67)).drew) n (.returned (.pointer (some ⟨w.heap.size + 2, 0, none⟩))) := by
  have hr := rowIs_bucket (w.alloc (divObj wd)) n
  have hs : (w.alloc (divObj wd)).heap.size = w.heap.size + 1 := by simp
  rw [hs] at hr
  have hw := winIs_new wd hr (fun i _ => rfl)
  have hs2 : ((w.alloc (divObj wd)).alloc (bucketObj n)).heap.size = w.heap.size + 2 := by simp
  rw [hs2] at hw
  exact ⟨_, _, rfl, by omega, by omega, hw⟩

theorem retWin_b (w : World) (wd : Int) (n : Nat) :
    RetWin w ((((w.alloc (bucketObj n)).alloc (divObj wd)).alloc (.cells (winArr wd w.heap.size n) 67)).drew) n (.returned (.pointer (some ⟨w.heap.size + 2, 0, none⟩))) := by
  have hr := (rowIs_bucket w n).alloc (divObj wd)
  have hw := winIs_new wd hr (fun i _ => rfl)
  have hs2 : ((w.alloc (bucketObj n)).alloc (divObj wd)).heap.size = w.heap.size + 2 := by simp
  rw [hs2] at hw
  exact ⟨_, _, rfl, by omega, by omega, hw⟩

theorem below3 (w : World) (a b c : Obj) : Below w.heap.size w (((w.alloc a).alloc b).alloc c).drew :=
  ((((Below.refl _ _).alloc (Nat.le_refl _) _).alloc (by simp) _).alloc (by simp; omega) _).drew

set_option maxRecDepth 100000 in
set_option maxHeartbeats 4000000 in
theorem window20 (n : Nat) (wd : Int) (w : World) (hn : n ≤ 65536) (hd : 1 ≤ wd) (hd2 : wd ≤ 9223372036854775807) :
    Calls Try.prog 20 #[.int .i64 ((n : Int) + 1), .int .i64 wd, .iface 52 (.agg #[])] w fun e w' => RetWin w w' n e ∧ Below w.heap.size w w' := by
  have hmk := make64 n hn
  have hwr : IntKind.i64.wrap (n : Int) = (n : Int) := by rw [IntKind.wrap_i64]; omega
  have hz67 := zero67
  have hzs := zeroWin_size
  have hzn := zeroWin_ne
  go_enter Try.func20, Try.ntmps20
  go_wp2
  go_region_with (go_at_call 19; refine (div19 wd _ hd hd2).mono ?_; rintro e w' ⟨rfl, rfl⟩)
  all_goals go_wp2
  all_goals go_ret
  · exact ⟨retWin_a w wd n, below3 _ _ _ _⟩
  · exact ⟨retWin_b w wd n, below3 _ _ _ _⟩

set_option maxHeartbeats 400000 in
theorem newWindow9 (n : Nat) (wd : Int) (w : World) (hn : n ≤ 65536) (hd : 1 ≤ wd) (hd2 : wd ≤ 9223372036854775807) :
    Calls Try.prog 9 #[.int .i64 ((n : Int) + 1), .int .i64 wd] w fun e w' => RetWin w w' n e ∧ Below w.heap.size w w' := by
  have H := window20 n wd w hn hd hd2
  go_enter Try.func9, Try.ntmps9
  go_wp2_with fail
  refine H.mono ?_
  rintro e w1 ⟨⟨W, O, rfl, hW, hO, hwin⟩, hb⟩
  clear H
  go_wp2
  go_ret
  exact ⟨⟨W, O, rfl, hW, hO, hwin⟩, hb⟩

end Go.Proofs.Qxb6614286a
