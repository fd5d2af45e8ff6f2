/-
  Walks (seat b6613745a): zzB1toCluster (23).
-/
import Derived.Test.Qxb6613745aW1
import Derived.Deep.OwnRows
import Derived.RegionTactic
import Derived.BigRegion
namespace Go.Proofs.Qxb6613745a
open Go.RowKit

theorem Try.info62 : (Try.prog.info? 62).map (fun i => (i.zero, i.size, i.bytes)) = some (some (.agg #[.string ByteArray.empty, .string ByteArray.empty]), 2, 32) := by kernel_rfl

/-- The two-cell rows: what make lays. -/
theorem rowIs_made2 (w : World) (z : Value) (n : Nat) (t : TypeId) : (w.alloc (.cells (madeCells #[z, z] (n * 2)) t)).rowIs w.heap.size t (n * 2) (fun _ => z) :=
  ⟨_, Go.Deep.blk_alloc_new _ _, size_madeCells _ _, fun i hi => by
    have h2 : i % 2 = 0 ∨ i % 2 = 1 := by omega
    rcases h2 with h | h <;> simp [madeCells, hi, h]⟩

theorem make62 (n : Nat) (hn : n ≤ 65536) (w : World) : (Instr.makeSlice 47 (.int .i64 (n : Int)) (.int .i64 (n : Int))).run Try.prog w =
    .ok (.slice (some ⟨w.heap.size, 0, none⟩) n n) (w.alloc (.cells (madeCells #[.string ByteArray.empty, .string ByteArray.empty] (n * 2)) 62)) := by
  obtain ⟨i, hi, hzz⟩ := Option.map_eq_some_iff.1 Try.info62
  simp only [Prod.mk.injEq] at hzz
  obtain ⟨hz, hs, hb⟩ := hzz
  have hr := run_make (P := Try.prog) w 47 62 i _ Try.underlying47 hi hz .i64 .i64 n n (by omega) (Int.le_refl _) (by rw [hb]; omega) (by omega)
  rw [hs] at hr
  simpa [Value.cells] using hr

/-- A row of members: two cells each. -/
def Row2 (w : World) (a : Option Addr) (len : Nat) (I P : Nat → ByteArray) : Prop :=
  len = 0 ∨ ∃ b off, b < w.heap.size ∧ a = some ⟨b, off, none⟩ ∧ ∀ i, i < len → w.cell? ⟨b, off + i * 2, none⟩ = some (.string (I i)) ∧ w.cell? ⟨b, off + i * 2 + 1, none⟩ = some (.string (P i))

theorem row2_below {w w' : World} {a : Option Addr} {len : Nat} {I P : Nat → ByteArray} (h : Row2 w a len I P) (hb : Below w.heap.size w w') : Row2 w' a len I P := by
  rcases h with h | ⟨b, off, hlt, rfl, h⟩
  · exact .inl h
  · exact .inr ⟨b, off, Nat.lt_of_lt_of_le hlt hb.size, rfl, fun i hi => ⟨(hb.cell (p := ⟨b, off + i * 2, none⟩) hlt).trans (h i hi).1, (hb.cell (p := ⟨b, off + i * 2 + 1, none⟩) hlt).trans (h i hi).2⟩⟩

theorem IsMems.row {w : World} {a : Option Addr} {len cap : Nat} {I P : Nat → ByteArray} (h : IsMems w a len cap I P) : Row2 w a len I P := h.2.2.2

/-- Of the first j members of the row it is told what they hold. -/
def MemsUpto (f : Nat → Value) (I P : Nat → ByteArray) (j : Nat) : Prop := ∀ i, i < j → f (i * 2) = .string (I i) ∧ f (i * 2 + 1) = .string (P i)

theorem memsUpto_succ {f : Nat → Value} {I P : Nat → ByteArray} {j : Nat} (h : MemsUpto f I P j) :
    MemsUpto (fun k => if k = j * 2 + 1 then .string (P j) else if k = j * 2 then .string (I j) else f k) I P (j + 1) := by
  intro i hi
  by_cases e : i = j
  · subst e
    exact ⟨by simp, by simp⟩
  · have h1 : ¬ i * 2 = j * 2 + 1 := by omega
    have h2 : ¬ i * 2 = j * 2 := by omega
    have h3 : ¬ i * 2 + 1 = j * 2 + 1 := by omega
    have h4 : ¬ i * 2 + 1 = j * 2 := by omega
    obtain ⟨a, b⟩ := h i (by omega)
    exact ⟨by simp only [if_neg h1, if_neg h2]; exact a, by simp only [if_neg h3, if_neg h4]; exact b⟩

/-- The call has handed back a slice of such members. -/
def RetMems (w' : World) (len : Nat) (I P : Nat → ByteArray) (e : Ending) : Prop := ∃ ad c, e = .returned (.slice ad len c) ∧ Row2 w' ad len I P

theorem RetMems.zero (w' : World) (ad : Option Addr) (c : Nat) (I P : Nat → ByteArray) : RetMems w' 0 I P (.returned (.slice ad 0 c)) := ⟨_, _, rfl, .inl rfl⟩
theorem RetMems.made {w' : World} {b len c : Nat} {t : TypeId} {f : Nat → Value} {I P : Nat → ByteArray} (h : w'.rowIs b t (len * 2) f) (hL : MemsUpto f I P len) : RetMems w' len I P (.returned (.slice (some ⟨b, 0, none⟩) len c)) :=
  ⟨_, _, rfl, .inr ⟨b, 0, h.lt, rfl, fun i hi => by
    obtain ⟨e0, e1⟩ := hL i hi
    rw [Nat.zero_add]
    exact ⟨by rw [h.cell (by omega), e0], by rw [h.cell (by omega), e1]⟩⟩⟩

set_option maxHeartbeats 400000 in
theorem cluster_nil (cap : Nat) (I P : Nat → ByteArray) (w : World) : Calls Try.prog 23 #[.slice none 0 cap] w fun e w' => RetMems w' 0 I P e ∧ Below w.heap.size w w' := by
  have hnil := fun (w : World) => Lib.run_eql_slice_nil (P := Try.prog) w 22 27 none 0 cap 0 0 Try.underlying22
  go_enter Try.func23, Try.ntmps23
  go_wp2
  go_ret
  exact ⟨RetMems.zero _ _ _ _ _, Below.refl _ _⟩

set_option maxHeartbeats 400000 in
theorem cluster_empty (ad : Addr) (cap : Nat) (I P : Nat → ByteArray) (w : World) : Calls Try.prog 23 #[.slice (some ad) 0 cap] w fun e w' => RetMems w' 0 I P e ∧ Below w.heap.size w w' := by
  have hnil := fun (w : World) => Lib.run_eql_slice_nil (P := Try.prog) w 22 27 (some ad) 0 cap 0 0 Try.underlying22
  have hmk : ∀ w, (Instr.makeSlice 47 (.int .i64 0) (.int .i64 0)).run Try.prog w = .ok (.slice (some ⟨w.heap.size, 0, none⟩) 0 0) (w.alloc (.cells #[] 62)) := fun _ => by kernel_rfl
  go_enter Try.func23, Try.ntmps23
  go_wp2
  refine wp_loop_rounds 1 ?_
  rw [rounds_succ]
  go_wp2
  go_ret
  exact ⟨RetMems.zero _ _ _ _ _, (Below.refl _ _).alloc (Nat.le_refl _) _⟩

set_option maxHeartbeats 400000 in
theorem cluster_some (b off len cap : Nat) (I P : Nat → ByteArray) (w : World) (hb : b < w.heap.size) (hlen : len ≤ 65536)
    (hc : ∀ i, i < len → w.cell? ⟨b, off + i * 2, none⟩ = some (.string (I i)) ∧ w.cell? ⟨b, off + i * 2 + 1, none⟩ = some (.string (P i))) :
    Calls Try.prog 23 #[.slice (some ⟨b, off, none⟩) len cap] w fun e w' => RetMems w' len I P e ∧ Below w.heap.size w w' := by
  have hnil := fun (w : World) => Lib.run_eql_slice_nil (P := Try.prog) w 22 27 (some ⟨b, off, none⟩) len cap 0 0 Try.underlying22
  have hmk := make62 len hlen
  go_enter Try.func23, Try.ntmps23
  go_wp2
  go_loopw [4] (fun i wr => ∃ (j : Nat) (f : Nat → Value), j ≤ len ∧ i = .int .i64 j ∧ wr.rowIs w.heap.size 62 (len * 2) f ∧ MemsUpto f I P j ∧ Below w.heap.size w wr) (fun i _ => len - (intOf i).toNat)
  case atStart => exact ⟨0, _, Nat.zero_le _, rfl, rowIs_made2 _ _ _ _, fun i hi => absurd hi (Nat.not_lt_zero _), (Below.refl _ _).alloc (Nat.le_refl _) _⟩
  case round =>
    obtain ⟨j, f, hj, rfl, hrow, hup, hbel⟩ := hrel
    have hsz := hrow.lt
    by_cases hlt : j < len
    · obtain ⟨hc0, hc1⟩ := hc j hlt
      have hd0 : wr.cell? ⟨b, off + j * 2, none⟩ = some (.string (I j)) := (hbel.cell (p := ⟨b, off + j * 2, none⟩) hb).trans hc0
      have hd1 : wr.cell? ⟨b, off + j * 2 + 1, none⟩ = some (.string (P j)) := (hbel.cell (p := ⟨b, off + j * 2 + 1, none⟩) hb).trans hc1
      have hr0 := hrow.cell (i := j * 2) (by omega)
      have hr1 := hrow.cell (i := j * 2 + 1) (by omega)
      have hf0 := hrow.frozen (j * 2)
      have hf1 := hrow.frozen (j * 2 + 1)
      clear hc hc0 hc1 hnil hmk
      go_wp2
      go_region
      go_wp2
      go_roundw
      case rel => exact ⟨j + 1, _, by omega, by go_num, ((hrow.set (j * 2) _).set (j * 2 + 1) _).drew, memsUpto_succ hup, ((hbel.setCell (p := ⟨w.heap.size, j * 2, none⟩) (Nat.le_refl _) _).setCell (p := ⟨w.heap.size, j * 2 + 1, none⟩) (Nat.le_refl _) _).drew⟩
      case measure => simp [intOf]; omega
    · obtain rfl : j = len := by omega
      go_wp2
      go_ret
      exact ⟨RetMems.made hrow hup, hbel⟩

theorem cluster (a : Option Addr) (len cap : Nat) (I P : Nat → ByteArray) (w : World) (h : Row2 w a len I P) (hlen : len ≤ 65536) :
    Calls Try.prog 23 #[.slice a len cap] w fun e w' => RetMems w' len I P e ∧ Below w.heap.size w w' := by
  rcases h with rfl | ⟨b, off, hb, rfl, h⟩
  · cases a with
    | none => exact cluster_nil cap I P w
    | some ad => exact cluster_empty ad cap I P w
  · exact cluster_some b off len cap I P w hb hlen h

end Go.Proofs.Qxb6613745a
