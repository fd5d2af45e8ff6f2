/-
  Seat b6614286a: how the arguments are read: from the reading of a script of puts to what the walks are told ('IsOps').
-/
import Derived.Test.Qxb6614286aRows
import Derived.Test.Qxb6614286aW6
import Derived.ProofKit
import Derived.ShutString
import Derived.OpenShut
import Derived.ChangeOld
import Derived.Deep.Slices
import Derived.Deep.Strs
namespace Go.Proofs.Qxb6614286a
open Go.ChangeShapes Go.WideShapes Go.ChangeAt Go.RowKit

theorem own : ownKnob Try.prog.godebug = none := by kernel_rfl
theorem laidOut : laidOutB Try.prog = true := by kernel_rfl

/-- A cell that is there lies in a block that is there. -/
theorem block_lt {W : World} {p : Addr} {v : Value} (h : W.cell? p = some v) : p.block < W.heap.size := by
  unfold World.cell? at h
  cases hb : W.heap[p.block]? with
  | none => rw [hb] at h; simp at h
  | some o => exact (Array.getElem?_eq_some_iff.1 hb).1

theorem trod_float {H : Type} {enc : TypeId × Value → H} {W : World} {fuel : Nat} {cs : List Value} {x : DataW H × List MemPlace}
    (h : DataW.trod enc Try.prog W 0 (fun _ => true) true fuel 32 cs = some x) : ∃ n, cs = [.float .f64 n] := by
  cases fuel with
  | zero => simp [DataW.trod] at h
  | succ n =>
    unfold DataW.trod at h
    rw [Try.underlying32] at h
    split at h <;> simp_all

theorem three_cells {cs : List Value} (h : cs.length = 3) : ∃ x y z, cs = [x, y, z] := by
  match cs, h with
  | [x, y, z], _ => exact ⟨x, y, z, rfl⟩

/-- One put, read. -/
theorem isOp_of {H : Type} {enc : TypeId × Value → H} {W : World} {fuel : Nat} {ad : Addr} {cs : List Value} {x : DataW H × List MemPlace} (hcs : W.cells? 0 ad 3 = some cs)
    (hf : DataW.trod enc Try.prog W 0 (fun _ => true) true fuel 41 cs = some x) :
    ∃ q : Int × Nat × Int, (-9223372036854775808 ≤ q.1 ∧ q.1 ≤ 9223372036854775807) ∧ W.cell? ad = some (.int .i64 q.1) ∧ W.cell? (ad.add 1) = some (.float .f64 q.2.1) ∧ W.cell? (ad.add 2) = some (.int .i64 q.2.2) := by
  obtain ⟨y0, y1, y2, n, _, _, t0, t1, t2⟩ := Go.Deep.trod_struct3 Try.underlying41 hf
  obtain ⟨_, hlen, hcell⟩ := World.cells?_some hcs
  obtain ⟨v0, v1, v2, rfl⟩ := three_cells hlen
  have z2 : Try.prog.cellsOf 2 = 1 := by kernel_rfl
  have z32 : Try.prog.cellsOf 32 = 1 := by kernel_rfl
  simp only [z2, z32, List.drop_zero, List.drop_succ_cons, List.take_succ_cons, List.take_zero] at t0 t1 t2
  obtain ⟨k, e0, _, wk⟩ := DataW.trod_int Try.underlying2 t0
  obtain ⟨v, e1⟩ := trod_float t1
  obtain ⟨c, e2, _, _⟩ := DataW.trod_int Try.underlying2 t2
  simp only [List.cons.injEq, and_true] at e0 e1 e2
  subst e0 e1 e2
  have h0 := hcell 0 (by omega)
  have h1 := hcell 1 (by omega)
  have h2 := hcell 2 (by omega)
  exact ⟨(k, v, c), bounds_i64 wk, by simpa [Addr.add] using h0, by simpa using h1, by simpa using h2⟩

/-- From the reading of a script of puts to what the walks are told. -/
theorem isOps_of {H : Type} {enc : TypeId × Value → H} {W : World} {a : Option Addr} {len cap fuel : Nat} {x : DataW H × List MemPlace}
    (hf : DataW.trod enc Try.prog W 0 (fun _ => true) true fuel 38 [.slice a len cap] = some x) : ∃ K V C, IsOps W a len K V C := by
  rcases Go.Deep.open_slice Try.underlying38 hf with ⟨hcs, _⟩ | ⟨ad, l, c, m, n, D, Pl, hcs, _, hl, hm, hmm, _, hx⟩
  · simp only [List.cons.injEq, Value.slice.injEq, and_true] at hcs
    obtain ⟨rfl, rfl, rfl⟩ := hcs
    exact ⟨fun _ => 0, fun _ => 0, fun _ => 0, Nat.zero_le _, fun i hi => absurd hi (Nat.not_lt_zero _), .inl rfl⟩
  · simp only [List.cons.injEq, Value.slice.injEq, and_true] at hcs
    obtain ⟨rfl, rfl, rfl⟩ := hcs
    simp only [if_true] at hmm
    subst hmm
    have z41 : Try.prog.cellsOf 41 = 3 := by kernel_rfl
    rw [z41] at hx
    obtain ⟨Q, hQ⟩ := Go.Deep.choose_lt (n := len) (p := fun i (q : Int × Nat × Int) => (-9223372036854775808 ≤ q.1 ∧ q.1 ≤ 9223372036854775807) ∧ W.cell? (ad.add (i * 3)) = some (.int .i64 q.1) ∧ W.cell? ((ad.add (i * 3)).add 1) = some (.float .f64 q.2.1) ∧ W.cell? ((ad.add (i * 3)).add 2) = some (.int .i64 q.2.2))
      (fun i hi => by obtain ⟨cs', h1, h2⟩ := hx i (by omega); exact isOp_of h1 h2)
    refine ⟨fun i => (Q i).1, fun i => (Q i).2.1, fun i => (Q i).2.2, by omega, fun i hi => (hQ i hi).1, ?_⟩
    by_cases h0 : len = 0
    · exact .inl h0
    · right
      obtain ⟨b, off, spot⟩ := ad
      have hspot : spot = none := by simpa [Addr.add] using World.cell?_spot (hQ 0 (by omega)).2.1
      subst hspot
      have hc : ∀ i, i < len → W.cell? ⟨b, off + i * 3, none⟩ = some (.int .i64 (Q i).1) ∧ W.cell? ⟨b, off + i * 3 + 1, none⟩ = some (.float .f64 (Q i).2.1) ∧ W.cell? ⟨b, off + i * 3 + 2, none⟩ = some (.int .i64 (Q i).2.2) := fun i hi => by
        obtain ⟨_, c0, c1, c2⟩ := hQ i hi
        simp only [Go.WideShapes.add_plain] at c0 c1 c2
        exact ⟨c0, c1, c2⟩
      exact ⟨b, off, block_lt (hc 0 (by omega)).1, rfl, hc⟩

end Go.Proofs.Qxb6614286a
