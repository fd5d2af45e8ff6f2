/-
  Seat b6613745a: how the arguments are read: from the reading of a slice of members to what the walks are told ('IsMems').
-/
import Derived.Test.Qxb6613745aRows
import Derived.Test.Qxb6613745aW1
import Derived.ProofKit
import Derived.ShutString
import Derived.OpenShut
import Derived.ChangeOld
import Derived.Deep.SlicePairs
namespace Go.Proofs.Qxb6613745a
open Go.ChangeShapes Go.WideShapes Go.ChangeAt Go.RowKit

theorem own : ownKnob Try.prog.godebug = none := by kernel_rfl
theorem laidOut : laidOutB Try.prog = true := by kernel_rfl

/-- A cell that is there lies in a block that is there. -/
theorem block_lt {W : World} {p : Addr} {v : Value} (h : W.cell? p = some v) : p.block < W.heap.size := by
  unfold World.cell? at h
  cases hb : W.heap[p.block]? with
  | none => rw [hb] at h; simp at h
  | some o => exact (Array.getElem?_eq_some_iff.1 hb).1

/-- From the reading of a slice of members to what the walks are told. -/
theorem isMems_of {H : Type} {enc : TypeId × Value → H} {W : World} {a : Option Addr} {len cap fuel : Nat} {x : DataW H × List MemPlace}
    (hf : DataW.trod enc Try.prog W 0 (fun _ => true) true fuel 22 [.slice a len cap] = some x) : ∃ I P, IsMems W a len cap I P := by
  rcases Go.Deep.open_slice_pairs Try.underlying22 Try.underlying27 (by kernel_rfl) (by kernel_rfl) (by kernel_rfl) (by kernel_rfl) (by kernel_rfl) hf with ⟨hcs, _⟩ | ⟨ad, l, c, m, n, V0, V1, D0, D1, P0, P1, hcs, _, hl, hm, hmm, _, hx⟩
  · simp only [List.cons.injEq, Value.slice.injEq, and_true] at hcs
    obtain ⟨rfl, rfl, rfl⟩ := hcs
    exact ⟨fun _ => ByteArray.empty, fun _ => ByteArray.empty, Nat.zero_le _, fun i hi => absurd hi (Nat.not_lt_zero _), fun _ => ⟨rfl, rfl⟩, .inl rfl⟩
  · simp only [List.cons.injEq, Value.slice.injEq, and_true] at hcs
    obtain ⟨rfl, rfl, rfl⟩ := hcs
    simp only [if_true] at hmm
    subst hmm
    have each : ∀ i, i < len → ∃ q : ByteArray × ByteArray, (V0 i = .string q.1 ∧ q.1.size ≤ maxLen) ∧ (V1 i = .string q.2 ∧ q.2.size ≤ maxLen) := fun i hi => by
      obtain ⟨_, _, t0, t1⟩ := hx i (by omega)
      obtain ⟨s0, e0, _, z0⟩ := DataW.trod_string Try.underlying9 t0
      obtain ⟨s1, e1, _, z1⟩ := DataW.trod_string Try.underlying9 t1
      exact ⟨(s0, s1), ⟨by simpa using e0, z0⟩, ⟨by simpa using e1, z1⟩⟩
    obtain ⟨Q, hQ⟩ := Go.Deep.choose_lt (n := len) (p := fun i (q : ByteArray × ByteArray) => (V0 i = .string q.1 ∧ q.1.size ≤ maxLen) ∧ (V1 i = .string q.2 ∧ q.2.size ≤ maxLen)) each
    refine ⟨fun i => (Q i).1, fun i => (Q i).2, by omega, fun i hi => ⟨(hQ i hi).1.2, (hQ i hi).2.2⟩, (fun h => by simp at h), ?_⟩
    by_cases h0 : len = 0
    · exact .inl h0
    · right
      obtain ⟨b, off, spot⟩ := ad
      have hspot : spot = none := by simpa [Addr.add] using World.cell?_spot (hx 0 (by omega)).1
      subst hspot
      have hc : ∀ i, i < len → W.cell? ⟨b, off + i * 2, none⟩ = some (.string (Q i).1) ∧ W.cell? ⟨b, off + i * 2 + 1, none⟩ = some (.string (Q i).2) := fun i hi => by
        obtain ⟨c0, c1, _, _⟩ := hx i (by omega)
        rw [Go.WideShapes.add_plain] at c0 c1
        rw [Nat.add_assoc, c0, c1, (hQ i hi).1.1, (hQ i hi).2.1]
        exact ⟨rfl, rfl⟩
      exact ⟨b, off, block_lt (hc 0 (by omega)).1, rfl, hc⟩

end Go.Proofs.Qxb6613745a
