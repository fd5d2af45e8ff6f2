/-
  Seat b6613730a: how the arguments are read: from the reading of a slice of strings to what the walks are told ('IsStrs').
-/
import Derived.Test.Qxb6613730aRows
import Derived.Test.Qxb6613730aW1
import Derived.ProofKit
import Derived.SliceStrings
import Derived.ShutString
import Derived.OpenShut
import Derived.ChangeOld
namespace Go.Proofs.Qxb6613730a
open Go.ChangeShapes Go.WideShapes Go.ChangeAt Go.RowKit
open Go.ChangeMaps (open_string shut_string)

theorem own : ownKnob Try.prog.godebug = none := by kernel_rfl
theorem laidOut : laidOutB Try.prog = true := by kernel_rfl

/-- A cell that is there lies in a block that is there. -/
theorem block_lt {W : World} {p : Addr} {v : Value} (h : W.cell? p = some v) : p.block < W.heap.size := by
  unfold World.cell? at h
  cases hb : W.heap[p.block]? with
  | none => rw [hb] at h; simp at h
  | some o => exact (Array.getElem?_eq_some_iff.1 hb).1

/-- From the reading of a slice of strings to what the walks are told. -/
theorem isStrs_of {H : Type} {enc : TypeId × Value → H} {W : World} {a : Option Addr} {len cap fuel : Nat} {x : DataW H × List MemPlace}
    (hf : DataW.trod enc Try.prog W 0 (fun _ => true) true fuel 22 [.slice a len cap] = some x) : ∃ S, IsStrs W a len S := by
  rcases open_strings Try.underlying22 Try.underlying9 (by kernel_rfl) hf with ⟨hcs, _⟩ | ⟨ad, l, c, ss, hcs, _, hl, hm, hz, _, hcell, hws⟩
  · simp only [List.cons.injEq, Value.slice.injEq, and_true] at hcs
    obtain ⟨rfl, rfl, rfl⟩ := hcs
    exact ⟨fun _ => ByteArray.empty, Nat.zero_le _, fun i hi => absurd hi (Nat.not_lt_zero _), .inl rfl⟩
  · simp only [List.cons.injEq, Value.slice.injEq, and_true] at hcs
    obtain ⟨rfl, rfl, rfl⟩ := hcs
    simp only [if_true] at hz
    refine ⟨fun i => ss.getD i ByteArray.empty, by omega, fun i hi => ?_, ?_⟩
    · have hi2 : i < ss.length := by omega
      have e : ss.getD i ByteArray.empty = ss[i] := by simp [List.getD, hi2]
      show (ss.getD i ByteArray.empty).size ≤ maxLen
      rw [e]; exact hws _ (List.getElem_mem _)
    · by_cases h0 : len = 0
      · exact .inl h0
      · right
        obtain ⟨b, off, spot⟩ := ad
        have hspot : spot = none := by simpa [Addr.add] using World.cell?_spot (hcell 0 (by omega))
        subst hspot
        have hc : ∀ i, i < len → W.cell? ⟨b, off + i, none⟩ = some (.string (ss.getD i ByteArray.empty)) := fun i hi => by
          rw [← Go.WideShapes.add_plain]; exact hcell i (by omega)
        exact ⟨b, off, block_lt (hc 0 (by omega)), rfl, hc⟩

end Go.Proofs.Qxb6613730a
