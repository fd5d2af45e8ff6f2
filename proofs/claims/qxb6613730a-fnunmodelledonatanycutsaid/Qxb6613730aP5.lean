/-
  The row of 'FnUnmodelledOnAtAnyCut' (5), seat b6613730a: out of the walk 'law5'.
-/
import Derived.Test.Qxb6613730aReads
import Derived.Test.Qxb6613730aW8
import Derived.Deep.Slices
namespace Go.Proofs.Qxb6613730a
open Go.ChangeShapes Go.WideShapes Go.ChangeAt Go.RowKit

theorem isStrs_cell {H : Type} {enc : TypeId × Value → H} {W : World} {fuel : Nat} {v : Value} {x : DataW H × List MemPlace}
    (hf : DataW.trod enc Try.prog W 0 (fun _ => true) true fuel 22 [v] = some x) : ∃ q : Option Addr × Nat × Nat × (Nat → ByteArray), v = .slice q.1 q.2.1 q.2.2.1 ∧ IsStrs W q.1 q.2.1 q.2.2.2 := by
  have hsh : ∃ a l c, v = .slice a l c := by
    rcases open_strings Try.underlying22 Try.underlying9 (by kernel_rfl) hf with ⟨hcs, _⟩ | ⟨ad, l, c, ss, hcs, _⟩
    · simp only [List.cons.injEq, and_true] at hcs
      exact ⟨_, _, _, hcs⟩
    · simp only [List.cons.injEq, and_true] at hcs
      exact ⟨_, _, _, hcs⟩
  obtain ⟨a, l, c, rfl⟩ := hsh
  obtain ⟨S, hS⟩ := isStrs_of hf
  exact ⟨(a, l, c, S), rfl, hS⟩

/-- From the reading of a slice of slices of strings to what the walks are told. -/
theorem isStrss_of {H : Type} {enc : TypeId × Value → H} {W : World} {a : Option Addr} {len cap fuel : Nat} {x : DataW H × List MemPlace}
    (hf : DataW.trod enc Try.prog W 0 (fun _ => true) true fuel 35 [.slice a len cap] = some x) : ∃ A L C S, IsStrss W a len A L C S := by
  rcases Go.Deep.open_slice1 Try.underlying35 (by kernel_rfl) hf with ⟨hcs, _⟩ | ⟨ad, l, c, m, n, V, D, Pl, hcs, _, hl, hm, hmm, _, hx⟩
  · simp only [List.cons.injEq, Value.slice.injEq, and_true] at hcs
    obtain ⟨rfl, rfl, rfl⟩ := hcs
    exact ⟨fun _ => none, fun _ => 0, fun _ => 0, fun _ _ => ByteArray.empty, Nat.zero_le _, fun i hi => absurd hi (Nat.not_lt_zero _), .inl rfl⟩
  · simp only [List.cons.injEq, Value.slice.injEq, and_true] at hcs
    obtain ⟨rfl, rfl, rfl⟩ := hcs
    simp only [if_true] at hmm
    subst hmm
    obtain ⟨Q, hQ⟩ := Go.Deep.choose_lt (n := len) (p := fun i (q : Option Addr × Nat × Nat × (Nat → ByteArray)) => V i = .slice q.1 q.2.1 q.2.2.1 ∧ IsStrs W q.1 q.2.1 q.2.2.2) (fun i hi => isStrs_cell (hx i (by omega)).2)
    refine ⟨fun i => (Q i).1, fun i => (Q i).2.1, fun i => (Q i).2.2.1, fun i => (Q i).2.2.2, by omega, fun i hi => (hQ i hi).2, ?_⟩
    by_cases h0 : len = 0
    · exact .inl h0
    · right
      obtain ⟨b, off, spot⟩ := ad
      have hspot : spot = none := by simpa [Addr.add] using World.cell?_spot (hx 0 (by omega)).1
      subst hspot
      have hc : ∀ i, i < len → W.cell? ⟨b, off + i, none⟩ = some (.slice (Q i).1 (Q i).2.1 (Q i).2.2.1) := fun i hi => by
        rw [← Go.WideShapes.add_plain, (hx i (by omega)).1, (hQ i hi).1]
      exact ⟨b, off, block_lt (hc 0 (by omega)), rfl, hc⟩

set_option maxRecDepth 100000 in
theorem FnUnmodelledOn_lifted (os : Os) (started : os.Started) (H : Type) (enc : TypeId × Value → H) :
    ReturnsInHanded {} Try.checked os 5 .any (Rows.fnUnmodelledOnAtAnyCutSpec.pre6 enc Try.prog Try.f5 Rows.fnUnmodelledOnAtAnyCutRow.domain false) (Rows.fnUnmodelledOnAtAnyCutSpec.post enc Try.prog Try.f5 false true false false) := by
  refine returnsInHanded_of_change (C := Try.checked) own started (by kernel_rfl) Try.func5
    (ChangeSpec.witness6 (enc := enc) (C := Try.checked) false ⟨#[], #[.slice none 0 0, .int .i64 0], []⟩ 8 (by kernel_rfl) (by kernel_rfl) (by kernel_rfl) (by kernel_rfl)) ?_
  intro W base args ds gs before hval0 hW hcnd _
  have hval : ∀ (j : Nat) t v, Try.f5.params[j]? = some t → args[j]? = some v → Value.okWide Try.prog W .any base t v := hval0
  have hW' := hW
  obtain ⟨p, q, hA0, hV, rfl, hfz, hnd⟩ := hW
  have hA : DataW.TrodAll enc Try.prog W 0 (fun _ => true) true Try.f5.params.toList args.toList ds p := hA0
  rw [Try.params5] at hA hval
  obtain ⟨v0, vs0, d0, ds0, p0, q0, hargs, rfl, rfl, h0, r0⟩ := trodAll_cons hA
  obtain ⟨v1, vs1, d1, ds1, p1, q1, rfl, rfl, rfl, h1, r1⟩ := trodAll_cons r0
  obtain ⟨rfl, rfl, rfl⟩ := trodAll_nil r1
  obtain rfl : args = #[v0, v1] := by cases args; simp_all
  obtain ⟨rfl, rfl⟩ := trodVars_none hV
  obtain ⟨a0, len0, cap0, rfl⟩ := okWide_slice Try.underlying35 (hval 0 35 v0 rfl rfl)
  have k0 := h0
  have lt0 : ∀ x ∈ p0, x.block < W.heap.size := by obtain ⟨m, hm⟩ := k0; exact DataW.trod_lt m _ _ _ hm
  obtain ⟨A0, L0, C0, S0, w0⟩ : ∃ A L C S, IsStrss W a0 len0 A L C S := by
    obtain ⟨fuel, hf⟩ := h0
    exact isStrss_of hf
  obtain ⟨a1, rfl, rfl, rfl, w1⟩ := open_int Try.underlying3 (hval 1 3 v1 rfl rfl) h1
  clear hA0 hval0
  refine (law5 a0 len0 cap0 A0 L0 C0 S0 a1 W w0).mono fun e W' ⟨he, bel⟩ => ?_
  subst he
  exact ⟨_, rfl, _, _, _, [], _, [], hW', trodAll_mk1 (shut_bool Try.underlying4 _),
    (trodAll_cons_mk (Below.trod laidOut (by kernel_rfl) (of_decide_eq_true (by kernel_rfl)) k0 bel lt0) (trodAll_cons_mk (shut_int Try.underlying3 w1) trodAll_mk0)), rfl, bel.frame _, fun h => by cases h⟩

theorem FnUnmodelledOn_over : Rows.fnUnmodelledOnAtAnyCutRow.holds Try.pinned (OpenSpec.ofChange Rows.fnUnmodelledOnAtAnyCutSpec) :=
  OpenClaim.holds_of_wide 5 Try.f5 rfl rfl rfl rfl rfl rfl rfl ⟨rfl, rfl, rfl, rfl, rfl⟩ rfl rfl rfl rfl rfl (by kernel_rfl) Try.func5 (by kernel_rfl)
    (of_decide_eq_true (by kernel_rfl)) (by unfold Func.isWrapper; first | (rw [if_pos (by decide +kernel)]; kernel_rfl) | (rw [if_neg (by decide +kernel)]; exact ⟨rfl, rfl⟩))
    (fun os started H enc _ => FnUnmodelledOn_lifted os started H enc)

theorem FnUnmodelledOn_proved : Rows.FnUnmodelledOnAtAnyCutSaid := FnUnmodelledOn_over

end Go.Proofs.Qxb6613730a
