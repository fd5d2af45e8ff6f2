/-
  Walks on the road of 'FnUnmodelledOnAtAnyCut' (seat b6613730a): zzCloneSS (16), len (42), ZZPush (37), zzStackOf (18), unmodelledOn (36), ZZUnmodelledOn (17), zzAnyNonEmpty (19).
-/
import Derived.Test.Qxb6613730aW5
namespace Go.Proofs.Qxb6613730a
open Go.RowKit

theorem Try.info22 : (Try.prog.info? 22).map (fun i => (i.zero, i.size, i.bytes)) = some (some (.slice none 0 0), 1, 24) := by kernel_rfl

/-- A slice of slices of which only the lengths are told. -/
def Lens (w : World) (v : Value) (len : Nat) (L : Nat → Nat) : Prop :=
  ∃ ad c, v = .slice ad len c ∧ (len = 0 ∨ ∃ b, b < w.heap.size ∧ ad = some ⟨b, 0, none⟩ ∧ ∀ i, i < len → ∃ a' c', w.cell? ⟨b, i, none⟩ = some (.slice a' (L i) c'))

/-- Of the first j cells of the row it is told how long each is. -/
def LensUpto (f : Nat → Value) (L : Nat → Nat) (j : Nat) : Prop := ∀ i, i < j → ∃ a' c', f i = .slice a' (L i) c'

theorem lensUpto_succ {f : Nat → Value} {L : Nat → Nat} {j : Nat} (h : LensUpto f L j) (a' : Option Addr) (c' : Nat) : LensUpto (fun i => if i = j then .slice a' (L j) c' else f i) L (j + 1) := by
  intro i hi
  by_cases e : i = j
  · subst e; exact ⟨a', c', by simp⟩
  · obtain ⟨x, y, hxy⟩ := h i (by omega)
    exact ⟨x, y, by simp [e, hxy]⟩

/-- The call has handed back such a slice. -/
def RetLens (w' : World) (len : Nat) (L : Nat → Nat) (e : Ending) : Prop := ∃ v, e = .returned v ∧ Lens w' v len L

theorem RetLens.zero (w' : World) (ad : Option Addr) (c : Nat) (L : Nat → Nat) : RetLens w' 0 L (.returned (.slice ad 0 c)) := ⟨_, rfl, _, _, rfl, .inl rfl⟩
theorem RetLens.row {w' : World} {b len c : Nat} {f : Nat → Value} {L : Nat → Nat} (h : w'.rowIs b 22 len f) (hL : LensUpto f L len) : RetLens w' len L (.returned (.slice (some ⟨b, 0, none⟩) len c)) :=
  ⟨_, rfl, _, _, rfl, .inr ⟨b, h.lt, rfl, fun i hi => by obtain ⟨x, y, e⟩ := hL i hi; exact ⟨x, y, by rw [h.cell hi, e]⟩⟩⟩

set_option maxHeartbeats 400000 in
theorem cloneSS_nil (cap : Nat) (L : Nat → Nat) (w : World) : Calls Try.prog 16 #[.slice none 0 cap] w fun e w' => RetLens w' 0 L e ∧ Below w.heap.size w w' := by
  have hnil := fun (w : World) => Lib.run_eql_slice_nil (P := Try.prog) w 35 22 none 0 cap 0 0 Try.underlying35
  go_enter Try.func16, Try.ntmps16
  go_wp2
  go_ret
  exact ⟨RetLens.zero _ _ _ _, Below.refl _ _⟩

set_option maxHeartbeats 400000 in
theorem cloneSS_empty (ad : Addr) (cap : Nat) (L : Nat → Nat) (w : World) : Calls Try.prog 16 #[.slice (some ad) 0 cap] w fun e w' => RetLens w' 0 L e ∧ Below w.heap.size w w' := by
  have hnil := fun (w : World) => Lib.run_eql_slice_nil (P := Try.prog) w 35 22 (some ad) 0 cap 0 0 Try.underlying35
  have hmk : ∀ w, (Instr.makeSlice 35 (.int .i64 0) (.int .i64 0)).run Try.prog w = .ok (.slice (some ⟨w.heap.size, 0, none⟩) 0 0) (w.alloc (.cells #[] 22)) := fun _ => by kernel_rfl
  go_enter Try.func16, Try.ntmps16
  go_wp2
  refine wp_loop_rounds 1 ?_
  rw [rounds_succ]
  go_wp2
  go_ret
  exact ⟨RetLens.zero _ _ _ _, (Below.refl _ _).alloc (Nat.le_refl _) _⟩

theorem isStrs_below {w w' : World} {a : Option Addr} {n : Nat} {S : Nat → ByteArray} (h : IsStrs w a n S) (hb : Below w.heap.size w w') : IsStrs w' a n S := by
  obtain ⟨h1, h2, h3 | ⟨b, off, hlt, rfl, h3⟩⟩ := h
  · exact ⟨h1, h2, .inl h3⟩
  · exact ⟨h1, h2, .inr ⟨b, off, Nat.lt_of_lt_of_le hlt hb.size, rfl, fun i hi => (hb.cell (p := ⟨b, off + i, none⟩) hlt).trans (h3 i hi)⟩⟩

set_option maxHeartbeats 400000 in
theorem cloneSS_some (b off len cap : Nat) (A : Nat → Option Addr) (L C : Nat → Nat) (S : Nat → Nat → ByteArray) (w : World) (hb : b < w.heap.size) (hlen : len ≤ 65536) (hS : ∀ i, i < len → IsStrs w (A i) (L i) (S i))
    (hL : ∀ i, i < len → L i ≤ 1048576) (hc : ∀ i, i < len → w.cell? ⟨b, off + i, none⟩ = some (.slice (A i) (L i) (C i))) :
    Calls Try.prog 16 #[.slice (some ⟨b, off, none⟩) len cap] w fun e w' => RetLens w' len L e ∧ Below w.heap.size w w' := by
  have hnil := fun (w : World) => Lib.run_eql_slice_nil (P := Try.prog) w 35 22 (some ⟨b, off, none⟩) len cap 0 0 Try.underlying35
  have hmk := run_make_row' (P := Try.prog) 35 22 (.slice none 0 0) 24 Try.underlying35 Try.info22 rfl .i64 .i64 len (by omega) (by omega)
  go_enter Try.func16, Try.ntmps16
  go_wp2
  go_loopw [12] (fun i wr => ∃ (j : Nat) (f : Nat → Value), j ≤ len ∧ i = .int .i64 j ∧ wr.rowIs w.heap.size 22 len f ∧ LensUpto f L j ∧ Below w.heap.size w wr) (fun i _ => len - (intOf i).toNat)
  case atStart => exact ⟨0, _, Nat.zero_le _, rfl, World.rowIs_made _ _ _ _, fun i hi => absurd hi (Nat.not_lt_zero _), (Below.refl _ _).alloc (Nat.le_refl _) _⟩
  case round =>
    obtain ⟨j, f, hj, rfl, hrow, hup, hbel⟩ := hrel
    have hsz := hrow.lt
    by_cases hlt : j < len
    · have hcj : wr.cell? ⟨b, off + j, none⟩ = some (.slice (A j) (L j) (C j)) := (hbel.cell (p := ⟨b, off + j, none⟩) hb).trans (hc j hlt)
      have H35 := cloneS (A j) (L j) (C j) (S j) wr (isStrs_below (hS j hlt) hbel) (hL j hlt)
      clear hc hL hS
      go_wp2_with fail
      refine H35.mono ?_
      rintro e w1 ⟨⟨ad, c, rfl⟩, hb1⟩
      clear H35 hcj
      have hrow1 : w1.rowIs w.heap.size 22 len f := hrow.of_block (hb1.block _ hsz)
      have hbel1 : Below w.heap.size w w1 := hbel.trans (hb1.mono hbel.size)
      have hrj := hrow1.cell (i := j) (by omega)
      have hfj := hrow1.frozen j
      have hsz1 := hrow1.lt
      clear hrow hb1 hbel
      go_wp2
      go_roundw
      case rel => exact ⟨j + 1, _, by omega, by go_num, hrow1.set j _, lensUpto_succ hup ad c, hbel1.setCell (Nat.le_refl _) _⟩
      case measure => simp [intOf]; omega
    · obtain rfl : j = len := by omega
      go_wp2
      go_ret
      exact ⟨RetLens.row hrow hup, hbel⟩

theorem cloneSS (a : Option Addr) (len cap : Nat) (A : Nat → Option Addr) (L C : Nat → Nat) (S : Nat → Nat → ByteArray) (w : World) (h : IsStrss w a len A L C S) (hlen : len ≤ 65536) (hL : ∀ i, i < len → L i ≤ 1048576) :
    Calls Try.prog 16 #[.slice a len cap] w fun e w' => RetLens w' len L e ∧ Below w.heap.size w w' := by
  obtain ⟨h1, h2, rfl | ⟨b, off, hb, rfl, h3⟩⟩ := h
  · cases a with
    | none => exact cloneSS_nil cap L w
    | some ad => exact cloneSS_empty ad cap L w
  · exact cloneSS_some b off len cap A L C S w hb hlen h2 hL h3

/-- A stack of rules: from the top down, how many kinds each rule has. -/
def StackIs (w : World) : List Nat → Value → Prop
  | [], v => v = .pointer none
  | n :: ns, v => ∃ (b r : Nat) (v' : Value) (h : Int) (ad : Option Addr) (c : Nat), v = .pointer (some ⟨b, 0, none⟩) ∧ b < w.heap.size ∧ r < w.heap.size ∧ w.cell? ⟨b, 0, none⟩ = some (.pointer (some ⟨r, 0, none⟩)) ∧
      w.cell? ⟨b, 1, none⟩ = some v' ∧ w.cell? ⟨b, 2, none⟩ = some (.int .i64 h) ∧ w.cell? ⟨r, 6, none⟩ = some (.slice ad n c) ∧ StackIs w ns v'

theorem stackIs_below {w w' : World} (hb : Below w.heap.size w w') : ∀ (ns : List Nat) (v : Value), StackIs w ns v → StackIs w' ns v
  | [], _, h => h
  | _ :: ns, _, ⟨b, r, v', h, ad, c, e, hb1, hr1, c0, c1, c2, c6, hs⟩ =>
    ⟨b, r, v', h, ad, c, e, Nat.lt_of_lt_of_le hb1 hb.size, Nat.lt_of_lt_of_le hr1 hb.size, (hb.cell (p := ⟨b, 0, none⟩) hb1).trans c0, (hb.cell (p := ⟨b, 1, none⟩) hb1).trans c1, (hb.cell (p := ⟨b, 2, none⟩) hb1).trans c2,
      (hb.cell (p := ⟨r, 6, none⟩) hr1).trans c6, stackIs_below hb ns v' hs⟩

theorem stackIs_ptr {w : World} {ns : List Nat} {v : Value} (h : StackIs w ns v) : v = .pointer none ∨ ∃ b hh, v = .pointer (some ⟨b, 0, none⟩) ∧ w.cell? ⟨b, 2, none⟩ = some (.int .i64 hh) := by
  cases ns with
  | nil => exact .inl h
  | cons n ns => obtain ⟨b, r, v', hh, ad, c, e, _, _, _, _, c2, _⟩ := h; exact .inr ⟨b, hh, e, c2⟩

/-- What the push lays. -/
def pushObj (r : Nat) (v : Value) (h : Int) : Obj := .cells #[.pointer (some ⟨r, 0, none⟩), v, .int .i64 h] 88

def RetPush (w w' : World) (r : Nat) (v : Value) (e : Ending) : Prop := ∃ h : Int, e = .returned (.pointer (some ⟨w.heap.size, 0, none⟩)) ∧ w.alloc (pushObj r v h) = w'

set_option maxHeartbeats 400000 in
theorem push37_nil (r : Nat) (w : World) : Calls Try.prog 37 #[.pointer none, .pointer (some ⟨r, 0, none⟩)] w fun e w' => RetPush w w' r (.pointer none) e := by
  go_enter Try.func37, Try.ntmps37
  go_wp2
  go_ret
  exact ⟨_, rfl, rfl⟩

set_option maxHeartbeats 400000 in
theorem push37_some (b r : Nat) (h : Int) (w : World) (hc : w.cell? ⟨b, 2, none⟩ = some (.int .i64 h)) : Calls Try.prog 37 #[.pointer (some ⟨b, 0, none⟩), .pointer (some ⟨r, 0, none⟩)] w fun e w' => RetPush w w' r (.pointer (some ⟨b, 0, none⟩)) e := by
  go_enter Try.func37, Try.ntmps37
  go_wp2
  go_ret
  exact ⟨_, rfl, rfl⟩

theorem push37 (ns : List Nat) (v : Value) (r : Nat) (w : World) (h : StackIs w ns v) : Calls Try.prog 37 #[v, .pointer (some ⟨r, 0, none⟩)] w fun e w' => RetPush w w' r v e := by
  rcases stackIs_ptr h with rfl | ⟨b, hh, rfl, hc⟩
  · exact push37_nil r w
  · exact push37_some b r hh w hc

end Go.Proofs.Qxb6613730a
