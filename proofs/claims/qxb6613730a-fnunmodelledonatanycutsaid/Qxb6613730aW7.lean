/-
  Walks on the road of 'FnUnmodelledOnAtAnyCut' (seat b6613730a): zzStackOf (18), unmodelledOn (36), ZZUnmodelledOn (17), zzAnyNonEmpty (19); the law's own walk (5).
-/
import Derived.Test.Qxb6613730aW6
namespace Go.Proofs.Qxb6613730a
open Go.RowKit

/-- What stands on the stack behind the pushes of rows f, f + 1, .., f + n - 1: the last at the top. -/
def pushed (L : Nat → Nat) (f : Nat) : Nat → List Nat
  | 0 => []
  | n + 1 => L (f + n) :: pushed L f n

def RetStack (w' : World) (ns : List Nat) (e : Ending) : Prop := ∃ v, e = .returned v ∧ StackIs w' ns v

theorem stack_push {w : World} {ns : List Nat} {v : Value} (h : StackIs w ns v) (n : Nat) (ad : Option Addr) (c : Nat) (a hh : Int) :
    StackIs ((w.alloc (ruleObj a ad n c)).alloc (pushObj w.heap.size v hh)) (n :: ns) (.pointer (some ⟨w.heap.size + 1, 0, none⟩)) := by
  have hb : Below w.heap.size w ((w.alloc (ruleObj a ad n c)).alloc (pushObj w.heap.size v hh)) := ((Below.refl _ _).alloc (Nat.le_refl _) _).alloc (by simp) _
  have hsz : (w.alloc (ruleObj a ad n c)).heap.size = w.heap.size + 1 := by simp
  refine ⟨w.heap.size + 1, w.heap.size, v, hh, ad, c, rfl, by simp, by simp; omega, ?_, ?_, ?_, ?_, stackIs_below hb ns v h⟩
  · exact World.cell?_alloc_at _ _ _ _ hsz.symm
  · exact World.cell?_alloc_at _ _ _ _ hsz.symm
  · exact World.cell?_alloc_at _ _ _ _ hsz.symm
  · rw [World.cell?_alloc_past _ _ _ (by simp)]
    exact World.cell?_alloc_at _ _ _ _ rfl

set_option maxHeartbeats 400000 in
theorem stackOf_some (b len cap : Nat) (L : Nat → Nat) (f t : Nat) (w : World) (hb : b < w.heap.size) (hft : f ≤ t) (ht : t ≤ len) (hlen : len ≤ 65536) (hc : ∀ i, i < len → ∃ a' c', w.cell? ⟨b, i, none⟩ = some (.slice a' (L i) c')) :
    Calls Try.prog 18 #[.slice (some ⟨b, 0, none⟩) len cap, .int .i64 f, .int .i64 t] w fun e w' => RetStack w' (pushed L f (t - f)) e ∧ Below w.heap.size w w' := by
  go_enter Try.func18, Try.ntmps18
  go_wp2
  go_loopw [7, 8] (fun s i wr => ∃ n : Nat, f + n ≤ t ∧ i = .int .i64 ((f + n : Nat) : Int) ∧ StackIs wr (pushed L f n) s ∧ Below w.heap.size w wr) (fun _ i _ => t - (intOf i).toNat)
  case atStart => exact ⟨0, by omega, rfl, rfl, Below.refl _ _⟩
  case round =>
    obtain ⟨n, hn, rfl, hst, hbel⟩ := hrel
    by_cases hlt : f + n < t
    · obtain ⟨a', c', hci⟩ := hc (f + n) (by omega)
      have hcj : wr.cell? ⟨b, f + n, none⟩ = some (.slice a' (L (f + n)) c') := (hbel.cell (p := ⟨b, f + n, none⟩) hb).trans hci
      clear hci hc
      generalize hm : f + n = m at *
      have Hm : Hid (f + n = m) := hm
      clear hm
      have hst' : StackIs (wr.alloc (ruleObj 0 a' (L m) c')) (pushed L f n) u7 := stackIs_below ((Below.refl _ _).alloc (Nat.le_refl _) _) _ _ hst
      have hsz := hbel.size
      go_wp2_with fail
      refine (push37 _ u7 wr.heap.size (wr.alloc (ruleObj 0 a' (L m) c')) hst').mono ?_
      rintro e w1 ⟨hh, rfl, rfl⟩
      have hpu := stack_push hst (L m) a' c' 0 hh
      have hbel' : Below w.heap.size w ((wr.alloc (ruleObj 0 a' (L m) c')).alloc (pushObj wr.heap.size u7 hh)) := (hbel.alloc hsz _).alloc (by simp; omega) _
      clear hst hst' hbel hcj
      go_wp2
      go_roundw
      case rel =>
        have e1 : f + n = m := Hm.out
        refine ⟨n + 1, by omega, by rw [show f + (n + 1) = m + 1 from by omega]; go_num, ?_, hbel'⟩
        show StackIs _ (L (f + n) :: pushed L f n) _
        rw [e1]
        exact hpu
      case measure => simp [intOf]; omega
    · have hst2 : RetStack wr (pushed L f (t - f)) (.returned u7) := by rw [show t - f = n from by omega]; exact ⟨_, rfl, hst⟩
      clear hst
      go_wp2
      go_ret
      exact ⟨hst2, hbel⟩

set_option maxHeartbeats 400000 in
theorem stackOf_none (v : Option Addr) (cap : Nat) (L : Nat → Nat) (w : World) :
    Calls Try.prog 18 #[.slice v 0 cap, .int .i64 0, .int .i64 0] w fun e w' => RetStack w' (pushed L 0 0) e ∧ Below w.heap.size w w' := by
  go_enter Try.func18, Try.ntmps18
  go_wp2
  refine wp_loop_rounds 1 ?_
  rw [rounds_succ]
  go_wp2
  go_ret
  exact ⟨⟨_, rfl, rfl⟩, Below.refl _ _⟩

theorem stackOf (v : Value) (len : Nat) (L : Nat → Nat) (f t : Nat) (w : World) (h : Lens w v len L) (hft : f ≤ t) (ht : t ≤ len) (hlen : len ≤ 65536) :
    Calls Try.prog 18 #[v, .int .i64 f, .int .i64 t] w fun e w' => RetStack w' (pushed L f (t - f)) e ∧ Below w.heap.size w w' := by
  obtain ⟨ad, c, rfl, rfl | ⟨b, hb, rfl, hc⟩⟩ := h
  · obtain rfl : t = 0 := by omega
    obtain rfl : f = 0 := by omega
    exact stackOf_none ad c L w
  · exact stackOf_some b len c L f t w hb hft ht hlen hc

/-- Some rule has a kind. -/
def anyB (ns : List Nat) : Bool := ns.any fun n => decide (0 < n)

theorem anyB_iff (ns : List Nat) : anyB ns = true ↔ ∃ n ∈ ns, 0 < n := by simp [anyB]
theorem mem_pushed {L : Nat → Nat} {f : Nat} : ∀ {n : Nat} {x : Nat}, x ∈ pushed L f n ↔ ∃ i, i < n ∧ x = L (f + i)
  | 0, x => by simp [pushed]
  | n + 1, x => by
    simp only [pushed, List.mem_cons, mem_pushed (n := n)]
    constructor
    · rintro (h | ⟨i, hi, h⟩)
      · exact ⟨n, by omega, h⟩
      · exact ⟨i, by omega, h⟩
    · rintro ⟨i, hi, h⟩
      by_cases e : i = n
      · subst e; exact .inl h
      · exact .inr ⟨i, by omega, h⟩
theorem anyB_pushed {L : Nat → Nat} {f n : Nat} : anyB (pushed L f n) = true ↔ ∃ i, i < n ∧ 0 < L (f + i) := by
  rw [anyB_iff]
  constructor
  · rintro ⟨x, hx, h0⟩
    obtain ⟨i, hi, rfl⟩ := mem_pushed.1 hx
    exact ⟨i, hi, h0⟩
  · rintro ⟨i, hi, h0⟩
    exact ⟨_, mem_pushed.2 ⟨i, hi, rfl⟩, h0⟩
theorem anyB_yes {L : Nat → Nat} {n j : Nat} (hj : j < n) (h : 0 < L j) : anyB (pushed L 0 n) = true := anyB_pushed.2 ⟨j, hj, by simpa using h⟩
theorem anyB_no {L : Nat → Nat} {n : Nat} (h : ∀ m, m < n → L m = 0) : anyB (pushed L 0 n) = false := by
  rw [Bool.eq_false_iff]
  intro h1
  obtain ⟨i, hi, h0⟩ := anyB_pushed.1 h1
  have := h i hi
  simp at h0
  omega
/-- THE PLAIN LAW: at any cut. -/
theorem anyB_cut (L : Nat → Nat) (k n : Nat) (hk : k ≤ n) : anyB (pushed L 0 n) = (anyB (pushed L 0 k) || anyB (pushed L k (n - k))) := by
  rw [Bool.eq_iff_iff, Bool.or_eq_true, anyB_pushed, anyB_pushed, anyB_pushed]
  constructor
  · rintro ⟨i, hi, h0⟩
    by_cases e : i < k
    · exact .inl ⟨i, e, h0⟩
    · exact .inr ⟨i - k, by omega, by rw [show k + (i - k) = 0 + i from by omega]; exact h0⟩
  · rintro (⟨i, hi, h0⟩ | ⟨i, hi, h0⟩)
    · exact ⟨i, by omega, h0⟩
    · exact ⟨k + i, by omega, by rw [Nat.zero_add]; exact h0⟩

set_option maxHeartbeats 400000 in
theorem unmod36 (ns : List Nat) (v : Value) (w : World) (h : StackIs w ns v) :
    Calls Try.prog 36 #[v] w fun e w' => e = .returned (.bool (anyB ns)) ∧ w = w' := by
  obtain ⟨r, hr⟩ : ∃ r, anyB ns = r := ⟨_, rfl⟩
  rw [hr]
  have HR : Hid (anyB ns = r) := hr
  clear hr
  go_enter Try.func36, Try.ntmps36
  go_wp2
  go_loopg [3] ns.length (fun k p wr => ∃ ms : List Nat, ms.length = k ∧ StackIs w ms p ∧ Hid (anyB ms = r) ∧ w = wr)
  case atStart => exact ⟨ns, rfl, h, HR, rfl⟩
  case round =>
    obtain ⟨ms, hk, hst, hms, rfl⟩ := hrel
    clear h HR
    cases ms with
    | nil =>
      have e : u3 = .pointer none := hst
      have e2 : r = false := hms.out.symm
      clear hst hms
      subst e
      subst e2
      go_wp2
      go_ret
      exact ⟨rfl, rfl⟩
    | cons n ms =>
      obtain ⟨b, rb, v', hh, ad, c, e, _, _, c0, c1, c2, c6, hs⟩ := hst
      subst e
      by_cases hn : 0 < n
      · have e2 : r = true := by rw [← hms.out]; simp [anyB, hn]
        have hn' : (0 : Int) < (n : Int) := by omega
        clear hms hs hk
        subst e2
        go_wp2
        go_ret
        exact ⟨rfl, rfl⟩
      · have hms' : Hid (anyB ms = r) := by
          have := hms.out
          simp only [anyB, List.any_cons] at this
          rw [decide_eq_false hn, Bool.false_or] at this
          exact this
        have hn' : ¬ (0 : Int) < (n : Int) := by omega
        have hk' : Hid (ms.length + 1 = gk) := hk
        clear hms hk
        go_wp2
        go_roundg ms.length
        case measure => have := hk'.out; omega
        case rel => exact ⟨ms, rfl, hs, hms', rfl⟩

set_option maxHeartbeats 400000 in
theorem unmod17 (ns : List Nat) (v : Value) (w : World) (h : StackIs w ns v) :
    Calls Try.prog 17 #[v] w fun e w' => e = .returned (.bool (anyB ns)) ∧ w = w' := by
  have H := unmod36 ns v w h
  clear h
  go_enter Try.func17, Try.ntmps17
  go_wp2_with fail
  refine H.mono ?_
  rintro e w' ⟨rfl, rfl⟩
  clear H
  go_wp2
  go_ret
  exact ⟨rfl, rfl⟩

set_option maxHeartbeats 400000 in
theorem any19_some (b len cap : Nat) (L : Nat → Nat) (w : World) (hlen : len ≤ 65536) (hc : ∀ i, i < len → ∃ a' c', w.cell? ⟨b, i, none⟩ = some (.slice a' (L i) c')) :
    Calls Try.prog 19 #[.slice (some ⟨b, 0, none⟩) len cap] w fun e w' => e = .returned (.bool (anyB (pushed L 0 len))) ∧ w = w' := by
  obtain ⟨r, hr⟩ : ∃ r, anyB (pushed L 0 len) = r := ⟨_, rfl⟩
  rw [hr]
  have HR : Hid (anyB (pushed L 0 len) = r) := hr
  clear hr
  go_enter Try.func19, Try.ntmps19
  go_wp2
  go_loop [6] (fun i => ∃ j : Nat, j ≤ len ∧ i = .int .i64 j ∧ Hid (∀ m, m < j → L m = 0)) (fun i => len - (intOf i).toNat)
  case atStart => exact ⟨0, by omega, rfl, fun m hm => absurd hm (Nat.not_lt_zero _)⟩
  case round =>
    obtain ⟨j, hj, rfl, hz⟩ := hrel
    by_cases hlt : j < len
    · obtain ⟨a', c', hcj⟩ := hc j hlt
      clear hc
      by_cases hn : 0 < L j
      · have e2 : r = true := by rw [← HR.out]; exact anyB_yes hlt hn
        have hn' : (0 : Int) < (L j : Int) := by omega
        clear HR hz
        subst e2
        go_wp2
        go_ret
        exact ⟨rfl, rfl⟩
      · have hz' : Hid (∀ m, m < j + 1 → L m = 0) := fun m hm => by
          by_cases e : m = j
          · subst e; omega
          · exact hz m (by omega)
        have hn' : ¬ (0 : Int) < (L j : Int) := by omega
        clear hz
        go_wp2
        go_round
        case rel => exact ⟨j + 1, by omega, by go_num, hz'⟩
        case measure => simp [intOf]; omega
    · have e2 : r = false := by rw [← HR.out]; exact anyB_no (fun m hm => hz m (by omega))
      clear HR hz hc
      subst e2
      go_wp2
      go_ret
      exact ⟨rfl, rfl⟩

set_option maxHeartbeats 400000 in
theorem any19_none (ad : Option Addr) (cap : Nat) (w : World) :
    Calls Try.prog 19 #[.slice ad 0 cap] w fun e w' => e = .returned (.bool false) ∧ w = w' := by
  go_enter Try.func19, Try.ntmps19
  go_wp2
  refine wp_loop_rounds 1 ?_
  rw [rounds_succ]
  go_wp2
  go_ret
  exact ⟨rfl, rfl⟩

theorem any19 (v : Value) (len : Nat) (L : Nat → Nat) (w : World) (h : Lens w v len L) (hlen : len ≤ 65536) :
    Calls Try.prog 19 #[v] w fun e w' => e = .returned (.bool (anyB (pushed L 0 len))) ∧ w = w' := by
  obtain ⟨ad, c, rfl, rfl | ⟨b, _, rfl, hc⟩⟩ := h
  · exact any19_none ad c w
  · exact any19_some b len c L w hlen hc

end Go.Proofs.Qxb6613730a
