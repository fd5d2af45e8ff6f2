/-
  The walk of 'FnTurnsWithAnUnmodelledMatchExactlyUnlessContinue' (3), seat b6613730a.
-/
import Derived.Test.Qxb6613730aW1
import Derived.Deep.OwnRows
namespace Go.Proofs.Qxb6613730a
open Go.RowKit

theorem Try.info9 : (Try.prog.info? 9).map (fun i => (i.zero, i.size, i.bytes)) = some (some (.string ByteArray.empty), 1, 16) := by kernel_rfl

theorem turnsB_more (a : Int) (n : Nat) : turnsB a (n + 1) = (a != 2) := by
  unfold turnsB sendsB
  by_cases h4 : a = 4
  · subst h4; rfl
  · by_cases h5 : a = 5
    · subst h5; rfl
    · simp [h4, h5]

/-- A new rule of action a with the kinds of the slice. -/
def ruleObj (a : Int) (ad : Option Addr) (n cap : Nat) : Obj := .cells #[.int .i64 0, .string ⟨#[]⟩, .string ⟨#[]⟩, .int .i64 a, .slice none 0 0, .pointer none, .slice ad n cap] 33

theorem zzturns11_box (W : World) (bn : Nat) (hbn : bn = W.heap.size) (a : Int) (ad : Option Addr) (n cap : Nat) :
    Calls Try.prog 11 #[.pointer (some ⟨bn, 0, none⟩)] (W.alloc (ruleObj a ad n cap)) fun e w' => e = .returned (.bool (turnsB a n)) ∧ W.alloc (ruleObj a ad n cap) = w' := by
  subst hbn
  exact zzturns11 W.heap.size a ad n cap _ (World.cell?_alloc_at _ _ _ _ rfl) (World.cell?_alloc_at _ _ _ _ rfl)

set_option maxHeartbeats 400000 in
theorem law3_some (a0 : Int) (b off len cap : Nat) (S : Nat → ByteArray) (k : ByteArray) (w : World) (hb : b < w.heap.size) (hpos : 0 < len) (hlen : len ≤ maxLen) (hS : ∀ i, i < len → (S i).size ≤ maxLen) (hk : k.size ≤ maxLen)
    (hc : ∀ i, i < len → w.cell? ⟨b, off + i, none⟩ = some (.string (S i))) :
    Calls Try.prog 3 #[.int .i64 a0, .slice (some ⟨b, off, none⟩) len cap, .string k] w fun e w' => e = .returned (.bool true) ∧ Below w.heap.size w w' := by
  have H9 := bytes9_some a0 b off len cap S k w hlen hS hk hc
  have H10 := sbytes_some b off len cap S w hlen hS hc
  unfold maxLen at hlen hk
  by_cases hl : len ≤ 65536
  · by_cases hkl : k.size ≤ 1048576
    · have hmk := run_make_row' (P := Try.prog) 22 9 (.string ByteArray.empty) 16 Try.underlying22 Try.info9 rfl .i64 .i64 (len + 1) (by omega) (by omega)
      rw [show ((len + 1 : Nat) : Int) = (len : Int) + 1 from by omega] at hmk
      clear hS
      go_enter Try.func3, Try.ntmps3
      go_wp2_with fail
      refine H9.mono ?_
      rintro e w' ⟨⟨r, rfl⟩, rfl⟩
      clear H9
      cases r with
      | false =>
        go_wp2
        go_ret
        exact ⟨rfl, Below.refl _ _⟩
      | true =>
        go_wp2_with fail
        refine H10.mono ?_
        rintro e w' ⟨⟨z, rfl⟩, rfl⟩
        clear H10
        by_cases hz : z ≤ 1048576 - (k.size : Int)
        · go_wp2
          go_loopw [35] (fun i wr => ∃ (j : Nat) (f : Nat → Value), j ≤ len ∧ i = .int .i64 j ∧ wr.rowIs w.heap.size 9 (len + 1) f ∧ Below w.heap.size w wr) (fun i _ => len - (intOf i).toNat)
          case atStart => exact ⟨0, _, Nat.zero_le _, rfl, World.rowIs_made _ _ _ _, (Below.refl _ _).alloc (Nat.le_refl _) _⟩
          case round =>
            obtain ⟨j, f, hj, rfl, hrow, hbel⟩ := hrel
            have hsz := hrow.lt
            by_cases hlt : j < len
            · have hcj : wr.cell? ⟨b, off + j, none⟩ = some (.string (S j)) := (hbel.cell (p := ⟨b, off + j, none⟩) hb).trans (hc j hlt)
              have hrj := hrow.cell (i := j) (by omega)
              have hfj := hrow.frozen j
              go_wp2
              go_roundw
              case rel => exact ⟨j + 1, _, by omega, by go_num, hrow.set j _, hbel.setCell (Nat.le_refl _) _⟩
              case measure => simp [intOf]; omega
            · have hrj := hrow.cell (i := len) (by omega)
              have hfj := hrow.frozen len
              go_wp2_with fail
              refine (zzturns11_box (wr.setCell ⟨w.heap.size, len, none⟩ (.string k)) _ (by simp) a0 _ len cap).mono ?_
              rintro e w' ⟨rfl, rfl⟩
              go_wp2_with fail
              refine (zzturns11_box _ _ (by simp) a0 _ (len + 1) (len + 1)).mono ?_
              rintro e w' ⟨rfl, rfl⟩
              rw [turnsB_more]
              have hfin : Below w.heap.size w (((wr.setCell ⟨w.heap.size, len, none⟩ (.string k)).alloc (ruleObj a0 (some ⟨b, off, none⟩) len cap)).alloc (ruleObj a0 (some ⟨w.heap.size, 0, none⟩) (len + 1) (len + 1))) :=
                ((hbel.setCell (p := ⟨w.heap.size, len, none⟩) (Nat.le_refl _) _).alloc (by simp; omega) _).alloc (by simp; omega) _
              clear hrow hbel hrj hfj hc hmk
              by_cases h2 : a0 = 2
              · have hv : turnsB a0 len = false := by subst h2; simp [turnsB, sendsB]
                have hw : (a0 != 2) = false := by simp [h2]
                clear h2
                go_wp2
                go_ret
                exact ⟨rfl, hfin⟩
              · have hw : (a0 != 2) = true := by simp [h2]
                have hv : turnsB a0 len = true := by
                  obtain ⟨m, rfl⟩ : ∃ m, len = m + 1 := ⟨len - 1, by omega⟩
                  rw [turnsB_more]; exact hw
                have hl0' : ((len : Int) == 0) = false := beq_eq_false_iff_ne.2 (by omega)
                clear h2
                go_wp2
                go_ret
                exact ⟨rfl, hfin⟩
        · go_wp2
          go_ret
          exact ⟨rfl, Below.refl _ _⟩
    · go_enter Try.func3, Try.ntmps3
      go_wp2_with fail
      refine H9.mono ?_
      rintro e w' ⟨⟨r, rfl⟩, rfl⟩
      clear H9 H10 hS hc
      cases r
      all_goals
        go_wp2
        go_ret
        exact ⟨rfl, Below.refl _ _⟩
  · go_enter Try.func3, Try.ntmps3
    go_wp2_with fail
    refine H9.mono ?_
    rintro e w' ⟨⟨r, rfl⟩, rfl⟩
    clear H9 H10 hS hc
    cases r
    all_goals
      go_wp2
      go_ret
      exact ⟨rfl, Below.refl _ _⟩

set_option maxHeartbeats 400000 in
theorem law3_none (a0 : Int) (a : Option Addr) (cap : Nat) (k : ByteArray) (w : World) (hk : k.size ≤ maxLen) :
    Calls Try.prog 3 #[.int .i64 a0, .slice a 0 cap, .string k] w fun e w' => e = .returned (.bool true) ∧ Below w.heap.size w w' := by
  have H9 := bytes9_none a0 a cap k w hk
  have H10 := sbytes_none a cap w
  unfold maxLen at hk
  by_cases hkl : k.size ≤ 1048576
  · have hmk : ∀ w, (Instr.makeSlice 22 (.int .i64 1) (.int .i64 1)).run Try.prog w = .ok (.slice (some ⟨w.heap.size, 0, none⟩) 1 1) (w.alloc (.cells #[.string ByteArray.empty] 9)) := fun _ => by kernel_rfl
    go_enter Try.func3, Try.ntmps3
    go_wp2_with fail
    refine H9.mono ?_
    rintro e w' ⟨⟨r, rfl⟩, rfl⟩
    clear H9
    cases r with
    | false =>
      go_wp2
      go_ret
      exact ⟨rfl, Below.refl _ _⟩
    | true =>
      go_wp2_with fail
      refine H10.mono ?_
      rintro e w' ⟨⟨z, rfl⟩, rfl⟩
      clear H10
      by_cases hz : z ≤ 1048576 - (k.size : Int)
      · go_wp2
        refine wp_loop_rounds 1 ?_
        rw [rounds_succ]
        go_wp2_with fail
        refine (zzturns11_box (w.alloc (.cells #[.string k] 9)) _ (by simp) a0 a 0 cap).mono ?_
        rintro e w' ⟨rfl, rfl⟩
        go_wp2_with fail
        refine (zzturns11_box _ _ (by simp) a0 _ 1 1).mono ?_
        rintro e w' ⟨rfl, rfl⟩
        rw [turnsB_more a0 0]
        have hfin : Below w.heap.size w (((w.alloc (.cells #[.string k] 9)).alloc (ruleObj a0 a 0 cap)).alloc (ruleObj a0 (some ⟨w.heap.size, 0, none⟩) 1 1)) :=
          (((Below.refl _ _).alloc (Nat.le_refl _) _).alloc (by simp) _).alloc (by simp; omega) _
        clear hmk
        by_cases h2 : a0 = 2
        · have hv : turnsB a0 0 = false := by subst h2; simp [turnsB, sendsB]
          have hw : (a0 != 2) = false := by simp [h2]
          clear h2
          go_wp2
          go_ret
          exact ⟨rfl, hfin⟩
        · have hw : (a0 != 2) = true := by simp [h2]
          clear h2
          cases hv : turnsB a0 0 <;> clear hv
          all_goals
            go_wp2
            go_ret
            exact ⟨rfl, hfin⟩
      · go_wp2
        go_ret
        exact ⟨rfl, Below.refl _ _⟩
  · go_enter Try.func3, Try.ntmps3
    go_wp2_with fail
    refine H9.mono ?_
    rintro e w' ⟨⟨r, rfl⟩, rfl⟩
    clear H9 H10
    cases r
    all_goals
      go_wp2
      go_ret
      exact ⟨rfl, Below.refl _ _⟩

theorem law3 (a0 : Int) (a : Option Addr) (len cap : Nat) (S : Nat → ByteArray) (k : ByteArray) (w : World) (h : IsStrs w a len S) (hk : k.size ≤ maxLen) :
    Calls Try.prog 3 #[.int .i64 a0, .slice a len cap, .string k] w fun e w' => e = .returned (.bool true) ∧ Below w.heap.size w w' := by
  by_cases h0 : len = 0
  · subst h0; exact law3_none a0 a cap k w hk
  · obtain ⟨h1, h2, h3 | ⟨b, off, hb, rfl, h3⟩⟩ := h
    · exact absurd h3 h0
    · exact law3_some a0 b off len cap S k w hb (by omega) h1 h2 hk h3

end Go.Proofs.Qxb6613730a
