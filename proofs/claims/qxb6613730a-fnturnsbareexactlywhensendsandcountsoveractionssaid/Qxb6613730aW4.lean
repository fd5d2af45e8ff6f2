/-
  The walk of 'FnTurnsBareExactlyWhenSendsAndCountsOverActions' (4), seat b6613730a.
-/
import Derived.Test.Qxb6613730aW3
namespace Go.Proofs.Qxb6613730a
open Go.RowKit

/-- Of the first j actions, how many turn with n kinds. -/
def cntB (n : Nat) : Nat → Int
  | 0 => 0
  | j + 1 => cntB n j + (if turnsB j n then 1 else 0)

theorem cntB_bd (n : Nat) : ∀ j, 0 ≤ cntB n j ∧ cntB n j ≤ j
  | 0 => by simp [cntB]
  | j + 1 => by have := cntB_bd n j; simp only [cntB]; split <;> omega

theorem cntB_yes {n j : Nat} (h : turnsB j n = true) : cntB n (j + 1) = cntB n j + 1 := by simp [cntB, h]
theorem cntB_no {n j : Nat} (h : turnsB j n = false) : cntB n (j + 1) = cntB n j := by simp [cntB, h]
theorem cntB_zero : cntB 0 6 = 2 := by decide
theorem cntB_pos {n : Nat} (h : 0 < n) : cntB n 6 = 5 := by
  obtain ⟨m, rfl⟩ : ∃ m, n = m + 1 := ⟨n - 1, by omega⟩
  simp only [cntB, turnsB_more]
  decide

theorem zzsends13_box (W : World) (bn : Nat) (hbn : bn = W.heap.size) (a : Int) (ad : Option Addr) (n cap : Nat) :
    Calls Try.prog 13 #[.pointer (some ⟨bn, 0, none⟩)] (W.alloc (ruleObj a ad n cap)) fun e w' => e = .returned (.bool (sendsB a)) ∧ W.alloc (ruleObj a ad n cap) = w' := by
  subst hbn
  exact zzsends13 W.heap.size a _ (World.cell?_alloc_at _ _ _ _ rfl)

theorem turnsB_bare (a : Int) : turnsB a 0 = sendsB a := by simp [turnsB]

set_option maxHeartbeats 400000 in
theorem law4 (a0 : Int) (a : Option Addr) (len cap : Nat) (S : Nat → ByteArray) (w : World) (h : IsStrs w a len S) :
    Calls Try.prog 4 #[.int .i64 a0, .slice a len cap] w fun e w' => e = .returned (.bool true) ∧ Below w.heap.size w w' := by
  have H12 := bytes12 a0 a len cap S w h
  have H10 := sbytes a len cap S w h
  have hlen := h.1
  clear h
  unfold maxLen at hlen
  by_cases hl : len ≤ 65536
  · go_enter Try.func4, Try.ntmps4
    go_wp2_with fail
    refine H12.mono ?_
    rintro e w' ⟨⟨r, rfl⟩, rfl⟩
    clear H12
    cases r with
    | false =>
      go_wp2
      go_ret
      exact ⟨rfl, Below.refl _ _⟩
    | true =>
      go_wp2_with fail
      refine H10.mono ?_
      rintro e w' ⟨⟨z, rfl⟩, rfl⟩
      clear H10
      by_cases hz : z ≤ 1048576
      · go_wp2_with fail
        refine (zzturns11_box w _ rfl a0 none 0 0).mono ?_
        rintro e w' ⟨rfl, rfl⟩
        go_wp2_with fail
        refine (zzsends13_box w _ rfl a0 none 0 0).mono ?_
        rintro e w' ⟨rfl, rfl⟩
        go_wp2_with fail
        refine (zzturns11_box _ _ (by simp) a0 a len cap).mono ?_
        rintro e w' ⟨rfl, rfl⟩
        rw [turnsB_bare]
        have hb0 : Below w.heap.size w ((w.alloc (ruleObj a0 none 0 0)).alloc (ruleObj a0 a len cap)) := ((Below.refl _ _).alloc (Nat.le_refl _) _).alloc (by simp) _
        have hT : sendsB a0 = true → turnsB a0 len = true := turnsB_sends
        go_wp2
        go_loopw [9, 10] (fun c i wr => ∃ j : Nat, j ≤ 6 ∧ i = .int .i64 j ∧ c = .int .i64 (cntB len j) ∧ Below w.heap.size w wr) (fun _ i _ => 6 - (intOf i).toNat)
        case atStart => exact ⟨0, by omega, rfl, rfl, hb0⟩
        case round =>
          obtain ⟨j, hj, rfl, rfl, hbel⟩ := hrel
          have hsz := hbel.size
          have hcb := cntB_bd len j
          by_cases hlt : j < 6
          · go_wp2_with fail
            refine (zzturns11_box _ _ rfl j a len cap).mono ?_
            rintro e w' ⟨rfl, rfl⟩
            have hbel' := hbel.alloc hsz (ruleObj j a len cap)
            cases hv : turnsB j len with
            | true =>
              have HC := cntB_yes hv
              have HC' : Hid (cntB len (j + 1) = cntB len j + 1) := HC
              clear hv HC
              go_wp2
              go_roundw
              case rel => exact ⟨j + 1, by omega, by go_num, by rw [HC'.out], hbel'⟩
              case measure => simp [intOf]; omega
            | false =>
              have HC := cntB_no hv
              have HC' : Hid (cntB len (j + 1) = cntB len j) := HC
              clear hv HC
              go_wp2
              go_roundw
              case rel => exact ⟨j + 1, by omega, by go_num, by rw [HC'.out], hbel'⟩
              case measure => simp [intOf]; omega
          · obtain rfl : j = 6 := by omega
            have hT2 : (!sendsB a0 || turnsB a0 len) = true := by
              cases hs : sendsB a0
              · rfl
              · rw [hT hs]; rfl
            by_cases hn : 0 < len
            · rw [cntB_pos hn]
              have hn' : (0 : Int) < (len : Int) := by omega
              cases hs : sendsB a0 <;> cases ht : turnsB a0 len <;> simp [hs, ht] at hT2 <;> clear hs ht hT hT2
              all_goals
                go_wp2
                go_ret
                exact ⟨rfl, hbel⟩
            · have hn0 : len = 0 := by omega
              subst hn0
              rw [cntB_zero]
              cases hs : sendsB a0 <;> cases ht : turnsB a0 0 <;> simp [hs, ht] at hT2 <;> clear hs ht hT hT2
              all_goals
                go_wp2
                go_ret
                exact ⟨rfl, hbel⟩
      · go_wp2
        go_ret
        exact ⟨rfl, Below.refl _ _⟩
  · go_enter Try.func4, Try.ntmps4
    go_wp2_with fail
    refine H12.mono ?_
    rintro e w' ⟨⟨r, rfl⟩, rfl⟩
    clear H12 H10
    cases r
    all_goals
      go_wp2
      go_ret
      exact ⟨rfl, Below.refl _ _⟩

end Go.Proofs.Qxb6613730a
