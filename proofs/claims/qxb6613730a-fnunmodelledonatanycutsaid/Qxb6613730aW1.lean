/-
  Walks of the leaves on the road of 'FnTurns..' (seat b6613730a): zzBytes (9, 12), zzSBytes (10), sends (34), turns (33), ZZTurns (11), ZZSends (13).
-/
import Derived.Test.Qxb6613730aProg
import Derived.WalkKit
import Derived.WalkSpells
import Derived.WalkLawsBesides
import Derived.Outline
namespace Go.Proofs.Qxb6613730a
open Go.RowKit

/-- The call has handed back some bool. -/
def RetBool (e : Ending) : Prop := ∃ r : Bool, e = .returned (.bool r)
theorem RetBool.mk (r : Bool) : RetBool (.returned (.bool r)) := ⟨r, rfl⟩
/-- The call has handed back some int. -/
def RetInt (e : Ending) : Prop := ∃ z : Int, e = .returned (.int .i64 z)
theorem RetInt.mk (z : Int) : RetInt (.returned (.int .i64 z)) := ⟨z, rfl⟩

/-- What the walk is told of a slice of strings that came in: it has no element; or it leads to a row of 'len' strings. -/
def IsStrs (w : World) (a : Option Addr) (len : Nat) (S : Nat → ByteArray) : Prop :=
  len ≤ maxLen ∧ (∀ i, i < len → (S i).size ≤ maxLen) ∧ (len = 0 ∨ ∃ b off, b < w.heap.size ∧ a = some ⟨b, off, none⟩ ∧ ∀ i, i < len → w.cell? ⟨b, off + i, none⟩ = some (.string (S i)))

set_option maxHeartbeats 400000 in
theorem bytes9_some (a0 : Int) (b off len cap : Nat) (S : Nat → ByteArray) (k : ByteArray) (w : World) (hlen : len ≤ maxLen) (hS : ∀ i, i < len → (S i).size ≤ maxLen) (hk : k.size ≤ maxLen)
    (hc : ∀ i, i < len → w.cell? ⟨b, off + i, none⟩ = some (.string (S i))) :
    Calls Try.prog 9 #[.int .i64 a0, .slice (some ⟨b, off, none⟩) len cap, .string k] w fun e w' => RetBool e ∧ w = w' := by
  unfold maxLen at hlen hS hk
  by_cases hl : len ≤ 1048576
  · go_enter Try.func9, Try.ntmps9
    go_wp2
    go_loop [7, 8] (fun n i => ∃ (z : Int) (j : Nat), 0 ≤ z ∧ z ≤ 1048576 ∧ j ≤ len ∧ n = .int .i64 z ∧ i = .int .i64 j) (fun _ i => len - (intOf i).toNat)
    case atStart => exact ⟨_, 0, by omega, by omega, Nat.zero_le _, rfl, rfl⟩
    case round =>
      obtain ⟨z, j, hz0, hz1, hj, rfl, rfl⟩ := hrel
      by_cases hlt : j < len
      · have hcj := hc j hlt
        have hSj := hS j hlt
        go_wp2
        · go_ret; exact ⟨RetBool.mk _, rfl⟩
        · go_ret; exact ⟨RetBool.mk _, rfl⟩
        · go_round
          case rel => exact ⟨_, j + 1, by omega, by omega, by omega, rfl, by go_num⟩
          case measure => simp [intOf]; omega
      · go_wp2
        all_goals (go_ret; exact ⟨RetBool.mk _, rfl⟩)
  · go_enter Try.func9, Try.ntmps9
    go_wp2
    go_ret
    exact ⟨RetBool.mk _, rfl⟩

set_option maxHeartbeats 400000 in
theorem bytes9_none (a0 : Int) (a : Option Addr) (cap : Nat) (k : ByteArray) (w : World) (hk : k.size ≤ maxLen) :
    Calls Try.prog 9 #[.int .i64 a0, .slice a 0 cap, .string k] w fun e w' => RetBool e ∧ w = w' := by
  unfold maxLen at hk
  go_enter Try.func9, Try.ntmps9
  go_wp2
  refine wp_loop_rounds 1 ?_
  rw [rounds_succ]
  go_wp2
  all_goals (go_ret; exact ⟨RetBool.mk _, rfl⟩)

theorem bytes9 (a0 : Int) (a : Option Addr) (len cap : Nat) (S : Nat → ByteArray) (k : ByteArray) (w : World) (h : IsStrs w a len S) (hk : k.size ≤ maxLen) :
    Calls Try.prog 9 #[.int .i64 a0, .slice a len cap, .string k] w fun e w' => RetBool e ∧ w = w' := by
  obtain ⟨h1, h2, rfl | ⟨b, off, _, rfl, h3⟩⟩ := h
  · exact bytes9_none a0 a cap k w hk
  · exact bytes9_some a0 b off len cap S k w h1 h2 hk h3

set_option maxHeartbeats 400000 in
theorem bytes12_some (a0 : Int) (b off len cap : Nat) (S : Nat → ByteArray) (w : World) (hlen : len ≤ maxLen) (hS : ∀ i, i < len → (S i).size ≤ maxLen)
    (hc : ∀ i, i < len → w.cell? ⟨b, off + i, none⟩ = some (.string (S i))) :
    Calls Try.prog 12 #[.int .i64 a0, .slice (some ⟨b, off, none⟩) len cap] w fun e w' => RetBool e ∧ w = w' := by
  unfold maxLen at hlen hS
  by_cases hl : len ≤ 1048576
  · go_enter Try.func12, Try.ntmps12
    go_wp2
    go_loop [5, 6] (fun n i => ∃ (z : Int) (j : Nat), 0 ≤ z ∧ z ≤ 1048576 ∧ j ≤ len ∧ n = .int .i64 z ∧ i = .int .i64 j) (fun _ i => len - (intOf i).toNat)
    case atStart => exact ⟨_, 0, by omega, by omega, Nat.zero_le _, rfl, rfl⟩
    case round =>
      obtain ⟨z, j, hz0, hz1, hj, rfl, rfl⟩ := hrel
      by_cases hlt : j < len
      · have hcj := hc j hlt
        have hSj := hS j hlt
        go_wp2
        · go_ret; exact ⟨RetBool.mk _, rfl⟩
        · go_ret; exact ⟨RetBool.mk _, rfl⟩
        · go_round
          case rel => exact ⟨_, j + 1, by omega, by omega, by omega, rfl, by go_num⟩
          case measure => simp [intOf]; omega
      · go_wp2
        all_goals (go_ret; exact ⟨RetBool.mk _, rfl⟩)
  · go_enter Try.func12, Try.ntmps12
    go_wp2
    go_ret
    exact ⟨RetBool.mk _, rfl⟩

set_option maxHeartbeats 400000 in
theorem bytes12_none (a0 : Int) (a : Option Addr) (cap : Nat) (w : World) :
    Calls Try.prog 12 #[.int .i64 a0, .slice a 0 cap] w fun e w' => RetBool e ∧ w = w' := by
  go_enter Try.func12, Try.ntmps12
  go_wp2
  refine wp_loop_rounds 1 ?_
  rw [rounds_succ]
  go_wp2
  all_goals (go_ret; exact ⟨RetBool.mk _, rfl⟩)

theorem bytes12 (a0 : Int) (a : Option Addr) (len cap : Nat) (S : Nat → ByteArray) (w : World) (h : IsStrs w a len S) :
    Calls Try.prog 12 #[.int .i64 a0, .slice a len cap] w fun e w' => RetBool e ∧ w = w' := by
  obtain ⟨h1, h2, rfl | ⟨b, off, _, rfl, h3⟩⟩ := h
  · exact bytes12_none a0 a cap w
  · exact bytes12_some a0 b off len cap S w h1 h2 h3

set_option maxHeartbeats 400000 in
theorem sbytes_some (b off len cap : Nat) (S : Nat → ByteArray) (w : World) (hlen : len ≤ maxLen) (hS : ∀ i, i < len → (S i).size ≤ maxLen)
    (hc : ∀ i, i < len → w.cell? ⟨b, off + i, none⟩ = some (.string (S i))) :
    Calls Try.prog 10 #[.slice (some ⟨b, off, none⟩) len cap] w fun e w' => RetInt e ∧ w = w' := by
  unfold maxLen at hlen hS
  by_cases hl : len ≤ 65536
  · go_enter Try.func10, Try.ntmps10
    go_wp2
    go_loop [3, 13] (fun n i => ∃ (z : Int) (j : Nat), 0 ≤ z ∧ z ≤ 1048576 ∧ j ≤ len ∧ n = .int .i64 z ∧ i = .int .i64 j) (fun _ i => len - (intOf i).toNat)
    case atStart => exact ⟨_, 0, by omega, by omega, Nat.zero_le _, rfl, rfl⟩
    case round =>
      obtain ⟨z, j, hz0, hz1, hj, rfl, rfl⟩ := hrel
      by_cases hlt : j < len
      · have hcj := hc j hlt
        have hSj := hS j hlt
        go_wp2
        · go_ret; exact ⟨RetInt.mk _, rfl⟩
        · go_round
          case rel => exact ⟨_, j + 1, by omega, by omega, by omega, rfl, by go_num⟩
          case measure => simp [intOf]; omega
      · go_wp2
        all_goals (go_ret; exact ⟨RetInt.mk _, rfl⟩)
  · go_enter Try.func10, Try.ntmps10
    go_wp2
    go_ret
    exact ⟨RetInt.mk _, rfl⟩

set_option maxHeartbeats 400000 in
theorem sbytes_none (a : Option Addr) (cap : Nat) (w : World) :
    Calls Try.prog 10 #[.slice a 0 cap] w fun e w' => RetInt e ∧ w = w' := by
  go_enter Try.func10, Try.ntmps10
  go_wp2
  refine wp_loop_rounds 1 ?_
  rw [rounds_succ]
  go_wp2
  all_goals (go_ret; exact ⟨RetInt.mk _, rfl⟩)

theorem sbytes (a : Option Addr) (len cap : Nat) (S : Nat → ByteArray) (w : World) (h : IsStrs w a len S) :
    Calls Try.prog 10 #[.slice a len cap] w fun e w' => RetInt e ∧ w = w' := by
  obtain ⟨h1, h2, rfl | ⟨b, off, _, rfl, h3⟩⟩ := h
  · exact sbytes_none a cap w
  · exact sbytes_some b off len cap S w h1 h2 h3

/-- 'sends', plainly. -/
def sendsB (a : Int) : Bool := a == 4 || a == 5
/-- 'turns', plainly: 'n': how many kinds are unmodelled. -/
def turnsB (a : Int) (n : Nat) : Bool := sendsB a || (decide (0 < n) && a != 2)

set_option maxHeartbeats 400000 in
theorem sends34 (b : Nat) (a : Int) (w : World) (ha : w.cell? ⟨b, 3, none⟩ = some (.int .i64 a)) :
    Calls Try.prog 34 #[.pointer (some ⟨b, 0, none⟩)] w fun e w' => e = .returned (.bool (sendsB a)) ∧ w = w' := by
  by_cases h4 : a = 4
  · subst h4
    go_enter Try.func34, Try.ntmps34
    go_wp2
    go_ret
    exact ⟨rfl, rfl⟩
  · have h4' : (a == 4) = false := beq_eq_false_iff_ne.2 h4
    have hs : sendsB a = (a == 5) := by simp [sendsB, h4']
    rw [hs]; clear hs
    go_enter Try.func34, Try.ntmps34
    go_wp2
    go_ret
    exact ⟨rfl, rfl⟩

theorem turnsB_sends {a : Int} {n : Nat} (h : sendsB a = true) : turnsB a n = true := by simp [turnsB, h]
theorem turnsB_none {a : Int} {n : Nat} (h : sendsB a = false) (hn : n = 0) : turnsB a n = false := by simp [turnsB, h, hn]
theorem turnsB_some {a : Int} {n : Nat} (h : sendsB a = false) (hn : 0 < n) : turnsB a n = (a != 2) := by simp [turnsB, h, hn]

set_option maxHeartbeats 400000 in
theorem turns33 (b : Nat) (a : Int) (ad : Option Addr) (n cap : Nat) (w : World) (ha : w.cell? ⟨b, 3, none⟩ = some (.int .i64 a)) (hu : w.cell? ⟨b, 6, none⟩ = some (.slice ad n cap)) :
    Calls Try.prog 33 #[.pointer (some ⟨b, 0, none⟩)] w fun e w' => e = .returned (.bool (turnsB a n)) ∧ w = w' := by
  have hs34 := sends34 b a w ha
  cases hs : sendsB a with
  | true =>
    rw [turnsB_sends hs]
    rw [hs] at hs34
    have H := hs34; clear hs34 hs
    go_enter Try.func33, Try.ntmps33
    go_wp2_with fail
    refine H.mono ?_
    rintro e w' ⟨rfl, rfl⟩
    clear H
    go_wp2
    go_ret
    exact ⟨rfl, rfl⟩
  | false =>
    rw [hs] at hs34
    by_cases hn : 0 < n
    · rw [turnsB_some hs hn]
      clear hs
      have hn' : (0 : Int) < (n : Int) := by omega
      go_enter Try.func33, Try.ntmps33
      go_wp2_with fail
      refine hs34.mono ?_
      rintro e w' ⟨rfl, rfl⟩
      clear hs34
      go_wp2
      go_ret
      exact ⟨rfl, rfl⟩
    · rw [turnsB_none hs (by omega)]
      clear hs
      have hn' : ¬ (0 : Int) < (n : Int) := by omega
      go_enter Try.func33, Try.ntmps33
      go_wp2_with fail
      refine hs34.mono ?_
      rintro e w' ⟨rfl, rfl⟩
      clear hs34
      go_wp2
      go_ret
      exact ⟨rfl, rfl⟩

set_option maxHeartbeats 400000 in
theorem zzturns11 (b : Nat) (a : Int) (ad : Option Addr) (n cap : Nat) (w : World) (ha : w.cell? ⟨b, 3, none⟩ = some (.int .i64 a)) (hu : w.cell? ⟨b, 6, none⟩ = some (.slice ad n cap)) :
    Calls Try.prog 11 #[.pointer (some ⟨b, 0, none⟩)] w fun e w' => e = .returned (.bool (turnsB a n)) ∧ w = w' := by
  have H := turns33 b a ad n cap w ha hu
  go_enter Try.func11, Try.ntmps11
  go_wp2_with fail
  refine H.mono ?_
  rintro e w' ⟨rfl, rfl⟩
  clear H
  go_wp2
  go_ret
  exact ⟨rfl, rfl⟩

set_option maxHeartbeats 400000 in
theorem zzsends13 (b : Nat) (a : Int) (w : World) (ha : w.cell? ⟨b, 3, none⟩ = some (.int .i64 a)) :
    Calls Try.prog 13 #[.pointer (some ⟨b, 0, none⟩)] w fun e w' => e = .returned (.bool (sendsB a)) ∧ w = w' := by
  have H := sends34 b a w ha
  go_enter Try.func13, Try.ntmps13
  go_wp2_with fail
  refine H.mono ?_
  rintro e w' ⟨rfl, rfl⟩
  clear H
  go_wp2
  go_ret
  exact ⟨rfl, rfl⟩

end Go.Proofs.Qxb6613730a
