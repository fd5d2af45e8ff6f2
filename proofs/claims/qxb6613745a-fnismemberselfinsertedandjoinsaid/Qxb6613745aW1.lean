/-
  Walks of the leaves (seat b6613745a): zzB1add (8), zzB1membersSize (9), zzBytes (12, 7).
-/
import Derived.Test.Qxb6613745aProg
import Derived.WalkKit
import Derived.WalkSpells
import Derived.WalkLawsBesides
import Derived.Outline
namespace Go.Proofs.Qxb6613745a
open Go.RowKit

/-- The call has handed back some bool. -/
def RetBool (e : Ending) : Prop := ∃ r : Bool, e = .returned (.bool r)
theorem RetBool.mk (r : Bool) : RetBool (.returned (.bool r)) := ⟨r, rfl⟩
/-- The call has handed back some int. -/
def RetInt (e : Ending) : Prop := ∃ z : Int, e = .returned (.int .i64 z)
theorem RetInt.mk (z : Int) : RetInt (.returned (.int .i64 z)) := ⟨z, rfl⟩

/-- What the walk is told of a slice of members that came in. -/
def IsMems (w : World) (a : Option Addr) (len cap : Nat) (I P : Nat → ByteArray) : Prop :=
  len ≤ maxLen ∧ (∀ i, i < len → (I i).size ≤ maxLen ∧ (P i).size ≤ maxLen) ∧ (a = none → len = 0 ∧ cap = 0) ∧
  (len = 0 ∨ ∃ b off, b < w.heap.size ∧ a = some ⟨b, off, none⟩ ∧ ∀ i, i < len → w.cell? ⟨b, off + i * 2, none⟩ = some (.string (I i)) ∧ w.cell? ⟨b, off + i * 2 + 1, none⟩ = some (.string (P i)))

set_option maxHeartbeats 400000 in
theorem add8 (x y : Int) (w : World) : Calls Try.prog 8 #[.int .i64 x, .int .i64 y] w fun e w' => RetInt e ∧ w = w' := by
  by_cases h : 1048576 < x
  · go_enter Try.func8, Try.ntmps8
    go_wp2
    all_goals (go_ret; exact ⟨RetInt.mk _, rfl⟩)
  · go_enter Try.func8, Try.ntmps8
    go_wp2
    all_goals (go_ret; exact ⟨RetInt.mk _, rfl⟩)

set_option maxHeartbeats 400000 in
theorem size9_some (x : Int) (b off len cap : Nat) (I P : Nat → ByteArray) (w : World) (hlen : len ≤ maxLen)
    (hc : ∀ i, i < len → w.cell? ⟨b, off + i * 2, none⟩ = some (.string (I i)) ∧ w.cell? ⟨b, off + i * 2 + 1, none⟩ = some (.string (P i))) :
    Calls Try.prog 9 #[.int .i64 x, .slice (some ⟨b, off, none⟩) len cap] w fun e w' => RetInt e ∧ w = w' := by
  unfold maxLen at hlen
  go_enter Try.func9, Try.ntmps9
  go_wp2_with fail
  refine (add8 _ _ _).mono ?_
  rintro e w' ⟨⟨z, rfl⟩, rfl⟩
  go_wp2_with fail
  go_loop [0, 5] (fun n i => ∃ (z : Int) (j : Nat), j ≤ len ∧ n = .int .i64 z ∧ i = .int .i64 j) (fun _ i => len - (intOf i).toNat)
  case atStart => exact ⟨_, 0, Nat.zero_le _, rfl, rfl⟩
  case round =>
    obtain ⟨z, j, hj, rfl, rfl⟩ := hrel
    by_cases hlt : j < len
    · obtain ⟨hc0, hc1⟩ := hc j hlt
      clear hc
      by_cases hz : 1048576 < z
      · go_wp2
        go_ret
        exact ⟨RetInt.mk _, rfl⟩
      · go_wp2_with fail
        refine (add8 _ _ _).mono ?_
        rintro e w' ⟨⟨z1, rfl⟩, rfl⟩
        go_wp2_with fail
        refine (add8 _ _ _).mono ?_
        rintro e w' ⟨⟨z2, rfl⟩, rfl⟩
        go_wp2
        go_round
        case rel => exact ⟨_, j + 1, by omega, rfl, by go_num⟩
        case measure => simp [intOf]; omega
    · go_wp2
      go_ret
      exact ⟨RetInt.mk _, rfl⟩

set_option maxHeartbeats 400000 in
theorem size9_none (x : Int) (a : Option Addr) (cap : Nat) (w : World) :
    Calls Try.prog 9 #[.int .i64 x, .slice a 0 cap] w fun e w' => RetInt e ∧ w = w' := by
  go_enter Try.func9, Try.ntmps9
  go_wp2_with fail
  refine (add8 _ _ _).mono ?_
  rintro e w' ⟨⟨z, rfl⟩, rfl⟩
  go_wp2_with fail
  refine wp_loop_rounds 1 ?_
  rw [rounds_succ]
  go_wp2
  go_ret
  exact ⟨RetInt.mk _, rfl⟩

theorem size9 (x : Int) (a : Option Addr) (len cap : Nat) (I P : Nat → ByteArray) (w : World) (h : IsMems w a len cap I P) :
    Calls Try.prog 9 #[.int .i64 x, .slice a len cap] w fun e w' => RetInt e ∧ w = w' := by
  obtain ⟨h1, _, _, rfl | ⟨b, off, _, rfl, h3⟩⟩ := h
  · exact size9_none x a cap w
  · exact size9_some x b off len cap I P w h1 h3

set_option maxHeartbeats 1000000 in
theorem bytes12_some (id : ByteArray) (b off len cap : Nat) (I P : Nat → ByteArray) (w : World) (hid : id.size ≤ maxLen) (hlen : len ≤ maxLen) (hS : ∀ i, i < len → (I i).size ≤ maxLen ∧ (P i).size ≤ maxLen)
    (hc : ∀ i, i < len → w.cell? ⟨b, off + i * 2, none⟩ = some (.string (I i)) ∧ w.cell? ⟨b, off + i * 2 + 1, none⟩ = some (.string (P i))) :
    Calls Try.prog 12 #[.string id, .slice (some ⟨b, off, none⟩) len cap] w fun e w' => RetBool e ∧ w = w' := by
  unfold maxLen at hid hlen hS
  by_cases hi : id.size ≤ 1048576
  · by_cases hl : len ≤ 1048576
    · by_cases hil : id.size + len ≤ 1048576
      · go_enter Try.func12, Try.ntmps12
        go_wp2
        go_loop [5, 6] (fun n i => ∃ (z : Int) (j : Nat), 0 ≤ z ∧ z ≤ 1048576 ∧ j ≤ len ∧ n = .int .i64 z ∧ i = .int .i64 j) (fun _ i => len - (intOf i).toNat)
        case atStart => exact ⟨_, 0, by omega, by omega, Nat.zero_le _, rfl, rfl⟩
        case round =>
          obtain ⟨z, j, hz0, hz1, hj, rfl, rfl⟩ := hrel
          by_cases hlt : j < len
          · obtain ⟨hc0, hc1⟩ := hc j hlt
            obtain ⟨hs0, hs1⟩ := hS j hlt
            clear hc hS
            by_cases hI : (I j).size ≤ 1048576
            · by_cases hzI : z + (I j).size ≤ 1048576
              · by_cases hP : (P j).size ≤ 1048576
                · by_cases hzP : z + (I j).size + (P j).size ≤ 1048576
                  · go_wp2
                    go_round
                    case rel => exact ⟨_, j + 1, by omega, by omega, by omega, rfl, by go_num⟩
                    case measure => simp [intOf]; omega
                  · go_wp2
                    go_ret; exact ⟨RetBool.mk _, rfl⟩
                · go_wp2
                  go_ret; exact ⟨RetBool.mk _, rfl⟩
              · go_wp2
                go_ret; exact ⟨RetBool.mk _, rfl⟩
            · go_wp2
              go_ret; exact ⟨RetBool.mk _, rfl⟩
          · clear hc hS
            go_wp2
            go_ret; exact ⟨RetBool.mk _, rfl⟩
      · go_enter Try.func12, Try.ntmps12
        go_wp2
        go_ret; exact ⟨RetBool.mk _, rfl⟩
    · go_enter Try.func12, Try.ntmps12
      go_wp2
      go_ret; exact ⟨RetBool.mk _, rfl⟩
  · go_enter Try.func12, Try.ntmps12
    go_wp2
    go_ret; exact ⟨RetBool.mk _, rfl⟩

set_option maxHeartbeats 400000 in
theorem bytes12_none (id : ByteArray) (a : Option Addr) (cap : Nat) (w : World) (hid : id.size ≤ maxLen) :
    Calls Try.prog 12 #[.string id, .slice a 0 cap] w fun e w' => RetBool e ∧ w = w' := by
  unfold maxLen at hid
  by_cases hi : id.size ≤ 1048576
  · go_enter Try.func12, Try.ntmps12
    go_wp2
    refine wp_loop_rounds 1 ?_
    rw [rounds_succ]
    go_wp2
    go_ret; exact ⟨RetBool.mk _, rfl⟩
  · go_enter Try.func12, Try.ntmps12
    go_wp2
    go_ret; exact ⟨RetBool.mk _, rfl⟩

theorem bytes12 (id : ByteArray) (a : Option Addr) (len cap : Nat) (I P : Nat → ByteArray) (w : World) (hid : id.size ≤ maxLen) (h : IsMems w a len cap I P) :
    Calls Try.prog 12 #[.string id, .slice a len cap] w fun e w' => RetBool e ∧ w = w' := by
  obtain ⟨h1, h2, _, rfl | ⟨b, off, _, rfl, h3⟩⟩ := h
  · exact bytes12_none id a cap w hid
  · exact bytes12_some id b off len cap I P w hid h1 h2 h3

end Go.Proofs.Qxb6613745a
