/-
  Walks on the road of 'FnUnmodelledOnAtAnyCut' (seat b6613730a): zzBytes (14), zzSSBytes (15), zzCloneS (35), zzCloneSS (16).
-/
import Derived.Test.Qxb6613730aW3
import Derived.Deep.LoopGhost
namespace Go.Proofs.Qxb6613730a
open Go.RowKit

/-- What the walk is told of a slice of slices of strings that came in: it has no element; or it leads to a row of 'len' slices, each a slice of strings. -/
def IsStrss (w : World) (a : Option Addr) (len : Nat) (A : Nat → Option Addr) (L C : Nat → Nat) (S : Nat → Nat → ByteArray) : Prop :=
  len ≤ maxLen ∧ (∀ i, i < len → IsStrs w (A i) (L i) (S i)) ∧ (len = 0 ∨ ∃ b off, b < w.heap.size ∧ a = some ⟨b, off, none⟩ ∧ ∀ i, i < len → w.cell? ⟨b, off + i, none⟩ = some (.slice (A i) (L i) (C i)))

/-- zzBytes: some bool; where it is true, no row is longer than the bound. -/
def Ret14 (len : Nat) (L : Nat → Nat) (e : Ending) : Prop := ∃ r : Bool, e = .returned (.bool r) ∧ (r = true → ∀ i, i < len → L i ≤ 1048576)
theorem Ret14.no (len : Nat) (L : Nat → Nat) : Ret14 len L (.returned (.bool false)) := ⟨false, rfl, fun h => by cases h⟩
theorem Ret14.yes {len : Nat} {L : Nat → Nat} (h : ∀ i, i < len → L i ≤ 1048576) : Ret14 len L (.returned (.bool true)) := ⟨true, rfl, fun _ => h⟩

theorem upto_succ {j : Nat} {L : Nat → Nat} {B : Nat} (h : Hid (∀ i, i < j → L i ≤ B)) (hj : L j ≤ B) : Hid (∀ i, i < j + 1 → L i ≤ B) := fun i hi => by
  by_cases e : i = j
  · rw [e]; exact hj
  · exact h i (by omega)

set_option maxHeartbeats 1000000 in
theorem bytes14_some (k0 : Int) (b off len cap : Nat) (A : Nat → Option Addr) (L C : Nat → Nat) (S : Nat → Nat → ByteArray) (w : World) (hlen : len ≤ maxLen) (hS : ∀ i, i < len → IsStrs w (A i) (L i) (S i))
    (hc : ∀ i, i < len → w.cell? ⟨b, off + i, none⟩ = some (.slice (A i) (L i) (C i))) :
    Calls Try.prog 14 #[.slice (some ⟨b, off, none⟩) len cap, .int .i64 k0] w fun e w' => Ret14 len L e ∧ w = w' := by
  unfold maxLen at hlen
  by_cases hl : len ≤ 1048576
  · go_enter Try.func14, Try.ntmps14
    go_wp2
    go_loop [5, 6] (fun n i => ∃ (z : Int) (j : Nat), 0 ≤ z ∧ z ≤ 1048576 ∧ j ≤ len ∧ n = .int .i64 z ∧ i = .int .i64 j ∧ Hid (∀ i, i < j → L i ≤ 1048576)) (fun _ i => len - (intOf i).toNat)
    case atStart => exact ⟨_, 0, by omega, by omega, Nat.zero_le _, rfl, rfl, fun i hi => absurd hi (Nat.not_lt_zero _)⟩
    case round =>
      obtain ⟨z, j, hz0, hz1, hj, rfl, rfl, hL⟩ := hrel
      by_cases hlt : j < len
      · have hcj := hc j hlt
        obtain ⟨hm, hSs, h0 | ⟨bj, oj, _, hA, hcs⟩⟩ := hS j hlt
        · have hL' := upto_succ hL (by omega : L j ≤ 1048576)
          rw [h0] at hcj
          clear h0 hm hSs hL hc hS
          go_wp2
          refine wp_loop_rounds 1 ?_
          rw [rounds_succ]
          go_wp2
          go_round
          case rel => exact ⟨_, j + 1, by omega, by omega, by omega, rfl, by go_num, hL'⟩
          case measure => simp [intOf]; omega
        · rw [hA] at hcj
          clear hA hc hS
          unfold maxLen at hm hSs
          by_cases hLj : L j ≤ 1048576
          · have hL' := upto_succ hL hLj
            clear hL
            by_cases hzL : z + (L j : Int) ≤ 1048576
            · go_wp2
              go_loop [5, 7] (fun n i => ∃ (y : Int) (m : Nat), 0 ≤ y ∧ y ≤ 1048576 ∧ m ≤ L j ∧ n = .int .i64 y ∧ i = .int .i64 m) (fun _ i => L j - (intOf i).toNat)
              case atStart => exact ⟨_, 0, by omega, by omega, Nat.zero_le _, rfl, rfl⟩
              case round =>
                obtain ⟨y, m, hy0, hy1, hmL, rfl, rfl⟩ := hrel
                by_cases hlm : m < L j
                · have hcm := hcs m hlm
                  have hSm := hSs m hlm
                  clear hcs hSs
                  go_wp2
                  · go_ret; exact ⟨Ret14.no _ _, rfl⟩
                  · go_ret; exact ⟨Ret14.no _ _, rfl⟩
                  · go_round
                    case rel => exact ⟨_, m + 1, by omega, by omega, by omega, rfl, by go_num⟩
                    case measure => simp [intOf]; omega
                · go_wp2
                  go_round
                  case rel => exact ⟨_, j + 1, by omega, by omega, by omega, rfl, by go_num, hL'⟩
                  case measure => simp [intOf]; omega
            · go_wp2
              go_ret; exact ⟨Ret14.no _ _, rfl⟩
          · go_wp2
            go_ret; exact ⟨Ret14.no _ _, rfl⟩
      · obtain rfl : j = len := by omega
        go_wp2
        go_ret; exact ⟨Ret14.yes hL.out, rfl⟩
  · go_enter Try.func14, Try.ntmps14
    go_wp2
    go_ret
    exact ⟨Ret14.no _ _, rfl⟩

set_option maxHeartbeats 400000 in
theorem bytes14_none (k0 : Int) (a : Option Addr) (cap : Nat) (L : Nat → Nat) (w : World) :
    Calls Try.prog 14 #[.slice a 0 cap, .int .i64 k0] w fun e w' => Ret14 0 L e ∧ w = w' := by
  go_enter Try.func14, Try.ntmps14
  go_wp2
  refine wp_loop_rounds 1 ?_
  rw [rounds_succ]
  go_wp2
  all_goals (go_ret; exact ⟨Ret14.yes (fun i hi => absurd hi (Nat.not_lt_zero _)), rfl⟩)

theorem bytes14 (k0 : Int) (a : Option Addr) (len cap : Nat) (A : Nat → Option Addr) (L C : Nat → Nat) (S : Nat → Nat → ByteArray) (w : World) (h : IsStrss w a len A L C S) :
    Calls Try.prog 14 #[.slice a len cap, .int .i64 k0] w fun e w' => Ret14 len L e ∧ w = w' := by
  obtain ⟨h1, h2, rfl | ⟨b, off, _, rfl, h3⟩⟩ := h
  · exact bytes14_none k0 a cap L w
  · exact bytes14_some k0 b off len cap A L C S w h1 h2 h3

set_option maxHeartbeats 400000 in
theorem ssbytes_some (b off len cap : Nat) (A : Nat → Option Addr) (L C : Nat → Nat) (S : Nat → Nat → ByteArray) (w : World) (hlen : len ≤ maxLen) (hS : ∀ i, i < len → IsStrs w (A i) (L i) (S i))
    (hc : ∀ i, i < len → w.cell? ⟨b, off + i, none⟩ = some (.slice (A i) (L i) (C i))) :
    Calls Try.prog 15 #[.slice (some ⟨b, off, none⟩) len cap] w fun e w' => RetInt e ∧ w = w' := by
  unfold maxLen at hlen
  by_cases hl : len ≤ 65536
  · by_cases hl2 : 24 * len ≤ 1048576
    · go_enter Try.func15, Try.ntmps15
      go_wp2
      go_loop [3, 16] (fun n i => ∃ (z : Int) (j : Nat), j ≤ len ∧ n = .int .i64 z ∧ i = .int .i64 j) (fun _ i => len - (intOf i).toNat)
      case atStart => exact ⟨_, 0, Nat.zero_le _, rfl, rfl⟩
      case round =>
        obtain ⟨z, j, hj, rfl, rfl⟩ := hrel
        by_cases hlt : j < len
        · have hcj := hc j hlt
          have H10 := sbytes (A j) (L j) (C j) (S j) w (hS j hlt)
          clear hc hS
          go_wp2_with fail
          refine H10.mono ?_
          rintro e w' ⟨⟨y, rfl⟩, rfl⟩
          clear H10
          go_wp2
          · go_ret; exact ⟨RetInt.mk _, rfl⟩
          · go_round
            case rel => exact ⟨_, j + 1, by omega, rfl, by go_num⟩
            case measure => simp [intOf]; omega
        · go_wp2
          all_goals (go_ret; exact ⟨RetInt.mk _, rfl⟩)
    · go_enter Try.func15, Try.ntmps15
      go_wp2
      go_ret
      exact ⟨RetInt.mk _, rfl⟩
  · go_enter Try.func15, Try.ntmps15
    go_wp2
    go_ret
    exact ⟨RetInt.mk _, rfl⟩

set_option maxHeartbeats 400000 in
theorem ssbytes_none (a : Option Addr) (cap : Nat) (w : World) :
    Calls Try.prog 15 #[.slice a 0 cap] w fun e w' => RetInt e ∧ w = w' := by
  go_enter Try.func15, Try.ntmps15
  go_wp2
  refine wp_loop_rounds 1 ?_
  rw [rounds_succ]
  go_wp2
  all_goals (go_ret; exact ⟨RetInt.mk _, rfl⟩)

theorem ssbytes (a : Option Addr) (len cap : Nat) (A : Nat → Option Addr) (L C : Nat → Nat) (S : Nat → Nat → ByteArray) (w : World) (h : IsStrss w a len A L C S) :
    Calls Try.prog 15 #[.slice a len cap] w fun e w' => RetInt e ∧ w = w' := by
  obtain ⟨h1, h2, rfl | ⟨b, off, _, rfl, h3⟩⟩ := h
  · exact ssbytes_none a cap w
  · exact ssbytes_some b off len cap A L C S w h1 h2 h3

/-- The call has handed back a slice of n elements. -/
def RetLen (n : Nat) (e : Ending) : Prop := ∃ (ad : Option Addr) (c : Nat), e = .returned (.slice ad n c)
theorem RetLen.mk (ad : Option Addr) (n c : Nat) : RetLen n (.returned (.slice ad n c)) := ⟨ad, c, rfl⟩

set_option maxHeartbeats 400000 in
theorem cloneS_nil (cap : Nat) (w : World) : Calls Try.prog 35 #[.slice none 0 cap] w fun e w' => RetLen 0 e ∧ Below w.heap.size w w' := by
  have hnil := fun (w : World) => Lib.run_eql_slice_nil (P := Try.prog) w 22 9 none 0 cap 0 0 Try.underlying22
  go_enter Try.func35, Try.ntmps35
  go_wp2
  go_ret
  exact ⟨RetLen.mk _ _ _, Below.refl _ _⟩

set_option maxHeartbeats 400000 in
theorem cloneS_empty (ad : Addr) (cap : Nat) (w : World) : Calls Try.prog 35 #[.slice (some ad) 0 cap] w fun e w' => RetLen 0 e ∧ Below w.heap.size w w' := by
  have hnil := fun (w : World) => Lib.run_eql_slice_nil (P := Try.prog) w 22 9 (some ad) 0 cap 0 0 Try.underlying22
  have hmk : ∀ w, (Instr.makeSlice 22 (.int .i64 0) (.int .i64 0)).run Try.prog w = .ok (.slice (some ⟨w.heap.size, 0, none⟩) 0 0) (w.alloc (.cells #[] 9)) := fun _ => by kernel_rfl
  go_enter Try.func35, Try.ntmps35
  go_wp2
  refine wp_loop_rounds 1 ?_
  rw [rounds_succ]
  go_wp2
  go_ret
  exact ⟨RetLen.mk _ _ _, (Below.refl _ _).alloc (Nat.le_refl _) _⟩

set_option maxHeartbeats 400000 in
theorem cloneS_some (b off n cap : Nat) (S : Nat → ByteArray) (w : World) (hb : b < w.heap.size) (hn : n ≤ 1048576) (hc : ∀ i, i < n → w.cell? ⟨b, off + i, none⟩ = some (.string (S i))) :
    Calls Try.prog 35 #[.slice (some ⟨b, off, none⟩) n cap] w fun e w' => RetLen n e ∧ Below w.heap.size w w' := by
  have hnil := fun (w : World) => Lib.run_eql_slice_nil (P := Try.prog) w 22 9 (some ⟨b, off, none⟩) n cap 0 0 Try.underlying22
  have hmk := run_make_row' (P := Try.prog) 22 9 (.string ByteArray.empty) 16 Try.underlying22 Try.info9 rfl .i64 .i64 n (by omega) (by omega)
  go_enter Try.func35, Try.ntmps35
  go_wp2
  go_loopw [12] (fun i wr => ∃ (j : Nat) (f : Nat → Value), j ≤ n ∧ i = .int .i64 j ∧ wr.rowIs w.heap.size 9 n f ∧ Below w.heap.size w wr) (fun i _ => n - (intOf i).toNat)
  case atStart => exact ⟨0, _, Nat.zero_le _, rfl, World.rowIs_made _ _ _ _, (Below.refl _ _).alloc (Nat.le_refl _) _⟩
  case round =>
    obtain ⟨j, f, hj, rfl, hrow, hbel⟩ := hrel
    have hsz := hrow.lt
    by_cases hlt : j < n
    · have hcj : wr.cell? ⟨b, off + j, none⟩ = some (.string (S j)) := (hbel.cell (p := ⟨b, off + j, none⟩) hb).trans (hc j hlt)
      have hrj := hrow.cell (i := j) (by omega)
      have hfj := hrow.frozen j
      clear hc
      go_wp2
      go_roundw
      case rel => exact ⟨j + 1, _, by omega, by go_num, hrow.set j _, hbel.setCell (Nat.le_refl _) _⟩
      case measure => simp [intOf]; omega
    · go_wp2
      go_ret
      exact ⟨RetLen.mk _ _ _, hbel⟩

theorem cloneS (a : Option Addr) (n cap : Nat) (S : Nat → ByteArray) (w : World) (h : IsStrs w a n S) (hn : n ≤ 1048576) :
    Calls Try.prog 35 #[.slice a n cap] w fun e w' => RetLen n e ∧ Below w.heap.size w w' := by
  obtain ⟨h1, h2, rfl | ⟨b, off, hb, rfl, h3⟩⟩ := h
  · cases a with
    | none => exact cloneS_nil cap w
    | some ad => exact cloneS_empty ad cap w
  · exact cloneS_some b off n cap S w hb hn h3

end Go.Proofs.Qxb6613730a
