/-
  Walks (seat b6613745a): isMember$1 (33), IndexFunc (43), ContainsFunc (32), isMember (30), ZZisMember (21), ZZnewMemberCore (22), zzB1isMember (10).
-/
import Derived.Test.Qxb6613745aW2
namespace Go.Proofs.Qxb6613745a
open Go.RowKit

/-- Are two strings the same? (As the walk spells it.) -/
def eqB (i id : ByteArray) : Bool := i.toList == id.toList

set_option maxHeartbeats 400000 in
theorem closure33 (i p id : ByteArray) (B C : Nat) (w : World) (hB : B < w.heap.size) (hC : C < w.heap.size) (h0 : w.cell? ⟨B, 0, none⟩ = some (.pointer (some ⟨C, 0, none⟩))) (h1 : w.cell? ⟨C, 0, none⟩ = some (.string id)) :
    Calls Try.prog 33 #[.agg #[.string i, .string p], .pointer (some ⟨B, 0, none⟩)] w fun e w' => e = .returned (.bool (eqB i id)) ∧ Below w.heap.size w w' := by
  go_enter Try.func33, Try.ntmps33
  go_wp2
  go_region
  go_wp2
  go_ret
  exact ⟨rfl, ((Below.refl _ _).alloc (Nat.le_refl _) _).drew⟩

/-- The zero Config but for its ID. -/
def cfgCells (id : ByteArray) : Array Value := #[.string id, .slice none 0 0, .int .i64 0, .int .i64 0, .int .i64 0, .int .i64 0, .int .i64 0, .string ⟨#[]⟩, .pointer none, .bool false, .bool false]

theorem run_build59 (id : ByteArray) (w : World) : (Instr.build 59 #[(0, .string id)]).run Try.prog w = .ok (.agg (cfgCells id)) w := by kernel_rfl

/-- The zero Core but for its Config's ID and its members. -/
def coreCells (id : ByteArray) (a : Option Addr) (len c : Nat) : Array Value :=
  #[.string id, .slice none 0 0, .int .i64 0, .int .i64 0, .int .i64 0, .int .i64 0, .int .i64 0, .string ⟨#[]⟩, .pointer none, .bool false, .bool false, .slice a len c, .int .u64 0, .slice none 0 0, .slice none 0 0, .string ⟨#[]⟩, .string ⟨#[]⟩, .int .u64 0, .slice none 0 0, .slice none 0 0, .int .u64 0, .int .i64 0, .int .u64 0, .string ⟨#[]⟩, .string ⟨#[]⟩, .string ⟨#[]⟩, .slice none 0 0, .int .u64 0, .int .u64 0, .int .u64 0, .int .u64 0, .int .u64 0, .string ⟨#[]⟩, .int .u64 0, .int .u64 0, .int .u64 0, .slice none 0 0, .int .u64 0, .int .u64 0, .int .u64 0, .slice none 0 0, .int .u64 0, .bool false, .slice none 0 0, .slice none 0 0, .slice none 0 0, .map none, .int .u64 0, .int .u64 0, .map none, .int .u64 0, .int .u64 0, .int .i64 0, .int .i64 0, .int .i64 0, .int .u64 0, .bool false, .bool false, .map none, .int .u64 0]

theorem run_build74 (id : ByteArray) (a : Option Addr) (len c : Nat) (w : World) : (Instr.build 74 #[(0, .agg (cfgCells id)), (1, .slice a len c)]).run Try.prog w = .ok (.agg (coreCells id a len c)) w := by kernel_rfl

/-- A struct built, its run known. -/
theorem wpList_build {P : Program} (w : World) {ops : Array Oper} {rest : List Oper} {o : Oper} {a : Act} {Q : Exit → Act → World → Prop}
    (hg : o.guard = none) (t : TypeId) (parts : Array (Nat × Operand)) (hop : o.op = Op.build t parts) (vs : Array (Nat × Value)) (hvs : (parts.map fun (i, x) => (i, a.eval x)) = vs)
    (v : Value) (hrun : (Instr.build t vs).run P w = .ok v w) (hK : wpList P ops Q rest (a.put o.dst v) w) : wpList P ops Q (o :: rest) a w := by
  refine wpList_plain hg fun K hK' => ?_
  unfold Oper.wp
  simp only [execOp, hop, hvs]
  simp [hrun]
  exact hK' _ _ hK

set_option maxHeartbeats 400000 in
theorem core22 (id : ByteArray) (a : Option Addr) (len c : Nat) (w : World) :
    Calls Try.prog 22 #[.string id, .slice a len c] w fun e w' => e = .returned (.pointer (some ⟨w.heap.size, 0, none⟩)) ∧ w.alloc (.cells (coreCells id a len c) 74) = w' := by
  go_enter Try.func22, Try.ntmps22
  go_wp2_with (refine wpList_build _ rfl 74 #[(0, .tmp 6), (1, .tmp 7)] rfl #[(0, .agg (cfgCells id)), (1, .slice a len c)] ?hvs (.agg (coreCells id a len c)) (run_build74 _ _ _ _ _) ?_)
  case hvs => rfl
  go_ret
  exact ⟨rfl, rfl⟩

/-- Is the ID among the first n? -/
def memB (id : ByteArray) (I : Nat → ByteArray) : Nat → Bool
  | 0 => false
  | n + 1 => memB id I n || eqB (I n) id

theorem memB_hit {id : ByteArray} {I : Nat → ByteArray} {j : Nat} : ∀ {n : Nat}, j < n → eqB (I j) id = true → memB id I n = true
  | 0, h, _ => absurd h (Nat.not_lt_zero _)
  | n + 1, h, hq => by
    by_cases e : j = n
    · subst e; simp [memB, hq]
    · simp [memB, memB_hit (n := n) (by omega) hq]

/-- What IndexFunc hands back: a number that is at least 0 just where the ID is there. -/
def RetIdx (r : Bool) (e : Ending) : Prop := ∃ z : Int, e = .returned (.int .i64 z) ∧ decide (0 ≤ z) = r

set_option maxHeartbeats 400000 in
theorem index43_some (id : ByteArray) (b off len cap : Nat) (I P : Nat → ByteArray) (B C : Nat) (w : World) (hb : b < w.heap.size) (hlen : len ≤ 65536) (hB : B < w.heap.size) (hC : C < w.heap.size)
    (h0 : w.cell? ⟨B, 0, none⟩ = some (.pointer (some ⟨C, 0, none⟩))) (h1 : w.cell? ⟨C, 0, none⟩ = some (.string id))
    (hc : ∀ i, i < len → w.cell? ⟨b, off + i * 2, none⟩ = some (.string (I i)) ∧ w.cell? ⟨b, off + i * 2 + 1, none⟩ = some (.string (P i))) :
    Calls Try.prog 43 #[.slice (some ⟨b, off, none⟩) len cap, .func (.func 33) #[] #[.pointer (some ⟨B, 0, none⟩)]] w fun e w' => RetIdx (memB id I len) e ∧ Below w.heap.size w w' := by
  go_enter Try.func43, Try.ntmps43
  go_wp2
  go_loopw [8] (fun i wr => ∃ j : Nat, j ≤ len ∧ i = .int .i64 j ∧ Hid (memB id I j = false) ∧ Below w.heap.size w wr) (fun i _ => len - (intOf i).toNat)
  case atStart => exact ⟨0, Nat.zero_le _, rfl, rfl, Below.refl _ _⟩
  case round =>
    obtain ⟨j, hj, rfl, hm, hbel⟩ := hrel
    by_cases hlt : j < len
    · obtain ⟨hc0, hc1⟩ := hc j hlt
      have hd0 : wr.cell? ⟨b, off + j * 2, none⟩ = some (.string (I j)) := (hbel.cell (p := ⟨b, off + j * 2, none⟩) hb).trans hc0
      have hd1 : wr.cell? ⟨b, off + j * 2 + 1, none⟩ = some (.string (P j)) := (hbel.cell (p := ⟨b, off + j * 2 + 1, none⟩) hb).trans hc1
      have H33 := closure33 (I j) (P j) id B C wr (Nat.lt_of_lt_of_le hB hbel.size) (Nat.lt_of_lt_of_le hC hbel.size) ((hbel.cell (p := ⟨B, 0, none⟩) hB).trans h0) ((hbel.cell (p := ⟨C, 0, none⟩) hC).trans h1)
      clear hc hc0 hc1 h0 h1
      go_wp2_with fail
      refine H33.mono ?_
      rintro e w1 ⟨rfl, hb1⟩
      clear H33 hd0 hd1
      have hbel1 : Below w.heap.size w w1 := hbel.trans (hb1.mono hbel.size)
      clear hb1
      cases hq : eqB (I j) id with
      | true =>
        have hr : RetIdx (memB id I len) (.returned (.int .i64 j)) := ⟨_, rfl, by rw [memB_hit hlt hq]; simp⟩
        clear hm hq
        go_wp2
        go_ret
        exact ⟨hr, hbel1⟩
      | false =>
        have hm' : Hid (memB id I (j + 1) = false) := by show (memB id I j || eqB (I j) id) = false; rw [hm.out, hq]; rfl
        clear hm hq
        go_wp2
        go_roundw
        case rel => exact ⟨j + 1, by omega, by go_num, hm', hbel1⟩
        case measure => simp [intOf]; omega
    · obtain rfl : j = len := by omega
      have hr : RetIdx (memB id I j) (.returned (.int .i64 (-1))) := ⟨_, rfl, by rw [hm.out]; rfl⟩
      clear hm hc h0 h1
      go_wp2
      go_ret
      exact ⟨hr, hbel⟩

set_option maxHeartbeats 400000 in
theorem index43_none (id : ByteArray) (a : Option Addr) (cap : Nat) (I : Nat → ByteArray) (f : Value) (w : World) :
    Calls Try.prog 43 #[.slice a 0 cap, f] w fun e w' => RetIdx (memB id I 0) e ∧ Below w.heap.size w w' := by
  go_enter Try.func43, Try.ntmps43
  go_wp2
  refine wp_loop_rounds 1 ?_
  rw [rounds_succ]
  go_wp2
  go_ret
  exact ⟨⟨_, rfl, rfl⟩, Below.refl _ _⟩

theorem index43 (id : ByteArray) (a : Option Addr) (len cap : Nat) (I P : Nat → ByteArray) (B C : Nat) (w : World) (h : Row2 w a len I P) (hlen : len ≤ 65536) (hB : B < w.heap.size) (hC : C < w.heap.size)
    (h0 : w.cell? ⟨B, 0, none⟩ = some (.pointer (some ⟨C, 0, none⟩))) (h1 : w.cell? ⟨C, 0, none⟩ = some (.string id)) :
    Calls Try.prog 43 #[.slice a len cap, .func (.func 33) #[] #[.pointer (some ⟨B, 0, none⟩)]] w fun e w' => RetIdx (memB id I len) e ∧ Below w.heap.size w w' := by
  rcases h with rfl | ⟨b, off, hb, rfl, h⟩
  · exact index43_none id a cap I _ w
  · exact index43_some id b off len cap I P B C w hb hlen hB hC h0 h1 h

set_option maxHeartbeats 400000 in
theorem contains32 (id : ByteArray) (a : Option Addr) (len cap : Nat) (I P : Nat → ByteArray) (B C : Nat) (w : World) (h : Row2 w a len I P) (hlen : len ≤ 65536) (hB : B < w.heap.size) (hC : C < w.heap.size)
    (h0 : w.cell? ⟨B, 0, none⟩ = some (.pointer (some ⟨C, 0, none⟩))) (h1 : w.cell? ⟨C, 0, none⟩ = some (.string id)) :
    Calls Try.prog 32 #[.slice a len cap, .func (.func 33) #[] #[.pointer (some ⟨B, 0, none⟩)]] w fun e w' => e = .returned (.bool (memB id I len)) ∧ Below w.heap.size w w' := by
  have H := index43 id a len cap I P B C w h hlen hB hC h0 h1
  clear h h0 h1
  go_enter Try.func32, Try.ntmps32
  go_wp2_with fail
  refine H.mono ?_
  rintro e w1 ⟨⟨z, rfl, hz⟩, hb1⟩
  clear H
  go_wp2
  go_ret
  exact ⟨rfl, hb1⟩

set_option maxHeartbeats 400000 in
theorem isMember30 (id : ByteArray) (a : Option Addr) (len cap : Nat) (I P : Nat → ByteArray) (C : Nat) (w : World) (h : Row2 w a len I P) (hlen : len ≤ 65536) (hC : C < w.heap.size)
    (h0 : w.cell? ⟨C, 0, none⟩ = some (.string id)) (h11 : w.cell? ⟨C, 11, none⟩ = some (.slice a len cap)) :
    Calls Try.prog 30 #[.pointer (some ⟨C, 0, none⟩)] w fun e w' => e = .returned (.bool (memB id I len)) ∧ Below w.heap.size w w' := by
  have hmf : ∀ (fn : Fn) (first cap : Array Value) (w : World), (Instr.makeFunc fn first cap).run Try.prog w = .ok (.func fn first cap) w := fun _ _ _ _ => rfl
  have hb0 : Below w.heap.size w (w.alloc (.cells #[.pointer (some ⟨C, 0, none⟩)] 45)) := (Below.refl _ _).alloc (Nat.le_refl _) _
  have H := contains32 id a len cap I P w.heap.size C (w.alloc (.cells #[.pointer (some ⟨C, 0, none⟩)] 45)) (row2_below h hb0) hlen (by simp) (by simp; omega)
    (World.cell?_alloc_at _ _ _ _ rfl) ((World.cell?_alloc_past _ _ _ hC).trans h0)
  clear h
  go_enter Try.func30, Try.ntmps30
  go_wp2_with fail
  refine H.mono ?_
  rintro e w1 ⟨rfl, hb1⟩
  clear H
  have hb2 : Below w.heap.size w w1 := hb0.trans (hb1.mono hb0.size)
  clear hb0 hb1
  go_wp2
  go_ret
  exact ⟨rfl, hb2⟩

set_option maxHeartbeats 400000 in
theorem zzIsMember21 (id : ByteArray) (a : Option Addr) (len cap : Nat) (I P : Nat → ByteArray) (C : Nat) (w : World) (h : Row2 w a len I P) (hlen : len ≤ 65536) (hC : C < w.heap.size)
    (h0 : w.cell? ⟨C, 0, none⟩ = some (.string id)) (h11 : w.cell? ⟨C, 11, none⟩ = some (.slice a len cap)) :
    Calls Try.prog 21 #[.pointer (some ⟨C, 0, none⟩)] w fun e w' => e = .returned (.bool (memB id I len)) ∧ Below w.heap.size w w' := by
  have H := isMember30 id a len cap I P C w h hlen hC h0 h11
  clear h h0 h11
  go_enter Try.func21, Try.ntmps21
  go_wp2_with fail
  refine H.mono ?_
  rintro e w1 ⟨rfl, hb1⟩
  clear H
  go_wp2
  go_ret
  exact ⟨rfl, hb1⟩

set_option maxHeartbeats 400000 in
/-- zzB1isMember: is the ID among the members? -/
theorem isMember10 (id : ByteArray) (a : Option Addr) (len cap : Nat) (I P : Nat → ByteArray) (w : World) (h : Row2 w a len I P) (hlen : len ≤ 65536) :
    Calls Try.prog 10 #[.string id, .slice a len cap] w fun e w' => e = .returned (.bool (memB id I len)) ∧ Below w.heap.size w w' := by
  have H23 := cluster a len cap I P w h hlen
  clear h
  go_enter Try.func10, Try.ntmps10
  go_wp2_with fail
  refine H23.mono ?_
  rintro e w1 ⟨⟨ad, c, rfl, hr1⟩, hb1⟩
  clear H23
  go_wp2_with fail
  refine (core22 id ad len c w1).mono ?_
  rintro e w2 ⟨rfl, rfl⟩
  have hb2 : Below w1.heap.size w1 (w1.alloc (.cells (coreCells id ad len c) 74)) := (Below.refl _ _).alloc (Nat.le_refl _) _
  have H21 := zzIsMember21 id ad len c I P w1.heap.size (w1.alloc (.cells (coreCells id ad len c) 74)) (row2_below hr1 hb2) hlen (by simp) (World.cell?_alloc_at _ _ _ _ rfl) (World.cell?_alloc_at _ _ _ _ rfl)
  clear hr1
  go_wp2_with fail
  refine H21.mono ?_
  rintro e w3 ⟨rfl, hb3⟩
  clear H21
  have hb4 : Below w.heap.size w w3 := (hb1.trans (hb2.mono hb1.size)).trans (hb3.mono (Nat.le_trans hb1.size hb2.size))
  clear hb1 hb2 hb3
  go_wp2
  go_ret
  exact ⟨rfl, hb4⟩

end Go.Proofs.Qxb6613745a
