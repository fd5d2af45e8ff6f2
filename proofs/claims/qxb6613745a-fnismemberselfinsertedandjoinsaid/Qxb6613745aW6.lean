/-
  Walks (seat b6613745a): zzB1joinMembers (11); the law 'FnIsMemberSelfInsertedAndJoin' (3).
-/
import Derived.Test.Qxb6613745aW5
namespace Go.Proofs.Qxb6613745a
open Go.RowKit

/-- The first n members as a list. -/
def memL (I P : Nat → ByteArray) (n : Nat) : List (ByteArray × ByteArray) := (List.range n).map fun i => (I i, P i)
theorem memL_length (I P : Nat → ByteArray) (n : Nat) : (memL I P n).length = n := by simp [memL]
theorem memL_get (I P : Nat → ByteArray) (n i : Nat) (hi : i < n) : (memL I P n).getD i dm = (I i, P i) := by simp [memL, List.getD, hi]

theorem mcells_one : ∀ (xs : List (ByteArray × ByteArray)) (u : Value), u ∈ mcells xs → u.oneCell' = true
  | [], u, h => by simp [mcells] at h
  | (i, p) :: r, u, h => by
    simp only [mcells, List.mem_cons] at h
    rcases h with rfl | rfl | h
    · rfl
    · rfl
    · exact mcells_one r u h

theorem row2_cells {w : World} {a : Option Addr} {len : Nat} {I P : Nat → ByteArray} (h : Row2 w a len I P) : ∀ ad, a = some ad → ∀ j u, (mcells (memL I P len))[j]? = some u → w.cell? (ad.add j) = some u := by
  intro ad had j u hu
  have hj : j < len * 2 := by
    have := (List.getElem?_eq_some_iff.1 hu).1
    rw [mcells_length, memL_length] at this
    exact this
  rcases h with rfl | ⟨b, off, _, ha, hc⟩
  · omega
  · rw [had] at ha
    cases ha
    rw [Go.WideShapes.add_plain]
    have hi : j / 2 < len := by omega
    obtain ⟨h0, h1⟩ := hc (j / 2) hi
    obtain ⟨m0, m1⟩ := mcells_at (memL I P len) dm (j / 2) (by rw [memL_length]; exact hi)
    rw [memL_get _ _ _ _ hi] at m0 m1
    by_cases e : j % 2 = 0
    · rw [show j / 2 * 2 = j from by omega] at h0 m0
      rw [m0] at hu; cases hu
      exact h0
    · rw [show j / 2 * 2 + 1 = j from by omega] at m1
      rw [m1] at hu; cases hu
      rw [show off + j = off + j / 2 * 2 + 1 from by omega]
      exact h1

/-- The call has handed back a new row of members. -/
def RetRow (w w' : World) (ks : List (ByteArray × ByteArray)) (e : Ending) : Prop :=
  ∃ g cap, e = .returned (.slice (some ⟨g, 0, none⟩) ks.length cap) ∧ w'.ownsRow w.heap.size 27 2 (.slice (some ⟨g, 0, none⟩) ks.length cap) ks.length (mcells ks)

set_option maxHeartbeats 400000 in
theorem join11 (a : Option Addr) (len cap : Nat) (I P : Nat → ByteArray) (a' : Option Addr) (len' cap' : Nat) (I' P' : Nat → ByteArray) (w : World) (hl : len ≤ 4096) (hl' : len' ≤ 4096)
    (hn : a = none → len = 0 ∧ cap = 0) (hn' : a' = none → len' = 0 ∧ cap' = 0) (h : Row2 w a len I P) (h' : Row2 w a' len' I' P') :
    Calls Try.prog 11 #[.slice a len cap, .slice a' len' cap'] w fun e w' => RetRow w w' (memL I P len ++ memL I' P' len') e ∧ Below w.heap.size w w' := by
  obtain ⟨i0, hi, hz0, hz1, hz2⟩ := info_parts Try.info27
  have Hn : Hid (a = none → len = 0 ∧ cap = 0) := hn
  have Hn' : Hid (a' = none → len' = 0 ∧ cap' = 0) := hn'
  clear hn hn'
  go_enter Try.func11, Try.ntmps11
  go_wp2_with (at_make; refine wpList_make_own _ rfl _ _ 22 rfl w.heap.size 27 i0 _ 2 Try.underlying22 hi hz0 hz1 .i64 .i64 _ (len + len') rfl rfl ?h0 ?h1 ?h2 (Nat.le_refl _) ?_)
  case h0 => omega
  case h1 => rw [hz2]; omega
  case h2 => unfold maxLen; omega
  intro w1 hown1 hgrow1
  have hbel1 : Below w.heap.size w w1 := (Below.refl _ _).grown hgrow1 (Nat.le_refl _) (fun k hk => by cases hk)
  have hr1 := row2_cells (row2_below h hbel1)
  go_wp2_with (at_builtin; refine wpList_append_fits_any _ rfl _ _ 22 rfl w.heap.size 27 i0 2 Try.underlying22 hi hz1 w.heap.size 0 (len + len') [] rfl hown1 a len cap (mcells (memL I P len)) rfl ?c0 Hn.out hr1 (mcells_one _) ?c3 ?_)
  case c0 => rw [mcells_length, memL_length]
  case c3 => omega
  intro w2 hown2 hgrow2
  clear hr1 h
  have hlt1 := (hown1.lt _ rfl).2
  have hbel2 : Below w.heap.size w w2 := hbel1.grown hgrow2 (Nat.le_of_lt hlt1) (fun k hk => by cases hk; exact Nat.le_refl _)
  have hr2 := row2_cells (row2_below h' hbel2)
  clear hown1 hgrow1
  go_wp2_with (at_builtin; refine wpList_append_fits_any _ rfl _ _ 22 rfl w.heap.size 27 i0 2 Try.underlying22 hi hz1 w.heap.size len (len + len') _ rfl hown2 a' len' cap' (mcells (memL I' P' len')) rfl ?d0 Hn'.out hr2 (mcells_one _) ?d3 ?_)
  case d0 => rw [mcells_length, memL_length]
  intro w3 hown3 hgrow3
  have hlt2 := (hown2.lt _ rfl).2
  have hbel3 : Below w.heap.size w w3 := hbel2.grown hgrow3 (Nat.le_of_lt hlt2) (fun k hk => by cases hk; exact Nat.le_refl _)
  have hret : RetRow w w3 (memL I P len ++ memL I' P' len') (.returned (.slice (some ⟨w.heap.size, 0, none⟩) (len + len') (len + len'))) := by
    refine ⟨w.heap.size, len + len', ?_, ?_⟩
    · rw [List.length_append, memL_length, memL_length]
    · rw [List.length_append, memL_length, memL_length, mcells_append]; exact hown3
  clear hown2 hown3 hr2 hbel1 hbel2 hgrow2 hgrow3 h'
  go_wp2
  go_ret
  exact ⟨hret, hbel3⟩

/-- The IDs of a list, by index, as the walks want them. -/
def idsOf (ks : List (ByteArray × ByteArray)) : Nat → ByteArray := fun i => (ks.getD i dm).1

theorem memB_list (id : ByteArray) (ks : List (ByteArray × ByteArray)) : memB id (idsOf ks) ks.length = ks.any fun p => eqB p.1 id := by
  rw [Bool.eq_iff_iff, memB_any, List.any_eq_true]
  constructor
  · rintro ⟨i, hi, h⟩
    have e : ks.getD i dm = ks[i] := by simp [List.getD, hi]
    simp only [idsOf, e] at h
    exact ⟨ks[i], List.getElem_mem _, h⟩
  · rintro ⟨x, hx, h⟩
    obtain ⟨i, hi, rfl⟩ := List.getElem_of_mem hx
    have e : ks.getD i dm = ks[i] := by simp [List.getD, hi]
    exact ⟨i, hi, by simp only [idsOf, e]; exact h⟩

theorem memB_memL (id : ByteArray) (I P : Nat → ByteArray) (n : Nat) : memB id I n = (memL I P n).any fun p => eqB p.1 id := by
  rw [Bool.eq_iff_iff, memB_any, List.any_eq_true]
  constructor
  · rintro ⟨i, hi, h⟩
    exact ⟨(I i, P i), by simp only [memL, List.mem_map, List.mem_range]; exact ⟨i, hi, rfl⟩, h⟩
  · rintro ⟨x, hx, h⟩
    simp only [memL, List.mem_map, List.mem_range] at hx
    obtain ⟨i, hi, rfl⟩ := hx
    exact ⟨i, hi, h⟩

theorem eqB_self (id : ByteArray) : eqB id id = true := by simp [eqB]

/-- THE PLAIN LAW, one: with an entry of the own ID. -/
theorem memB_with (id addr : ByteArray) (xs ys : List (ByteArray × ByteArray)) : memB id (idsOf (xs ++ [(id, addr)] ++ ys)) (xs ++ [(id, addr)] ++ ys).length = true := by
  rw [memB_list]
  simp [eqB_self]

/-- THE PLAIN LAW, two: of the joined lists. -/
theorem memB_join (id : ByteArray) (I P I' P' : Nat → ByteArray) (n n' : Nat) :
    memB id (idsOf (memL I P n ++ memL I' P' n')) (memL I P n ++ memL I' P' n').length = (memB id I n || memB id I' n') := by
  rw [memB_list, List.any_append, ← memB_memL, ← memB_memL]

theorem isMember10_list (id : ByteArray) (g cap base : Nat) (ks : List (ByteArray × ByteArray)) (w : World) (h : w.ownsRow base 27 2 (.slice (some ⟨g, 0, none⟩) ks.length cap) ks.length (mcells ks)) (hl : ks.length ≤ 65536) :
    Calls Try.prog 10 #[.string id, .slice (some ⟨g, 0, none⟩) ks.length cap] w fun e w' => e = .returned (.bool (memB id (idsOf ks) ks.length)) ∧ Below w.heap.size w w' :=
  isMember10 id _ ks.length cap (idsOf ks) (fun i => (ks.getD i dm).2) w (row2_own h) hl

set_option maxRecDepth 100000 in
set_option maxHeartbeats 1000000 in
theorem law3 (id : ByteArray) (a : Option Addr) (len cap : Nat) (I P : Nat → ByteArray) (a' : Option Addr) (len' cap' : Nat) (I' P' : Nat → ByteArray) (addr : ByteArray) (w : World)
    (hid : id.size ≤ maxLen) (had : addr.size ≤ maxLen) (h : IsMems w a len cap I P) (h' : IsMems w a' len' cap' I' P') :
    Calls Try.prog 3 #[.string id, .slice a len cap, .slice a' len' cap', .string addr] w fun e w' => e = .returned (.bool true) ∧ Below w.heap.size w w' := by
  have H7 := bytes7 id a len cap I P a' len' cap' I' P' addr w hid had h h'
  have H9 := fun x => size9 x a len cap I P w h
  have H9' := fun x => size9 x a' len' cap' I' P' w h'
  obtain ⟨i0, hi, hz0, hz1, hz2⟩ := info_parts Try.info27
  have hlen := h.1
  have hlen' := h'.1
  unfold maxLen at hid had hlen hlen'
  by_cases hl : len ≤ 4096
  · by_cases hl' : len' ≤ 4096
    · go_enter Try.func3, Try.ntmps3
      go_wp2_with fail
      refine H7.mono ?_
      rintro e w' ⟨⟨r, rfl⟩, rfl⟩
      clear H7
      cases r with
      | false =>
        clear H9 H9' h h' hi hz0 hz1 hz2
        go_wp2
        go_ret
        exact ⟨rfl, Below.refl _ _⟩
      | true =>
        have hd : decide ((4096 : Int) < (len : Int)) = false := decide_eq_false (by omega)
        have hd' : decide ((4096 : Int) < (len' : Int)) = false := decide_eq_false (by omega)
        go_wp2_with fail
        refine (add8 _ _ _).mono ?_
        rintro e w' ⟨⟨z1, rfl⟩, rfl⟩
        go_wp2_with fail
        refine (add8 _ _ _).mono ?_
        rintro e w' ⟨⟨z2, rfl⟩, rfl⟩
        go_wp2_with fail
        refine (H9 _).mono ?_
        rintro e w' ⟨⟨z3, rfl⟩, rfl⟩
        clear H9
        go_wp2_with fail
        refine (H9' _).mono ?_
        rintro e w' ⟨⟨z4, rfl⟩, rfl⟩
        clear H9'
        by_cases hz : 1048576 < z4
        · clear h h' hi hz0 hz1 hz2
          go_wp2
          go_ret
          exact ⟨rfl, Below.refl _ _⟩
        · have Hn := h.2.2.1
          have Hn' := h'.2.2.1
          have hrow := h.row
          have hrow' := h'.row
          have HHn : Hid (a = none → len = 0 ∧ cap = 0) := Hn
          have HHn' : Hid (a' = none → len' = 0 ∧ cap' = 0) := Hn'
          clear h h' Hn Hn'
          go_wp2_with (at_make; refine wpList_make_own _ rfl _ _ 22 rfl w.heap.size 27 i0 _ 2 Try.underlying22 hi hz0 hz1 .i64 .i64 _ (len + len' + 1) rfl rfl ?h0 ?h1 ?h2 (Nat.le_refl _) ?_)
          case h0 => omega
          case h1 => rw [hz2]; omega
          case h2 => unfold maxLen; omega
          intro w1 hown1 hgrow1
          have hbel1 : Below w.heap.size w w1 := (Below.refl _ _).grown hgrow1 (Nat.le_refl _) (fun k hk => by cases hk)
          have hr1 := row2_cells (row2_below hrow hbel1)
          go_wp2_with (at_builtin; refine wpList_append_fits_any _ rfl _ _ 22 rfl w.heap.size 27 i0 2 Try.underlying22 hi hz1 w.heap.size 0 (len + len' + 1) [] rfl hown1 a len cap (mcells (memL I P len)) rfl ?c0 HHn.out hr1 (mcells_one _) ?c3 ?_)
          case c0 => rw [mcells_length, memL_length]
          case c3 => omega
          intro w2 hown2 hgrow2
          have hlt1 : w.heap.size < w1.heap.size := (hown1.lt _ rfl).2
          have hbel2 : Below w.heap.size w w2 := hbel1.grown hgrow2 (Nat.le_of_lt hlt1) (fun k hk => by cases hk; exact Nat.le_refl _)
          clear hown1 hgrow1 hbel1 hr1
          go_wp2_with (at_builtin; refine wpList_append_fits _ rfl _ _ 22 rfl w.heap.size 27 i0 2 Try.underlying22 hi hz1 w.heap.size len (len + len' + 1) (mcells (memL I P len)) rfl (hown2.alloc _) ⟨w2.heap.size, 0, none⟩ 1 1 [.string id, .string addr] rfl rfl ?d1 ?d2 ?d3 ?_)
          case d1 => exact two_new w2 27 _ _
          case d2 => intro u hu; simp at hu; rcases hu with rfl | rfl <;> rfl
          case d3 => omega
          intro w3 hown3 hgrow3
          have hlt2 : w.heap.size < w2.heap.size := (hown2.lt _ rfl).2
          have hbel3 : Below w.heap.size w w3 := (hbel2.alloc (Nat.le_of_lt hlt2) _).grown hgrow3 (by simp; omega) (fun k hk => by cases hk; exact Nat.le_refl _)
          have hr3 := row2_cells (row2_below hrow' hbel3)
          have hlt3 : w.heap.size < w3.heap.size := (hown3.lt _ rfl).2
          clear hown2 hgrow2 hgrow3 hbel2 hlt1 hlt2
          go_wp2_with (at_builtin; refine wpList_append_fits_any _ rfl _ _ 22 rfl w.heap.size 27 i0 2 Try.underlying22 hi hz1 w.heap.size (len + 1) (len + len' + 1) _ rfl hown3 a' len' cap' (mcells (memL I' P' len')) rfl ?e0 HHn'.out hr3 (mcells_one _) ?e3 ?_)
          case e0 => rw [mcells_length, memL_length]
          case e3 => omega
          intro w4 hown4 hgrow4
          have hbel4 : Below w.heap.size w w4 := hbel3.grown hgrow4 (Nat.le_of_lt hlt3) (fun k hk => by cases hk; exact Nat.le_refl _)
          have el : (memL I P len ++ [(id, addr)] ++ memL I' P' len').length = len + 1 + len' := by simp [memL_length]; omega
          have ec : mcells (memL I P len ++ [(id, addr)] ++ memL I' P' len') = mcells (memL I P len) ++ .string id :: .string addr :: mcells (memL I' P' len') := by simp [mcells_append, mcells]
          have HW := isMember10_list id w.heap.size (len + len' + 1) w.heap.size (memL I P len ++ [(id, addr)] ++ memL I' P' len') w4 (by rw [el, ec]; exact hown4) (by rw [el]; omega)
          rw [memB_with, el] at HW
          clear hown3 hown4 hr3 hbel3 hgrow4 hlt3 hi hz0 hz1 hz2 el ec
          go_wp2_with fail
          refine HW.mono ?_
          rintro e w5 ⟨rfl, hb5⟩
          clear HW
          have hbel5 : Below w.heap.size w w5 := hbel4.trans (hb5.mono hbel4.size)
          clear hb5 hbel4
          have HA := isMember10 id a len cap I P w5 (row2_below hrow hbel5) (by omega)
          go_wp2_with fail
          refine HA.mono ?_
          rintro e w6 ⟨rfl, hb6⟩
          clear HA
          have hbel6 : Below w.heap.size w w6 := hbel5.trans (hb6.mono hbel5.size)
          clear hb6 hbel5
          have HB := isMember10 id a' len' cap' I' P' w6 (row2_below hrow' hbel6) (by omega)
          go_wp2_with fail
          refine HB.mono ?_
          rintro e w7 ⟨rfl, hb7⟩
          clear HB
          have hbel7 : Below w.heap.size w w7 := hbel6.trans (hb7.mono hbel6.size)
          clear hb7 hbel6
          have HJ := join11 a len cap I P a' len' cap' I' P' w7 hl hl' HHn.out HHn'.out (row2_below hrow hbel7) (row2_below hrow' hbel7)
          clear hrow hrow' HHn HHn'
          go_wp2_with fail
          refine HJ.mono ?_
          rintro e w8 ⟨⟨g, c8, rfl, hown8⟩, hb8⟩
          clear HJ
          have hbel8 : Below w.heap.size w w8 := hbel7.trans (hb8.mono hbel7.size)
          clear hb8 hbel7
          have HK := isMember10_list id g c8 w7.heap.size (memL I P len ++ memL I' P' len') w8 hown8 (by rw [List.length_append, memL_length, memL_length]; omega)
          rw [memB_join, List.length_append] at HK
          clear hown8
          go_wp2_with fail
          refine HK.mono ?_
          rintro e w9 ⟨rfl, hb9⟩
          clear HK
          have hbel9 : Below w.heap.size w w9 := hbel8.trans (hb9.mono hbel8.size)
          clear hb9 hbel8
          generalize memB id I len = p at *
          generalize memB id I' len' = q at *
          cases p <;> cases q
          all_goals
            go_wp2
            go_ret
            exact ⟨rfl, hbel9⟩
    · have hd : decide ((4096 : Int) < (len : Int)) = false := decide_eq_false (by omega)
      have hd' : decide ((4096 : Int) < (len' : Int)) = true := decide_eq_true (by omega)
      clear H9 H9' h h' hi hz0 hz1 hz2
      go_enter Try.func3, Try.ntmps3
      go_wp2_with fail
      refine H7.mono ?_
      rintro e w' ⟨⟨r, rfl⟩, rfl⟩
      clear H7
      cases r
      all_goals
        go_wp2
        go_ret
        exact ⟨rfl, Below.refl _ _⟩
  · have hd : decide ((4096 : Int) < (len : Int)) = true := decide_eq_true (by omega)
    clear H9 H9' h h' hi hz0 hz1 hz2
    go_enter Try.func3, Try.ntmps3
    go_wp2_with fail
    refine H7.mono ?_
    rintro e w' ⟨⟨r, rfl⟩, rfl⟩
    clear H7
    cases r
    all_goals
      go_wp2
      go_ret
      exact ⟨rfl, Below.refl _ _⟩

end Go.Proofs.Qxb6613745a
