/-
  Seat b6614286a: floats: what '+' gives (a NaN's bits come from the tape), as a law for the walk; two sums that are the same stay the same; 0 + float64(n) is float64(n).
-/
import Derived.WalkKit
import Derived.WalkSpells
import Derived.WalkLawsBesides
import Derived.Laws.FloatArith
namespace Go.Proofs.Qxb6614286a
open Go.RowKit

/-- The bits of a NaN. -/
def IsNaN (x : Nat) : Prop := (FloatKind.f64.format.read x).isNaN = true

/-- What 'p + q' may give. -/
def FAdd (p q r : Nat) : Prop := FloatKind.f64.format.add p q = some r ∨ (FloatKind.f64.format.add p q = none ∧ IsNaN r)

theorem nan_cut (x y t : Nat) : IsNaN (Question.cut (.nanBits .f64 x y) t) := by
  have h : Question.cut (.nanBits .f64 x y) t = (t % 2) * 2 ^ 63 + 0x7ff0000000000000 + 1 + (t / 2) % (2 ^ 52 - 1) := rfl
  rw [h]
  generalize t % 2 = b
  have hm : (t / 2) % (2 ^ 52 - 1) < 2 ^ 52 - 1 := Nat.mod_lt _ (by decide)
  generalize (t / 2) % (2 ^ 52 - 1) = m at *
  unfold IsNaN Ieee.Format.read
  have hs : FloatKind.f64.format.signWeight = 2 ^ 63 := rfl
  have hb : FloatKind.f64.format.binade = 2 ^ 52 := rfl
  have hi : FloatKind.f64.format.infRung = 0x7ff0000000000000 := rfl
  rw [hs, hb, hi]
  have hr : (b * 2 ^ 63 + 0x7ff0000000000000 + 1 + m) % 2 ^ 63 = 0x7ff0000000000000 + 1 + m := by omega
  simp only [hr]
  rw [if_neg (by omega), if_neg (by omega), if_neg (by omega)]
  rfl

theorem wpList_fadd {P : Program} (w : World) {ops : Array Oper} {rest : List Oper} {o : Oper} {a : Act} {Q : Exit → Act → World → Prop}
    (hg : o.guard = none) (t t2 : TypeId) (x y : Operand) (hop : o.op = Op.binOp .add t x y t2) (p q : Nat) (hx : a.eval x = .float .f64 p) (hy : a.eval y = .float .f64 q)
    (hK : ∀ r w', FAdd p q r → (w' = w ∨ w' = w.drew) → wpList P ops Q rest (a.put o.dst (.float .f64 r)) w') : wpList P ops Q (o :: rest) a w := by
  refine wpList_plain hg fun K hK' => ?_
  unfold Oper.wp
  cases h : FloatKind.f64.format.add p q with
  | some r =>
    have hrun := run_float_arith (P := P) w .add t .f64 p q r h
    simp [execOp, hop, hx, hy, eqGuard, hrun]
    exact hK' _ _ (hK r w (.inl h) (.inl rfl))
  | none =>
    simp [execOp, hop, hx, hy, eqGuard, binOp, Op.floatArith, h, Question.forced]
    exact hK' _ _ (hK _ w.drew (.inr ⟨h, nan_cut _ _ _⟩) (.inr rfl))

/-! ### Plain facts -/

/-- The same number, or both no number. -/
def Same (x y : Nat) : Prop := x = y ∨ (IsNaN x ∧ IsNaN y)

theorem Same.refl (x : Nat) : Same x x := .inl rfl

theorem add_nan {x v : Nat} (h : IsNaN x) : FloatKind.f64.format.add x v = none := by
  unfold IsNaN at h
  unfold Ieee.Format.add
  cases hx : FloatKind.f64.format.read x with
  | nan s t => rfl
  | number s m e => rw [hx] at h; cases h
  | infinity s => rw [hx] at h; cases h

theorem same_add {x y v r r' : Nat} (h : Same x y) (h1 : FAdd x v r) (h2 : FAdd y v r') : Same r r' := by
  rcases h with rfl | ⟨hx, hy⟩
  · rcases h1 with h1 | ⟨h1, n1⟩ <;> rcases h2 with h2 | ⟨h2, n2⟩
    · rw [h1] at h2; cases h2; exact .inl rfl
    · rw [h1] at h2; cases h2
    · rw [h1] at h2; cases h2
    · exact .inr ⟨n1, n2⟩
  · rcases h1 with h1 | ⟨_, n1⟩
    · rw [add_nan hx] at h1; cases h1
    rcases h2 with h2 | ⟨_, n2⟩
    · rw [add_nan hy] at h2; cases h2
    exact .inr ⟨n1, n2⟩

theorem order_nan {x y : Nat} (h : IsNaN x) : FloatKind.f64.format.order x y = none := by
  unfold IsNaN at h
  unfold Ieee.Format.order
  cases hx : FloatKind.f64.format.read x with
  | nan s t => rfl
  | number s m e => rw [hx] at h; cases h
  | infinity s => rw [hx] at h; cases h

theorem order_self {x : Nat} (h : ¬ IsNaN x) : FloatKind.f64.format.order x x = some .eq := by
  unfold IsNaN at h
  unfold Ieee.Format.order
  cases hx : FloatKind.f64.format.read x with
  | nan s t => rw [hx] at h; exact absurd rfl h
  | number s m e => simp [Ieee.Datum.order]
  | infinity s => simp [Ieee.Datum.order]

theorem cut_zero (x : Nat) : Ieee.Toward.even.cut false x 0 = x := by
  simp [Ieee.Toward.cut, Nat.mod_one]

theorem cut_exact (K E : Nat) (hK : K ≠ 0) : Ieee.Toward.even.cut false (K * 2 ^ E) E = K := by
  have hlog : E ≤ (K * 2 ^ E).log2 := (Nat.le_log2 (by have := Nat.two_pow_pos E; exact Nat.mul_ne_zero hK (by omega))).2 (Nat.le_mul_of_pos_left _ (by omega))
  have hmin : min E ((K * 2 ^ E).log2 + 2) = E := by omega
  have hp := Nat.two_pow_pos E
  simp only [Ieee.Toward.cut, hmin, Nat.shiftLeft_eq, Nat.one_mul, Nat.mul_div_cancel _ hp, Nat.mul_mod_left]
  have h2 : ¬ 2 ^ E = 0 := by omega
  simp

theorem dbl : FloatKind.f64.format = Ieee.double := rfl

theorem min_rung {A K : Nat} (hA : A ≤ 1074 * 2 ^ 52) (hK : K < 2 ^ 53) : min (A + K) (2047 * 2 ^ 52) = A + K := by
  have h : A + K ≤ 2047 * 2 ^ 52 := by omega
  omega

/-- float64(n) of a small natural number: its bits. -/
theorem nearest_small (n : Nat) (h1 : 1 ≤ n) (h2 : n < 2 ^ 53) : Ieee.double.nearest false n 0 = (n.log2 + 1022) * 2 ^ 52 + n * 2 ^ (52 - n.log2) := by
  have hL : n.log2 ≤ 52 := by have := (Nat.log2_lt (n := n) (k := 53) (by omega)).2 h2; omega
  have hk : n * 2 ^ (52 - n.log2) < 2 ^ 53 := by
    have := @Nat.lt_log2_self n
    calc n * 2 ^ (52 - n.log2) < 2 ^ (n.log2 + 1) * 2 ^ (52 - n.log2) := Nat.mul_lt_mul_of_pos_right this (Nat.two_pow_pos _)
      _ = 2 ^ 53 := by rw [← Nat.pow_add]; congr 1; omega
  have hlp : Ieee.double.leastPlace = -1074 := by decide
  have hfb : Ieee.double.fractionBits = 52 := rfl
  have hbi : Ieee.double.binade = 2 ^ 52 := rfl
  have hin : Ieee.double.infRung = 2047 * 2 ^ 52 := by decide
  unfold Ieee.Format.nearest
  rw [if_neg (by omega), hlp, hfb, hbi, hin]
  have hlast : max ((0 : Int) + (n.log2 : Int) - (52 : Nat)) (-1074) = (n.log2 : Int) - 52 := by omega
  simp only [hlast]
  have e1 : ((0 : Int) - ((n.log2 : Int) - 52)).toNat = 52 - n.log2 := by omega
  have e2 : (((n.log2 : Int) - 52) - 0).toNat = 0 := by omega
  have e3 : (((n.log2 : Int) - 52) - (-1074)).toNat = n.log2 + 1022 := by omega
  rw [e1, e2, e3, cut_zero, Nat.shiftLeft_eq]
  have hle : (n.log2 + 1022) * 2 ^ 52 ≤ 1074 * 2 ^ 52 := Nat.mul_le_mul_right _ (by omega)
  rw [min_rung hle hk]
  rfl

/-- A number of the form E * 2^52 + K, read. -/
theorem read_rung (E K : Nat) (hE : E ≤ 1074) (hK : 2 ^ 52 ≤ K) (hK2 : K < 2 ^ 53) : Ieee.double.read (E * 2 ^ 52 + K) = .number false K (-1074 + (E : Int)) := by
  have hs : Ieee.double.signWeight = 2 ^ 63 := rfl
  have hb : Ieee.double.binade = 2 ^ 52 := rfl
  have hi : Ieee.double.infRung = 2047 * 2 ^ 52 := by decide
  have hlp : Ieee.double.leastPlace = -1074 := by decide
  have hEE : E * 2 ^ 52 ≤ 1074 * 2 ^ 52 := Nat.mul_le_mul_right _ hE
  unfold Ieee.Format.read
  rw [hs, hb, hi, hlp]
  have d0 : (E * 2 ^ 52 + K) / 2 ^ 63 = 0 := Nat.div_eq_of_lt (by omega)
  have m0 : (E * 2 ^ 52 + K) % 2 ^ 63 = E * 2 ^ 52 + K := Nat.mod_eq_of_lt (by omega)
  simp only [d0, m0]
  rw [if_neg (by omega), if_pos (by omega)]
  have m1 : (E * 2 ^ 52 + K) % 2 ^ 52 = K - 2 ^ 52 := by omega
  have d1 : (E * 2 ^ 52 + K) / 2 ^ 52 = E + 1 := by omega
  rw [m1, d1]
  have e1 : 2 ^ 52 + (K - 2 ^ 52) = K := by omega
  rw [e1]
  rfl

/-- .. and written from the least place. -/
theorem nearest_rung (E K : Nat) (hE : E ≤ 1074) (hK : 2 ^ 52 ≤ K) (hK2 : K < 2 ^ 53) : Ieee.double.nearest false (K * 2 ^ E) (-1074) = E * 2 ^ 52 + K := by
  have hp := Nat.two_pow_pos E
  have hne : K * 2 ^ E ≠ 0 := Nat.mul_ne_zero (by omega) (by omega)
  have hlog : (K * 2 ^ E).log2 = 52 + E := by
    rw [Nat.log2_eq_iff hne]
    constructor
    · rw [Nat.pow_add]; exact Nat.mul_le_mul_right _ hK
    · rw [show 52 + E + 1 = 53 + E from by omega, Nat.pow_add]; exact Nat.mul_lt_mul_of_pos_right hK2 hp
  have hlp : Ieee.double.leastPlace = -1074 := by decide
  have hfb : Ieee.double.fractionBits = 52 := rfl
  have hbi : Ieee.double.binade = 2 ^ 52 := rfl
  have hin : Ieee.double.infRung = 2047 * 2 ^ 52 := by decide
  unfold Ieee.Format.nearest
  rw [if_neg hne, hlp, hfb, hbi, hin, hlog]
  have hlast : max ((-1074 : Int) + ((52 + E : Nat) : Int) - (52 : Nat)) (-1074) = -1074 + (E : Int) := by omega
  simp only [hlast]
  have e1 : ((-1074 : Int) - (-1074 + (E : Int))).toNat = 0 := by omega
  have e2 : ((-1074 + (E : Int)) - (-1074)).toNat = E := by omega
  rw [e1, e2, Nat.shiftLeft_zero, cut_exact K E (by omega)]
  have hEE : E * 2 ^ 52 ≤ 1074 * 2 ^ 52 := Nat.mul_le_mul_right _ hE
  rw [min_rung hEE hK2]
  rfl

theorem floatOfInt_nat (n : Nat) (h1 : 1 ≤ n) (h2 : n < 2 ^ 53) : floatOfInt .f64 (n : Int) = (n.log2 + 1022) * 2 ^ 52 + n * 2 ^ (52 - n.log2) := by
  have h : floatOfInt .f64 (n : Int) = Ieee.double.nearest (decide ((n : Int) < 0)) ((n : Int).natAbs) 0 := rfl
  rw [h, decide_eq_false (by omega), Int.natAbs_natCast, nearest_small n h1 h2]

/-- 0 + float64(n) = float64(n). -/
theorem zero_add_float (n : Nat) (h1 : 1 ≤ n) (h2 : n < 2 ^ 53) : FloatKind.f64.format.add 0 (floatOfInt .f64 (n : Int)) = some (floatOfInt .f64 (n : Int)) := by
  have hL : n.log2 ≤ 52 := by have := (Nat.log2_lt (n := n) (k := 53) (by omega)).2 h2; omega
  have hk1 : 2 ^ 52 ≤ n * 2 ^ (52 - n.log2) := by
    have := Nat.log2_self_le (n := n) (by omega)
    calc 2 ^ 52 = 2 ^ n.log2 * 2 ^ (52 - n.log2) := by rw [← Nat.pow_add]; congr 1; omega
      _ ≤ _ := Nat.mul_le_mul_right _ this
  have hk2 : n * 2 ^ (52 - n.log2) < 2 ^ 53 := by
    have := @Nat.lt_log2_self n
    calc n * 2 ^ (52 - n.log2) < 2 ^ (n.log2 + 1) * 2 ^ (52 - n.log2) := Nat.mul_lt_mul_of_pos_right this (Nat.two_pow_pos _)
      _ = 2 ^ 53 := by rw [← Nat.pow_add]; congr 1; omega
  rw [floatOfInt_nat n h1 h2]
  generalize n * 2 ^ (52 - n.log2) = K at *
  have hE : n.log2 + 1022 ≤ 1074 := by omega
  generalize n.log2 + 1022 = E at *
  rw [dbl]
  unfold Ieee.Format.add
  rw [read_rung E K hE hk1 hk2]
  have r0 : Ieee.double.read 0 = .number false 0 (-1074) := by decide
  rw [r0]
  have hmin : min (-1074 : Int) (-1074 + (E : Int)) = -1074 := by omega
  have e1 : ((-1074 + (E : Int)) - (-1074)).toNat = E := by omega
  have hp := Nat.two_pow_pos E
  have hne : K * 2 ^ E ≠ 0 := Nat.mul_ne_zero (by omega) (by omega)
  have hsum : Ieee.Datum.sum (.number false 0 (-1074)) (.number false K (-1074 + (E : Int))) = some (.number false (K * 2 ^ E) (-1074)) := by
    simp only [Ieee.Datum.sum, hmin, e1, Ieee.signed, Bool.false_eq_true, if_false, Nat.shiftLeft_eq, Nat.zero_mul]
    have ht : ((0 : Nat) : Int) + ((K * 2 ^ E : Nat) : Int) = ((K * 2 ^ E : Nat) : Int) := by omega
    rw [ht, Int.natAbs_natCast, if_neg (by omega)]
    rw [decide_eq_false (by omega)]
  rw [hsum]
  show some (Ieee.double.write _) = _
  have hw : Ieee.double.write (.number false (K * 2 ^ E) (-1074)) = Ieee.double.nearest false (K * 2 ^ E) (-1074) := rfl
  rw [hw, nearest_rung E K hE hk1 hk2]

theorem float_not_nan (n : Nat) (h1 : 1 ≤ n) (h2 : n < 2 ^ 53) : ¬ IsNaN (floatOfInt .f64 (n : Int)) := by
  intro h
  have := add_nan (v := 0) h
  have hz := zero_add_float n h1 h2
  unfold IsNaN at h
  unfold Ieee.Format.add at hz
  cases hx : FloatKind.f64.format.read (floatOfInt .f64 (n : Int)) with
  | nan s t =>
    rw [hx] at hz
    cases hr : FloatKind.f64.format.read 0 with
    | nan s t => rw [hr] at hz; cases hz
    | number s m e => rw [hr] at hz; cases hz
    | infinity s => rw [hr] at hz; cases hz
  | number s m e => rw [hx] at h; cases h
  | infinity s => rw [hx] at h; cases h

theorem float_one : floatOfInt .f64 1 = 4607182418800017408 := by decide

end Go.Proofs.Qxb6614286a
