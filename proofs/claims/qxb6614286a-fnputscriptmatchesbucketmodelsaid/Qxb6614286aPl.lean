/-
  Seat b6614286a: plain facts for the laws over scripts: sums over chosen puts, wraps and all; what a put does to them.
-/
import Derived.Test.Qxb6614286aW3
namespace Go.Proofs.Qxb6614286a
open Go.RowKit

theorem wrap_add_left (a b : Int) : wrap64 (wrap64 a + b) = wrap64 (a + b) := by unfold wrap64; omega
theorem wrap_add_right (a b : Int) : wrap64 (a + wrap64 b) = wrap64 (a + b) := by unfold wrap64; omega

/-- The sum of the first j counts that are chosen. -/
def selSum (p : Nat → Bool) (f : Nat → Int) : Nat → Int
  | 0 => 0
  | j + 1 => selSum p f j + (if p j then f j else 0)

/-- The sum of the first n counts. -/
def sumC (C : Nat → Int) : Nat → Int
  | 0 => 0
  | j + 1 => sumC C j + C j

theorem sumC_upd_out (C : Nat → Int) (s : Nat) (x : Int) : ∀ n, n ≤ s → sumC (upd C s x) n = sumC C n
  | 0, _ => rfl
  | n + 1, h => by
    have e : upd C s x n = C n := by unfold upd; rw [if_neg (by omega)]
    simp only [sumC, sumC_upd_out C s x n (by omega), e]
theorem sumC_upd (C : Nat → Int) (s : Nat) (x : Int) : ∀ n, s < n → sumC (upd C s x) n = sumC C n + (x - C s)
  | 0, h => absurd h (Nat.not_lt_zero _)
  | n + 1, h => by
    by_cases e : s = n
    · subst e
      have e1 : upd C s x s = x := by unfold upd; rw [if_pos rfl]
      simp only [sumC, sumC_upd_out C s x s (Nat.le_refl _), e1]; omega
    · have e1 : upd C s x n = C n := by unfold upd; rw [if_neg (by omega)]
      simp only [sumC, sumC_upd C s x n (by omega), e1]; omega

/-- The window's total is the sum of its buckets' counts. -/
def Tot (n : Nat) (st : WSt) : Prop := wrap64 (st.fc + sumC st.C n) = st.ct

theorem tot_put {n : Nat} {st : WSt} {d r : Nat} {c : Int} (h : Tot n st) (hd : d ≤ n) (h3 : 0 ≤ st.pv) (h4 : st.pv < n ∨ n = 0) : Tot n (putJ n st d r c) := by
  unfold Tot at *
  rw [putJ_ct, ← h, wrap_add_left]
  unfold putJ
  by_cases hd0 : d = 0
  · rw [if_pos hd0]
    show wrap64 (wrap64 (st.fc + c) + sumC st.C n) = _
    rw [wrap_add_left]
    congr 1; omega
  · rw [if_neg hd0]
    have hs := slJ_lt (n := n) (pv := st.pv) (d := d) (by omega) hd h3 (by omega)
    show wrap64 (st.fc + sumC (upd st.C (slJ n st.pv d) (wrap64 (st.C (slJ n st.pv d) + c))) n) = _
    rw [sumC_upd _ _ _ n hs]
    generalize st.C (slJ n st.pv d) = x
    generalize sumC st.C n = y
    generalize st.fc = z
    have e : z + (y + (wrap64 (x + c) - x)) = (z + y - x) + wrap64 (x + c) := by omega
    rw [e, wrap_add_right]
    congr 1; omega

/-- What holds of a window behind some puts: 'g p': the sum of the counts of those puts that p chooses; 'd m': put m's distance from the newest. -/
structure Inv6 (n : Nat) (N q : Int) (d : Nat → Nat) (g : (Nat → Bool) → Int) (st : WSt) : Prop where
  nw : st.nw = N
  pv : st.pv = q
  tot : Tot n st
  ct : st.ct = wrap64 (g fun _ => true)
  fc : st.fc = wrap64 (g fun m => d m == 0)
  C : ∀ s, s < n → st.C s = wrap64 (g fun m => d m != 0 && slJ n q (d m) == s)

theorem wrap_zero : wrap64 0 = 0 := by unfold wrap64; omega

theorem sumC_zero : ∀ n, sumC (fun _ => 0) n = 0
  | 0 => rfl
  | n + 1 => by simp [sumC, sumC_zero n]

theorem inv6_start (n : Nat) (N pv x : Int) (d : Nat → Nat) : Inv6 n N pv d (fun _ => 0) { st0 x 0 with nw := N, pv := pv } :=
  ⟨rfl, rfl, by simp [Tot, st0, sumC_zero, wrap_zero], by simp [st0, wrap_zero], by simp [st0, wrap_zero], fun s _ => by simp [st0, wrap_zero]⟩

theorem inv6_step {n : Nat} {N pv : Int} {d : Nat → Nat} {g : (Nat → Bool) → Int} {st : WSt} {m r : Nat} {c : Int} (h : Inv6 n N pv d g st) (hd : d m ≤ n) (h3 : 0 ≤ pv) (h4 : pv < n ∨ n = 0) :
    Inv6 n N pv d (fun p => g p + (if p m then c else 0)) (putJ n st (d m) r c) := by
  have hpv := h.pv
  refine ⟨(putJ_nw ..).trans h.nw, (putJ_pv ..).trans h.pv, tot_put h.tot hd (by omega) (by omega), ?_, ?_, fun s hs => ?_⟩
  · rw [putJ_ct, h.ct, wrap_add_left]; simp
  · unfold putJ
    by_cases hd0 : d m = 0
    · rw [if_pos hd0]
      show wrap64 (st.fc + c) = _
      rw [h.fc, wrap_add_left]; simp [hd0]
    · rw [if_neg hd0]
      show st.fc = _
      rw [h.fc]; simp [hd0]
  · unfold putJ
    by_cases hd0 : d m = 0
    · rw [if_pos hd0]
      show st.C s = _
      rw [h.C s hs]; simp [hd0]
    · rw [if_neg hd0]
      show upd st.C (slJ n st.pv (d m)) (wrap64 (st.C (slJ n st.pv (d m)) + c)) s = _
      rw [hpv]
      unfold upd
      by_cases e : s = slJ n pv (d m)
      · subst e
        rw [if_pos rfl, h.C _ hs, wrap_add_left]
        simp [hd0]
      · rw [if_neg e, h.C s hs]
        have e' : ¬ slJ n pv (d m) = s := fun hh => e hh.symm
        simp [e']

theorem inv6_congr {n : Nat} {N pv : Int} {d : Nat → Nat} {g g' : (Nat → Bool) → Int} {st : WSt} (h : Inv6 n N pv d g st) (e : ∀ p, g p = g' p) : Inv6 n N pv d g' st :=
  ⟨h.nw, h.pv, h.tot, by rw [h.ct, e], by rw [h.fc, e], fun s hs => by rw [h.C s hs, e]⟩

end Go.Proofs.Qxb6614286a
