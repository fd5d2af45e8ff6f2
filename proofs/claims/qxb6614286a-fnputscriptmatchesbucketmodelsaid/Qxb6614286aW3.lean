/-
  Seat b6614286a: a put told by the bucket's distance from the newest; what each bucket holds.
-/
import Derived.Test.Qxb6614286aW2
namespace Go.Proofs.Qxb6614286a
open Go.RowKit

/-- The ring's slot of the bucket that lies d before the newest. -/
def slJ (n : Nat) (pv : Int) (d : Nat) : Nat := if pv - ((d : Int) - 1) < 0 then (pv - ((d : Int) - 1) + n).toNat else (pv - ((d : Int) - 1)).toNat

theorem slJ_slot (n : Nat) (pv nw k : Int) (d : Nat) (hk : k = nw - d) : slotN n pv nw k = slJ n pv d := by
  unfold slotN slJ
  have e : nw - 1 - k = (d : Int) - 1 := by omega
  rw [e]

theorem slJ_lt {n : Nat} {pv : Int} {d : Nat} (h1 : 1 ≤ d) (h2 : d ≤ n) (h3 : 0 ≤ pv) (h4 : pv < n) : slJ n pv d < n := by
  unfold slJ; split <;> omega

theorem slJ_inj {n : Nat} {pv : Int} {d e : Nat} (h1 : 1 ≤ d) (h2 : d ≤ n) (g1 : 1 ≤ e) (g2 : e ≤ n) (h3 : 0 ≤ pv) (_h4 : pv < n) (h : slJ n pv d = slJ n pv e) : d = e := by
  unfold slJ at h; split at h <;> split at h <;> omega

theorem slJ_ring {n : Nat} {pv : Int} {i : Nat} (hi : i < n) (h3 : 0 ≤ pv) (h4 : pv < n) : ((slJ n pv (n - i) : Nat) : Int) = (pv + 1 + i) % n := by
  have hd : ((n - i : Nat) : Int) = (n : Int) - i := by omega
  unfold slJ
  rw [hd]
  by_cases h : pv - ((n : Int) - i - 1) < 0
  · rw [if_pos h]
    have e : (pv + 1 + i) % (n : Int) = pv + 1 + i := Int.emod_eq_of_lt (by omega) (by omega)
    rw [e]; omega
  · rw [if_neg h]
    have e : (pv + 1 + i) % (n : Int) = pv + 1 + i - n := by
      rw [← Int.sub_emod_right]
      exact Int.emod_eq_of_lt (by omega) (by omega)
    rw [e]; omega

/-- What the bucket d before the newest holds: its sum's bits, its count. -/
def bS (n : Nat) (st : WSt) (d : Nat) : Nat := if d = 0 then st.fs else st.S (slJ n st.pv d)
def bC (n : Nat) (st : WSt) (d : Nat) : Int := if d = 0 then st.fc else st.C (slJ n st.pv d)
/-- The window behind a put at distance d. -/
def putJ (n : Nat) (st : WSt) (d r : Nat) (c : Int) : WSt := if d = 0 then putFront st r c else putOlder st (slJ n st.pv d) r c

theorem putJ_nw (n : Nat) (st : WSt) (d r : Nat) (c : Int) : (putJ n st d r c).nw = st.nw := by unfold putJ; split <;> rfl
theorem putJ_pv (n : Nat) (st : WSt) (d r : Nat) (c : Int) : (putJ n st d r c).pv = st.pv := by unfold putJ; split <;> rfl
theorem putJ_ct (n : Nat) (st : WSt) (d r : Nat) (c : Int) : (putJ n st d r c).ct = wrap64 (st.ct + c) := by unfold putJ; split <;> rfl

theorem bS_put {n : Nat} {st : WSt} {d e r : Nat} {c : Int} (hd : d ≤ n) (he : e ≤ n) (h3 : 0 ≤ st.pv) (h4 : st.pv < n ∨ n = 0) : bS n (putJ n st d r c) e = if e = d then r else bS n st e := by
  unfold bS
  rw [putJ_pv]
  unfold putJ
  by_cases hd0 : d = 0
  · subst hd0
    by_cases he0 : e = 0
    · simp [he0, putFront]
    · simp [he0, putFront]
  · rw [if_neg hd0]
    by_cases he0 : e = 0
    · subst he0
      rw [if_pos rfl, if_pos rfl, if_neg (fun h => hd0 h.symm)]; rfl
    · rw [if_neg he0, if_neg he0]
      show upd st.S (slJ n st.pv d) r (slJ n st.pv e) = _
      unfold upd
      by_cases h : e = d
      · subst h; simp
      · have hne : ¬ slJ n st.pv e = slJ n st.pv d := fun hh => h (slJ_inj (by omega) he (by omega) hd h3 (by omega) hh)
        rw [if_neg hne, if_neg h]

theorem bC_put {n : Nat} {st : WSt} {d e r : Nat} {c : Int} (hd : d ≤ n) (he : e ≤ n) (h3 : 0 ≤ st.pv) (h4 : st.pv < n ∨ n = 0) : bC n (putJ n st d r c) e = if e = d then wrap64 (bC n st d + c) else bC n st e := by
  unfold bC
  rw [putJ_pv]
  unfold putJ
  by_cases hd0 : d = 0
  · subst hd0
    by_cases he0 : e = 0
    · simp [he0, putFront]
    · simp [he0, putFront]
  · rw [if_neg hd0, if_neg hd0]
    by_cases he0 : e = 0
    · subst he0
      rw [if_pos rfl, if_pos rfl, if_neg (fun h => hd0 h.symm)]; rfl
    · rw [if_neg he0, if_neg he0]
      show upd st.C (slJ n st.pv d) (wrap64 (st.C (slJ n st.pv d) + c)) (slJ n st.pv e) = _
      unfold upd
      by_cases h : e = d
      · subst h; simp
      · have hne : ¬ slJ n st.pv e = slJ n st.pv d := fun hh => h (slJ_inj (by omega) he (by omega) hd h3 (by omega) hh)
        rw [if_neg hne, if_neg h]

/-- The call has put at distance d. -/
def RetPut (w w' : World) (W O n : Nat) (st : WSt) (d v : Nat) (c : Int) (e : Ending) : Prop :=
  e = .returned (.tuple #[]) ∧ ∃ r, FAdd (bS n st d) v r ∧ WinIs w' W O n (putJ n st d r c) ∧ Touch W O w w'

theorem zzput12 (W O n : Nat) (st : WSt) (d : Nat) (k : Int) (v : Nat) (c : Int) (w : World) (h : WinIs w W O n st) (hn : n ≤ 65536) (hd : d ≤ n) (hk : k = st.nw - d) (h3 : 0 ≤ st.pv) (h4 : st.pv < n ∨ n = 0)
    (h5 : -9223372036854775808 ≤ k) (h6 : st.nw ≤ 9223372036854775807) :
    Calls Try.prog 12 #[.pointer (some ⟨W, 0, none⟩), .int .i64 k, .float .f64 v, .int .i64 c] w fun e w' => RetPut w w' W O n st d v c e := by
  by_cases hd0 : d = 0
  · subst hd0
    refine (zzput12_front W O n st k v c w h (by omega)).mono ?_
    rintro e w' ⟨he, r, hr, hw, ht⟩
    exact ⟨he, r, by simpa [bS] using hr, by simpa [putJ] using hw, ht⟩
  · refine (zzput12_older W O n st k v c w h hn (by omega) (by omega) h3 (by omega) h5 h6).mono ?_
    rintro e w' ⟨he, r, hr, hw, ht⟩
    rw [slJ_slot n st.pv st.nw k d hk] at hr hw
    exact ⟨he, r, by simpa [bS, hd0] using hr, by simpa [putJ, hd0] using hw, ht⟩

/-- What ZZolder reads at the ring's slot of bucket n - i. -/
theorem older_ring {n : Nat} {st : WSt} {i m : Nat} (hi : i < n) (h3 : 0 ≤ st.pv) (h4 : st.pv < n) (hm : (m : Int) = (st.pv + 1 + i) % n) : m < n ∧ st.S m = bS n st (n - i) ∧ st.C m = bC n st (n - i) := by
  have e : m = slJ n st.pv (n - i) := by have := slJ_ring hi h3 h4; omega
  subst e
  exact ⟨slJ_lt (by omega) (by omega) h3 h4, by simp [bS]; omega, by simp [bC]; omega⟩

end Go.Proofs.Qxb6614286a
