/-
  The walk of 'FnPutScriptMatchesBucketModel' (5), seat b6614286a.
-/
import Derived.Test.Qxb6614286aW6
namespace Go.Proofs.Qxb6614286a
open Go.RowKit

theorem Try.info2 : (Try.prog.info? 2).map (fun i => (i.zero, i.size, i.bytes)) = some (some (.int .i64 0), 1, 8) := by kernel_rfl
theorem Try.info32 : (Try.prog.info? 32).map (fun i => (i.zero, i.size, i.bytes)) = some (some (.float .f64 0), 1, 8) := by kernel_rfl

set_option maxHeartbeats 400000 in
theorem bytes16 (a0 a1 a2 : Int) (a : Option Addr) (len cap : Nat) (w : World) (hlen : len ≤ maxLen) :
    Calls Try.prog 16 #[.int .i64 a0, .int .i64 a1, .int .i64 a2, .slice a len cap] w fun e w' => RetBool e ∧ w = w' := by
  unfold maxLen at hlen
  by_cases h : len ≤ 1048576
  · go_enter Try.func16, Try.ntmps16
    go_wp2
    all_goals (go_ret; exact ⟨RetBool.mk _, rfl⟩)
  · go_enter Try.func16, Try.ntmps16
    go_wp2
    all_goals (go_ret; exact ⟨RetBool.mk _, rfl⟩)

set_option maxHeartbeats 400000 in
/-- zzSameFloat: two sums that are the same, or both no number. -/
theorem same17 (x y : Nat) (w : World) (h : Same x y) : Calls Try.prog 17 #[.float .f64 x, .float .f64 y] w fun e w' => e = .returned (.bool true) ∧ w = w' := by
  by_cases hx : IsNaN x
  · have hy : IsNaN y := by
      rcases h with rfl | ⟨_, hy⟩
      · exact hx
      · exact hy
    have e1 : (FloatKind.f64.format.order x x != some .eq) = true := by rw [order_nan hx]; rfl
    have e2 : (FloatKind.f64.format.order y y != some .eq) = true := by rw [order_nan hy]; rfl
    clear h hx hy
    go_enter Try.func17, Try.ntmps17
    go_wp2
    go_ret
    exact ⟨rfl, rfl⟩
  · have hxy : x = y := by
      rcases h with h | ⟨h, _⟩
      · exact h
      · exact absurd h hx
    subst hxy
    have e1 : (FloatKind.f64.format.order x x != some .eq) = false := by rw [order_self hx]; rfl
    have e2 : (FloatKind.f64.format.order x x == some .eq) = true := by rw [order_self hx]; rfl
    clear h hx
    go_enter Try.func17, Try.ntmps17
    go_wp2
    go_ret
    exact ⟨rfl, rfl⟩

/-- What holds of the window and of the two model rows behind some puts. -/
structure Inv5 (n : Nat) (N q : Int) (mc : Nat → Int) (ms : Nat → Nat) (st : WSt) : Prop where
  nw : st.nw = N
  pv : st.pv = q
  buckets : ∀ d, d ≤ n → bC n st d = mc d ∧ Same (bS n st d) (ms d)

theorem inv5_start (n : Nat) (N q x : Int) : Inv5 n N q (fun _ => 0) (fun _ => 0) { st0 x 0 with nw := N, pv := q } :=
  ⟨rfl, rfl, fun d _ => by simp [bS, bC, st0, Same.refl]⟩

theorem inv5_step {n : Nat} {N q : Int} {mc : Nat → Int} {ms : Nat → Nat} {st : WSt} {d r r' v : Nat} {c : Int} (h : Inv5 n N q mc ms st) (hd : d ≤ n) (h3 : 0 ≤ q) (h4 : q < n ∨ n = 0)
    (hr : FAdd (bS n st d) v r) (hr' : FAdd (ms d) v r') : Inv5 n N q (upd mc d (wrap64 (mc d + c))) (upd ms d r') (putJ n st d r c) := by
  have hpv := h.pv
  refine ⟨(putJ_nw ..).trans h.nw, (putJ_pv ..).trans h.pv, fun e he => ?_⟩
  rw [bS_put hd he (by omega) (by omega), bC_put hd he (by omega) (by omega)]
  unfold upd
  by_cases hed : e = d
  · subst hed
    rw [if_pos rfl, if_pos rfl, if_pos rfl, if_pos rfl, (h.buckets e he).1]
    exact ⟨rfl, same_add (h.buckets e he).2 hr hr'⟩
  · rw [if_neg hed, if_neg hed, if_neg hed, if_neg hed]
    exact h.buckets e he

theorem put_of5 {n : Nat} {N q : Int} {K : Nat → Int} {mc : Nat → Int} {ms : Nat → Nat} {st : WSt} {W O j v : Nat} {c : Int} (hn : n ≤ 65535) (hv : Inv5 n N q mc ms st) (i1 : K j ≤ N) (i2 : N - K j ≤ n) (hq1 : 0 ≤ q) (hq2 : q < n ∨ n = 0) (hN2 : N ≤ 9223372036854775807)
    (k0 : -9223372036854775808 ≤ K j) :
    ∀ wx, WinIs wx W O n st → Calls Try.prog 12 #[.pointer (some ⟨W, 0, none⟩), .int .i64 (K j), .float .f64 v, .int .i64 c] wx fun e w' => RetPut wx w' W O n st (dist N K j) v c e := fun wx h => by
  have h1 := hv.nw
  have h2 := hv.pv
  have hd : ((dist N K j : Nat) : Int) = N - K j := by unfold dist; omega
  exact zzput12 W O n st (dist N K j) (K j) v c wx h (by omega) (by omega) (by omega) (by omega) (by omega) k0 (by omega)

end Go.Proofs.Qxb6614286a
