/-
  The walk of 'FnUnmodelledOnAtAnyCut' (5), seat b6613730a, out of its callees' contracts.
-/
import Derived.Test.Qxb6613730aW7
namespace Go.Proofs.Qxb6613730a
open Go.RowKit

theorem lens_below {w w' : World} {v : Value} {len : Nat} {L : Nat → Nat} (h : Lens w v len L) (hb : Below w.heap.size w w') : Lens w' v len L := by
  obtain ⟨ad, c, e, h0 | ⟨b, hlt, ha, hc⟩⟩ := h
  · exact ⟨ad, c, e, .inl h0⟩
  · exact ⟨ad, c, e, .inr ⟨b, Nat.lt_of_lt_of_le hlt hb.size, ha, fun i hi => by
      obtain ⟨a', c', h1⟩ := hc i hi
      exact ⟨a', c', (hb.cell (p := ⟨b, i, none⟩) hlt).trans h1⟩⟩⟩

theorem stackOf0 (v : Value) (len : Nat) (L : Nat → Nat) (t : Nat) (w : World) (h : Lens w v len L) (ht : t ≤ len) (hlen : len ≤ 65536) :
    Calls Try.prog 18 #[v, .int .i64 0, .int .i64 t] w fun e w' => RetStack w' (pushed L 0 t) e ∧ Below w.heap.size w w' :=
  stackOf v len L 0 t w h (Nat.zero_le _) ht hlen

set_option maxHeartbeats 400000 in
theorem law5 (a : Option Addr) (len cap : Nat) (A : Nat → Option Addr) (L C : Nat → Nat) (S : Nat → Nat → ByteArray) (k : Int) (w : World) (h : IsStrss w a len A L C S) :
    Calls Try.prog 5 #[.slice a len cap, .int .i64 k] w fun e w' => e = .returned (.bool true) ∧ Below w.heap.size w w' := by
  have H14 := bytes14 k a len cap A L C S w h
  have H15 := ssbytes a len cap A L C S w h
  have hlen := h.1
  unfold maxLen at hlen
  by_cases hl : len ≤ 65536
  · go_enter Try.func5, Try.ntmps5
    go_wp2_with fail
    refine H14.mono ?_
    rintro e w' ⟨⟨r, rfl, hL⟩, rfl⟩
    clear H14
    cases r with
    | false =>
      clear hL H15 h
      go_wp2
      go_ret
      exact ⟨rfl, Below.refl _ _⟩
    | true =>
      have H16 := cloneSS a len cap A L C S w h hl (hL rfl)
      clear hL h
      go_wp2_with fail
      refine H15.mono ?_
      rintro e w' ⟨⟨z, rfl⟩, rfl⟩
      clear H15
      by_cases hz : z ≤ 1048576
      · by_cases hk0 : k < 0
        · have hk0' : decide (k < 0) = true := decide_eq_true hk0
          clear H16
          go_wp2
          go_ret
          exact ⟨rfl, Below.refl _ _⟩
        · have hk0' : decide (k < 0) = false := decide_eq_false hk0
          obtain ⟨kn, rfl⟩ : ∃ kn : Nat, k = kn := ⟨k.toNat, by omega⟩
          by_cases hk1 : len < kn
          · have hk1' : decide ((len : Int) < (kn : Int)) = true := decide_eq_true (by omega)
            clear H16
            go_wp2
            go_ret
            exact ⟨rfl, Below.refl _ _⟩
          · have hk1' : decide ((len : Int) < (kn : Int)) = false := decide_eq_false (by omega)
            go_wp2_with fail
            refine H16.mono ?_
            rintro e w1 ⟨⟨v, rfl, hv⟩, hb1⟩
            clear H16
            obtain ⟨ad, c, hvv, hrow⟩ := id hv
            subst hvv
            clear hrow
            go_wp2_with fail
            refine (stackOf0 _ len L len w1 hv (Nat.le_refl _) hl).mono ?_
            rintro e w2 ⟨⟨v2, rfl, hst2⟩, hb2⟩
            go_wp2_with fail
            refine (unmod17 _ v2 w2 hst2).mono ?_
            rintro e w' ⟨rfl, rfl⟩
            have hv2 := lens_below hv hb2
            have hbb2 : Below w.heap.size w w2 := hb1.trans (hb2.mono hb1.size)
            clear hst2 hv hb2 hb1
            go_wp2_with fail
            refine (stackOf0 _ len L kn w2 hv2 (by omega) hl).mono ?_
            rintro e w3 ⟨⟨v3, rfl, hst3⟩, hb3⟩
            go_wp2_with fail
            refine (unmod17 _ v3 w3 hst3).mono ?_
            rintro e w' ⟨rfl, rfl⟩
            have hv3 := lens_below hv2 hb3
            have hbb3 : Below w.heap.size w w3 := hbb2.trans (hb3.mono hbb2.size)
            clear hst3 hv2 hb3 hbb2
            go_wp2_with fail
            refine (stackOf _ len L kn len w3 hv3 (by omega) (Nat.le_refl _) hl).mono ?_
            rintro e w4 ⟨⟨v4, rfl, hst4⟩, hb4⟩
            go_wp2_with fail
            refine (unmod17 _ v4 w4 hst4).mono ?_
            rintro e w' ⟨rfl, rfl⟩
            have hv4 := lens_below hv3 hb4
            have hbb4 : Below w.heap.size w w4 := hbb3.trans (hb4.mono hbb3.size)
            clear hst4 hv3 hb4 hbb3
            go_wp2_with fail
            refine (any19 _ len L w4 hv4 hl).mono ?_
            rintro e w' ⟨rfl, rfl⟩
            have hcut := anyB_cut L kn len (by omega)
            generalize anyB (pushed L 0 len) = P at *
            generalize anyB (pushed L 0 kn) = Q at *
            generalize anyB (pushed L kn (len - kn)) = R at *
            clear hv4
            subst hcut
            cases Q <;> cases R
            all_goals
              go_wp2
              go_ret
              exact ⟨rfl, hbb4⟩
      · clear H16
        go_wp2
        go_ret
        exact ⟨rfl, Below.refl _ _⟩
  · go_enter Try.func5, Try.ntmps5
    go_wp2_with fail
    refine H14.mono ?_
    rintro e w' ⟨⟨r, rfl, hL⟩, rfl⟩
    clear H14 H15 h hL
    cases r
    all_goals
      go_wp2
      go_ret
      exact ⟨rfl, Below.refl _ _⟩

end Go.Proofs.Qxb6613730a
