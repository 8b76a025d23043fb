/- FnSqrtRises: the call returns true; no condition but that the arguments are words. -/
import Derived.Test.YtmdenmldbmafgaaCS
namespace Go.Proofs.Ytmdenmldbmafgaa
open Go.RowKit
theorem sq_tests {x y a b : Nat} (ha : Fd.SQ x a) (hb : Fd.SQ y b) : leF .f64 0 x = false ∨ (leF .f64 0 x = true ∧ leF .f64 x y = false) ∨ (leF .f64 0 x = true ∧ leF .f64 x y = true ∧ leF .f64 a b = true) := by
  cases h1 : leF .f64 0 x with
  | false => exact Or.inl rfl
  | true =>
    cases h2 : leF .f64 x y with
    | false => exact Or.inr (Or.inl ⟨rfl, rfl⟩)
    | true =>
      obtain ⟨_, n1, k1⟩ := le_out h1
      obtain ⟨_, n2, k2⟩ := le_out h2
      rw [key0] at k1
      obtain ⟨a1, a2, a3⟩ := Fd.sq_mono ha hb n1 n2 k1 k2
      exact Or.inr (Or.inr ⟨rfl, rfl, le_in a1 a2 a3⟩)
theorem kC : Fd.key 118622047889322841 = 118622047889322841 := by decide
theorem four_inf : arith .mul .f64 4616189618054758400 9218868437227405312 = some 9218868437227405312 := by decide +kernel
theorem sq_more {x a : Nat} (hx : W64 x) (ha : Fd.SQ x a) (h : leF .f64 118622047889322841 x = true) : ltF .f64 0 x = true ∧ ∃ u, arith .mul .f64 4616189618054758400 x = some u ∧ W64 u ∧ (Fd.fin u = false ∨ (Fd.fin u = true ∧ ∃ v, arith .mul .f64 4611686018427387904 a = some v ∧ ∀ c, Fd.SQ u c → eqF .f64 c v = true)) := by
  obtain ⟨_, nx, kx⟩ := le_out h
  rw [kC] at kx
  refine ⟨lt_in nan0 nx (by rw [key0]; omega), ?_⟩
  obtain ⟨k1, k2⟩ := Fd.key_nonneg (x := x) (by omega)
  have sx : Fd.sg x = false := by rcases k2 with k | k; exact k; omega
  obtain ⟨na, A, ka, ca⟩ := Fd.sq_key nx (by omega) ha
  rcases ca with ⟨c1, c2⟩ | ⟨c1, c2⟩ | ⟨c1, c2, c3, c4, c5, ev⟩
  · omega
  · have : x = 9218868437227405312 := by have := Fd.wd_of hx; rw [sx, c1] at this; exact this.symm
    subst this
    exact ⟨_, four_inf, by unfold W64; omega, Or.inl (by decide)⟩
  · have e1 := Fd.mul_pow_l Fd.mg_four (by decide) (by decide) c2
    rw [sx] at e1
    refine ⟨_, e1, Fd.wd_lt (by omega), ?_⟩
    have ru : Fd.rg (Fd.wd false (min (Fd.dbls 2 (Fd.rg x)) 9218868437227405312)) = min (Fd.dbls 2 (Fd.rg x)) 9218868437227405312 := Fd.rg_wd (by omega)
    have su : Fd.sg (Fd.wd false (min (Fd.dbls 2 (Fd.rg x)) 9218868437227405312)) = false := Fd.sg_wd (by omega)
    rcases Nat.lt_or_ge (Fd.dbls 2 (Fd.rg x)) 9218868437227405312 with d | d
    · right
      rw [Nat.min_eq_left (by omega)] at *
      refine ⟨by unfold Fd.fin; rw [ru]; simpa using d, ?_⟩
      have ra : Fd.rg a = A := by rw [ev, Fd.rg_wd (by omega)]
      have sa : Fd.sg a = false := by rw [ev, Fd.sg_wd (by omega)]
      have e2 := Fd.mul_pow_l (c := 4611686018427387904) (j := 1) (x := a) (by rw [Fd.mg_two, Nat.pow_one]) (by decide) (by decide) (by omega)
      rw [sa, ra] at e2
      refine ⟨_, e2, fun c hc => ?_⟩
      have p := Fd.dbls_pos (k := 2) c1
      have hi := Fd.nearS_high c1 c5
      have n4 := Fd.nearS_dbl hi c5
      obtain ⟨nc, C, kc, cc⟩ := Fd.sq_key (x := Fd.wd false (Fd.dbls 2 (Fd.rg x))) (Fd.num_of (by omega)) (by rw [Fd.key_wd (by omega)]; show (0 : Int) ≤ ((Fd.dbls 2 (Fd.rg x) : Nat) : Int); omega) hc
      rcases cc with ⟨f1, f2⟩ | ⟨f1, f2⟩ | ⟨f1, f2, f3, f4, f5, ev2⟩
      · omega
      · omega
      · have eC : C = A + 4503599627370496 := by
          refine Fd.nearS_unique f5 ?_
          rw [ru, Fd.mg_dbls]
          have : 4 * (Fd.mg (Fd.rg x) * 2 ^ Fd.LL) = Fd.mg (Fd.rg x) * 2 ^ 2 * 2 ^ Fd.LL := by grind
          rw [← this]; exact n4
        have dA : Fd.dbls 1 A = A + 4503599627370496 := by rw [Fd.dbls_high (by omega)]
        rw [dA, ← eC, Nat.min_eq_left (by omega)]
        refine eq_in nc (Fd.nan_wd (by omega)) ?_
        rw [kc, Fd.key_wd (by omega)]; rfl
    · left
      unfold Fd.fin; rw [ru]; simp; omega
set_option maxHeartbeats 2000000 in
theorem law_FnSqrtRises (x y : Nat) (hx : W64 x) (hy : W64 y) (w : World) : Calls Try.prog 14 #[.float .f64 x, .float .f64 y] w (RB true w) := by
  go_enter Try.func14, Try.ntmps14
  go_wp2_with fail
  refine (iSqrt_c x hx _).mono ?_
  rintro e w' ⟨a, ha, hWa, rfl, n, rfl⟩
  have HA := Hd.mk ha
  clear ha
  go_wp2_with fail
  refine (iSqrt_c y hy _).mono ?_
  rintro e w' ⟨b, hb, hWb, rfl, n, rfl⟩
  have p1 := sq_tests HA.out hb
  have p2 := sq_tests hb HA.out
  have ps := sq_pos HA.out
  clear hb
  cases c : leF .f64 118622047889322841 x with
  | false =>
    clear HA
    rcases p1 with p1 | ⟨p1, p3⟩ | ⟨p1, p3, p4⟩ <;> rcases p2 with p2 | ⟨p2, p5⟩ | ⟨p2, p5, p6⟩
    all_goals
      go_wp2
      go_ret
      exact ⟨ret_bool (by simp), _, rfl⟩
  | true =>
    obtain ⟨t1, u, e1, hu, g⟩ := sq_more hx HA.out c
    have r1 : ∀ w, res .mul .f64 4616189618054758400 x w = u := fun w => res_some e1 w
    rw [t1] at ps
    clear HA e1
    rcases g with g | ⟨g, v, e2, H⟩
    · rcases p1 with p1 | ⟨p1, p3⟩ | ⟨p1, p3, p4⟩ <;> rcases p2 with p2 | ⟨p2, p5⟩ | ⟨p2, p5, p6⟩
      all_goals
        go_wp2_with (first | (go_at_call 19; refine (sIsFinite_c _ _).mono ?_; rintro e w' ⟨rfl, n, rfl⟩))
        go_ret
        exact ⟨ret_bool (by simp), _, rfl⟩
    · have r2 : ∀ w, res .mul .f64 4611686018427387904 a w = v := fun w => res_some e2 w
      have HC := Hd.mk H
      clear H e2
      rcases p1 with p1 | ⟨p1, p3⟩ | ⟨p1, p3, p4⟩ <;> rcases p2 with p2 | ⟨p2, p5⟩ | ⟨p2, p5, p6⟩
      all_goals
        go_wp2_with (first | (go_at_call 19; refine (sIsFinite_c _ _).mono ?_; rintro e w' ⟨rfl, n, rfl⟩))
        refine (iSqrt_c u hu _).mono ?_
        rintro e w' ⟨s, hs, hWs, rfl, n, rfl⟩
        have q := HC.out s hs
        clear hs
        go_wp2
        go_ret
        exact ⟨ret_bool (by simp), _, rfl⟩
end Go.Proofs.Ytmdenmldbmafgaa
