/- FnLdexpGreat: the call returns true; no condition but that the arguments are words. -/
import Derived.Test.YtmdenmldbmafgaaCQ
namespace Go.Proofs.Ytmdenmldbmafgaa
open Go.RowKit
theorem great_facts {x r : Nat} {k : Int} (h0 : 0 < Fd.rg x) (h1 : Fd.rg x < 9218868437227405312) (h : Fd.LD x k r) :
    (2098 < k → r = Fd.wd (Fd.sg x) 9218868437227405312) ∧ (k < -2099 → r = Fd.wd (Fd.sg x) 0) ∧ Fd.negV r = Fd.sg x ∧ (0 ≤ k → eqF .f64 r 0 = false) := by
  obtain ⟨R, lq, e⟩ := Fd.ld_fin h0 h1 h
  have sr : Fd.sg r = Fd.sg x := by rw [e, Fd.sg_wd (by omega)]
  have rr : Fd.rg r = min R 9218868437227405312 := by rw [e, Fd.rg_wd (by omega)]
  have nr : Fd.nan r = false := by rw [e]; exact Fd.nan_wd (by omega)
  refine ⟨fun c => ?_, fun c => ?_, by rw [Fd.negV_num nr, sr], fun c => ?_⟩
  · rw [e, Nat.min_eq_right (Fd.lq_huge h0 (by omega) lq)]
  · rw [e, Fd.lq_tiny h1 (by omega) lq]; rfl
  · obtain ⟨a, b, e1, n1⟩ := lq
    have le : Fd.rg x ≤ R := by
      refine Fd.mg_mono_min n1 (Nat.two_pow_pos b) _ ?_
      exact Nat.mul_le_mul_left _ (Nat.pow_le_pow_right (by omega) (by omega))
    rw [eq64, nr, show Fd.nan 0 = false by decide, show Fd.key 0 = 0 by decide]
    simp; unfold Fd.key; rw [rr]; split <;> omega
set_option maxHeartbeats 2000000 in
theorem law_FnLdexpGreat (x : Nat) (k : Int) (hx : W64 x) (_hk : I64 k) (w : World) : Calls Try.prog 4 #[.float .f64 x, .int .i64 k] w (RB true w) := by
  clear _hk
  have hI : W64 (Fd.infW 1) := W_inf 1
  have hZ : W64 0 := W_zero
  have nI : Fd.nan (Fd.infW 1) = false := by decide
  have nZ : Fd.nan 0 = false := by decide
  have gI : Fd.rg (Fd.infW 1) = 9218868437227405312 := by decide
  have gZ : Fd.rg 0 = 0 := by decide
  go_enter Try.func4, Try.ntmps4
  go_wp2_with fail
  refine (iLdexp_c x k hx _).mono ?_
  rintro e w' ⟨r, hr, hW, rfl, n, rfl⟩
  rcases kind4 x with ⟨h0, h1, q1, q2, q3, q4, q5⟩ | ⟨a, q1, q2, q3, q4, _⟩ | ⟨a, q1, q2, q3, q4, _⟩ | ⟨a, q1, q2, q3, q4, _⟩
  · have ngx : Fd.negV x = Fd.sg x := Fd.negV_num q3
    rcases (by omega : 4611686018427387904 < k ∨ (k ≤ 4611686018427387904 ∧ k < -4611686018427387904) ∨ (k ≤ 4611686018427387904 ∧ -4611686018427387904 ≤ k)) with c | ⟨c1, c2⟩ | ⟨c1, c2⟩
    · have t1 : decide ((4611686018427387904 : Int) < k) = true := by simpa using c
      clear c hr h0 h1 gI gZ nI nZ
      go_wp2_with (first | (go_at_call 19; refine (sIsFinite_c _ _).mono ?_; rintro e w' ⟨rfl, n, rfl⟩))
      go_ret
      exact ⟨rfl, _, rfl⟩
    · have t1 : decide ((4611686018427387904 : Int) < k) = false := by simp; omega
      have t2 : decide (k < -4611686018427387904) = true := by simpa using c2
      clear c1 c2 hr h0 h1 gI gZ nI nZ
      go_wp2_with (first | (go_at_call 19; refine (sIsFinite_c _ _).mono ?_; rintro e w' ⟨rfl, n, rfl⟩))
      go_ret
      exact ⟨rfl, _, rfl⟩
    · have t1 : decide ((4611686018427387904 : Int) < k) = false := by simp; omega
      have t2 : decide (k < -4611686018427387904) = false := by simp; omega
      obtain ⟨g1, g2, g3, g4⟩ := great_facts h0 h1 (hr (Or.inr ⟨c2, c1⟩))
      clear c1 c2 hr
      rcases (by omega : 2098 < k ∨ (k ≤ 2098 ∧ k < -2099) ∨ (k ≤ 2098 ∧ -2099 ≤ k)) with c | ⟨c1, c2⟩ | ⟨c1, c2⟩
      · have q : Fd.sameV r (if Fd.nan (Fd.infW 1) then Fd.infW 1 else Fd.sgnV (Fd.negV x) (Fd.rg (Fd.infW 1))) = true := by
          rw [g1 c, nI, if_neg (by decide), ngx, gI, Fd.wd_sgn (by omega)]; exact Fd.sameV_refl _
        have hv : W64 (if Fd.nan (Fd.infW 1) then Fd.infW 1 else Fd.sgnV (Fd.negV x) (Fd.rg (Fd.infW 1))) := by
          rw [nI, if_neg (by decide)]; exact W_sgn _ (W_rg _)
        obtain ⟨v, ev⟩ : ∃ v, v = (if Fd.nan (Fd.infW 1) then Fd.infW 1 else Fd.sgnV (Fd.negV x) (Fd.rg (Fd.infW 1))) := ⟨_, rfl⟩
        have EV := Hd.mk ev
        rw [← ev] at q hv
        clear g1 g2 g3 g4 ev nI nZ gI gZ h0 h1
        go_wp2_with (first | (go_at_call 19; refine (sIsFinite_c _ _).mono ?_; rintro e w' ⟨rfl, n, rfl⟩) | (go_at_call 21; refine (sInf_c _ _).mono ?_; rintro e w' ⟨rfl, n, rfl⟩))
        refine (sCopysign_c _ _ hI hx _).mono ?_
        rintro e w' ⟨rfl, n, rfl⟩
        rw [← EV.out]
        clear EV
        go_wp2_with (first | (go_at_call 16; refine (same_c _ _ hW hv _).mono ?_; rintro e w' ⟨rfl, n, rfl⟩))
        go_ret
        exact ⟨rfl, _, rfl⟩
      · have q : Fd.sameV r (if Fd.nan 0 then 0 else Fd.sgnV (Fd.negV x) (Fd.rg 0)) = true := by
          rw [g2 c2, nZ, if_neg (by decide), ngx, gZ, Fd.wd_sgn (by omega)]; exact Fd.sameV_refl _
        have hv : W64 (if Fd.nan 0 then 0 else Fd.sgnV (Fd.negV x) (Fd.rg 0)) := by
          rw [nZ, if_neg (by decide)]; exact W_sgn _ (W_rg _)
        obtain ⟨v, ev⟩ : ∃ v, v = (if Fd.nan 0 then 0 else Fd.sgnV (Fd.negV x) (Fd.rg 0)) := ⟨_, rfl⟩
        have EV := Hd.mk ev
        rw [← ev] at q hv
        clear g1 g2 g3 g4 ev nI nZ gI gZ h0 h1
        go_wp2_with (first | (go_at_call 19; refine (sIsFinite_c _ _).mono ?_; rintro e w' ⟨rfl, n, rfl⟩) | (go_at_call 21; refine (sInf_c _ _).mono ?_; rintro e w' ⟨rfl, n, rfl⟩))
        refine (sCopysign_c _ _ hZ hx _).mono ?_
        rintro e w' ⟨rfl, n, rfl⟩
        rw [← EV.out]
        clear EV
        go_wp2_with (first | (go_at_call 16; refine (same_c _ _ hW hv _).mono ?_; rintro e w' ⟨rfl, n, rfl⟩))
        go_ret
        exact ⟨rfl, _, rfl⟩
      · by_cases s : 0 ≤ k
        · have g5 := g4 s
          clear g1 g2 g4 nI nZ gI gZ h0 h1
          go_wp2_with (first | (go_at_call 19; refine (sIsFinite_c _ _).mono ?_; rintro e w' ⟨rfl, n, rfl⟩) | (go_at_call 22; refine (sSignbit_c _ (by assumption) _).mono ?_; rintro e w' ⟨rfl, n, rfl⟩))
          go_ret
          exact ⟨rfl, _, rfl⟩
        · clear g1 g2 g4 nI nZ gI gZ h0 h1
          go_wp2_with (first | (go_at_call 19; refine (sIsFinite_c _ _).mono ?_; rintro e w' ⟨rfl, n, rfl⟩) | (go_at_call 22; refine (sSignbit_c _ (by assumption) _).mono ?_; rintro e w' ⟨rfl, n, rfl⟩))
          go_ret
          exact ⟨rfl, _, rfl⟩
  all_goals
    have e : r = x := by
      rcases hr (Or.inl (by omega)) with ⟨a', b', _⟩ | ⟨_, e⟩
      · omega
      · exact e
    subst e
    have q := Fd.sameV_refl r
    clear hr a gI gZ nI nZ
    go_wp2_with (first | (go_at_call 19; refine (sIsFinite_c _ _).mono ?_; rintro e w' ⟨rfl, n, rfl⟩) | (go_at_call 16; refine (same_c _ _ hx hx _).mono ?_; rintro e w' ⟨rfl, n, rfl⟩))
    go_ret
    exact ⟨rfl, _, rfl⟩
end Go.Proofs.Ytmdenmldbmafgaa
