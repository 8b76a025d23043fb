/- FnLogbValue: the call returns true; no condition but that the arguments are words. -/
import Derived.Test.YtmdenmldbmafgaaCM
namespace Go.Proofs.Ytmdenmldbmafgaa
open Go.RowKit
theorem i2f_num (n : Int) : Fd.nan (i2f n) = false := by
  unfold i2f FloatKind.nearest FloatKind.encode
  obtain ⟨r, h, e⟩ := Fd.nearest_form (decide (n < 0)) n.natAbs 0
  show Fd.nan (Ieee.double.nearest (decide (n < 0)) n.natAbs 0) = false
  rw [e]; exact Fd.nan_wd h
set_option maxHeartbeats 1000000 in
theorem law_FnLogbValue (x : Nat) (hx : W64 x) (w : World) : Calls Try.prog 8 #[.float .f64 x] w (RB true w) := by
  rcases kind4 x with ⟨h0, h1, q1, q2, q3, q4, q5⟩ | ⟨a, q1, q2, q3, q4, _⟩ | ⟨a, q1, q2, q3, q4, _⟩ | ⟨a, q1, q2, q3, q4, _⟩
  · have H0 := Hd.mk h0
    have H1 := Hd.mk h1
    clear h0 h1
    go_enter Try.func8, Try.ntmps8
    go_wp2_with (first | (go_at_call 19; refine (sIsFinite_c _ _).mono ?_; rintro e w' ⟨rfl, n, rfl⟩))
    refine (iFrexp_c _ hx H0.out H1.out _).mono ?_
    rintro e w' ⟨m, k, pq, rfl, n, rfl⟩
    obtain ⟨k1, k2⟩ := Fd.pq_bound H0.out H1.out pq
    have PQ := Hd.mk pq
    have IU : Hd (∀ i, IQ x i → i = k + 52) := ⟨fun i hi => iq_unique hi (Or.inr (Or.inr ⟨H0.out, H1.out, m, k, PQ.out, rfl⟩))⟩
    have JU : Hd (∀ r, JQ x r → r = i2f (k + 52)) := ⟨fun r hr => jq_unique hr (Or.inr (Or.inr (Or.inr ⟨H0.out, H1.out, m, k, PQ.out, rfl⟩)))⟩
    have t1 : eqF .f64 (i2f (k + 52)) (i2f (k + 52)) = true := num_eq (i2f_num _)
    clear pq PQ H0 H1
    go_wp2_with fail
    refine (iLogb_c x hx _).mono ?_
    rintro e w' ⟨r, hr, hW, rfl, n, rfl⟩
    have er := JU.out r hr
    subst er
    clear hr JU
    go_wp2_with fail
    refine (iIlogb_c x hx _).mono ?_
    rintro e w' ⟨i, hi, rfl, n, rfl⟩
    have ei := IU.out i hi
    subst ei
    clear hi
    go_wp2_with fail
    refine (iIlogb_c x hx _).mono ?_
    rintro e w' ⟨i, hi, rfl, n, rfl⟩
    have ei := IU.out i hi
    subst ei
    clear hi IU
    have t2 : (k + 52 == k + 53 - 1) = true := by simp; omega
    go_wp2
    go_ret
    exact ⟨rfl, _, rfl⟩
  all_goals
    clear a
    go_enter Try.func8, Try.ntmps8
    go_wp2_with (first | (go_at_call 19; refine (sIsFinite_c _ _).mono ?_; rintro e w' ⟨rfl, n, rfl⟩))
    refine (iLogb_c x hx _).mono ?_
    rintro e w' ⟨r, hr, hW, rfl, n, rfl⟩
    have HR := Hd.mk hr
    clear hr
    go_wp2_with fail
    refine (sLogb_c x hx _).mono ?_
    rintro e w' ⟨s, hs, hWs, rfl, n, rfl⟩
    obtain rfl := jq_unique HR.out hs
    clear hs HR
    have q := Fd.sameV_refl r
    go_wp2_with (first | (go_at_call 16; refine (same_c _ _ hW hW _).mono ?_; rintro e w' ⟨rfl, n, rfl⟩))
    refine (iIlogb_c x hx _).mono ?_
    rintro e w' ⟨i, hi, rfl, n, rfl⟩
    have HI := Hd.mk hi
    clear hi
    go_wp2_with fail
    refine (sIlogb_c x hx _).mono ?_
    rintro e w' ⟨j, hj, rfl, n, rfl⟩
    obtain rfl := iq_unique HI.out hj
    clear hj HI
    go_wp2
    go_ret
    exact ⟨ret_bool (by simp), _, rfl⟩
end Go.Proofs.Ytmdenmldbmafgaa
