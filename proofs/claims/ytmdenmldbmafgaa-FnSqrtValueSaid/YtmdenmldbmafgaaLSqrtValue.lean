/- FnSqrtValue: the call returns true; no condition but that the arguments are words. -/
import Derived.Test.YtmdenmldbmafgaaCS
namespace Go.Proofs.Ytmdenmldbmafgaa
open Go.RowKit
set_option maxHeartbeats 1000000 in
theorem law_FnSqrtValue (x : Nat) (hx : W64 x) (w : World) : Calls Try.prog 12 #[.float .f64 x] w (RB true w) := by
  go_enter Try.func12, Try.ntmps12
  go_wp2_with fail
  refine (iSqrt_c x hx _).mono ?_
  rintro e w' ⟨r, hr, hW, rfl, n, rfl⟩
  rcases hr with ⟨e, h⟩ | ⟨h1, h⟩ | ⟨hs, h0, h1, R, R0, RI, nr, ev⟩
  · subst e
    have q := Fd.sameV_refl r
    have q1 : eqF .f64 r r = true := num_eq (Fd.num_of (by omega))
    have q2 : ltF .f64 r 0 = false := by
      rw [lt_not]; rw [key0]; unfold Fd.key
      rcases h with h | h
      · rw [h]; cases Fd.sg r <;> simp
      · rw [h.2]; simp
    rcases h with h | h
    · have q3 : eqF .f64 r 0 = true := eq_in (Fd.num_of (by omega)) nan0 (by rw [key0]; unfold Fd.key; rw [h]; cases Fd.sg r <;> simp)
      clear h
      go_wp2_with (first | (go_at_call 19; refine (sIsFinite_c _ _).mono ?_; rintro e w' ⟨rfl, n, rfl⟩) | (go_at_call 16; refine (same_c _ _ hW hW _).mono ?_; rintro e w' ⟨rfl, n, rfl⟩))
      go_ret
      exact ⟨rfl, _, rfl⟩
    · have q3 : eqF .f64 r 0 = false := eq_not (by rw [key0]; unfold Fd.key; rw [h.1, h.2]; simp)
      have q4 : Fd.fin r = false := by unfold Fd.fin; simp; omega
      clear h
      go_wp2_with (first | (go_at_call 19; refine (sIsFinite_c _ _).mono ?_; rintro e w' ⟨rfl, n, rfl⟩) | (go_at_call 16; refine (same_c _ _ hW hW _).mono ?_; rintro e w' ⟨rfl, n, rfl⟩))
      go_ret
      exact ⟨rfl, _, rfl⟩
  · have q1 : eqF .f64 r r = false := nan_eq h1
    cases hn : Fd.nan x with
    | true =>
      have q2 : eqF .f64 x x = false := nan_eq hn
      clear h h1 hn
      go_wp2
      go_ret
      exact ⟨rfl, _, rfl⟩
    | false =>
      have q2 : eqF .f64 x x = true := num_eq hn
      have q3 : ltF .f64 x 0 = true := by
        rcases h with h | h
        · rw [hn] at h; cases h
        · refine lt_in hn nan0 ?_
          rw [key0]; unfold Fd.key; rw [h.2]; simp; omega
      clear h h1 hn
      go_wp2
      go_ret
      exact ⟨rfl, _, rfl⟩
  · have kx : Fd.key x = Fd.rg x := by unfold Fd.key; rw [hs]; simp
    have q1 : eqF .f64 x x = true := num_eq (Fd.num_of (by omega))
    have q2 : ltF .f64 x 0 = false := lt_not (by rw [key0]; omega)
    have q3 : eqF .f64 x 0 = false := eq_not (by rw [key0]; omega)
    have q4 : Fd.fin x = true := by unfold Fd.fin; simp; omega
    have rr : Fd.rg r = R := by rw [ev, Fd.rg_wd (by omega)]
    have q5 : ltF .f64 0 r = true := lt_in nan0 (Fd.num_of (by omega)) (by rw [key0, ev, Fd.key_wd (by omega)]; show (0 : Int) < (R : Int); omega)
    have q6 : Fd.fin r = true := by unfold Fd.fin; simp; omega
    clear hs h0 h1 R0 RI nr ev kx rr
    go_wp2_with (first | (go_at_call 19; refine (sIsFinite_c _ _).mono ?_; rintro e w' ⟨rfl, n, rfl⟩) | (go_at_call 16; refine (same_c _ _ hW hW _).mono ?_; rintro e w' ⟨rfl, n, rfl⟩))
    go_ret
    exact ⟨rfl, _, rfl⟩
end Go.Proofs.Ytmdenmldbmafgaa
