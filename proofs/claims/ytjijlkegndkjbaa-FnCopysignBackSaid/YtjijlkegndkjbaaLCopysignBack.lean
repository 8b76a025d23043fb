/- FnCopysignBack: the call returns true; no condition but that the arguments are words. -/
import Derived.Test.YtjijlkegndkjbaaC
namespace Go.Proofs.Ytjijlkegndkjbaa
open Go.RowKit
set_option maxHeartbeats 1000000 in
theorem law_FnCopysignBack (x y : Nat) (hx : W64 x) (hy : W64 y) (w : World) : Calls Try.prog 4 #[.float .f64 x, .float .f64 y] w (RB true w) := by
  cases nx : Fd.nan x
  · have f1 := num_eq nx
    have q1 : Fd.cps (Fd.rg x) x = x := by unfold Fd.cps Fd.rg; omega
    have q2 : Fd.rg (Fd.cps x y) = Fd.rg x := Fd.rg_cps
    have q3 : Fd.sameV x x = true := Fd.sameV_refl _
    have q4 : Fd.sameV (Fd.rg x) (Fd.rg x) = true := Fd.sameV_refl _
    have k0 : Fd.key 0 = 0 := by decide
    have n0 : Fd.nan 0 = false := by decide
    have q5 : eqF .f64 (Fd.rg x) 0 = eqF .f64 x 0 := by
      rw [eq64, eq64, Fd.nan_rg, Fd.key_rg, nx, n0, k0, Bool.eq_iff_iff]; simp; unfold Fd.key; split <;> omega
    clear nx k0 n0
    cases q6 : eqF .f64 x 0
    all_goals
      go_enter Try.func4, Try.ntmps4
      go_wp2_with (first | (go_at_call 16; refine (iAbs_c _ (by first | assumption | exact W_cps hy) _).mono ?_; rintro e w' ⟨rfl, n, rfl⟩) | (go_at_call 19; refine (iCopysign_c _ _ (by first | assumption | exact W_rg _) (by assumption) _).mono ?_; rintro e w' ⟨rfl, n, rfl⟩) | (go_at_call 18; refine (same_c _ _ (by first | assumption | exact W_rg _) (by first | assumption | exact W_rg _) _).mono ?_; rintro e w' ⟨rfl, n, rfl⟩))
      go_ret
      exact ⟨rfl, _, rfl⟩
  · have f1 := nan_eq nx
    clear nx
    go_enter Try.func4, Try.ntmps4
    go_wp2
    go_ret
    exact ⟨rfl, 0, rfl⟩
end Go.Proofs.Ytjijlkegndkjbaa
