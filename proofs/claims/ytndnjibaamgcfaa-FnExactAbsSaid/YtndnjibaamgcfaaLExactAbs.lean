/- FnExactAbs: the call returns true; no condition but that the arguments are words. -/
import Derived.Test.YtndnjibaamgcfaaC
namespace Go.Proofs.Ytndnjibaamgcfaa
open Go.RowKit
theorem abs_same (x : Nat) : Fd.sameV (Fd.rg x) (Fd.sizeV x) = true := by
  cases na : Fd.nan x
  · rw [Fd.sizeV_num na]; exact Fd.sameV_refl _
  · refine Fd.sameV_nan (by rw [Fd.nan_rg, na]) ?_
    unfold Fd.sizeV; rw [na]; exact na
set_option maxHeartbeats 400000 in
theorem law_FnExactAbs (x : Nat) (hx : W64 x) (w : World) : Calls Try.prog 10 #[.float .f64 x] w (RB true w) := by
  have q := abs_same x
  go_enter Try.func10, Try.ntmps10
  go_wp2_with (first | (go_at_call 28; refine (sAbs_c _ hx _).mono ?_; rintro e w' ⟨rfl, n, rfl⟩) | (go_at_call 21; refine (iAbs_c _ hx _).mono ?_; rintro e w' ⟨rfl, n, rfl⟩) | (go_at_call 19; refine (sameFloat_c _ _ (W_rg _) (W_size hx) _).mono ?_; rintro e w' ⟨rfl, n, rfl⟩))
  go_ret
  exact ⟨rfl, _, rfl⟩
end Go.Proofs.Ytndnjibaamgcfaa
