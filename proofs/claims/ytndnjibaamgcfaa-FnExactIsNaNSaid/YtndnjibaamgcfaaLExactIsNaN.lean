/- FnExactIsNaN: the call returns true; no condition but that the arguments are words. -/
import Derived.Test.YtndnjibaamgcfaaC
namespace Go.Proofs.Ytndnjibaamgcfaa
open Go.RowKit
set_option maxHeartbeats 400000 in
theorem law_FnExactIsNaN (x : Nat) (_hx : W64 x) (w : World) : Calls Try.prog 12 #[.float .f64 x] w (RB true w) := by
  go_enter Try.func12, Try.ntmps12
  go_wp2_with (first | (go_at_call 29; refine (sIsNaN_c _ _).mono ?_; rintro e w' ⟨rfl, n, rfl⟩) | (go_at_call 30; refine (iIsNaN_c _ _).mono ?_; rintro e w' ⟨rfl, n, rfl⟩))
  go_ret
  exact ⟨rfl, _, rfl⟩
end Go.Proofs.Ytndnjibaamgcfaa
