/- FnExactMin: the call returns true; no condition but that the arguments are words. -/
import Derived.Test.YtnamdanomijdbaaC5
namespace Go.Proofs.Ytnamdanomijdbaa
open Go.RowKit
set_option maxHeartbeats 400000 in
theorem law_FnExactMin (x y : Nat) (hx : W64 x) (hy : W64 y) (w : World) : Calls Try.prog 4 #[.float .f64 x, .float .f64 y] w (RB true w) := by
  have hm : W64 (Fd.minV x y) := Fd.minV_W hx hy
  go_enter Try.func4, Try.ntmps4
  go_wp2_with fail
  refine (sMin_c _ _ hx hy _).mono ?_
  rintro e w' ⟨r, hr, hW, rfl, n, rfl⟩
  go_wp2_with (first | (go_at_call 19; refine (iMin_c _ _ hx hy _).mono ?_; rintro e w' ⟨rfl, n, rfl⟩) | (go_at_call 17; refine (sameFloat_c _ _ hm hW _).mono ?_; rintro e w' ⟨rfl, n, rfl⟩))
  go_ret
  exact ⟨rfl, _, rfl⟩
end Go.Proofs.Ytnamdanomijdbaa
