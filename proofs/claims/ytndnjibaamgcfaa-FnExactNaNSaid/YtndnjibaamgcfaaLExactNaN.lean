/- FnExactNaN: the call returns true; no condition but that the arguments are words. -/
import Derived.Test.YtndnjibaamgcfaaC
namespace Go.Proofs.Ytndnjibaamgcfaa
open Go.RowKit
set_option maxHeartbeats 400000 in
theorem law_FnExactNaN (w : World) : Calls Try.prog 4 #[] w (RB true w) := by
  go_enter Try.func4, Try.ntmps4
  go_wp2_with fail
  refine (sNaN_c _).mono ?_
  rintro e w' ⟨r, hr, hW, rfl, n, rfl⟩
  have q : Fd.sameV 9221120237041090561 r = true := Fd.sameV_nan (by decide) hr
  go_wp2_with (first | (go_at_call 18; refine (iNaN_c _).mono ?_; rintro e w' ⟨rfl, n, rfl⟩) | (go_at_call 19; refine (sameFloat_c _ _ (by unfold W64; decide) hW _).mono ?_; rintro e w' ⟨rfl, n, rfl⟩))
  go_ret
  exact ⟨rfl, _, rfl⟩
end Go.Proofs.Ytndnjibaamgcfaa
