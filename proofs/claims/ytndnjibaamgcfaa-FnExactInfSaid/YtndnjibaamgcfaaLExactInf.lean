/- FnExactInf: the call returns true; no condition but that the arguments are words. -/
import Derived.Test.YtndnjibaamgcfaaC
namespace Go.Proofs.Ytndnjibaamgcfaa
open Go.RowKit
set_option maxHeartbeats 400000 in
theorem law_FnExactInf (s : Int) (_hs : I64 s) (w : World) : Calls Try.prog 14 #[.int .i64 s] w (RB true w) := by
  have q : Fd.sameV (Fd.infW s) (Fd.infW s) = true := Fd.sameV_refl _
  go_enter Try.func14, Try.ntmps14
  go_wp2_with (first | (go_at_call 31; refine (sInf_c _ _).mono ?_; rintro e w' ⟨rfl, n, rfl⟩) | (go_at_call 32; refine (iInf_c _ _).mono ?_; rintro e w' ⟨rfl, n, rfl⟩) | (go_at_call 19; refine (sameFloat_c _ _ (W_inf _) (W_inf _) _).mono ?_; rintro e w' ⟨rfl, n, rfl⟩))
  go_ret
  exact ⟨rfl, _, rfl⟩
end Go.Proofs.Ytndnjibaamgcfaa
