/- FnExactIsInf: the call returns true; no condition but that the arguments are words. -/
import Derived.Test.YtjijlkegndkjbaaC2
namespace Go.Proofs.Ytjijlkegndkjbaa
open Go.RowKit
set_option maxHeartbeats 400000 in
theorem law_FnExactIsInf (f : Nat) (s : Int) (hf : W64 f) (_hs : I64 s) (w : World) : Calls Try.prog 10 #[.float .f64 f, .int .i64 s] w (RB true w) := by
  go_enter Try.func10, Try.ntmps10
  go_wp2_with (first | (go_at_call 27; refine (sIsInf_c _ _ hf _).mono ?_; rintro e w' ⟨rfl, n, rfl⟩) | (go_at_call 28; refine (iIsInf_c _ _ hf _).mono ?_; rintro e w' ⟨rfl, n, rfl⟩))
  go_ret
  exact ⟨rfl, _, rfl⟩
end Go.Proofs.Ytjijlkegndkjbaa
