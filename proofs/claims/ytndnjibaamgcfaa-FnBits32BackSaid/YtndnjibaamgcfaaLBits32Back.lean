/- FnBits32Back: the call returns true; no condition but that the arguments are words. -/
import Derived.Test.YtndnjibaamgcfaaC
namespace Go.Proofs.Ytndnjibaamgcfaa
open Go.RowKit
set_option maxHeartbeats 400000 in
theorem law_FnBits32Back (b : Nat) (_hb : W32 b) (w : World) : Calls Try.prog 7 #[.int .u32 (b : Int)] w (RB true w) := by
  go_enter Try.func7, Try.ntmps7
  go_wp2
  go_ret
  exact ⟨by simp, 0, rfl⟩
end Go.Proofs.Ytndnjibaamgcfaa
