/- FnBitsBack: the call returns true; no condition but that the argument is a word. -/
import Derived.Test.YtndnjibaamgcfaaC
namespace Go.Proofs.Ytndnjibaamgcfaa
open Go.RowKit
set_option maxHeartbeats 400000 in
theorem law_FnBitsBack (b : Nat) (_hb : W64 b) (w : World) : Calls Try.prog 8 #[.int .u64 (b : Int)] w (RB true w) := by
  go_enter Try.func8, Try.ntmps8
  go_wp2
  go_ret
  exact ⟨by simp, 0, rfl⟩
end Go.Proofs.Ytndnjibaamgcfaa
