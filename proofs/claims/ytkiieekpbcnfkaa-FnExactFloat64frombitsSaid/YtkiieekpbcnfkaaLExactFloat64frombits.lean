/- FnExactFloat64frombits: the call returns true; no condition but that the arguments are words. -/
import Derived.Test.YtkiieekpbcnfkaaC7
namespace Go.Proofs.Ytkiieekpbcnfkaa
open Go.RowKit
set_option maxHeartbeats 400000 in
theorem law_FnExactFloat64frombits (b : Nat) (hb : W64 b) (w : World) : Calls Try.prog 6 #[.int .u64 (b : Int)] w (RB true w) := by
  go_enter Try.func6, Try.ntmps6
  go_wp2_with fail
  refine (sF64_c _ hb _).mono ?_
  rintro e w' ⟨r, hr, hW, rfl, n, rfl⟩
  go_wp2_with (first | (go_at_call 23; refine (iF64_c _ _).mono ?_; rintro e w' ⟨rfl, n, rfl⟩) | (go_at_call 21; refine (sameFloat_c _ _ hb hW _).mono ?_; rintro e w' ⟨rfl, n, rfl⟩))
  go_ret
  exact ⟨rfl, _, rfl⟩
end Go.Proofs.Ytkiieekpbcnfkaa
