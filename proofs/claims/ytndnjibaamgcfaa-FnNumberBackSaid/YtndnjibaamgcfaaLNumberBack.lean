/- FnNumberBack: the call returns true; no condition but that the arguments are words. -/
import Derived.Test.YtndnjibaamgcfaaC
namespace Go.Proofs.Ytndnjibaamgcfaa
open Go.RowKit
set_option maxHeartbeats 400000 in
theorem law_FnNumberBack (x : Nat) (hx : W64 x) (w : World) : Calls Try.prog 11 #[.float .f64 x] w (RB true w) := by
  have q : Fd.sameV x x = true := Fd.sameV_refl _
  go_enter Try.func11, Try.ntmps11
  go_wp2_with (first | (go_at_call 16; refine (iB64_c _ _).mono ?_; rintro e w' ⟨rfl, n, rfl⟩) | (go_at_call 25; refine (iF64_c _ _).mono ?_; rintro e w' ⟨rfl, n, rfl⟩) | (go_at_call 22; refine (same_c _ _ hx hx _).mono ?_; rintro e w' ⟨rfl, n, rfl⟩))
  go_ret
  exact ⟨rfl, _, rfl⟩
end Go.Proofs.Ytndnjibaamgcfaa
