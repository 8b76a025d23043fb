/- FnExactFloat32frombits: the call returns true; no condition but that the arguments are words. -/
import Derived.Test.YtkiieekpbcnfkaaC7
namespace Go.Proofs.Ytkiieekpbcnfkaa
open Go.RowKit
set_option maxHeartbeats 400000 in
theorem law_FnExactFloat32frombits (b : Nat) (hb : W32 b) (w : World) : Calls Try.prog 5 #[.int .u32 (b : Int)] w (RB true w) := by
  go_enter Try.func5, Try.ntmps5
  go_wp2_with fail
  refine (sF32_c _ hb _).mono ?_
  rintro e w' ⟨r, hr, hW, rfl, n, rfl⟩
  have q : ∀ w1 w2, Fd.sameV (wideR b w1) (wideR r w2) = true := fun w1 w2 => by rw [same_wide hb hW, hr]
  clear hr
  go_wp2_with (first | (go_at_call 20; refine (iF32_c _ _).mono ?_; rintro e w' ⟨rfl, n, rfl⟩) | (go_at_call 21; refine (sameFloat_c _ _ (W_wideR _ _) (W_wideR _ _) _).mono ?_; rintro e w' ⟨rfl, n, rfl⟩))
  go_ret
  exact ⟨rfl, _, rfl⟩
end Go.Proofs.Ytkiieekpbcnfkaa
