/- FnExactLogb: the call returns true; no condition but that the arguments are words. -/
import Derived.Test.YtkiieekpbcnfkaaCM
namespace Go.Proofs.Ytkiieekpbcnfkaa
open Go.RowKit
set_option maxHeartbeats 400000 in
theorem law_FnExactLogb (x : Nat) (hx : W64 x) (w : World) : Calls Try.prog 12 #[.float .f64 x] w (RB true w) := by
  go_enter Try.func12, Try.ntmps12
  go_wp2_with fail
  refine (sLogb_c _ hx _).mono ?_
  rintro e w' ⟨r, hr, hW, rfl, n, rfl⟩
  have HI := Hd.mk hr
  clear hr
  go_wp2_with fail
  refine (iLogb_c _ hx _).mono ?_
  rintro e w' ⟨s, hs, hWs, rfl, n, rfl⟩
  obtain rfl := jq_unique HI.out hs
  clear hs
  have q := Fd.sameV_refl r
  go_wp2_with (first | (go_at_call 21; refine (sameFloat_c _ _ hW hW _).mono ?_; rintro e w' ⟨rfl, n, rfl⟩))
  go_ret
  exact ⟨rfl, _, rfl⟩
end Go.Proofs.Ytkiieekpbcnfkaa
