/- FnExactIlogb: the call returns true; no condition but that the arguments are words. -/
import Derived.Test.YtkiieekpbcnfkaaCM
namespace Go.Proofs.Ytkiieekpbcnfkaa
open Go.RowKit
set_option maxHeartbeats 400000 in
theorem law_FnExactIlogb (x : Nat) (hx : W64 x) (w : World) : Calls Try.prog 11 #[.float .f64 x] w (RB true w) := by
  go_enter Try.func11, Try.ntmps11
  go_wp2_with fail
  refine (sIlogb_c _ hx _).mono ?_
  rintro e w' ⟨i, hi, rfl, n, rfl⟩
  have HI := Hd.mk hi
  clear hi
  go_wp2_with fail
  refine (iIlogb_c _ hx _).mono ?_
  rintro e w' ⟨j, hj, rfl, n, rfl⟩
  obtain rfl := iq_unique HI.out hj
  clear hj
  go_wp2
  go_ret
  exact ⟨rfl, _, rfl⟩
end Go.Proofs.Ytkiieekpbcnfkaa
