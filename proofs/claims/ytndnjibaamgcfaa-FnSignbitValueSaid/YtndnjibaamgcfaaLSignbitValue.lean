/- FnSignbitValue: the call returns true; no condition but that the arguments are words. -/
import Derived.Test.YtndnjibaamgcfaaC
namespace Go.Proofs.Ytndnjibaamgcfaa
open Go.RowKit
set_option maxHeartbeats 400000 in
theorem law_FnSignbitValue (x : Nat) (hx : W64 x) (w : World) : Calls Try.prog 5 #[.float .f64 x] w (RB true w) := by
  cases na : Fd.nan x
  · have f1 := num_eq na
    have q1 : Fd.negV x = Fd.sg x := Fd.negV_num na
    have q2 : Op.negFloat .f64 x = Fd.ng x := negF_W hx
    have q3 : Fd.sg (Fd.ng x) = !Fd.sg x := Fd.sg_ng hx
    clear na
    go_enter Try.func5, Try.ntmps5
    go_wp2_with (first | (go_at_call 15; refine (sSignbit_c _ hx _).mono ?_; rintro e w' ⟨rfl, n, rfl⟩) | (go_at_call 20; refine (iSignbit_c _ _).mono ?_; rintro e w' ⟨rfl, n, rfl⟩))
    go_ret
    exact ⟨ret_bool (by simp), _, rfl⟩
  · have f1 := nan_eq na
    clear na hx
    go_enter Try.func5, Try.ntmps5
    go_wp2
    go_ret
    exact ⟨rfl, 0, rfl⟩
end Go.Proofs.Ytndnjibaamgcfaa
