/- FnExactFMA: the call returns true; no condition but that the arguments are words. -/
import Derived.Test.YtjfoiicooleeiaaYJ
namespace Go.Proofs.Ytjfoiicooleeiaa
open Go.RowKit
/-- a call gives a bool; what was there before is as it was -/
def RBB (b : Bool) (w : World) (e : Ending) (w' : World) : Prop := e = .returned (.bool b) ∧ Below w.heap.size w w'
set_option maxHeartbeats 400000 in
theorem law_FnExactFMA (x y z : Nat) (hx : W64 x) (hy : W64 y) (hz : W64 z) (w : World) : Calls Try.prog 9 #[.float .f64 x, .float .f64 y, .float .f64 z] w (RBB true w) := by
  go_enter Try.func9, Try.ntmps9
  go_wp2_with fail
  refine (sFMA_c x y z hx hy hz _).mono ?_
  rintro e w1 ⟨r, hr, hW, rfl, B1⟩
  have HR := Hd.mk hr
  have HB := Hd.mk B1
  clear hr B1
  go_wp2_with fail
  refine (iFMA_c x y z _).mono ?_
  rintro e w' ⟨s, hs, hWs, rfl, n, rfl⟩
  have q := fq_fq HR.out hs rfl
  clear hs HR
  go_wp2_with (first | (go_at_call 14; refine (sameFloat_c _ _ hWs hW _).mono ?_; rintro e w' ⟨rfl, n, rfl⟩))
  go_ret
  exact ⟨rfl, below_drewN HB.out _⟩
end Go.Proofs.Ytjfoiicooleeiaa
