/- FnExactDim: the call returns true; no condition but that the arguments are words. -/
import Derived.Test.YtjijlkegndkjbaaC2
namespace Go.Proofs.Ytjijlkegndkjbaa
open Go.RowKit
theorem dim_same {x y a b : Nat} (ha : dimQ x y a) (hb : dimQ x y b) : Fd.sameV a b = true := by
  unfold dimQ at ha hb
  cases h : arith .sub .f64 x y with
  | none => rw [h] at ha hb; exact Fd.sameV_nan ha hb
  | some v => rw [h] at ha hb; simp only at ha hb; rw [ha, hb]; exact Fd.sameV_refl _
set_option maxHeartbeats 400000 in
theorem law_FnExactDim (x y : Nat) (_hx : W64 x) (_hy : W64 y) (w : World) : Calls Try.prog 8 #[.float .f64 x, .float .f64 y] w (RB true w) := by
  go_enter Try.func8, Try.ntmps8
  go_wp2_with fail
  refine (sDim_c _ _ _).mono ?_
  rintro e w' ⟨r1, h1, hW1, rfl, n, rfl⟩
  go_wp2_with fail
  refine (iDim_c _ _ _).mono ?_
  rintro e w' ⟨r2, h2, hW2, rfl, n, rfl⟩
  have q := dim_same h2 h1
  clear h1 h2
  go_wp2_with (first | (go_at_call 25; refine (sameFloat_c _ _ hW2 hW1 _).mono ?_; rintro e w' ⟨rfl, n, rfl⟩))
  go_ret
  exact ⟨rfl, _, rfl⟩
end Go.Proofs.Ytjijlkegndkjbaa
