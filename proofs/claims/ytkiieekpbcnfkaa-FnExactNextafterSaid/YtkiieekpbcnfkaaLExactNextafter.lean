/- FnExactNextafter: the call returns true; no condition but that the arguments are words. -/
import Derived.Test.YtkiieekpbcnfkaaCA
namespace Go.Proofs.Ytkiieekpbcnfkaa
open Go.RowKit
theorem next_same {x y a b : Nat} (ha : Fd.nextQ x y a) (hb : Fd.nextQ x y b) : Fd.sameV a b = true := by
  unfold Fd.nextQ at ha hb
  split at ha
  · rename_i c; rw [if_pos c] at hb; exact Fd.sameV_nan ha hb
  · rename_i c; rw [if_neg c] at hb; rw [ha, hb]; exact Fd.sameV_refl _
set_option maxHeartbeats 400000 in
theorem law_FnExactNextafter (x y : Nat) (hx : W64 x) (hy : W64 y) (w : World) : Calls Try.prog 7 #[.float .f64 x, .float .f64 y] w (RB true w) := by
  go_enter Try.func7, Try.ntmps7
  go_wp2_with fail
  refine (sNext_c _ _ hx hy _).mono ?_
  rintro e w' ⟨r, hr, hW, rfl, n, rfl⟩
  have HR := Hd.mk hr
  clear hr
  go_wp2_with fail
  refine (iNext_c _ _ hx hy _).mono ?_
  rintro e w' ⟨s, hs, hWs, rfl, n, rfl⟩
  have q := next_same hs HR.out
  clear hs
  go_wp2_with (first | (go_at_call 21; refine (sameFloat_c _ _ hWs hW _).mono ?_; rintro e w' ⟨rfl, n, rfl⟩))
  go_ret
  exact ⟨rfl, _, rfl⟩
end Go.Proofs.Ytkiieekpbcnfkaa
