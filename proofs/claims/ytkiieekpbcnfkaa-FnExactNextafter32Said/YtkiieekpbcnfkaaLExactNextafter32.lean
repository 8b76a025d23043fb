/- FnExactNextafter32: the call returns true; no condition but that the arguments are words. -/
import Derived.Test.YtkiieekpbcnfkaaCB
namespace Go.Proofs.Ytkiieekpbcnfkaa
open Go.RowKit
theorem next_same {x y a b : Nat} (ha : Fs.nextQ x y a) (hb : Fs.nextQ x y b) : Fs.sameV a b = true := by
  unfold Fs.nextQ at ha hb
  split at ha
  · rename_i c; rw [if_pos c] at hb; exact Fs.sameV_nan ha hb
  · rename_i c; rw [if_neg c] at hb; rw [ha, hb]; exact Fs.sameV_refl _
set_option maxHeartbeats 400000 in
theorem law_FnExactNextafter32 (x y : Nat) (hx : W32 x) (hy : W32 y) (w : World) : Calls Try.prog 8 #[.float .f32 x, .float .f32 y] w (RB true w) := by
  go_enter Try.func8, Try.ntmps8
  go_wp2_with fail
  refine (sNext32_c _ _ hx hy _).mono ?_
  rintro e w' ⟨r, hr, hW, rfl, n, rfl⟩
  have HR := Hd.mk hr
  clear hr
  go_wp2_with fail
  refine (iNext32_c _ _ hx hy _).mono ?_
  rintro e w' ⟨s, hs, hWs, rfl, n, rfl⟩
  have q : ∀ w1 w2, Fd.sameV (wideR s w1) (wideR r w2) = true := fun w1 w2 => by rw [same_wide hWs hW]; exact next_same hs HR.out
  clear hs
  go_wp2_with (first | (go_at_call 21; refine (sameFloat_c _ _ (W_wideR _ _) (W_wideR _ _) _).mono ?_; rintro e w' ⟨rfl, n, rfl⟩))
  go_ret
  exact ⟨rfl, _, rfl⟩
end Go.Proofs.Ytkiieekpbcnfkaa
