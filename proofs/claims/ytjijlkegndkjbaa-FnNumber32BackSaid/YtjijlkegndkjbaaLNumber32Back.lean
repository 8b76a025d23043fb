/- FnNumber32Back: the call returns true; no condition but that the arguments are words. -/
import Derived.Test.YtjijlkegndkjbaaC3
namespace Go.Proofs.Ytjijlkegndkjbaa
open Go.RowKit
theorem back_same {x : Nat} (hx : W32 x) (w1 w2 : World) : Fs.sameV (narR (wideR x w1) w2) x = true := by
  cases n : Fs.nan x
  · rw [wideR_num n, narR_some (narO_wide hx n)]; exact Fs.sameV_refl _
  · exact Fs.sameV_nan (narR_nan (by rw [nan_wideR, n]) w2) n
set_option maxHeartbeats 400000 in
theorem law_FnNumber32Back (x : Nat) (hx : W32 x) (w : World) : Calls Try.prog 6 #[.float .f32 x] w (RB true w) := by
  have q1 : Fs.sameV x x = true := Fs.sameV_refl _
  have q2 : ∀ w1 w2, Fs.sameV (narR (wideR x w1) w2) x = true := back_same hx
  go_enter Try.func6, Try.ntmps6
  go_wp2_with (first | (go_at_call 15; refine (iB64_c _ _).mono ?_; rintro e w' ⟨rfl, n, rfl⟩) | (go_at_call 17; refine (iF64_c _ _).mono ?_; rintro e w' ⟨rfl, n, rfl⟩) | (go_at_call 22; refine (iB32_c _ _).mono ?_; rintro e w' ⟨rfl, n, rfl⟩) | (go_at_call 21; refine (iF32_c _ _).mono ?_; rintro e w' ⟨rfl, n, rfl⟩) | (go_at_call 20; refine (same32_c _ _ (by first | assumption | exact W_narR _ _) hx _).mono ?_; rintro e w' ⟨rfl, n, rfl⟩))
  go_ret
  exact ⟨rfl, _, rfl⟩
end Go.Proofs.Ytjijlkegndkjbaa
