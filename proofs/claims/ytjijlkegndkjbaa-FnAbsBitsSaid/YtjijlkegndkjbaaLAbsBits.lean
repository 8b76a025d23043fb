/- FnAbsBits: the call returns true; no condition but that the arguments are words. -/
import Derived.Test.YtjijlkegndkjbaaC
namespace Go.Proofs.Ytjijlkegndkjbaa
open Go.RowKit
set_option maxHeartbeats 400000 in
theorem law_FnAbsBits (b : Nat) (hb : W64 b) (w : World) : Calls Try.prog 3 #[.int .u64 (b : Int)] w (RB true w) := by
  have R : Hd ((((Fd.rg b : Nat) : Int) == bits .and .u64 (b : Int) 9223372036854775807) = true) := ⟨by rw [b_low63 b hb]; simp [Fd.rg]⟩
  go_enter Try.func3, Try.ntmps3
  go_wp2_with (first | (go_at_call 15; refine (iB64_c _ _).mono ?_; rintro e w' ⟨rfl, n, rfl⟩) | (go_at_call 17; refine (iF64_c _ _).mono ?_; rintro e w' ⟨rfl, n, rfl⟩) | (go_at_call 16; refine (iAbs_c _ hb _).mono ?_; rintro e w' ⟨rfl, n, rfl⟩))
  go_ret
  exact ⟨ret_bool R.out, _, rfl⟩
end Go.Proofs.Ytjijlkegndkjbaa
