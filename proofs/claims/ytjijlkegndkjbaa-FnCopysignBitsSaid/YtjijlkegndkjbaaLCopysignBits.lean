/- FnCopysignBits: the call returns true; no condition but that the arguments are words. -/
import Derived.Test.YtjijlkegndkjbaaC
namespace Go.Proofs.Ytjijlkegndkjbaa
open Go.RowKit
set_option maxHeartbeats 400000 in
theorem law_FnCopysignBits (a b : Nat) (ha : W64 a) (hb : W64 b) (w : World) : Calls Try.prog 5 #[.int .u64 (a : Int), .int .u64 (b : Int)] w (RB true w) := by
  have R : Hd ((((Fd.cps a b : Nat) : Int) == bits .or .u64 (bits .and .u64 (a : Int) 9223372036854775807) (bits .and .u64 (b : Int) 9223372036854775808)) = true) := by
    constructor
    rw [b_low63 a ha, b_and63 b hb, b_or63 _ _ (by omega) (by unfold W64 at hb; omega)]; simp [Fd.cps]
  go_enter Try.func5, Try.ntmps5
  go_wp2_with (first | (go_at_call 15; refine (iB64_c _ _).mono ?_; rintro e w' ⟨rfl, n, rfl⟩) | (go_at_call 17; refine (iF64_c _ _).mono ?_; rintro e w' ⟨rfl, n, rfl⟩) | (go_at_call 19; refine (iCopysign_c _ _ ha hb _).mono ?_; rintro e w' ⟨rfl, n, rfl⟩))
  go_ret
  exact ⟨ret_bool R.out, _, rfl⟩
end Go.Proofs.Ytjijlkegndkjbaa
