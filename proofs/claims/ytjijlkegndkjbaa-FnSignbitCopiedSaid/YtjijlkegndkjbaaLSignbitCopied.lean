/- FnSignbitCopied: the call returns true; no condition but that the arguments are words. -/
import Derived.Test.YtjijlkegndkjbaaC
namespace Go.Proofs.Ytjijlkegndkjbaa
open Go.RowKit
set_option maxHeartbeats 400000 in
theorem law_FnSignbitCopied (a b : Nat) (ha : W64 a) (hb : W64 b) (w : World) : Calls Try.prog 9 #[.int .u64 (a : Int), .int .u64 (b : Int)] w (RB true w) := by
  have q2 := Hd.mk (b_xor63 b hb)
  have hn := W_ng hb
  have q3 : Fd.sg (Fd.cps a b) = Fd.sg b := Fd.sg_cps hb
  have q4 : Fd.sg (Fd.cps a (Fd.ng b)) = !Fd.sg b := by rw [Fd.sg_cps hn, Fd.sg_ng hb]
  go_enter Try.func9, Try.ntmps9
  go_wp2_with fail
  refine (iF64_c _ _).mono ?_
  rintro e w' ⟨rfl, n, rfl⟩
  go_wp2_with fail
  refine (iF64_c _ _).mono ?_
  rintro e w' ⟨rfl, n, rfl⟩
  go_wp2_with fail
  refine (iCopysign_c _ _ ha hb _).mono ?_
  rintro e w' ⟨rfl, n, rfl⟩
  go_wp2_with fail
  rw [q2.out]
  refine (iF64_c _ _).mono ?_
  rintro e w' ⟨rfl, n, rfl⟩
  go_wp2_with (first | (go_at_call 26; refine (iSignbit_c _ _).mono ?_; rintro e w' ⟨rfl, n, rfl⟩) | (go_at_call 19; refine (iCopysign_c _ _ ha hn _).mono ?_; rintro e w' ⟨rfl, n, rfl⟩))
  go_ret
  exact ⟨ret_bool (by simp), _, rfl⟩
end Go.Proofs.Ytjijlkegndkjbaa
