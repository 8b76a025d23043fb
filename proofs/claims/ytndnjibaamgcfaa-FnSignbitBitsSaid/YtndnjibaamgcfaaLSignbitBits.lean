/- FnSignbitBits: the call returns true; no condition but that the arguments are words. -/
import Derived.Test.YtndnjibaamgcfaaC
namespace Go.Proofs.Ytndnjibaamgcfaa
open Go.RowKit
theorem top_bit (b : Nat) (hb : W64 b) : Fd.sg b = ((b : Int) / 9223372036854775808 == 1) := by
  rw [Fd.sg_lit, Bool.eq_iff_iff]; unfold W64 at hb; simp; omega
set_option maxHeartbeats 400000 in
theorem law_FnSignbitBits (b : Nat) (hb : W64 b) (w : World) : Calls Try.prog 13 #[.int .u64 (b : Int)] w (RB true w) := by
  have q2 := Hd.mk (b_xor63 b hb)
  have q4 := top_bit b hb
  have q3 : Fd.sg (Fd.ng b) = !Fd.sg b := Fd.sg_ng hb
  go_enter Try.func13, Try.ntmps13
  go_wp2_with fail
  refine (iF64_c _ _).mono ?_
  rintro e w' ⟨rfl, n, rfl⟩
  go_wp2_with fail
  rw [q2.out]
  refine (iF64_c _ _).mono ?_
  rintro e w' ⟨rfl, n, rfl⟩
  go_wp2_with (first | (go_at_call 20; refine (iSignbit_c _ _).mono ?_; rintro e w' ⟨rfl, n, rfl⟩))
  go_ret
  exact ⟨rfl, _, rfl⟩
end Go.Proofs.Ytndnjibaamgcfaa
