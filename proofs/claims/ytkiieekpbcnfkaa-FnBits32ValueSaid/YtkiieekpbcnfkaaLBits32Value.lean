/- FnBits32Value: the call returns true; no condition but that the arguments are words. -/
import Derived.Test.YtkiieekpbcnfkaaC8
namespace Go.Proofs.Ytkiieekpbcnfkaa
open Go.RowKit
theorem b_xor31' (a : Nat) (h : W32 a) : (((Fs.ng a : Nat) : Int) == bits .xor .u32 (a : Int) 2147483648) = true := by
  have h' : a < 4294967296 := h
  have hx : a ^^^ 2147483648 < 2 ^ 32 := Nat.xor_lt_two_pow (by omega) (by omega)
  have h1 : (BitVec.ofInt 32 (a : Int)).toNat = a := by
    rw [BitVec.ofInt_natCast, BitVec.toNat_ofNat]; exact Nat.mod_eq_of_lt (by omega)
  have e : bits .xor .u32 (a : Int) 2147483648 = ((a ^^^ 2147483648 : Nat) : Int) := by
    show IntKind.u32.wrap ((BitVec.ofInt 32 (a : Int) ^^^ BitVec.ofInt 32 2147483648).toNat : Int) = _
    rw [BitVec.toNat_xor, h1, IntKind.wrap_u32']
    have : (BitVec.ofInt 32 2147483648).toNat = 2147483648 := by decide
    rw [this]; omega
  have x31 : a ^^^ 2147483648 = Fs.ng a := xor_31 a h'
  rw [e, x31]; simp
set_option maxHeartbeats 400000 in
theorem law_FnBits32Value (x : Nat) (hx : W32 x) (w : World) : Calls Try.prog 3 #[.float .f32 x] w (RB true w) := by
  cases nx : Fs.nan x
  · have f1 := num_eq_s nx
    have R := Hd.mk (b_xor31' x hx)
    have g1 : Op.negFloat .f32 x = Fs.ng x := negF_W32 hx
    go_enter Try.func3, Try.ntmps3
    go_wp2_with (first | (go_at_call 15; refine (iB32_c _ _).mono ?_; rintro e w' ⟨rfl, n, rfl⟩) | (go_at_call 16; refine (bitsOf32_c _ hx nx _).mono ?_; rintro e w' ⟨rfl, n, rfl⟩))
    go_ret
    exact ⟨ret_bool R.out, _, rfl⟩
  · have f1 := nan_eq_s nx
    go_enter Try.func3, Try.ntmps3
    go_wp2
    go_ret
    exact ⟨rfl, 0, rfl⟩
end Go.Proofs.Ytkiieekpbcnfkaa
