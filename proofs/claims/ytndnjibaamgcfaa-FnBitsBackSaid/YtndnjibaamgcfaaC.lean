/- Contracts of the library's small functions and of the thin package: what each returns, as a function of its arguments' bits; no condition but that these are words. -/
import Derived.Test.YtndnjibaamgcfaaW
namespace Go.Proofs.Ytndnjibaamgcfaa
open Go.RowKit

@[go_sem] theorem c_b64 (a : Nat) (w : World) : (callFunc 34 #[.float .f64 a]).run Try.prog w = .ok (.value (.int .u64 a)) w := by
  rw [run_callFunc_extern Try.func34 (by kernel_rfl) (by kernel_rfl) (by kernel_rfl) (e := Extern.MathFloatBits.float64bits) (by kernel_rfl)]; rfl
@[go_sem] theorem c_f64 (n : Int) (w : World) : (callFunc 41 #[.int .u64 n]).run Try.prog w = .ok (.value (.float .f64 n.toNat)) w := by
  rw [run_callFunc_extern Try.func41 (by kernel_rfl) (by kernel_rfl) (by kernel_rfl) (e := Extern.MathFloatBits.float64frombits) (by kernel_rfl)]; rfl
@[go_sem] theorem c_b32 (a : Nat) (w : World) : (callFunc 39 #[.float .f32 a]).run Try.prog w = .ok (.value (.int .u32 a)) w := by
  rw [run_callFunc_extern Try.func39 (by kernel_rfl) (by kernel_rfl) (by kernel_rfl) (e := Extern.MathFloatBits.float32bits) (by kernel_rfl)]; rfl
@[go_sem] theorem c_f32 (n : Int) (w : World) : (callFunc 40 #[.int .u32 n]).run Try.prog w = .ok (.value (.float .f32 n.toNat)) w := by
  rw [run_callFunc_extern Try.func40 (by kernel_rfl) (by kernel_rfl) (by kernel_rfl) (e := Extern.MathFloatBits.float32frombits) (by kernel_rfl)]; rfl

end Go.Proofs.Ytndnjibaamgcfaa
