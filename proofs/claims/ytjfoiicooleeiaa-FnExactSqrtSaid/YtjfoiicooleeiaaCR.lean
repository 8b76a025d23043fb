/- Contract of Sqrt; no condition but that the argument is a word. -/
import Derived.Test.YtjfoiicooleeiaaC2
import Derived.Test.YtjfoiicooleeiaaDT
namespace Go.Proofs.Ytjfoiicooleeiaa
open Go.RowKit

/-- the bits of what sqrt gives, in a world -/
def resS (x : Nat) (w : World) : Nat :=
  match Ieee.double.sqrt x with
  | some r => r
  | none => nb .f64 x x w
def cntS (x : Nat) : Nat := if (Ieee.double.sqrt x).isSome then 0 else 1
theorem ext_sqrt {P : Program} (x : Nat) (w : World) : (Extern.MathSqrt.sqrt #[.float .f64 x]).run P w = .ok (.float .f64 (resS x w)) (w.drewN (cntS x)) := by
  unfold resS cntS Extern.MathSqrt.sqrt
  show (match Ieee.double.sqrt x with | some r => pure (.float .f64 r) | none => do pure (.float .f64 (← choose (.nanBits .f64 x x))) : Sem Value).run P w = _
  cases h : Ieee.double.sqrt x with
  | some r => rfl
  | none => rfl
theorem resS_spec {x : Nat} (hx : W64 x) (w : World) : W64 (resS x w) ∧ Fd.SQ x (resS x w) := by
  unfold resS
  rcases Fd.sqrt_cases hx with ⟨e, h⟩ | ⟨v, e, hv, h⟩
  · rw [e]
    have := nb64 x x w
    exact ⟨this.2, Or.inr (Or.inl ⟨this.1, h⟩)⟩
  · rw [e]; exact ⟨hv, h⟩
@[go_sem] theorem c_sqrt (x : Nat) (w : World) : (callFunc 55 #[.float .f64 x]).run Try.prog w = .ok (.value (.float .f64 (resS x w))) (w.drewN (cntS x)) := by
  rw [run_callFunc_extern Try.func55 (by kernel_rfl) (by kernel_rfl) (by kernel_rfl) (e := Extern.MathSqrt.sqrt) (by kernel_rfl)]
  rw [ext_sqrt]; rfl
theorem mSqrt_c (x : Nat) (hx : W64 x) (w : World) : Calls Try.prog 38 #[.float .f64 x] w (RF (Fd.SQ x) w) := by
  go_enter Try.func38, Try.ntmps38
  go_wp2
  go_ret
  obtain ⟨a, b⟩ := resS_spec hx w
  exact ⟨_, b, a, rfl, _, rfl⟩
theorem iSqrt_c (x : Nat) (hx : W64 x) (w : World) : Calls Try.prog 13 #[.float .f64 x] w (RF (Fd.SQ x) w) := by
  go_enter Try.func13, Try.ntmps13
  go_wp2_with fail
  refine (mSqrt_c x hx _).mono ?_
  rintro e w' ⟨v, hv, hW, rfl, n, rfl⟩
  go_wp2
  go_ret
  exact ⟨v, hv, hW, rfl, _, rfl⟩
end Go.Proofs.Ytjfoiicooleeiaa
