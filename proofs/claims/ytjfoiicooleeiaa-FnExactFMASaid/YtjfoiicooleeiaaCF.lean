/- Contract of FMA; no condition. -/
import Derived.Test.YtjfoiicooleeiaaC2
import Derived.Test.YtjfoiicooleeiaaDG
namespace Go.Proofs.Ytjfoiicooleeiaa
open Go.RowKit

/-- the bits of what FMA gives: the model's, or a not-a-number where it has none -/
def FQ (x y z r : Nat) : Prop := Ieee.double.fma x y z = some r ∨ (Ieee.double.fma x y z = none ∧ Fd.nan r = true)
theorem ext_fma {P : Program} (x y z : Nat) (w : World) : ∃ r n, FQ x y z r ∧ W64 r ∧ (Extern.MathFMA.fma #[.float .f64 x, .float .f64 y, .float .f64 z]).run P w = .ok (.float .f64 r) (w.drewN n) := by
  unfold FQ
  cases h : Ieee.double.fma x y z with
  | some r =>
    refine ⟨r, 0, Or.inl rfl, (Fd.fma_num h).1, ?_⟩
    show (match Ieee.double.fma x y z with | some r => pure (.float .f64 r) | none => (let (a, b) := if Extern.MathFMA.isNaN x then (x, y) else if Extern.MathFMA.isNaN y then (y, z) else (z, z); do pure (.float .f64 (← choose (.nanBits .f64 a b)))) : Sem Value).run P w = _
    rw [h]; rfl
  | none =>
    obtain ⟨p, hp⟩ : ∃ p, p = (if Extern.MathFMA.isNaN x then (x, y) else if Extern.MathFMA.isNaN y then (y, z) else (z, z)) := ⟨_, rfl⟩
    have b := nb64 p.1 p.2 w
    refine ⟨nb .f64 p.1 p.2 w, 1, Or.inr ⟨rfl, b.1⟩, b.2, ?_⟩
    show (match Ieee.double.fma x y z with | some r => pure (.float .f64 r) | none => (let (a, b) := if Extern.MathFMA.isNaN x then (x, y) else if Extern.MathFMA.isNaN y then (y, z) else (z, z); do pure (.float .f64 (← choose (.nanBits .f64 a b)))) : Sem Value).run P w = _
    rw [h]
    simp only
    rw [← hp]; rfl
/-- the bits and the draws, as functions -/
noncomputable def resM (x y z : Nat) (w : World) : Nat := (ext_fma (P := Try.prog) x y z w).choose
noncomputable def cntM (x y z : Nat) (w : World) : Nat := (ext_fma (P := Try.prog) x y z w).choose_spec.choose
theorem resM_spec (x y z : Nat) (w : World) : FQ x y z (resM x y z w) ∧ W64 (resM x y z w) ∧ (Extern.MathFMA.fma #[.float .f64 x, .float .f64 y, .float .f64 z]).run Try.prog w = .ok (.float .f64 (resM x y z w)) (w.drewN (cntM x y z w)) :=
  (ext_fma (P := Try.prog) x y z w).choose_spec.choose_spec
@[go_sem] theorem c_fma (x y z : Nat) (w : World) : (callFunc 45 #[.float .f64 x, .float .f64 y, .float .f64 z]).run Try.prog w = .ok (.value (.float .f64 (resM x y z w))) (w.drewN (cntM x y z w)) := by
  rw [run_callFunc_extern Try.func45 (by kernel_rfl) (by kernel_rfl) (by kernel_rfl) (e := Extern.MathFMA.fma) (by kernel_rfl)]
  rw [(resM_spec x y z w).2.2]; rfl
theorem iFMA_c (x y z : Nat) (w : World) : Calls Try.prog 20 #[.float .f64 x, .float .f64 y, .float .f64 z] w (RF (FQ x y z) w) := by
  go_enter Try.func20, Try.ntmps20
  go_wp2
  go_ret
  obtain ⟨a, b, _⟩ := resM_spec x y z w
  exact ⟨_, a, b, rfl, _, rfl⟩
/-- it is the same as what an operation gives -/
theorem fq_same {op : BinOp} {x y z a b r : Nat} (h : FQ x y z r) (e : Ieee.double.fma x y z = arith op .f64 a b) (w : World) : Fd.sameV r (res op .f64 a b w) = true := by
  rcases h with h | ⟨h, hn⟩
  · rw [e] at h
    rw [res_some h]; exact Fd.sameV_refl _
  · rw [e] at h
    exact Fd.sameV_nan hn (res_none64 h w)
theorem fq_fq {x y z x' y' z' r r' : Nat} (h : FQ x y z r) (h' : FQ x' y' z' r') (e : Ieee.double.fma x' y' z' = Ieee.double.fma x y z) : Fd.sameV r' r = true := by
  rcases h with h | ⟨h, hn⟩
  · rcases h' with g | ⟨g, gn⟩
    · rw [e, h] at g; cases g; exact Fd.sameV_refl _
    · rw [e, h] at g; cases g
  · rcases h' with g | ⟨g, gn⟩
    · rw [e, h] at g; cases g
    · exact Fd.sameV_nan gn hn
end Go.Proofs.Ytjfoiicooleeiaa
