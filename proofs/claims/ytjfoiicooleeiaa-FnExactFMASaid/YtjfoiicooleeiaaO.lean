/- What a well formed argument's bits are; no condition. -/
import Derived.Test.YtjfoiicooleeiaaW
namespace Go.Proofs.Ytjfoiicooleeiaa
theorem wf_f64 {b : Nat} (h : (Lit.float .f64 b).wf = true) : W64 b := by simpa [Lit.wf, W64] using h
theorem wf_f32 {b : Nat} (h : (Lit.float .f32 b).wf = true) : W32 b := by simpa [Lit.wf, W32] using h
theorem wf_u64 {n : Int} (h : (Lit.int .u64 n).wf = true) : ∃ x : Nat, n = (x : Int) ∧ W64 x := by
  simp [Lit.wf, IntKind.min, IntKind.max, IntKind.signed, IntKind.bits] at h
  exact ⟨n.toNat, by omega, by unfold W64; omega⟩
theorem wf_u32 {n : Int} (h : (Lit.int .u32 n).wf = true) : ∃ x : Nat, n = (x : Int) ∧ W32 x := by
  simp [Lit.wf, IntKind.min, IntKind.max, IntKind.signed, IntKind.bits] at h
  exact ⟨n.toNat, by omega, by unfold W32; omega⟩
theorem wf_i64 {n : Int} (h : (Lit.int .i64 n).wf = true) : I64 n := by
  simp [Lit.wf, IntKind.min, IntKind.max, IntKind.signed, IntKind.bits] at h
  unfold I64; omega
end Go.Proofs.Ytjfoiicooleeiaa
