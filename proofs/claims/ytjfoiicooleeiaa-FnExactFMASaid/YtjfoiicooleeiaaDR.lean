/- Signs and sizes of a sum of two signed naturals, and the exact product and sum in the reference's units; conditions: as told in each line. -/
import Derived.Test.YtjfoiicooleeiaaDO
namespace Go.Proofs.Ytjfoiicooleeiaa.Fd
open Ieee
theorem sgT_pos {s t : Bool} {r : Bool} {n : Nat} (h : n ≠ 0) : sgT s t (sm r n) = r := by
  have nz : ¬ sm r n = 0 := by rw [sm_zero_iff]; exact h
  unfold sgT
  rw [if_neg nz, Bool.eq_iff_iff]
  simp only [decide_eq_true_eq, sm_neg_iff]
  exact ⟨fun g => g.1, fun g => ⟨g, h⟩⟩
theorem sum_same {s : Bool} {M N : Nat} : (sm s M + sm s N).natAbs = M + N ∧ sgT s s (sm s M + sm s N) = s := by
  have e : sm s M + sm s N = sm s (M + N) := by unfold sm; cases s <;> simp <;> omega
  rw [e, sm_natAbs]
  refine ⟨rfl, ?_⟩
  by_cases h : M + N = 0
  · rw [h]
    have : sm s 0 = 0 := by unfold sm; simp
    rw [this]; unfold sgT; simp
  · exact sgT_pos h
theorem sum_gt {s t : Bool} {M N : Nat} (hs : t = !s) (h : N < M) : (sm s M + sm t N).natAbs = M - N ∧ sgT s t (sm s M + sm t N) = s := by
  have e : sm s M + sm t N = sm s (M - N) := by rw [hs]; unfold sm; cases s <;> simp <;> omega
  rw [e, sm_natAbs]
  exact ⟨rfl, sgT_pos (by omega)⟩
theorem sum_lt {s t : Bool} {M N : Nat} (hs : t = !s) (h : M < N) : (sm s M + sm t N).natAbs = N - M ∧ sgT s t (sm s M + sm t N) = t := by
  have e : sm s M + sm t N = sm t (N - M) := by rw [hs]; unfold sm; cases s <;> simp <;> omega
  rw [e, sm_natAbs]
  exact ⟨rfl, sgT_pos (by omega)⟩
theorem sum_eq {s t : Bool} {M N : Nat} (hs : t = !s) (h : M = N) : (sm s M + sm t N).natAbs = 0 ∧ sgT s t (sm s M + sm t N) = false := by
  have e : sm s M + sm t N = 0 := by rw [hs, h]; unfold sm; cases s <;> simp <;> omega
  rw [e]
  refine ⟨rfl, ?_⟩
  unfold sgT; rw [if_pos rfl, hs]; cases s <;> rfl
/-- the exact product and sum in the units of the reference -/
theorem tt_sum {x y z m n k a b : Nat} {e f g g0 : Int} (px : PQ (rg x) m e) (py : PQ (rg y) n f) (pz : PQ (rg z) k g) (ha : (a : Int) = e + f - g0) (hb : (b : Int) = g - g0) (hg : -4000 ≤ g0) :
    ∃ P Q : Nat, -2148 + (Q : Int) = g0 + P ∧ TT x y z * ((2 ^ P : Nat) : Int) = (sm (sg x ^^ sg y) (m * n * 2 ^ a) + sm (sg z) (k * 2 ^ b)) * ((2 ^ Q : Nat) : Int) := by
  have L := LL_eq
  obtain ⟨_, _, a1, b1, i1, j1⟩ := px
  obtain ⟨_, _, a2, b2, i2, j2⟩ := py
  obtain ⟨_, _, a3, b3, i3, j3⟩ := pz
  obtain ⟨u, hu⟩ : ∃ u : Nat, u = 2000 := ⟨_, rfl⟩
  obtain ⟨P, hP⟩ : ∃ P : Nat, P = b1 + b2 + b3 + u := ⟨_, rfl⟩
  obtain ⟨Q, hQ⟩ : ∃ Q : Nat, (Q : Int) = g0 + 2148 + P := ⟨(g0 + 2148 + P).toNat, by omega⟩
  refine ⟨P, Q, by omega, ?_⟩
  unfold TT
  rw [Int.add_mul, Int.add_mul, ← sm_mul, ← sm_mul, ← sm_mul, ← sm_mul]
  have k1 : mg (rg x) * mg (rg y) * 2 ^ P = m * n * 2 ^ a * 2 ^ Q := by
    have l : mg (rg x) * mg (rg y) * 2 ^ P = (mg (rg x) * 2 ^ b1) * (mg (rg y) * 2 ^ b2) * 2 ^ (b3 + u) := by
      rw [hP, Nat.pow_add, Nat.pow_add, Nat.pow_add, Nat.pow_add]; grind
    rw [l, j1, j2, Nat.mul_assoc (m * n), pow_sum]
    have r : m * 2 ^ a1 * (n * 2 ^ a2) * 2 ^ (b3 + u) = m * n * 2 ^ (a1 + a2 + (b3 + u)) := by
      rw [Nat.pow_add 2 (a1 + a2), Nat.pow_add 2 a1]; grind
    rw [r, show a1 + a2 + (b3 + u) = a + Q by omega]
  have k2 : mg (rg z) * 2 ^ LL * 2 ^ P = k * 2 ^ b * 2 ^ Q := by
    have l : mg (rg z) * 2 ^ LL * 2 ^ P = (mg (rg z) * 2 ^ b3) * 2 ^ (LL + b1 + b2 + u) := by
      rw [Nat.mul_assoc, pow_sum, Nat.mul_assoc, pow_sum, show b3 + (LL + b1 + b2 + u) = LL + P by omega]
    rw [l, j3, Nat.mul_assoc, pow_sum, Nat.mul_assoc k, pow_sum, show a3 + (LL + b1 + b2 + u) = b + Q by omega]
  rw [k1, k2]
/-- the exact product in the units of the reference -/
theorem tt_prod {x y z m n : Nat} {e f : Int} (px : PQ (rg x) m e) (py : PQ (rg y) n f) (hz : rg z = 0) :
    ∃ P Q : Nat, -2148 + (Q : Int) = (e + f) + P ∧ TT x y z * ((2 ^ P : Nat) : Int) = sm (sg x ^^ sg y) (m * n) * ((2 ^ Q : Nat) : Int) := by
  obtain ⟨_, _, a1, b1, i1, j1⟩ := px
  obtain ⟨_, _, a2, b2, i2, j2⟩ := py
  refine ⟨b1 + b2, a1 + a2, by omega, ?_⟩
  unfold TT
  rw [hz, mg_zero, Nat.zero_mul]
  have z0 : sm (sg z) 0 = 0 := by unfold sm; simp
  rw [z0, Int.add_zero, ← sm_mul, ← sm_mul]
  have k1 : mg (rg x) * mg (rg y) * 2 ^ (b1 + b2) = m * n * 2 ^ (a1 + a2) := by
    have l : mg (rg x) * mg (rg y) * 2 ^ (b1 + b2) = (mg (rg x) * 2 ^ b1) * (mg (rg y) * 2 ^ b2) := by
      rw [Nat.pow_add]; grind
    rw [l, j1, j2, Nat.pow_add]; grind
  rw [k1]
end Go.Proofs.Ytjfoiicooleeiaa.Fd
