/- Rounding a natural number times a power of 2, as the reference does it; conditions: as told in each line. -/
import Derived.Test.YtjfoiicooleeiaaDP
namespace Go.Proofs.Ytjfoiicooleeiaa.Fd
open Ieee
/-- R is the nearest rung to M times 2 to the power of e -/
def NearAt (M : Nat) (e : Int) (R : Nat) : Prop := ∃ c d : Nat, e + 1074 = (c : Int) - d ∧ Near (M * 2 ^ c) (2 ^ d) R
theorem nearAt_zero (e : Int) : NearAt 0 e 0 := by
  rcases (by omega : 0 ≤ e + 1074 ∨ e + 1074 < 0) with c | c
  · obtain ⟨j, hj⟩ := Int.eq_ofNat_of_zero_le c
    refine ⟨j, 0, by omega, ?_⟩
    have := near_exact 0 (2 ^ 0) (by omega)
    rw [mg_zero, Nat.zero_mul] at this
    rw [Nat.zero_mul]; exact this
  · obtain ⟨j, hj⟩ : ∃ j : Nat, e + 1074 = -(j : Int) := ⟨(-(e + 1074)).toNat, by omega⟩
    refine ⟨0, j, by omega, ?_⟩
    have := near_exact 0 (2 ^ j) (Nat.two_pow_pos j)
    rw [mg_zero, Nat.zero_mul] at this
    rw [Nat.zero_mul]; exact this
theorem nearAt_small {M : Nat} {e : Int} (hM : M ≤ 9007199254740992) (he : -1074 ≤ e) : ∃ R, PW M e R ∧ NearAt M e R := by
  obtain ⟨j, hj⟩ := Int.eq_ofNat_of_zero_le (show 0 ≤ e + 1074 by omega)
  have m : mg (dbls j M) = M * 2 ^ j := by rw [mg_dbls, mg_small hM]
  refine ⟨dbls j M, ⟨j, 0, by omega, by rw [m, Nat.pow_zero, Nat.mul_one]⟩, j, 0, by omega, ?_⟩
  rw [← m]
  exact near_one_exact rfl
theorem rne_up {M j : Nat} (h : 2 ^ j < M % 2 ^ (j + 1) ∨ (2 ^ j = M % 2 ^ (j + 1) ∧ M / 2 ^ (j + 1) % 2 = 1)) : rne M (2 ^ (j + 1)) = M / 2 ^ (j + 1) + 1 := by
  unfold rne
  rw [if_pos]
  rw [Nat.pow_succ] at *
  rcases h with h | ⟨h1, h2⟩
  · left; omega
  · right; exact ⟨by omega, h2⟩
theorem rne_down {M j : Nat} (h : M % 2 ^ (j + 1) < 2 ^ j ∨ (2 ^ j = M % 2 ^ (j + 1) ∧ M / 2 ^ (j + 1) % 2 = 0)) : rne M (2 ^ (j + 1)) = M / 2 ^ (j + 1) := by
  unfold rne
  rw [if_neg, Nat.add_zero]
  rw [Nat.pow_succ] at *
  intro g
  rcases h with h | ⟨h1, h2⟩
  · rcases g with g | ⟨g1, g2⟩ <;> omega
  · rcases g with g | ⟨g1, g2⟩
    · omega
    · rw [h2] at g2; cases g2
theorem nearAt_cut {M b k : Nat} {e : Int} (hb : M < 2 ^ b) (hb2 : 0 < b → 2 ^ (b - 1) ≤ M) (h1 : (b : Int) - 53 ≤ k) (h2 : -1074 - e ≤ k) (h3 : (k : Int) = b - 53 ∨ (k : Int) = -1074 - e) (hk : 1 ≤ k) :
    M / 2 ^ k < 9007199254740992 ∧ rne M (2 ^ k) ≤ 9007199254740992 ∧ ∃ R, PW (rne M (2 ^ k)) (e + k) R ∧ NearAt M e R := by
  have kp : 0 < 2 ^ k := Nat.two_pow_pos k
  have q1 : M / 2 ^ k < 9007199254740992 := by
    rw [Nat.div_lt_iff_lt_mul kp, B2_pow, pow_sum]
    exact Nat.lt_of_lt_of_le hb (pow_le_iff.2 (by omega))
  obtain ⟨r1, r2, r3, r4, r5, r6⟩ := rne_spec M (2 ^ k) kp
  have q2 : rne M (2 ^ k) ≤ 9007199254740992 := by omega
  obtain ⟨ee, hee⟩ := Int.eq_ofNat_of_zero_le (show 0 ≤ e + k + 1074 by omega)
  have low : 0 < ee → 4503599627370496 * 2 ^ k ≤ M := by
    intro h
    have eb : b = k + 53 := by omega
    have := hb2 (by omega)
    rw [B_pow, pow_sum]
    rw [show b - 1 = 52 + k by omega] at this
    exact this
  have q3 : 0 < ee → 4503599627370496 ≤ rne M (2 ^ k) := by
    intro h
    have : 4503599627370496 ≤ M / 2 ^ k := (Nat.le_div_iff_mul_le kp).2 (low h)
    omega
  have form : (ee = 0 ∧ rne M (2 ^ k) ≤ 9007199254740992) ∨ (4503599627370496 ≤ rne M (2 ^ k) ∧ rne M (2 ^ k) ≤ 9007199254740992) := by omega
  refine ⟨q1, q2, ee * 4503599627370496 + rne M (2 ^ k), ⟨ee, 0, by omega, by rw [mg_at form, Nat.pow_zero, Nat.mul_one]⟩, ?_⟩
  obtain ⟨c, d, hcd⟩ : ∃ c d : Nat, e + 1074 = (c : Int) - d := by
    rcases (by omega : 0 ≤ e + 1074 ∨ e + 1074 < 0) with g | g
    · exact ⟨(e + 1074).toNat, 0, by omega⟩
    · exact ⟨0, (-(e + 1074)).toNat, by omega⟩
  refine ⟨c, d, hcd, ?_⟩
  refine near_of_rne rfl kp (Nat.two_pow_pos d) ?_ form low r1 r2 r3 r4
  rw [Nat.mul_assoc, pow_sum, pow_sum, show c + k = ee + d by omega]
theorem nearAt_unique {M M' R R' : Nat} {e e' : Int} (h : NearAt M e R) (h' : NearAt M' e' R') (eq : ∃ a b : Nat, e + b = e' + a ∧ M * 2 ^ a = M' * 2 ^ b) : R = R' := by
  obtain ⟨c, d, e1, n1⟩ := h
  obtain ⟨c', d', e2, n2⟩ := h'
  obtain ⟨a, b, e3, e4⟩ := eq
  refine near_unique (Nat.two_pow_pos d) (Nat.two_pow_pos d') n1 n2 ?_
  apply Nat.eq_of_mul_eq_mul_right (Nat.two_pow_pos (a + b))
  have l : M * 2 ^ c * 2 ^ d' * 2 ^ (a + b) = (M * 2 ^ a) * 2 ^ (c + d' + b) := by
    rw [Nat.pow_add, Nat.pow_add, Nat.pow_add]; grind
  have r : M' * 2 ^ c' * 2 ^ d * 2 ^ (a + b) = (M' * 2 ^ b) * 2 ^ (c' + d + a) := by
    rw [Nat.pow_add, Nat.pow_add, Nat.pow_add]; grind
  rw [l, r, e4, show c + d' + b = c' + d + a by omega]
end Go.Proofs.Ytjfoiicooleeiaa.Fd
