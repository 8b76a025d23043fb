/- The reference's square root is the nearest rung to the exact root; conditions: as told in each line. -/
import Derived.Test.YtjfoiicooleeiaaDT
import Derived.Test.YtjfoiicooleeiaaDK
import Derived.Test.YtjfoiicooleeiaaDQ
namespace Go.Proofs.Ytjfoiicooleeiaa.Fd
open Ieee
theorem ref_root {r m m' w st R : Nat} {k h : Int} (pq : PQ r m k) (h0 : 0 < r) (he : (m' = m ∧ k = 2 * h) ∨ (m' = 2 * m ∧ k = 2 * h + 1)) (s1 : w * w ≤ m' * 2 ^ 60) (s2 : m' * 2 ^ 60 < (w + 1) * (w + 1))
    (hst : (st = 0 ∧ w * w = m' * 2 ^ 60) ∨ (st = 1 ∧ w * w ≠ m' * 2 ^ 60)) (nr : NearAt (2 * w + st) (h - 31) R) : NearS (mg r * 2 ^ LL) R := by
  have L := LL_eq
  have kl := pq_low h0 pq
  obtain ⟨m1, m2, c, d, e1, e2⟩ := pq
  have hw : 2 ^ 54 ≤ w := by
    rcases Nat.lt_or_ge w (2 ^ 54) with g | g
    · exfalso
      have a := sq_le (show w + 1 ≤ 2 ^ 54 by omega)
      have b : (2 : Nat) ^ 54 * 2 ^ 54 ≤ 4503599627370496 * 2 ^ 60 := by decide
      have c : 4503599627370496 * 2 ^ 60 ≤ m' * 2 ^ 60 := Nat.mul_le_mul_right _ (by omega)
      omega
    · exact g
  obtain ⟨g, hg⟩ : ∃ g : Nat, (g : Int) = h - 30 + 1074 := ⟨(h - 30 + 1074).toNat, by omega⟩
  obtain ⟨c', d', f1, f2⟩ := nr
  have n1 : Near ((2 * w + st) * 2 ^ (g - 1)) 1 R := by
    refine near_unscale (c := 2 ^ d') (Nat.two_pow_pos d') ?_
    rw [Nat.one_mul, Nat.mul_assoc, pow_sum, show g - 1 + d' = c' by omega]
    exact f2
  have n2 := nearS_of_sticky st s1 s2 hst hw (by omega) n1
  have eq : m' * 2 ^ 60 * (2 ^ g * 2 ^ g) = mg r * 2 ^ LL := by
    apply Nat.eq_of_mul_eq_mul_right (Nat.two_pow_pos d)
    have r1 : mg r * 2 ^ LL * 2 ^ d = m * 2 ^ (c + LL) := by
      rw [Nat.mul_assoc, Nat.mul_comm (2 ^ LL), ← Nat.mul_assoc, e2, Nat.mul_assoc, pow_sum]
    rw [r1, Nat.mul_assoc, Nat.mul_assoc, pow_sum, pow_sum, pow_sum]
    rcases he with ⟨rfl, ek⟩ | ⟨rfl, ek⟩
    · rw [show 60 + (g + g + d) = c + LL by omega]
    · rw [Nat.mul_comm 2 m, Nat.mul_assoc, two_mul_pow, show 60 + (g + g + d) + 1 = c + LL by omega]
  rw [eq] at n2
  exact n2
theorem sq_of_near {x R : Nat} (hs : sg x = false) (h0 : 0 < rg x) (h1 : rg x < 9218868437227405312) (h : NearS (mg (rg x) * 2 ^ LL) R) : SQ x (min R 9218868437227405312) := by
  obtain ⟨c1, c2⟩ := nearS_between h
  have o1 : rg 4607182418800017408 = 4607182418800017408 := by decide
  rw [o1] at c1 c2
  refine Or.inr (Or.inr ⟨hs, h0, h1, R, by omega, by omega, h, ?_⟩)
  rw [Nat.min_eq_left (by omega)]; rfl
/-- two roots of one number are the same -/
theorem sq_same {x u v : Nat} (hu : SQ x u) (hv : SQ x v) : sameV u v = true := by
  rcases hu with ⟨rfl, a⟩ | ⟨a, b⟩ | ⟨a1, a2, a3, R, a4, a5, a6, rfl⟩ <;> rcases hv with ⟨rfl, c⟩ | ⟨c, d⟩ | ⟨c1, c2, c3, R', c4, c5, c6, rfl⟩
  · exact sameV_refl _
  · exfalso
    rcases d with d | d
    · unfold nan at d
      simp at d
      rcases a with a | a <;> omega
    · rcases a with a | a
      · omega
      · rw [d.2] at a; cases a.2
  · exfalso; rcases a with a | a <;> omega
  · exfalso
    rcases b with d | d
    · unfold nan at d
      simp at d
      rcases c with c | c <;> omega
    · rcases c with c | c
      · omega
      · rw [d.2] at c; cases c.2
  · exact sameV_nan a c
  · exfalso
    rcases b with d | d
    · unfold nan at d; simp at d; omega
    · rw [d.2] at c1; cases c1
  · exfalso; rcases c with c | c <;> omega
  · exfalso
    rcases d with d | d
    · unfold nan at d; simp at d; omega
    · rw [d.2] at a1; cases a1
  · rw [nearS_unique a6 c6]; exact sameV_refl _
end Go.Proofs.Ytjfoiicooleeiaa.Fd
