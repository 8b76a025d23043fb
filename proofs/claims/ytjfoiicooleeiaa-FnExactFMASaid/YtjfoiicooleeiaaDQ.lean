/- The fraction and the exponent of a rung, written out, for the rungs of 64 and of 32 bits; conditions: as told in each line. -/
import Derived.Test.YtjfoiicooleeiaaDX
namespace Go.Proofs.Ytjfoiicooleeiaa
open Ieee

theorem Fd.pq_norm {r : Nat} (h : 4503599627370496 ≤ r) : Fd.PQ r (4503599627370496 + r % 4503599627370496) (((r / 4503599627370496 : Nat) : Int) - 1075) := by
  refine ⟨by omega, by omega, r / 4503599627370496 - 1, 0, by omega, ?_⟩
  have : r = (r / 4503599627370496 - 1) * 4503599627370496 + (4503599627370496 + r % 4503599627370496) := by omega
  rw [Nat.pow_zero, Nat.mul_one, ← Fd.mg_at (by omega), ← this]

theorem log_frac {q : Nat} (h0 : 0 < q) (h : q < 4503599627370496) : q.log2 < 52 ∧ 4503599627370496 ≤ q * 2 ^ (52 - q.log2) ∧ q * 2 ^ (52 - q.log2) < 9007199254740992 := by
  have hn : q ≠ 0 := by omega
  have l1 := Nat.log2_self_le hn
  have l2 : q < 2 ^ (q.log2 + 1) := Nat.lt_log2_self
  have lt : q.log2 < 52 := by
    apply Fd.pow_lt_iff.1
    have : (4503599627370496 : Nat) = 2 ^ 52 := by decide
    omega
  refine ⟨lt, ?_, ?_⟩
  · have := Nat.mul_le_mul_right (2 ^ (52 - q.log2)) l1
    rw [Fd.pow_sum, show q.log2 + (52 - q.log2) = 52 by omega] at this
    exact this
  · have := Nat.mul_lt_mul_of_pos_right l2 (Nat.two_pow_pos (52 - q.log2))
    rw [Fd.pow_sum, show q.log2 + 1 + (52 - q.log2) = 53 by omega] at this
    exact this

theorem Fd.pq_sub {r : Nat} (h0 : 0 < r) (h : r < 4503599627370496) : Fd.PQ r (r * 2 ^ (52 - r.log2)) (-1074 - ((52 - r.log2 : Nat) : Int)) := by
  obtain ⟨l, a, b⟩ := log_frac h0 h
  refine ⟨a, b, 0, 52 - r.log2, by omega, ?_⟩
  rw [Fd.mg_small (by omega), Nat.pow_zero, Nat.mul_one]

theorem emb_norm {q : Nat} (h : 8388608 ≤ q) (h2 : q < 2139095040) : Fd.PQ (emb q) ((8388608 + q % 8388608) * 536870912) (((q / 8388608 : Nat) : Int) - 179) := by
  have n := n925_eq
  refine ⟨by omega, by omega, q / 8388608 + 895, 0, by omega, ?_⟩
  have e : q = (q / 8388608 - 1) * 8388608 + (8388608 + q % 8388608) := by omega
  have m : Fs.mg q = (8388608 + q % 8388608) * 2 ^ (q / 8388608 - 1) := by
    rw [← Fs.mg_at (by omega), ← e]
  rw [mg_emb h2, m, Nat.pow_zero, Nat.mul_one, Nat.mul_assoc, Fd.pow_sum, Nat.mul_assoc, show (536870912 : Nat) = 2 ^ 29 by decide, Fd.pow_sum]
  rw [show q / 8388608 - 1 + n925 = 29 + (q / 8388608 + 895) by omega]

theorem emb_sub {q : Nat} (h0 : 0 < q) (h : q < 8388608) : Fd.PQ (emb q) (q * 2 ^ (52 - q.log2)) (-149 - ((52 - q.log2 : Nat) : Int)) ∧ 30 ≤ 52 - q.log2 := by
  obtain ⟨l, a, b⟩ := log_frac h0 (by omega)
  have n := n925_eq
  have lt : q.log2 < 23 := by
    apply Fd.pow_lt_iff.1
    have := Nat.log2_self_le (show q ≠ 0 by omega)
    have : (8388608 : Nat) = 2 ^ 23 := by decide
    omega
  refine ⟨⟨a, b, n925, 52 - q.log2, by omega, ?_⟩, by omega⟩
  rw [mg_emb (by omega), Fs.mg_small (by omega)]; grind

theorem Fd.pq_bound {r m : Nat} {k : Int} (h0 : 0 < r) (h1 : r < 9218868437227405312) (h : Fd.PQ r m k) : -1126 ≤ k ∧ k ≤ 971 := by
  rcases Nat.lt_or_ge r 4503599627370496 with c | c
  · have := (Fd.pq_unique h (Fd.pq_sub h0 c)).2
    omega
  · have := (Fd.pq_unique h (Fd.pq_norm c)).2
    omega

theorem Fd.pq_low {r m : Nat} {k : Int} (h0 : 0 < r) (h : Fd.PQ r m k) : -1126 ≤ k := by
  rcases Nat.lt_or_ge r 4503599627370496 with c | c
  · have := (Fd.pq_unique h (Fd.pq_sub h0 c)).2
    omega
  · have := (Fd.pq_unique h (Fd.pq_norm c)).2
    omega

end Go.Proofs.Ytjfoiicooleeiaa
