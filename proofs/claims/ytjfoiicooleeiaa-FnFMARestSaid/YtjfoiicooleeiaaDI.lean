/- A root and its neighbours: the root times the rung before it is less, times the next rung not less; conditions: as told in each line. -/
import Derived.Test.YtjfoiicooleeiaaDH
import Derived.Test.YtjfoiicooleeiaaDX
namespace Go.Proofs.Ytjfoiicooleeiaa.Fd
open Ieee
theorem mul4 (a d : Nat) : (a + (a + d)) * (a + (a + d)) = 4 * (a * (a + d)) + d * d := by grind
/-- below: not less than the least number is missing -/
theorem root_below {r R : Nat} (hr : 2 ^ 174 ≤ mg r) (h : NearS (mg r * 2 ^ LL) R) : 573 * 4503599627370496 ≤ R ∧ mg R * mg (R - 1) + 2 ^ LL ≤ mg r * 2 ^ LL := by
  have L := LL_eq
  obtain ⟨e, he⟩ : ∃ e : Nat, e = 572 := ⟨_, rfl⟩
  have m1 : mg (e * 4503599627370496 + 4503599627370496) = 2 ^ (e + 52) := mg_pow e
  have lo : e * 4503599627370496 + 4503599627370496 ≤ R := by
    refine nearS_mono (nearS_exact (e * 4503599627370496 + 4503599627370496)) h ?_
    rw [m1, pow_sum]
    have a : 2 ^ 174 * 2 ^ LL ≤ mg r * 2 ^ LL := Nat.mul_le_mul_right _ hr
    rw [pow_sum] at a
    have b : 2 ^ (e + 52 + (e + 52)) ≤ 2 ^ (174 + LL) := pow_le_iff.2 (by omega)
    exact Nat.le_trans b a
  refine ⟨by omega, ?_⟩
  have dn := h.down (by omega)
  have st := mg_step (R - 1)
  rw [Nat.sub_add_cancel (by omega)] at st
  have fpl : 571 ≤ fp (R - 1) := by
    unfold fp
    rw [if_neg (by omega)]
    have : 572 ≤ (R - 1) / 4503599627370496 := (Nat.le_div_iff_mul_le (by omega)).2 (by omega)
    omega
  have sq : 4 * 2 ^ LL ≤ 2 ^ fp (R - 1) * 2 ^ fp (R - 1) := by
    rw [pow_sum, show (4 : Nat) = 2 ^ 2 by decide, pow_sum]
    exact pow_le_iff.2 (by omega)
  rw [st, mul4] at dn
  rw [st, Nat.mul_comm (mg (R - 1) + 2 ^ fp (R - 1))]
  omega
/-- above -/
theorem root_above {r R : Nat} (h0 : 4503599627370496 ≤ R) (h : NearS (mg r * 2 ^ LL) R) : mg r * 2 ^ LL ≤ mg R * mg (R + 1) := by
  have up := h.up
  have dn := h.down (by omega)
  have st := mg_step R
  have fb : 4503599627370496 ≤ fm R := by
    obtain ⟨e, c⟩ := rung_form R
    rcases c with c | c
    · omega
    · exact c.1
  have fl := fm_lt r
  have ex : fp R + fp R ≤ fp r + LL := by
    rcases Nat.lt_or_ge (fp r + LL) (fp R + fp R) with c | c
    · exfalso
      have a1 : mg R * mg R ≤ (mg (R - 1) + mg R) * (mg (R - 1) + mg R) := sq_le (by omega)
      have a2 : 2 ^ 52 * 2 ^ fp R ≤ mg R := by
        rw [mg_fm R]; exact Nat.mul_le_mul_right _ fb
      have a3 := sq_le a2
      rw [pow_sum, pow_sum] at a3
      have a4 : mg r * 2 ^ LL < 2 ^ 53 * 2 ^ fp r * 2 ^ LL := by
        rw [mg_fm r]
        exact Nat.mul_lt_mul_of_pos_right (Nat.mul_lt_mul_of_pos_right fl (Nat.two_pow_pos _)) (Nat.two_pow_pos _)
      rw [pow_sum, pow_sum] at a4
      have a5 : 4 * 2 ^ (53 + fp r + LL) = 2 ^ (2 + (53 + fp r + LL)) := by
        rw [← pow_sum (a := 2)]
      have a6 : 2 ^ (2 + (53 + fp r + LL)) ≤ 2 ^ (52 + fp R + (52 + fp R)) := pow_le_iff.2 (by omega)
      omega
    · exact c
  rw [st, mul4] at up
  rw [st]
  obtain ⟨u, hu⟩ : ∃ u, u = 2 ^ fp R * 2 ^ fp R := ⟨_, rfl⟩
  have d1 : u ∣ mg r * 2 ^ LL := by
    rw [mg_fm r, Nat.mul_assoc, pow_sum, hu, pow_sum]
    exact Nat.dvd_trans (Nat.pow_dvd_pow 2 ex) (Nat.dvd_mul_left _ _)
  have d2 : u ∣ mg R * (mg R + 2 ^ fp R) := by
    rw [mg_fm R, hu]
    refine ⟨fm R * (fm R + 1), ?_⟩
    generalize 2 ^ fp R = z
    grind
  rw [← hu] at up
  have u0 : 0 < u := by rw [hu]; exact Nat.mul_pos (Nat.two_pow_pos _) (Nat.two_pow_pos _)
  obtain ⟨p, hp⟩ := d1
  obtain ⟨q, hq⟩ := d2
  rw [hp, hq] at up ⊢
  apply Nat.mul_le_mul_left
  rcases Nat.lt_or_ge q p with c | c
  · exfalso
    have : u * (q + 1) ≤ u * p := Nat.mul_le_mul_left _ c
    rw [Nat.mul_add, Nat.mul_one] at this
    omega
  · exact c
/-- the root of a finite number is far from the greatest one -/
theorem root_far {r R : Nat} (hr : r < 9218868437227405312) (h : NearS (mg r * 2 ^ LL) R) : R + 1 < 9218868437227405312 := by
  have L := LL_eq
  obtain ⟨t, ht⟩ : ∃ t : Nat, t = 2046 := ⟨_, rfl⟩
  obtain ⟨e, he⟩ : ∃ e : Nat, e = 1534 := ⟨_, rfl⟩
  have m1 : mg (e * 4503599627370496 + 4503599627370496) = 2 ^ (e + 52) := mg_pow e
  have hi : R ≤ e * 4503599627370496 + 4503599627370496 := by
    refine nearS_mono h (nearS_exact (e * 4503599627370496 + 4503599627370496)) ?_
    rw [m1, pow_sum]
    have a : mg r * 2 ^ LL ≤ mg 9218868437227405312 * 2 ^ LL := Nat.mul_le_mul_right _ (mg_le (by omega))
    rw [mg_inf ht, pow_sum] at a
    have b : 2 ^ (t + 52 + LL) ≤ 2 ^ (e + 52 + (e + 52)) := pow_le_iff.2 (by omega)
    exact Nat.le_trans a b
  omega
end Go.Proofs.Ytjfoiicooleeiaa.Fd
