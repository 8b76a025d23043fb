/- The root of a rounded square; the steps between rungs; conditions: as told in each line. -/
import Derived.Test.YtjfoiicooleeiaaDT
namespace Go.Proofs.Ytjfoiicooleeiaa.Fd
open Ieee
theorem rung_form (r : Nat) : r = fp r * 4503599627370496 + fm r ∧ ((fp r = 0 ∧ fm r < 4503599627370496) ∨ (4503599627370496 ≤ fm r ∧ fm r < 9007199254740992)) := by
  unfold fp fm
  by_cases c : r < 4503599627370496
  · rw [if_pos c, if_pos c]; omega
  · rw [if_neg c, if_neg c]
    have h1 := Nat.div_add_mod r 4503599627370496
    have h2 : r % 4503599627370496 < 4503599627370496 := Nat.mod_lt _ (by omega)
    have h3 : 1 ≤ r / 4503599627370496 := by omega
    omega
theorem mg_step (r : Nat) : mg (r + 1) = mg r + 2 ^ fp r := by
  obtain ⟨e, h⟩ := rung_form r
  have : r + 1 = fp r * 4503599627370496 + (fm r + 1) := by omega
  rw [mg_fm r, this, mg_at (by omega), Nat.add_mul, Nat.one_mul]
theorem fp_mono {a b : Nat} (h : a ≤ b) : fp a ≤ fp b := by
  unfold fp
  split
  · omega
  · rw [if_neg (by omega)]
    have := Nat.div_le_div_right (c := 4503599627370496) h
    omega
theorem mg_back {p : Nat} (h : 0 < p) : mg p ≤ mg (p - 1) + 2 ^ fp p := by
  have e := mg_step (p - 1)
  rw [Nat.sub_add_cancel h] at e
  have : 2 ^ fp (p - 1) ≤ 2 ^ fp p := Nat.pow_le_pow_right (by omega) (fp_mono (by omega))
  omega
theorem mg_back_eq {r : Nat} (h : 4503599627370496 < fm r) : mg (r - 1) + 2 ^ fp r = mg r := by
  obtain ⟨e, h'⟩ := rung_form r
  have l := fm_lt r
  have : r - 1 = fp r * 4503599627370496 + (fm r - 1) := by omega
  rw [mg_fm r, this, mg_at (by omega)]
  have : fm r = fm r - 1 + 1 := by omega
  conv => rhs; rw [this, Nat.add_mul, Nat.one_mul]

/-- the plain reckoning: f digits, u the step, a = f u; N is a a rounded by at most S / 2 -/
theorem square_core {f u a N S j : Nat} (hf1 : 2 ^ 52 < f) (hf2 : f < 2 ^ 53) (ha : a = f * u) (hu : 0 < u) (hS : S = 2 ^ j * (u * u) ∨ u * u = 2 ^ j * S)
    (up : 2 * (a * a) ≤ 2 * N + S) (dn : 2 * N ≤ 2 * (a * a) + S) (low : 2 ^ 52 * S ≤ N) :
    4 * N < (a + (a + u)) * (a + (a + u)) ∧ (a - u + a) * (a - u + a) < 4 * N := by
  have huu : 0 < u * u := Nat.mul_pos hu hu
  have aa : a * a = f * f * (u * u) := by rw [ha]; grind
  have au : a * u = f * (u * u) := by rw [ha]; grind
  have ule : u ≤ a := by rw [ha]; exact Nat.le_mul_of_pos_left u (by omega)
  have f2 : f * f + 2 ^ 54 ≤ 2 ^ 106 + 1 := by
    have h : f ≤ 2 ^ 53 - 1 := by omega
    have := Nat.mul_le_mul h h
    have e : ((2 : Nat) ^ 53 - 1) * (2 ^ 53 - 1) + 2 ^ 54 = 2 ^ 106 + 1 := by decide
    omega
  have S1 : S ≤ 2 ^ 53 * (u * u) ∧ (S = 2 ^ 53 * (u * u) ∨ S ≤ 2 ^ 52 * (u * u)) := by
    rcases hS with e | e
    · have : j ≤ 53 := by
        rcases Nat.lt_or_ge 53 j with c | c
        · exfalso
          have p1 : 2 ^ 54 * (u * u) ≤ S := by rw [e]; exact Nat.mul_le_mul_right _ (Nat.pow_le_pow_right (by omega) c)
          have p2 : 2 ^ 52 * (2 * S) ≤ 2 * (a * a) + S := by omega
          have p3 : a * a + 2 ^ 54 * (u * u) ≤ 2 ^ 106 * (u * u) + u * u := by
            rw [aa, ← Nat.add_mul]
            have := Nat.mul_le_mul_right (u * u) f2
            rw [Nat.add_mul (2 ^ 106) 1, Nat.one_mul] at this; exact this
          generalize u * u = q at *
          generalize a * a = A at *
          omega
        · exact c
      have q : 2 ^ j ≤ 2 ^ 53 := Nat.pow_le_pow_right (by omega) this
      refine ⟨by rw [e]; exact Nat.mul_le_mul_right _ q, ?_⟩
      rcases Nat.lt_or_ge j 53 with c | c
      · right; rw [e]; exact Nat.mul_le_mul_right _ (Nat.pow_le_pow_right (by omega) (by omega))
      · left; rw [e, show j = 53 by omega]
    · have : S ≤ u * u := by rw [e]; exact Nat.le_mul_of_pos_left S (Nat.two_pow_pos j)
      generalize u * u = q at *
      omega
  have mainD : 2 * S + u * u < 4 * (a * u) := by
    rw [au]
    have g : (2 ^ 52 + 1) * (u * u) ≤ f * (u * u) := Nat.mul_le_mul_right _ hf1
    generalize f * (u * u) = F at *
    generalize u * u = q at *
    omega
  have x1 : (a + (a + u)) * (a + (a + u)) = 4 * (a * a) + 4 * (a * u) + u * u := by grind
  have x2 : (a - u + a) * (a - u + a) + 4 * (a * u) = 4 * (a * a) + u * u := by
    obtain ⟨d, hd⟩ : ∃ d, a = u + d := ⟨a - u, by omega⟩
    rw [hd, Nat.add_sub_cancel_left]; grind
  rw [x1]
  generalize (a - u + a) * (a - u + a) = X at *
  generalize a * a = A at *
  generalize a * u = M at *
  generalize u * u = q at *
  omega

/-- the root of the rounded square of a rung that is neither too small nor a power of 2 -/
theorem nearS_square {r p : Nat} (hr : 4503599627370496 < fm r) (hp : 4503599627370496 ≤ p) (h : Near (mg r * mg r) (2 ^ LL) p) : NearS (mg p * 2 ^ LL) r := by
  have l := fm_lt r
  have st := mg_step r
  have bk := mg_back_eq hr
  have up := h.up
  have dn := h.down (by omega)
  have s1 := mg_step p
  have s2 := mg_back (p := p) (by omega)
  have fb : 4503599627370496 ≤ fm p := by
    obtain ⟨e, c⟩ := rung_form p
    rcases c with c | c
    · omega
    · exact c.1
  have low : 2 ^ 52 * (2 ^ fp p * 2 ^ LL) ≤ mg p * 2 ^ LL := by
    rw [mg_fm p, ← Nat.mul_assoc]
    exact Nat.mul_le_mul_right _ (Nat.mul_le_mul_right _ fb)
  have hS : ∃ j, (2 ^ fp p * 2 ^ LL = 2 ^ j * (2 ^ fp r * 2 ^ fp r) ∨ 2 ^ fp r * 2 ^ fp r = 2 ^ j * (2 ^ fp p * 2 ^ LL)) := by
    rcases Nat.le_total (fp r + fp r) (fp p + LL) with c | c
    · refine ⟨fp p + LL - (fp r + fp r), Or.inl ?_⟩
      rw [pow_sum, pow_sum, pow_sum, show fp p + LL - (fp r + fp r) + (fp r + fp r) = fp p + LL by omega]
    · refine ⟨fp r + fp r - (fp p + LL), Or.inr ?_⟩
      rw [pow_sum, pow_sum, pow_sum, show fp r + fp r - (fp p + LL) + (fp p + LL) = fp r + fp r by omega]
  obtain ⟨j, hS⟩ := hS
  have u1 : 2 * (mg r * mg r) ≤ 2 * (mg p * 2 ^ LL) + 2 ^ fp p * 2 ^ LL := by
    rw [s1] at up
    have : (mg p + (mg p + 2 ^ fp p)) * 2 ^ LL = 2 * (mg p * 2 ^ LL) + 2 ^ fp p * 2 ^ LL := by grind
    omega
  have u2 : 2 * (mg p * 2 ^ LL) ≤ 2 * (mg r * mg r) + 2 ^ fp p * 2 ^ LL := by
    have a : 2 * mg p * 2 ^ LL ≤ (mg (p - 1) + mg p + 2 ^ fp p) * 2 ^ LL := Nat.mul_le_mul_right _ (by omega)
    have b : (mg (p - 1) + mg p + 2 ^ fp p) * 2 ^ LL = (mg (p - 1) + mg p) * 2 ^ LL + 2 ^ fp p * 2 ^ LL := Nat.add_mul _ _ _
    rw [Nat.mul_assoc] at a
    omega
  obtain ⟨g1, g2⟩ := square_core (f := fm r) (u := 2 ^ fp r) (a := mg r) hr l (mg_fm r) (Nat.two_pow_pos _) hS u1 u2 low
  have e : mg r - 2 ^ fp r = mg (r - 1) := by omega
  rw [e] at g2
  rw [← st] at g1
  exact ⟨Nat.le_of_lt g1, fun q => by omega, fun _ => Nat.le_of_lt g2, fun _ q => by omega⟩
/-- the same for powers of 2: their squares are exact -/
theorem nearS_square_pow {r p n : Nat} (hr : mg r = 2 ^ n) (hn : LL + 52 ≤ n + n) (h : Near (mg r * mg r) (2 ^ LL) p) : NearS (mg p * 2 ^ LL) r := by
  obtain ⟨q, hq⟩ : ∃ q, mg q * 2 ^ LL = mg r * mg r := by
    refine ⟨(n + n - LL - 52) * 4503599627370496 + 4503599627370496, ?_⟩
    rw [mg_pow, hr, pow_sum, pow_sum, show n + n - LL - 52 + 52 + LL = n + n by omega]
  have hp : 0 < 2 ^ LL := Nat.two_pow_pos LL
  have e := near_unique hp hp h (near_exact q (2 ^ LL) hp) (by rw [hq])
  rw [e, hq]; exact nearS_exact r
theorem nearS_sq {r p n : Nat} (hn : LL + 52 ≤ n + n) (hr : 2 ^ n ≤ mg r) (h : Near (mg r * mg r) (2 ^ LL) p) : NearS (mg p * 2 ^ LL) r ∧ 4503599627370496 ≤ p := by
  have L := LL_eq
  have hp : 0 < 2 ^ LL := Nat.two_pow_pos LL
  have pB : 4503599627370496 ≤ p := by
    refine mg_mono_min h hp _ ?_
    rw [mg_small (by omega), B_pow, pow_sum]
    have a := Nat.mul_le_mul hr hr
    rw [pow_sum] at a
    have b : 2 ^ (52 + LL) ≤ 2 ^ (n + n) := Nat.pow_le_pow_right (by omega) (by omega)
    exact Nat.le_trans b a
  refine ⟨?_, pB⟩
  obtain ⟨e, c⟩ := rung_form r
  rcases (by omega : (fp r = 0 ∧ fm r < 4503599627370496) ∨ fm r = 4503599627370496 ∨ 4503599627370496 < fm r) with d | d | d
  · exfalso
    rw [mg_fm, d.1, Nat.pow_zero, Nat.mul_one] at hr
    have : 2 ^ 53 ≤ 2 ^ n := Nat.pow_le_pow_right (by omega) (by omega)
    have : (2 : Nat) ^ 53 > 4503599627370496 := by decide
    omega
  · have m : mg r = 2 ^ (52 + fp r) := by rw [mg_fm, d, B_pow, pow_sum]
    have : n ≤ 52 + fp r := by
      rw [m] at hr
      exact (Nat.pow_le_pow_iff_right (by omega)).1 hr
    exact nearS_square_pow m (by omega) h
  · exact nearS_square d pB h
end Go.Proofs.Ytjfoiicooleeiaa.Fd
