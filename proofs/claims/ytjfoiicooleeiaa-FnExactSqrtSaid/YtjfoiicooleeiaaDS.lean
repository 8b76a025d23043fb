/- Square roots: the model's root, digit by digit, rounded once, is the nearest rung to the exact root; conditions: as told in each line. -/
import Derived.Test.YtjfoiicooleeiaaDP
namespace Go.Proofs.Ytjfoiicooleeiaa.Fd
open Ieee

theorem rootFrom_spec (n : Nat) : ∀ (todo root : Nat), root * root ≤ n → n < (root + 2 ^ todo) * (root + 2 ^ todo) →
    Datum.rootFrom n todo root * Datum.rootFrom n todo root ≤ n ∧ n < (Datum.rootFrom n todo root + 1) * (Datum.rootFrom n todo root + 1)
  | 0, root, h1, h2 => by
    rw [Datum.rootFrom]
    rw [Nat.pow_zero] at h2
    exact ⟨h1, h2⟩
  | todo + 1, root, h1, h2 => by
    rw [Datum.rootFrom]
    simp only [Nat.one_shiftLeft]
    have e : root + 2 ^ (todo + 1) = root + 2 ^ todo + 2 ^ todo := by rw [Nat.pow_succ]; omega
    by_cases c : (root + 2 ^ todo) * (root + 2 ^ todo) ≤ n
    · rw [if_pos c]
      exact rootFrom_spec n todo _ c (by rw [← e]; exact h2)
    · rw [if_neg c]
      exact rootFrom_spec n todo _ h1 (by omega)

/-- the nearest rung to the square root of N; between two, the even one -/
structure NearS (N r : Nat) : Prop where
  up : 4 * N ≤ (mg r + mg (r + 1)) * (mg r + mg (r + 1))
  upEven : 4 * N = (mg r + mg (r + 1)) * (mg r + mg (r + 1)) → r % 2 = 0
  down : 0 < r → (mg (r - 1) + mg r) * (mg (r - 1) + mg r) ≤ 4 * N
  downEven : 0 < r → (mg (r - 1) + mg r) * (mg (r - 1) + mg r) = 4 * N → r % 2 = 0

theorem sq_le {a b : Nat} (h : a ≤ b) : a * a ≤ b * b := Nat.mul_le_mul h h
theorem sq_lt {a b : Nat} (h : a < b) : a * a < b * b := Nat.mul_lt_mul_of_lt_of_le h (Nat.le_of_lt h) (by omega)
theorem of_sq_lt {a b : Nat} (h : a * a < b * b) : a < b := by
  rcases Nat.lt_or_ge a b with c | c
  · exact c
  · have := sq_le c; omega
theorem of_sq_le {a b : Nat} (h : a * a ≤ b * b) : a ≤ b := by
  rcases Nat.lt_or_ge b a with c | c
  · have := sq_lt c; omega
  · exact c

theorem nearS_mono {N N' r r' : Nat} (h : NearS N r) (h' : NearS N' r') (le : N ≤ N') : r ≤ r' := by
  rcases Nat.lt_or_ge r' r with c | c
  · exfalso
    have g1 := h'.up
    have g2 := h.down (by omega)
    have m1 : mg r' + mg (r' + 1) ≤ mg (r - 1) + mg r := Nat.add_le_add (mg_le (by omega)) (mg_le (by omega))
    have m2 := sq_le m1
    have e1 : (mg r' + mg (r' + 1)) * (mg r' + mg (r' + 1)) = (mg (r - 1) + mg r) * (mg (r - 1) + mg r) := by omega
    have e2 : mg r' + mg (r' + 1) = mg (r - 1) + mg r := by
      have a := of_sq_le (Nat.le_of_eq e1)
      have b := of_sq_le (Nat.le_of_eq e1.symm)
      omega
    have a1 : mg r' ≤ mg (r - 1) := mg_le (by omega)
    have a2 : mg (r' + 1) ≤ mg r := mg_le (by omega)
    have b1 : r' + 1 = r := mg_inj.1 (by omega)
    have p1 := h'.upEven (by omega)
    have p2 := h.downEven (by omega) (by omega)
    omega
  · exact c
theorem nearS_unique {N r r' : Nat} (h : NearS N r) (h' : NearS N r') : r = r' :=
  Nat.le_antisymm (nearS_mono h h' (Nat.le_refl _)) (nearS_mono h' h (Nat.le_refl _))
theorem nearS_exact (r : Nat) : NearS (mg r * mg r) r := by
  have l := mg_lt_succ r
  have e : 4 * (mg r * mg r) = (2 * mg r) * (2 * mg r) := by grind
  refine ⟨?_, ?_, ?_, ?_⟩
  · rw [e]; exact sq_le (by omega)
  · rw [e]; intro h; have := sq_lt (show 2 * mg r < mg r + mg (r + 1) by omega); omega
  · intro h; rw [e]; have g := @mg_lt (r - 1) r (by omega); exact sq_le (by omega)
  · intro h; rw [e]; intro h'; have g := @mg_lt (r - 1) r (by omega); have := sq_lt (show mg (r - 1) + mg r < 2 * mg r by omega); omega

/-- a rung that is great is a multiple of a power of 2 -/
theorem gran {r h : Nat} (c : 2 ^ (52 + h) ≤ mg r) : 2 ^ h ∣ mg r := by
  rw [mg_fm] at c ⊢
  have f := fm_lt r
  have : h ≤ fp r := by
    rcases Nat.lt_or_ge (fp r) h with d | d
    · exfalso
      have g : fm r * 2 ^ fp r < 9007199254740992 * 2 ^ fp r := Nat.mul_lt_mul_of_pos_right f (Nat.two_pow_pos _)
      rw [B2_pow, pow_sum] at g
      have : 2 ^ (52 + 1 + fp r) ≤ 2 ^ (52 + h) := Nat.pow_le_pow_right (by omega) (by omega)
      omega
    · exact d
  exact Nat.dvd_trans (Nat.pow_dvd_pow 2 this) (Nat.dvd_mul_left _ _)
theorem mg_prev {r : Nat} (h : 1 < r) : mg r ≤ 2 * mg (r - 1) := by
  rw [← mg_dbl]
  apply mg_le
  unfold dbl; split <;> omega

/-- from the root's digits and the digit that tells whether it goes on, to the nearest rung of the root -/
theorem nearS_of_sticky {n w g R : Nat} (st : Nat) (h1 : w * w ≤ n) (h2 : n < (w + 1) * (w + 1)) (hst : (st = 0 ∧ w * w = n) ∨ (st = 1 ∧ w * w ≠ n)) (hw : 2 ^ 54 ≤ w) (hg : 1 ≤ g)
    (nr : Near ((2 * w + st) * 2 ^ (g - 1)) 1 R) : NearS (n * (2 ^ g * 2 ^ g)) R := by
  have tw : 2 * ((2 * w + st) * 2 ^ (g - 1)) = (2 * w + st) * 2 ^ g := by
    obtain ⟨k, rfl⟩ : ∃ k, g = k + 1 := ⟨g - 1, by omega⟩
    rw [Nat.add_sub_cancel, Nat.pow_succ]; grind
  have u := nr.up
  have ue := nr.upEven
  have d := nr.down
  have de := nr.downEven
  rw [tw, Nat.mul_one] at u ue
  have hp : 0 < 2 ^ g := Nat.two_pow_pos g
  -- the rung is great
  have big : 2 ^ (54 + g) ≤ mg R := by
    have e : mg ((g + 2) * 4503599627370496 + 4503599627370496) = 2 ^ (54 + g) := by rw [mg_pow]; congr 1; omega
    rw [← e]
    apply mg_le
    refine mg_mono_min nr (by omega) _ ?_
    rw [e, Nat.mul_one]
    have a : 2 ^ 54 * 2 ^ g ≤ w * 2 ^ g := Nat.mul_le_mul_right _ hw
    rw [pow_sum] at a
    have b : 2 * (w * 2 ^ g) ≤ 2 * ((2 * w + st) * 2 ^ (g - 1)) := by
      rw [tw, ← Nat.mul_assoc]; exact Nat.mul_le_mul_right _ (by omega)
    omega
  have R1 : 1 < R := by
    rcases Nat.lt_or_ge 1 R with c | c
    · exact c
    · exfalso
      have := mg_le c
      have e : mg 1 = 1 := by decide
      have : 2 ^ 54 ≤ 2 ^ (54 + g) := Nat.pow_le_pow_right (by omega) (by omega)
      have : (2 : Nat) ^ 54 > 1 := by decide
      omega
  have e54 : 2 ^ (54 + g) = 2 * 2 ^ (52 + (g + 1)) := by rw [two_mul_pow]; congr 1; omega
  have pv := mg_prev R1
  have dv1 : 2 ^ (g + 1) ∣ mg R := gran (by omega)
  have dv2 : 2 ^ (g + 1) ∣ mg (R + 1) := gran (by have := mg_lt_succ R; omega)
  have dv0 : 2 ^ (g + 1) ∣ mg (R - 1) := gran (by omega)
  obtain ⟨a1, ha1⟩ := dv1
  obtain ⟨a2, ha2⟩ := dv2
  obtain ⟨a0, ha0⟩ := dv0
  have sum1 : mg R + mg (R + 1) = 2 * (a1 + a2) * 2 ^ g := by rw [ha1, ha2, Nat.pow_succ]; grind
  have sum0 : mg (R - 1) + mg R = 2 * (a0 + a1) * 2 ^ g := by rw [ha1, ha0, Nat.pow_succ]; grind
  have d' := d (by omega)
  have de' := de (by omega)
  rw [tw, Nat.mul_one, sum0] at d' de'
  rw [sum1] at u ue
  have uu : 2 * w + st ≤ 2 * (a1 + a2) := Nat.le_of_mul_le_mul_right u hp
  have dd : 2 * (a0 + a1) ≤ 2 * w + st := Nat.le_of_mul_le_mul_right d' hp
  have sq : ∀ c : Nat, 2 * c * 2 ^ g * (2 * c * 2 ^ g) = 4 * (c * c * (2 ^ g * 2 ^ g)) := fun c => by grind
  have hP : 0 < 2 ^ g * 2 ^ g := Nat.mul_pos hp hp
  refine ⟨?_, ?_, fun _ => ?_, fun _ => ?_⟩
  · rw [sum1, sq]
    rcases hst with ⟨s0, e⟩ | ⟨s1, e⟩
    · have : w * w ≤ (a1 + a2) * (a1 + a2) := sq_le (by omega)
      have := Nat.mul_le_mul_right (2 ^ g * 2 ^ g) this
      rw [e] at this; omega
    · have : (w + 1) * (w + 1) ≤ (a1 + a2) * (a1 + a2) := sq_le (by omega)
      have := Nat.mul_le_mul_right (2 ^ g * 2 ^ g) (show n ≤ (a1 + a2) * (a1 + a2) by omega)
      omega
  · rw [sum1, sq]
    intro h
    have h3 : n = (a1 + a2) * (a1 + a2) := Nat.eq_of_mul_eq_mul_right hP (by omega)
    rcases hst with ⟨s0, e⟩ | ⟨s1, e⟩
    · have : w = a1 + a2 := by
        have x1 := of_sq_le (Nat.le_of_eq (e.trans h3))
        have x2 := of_sq_le (Nat.le_of_eq (e.trans h3).symm)
        omega
      exact ue (by rw [s0, this]; rfl)
    · exfalso
      have : (w + 1) * (w + 1) ≤ (a1 + a2) * (a1 + a2) := sq_le (by omega)
      omega
  · rw [sum0, sq]
    rcases hst with ⟨s0, e⟩ | ⟨s1, e⟩
    · have : (a0 + a1) * (a0 + a1) ≤ w * w := sq_le (by omega)
      have := Nat.mul_le_mul_right (2 ^ g * 2 ^ g) this
      rw [e] at this; omega
    · have : (a0 + a1) * (a0 + a1) ≤ w * w := sq_le (by omega)
      have := Nat.mul_le_mul_right (2 ^ g * 2 ^ g) (show (a0 + a1) * (a0 + a1) ≤ n by omega)
      omega
  · rw [sum0, sq]
    intro h
    have h3 : (a0 + a1) * (a0 + a1) = n := Nat.eq_of_mul_eq_mul_right hP (by omega)
    rcases hst with ⟨s0, e⟩ | ⟨s1, e⟩
    · have : w = a0 + a1 := by
        have x1 := of_sq_le (Nat.le_of_eq (e.trans h3.symm))
        have x2 := of_sq_le (Nat.le_of_eq (e.trans h3.symm).symm)
        omega
      exact de' (by rw [s0, this]; rfl)
    · exfalso
      have : (a0 + a1) * (a0 + a1) ≤ w * w := sq_le (by omega)
      omega

end Go.Proofs.Ytjfoiicooleeiaa.Fd
