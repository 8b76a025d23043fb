/- Sums, products, doubles and halves of finite numbers: the nearest rung to the exact result; conditions: the operands are finite. -/
import Derived.Test.YtjfoiicooleeiaaFNs
namespace Go.Proofs.Ytjfoiicooleeiaa.Fs
open Ieee

/-- how many binary places the least number has; kept from being reckoned -/
def LL : Nat := 149
theorem LL_eq : LL = 149 := rfl
theorem two_mul_pow (n : Nat) : 2 * 2 ^ n = 2 ^ (n + 1) := by rw [Nat.pow_succ]; omega

theorem near_unscale {n d r c : Nat} (hc : 0 < c) (h : Near (n * c) (d * c) r) : Near n d r := by
  have e : ∀ x : Nat, x * (d * c) = x * d * c := fun x => by grind
  have e2 : 2 * (n * c) = 2 * n * c := by grind
  obtain ⟨h1, h2, h3, h4⟩ := h
  rw [e, e2] at h1 h2
  refine ⟨Nat.le_of_mul_le_mul_right h1 hc, fun g => h2 (by rw [g]), fun g => ?_, fun g g' => h4 g (by rw [e, e2, g'])⟩
  have := h3 g
  rw [e, e2] at this
  exact Nat.le_of_mul_le_mul_right this hc

/-- the value of a finite word, in units of the least number -/
def val (x : Nat) : Int := sm (sg x) (mg (rg x))

theorem sm_neg (s : Bool) (n : Nat) : sm (!s) n = -sm s n := by unfold sm; cases s <;> simp
theorem sm_natAbs (s : Bool) (n : Nat) : (sm s n).natAbs = n := by unfold sm; cases s <;> simp
theorem sm_zero_iff {s : Bool} {n : Nat} : sm s n = 0 ↔ n = 0 := by unfold sm; cases s <;> simp
theorem sm_neg_iff {s : Bool} {n : Nat} : sm s n < 0 ↔ s = true ∧ n ≠ 0 := by unfold sm; cases s <;> simp <;> omega

/-- the sign of a sum -/
def sgT (s t : Bool) (T : Int) : Bool := if T = 0 then s && t else decide (T < 0)

theorem sum_fin (s t : Bool) (m n a b : Nat) :
    ∃ r, Near (sm s (m * 2 ^ a) + sm t (n * 2 ^ b)).natAbs 1 r ∧
      (Datum.sum (.number s m (-149 + (a : Int))) (.number t n (-149 + (b : Int)))).map single.write = some (wd (sgT s t (sm s (m * 2 ^ a) + sm t (n * 2 ^ b))) (min r 2139095040)) := by
  unfold Datum.sum
  simp only [signed_eq, Option.map_some]
  have e1 : (-149 + (a : Int) - min (-149 + (a : Int)) (-149 + (b : Int))).toNat = a - min a b := by omega
  have e2 : (-149 + (b : Int) - min (-149 + (a : Int)) (-149 + (b : Int))).toNat = b - min a b := by omega
  rw [e1, e2]
  have p : ∀ c : Nat, min a b ≤ c → 2 ^ c = 2 ^ (c - min a b) * 2 ^ (min a b) := by
    intro c h; rw [← Nat.pow_add]; congr 1; omega
  have hT : sm s (m * 2 ^ a) + sm t (n * 2 ^ b) = (sm s (m * 2 ^ (a - min a b)) + sm t (n * 2 ^ (b - min a b))) * ((2 ^ min a b : Nat) : Int) := by
    rw [p a (by omega), p b (by omega), ← Nat.mul_assoc, ← Nat.mul_assoc, sm_mul _ _ (2 ^ min a b), sm_mul _ _ (2 ^ min a b), Int.add_mul]
  generalize sm s (m * 2 ^ (a - min a b)) + sm t (n * 2 ^ (b - min a b)) = U at *
  have hc : 0 < 2 ^ min a b := Nat.two_pow_pos _
  have hc' : (0 : Int) < ((2 ^ min a b : Nat) : Int) := by omega
  have place : min (-149 + (a : Int)) (-149 + (b : Int)) = -149 + ((min a b : Nat) : Int) := by omega
  rw [place]
  have hs : (if U = 0 then s && t else decide (U < 0)) = sgT s t (sm s (m * 2 ^ a) + sm t (n * 2 ^ b)) := by
    unfold sgT
    rw [hT]
    by_cases h : U = 0
    · rw [if_pos h, if_pos (by rw [h, Int.zero_mul])]
    · rw [if_neg h, if_neg (by intro g; rcases Int.mul_eq_zero.1 g with g | g <;> omega)]
      rw [Bool.eq_iff_iff]; simp only [decide_eq_true_eq]
      exact ⟨fun g => Int.mul_neg_of_neg_of_pos g hc', fun g => by
        rcases (by omega : U < 0 ∨ 0 ≤ U) with q | q
        · exact q
        · have := Int.mul_nonneg q (Int.le_of_lt hc'); omega⟩
  obtain ⟨r, h1, h2⟩ := nearest_spec (sgT s t (sm s (m * 2 ^ a) + sm t (n * 2 ^ b))) U.natAbs (-149 + ((min a b : Nat) : Int)) 0 (by omega)
  refine ⟨r, ?_, ?_⟩
  · rw [hT, Int.natAbs_mul, Int.natAbs_natCast]
    have : (-149 + ((min a b : Nat) : Int) + 149 + ((0 : Nat) : Int)).toNat = min a b := by omega
    rw [this] at h1
    exact h1
  · rw [← h2, ← hs]
    by_cases h : U = 0
    · simp only [h, if_pos]; rfl
    · simp only [h, if_false]; rfl

theorem add_fin {x y : Nat} (hx : rg x < 2139095040) (hy : rg y < 2139095040) :
    ∃ r, Near (val x + val y).natAbs 1 r ∧ single.add x y = some (wd (sgT (sg x) (sg y) (val x + val y)) (min r 2139095040)) := by
  unfold Format.add val
  rw [read_fin hx, read_fin hy, mg_fm, mg_fm]
  exact sum_fin ..

theorem sub_fin {x y : Nat} (hx : rg x < 2139095040) (hy : rg y < 2139095040) :
    ∃ r, Near (val x - val y).natAbs 1 r ∧ single.sub x y = some (wd (sgT (sg x) (!sg y) (val x - val y)) (min r 2139095040)) := by
  unfold Format.sub val
  have e : sm (sg x) (mg (rg x)) - sm (sg y) (mg (rg y)) = sm (sg x) (mg (rg x)) + sm (!sg y) (mg (rg y)) := by rw [sm_neg]; omega
  rw [read_fin hx, read_fin hy, e, mg_fm, mg_fm]
  exact sum_fin ..

theorem mul_fin {x y : Nat} (hx : rg x < 2139095040) (hy : rg y < 2139095040) :
    ∃ r, Near (mg (rg x) * mg (rg y)) (2 ^ LL) r ∧ single.mul x y = some (wd (sg x ^^ sg y) (min r 2139095040)) := by
  unfold Format.mul
  rw [read_fin hx, read_fin hy, mg_fm, mg_fm]
  unfold Datum.product
  simp only [Option.map_some]
  obtain ⟨r, h1, h2⟩ := nearest_spec (sg x ^^ sg y) (fm (rg x) * fm (rg y)) (-149 + (fp (rg x) : Int) + (-149 + (fp (rg y) : Int))) LL (by have := LL_eq; omega)
  refine ⟨r, ?_, congrArg some h2⟩
  have : (-149 + (fp (rg x) : Int) + (-149 + (fp (rg y) : Int)) + 149 + ((LL : Nat) : Int)).toNat = fp (rg x) + fp (rg y) := by have := LL_eq; omega
  rw [this, Nat.pow_add] at h1
  have e : fm (rg x) * fm (rg y) * (2 ^ fp (rg x) * 2 ^ fp (rg y)) = fm (rg x) * 2 ^ fp (rg x) * (fm (rg y) * 2 ^ fp (rg y)) := by grind
  rw [e] at h1
  exact h1

theorem fm_lt (r : Nat) : fm r < 16777216 := by unfold fm; split <;> omega

theorem half_fin {x : Nat} (hx : rg x < 2139095040) : ∃ r, Near (mg (rg x)) 2 r ∧ single.div x 1073741824 = some (wd (sg x) (min r 2139095040)) := by
  have two : single.read 1073741824 = .number false 8388608 (1 - 23) := by decide +kernel
  unfold Format.div
  rw [read_fin hx, two, mg_fm]
  unfold Datum.quotient
  simp only
  rw [if_neg (by decide)]
  generalize hm : fm (rg x) = m
  generalize fp (rg x) = p
  have hlt : m < 16777216 := by rw [← hm]; exact fm_lt _
  have lgB : Nat.log2 8388608 = 23 := by decide +kernel
  have lgm : m.log2 ≤ 23 := by
    by_cases h0 : m = 0
    · subst h0; decide
    · have := Nat.log2_self_le h0
      rcases Nat.lt_or_ge 23 m.log2 with c | c
      · have g : 2 ^ (23 + 1) ≤ 2 ^ m.log2 := Nat.pow_le_pow_right (by omega) c
        rw [← B2_pow] at g; omega
      · exact c
  have fb : single.fractionBits = 23 := rfl
  rw [lgB, fb]
  obtain ⟨u, hu⟩ : ∃ u, 23 + 2 + 23 - m.log2 = 23 + u := ⟨23 + 2 - m.log2, by omega⟩
  rw [hu, Nat.shiftLeft_eq]
  have d1 : m * 2 ^ (23 + u) = 8388608 * (m * 2 ^ u) := by rw [Nat.pow_add, ← B_pow]; grind
  have d2 : m * 2 ^ (23 + u) / 8388608 = m * 2 ^ u := by rw [d1]; exact Nat.mul_div_cancel_left _ (by omega)
  have d3 : m * 2 ^ (23 + u) % 8388608 = 0 := by rw [d1]; exact Nat.mul_mod_right _ _
  rw [d2, d3]
  have hs : (sg x ^^ false) = sg x := by cases sg x <;> rfl
  rw [hs]
  have hz : 2 * (m * 2 ^ u) + (((0 : Nat) != 0) : Bool).toNat = m * 2 ^ (u + 1) := by rw [Nat.pow_succ]; simp; grind
  rw [hz]
  obtain ⟨r, h1, h2⟩ := nearest_spec (sg x) (m * 2 ^ (u + 1)) (-149 + (p : Int) - (1 - 23) - ((23 + u : Nat) : Int) - 1) (u + 2) (by omega)
  refine ⟨r, ?_, congrArg some h2⟩
  have t : (-149 + (p : Int) - (1 - 23) - ((23 + u : Nat) : Int) - 1 + 149 + ((u + 2 : Nat) : Int)).toNat = p := by omega
  rw [t] at h1
  refine near_unscale (c := 2 ^ (u + 1)) (Nat.two_pow_pos _) ?_
  have a1 : m * 2 ^ p * 2 ^ (u + 1) = m * 2 ^ (u + 1) * 2 ^ p := by grind
  have a2 : 2 * 2 ^ (u + 1) = 2 ^ (u + 2) := two_mul_pow (u + 1)
  rw [a1, a2]; exact h1

theorem mg_pow (e : Nat) : mg (e * 8388608 + 8388608) = 2 ^ (e + 23) := by
  rw [mg_at (by omega), B_pow, pow_sum, Nat.add_comm]
theorem mg_two : mg (rg 1073741824) = 2 * 2 ^ LL := by
  obtain ⟨e, he⟩ : ∃ e : Nat, e = 127 := ⟨_, rfl⟩
  have e1 : rg 1073741824 = e * 8388608 + 8388608 := by rw [he]; decide
  have e2 : e + 23 = LL + 1 := by have := LL_eq; omega
  rw [e1, mg_pow, e2, two_mul_pow]
theorem two_fin : rg 1073741824 < 2139095040 := by decide
theorem sg_two : sg 1073741824 = false := by decide

theorem dbl_fin {x : Nat} (hx : rg x < 2139095040) : ∃ r, Near (2 * mg (rg x)) 1 r ∧ single.mul x 1073741824 = some (wd (sg x) (min r 2139095040)) := by
  obtain ⟨r, h1, h2⟩ := mul_fin hx two_fin
  rw [sg_two, mg_two] at *
  have hs : (sg x ^^ false) = sg x := by cases sg x <;> rfl
  rw [hs] at h2
  refine ⟨r, near_unscale (c := 2 ^ LL) (Nat.two_pow_pos _) ?_, h2⟩
  have a1 : 2 * mg (rg x) * 2 ^ LL = mg (rg x) * (2 * 2 ^ LL) := by grind
  rw [a1, Nat.one_mul]; exact h1

/-- twice a rung's magnitude is that of a rung -/
def dbl (r : Nat) : Nat := if r < 8388608 then 2 * r else r + 8388608
theorem mg_dbl (r : Nat) : mg (dbl r) = 2 * mg r := by
  unfold dbl
  by_cases c : r < 8388608
  · rw [if_pos c]
    have := mg_at (e := 0) (q := 2 * r) (by omega)
    have h2 := mg_at (e := 0) (q := r) (by omega)
    rw [Nat.zero_mul, Nat.zero_add, Nat.pow_zero, Nat.mul_one] at this h2
    rw [this, h2]
  · rw [if_neg c]
    unfold mg
    rw [if_neg (by omega), if_neg c]
    have e1 : (r + 8388608) % 8388608 = r % 8388608 := by omega
    have e2 : (r + 8388608) / 8388608 - 1 = r / 8388608 - 1 + 1 := by omega
    rw [e1, e2, Nat.pow_succ]
    generalize 2 ^ (r / 8388608 - 1) = z
    grind

theorem near_one_exact {n r : Nat} (h : n = mg r) : Near n 1 r := by
  have := near_exact r 1 (by omega)
  rw [Nat.mul_one, ← h] at this; exact this

theorem dbl_exact {x : Nat} (hx : rg x < 2139095040) : single.mul x 1073741824 = some (wd (sg x) (min (dbl (rg x)) 2139095040)) := by
  obtain ⟨r, h1, h2⟩ := dbl_fin hx
  have := near_unique (by omega) (by omega) h1 (near_one_exact (mg_dbl (rg x)).symm) rfl
  rw [h2, this]

theorem half_exact {x r : Nat} (hx : rg x < 2139095040) (h : dbl r = rg x) : single.div x 1073741824 = some (wd (sg x) r) := by
  obtain ⟨r', h1, h2⟩ := half_fin hx
  have e := near_exact r 2 (by omega)
  have hm : mg r * 2 = mg (rg x) := by rw [← h, mg_dbl]; omega
  rw [hm] at e
  have := near_unique (by omega) (by omega) h1 e rfl
  have hr : r ≤ 2139095040 := by unfold dbl at h; split at h <;> omega
  rw [h2, this, Nat.min_eq_left hr]

theorem mg_mono_min {n d r : Nat} (h : Near n d r) (hd : 0 < d) (b : Nat) (hb : mg b * d ≤ n) : b ≤ r :=
  near_mono hd hd (near_exact b d hd) h (Nat.mul_le_mul_right d hb)
theorem mg_mono_max {n d r : Nat} (h : Near n d r) (hd : 0 < d) (b : Nat) (hb : n ≤ mg b * d) : r ≤ b :=
  near_mono hd hd h (near_exact b d hd) (Nat.mul_le_mul_right d hb)

theorem mg_small {m : Nat} (h : m ≤ 16777216) : mg m = m := by
  have := mg_at (e := 0) (q := m) (by omega)
  rw [Nat.zero_mul, Nat.zero_add, Nat.pow_zero, Nat.mul_one] at this
  exact this

end Go.Proofs.Ytjfoiicooleeiaa.Fs
