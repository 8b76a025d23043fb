/- Rounding: the nearest rung to a rational number, and that the model's rounding finds it; no condition but that the denominator is not nought. -/
import Derived.Test.YtjfoiicooleeiaaFd
namespace Go.Proofs.Ytjfoiicooleeiaa.Fd
open Ieee

/-- the nearest whole number to 'n / d', halves to even -/
def rne (n d : Nat) : Nat := n / d + (if d < 2 * (n % d) ∨ (d = 2 * (n % d) ∧ n / d % 2 = 1) then 1 else 0)

theorem cut_even (s : Bool) (n drop : Nat) : Toward.even.cut s n drop = rne n (2 ^ drop) := by
  have core : ∀ g : Nat, (n / g + ((decide (g < 2 * (n % g)) || (g == 2 * (n % g) && n / g % 2 == 1)) : Bool).toNat) = rne n g := by
    intro g
    unfold rne
    congr 1
    by_cases c : g < 2 * (n % g) ∨ (g = 2 * (n % g) ∧ n / g % 2 = 1)
    · rw [if_pos c]
      have : (decide (g < 2 * (n % g)) || (g == 2 * (n % g) && n / g % 2 == 1)) = true := by simpa using c
      rw [this]; rfl
    · rw [if_neg c]
      have : (decide (g < 2 * (n % g)) || (g == 2 * (n % g) && n / g % 2 == 1)) = false := by
        rw [← Bool.not_eq_true]; intro h; exact c (by simpa using h)
      rw [this]; rfl
  unfold Toward.cut
  simp only
  rw [core, Nat.one_shiftLeft]
  by_cases h : drop ≤ n.log2 + 2
  · rw [Nat.min_eq_left h]
  · rw [Nat.min_eq_right (by omega)]
    have zero : ∀ j, n.log2 + 2 ≤ j → rne n (2 ^ j) = 0 := by
      intro j hj
      have h1 : n < 2 ^ (n.log2 + 1) := Nat.lt_log2_self
      have h2 : 2 ^ (n.log2 + 2) ≤ 2 ^ j := Nat.pow_le_pow_right (by omega) hj
      have h3 : 2 ^ (n.log2 + 2) = 2 * 2 ^ (n.log2 + 1) := by rw [Nat.pow_succ]; omega
      unfold rne
      rw [Nat.div_eq_of_lt (by omega), Nat.mod_eq_of_lt (by omega), if_neg (by omega)]
    rw [zero _ (by omega), zero _ (by omega)]

theorem rne_spec (n d : Nat) (hd : 0 < d) :
    2 * n ≤ (2 * rne n d + 1) * d ∧ (2 * n = (2 * rne n d + 1) * d → rne n d % 2 = 0) ∧
    2 * rne n d * d ≤ 2 * n + d ∧ (2 * rne n d * d = 2 * n + d → rne n d % 2 = 0) ∧ n / d ≤ rne n d ∧ rne n d ≤ n / d + 1 := by
  have hn : d * (n / d) + n % d = n := Nat.div_add_mod n d
  have hb : n % d < d := Nat.mod_lt _ hd
  unfold rne
  generalize n / d = a at *
  generalize n % d = b at *
  have e0 : (2 * a + 1) * d = 2 * (d * a) + d := by grind
  have e1 : (2 * (a + 1) + 1) * d = 2 * (d * a) + 3 * d := by grind
  have e2 : 2 * a * d = 2 * (d * a) := by grind
  have e3 : 2 * (a + 1) * d = 2 * (d * a) + 2 * d := by grind
  split
  · rename_i h
    rw [e1, e3]
    generalize d * a = p at *
    refine ⟨by omega, fun _ => by omega, by omega, fun _ => by omega, by omega, by omega⟩
  · rename_i h
    simp only [Nat.add_zero, e0, e2]
    generalize d * a = p at *
    refine ⟨by omega, fun _ => by omega, by omega, fun _ => by omega, by omega, by omega⟩

/-- the nearest rung to 'n / d' of the least number; between two, the even one -/
structure Near (n d r : Nat) : Prop where
  up : 2 * n ≤ (mg r + mg (r + 1)) * d
  upEven : 2 * n = (mg r + mg (r + 1)) * d → r % 2 = 0
  down : 0 < r → (mg (r - 1) + mg r) * d ≤ 2 * n
  downEven : 0 < r → (mg (r - 1) + mg r) * d = 2 * n → r % 2 = 0

/-- to a number that is not less there is no lesser rung -/
theorem near_mono {n d n' d' r r' : Nat} (hd : 0 < d) (hd' : 0 < d') (h : Near n d r) (h' : Near n' d' r') (le : n * d' ≤ n' * d) : r ≤ r' := by
  rcases Nat.lt_or_ge r' r with c | c
  · exfalso
    have g1 := h'.up
    have g2 := h.down (by omega)
    have m1 : mg r' + mg (r' + 1) ≤ mg (r - 1) + mg r := Nat.add_le_add (mg_le (by omega)) (mg_le (by omega))
    have k1 : 2 * n' * d ≤ (mg r' + mg (r' + 1)) * d' * d := Nat.mul_le_mul_right d g1
    have k2 : (mg (r - 1) + mg r) * d * d' ≤ 2 * n * d' := Nat.mul_le_mul_right d' g2
    have k3 : (mg r' + mg (r' + 1)) * (d' * d) ≤ (mg (r - 1) + mg r) * (d' * d) := Nat.mul_le_mul_right _ m1
    have t1 : 2 * n' * d = 2 * (n' * d) := by grind
    have t2 : 2 * n * d' = 2 * (n * d') := by grind
    have t3 : (mg r' + mg (r' + 1)) * d' * d = (mg r' + mg (r' + 1)) * (d' * d) := by grind
    have t4 : (mg (r - 1) + mg r) * d * d' = (mg (r - 1) + mg r) * (d' * d) := by grind
    have q1 : (mg r' + mg (r' + 1)) * (d' * d) = (mg (r - 1) + mg r) * (d' * d) := by omega
    have q2 : mg r' + mg (r' + 1) = mg (r - 1) + mg r := Nat.eq_of_mul_eq_mul_right (Nat.mul_pos hd' hd) q1
    have a1 : mg r' ≤ mg (r - 1) := mg_le (by omega)
    have a2 : mg (r' + 1) ≤ mg r := mg_le (by omega)
    have b1 : r' + 1 = r := mg_inj.1 (by omega)
    have e1 : 2 * n' = (mg r' + mg (r' + 1)) * d' := Nat.eq_of_mul_eq_mul_right hd (by omega)
    have e2 : (mg (r - 1) + mg r) * d = 2 * n := Nat.eq_of_mul_eq_mul_right hd' (by omega)
    have p1 := h'.upEven e1
    have p2 := h.downEven (by omega) e2
    omega
  · exact c

theorem near_unique {n d n' d' r r' : Nat} (hd : 0 < d) (hd' : 0 < d') (h : Near n d r) (h' : Near n' d' r') (e : n * d' = n' * d) : r = r' :=
  Nat.le_antisymm (near_mono hd hd' h h' (by omega)) (near_mono hd' hd h' h (by omega))

theorem near_scale {n d r c : Nat} (hc : 0 < c) (h : Near n d r) : Near (n * c) (d * c) r := by
  have e : ∀ x : Nat, x * (d * c) = x * d * c := fun x => by grind
  have e2 : 2 * (n * c) = 2 * n * c := by grind
  refine ⟨?_, ?_, ?_, ?_⟩
  · rw [e, e2]; exact Nat.mul_le_mul_right c h.up
  · rw [e, e2]; exact fun g => h.upEven (Nat.eq_of_mul_eq_mul_right hc g)
  · rw [e, e2]; exact fun g => Nat.mul_le_mul_right c (h.down g)
  · rw [e, e2]; exact fun g g' => h.downEven g (Nat.eq_of_mul_eq_mul_right hc g')

/-- what is a rung's magnitude has this rung for the nearest one -/
theorem near_exact (r d : Nat) (hd : 0 < d) : Near (mg r * d) d r := by
  have l := mg_lt_succ r
  have u : 2 * (mg r * d) = 2 * mg r * d := by grind
  refine ⟨?_, ?_, ?_, ?_⟩
  · rw [u]; exact Nat.mul_le_mul_right d (by omega)
  · rw [u]; intro h; have := Nat.eq_of_mul_eq_mul_right hd h; omega
  · rw [u]; intro h; have g := @mg_lt (r - 1) r (by omega); exact Nat.mul_le_mul_right d (by omega)
  · rw [u]; intro h h'; have g := @mg_lt (r - 1) r (by omega); have := Nat.eq_of_mul_eq_mul_right hd h'; omega

theorem mg_at {e q : Nat} (h : (e = 0 ∧ q ≤ 9007199254740992) ∨ (4503599627370496 ≤ q ∧ q ≤ 9007199254740992)) : mg (e * 4503599627370496 + q) = q * 2 ^ e := by
  unfold mg
  rcases Nat.lt_or_ge q 4503599627370496 with c | c
  · have : e = 0 := by omega
    subst this
    rw [if_pos (by omega)]; simp
  · rcases Nat.lt_or_ge q 9007199254740992 with g | g
    · rw [if_neg (by omega)]
      have e1 : (e * 4503599627370496 + q) % 4503599627370496 = q - 4503599627370496 := by omega
      have e2 : (e * 4503599627370496 + q) / 4503599627370496 - 1 = e := by omega
      have e3 : 4503599627370496 + (q - 4503599627370496) = q := by omega
      rw [e1, e2, e3]
    · have hq : q = 9007199254740992 := by omega
      rw [if_neg (by omega)]
      have e1 : (e * 4503599627370496 + q) % 4503599627370496 = 0 := by omega
      have e2 : (e * 4503599627370496 + q) / 4503599627370496 - 1 = e + 1 := by omega
      rw [e1, e2, Nat.pow_succ, hq]
      generalize 2 ^ e = z
      omega

theorem near_of_kept {n d e q : Nat} (hr : (e = 0 ∧ q ≤ 9007199254740992) ∨ (4503599627370496 ≤ q ∧ q ≤ 9007199254740992)) (hlow : 0 < e → 4503599627370496 * 2 ^ e * d ≤ n)
    (h1 : 2 * n ≤ (2 * q + 1) * 2 ^ e * d) (h2 : 2 * n = (2 * q + 1) * 2 ^ e * d → q % 2 = 0)
    (h3 : 2 * q * 2 ^ e * d ≤ 2 * n + 2 ^ e * d) (h4 : 2 * q * 2 ^ e * d = 2 * n + 2 ^ e * d → q % 2 = 0) : Near n d (e * 4503599627370496 + q) := by
  have par : (e * 4503599627370496 + q) % 2 = q % 2 := by omega
  have hp : 0 < 2 ^ e := Nat.two_pow_pos e
  have m0 := mg_at hr
  have m1 : (q + 1) * 2 ^ e ≤ mg (e * 4503599627370496 + q + 1) := by
    rcases Nat.lt_or_ge q 9007199254740992 with g | g
    · rw [Nat.add_assoc, mg_at (by omega)]; exact Nat.le_refl _
    · have hq : q = 9007199254740992 := by omega
      have : e * 4503599627370496 + q + 1 = (e + 1) * 4503599627370496 + (4503599627370496 + 1) := by omega
      rw [this, mg_at (by omega), Nat.pow_succ, hq]
      generalize 2 ^ e = z
      omega
  have s1 : (2 * q + 1) * 2 ^ e ≤ mg (e * 4503599627370496 + q) + mg (e * 4503599627370496 + q + 1) := by
    rw [m0]; have : (2 * q + 1) * 2 ^ e = q * 2 ^ e + (q + 1) * 2 ^ e := by grind
    omega
  have s2 := Nat.mul_le_mul_right d s1
  refine ⟨by omega, ?_, ?_, ?_⟩
  · intro h; rw [par]; exact h2 (by omega)
  · intro h
    by_cases c : q = 4503599627370496 ∧ 0 < e
    · obtain ⟨hq, he⟩ := c
      have l := hlow he
      have g := @mg_le (e * 4503599627370496 + q - 1) (e * 4503599627370496 + q) (by omega)
      have : (mg (e * 4503599627370496 + q - 1) + mg (e * 4503599627370496 + q)) * d ≤ (2 * mg (e * 4503599627370496 + q)) * d := Nat.mul_le_mul_right d (by omega)
      have t : 2 * mg (e * 4503599627370496 + q) * d = 2 * (4503599627370496 * 2 ^ e * d) := by rw [m0, hq]; generalize 2 ^ e = z; grind
      omega
    · have hq : 0 < q := by omega
      have mm : mg (e * 4503599627370496 + q - 1) = (q - 1) * 2 ^ e := by
        have : e * 4503599627370496 + q - 1 = e * 4503599627370496 + (q - 1) := by omega
        rw [this, mg_at (by omega)]
      rw [mm, m0]
      obtain ⟨p, rfl⟩ : ∃ p, q = p + 1 := ⟨q - 1, by omega⟩
      have t1 : (p + 1 - 1) * 2 ^ e + (p + 1) * 2 ^ e = (2 * p + 1) * 2 ^ e := by rw [Nat.add_sub_cancel]; grind
      have t2 : 2 * (p + 1) * 2 ^ e * d = (2 * p + 1) * 2 ^ e * d + 2 ^ e * d := by grind
      rw [t1]; omega
  · intro h h'
    by_cases c : q = 4503599627370496 ∧ 0 < e
    · rw [par, c.1]
    · have hq : 0 < q := by omega
      have mm : mg (e * 4503599627370496 + q - 1) = (q - 1) * 2 ^ e := by
        have : e * 4503599627370496 + q - 1 = e * 4503599627370496 + (q - 1) := by omega
        rw [this, mg_at (by omega)]
      rw [mm, m0] at h'
      obtain ⟨p, rfl⟩ : ∃ p, q = p + 1 := ⟨q - 1, by omega⟩
      have t1 : (p + 1 - 1) * 2 ^ e + (p + 1) * 2 ^ e = (2 * p + 1) * 2 ^ e := by rw [Nat.add_sub_cancel]; grind
      have t2 : 2 * (p + 1) * 2 ^ e * d = (2 * p + 1) * 2 ^ e * d + 2 ^ e * d := by grind
      rw [t1] at h'
      rw [par]; exact h4 (by omega)

theorem pow_sum {a b : Nat} : 2 ^ a * 2 ^ b = 2 ^ (a + b) := (Nat.pow_add 2 a b).symm

theorem nearest_def {s : Bool} {mag : Nat} {place : Int} (h0 : mag ≠ 0) : double.nearest s mag place = wd s (min ((max (place + mag.log2 - 52) (-1074) - -1074).toNat * 4503599627370496 + Toward.even.cut s (mag <<< (place - max (place + mag.log2 - 52) (-1074)).toNat) (max (place + mag.log2 - 52) (-1074) - place).toNat) 9218868437227405312) := by
  unfold Format.nearest; rw [if_neg h0]; rfl

theorem near_of_rne {N D n E K e q : Nat} (hE : 2 ^ e = E) (hD : 0 < D) (hK : 0 < K) (link : n * D = N * (E * K))
    (hr : (e = 0 ∧ q ≤ 9007199254740992) ∨ (4503599627370496 ≤ q ∧ q ≤ 9007199254740992)) (lowN : 0 < e → 4503599627370496 * D ≤ N)
    (r1 : 2 * N ≤ (2 * q + 1) * D) (r2 : 2 * N = (2 * q + 1) * D → q % 2 = 0) (r3 : 2 * q * D ≤ 2 * N + D) (r4 : 2 * q * D = 2 * N + D → q % 2 = 0) :
    Near n K (e * 4503599627370496 + q) := by
  have hE0 : 0 < E := by rw [← hE]; exact Nat.two_pow_pos e
  have hP : 0 < E * K := Nat.mul_pos hE0 hK
  have g2 : 2 * N * (E * K) = 2 * n * D := by rw [Nat.mul_assoc, ← link]; grind
  have g3 : (2 * q + 1) * D * (E * K) = (2 * q + 1) * E * K * D := by grind
  have g4 : (2 * N + D) * (E * K) = (2 * n + E * K) * D := by
    have : (2 * N + D) * (E * K) = 2 * (N * (E * K)) + D * (E * K) := by grind
    rw [this, ← link]; grind
  have g5 : 2 * q * D * (E * K) = 2 * q * E * K * D := by grind
  refine near_of_kept hr ?_ ?_ ?_ ?_ ?_
  · intro he
    rw [hE]
    have g1 := Nat.mul_le_mul_right (E * K) (lowN he)
    rw [← link] at g1
    have g6 : ∀ b : Nat, b * D * (E * K) = b * E * K * D := by intro b; grind
    rw [g6] at g1
    exact Nat.le_of_mul_le_mul_right g1 hD
  · rw [hE]
    have g1 := Nat.mul_le_mul_right (E * K) r1
    rw [g2, g3] at g1
    exact Nat.le_of_mul_le_mul_right g1 hD
  · rw [hE]
    intro h
    apply r2
    exact Nat.eq_of_mul_eq_mul_right hP (by rw [g2, g3, h])
  · rw [hE]
    have g1 := Nat.mul_le_mul_right (E * K) r3
    rw [g4, g5] at g1
    exact Nat.le_of_mul_le_mul_right g1 hD
  · rw [hE]
    intro h
    apply r4
    exact Nat.eq_of_mul_eq_mul_right hP (by rw [g4, g5, h])

theorem B2_pow : (9007199254740992 : Nat) = 2 ^ (52 + 1) := by decide
theorem B_pow : (4503599627370496 : Nat) = 2 ^ 52 := by decide

/-- THE MODEL's ROUNDING FINDS THE NEAREST RUNG. -/
theorem nearest_spec (s : Bool) (mag : Nat) (place : Int) (k : Nat) (hk : 0 ≤ place + 1074 + k) :
    ∃ r, Near (mag * 2 ^ (place + 1074 + k).toNat) (2 ^ k) r ∧ double.nearest s mag place = wd s (min r 9218868437227405312) := by
  by_cases h0 : mag = 0
  · subst h0
    refine ⟨0, ?_, by unfold Format.nearest; rw [if_pos rfl]; rfl⟩
    rw [Nat.zero_mul]
    have := near_exact 0 (2 ^ k) (Nat.two_pow_pos k)
    rw [mg_zero, Nat.zero_mul] at this
    exact this
  · rw [nearest_def h0, cut_even, Nat.shiftLeft_eq]
    have l1 := Nat.log2_self_le h0
    have l2 : mag < 2 ^ (mag.log2 + 1) := Nat.lt_log2_self
    generalize mag.log2 = lg at *
    obtain ⟨ee, hee⟩ : ∃ ee : Nat, max (place + lg - 52) (-1074) = -1074 + (ee : Int) := ⟨(max (place + lg - 52) (-1074) + 1074).toNat, by omega⟩
    rw [hee]
    have x1 : (-1074 + (ee : Int) - -1074).toNat = ee := by omega
    rw [x1]
    obtain ⟨a, ha⟩ : ∃ a, a = (place - (-1074 + (ee : Int))).toNat := ⟨_, rfl⟩
    obtain ⟨b, hb⟩ : ∃ b, b = (-1074 + (ee : Int) - place).toNat := ⟨_, rfl⟩
    obtain ⟨t, ht⟩ : ∃ t, t = (place + 1074 + (k : Int)).toNat := ⟨_, rfl⟩
    rw [← ha, ← hb, ← ht]
    have rel : t + b = a + (ee + k) := by omega
    have hD : 0 < 2 ^ b := Nat.two_pow_pos b
    have hK : 0 < 2 ^ k := Nat.two_pow_pos k
    obtain ⟨r1, r2, r3, r4, r5, r6⟩ := rne_spec (mag * 2 ^ a) (2 ^ b) hD
    have link : mag * 2 ^ t * 2 ^ b = mag * 2 ^ a * (2 ^ ee * 2 ^ k) := by
      rw [Nat.mul_assoc, pow_sum, Nat.mul_assoc, pow_sum, pow_sum, rel]
    have topN : mag * 2 ^ a < 9007199254740992 * 2 ^ b := by
      have : mag * 2 ^ a < 2 ^ (lg + 1) * 2 ^ a := Nat.mul_lt_mul_of_pos_right l2 (Nat.two_pow_pos a)
      rw [pow_sum] at this
      rw [B2_pow, pow_sum]
      exact Nat.lt_of_lt_of_le this (Nat.pow_le_pow_right (by omega) (by omega))
    have lowN : 0 < ee → 4503599627370496 * 2 ^ b ≤ mag * 2 ^ a := by
      intro he
      have : 2 ^ lg * 2 ^ a ≤ mag * 2 ^ a := Nat.mul_le_mul_right _ l1
      rw [pow_sum] at this
      rw [B_pow, pow_sum]
      exact Nat.le_trans (Nat.pow_le_pow_right (by omega) (by omega)) this
    have hq1 : rne (mag * 2 ^ a) (2 ^ b) ≤ 9007199254740992 := by
      have : mag * 2 ^ a / 2 ^ b < 9007199254740992 := (Nat.div_lt_iff_lt_mul hD).2 topN
      omega
    have hq2 : 0 < ee → 4503599627370496 ≤ rne (mag * 2 ^ a) (2 ^ b) := by
      intro he
      have : 4503599627370496 ≤ mag * 2 ^ a / 2 ^ b := (Nat.le_div_iff_mul_le hD).2 (lowN he)
      omega
    exact ⟨_, near_of_rne rfl hD hK link (by omega) lowN r1 r2 r3 r4, rfl⟩

/-- A number that is a rung's magnitude is written as this rung. -/
theorem nearest_exact (s : Bool) (mag : Nat) (place : Int) (k r : Nat) (hk : 0 ≤ place + 1074 + k) (h : mag * 2 ^ (place + 1074 + k).toNat = mg r * 2 ^ k) :
    double.nearest s mag place = wd s (min r 9218868437227405312) := by
  obtain ⟨r', h1, h2⟩ := nearest_spec s mag place k hk
  rw [h] at h1
  rw [h2, near_unique (Nat.two_pow_pos k) (Nat.two_pow_pos k) h1 (near_exact r _ (Nat.two_pow_pos k)) rfl]

end Go.Proofs.Ytjfoiicooleeiaa.Fd
