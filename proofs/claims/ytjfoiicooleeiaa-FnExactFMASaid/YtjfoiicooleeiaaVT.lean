/- Digits to the base of 2^32, as a function of their places, and the number that they are; no program in sight; conditions: as told in each line. -/
namespace Go.Proofs.Ytjfoiicooleeiaa.Dg

/-- the number of the first k digits -/
def vt (f : Nat → Nat) : Nat → Nat
  | 0 => 0
  | k + 1 => vt f k + f k * 2 ^ (32 * k)
theorem pow32 (k : Nat) : 2 ^ (32 * (k + 1)) = 4294967296 * 2 ^ (32 * k) := by
  rw [Nat.mul_add, Nat.pow_add]; omega
theorem pos32 (k : Nat) : 0 < 2 ^ (32 * k) := Nat.two_pow_pos _
theorem vt_lt {f : Nat → Nat} (h : ∀ j, f j < 4294967296) : ∀ k, vt f k < 2 ^ (32 * k)
  | 0 => by simp [vt]
  | k + 1 => by
    have ih := vt_lt h k
    have a := h k
    have : (f k + 1) * 2 ^ (32 * k) ≤ 4294967296 * 2 ^ (32 * k) := Nat.mul_le_mul_right _ a
    rw [Nat.add_mul, Nat.one_mul] at this
    rw [pow32, vt]; omega
theorem vt_congr {f g : Nat → Nat} : ∀ k, (∀ j, j < k → f j = g j) → vt f k = vt g k
  | 0, _ => rfl
  | k + 1, h => by rw [vt, vt, vt_congr k (fun j hj => h j (by omega)), h k (by omega)]
theorem vt_more {f : Nat → Nat} (k : Nat) : ∀ t, ∃ X, vt f (k + t) = vt f k + 2 ^ (32 * k) * X
  | 0 => ⟨0, by simp⟩
  | t + 1 => by
    obtain ⟨X, hX⟩ := vt_more (f := f) k t
    refine ⟨X + f (k + t) * 2 ^ (32 * t), ?_⟩
    rw [← Nat.add_assoc, vt, hX, Nat.mul_add 32, Nat.pow_add, Nat.mul_add]
    generalize 2 ^ (32 * k) = p
    generalize 2 ^ (32 * t) = q
    grind
theorem vt_mono {f : Nat → Nat} {a b : Nat} (h : a ≤ b) : vt f a ≤ vt f b := by
  obtain ⟨X, hX⟩ := vt_more (f := f) a (b - a)
  rw [show a + (b - a) = b by omega] at hX
  rw [hX]; exact Nat.le_add_right _ _
theorem vt_stop {f : Nat → Nat} {k m : Nat} (hk : k ≤ m) (h : ∀ j, k ≤ j → f j = 0) : vt f m = vt f k := by
  induction m with
  | zero => rw [show k = 0 by omega]
  | succ m ih =>
    rcases Nat.lt_or_ge m k with c | c
    · rw [show k = m + 1 by omega]
    · rw [vt, ih c, h m c, Nat.zero_mul, Nat.add_zero]
/-- a digit out of the number -/
theorem vt_digit {f : Nat → Nat} (h : ∀ j, f j < 4294967296) {j m : Nat} (hj : j < m) : vt f m / 2 ^ (32 * j) % 4294967296 = f j := by
  obtain ⟨X, hX⟩ := vt_more (f := f) (j + 1) (m - (j + 1))
  rw [show j + 1 + (m - (j + 1)) = m by omega, vt, pow32] at hX
  have lo := vt_lt h j
  have p := pos32 j
  have e : vt f m = vt f j + 2 ^ (32 * j) * (f j + 4294967296 * X) := by
    rw [hX]; generalize 2 ^ (32 * j) = q; grind
  rw [e, Nat.add_mul_div_left _ _ p, Nat.div_eq_of_lt lo, Nat.zero_add]
  have := h j
  omega
/-- one place is changed -/
theorem vt_set {f g : Nat → Nat} {p : Nat} (h : ∀ j, j ≠ p → g j = f j) : ∀ m, p < m → vt g m + f p * 2 ^ (32 * p) = vt f m + g p * 2 ^ (32 * p)
  | 0, hp => by omega
  | m + 1, hp => by
    rcases Nat.lt_or_ge p m with c | c
    · have ih := vt_set h m c
      rw [vt, vt, h m (by omega)]; omega
    · have : p = m := by omega
      subst this
      rw [vt, vt, vt_congr (f := g) (g := f) p (fun j hj => h j (by omega))]; omega

/-- a digit of a list, 0 behind its end -/
def dg (l : List Nat) (j : Nat) : Nat := l.getD j 0
theorem dg_out {l : List Nat} {j : Nat} (h : l.length ≤ j) : dg l j = 0 := by
  unfold dg; rw [List.getD_eq_getElem?_getD, List.getElem?_eq_none h]; rfl
theorem dg_in {l : List Nat} {j : Nat} (h : j < l.length) : l[j]? = some (dg l j) := by
  unfold dg; rw [List.getD_eq_getElem?_getD, List.getElem?_eq_getElem h]; rfl
/-- the number of a list of digits -/
def nl (l : List Nat) : Nat := vt (dg l) l.length
theorem vt_nl {l : List Nat} {m : Nat} (h : l.length ≤ m) : vt (dg l) m = nl l := vt_stop h fun _ hj => dg_out hj
theorem nl_nil : nl [] = 0 := rfl
theorem dg_snoc_lt {l : List Nat} {d j : Nat} (h : j < l.length) : dg (l ++ [d]) j = dg l j := by
  unfold dg; rw [List.getD_eq_getElem?_getD, List.getD_eq_getElem?_getD, List.getElem?_append_left h]
theorem dg_snoc_eq {l : List Nat} {d : Nat} : dg (l ++ [d]) l.length = d := by
  unfold dg; rw [List.getD_eq_getElem?_getD]; simp
theorem nl_snoc (l : List Nat) (d : Nat) : nl (l ++ [d]) = nl l + d * 2 ^ (32 * l.length) := by
  unfold nl
  rw [List.length_append, List.length_singleton, vt, dg_snoc_eq, vt_congr (g := dg l) l.length fun j hj => dg_snoc_lt hj]
theorem dg_take {l : List Nat} {n j : Nat} (h : j < n) : dg (l.take n) j = dg l j := by
  unfold dg; rw [List.getD_eq_getElem?_getD, List.getD_eq_getElem?_getD, List.getElem?_take, if_pos h]
theorem nl_take {l : List Nat} {n : Nat} (h : n ≤ l.length) : nl (l.take n) = vt (dg l) n := by
  unfold nl
  rw [List.length_take, Nat.min_eq_left h]
  exact vt_congr n fun j hj => dg_take hj
/-- all are digits -/
def Ok (l : List Nat) : Prop := ∀ d ∈ l, d < 4294967296
theorem Ok.dg {l : List Nat} (h : Ok l) (j : Nat) : dg l j < 4294967296 := by
  rcases Nat.lt_or_ge j l.length with c | c
  · have e := dg_in c
    exact h _ (List.mem_of_getElem? e)
  · rw [dg_out c]; omega
theorem Ok.take {l : List Nat} (h : Ok l) (n : Nat) : Ok (l.take n) := fun d hd => h d (List.mem_of_mem_take hd)
theorem Ok.snoc {l : List Nat} (h : Ok l) {d : Nat} (hd : d < 4294967296) : Ok (l ++ [d]) := by
  intro x hx
  rcases List.mem_append.1 hx with c | c
  · exact h x c
  · rw [List.mem_singleton.1 c]; exact hd
theorem nl_lt {l : List Nat} (h : Ok l) : nl l < 2 ^ (32 * l.length) := vt_lt h.dg _
theorem nl_digit {l : List Nat} (h : Ok l) (j : Nat) : nl l / 2 ^ (32 * j) % 4294967296 = dg l j := by
  rcases Nat.lt_or_ge j l.length with c | c
  · exact vt_digit h.dg c
  · rw [dg_out c, Nat.div_eq_of_lt]
    · exact Nat.lt_of_lt_of_le (nl_lt h) (Nat.pow_le_pow_right (by omega) (by omega))
/-- a binary digit out of the number -/
theorem nl_bit {l : List Nat} (h : Ok l) (p : Nat) : dg l (p / 32) / 2 ^ (p % 32) % 2 = nl l / 2 ^ p % 2 := by
  have e : 2 ^ p = 2 ^ (32 * (p / 32)) * 2 ^ (p % 32) := by rw [← Nat.pow_add]; congr 1; omega
  rw [← nl_digit h (p / 32), e, ← Nat.div_div_eq_div_mul]
  generalize nl l / 2 ^ (32 * (p / 32)) = x
  have hr : p % 32 < 32 := Nat.mod_lt _ (by omega)
  generalize p % 32 = r at *
  have e2 : (4294967296 : Nat) = 2 ^ r * (2 * 2 ^ (31 - r)) := by
    have : (4294967296 : Nat) = 2 ^ 32 := by decide
    rw [this, show (32 : Nat) = r + (1 + (31 - r)) by omega, Nat.pow_add, Nat.pow_add]
  rw [e2, Nat.mod_mul_right_div_self, Nat.mod_mul_right_mod]
/-- the digits of a list with one place changed -/
theorem dg_set_eq {l : List Nat} {p d : Nat} (h : p < l.length) : dg (l.set p d) p = d := by
  unfold dg; rw [List.getD_eq_getElem?_getD, List.getElem?_set_self h]; rfl
theorem dg_set_ne {l : List Nat} {p d j : Nat} (h : j ≠ p) : dg (l.set p d) j = dg l j := by
  unfold dg; rw [List.getD_eq_getElem?_getD, List.getD_eq_getElem?_getD, List.getElem?_set_ne (Ne.symm h)]
theorem nl_set {l : List Nat} {p d : Nat} (h : p < l.length) : nl (l.set p d) + dg l p * 2 ^ (32 * p) = nl l + d * 2 ^ (32 * p) := by
  have := vt_set (f := dg l) (g := dg (l.set p d)) (p := p) (fun j hj => dg_set_ne hj) l.length h
  rw [dg_set_eq h] at this
  unfold nl
  rw [List.length_set]; exact this
theorem Ok.set {l : List Nat} (h : Ok l) {p d : Nat} (hd : d < 4294967296) : Ok (l.set p d) := by
  intro x hx
  rcases List.mem_or_eq_of_mem_set hx with c | c
  · exact h x c
  · rw [c]; exact hd
theorem nl_replicate (n : Nat) : nl (List.replicate n 0) = 0 := by
  unfold nl
  have : ∀ m, vt (dg (List.replicate n 0)) m = 0 := by
    intro m
    induction m with
    | zero => rfl
    | succ m ih =>
      rw [vt, ih]
      have : dg (List.replicate n 0) m = 0 := by
        unfold dg; rw [List.getD_eq_getElem?_getD, List.getElem?_replicate]; split <;> rfl
      rw [this]; omega
  exact this _
theorem Ok.replicate (n : Nat) : Ok (List.replicate n 0) := by
  intro d hd; rw [(List.mem_replicate.1 hd).2]; omega
/-- a digit at a place that is an integer -/
def di (l : List Nat) (i : Int) : Nat := if i < 0 then 0 else dg l i.toNat
theorem di_nat (l : List Nat) (j : Nat) : di l (j : Int) = dg l j := by
  unfold di; rw [if_neg (by omega), Int.toNat_natCast]
theorem di_neg {l : List Nat} {i : Int} (h : i < 0) : di l i = 0 := by unfold di; rw [if_pos h]
theorem Ok.di {l : List Nat} (h : Ok l) (i : Int) : di l i < 4294967296 := by
  unfold Dg.di; split
  · omega
  · exact h.dg _
end Go.Proofs.Ytjfoiicooleeiaa.Dg
