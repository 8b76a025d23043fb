/- A number times a power of 2, rounded once: the nearest rung; conditions: as told in each line. -/
import Derived.Test.YtjfoiicooleeiaaDQ
namespace Go.Proofs.Ytjfoiicooleeiaa.Fd
open Ieee

/-- R is the nearest rung to the rung r times 2 to the power of k -/
def LQ (r : Nat) (k : Int) (R : Nat) : Prop := ∃ a b : Nat, k = (a : Int) - b ∧ Near (mg r * 2 ^ a) (2 ^ b) R

theorem lq_value {r r' R R' : Nat} {k k' : Int} (h : LQ r k R) (h' : LQ r' k' R') (e : ∃ c d : Nat, k + d = k' + c ∧ mg r * 2 ^ c = mg r' * 2 ^ d) : R = R' := by
  obtain ⟨a, b, e1, n1⟩ := h
  obtain ⟨a', b', e2, n2⟩ := h'
  obtain ⟨c, d, e3, e4⟩ := e
  refine near_unique (Nat.two_pow_pos b) (Nat.two_pow_pos b') n1 n2 ?_
  -- mg r * 2^a * 2^b' = mg r' * 2^a' * 2^b ; a - b + d = a' - b' + c
  have g : mg r * 2 ^ a * 2 ^ b' * 2 ^ (c + d) = mg r' * 2 ^ a' * 2 ^ b * 2 ^ (c + d) := by
    have l : mg r * 2 ^ a * 2 ^ b' * 2 ^ (c + d) = (mg r * 2 ^ c) * 2 ^ (a + b' + d) := by
      rw [Nat.pow_add, Nat.pow_add, Nat.pow_add]; grind
    have r : mg r' * 2 ^ a' * 2 ^ b * 2 ^ (c + d) = (mg r' * 2 ^ d) * 2 ^ (a' + b + c) := by
      rw [Nat.pow_add, Nat.pow_add, Nat.pow_add]; grind
    rw [l, r, e4, show a + b' + d = a' + b + c by omega]
  exact Nat.eq_of_mul_eq_mul_right (Nat.two_pow_pos (c + d)) g
theorem lq_unique {r R R' : Nat} {k : Int} (h : LQ r k R) (h' : LQ r k R') : R = R' := lq_value h h' ⟨0, 0, by omega, rfl⟩
theorem lq_exact {r R : Nat} {k : Int} (h : ∃ a b : Nat, k = (a : Int) - b ∧ mg r * 2 ^ a = mg R * 2 ^ b) : LQ r k R := by
  obtain ⟨a, b, e1, e2⟩ := h
  exact ⟨a, b, e1, by rw [e2]; exact near_exact R _ (Nat.two_pow_pos b)⟩

/-- of the fraction and the exponent -/
theorem lq_frac {r m R : Nat} {k j : Int} (pq : PQ r m k) (h : ∃ a b : Nat, k + j + 1074 = (a : Int) - b ∧ Near (m * 2 ^ a) (2 ^ b) R) : LQ r j R := by
  obtain ⟨a, b, e1, n1⟩ := h
  obtain ⟨_, _, c, d, e2, e3⟩ := pq
  -- mg r * 2^d = m * 2^c, k + 1074 = c - d ; j = a - b - c + d
  refine ⟨a + d, b + c, by omega, ?_⟩
  have g := near_scale (c := 2 ^ c) (Nat.two_pow_pos c) n1
  have l : m * 2 ^ a * 2 ^ c = mg r * 2 ^ (a + d) := by
    have : m * 2 ^ a * 2 ^ c = (m * 2 ^ c) * 2 ^ a := by grind
    rw [this, ← e3, Nat.pow_add]; grind
  rw [l, pow_sum] at g
  exact g

theorem near_of_rne_small {m n : Nat} (hm : m < 9007199254740992) (_hn : 1 ≤ n) : Near m (2 ^ n) (rne m (2 ^ n)) := by
  obtain ⟨r1, r2, r3, r4, r5, r6⟩ := rne_spec m (2 ^ n) (Nat.two_pow_pos n)
  have hq : rne m (2 ^ n) ≤ 9007199254740992 := by
    have : m / 2 ^ n ≤ m := Nat.div_le_self _ _
    omega
  have := near_of_kept (n := m) (d := 2 ^ n) (e := 0) (q := rne m (2 ^ n)) (by omega) (by omega)
    (by rw [Nat.pow_zero, Nat.mul_one]; exact r1) (by rw [Nat.pow_zero, Nat.mul_one]; exact r2)
    (by rw [Nat.pow_zero, Nat.mul_one, Nat.one_mul]; exact r3) (by rw [Nat.pow_zero, Nat.mul_one, Nat.one_mul]; exact r4)
  rw [Nat.zero_mul, Nat.zero_add] at this
  exact this
theorem rne_big {m n : Nat} (hm : m < 9007199254740992) (hn : 54 < n) : rne m (2 ^ n) = 0 := by
  have h : 2 ^ 55 ≤ 2 ^ n := Nat.pow_le_pow_right (by omega) (by omega)
  unfold rne
  rw [Nat.div_eq_of_lt (by omega), Nat.mod_eq_of_lt (by omega), if_neg (by omega)]

theorem lq_huge {r R : Nat} {k : Int} (h0 : 0 < r) (hk : 2098 ≤ k) (h : LQ r k R) : 9218868437227405312 ≤ R := by
  obtain ⟨a, b, e1, n1⟩ := h
  obtain ⟨e, he⟩ : ∃ e : Nat, e = 2046 := ⟨_, rfl⟩
  have hi : mg 9218868437227405312 = 2 ^ (e + 52) := by rw [← mg_pow e, he]
  refine mg_mono_min n1 (Nat.two_pow_pos b) 9218868437227405312 ?_
  rw [hi, pow_sum]
  have h1 : 1 ≤ mg r := by have := mg_lt h0; rw [mg_zero] at this; omega
  have : 1 * 2 ^ a ≤ mg r * 2 ^ a := Nat.mul_le_mul_right _ h1
  have g : 2 ^ (e + 52 + b) ≤ 2 ^ a := Nat.pow_le_pow_right (by omega) (by omega)
  omega
theorem lq_tiny {r R : Nat} {k : Int} (h1 : r < 9218868437227405312) (hk : k ≤ -2099) (h : LQ r k R) : R = 0 := by
  obtain ⟨a, b, e1, n1⟩ := h
  obtain ⟨e, he⟩ : ∃ e : Nat, e = 2046 := ⟨_, rfl⟩
  have hi : mg 9218868437227405312 = 2 ^ (e + 52) := by rw [← mg_pow e, he]
  have h2 := mg_lt h1
  rw [hi] at h2
  rcases Nat.eq_zero_or_pos R with z | z
  · exact z
  · exfalso
    have d := n1.down z
    have m1 : 1 ≤ mg R := by have := mg_lt z; rw [mg_zero] at this; omega
    have g1 : 1 * 2 ^ b ≤ (mg (R - 1) + mg R) * 2 ^ b := Nat.mul_le_mul_right _ (by omega)
    have g2 : mg r * 2 ^ a < 2 ^ (e + 52) * 2 ^ a := Nat.mul_lt_mul_of_pos_right h2 (Nat.two_pow_pos a)
    rw [pow_sum] at g2
    have g3 : 2 * 2 ^ (e + 52 + a) ≤ 2 ^ b := by rw [two_mul_pow]; exact Nat.pow_le_pow_right (by omega) (by omega)
    omega

theorem lq_exists (r : Nat) (k : Int) : ∃ R, LQ r k R := by
  obtain ⟨R, h, _⟩ := nearest_spec false (mg r) (k - 1074) k.natAbs (by omega)
  exact ⟨R, (k - 1074 + 1074 + (k.natAbs : Int)).toNat, k.natAbs, by omega, h⟩

/-- what Ldexp gives -/
def LD (x : Nat) (k : Int) (v : Nat) : Prop :=
  (0 < rg x ∧ rg x < 9218868437227405312 ∧ ∃ R, LQ (rg x) k R ∧ v = wd (sg x) (min R 9218868437227405312)) ∨ ((rg x = 0 ∨ 9218868437227405312 ≤ rg x) ∧ v = x)
theorem ld_unique {x v v' : Nat} {k : Int} (h : LD x k v) (h' : LD x k v') : v = v' := by
  rcases h with ⟨a, b, R, q, e⟩ | ⟨a, e⟩ <;> rcases h' with ⟨a', b', R', q', e'⟩ | ⟨a', e'⟩ <;> try omega
  rw [e, e', lq_unique q q']
theorem ld_W {x v : Nat} {k : Int} (hx : x < 18446744073709551616) (h : LD x k v) : v < 18446744073709551616 := by
  rcases h with ⟨a, b, R, q, e⟩ | ⟨a, e⟩
  · rw [e]; exact wd_lt (by omega)
  · rw [e]; exact hx
/-- an exponent beyond the format's reach is as good as another one -/
theorem ld_clamp {x v : Nat} {k k' : Int} (hk : (2098 ≤ k ∧ 2098 ≤ k') ∨ (k ≤ -2099 ∧ k' ≤ -2099)) (h : LD x k v) (ex : ∃ R, LQ (rg x) k' R) : LD x k' v := by
  rcases h with ⟨a, b, R, q, e⟩ | h
  · obtain ⟨R', q'⟩ := ex
    refine Or.inl ⟨a, b, R', q', ?_⟩
    rcases hk with ⟨h1, h2⟩ | ⟨h1, h2⟩
    · have i1 := lq_huge a h1 q
      have i2 := lq_huge a h2 q'
      rw [e, Nat.min_eq_right i1, Nat.min_eq_right i2]
    · rw [e, lq_tiny b h1 q, lq_tiny b h2 q']
  · exact Or.inr h

end Go.Proofs.Ytjfoiicooleeiaa.Fd
