/- A finite positive number as a fraction of 53 binary digits times a power of 2; conditions: as told in each line. -/
import Derived.Test.YtjfoiicooleeiaaDA
namespace Go.Proofs.Ytjfoiicooleeiaa.Fd
open Ieee

/-- the rung that lies 'k' doublings above a rung -/
def dbls : Nat → Nat → Nat
  | 0, q => q
  | k + 1, q => dbl (dbls k q)
theorem mg_dbls (k r : Nat) : mg (dbls k r) = mg r * 2 ^ k := by
  induction k with
  | zero => simp [dbls]
  | succ k ih => rw [dbls, mg_dbl, ih, Nat.pow_succ]; grind
theorem dbls_add (a b r : Nat) : dbls (a + b) r = dbls a (dbls b r) := by
  apply mg_inj.1
  rw [mg_dbls, mg_dbls, mg_dbls, Nat.pow_add]; grind
theorem dbl_back {r : Nat} (h : 9007199254740992 ≤ r) : dbl (r - 4503599627370496) = r := by unfold dbl; rw [if_neg (by omega)]; omega
theorem dbl_gt {r : Nat} (h : 0 < r) : r < dbl r := by unfold dbl; split <;> omega
theorem dbl_lt {r c : Nat} (h : r < c * 4503599627370496) : dbl r < (c + 1) * 4503599627370496 := by unfold dbl; split <;> omega
theorem dbls_high {k r : Nat} (h : 4503599627370496 ≤ r) : dbls k r = r + k * 4503599627370496 := by
  induction k with
  | zero => simp [dbls]
  | succ k ih => rw [dbls, ih]; unfold dbl; rw [if_neg (by omega)]; omega
theorem dbls_pos {k r : Nat} (h : 0 < r) : 0 < dbls k r := by
  induction k with
  | zero => exact h
  | succ k ih => rw [dbls]; exact Nat.lt_trans ih (dbl_gt ih)

/-- a rung as a fraction 'm' of 53 binary digits times 2 to the power of 'k' -/
structure PQ (r m : Nat) (k : Int) : Prop where
  low : 4503599627370496 ≤ m
  high : m < 9007199254740992
  eqn : ∃ a b : Nat, k + 1074 = (a : Int) - b ∧ mg r * 2 ^ b = m * 2 ^ a

theorem pow_lt_iff {a b : Nat} : 2 ^ a < 2 ^ b ↔ a < b := Nat.pow_lt_pow_iff_right (by omega)
theorem pow_le_iff {a b : Nat} : 2 ^ a ≤ 2 ^ b ↔ a ≤ b := Nat.pow_le_pow_iff_right (by omega)

/-- the fraction and the exponent of a product with powers of 2 are unique -/
theorem frac_unique {m m' a a' : Nat} (h1 : 4503599627370496 ≤ m) (h2 : m < 9007199254740992) (h1' : 4503599627370496 ≤ m') (h2' : m' < 9007199254740992) (e : m * 2 ^ a = m' * 2 ^ a') : m = m' ∧ a = a' := by
  have key : ∀ {m m' a a' : Nat}, 4503599627370496 ≤ m → m' < 9007199254740992 → m * 2 ^ a = m' * 2 ^ a' → a ≤ a' := by
    intro m m' a a' g1 g2 g
    rcases Nat.lt_or_ge a' a with c | c
    · exfalso
      obtain ⟨d, rfl⟩ : ∃ d, a = a' + 1 + d := ⟨a - a' - 1, by omega⟩
      have : m * 2 ^ (a' + 1 + d) = (2 * m * 2 ^ d) * 2 ^ a' := by
        rw [Nat.pow_add, Nat.pow_succ]; grind
      rw [this] at g
      have g3 := Nat.eq_of_mul_eq_mul_right (Nat.two_pow_pos a') g
      have : 0 < 2 ^ d := Nat.two_pow_pos d
      have : 2 * m * 1 ≤ 2 * m * 2 ^ d := Nat.mul_le_mul_left _ this
      omega
    · exact c
  have e1 := key h1 h2' e
  have e2 := key h1' h2 e.symm
  have ea : a = a' := by omega
  subst ea
  exact ⟨Nat.eq_of_mul_eq_mul_right (Nat.two_pow_pos a) e, rfl⟩

theorem pq_unique {r m m' : Nat} {k k' : Int} (h : PQ r m k) (h' : PQ r m' k') : m = m' ∧ k = k' := by
  obtain ⟨l, u, a, b, e1, e2⟩ := h
  obtain ⟨l', u', a', b', e1', e2'⟩ := h'
  have : m * 2 ^ (a + b') = m' * 2 ^ (a' + b) := by
    rw [Nat.pow_add, Nat.pow_add, ← Nat.mul_assoc, ← Nat.mul_assoc, ← e2, ← e2']; grind
  obtain ⟨g1, g2⟩ := frac_unique l u l' u' this
  exact ⟨g1, by omega⟩

/-- where the fraction's own rung lies -/
theorem mg_frac {m : Nat} (h1 : 4503599627370496 ≤ m) (h2 : m < 9007199254740992) {e : Nat} (he : e = 1074) : mg (1074 * 4503599627370496 + m) = m * 2 ^ e := by
  rw [← mg_at (e := e) (q := m) (by omega), he]

theorem pq_of_loops {x k j : Nat} (hk : k = 0 ∨ 4503599627370496 ≤ x - k * 4503599627370496) (hkx : k * 4503599627370496 ≤ x) (h1 : 1075 * 4503599627370496 ≤ dbls j (x - k * 4503599627370496)) (h2 : dbls j (x - k * 4503599627370496) < 1076 * 4503599627370496) :
    PQ x (dbls j (x - k * 4503599627370496) - 1074 * 4503599627370496) ((k : Int) - j) := by
  refine ⟨by omega, by omega, ?_⟩
  obtain ⟨e, he⟩ : ∃ e : Nat, e = 1074 := ⟨_, rfl⟩
  refine ⟨e + k, j, by omega, ?_⟩
  have m1 := mg_frac (m := dbls j (x - k * 4503599627370496) - 1074 * 4503599627370496) (by omega) (by omega) he
  rw [show 1074 * 4503599627370496 + (dbls j (x - k * 4503599627370496) - 1074 * 4503599627370496) = dbls j (x - k * 4503599627370496) by omega, mg_dbls] at m1
  have m2 : mg x = mg (x - k * 4503599627370496) * 2 ^ k := by
    rcases hk with rfl | hk
    · simp
    · rw [← mg_dbls, dbls_high hk]; congr 1; omega
  rw [m2, Nat.pow_add, ← Nat.mul_assoc, ← m1]; grind

theorem loop_bound {j y : Nat} (hy : 0 < y) (h : dbls j y < 1076 * 4503599627370496) : j < 1127 := by
  obtain ⟨e, he⟩ : ∃ e : Nat, e = 1075 := ⟨_, rfl⟩
  have h1 : mg (dbls j y) < mg (e * 4503599627370496 + 4503599627370496) := mg_lt (by rw [he]; omega)
  rw [mg_dbls, mg_pow] at h1
  have h2 : 1 ≤ mg y := by have := mg_lt hy; rw [mg_zero] at this; omega
  have h3 : 1 * 2 ^ j ≤ mg y * 2 ^ j := Nat.mul_le_mul_right _ h2
  have : 2 ^ j < 2 ^ (e + 52) := by omega
  have := pow_lt_iff.1 this
  omega

theorem cut_zero0 (s : Bool) (n : Nat) : Toward.zero.cut s n 0 = n := by
  unfold Toward.cut
  simp
theorem toInt_whole (s : Bool) (m : Nat) : (Datum.number s m 0).toInt .zero = some (Ieee.signed s m 0) := by
  show some (Ieee.signed s (Toward.zero.cut s (m <<< (0 : Int).toNat) (-(0 : Int)).toNat) 0) = _
  have e : m <<< (0 : Int).toNat = m := by simp
  have e2 : (-(0 : Int)).toNat = 0 := by simp
  rw [e, e2, cut_zero0]
/-- 'uint64(x)' of such a fraction -/
theorem to_int {z : Nat} (h1 : 1075 * 4503599627370496 ≤ z) (h2 : z < 1076 * 4503599627370496) : (double.read z).toInt .zero = some ((z - 1074 * 4503599627370496 : Nat) : Int) := by
  have hz : z < 18446744073709551616 := by omega
  have s : sg z = false := (sg_false hz).2 (by omega)
  have r : rg z = z := rg_of_pos hz s
  rw [read_fin (by rw [r]; omega), r, s]
  have f1 : fm z = z - 1074 * 4503599627370496 := by unfold fm; rw [if_neg (by omega)]; omega
  have f2 : fp z = 1074 := by unfold fp; rw [if_neg (by omega)]; omega
  rw [f1, f2]
  generalize z - 1074 * 4503599627370496 = m
  have e : (-1074 + ((1074 : Nat) : Int)) = 0 := by omega
  rw [e, toInt_whole, signed_eq]
  unfold sm
  rw [if_neg (by decide), Nat.pow_zero, Nat.mul_one]

/-- an integer of at most 2 to the power of 53 as a number: it is one -/
def ofNE : Nat := 1074
theorem ofNE_eq : ofNE = 1074 := rfl
def ofN (m : Nat) : Nat := dbls ofNE m
theorem wd_false (r : Nat) : wd false r = r := rfl
theorem mg_ofN {m : Nat} (h : m ≤ 9007199254740992) {e : Nat} (he : e = 1074) : mg (ofN m) = m * 2 ^ e := by
  unfold ofN; rw [mg_dbls, mg_small h, ofNE_eq, he]
theorem dbls_le {i j r : Nat} (h : i ≤ j) : dbls i r ≤ dbls j r := by
  rcases Nat.lt_or_ge (dbls j r) (dbls i r) with c | c
  · exfalso
    have := mg_lt c
    rw [mg_dbls, mg_dbls] at this
    have g : 2 ^ i ≤ 2 ^ j := Nat.pow_le_pow_right (by omega) h
    have := Nat.mul_le_mul_left (mg r) g
    omega
  · exact c
theorem ofN_lt {m : Nat} (h : m ≤ 9007199254740992) : ofN m < 9218868437227405312 := by
  obtain ⟨e, he⟩ : ∃ e : Nat, e = 1074 := ⟨_, rfl⟩
  obtain ⟨a, ha⟩ : ∃ a : Nat, a = 2046 := ⟨_, rfl⟩
  apply mg_lt_iff.1
  rw [mg_ofN h he]
  have hi : mg 9218868437227405312 = 2 ^ (a + 52) := by rw [← mg_pow a, ha]
  rw [hi]
  have : m * 2 ^ e ≤ 9007199254740992 * 2 ^ e := Nat.mul_le_mul_right _ h
  rw [B2_pow, pow_sum] at this
  have : 2 ^ (52 + 1 + e) < 2 ^ (a + 52) := pow_lt_iff.2 (by omega)
  omega
theorem nearest_ofN {m : Nat} (s : Bool) (h : m ≤ 9007199254740992) : double.nearest s m 0 = wd s (ofN m) := by
  obtain ⟨e, he⟩ : ∃ e : Nat, e = 1074 := ⟨_, rfl⟩
  have := nearest_exact s m 0 0 (ofN m) (by omega) (by
    rw [show ((0 : Int) + 1074 + ((0 : Nat) : Int)).toNat = e by omega, mg_ofN h he, Nat.pow_zero, Nat.mul_one])
  rw [Nat.min_eq_left (Nat.le_of_lt (ofN_lt h))] at this
  exact this

/-- a rung that is 'm' times 2 to the power of 'k' -/
def PW (m : Nat) (k : Int) (r : Nat) : Prop := ∃ a b : Nat, k + 1074 = (a : Int) - b ∧ mg r * 2 ^ b = m * 2 ^ a
theorem pw_pos {m r : Nat} {k : Nat} (hm : m ≤ 9007199254740992) (h : PW m k r) : r = dbls k (ofN m) := by
  obtain ⟨a, b, e1, e2⟩ := h
  obtain ⟨e, he⟩ : ∃ e : Nat, e = 1074 := ⟨_, rfl⟩
  apply mg_inj.1
  rw [mg_dbls, mg_ofN hm he]
  have : a = e + k + b := by omega
  rw [this, Nat.pow_add, Nat.pow_add, ← Nat.mul_assoc, ← Nat.mul_assoc] at e2
  exact Nat.eq_of_mul_eq_mul_right (Nat.two_pow_pos b) e2
theorem pw_neg {m r : Nat} {k : Nat} (hm : m ≤ 9007199254740992) (h : PW m (-(k : Int)) r) : ofN m = dbls k r := by
  obtain ⟨a, b, e1, e2⟩ := h
  obtain ⟨e, he⟩ : ∃ e : Nat, e = 1074 := ⟨_, rfl⟩
  apply mg_inj.1
  rw [mg_dbls, mg_ofN hm he]
  have : 2 ^ e * 2 ^ b = 2 ^ a * 2 ^ k := by rw [pow_sum, pow_sum]; congr 1; omega
  have g : mg r * 2 ^ k * 2 ^ b = m * 2 ^ e * 2 ^ b := by
    rw [Nat.mul_assoc m, this]
    have : mg r * 2 ^ k * 2 ^ b = mg r * 2 ^ b * 2 ^ k := by grind
    rw [this, e2]; grind
  exact (Nat.eq_of_mul_eq_mul_right (Nat.two_pow_pos b) g).symm
theorem dbls_zero (k : Nat) : dbls k 0 = 0 := by
  induction k with
  | zero => rfl
  | succ k ih => rw [dbls, ih]; rfl

end Go.Proofs.Ytjfoiicooleeiaa.Fd
