/- Square roots, as the model gives them: zeros and the positive infinity are their own, negative numbers and not-a-numbers have none, others the nearest rung. -/
import Derived.Test.YtjfoiicooleeiaaDS
namespace Go.Proofs.Ytjfoiicooleeiaa.Fd
open Ieee

theorem mg_one' : mg (rg 4607182418800017408) = 2 ^ LL := by
  obtain ⟨e, he⟩ : ∃ e : Nat, e = 1022 := ⟨_, rfl⟩
  have e1 : rg 4607182418800017408 = e * 4503599627370496 + 4503599627370496 := by rw [he]; decide
  have e2 : e + 52 = LL := by have := LL_eq; omega
  rw [e1, mg_pow, e2]

theorem root_core {m a : Nat} (hm : 0 < m) (hm2 : m < 2 ^ 53) : ∃ R, NearS (m * 2 ^ a * 2 ^ LL) R ∧ (Datum.root 54 (.number false m (-1074 + (a : Int)))).map double.write = some (wd false (min R 9218868437227405312)) := by
  unfold Datum.root
  simp only
  rw [if_neg (by omega), if_neg (by simp)]
  have l1 : m.log2 < 53 := (Nat.log2_lt (by omega)).2 hm2
  have l2 : 2 ^ m.log2 ≤ m := Nat.log2_self_le (by omega)
  generalize m.log2 = l at *
  obtain ⟨q, hq⟩ : ∃ q : Nat, q = 2 * 54 - l := ⟨_, rfl⟩
  rw [← hq]
  obtain ⟨b, hb⟩ : ∃ b : Nat, b = q + ((-1074 + (a : Int) - (q : Int)) % 2).toNat := ⟨_, rfl⟩
  rw [← hb]
  obtain ⟨e, he⟩ : ∃ e : Int, e = (-1074 + (a : Int) - (b : Int)) / 2 := ⟨_, rfl⟩
  rw [← he]
  have even : -1074 + (a : Int) - (b : Int) = 2 * e := by omega
  obtain ⟨g, hg⟩ : ∃ g : Nat, (g : Int) = e + 1074 := ⟨(e + 1074).toNat, by omega⟩
  have g1 : 1 ≤ g := by omega
  have L := LL_eq
  have key : b + (g + g) = a + LL := by omega
  rw [Nat.shiftLeft_eq]
  have n1 : 2 ^ 108 ≤ m * 2 ^ b := by
    have h := Nat.mul_le_mul l2 (Nat.pow_le_pow_right (show 0 < 2 by omega) (show q ≤ b by omega))
    rw [pow_sum, show l + q = 108 by omega] at h
    exact h
  have n2 : m * 2 ^ b * (2 ^ g * 2 ^ g) = m * 2 ^ a * 2 ^ LL := by
    rw [pow_sum, Nat.mul_assoc, pow_sum, key, Nat.mul_assoc, pow_sum]
  rw [← n2]
  generalize m * 2 ^ b = n at *
  have r := rootFrom_spec n (n.log2 / 2 + 1) 0 (by omega) (by
    have h : n < 2 ^ (n.log2 + 1) := Nat.lt_log2_self
    rw [Nat.zero_add, pow_sum]
    exact Nat.lt_of_lt_of_le h (Nat.pow_le_pow_right (by omega) (by omega)))
  generalize Datum.rootFrom n (n.log2 / 2 + 1) 0 = w at *
  have hw : 2 ^ 54 ≤ w := by
    rcases Nat.lt_or_ge w (2 ^ 54) with c | c
    · exfalso
      have := sq_le (show w + 1 ≤ 2 ^ 54 by omega)
      rw [pow_sum] at this
      have : n < 2 ^ 108 := Nat.lt_of_lt_of_le r.2 this
      omega
    · exact c
  obtain ⟨R, nr, ev⟩ := nearest_spec false (2 * w + (w * w != n).toNat) (e - 1) 0 (by omega)
  refine ⟨R, ?_, ?_⟩
  · have eg : (e - 1 + 1074 + (0 : Nat)).toNat = g - 1 := by omega
    rw [eg, Nat.pow_zero] at nr
    refine nearS_of_sticky _ r.1 r.2 ?_ hw g1 nr
    by_cases c : w * w = n
    · left; refine ⟨?_, c⟩; simp [c]
    · right; refine ⟨?_, c⟩; simp [c]
  · rw [Option.map_some]
    exact congrArg some ev

theorem sqrt_fin {x : Nat} (h0 : 0 < rg x) (h1 : rg x < 9218868437227405312) (hs : sg x = false) :
    ∃ R, NearS (mg (rg x) * 2 ^ LL) R ∧ double.sqrt x = some (wd false (min R 9218868437227405312)) := by
  have fl : fm (rg x) < 2 ^ 53 := fm_lt (rg x)
  have f0 : 0 < fm (rg x) := by
    have e : mg 0 < mg (rg x) := mg_lt h0
    rw [mg_fm (rg x)] at e
    rcases Nat.eq_zero_or_pos (fm (rg x)) with c | c
    · rw [c, Nat.zero_mul] at e; omega
    · exact c
  obtain ⟨R, a, b⟩ := root_core (a := fp (rg x)) f0 fl
  refine ⟨R, by rw [mg_fm]; exact a, ?_⟩
  unfold Format.sqrt
  rw [read_fin h1, hs]
  exact b

/-- the root lies between the number and 1 -/
theorem nearS_between {r R : Nat} (h : NearS (mg r * 2 ^ LL) R) : min r (rg 4607182418800017408) ≤ R ∧ R ≤ max r (rg 4607182418800017408) := by
  rw [← mg_one'] at h
  generalize rg 4607182418800017408 = o at *
  rcases Nat.le_total r o with c | c
  · rw [Nat.min_eq_left c, Nat.max_eq_right c]
    exact ⟨nearS_mono (nearS_exact r) h (Nat.mul_le_mul_left _ (mg_le c)), nearS_mono h (nearS_exact o) (Nat.mul_le_mul_right _ (mg_le c))⟩
  · rw [Nat.min_eq_right c, Nat.max_eq_left c]
    exact ⟨nearS_mono (nearS_exact o) h (Nat.mul_le_mul_right _ (mg_le c)), nearS_mono h (nearS_exact r) (Nat.mul_le_mul_left _ (mg_le c))⟩

/-- what Sqrt gives -/
def SQ (x v : Nat) : Prop :=
  (v = x ∧ (rg x = 0 ∨ (rg x = 9218868437227405312 ∧ sg x = false))) ∨ (nan v = true ∧ (nan x = true ∨ (0 < rg x ∧ sg x = true))) ∨
  (sg x = false ∧ 0 < rg x ∧ rg x < 9218868437227405312 ∧ ∃ R, 0 < R ∧ R < 9218868437227405312 ∧ NearS (mg (rg x) * 2 ^ LL) R ∧ v = wd false R)

theorem sqrt_cases {x : Nat} (hx : x < 18446744073709551616) : (double.sqrt x = none ∧ (nan x = true ∨ (0 < rg x ∧ sg x = true))) ∨ ∃ v, double.sqrt x = some v ∧ v < 18446744073709551616 ∧ SQ x v := by
  rcases Nat.eq_zero_or_pos (rg x) with z | z
  · right
    refine ⟨x, ?_, hx, Or.inl ⟨rfl, Or.inl z⟩⟩
    unfold Format.sqrt
    rw [read_fin (by omega), z]
    have f0 : fm 0 = 0 := by decide
    unfold Datum.root
    simp only [f0, if_true, Option.map_some]
    have e : double.write (.number (sg x) 0 (-1074 + ((fp 0 : Nat) : Int))) = wd (sg x) 0 := by
      show double.nearest (sg x) 0 _ = _
      unfold Format.nearest; rw [if_pos rfl]; rfl
    rw [e]
    conv => rhs; rw [← wd_of hx, z]
  · rcases Nat.lt_trichotomy (rg x) 9218868437227405312 with h | h | h
    · cases hs : sg x with
      | true =>
        left
        refine ⟨?_, Or.inr ⟨z, rfl⟩⟩
        have f0 : 0 < fm (rg x) := by
          have e : mg 0 < mg (rg x) := mg_lt z
          rw [mg_fm (rg x)] at e
          rcases Nat.eq_zero_or_pos (fm (rg x)) with c | c
          · rw [c, Nat.zero_mul] at e; omega
          · exact c
        unfold Format.sqrt
        rw [read_fin h, hs]
        unfold Datum.root
        simp only
        rw [if_neg (by omega), if_pos trivial]; rfl
      | false =>
        right
        obtain ⟨R, a, b⟩ := sqrt_fin z h hs
        obtain ⟨c1, c2⟩ := nearS_between a
        have o1 : rg 4607182418800017408 = 4607182418800017408 := by decide
        rw [o1] at c1 c2
        have R0 : 0 < R := by omega
        have RI : R < 9218868437227405312 := by omega
        rw [Nat.min_eq_left (by omega)] at b
        exact ⟨_, b, wd_lt (by omega), Or.inr (Or.inr ⟨hs, z, h, R, R0, RI, a, rfl⟩)⟩
    · cases hs : sg x with
      | true =>
        left
        refine ⟨?_, Or.inr ⟨z, rfl⟩⟩
        unfold Format.sqrt
        rw [read_inf h, hs]; rfl
      | false =>
        right
        refine ⟨x, ?_, hx, Or.inl ⟨rfl, Or.inr ⟨h, hs⟩⟩⟩
        unfold Format.sqrt
        rw [read_inf h, hs]
        show some (wd false 9218868437227405312) = some x
        rw [← h, ← hs, wd_of hx]
    · left
      refine ⟨?_, Or.inl (by unfold nan; simp; exact h)⟩
      unfold Format.sqrt
      rw [read_nan h]; rfl

end Go.Proofs.Ytjfoiicooleeiaa.Fd
