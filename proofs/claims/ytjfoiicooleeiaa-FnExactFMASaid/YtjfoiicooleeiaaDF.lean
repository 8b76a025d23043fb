/- The fused product and sum, as the model gives it: rounded once; and its plain laws; conditions: as told in each line. -/
import Derived.Test.YtjfoiicooleeiaaDP
namespace Go.Proofs.Ytjfoiicooleeiaa.Fd
open Ieee

theorem sum_deep (s t : Bool) (m n a b : Nat) :
    ∃ r, Near (sm s (m * 2 ^ a) + sm t (n * 2 ^ b)).natAbs (2 ^ LL) r ∧
      (Datum.sum (.number s m (-2148 + (a : Int))) (.number t n (-2148 + (b : Int)))).map double.write = some (wd (sgT s t (sm s (m * 2 ^ a) + sm t (n * 2 ^ b))) (min r 9218868437227405312)) := by
  unfold Datum.sum
  simp only [signed_eq, Option.map_some]
  have e1 : (-2148 + (a : Int) - min (-2148 + (a : Int)) (-2148 + (b : Int))).toNat = a - min a b := by omega
  have e2 : (-2148 + (b : Int) - min (-2148 + (a : Int)) (-2148 + (b : Int))).toNat = b - min a b := by omega
  rw [e1, e2]
  have p : ∀ c : Nat, min a b ≤ c → 2 ^ c = 2 ^ (c - min a b) * 2 ^ (min a b) := by
    intro c h; rw [← Nat.pow_add]; congr 1; omega
  have hT : sm s (m * 2 ^ a) + sm t (n * 2 ^ b) = (sm s (m * 2 ^ (a - min a b)) + sm t (n * 2 ^ (b - min a b))) * ((2 ^ min a b : Nat) : Int) := by
    rw [p a (by omega), p b (by omega), ← Nat.mul_assoc, ← Nat.mul_assoc, sm_mul _ _ (2 ^ min a b), sm_mul _ _ (2 ^ min a b), Int.add_mul]
  generalize sm s (m * 2 ^ (a - min a b)) + sm t (n * 2 ^ (b - min a b)) = U at *
  have hc : 0 < 2 ^ min a b := Nat.two_pow_pos _
  have hc' : (0 : Int) < ((2 ^ min a b : Nat) : Int) := by omega
  have place : min (-2148 + (a : Int)) (-2148 + (b : Int)) = -2148 + ((min a b : Nat) : Int) := by omega
  rw [place]
  have hs : (if U = 0 then s && t else decide (U < 0)) = sgT s t (sm s (m * 2 ^ a) + sm t (n * 2 ^ b)) := by
    unfold sgT
    rw [hT]
    by_cases h : U = 0
    · rw [if_pos h, if_pos (by rw [h, Int.zero_mul])]
    · rw [if_neg h, if_neg (by intro g; rcases Int.mul_eq_zero.1 g with g | g <;> omega)]
      rw [Bool.eq_iff_iff]; simp only [decide_eq_true_eq]
      exact ⟨fun g => Int.mul_neg_of_neg_of_pos g hc', fun g => by
        rcases (by omega : U < 0 ∨ 0 ≤ U) with q | q
        · exact q
        · have := Int.mul_nonneg q (Int.le_of_lt hc'); omega⟩
  have L := LL_eq
  obtain ⟨r, h1, h2⟩ := nearest_spec (sgT s t (sm s (m * 2 ^ a) + sm t (n * 2 ^ b))) U.natAbs (-2148 + ((min a b : Nat) : Int)) LL (by omega)
  refine ⟨r, ?_, ?_⟩
  · rw [hT, Int.natAbs_mul, Int.natAbs_natCast]
    have : (-2148 + ((min a b : Nat) : Int) + 1074 + (LL : Int)).toNat = min a b := by omega
    rw [this] at h1
    exact h1
  · rw [← h2, ← hs]
    by_cases h : U = 0
    · simp only [h, if_pos]; rfl
    · simp only [h, if_false]; rfl

/-- the exact product and sum -/
def TT (x y z : Nat) : Int := sm (sg x ^^ sg y) (mg (rg x) * mg (rg y)) + sm (sg z) (mg (rg z) * 2 ^ LL)
theorem fma_fin {x y z : Nat} (hx : rg x < 9218868437227405312) (hy : rg y < 9218868437227405312) (hz : rg z < 9218868437227405312) :
    ∃ r, Near (TT x y z).natAbs (2 ^ LL) r ∧ double.fma x y z = some (wd (sgT (sg x ^^ sg y) (sg z) (TT x y z)) (min r 9218868437227405312)) := by
  obtain ⟨r, h1, h2⟩ := sum_deep (sg x ^^ sg y) (sg z) (fm (rg x) * fm (rg y)) (fm (rg z)) (fp (rg x) + fp (rg y)) (fp (rg z) + LL)
  have L := LL_eq
  have e : sm (sg x ^^ sg y) (fm (rg x) * fm (rg y) * 2 ^ (fp (rg x) + fp (rg y))) + sm (sg z) (fm (rg z) * 2 ^ (fp (rg z) + LL)) = TT x y z := by
    unfold TT
    rw [mg_fm (rg x), mg_fm (rg y), mg_fm (rg z), Nat.pow_add, Nat.pow_add, ← Nat.mul_assoc (fm (rg z))]
    congr 2
    grind
  rw [e] at h1 h2
  refine ⟨r, h1, ?_⟩
  unfold Format.fma
  rw [read_fin hx, read_fin hy, read_fin hz, ← h2]
  unfold Datum.product
  have p1 : (-1074 + (fp (rg x) : Int)) + (-1074 + (fp (rg y) : Int)) = -2148 + ((fp (rg x) + fp (rg y) : Nat) : Int) := by omega
  have p2 : -1074 + (fp (rg z) : Int) = -2148 + ((fp (rg z) + LL : Nat) : Int) := by omega
  show Option.map double.write ((some (Datum.number (sg x ^^ sg y) (fm (rg x) * fm (rg y)) ((-1074 + (fp (rg x) : Int)) + (-1074 + (fp (rg y) : Int))))).bind (·.sum _)) = _
  rw [p1, p2]; rfl

/-- how a word reads -/
theorem kinds (x : Nat) : rg x < 9218868437227405312 ∨ rg x = 9218868437227405312 ∨ 9218868437227405312 < rg x := Nat.lt_trichotomy _ _
theorem product_comm (d e : Datum) : Datum.product d e = Datum.product e d := by
  cases d <;> cases e <;> simp [Datum.product, Bool.xor_comm, Nat.mul_comm, Int.add_comm]
theorem fma_comm (x y z : Nat) : double.fma x y z = double.fma y x z := by
  unfold Format.fma; rw [product_comm]
theorem sum_inf_l (s : Bool) (t : Bool) (m : Nat) (i : Int) : Datum.sum (.infinity s) (.number t m i) = some (.infinity s) := rfl
theorem sum_inf_r (s : Bool) (t : Bool) (m : Nat) (i : Int) : Datum.sum (.number t m i) (.infinity s) = some (.infinity s) := rfl
theorem sum_nan_r (d : Datum) (s : Bool) (p : Nat) : Datum.sum d (.nan s p) = none := by cases d <;> rfl
theorem product_nan_r (d : Datum) (s : Bool) (p : Nat) : Datum.product d (.nan s p) = none := by cases d <;> rfl
theorem product_nan_l (d : Datum) (s : Bool) (p : Nat) : Datum.product (.nan s p) d = none := by cases d <;> rfl

theorem mg_one'' : mg (rg 4607182418800017408) = 2 ^ LL := by
  obtain ⟨e, he⟩ : ∃ e : Nat, e = 1022 := ⟨_, rfl⟩
  have e1 : rg 4607182418800017408 = e * 4503599627370496 + 4503599627370496 := by rw [he]; decide
  have e2 : e + 52 = LL := by have := LL_eq; omega
  rw [e1, mg_pow, e2]
theorem read_one : double.read 4607182418800017408 = .number false 4503599627370496 (-52) := by decide +kernel
theorem read_nz : double.read 9223372036854775808 = .number true 0 (-1074) := by decide +kernel

/-- with 1 it is the sum -/
theorem fma_one (x y : Nat) : double.fma x 4607182418800017408 y = double.add x y := by
  rcases kinds x with hx | hx | hx
  · rcases kinds y with hy | hy | hy
    · obtain ⟨r, h1, h2⟩ := fma_fin hx (y := 4607182418800017408) (by decide) hy
      obtain ⟨q, g1, g2⟩ := add_fin hx hy
      have e : TT x 4607182418800017408 y = (val x + val y) * ((2 ^ LL : Nat) : Int) := by
        unfold TT val
        rw [mg_one'', sm_mul, sm_mul, Int.add_mul, show sg 4607182418800017408 = false by decide, Bool.xor_false]
      have hp : 0 < 2 ^ LL := Nat.two_pow_pos LL
      have hp' : (0 : Int) < ((2 ^ LL : Nat) : Int) := by omega
      rw [e, Int.natAbs_mul, Int.natAbs_natCast] at h1
      have hr : r = q := near_unique hp (by omega) h1 g1 (by omega)
      rw [h2, g2, hr, e, show sg 4607182418800017408 = false by decide, Bool.xor_false]
      congr 2
      unfold sgT
      generalize val x + val y = U
      generalize ((2 ^ LL : Nat) : Int) = c at *
      by_cases h : U = 0
      · rw [if_pos h, if_pos (by rw [h, Int.zero_mul])]
      · rw [if_neg h, if_neg (by intro g; rcases Int.mul_eq_zero.1 g with g | g <;> omega)]
        rw [Bool.eq_iff_iff]; simp only [decide_eq_true_eq]
        exact ⟨fun g => by
          rcases (by omega : U < 0 ∨ 0 ≤ U) with q | q
          · exact q
          · have := Int.mul_nonneg q (Int.le_of_lt hp'); omega, fun g => Int.mul_neg_of_neg_of_pos g hp'⟩
    · unfold Format.fma Format.add; rw [read_fin hx, read_one, read_inf hy]; rfl
    · unfold Format.fma Format.add; rw [read_fin hx, read_one, read_nan hy]; rfl
  · unfold Format.fma Format.add; rw [read_inf hx, read_one]
    have : Datum.product (.infinity (sg x)) (.number false 4503599627370496 (-52)) = some (.infinity (sg x)) := by
      show (if 4503599627370496 = 0 then none else some (Datum.infinity (sg x ^^ false))) = _
      rw [if_neg (by omega), Bool.xor_false]
    rw [this]; rfl
  · unfold Format.fma Format.add; rw [read_nan hx, product_nan_l]
    cases double.read y <;> rfl
/-- with the negative zero it is the product -/
theorem fma_nz (x y : Nat) : double.fma x y 9223372036854775808 = double.mul x y := by
  rcases (by have := kinds x; have := kinds y; omega : (rg x < 9218868437227405312 ∧ rg y < 9218868437227405312) ∨ ¬ (rg x < 9218868437227405312 ∧ rg y < 9218868437227405312)) with ⟨hx, hy⟩ | h
  · obtain ⟨r, h1, h2⟩ := fma_fin hx hy (z := 9223372036854775808) (by decide)
    obtain ⟨q, g1, g2⟩ := mul_fin hx hy
    have z0 : rg 9223372036854775808 = 0 := by decide
    have e : TT x y 9223372036854775808 = sm (sg x ^^ sg y) (mg (rg x) * mg (rg y)) := by
      unfold TT
      rw [z0, mg_zero, Nat.zero_mul]
      unfold sm; cases sg 9223372036854775808 <;> simp
    rw [e, sm_natAbs] at h1
    have hp : 0 < 2 ^ LL := Nat.two_pow_pos LL
    rw [h2, g2, near_unique hp hp h1 g1 rfl, e]
    congr 2
    rw [show sg 9223372036854775808 = true by decide]
    generalize mg (rg x) * mg (rg y) = P
    unfold sgT sm
    cases sg x ^^ sg y <;> simp <;> omega
  · unfold Format.fma Format.mul
    rw [read_nz]
    have : ∀ d, (Datum.product (double.read x) (double.read y)) = some d → d.sum (.number true 0 (-1074)) = some d := by
      intro d hd
      have inf : ∀ s, some (Datum.infinity s) = some d → d.sum (.number true 0 (-1074)) = some d := by
        intro s e; cases e; rfl
      rcases kinds x with hx | hx | hx
      · rcases kinds y with hy | hy | hy
        · exact absurd ⟨hx, hy⟩ h
        · rw [read_fin hx, read_inf hy] at hd
          unfold Datum.product at hd
          simp only at hd
          split at hd
          · cases hd
          · exact inf _ hd
        · rw [read_nan hy, product_nan_r] at hd; cases hd
      · rcases kinds y with hy | hy | hy
        · rw [read_inf hx, read_fin hy] at hd
          unfold Datum.product at hd
          simp only at hd
          split at hd
          · cases hd
          · exact inf _ hd
        · rw [read_inf hx, read_inf hy] at hd
          exact inf _ hd
        · rw [read_nan hy, product_nan_r] at hd; cases hd
      · rw [read_nan hx, product_nan_l] at hd; cases hd
    cases hd : Datum.product (double.read x) (double.read y) with
    | none => rfl
    | some d => rw [Option.bind_some, this d hd]

/-- what kind the product is of -/
theorem product_cases (x y : Nat) : (Datum.product (double.read x) (double.read y) = none ∧ double.mul x y = none) ∨ ((rg x = 9218868437227405312 ∨ rg y = 9218868437227405312) ∧ Datum.product (double.read x) (double.read y) = some (.infinity (sg x ^^ sg y))) ∨ (rg x < 9218868437227405312 ∧ rg y < 9218868437227405312) := by
  rcases kinds x with hx | hx | hx
  · rcases kinds y with hy | hy | hy
    · exact Or.inr (Or.inr ⟨hx, hy⟩)
    · unfold Format.mul
      rw [read_fin hx, read_inf hy]
      unfold Datum.product
      simp only
      by_cases c : fm (rg x) = 0
      · rw [if_pos c]; exact Or.inl ⟨rfl, rfl⟩
      · rw [if_neg c]; exact Or.inr (Or.inl ⟨Or.inr hy, by rw [Bool.xor_comm]⟩)
    · unfold Format.mul
      rw [read_nan hy, product_nan_r]; exact Or.inl ⟨rfl, rfl⟩
  · rcases kinds y with hy | hy | hy
    · unfold Format.mul
      rw [read_inf hx, read_fin hy]
      unfold Datum.product
      simp only
      by_cases c : fm (rg y) = 0
      · rw [if_pos c]; exact Or.inl ⟨rfl, rfl⟩
      · rw [if_neg c]; exact Or.inr (Or.inl ⟨Or.inl hx, rfl⟩)
    · rw [read_inf hx, read_inf hy]
      exact Or.inr (Or.inl ⟨Or.inl hx, rfl⟩)
    · unfold Format.mul
      rw [read_nan hy, product_nan_r]; exact Or.inl ⟨rfl, rfl⟩
  · unfold Format.mul
    rw [read_nan hx, product_nan_l]; exact Or.inl ⟨rfl, rfl⟩
/-- what FMA gives, in all cases -/
theorem fma_cases (x y z : Nat) : (double.fma x y z = none ∧ (double.mul x y = none ∨ 9218868437227405312 < rg z ∨ ((rg x = 9218868437227405312 ∨ rg y = 9218868437227405312) ∧ rg z = 9218868437227405312 ∧ sg z = !(sg x ^^ sg y)))) ∨
    (double.fma x y z = some (wd (sg x ^^ sg y) 9218868437227405312) ∧ double.mul x y = some (wd (sg x ^^ sg y) 9218868437227405312) ∧ (rg x = 9218868437227405312 ∨ rg y = 9218868437227405312) ∧ rg z ≤ 9218868437227405312 ∧ (rg z = 9218868437227405312 → sg z = (sg x ^^ sg y))) ∨
    (double.fma x y z = some (wd (sg z) 9218868437227405312) ∧ rg x < 9218868437227405312 ∧ rg y < 9218868437227405312 ∧ rg z = 9218868437227405312) ∨ (rg x < 9218868437227405312 ∧ rg y < 9218868437227405312 ∧ rg z < 9218868437227405312) := by
  rcases product_cases x y with ⟨h, hm⟩ | ⟨h, e⟩ | ⟨hx, hy⟩
  · left; refine ⟨?_, Or.inl hm⟩
    unfold Format.fma; rw [h]; rfl
  · rcases kinds z with hz | hz | hz
    · right; left
      refine ⟨?_, ?_, h, by omega, by omega⟩
      · unfold Format.fma; rw [e, read_fin hz]; rfl
      · unfold Format.mul; rw [e]; rfl
    · by_cases c : (sg x ^^ sg y) = sg z
      · right; left
        refine ⟨?_, ?_, h, by omega, fun _ => c.symm⟩
        · unfold Format.fma; rw [e, read_inf hz, Option.bind_some]
          show Option.map double.write (if (sg x ^^ sg y) = sg z then some (Datum.infinity (sg x ^^ sg y)) else none) = _
          rw [if_pos c]; rfl
        · unfold Format.mul; rw [e]; rfl
      · left
        refine ⟨?_, Or.inr (Or.inr ⟨h, hz, ?_⟩)⟩
        · unfold Format.fma; rw [e, read_inf hz, Option.bind_some]
          show Option.map double.write (if (sg x ^^ sg y) = sg z then some (Datum.infinity (sg x ^^ sg y)) else none) = _
          rw [if_neg c]; rfl
        · revert c; cases sg x ^^ sg y <;> cases sg z <;> simp
    · left; refine ⟨?_, Or.inr (Or.inl hz)⟩
      unfold Format.fma; rw [e, read_nan hz]; rfl
  · rcases kinds z with hz | hz | hz
    · exact Or.inr (Or.inr (Or.inr ⟨hx, hy, hz⟩))
    · right; right; left
      refine ⟨?_, hx, hy, hz⟩
      unfold Format.fma; rw [read_fin hx, read_fin hy, read_inf hz]; rfl
    · left; refine ⟨?_, Or.inr (Or.inl hz)⟩
      unfold Format.fma; rw [read_fin hx, read_fin hy, read_nan hz]; rfl
theorem fma_num {x y z r : Nat} (h : double.fma x y z = some r) : r < 18446744073709551616 ∧ nan r = false := by
  have g : ∀ s q, q ≤ 9218868437227405312 → r = wd s q → r < 18446744073709551616 ∧ nan r = false := fun s q hq e => by
    rw [e]; exact ⟨wd_lt (by omega), nan_wd hq⟩
  rcases fma_cases x y z with ⟨e, _⟩ | ⟨e, _⟩ | ⟨e, _⟩ | ⟨hx, hy, hz⟩
  · rw [e] at h; cases h
  · rw [e] at h; cases h; exact g _ _ (Nat.le_refl _) rfl
  · rw [e] at h; cases h; exact g _ _ (Nat.le_refl _) rfl
  · obtain ⟨q, _, e⟩ := fma_fin hx hy hz
    rw [e] at h; cases h; exact g _ _ (Nat.min_le_right _ _) rfl
end Go.Proofs.Ytjfoiicooleeiaa.Fd
