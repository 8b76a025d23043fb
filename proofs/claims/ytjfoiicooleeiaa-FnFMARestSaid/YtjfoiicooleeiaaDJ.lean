/- A rounded product of whole numbers is whole, and what is lost is at most 2^52; conditions: as told in each line. -/
import Derived.Test.YtjfoiicooleeiaaDI
import Derived.Test.YtjfoiicooleeiaaDF
namespace Go.Proofs.Ytjfoiicooleeiaa.Fd
open Ieee
theorem whole_near {M P : Nat} (hM : M ≤ 2 ^ 106) (h : Near (M * 2 ^ LL) 1 P) : P < 9218868437227405312 ∧ ∃ Q, mg P = Q * 2 ^ LL ∧ Q ≤ M + 2 ^ 52 ∧ M ≤ Q + 2 ^ 52 := by
  have L := LL_eq
  have X0 : 0 < 2 ^ LL := Nat.two_pow_pos LL
  obtain ⟨e, he⟩ : ∃ e : Nat, e = 54 + LL := ⟨_, rfl⟩
  have mT : mg (e * 4503599627370496 + 4503599627370496) = 2 ^ (e + 52) := mg_pow e
  have mT' : mg (e * 4503599627370496 + 4503599627370496) = 2 ^ 106 * 2 ^ LL := by rw [mT, pow_sum, show e + 52 = 106 + LL by omega]
  have PT : P ≤ e * 4503599627370496 + 4503599627370496 := by
    refine mg_mono_max h (by omega) _ ?_
    rw [mT', Nat.mul_one]
    exact Nat.mul_le_mul_right _ hM
  refine ⟨by omega, ?_⟩
  rcases Nat.lt_or_ge 9007199254740992 M with c | c
  · obtain ⟨f, hf⟩ : ∃ f : Nat, f = LL + 1 := ⟨_, rfl⟩
    have mF : mg (f * 4503599627370496 + 4503599627370496) = 2 ^ (f + 52) := mg_pow f
    have FP : f * 4503599627370496 + 4503599627370496 ≤ P := by
      refine mg_mono_min h (by omega) _ ?_
      rw [mF, Nat.mul_one, show f + 52 = 53 + LL by omega, ← pow_sum, ← B2_pow]
      exact Nat.mul_le_mul_right _ (by omega)
    have g := mg_le FP
    rw [mF, show f + 52 = 52 + (LL + 1) by omega] at g
    obtain ⟨q, hq⟩ := gran g
    have hQ : mg P = 2 * q * 2 ^ LL := by rw [hq, Nat.pow_succ]; grind
    have fpb : ∀ r, r < e * 4503599627370496 + 4503599627370496 → 2 ^ fp r ≤ 2 ^ 53 * 2 ^ LL := by
      intro r hr
      rw [pow_sum]
      apply pow_le_iff.2
      unfold fp
      split
      · omega
      · have : r / 4503599627370496 < e + 1 := (Nat.div_lt_iff_lt_mul (by omega)).2 (by omega)
        omega
    refine ⟨2 * q, hQ, ?_, ?_⟩
    · have dn := h.down (by omega)
      have st := mg_step (P - 1)
      rw [Nat.sub_add_cancel (by omega)] at st
      have b := fpb (P - 1) (by omega)
      have k : 2 * (2 * q) * 2 ^ LL ≤ (2 * M + 2 ^ 53) * 2 ^ LL := by
        rw [Nat.add_mul, Nat.mul_assoc 2 M, Nat.mul_assoc 2 (2 * q), ← hQ]
        rw [Nat.mul_one] at dn
        omega
      have := Nat.le_of_mul_le_mul_right k X0
      omega
    · rcases Nat.lt_or_ge P (e * 4503599627370496 + 4503599627370496) with d | d
      · have up := h.up
        rw [mg_step P] at up
        have b := fpb P d
        have k : 2 * M * 2 ^ LL ≤ (2 * (2 * q) + 2 ^ 53) * 2 ^ LL := by
          rw [Nat.add_mul, Nat.mul_assoc 2 M, Nat.mul_assoc 2 (2 * q), ← hQ]
          rw [Nat.mul_one] at up
          omega
        have := Nat.le_of_mul_le_mul_right k X0
        omega
      · have eP : P = e * 4503599627370496 + 4503599627370496 := by omega
        rw [eP, mT'] at hQ
        have := Nat.eq_of_mul_eq_mul_right X0 hQ
        omega
  · refine ⟨M, ?_, by omega, by omega⟩
    have m := mg_ofN (m := M) c L
    rw [← m] at h
    rw [near_mg h, m]
theorem mg_le_iff {a b : Nat} : mg a ≤ mg b ↔ a ≤ b := by
  constructor
  · intro h; rcases Nat.lt_or_ge b a with g | g
    · have := mg_lt g; omega
    · exact g
  · exact mg_le
/-- the product of two whole numbers, rounded, and what FMA finds of the rest -/
theorem rest_facts {sa sb : Bool} {A B : Nat} (hA : A ≤ 9007199254740992) (hB : B ≤ 9007199254740992) :
    ∃ P Q, double.mul (wd sa (ofN A)) (wd sb (ofN B)) = some (wd (sa ^^ sb) P) ∧ P < 9218868437227405312 ∧ mg P = Q * 2 ^ LL ∧
      ∃ t D, D = sm (sa ^^ sb) (A * B) - sm (sa ^^ sb) Q ∧ D.natAbs ≤ 4503599627370496 ∧ sm t D.natAbs = D ∧
        double.fma (wd sa (ofN A)) (wd sb (ofN B)) (ng (wd (sa ^^ sb) P)) = some (wd t (ofN D.natAbs)) := by
  have L := LL_eq
  have X0 : 0 < 2 ^ LL := Nat.two_pow_pos LL
  have oA := ofN_lt hA
  have oB := ofN_lt hB
  have rA : rg (wd sa (ofN A)) = ofN A := rg_wd (by omega)
  have rB : rg (wd sb (ofN B)) = ofN B := rg_wd (by omega)
  have sA : sg (wd sa (ofN A)) = sa := sg_wd (by omega)
  have sB : sg (wd sb (ofN B)) = sb := sg_wd (by omega)
  have mA := mg_ofN hA L
  have mB := mg_ofN hB L
  obtain ⟨P, nr, e⟩ := mul_fin (x := wd sa (ofN A)) (y := wd sb (ofN B)) (by omega) (by omega)
  rw [rA, rB, mA, mB] at nr
  rw [sA, sB] at e
  have nr' : Near (A * B * 2 ^ LL) 1 P := by
    refine near_unscale (c := 2 ^ LL) X0 ?_
    rw [Nat.one_mul]
    have : A * 2 ^ LL * (B * 2 ^ LL) = A * B * 2 ^ LL * 2 ^ LL := by grind
    rw [← this]; exact nr
  have M106 : A * B ≤ 2 ^ 106 := by
    have := Nat.mul_le_mul hA hB
    have e : 9007199254740992 * 9007199254740992 = 2 ^ 106 := by decide
    omega
  obtain ⟨PI, Q, hQ, q1, q2⟩ := whole_near M106 nr'
  rw [Nat.min_eq_left (by omega)] at e
  refine ⟨P, Q, e, PI, hQ, ?_⟩
  have wp : wd (sa ^^ sb) P < 18446744073709551616 := wd_lt (by omega)
  have rP : rg (ng (wd (sa ^^ sb) P)) = P := by rw [rg_ng wp, rg_wd (by omega)]
  have sP : sg (ng (wd (sa ^^ sb) P)) = !(sa ^^ sb) := by rw [sg_ng wp, sg_wd (by omega)]
  obtain ⟨r, n2, e2⟩ := fma_fin (x := wd sa (ofN A)) (y := wd sb (ofN B)) (z := ng (wd (sa ^^ sb) P)) (by omega) (by omega) (by omega)
  obtain ⟨D, hD⟩ : ∃ D, D = sm (sa ^^ sb) (A * B) - sm (sa ^^ sb) Q := ⟨_, rfl⟩
  have hT : TT (wd sa (ofN A)) (wd sb (ofN B)) (ng (wd (sa ^^ sb) P)) = D * ((2 ^ LL * 2 ^ LL : Nat) : Int) := by
    unfold TT
    rw [rA, rB, rP, sA, sB, sP, mA, mB, hQ, hD, sm_neg]
    have a1 : A * 2 ^ LL * (B * 2 ^ LL) = A * B * (2 ^ LL * 2 ^ LL) := by grind
    have a2 : Q * 2 ^ LL * 2 ^ LL = Q * (2 ^ LL * 2 ^ LL) := by grind
    rw [a1, a2, sm_mul _ (A * B) (2 ^ LL * 2 ^ LL), sm_mul _ Q (2 ^ LL * 2 ^ LL), Int.sub_mul]; omega
  have Db : D.natAbs ≤ 4503599627370496 := by
    rw [hD]; unfold sm; split <;> omega
  have nT : (D * ((2 ^ LL * 2 ^ LL : Nat) : Int)).natAbs = D.natAbs * (2 ^ LL * 2 ^ LL) := by
    rw [Int.natAbs_mul, Int.natAbs_natCast]
  rw [hT, nT] at n2
  have er : r = ofN D.natAbs := by
    refine near_unique X0 X0 n2 (near_exact (ofN D.natAbs) (2 ^ LL) X0) ?_
    rw [mg_ofN (m := D.natAbs) (by omega) L]; grind
  have oD := ofN_lt (m := D.natAbs) (by omega)
  rw [hT, er, Nat.min_eq_left (by omega), sA, sB, sP] at e2
  refine ⟨_, D, hD, Db, ?_, e2⟩
  have Y0 : (0 : Int) < ((2 ^ LL * 2 ^ LL : Nat) : Int) := by have := Nat.mul_pos X0 X0; omega
  generalize ((2 ^ LL * 2 ^ LL : Nat) : Int) = Y at *
  by_cases c : D = 0
  · rw [c]; unfold sm; simp
  · unfold sgT
    have : ¬ D * Y = 0 := by intro g; rcases Int.mul_eq_zero.1 g with g | g <;> omega
    rw [if_neg this]
    unfold sm
    rcases (by omega : D < 0 ∨ 0 < D) with d | d
    · have := Int.mul_neg_of_neg_of_pos d Y0
      rw [if_pos (by simpa using this)]; omega
    · have := Int.mul_pos d Y0
      rw [if_neg (by simp; omega)]; omega
/-- the fraction and the exponent of a whole number -/
theorem pq_whole {r m Q : Nat} {k : Int} (h : PQ r m k) (hQ : mg r = Q * 2 ^ LL) (h0 : 0 < Q) (hb : Q < 2 ^ 110) :
    (∃ j : Nat, k = -(j : Int) ∧ 1 ≤ j ∧ j ≤ 52 ∧ m = Q * 2 ^ j) ∨ (∃ j : Nat, k = (j : Int) ∧ j < 58 ∧ Q = m * 2 ^ j) := by
  have L := LL_eq
  obtain ⟨m1, m2, c, d, e1, e2⟩ := h
  rw [hQ, Nat.mul_assoc, pow_sum] at e2
  rcases (by omega : k < 0 ∨ 0 ≤ k) with g | g
  · left
    obtain ⟨j, hj⟩ : ∃ j : Nat, k = -(j : Int) := ⟨(-k).toNat, by omega⟩
    have em : m = Q * 2 ^ j := by
      rw [show LL + d = j + c by omega, Nat.pow_add, ← Nat.mul_assoc] at e2
      exact (Nat.eq_of_mul_eq_mul_right (Nat.two_pow_pos c) e2).symm
    refine ⟨j, hj, by omega, ?_, em⟩
    have : 1 * 2 ^ j ≤ Q * 2 ^ j := Nat.mul_le_mul_right _ h0
    rw [← em, Nat.one_mul] at this
    have : 2 ^ j < 2 ^ 53 := Nat.lt_of_le_of_lt this m2
    have := pow_lt_iff.1 this
    omega
  · right
    obtain ⟨j, hj⟩ : ∃ j : Nat, k = (j : Int) := ⟨k.toNat, by omega⟩
    have em : Q = m * 2 ^ j := by
      rw [show c = j + (LL + d) by omega, Nat.pow_add 2 j (LL + d), ← Nat.mul_assoc] at e2
      exact Nat.eq_of_mul_eq_mul_right (Nat.two_pow_pos (LL + d)) e2
    refine ⟨j, hj, ?_, em⟩
    have : 4503599627370496 * 2 ^ j ≤ m * 2 ^ j := Nat.mul_le_mul_right _ m1
    rw [← em, B_pow, pow_sum] at this
    have := pow_lt_iff.1 (Nat.lt_of_le_of_lt this hb)
    omega
end Go.Proofs.Ytjfoiicooleeiaa.Fd
