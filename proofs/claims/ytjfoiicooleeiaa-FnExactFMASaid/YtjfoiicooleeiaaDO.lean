/- The reference's product and sum, put beside the model's; conditions: as told in each line. -/
import Derived.Test.YtjfoiicooleeiaaDG
import Derived.Test.YtjfoiicooleeiaaDK
import Derived.Test.YtjfoiicooleeiaaDQ
namespace Go.Proofs.Ytjfoiicooleeiaa.Fd
open Ieee
theorem fma_nan {x y z : Nat} (h : nan x = true ∨ nan y = true ∨ nan z = true) : double.fma x y z = none := by
  have un : ∀ {a : Nat}, nan a = true → 9218868437227405312 < rg a := fun {a} h => by unfold nan at h; simpa using h
  unfold Format.fma
  rcases h with h | h | h
  · rw [read_nan (un h), product_nan_l]; rfl
  · rw [read_nan (un h), product_nan_r]; rfl
  · rw [read_nan (un h)]
    cases Datum.product (double.read x) (double.read y) with
    | none => rfl
    | some d => rw [Option.bind_some, sum_nan_r]; rfl
theorem num_cases3 {x : Nat} (h : nan x = false) : rg x ≤ 9218868437227405312 := by unfold nan at h; simpa using h
/-- an infinity times zero -/
theorem fma_inf_zero {x y z : Nat} (h : (rg x = 9218868437227405312 ∧ rg y = 0) ∨ (rg y = 9218868437227405312 ∧ rg x = 0)) : double.fma x y z = none := by
  have f0 : fm 0 = 0 := rfl
  unfold Format.fma
  rcases h with ⟨a, b⟩ | ⟨a, b⟩
  · rw [read_inf a, read_fin (x := y) (by omega), b]
    show Option.map double.write ((if fm 0 = 0 then none else some (Datum.infinity (sg x ^^ sg y))).bind (·.sum _)) = none
    rw [if_pos f0]; rfl
  · rw [read_inf a, read_fin (x := x) (by omega), b]
    show Option.map double.write ((if fm 0 = 0 then none else some (Datum.infinity (sg y ^^ sg x))).bind (·.sum _)) = none
    rw [if_pos f0]; rfl
theorem fma_inf {x y z : Nat} (nx : nan x = false) (ny : nan y = false) (nz : nan z = false) (h : rg x = 9218868437227405312 ∨ rg y = 9218868437227405312) (h0 : rg x ≠ 0) (h1 : rg y ≠ 0) :
    (rg z = 9218868437227405312 ∧ sg z ≠ (sg x ^^ sg y) → double.fma x y z = none) ∧ (¬ (rg z = 9218868437227405312 ∧ sg z ≠ (sg x ^^ sg y)) → double.fma x y z = some (wd (sg x ^^ sg y) 9218868437227405312)) := by
  have lx := num_cases3 nx
  have ly := num_cases3 ny
  have lz := num_cases3 nz
  have pos : ∀ {r : Nat}, r ≠ 0 → fm r ≠ 0 := by
    intro r hr; unfold fm; split <;> omega
  have pr : Datum.product (double.read x) (double.read y) = some (.infinity (sg x ^^ sg y)) := by
    rcases product_cases x y with ⟨a, _⟩ | ⟨_, a⟩ | ⟨a, b⟩
    · exfalso
      rcases kinds x with c | c | c
      · rcases kinds y with d | d | d
        · omega
        · rw [read_fin c, read_inf d] at a
          unfold Datum.product at a
          simp only at a
          rw [if_neg (pos h0)] at a; cases a
        · omega
      · rcases kinds y with d | d | d
        · rw [read_inf c, read_fin d] at a
          unfold Datum.product at a
          simp only at a
          rw [if_neg (pos h1)] at a; cases a
        · rw [read_inf c, read_inf d] at a; cases a
        · omega
      · omega
    · exact a
    · omega
  unfold Format.fma
  rw [pr, Option.bind_some]
  rcases kinds z with c | c | c
  · rw [read_fin c]
    exact ⟨fun g => by omega, fun _ => rfl⟩
  · rw [read_inf c]
    show (_ → Option.map double.write (if (sg x ^^ sg y) = sg z then some (Datum.infinity (sg x ^^ sg y)) else none) = none) ∧ (_ → Option.map double.write (if (sg x ^^ sg y) = sg z then some (Datum.infinity (sg x ^^ sg y)) else none) = _)
    refine ⟨fun g => by rw [if_neg (fun e => g.2 e.symm)]; rfl, fun g => ?_⟩
    have : (sg x ^^ sg y) = sg z := by
      by_cases e : (sg x ^^ sg y) = sg z
      · exact e
      · exact absurd ⟨c, fun e' => e e'.symm⟩ g
    rw [if_pos this]; rfl
  · omega
theorem fma_z_inf {x y z : Nat} (hx : rg x < 9218868437227405312) (hy : rg y < 9218868437227405312) (hz : rg z = 9218868437227405312) (wz : z < 18446744073709551616) : double.fma x y z = some z := by
  rcases fma_cases x y z with ⟨_, h⟩ | ⟨_, _, h, _⟩ | ⟨e, _⟩ | ⟨_, _, h⟩
  · exfalso
    rcases h with h | h | ⟨h, _⟩
    · obtain ⟨r, _, e⟩ := mul_fin hx hy
      rw [e] at h; cases h
    · omega
    · omega
  · omega
  · rw [e, ← hz, wd_of wz]
  · omega
theorem tt_prod_zero {x y z : Nat} (h : rg x = 0 ∨ rg y = 0) : TT x y z = sm (sg z) (mg (rg z) * 2 ^ LL) := by
  unfold TT
  have : mg (rg x) * mg (rg y) = 0 := by
    rcases h with h | h <;> rw [h, mg_zero] <;> simp
  rw [this]
  have z0 : sm (sg x ^^ sg y) 0 = 0 := by unfold sm; simp
  rw [z0, Int.zero_add]
theorem fma_zero_zero {x y z : Nat} (hx : rg x < 9218868437227405312) (hy : rg y < 9218868437227405312) (h : rg x = 0 ∨ rg y = 0) (hz : rg z = 0) : double.fma x y z = some (wd ((sg x ^^ sg y) && sg z) 0) := by
  obtain ⟨r, n, e⟩ := fma_fin hx hy (z := z) (by omega)
  have T0 : TT x y z = 0 := by rw [tt_prod_zero h, hz, mg_zero]; unfold sm; simp
  rw [T0] at n e
  have hp : 0 < 2 ^ LL := Nat.two_pow_pos LL
  have r0 : r = 0 := near_zero hp n
  rw [e, r0]
  unfold sgT
  rw [if_pos rfl]; rfl
theorem fma_zero_some {x y z : Nat} (hx : rg x < 9218868437227405312) (hy : rg y < 9218868437227405312) (h : rg x = 0 ∨ rg y = 0) (hz : 0 < rg z) (hz' : rg z < 9218868437227405312) (wz : z < 18446744073709551616) : double.fma x y z = some z := by
  obtain ⟨r, n, e⟩ := fma_fin hx hy hz'
  have hp : 0 < 2 ^ LL := Nat.two_pow_pos LL
  have m0 : 0 < mg (rg z) * 2 ^ LL := Nat.mul_pos (by have := mg_lt hz; rw [mg_zero] at this; omega) hp
  rw [tt_prod_zero h] at n e
  rw [sm_natAbs] at n
  have er := near_unique hp hp n (near_exact (rg z) (2 ^ LL) hp) rfl
  have es : sgT (sg x ^^ sg y) (sg z) (sm (sg z) (mg (rg z) * 2 ^ LL)) = sg z := by
    generalize mg (rg z) * 2 ^ LL = P at m0
    have nz : ¬ sm (sg z) P = 0 := by rw [sm_zero_iff]; omega
    unfold sgT
    rw [if_neg nz, Bool.eq_iff_iff]
    simp only [decide_eq_true_eq, sm_neg_iff]
    exact ⟨fun g => g.1, fun g => ⟨g, by omega⟩⟩
  rw [e, er, es, Nat.min_eq_left (by omega), wd_of wz]
/-- the same exact value in other units: the same rung and the same sign -/
theorem fma_by {x y z R : Nat} {s t : Bool} {D g : Int} (hx : rg x < 9218868437227405312) (hy : rg y < 9218868437227405312) (hz : rg z < 9218868437227405312) (hs : s = (sg x ^^ sg y)) (ht : t = sg z ∨ D ≠ 0) (nr : NearAt D.natAbs g R)
    (eq : ∃ P Q : Nat, -2148 + (Q : Int) = g + P ∧ TT x y z * ((2 ^ P : Nat) : Int) = D * ((2 ^ Q : Nat) : Int)) : double.fma x y z = some (wd (sgT s t D) (min R 9218868437227405312)) := by
  obtain ⟨r, n, e⟩ := fma_fin hx hy hz
  obtain ⟨P, Q, e1, e2⟩ := eq
  have L := LL_eq
  have hP : 0 < 2 ^ P := Nat.two_pow_pos P
  have hQ : 0 < 2 ^ Q := Nat.two_pow_pos Q
  have n' : NearAt (TT x y z).natAbs (-2148) r := ⟨0, LL, by omega, by rw [Nat.pow_zero, Nat.mul_one]; exact n⟩
  have ab : (TT x y z).natAbs * 2 ^ P = D.natAbs * 2 ^ Q := by
    have := congrArg Int.natAbs e2
    rw [Int.natAbs_mul, Int.natAbs_mul, Int.natAbs_natCast, Int.natAbs_natCast] at this
    exact this
  have er : r = R := nearAt_unique n' nr ⟨P, Q, by omega, ab⟩
  have es : sgT (sg x ^^ sg y) (sg z) (TT x y z) = sgT s t D := by
    have hP' : (0 : Int) < ((2 ^ P : Nat) : Int) := by omega
    have hQ' : (0 : Int) < ((2 ^ Q : Nat) : Int) := by omega
    generalize ((2 ^ P : Nat) : Int) = p at *
    generalize ((2 ^ Q : Nat) : Int) = q at *
    generalize TT x y z = T at *
    unfold sgT
    rcases (by omega : D < 0 ∨ D = 0 ∨ 0 < D) with c | c | c
    · have : D * q < 0 := Int.mul_neg_of_neg_of_pos c hQ'
      have : T < 0 := by
        rcases (by omega : T < 0 ∨ 0 ≤ T) with g | g
        · exact g
        · have := Int.mul_nonneg g (Int.le_of_lt hP'); omega
      rw [if_neg (by omega), if_neg (by omega)]
      rw [Bool.eq_iff_iff]; simp; omega
    · rw [c, Int.zero_mul] at e2
      have : T = 0 := by
        rcases Int.mul_eq_zero.1 e2 with g | g <;> omega
      rw [if_pos this, if_pos c, hs]
      rcases ht with ht | ht
      · rw [ht]
      · exact absurd c ht
    · have : 0 < D * q := Int.mul_pos c hQ'
      have : 0 < T := by
        rcases (by omega : 0 < T ∨ T ≤ 0) with g | g
        · exact g
        · have := Int.mul_nonneg (show 0 ≤ -T by omega) (Int.le_of_lt hP')
          rw [Int.neg_mul] at this; omega
      rw [if_neg (by omega), if_neg (by omega)]
      rw [Bool.eq_iff_iff]; simp; omega
  rw [e, es, er]
end Go.Proofs.Ytjfoiicooleeiaa.Fd
