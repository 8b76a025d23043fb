/- The signs of the fused product and sum; conditions: the operands are words. -/
import Derived.Test.YtjfoiicooleeiaaDF
namespace Go.Proofs.Ytjfoiicooleeiaa.Fd
open Ieee
theorem read_ng {x : Nat} (hx : x < 18446744073709551616) : double.read (ng x) = (double.read x).opposite := by
  have a := rg_ng hx
  have b := sg_ng hx
  rcases kinds x with h | h | h
  · rw [read_fin (x := ng x) (by omega), read_fin h, a, b]; rfl
  · rw [read_inf (x := ng x) (by omega), read_inf h, b]; rfl
  · rw [read_nan (x := ng x) (by omega), read_nan h, a, b]; rfl
theorem product_opp (d e : Datum) : Datum.product d.opposite e = (Datum.product d e).map Datum.opposite := by
  cases d <;> cases e <;> simp [Datum.product, Datum.opposite] <;> split <;> simp [Datum.opposite]
theorem opp_opp (d : Datum) : d.opposite.opposite = d := by cases d <;> simp [Datum.opposite]
theorem fma_ng2 {x y z : Nat} (hx : x < 18446744073709551616) (hy : y < 18446744073709551616) : double.fma (ng x) (ng y) z = double.fma x y z := by
  unfold Format.fma
  rw [read_ng hx, read_ng hy, product_opp, product_comm, product_opp, product_comm]
  cases Datum.product (double.read x) (double.read y) with
  | none => rfl
  | some d => simp only [Option.map_some, opp_opp]
theorem wd_key {s : Bool} {r : Nat} (h : r ≤ 9218868437227405312) : key (wd s r) = sm s r := key_wd (by omega)
theorem sgT_neg {s t : Bool} {T : Int} {r : Nat} (h : T = 0 → r = 0) (s' t' : Bool) : sm (sgT s' t' (-T)) r = -sm (sgT s t T) r := by
  by_cases c : T = 0
  · rw [h c]; unfold sm; simp
  · unfold sgT
    rw [if_neg c, if_neg (by omega)]
    have : decide (-T < 0) = !decide (T < 0) := by
      rw [Bool.eq_iff_iff]; simp; omega
    rw [this, sm_neg]
/-- opposites give the opposite, but for the sign of zero -/
theorem fma_opp {x y z : Nat} (hx : x < 18446744073709551616) (hz : z < 18446744073709551616) : (double.fma x y z = none ∧ double.fma (ng x) y (ng z) = none) ∨ ∃ r o, double.fma x y z = some r ∧ double.fma (ng x) y (ng z) = some o ∧ key o = -key r := by
  rcases product_cases x y with ⟨h, _⟩ | ⟨_, h⟩ | ⟨fx, fy⟩
  · left; unfold Format.fma; rw [read_ng hx, product_opp, h]; exact ⟨rfl, rfl⟩
  · unfold Format.fma
    rw [read_ng hx, product_opp, h, read_ng hz]
    simp only [Option.map_some, Option.bind_some]
    show (Option.map double.write (Datum.sum (.infinity (sg x ^^ sg y)) (double.read z)) = none ∧ Option.map double.write (Datum.sum (.infinity (!(sg x ^^ sg y))) (double.read z).opposite) = none) ∨
      ∃ r o, Option.map double.write (Datum.sum (.infinity (sg x ^^ sg y)) (double.read z)) = some r ∧ Option.map double.write (Datum.sum (.infinity (!(sg x ^^ sg y))) (double.read z).opposite) = some o ∧ key o = -key r
    generalize (sg x ^^ sg y) = s
    have fin : ∃ r o, some (wd s 9218868437227405312) = some r ∧ some (wd (!s) 9218868437227405312) = some o ∧ key o = -key r :=
      ⟨_, _, rfl, rfl, by rw [wd_key (Nat.le_refl _), wd_key (Nat.le_refl _), sm_neg]⟩
    rcases kinds z with c | c | c
    · rw [read_fin c]; exact Or.inr fin
    · rw [read_inf c]
      show (Option.map double.write (if s = sg z then some (Datum.infinity s) else none) = none ∧ Option.map double.write (if (!s) = (!sg z) then some (Datum.infinity (!s)) else none) = none) ∨
        ∃ r o, Option.map double.write (if s = sg z then some (Datum.infinity s) else none) = some r ∧ Option.map double.write (if (!s) = (!sg z) then some (Datum.infinity (!s)) else none) = some o ∧ key o = -key r
      by_cases e : s = sg z
      · rw [if_pos e, if_pos (by rw [e])]; exact Or.inr fin
      · rw [if_neg e, if_neg (by intro g; apply e; revert g; cases s <;> cases sg z <;> simp)]; exact Or.inl ⟨rfl, rfl⟩
    · rw [read_nan c]; exact Or.inl ⟨rfl, rfl⟩
  · have gx : rg (ng x) = rg x := rg_ng hx
    have gz : rg (ng z) = rg z := rg_ng hz
    have sx : sg (ng x) = !sg x := sg_ng hx
    have sz : sg (ng z) = !sg z := sg_ng hz
    rcases kinds z with c | c | c
    · right
      obtain ⟨r, h1, h2⟩ := fma_fin fx fy c
      obtain ⟨q, g1, g2⟩ := fma_fin (x := ng x) (y := y) (z := ng z) (by omega) fy (by omega)
      have e : TT (ng x) y (ng z) = -TT x y z := by
        unfold TT; rw [gx, gz, sx, sz, sm_neg, show (!sg x ^^ sg y) = !(sg x ^^ sg y) by cases sg x <;> cases sg y <;> rfl, sm_neg]; omega
      have hp : 0 < 2 ^ LL := Nat.two_pow_pos LL
      rw [e, Int.natAbs_neg] at g1
      rw [near_unique hp hp g1 h1 rfl, e] at g2
      refine ⟨_, _, h2, g2, ?_⟩
      rw [wd_key (Nat.min_le_right _ _), wd_key (Nat.min_le_right _ _)]
      refine sgT_neg (fun t => ?_) _ _
      rw [t] at h1
      rw [near_unique hp hp h1 (near_exact 0 (2 ^ LL) hp) (by rw [mg_zero]; simp)]; omega
    · right
      unfold Format.fma
      rw [read_ng hx, read_ng hz, product_opp, read_fin fx, read_fin fy, read_inf c]
      exact ⟨_, _, rfl, rfl, by
        show key (wd (!sg z) 9218868437227405312) = -key (wd (sg z) 9218868437227405312)
        rw [wd_key (Nat.le_refl _), wd_key (Nat.le_refl _), sm_neg]⟩
    · left
      unfold Format.fma
      rw [read_ng hx, read_ng hz, product_opp, read_fin fx, read_fin fy, read_nan c]; exact ⟨rfl, rfl⟩
/-- with 0 it is the product, but for the sign of zero -/
theorem fma_zero {x y z r : Nat} (h : double.fma x y z = some r) : ∃ u v, double.mul x y = some u ∧ double.fma x y 0 = some v ∧ key v = key u ∧ nan u = false ∧ u < 18446744073709551616 := by
  have infc : ∀ u v : Nat, True := fun _ _ => trivial
  rcases product_cases x y with ⟨e, _⟩ | ⟨_, e⟩ | ⟨hx, hy⟩
  · unfold Format.fma at h; rw [e] at h; cases h
  · refine ⟨wd (sg x ^^ sg y) 9218868437227405312, wd (sg x ^^ sg y) 9218868437227405312, ?_, ?_, rfl, nan_wd (Nat.le_refl _), wd_lt (by omega)⟩
    · unfold Format.mul; rw [e]; rfl
    · have r0 : double.read 0 = .number false 0 (-1074) := by decide +kernel
      unfold Format.fma; rw [e, r0]; rfl
  · obtain ⟨a, h1, h2⟩ := fma_fin hx hy (z := 0) (by decide)
    obtain ⟨q, g1, g2⟩ := mul_fin hx hy
    have hp : 0 < 2 ^ LL := Nat.two_pow_pos LL
    have e : TT x y 0 = sm (sg x ^^ sg y) (mg (rg x) * mg (rg y)) := by
      unfold TT
      rw [show rg 0 = 0 by decide, mg_zero, Nat.zero_mul]
      unfold sm; cases sg 0 <;> simp
    rw [e, sm_natAbs] at h1
    rw [near_unique hp hp h1 g1 rfl, e] at h2
    refine ⟨_, _, g2, h2, ?_, nan_wd (Nat.min_le_right _ _), wd_lt (by omega)⟩
    rw [wd_key (Nat.min_le_right _ _), wd_key (Nat.min_le_right _ _)]
    rw [show sg 0 = false by decide]
    by_cases c : mg (rg x) * mg (rg y) = 0
    · rw [c] at g1
      rw [near_unique hp hp g1 (near_exact 0 (2 ^ LL) hp) (by rw [mg_zero]; simp)]
      unfold sm; simp
    · have : sgT (sg x ^^ sg y) false (sm (sg x ^^ sg y) (mg (rg x) * mg (rg y))) = (sg x ^^ sg y) := by
        generalize mg (rg x) * mg (rg y) = P at c
        unfold sgT sm
        cases sg x ^^ sg y <;> simp <;> omega
      rw [this]
end Go.Proofs.Ytjfoiicooleeiaa.Fd
