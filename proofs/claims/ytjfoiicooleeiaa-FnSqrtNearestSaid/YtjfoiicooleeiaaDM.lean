/- The larger and the smaller one of two numbers of 64 bits; no condition but that they are words. -/
import Derived.Test.YtjfoiicooleeiaaFXd
namespace Go.Proofs.Ytjfoiicooleeiaa.Fd
open Ieee

def maxV (x y : Nat) : Nat := if key x = 9218868437227405312 ∨ key y = 9218868437227405312 then 9218868437227405312 else if nan x = true ∨ nan y = true then 9221120237041090561 else if tk y ≤ tk x then x else y
def minV (x y : Nat) : Nat := if key x = -9218868437227405312 ∨ key y = -9218868437227405312 then 9223372036854775808 + 9218868437227405312 else if nan x = true ∨ nan y = true then 9221120237041090561 else if tk x ≤ tk y then x else y

theorem read_is_inf (x : Nat) (s : Bool) : (double.read x == Datum.infinity s) = decide (rg x = 9218868437227405312 ∧ sg x = s) := by
  rw [Bool.eq_iff_iff]; simp only [beq_iff_eq, decide_eq_true_eq]
  rcases Nat.lt_trichotomy (rg x) 9218868437227405312 with h | h | h
  · rw [read_fin h]; simp; omega
  · rw [read_inf h]; simp [h]
  · rw [read_nan h]; simp; omega
theorem read_isNaN (x : Nat) : (double.read x).isNaN = nan x := by
  unfold nan
  rcases Nat.lt_trichotomy (rg x) 9218868437227405312 with h | h | h
  · rw [read_fin h, Bool.eq_iff_iff]; simp [Datum.isNaN]; omega
  · rw [read_inf h, Bool.eq_iff_iff]; simp [Datum.isNaN]; omega
  · rw [read_nan h, Bool.eq_iff_iff]; simp [Datum.isNaN]; omega
theorem fm_zero {r : Nat} : fm r = 0 ↔ r = 0 := by unfold fm; split <;> omega
theorem isZero_iff (s : Bool) (m : Nat) (p : Int) : (Datum.number s m p).isZero = decide (m = 0) := by
  unfold Datum.isZero; cases m <;> simp
theorem read_isZero (x : Nat) : (double.read x).isZero = decide (rg x = 0) := by
  rcases Nat.lt_trichotomy (rg x) 9218868437227405312 with h | h | h
  · rw [read_fin h, isZero_iff, Bool.eq_iff_iff]; simp [fm_zero]
  · rw [read_inf h, Bool.eq_iff_iff]; simp [Datum.isZero]; omega
  · rw [read_nan h, Bool.eq_iff_iff]; simp [Datum.isZero]; omega

theorem key_is_inf {x : Nat} : key x = 9218868437227405312 ↔ (rg x = 9218868437227405312 ∧ sg x = false) := by
  rw [key_sg]; cases sg x <;> simp <;> omega
theorem key_is_ninf {x : Nat} : key x = -9218868437227405312 ↔ (rg x = 9218868437227405312 ∧ sg x = true) := by
  rw [key_sg]; cases sg x <;> simp <;> omega

theorem order_gt_key {x y : Nat} (nx : nan x = false) (ny : nan y = false) : (double.order x y == some .gt) = decide (key y < key x) := by
  rw [order_eq, nx, ny]; unfold cmpI; rw [Bool.eq_iff_iff]; simp; (repeat' split) <;> simp <;> omega
theorem order_lt_key {x y : Nat} (nx : nan x = false) (ny : nan y = false) : (double.order x y == some .lt) = decide (key x < key y) := by
  rw [order_eq, nx, ny]; unfold cmpI; rw [Bool.eq_iff_iff]; simp; (repeat' split) <;> simp <;> omega

theorem pick_max (x y : Nat) (hx : x < 18446744073709551616) (hy : y < 18446744073709551616) :
    (if double.read x == .infinity false || double.read y == .infinity false then double.write (.infinity false)
      else if (double.read x).isNaN || (double.read y).isNaN then 9221120237041090561
      else if (double.read x).isZero && (double.read y).isZero then (if (double.read x).neg == false then x else y)
      else if (double.read x).order (double.read y) == some .gt then x else y) = maxV x y := by
  have o : (double.read x).order (double.read y) = double.order x y := rfl
  rw [read_is_inf, read_is_inf, read_isNaN, read_isNaN, read_isZero, read_isZero, neg_read, o, write_inf]
  unfold maxV
  simp only [key_is_inf, Bool.or_eq_true, decide_eq_true_eq, Bool.and_eq_true, beq_iff_eq]
  by_cases c1 : (rg x = 9218868437227405312 ∧ sg x = false) ∨ (rg y = 9218868437227405312 ∧ sg y = false)
  · rw [if_pos c1, if_pos c1]; rfl
  · rw [if_neg c1, if_neg c1]
    by_cases c2 : nan x = true ∨ nan y = true
    · rw [if_pos c2, if_pos c2]
    · rw [if_neg c2, if_neg c2]
      have nx : nan x = false := by cases h : nan x <;> simp [h] at c2 ⊢
      have ny : nan y = false := by cases h : nan y <;> simp [h] at c2 ⊢
      have g := order_gt_key nx ny
      have e : double.order x y = some .gt ↔ key y < key x := by
        rw [Bool.eq_iff_iff] at g; simpa using g
      simp only [e]
      have kx := tk_key hx
      have ky := tk_key hy
      have sx := sg_false hx
      have wx := word_eq hx
      have wy := word_eq hy
      have zx := key_zero hx
      have zy := key_zero hy
      have rx : rg x = 0 ↔ key x = 0 := by rw [key_sg]; cases sg x <;> simp
      have ry : rg y = 0 ↔ key y = 0 := by rw [key_sg]; cases sg y <;> simp
      by_cases c3 : key x = 0 ∧ key y = 0
      · rw [if_pos ⟨rx.2 c3.1, ry.2 c3.2⟩]
        rcases zx.1 c3.1 with rfl | rfl <;> rcases zy.1 c3.2 with rfl | rfl <;> decide
      · rw [if_neg (fun h => c3 ⟨rx.1 h.1, ry.1 h.2⟩)]
        by_cases c4 : key y < key x
        · rw [if_pos c4, if_pos (by (repeat' split at kx) <;> (repeat' split at ky) <;> omega)]
        · rw [if_neg c4]
          by_cases c5 : tk y ≤ tk x
          · rw [if_pos c5]
            have : tk y = tk x := by (repeat' split at kx) <;> (repeat' split at ky) <;> omega
            exact tk_inj this
          · rw [if_neg c5]

theorem pick_min (x y : Nat) (hx : x < 18446744073709551616) (hy : y < 18446744073709551616) :
    (if double.read x == .infinity true || double.read y == .infinity true then double.write (.infinity true)
      else if (double.read x).isNaN || (double.read y).isNaN then 9221120237041090561
      else if (double.read x).isZero && (double.read y).isZero then (if (double.read x).neg == true then x else y)
      else if (double.read x).order (double.read y) == some .lt then x else y) = minV x y := by
  have o : (double.read x).order (double.read y) = double.order x y := rfl
  rw [read_is_inf, read_is_inf, read_isNaN, read_isNaN, read_isZero, read_isZero, neg_read, o, write_inf]
  unfold minV
  simp only [key_is_ninf, Bool.or_eq_true, decide_eq_true_eq, Bool.and_eq_true, beq_iff_eq]
  by_cases c1 : (rg x = 9218868437227405312 ∧ sg x = true) ∨ (rg y = 9218868437227405312 ∧ sg y = true)
  · rw [if_pos c1, if_pos c1]; rfl
  · rw [if_neg c1, if_neg c1]
    by_cases c2 : nan x = true ∨ nan y = true
    · rw [if_pos c2, if_pos c2]
    · rw [if_neg c2, if_neg c2]
      have nx : nan x = false := by cases h : nan x <;> simp [h] at c2 ⊢
      have ny : nan y = false := by cases h : nan y <;> simp [h] at c2 ⊢
      have g := order_lt_key nx ny
      have e : double.order x y = some .lt ↔ key x < key y := by
        rw [Bool.eq_iff_iff] at g; simpa using g
      simp only [e]
      have kx := tk_key hx
      have ky := tk_key hy
      have zx := key_zero hx
      have zy := key_zero hy
      have rx : rg x = 0 ↔ key x = 0 := by rw [key_sg]; cases sg x <;> simp
      have ry : rg y = 0 ↔ key y = 0 := by rw [key_sg]; cases sg y <;> simp
      by_cases c3 : key x = 0 ∧ key y = 0
      · rw [if_pos ⟨rx.2 c3.1, ry.2 c3.2⟩]
        rcases zx.1 c3.1 with rfl | rfl <;> rcases zy.1 c3.2 with rfl | rfl <;> decide
      · rw [if_neg (fun h => c3 ⟨rx.1 h.1, ry.1 h.2⟩)]
        by_cases c4 : key x < key y
        · rw [if_pos c4, if_pos (by (repeat' split at kx) <;> (repeat' split at ky) <;> omega)]
        · rw [if_neg c4]
          by_cases c5 : tk x ≤ tk y
          · rw [if_pos c5]
            have : tk y = tk x := by (repeat' split at kx) <;> (repeat' split at ky) <;> omega
            exact tk_inj this
          · rw [if_neg c5]

theorem key_I {x : Nat} (hx : x < 18446744073709551616) (h : key x = 9218868437227405312) : x = 9218868437227405312 := by
  obtain ⟨h1, h2⟩ := key_pos_word hx (by omega); omega
theorem key_nI {x : Nat} (hx : x < 18446744073709551616) (h : key x = -9218868437227405312) : x = 9223372036854775808 + 9218868437227405312 := by
  obtain ⟨h1, h2⟩ := key_neg_word hx (by omega); omega
theorem maxV_num {x y : Nat} (hx : x < 18446744073709551616) (hy : y < 18446744073709551616) (nx : nan x = false) (ny : nan y = false) : maxV x y = if tk y ≤ tk x then x else y := by
  unfold maxV
  have bx := key_bound nx
  have by' := key_bound ny
  have kx := tk_key hx
  have ky := tk_key hy
  by_cases c : key x = 9218868437227405312 ∨ key y = 9218868437227405312
  · rw [if_pos c]
    by_cases c5 : tk y ≤ tk x
    · rw [if_pos c5]; exact (key_I hx (by (repeat' split at kx) <;> (repeat' split at ky) <;> omega)).symm
    · rw [if_neg c5]; exact (key_I hy (by (repeat' split at kx) <;> (repeat' split at ky) <;> omega)).symm
  · rw [if_neg c, if_neg (by simp [nx, ny])]
theorem minV_num {x y : Nat} (hx : x < 18446744073709551616) (hy : y < 18446744073709551616) (nx : nan x = false) (ny : nan y = false) : minV x y = if tk x ≤ tk y then x else y := by
  unfold minV
  have bx := key_bound nx
  have by' := key_bound ny
  have kx := tk_key hx
  have ky := tk_key hy
  by_cases c : key x = -9218868437227405312 ∨ key y = -9218868437227405312
  · rw [if_pos c]
    by_cases c5 : tk x ≤ tk y
    · rw [if_pos c5]; exact (key_nI hx (by (repeat' split at kx) <;> (repeat' split at ky) <;> omega)).symm
    · rw [if_neg c5]; exact (key_nI hy (by (repeat' split at kx) <;> (repeat' split at ky) <;> omega)).symm
  · rw [if_neg c, if_neg (by simp [nx, ny])]
theorem maxV_W {x y : Nat} (hx : x < 18446744073709551616) (hy : y < 18446744073709551616) : maxV x y < 18446744073709551616 := by unfold maxV; (repeat' split) <;> omega
theorem minV_W {x y : Nat} (hx : x < 18446744073709551616) (hy : y < 18446744073709551616) : minV x y < 18446744073709551616 := by unfold minV; (repeat' split) <;> omega

end Go.Proofs.Ytjfoiicooleeiaa.Fd
