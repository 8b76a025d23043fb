import Ieee.Arith
import Derived.Laws.FloatBits
namespace Go.Proofs.Ytndnjibaamgcfaa.Fs
open Ieee

def sg (x : Nat) : Bool := x / 2147483648 % 2 == 1
def rg (x : Nat) : Nat := x % 2147483648

/-- the magnitude of a rung, in units of the least number -/
def mg (r : Nat) : Nat := if r < 8388608 then r else (8388608 + r % 8388608) * 2 ^ (r / 8388608 - 1)

theorem read_eq (x : Nat) : single.read x =
    if rg x < 8388608 then .number (sg x) (rg x) (-149)
    else if rg x < 2139095040 then .number (sg x) (8388608 + rg x % 8388608) (-149 + ((rg x / 8388608 - 1 : Nat) : Int))
    else if rg x = 2139095040 then .infinity (sg x)
    else .nan (sg x) (rg x - 2139095040) := rfl

theorem mg_lt_succ (r : Nat) : mg r < mg (r + 1) := by
  unfold mg
  by_cases h : r + 1 < 8388608
  · rw [if_pos (by omega), if_pos h]; omega
  · rw [if_neg h]
    by_cases h' : r < 8388608
    · have e : r + 1 = 8388608 := by omega
      rw [if_pos h', e]; simp; omega
    · rw [if_neg h']
      by_cases c : (r + 1) % 8388608 = 0
      · have e1 : r % 8388608 = 8388608 - 1 := by omega
        have e2 : (r + 1) / 8388608 - 1 = (r / 8388608 - 1) + 1 := by omega
        rw [c, e1, e2, Nat.pow_succ]
        have : 0 < 2 ^ (r / 8388608 - 1) := Nat.two_pow_pos _
        generalize 2 ^ (r / 8388608 - 1) = q at *
        omega
      · have e1 : (r + 1) % 8388608 = r % 8388608 + 1 := by omega
        have e2 : (r + 1) / 8388608 = r / 8388608 := by omega
        rw [e1, e2]
        exact Nat.mul_lt_mul_of_pos_right (by omega) (Nat.two_pow_pos _)

theorem mg_lt {a b : Nat} (h : a < b) : mg a < mg b := by
  induction b with
  | zero => omega
  | succ b ih =>
    rcases Nat.lt_or_ge a b with g | g
    · exact Nat.lt_trans (ih g) (mg_lt_succ b)
    · have : a = b := by omega
      subst this; exact mg_lt_succ a

theorem mg_le {a b : Nat} (h : a ≤ b) : mg a ≤ mg b := by
  rcases Nat.lt_or_ge a b with g | g
  · exact Nat.le_of_lt (mg_lt g)
  · have : a = b := by omega
    subst this; exact Nat.le_refl _

theorem mg_lt_iff {a b : Nat} : mg a < mg b ↔ a < b := by
  constructor
  · intro h; rcases Nat.lt_or_ge a b with g | g
    · exact g
    · have := mg_le g; omega
  · exact mg_lt

theorem mg_inj {a b : Nat} : mg a = mg b ↔ a = b := by
  constructor
  · intro h
    rcases Nat.lt_trichotomy a b with g | g | g
    · have := mg_lt g; omega
    · exact g
    · have := mg_lt g; omega
  · rintro rfl; rfl

theorem mg_zero : mg 0 = 0 := rfl

def nan (x : Nat) : Bool := decide (2139095040 < rg x)
/-- the number's place in the order: its rung with its sign -/
def key (x : Nat) : Int := if sg x then -(rg x : Int) else rg x

def cmpI (a b : Int) : Ordering := if a < b then .lt else if a = b then .eq else .gt

theorem compare_int (a b : Int) : compare a b = cmpI a b := rfl

def sm (s : Bool) (n : Nat) : Int := if s then -(n : Int) else n

theorem signed_eq (s : Bool) (m u : Nat) : Ieee.signed s m u = sm s (m * 2 ^ u) := by
  unfold Ieee.signed sm; rw [Nat.shiftLeft_eq]

theorem sm_mul (s : Bool) (m c : Nat) : sm s (m * c) = sm s m * (c : Int) := by
  unfold sm; cases s <;> simp [Int.neg_mul]

theorem cmpI_mul {a b : Int} {c : Nat} (hc : 0 < c) : cmpI (a * c) (b * c) = cmpI a b := by
  have hc' : (0 : Int) < c := by omega
  unfold cmpI
  by_cases h : a < b
  · rw [if_pos h, if_pos (Int.mul_lt_mul_of_pos_right h hc')]
  · rw [if_neg h, if_neg (fun g => h (Int.lt_of_mul_lt_mul_right g (by omega)))]
    by_cases e : a = b
    · rw [if_pos e, if_pos (by rw [e])]
    · rw [if_neg e, if_neg (fun g => e (Int.eq_of_mul_eq_mul_right (by omega) g))]

theorem cmpI_sm_mg (s t : Bool) (a b : Nat) : cmpI (sm s (mg a)) (sm t (mg b)) = cmpI (sm s a) (sm t b) := by
  have z := mg_zero
  have l1 := @mg_lt_iff a b
  have l2 := @mg_lt_iff b a
  have l3 := @mg_inj a b
  have z1 := @mg_inj a 0
  have z2 := @mg_inj b 0
  rw [z] at z1 z2
  generalize mg a = p at *
  generalize mg b = q at *
  have k1 : (sm s p < sm t q) ↔ (sm s a < sm t b) := by unfold sm; cases s <;> cases t <;> simp only [Bool.false_eq_true, if_false, if_true] <;> omega
  have k2 : (sm s p = sm t q) ↔ (sm s a = sm t b) := by unfold sm; cases s <;> cases t <;> simp only [Bool.false_eq_true, if_false, if_true] <;> omega
  unfold cmpI
  simp only [k1, k2]

/-- a finite word: its magnitude and its place above the least one -/
def fm (r : Nat) : Nat := if r < 8388608 then r else 8388608 + r % 8388608
def fp (r : Nat) : Nat := if r < 8388608 then 0 else r / 8388608 - 1

theorem mg_fm (r : Nat) : mg r = fm r * 2 ^ fp r := by
  unfold mg fm fp; split <;> simp

theorem read_fin {x : Nat} (h : rg x < 2139095040) : single.read x = .number (sg x) (fm (rg x)) (-149 + (fp (rg x) : Int)) := by
  rw [read_eq]; unfold fm fp
  by_cases c : rg x < 8388608
  · simp only [c, if_true]; rfl
  · simp only [c, if_false, h, if_true]
theorem read_inf {x : Nat} (h : rg x = 2139095040) : single.read x = .infinity (sg x) := by
  rw [read_eq, if_neg (by omega), if_neg (by omega), if_pos h]
theorem read_nan {x : Nat} (h : 2139095040 < rg x) : single.read x = .nan (sg x) (rg x - 2139095040) := by
  rw [read_eq, if_neg (by omega), if_neg (by omega), if_neg (by omega)]

theorem order_fin (s t : Bool) (m n a b : Nat) :
    Datum.order (.number s m (-149 + (a : Int))) (.number t n (-149 + (b : Int))) = some (cmpI (sm s (m * 2 ^ a)) (sm t (n * 2 ^ b))) := by
  unfold Datum.order
  simp only [compare_int, signed_eq]
  congr 1
  have e1 : (-149 + (a : Int) - min (-149 + (a : Int)) (-149 + (b : Int))).toNat = a - min a b := by omega
  have e2 : (-149 + (b : Int) - min (-149 + (a : Int)) (-149 + (b : Int))).toNat = b - min a b := by omega
  rw [e1, e2]
  have p : ∀ c : Nat, min a b ≤ c → 2 ^ c = 2 ^ (c - min a b) * 2 ^ (min a b) := by
    intro c h; rw [← Nat.pow_add]; congr 1; omega
  rw [p a (by omega), p b (by omega), ← Nat.mul_assoc, ← Nat.mul_assoc, sm_mul _ _ (2 ^ min a b), sm_mul _ _ (2 ^ min a b), cmpI_mul (Nat.two_pow_pos _)]

theorem key_sm (x : Nat) : key x = sm (sg x) (rg x) := rfl

theorem cmp_bool (s t : Bool) : compare t.toNat s.toNat = cmpI (sm s 2139095040) (sm t 2139095040) := by
  cases s <;> cases t <;> decide

/-- THE ORDER OF TWO WORDS IS THAT OF THEIR RUNGS WITH THEIR SIGNS. -/
theorem order_eq (x y : Nat) : single.order x y = if nan x || nan y then none else some (cmpI (key x) (key y)) := by
  unfold Format.order nan
  rcases Nat.lt_trichotomy (rg x) 2139095040 with hx | hx | hx
  · rw [read_fin hx]
    rcases Nat.lt_trichotomy (rg y) 2139095040 with hy | hy | hy
    · rw [read_fin hy, order_fin, ← mg_fm, ← mg_fm, cmpI_sm_mg, if_neg (by simp; omega)]; rfl
    · rw [read_inf hy, if_neg (by simp; omega)]
      unfold Datum.order key cmpI
      simp only [Option.some.injEq]
      cases sg x <;> cases sg y <;> simp only [Bool.false_eq_true, if_false, if_true] <;> (repeat' split) <;> first | rfl | omega
    · rw [read_nan hy, if_pos (by simp; omega)]; rfl
  · rw [read_inf hx]
    rcases Nat.lt_trichotomy (rg y) 2139095040 with hy | hy | hy
    · rw [read_fin hy, if_neg (by simp; omega)]
      unfold Datum.order key cmpI
      simp only [Option.some.injEq]
      cases sg x <;> cases sg y <;> simp only [Bool.false_eq_true, if_false, if_true] <;> (repeat' split) <;> first | rfl | omega
    · rw [read_inf hy, if_neg (by simp; omega)]
      show some (compare _ _) = _
      rw [cmp_bool, key_sm, key_sm, hx, hy]
    · rw [read_nan hy, if_pos (by simp; omega)]; rfl
  · rw [read_nan hx, if_pos (by simp; omega)]
    unfold Datum.order; rfl

end Go.Proofs.Ytndnjibaamgcfaa.Fs
