import Ieee.Arith
import Derived.Laws.FloatBits
namespace Go.Proofs.Ytjfoiicooleeiaa.Fd
open Ieee

def sg (x : Nat) : Bool := x / 9223372036854775808 % 2 == 1
def rg (x : Nat) : Nat := x % 9223372036854775808

/-- the magnitude of a rung, in units of the least number -/
def mg (r : Nat) : Nat := if r < 4503599627370496 then r else (4503599627370496 + r % 4503599627370496) * 2 ^ (r / 4503599627370496 - 1)

theorem read_eq (x : Nat) : double.read x =
    if rg x < 4503599627370496 then .number (sg x) (rg x) (-1074)
    else if rg x < 9218868437227405312 then .number (sg x) (4503599627370496 + rg x % 4503599627370496) (-1074 + ((rg x / 4503599627370496 - 1 : Nat) : Int))
    else if rg x = 9218868437227405312 then .infinity (sg x)
    else .nan (sg x) (rg x - 9218868437227405312) := rfl

theorem mg_lt_succ (r : Nat) : mg r < mg (r + 1) := by
  unfold mg
  by_cases h : r + 1 < 4503599627370496
  · rw [if_pos (by omega), if_pos h]; omega
  · rw [if_neg h]
    by_cases h' : r < 4503599627370496
    · have e : r + 1 = 4503599627370496 := by omega
      rw [if_pos h', e]; simp; omega
    · rw [if_neg h']
      by_cases c : (r + 1) % 4503599627370496 = 0
      · have e1 : r % 4503599627370496 = 4503599627370496 - 1 := by omega
        have e2 : (r + 1) / 4503599627370496 - 1 = (r / 4503599627370496 - 1) + 1 := by omega
        rw [c, e1, e2, Nat.pow_succ]
        have : 0 < 2 ^ (r / 4503599627370496 - 1) := Nat.two_pow_pos _
        generalize 2 ^ (r / 4503599627370496 - 1) = q at *
        omega
      · have e1 : (r + 1) % 4503599627370496 = r % 4503599627370496 + 1 := by omega
        have e2 : (r + 1) / 4503599627370496 = r / 4503599627370496 := by omega
        rw [e1, e2]
        exact Nat.mul_lt_mul_of_pos_right (by omega) (Nat.two_pow_pos _)

theorem mg_lt {a b : Nat} (h : a < b) : mg a < mg b := by
  induction b with
  | zero => omega
  | succ b ih =>
    rcases Nat.lt_or_ge a b with g | g
    · exact Nat.lt_trans (ih g) (mg_lt_succ b)
    · have : a = b := by omega
      subst this; exact mg_lt_succ a

theorem mg_le {a b : Nat} (h : a ≤ b) : mg a ≤ mg b := by
  rcases Nat.lt_or_ge a b with g | g
  · exact Nat.le_of_lt (mg_lt g)
  · have : a = b := by omega
    subst this; exact Nat.le_refl _

theorem mg_lt_iff {a b : Nat} : mg a < mg b ↔ a < b := by
  constructor
  · intro h; rcases Nat.lt_or_ge a b with g | g
    · exact g
    · have := mg_le g; omega
  · exact mg_lt

theorem mg_inj {a b : Nat} : mg a = mg b ↔ a = b := by
  constructor
  · intro h
    rcases Nat.lt_trichotomy a b with g | g | g
    · have := mg_lt g; omega
    · exact g
    · have := mg_lt g; omega
  · rintro rfl; rfl

theorem mg_zero : mg 0 = 0 := rfl

def nan (x : Nat) : Bool := decide (9218868437227405312 < rg x)
/-- the number's place in the order: its rung with its sign -/
def key (x : Nat) : Int := if sg x then -(rg x : Int) else rg x

def cmpI (a b : Int) : Ordering := if a < b then .lt else if a = b then .eq else .gt

theorem compare_int (a b : Int) : compare a b = cmpI a b := rfl

def sm (s : Bool) (n : Nat) : Int := if s then -(n : Int) else n

theorem signed_eq (s : Bool) (m u : Nat) : Ieee.signed s m u = sm s (m * 2 ^ u) := by
  unfold Ieee.signed sm; rw [Nat.shiftLeft_eq]

theorem sm_mul (s : Bool) (m c : Nat) : sm s (m * c) = sm s m * (c : Int) := by
  unfold sm; cases s <;> simp [Int.neg_mul]

theorem cmpI_mul {a b : Int} {c : Nat} (hc : 0 < c) : cmpI (a * c) (b * c) = cmpI a b := by
  have hc' : (0 : Int) < c := by omega
  unfold cmpI
  by_cases h : a < b
  · rw [if_pos h, if_pos (Int.mul_lt_mul_of_pos_right h hc')]
  · rw [if_neg h, if_neg (fun g => h (Int.lt_of_mul_lt_mul_right g (by omega)))]
    by_cases e : a = b
    · rw [if_pos e, if_pos (by rw [e])]
    · rw [if_neg e, if_neg (fun g => e (Int.eq_of_mul_eq_mul_right (by omega) g))]

theorem cmpI_sm_mg (s t : Bool) (a b : Nat) : cmpI (sm s (mg a)) (sm t (mg b)) = cmpI (sm s a) (sm t b) := by
  have z := mg_zero
  have l1 := @mg_lt_iff a b
  have l2 := @mg_lt_iff b a
  have l3 := @mg_inj a b
  have z1 := @mg_inj a 0
  have z2 := @mg_inj b 0
  rw [z] at z1 z2
  generalize mg a = p at *
  generalize mg b = q at *
  have k1 : (sm s p < sm t q) ↔ (sm s a < sm t b) := by unfold sm; cases s <;> cases t <;> simp only [Bool.false_eq_true, if_false, if_true] <;> omega
  have k2 : (sm s p = sm t q) ↔ (sm s a = sm t b) := by unfold sm; cases s <;> cases t <;> simp only [Bool.false_eq_true, if_false, if_true] <;> omega
  unfold cmpI
  simp only [k1, k2]

/-- a finite word: its magnitude and its place above the least one -/
def fm (r : Nat) : Nat := if r < 4503599627370496 then r else 4503599627370496 + r % 4503599627370496
def fp (r : Nat) : Nat := if r < 4503599627370496 then 0 else r / 4503599627370496 - 1

theorem mg_fm (r : Nat) : mg r = fm r * 2 ^ fp r := by
  unfold mg fm fp; split <;> simp

theorem read_fin {x : Nat} (h : rg x < 9218868437227405312) : double.read x = .number (sg x) (fm (rg x)) (-1074 + (fp (rg x) : Int)) := by
  rw [read_eq]; unfold fm fp
  by_cases c : rg x < 4503599627370496
  · simp only [c, if_true]; rfl
  · simp only [c, if_false, h, if_true]
theorem read_inf {x : Nat} (h : rg x = 9218868437227405312) : double.read x = .infinity (sg x) := by
  rw [read_eq, if_neg (by omega), if_neg (by omega), if_pos h]
theorem read_nan {x : Nat} (h : 9218868437227405312 < rg x) : double.read x = .nan (sg x) (rg x - 9218868437227405312) := by
  rw [read_eq, if_neg (by omega), if_neg (by omega), if_neg (by omega)]

theorem order_fin (s t : Bool) (m n a b : Nat) :
    Datum.order (.number s m (-1074 + (a : Int))) (.number t n (-1074 + (b : Int))) = some (cmpI (sm s (m * 2 ^ a)) (sm t (n * 2 ^ b))) := by
  unfold Datum.order
  simp only [compare_int, signed_eq]
  congr 1
  have e1 : (-1074 + (a : Int) - min (-1074 + (a : Int)) (-1074 + (b : Int))).toNat = a - min a b := by omega
  have e2 : (-1074 + (b : Int) - min (-1074 + (a : Int)) (-1074 + (b : Int))).toNat = b - min a b := by omega
  rw [e1, e2]
  have p : ∀ c : Nat, min a b ≤ c → 2 ^ c = 2 ^ (c - min a b) * 2 ^ (min a b) := by
    intro c h; rw [← Nat.pow_add]; congr 1; omega
  rw [p a (by omega), p b (by omega), ← Nat.mul_assoc, ← Nat.mul_assoc, sm_mul _ _ (2 ^ min a b), sm_mul _ _ (2 ^ min a b), cmpI_mul (Nat.two_pow_pos _)]

theorem key_sm (x : Nat) : key x = sm (sg x) (rg x) := rfl

theorem cmp_bool (s t : Bool) : compare t.toNat s.toNat = cmpI (sm s 9218868437227405312) (sm t 9218868437227405312) := by
  cases s <;> cases t <;> decide

/-- THE ORDER OF TWO WORDS IS THAT OF THEIR RUNGS WITH THEIR SIGNS. -/
theorem order_eq (x y : Nat) : double.order x y = if nan x || nan y then none else some (cmpI (key x) (key y)) := by
  unfold Format.order nan
  rcases Nat.lt_trichotomy (rg x) 9218868437227405312 with hx | hx | hx
  · rw [read_fin hx]
    rcases Nat.lt_trichotomy (rg y) 9218868437227405312 with hy | hy | hy
    · rw [read_fin hy, order_fin, ← mg_fm, ← mg_fm, cmpI_sm_mg, if_neg (by simp; omega)]; rfl
    · rw [read_inf hy, if_neg (by simp; omega)]
      unfold Datum.order key cmpI
      simp only [Option.some.injEq]
      cases sg x <;> cases sg y <;> simp only [Bool.false_eq_true, if_false, if_true] <;> (repeat' split) <;> first | rfl | omega
    · rw [read_nan hy, if_pos (by simp; omega)]; rfl
  · rw [read_inf hx]
    rcases Nat.lt_trichotomy (rg y) 9218868437227405312 with hy | hy | hy
    · rw [read_fin hy, if_neg (by simp; omega)]
      unfold Datum.order key cmpI
      simp only [Option.some.injEq]
      cases sg x <;> cases sg y <;> simp only [Bool.false_eq_true, if_false, if_true] <;> (repeat' split) <;> first | rfl | omega
    · rw [read_inf hy, if_neg (by simp; omega)]
      show some (compare _ _) = _
      rw [cmp_bool, key_sm, key_sm, hx, hy]
    · rw [read_nan hy, if_pos (by simp; omega)]; rfl
  · rw [read_nan hx, if_pos (by simp; omega)]
    unfold Datum.order; rfl

/-- the opposite's word -/
def ng (x : Nat) : Nat := if x < 9223372036854775808 then x + 9223372036854775808 else x - 9223372036854775808
theorem ng_lt {x : Nat} (h : x < 18446744073709551616) : ng x < 18446744073709551616 := by unfold ng; split <;> omega
theorem ng_ng {x : Nat} (h : x < 18446744073709551616) : ng (ng x) = x := by unfold ng; (repeat' split) <;> omega
theorem rg_ng {x : Nat} (h : x < 18446744073709551616) : rg (ng x) = rg x := by unfold ng rg; split <;> omega
theorem sg_ng {x : Nat} (h : x < 18446744073709551616) : sg (ng x) = !sg x := by
  unfold ng sg
  split
  · have e1 : x / 9223372036854775808 % 2 = 0 := by omega
    have e2 : (x + 9223372036854775808) / 9223372036854775808 % 2 = 1 := by omega
    rw [e1, e2]; rfl
  · have e1 : x / 9223372036854775808 % 2 = 1 := by omega
    have e2 : (x - 9223372036854775808) / 9223372036854775808 % 2 = 0 := by omega
    rw [e1, e2]; rfl
theorem nan_ng {x : Nat} (h : x < 18446744073709551616) : nan (ng x) = nan x := by unfold nan; rw [rg_ng h]
theorem key_ng {x : Nat} (h : x < 18446744073709551616) : key (ng x) = -key x := by
  unfold key; rw [rg_ng h, sg_ng h]; cases sg x <;> simp
theorem rg_lt (x : Nat) : rg x < 9223372036854775808 := by unfold rg; omega
theorem sg_iff {x : Nat} (h : x < 18446744073709551616) : sg x = true ↔ 9223372036854775808 ≤ x := by unfold sg; rw [beq_iff_eq]; omega
theorem sg_false {x : Nat} (h : x < 18446744073709551616) : sg x = false ↔ x < 9223372036854775808 := by
  have := sg_iff h
  cases c : sg x <;> simp [c] at this ⊢ <;> omega
/-- a word is its sign and its rung -/
theorem word_eq {x : Nat} (h : x < 18446744073709551616) : x = (if sg x then 9223372036854775808 else 0) + rg x := by
  cases c : sg x
  · have := (sg_false h).1 c; unfold rg; simp; omega
  · have := (sg_iff h).1 c; unfold rg; simp; omega
theorem word_ext {x y : Nat} (hx : x < 18446744073709551616) (hy : y < 18446744073709551616) (h1 : sg x = sg y) (h2 : rg x = rg y) : x = y := by
  rw [word_eq hx, word_eq hy, h1, h2]
theorem key_ext {x y : Nat} (hx : x < 18446744073709551616) (hy : y < 18446744073709551616) (h : key x = key y) (h0 : key x ≠ 0) : x = y := by
  unfold key at h h0
  apply word_ext hx hy <;> cases c : sg x <;> cases d : sg y <;> simp only [c, d, Bool.false_eq_true, if_false, if_true] at h h0 <;> first | rfl | omega
theorem key_zero {x : Nat} (hx : x < 18446744073709551616) : key x = 0 ↔ x = 0 ∨ x = 9223372036854775808 := by
  have e := word_eq hx
  unfold key
  constructor
  · intro h
    have : rg x = 0 := by cases c : sg x <;> simp only [c, Bool.false_eq_true, if_false, if_true] at h <;> omega
    cases c : sg x <;> simp only [c, Bool.false_eq_true, if_false, if_true] at e <;> omega
  · rintro (rfl | rfl) <;> decide
theorem sg_lit (x : Nat) : sg x = decide (x / 9223372036854775808 % 2 = 1) := by unfold sg; rw [Bool.eq_iff_iff]; simp
/-- a word that is no not-a-number lies from minus to plus infinity -/
theorem key_bound {x : Nat} (h : nan x = false) : -9218868437227405312 ≤ key x ∧ key x ≤ 9218868437227405312 := by
  unfold nan at h; simp at h
  unfold key; split <;> omega
/-- both are the same number: equal with the same sign of zero, or both not-a-numbers -/
def sameV (a b : Nat) : Bool := if nan a || nan b then nan a && nan b else decide (a = b)
theorem sameV_refl (a : Nat) : sameV a a = true := by unfold sameV; cases nan a <;> simp
theorem sameV_nan {a b : Nat} (ha : nan a = true) (hb : nan b = true) : sameV a b = true := by unfold sameV; simp [ha, hb]

/-- the first one's magnitude with the second one's sign -/
def cps (a b : Nat) : Nat := a % 9223372036854775808 + b / 9223372036854775808 * 9223372036854775808
theorem cps_lt {a b : Nat} (hb : b < 18446744073709551616) : cps a b < 18446744073709551616 := by unfold cps; omega
theorem rg_W (a : Nat) : rg a < 18446744073709551616 := by unfold rg; omega
theorem rg_rg (a : Nat) : rg (rg a) = rg a := by unfold rg; omega
theorem sg_rg (a : Nat) : sg (rg a) = false := by
  have := rg_lt a
  rw [sg_false (by omega)]; exact this
theorem nan_rg (a : Nat) : nan (rg a) = nan a := by unfold nan; rw [rg_rg]
theorem key_rg (a : Nat) : key (rg a) = rg a := by unfold key; rw [sg_rg, rg_rg]; simp
theorem rg_cps {a b : Nat} : rg (cps a b) = rg a := by unfold cps rg; omega
theorem sg_cps {a b : Nat} (hb : b < 18446744073709551616) : sg (cps a b) = sg b := by
  rw [Bool.eq_iff_iff, sg_iff (cps_lt hb), sg_iff hb]; unfold cps; omega
/-- is it an infinity, by a sign -/
def infV (f : Nat) (s : Int) : Bool := if s = 0 then decide (rg f = 9218868437227405312) else if s < 0 then decide (key f = -9218868437227405312) else decide (key f = 9218868437227405312)
def infW (s : Int) : Nat := if s < 0 then 9223372036854775808 + 9218868437227405312 else 9218868437227405312
def negV (x : Nat) : Bool := !nan x && sg x
def sizeV (x : Nat) : Nat := if nan x then x else rg x
def sgnV (neg : Bool) (x : Nat) : Nat := if neg then ng x else x
def fin (x : Nat) : Bool := decide (rg x < 9218868437227405312)
def isInf (x : Nat) : Bool := decide (rg x = 9218868437227405312)
theorem negV_num {x : Nat} (h : nan x = false) : negV x = sg x := by unfold negV; rw [h]; rfl
theorem sizeV_num {x : Nat} (h : nan x = false) : sizeV x = rg x := by unfold sizeV; rw [h]; rfl
theorem sizeV_W {x : Nat} (h : x < 18446744073709551616) : sizeV x < 18446744073709551616 := by unfold sizeV; split <;> first | exact h | exact rg_W x
theorem sgnV_W {b : Bool} {x : Nat} (h : x < 18446744073709551616) : sgnV b x < 18446744073709551616 := by unfold sgnV; split <;> first | exact h | exact ng_lt h
theorem infW_W (s : Int) : infW s < 18446744073709551616 := by unfold infW; split <;> decide
theorem nan_infW (s : Int) : nan (infW s) = false := by unfold infW; split <;> decide
theorem ng_pos {x : Nat} (h : x < 18446744073709551616) (hs : sg x = true) : ng x = rg x := by
  have := (sg_iff h).1 hs
  unfold ng rg; split <;> omega
theorem rg_of_pos {x : Nat} (h : x < 18446744073709551616) (hs : sg x = false) : rg x = x := by
  have := (sg_false h).1 hs
  unfold rg; omega

/-- the word of a sign and a rung -/
def wd (s : Bool) (r : Nat) : Nat := if s then 9223372036854775808 + r else r
theorem wd_eq (s : Bool) (r : Nat) : double.word s r = wd s r := rfl
theorem wd_lt {s : Bool} {r : Nat} (h : r < 9223372036854775808) : wd s r < 18446744073709551616 := by unfold wd; split <;> omega
theorem rg_wd {s : Bool} {r : Nat} (h : r < 9223372036854775808) : rg (wd s r) = r := by unfold wd rg; split <;> omega
theorem sg_wd {s : Bool} {r : Nat} (h : r < 9223372036854775808) : sg (wd s r) = s := by
  rw [Bool.eq_iff_iff, sg_iff (wd_lt h)]; unfold wd; cases s <;> simp <;> omega
theorem wd_of {x : Nat} (h : x < 18446744073709551616) : wd (sg x) (rg x) = x := by
  have := word_eq h
  unfold wd; cases c : sg x <;> simp only [c, Bool.false_eq_true, if_false, if_true] at this ⊢ <;> omega
theorem nan_wd {s : Bool} {r : Nat} (h : r ≤ 9218868437227405312) : nan (wd s r) = false := by
  unfold nan; rw [rg_wd (by omega)]; simp; omega
theorem key_wd {s : Bool} {r : Nat} (h : r < 9223372036854775808) : key (wd s r) = sm s r := by
  unfold key; rw [rg_wd h, sg_wd h]; rfl

theorem nearest_form (s : Bool) (m : Nat) (p : Int) : ∃ r, r ≤ 9218868437227405312 ∧ double.nearest s m p = wd s r := by
  unfold Format.nearest
  split
  · exact ⟨0, by omega, rfl⟩
  · exact ⟨_, Nat.min_le_right _ _, rfl⟩
theorem write_inf (s : Bool) : double.write (.infinity s) = wd s 9218868437227405312 := rfl

/-- what is written of a number or an infinity has its sign and is no not-a-number -/
theorem write_form {d : Datum} (h : d.isNaN = false) : ∃ r, r ≤ 9218868437227405312 ∧ double.write d = wd d.neg r := by
  cases d with
  | number s m p => exact nearest_form s m p
  | infinity s => exact ⟨9218868437227405312, Nat.le_refl _, rfl⟩
  | nan s t => simp [Datum.isNaN] at h

theorem quotient_form {k : Nat} {a b d : Datum} (h : a.quotient k b = some d) : d.isNaN = false ∧ d.neg = (a.neg ^^ b.neg) := by
  cases a <;> cases b <;> simp only [Datum.quotient, reduceCtorEq] at h
  · split at h
    · split at h
      · cases h
      · injection h with h; subst h; exact ⟨rfl, rfl⟩
    · injection h with h; subst h; exact ⟨rfl, rfl⟩
  · injection h with h; subst h; exact ⟨rfl, rfl⟩
  · injection h with h; subst h; exact ⟨rfl, rfl⟩
theorem product_form {a b d : Datum} (h : a.product b = some d) : d.isNaN = false ∧ d.neg = (a.neg ^^ b.neg) := by
  cases a <;> cases b <;> simp only [Datum.product, reduceCtorEq] at h
  · injection h with h; subst h; exact ⟨rfl, rfl⟩
  · split at h
    · cases h
    · injection h with h; subst h; exact ⟨rfl, by simp [Datum.neg, Bool.xor_comm]⟩
  · split at h
    · cases h
    · injection h with h; subst h; exact ⟨rfl, rfl⟩
  · injection h with h; subst h; exact ⟨rfl, rfl⟩
theorem neg_read (x : Nat) : (double.read x).neg = sg x := by
  rw [read_eq]; (repeat' split) <;> rfl
theorem div_form {a b r : Nat} (h : double.div a b = some r) : nan r = false ∧ sg r = (sg a ^^ sg b) ∧ r < 18446744073709551616 := by
  unfold Format.div at h
  cases hq : (double.read a).quotient (double.fractionBits + 2) (double.read b) with
  | none => rw [hq] at h; cases h
  | some d =>
    rw [hq] at h
    obtain ⟨h1, h2⟩ := quotient_form hq
    obtain ⟨u, hu, he⟩ := write_form h1
    simp only [Option.map_some, Option.some.injEq] at h
    rw [he] at h; subst h
    rw [neg_read, neg_read] at h2
    exact ⟨nan_wd hu, by rw [sg_wd (by omega), h2], wd_lt (by omega)⟩
theorem mul_form {a b r : Nat} (h : double.mul a b = some r) : nan r = false ∧ sg r = (sg a ^^ sg b) ∧ r < 18446744073709551616 := by
  unfold Format.mul at h
  cases hq : (double.read a).product (double.read b) with
  | none => rw [hq] at h; cases h
  | some d =>
    rw [hq] at h
    obtain ⟨h1, h2⟩ := product_form hq
    obtain ⟨u, hu, he⟩ := write_form h1
    simp only [Option.map_some, Option.some.injEq] at h
    rw [he] at h; subst h
    rw [neg_read, neg_read] at h2
    exact ⟨nan_wd hu, by rw [sg_wd (by omega), h2], wd_lt (by omega)⟩
theorem one_div {b : Nat} (hb : nan b = false) : ∃ r, double.div 4607182418800017408 b = some r := by
  have h1 : double.read 4607182418800017408 = .number false 4503599627370496 (-52) := by decide +kernel
  unfold Format.div
  rw [h1]
  unfold nan at hb; simp at hb
  rcases Nat.lt_or_ge (rg b) 9218868437227405312 with c | c
  · rw [read_fin c]
    unfold Datum.quotient
    simp only
    split
    · exact ⟨_, rfl⟩
    · exact ⟨_, rfl⟩
  · rw [read_inf (by omega)]; exact ⟨_, rfl⟩

theorem key_of_lt' {x : Nat} (h : x < 9223372036854775808) : key x = x := by
  unfold key; rw [(sg_false (by omega)).2 h, rg_of_pos (by omega) ((sg_false (by omega)).2 h)]; rfl
theorem nan_small {x : Nat} (h : x ≤ 9218868437227405312) : nan x = false := by
  unfold nan; rw [rg_of_pos (by omega) ((sg_false (by omega)).2 (by omega))]; simp; omega

theorem wd_sgn {s : Bool} {r : Nat} (h : r < 9223372036854775808) : wd s r = sgnV s r := by
  unfold wd sgnV ng; rw [if_pos h]; cases s <;> simp; omega

end Go.Proofs.Ytjfoiicooleeiaa.Fd
