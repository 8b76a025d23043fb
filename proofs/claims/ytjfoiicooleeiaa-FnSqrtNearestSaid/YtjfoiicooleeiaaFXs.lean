/- Neighbours in the order of the numbers, and the order with the negative zero ahead of the positive one; conditions: the words are no not-a-numbers, as told in each line. -/
import Derived.Test.YtjfoiicooleeiaaFs
namespace Go.Proofs.Ytjfoiicooleeiaa.Fs

/-- the next number after x towards y -/
def nxtV (x y : Nat) : Nat :=
  if key x = key y then x else if key x = 0 then cps 1 y else if decide (key x < key y) = decide (0 < key x) then x + 1 else x - 1
def nextQ (x y r : Nat) : Prop := if (nan x || nan y) = true then nan r = true else r = nxtV x y

theorem key_sg {x : Nat} : key x = if sg x then -(rg x : Int) else rg x := rfl
theorem nan_rg_le {x : Nat} (h : nan x = false) : rg x ≤ 2139095040 := by unfold nan at h; simpa using h
theorem nan_of {x : Nat} (h : rg x ≤ 2139095040) : nan x = false := by unfold nan; simp; omega

theorem key_pos_word {x : Nat} (hx : x < 4294967296) (h : 0 < key x) : x < 2147483648 ∧ key x = x := by
  rw [key_sg] at h ⊢
  cases s : sg x <;> simp only [s, Bool.false_eq_true, if_false, if_true] at h ⊢
  · have := (sg_false hx).1 s
    rw [rg_of_pos hx s]; exact ⟨this, rfl⟩
  · omega
theorem key_neg_word {x : Nat} (hx : x < 4294967296) (h : key x < 0) : 2147483648 < x ∧ key x = -((x - 2147483648 : Nat) : Int) := by
  have e := word_eq hx
  rw [key_sg] at h ⊢
  cases s : sg x <;> simp only [s, Bool.false_eq_true, if_false, if_true] at h e ⊢ <;> omega
theorem key_of_lt {x : Nat} (h : x < 2147483648) : key x = x := by
  rw [key_sg, (sg_false (by omega)).2 h, rg_of_pos (by omega) ((sg_false (by omega)).2 h)]; rfl
theorem key_of_ge {x : Nat} (h : 2147483648 ≤ x) (hx : x < 4294967296) : key x = -((x - 2147483648 : Nat) : Int) := by
  have e := word_eq hx
  rw [key_sg, (sg_iff hx).2 h]; rw [(sg_iff hx).2 h] at e; simp at e ⊢; omega

/-- THE NEXT NUMBER IS ONE STEP AWAY IN THE ORDER. -/
theorem nxt_spec {x y : Nat} (hx : x < 4294967296) (hy : y < 4294967296) (nx : nan x = false) (ny : nan y = false) :
    nxtV x y < 4294967296 ∧ nan (nxtV x y) = false ∧ key (nxtV x y) = key x + (if key x < key y then 1 else if key y < key x then -1 else 0) := by
  have bx := key_bound nx
  have by' := key_bound ny
  unfold nxtV
  by_cases c : key x = key y
  · rw [if_pos c, if_neg (by omega), if_neg (by omega)]; exact ⟨hx, nx, by omega⟩
  · rw [if_neg c]
    by_cases z : key x = 0
    · rw [if_pos z]
      refine ⟨cps_lt hy, nan_of (by rw [rg_cps]; decide), ?_⟩
      have k : key (cps 1 y) = if sg y then -1 else 1 := by
        rw [key_sg, rg_cps, sg_cps hy]; rfl
      rw [k, z]
      have ky := @key_sg y
      cases s : sg y <;> simp only [s, Bool.false_eq_true, if_false, if_true] at ky ⊢ <;> (repeat' split) <;> omega
    · rw [if_neg z]
      rcases (by omega : 0 < key x ∨ key x < 0) with p | p
      · obtain ⟨h1, h2⟩ := key_pos_word hx p
        by_cases d : key x < key y
        · rw [if_pos (by simp [d, p]), if_pos d]
          have k : key (x + 1) = ((x + 1 : Nat) : Int) := key_of_lt (by omega)
          refine ⟨by omega, nan_of ?_, by rw [k]; omega⟩
          rw [rg_of_pos (by omega) ((sg_false (by omega)).2 (by omega))]; omega
        · rw [if_neg (by simp [d, p]), if_neg d, if_pos (by omega)]
          have k : key (x - 1) = ((x - 1 : Nat) : Int) := key_of_lt (by omega)
          refine ⟨by omega, nan_of ?_, by rw [k]; omega⟩
          rw [rg_of_pos (by omega) ((sg_false (by omega)).2 (by omega))]; omega
      · obtain ⟨h1, h2⟩ := key_neg_word hx p
        have p' : ¬ 0 < key x := by omega
        by_cases d : key x < key y
        · rw [if_neg (by simp [d, p']), if_pos d]
          have k := key_of_ge (x := x - 1) (by omega) (by omega)
          refine ⟨by omega, nan_of ?_, by rw [k]; omega⟩
          unfold rg; omega
        · rw [if_pos (by simp [d, p']), if_neg d, if_pos (by omega)]
          have k := key_of_ge (x := x + 1) (by omega) (by omega)
          refine ⟨by omega, nan_of ?_, by rw [k]; omega⟩
          unfold rg; omega

/-- opposites have opposite neighbours, also at zero -/
theorem nxt_ng {x y : Nat} (hx : x < 4294967296) (hy : y < 4294967296) (nx : nan x = false) : nxtV (ng x) (ng y) = ng (nxtV x y) := by
  have kx := key_ng hx
  have ky := key_ng hy
  have bx := key_bound nx
  unfold nxtV
  rw [kx, ky]
  by_cases c : key x = key y
  · rw [if_pos c, if_pos (by omega)]
  · rw [if_neg c, if_neg (by omega)]
    by_cases z : key x = 0
    · rw [if_pos z, if_pos (by omega)]
      unfold cps ng; (repeat' split) <;> omega
    · rw [if_neg z, if_neg (by omega)]
      rcases (by omega : 0 < key x ∨ key x < 0) with p | p
      · obtain ⟨h1, h2⟩ := key_pos_word hx p
        have p' : ¬ 0 < -key x := by omega
        by_cases d : key x < key y
        · have d' : ¬ -key x < -key y := by omega
          rw [if_pos (by simp; omega), if_pos (by simp; omega)]
          unfold ng; (repeat' split) <;> omega
        · have d' : -key x < -key y := by omega
          rw [if_neg (by simp; omega), if_neg (by simp; omega)]
          unfold ng; (repeat' split) <;> omega
      · obtain ⟨h1, h2⟩ := key_neg_word hx p
        have p1 : ¬ 0 < key x := by omega
        have p' : 0 < -key x := by omega
        by_cases d : key x < key y
        · have d' : ¬ -key x < -key y := by omega
          rw [if_neg (by simp; omega), if_neg (by simp; omega)]
          unfold ng; (repeat' split) <;> omega
        · have d' : -key x < -key y := by omega
          rw [if_pos (by simp; omega), if_pos (by simp; omega)]
          unfold ng; (repeat' split) <;> omega

/-- the order with the negative zero ahead of the positive one -/
def tk (x : Nat) : Int := if x < 2147483648 then x else 2147483648 - 1 - x
theorem tk_inj {x y : Nat} (h : tk x = tk y) : x = y := by unfold tk at h; (repeat' split at h) <;> omega
theorem tk_ng {x : Nat} (h : x < 4294967296) : tk (ng x) = -1 - tk x := by unfold tk ng; (repeat' split) <;> omega
theorem tk_key {x : Nat} (h : x < 4294967296) : key x = if tk x < 0 then tk x + 1 else tk x := by
  unfold tk
  rcases Nat.lt_or_ge x 2147483648 with c | c
  · rw [key_of_lt c]; (repeat' split) <;> omega
  · rw [key_of_ge c h]; (repeat' split) <;> omega

/-- the next number as a word: its sign and the rung after or before -/
theorem nxt_wd {x y : Nat} (hx : x < 4294967296) (c : key x ≠ key y) (z : key x ≠ 0) :
    nxtV x y = wd (sg x) (if (0 < key x ∧ key x < key y) ∨ (key x < 0 ∧ key y < key x) then rg x + 1 else rg x - 1) := by
  have e := word_eq hx
  have k := @key_sg x
  unfold nxtV wd
  rw [if_neg c, if_neg z]
  cases s : sg x <;> simp only [s, Bool.false_eq_true, if_false, if_true] at k e ⊢
  · by_cases d : key x < key y
    · rw [if_pos (by simp; omega), if_pos (by omega)]; omega
    · rw [if_neg (by simp; omega), if_neg (by omega)]; omega
  · by_cases d : key x < key y
    · rw [if_neg (by simp; omega), if_neg (by omega)]; omega
    · rw [if_pos (by simp; omega), if_pos (by omega)]; omega
theorem nxt_zero {x y : Nat} (hy : y < 4294967296) (c : key x ≠ key y) (z : key x = 0) : nxtV x y = wd (decide (key y < 0)) 1 := by
  unfold nxtV; rw [if_neg c, if_pos z]
  have k := @key_sg y
  have e : decide (key y < 0) = sg y := by
    cases s : sg y <;> simp only [s, Bool.false_eq_true, if_false, if_true] at k <;> simp <;> omega
  rw [e]
  refine word_ext (cps_lt hy) (wd_lt (by omega)) ?_ ?_
  · rw [sg_cps hy, sg_wd (by omega)]
  · rw [rg_cps, rg_wd (by omega)]; decide

end Go.Proofs.Ytjfoiicooleeiaa.Fs
