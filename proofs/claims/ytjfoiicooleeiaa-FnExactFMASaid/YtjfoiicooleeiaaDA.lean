/- Differences of numbers of 64 bits: of a number and itself, of a number and zero, in the other order; conditions: as told in each line. -/
import Derived.Test.YtjfoiicooleeiaaFOd
namespace Go.Proofs.Ytjfoiicooleeiaa.Fd
open Ieee

theorem near_zero {d r : Nat} (hd : 0 < d) (h : Near 0 d r) : r = 0 := by
  have := near_exact 0 d hd
  rw [mg_zero, Nat.zero_mul] at this
  exact near_unique hd hd h this (by omega)
theorem near_mg {r b : Nat} (h : Near (mg b) 1 r) : r = b :=
  near_unique (by omega) (by omega) h (near_one_exact rfl) rfl

theorem sub_self_fin {x : Nat} (hx : rg x < 9218868437227405312) : double.sub x x = some 0 := by
  obtain ⟨r, h1, h2⟩ := sub_fin hx hx
  rw [Int.sub_self] at h1 h2
  have : r = 0 := near_zero (by omega) h1
  subst this
  rw [h2]; unfold sgT; cases sg x <;> rfl
theorem sub_nan_l {x y : Nat} (h : nan x = true) : double.sub x y = none := by
  unfold nan at h; simp at h
  unfold Format.sub; rw [read_nan h]; cases double.read y <;> rfl
theorem sub_nan_r {x y : Nat} (h : nan y = true) : double.sub x y = none := by
  unfold nan at h; simp at h
  unfold Format.sub; rw [read_nan h]; cases double.read x <;> rfl
theorem sub_inf_inf {x y : Nat} (hx : rg x = 9218868437227405312) (hy : rg y = 9218868437227405312) : double.sub x y = if sg x = sg y then none else some (wd (sg x) 9218868437227405312) := by
  unfold Format.sub; rw [read_inf hx, read_inf hy]
  unfold Datum.opposite Datum.sum
  cases sg x <;> cases sg y <;> rfl
theorem sub_inf_fin {x y : Nat} (hx : rg x = 9218868437227405312) (hy : rg y < 9218868437227405312) : double.sub x y = some (wd (sg x) 9218868437227405312) := by
  unfold Format.sub; rw [read_inf hx, read_fin hy]; rfl
theorem sub_fin_inf {x y : Nat} (hx : rg x < 9218868437227405312) (hy : rg y = 9218868437227405312) : double.sub x y = some (wd (!sg y) 9218868437227405312) := by
  unfold Format.sub; rw [read_fin hx, read_inf hy]; rfl
theorem sub_self_none {x : Nat} (hx : 9218868437227405312 ≤ rg x) : double.sub x x = none := by
  rcases Nat.lt_or_ge 9218868437227405312 (rg x) with c | c
  · exact sub_nan_l (by unfold nan; simp; exact c)
  · rw [sub_inf_inf (by omega) (by omega), if_pos rfl]

theorem num_cases {x : Nat} (h : nan x = false) : rg x < 9218868437227405312 ∨ rg x = 9218868437227405312 := by
  unfold nan at h; simp at h; omega

theorem val_zero : val 0 = 0 := by decide
theorem sub_zero {x : Nat} (hx : x < 18446744073709551616) (h : nan x = false) : double.sub x 0 = some x := by
  rcases num_cases h with c | c
  · obtain ⟨r, h1, h2⟩ := sub_fin c (y := 0) (by decide)
    have z : sg 0 = false := by decide
    rw [val_zero, Int.sub_zero] at h1 h2
    rw [show (val x).natAbs = mg (rg x) from sm_natAbs _ _] at h1
    have hr : r = rg x := near_mg h1
    subst hr
    rw [h2, z, Nat.min_eq_left (by omega)]
    have hs : sgT (sg x) (!false) (val x) = sg x := by
      unfold sgT val
      by_cases c0 : sm (sg x) (mg (rg x)) = 0
      · rw [if_pos c0]; cases sg x <;> rfl
      · rw [if_neg c0]
        cases s : sg x
        · rw [s] at c0; unfold sm; simp
        · rw [s] at c0; unfold sm at c0 ⊢; simp at c0 ⊢; omega
    rw [hs, wd_of hx]
  · rw [sub_inf_fin c (by decide), ← c, wd_of hx]

/-- the difference in the other order is the opposite number -/
theorem sub_swap {x y v : Nat} (h : double.sub x y = some v) : ∃ u, double.sub y x = some u ∧ key u = -key v ∧ nan u = false ∧ nan v = false ∧ v < 18446744073709551616 ∧ u < 18446744073709551616 := by
  cases nx : nan x
  · cases ny : nan y
    · rcases num_cases nx with cx | cx <;> rcases num_cases ny with cy | cy
      · obtain ⟨r, h1, h2⟩ := sub_fin cx cy
        obtain ⟨r', h1', h2'⟩ := sub_fin cy cx
        have e : (val y - val x).natAbs = (val x - val y).natAbs := by omega
        rw [e] at h1'
        have hr : r' = r := near_unique (by omega) (by omega) h1' h1 rfl
        subst hr
        rw [h2] at h; injection h with h; subst h
        have b1 : min r' 9218868437227405312 ≤ 9218868437227405312 := Nat.min_le_right _ _
        refine ⟨_, h2', ?_, nan_wd b1, nan_wd b1, wd_lt (by omega), wd_lt (by omega)⟩
        rw [key_wd (by omega), key_wd (by omega)]
        by_cases c : val x - val y = 0
        · have : r' = 0 := by rw [c] at h1; exact near_zero (by omega) h1
          subst this
          unfold sm; simp
        · unfold sgT
          rw [if_neg c, if_neg (by omega)]
          have : decide (val y - val x < 0) = !decide (val x - val y < 0) := by
            rw [Bool.eq_iff_iff]; simp; omega
          rw [this, sm_neg]
      · rw [sub_fin_inf cx cy] at h; injection h with h; subst h
        refine ⟨_, sub_inf_fin cy cx, ?_, nan_wd (by omega), nan_wd (by omega), wd_lt (by omega), wd_lt (by omega)⟩
        rw [key_wd (by omega), key_wd (by omega), sm_neg]; omega
      · rw [sub_inf_fin cx cy] at h; injection h with h; subst h
        refine ⟨_, sub_fin_inf cy cx, ?_, nan_wd (by omega), nan_wd (by omega), wd_lt (by omega), wd_lt (by omega)⟩
        rw [key_wd (by omega), key_wd (by omega), sm_neg]
      · rw [sub_inf_inf cx cy] at h
        split at h
        · cases h
        · rename_i c
          injection h with h; subst h
          refine ⟨wd (sg y) 9218868437227405312, by rw [sub_inf_inf cy cx, if_neg (fun g => c g.symm)], ?_, nan_wd (by omega), nan_wd (by omega), wd_lt (by omega), wd_lt (by omega)⟩
          rw [key_wd (by omega), key_wd (by omega)]
          cases s : sg x <;> cases t : sg y <;> rw [s, t] at c <;> first | exact absurd rfl c | rfl
    · rw [sub_nan_r ny] at h; cases h
  · rw [sub_nan_l nx] at h; cases h
theorem sub_swap_none {x y : Nat} (h : double.sub x y = none) : double.sub y x = none := by
  cases e : double.sub y x with
  | none => rfl
  | some v => obtain ⟨u, hu, _⟩ := sub_swap e; rw [hu] at h; cases h

end Go.Proofs.Ytjfoiicooleeiaa.Fd
