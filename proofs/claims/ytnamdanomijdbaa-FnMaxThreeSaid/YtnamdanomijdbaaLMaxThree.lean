/- FnMaxThree: the call returns true; no condition but that the arguments are words. -/
import Derived.Test.YtnamdanomijdbaaC4
namespace Go.Proofs.Ytnamdanomijdbaa
open Go.RowKit
theorem max_self {x : Nat} (hx : W64 x) : Fd.sameV (Fd.maxV x x) x = true := by
  cases nx : Fd.nan x
  · rw [Fd.maxV_num hx hx nx nx, if_pos (Int.le_refl _)]; exact Fd.sameV_refl _
  · have k : Fd.key x ≠ 9218868437227405312 := by
      unfold Fd.nan at nx; simp at nx; rw [Fd.key_sg]; cases Fd.sg x <;> simp <;> omega
    unfold Fd.maxV; rw [if_neg (by omega), if_pos (Or.inl nx)]; exact Fd.sameV_nan (by decide) nx
theorem min_self {x : Nat} (hx : W64 x) : Fd.sameV (Fd.minV x x) x = true := by
  cases nx : Fd.nan x
  · rw [Fd.minV_num hx hx nx nx, if_pos (Int.le_refl _)]; exact Fd.sameV_refl _
  · have k : Fd.key x ≠ -9218868437227405312 := by
      unfold Fd.nan at nx; simp at nx; rw [Fd.key_sg]; cases Fd.sg x <;> simp <;> omega
    unfold Fd.minV; rw [if_neg (by omega), if_pos (Or.inl nx)]; exact Fd.sameV_nan (by decide) nx
theorem max_nan {x y : Nat} : Fd.nan (Fd.maxV x y) = true ↔ (Fd.key x ≠ 9218868437227405312 ∧ Fd.key y ≠ 9218868437227405312 ∧ (Fd.nan x = true ∨ Fd.nan y = true)) := by
  unfold Fd.maxV
  by_cases c : Fd.key x = 9218868437227405312 ∨ Fd.key y = 9218868437227405312
  · rw [if_pos c]
    exact ⟨fun h => absurd h (by decide), fun h => absurd c (by omega)⟩
  · rw [if_neg c]
    by_cases d : Fd.nan x = true ∨ Fd.nan y = true
    · rw [if_pos d]; exact ⟨fun _ => ⟨by omega, by omega, d⟩, fun _ => by decide⟩
    · rw [if_neg d]
      constructor
      · intro h; split at h
        · exact absurd (Or.inl h) d
        · exact absurd (Or.inr h) d
      · intro h; exact absurd h.2.2 d
theorem max_inf {x y : Nat} : Fd.key (Fd.maxV x y) = 9218868437227405312 ↔ (Fd.key x = 9218868437227405312 ∨ Fd.key y = 9218868437227405312) := by
  unfold Fd.maxV
  by_cases c : Fd.key x = 9218868437227405312 ∨ Fd.key y = 9218868437227405312
  · rw [if_pos c]; exact ⟨fun _ => c, fun _ => by decide⟩
  · rw [if_neg c]
    constructor
    · intro h; split at h
      · exact absurd h (by decide)
      · split at h
        · exact Or.inl h
        · exact Or.inr h
    · intro h; exact absurd h c
theorem min_nan {x y : Nat} : Fd.nan (Fd.minV x y) = true ↔ (Fd.key x ≠ -9218868437227405312 ∧ Fd.key y ≠ -9218868437227405312 ∧ (Fd.nan x = true ∨ Fd.nan y = true)) := by
  unfold Fd.minV
  by_cases c : Fd.key x = -9218868437227405312 ∨ Fd.key y = -9218868437227405312
  · rw [if_pos c]
    exact ⟨fun h => absurd h (by decide), fun h => absurd c (by omega)⟩
  · rw [if_neg c]
    by_cases d : Fd.nan x = true ∨ Fd.nan y = true
    · rw [if_pos d]; exact ⟨fun _ => ⟨by omega, by omega, d⟩, fun _ => by decide⟩
    · rw [if_neg d]
      constructor
      · intro h; split at h
        · exact absurd (Or.inl h) d
        · exact absurd (Or.inr h) d
      · intro h; exact absurd h.2.2 d
theorem min_inf {x y : Nat} : Fd.key (Fd.minV x y) = -9218868437227405312 ↔ (Fd.key x = -9218868437227405312 ∨ Fd.key y = -9218868437227405312) := by
  unfold Fd.minV
  by_cases c : Fd.key x = -9218868437227405312 ∨ Fd.key y = -9218868437227405312
  · rw [if_pos c]; exact ⟨fun _ => c, fun _ => by decide⟩
  · rw [if_neg c]
    constructor
    · intro h; split at h
      · exact absurd h (by decide)
      · split at h
        · exact Or.inl h
        · exact Or.inr h
    · intro h; exact absurd h c
theorem nanF {x : Nat} (h : ¬ Fd.nan x = true) : Fd.nan x = false := by cases c : Fd.nan x <;> simp [c] at h ⊢
theorem max_assoc {x y z : Nat} (hx : W64 x) (hy : W64 y) (hz : W64 z) : Fd.sameV (Fd.maxV (Fd.maxV x y) z) (Fd.maxV x (Fd.maxV y z)) = true := by
  have wxy : W64 (Fd.maxV x y) := Fd.maxV_W hx hy
  have wyz : W64 (Fd.maxV y z) := Fd.maxV_W hy hz
  by_cases c : Fd.key x = 9218868437227405312 ∨ Fd.key y = 9218868437227405312 ∨ Fd.key z = 9218868437227405312
  · have a : Fd.key (Fd.maxV (Fd.maxV x y) z) = 9218868437227405312 := by rw [max_inf, max_inf]; omega
    have b : Fd.key (Fd.maxV x (Fd.maxV y z)) = 9218868437227405312 := by rw [max_inf, max_inf]; omega
    rw [Fd.key_I (Fd.maxV_W wxy hz) a, Fd.key_I (Fd.maxV_W hx wyz) b]; exact Fd.sameV_refl _
  · by_cases d : Fd.nan x = true ∨ Fd.nan y = true ∨ Fd.nan z = true
    · refine Fd.sameV_nan ?_ ?_
      · rw [max_nan]; refine ⟨by rw [Ne, max_inf]; omega, by omega, ?_⟩
        rw [max_nan]
        rcases d with d | d | d
        · exact Or.inl ⟨by omega, by omega, Or.inl d⟩
        · exact Or.inl ⟨by omega, by omega, Or.inr d⟩
        · exact Or.inr d
      · rw [max_nan]; refine ⟨by omega, by rw [Ne, max_inf]; omega, ?_⟩
        rw [max_nan]
        rcases d with d | d | d
        · exact Or.inl d
        · exact Or.inr ⟨by omega, by omega, Or.inl d⟩
        · exact Or.inr ⟨by omega, by omega, Or.inr d⟩
    · have nx : Fd.nan x = false := nanF fun h => d (Or.inl h)
      have ny : Fd.nan y = false := nanF fun h => d (Or.inr (Or.inl h))
      have nz : Fd.nan z = false := nanF fun h => d (Or.inr (Or.inr h))
      have nxy : Fd.nan (Fd.maxV x y) = false := nanF fun h => by rw [max_nan] at h; rcases h.2.2 with g | g <;> simp [nx, ny] at g
      have nyz : Fd.nan (Fd.maxV y z) = false := nanF fun h => by rw [max_nan] at h; rcases h.2.2 with g | g <;> simp [ny, nz] at g
      rw [Fd.maxV_num wxy hz nxy nz, Fd.maxV_num hx wyz nx nyz, Fd.maxV_num hx hy nx ny, Fd.maxV_num hy hz ny nz]
      have e : ∀ a b : Nat, a = b → Fd.sameV a b = true := fun a b h => by rw [h]; exact Fd.sameV_refl _
      apply e
      by_cases c1 : Fd.tk y ≤ Fd.tk x <;> by_cases c2 : Fd.tk z ≤ Fd.tk y <;> by_cases c3 : Fd.tk z ≤ Fd.tk x <;> simp only [c1, c2, c3, if_true, if_false] <;> omega
theorem min_assoc {x y z : Nat} (hx : W64 x) (hy : W64 y) (hz : W64 z) : Fd.sameV (Fd.minV (Fd.minV x y) z) (Fd.minV x (Fd.minV y z)) = true := by
  have wxy : W64 (Fd.minV x y) := Fd.minV_W hx hy
  have wyz : W64 (Fd.minV y z) := Fd.minV_W hy hz
  by_cases c : Fd.key x = -9218868437227405312 ∨ Fd.key y = -9218868437227405312 ∨ Fd.key z = -9218868437227405312
  · have a : Fd.key (Fd.minV (Fd.minV x y) z) = -9218868437227405312 := by rw [min_inf, min_inf]; omega
    have b : Fd.key (Fd.minV x (Fd.minV y z)) = -9218868437227405312 := by rw [min_inf, min_inf]; omega
    rw [Fd.key_nI (Fd.minV_W wxy hz) a, Fd.key_nI (Fd.minV_W hx wyz) b]; exact Fd.sameV_refl _
  · by_cases d : Fd.nan x = true ∨ Fd.nan y = true ∨ Fd.nan z = true
    · refine Fd.sameV_nan ?_ ?_
      · rw [min_nan]; refine ⟨by rw [Ne, min_inf]; omega, by omega, ?_⟩
        rw [min_nan]
        rcases d with d | d | d
        · exact Or.inl ⟨by omega, by omega, Or.inl d⟩
        · exact Or.inl ⟨by omega, by omega, Or.inr d⟩
        · exact Or.inr d
      · rw [min_nan]; refine ⟨by omega, by rw [Ne, min_inf]; omega, ?_⟩
        rw [min_nan]
        rcases d with d | d | d
        · exact Or.inl d
        · exact Or.inr ⟨by omega, by omega, Or.inl d⟩
        · exact Or.inr ⟨by omega, by omega, Or.inr d⟩
    · have nx : Fd.nan x = false := nanF fun h => d (Or.inl h)
      have ny : Fd.nan y = false := nanF fun h => d (Or.inr (Or.inl h))
      have nz : Fd.nan z = false := nanF fun h => d (Or.inr (Or.inr h))
      have nxy : Fd.nan (Fd.minV x y) = false := nanF fun h => by rw [min_nan] at h; rcases h.2.2 with g | g <;> simp [nx, ny] at g
      have nyz : Fd.nan (Fd.minV y z) = false := nanF fun h => by rw [min_nan] at h; rcases h.2.2 with g | g <;> simp [ny, nz] at g
      rw [Fd.minV_num wxy hz nxy nz, Fd.minV_num hx wyz nx nyz, Fd.minV_num hx hy nx ny, Fd.minV_num hy hz ny nz]
      have e : ∀ a b : Nat, a = b → Fd.sameV a b = true := fun a b h => by rw [h]; exact Fd.sameV_refl _
      apply e
      by_cases c1 : Fd.tk x ≤ Fd.tk y <;> by_cases c2 : Fd.tk y ≤ Fd.tk z <;> by_cases c3 : Fd.tk x ≤ Fd.tk z <;> simp only [c1, c2, c3, if_true, if_false] <;> omega
set_option maxHeartbeats 1000000 in
theorem law_FnMaxThree (x y z : Nat) (hx : W64 x) (hy : W64 y) (hz : W64 z) (w : World) : Calls Try.prog 9 #[.float .f64 x, .float .f64 y, .float .f64 z] w (RB true w) := by
  have h1 : W64 (Fd.maxV x x) := Fd.maxV_W hx hx
  have h2 : W64 (Fd.minV x x) := Fd.minV_W hx hx
  have h3 : W64 (Fd.maxV x y) := Fd.maxV_W hx hy
  have h4 : W64 (Fd.maxV y z) := Fd.maxV_W hy hz
  have h5 : W64 (Fd.minV x y) := Fd.minV_W hx hy
  have h6 : W64 (Fd.minV y z) := Fd.minV_W hy hz
  have h7 : W64 (Fd.maxV (Fd.maxV x y) z) := Fd.maxV_W h3 hz
  have h8 : W64 (Fd.maxV x (Fd.maxV y z)) := Fd.maxV_W hx h4
  have h9 : W64 (Fd.minV (Fd.minV x y) z) := Fd.minV_W h5 hz
  have h10 : W64 (Fd.minV x (Fd.minV y z)) := Fd.minV_W hx h6
  have q1 := max_self hx
  have q2 := min_self hx
  have q3 := max_assoc hx hy hz
  have q4 := min_assoc hx hy hz
  go_enter Try.func9, Try.ntmps9
  go_wp2_with (first | (go_at_call 16; refine (iMax_c _ _ (by assumption) (by assumption) _).mono ?_; rintro e w' ⟨rfl, n, rfl⟩) | (go_at_call 19; refine (iMin_c _ _ (by assumption) (by assumption) _).mono ?_; rintro e w' ⟨rfl, n, rfl⟩) | (go_at_call 20; refine (same_c _ _ (by assumption) (by assumption) _).mono ?_; rintro e w' ⟨rfl, n, rfl⟩))
  go_ret
  exact ⟨rfl, _, rfl⟩
end Go.Proofs.Ytnamdanomijdbaa
