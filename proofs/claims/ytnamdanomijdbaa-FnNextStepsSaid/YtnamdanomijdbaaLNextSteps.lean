/- FnNextSteps: the call returns true; no condition but that the arguments are words. -/
import Derived.Test.YtnamdanomijdbaaC4
namespace Go.Proofs.Ytnamdanomijdbaa
open Go.RowKit
theorem steps {x y r : Nat} (hx : W64 x) (hy : W64 y) (h : Fd.nextQ x y r) :
    ((Fd.nan x = true ∨ Fd.nan y = true) ∧ eqF .f64 r r = false) ∨
    (Fd.nan x = false ∧ Fd.nan y = false ∧ ltF .f64 x y = true ∧ ltF .f64 x r = true ∧ leF .f64 r y = true) ∨
    (Fd.nan x = false ∧ Fd.nan y = false ∧ ltF .f64 x y = false ∧ ltF .f64 y x = true ∧ ltF .f64 r x = true ∧ leF .f64 y r = true) ∨
    (Fd.nan x = false ∧ Fd.nan y = false ∧ ltF .f64 x y = false ∧ ltF .f64 y x = false ∧ eqF .f64 r x = true) := by
  unfold Fd.nextQ at h
  cases nx : Fd.nan x
  · cases ny : Fd.nan y
    · rw [nx, ny, if_neg (by decide)] at h
      subst h
      obtain ⟨h1, h2, h3⟩ := Fd.nxt_spec hx hy nx ny
      rw [lt64, lt64, lt64, lt64, le64, le64, eq64, nx, ny, h2, h3]
      rcases (by omega : Fd.key x < Fd.key y ∨ Fd.key y < Fd.key x ∨ Fd.key x = Fd.key y) with c | c | c
      · rw [if_pos c]; right; left; simp; omega
      · rw [if_neg (by omega), if_pos c]; right; right; left; simp; omega
      · rw [if_neg (by omega), if_neg (by omega)]; right; right; right; rw [c]; simp; rw [eq64, h2, nx, h3, if_neg (by omega), if_neg (by omega)]; simp
    · rw [ny, Bool.or_true, if_pos rfl] at h
      exact Or.inl ⟨Or.inr rfl, nan_eq h⟩
  · rw [nx, Bool.true_or, if_pos rfl] at h
    exact Or.inl ⟨Or.inl rfl, nan_eq h⟩
set_option maxHeartbeats 1000000 in
theorem law_FnNextSteps (x y : Nat) (hx : W64 x) (hy : W64 y) (w : World) : Calls Try.prog 12 #[.float .f64 x, .float .f64 y] w (RB true w) := by
  go_enter Try.func12, Try.ntmps12
  go_wp2_with fail
  refine (iNext_c _ _ hx hy _).mono ?_
  rintro e w' ⟨r, hr, hW, rfl, n, rfl⟩
  have q := steps hx hy hr
  clear hr hW
  rcases q with ⟨q1 | q1, q2⟩ | ⟨nx, ny, q1, q2, q3⟩ | ⟨nx, ny, q1, q2, q3, q4⟩ | ⟨nx, ny, q1, q2, q3⟩
  · have f1 := nan_eq q1
    go_wp2
    go_ret
    exact ⟨rfl, _, rfl⟩
  · have f1 := nan_eq q1
    cases nx : Fd.nan x
    · have f2 := num_eq nx
      go_wp2
      go_ret
      exact ⟨rfl, _, rfl⟩
    · have f2 := nan_eq nx
      go_wp2
      go_ret
      exact ⟨rfl, _, rfl⟩
  all_goals
    have f1 := num_eq nx
    have f2 := num_eq ny
    go_wp2
    go_ret
    exact ⟨rfl, _, rfl⟩
end Go.Proofs.Ytnamdanomijdbaa
