/- FnNext32Steps: the call returns true; no condition but that the arguments are words. -/
import Derived.Test.YtnamdanomijdbaaC4
namespace Go.Proofs.Ytnamdanomijdbaa
open Go.RowKit
theorem steps {x y r : Nat} (hx : W32 x) (hy : W32 y) (h : Fs.nextQ x y r) :
    ((Fs.nan x = true ∨ Fs.nan y = true) ∧ eqF .f32 r r = false) ∨
    (Fs.nan x = false ∧ Fs.nan y = false ∧ ltF .f32 x y = true ∧ ltF .f32 x r = true ∧ leF .f32 r y = true) ∨
    (Fs.nan x = false ∧ Fs.nan y = false ∧ ltF .f32 x y = false ∧ ltF .f32 y x = true ∧ ltF .f32 r x = true ∧ leF .f32 y r = true) ∨
    (Fs.nan x = false ∧ Fs.nan y = false ∧ ltF .f32 x y = false ∧ ltF .f32 y x = false ∧ eqF .f32 r x = true) := by
  unfold Fs.nextQ at h
  cases nx : Fs.nan x
  · cases ny : Fs.nan y
    · rw [nx, ny, if_neg (by decide)] at h
      subst h
      obtain ⟨h1, h2, h3⟩ := Fs.nxt_spec hx hy nx ny
      rw [lt32, lt32, lt32, lt32, le32, le32, eq32, nx, ny, h2, h3]
      rcases (by omega : Fs.key x < Fs.key y ∨ Fs.key y < Fs.key x ∨ Fs.key x = Fs.key y) with c | c | c
      · rw [if_pos c]; right; left; simp; omega
      · rw [if_neg (by omega), if_pos c]; right; right; left; simp; omega
      · rw [if_neg (by omega), if_neg (by omega)]; right; right; right; rw [c]; simp; rw [eq32, h2, nx, h3, if_neg (by omega), if_neg (by omega)]; simp
    · rw [ny, Bool.or_true, if_pos rfl] at h
      exact Or.inl ⟨Or.inr rfl, nan_eq_s h⟩
  · rw [nx, Bool.true_or, if_pos rfl] at h
    exact Or.inl ⟨Or.inl rfl, nan_eq_s h⟩
set_option maxHeartbeats 1000000 in
theorem law_FnNext32Steps (x y : Nat) (hx : W32 x) (hy : W32 y) (w : World) : Calls Try.prog 13 #[.float .f32 x, .float .f32 y] w (RB true w) := by
  go_enter Try.func13, Try.ntmps13
  go_wp2_with fail
  refine (iNext32_c _ _ hx hy _).mono ?_
  rintro e w' ⟨r, hr, hW, rfl, n, rfl⟩
  have q := steps hx hy hr
  clear hr hW
  rcases q with ⟨q1 | q1, q2⟩ | ⟨nx, ny, q1, q2, q3⟩ | ⟨nx, ny, q1, q2, q3, q4⟩ | ⟨nx, ny, q1, q2, q3⟩
  · have f1 := nan_eq_s q1
    go_wp2
    go_ret
    exact ⟨rfl, _, rfl⟩
  · have f1 := nan_eq_s q1
    cases nx : Fs.nan x
    · have f2 := num_eq_s nx
      go_wp2
      go_ret
      exact ⟨rfl, _, rfl⟩
    · have f2 := nan_eq_s nx
      go_wp2
      go_ret
      exact ⟨rfl, _, rfl⟩
  all_goals
    have f1 := num_eq_s nx
    have f2 := num_eq_s ny
    go_wp2
    go_ret
    exact ⟨rfl, _, rfl⟩
end Go.Proofs.Ytnamdanomijdbaa
