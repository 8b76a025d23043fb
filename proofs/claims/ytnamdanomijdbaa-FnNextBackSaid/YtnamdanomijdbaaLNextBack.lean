/- FnNextBack: the call returns true; no condition but that the arguments are words. -/
import Derived.Test.YtnamdanomijdbaaC4
namespace Go.Proofs.Ytnamdanomijdbaa
open Go.RowKit
theorem back_facts {x y r : Nat} (hx : W64 x) (hy : W64 y) (h : Fd.nextQ x y r) (nx : Fd.nan x = false) (ny : Fd.nan y = false) :
    (eqF .f64 x y = true ∧ eqF .f64 r r = true ∧ Fd.sameV r x = true) ∨
    (eqF .f64 x y = false ∧ eqF .f64 r x = false ∧ ∀ s, Fd.nextQ r x s → eqF .f64 s x = true) := by
  unfold Fd.nextQ at h
  rw [nx, ny, if_neg (by decide)] at h
  subst h
  obtain ⟨h1, h2, h3⟩ := Fd.nxt_spec hx hy nx ny
  by_cases c : Fd.key x = Fd.key y
  · left
    have e : Fd.nxtV x y = x := by unfold Fd.nxtV; rw [if_pos c]
    rw [e]; exact ⟨by rw [eq64, nx, ny]; simp [c], num_eq nx, Fd.sameV_refl _⟩
  · right
    refine ⟨by rw [eq64, nx, ny]; simp [c], ?_, ?_⟩
    · rw [eq64, nx, h2, h3]; simp; (repeat' split) <;> omega
    · intro s hs
      unfold Fd.nextQ at hs
      rw [nx, h2, if_neg (by decide)] at hs
      subst hs
      obtain ⟨g1, g2, g3⟩ := Fd.nxt_spec h1 hx h2 nx
      rw [eq64, nx, g2, g3, h3]; simp; (repeat' split) <;> omega
theorem back_nan {x y r : Nat} (h : Fd.nextQ x y r) (g : Fd.nan x = true ∨ Fd.nan y = true) : eqF .f64 r r = false := by
  unfold Fd.nextQ at h
  rw [if_pos (by rcases g with g | g <;> simp [g])] at h
  exact nan_eq h
set_option maxHeartbeats 1000000 in
theorem law_FnNextBack (x y : Nat) (hx : W64 x) (hy : W64 y) (w : World) : Calls Try.prog 10 #[.float .f64 x, .float .f64 y] w (RB true w) := by
  go_enter Try.func10, Try.ntmps10
  go_wp2_with fail
  refine (iNext_c _ _ hx hy _).mono ?_
  rintro e w' ⟨r, hr, hW, rfl, n, rfl⟩
  cases nx : Fd.nan x
  · have f1 := num_eq nx
    cases ny : Fd.nan y
    · have f2 := num_eq ny
      have q := back_facts hx hy hr nx ny
      clear hr nx ny
      rcases q with ⟨q1, q2, q3⟩ | ⟨q1, q2, q3⟩
      · go_wp2_with (go_at_call 20; refine (same_c _ _ hW hx _).mono ?_; rintro e w' ⟨rfl, n, rfl⟩)
        go_ret
        exact ⟨rfl, _, rfl⟩
      · have Q := Hd.mk q3
        clear q3
        go_wp2_with fail
        refine (iNext_c _ _ hW hx _).mono ?_
        rintro e w' ⟨s, hs, hWs, rfl, n, rfl⟩
        have f3 := Q.out s hs
        clear hs
        go_wp2
        go_ret
        exact ⟨rfl, _, rfl⟩
    · have f2 := nan_eq ny
      have f3 := back_nan hr (Or.inr ny)
      clear hr nx ny
      go_wp2
      go_ret
      exact ⟨rfl, _, rfl⟩
  · have f2 := nan_eq nx
    have f3 := back_nan hr (Or.inl nx)
    clear hr nx
    go_wp2
    go_ret
    exact ⟨rfl, _, rfl⟩
end Go.Proofs.Ytnamdanomijdbaa
