/- FnNextOpposite: the call returns true; no condition but that the arguments are words. -/
import Derived.Test.YtnamdanomijdbaaC4
namespace Go.Proofs.Ytnamdanomijdbaa
open Go.RowKit
theorem opp_facts {x y r s : Nat} (hx : W64 x) (hy : W64 y) (hr : W64 r) (h : Fd.nextQ x y r) (g : Fd.nextQ (Fd.ng x) (Fd.ng y) s) :
    Fd.sameV s (Fd.ng r) = true ∧ (eqF .f64 x y = true ∨ (eqF .f64 x y = false ∧ Fd.sameV r x = false) ∨ (eqF .f64 x y = false ∧ Fd.sameV r x = true ∧ eqF .f64 x x = false)) := by
  unfold Fd.nextQ at h g
  rw [Fd.nan_ng hx, Fd.nan_ng hy] at g
  cases nx : Fd.nan x
  · cases ny : Fd.nan y
    · rw [nx, ny, if_neg (by decide)] at h g
      obtain ⟨h1, h2, h3⟩ := Fd.nxt_spec hx hy nx ny
      rw [g, h, Fd.nxt_ng hx hy nx]
      refine ⟨Fd.sameV_refl _, ?_⟩
      by_cases c : Fd.key x = Fd.key y
      · left; rw [eq64, nx, ny]; simp [c]
      · right; left
        refine ⟨by rw [eq64, nx, ny]; simp [c], ?_⟩
        unfold Fd.sameV; rw [nx, h2]; simp
        intro e; rw [e] at h3; (repeat' split at h3) <;> omega
    · rw [nx, ny, if_pos (by decide)] at h g
      refine ⟨Fd.sameV_nan g (by rw [Fd.nan_ng hr]; exact h), ?_⟩
      right; left
      refine ⟨eqF_nan_r ny, ?_⟩
      unfold Fd.sameV; rw [nx, h]; rfl
  · rw [nx, Bool.true_or, if_pos rfl] at h g
    refine ⟨Fd.sameV_nan g (by rw [Fd.nan_ng hr]; exact h), ?_⟩
    right; right
    exact ⟨eqF_nan_l nx, Fd.sameV_nan h nx, nan_eq nx⟩
set_option maxHeartbeats 1000000 in
theorem law_FnNextOpposite (x y : Nat) (hx : W64 x) (hy : W64 y) (w : World) : Calls Try.prog 11 #[.float .f64 x, .float .f64 y] w (RB true w) := by
  have h1 := W_ng hx
  have h2 := W_ng hy
  have g1 : Op.negFloat .f64 x = Fd.ng x := negF_W hx
  have g2 : Op.negFloat .f64 y = Fd.ng y := negF_W hy
  go_enter Try.func11, Try.ntmps11
  go_wp2_with fail
  refine (iNext_c _ _ hx hy _).mono ?_
  rintro e w' ⟨r, hr, hW, rfl, n, rfl⟩
  have Hr := Hd.mk hr
  clear hr
  go_wp2_with fail
  refine (iNext_c _ _ h1 h2 _).mono ?_
  rintro e w' ⟨s, hs, hWs, rfl, n, rfl⟩
  obtain ⟨q1, q2⟩ := opp_facts hx hy hW Hr.out hs
  have g3 : Op.negFloat .f64 r = Fd.ng r := negF_W hW
  have h3 := W_ng hW
  clear hs Hr g1 g2
  rcases q2 with q2 | ⟨q2, q3⟩ | ⟨q2, q3, q4⟩
  all_goals
    go_wp2_with (go_at_call 20; refine (same_c _ _ (by assumption) (by assumption) _).mono ?_; rintro e w' ⟨rfl, n, rfl⟩)
    go_ret
    exact ⟨rfl, _, rfl⟩
end Go.Proofs.Ytnamdanomijdbaa
