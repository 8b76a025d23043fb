/- FnAbsValue: the call returns true; no condition but that the argument is a word. -/
import Derived.Test.YtndnjibaamgcfaaC
namespace Go.Proofs.Ytndnjibaamgcfaa
open Go.RowKit
theorem one_by_pos (r : Nat) (h : Fd.nan r = false) (hs : Fd.sg r = false) (w : World) : leF .f64 0 (res .quo .f64 4607182418800017408 r w) = true := by
  obtain ⟨q, hq⟩ := Fd.one_div h
  have hq' : arith .quo .f64 4607182418800017408 r = some q := hq
  rw [res_some hq']
  obtain ⟨h1, h2, h3⟩ := Fd.div_form hq
  rw [hs] at h2
  have h2' : Fd.sg q = false := h2
  have k0 : Fd.key 0 = 0 := by decide
  have n0 : Fd.nan 0 = false := by decide
  rw [le64, h1, n0, k0]; simp
  unfold Fd.key; rw [h2']; simp
set_option maxHeartbeats 1000000 in
theorem law_FnAbsValue (x : Nat) (hx : W64 x) (w : World) : Calls Try.prog 6 #[.float .f64 x] w (RB true w) := by
  have q2 : Op.negFloat .f64 x = Fd.ng x := negF_W hx
  cases na : Fd.nan x
  · have f1 := num_eq na
    have q3 : Fd.rg (Fd.ng x) = Fd.rg x := Fd.rg_ng hx
    have q4 : Fd.sameV (Fd.rg x) (Fd.rg x) = true := Fd.sameV_refl _
    have q5 : ∀ w, leF .f64 0 (res .quo .f64 4607182418800017408 (Fd.rg x) w) = true := one_by_pos _ (by rw [Fd.nan_rg, na]) (Fd.sg_rg x)
    have hn := W_ng hx
    cases s : Fd.sg x
    · have q6 : eqF .f64 (Fd.rg x) x = true := by rw [Fd.rg_of_pos hx s]; exact f1
      clear na s
      go_enter Try.func6, Try.ntmps6
      go_wp2_with (first | (go_at_call 21; refine (iAbs_c _ (by assumption) _).mono ?_; rintro e w' ⟨rfl, n, rfl⟩) | (go_at_call 22; refine (same_c _ _ (W_rg _) (W_rg _) _).mono ?_; rintro e w' ⟨rfl, n, rfl⟩))
      go_ret
      exact ⟨rfl, _, rfl⟩
    · have q6 : eqF .f64 (Fd.rg x) (Fd.ng x) = true := by rw [Fd.ng_pos hx s]; exact num_eq (by rw [Fd.nan_rg, na])
      clear na s
      go_enter Try.func6, Try.ntmps6
      go_wp2_with (first | (go_at_call 21; refine (iAbs_c _ (by assumption) _).mono ?_; rintro e w' ⟨rfl, n, rfl⟩) | (go_at_call 22; refine (same_c _ _ (W_rg _) (W_rg _) _).mono ?_; rintro e w' ⟨rfl, n, rfl⟩))
      all_goals go_ret
      all_goals exact ⟨rfl, _, rfl⟩
  · have f1 := nan_eq na
    have f2 : eqF .f64 (Fd.rg x) (Fd.rg x) = false := nan_eq (by rw [Fd.nan_rg, na])
    clear na
    go_enter Try.func6, Try.ntmps6
    go_wp2_with (first | (go_at_call 21; refine (iAbs_c _ (by assumption) _).mono ?_; rintro e w' ⟨rfl, n, rfl⟩))
    go_ret
    exact ⟨rfl, _, rfl⟩
end Go.Proofs.Ytndnjibaamgcfaa
