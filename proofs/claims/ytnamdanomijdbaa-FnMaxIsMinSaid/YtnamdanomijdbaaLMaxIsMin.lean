/- FnMaxIsMin: the call returns true; no condition but that the arguments are words. -/
import Derived.Test.YtnamdanomijdbaaC4
namespace Go.Proofs.Ytnamdanomijdbaa
open Go.RowKit
theorem max_is_min {x y : Nat} (hx : W64 x) (hy : W64 y) : Fd.sameV (Fd.maxV x y) (Fd.ng (Fd.minV (Fd.ng x) (Fd.ng y))) = true := by
  have h1 := W_ng hx
  have h2 := W_ng hy
  cases nx : Fd.nan x
  · cases ny : Fd.nan y
    · rw [Fd.maxV_num hx hy nx ny, Fd.minV_num h1 h2 (by rw [Fd.nan_ng hx, nx]) (by rw [Fd.nan_ng hy, ny]), Fd.tk_ng hx, Fd.tk_ng hy]
      by_cases c : Fd.tk y ≤ Fd.tk x
      · rw [if_pos c, if_pos (by omega), Fd.ng_ng hx]; exact Fd.sameV_refl _
      · rw [if_neg c, if_neg (by omega), Fd.ng_ng hy]; exact Fd.sameV_refl _
    · unfold Fd.maxV Fd.minV
      rw [Fd.key_ng hx, Fd.key_ng hy, Fd.nan_ng hx, Fd.nan_ng hy]
      by_cases c : Fd.key x = 9218868437227405312 ∨ Fd.key y = 9218868437227405312
      · rw [if_pos c, if_pos (by omega)]; decide
      · rw [if_neg c, if_pos (Or.inr ny), if_neg (by omega), if_pos (Or.inr ny)]; decide
  · unfold Fd.maxV Fd.minV
    rw [Fd.key_ng hx, Fd.key_ng hy, Fd.nan_ng hx, Fd.nan_ng hy]
    by_cases c : Fd.key x = 9218868437227405312 ∨ Fd.key y = 9218868437227405312
    · rw [if_pos c, if_pos (by omega)]; decide
    · rw [if_neg c, if_pos (Or.inl nx), if_neg (by omega), if_pos (Or.inl nx)]; decide
theorem max_comm {x y : Nat} : Fd.maxV x y = Fd.maxV y x := by
  unfold Fd.maxV
  by_cases c : Fd.key x = 9218868437227405312 ∨ Fd.key y = 9218868437227405312
  · rw [if_pos c, if_pos c.symm]
  · have c' : ¬ (Fd.key y = 9218868437227405312 ∨ Fd.key x = 9218868437227405312) := fun h => c h.symm
    rw [if_neg c, if_neg c']
    by_cases d : Fd.nan x = true ∨ Fd.nan y = true
    · rw [if_pos d, if_pos d.symm]
    · have d' : ¬ (Fd.nan y = true ∨ Fd.nan x = true) := fun h => d h.symm
      rw [if_neg d, if_neg d']
      by_cases e1 : Fd.tk y ≤ Fd.tk x <;> by_cases e2 : Fd.tk x ≤ Fd.tk y <;> simp only [e1, e2, if_true, if_false]
      · exact Fd.tk_inj (by omega)
      · omega
theorem min_comm {x y : Nat} : Fd.minV x y = Fd.minV y x := by
  unfold Fd.minV
  by_cases c : Fd.key x = -9218868437227405312 ∨ Fd.key y = -9218868437227405312
  · rw [if_pos c, if_pos c.symm]
  · have c' : ¬ (Fd.key y = -9218868437227405312 ∨ Fd.key x = -9218868437227405312) := fun h => c h.symm
    rw [if_neg c, if_neg c']
    by_cases d : Fd.nan x = true ∨ Fd.nan y = true
    · rw [if_pos d, if_pos d.symm]
    · have d' : ¬ (Fd.nan y = true ∨ Fd.nan x = true) := fun h => d h.symm
      rw [if_neg d, if_neg d']
      by_cases e1 : Fd.tk y ≤ Fd.tk x <;> by_cases e2 : Fd.tk x ≤ Fd.tk y <;> simp only [e1, e2, if_true, if_false]
      · exact Fd.tk_inj (by omega)
      · omega
set_option maxHeartbeats 1000000 in
theorem law_FnMaxIsMin (x y : Nat) (hx : W64 x) (hy : W64 y) (w : World) : Calls Try.prog 7 #[.float .f64 x, .float .f64 y] w (RB true w) := by
  have h1 := W_ng hx
  have h2 := W_ng hy
  have h3 : W64 (Fd.maxV x y) := Fd.maxV_W hx hy
  have h4 : W64 (Fd.minV x y) := Fd.minV_W hx hy
  have h5 : W64 (Fd.maxV y x) := Fd.maxV_W hy hx
  have h6 : W64 (Fd.minV y x) := Fd.minV_W hy hx
  have h7 : W64 (Fd.minV (Fd.ng x) (Fd.ng y)) := Fd.minV_W h1 h2
  have h8 := W_ng h7
  have g1 : Op.negFloat .f64 x = Fd.ng x := negF_W hx
  have g2 : Op.negFloat .f64 y = Fd.ng y := negF_W hy
  have g3 : Op.negFloat .f64 (Fd.minV (Fd.ng x) (Fd.ng y)) = Fd.ng (Fd.minV (Fd.ng x) (Fd.ng y)) := negF_W h7
  have q1 := max_is_min hx hy
  have q2 : Fd.sameV (Fd.maxV x y) (Fd.maxV y x) = true := by rw [max_comm]; exact Fd.sameV_refl _
  have q3 : Fd.sameV (Fd.minV x y) (Fd.minV y x) = true := by rw [min_comm]; exact Fd.sameV_refl _
  go_enter Try.func7, Try.ntmps7
  go_wp2_with (first | (go_at_call 16; refine (iMax_c _ _ (by assumption) (by assumption) _).mono ?_; rintro e w' ⟨rfl, n, rfl⟩) | (go_at_call 19; refine (iMin_c _ _ (by assumption) (by assumption) _).mono ?_; rintro e w' ⟨rfl, n, rfl⟩) | (go_at_call 20; refine (same_c _ _ (by assumption) (by assumption) _).mono ?_; rintro e w' ⟨rfl, n, rfl⟩))
  go_ret
  exact ⟨rfl, _, rfl⟩
end Go.Proofs.Ytnamdanomijdbaa
