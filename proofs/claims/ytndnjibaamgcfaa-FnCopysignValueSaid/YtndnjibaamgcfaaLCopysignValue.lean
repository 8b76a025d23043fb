/- FnCopysignValue: the call returns true; no condition but that the arguments are words. -/
import Derived.Test.YtndnjibaamgcfaaC
namespace Go.Proofs.Ytndnjibaamgcfaa
open Go.RowKit
theorem cps_same (a b : Nat) (hb : W64 b) (nb : Fd.nan b = false) : Fd.sameV (Fd.cps a b) (if Fd.nan a then a else Fd.sgnV (Fd.negV b) (Fd.rg a)) = true := by
  cases na : Fd.nan a
  · rw [Fd.negV_num nb]
    have e : Fd.cps a b = Fd.sgnV (Fd.sg b) (Fd.rg a) := by
      have h := Fd.rg_lt a
      unfold W64 at hb
      cases s : Fd.sg b
      · have := (Fd.sg_false hb).1 s
        unfold Fd.cps Fd.sgnV Fd.rg; simp; omega
      · have := (Fd.sg_iff hb).1 s
        unfold Fd.cps Fd.sgnV Fd.ng; simp; unfold Fd.rg at *; split <;> omega
    rw [e]; exact Fd.sameV_refl _
  · refine Fd.sameV_nan ?_ na
    unfold Fd.nan at na ⊢; rw [Fd.rg_cps]; exact na
theorem W_sc {a b : Nat} (ha : W64 a) : W64 (if Fd.nan a then a else Fd.sgnV (Fd.negV b) (Fd.rg a)) := by
  split
  · exact ha
  · exact W_sgn _ (W_rg _)
set_option maxHeartbeats 400000 in
theorem law_FnCopysignValue (x y : Nat) (hx : W64 x) (hy : W64 y) (w : World) : Calls Try.prog 9 #[.float .f64 x, .float .f64 y] w (RB true w) := by
  cases na : Fd.nan y
  · have f1 := num_eq na
    have q := Hd.mk (cps_same x y hy na)
    clear na
    go_enter Try.func9, Try.ntmps9
    go_wp2_with fail
    refine (iCopysign_c _ _ hx hy _).mono ?_
    rintro e w' ⟨rfl, n, rfl⟩
    go_wp2_with fail
    refine (sCopysign_c _ _ hx hy _).mono ?_
    rintro e w' ⟨rfl, n, rfl⟩
    have hW := W_sc (b := y) hx
    obtain ⟨v, hv⟩ : ∃ v, v = (if Fd.nan x then x else Fd.sgnV (Fd.negV y) (Fd.rg x)) := ⟨_, rfl⟩
    rw [← hv] at hW
    have q' : Hd (Fd.sameV (Fd.cps x y) v = true) := ⟨by rw [hv]; exact q.out⟩
    rw [← hv]
    clear hv q
    go_wp2_with (go_at_call 22; refine (same_c _ _ (W_cps hy) hW _).mono ?_; rintro e w' ⟨rfl, n, rfl⟩)
    go_ret
    exact ⟨ret_bool q'.out, _, rfl⟩
  · have f1 := nan_eq na
    clear na hx hy
    go_enter Try.func9, Try.ntmps9
    go_wp2
    go_ret
    exact ⟨rfl, 0, rfl⟩
end Go.Proofs.Ytndnjibaamgcfaa
