/- FnLdexpValue: the call returns true; no condition but that the arguments are words. -/
import Derived.Test.YtmdenmldbmafgaaCO
namespace Go.Proofs.Ytmdenmldbmafgaa
open Go.RowKit
set_option maxHeartbeats 400000 in
theorem law_FnLdexpValue (x : Nat) (k : Int) (hx : W64 x) (_hk : I64 k) (w : World) : Calls Try.prog 7 #[.float .f64 x, .int .i64 k] w (RB true w) := by
  rcases (by omega : 4611686018427387904 < k ∨ (k ≤ 4611686018427387904 ∧ k < -4611686018427387904) ∨ (k ≤ 4611686018427387904 ∧ -4611686018427387904 ≤ k)) with c | ⟨c1, c2⟩ | ⟨c1, c2⟩
  · have t1 : decide ((4611686018427387904 : Int) < k) = true := by simpa using c
    clear c _hk
    go_enter Try.func7, Try.ntmps7
    go_wp2
    go_ret
    exact ⟨rfl, 0, rfl⟩
  · have t1 : decide ((4611686018427387904 : Int) < k) = false := by simp; omega
    have t2 : decide (k < -4611686018427387904) = true := by simpa using c2
    clear c1 c2 _hk
    go_enter Try.func7, Try.ntmps7
    go_wp2
    go_ret
    exact ⟨rfl, 0, rfl⟩
  · have t1 : decide ((4611686018427387904 : Int) < k) = false := by simp; omega
    have t2 : decide (k < -4611686018427387904) = false := by simp; omega
    have HK : Hd (-4611686018427387904 ≤ k ∧ k ≤ 4611686018427387904) := ⟨⟨c2, c1⟩⟩
    clear c1 c2 _hk
    go_enter Try.func7, Try.ntmps7
    go_wp2_with fail
    refine (iLdexp_c x k hx _).mono ?_
    rintro e w' ⟨r, hr, hW, rfl, n, rfl⟩
    have HR := Hd.mk (hr (Or.inr HK.out))
    clear hr
    go_wp2_with fail
    refine (sLdexp_c x k hx _).mono ?_
    rintro e w' ⟨s, hs, hWs, rfl, n, rfl⟩
    obtain rfl := Fd.ld_unique HR.out hs
    clear hs HR t1 t2
    have q := Fd.sameV_refl r
    go_wp2_with (first | (go_at_call 16; refine (same_c _ _ hW hW _).mono ?_; rintro e w' ⟨rfl, n, rfl⟩))
    go_ret
    exact ⟨rfl, _, rfl⟩
end Go.Proofs.Ytmdenmldbmafgaa
