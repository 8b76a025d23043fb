/- FnExactFrexp: the call returns true; no condition but that the arguments are words. -/
import Derived.Test.YtkiieekpbcnfkaaCM
namespace Go.Proofs.Ytkiieekpbcnfkaa
open Go.RowKit
set_option maxHeartbeats 1000000 in
theorem law_FnExactFrexp (x : Nat) (hx : W64 x) (w : World) : Calls Try.prog 13 #[.float .f64 x] w (RB true w) := by
  by_cases c : Fd.rg x = 0 ∨ 9218868437227405312 ≤ Fd.rg x
  · have q := Fd.sameV_refl x
    have C := Hd.mk c
    clear c
    go_enter Try.func13, Try.ntmps13
    go_wp2_with (first | (go_at_call 34; refine (sFrexp_same _ C.out _).mono ?_; rintro e w' ⟨rfl, n, rfl⟩) | (go_at_call 35; refine (iFrexp_same _ hx C.out _).mono ?_; rintro e w' ⟨rfl, n, rfl⟩) | (go_at_call 21; refine (sameFloat_c _ _ hx hx _).mono ?_; rintro e w' ⟨rfl, n, rfl⟩))
    go_ret
    exact ⟨rfl, _, rfl⟩
  · have h0 : Hd (0 < Fd.rg x) := ⟨by omega⟩
    have h1 : Hd (Fd.rg x < 9218868437227405312) := ⟨by omega⟩
    clear c
    go_enter Try.func13, Try.ntmps13
    go_wp2_with fail
    refine (sFrexp_c _ hx h0.out h1.out _).mono ?_
    rintro e w' ⟨m, k, pq, rfl, n, rfl⟩
    have PQ := Hd.mk pq
    clear pq
    go_wp2_with fail
    refine (iFrexp_c _ hx h0.out h1.out _).mono ?_
    rintro e w' ⟨m', k', pq', rfl, n, rfl⟩
    obtain ⟨rfl, rfl⟩ := Fd.pq_unique PQ.out pq'
    have hW : W64 (Fd.wd (Fd.sg x) (1021 * 4503599627370496 + m)) := Fd.wd_lt (by have := pq'.high; omega)
    clear pq'
    obtain ⟨v, hv⟩ : ∃ v, v = Fd.wd (Fd.sg x) (1021 * 4503599627370496 + m) := ⟨_, rfl⟩
    rw [← hv] at hW ⊢
    clear hv PQ
    have q := Fd.sameV_refl v
    go_wp2_with (first | (go_at_call 21; refine (sameFloat_c _ _ hW hW _).mono ?_; rintro e w' ⟨rfl, n, rfl⟩))
    go_ret
    exact ⟨rfl, _, rfl⟩
end Go.Proofs.Ytkiieekpbcnfkaa
