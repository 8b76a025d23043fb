/- FnFMASigns: the call returns true; no condition but that the arguments are words. -/
import Derived.Test.YtjfoiicooleeiaaCF
namespace Go.Proofs.Ytjfoiicooleeiaa
open Go.RowKit
theorem fq_num {x y z r : Nat} (h : FQ x y z r) (n : Fd.nan r = false) : Ieee.double.fma x y z = some r := by
  rcases h with h | ⟨_, g⟩
  · exact h
  · rw [n] at g; cases g
theorem fq_none {x y z r : Nat} (h : FQ x y z r) (n : Fd.nan r = true) : Ieee.double.fma x y z = none := by
  rcases h with h | ⟨g, _⟩
  · have := (Fd.fma_num h).2; rw [n] at this; cases this
  · exact g
theorem eq_key {a b : Nat} (h1 : Fd.nan a = false) (h2 : Fd.nan b = false) (h : Fd.key a = Fd.key b) : eqF .f64 a b = true := by
  rw [eq64, h1, h2]; simpa using h
set_option maxHeartbeats 2000000 in
theorem law_FnFMASigns (x y z : Nat) (hx : W64 x) (hy : W64 y) (hz : W64 z) (w : World) : Calls Try.prog 11 #[.float .f64 x, .float .f64 y, .float .f64 z] w (RB true w) := by
  have gx : Op.negFloat .f64 x = Fd.ng x := negF_W hx
  have gy : Op.negFloat .f64 y = Fd.ng y := negF_W hy
  have gz : Op.negFloat .f64 z = Fd.ng z := negF_W hz
  go_enter Try.func11, Try.ntmps11
  go_wp2_with fail
  refine (iFMA_c x y z _).mono ?_
  rintro e w' ⟨r, hr, hW, rfl, n, rfl⟩
  have HR := Hd.mk hr
  clear hr
  go_wp2_with fail
  refine (iFMA_c y x z _).mono ?_
  rintro e w' ⟨s, hs, hWs, rfl, n, rfl⟩
  have q1 : Fd.sameV s r = true := fq_fq HR.out hs (Fd.fma_comm _ _ _)
  clear hs
  go_wp2_with (first | (go_at_call 24; refine (same_c _ _ hWs hW _).mono ?_; rintro e w' ⟨rfl, n, rfl⟩))
  refine (iFMA_c _ _ z _).mono ?_
  rintro e w' ⟨t, ht, hWt, rfl, n, rfl⟩
  have q2 : Fd.sameV t r = true := fq_fq HR.out ht (Fd.fma_ng2 hx hy)
  clear ht
  go_wp2_with (first | (go_at_call 24; refine (same_c _ _ hWt hW _).mono ?_; rintro e w' ⟨rfl, n, rfl⟩))
  refine (iFMA_c _ y _ _).mono ?_
  rintro e w' ⟨o, ho, hWo, rfl, n, rfl⟩
  cases c : Fd.nan r with
  | true =>
    have q3 : eqF .f64 r r = false := nan_eq c
    have q4 : eqF .f64 o o = false := by
      apply nan_eq
      have h := fq_none HR.out c
      rcases Fd.fma_opp (y := y) hx hz with ⟨_, g⟩ | ⟨a, b, g, _⟩
      · rcases ho with k | ⟨_, k⟩
        · rw [g] at k; cases k
        · exact k
      · rw [h] at g; cases g
    clear ho HR c
    go_wp2
    go_ret
    exact ⟨rfl, _, rfl⟩
  | false =>
    have q3 : eqF .f64 r r = true := num_eq c
    have h := fq_num HR.out c
    have gr : Op.negFloat .f64 r = Fd.ng r := negF_W hW
    have q4 : eqF .f64 o (Fd.ng r) = true := by
      rcases Fd.fma_opp (y := y) hx hz with ⟨g, _⟩ | ⟨a, b, g1, g2, g3⟩
      · rw [h] at g; cases g
      · rw [h] at g1; cases g1
        rcases ho with k | ⟨k, _⟩
        · rw [g2] at k; cases k
          refine eq_key (Fd.fma_num g2).2 ?_ ?_
          · unfold Fd.nan at *; rw [Fd.rg_ng hW]; exact c
          · rw [g3, Fd.key_ng hW]
        · rw [g2] at k; cases k
    obtain ⟨u, v, m1, m2, m3, m4, m5⟩ := Fd.fma_zero h
    have q5 : ∀ w, res .mul .f64 x y w = u := fun w => res_some (op := .mul) (k := .f64) (x := x) (y := y) m1 w
    have HV : Hd (∀ b, FQ x y 0 b → eqF .f64 b u = true) := ⟨fun b hb => by
      rcases hb with k | ⟨k, _⟩
      · rw [m2] at k; cases k
        exact eq_key (Fd.fma_num m2).2 m4 m3
      · rw [m2] at k; cases k⟩
    clear ho HR c h m1 m2 m3 m4
    go_wp2_with fail
    refine (iFMA_c x y 0 _).mono ?_
    rintro e w' ⟨b, hb, hWb, rfl, n, rfl⟩
    have q6 := HV.out b hb
    clear hb HV
    go_wp2
    go_ret
    exact ⟨rfl, _, rfl⟩
end Go.Proofs.Ytjfoiicooleeiaa
