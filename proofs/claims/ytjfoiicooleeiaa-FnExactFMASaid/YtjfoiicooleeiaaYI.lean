/- The two long ways of the reference's FMA: a product, and a product with a sum; conditions: as told in each line. -/
import Derived.Test.YtjfoiicooleeiaaYH
namespace Go.Proofs.Ytjfoiicooleeiaa
open Go.RowKit
/-- what is known of a number that is not 0 and finite -/
structure Fin (x r : Nat) : Prop where
  rg : Fd.rg x = r
  pos : 0 < r
  lt : r < 9218868437227405312
theorem prod_fq {x y z m n R rx ry : Nat} {e f : Int} {s : Bool} (hx : Fin x rx) (hy : Fin y ry) (hz : Fd.rg z = 0) (px : Fd.PQ rx m e) (py : Fd.PQ ry n f) (hs : s = (Fd.sg x ^^ Fd.sg y)) (nr : Fd.NearAt (m * n) (e + f) R) :
    FQ x y z (Fd.sgnV s (min R 9218868437227405312)) := by
  have a := hx.rg
  have b := hx.lt
  have c := hy.rg
  have d := hy.lt
  have m0 := px.low
  have n0 := py.low
  have mn : m * n ≠ 0 := by have := Nat.mul_pos (show 0 < m by omega) (show 0 < n by omega); omega
  rw [← a] at px
  rw [← c] at py
  left
  have nr' : Fd.NearAt (Fd.sm s (m * n)).natAbs (e + f) R := by rw [Fd.sm_natAbs]; exact nr
  have := Fd.fma_by (x := x) (y := y) (z := z) (s := s) (t := Fd.sg z) (by omega) (by omega) (by omega) hs (Or.inl rfl) nr' (by rw [hs]; exact Fd.tt_prod px py hz)
  rw [this, Fd.sgT_pos mn, Fd.wd_sgn (by omega)]
theorem sum_fq {x y z m n k v rx ry rz a b MA NA : Nat} {e f g g0 : Int} {s t : Bool} (hx : Fin x rx) (hy : Fin y ry) (hz : Fin z rz) (px : Fd.PQ rx m e) (py : Fd.PQ ry n f) (pz : Fd.PQ rz k g) (hs : s = (Fd.sg x ^^ Fd.sg y)) (ht : t = Fd.sg z)
    (hMA : MA = m * n * 2 ^ a) (hNA : NA = k * 2 ^ b) (ha : (a : Int) = e + f - g0) (hb : (b : Int) = g - g0) (hg : -4000 ≤ g0) (q : SumQ s t MA NA g0 v) : FQ x y z v := by
  have a1 := hx.rg
  have b1 := hx.lt
  have a2 := hy.rg
  have b2 := hy.lt
  have a3 := hz.rg
  have b3 := hz.lt
  rw [← a1] at px
  rw [← a2] at py
  rw [← a3] at pz
  obtain ⟨R, nr, rfl⟩ := q
  left
  exact Fd.fma_by (by omega) (by omega) (by omega) hs (Or.inl ht) nr (by rw [hMA, hNA, hs, ht]; exact Fd.tt_sum px py pz ha hb hg)
set_option maxHeartbeats 4000000 in
set_option maxRecDepth 100000 in
theorem fma_prod_true (x y z : Nat) (_hx : W64 x) (_hy : W64 y) (_hz : W64 z) (w : World) (nx : Fd.nan x = false) (ny : Fd.nan y = false) (nz : Fd.nan z = false) (ix : Fd.isInf x = false) (iy : Fd.isInf y = false) (iz : Fd.isInf z = false) (zx : eqF .f64 x 0 = false) (zy : eqF .f64 y 0 = false) (zz : eqF .f64 z 0 = true) (en : (Fd.negV x == Fd.negV y) = true) (rx : Nat) (sx : Fd.sizeV x = rx) (Hx : Hd (Fin x rx)) (ry : Nat) (sy : Fd.sizeV y = ry) (Hy : Hd (Fin y ry)) (Hz : Hd (Fd.rg z = 0)) (S : Hd (false = (Fd.sg x ^^ Fd.sg y))) : Calls Try.prog 25 #[.float .f64 x, .float .f64 y, .float .f64 z] w (RFM x y z w) := by
  go_enter Try.func25, Try.ntmps25
  go_wp2_with (first | (go_at_call 27; refine (isNothing_c _ _).mono ?_; rintro e w' ⟨rfl, n, rfl⟩) | (go_at_call 29; refine (isInfinity_c _ _).mono ?_; rintro e w' ⟨rfl, n, rfl⟩) | (go_at_call 42; refine (isNegative_c _ (by with_reducible assumption) _).mono ?_; rintro e w' ⟨rfl, n, rfl⟩) | (go_at_call 28; refine (nothing_c _).mono ?_; rintro e w' ⟨r, hr, hW, rfl, n, rfl⟩) | (go_at_call 47; refine (infinity_c _ _).mono ?_; rintro e w' ⟨rfl, n, rfl⟩) | (go_at_call 41; refine (signed_c _ 0 (by unfold W64; omega) _).mono ?_; rintro e w' ⟨rfl, n, rfl⟩) | (go_at_call 40; refine (size_c _ (by with_reducible assumption) _).mono ?_; rintro e w' ⟨rfl, n, rfl⟩))
  refine (parts_c rx Hx.out.pos Hx.out.lt _).mono ?_
  rintro en' w' ⟨m, e, px, rfl, nx', rfl⟩
  obtain ⟨bx1, bx2⟩ := Fd.pq_bound Hx.out.pos Hx.out.lt px
  have hx := px.high
  have Px := Hd.mk px
  clear px
  go_wp2_with (first | (go_at_call 27; refine (isNothing_c _ _).mono ?_; rintro e w' ⟨rfl, n, rfl⟩) | (go_at_call 29; refine (isInfinity_c _ _).mono ?_; rintro e w' ⟨rfl, n, rfl⟩) | (go_at_call 42; refine (isNegative_c _ (by with_reducible assumption) _).mono ?_; rintro e w' ⟨rfl, n, rfl⟩) | (go_at_call 28; refine (nothing_c _).mono ?_; rintro e w' ⟨r, hr, hW, rfl, n, rfl⟩) | (go_at_call 47; refine (infinity_c _ _).mono ?_; rintro e w' ⟨rfl, n, rfl⟩) | (go_at_call 41; refine (signed_c _ 0 (by unfold W64; omega) _).mono ?_; rintro e w' ⟨rfl, n, rfl⟩) | (go_at_call 40; refine (size_c _ (by with_reducible assumption) _).mono ?_; rintro e w' ⟨rfl, n, rfl⟩))
  refine (parts_c ry Hy.out.pos Hy.out.lt _).mono ?_
  rintro en' w' ⟨l, f, py, rfl, ny', rfl⟩
  obtain ⟨by1, by2⟩ := Fd.pq_bound Hy.out.pos Hy.out.lt py
  have hy := py.high
  have Py := Hd.mk py
  clear py
  go_wp2_with fail
  refine (natural_x (m : Int) m rfl (by omega) _).mono ?_
  rintro en' w1 ⟨v1, N1, rfl, B1⟩
  have HN1 := Hd.mk N1
  have HB1 := Hd.mk (below_then (below_drewN (Below.refl w.heap.size w) _) B1)
  clear N1 B1
  go_wp2_with fail
  refine (natural_x (l : Int) l rfl (by omega) _).mono ?_
  rintro en' w2 ⟨v2, N2, rfl, B2⟩
  have HN2 := Hd.mk N2
  have HN12 := Hd.mk (HN1.out.below B2)
  have HB2 := Hd.mk (below_then HB1.out B2)
  clear N2 B2 HN1 HB1
  go_wp2_with fail
  refine (times_c _ HN12.out HN2.out (by omega) (by omega)).mono ?_
  rintro en' w3 ⟨v3, N3, rfl, B3⟩
  have HN3 := Hd.mk N3
  have HB3 := Hd.mk (below_then HB2.out B3)
  clear N3 B3 HN12 HN2 HB2
  go_wp2_with fail
  refine (nearest_c (e + f) _ HN3.out (by omega) (by omega) (by omega)).mono ?_
  rintro en' w4 ⟨R, nr, rfl, B4⟩
  have HR := Hd.mk (prod_fq Hx.out Hy.out Hz.out Px.out Py.out S.out nr)
  have HB4 := Hd.mk (below_then HB3.out B4)
  clear nr B4
  go_wp2_with fail
  refine (signed_c false _ (by unfold W64; omega) _).mono ?_
  rintro en' w' ⟨rfl, n', rfl⟩
  go_wp2
  go_ret
  exact ⟨_, HR.out, Fd.sgnV_W (by omega), rfl, below_drewN HB4.out _⟩
set_option maxHeartbeats 4000000 in
set_option maxRecDepth 100000 in
theorem fma_prod_false (x y z : Nat) (_hx : W64 x) (_hy : W64 y) (_hz : W64 z) (w : World) (nx : Fd.nan x = false) (ny : Fd.nan y = false) (nz : Fd.nan z = false) (ix : Fd.isInf x = false) (iy : Fd.isInf y = false) (iz : Fd.isInf z = false) (zx : eqF .f64 x 0 = false) (zy : eqF .f64 y 0 = false) (zz : eqF .f64 z 0 = true) (en : (Fd.negV x == Fd.negV y) = false) (rx : Nat) (sx : Fd.sizeV x = rx) (Hx : Hd (Fin x rx)) (ry : Nat) (sy : Fd.sizeV y = ry) (Hy : Hd (Fin y ry)) (Hz : Hd (Fd.rg z = 0)) (S : Hd (true = (Fd.sg x ^^ Fd.sg y))) : Calls Try.prog 25 #[.float .f64 x, .float .f64 y, .float .f64 z] w (RFM x y z w) := by
  go_enter Try.func25, Try.ntmps25
  go_wp2_with (first | (go_at_call 27; refine (isNothing_c _ _).mono ?_; rintro e w' ⟨rfl, n, rfl⟩) | (go_at_call 29; refine (isInfinity_c _ _).mono ?_; rintro e w' ⟨rfl, n, rfl⟩) | (go_at_call 42; refine (isNegative_c _ (by with_reducible assumption) _).mono ?_; rintro e w' ⟨rfl, n, rfl⟩) | (go_at_call 28; refine (nothing_c _).mono ?_; rintro e w' ⟨r, hr, hW, rfl, n, rfl⟩) | (go_at_call 47; refine (infinity_c _ _).mono ?_; rintro e w' ⟨rfl, n, rfl⟩) | (go_at_call 41; refine (signed_c _ 0 (by unfold W64; omega) _).mono ?_; rintro e w' ⟨rfl, n, rfl⟩) | (go_at_call 40; refine (size_c _ (by with_reducible assumption) _).mono ?_; rintro e w' ⟨rfl, n, rfl⟩))
  refine (parts_c rx Hx.out.pos Hx.out.lt _).mono ?_
  rintro en' w' ⟨m, e, px, rfl, nx', rfl⟩
  obtain ⟨bx1, bx2⟩ := Fd.pq_bound Hx.out.pos Hx.out.lt px
  have hx := px.high
  have Px := Hd.mk px
  clear px
  go_wp2_with (first | (go_at_call 27; refine (isNothing_c _ _).mono ?_; rintro e w' ⟨rfl, n, rfl⟩) | (go_at_call 29; refine (isInfinity_c _ _).mono ?_; rintro e w' ⟨rfl, n, rfl⟩) | (go_at_call 42; refine (isNegative_c _ (by with_reducible assumption) _).mono ?_; rintro e w' ⟨rfl, n, rfl⟩) | (go_at_call 28; refine (nothing_c _).mono ?_; rintro e w' ⟨r, hr, hW, rfl, n, rfl⟩) | (go_at_call 47; refine (infinity_c _ _).mono ?_; rintro e w' ⟨rfl, n, rfl⟩) | (go_at_call 41; refine (signed_c _ 0 (by unfold W64; omega) _).mono ?_; rintro e w' ⟨rfl, n, rfl⟩) | (go_at_call 40; refine (size_c _ (by with_reducible assumption) _).mono ?_; rintro e w' ⟨rfl, n, rfl⟩))
  refine (parts_c ry Hy.out.pos Hy.out.lt _).mono ?_
  rintro en' w' ⟨l, f, py, rfl, ny', rfl⟩
  obtain ⟨by1, by2⟩ := Fd.pq_bound Hy.out.pos Hy.out.lt py
  have hy := py.high
  have Py := Hd.mk py
  clear py
  go_wp2_with fail
  refine (natural_x (m : Int) m rfl (by omega) _).mono ?_
  rintro en' w1 ⟨v1, N1, rfl, B1⟩
  have HN1 := Hd.mk N1
  have HB1 := Hd.mk (below_then (below_drewN (Below.refl w.heap.size w) _) B1)
  clear N1 B1
  go_wp2_with fail
  refine (natural_x (l : Int) l rfl (by omega) _).mono ?_
  rintro en' w2 ⟨v2, N2, rfl, B2⟩
  have HN2 := Hd.mk N2
  have HN12 := Hd.mk (HN1.out.below B2)
  have HB2 := Hd.mk (below_then HB1.out B2)
  clear N2 B2 HN1 HB1
  go_wp2_with fail
  refine (times_c _ HN12.out HN2.out (by omega) (by omega)).mono ?_
  rintro en' w3 ⟨v3, N3, rfl, B3⟩
  have HN3 := Hd.mk N3
  have HB3 := Hd.mk (below_then HB2.out B3)
  clear N3 B3 HN12 HN2 HB2
  go_wp2_with fail
  refine (nearest_c (e + f) _ HN3.out (by omega) (by omega) (by omega)).mono ?_
  rintro en' w4 ⟨R, nr, rfl, B4⟩
  have HR := Hd.mk (prod_fq Hx.out Hy.out Hz.out Px.out Py.out S.out nr)
  have HB4 := Hd.mk (below_then HB3.out B4)
  clear nr B4
  go_wp2_with fail
  refine (signed_c true _ (by unfold W64; omega) _).mono ?_
  rintro en' w' ⟨rfl, n', rfl⟩
  go_wp2
  go_ret
  exact ⟨_, HR.out, Fd.sgnV_W (by omega), rfl, below_drewN HB4.out _⟩
set_option maxHeartbeats 4000000 in
set_option maxRecDepth 100000 in
theorem fma_sum_true_true (x y z : Nat) (_hx : W64 x) (_hy : W64 y) (_hz : W64 z) (w : World) (nx : Fd.nan x = false) (ny : Fd.nan y = false) (nz : Fd.nan z = false) (ix : Fd.isInf x = false) (iy : Fd.isInf y = false) (iz : Fd.isInf z = false) (zx : eqF .f64 x 0 = false) (zy : eqF .f64 y 0 = false) (zz : eqF .f64 z 0 = false) (en : (Fd.negV x == Fd.negV y) = true) (sz : Fd.negV z = true) (rx : Nat) (sx : Fd.sizeV x = rx) (Hx : Hd (Fin x rx)) (ry : Nat) (sy : Fd.sizeV y = ry) (Hy : Hd (Fin y ry)) (rz : Nat) (szv : Fd.sizeV z = rz) (Hz : Hd (Fin z rz)) (S : Hd (false = (Fd.sg x ^^ Fd.sg y))) (SS : Hd (true = Fd.sg z)) : Calls Try.prog 25 #[.float .f64 x, .float .f64 y, .float .f64 z] w (RFM x y z w) := by
  go_enter Try.func25, Try.ntmps25
  go_wp2_with (first | (go_at_call 27; refine (isNothing_c _ _).mono ?_; rintro e w' ⟨rfl, n, rfl⟩) | (go_at_call 29; refine (isInfinity_c _ _).mono ?_; rintro e w' ⟨rfl, n, rfl⟩) | (go_at_call 42; refine (isNegative_c _ (by with_reducible assumption) _).mono ?_; rintro e w' ⟨rfl, n, rfl⟩) | (go_at_call 28; refine (nothing_c _).mono ?_; rintro e w' ⟨r, hr, hW, rfl, n, rfl⟩) | (go_at_call 47; refine (infinity_c _ _).mono ?_; rintro e w' ⟨rfl, n, rfl⟩) | (go_at_call 41; refine (signed_c _ 0 (by unfold W64; omega) _).mono ?_; rintro e w' ⟨rfl, n, rfl⟩) | (go_at_call 40; refine (size_c _ (by with_reducible assumption) _).mono ?_; rintro e w' ⟨rfl, n, rfl⟩))
  refine (parts_c rx Hx.out.pos Hx.out.lt _).mono ?_
  rintro en' w' ⟨m, e, px, rfl, nx', rfl⟩
  obtain ⟨bx1, bx2⟩ := Fd.pq_bound Hx.out.pos Hx.out.lt px
  have hx := px.high
  have Px := Hd.mk px
  clear px
  go_wp2_with (first | (go_at_call 27; refine (isNothing_c _ _).mono ?_; rintro e w' ⟨rfl, n, rfl⟩) | (go_at_call 29; refine (isInfinity_c _ _).mono ?_; rintro e w' ⟨rfl, n, rfl⟩) | (go_at_call 42; refine (isNegative_c _ (by with_reducible assumption) _).mono ?_; rintro e w' ⟨rfl, n, rfl⟩) | (go_at_call 28; refine (nothing_c _).mono ?_; rintro e w' ⟨r, hr, hW, rfl, n, rfl⟩) | (go_at_call 47; refine (infinity_c _ _).mono ?_; rintro e w' ⟨rfl, n, rfl⟩) | (go_at_call 41; refine (signed_c _ 0 (by unfold W64; omega) _).mono ?_; rintro e w' ⟨rfl, n, rfl⟩) | (go_at_call 40; refine (size_c _ (by with_reducible assumption) _).mono ?_; rintro e w' ⟨rfl, n, rfl⟩))
  refine (parts_c ry Hy.out.pos Hy.out.lt _).mono ?_
  rintro en' w' ⟨l, f, py, rfl, ny', rfl⟩
  obtain ⟨by1, by2⟩ := Fd.pq_bound Hy.out.pos Hy.out.lt py
  have hy := py.high
  have Py := Hd.mk py
  clear py
  go_wp2_with fail
  refine (natural_x (m : Int) m rfl (by omega) _).mono ?_
  rintro en' w1 ⟨v1, N1, rfl, B1⟩
  have HN1 := Hd.mk N1
  have HB1 := Hd.mk (below_then (below_drewN (Below.refl w.heap.size w) _) B1)
  clear N1 B1
  go_wp2_with fail
  refine (natural_x (l : Int) l rfl (by omega) _).mono ?_
  rintro en' w2 ⟨v2, N2, rfl, B2⟩
  have HN2 := Hd.mk N2
  have HN12 := Hd.mk (HN1.out.below B2)
  have HB2 := Hd.mk (below_then HB1.out B2)
  clear N2 B2 HN1 HB1
  go_wp2_with fail
  refine (times_c _ HN12.out HN2.out (by omega) (by omega)).mono ?_
  rintro en' w3 ⟨v3, N3, rfl, B3⟩
  have HN3 := Hd.mk N3
  have HB3 := Hd.mk (below_then HB2.out B3)
  clear N3 B3 HN12 HN2 HB2
  go_wp2_with (first | (go_at_call 27; refine (isNothing_c _ _).mono ?_; rintro e w' ⟨rfl, n, rfl⟩) | (go_at_call 29; refine (isInfinity_c _ _).mono ?_; rintro e w' ⟨rfl, n, rfl⟩) | (go_at_call 42; refine (isNegative_c _ (by with_reducible assumption) _).mono ?_; rintro e w' ⟨rfl, n, rfl⟩) | (go_at_call 28; refine (nothing_c _).mono ?_; rintro e w' ⟨r, hr, hW, rfl, n, rfl⟩) | (go_at_call 47; refine (infinity_c _ _).mono ?_; rintro e w' ⟨rfl, n, rfl⟩) | (go_at_call 41; refine (signed_c _ 0 (by unfold W64; omega) _).mono ?_; rintro e w' ⟨rfl, n, rfl⟩) | (go_at_call 40; refine (size_c _ (by with_reducible assumption) _).mono ?_; rintro e w' ⟨rfl, n, rfl⟩))
  refine (parts_c rz Hz.out.pos Hz.out.lt _).mono ?_
  rintro en' w' ⟨k, g, pz, rfl, nz', rfl⟩
  obtain ⟨bz1, bz2⟩ := Fd.pq_bound Hz.out.pos Hz.out.lt pz
  have hz := pz.high
  have Pz := Hd.mk pz
  clear pz
  go_wp2_with (first | (go_at_call 27; refine (isNothing_c _ _).mono ?_; rintro e w' ⟨rfl, n, rfl⟩) | (go_at_call 29; refine (isInfinity_c _ _).mono ?_; rintro e w' ⟨rfl, n, rfl⟩) | (go_at_call 42; refine (isNegative_c _ (by with_reducible assumption) _).mono ?_; rintro e w' ⟨rfl, n, rfl⟩) | (go_at_call 28; refine (nothing_c _).mono ?_; rintro e w' ⟨r, hr, hW, rfl, n, rfl⟩) | (go_at_call 47; refine (infinity_c _ _).mono ?_; rintro e w' ⟨rfl, n, rfl⟩) | (go_at_call 41; refine (signed_c _ 0 (by unfold W64; omega) _).mono ?_; rintro e w' ⟨rfl, n, rfl⟩) | (go_at_call 40; refine (size_c _ (by with_reducible assumption) _).mono ?_; rintro e w' ⟨rfl, n, rfl⟩))
  refine (natural_x (k : Int) k rfl (by omega) _).mono ?_
  rintro en' w4 ⟨v4, N4, rfl, B4⟩
  have HN4 := Hd.mk N4
  have HN34 := Hd.mk (HN3.out.below (below_then (below_drewN (Below.refl w3.heap.size w3) _) B4))
  have HB4 := Hd.mk (below_then HB3.out (below_then (below_drewN (Below.refl w3.heap.size w3) _) B4))
  clear N4 B4 HN3 HB3
  rcases (by omega : g < e + f ∨ e + f ≤ g) with cg | cg
  · obtain ⟨d, hd⟩ : ∃ d : Nat, e + f = g + d := ⟨(e + f - g).toNat, by omega⟩
    have HD := Hd.mk hd
    have d1 : 1 ≤ d := by omega
    clear hd
    go_wp2_with fail
    refine (sum_gt_c false true (e + f) g d _ HN34.out HN4.out (by omega) (by omega) (by omega) (by omega) (by omega) (by omega) HD.out d1 _ _ rfl rfl).mono ?_
    rintro en' w5 ⟨v, q, hWv, rfl, B5⟩
    have HQ := Hd.mk (sum_fq (a := d) (b := 0) Hx.out Hy.out Hz.out Px.out Py.out Pz.out S.out SS.out rfl rfl (by have := HD.out; omega) (by omega) (by omega) q)
    have HB5 := Hd.mk (below_then HB4.out B5)
    clear q B5
    go_wp2
    go_ret
    exact ⟨_, HQ.out, hWv, rfl, HB5.out⟩
  · obtain ⟨d, hd⟩ : ∃ d : Nat, g = e + f + d := ⟨(g - (e + f)).toNat, by omega⟩
    have HD := Hd.mk hd
    clear hd
    go_wp2_with fail
    refine (sum_le_c false true (e + f) g d _ HN34.out HN4.out (by omega) (by omega) (by omega) (by omega) (by omega) (by omega) HD.out _ rfl).mono ?_
    rintro en' w5 ⟨v, q, hWv, rfl, B5⟩
    have HQ := Hd.mk (sum_fq (a := 0) (b := d) (MA := m * l) Hx.out Hy.out Hz.out Px.out Py.out Pz.out S.out SS.out (by rw [Nat.pow_zero, Nat.mul_one]) rfl (by omega) (by have := HD.out; omega) (by omega) q)
    have HB5 := Hd.mk (below_then HB4.out B5)
    clear q B5
    go_wp2
    go_ret
    exact ⟨_, HQ.out, hWv, rfl, HB5.out⟩
set_option maxHeartbeats 4000000 in
set_option maxRecDepth 100000 in
theorem fma_sum_true_false (x y z : Nat) (_hx : W64 x) (_hy : W64 y) (_hz : W64 z) (w : World) (nx : Fd.nan x = false) (ny : Fd.nan y = false) (nz : Fd.nan z = false) (ix : Fd.isInf x = false) (iy : Fd.isInf y = false) (iz : Fd.isInf z = false) (zx : eqF .f64 x 0 = false) (zy : eqF .f64 y 0 = false) (zz : eqF .f64 z 0 = false) (en : (Fd.negV x == Fd.negV y) = true) (sz : Fd.negV z = false) (rx : Nat) (sx : Fd.sizeV x = rx) (Hx : Hd (Fin x rx)) (ry : Nat) (sy : Fd.sizeV y = ry) (Hy : Hd (Fin y ry)) (rz : Nat) (szv : Fd.sizeV z = rz) (Hz : Hd (Fin z rz)) (S : Hd (false = (Fd.sg x ^^ Fd.sg y))) (SS : Hd (false = Fd.sg z)) : Calls Try.prog 25 #[.float .f64 x, .float .f64 y, .float .f64 z] w (RFM x y z w) := by
  go_enter Try.func25, Try.ntmps25
  go_wp2_with (first | (go_at_call 27; refine (isNothing_c _ _).mono ?_; rintro e w' ⟨rfl, n, rfl⟩) | (go_at_call 29; refine (isInfinity_c _ _).mono ?_; rintro e w' ⟨rfl, n, rfl⟩) | (go_at_call 42; refine (isNegative_c _ (by with_reducible assumption) _).mono ?_; rintro e w' ⟨rfl, n, rfl⟩) | (go_at_call 28; refine (nothing_c _).mono ?_; rintro e w' ⟨r, hr, hW, rfl, n, rfl⟩) | (go_at_call 47; refine (infinity_c _ _).mono ?_; rintro e w' ⟨rfl, n, rfl⟩) | (go_at_call 41; refine (signed_c _ 0 (by unfold W64; omega) _).mono ?_; rintro e w' ⟨rfl, n, rfl⟩) | (go_at_call 40; refine (size_c _ (by with_reducible assumption) _).mono ?_; rintro e w' ⟨rfl, n, rfl⟩))
  refine (parts_c rx Hx.out.pos Hx.out.lt _).mono ?_
  rintro en' w' ⟨m, e, px, rfl, nx', rfl⟩
  obtain ⟨bx1, bx2⟩ := Fd.pq_bound Hx.out.pos Hx.out.lt px
  have hx := px.high
  have Px := Hd.mk px
  clear px
  go_wp2_with (first | (go_at_call 27; refine (isNothing_c _ _).mono ?_; rintro e w' ⟨rfl, n, rfl⟩) | (go_at_call 29; refine (isInfinity_c _ _).mono ?_; rintro e w' ⟨rfl, n, rfl⟩) | (go_at_call 42; refine (isNegative_c _ (by with_reducible assumption) _).mono ?_; rintro e w' ⟨rfl, n, rfl⟩) | (go_at_call 28; refine (nothing_c _).mono ?_; rintro e w' ⟨r, hr, hW, rfl, n, rfl⟩) | (go_at_call 47; refine (infinity_c _ _).mono ?_; rintro e w' ⟨rfl, n, rfl⟩) | (go_at_call 41; refine (signed_c _ 0 (by unfold W64; omega) _).mono ?_; rintro e w' ⟨rfl, n, rfl⟩) | (go_at_call 40; refine (size_c _ (by with_reducible assumption) _).mono ?_; rintro e w' ⟨rfl, n, rfl⟩))
  refine (parts_c ry Hy.out.pos Hy.out.lt _).mono ?_
  rintro en' w' ⟨l, f, py, rfl, ny', rfl⟩
  obtain ⟨by1, by2⟩ := Fd.pq_bound Hy.out.pos Hy.out.lt py
  have hy := py.high
  have Py := Hd.mk py
  clear py
  go_wp2_with fail
  refine (natural_x (m : Int) m rfl (by omega) _).mono ?_
  rintro en' w1 ⟨v1, N1, rfl, B1⟩
  have HN1 := Hd.mk N1
  have HB1 := Hd.mk (below_then (below_drewN (Below.refl w.heap.size w) _) B1)
  clear N1 B1
  go_wp2_with fail
  refine (natural_x (l : Int) l rfl (by omega) _).mono ?_
  rintro en' w2 ⟨v2, N2, rfl, B2⟩
  have HN2 := Hd.mk N2
  have HN12 := Hd.mk (HN1.out.below B2)
  have HB2 := Hd.mk (below_then HB1.out B2)
  clear N2 B2 HN1 HB1
  go_wp2_with fail
  refine (times_c _ HN12.out HN2.out (by omega) (by omega)).mono ?_
  rintro en' w3 ⟨v3, N3, rfl, B3⟩
  have HN3 := Hd.mk N3
  have HB3 := Hd.mk (below_then HB2.out B3)
  clear N3 B3 HN12 HN2 HB2
  go_wp2_with (first | (go_at_call 27; refine (isNothing_c _ _).mono ?_; rintro e w' ⟨rfl, n, rfl⟩) | (go_at_call 29; refine (isInfinity_c _ _).mono ?_; rintro e w' ⟨rfl, n, rfl⟩) | (go_at_call 42; refine (isNegative_c _ (by with_reducible assumption) _).mono ?_; rintro e w' ⟨rfl, n, rfl⟩) | (go_at_call 28; refine (nothing_c _).mono ?_; rintro e w' ⟨r, hr, hW, rfl, n, rfl⟩) | (go_at_call 47; refine (infinity_c _ _).mono ?_; rintro e w' ⟨rfl, n, rfl⟩) | (go_at_call 41; refine (signed_c _ 0 (by unfold W64; omega) _).mono ?_; rintro e w' ⟨rfl, n, rfl⟩) | (go_at_call 40; refine (size_c _ (by with_reducible assumption) _).mono ?_; rintro e w' ⟨rfl, n, rfl⟩))
  refine (parts_c rz Hz.out.pos Hz.out.lt _).mono ?_
  rintro en' w' ⟨k, g, pz, rfl, nz', rfl⟩
  obtain ⟨bz1, bz2⟩ := Fd.pq_bound Hz.out.pos Hz.out.lt pz
  have hz := pz.high
  have Pz := Hd.mk pz
  clear pz
  go_wp2_with (first | (go_at_call 27; refine (isNothing_c _ _).mono ?_; rintro e w' ⟨rfl, n, rfl⟩) | (go_at_call 29; refine (isInfinity_c _ _).mono ?_; rintro e w' ⟨rfl, n, rfl⟩) | (go_at_call 42; refine (isNegative_c _ (by with_reducible assumption) _).mono ?_; rintro e w' ⟨rfl, n, rfl⟩) | (go_at_call 28; refine (nothing_c _).mono ?_; rintro e w' ⟨r, hr, hW, rfl, n, rfl⟩) | (go_at_call 47; refine (infinity_c _ _).mono ?_; rintro e w' ⟨rfl, n, rfl⟩) | (go_at_call 41; refine (signed_c _ 0 (by unfold W64; omega) _).mono ?_; rintro e w' ⟨rfl, n, rfl⟩) | (go_at_call 40; refine (size_c _ (by with_reducible assumption) _).mono ?_; rintro e w' ⟨rfl, n, rfl⟩))
  refine (natural_x (k : Int) k rfl (by omega) _).mono ?_
  rintro en' w4 ⟨v4, N4, rfl, B4⟩
  have HN4 := Hd.mk N4
  have HN34 := Hd.mk (HN3.out.below (below_then (below_drewN (Below.refl w3.heap.size w3) _) B4))
  have HB4 := Hd.mk (below_then HB3.out (below_then (below_drewN (Below.refl w3.heap.size w3) _) B4))
  clear N4 B4 HN3 HB3
  rcases (by omega : g < e + f ∨ e + f ≤ g) with cg | cg
  · obtain ⟨d, hd⟩ : ∃ d : Nat, e + f = g + d := ⟨(e + f - g).toNat, by omega⟩
    have HD := Hd.mk hd
    have d1 : 1 ≤ d := by omega
    clear hd
    go_wp2_with fail
    refine (sum_gt_c false false (e + f) g d _ HN34.out HN4.out (by omega) (by omega) (by omega) (by omega) (by omega) (by omega) HD.out d1 _ _ rfl rfl).mono ?_
    rintro en' w5 ⟨v, q, hWv, rfl, B5⟩
    have HQ := Hd.mk (sum_fq (a := d) (b := 0) Hx.out Hy.out Hz.out Px.out Py.out Pz.out S.out SS.out rfl rfl (by have := HD.out; omega) (by omega) (by omega) q)
    have HB5 := Hd.mk (below_then HB4.out B5)
    clear q B5
    go_wp2
    go_ret
    exact ⟨_, HQ.out, hWv, rfl, HB5.out⟩
  · obtain ⟨d, hd⟩ : ∃ d : Nat, g = e + f + d := ⟨(g - (e + f)).toNat, by omega⟩
    have HD := Hd.mk hd
    clear hd
    go_wp2_with fail
    refine (sum_le_c false false (e + f) g d _ HN34.out HN4.out (by omega) (by omega) (by omega) (by omega) (by omega) (by omega) HD.out _ rfl).mono ?_
    rintro en' w5 ⟨v, q, hWv, rfl, B5⟩
    have HQ := Hd.mk (sum_fq (a := 0) (b := d) (MA := m * l) Hx.out Hy.out Hz.out Px.out Py.out Pz.out S.out SS.out (by rw [Nat.pow_zero, Nat.mul_one]) rfl (by omega) (by have := HD.out; omega) (by omega) q)
    have HB5 := Hd.mk (below_then HB4.out B5)
    clear q B5
    go_wp2
    go_ret
    exact ⟨_, HQ.out, hWv, rfl, HB5.out⟩
set_option maxHeartbeats 4000000 in
set_option maxRecDepth 100000 in
theorem fma_sum_false_true (x y z : Nat) (_hx : W64 x) (_hy : W64 y) (_hz : W64 z) (w : World) (nx : Fd.nan x = false) (ny : Fd.nan y = false) (nz : Fd.nan z = false) (ix : Fd.isInf x = false) (iy : Fd.isInf y = false) (iz : Fd.isInf z = false) (zx : eqF .f64 x 0 = false) (zy : eqF .f64 y 0 = false) (zz : eqF .f64 z 0 = false) (en : (Fd.negV x == Fd.negV y) = false) (sz : Fd.negV z = true) (rx : Nat) (sx : Fd.sizeV x = rx) (Hx : Hd (Fin x rx)) (ry : Nat) (sy : Fd.sizeV y = ry) (Hy : Hd (Fin y ry)) (rz : Nat) (szv : Fd.sizeV z = rz) (Hz : Hd (Fin z rz)) (S : Hd (true = (Fd.sg x ^^ Fd.sg y))) (SS : Hd (true = Fd.sg z)) : Calls Try.prog 25 #[.float .f64 x, .float .f64 y, .float .f64 z] w (RFM x y z w) := by
  go_enter Try.func25, Try.ntmps25
  go_wp2_with (first | (go_at_call 27; refine (isNothing_c _ _).mono ?_; rintro e w' ⟨rfl, n, rfl⟩) | (go_at_call 29; refine (isInfinity_c _ _).mono ?_; rintro e w' ⟨rfl, n, rfl⟩) | (go_at_call 42; refine (isNegative_c _ (by with_reducible assumption) _).mono ?_; rintro e w' ⟨rfl, n, rfl⟩) | (go_at_call 28; refine (nothing_c _).mono ?_; rintro e w' ⟨r, hr, hW, rfl, n, rfl⟩) | (go_at_call 47; refine (infinity_c _ _).mono ?_; rintro e w' ⟨rfl, n, rfl⟩) | (go_at_call 41; refine (signed_c _ 0 (by unfold W64; omega) _).mono ?_; rintro e w' ⟨rfl, n, rfl⟩) | (go_at_call 40; refine (size_c _ (by with_reducible assumption) _).mono ?_; rintro e w' ⟨rfl, n, rfl⟩))
  refine (parts_c rx Hx.out.pos Hx.out.lt _).mono ?_
  rintro en' w' ⟨m, e, px, rfl, nx', rfl⟩
  obtain ⟨bx1, bx2⟩ := Fd.pq_bound Hx.out.pos Hx.out.lt px
  have hx := px.high
  have Px := Hd.mk px
  clear px
  go_wp2_with (first | (go_at_call 27; refine (isNothing_c _ _).mono ?_; rintro e w' ⟨rfl, n, rfl⟩) | (go_at_call 29; refine (isInfinity_c _ _).mono ?_; rintro e w' ⟨rfl, n, rfl⟩) | (go_at_call 42; refine (isNegative_c _ (by with_reducible assumption) _).mono ?_; rintro e w' ⟨rfl, n, rfl⟩) | (go_at_call 28; refine (nothing_c _).mono ?_; rintro e w' ⟨r, hr, hW, rfl, n, rfl⟩) | (go_at_call 47; refine (infinity_c _ _).mono ?_; rintro e w' ⟨rfl, n, rfl⟩) | (go_at_call 41; refine (signed_c _ 0 (by unfold W64; omega) _).mono ?_; rintro e w' ⟨rfl, n, rfl⟩) | (go_at_call 40; refine (size_c _ (by with_reducible assumption) _).mono ?_; rintro e w' ⟨rfl, n, rfl⟩))
  refine (parts_c ry Hy.out.pos Hy.out.lt _).mono ?_
  rintro en' w' ⟨l, f, py, rfl, ny', rfl⟩
  obtain ⟨by1, by2⟩ := Fd.pq_bound Hy.out.pos Hy.out.lt py
  have hy := py.high
  have Py := Hd.mk py
  clear py
  go_wp2_with fail
  refine (natural_x (m : Int) m rfl (by omega) _).mono ?_
  rintro en' w1 ⟨v1, N1, rfl, B1⟩
  have HN1 := Hd.mk N1
  have HB1 := Hd.mk (below_then (below_drewN (Below.refl w.heap.size w) _) B1)
  clear N1 B1
  go_wp2_with fail
  refine (natural_x (l : Int) l rfl (by omega) _).mono ?_
  rintro en' w2 ⟨v2, N2, rfl, B2⟩
  have HN2 := Hd.mk N2
  have HN12 := Hd.mk (HN1.out.below B2)
  have HB2 := Hd.mk (below_then HB1.out B2)
  clear N2 B2 HN1 HB1
  go_wp2_with fail
  refine (times_c _ HN12.out HN2.out (by omega) (by omega)).mono ?_
  rintro en' w3 ⟨v3, N3, rfl, B3⟩
  have HN3 := Hd.mk N3
  have HB3 := Hd.mk (below_then HB2.out B3)
  clear N3 B3 HN12 HN2 HB2
  go_wp2_with (first | (go_at_call 27; refine (isNothing_c _ _).mono ?_; rintro e w' ⟨rfl, n, rfl⟩) | (go_at_call 29; refine (isInfinity_c _ _).mono ?_; rintro e w' ⟨rfl, n, rfl⟩) | (go_at_call 42; refine (isNegative_c _ (by with_reducible assumption) _).mono ?_; rintro e w' ⟨rfl, n, rfl⟩) | (go_at_call 28; refine (nothing_c _).mono ?_; rintro e w' ⟨r, hr, hW, rfl, n, rfl⟩) | (go_at_call 47; refine (infinity_c _ _).mono ?_; rintro e w' ⟨rfl, n, rfl⟩) | (go_at_call 41; refine (signed_c _ 0 (by unfold W64; omega) _).mono ?_; rintro e w' ⟨rfl, n, rfl⟩) | (go_at_call 40; refine (size_c _ (by with_reducible assumption) _).mono ?_; rintro e w' ⟨rfl, n, rfl⟩))
  refine (parts_c rz Hz.out.pos Hz.out.lt _).mono ?_
  rintro en' w' ⟨k, g, pz, rfl, nz', rfl⟩
  obtain ⟨bz1, bz2⟩ := Fd.pq_bound Hz.out.pos Hz.out.lt pz
  have hz := pz.high
  have Pz := Hd.mk pz
  clear pz
  go_wp2_with (first | (go_at_call 27; refine (isNothing_c _ _).mono ?_; rintro e w' ⟨rfl, n, rfl⟩) | (go_at_call 29; refine (isInfinity_c _ _).mono ?_; rintro e w' ⟨rfl, n, rfl⟩) | (go_at_call 42; refine (isNegative_c _ (by with_reducible assumption) _).mono ?_; rintro e w' ⟨rfl, n, rfl⟩) | (go_at_call 28; refine (nothing_c _).mono ?_; rintro e w' ⟨r, hr, hW, rfl, n, rfl⟩) | (go_at_call 47; refine (infinity_c _ _).mono ?_; rintro e w' ⟨rfl, n, rfl⟩) | (go_at_call 41; refine (signed_c _ 0 (by unfold W64; omega) _).mono ?_; rintro e w' ⟨rfl, n, rfl⟩) | (go_at_call 40; refine (size_c _ (by with_reducible assumption) _).mono ?_; rintro e w' ⟨rfl, n, rfl⟩))
  refine (natural_x (k : Int) k rfl (by omega) _).mono ?_
  rintro en' w4 ⟨v4, N4, rfl, B4⟩
  have HN4 := Hd.mk N4
  have HN34 := Hd.mk (HN3.out.below (below_then (below_drewN (Below.refl w3.heap.size w3) _) B4))
  have HB4 := Hd.mk (below_then HB3.out (below_then (below_drewN (Below.refl w3.heap.size w3) _) B4))
  clear N4 B4 HN3 HB3
  rcases (by omega : g < e + f ∨ e + f ≤ g) with cg | cg
  · obtain ⟨d, hd⟩ : ∃ d : Nat, e + f = g + d := ⟨(e + f - g).toNat, by omega⟩
    have HD := Hd.mk hd
    have d1 : 1 ≤ d := by omega
    clear hd
    go_wp2_with fail
    refine (sum_gt_c true true (e + f) g d _ HN34.out HN4.out (by omega) (by omega) (by omega) (by omega) (by omega) (by omega) HD.out d1 _ _ rfl rfl).mono ?_
    rintro en' w5 ⟨v, q, hWv, rfl, B5⟩
    have HQ := Hd.mk (sum_fq (a := d) (b := 0) Hx.out Hy.out Hz.out Px.out Py.out Pz.out S.out SS.out rfl rfl (by have := HD.out; omega) (by omega) (by omega) q)
    have HB5 := Hd.mk (below_then HB4.out B5)
    clear q B5
    go_wp2
    go_ret
    exact ⟨_, HQ.out, hWv, rfl, HB5.out⟩
  · obtain ⟨d, hd⟩ : ∃ d : Nat, g = e + f + d := ⟨(g - (e + f)).toNat, by omega⟩
    have HD := Hd.mk hd
    clear hd
    go_wp2_with fail
    refine (sum_le_c true true (e + f) g d _ HN34.out HN4.out (by omega) (by omega) (by omega) (by omega) (by omega) (by omega) HD.out _ rfl).mono ?_
    rintro en' w5 ⟨v, q, hWv, rfl, B5⟩
    have HQ := Hd.mk (sum_fq (a := 0) (b := d) (MA := m * l) Hx.out Hy.out Hz.out Px.out Py.out Pz.out S.out SS.out (by rw [Nat.pow_zero, Nat.mul_one]) rfl (by omega) (by have := HD.out; omega) (by omega) q)
    have HB5 := Hd.mk (below_then HB4.out B5)
    clear q B5
    go_wp2
    go_ret
    exact ⟨_, HQ.out, hWv, rfl, HB5.out⟩
set_option maxHeartbeats 4000000 in
set_option maxRecDepth 100000 in
theorem fma_sum_false_false (x y z : Nat) (_hx : W64 x) (_hy : W64 y) (_hz : W64 z) (w : World) (nx : Fd.nan x = false) (ny : Fd.nan y = false) (nz : Fd.nan z = false) (ix : Fd.isInf x = false) (iy : Fd.isInf y = false) (iz : Fd.isInf z = false) (zx : eqF .f64 x 0 = false) (zy : eqF .f64 y 0 = false) (zz : eqF .f64 z 0 = false) (en : (Fd.negV x == Fd.negV y) = false) (sz : Fd.negV z = false) (rx : Nat) (sx : Fd.sizeV x = rx) (Hx : Hd (Fin x rx)) (ry : Nat) (sy : Fd.sizeV y = ry) (Hy : Hd (Fin y ry)) (rz : Nat) (szv : Fd.sizeV z = rz) (Hz : Hd (Fin z rz)) (S : Hd (true = (Fd.sg x ^^ Fd.sg y))) (SS : Hd (false = Fd.sg z)) : Calls Try.prog 25 #[.float .f64 x, .float .f64 y, .float .f64 z] w (RFM x y z w) := by
  go_enter Try.func25, Try.ntmps25
  go_wp2_with (first | (go_at_call 27; refine (isNothing_c _ _).mono ?_; rintro e w' ⟨rfl, n, rfl⟩) | (go_at_call 29; refine (isInfinity_c _ _).mono ?_; rintro e w' ⟨rfl, n, rfl⟩) | (go_at_call 42; refine (isNegative_c _ (by with_reducible assumption) _).mono ?_; rintro e w' ⟨rfl, n, rfl⟩) | (go_at_call 28; refine (nothing_c _).mono ?_; rintro e w' ⟨r, hr, hW, rfl, n, rfl⟩) | (go_at_call 47; refine (infinity_c _ _).mono ?_; rintro e w' ⟨rfl, n, rfl⟩) | (go_at_call 41; refine (signed_c _ 0 (by unfold W64; omega) _).mono ?_; rintro e w' ⟨rfl, n, rfl⟩) | (go_at_call 40; refine (size_c _ (by with_reducible assumption) _).mono ?_; rintro e w' ⟨rfl, n, rfl⟩))
  refine (parts_c rx Hx.out.pos Hx.out.lt _).mono ?_
  rintro en' w' ⟨m, e, px, rfl, nx', rfl⟩
  obtain ⟨bx1, bx2⟩ := Fd.pq_bound Hx.out.pos Hx.out.lt px
  have hx := px.high
  have Px := Hd.mk px
  clear px
  go_wp2_with (first | (go_at_call 27; refine (isNothing_c _ _).mono ?_; rintro e w' ⟨rfl, n, rfl⟩) | (go_at_call 29; refine (isInfinity_c _ _).mono ?_; rintro e w' ⟨rfl, n, rfl⟩) | (go_at_call 42; refine (isNegative_c _ (by with_reducible assumption) _).mono ?_; rintro e w' ⟨rfl, n, rfl⟩) | (go_at_call 28; refine (nothing_c _).mono ?_; rintro e w' ⟨r, hr, hW, rfl, n, rfl⟩) | (go_at_call 47; refine (infinity_c _ _).mono ?_; rintro e w' ⟨rfl, n, rfl⟩) | (go_at_call 41; refine (signed_c _ 0 (by unfold W64; omega) _).mono ?_; rintro e w' ⟨rfl, n, rfl⟩) | (go_at_call 40; refine (size_c _ (by with_reducible assumption) _).mono ?_; rintro e w' ⟨rfl, n, rfl⟩))
  refine (parts_c ry Hy.out.pos Hy.out.lt _).mono ?_
  rintro en' w' ⟨l, f, py, rfl, ny', rfl⟩
  obtain ⟨by1, by2⟩ := Fd.pq_bound Hy.out.pos Hy.out.lt py
  have hy := py.high
  have Py := Hd.mk py
  clear py
  go_wp2_with fail
  refine (natural_x (m : Int) m rfl (by omega) _).mono ?_
  rintro en' w1 ⟨v1, N1, rfl, B1⟩
  have HN1 := Hd.mk N1
  have HB1 := Hd.mk (below_then (below_drewN (Below.refl w.heap.size w) _) B1)
  clear N1 B1
  go_wp2_with fail
  refine (natural_x (l : Int) l rfl (by omega) _).mono ?_
  rintro en' w2 ⟨v2, N2, rfl, B2⟩
  have HN2 := Hd.mk N2
  have HN12 := Hd.mk (HN1.out.below B2)
  have HB2 := Hd.mk (below_then HB1.out B2)
  clear N2 B2 HN1 HB1
  go_wp2_with fail
  refine (times_c _ HN12.out HN2.out (by omega) (by omega)).mono ?_
  rintro en' w3 ⟨v3, N3, rfl, B3⟩
  have HN3 := Hd.mk N3
  have HB3 := Hd.mk (below_then HB2.out B3)
  clear N3 B3 HN12 HN2 HB2
  go_wp2_with (first | (go_at_call 27; refine (isNothing_c _ _).mono ?_; rintro e w' ⟨rfl, n, rfl⟩) | (go_at_call 29; refine (isInfinity_c _ _).mono ?_; rintro e w' ⟨rfl, n, rfl⟩) | (go_at_call 42; refine (isNegative_c _ (by with_reducible assumption) _).mono ?_; rintro e w' ⟨rfl, n, rfl⟩) | (go_at_call 28; refine (nothing_c _).mono ?_; rintro e w' ⟨r, hr, hW, rfl, n, rfl⟩) | (go_at_call 47; refine (infinity_c _ _).mono ?_; rintro e w' ⟨rfl, n, rfl⟩) | (go_at_call 41; refine (signed_c _ 0 (by unfold W64; omega) _).mono ?_; rintro e w' ⟨rfl, n, rfl⟩) | (go_at_call 40; refine (size_c _ (by with_reducible assumption) _).mono ?_; rintro e w' ⟨rfl, n, rfl⟩))
  refine (parts_c rz Hz.out.pos Hz.out.lt _).mono ?_
  rintro en' w' ⟨k, g, pz, rfl, nz', rfl⟩
  obtain ⟨bz1, bz2⟩ := Fd.pq_bound Hz.out.pos Hz.out.lt pz
  have hz := pz.high
  have Pz := Hd.mk pz
  clear pz
  go_wp2_with (first | (go_at_call 27; refine (isNothing_c _ _).mono ?_; rintro e w' ⟨rfl, n, rfl⟩) | (go_at_call 29; refine (isInfinity_c _ _).mono ?_; rintro e w' ⟨rfl, n, rfl⟩) | (go_at_call 42; refine (isNegative_c _ (by with_reducible assumption) _).mono ?_; rintro e w' ⟨rfl, n, rfl⟩) | (go_at_call 28; refine (nothing_c _).mono ?_; rintro e w' ⟨r, hr, hW, rfl, n, rfl⟩) | (go_at_call 47; refine (infinity_c _ _).mono ?_; rintro e w' ⟨rfl, n, rfl⟩) | (go_at_call 41; refine (signed_c _ 0 (by unfold W64; omega) _).mono ?_; rintro e w' ⟨rfl, n, rfl⟩) | (go_at_call 40; refine (size_c _ (by with_reducible assumption) _).mono ?_; rintro e w' ⟨rfl, n, rfl⟩))
  refine (natural_x (k : Int) k rfl (by omega) _).mono ?_
  rintro en' w4 ⟨v4, N4, rfl, B4⟩
  have HN4 := Hd.mk N4
  have HN34 := Hd.mk (HN3.out.below (below_then (below_drewN (Below.refl w3.heap.size w3) _) B4))
  have HB4 := Hd.mk (below_then HB3.out (below_then (below_drewN (Below.refl w3.heap.size w3) _) B4))
  clear N4 B4 HN3 HB3
  rcases (by omega : g < e + f ∨ e + f ≤ g) with cg | cg
  · obtain ⟨d, hd⟩ : ∃ d : Nat, e + f = g + d := ⟨(e + f - g).toNat, by omega⟩
    have HD := Hd.mk hd
    have d1 : 1 ≤ d := by omega
    clear hd
    go_wp2_with fail
    refine (sum_gt_c true false (e + f) g d _ HN34.out HN4.out (by omega) (by omega) (by omega) (by omega) (by omega) (by omega) HD.out d1 _ _ rfl rfl).mono ?_
    rintro en' w5 ⟨v, q, hWv, rfl, B5⟩
    have HQ := Hd.mk (sum_fq (a := d) (b := 0) Hx.out Hy.out Hz.out Px.out Py.out Pz.out S.out SS.out rfl rfl (by have := HD.out; omega) (by omega) (by omega) q)
    have HB5 := Hd.mk (below_then HB4.out B5)
    clear q B5
    go_wp2
    go_ret
    exact ⟨_, HQ.out, hWv, rfl, HB5.out⟩
  · obtain ⟨d, hd⟩ : ∃ d : Nat, g = e + f + d := ⟨(g - (e + f)).toNat, by omega⟩
    have HD := Hd.mk hd
    clear hd
    go_wp2_with fail
    refine (sum_le_c true false (e + f) g d _ HN34.out HN4.out (by omega) (by omega) (by omega) (by omega) (by omega) (by omega) HD.out _ rfl).mono ?_
    rintro en' w5 ⟨v, q, hWv, rfl, B5⟩
    have HQ := Hd.mk (sum_fq (a := 0) (b := d) (MA := m * l) Hx.out Hy.out Hz.out Px.out Py.out Pz.out S.out SS.out (by rw [Nat.pow_zero, Nat.mul_one]) rfl (by omega) (by have := HD.out; omega) (by omega) q)
    have HB5 := Hd.mk (below_then HB4.out B5)
    clear q B5
    go_wp2
    go_ret
    exact ⟨_, HQ.out, hWv, rfl, HB5.out⟩
end Go.Proofs.Ytjfoiicooleeiaa
