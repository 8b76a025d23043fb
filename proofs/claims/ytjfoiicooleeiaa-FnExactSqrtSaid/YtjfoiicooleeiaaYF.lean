/- Contract of the reference's Sqrt; no condition but that the argument is a word. -/
import Derived.Test.YtjfoiicooleeiaaYE
import Derived.Test.YtjfoiicooleeiaaDN
import Derived.Test.YtjfoiicooleeiaaCM
import Derived.Test.YtjfoiicooleeiaaCS
namespace Go.Proofs.Ytjfoiicooleeiaa
open Go.RowKit
/-- a call gives a number; what was there before is as it was -/
def RFB (Q : Nat → Prop) (w : World) (e : Ending) (w' : World) : Prop := ∃ r, Q r ∧ W64 r ∧ e = .returned (.float .f64 r) ∧ Below w.heap.size w w'
/-- the even exponent and the fraction that belongs to it -/
theorem even_parts {m : Nat} {k : Int} (hm : 4503599627370496 ≤ m ∧ m < 9007199254740992) (hk : -1126 ≤ k ∧ k ≤ 971) : ∃ (m' : Nat) (h : Int), m' < 18014398509481984 ∧ -600 ≤ h ∧ h ≤ 600 ∧
    ((m' = m ∧ k = 2 * h ∧ k.tmod 2 = 0 ∧ k.tdiv 2 = h) ∨ (m' = 2 * m ∧ k = 2 * h + 1 ∧ (k.tmod 2 == 0) = false ∧ (k.tmod 2 != 0) = true ∧ (k - 1).tdiv 2 = h)) := by
  have hp : (∃ h : Int, k = 2 * h) ∨ (∃ h : Int, k = 2 * h + 1) := by
    rcases (by omega : k % 2 = 0 ∨ k % 2 = 1) with c | c
    · exact Or.inl ⟨k / 2, by omega⟩
    · exact Or.inr ⟨k / 2, by omega⟩
  rcases hp with ⟨h, rfl⟩ | ⟨h, rfl⟩
  · refine ⟨m, h, by omega, by omega, by omega, Or.inl ⟨rfl, rfl, ?_, ?_⟩⟩
    · rw [Int.mul_comm]; exact Int.mul_tmod_left h 2
    · rw [Int.mul_comm]; exact Int.mul_tdiv_cancel h (by decide)
  · have t : ¬ (2 * h + 1).tmod 2 = 0 := by
      intro e
      have := Int.tmod_add_mul_tdiv (2 * h + 1) 2
      omega
    refine ⟨2 * m, h, by omega, by omega, by omega, Or.inr ⟨rfl, rfl, by simpa using t, by simpa using t, ?_⟩⟩
    rw [show 2 * h + 1 - 1 = h * 2 by omega]; exact Int.mul_tdiv_cancel h (by decide)
def SqE (x m' : Nat) (h : Int) : Prop := 0 < Fd.rg x ∧ Fd.rg x < 9218868437227405312 ∧ Fd.sg x = false ∧ ∃ m k, Fd.PQ (Fd.rg x) m k ∧ ((m' = m ∧ k = 2 * h) ∨ (m' = 2 * m ∧ k = 2 * h + 1))
theorem sqe_end {x m' w st R : Nat} {h : Int} (H : SqE x m' h) (s1 : w * w ≤ m' * 2 ^ 60) (s2 : m' * 2 ^ 60 < (w + 1) * (w + 1))
    (hst : (st = 0 ∧ w * w = m' * 2 ^ 60) ∨ (st = 1 ∧ w * w ≠ m' * 2 ^ 60)) (nr : Fd.NearAt (2 * w + st) (h - 31) R) : Fd.SQ x (min R 9218868437227405312) := by
  obtain ⟨h0, h1, hs, m, k, pq, he⟩ := H
  exact Fd.sq_of_near hs h0 h1 (Fd.ref_root pq h0 he s1 s2 hst nr)
theorem cmp_eq {M N : Nat} (h : M = N) : cmpN M N = 0 := by unfold cmpN; rw [if_neg (by omega), if_neg (by omega)]
theorem cmp_ne {M N : Nat} (h : M ≠ N) : (cmpN M N == 0) = false := by
  unfold cmpN
  rcases Nat.lt_trichotomy M N with c | c | c
  · rw [if_pos c]; rfl
  · exact absurd c h
  · rw [if_neg (by omega), if_pos c]; rfl
theorem lt_shift {m : Nat} (h : m < 18014398509481984) : m * 2 ^ 60 < 2 ^ 120 := by
  have : m * 2 ^ 60 < 18014398509481984 * 2 ^ 60 := Nat.mul_lt_mul_of_pos_right h (by decide)
  have e : (18014398509481984 : Nat) * 2 ^ 60 ≤ 2 ^ 120 := by decide
  omega
set_option maxHeartbeats 4000000 in
theorem sSqrt_c (x : Nat) (hx : W64 x) (w : World) : Calls Try.prog 12 #[.float .f64 x] w (RFB (Fd.SQ x) w) := by
  rcases kind4 x with ⟨h0, h1, q1, q2, q3, q4, q5⟩ | ⟨a, q1, q2, q3, q4, q5⟩ | ⟨a, q1, q2, q3, q4, q5⟩ | ⟨a, q1, q2, q3, q4, q5⟩
  · cases s : Fd.sg x
    · have f1 : ltF .f64 x 0 = false := by rw [lt_not]; rw [key0]; unfold Fd.key; rw [s]; simp
      have rx : Fd.rg x = x := Fd.rg_of_pos hx s
      have x0 : 0 < x := by omega
      have x1 : x < 9218868437227405312 := by omega
      have S := Hd.mk s
      have RX := Hd.mk rx
      clear s rx q2 q4 h0 h1
      go_enter Try.func12, Try.ntmps12
      go_wp2_with (first | (go_at_call 27; refine (isNothing_c _ _).mono ?_; rintro e w' ⟨rfl, n, rfl⟩) | (go_at_call 29; refine (isInfinity_c _ _).mono ?_; rintro e w' ⟨rfl, n, rfl⟩) | (go_at_call 28; refine (nothing_c _).mono ?_; rintro e w' ⟨r, hr, hW, rfl, n, rfl⟩))
      refine (parts_c x x0 x1 _).mono ?_
      rintro e w' ⟨m, k, pq, rfl, n, rfl⟩
      have kb := Fd.pq_bound x0 x1 pq
      have ml := pq.low
      have mh := pq.high
      obtain ⟨m', h, hm', hl, hh, alt⟩ := even_parts ⟨ml, mh⟩ kb
      have E : Hd (SqE x m' h) := ⟨by rw [RX.out]; exact x0, by rw [RX.out]; exact x1, S.out, m, k, by rw [RX.out]; exact pq, by
        rcases alt with ⟨a1, a2, _⟩ | ⟨a1, a2, _⟩
        · exact Or.inl ⟨a1, a2⟩
        · exact Or.inr ⟨a1, a2⟩⟩
      obtain ⟨kb1, kb2⟩ := kb
      clear pq
      rcases alt with ⟨a1, a2, a3, a4⟩ | ⟨a1, a2, a3, a3', a4⟩
      · subst a1
        clear a2
        go_wp2_with fail
        refine (natural_x (m' : Int) m' rfl (by omega) _).mono ?_
        rintro en' w1 ⟨v1, N1, rfl, B1⟩
        have HN1 := Hd.mk N1
        have HB1 := Hd.mk (below_then (below_drewN (Below.refl w.heap.size w) _) B1)
        clear N1 B1
        go_wp2_with fail
        refine (twice_x 60 60 rfl _ HN1.out (by omega) (by omega)).mono ?_
        rintro en' w2 ⟨v2, N2, rfl, B2⟩
        obtain ⟨T, hT⟩ : ∃ T, T = m' * 2 ^ 60 := ⟨_, rfl⟩
        rw [← hT] at N2
        have HT := Hd.mk hT
        have TL : T < 2 ^ 120 := by rw [hT]; exact lt_shift hm'
        have HTL := Hd.mk TL
        have HN2 := Hd.mk N2
        have HB2 := Hd.mk (below_then HB1.out B2)
        clear hT TL
        clear N2 B2 HN1 HB1
        go_wp2_with fail
        refine (root_c _ HN2.out (by omega) HTL.out).mono ?_
        rintro en' w3 ⟨r, s1, s2, s3, rfl, B3⟩
        have S1 := Hd.mk s1
        have S2 := Hd.mk s2
        have HN23 := Hd.mk (HN2.out.below B3)
        have HB3 := Hd.mk (below_then HB2.out B3)
        clear s1 s2 B3 HN2 HB2
        go_wp2_with fail
        refine (natural_x (r : Int) r rfl (by omega) _).mono ?_
        rintro en' w4 ⟨v4, N4, rfl, B4⟩
        have HN4 := Hd.mk N4
        have HN24 := Hd.mk (HN23.out.below B4)
        have HB4 := Hd.mk (below_then HB3.out B4)
        clear N4 B4 HN23 HB3
        go_wp2_with fail
        refine (natural_x (r : Int) r rfl (by omega) _).mono ?_
        rintro en' w5 ⟨v5, N5, rfl, B5⟩
        have HN5 := Hd.mk N5
        have HN45 := Hd.mk (HN4.out.below B5)
        have HN25 := Hd.mk (HN24.out.below B5)
        have HB5 := Hd.mk (below_then HB4.out B5)
        clear N5 B5 HN4 HN24 HB4
        go_wp2_with fail
        refine (times_c _ HN45.out HN5.out (by omega) (by omega)).mono ?_
        rintro en' w6 ⟨v6, N6, rfl, B6⟩
        obtain ⟨P, hP⟩ : ∃ P, P = r * r := ⟨_, rfl⟩
        rw [← hP] at N6
        have HP := Hd.mk hP
        clear hP
        have HN6 := Hd.mk N6
        have HN26 := Hd.mk (HN25.out.below B6)
        have HB6 := Hd.mk (below_then HB5.out B6)
        clear N6 B6 HN45 HN5 HN25 HB5
        go_wp2_with fail
        refine (compare_c _ HN6.out HN26.out (by omega) (by omega)).mono ?_
        rintro en' w' ⟨rfl, rfl⟩
        clear HN6 HN26
        by_cases cx : P = T
        · have c1 : (cmpN P T == 0) = true := by rw [cmp_eq cx]; rfl
          have CX := Hd.mk cx
          clear cx
          go_wp2_with fail
          refine (natural_x (r : Int) r rfl (by omega) _).mono ?_
          rintro en' w7 ⟨v7, N7, rfl, B7⟩
          have HN7 := Hd.mk N7
          have HB7 := Hd.mk (below_then HB6.out B7)
          clear N7 B7 HB6
          go_wp2_with fail
          refine (twice_x 1 1 rfl _ HN7.out (by omega) (by omega)).mono ?_
          rintro en' w8 ⟨v8, N8, rfl, B8⟩
          have HN8 := Hd.mk N8
          have HB8 := Hd.mk (below_then HB7.out B8)
          clear N8 B8 HB7 HN7
          go_wp2_with fail
          refine (nearest_c (h - 31) _ HN8.out (by omega) (by omega) (by omega)).mono ?_
          rintro en' w9 ⟨R, nr, rfl, B9⟩
          have HR : Hd (Fd.SQ x (min R 9218868437227405312)) := ⟨sqe_end (st := 0) E.out (by rw [← HT.out]; exact S1.out) (by rw [← HT.out]; exact S2.out) (Or.inl ⟨rfl, by rw [← HP.out, ← HT.out]; exact CX.out⟩) (by rw [Nat.pow_one, Nat.mul_comm r] at nr; exact nr)⟩
          have HB := Hd.mk (below_then HB8.out B9)
          clear nr B9
          go_wp2
          go_ret
          exact ⟨_, HR.out, by unfold W64; omega, rfl, HB.out⟩
        · have c1 : (cmpN P T == 0) = false := cmp_ne cx
          have CX := Hd.mk cx
          clear cx
          go_wp2_with fail
          refine (natural_x (r : Int) r rfl (by omega) _).mono ?_
          rintro en' w7 ⟨v7, N7, rfl, B7⟩
          have HN7 := Hd.mk N7
          have HB7 := Hd.mk (below_then HB6.out B7)
          clear N7 B7 HB6
          go_wp2_with fail
          refine (twice_x 1 1 rfl _ HN7.out (by omega) (by omega)).mono ?_
          rintro en' w8 ⟨v8, N8, rfl, B8⟩
          have HN8 := Hd.mk N8
          have HB8 := Hd.mk (below_then HB7.out B8)
          clear N8 B8 HB7 HN7
          go_wp2_with fail
          refine (natural_x 1 1 rfl (by omega) _).mono ?_
          rintro en' wa ⟨va, Na, rfl, Ba⟩
          have HNa := Hd.mk Na
          have HN8a := Hd.mk (HN8.out.below Ba)
          have HBa := Hd.mk (below_then HB8.out Ba)
          clear Na Ba HN8 HB8
          go_wp2_with fail
          refine (plus_c _ HN8a.out HNa.out (by omega) (by omega)).mono ?_
          rintro en' wb ⟨vb, Nb, rfl, Bb⟩
          have HNb := Hd.mk Nb
          have HBb := Hd.mk (below_then HBa.out Bb)
          clear Nb Bb HN8a HNa HBa
          go_wp2_with fail
          refine (nearest_c (h - 31) _ HNb.out (by omega) (by omega) (by omega)).mono ?_
          rintro en' w9 ⟨R, nr, rfl, B9⟩
          have HR : Hd (Fd.SQ x (min R 9218868437227405312)) := ⟨sqe_end (st := 1) E.out (by rw [← HT.out]; exact S1.out) (by rw [← HT.out]; exact S2.out) (Or.inr ⟨rfl, by rw [← HP.out, ← HT.out]; exact CX.out⟩) (by rw [Nat.pow_one, Nat.mul_comm r] at nr; exact nr)⟩
          have HB := Hd.mk (below_then HBb.out B9)
          clear nr B9
          go_wp2
          go_ret
          exact ⟨_, HR.out, by unfold W64; omega, rfl, HB.out⟩
      · have A1 := Hd.mk a1
        have a5 : 2 * (m : Int) = (m' : Int) := by omega
        clear a1 a2
        go_wp2_with fail
        refine (natural_x (m' : Int) m' rfl (by omega) _).mono ?_
        rintro en' w1 ⟨v1, N1, rfl, B1⟩
        have HN1 := Hd.mk N1
        have HB1 := Hd.mk (below_then (below_drewN (Below.refl w.heap.size w) _) B1)
        clear N1 B1
        go_wp2_with fail
        refine (twice_x 60 60 rfl _ HN1.out (by omega) (by omega)).mono ?_
        rintro en' w2 ⟨v2, N2, rfl, B2⟩
        obtain ⟨T, hT⟩ : ∃ T, T = m' * 2 ^ 60 := ⟨_, rfl⟩
        rw [← hT] at N2
        have HT := Hd.mk hT
        have TL : T < 2 ^ 120 := by rw [hT]; exact lt_shift hm'
        have HTL := Hd.mk TL
        have HN2 := Hd.mk N2
        have HB2 := Hd.mk (below_then HB1.out B2)
        clear hT TL
        clear N2 B2 HN1 HB1
        go_wp2_with fail
        refine (root_c _ HN2.out (by omega) HTL.out).mono ?_
        rintro en' w3 ⟨r, s1, s2, s3, rfl, B3⟩
        have S1 := Hd.mk s1
        have S2 := Hd.mk s2
        have HN23 := Hd.mk (HN2.out.below B3)
        have HB3 := Hd.mk (below_then HB2.out B3)
        clear s1 s2 B3 HN2 HB2
        go_wp2_with fail
        refine (natural_x (r : Int) r rfl (by omega) _).mono ?_
        rintro en' w4 ⟨v4, N4, rfl, B4⟩
        have HN4 := Hd.mk N4
        have HN24 := Hd.mk (HN23.out.below B4)
        have HB4 := Hd.mk (below_then HB3.out B4)
        clear N4 B4 HN23 HB3
        go_wp2_with fail
        refine (natural_x (r : Int) r rfl (by omega) _).mono ?_
        rintro en' w5 ⟨v5, N5, rfl, B5⟩
        have HN5 := Hd.mk N5
        have HN45 := Hd.mk (HN4.out.below B5)
        have HN25 := Hd.mk (HN24.out.below B5)
        have HB5 := Hd.mk (below_then HB4.out B5)
        clear N5 B5 HN4 HN24 HB4
        go_wp2_with fail
        refine (times_c _ HN45.out HN5.out (by omega) (by omega)).mono ?_
        rintro en' w6 ⟨v6, N6, rfl, B6⟩
        obtain ⟨P, hP⟩ : ∃ P, P = r * r := ⟨_, rfl⟩
        rw [← hP] at N6
        have HP := Hd.mk hP
        clear hP
        have HN6 := Hd.mk N6
        have HN26 := Hd.mk (HN25.out.below B6)
        have HB6 := Hd.mk (below_then HB5.out B6)
        clear N6 B6 HN45 HN5 HN25 HB5
        go_wp2_with fail
        refine (compare_c _ HN6.out HN26.out (by omega) (by omega)).mono ?_
        rintro en' w' ⟨rfl, rfl⟩
        clear HN6 HN26
        by_cases cx : P = T
        · have c1 : (cmpN P T == 0) = true := by rw [cmp_eq cx]; rfl
          have CX := Hd.mk cx
          clear cx
          go_wp2_with fail
          refine (natural_x (r : Int) r rfl (by omega) _).mono ?_
          rintro en' w7 ⟨v7, N7, rfl, B7⟩
          have HN7 := Hd.mk N7
          have HB7 := Hd.mk (below_then HB6.out B7)
          clear N7 B7 HB6
          go_wp2_with fail
          refine (twice_x 1 1 rfl _ HN7.out (by omega) (by omega)).mono ?_
          rintro en' w8 ⟨v8, N8, rfl, B8⟩
          have HN8 := Hd.mk N8
          have HB8 := Hd.mk (below_then HB7.out B8)
          clear N8 B8 HB7 HN7
          go_wp2_with fail
          refine (nearest_c (h - 31) _ HN8.out (by omega) (by omega) (by omega)).mono ?_
          rintro en' w9 ⟨R, nr, rfl, B9⟩
          have HR : Hd (Fd.SQ x (min R 9218868437227405312)) := ⟨sqe_end (st := 0) E.out (by rw [← HT.out]; exact S1.out) (by rw [← HT.out]; exact S2.out) (Or.inl ⟨rfl, by rw [← HP.out, ← HT.out]; exact CX.out⟩) (by rw [Nat.pow_one, Nat.mul_comm r] at nr; exact nr)⟩
          have HB := Hd.mk (below_then HB8.out B9)
          clear nr B9
          go_wp2
          go_ret
          exact ⟨_, HR.out, by unfold W64; omega, rfl, HB.out⟩
        · have c1 : (cmpN P T == 0) = false := cmp_ne cx
          have CX := Hd.mk cx
          clear cx
          go_wp2_with fail
          refine (natural_x (r : Int) r rfl (by omega) _).mono ?_
          rintro en' w7 ⟨v7, N7, rfl, B7⟩
          have HN7 := Hd.mk N7
          have HB7 := Hd.mk (below_then HB6.out B7)
          clear N7 B7 HB6
          go_wp2_with fail
          refine (twice_x 1 1 rfl _ HN7.out (by omega) (by omega)).mono ?_
          rintro en' w8 ⟨v8, N8, rfl, B8⟩
          have HN8 := Hd.mk N8
          have HB8 := Hd.mk (below_then HB7.out B8)
          clear N8 B8 HB7 HN7
          go_wp2_with fail
          refine (natural_x 1 1 rfl (by omega) _).mono ?_
          rintro en' wa ⟨va, Na, rfl, Ba⟩
          have HNa := Hd.mk Na
          have HN8a := Hd.mk (HN8.out.below Ba)
          have HBa := Hd.mk (below_then HB8.out Ba)
          clear Na Ba HN8 HB8
          go_wp2_with fail
          refine (plus_c _ HN8a.out HNa.out (by omega) (by omega)).mono ?_
          rintro en' wb ⟨vb, Nb, rfl, Bb⟩
          have HNb := Hd.mk Nb
          have HBb := Hd.mk (below_then HBa.out Bb)
          clear Nb Bb HN8a HNa HBa
          go_wp2_with fail
          refine (nearest_c (h - 31) _ HNb.out (by omega) (by omega) (by omega)).mono ?_
          rintro en' w9 ⟨R, nr, rfl, B9⟩
          have HR : Hd (Fd.SQ x (min R 9218868437227405312)) := ⟨sqe_end (st := 1) E.out (by rw [← HT.out]; exact S1.out) (by rw [← HT.out]; exact S2.out) (Or.inr ⟨rfl, by rw [← HP.out, ← HT.out]; exact CX.out⟩) (by rw [Nat.pow_one, Nat.mul_comm r] at nr; exact nr)⟩
          have HB := Hd.mk (below_then HBb.out B9)
          clear nr B9
          go_wp2
          go_ret
          exact ⟨_, HR.out, by unfold W64; omega, rfl, HB.out⟩
    · have f1 : ltF .f64 x 0 = true := by
        refine lt_in q3 nan0 ?_
        rw [key0]; unfold Fd.key; rw [s]; simp; omega
      have H : Hd (0 < Fd.rg x ∧ Fd.sg x = true) := ⟨h0, s⟩
      clear s h0 h1 q1 q2 q4 q5
      go_enter Try.func12, Try.ntmps12
      go_wp2_with (first | (go_at_call 27; refine (isNothing_c _ _).mono ?_; rintro e w' ⟨rfl, n, rfl⟩) | (go_at_call 29; refine (isInfinity_c _ _).mono ?_; rintro e w' ⟨rfl, n, rfl⟩) | (go_at_call 28; refine (nothing_c _).mono ?_; rintro e w' ⟨r, hr, hW, rfl, n, rfl⟩))
      go_ret
      exact ⟨_, Or.inr (Or.inl ⟨hr, Or.inr H.out⟩), hW, rfl, below_drewN (Below.refl _ _) _⟩
  · have f1 : ltF .f64 x 0 = false := by rw [lt_not]; rw [key0]; unfold Fd.key; rw [a]; simp
    have A := Hd.mk a
    clear a q2 q4
    go_enter Try.func12, Try.ntmps12
    go_wp2_with (first | (go_at_call 27; refine (isNothing_c _ _).mono ?_; rintro e w' ⟨rfl, n, rfl⟩) | (go_at_call 29; refine (isInfinity_c _ _).mono ?_; rintro e w' ⟨rfl, n, rfl⟩) | (go_at_call 28; refine (nothing_c _).mono ?_; rintro e w' ⟨r, hr, hW, rfl, n, rfl⟩))
    go_ret
    exact ⟨_, Or.inl ⟨rfl, Or.inl A.out⟩, hx, rfl, below_drewN (Below.refl _ _) _⟩
  · cases s : Fd.sg x
    · have f1 : ltF .f64 x 0 = false := by rw [lt_not]; rw [key0]; unfold Fd.key; rw [s]; simp
      have A : Hd (Fd.rg x = 9218868437227405312 ∧ Fd.sg x = false) := ⟨a, s⟩
      clear a s q1 q2 q4
      go_enter Try.func12, Try.ntmps12
      go_wp2_with (first | (go_at_call 27; refine (isNothing_c _ _).mono ?_; rintro e w' ⟨rfl, n, rfl⟩) | (go_at_call 29; refine (isInfinity_c _ _).mono ?_; rintro e w' ⟨rfl, n, rfl⟩) | (go_at_call 28; refine (nothing_c _).mono ?_; rintro e w' ⟨r, hr, hW, rfl, n, rfl⟩))
      go_ret
      exact ⟨_, Or.inl ⟨rfl, Or.inr A.out⟩, hx, rfl, below_drewN (Below.refl _ _) _⟩
    · have f1 : ltF .f64 x 0 = true := by
        refine lt_in q3 nan0 ?_
        rw [key0]; unfold Fd.key; rw [s]; simp; omega
      have H : Hd (0 < Fd.rg x ∧ Fd.sg x = true) := ⟨by omega, s⟩
      clear s a q1 q2 q4 q5
      go_enter Try.func12, Try.ntmps12
      go_wp2_with (first | (go_at_call 27; refine (isNothing_c _ _).mono ?_; rintro e w' ⟨rfl, n, rfl⟩) | (go_at_call 29; refine (isInfinity_c _ _).mono ?_; rintro e w' ⟨rfl, n, rfl⟩) | (go_at_call 28; refine (nothing_c _).mono ?_; rintro e w' ⟨r, hr, hW, rfl, n, rfl⟩))
      go_ret
      exact ⟨_, Or.inr (Or.inl ⟨hr, Or.inr H.out⟩), hW, rfl, below_drewN (Below.refl _ _) _⟩
  · have A := Hd.mk q3
    clear a q1 q2 q4 q5
    go_enter Try.func12, Try.ntmps12
    go_wp2_with (first | (go_at_call 27; refine (isNothing_c _ _).mono ?_; rintro e w' ⟨rfl, n, rfl⟩) | (go_at_call 29; refine (isInfinity_c _ _).mono ?_; rintro e w' ⟨rfl, n, rfl⟩) | (go_at_call 28; refine (nothing_c _).mono ?_; rintro e w' ⟨r, hr, hW, rfl, n, rfl⟩))
    go_ret
    exact ⟨_, Or.inr (Or.inl ⟨hr, Or.inl A.out⟩), hW, rfl, below_drewN (Below.refl _ _) _⟩
end Go.Proofs.Ytjfoiicooleeiaa
