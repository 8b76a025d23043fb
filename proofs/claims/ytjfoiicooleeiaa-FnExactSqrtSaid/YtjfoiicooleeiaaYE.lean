/- Contract of the reference's root; conditions: as told in each line. -/
import Derived.Test.YtjfoiicooleeiaaYD
import Derived.Test.YtjfoiicooleeiaaYC
import Derived.Test.YtjfoiicooleeiaaDS
namespace Go.Proofs.Ytjfoiicooleeiaa
open Go.RowKit
def RootRel (N r s : Nat) : Prop := r * r ≤ N ∧ N < (r + 2 ^ s) * (r + 2 ^ s) ∧ r + 2 ^ s ≤ 1152921504606846976
theorem root_start {N : Nat} (h : N < 2 ^ 120) : RootRel N 0 60 := by
  refine ⟨by omega, ?_, by decide⟩
  have : (0 + 2 ^ 60) * (0 + 2 ^ 60) = 2 ^ 120 := by decide
  omega
theorem root_yes {N r p : Nat} (h : RootRel N r (p + 1)) (c : (r + 2 ^ p) * (r + 2 ^ p) ≤ N) : RootRel N (r + 2 ^ p) p := by
  obtain ⟨h1, h2, h3⟩ := h
  rw [Nat.pow_succ] at h2 h3
  have e : r + 2 ^ p + 2 ^ p = r + 2 ^ p * 2 := by omega
  exact ⟨c, by rw [e]; exact h2, by omega⟩
theorem root_no {N r p : Nat} (h : RootRel N r (p + 1)) (c : N < (r + 2 ^ p) * (r + 2 ^ p)) : RootRel N r p := by
  obtain ⟨h1, h2, h3⟩ := h
  rw [Nat.pow_succ] at h3
  exact ⟨h1, c, by omega⟩
def RRoot (N : Nat) (w : World) (e : Ending) (w' : World) : Prop := ∃ r : Nat, r * r ≤ N ∧ N < (r + 1) * (r + 1) ∧ r < 1152921504606846976 ∧ e = .returned (.int .u64 (r : Int)) ∧ Below w.heap.size w w'
set_option maxHeartbeats 2000000 in
theorem root_c {a : Value} {N ka : Nat} (w : World) (ha : NS w a N ka) (h1 : ka ≤ 250) (hN : N < 2 ^ 120) :
    Calls Try.prog 33 #[a] w (RRoot N w) := by
  have HA := Hd.mk ha
  have HN := Hd.mk (root_start hN)
  clear ha hN
  go_enter Try.func33, Try.ntmps33
  go_wp2
  go_loopw [3, 4] (fun rr kk wr => ∃ (t : Int) (r s : Nat), -1 ≤ t ∧ t ≤ 59 ∧ r ≤ 1152921504606846976 ∧ Hd ((s : Int) = t + 1 ∧ RootRel N r s) ∧ rr = .int .u64 (r : Int) ∧ kk = .int .i64 t ∧ Below w.heap.size w wr) (fun _ kk _ => (intOf kk + 1).toNat)
  case atStart => exact ⟨59, 0, 60, by omega, by omega, by omega, ⟨by omega, HN.out⟩, rfl, rfl, Below.refl _ _⟩
  case round =>
    obtain ⟨t, r, s, t1, t2, rb, HT, rfl, rfl, hbel⟩ := hrel
    rcases (by omega : t = -1 ∨ 0 ≤ t) with ct | ct
    · subst ct
      have es : s = 0 := by have := HT.out.1; omega
      have R : Hd (RootRel N r 0) := ⟨by rw [← es]; exact HT.out.2⟩
      clear HT es HN
      go_wp2
      go_ret
      exact ⟨r, R.out.1, R.out.2.1, by have := R.out.2.2; omega, rfl, hbel⟩
    · obtain ⟨p, rfl⟩ := Int.eq_ofNat_of_zero_le ct
      have es : s = p + 1 := by have := HT.out.1; omega
      have R : Hd (RootRel N r (p + 1)) := ⟨by rw [← es]; exact HT.out.2⟩
      clear HT es HN t1 ct
      have nb : r + 2 ^ p ≤ 1152921504606846976 := by have := R.out.2.2; rw [Nat.pow_succ] at this; omega
      obtain ⟨nx, hnx⟩ : ∃ nx, nx = r + 2 ^ p := ⟨_, rfl⟩
      rw [← hnx] at nb
      have en : IntKind.u64.wrap ((r : Int) + IntKind.u64.wrap (2 ^ p)) = (nx : Int) := by
        have c : ((2 : Int) ^ p) = ((2 ^ p : Nat) : Int) := by rw [Int.natCast_pow]; rfl
        rw [c, IntKind.wrap_u64, IntKind.wrap_u64]
        generalize 2 ^ p = z at *
        omega
      have Y : Hd (nx * nx ≤ N → RootRel N nx p) := ⟨fun c => by rw [hnx] at c ⊢; exact root_yes R.out c⟩
      have Z : Hd (N < nx * nx → RootRel N r p) := ⟨fun c => by rw [hnx] at c; exact root_no R.out c⟩
      clear hnx R
      go_wp2_with fail
      refine (natural_x (nx : Int) nx rfl (by omega) _).mono ?_
      rintro en' w1 ⟨v1, N1, rfl, B1⟩
      have HN1 := Hd.mk N1
      have HB1 := Hd.mk (hbel.trans (B1.mono hbel.size))
      clear N1 B1 hbel
      go_wp2_with fail
      refine (natural_x (nx : Int) nx rfl (by omega) _).mono ?_
      rintro en' w2 ⟨v2, N2, rfl, B2⟩
      have HN2 := Hd.mk N2
      have HN12 := Hd.mk (HN1.out.below B2)
      have HB2 := Hd.mk (HB1.out.trans (B2.mono HB1.out.size))
      clear N2 B2 HN1 HB1
      go_wp2_with fail
      refine (times_c _ HN12.out HN2.out (by omega) (by omega)).mono ?_
      rintro en' w3 ⟨v3, N3, rfl, B3⟩
      have HN3 := Hd.mk N3
      have HB3 := Hd.mk (HB2.out.trans (B3.mono HB2.out.size))
      clear N3 B3 HN2 HB2 HN12
      go_wp2_with fail
      refine (compare_c _ HN3.out (HA.out.below HB3.out) (by omega) (by omega)).mono ?_
      rintro en' w' ⟨rfl, rfl⟩
      rcases Nat.lt_trichotomy (nx * nx) N with c | c | c
      · have c1 : cmpN (nx * nx) N = -1 := by unfold cmpN; rw [if_pos c]
        have F := Hd.mk (Y.out (by omega))
        clear c Y Z en
        go_wp2
        go_roundw
        case rel => exact ⟨(p : Int) - 1, nx, p, by omega, by omega, by omega, ⟨by omega, F.out⟩, rfl, rfl, HB3.out⟩
        case measure => simp [intOf]
      · have c1 : cmpN (nx * nx) N = 0 := by unfold cmpN; rw [if_neg (by omega), if_neg (by omega)]
        have F := Hd.mk (Y.out (by omega))
        clear c Y Z en
        go_wp2
        go_roundw
        case rel => exact ⟨(p : Int) - 1, nx, p, by omega, by omega, by omega, ⟨by omega, F.out⟩, rfl, rfl, HB3.out⟩
        case measure => simp [intOf]
      · have c1 : cmpN (nx * nx) N = 1 := by unfold cmpN; rw [if_neg (by omega), if_pos c]
        have F := Hd.mk (Z.out c)
        clear c Y Z en
        go_wp2
        go_roundw
        case rel => exact ⟨(p : Int) - 1, r, p, by omega, by omega, by omega, ⟨by omega, F.out⟩, rfl, rfl, HB3.out⟩
        case measure => simp [intOf]
end Go.Proofs.Ytjfoiicooleeiaa
