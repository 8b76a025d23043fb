/- Contracts of the reference's parts and power, the loops that halve and double; conditions: as told in each line. -/
import Derived.Test.YtjfoiicooleeiaaC3
import Derived.Test.YtjfoiicooleeiaaDP
namespace Go.Proofs.Ytjfoiicooleeiaa
open Go.RowKit

@[go_sem] theorem drewN_0 (w : World) : w.drewN 0 = w := rfl
theorem cnt_some {op : BinOp} {k : FloatKind} {x y r : Nat} (h : arith op k x y = some r) : cnt op k x y = 0 := by unfold cnt; rw [h]; rfl
def floatOf : Value → Nat
  | .float _ n => n
  | _ => 0

theorem pos_word {x : Nat} (h : x < 9223372036854775808) : Fd.sg x = false ∧ Fd.rg x = x := by
  have s : Fd.sg x = false := (Fd.sg_false (by omega)).2 h
  exact ⟨s, Fd.rg_of_pos (by omega) s⟩
theorem le_words {a b : Nat} (ha : a ≤ 9218868437227405312) (hb : b ≤ 9218868437227405312) : leF .f64 a b = decide (a ≤ b) := by
  rw [le64, Fd.key_of_lt' (by omega), Fd.key_of_lt' (by omega), Fd.nan_small ha, Fd.nan_small hb, Bool.eq_iff_iff]; simp
theorem lt_words {a b : Nat} (ha : a ≤ 9218868437227405312) (hb : b ≤ 9218868437227405312) : ltF .f64 a b = decide (a < b) := by
  rw [lt64, Fd.key_of_lt' (by omega), Fd.key_of_lt' (by omega), Fd.nan_small ha, Fd.nan_small hb, Bool.eq_iff_iff]; simp
theorem eq_words {a b : Nat} (ha : a ≤ 9218868437227405312) (hb : b ≤ 9218868437227405312) : eqF .f64 a b = decide (a = b) := by
  rw [eq64, Fd.key_of_lt' (by omega), Fd.key_of_lt' (by omega), Fd.nan_small ha, Fd.nan_small hb, Bool.eq_iff_iff]; simp; omega

theorem half_word {y r : Nat} (hy : y < 9218868437227405312) (h : Fd.dbl r = y) : arith .quo .f64 y 4611686018427387904 = some r := by
  obtain ⟨s, g⟩ := pos_word (x := y) (by omega)
  have := Fd.half_exact (x := y) (r := r) (by rw [g]; exact hy) (by rw [g]; exact h)
  rw [s] at this
  exact this
theorem dbl_word {y : Nat} (hy : y < 9218868437227405312) : arith .mul .f64 y 4611686018427387904 = some (min (Fd.dbl y) 9218868437227405312) := by
  obtain ⟨s, g⟩ := pos_word (x := y) (by omega)
  have := Fd.dbl_exact (x := y) (by rw [g]; exact hy)
  rw [s, g] at this
  exact this

/-- 'uint64(x)' of a fraction -/
theorem run_to_u64 {P : Program} (src dst : TypeId) (b m : Nat) (h : (Ieee.double.read b).toInt .zero = some (m : Int)) (hm : m < 18446744073709551616) (w : World) (hs : (P.underlying src).isSome = true) (hd : P.underlying dst = some (.int .u64)) :
    (convert src dst (.float .f64 b)).run P w = .ok (.int .u64 (m : Int)) w := by
  obtain ⟨u, hs'⟩ := Option.isSome_iff_exists.1 hs
  have e : (Conv.floatToInt .f64 b .u64).run P w = .ok (.int .u64 (m : Int)) w := by
    unfold Conv.floatToInt
    have d : FloatKind.f64.decode b = Ieee.double.read b := rfl
    rw [d, h]
    simp only
    rw [if_pos (by simp [IntKind.min, IntKind.max, IntKind.signed, IntKind.bits]; omega)]
    rfl
  cases u <;> simp [convert, run_underlying hs', run_underlying hd, e]

def RP (x : Nat) (w : World) (e : Ending) (w' : World) : Prop := ∃ (m : Nat) (k : Int), Fd.PQ x m k ∧ e = .returned (.tuple #[.int .u64 (m : Int), .int .i64 k]) ∧ ∃ n, w' = w.drewN n
set_option maxHeartbeats 1000000 in
theorem parts_c (x : Nat) (h0 : 0 < x) (h1 : x < 9218868437227405312) (w : World) : Calls Try.prog 30 #[.float .f64 x] w (RP x w) := by
  have H0 := Hd.mk h0
  have H1 := Hd.mk h1
  clear h0 h1
  go_enter Try.func30, Try.ntmps30
  go_wp2
  go_loop [0, 4] (fun a b => ∃ k : Nat, k ≤ 2000 ∧ Hd ((k = 0 ∨ 4841369599423283200 ≤ x - k * 4503599627370496) ∧ k * 4503599627370496 ≤ x) ∧ a = .float .f64 (x - k * 4503599627370496) ∧ b = .int .i64 (k : Int)) (fun _ b => 3000 - (intOf b).toNat)
  case atStart => exact ⟨0, by omega, ⟨by omega⟩, by simp, rfl⟩
  case round =>
    obtain ⟨k, hk, HK, rfl, rfl⟩ := hrel
    obtain ⟨y, hy⟩ : ∃ y, y = x - k * 4503599627370496 := ⟨_, rfl⟩
    have HY := Hd.mk hy
    rw [← hy]
    clear hy
    have Hy : Hd (y < 9218868437227405312 ∧ 0 < y) := ⟨by have := HY.out; have := HK.out; have := H0.out; have := H1.out; omega⟩
    by_cases c : 4845873199050653696 ≤ y
    · have t : leF .f64 4845873199050653696 y = true := by rw [le_words (by omega) (by have := Hy.out; omega)]; simp; exact c
      have q := half_word (y := y) (r := y - 4503599627370496) Hy.out.1 (Fd.dbl_back (by omega))
      have q1 : ∀ w, res .quo .f64 y 4611686018427387904 w = y - 4503599627370496 := fun w => res_some q w
      have q2 := cnt_some q
      have HC := Hd.mk c
      clear q c
      go_wp2
      go_round
      case rel =>
        refine ⟨k + 1, ?_, ⟨?_⟩, ?_, by go_num⟩
        · have := HC.out; have := Hy.out; have := HY.out; have := HK.out; have := H1.out; omega
        · have := HC.out; have := HY.out; have := HK.out; omega
        · have : y - 4503599627370496 = x - (k + 1) * 4503599627370496 := by have := HC.out; have := HY.out; have := HK.out; omega
          rw [this]
      case measure => simp [intOf]; omega
    · have t : leF .f64 4845873199050653696 y = false := by rw [le_words (by omega) (by have := Hy.out; omega)]; simp; omega
      have HC := Hd.mk c
      clear c
      go_wp2
      go_loop [0, 4] (fun a b => ∃ j : Nat, j ≤ 1200 ∧ Hd (0 < Fd.dbls j y ∧ Fd.dbls j y < 4845873199050653696) ∧ a = .float .f64 (Fd.dbls j y) ∧ b = .int .i64 ((k : Int) - (j : Int))) (fun a _ => 4841369599423283200 - floatOf a)
      case atStart => exact ⟨0, by omega, ⟨⟨Hy.out.2, by show y < _; have := HC.out; omega⟩⟩, rfl, by simp⟩
      case round =>
        obtain ⟨j, hj, HJ, rfl, rfl⟩ := hrel
        obtain ⟨z, hz⟩ : ∃ z, z = Fd.dbls j y := ⟨_, rfl⟩
        have HZ := Hd.mk hz
        rw [← hz] at HJ ⊢
        clear hz
        by_cases c : z < 4841369599423283200
        · have t2 : ltF .f64 z 4841369599423283200 = true := by rw [lt_words (by omega) (by omega)]; simp; exact c
          have q := dbl_word (y := z) (by omega)
          have hd : Fd.dbl z < 4845873199050653696 := Fd.dbl_lt (c := 1075) c
          rw [Nat.min_eq_left (by omega)] at q
          have q1 : ∀ w, res .mul .f64 z 4611686018427387904 w = Fd.dbl z := fun w => res_some q w
          have q2 := cnt_some q
          have HC2 := Hd.mk c
          have HD := Hd.mk hd
          clear q c hd
          go_wp2
          go_round
          case rel =>
            have e : Fd.dbls (j + 1) y = Fd.dbl z := by rw [HZ.out]; rfl
            have b1 : Fd.dbls (j + 1) y < 1076 * 4503599627370496 := by rw [e]; exact HD.out
            have b2 := Fd.loop_bound Hy.out.2 b1
            refine ⟨j + 1, by omega, ⟨?_⟩, ?_, by go_num⟩
            · rw [e]; exact ⟨Nat.lt_trans HJ.out.1 (Fd.dbl_gt HJ.out.1), HD.out⟩
            · rw [e]
          case measure =>
            have := Fd.dbl_gt HJ.out.1
            have := HC2.out
            simp [floatOf]; omega
        · have t2 : ltF .f64 z 4841369599423283200 = false := by rw [lt_words (by have := HJ.out; omega) (by omega)]; simp; omega
          have hi := Fd.to_int (z := z) (by omega) HJ.out.2
          have hm : z - 1074 * 4503599627370496 < 18446744073709551616 := by have := HJ.out; omega
          obtain ⟨m, em⟩ : ∃ m, m = z - 1074 * 4503599627370496 := ⟨_, rfl⟩
          rw [← em] at hi hm
          have hc : ∀ w, (convert 22 33 (.float .f64 z)).run Try.prog w = .ok (.int .u64 (m : Int)) w := fun w => run_to_u64 _ _ z m hi hm w (by rw [Try.underlying22]; rfl) Try.underlying33
          have PQ : Hd (Fd.PQ x m ((k : Int) - (j : Int))) := by
            constructor
            rw [em, HZ.out, HY.out]
            refine Fd.pq_of_loops ?_ HK.out.2 ?_ ?_
            · have := HK.out; omega
            · rw [← HY.out, ← HZ.out]; omega
            · rw [← HY.out, ← HZ.out]; exact HJ.out.2
          clear hi hm em c
          go_wp2
          go_ret2
          exact ⟨m, _, PQ.out, rfl, 0, rfl⟩

/-- 'float64(n)' of an integer -/
def i2f (n : Int) : Nat := FloatKind.f64.nearest n
@[go_sem] theorem run_i2f {P : Program} (src dst : TypeId) (q : IntKind) (n : Int) (w : World) (hs : (P.underlying src).isSome = true) (hd : P.underlying dst = some (.float .f64)) :
    (convert src dst (.int q n)).run P w = .ok (.float .f64 (i2f n)) w := by
  obtain ⟨u, hs'⟩ := Option.isSome_iff_exists.1 hs
  cases u <;> simp [convert, run_underlying hs', run_underlying hd, Conv.intToFloat, i2f]
theorem i2f_nat {m : Nat} (h : m ≤ 9007199254740992) : i2f (m : Int) = Fd.ofN m := by
  have := (Fd.nearest_ofN false h).trans (Fd.wd_false _)
  unfold i2f FloatKind.nearest FloatKind.encode
  have e : decide ((m : Int) < 0) = false := by simp
  rw [e]
  exact this

set_option maxHeartbeats 1000000 in
theorem power_pos (m k r : Nat) (hm : m ≤ 9007199254740992) (hk : k ≤ 100000) (hr : r = Fd.dbls k (Fd.ofN m)) (w : World) :
    Calls Try.prog 52 #[.int .u64 (m : Int), .int .i64 (k : Int)] w (RV (.float .f64 (min r 9218868437227405312)) w) := by
  have q0 := i2f_nat hm
  have HR := Hd.mk hr
  have HO : Hd (Fd.ofN m < 9218868437227405312) := ⟨Fd.ofN_lt hm⟩
  clear hr hm
  go_enter Try.func52, Try.ntmps52
  go_wp2
  go_loopw [1, 5] (fun e x wr => ∃ i : Nat, i ≤ k ∧ e = .int .i64 ((k : Int) - (i : Int)) ∧ x = .float .f64 (min (Fd.dbls i (Fd.ofN m)) 9218868437227405312) ∧ ∃ n, wr = w.drewN n) (fun e _ _ => (intOf e).toNat)
  case atStart =>
    refine ⟨0, by omega, by simp, ?_, 0, rfl⟩
    have e0 : Fd.dbls 0 (Fd.ofN m) = Fd.ofN m := rfl
    rw [e0, Nat.min_eq_left (Nat.le_of_lt HO.out)]
  case round =>
    obtain ⟨i, hi, rfl, rfl, n, rfl⟩ := hrel
    obtain ⟨x, hx⟩ : ∃ x, x = min (Fd.dbls i (Fd.ofN m)) 9218868437227405312 := ⟨_, rfl⟩
    have HX := Hd.mk hx
    rw [← hx]
    clear hx q0
    have Hx : Hd (x ≤ 9218868437227405312) := ⟨by rw [HX.out]; exact Nat.min_le_right _ _⟩
    by_cases c : i < k
    · by_cases f : x < 9218868437227405312
      · have g : Fd.fin x = true := by unfold Fd.fin; rw [(pos_word (x := x) (by omega)).2]; simp; exact f
        have q := dbl_word (y := x) f
        obtain ⟨y, hy⟩ : ∃ y, y = min (Fd.dbl x) 9218868437227405312 := ⟨_, rfl⟩
        rw [← hy] at q
        have HY := Hd.mk hy
        have HF := Hd.mk f
        have q1 : ∀ w, res .mul .f64 x 4611686018427387904 w = y := fun w => res_some q w
        have q2 := cnt_some q
        clear q hy f
        go_wp2_with (go_at_call 39; refine (isFinite_c _ _).mono ?_; rintro e w' ⟨rfl, n, rfl⟩)
        go_roundw
        case rel =>
          refine ⟨i + 1, by omega, by go_num, ?_, _, rfl⟩
          have e1 : Fd.dbls i (Fd.ofN m) = x := by have := HX.out; have := HF.out; omega
          have e2 : y = min (Fd.dbls (i + 1) (Fd.ofN m)) 9218868437227405312 := by rw [HY.out, ← e1]; rfl
          rw [e2]
        case measure => simp [intOf]; omega
      · have g : Fd.fin x = false := by unfold Fd.fin; rw [(pos_word (x := x) (by have := Hx.out; omega)).2]; simp; omega
        have R : Hd (x = min r 9218868437227405312) := by
          constructor
          have := HX.out; have := Hx.out
          have l := Fd.dbls_le (r := Fd.ofN m) (Nat.le_of_lt c)
          rw [HR.out]; omega
        have HF := Hd.mk f
        clear f
        go_wp2_with (go_at_call 39; refine (isFinite_c _ _).mono ?_; rintro e w' ⟨rfl, n, rfl⟩)
        refine wp_loop_rounds 1 ?_
        rw [rounds_succ]
        go_wp2
        go_ret
        exact ⟨ret_float R.out, _, rfl⟩
    · have R : Hd (x = min r 9218868437227405312) := ⟨by rw [HX.out, HR.out, show i = k by omega]⟩
      go_wp2
      refine wp_loop_rounds 1 ?_
      rw [rounds_succ]
      go_wp2
      go_ret
      exact ⟨ret_float R.out, _, rfl⟩
set_option maxHeartbeats 1000000 in
theorem power_neg (m k r : Nat) (hm : m ≤ 9007199254740992) (hk : k ≤ 100000) (hr : Fd.ofN m = Fd.dbls k r) (w : World) :
    Calls Try.prog 52 #[.int .u64 (m : Int), .int .i64 (-(k : Int))] w (RV (.float .f64 r) w) := by
  have q0 := i2f_nat hm
  have HR := Hd.mk hr
  have HO : Hd (Fd.ofN m < 9218868437227405312) := ⟨Fd.ofN_lt hm⟩
  clear hr hm
  go_enter Try.func52, Try.ntmps52
  go_wp2
  refine wp_loop_rounds 1 ?_
  rw [rounds_succ]
  go_wp2
  go_loop [1, 5] (fun e x => ∃ i : Nat, i ≤ k ∧ e = .int .i64 (-(k : Int) + (i : Int)) ∧ x = .float .f64 (Fd.dbls (k - i) r)) (fun e _ => (-intOf e).toNat)
  case atStart => exact ⟨0, by omega, by simp, by rw [Nat.sub_zero, ← HR.out]⟩
  case round =>
    obtain ⟨i, hi, rfl, rfl⟩ := hrel
    obtain ⟨x, hx⟩ : ∃ x, x = Fd.dbls (k - i) r := ⟨_, rfl⟩
    have HX := Hd.mk hx
    rw [← hx]
    clear hx q0
    have Hx : Hd (x < 9218868437227405312) := ⟨by rw [HX.out]; have := Fd.dbls_le (r := r) (show k - i ≤ k by omega); have := HR.out; have := HO.out; omega⟩
    by_cases c : i < k
    · by_cases f : x = 0
      · have g : eqF .f64 x 0 = true := by rw [eq_words (by omega) (by omega)]; simp; exact f
        have R : Hd (x = r) := by
          constructor
          have h1 := HX.out
          rw [f] at h1
          have h2 : r = 0 := by
            rcases Nat.eq_zero_or_pos r with z | z
            · exact z
            · have := Fd.dbls_pos (k := k - i) z; omega
          omega
        clear f
        go_wp2
        go_ret
        exact ⟨ret_float R.out, 0, rfl⟩
      · have g : eqF .f64 x 0 = false := by rw [eq_words (by have := Hx.out; omega) (by omega)]; simp; exact f
        have e1 : Fd.dbl (Fd.dbls (k - (i + 1)) r) = x := by
          rw [HX.out, show k - i = k - (i + 1) + 1 by omega]; rfl
        have q := half_word (y := x) Hx.out e1
        obtain ⟨y, hy⟩ : ∃ y, y = Fd.dbls (k - (i + 1)) r := ⟨_, rfl⟩
        rw [← hy] at q
        have HY := Hd.mk hy
        have q1 : ∀ w, res .quo .f64 x 4611686018427387904 w = y := fun w => res_some q w
        have q2 := cnt_some q
        clear q hy f e1
        go_wp2
        go_round
        case rel => exact ⟨i + 1, by omega, by go_num, by rw [HY.out]⟩
        case measure => simp [intOf]; omega
    · have R : Hd (x = r) := ⟨by rw [HX.out, show k - i = 0 by omega]; rfl⟩
      go_wp2
      go_ret
      exact ⟨ret_float R.out, 0, rfl⟩
theorem power_c (m r : Nat) (k : Int) (hm : m ≤ 9007199254740992) (hk : -100000 ≤ k ∧ k ≤ 100000) (hr : Fd.PW m k r) (w : World) :
    Calls Try.prog 52 #[.int .u64 (m : Int), .int .i64 k] w (RV (.float .f64 (min r 9218868437227405312)) w) := by
  rcases (by omega : 0 ≤ k ∨ k < 0) with c | c
  · obtain ⟨j, rfl⟩ := Int.eq_ofNat_of_zero_le c
    exact power_pos m j r hm (by omega) (Fd.pw_pos hm hr) w
  · obtain ⟨j, hj⟩ : ∃ j : Nat, k = -(j : Int) := ⟨(-k).toNat, by omega⟩
    subst hj
    have e := Fd.pw_neg hm hr
    have l := Fd.dbls_le (r := r) (Nat.zero_le j)
    have e0 : Fd.dbls 0 r = r := rfl
    have o := Fd.ofN_lt hm
    rw [Nat.min_eq_left (by omega)]
    exact power_neg m j r hm (by omega) e w

end Go.Proofs.Ytjfoiicooleeiaa
