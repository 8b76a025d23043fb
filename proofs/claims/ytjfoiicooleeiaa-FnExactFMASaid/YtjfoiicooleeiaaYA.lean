/- Contracts of the reference's minus and twice; conditions: as told in each line. -/
import Derived.Test.YtjfoiicooleeiaaCY
namespace Go.Proofs.Ytjfoiicooleeiaa
open Go.RowKit
def MinusRel (la lb : List Nat) (k cy : Nat) (o : List Nat) : Prop := o.length = k ∧ Dg.Ok o ∧ cy ≤ 1 ∧ Dg.nl o + Dg.vt (Dg.dg lb) k = Dg.vt (Dg.dg la) k + cy * 2 ^ (32 * k)
/-- the difference of two digits, with what was borrowed -/
def dif (x y cy : Nat) : Nat := if y + cy ≤ x then x - y - cy else x + 18446744073709551616 - y - cy
theorem dif_spec {x y cy : Nat} (bx : x < 4294967296) (by' : y < 4294967296) (hc : cy ≤ 1) : dif x y cy < 18446744073709551616 ∧ dif x y cy / 9223372036854775808 ≤ 1 ∧ dif x y cy % 4294967296 + y + cy = x + 4294967296 * (dif x y cy / 9223372036854775808) := by
  unfold dif; split <;> omega
theorem minus_next {la lb o : List Nat} {k cy x y : Nat} (h : MinusRel la lb k cy o) (hx : Dg.di la (k : Int) = x) (hy : Dg.di lb (k : Int) = y)
    (bx : x < 4294967296) (by' : y < 4294967296) : MinusRel la lb (k + 1) (dif x y cy / 9223372036854775808) (o ++ [dif x y cy % 4294967296]) := by
  obtain ⟨h1, h2, h3, h4⟩ := h
  obtain ⟨_, d2, d3⟩ := dif_spec bx by' h3
  rw [Dg.di_nat] at hx hy
  refine ⟨by simp [h1], h2.snoc (by omega), d2, ?_⟩
  rw [Dg.nl_snoc, h1, Dg.vt, Dg.vt, hx, hy, Dg.pow32]
  generalize dif x y cy % 4294967296 = d at *
  generalize dif x y cy / 9223372036854775808 = c at *
  have e2 : (d + y + cy) * 2 ^ (32 * k) = (x + 4294967296 * c) * 2 ^ (32 * k) := by rw [d3]
  generalize 2 ^ (32 * k) = p at *
  grind
theorem minus_end {la lb o : List Nat} {cy : Nat} (h : MinusRel la lb la.length cy o) (oa : Dg.Ok la) (le : Dg.nl lb ≤ Dg.nl la) : Dg.nl o = Dg.nl la - Dg.nl lb := by
  obtain ⟨h1, h2, h3, h4⟩ := h
  have b1 := Dg.nl_lt oa
  have b3 := Dg.nl_lt h2
  rw [h1] at b3
  have e : Dg.vt (Dg.dg la) la.length = Dg.nl la := rfl
  have vb : Dg.vt (Dg.dg lb) la.length = Dg.nl lb := by
    rcases Nat.le_total lb.length la.length with c | c
    · exact Dg.vt_nl c
    · obtain ⟨X, hX⟩ := Dg.vt_more (f := Dg.dg lb) la.length (lb.length - la.length)
      rw [show la.length + (lb.length - la.length) = lb.length by omega] at hX
      have e2 : Dg.vt (Dg.dg lb) lb.length = Dg.nl lb := rfl
      rcases Nat.eq_zero_or_pos X with z | z
      · rw [z] at hX; omega
      · have : 2 ^ (32 * la.length) * 1 ≤ 2 ^ (32 * la.length) * X := Nat.mul_le_mul_left _ z
        omega
  rw [e, vb] at h4
  rcases (by omega : cy = 0 ∨ cy = 1) with c | c <;> rw [c] at h4 <;> omega
set_option maxHeartbeats 1000000 in
theorem minus_c {a b : Value} {M N ka kb : Nat} (w : World) (ha : NS w a M ka) (hb : NS w b N kb) (h1 : ka ≤ 1000) (h2 : kb ≤ 1000) (le : N ≤ M) :
    Calls Try.prog 54 #[a, b] w (RNS (M - N) ka w) := by
  obtain ⟨A, n, c, la, rfl, hn, da, rfl⟩ := ha
  obtain ⟨A', m, c', lb, rfl, hm, db, rfl⟩ := hb
  obtain ⟨i0, hi0, hz0, hz1, hz2⟩ := info_parts u32_info
  have DA := Hd.mk da
  have DB := Hd.mk db
  have LE := Hd.mk le
  clear da db le
  go_enter Try.func54, Try.ntmps54
  go_wp2
  go_loopw [5, 6, 7] (fun out carry i wr => ∃ (k cy : Nat) (o : List Nat), k ≤ n ∧ cy ≤ 1 ∧ Hd (MinusRel la lb k cy o) ∧ i = .int .i64 (k : Int) ∧ carry = .int .u64 (cy : Int) ∧ wr.ownsRow w.heap.size 52 1 out k (o.map dv) ∧ Below w.heap.size w wr) (fun _ _ i _ => 5000 - (intOf i).toNat)
  case atStart =>
    obtain ⟨e1, e2⟩ := own_empty w
    exact ⟨0, 0, [], by omega, by omega, ⟨rfl, (fun _ h => by cases h), by omega, rfl⟩, rfl, rfl, e1, e2⟩
  case round =>
    obtain ⟨k, cy, o, hk, hcy, HP, rfl, rfl, hown, hbel⟩ := hrel
    by_cases ck : k < n
    · obtain ⟨x, hx⟩ : ∃ x, Dg.di la (k : Int) = x := ⟨_, rfl⟩
      obtain ⟨y, hy⟩ : ∃ y, Dg.di lb (k : Int) = y := ⟨_, rfl⟩
      have bx : x < 4294967296 := by rw [← hx]; exact DA.out.ok.di _
      have by' : y < 4294967296 := by rw [← hy]; exact DB.out.ok.di _
      have HX := Hd.mk hx
      have HY := Hd.mk hy
      obtain ⟨d1, d2, _⟩ := dif_spec bx by' hcy
      have e0 : IntKind.u64.wrap (IntKind.u64.wrap ((x : Int) - (y : Int)) - (cy : Int)) = (dif x y cy : Int) := by
        rw [IntKind.wrap_u64, IntKind.wrap_u64]; unfold dif; split <;> omega
      have HN := Hd.mk (minus_next HP.out hx hy bx by')
      obtain ⟨q, hq⟩ : ∃ q, q = dif x y cy := ⟨_, rfl⟩
      rw [← hq] at d1 d2 e0 HN
      clear hx hy hq
      go_wp2_with fail
      refine (digit_x (k : Int) x _ (DA.out.below hbel) HX.out (by omega) (by omega)).mono ?_
      rintro e w' ⟨rfl, rfl⟩
      go_wp2_with fail
      refine (digit_x (k : Int) y _ (DB.out.below hbel) HY.out (by omega) (by omega)).mono ?_
      rintro e w' ⟨rfl, rfl⟩
      go_wp2_with (at_builtin; refine wpList_append_own_at _ rfl _ _ 39 rfl w.heap.size 52 i0 (.int .u32 0) 1 4 Try.underlying39 hi0 hz0 hz1 hz2 rfl (by decide) _ k (o.map dv) rfl (hown.alloc _) ⟨wr.heap.size, 0, none⟩ 1 1 [.int .u32 ((q : Int) % 4294967296)] rfl rfl (cell_one_new _ _ _) ?c1 ?c2 ?c3 ?c4 ?_)
      case c1 => intro u hu; simp at hu; subst hu; rfl
      case c2 => unfold maxLen; omega
      case c3 => omega
      case c4 => have := hbel.size; simp; omega
      intro v' w1 hown' hgrow _ _
      obtain ⟨own2, bel2⟩ := app_next (d := q % 4294967296) hown hbel (Nat.le_refl _) hown' (by simp [dv]) hgrow
      clear hown hown' hgrow HP HX HY hbel e0
      go_wp2
      go_roundw
      case rel => exact ⟨k + 1, _, _, by omega, by omega, HN, by go_num, by go_num, own2, bel2⟩
      case measure => simp [intOf]; omega
    · obtain ⟨Ao, co, rfl, dO⟩ := Digs.of_own hown HP.out.2.1
      have ek : k = la.length := by have := DA.out.len; omega
      have E := Hd.mk (minus_end (by rw [← ek]; exact HP.out) DA.out.ok LE.out)
      have DO := Hd.mk dO
      clear dO hown ek
      go_wp2_with fail
      refine (trim_c _ DO.out (by omega)).mono ?_
      rintro e w' ⟨j, hj, rfl, rfl, hv⟩
      have hr := NS.trimmed (k := ka) DO.out hj (by omega) hv
      rw [E.out] at hr
      have HR := Hd.mk hr
      clear hr hv
      go_wp2
      go_ret
      exact ⟨_, HR.out, rfl, hbel⟩
def TwiceRel (la : List Nat) (q r k : Nat) (o : List Nat) : Prop := o.length = k ∧ Dg.Ok o ∧ Dg.nl o + (Dg.di la ((k : Int) - q - 1) * 2 ^ r / 4294967296) * 2 ^ (32 * k) = Dg.vt (Dg.dg la) (k - q) * 2 ^ (32 * q + r)
theorem pow_r {r : Nat} (h : r < 32) : 2 ^ r * 2 ^ (32 - r) = 4294967296 := by
  rw [← Nat.pow_add, show r + (32 - r) = 32 by omega]
theorem pow_r_le {r : Nat} (h : r < 32) : 2 ^ r ≤ 2147483648 := by
  have : 2 ^ r ≤ 2 ^ 31 := Nat.pow_le_pow_right (by omega) (by omega)
  exact this
/-- the digit that is appended, and what is handed on -/
theorem tw_digit {x y r : Nat} (by' : y < 4294967296) (hr : r < 32) :
    y * 2 ^ r / 4294967296 < 2 ^ r ∧ (x * 2 ^ r + y * 2 ^ r / 4294967296) / 4294967296 = x * 2 ^ r / 4294967296 := by
  have e := pow_r hr
  have p0 : 0 < 2 ^ r := Nat.two_pow_pos r
  have z : y * 2 ^ r / 4294967296 < 2 ^ r := by
    rw [Nat.div_lt_iff_lt_mul (by omega), Nat.mul_comm (2 ^ r)]
    exact Nat.mul_lt_mul_of_pos_right by' p0
  refine ⟨z, ?_⟩
  generalize y * 2 ^ r / 4294967296 = t at *
  rw [← e, ← Nat.div_div_eq_div_mul, ← Nat.div_div_eq_div_mul, Nat.mul_comm x, Nat.mul_add_div p0, Nat.div_eq_of_lt z, Nat.add_zero, Nat.mul_div_cancel_left _ p0]
theorem tw_elem {x y r : Nat} (bx : x < 4294967296) (by' : y < 4294967296) (hr : r < 32) :
    bits BinOp.or IntKind.u64 (IntKind.u64.wrap ((x : Int) * 2 ^ r)) (IntKind.u64.wrap ((y : Int) * 2 ^ r) / 4294967296) % 4294967296 = (((x * 2 ^ r + y * 2 ^ r / 4294967296) % 4294967296 : Nat) : Int) := by
  obtain ⟨z, _⟩ := tw_digit (x := x) by' hr
  have pl := pow_r_le hr
  have l1 : x * 2 ^ r ≤ 4294967295 * 2147483648 := Nat.mul_le_mul (by omega) pl
  have l2 : y * 2 ^ r ≤ 4294967295 * 2147483648 := Nat.mul_le_mul (by omega) pl
  have c1 : ((x : Int) * 2 ^ r) = ((x * 2 ^ r : Nat) : Int) := by rw [Int.natCast_mul, Int.natCast_pow]; rfl
  have c2 : ((y : Int) * 2 ^ r) = ((y * 2 ^ r : Nat) : Int) := by rw [Int.natCast_mul, Int.natCast_pow]; rfl
  have o : x * 2 ^ r ||| y * 2 ^ r / 4294967296 = x * 2 ^ r + y * 2 ^ r / 4294967296 := by
    rw [Nat.or_comm, or_high _ x r z, Nat.add_comm]
  rw [c1, c2]
  generalize x * 2 ^ r = X at *
  generalize y * 2 ^ r = Y at *
  have w1 : IntKind.u64.wrap (X : Int) = (X : Int) := by rw [IntKind.wrap_u64]; omega
  have w2 : IntKind.u64.wrap (Y : Int) / 4294967296 = ((Y / 4294967296 : Nat) : Int) := by rw [IntKind.wrap_u64]; omega
  rw [w1, w2, bits_or_u64_nat X (Y / 4294967296) (by omega) (by omega), o]
  omega
theorem twice_next {la o : List Nat} {q r k x y : Nat} (h : TwiceRel la q r k o) (hx : Dg.di la ((k : Int) - q) = x) (hy : Dg.di la ((k : Int) - q - 1) = y) (by' : y < 4294967296) (hr : r < 32) :
    TwiceRel la q r (k + 1) (o ++ [(x * 2 ^ r + y * 2 ^ r / 4294967296) % 4294967296]) := by
  obtain ⟨h1, h2, h3⟩ := h
  obtain ⟨z, e⟩ := tw_digit (x := x) by' hr
  have hx' : Dg.di la (((k + 1 : Nat) : Int) - q - 1) = x := by rw [← hx]; congr 1; omega
  refine ⟨by simp [h1], h2.snoc (by omega), ?_⟩
  rw [Dg.nl_snoc, h1, hx', Dg.pow32]
  rw [hy] at h3
  have f : Dg.vt (Dg.dg la) (k + 1 - q) * 2 ^ (32 * q + r) = Dg.vt (Dg.dg la) (k - q) * 2 ^ (32 * q + r) + x * 2 ^ r * 2 ^ (32 * k) := by
    rcases Nat.lt_or_ge k q with c | c
    · have x0 : x = 0 := by rw [← hx]; exact Dg.di_neg (by omega)
      rw [x0, show k + 1 - q = 0 by omega, show k - q = 0 by omega]; simp
    · have x1 : Dg.dg la (k - q) = x := by
        rw [← hx, ← Dg.di_nat]; congr 1; omega
      rw [show k + 1 - q = k - q + 1 by omega, Dg.vt, x1, Nat.add_mul]
      have : 2 ^ (32 * (k - q)) * 2 ^ (32 * q + r) = 2 ^ r * 2 ^ (32 * k) := by
        rw [← Nat.pow_add, ← Nat.pow_add]; congr 1; omega
      rw [Nat.mul_assoc, this, ← Nat.mul_assoc]
  rw [f, ← h3]
  have g : (x * 2 ^ r + y * 2 ^ r / 4294967296) % 4294967296 + 4294967296 * (x * 2 ^ r / 4294967296) = x * 2 ^ r + y * 2 ^ r / 4294967296 := by
    rw [← e]; exact Nat.mod_add_div _ _
  generalize (x * 2 ^ r + y * 2 ^ r / 4294967296) % 4294967296 = d at *
  generalize x * 2 ^ r / 4294967296 = u at *
  generalize y * 2 ^ r / 4294967296 = t at *
  generalize x * 2 ^ r = X at *
  have g2 : (d + 4294967296 * u) * 2 ^ (32 * k) = (X + t) * 2 ^ (32 * k) := by rw [g]
  generalize 2 ^ (32 * k) = p at *
  grind
theorem twice_end {la o : List Nat} {q r k n : Nat} (h : TwiceRel la q r k o) (hk : k = la.length + q + 1) (hn : n = 32 * q + r) : Dg.nl o = Dg.nl la * 2 ^ n := by
  obtain ⟨h1, h2, h3⟩ := h
  have z : Dg.di la ((k : Int) - q - 1) = 0 := by
    have : (k : Int) - q - 1 = ((la.length : Nat) : Int) := by omega
    rw [this, Dg.di_nat, Dg.dg_out (Nat.le_refl _)]
  rw [z, Dg.vt_nl (by omega), ← hn] at h3
  simpa using h3
set_option maxHeartbeats 1000000 in
theorem twice_c {a : Value} {M ka : Nat} (n : Nat) (w : World) (ha : NS w a M ka) (h1 : ka ≤ 1000) (h2 : n ≤ 10000) :
    Calls Try.prog 31 #[a, .int .i64 (n : Int)] w (RNS (M * 2 ^ n) (ka + n / 32 + 1) w) := by
  obtain ⟨A, m, c, la, rfl, hn, da, rfl⟩ := ha
  obtain ⟨i0, hi0, hz0, hz1, hz2⟩ := info_parts u32_info
  obtain ⟨q, hq⟩ : ∃ q, q = n / 32 := ⟨_, rfl⟩
  obtain ⟨r, hr⟩ : ∃ r, r = n % 32 := ⟨_, rfl⟩
  have rl : r < 32 := by omega
  have ql : q ≤ 320 := by omega
  have e1 : (n : Int) / 32 = (q : Int) := by omega
  have e2 : (n : Int) % 32 = (r : Int) := by omega
  have HN := Hd.mk (show n = 32 * q + r by omega)
  have DA := Hd.mk da
  clear da hq hr
  go_enter Try.func31, Try.ntmps31
  go_wp2
  go_loopw [5, 6] (fun out i wr => ∃ (k : Nat) (o : List Nat), k ≤ m + q + 1 ∧ Hd (TwiceRel la q r k o) ∧ i = .int .i64 (k : Int) ∧ wr.ownsRow w.heap.size 52 1 out k (o.map dv) ∧ Below w.heap.size w wr) (fun _ i _ => 5000 - (intOf i).toNat)
  case atStart =>
    obtain ⟨e1, e2⟩ := own_empty w
    refine ⟨0, [], by omega, ⟨rfl, (fun _ h => by cases h), ?_⟩, rfl, e1, e2⟩
    rw [Dg.di_neg (by omega), Dg.nl_nil, Nat.zero_sub]; simp [Dg.vt]
  case round =>
    obtain ⟨k, o, hk, HP, rfl, hown, hbel⟩ := hrel
    by_cases ck : k ≤ m + q
    · obtain ⟨x, hx⟩ : ∃ x, Dg.di la ((k : Int) - q) = x := ⟨_, rfl⟩
      obtain ⟨y, hy⟩ : ∃ y, Dg.di la ((k : Int) - q - 1) = y := ⟨_, rfl⟩
      have bx : x < 4294967296 := by rw [← hx]; exact DA.out.ok.di _
      have by' : y < 4294967296 := by rw [← hy]; exact DA.out.ok.di _
      have HX := Hd.mk hx
      have HY := Hd.mk hy
      clear hx hy
      go_wp2_with fail
      refine (digit_x ((k : Int) - q) x _ (DA.out.below hbel) HX.out (by omega) (by omega)).mono ?_
      rintro e w' ⟨rfl, rfl⟩
      go_wp2_with fail
      refine (digit_x ((k : Int) - q - 1) y _ (DA.out.below hbel) HY.out (by omega) (by omega)).mono ?_
      rintro e w' ⟨rfl, rfl⟩
      go_wp2_with (at_builtin; refine wpList_append_own_at _ rfl _ _ 39 rfl w.heap.size 52 i0 (.int .u32 0) 1 4 Try.underlying39 hi0 hz0 hz1 hz2 rfl (by decide) _ k (o.map dv) rfl (hown.alloc _) ⟨wr.heap.size, 0, none⟩ 1 1 [_] rfl rfl (cell_one_new _ _ _) ?c1 ?c2 ?c3 ?c4 ?_)
      case c1 => intro u hu; simp at hu; subst hu; rfl
      case c2 => unfold maxLen; omega
      case c3 => omega
      case c4 => have := hbel.size; simp; omega
      intro v' w1 hown' hgrow _ _
      obtain ⟨own2, bel2⟩ := app_next hown hbel (Nat.le_refl _) hown' (congrArg (Value.int .u32) (tw_elem bx by' rl)) hgrow
      have HT := Hd.mk (twice_next HP.out HX.out HY.out by' rl)
      clear hown hown' hgrow HP HX HY hbel
      go_wp2
      go_roundw
      case rel => exact ⟨k + 1, _, by omega, HT, by go_num, own2, bel2⟩
      case measure => simp [intOf]; omega
    · obtain ⟨Ao, co, rfl, dO⟩ := Digs.of_own hown HP.out.2.1
      have E := Hd.mk (twice_end HP.out (by have := DA.out.len; omega) HN.out)
      have DO := Hd.mk dO
      have HQ := Hd.mk (show ka + n / 32 + 1 = ka + q + 1 by omega)
      clear dO hown
      go_wp2_with fail
      refine (trim_c _ DO.out (by omega)).mono ?_
      rintro e w' ⟨j, hj, rfl, rfl, hv⟩
      have hr := NS.trimmed (k := ka + n / 32 + 1) DO.out hj (by rw [HQ.out]; omega) hv
      rw [E.out] at hr
      have HR := Hd.mk hr
      clear hr hv
      go_wp2
      go_ret
      exact ⟨_, HR.out, rfl, hbel⟩
end Go.Proofs.Ytjfoiicooleeiaa
