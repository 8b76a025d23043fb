/- Contract of the reference's times; conditions: as told in each line. -/
import Derived.Test.YtjfoiicooleeiaaCY
import Derived.Deep.QuietTactic
import Derived.BigQuiet
import Derived.IntWalk
namespace Go.Proofs.Ytjfoiicooleeiaa
open Go.RowKit
/-- after i rows -/
def RowRel (la lb : List Nat) (L i : Nat) (o : List Nat) : Prop := o.length = L ∧ Dg.Ok o ∧ Dg.nl o = Dg.vt (Dg.dg la) i * Dg.nl lb
/-- after k places of row i, whose digit is x -/
def PlaceRel (lb : List Nat) (L i x V k cy : Nat) (o : List Nat) : Prop := o.length = L ∧ Dg.Ok o ∧ cy < 4294967296 ∧ Dg.nl o + cy * 2 ^ (32 * (i + k)) = V + x * Dg.vt (Dg.dg lb) k * 2 ^ (32 * i)
theorem place_next {lb o : List Nat} {L i x V k cy y z s : Nat} (h : PlaceRel lb L i x V k cy o) (hy : Dg.di lb (k : Int) = y) (hz : Dg.dg o (i + k) = z) (hL : i + k < L) (hs : s = z + x * y + cy) (bs : s < 18446744073709551616) :
    PlaceRel lb L i x V (k + 1) (s / 4294967296) (o.set (i + k) (s % 4294967296)) := by
  obtain ⟨h1, h2, h3, h4⟩ := h
  rw [Dg.di_nat] at hy
  have e := Dg.nl_set (l := o) (p := i + k) (d := s % 4294967296) (by omega)
  rw [hz] at e
  refine ⟨by rw [List.length_set]; exact h1, h2.set (by omega), by omega, ?_⟩
  have d := Nat.mod_add_div s 4294967296
  rw [Dg.vt, hy, ← Nat.add_assoc, Dg.pow32]
  have pp : 2 ^ (32 * (i + k)) = 2 ^ (32 * i) * 2 ^ (32 * k) := by rw [Nat.mul_add, Nat.pow_add]
  generalize s % 4294967296 = d0 at *
  generalize s / 4294967296 = c0 at *
  generalize Dg.nl (o.set (i + k) d0) = O at *
  generalize Dg.nl o = O0 at *
  generalize Dg.vt (Dg.dg lb) k = B at *
  rw [pp] at *
  generalize 2 ^ (32 * i) = p at *
  generalize 2 ^ (32 * k) = q at *
  have f : (d0 + 4294967296 * c0) * (p * q) = (z + x * y + cy) * (p * q) := by rw [d, hs]
  clear hs d bs pp h2 h1 hL hz hy
  grind
theorem place_start {la lb o : List Nat} {L i : Nat} (x : Nat) (h : RowRel la lb L i o) : PlaceRel lb L i x (Dg.vt (Dg.dg la) i * Dg.nl lb) 0 0 o := by
  obtain ⟨h1, h2, h3⟩ := h
  refine ⟨h1, h2, by omega, ?_⟩
  rw [h3]; simp [Dg.vt]
theorem place_end {la lb o : List Nat} {L i x cy : Nat} (h : PlaceRel lb L i x (Dg.vt (Dg.dg la) i * Dg.nl lb) (lb.length + 1) cy o) (hx : Dg.dg la i = x) (oa : Dg.Ok la) (ob : Dg.Ok lb) : RowRel la lb L (i + 1) o := by
  obtain ⟨h1, h2, h3, h4⟩ := h
  refine ⟨h1, h2, ?_⟩
  rw [Dg.vt_nl (l := lb) (m := lb.length + 1) (by omega)] at h4
  have e : Dg.vt (Dg.dg la) (i + 1) * Dg.nl lb = Dg.vt (Dg.dg la) i * Dg.nl lb + x * Dg.nl lb * 2 ^ (32 * i) := by
    rw [Dg.vt, hx]; generalize 2 ^ (32 * i) = p; grind
  rw [← e] at h4
  have b1 := Dg.vt_lt oa.dg (i + 1)
  have b2 := Dg.nl_lt ob
  have b3 : Dg.vt (Dg.dg la) (i + 1) * Dg.nl lb ≤ 2 ^ (32 * (i + 1)) * Dg.nl lb := Nat.mul_le_mul_right _ (Nat.le_of_lt b1)
  have b4 : 2 ^ (32 * (i + 1)) * Dg.nl lb < 2 ^ (32 * (i + 1)) * 2 ^ (32 * lb.length) := (Nat.mul_lt_mul_left (Dg.pos32 (i + 1))).2 b2
  have pp : 2 ^ (32 * (i + 1)) * 2 ^ (32 * lb.length) = 2 ^ (32 * (i + (lb.length + 1))) := by rw [← Nat.pow_add, show 32 * (i + 1) + 32 * lb.length = 32 * (i + (lb.length + 1)) by omega]
  rw [pp] at b4
  have c0 : cy = 0 := by
    rcases Nat.eq_zero_or_pos cy with c | c
    · exact c
    · have : 1 * 2 ^ (32 * (i + (lb.length + 1))) ≤ cy * 2 ^ (32 * (i + (lb.length + 1))) := Nat.mul_le_mul_right _ c
      omega
  rw [c0] at h4; omega
theorem prod_le {x y : Nat} (bx : x < 4294967296) (by' : y < 4294967296) : x * y ≤ 18446744065119617025 := by
  have := Nat.mul_le_mul (show x ≤ 4294967295 by omega) (show y ≤ 4294967295 by omega)
  omega
theorem made_zero (L : Nat) : (madeCells #[Value.int IntKind.u32 0] L).toList = (List.replicate L 0).map dv := by
  rw [toList_madeCells_one, List.map_replicate]; rfl
theorem digit_q {A : Option Addr} {n c : Nat} {l : List Nat} (i : Int) (x : Nat) (w : World) (j : Nat) (h : Digs w A n c l) (hx : Dg.di l i = x) (hn : n ≤ 1000000) (hi : -1000000 ≤ i ∧ i ≤ 1000000) :
    Calls Try.prog 49 #[.slice A n c, .int .i64 i] (w.drewN j) fun e w'' => e = .returned (.int .u64 (x : Int)) ∧ ∃ m, w'' = w.drewN m :=
  (digit_x i x (w.drewN j) ⟨h.len, h.cap, h.ok, h.cells⟩ hx hn hi).mono fun _ _ ⟨he, hm⟩ => ⟨he, j, hm.symm⟩
set_option maxHeartbeats 2000000 in
theorem times_c {a b : Value} {M N ka kb : Nat} (w : World) (ha : NS w a M ka) (hb : NS w b N kb) (h1 : ka ≤ 1000) (h2 : kb ≤ 1000) :
    Calls Try.prog 35 #[a, b] w (RNS (M * N) (ka + kb + 1) w) := by
  obtain ⟨A, n, c, la, rfl, hn, da, rfl⟩ := ha
  obtain ⟨A', m, c', lb, rfl, hm, db, rfl⟩ := hb
  obtain ⟨i0, hi0, hz0, hz1, hz2⟩ := info_parts u32_info
  have DA := Hd.mk da
  have DB := Hd.mk db
  clear da db
  go_enter Try.func35, Try.ntmps35
  go_wp2_with (at_make; refine wpList_make_full _ rfl _ _ 39 rfl w.heap.size 52 i0 (.int .u32 0) 1 Try.underlying39 hi0 hz0 hz1 .i64 .i64 _ _ (n + m + 1) rfl rfl ?c1 ?c2 ?c3 ?c4 (Nat.le_refl _) ?_)
  case c1 => omega
  case c2 => omega
  case c3 => rw [hz2]; omega
  case c4 => unfold maxLen; omega
  intro w1 hown hgrow
  rw [made_zero] at hown
  have hbel : Below w.heap.size w w1 := (Below.refl _ _).grown hgrow (Nat.le_refl _) (fun k hk => by cases hk)
  clear hgrow
  have hR0 : RowRel la lb (n + m + 1) 0 (List.replicate (n + m + 1) 0) := ⟨by simp, Dg.Ok.replicate _, by rw [Dg.nl_replicate]; simp [Dg.vt]⟩
  have HR0 := Hd.mk hR0
  clear hR0 hi0 hz0 hz1 hz2
  go_wp2
  go_loopw [6] (fun i wr => ∃ (ii : Nat) (o : List Nat), ii ≤ n ∧ Hd (RowRel la lb (n + m + 1) ii o) ∧ i = .int .i64 (ii : Int) ∧ wr.ownsRow w.heap.size 52 1 (.slice (some ⟨w.heap.size, 0, none⟩) (n + m + 1) (n + m + 1)) (n + m + 1) (o.map dv) ∧ Below w.heap.size w wr) (fun i _ => 5000 - (intOf i).toNat)
  case atStart => exact ⟨0, _, by omega, HR0, rfl, hown, hbel⟩
  case round =>
    obtain ⟨ii, o0, hii, HR, rfl, hown, hbel⟩ := hrel
    clear HR0
    by_cases ci : ii < n
    · obtain ⟨x, hx⟩ : ∃ x, Dg.di la (ii : Int) = x := ⟨_, rfl⟩
      have bx : x < 4294967296 := by rw [← hx]; exact DA.out.ok.di _
      have HX := Hd.mk hx
      have HP0 := Hd.mk (place_start x HR.out)
      clear hx HR
      obtain ⟨wo, rfl⟩ : ∃ wo : World, wo = wr := ⟨_, rfl⟩
      go_wp2
      go_loopw [7, 8, 9] (fun carry k s wr => ∃ (kk cy : Nat) (o : List Nat), kk ≤ m + 1 ∧ cy < 4294967296 ∧ Hd (PlaceRel lb (n + m + 1) ii x (Dg.vt (Dg.dg la) ii * Dg.nl lb) kk cy o) ∧ carry = .int .u64 (cy : Int) ∧ k = .int .i64 (kk : Int) ∧ wr.ownsRow w.heap.size 52 1 (.slice (some ⟨w.heap.size, 0, none⟩) (n + m + 1) (n + m + 1)) (n + m + 1) (o.map dv) ∧ Below w.heap.size w wr) (fun _ k _ _ => 5000 - (intOf k).toNat)
      case atStart => exact ⟨0, 0, _, by omega, by omega, HP0, rfl, rfl, hown, hbel⟩
      case round =>
        obtain ⟨kk, cy, o, hkk, hcy, HP, rfl, rfl, hown, hbel⟩ := hrel
        clear HP0
        by_cases ck : kk ≤ m
        · obtain ⟨y, hy⟩ : ∃ y, Dg.di lb (kk : Int) = y := ⟨_, rfl⟩
          have by' : y < 4294967296 := by rw [← hy]; exact DB.out.ok.di _
          obtain ⟨z, hz⟩ : ∃ z, Dg.dg o (ii + kk) = z := ⟨_, rfl⟩
          have bz : z < 4294967296 := by rw [← hz]; exact HP.out.2.1.dg _
          have pb := prod_le bx by'
          obtain ⟨pr, hpr⟩ : ∃ pr, pr = x * y := ⟨_, rfl⟩
          rw [← hpr] at pb
          obtain ⟨s, hs⟩ : ∃ s, s = z + pr + cy := ⟨_, rfl⟩
          have bs : s < 18446744073709551616 := by omega
          have HN := Hd.mk (place_next HP.out hy hz (by omega) (by rw [hs, hpr]) bs)
          have hcell : wr.cell? ⟨w.heap.size, ii + kk, none⟩ = some (.int .u32 (z : Int)) := by
            have hl := HP.out.1
            rw [hown.cellAt (ii + kk) (by omega), List.getElem?_map, Dg.dg_in (by omega), hz]; rfl
          have hfro : wr.frozen? ⟨w.heap.size, ii + kk, none⟩ = false := hown.frozenAt _
          have e1 : IntKind.u64.wrap ((x : Int) * (y : Int)) = (pr : Int) := by
            rw [← Int.natCast_mul, ← hpr, IntKind.wrap_u64]; omega
          have e2 : IntKind.u64.wrap ((z : Int) + (pr : Int)) = (z : Int) + (pr : Int) := by rw [IntKind.wrap_u64]; omega
          have e3 : IntKind.u64.wrap ((z : Int) + (pr : Int) + (cy : Int)) = (s : Int) := by rw [IntKind.wrap_u64]; omega
          have e4 : IntKind.i64.wrap ((ii : Int) + (kk : Int)) = (ii : Int) + (kk : Int) := IntWalk.i64_in _ (by omega)
          have e5 : (0 : Int) ≤ (ii : Int) + (kk : Int) := by omega
          have e6 : ((ii : Int) + (kk : Int)).toNat = ii + kk := by omega
          have e7 : (ii : Int) + (kk : Int) < (n : Int) + (m : Int) + 1 := by omega
          have e8 : ii + kk < n + m + 1 := by omega
          have QA : Hd (∀ j, Calls Try.prog 49 #[.slice A n c, .int .i64 (ii : Int)] (wr.drewN j) fun e w'' => e = .returned (.int .u64 (x : Int)) ∧ ∃ m, w'' = wr.drewN m) := ⟨fun j => digit_q _ x _ j (DA.out.below hbel) HX.out (by omega) (by omega)⟩
          have QB : Hd (∀ j, Calls Try.prog 49 #[.slice A' m c', .int .i64 (kk : Int)] (wr.drewN j) fun e w'' => e = .returned (.int .u64 (y : Int)) ∧ ∃ m, w'' = wr.drewN m) := ⟨fun j => digit_q _ y _ j (DB.out.below hbel) hy (by omega) (by omega)⟩
          clear hy hz hpr hs
          go_wp2
          go_quiet ((go_at_call 49; first | (with_reducible exact QA.out _) | (with_reducible exact QB.out _)))
          clear e1 e2 e3 e4 e5 e6 e7 QA QB
          go_wp2
          go_roundw
          case rel =>
            have belq : Below w.heap.size w (wr.drewN nq) := ⟨hbel.os, hbel.tape, hbel.output, hbel.size, hbel.block⟩
            obtain ⟨own2, grow2⟩ := World.ownsRow.stored (w := wr.drewN nq) hown (ii + kk) (.int .u32 ((s : Int) % 4294967296))
            have ex : (o.map dv).set (ii + kk) (.int .u32 ((s : Int) % 4294967296)) = (o.set (ii + kk) (s % 4294967296)).map dv := by
              rw [List.map_set]; simp [dv]
            rw [ex] at own2
            exact ⟨kk + 1, s / 4294967296, _, by omega, by omega, HN, by go_num, by go_num, own2, belq.grown grow2 hbel.size (fun k hk => by cases hk; exact Nat.le_refl _)⟩
          case measure => simp [intOf]; omega
        · have ek : kk = m + 1 := by omega
          subst ek
          have HE : Hd (RowRel la lb (n + m + 1) (ii + 1) o) := ⟨place_end (by have := HP.out; rw [← DB.out.len] at this ⊢; exact this) (by rw [← Dg.di_nat]; exact HX.out) DA.out.ok DB.out.ok⟩
          clear HP
          go_wp2
          go_roundw
          case rel => exact ⟨ii + 1, _, by omega, HE, by go_num, hown, hbel⟩
          case measure => simp [intOf]; omega
    · obtain ⟨Ao, co, e0, dO⟩ := Digs.of_own hown HR.out.2.1
      cases e0
      have E : Hd (Dg.nl o0 = Dg.nl la * Dg.nl lb) := ⟨by rw [HR.out.2.2, show ii = la.length by have := DA.out.len; omega]; rfl⟩
      have DO := Hd.mk dO
      clear dO hown HR
      go_wp2_with fail
      refine (trim_c _ DO.out (by omega)).mono ?_
      rintro e w' ⟨j, hj, rfl, rfl, hv⟩
      have hr := NS.trimmed (k := ka + kb + 1) DO.out hj (by omega) hv
      rw [E.out] at hr
      have HR := Hd.mk hr
      clear hr hv
      go_wp2
      go_ret
      exact ⟨_, HR.out, rfl, hbel⟩
end Go.Proofs.Ytjfoiicooleeiaa
