/- Contracts of the reference's natural and plus; conditions: as told in each line. -/
import Derived.Test.YtjfoiicooleeiaaCX
import Derived.OwnWalk
import Derived.Outline
import Derived.Maps.AppendAt
import Derived.LoopTactic
namespace Go.Proofs.Ytjfoiicooleeiaa
open Go.RowKit

theorem Digs.of_own {w : World} {base : Nat} {e : TypeId} {v : Value} {n : Nat} {l : List Nat} (h : w.ownsRow base e 1 v n (l.map dv)) (ok : Dg.Ok l) : ∃ A c, v = .slice A n c ∧ Digs w A n c l := by
  have hl : l.length = n := by have := h.1; simpa using this
  rcases h.2 with ⟨rfl, h0⟩ | ⟨g, cap, cur, rfl, _, _, hnc, _⟩
  · subst h0
    exact ⟨none, 0, rfl, hl, Nat.le_refl _, ok, fun j hj => by omega⟩
  · refine ⟨_, cap, rfl, hl, hnc, ok, fun j hj => ⟨⟨g, 0, none⟩, rfl, ?_, ?_⟩⟩
    · have : ((⟨g, 0, none⟩ : Addr).add j).block = g := by unfold Addr.add; split <;> rfl
      rw [this]; exact (h.lt g rfl).2
    · exact h.cells (g := g) rfl j (dv (Dg.dg l j)) (by rw [List.getElem?_map, Dg.dg_in (by omega)]; rfl)
theorem NS.trimmed {w : World} {A : Option Addr} {n c m k : Nat} {l : List Nat} (h : Digs w A n c l) (hm : m ≤ n) (hk : n ≤ k) (e : Dg.nl (l.take m) = Dg.nl l) : NS w (.slice A m c) (Dg.nl l) k :=
  ⟨A, m, c, l.take m, rfl, by omega, h.take hm, e⟩
theorem digit_x {A : Option Addr} {n c : Nat} {l : List Nat} (i : Int) (x : Nat) (w : World) (h : Digs w A n c l) (hx : Dg.di l i = x) (hn : n ≤ 1000000) (hi : -1000000 ≤ i ∧ i ≤ 1000000) :
    Calls Try.prog 49 #[.slice A n c, .int .i64 i] w (RQ (.int .u64 (x : Int)) w) := by
  subst hx; exact digit_c i w h hn hi
theorem own_empty (w : World) : (w.alloc (Obj.cells #[] 52)).ownsRow w.heap.size 52 1 (Value.slice (some { block := w.heap.size, off := 0 }) 0 0) 0 (List.map dv []) ∧ Below w.heap.size w (w.alloc (Obj.cells #[] 52)) :=
  ⟨World.ownsRow_lit w #[] 0 (Nat.le_refl _) (by decide) rfl, (Below.refl _ _).alloc (Nat.le_refl _) _⟩
theorem u32_info : (Try.prog.info? 52).map (fun i => (i.zero, i.size, i.bytes)) = some (some (.int .u32 0), 1, 4) := by kernel_rfl
/-- behind an append of one digit -/
theorem app_next {w wr w1 : World} {B k d : Nat} {out v' : Value} {o : List Nat} {x : Value} {ob : Obj} (hown : wr.ownsRow B 52 1 out k (o.map dv)) (hb : Below B w wr) (hB : B ≤ w.heap.size)
    (hown' : w1.ownsRow B 52 1 v' (k + 1) (o.map dv ++ [x])) (hx : x = dv d) (hg : (wr.alloc ob).grownBy w1 out.ownBlock) :
    w1.ownsRow B 52 1 v' (k + 1) ((o ++ [d]).map dv) ∧ Below B w w1 := by
  refine ⟨?_, ?_⟩
  · rw [List.map_append, List.map_singleton, ← hx]; exact hown'
  · have h1 := hb.size
    exact (hb.alloc (by omega) ob).grown hg (by simp; omega) (fun g hg' => (hown.lt g hg').1)
theorem nat_digs (x : Nat) (hx : x < 18446744073709551616) (w : World) :
    ∃ l, Dg.nl l = x ∧ Digs (w.alloc (Obj.cells #[Value.int IntKind.u32 ((x : Int) % 4294967296), Value.int IntKind.u32 ((x : Int) / 4294967296)] 52)) (some { block := w.heap.size, off := 0 }) 2 2 l := by
  have ok : Dg.Ok [x % 4294967296, x / 4294967296] := by
    intro d hd
    simp at hd
    rcases hd with rfl | rfl <;> omega
  refine ⟨[x % 4294967296, x / 4294967296], ?_, ?_⟩
  · show 0 + (x % 4294967296) * 2 ^ (32 * 0) + (x / 4294967296) * 2 ^ (32 * 1) = x
    omega
  · have h := World.ownsRow_lit (base := w.heap.size) (e := 52) (size := 1) w #[Value.int IntKind.u32 ((x : Int) % 4294967296), Value.int IntKind.u32 ((x : Int) / 4294967296)] 2 (Nat.le_refl _) (by decide) rfl
    have e : (#[Value.int IntKind.u32 ((x : Int) % 4294967296), Value.int IntKind.u32 ((x : Int) / 4294967296)] : Array Value).toList = [x % 4294967296, x / 4294967296].map dv := by
      simp [dv]
    rw [e] at h
    obtain ⟨A, c, e2, d⟩ := Digs.of_own h ok
    cases e2
    exact d
set_option maxHeartbeats 400000 in
theorem natural_c (x : Nat) (hx : x < 18446744073709551616) (w : World) :
    Calls Try.prog 32 #[.int .u64 (x : Int)] w (RNS x 2 w) := by
  have hx' : (x : Int) < 18446744073709551616 := by omega
  go_enter Try.func32, Try.ntmps32
  go_wp2_with fail
  obtain ⟨l, hl, hD⟩ := nat_digs x hx w
  refine (trim_c _ hD (by omega)).mono ?_
  rintro e w' ⟨m, hm, rfl, rfl, hv⟩
  have hr := NS.trimmed hD hm (Nat.le_refl _) hv
  rw [hl] at hr
  have HR := Hd.mk hr
  clear hD hv hl hr
  go_wp2
  go_ret
  exact ⟨_, HR.out, rfl, (Below.refl _ _).alloc (Nat.le_refl _) _⟩
def PlusRel (la lb : List Nat) (k cy : Nat) (o : List Nat) : Prop := o.length = k ∧ Dg.Ok o ∧ cy ≤ 1 ∧ Dg.nl o + cy * 2 ^ (32 * k) = Dg.vt (Dg.dg la) k + Dg.vt (Dg.dg lb) k
theorem plus_next {la lb o : List Nat} {k cy x y d cy' : Nat} (h : PlusRel la lb k cy o) (hx : Dg.di la (k : Int) = x) (hy : Dg.di lb (k : Int) = y) (hd : d = (x + y + cy) % 4294967296) (hc : cy' = (x + y + cy) / 4294967296)
    (bx : x < 4294967296) (by' : y < 4294967296) : PlusRel la lb (k + 1) cy' (o ++ [d]) := by
  obtain ⟨h1, h2, h3, h4⟩ := h
  rw [Dg.di_nat] at hx hy
  refine ⟨by simp [h1], h2.snoc (by omega), by omega, ?_⟩
  rw [Dg.nl_snoc, h1, Dg.vt, Dg.vt, hx, hy, Dg.pow32]
  have e : d + 4294967296 * cy' = x + y + cy := by omega
  have e2 : (d + 4294967296 * cy') * 2 ^ (32 * k) = (x + y + cy) * 2 ^ (32 * k) := by rw [e]
  generalize 2 ^ (32 * k) = p at *
  grind
theorem plus_end {la lb o : List Nat} {k cy : Nat} (h : PlusRel la lb k cy o) (oa : Dg.Ok la) (ob : Dg.Ok lb) (ha : la.length < k) (hb : lb.length < k) : Dg.nl o = Dg.nl la + Dg.nl lb := by
  obtain ⟨h1, h2, h3, h4⟩ := h
  rw [Dg.vt_nl (by omega), Dg.vt_nl (by omega)] at h4
  have b1 := Dg.nl_lt oa
  have b2 := Dg.nl_lt ob
  have p1 : 2 ^ (32 * la.length) ≤ 2 ^ (32 * (k - 1)) := Nat.pow_le_pow_right (by omega) (by omega)
  have p2 : 2 ^ (32 * lb.length) ≤ 2 ^ (32 * (k - 1)) := Nat.pow_le_pow_right (by omega) (by omega)
  have p3 : 2 ^ (32 * k) = 4294967296 * 2 ^ (32 * (k - 1)) := by rw [← Dg.pow32, show k - 1 + 1 = k by omega]
  rcases (by omega : cy = 0 ∨ cy = 1) with c | c
  · rw [c] at h4; omega
  · rw [c] at h4; omega
set_option maxHeartbeats 1000000 in
theorem plus_c {a b : Value} {M N ka kb : Nat} (w : World) (ha : NS w a M ka) (hb : NS w b N kb) (h1 : ka ≤ 1000) (h2 : kb ≤ 1000) :
    Calls Try.prog 36 #[a, b] w (RNS (M + N) (max ka kb + 1) w) := by
  obtain ⟨A, n, c, la, rfl, hn, da, rfl⟩ := ha
  obtain ⟨A', m, c', lb, rfl, hm, db, rfl⟩ := hb
  obtain ⟨i0, hi0, hz0, hz1, hz2⟩ := info_parts u32_info
  have DA := Hd.mk da
  have DB := Hd.mk db
  clear da db
  go_enter Try.func36, Try.ntmps36
  go_wp2
  go_loopw [5, 6, 7] (fun out carry i wr => ∃ (k cy : Nat) (o : List Nat), k ≤ max n m + 1 ∧ cy ≤ 1 ∧ Hd (PlusRel la lb k cy o) ∧ i = .int .i64 (k : Int) ∧ carry = .int .u64 (cy : Int) ∧ wr.ownsRow w.heap.size 52 1 out k (o.map dv) ∧ Below w.heap.size w wr) (fun _ _ i _ => 5000 - (intOf i).toNat)
  case atStart =>
    obtain ⟨e1, e2⟩ := own_empty w
    exact ⟨0, 0, [], by omega, by omega, ⟨rfl, (fun _ h => by cases h), by omega, rfl⟩, rfl, rfl, e1, e2⟩
  case round =>
    obtain ⟨k, cy, o, hk, hcy, HP, rfl, rfl, hown, hbel⟩ := hrel
    by_cases ck : k ≤ max n m
    · obtain ⟨x, hx⟩ : ∃ x, Dg.di la (k : Int) = x := ⟨_, rfl⟩
      obtain ⟨y, hy⟩ : ∃ y, Dg.di lb (k : Int) = y := ⟨_, rfl⟩
      have bx : x < 4294967296 := by rw [← hx]; exact DA.out.ok.di _
      have by' : y < 4294967296 := by rw [← hy]; exact DB.out.ok.di _
      have HX := Hd.mk hx
      have HY := Hd.mk hy
      clear hx hy
      rcases (by omega : k ≤ n ∨ (n < k ∧ k ≤ m)) with c1 | ⟨c1, c2⟩
      all_goals
        go_wp2_with fail
        refine (digit_x (k : Int) x _ (DA.out.below hbel) HX.out (by omega) (by omega)).mono ?_
        rintro e w' ⟨rfl, rfl⟩
        go_wp2_with fail
        refine (digit_x (k : Int) y _ (DB.out.below hbel) HY.out (by omega) (by omega)).mono ?_
        rintro e w' ⟨rfl, rfl⟩
        go_wp2_with (at_builtin; refine wpList_append_own_at _ rfl _ _ 39 rfl w.heap.size 52 i0 (.int .u32 0) 1 4 Try.underlying39 hi0 hz0 hz1 hz2 rfl (by decide) _ k (o.map dv) rfl (hown.alloc _) ⟨wr.heap.size, 0, none⟩ 1 1 [.int .u32 (((x : Int) + (y : Int) + (cy : Int)) % 4294967296)] rfl rfl (cell_one_new _ _ _) ?c1 ?c2 ?c3 ?c4 ?_)
        case c1 => intro u hu; simp at hu; subst hu; rfl
        case c2 => unfold maxLen; omega
        case c3 => omega
        case c4 => have := hbel.size; simp; omega
        intro v' w1 hown' hgrow _ _
        obtain ⟨own2, bel2⟩ := app_next (d := (x + y + cy) % 4294967296) hown hbel (Nat.le_refl _) hown' (by simp [dv]) hgrow
        have HN := Hd.mk (plus_next HP.out HX.out HY.out rfl rfl bx by')
        clear hown hown' hgrow HP HX HY hbel
        go_wp2
        go_roundw
        case rel => exact ⟨k + 1, _, _, by omega, by omega, HN, by go_num, by go_num, own2, bel2⟩
        case measure => simp [intOf]; omega
    · obtain ⟨Ao, co, rfl, dO⟩ := Digs.of_own hown HP.out.2.1
      have E := Hd.mk (plus_end HP.out DA.out.ok DB.out.ok (by have := DA.out.len; omega) (by have := DB.out.len; omega))
      have DO := Hd.mk dO
      clear dO hown
      go_wp2_with fail
      refine (trim_c _ DO.out (by omega)).mono ?_
      rintro e w' ⟨j, hj, rfl, rfl, hv⟩
      have hr := NS.trimmed (k := max ka kb + 1) DO.out hj (by omega) hv
      rw [E.out] at hr
      have HR := Hd.mk hr
      clear hr hv
      go_wp2
      go_ret
      exact ⟨_, HR.out, rfl, hbel⟩
end Go.Proofs.Ytjfoiicooleeiaa
