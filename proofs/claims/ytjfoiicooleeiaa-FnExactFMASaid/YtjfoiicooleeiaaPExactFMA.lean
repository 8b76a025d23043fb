/- The statement FnExactFMA holds: for every input the law returns true and the arguments read as before; no condition. -/
import Derived.Test.YtjfoiicooleeiaaRows
import Derived.Test.YtjfoiicooleeiaaO
import Derived.Test.YtjfoiicooleeiaaLExactFMA
import Derived.Test.YtjfoiicooleeiaaYP
import Derived.Laws.Cover2
import Derived.ProofKit
namespace Go.Proofs.Ytjfoiicooleeiaa
open Go.ChangeShapes Go.WideShapes Go.ChangeAt Go.RowKit

theorem own_fnExactFMA : ownKnob Try.prog.godebug = none := by kernel_rfl

set_option maxRecDepth 100000 in
theorem lifted_fnExactFMA (os : Os) (started : os.Started) (H : Type) (enc : TypeId × Value → H) :
    ReturnsInHanded {} Try.checked os 9 .any (Rows.fnExactFMASpec.pre6 enc Try.prog Try.f9 Rows.fnExactFMARow.domain false) (Rows.fnExactFMASpec.post enc Try.prog Try.f9 false true false false) := by
  refine returnsInHanded_of_change (C := Try.checked) own_fnExactFMA started (by kernel_rfl) Try.func9
    (ChangeSpec.witness6 (enc := enc) (C := Try.checked) false ⟨#[], #[.float .f64 0, .float .f64 0, .float .f64 0], []⟩ 8 (by kernel_rfl) (by kernel_rfl) (by kernel_rfl) (by kernel_rfl)) ?_
  intro W base args ds gs before hval0 hW _ _
  have hval : ∀ (j : Nat) t v, Try.f9.params[j]? = some t → args[j]? = some v → Value.okWide Try.prog W .any base t v := hval0
  have hW' := hW
  obtain ⟨p, q, hA0, hV, rfl, hfz, hnd⟩ := hW
  have hA : DataW.TrodAll enc Try.prog W 0 (fun _ => true) true Try.f9.params.toList args.toList ds p := hA0
  rw [Try.params9] at hA hval
  obtain ⟨v0, v1, v2, d0, d1, d2, p0, p1, p2, rfl, rfl, rfl, h0, h1, h2⟩ := trodAll_three hA
  obtain ⟨rfl, rfl⟩ := trodVars_none hV
  obtain ⟨x0, rfl, rfl, rfl, w0⟩ := open_float Try.underlying22 (hval 0 22 v0 rfl rfl) h0
  obtain ⟨x1, rfl, rfl, rfl, w1⟩ := open_float Try.underlying22 (hval 1 22 v1 rfl rfl) h1
  obtain ⟨x2, rfl, rfl, rfl, w2⟩ := open_float Try.underlying22 (hval 2 22 v2 rfl rfl) h2
  clear hA0 hval0
  simp only [List.append_nil] at hW'
  refine (law_FnExactFMA x0 x1 x2 (wf_f64 w0) (wf_f64 w1) (wf_f64 w2) W).mono fun e W' ⟨he, hb⟩ => ?_
  subst he
  exact ⟨_, rfl, post_plain hb hW' (fun sp => trodAll_mk3 (shut_float Try.underlying22 w0) (shut_float Try.underlying22 w1) (shut_float Try.underlying22 w2)) (fun _ => rfl) (fun _ _ _ => trodAll_mk1 (shut_bool Try.underlying4 _)) (ok_one (by kernel_rfl) rfl (okWide_bool_mk Try.underlying4 true))⟩

theorem fnExactFMA_holds : Rows.FnExactFMASaid :=
  OpenClaim.holds_of_wide 9 Try.f9 rfl rfl rfl rfl rfl rfl rfl ⟨rfl, rfl, rfl, rfl, rfl⟩ rfl rfl rfl rfl rfl (by kernel_rfl) Try.func9 (by kernel_rfl)
    (of_decide_eq_true (by kernel_rfl)) (by unfold Func.isWrapper; rw [if_neg (by decide +kernel)]; exact ⟨rfl, rfl⟩)
    (fun os started H enc _ => lifted_fnExactFMA os started H enc)

end Go.Proofs.Ytjfoiicooleeiaa
