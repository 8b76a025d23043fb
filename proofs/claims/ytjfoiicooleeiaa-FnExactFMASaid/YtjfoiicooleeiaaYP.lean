/- The row's last step for a law on plain data whose call made memory of its own; condition: what was there before the call is as it was. -/
import Derived.Below
import Derived.ChangeSame
namespace Go.Proofs.Ytjfoiicooleeiaa
open Go.RowKit Go.WideShapes Go.ChangeShapes
/-- no argument and no variable has a place in memory: all that is asked of old memory is the frame -/
theorem post_plain {H : Type} {enc : TypeId × Value → H} {P : Program} {f : Func} {s : ChangeSpec} {apart fresh handsOn again : Bool} {W W' : World} {args : Array Value} {v : Value} {ds gs : List (DataW H)}
    (hb : Below W.heap.size W W') (hW : DataW.Whole enc P f.params.toList s.vars apart W args.toList ds gs [])
    (hargs : ∀ sp : Nat → Bool, DataW.TrodAll enc P W' 0 sp true f.params.toList args.toList (s.fn H (ds ++ gs)).args [])
    (hvars : ∀ sp : Nat → Bool, DataW.TrodVars enc P W' sp s.vars (s.fn H (ds ++ gs)).vars [])
    (hres : ∀ (b : Nat) (sp : Nat → Bool) (hd : Bool), DataW.TrodAll enc P W' b sp hd f.resultTypes.toList (v.resultList f.resultTypes.size) (s.fn H (ds ++ gs)).results [])
    (hok : ∀ (j : Nat) (t : TypeId) (r : Value), f.resultTypes[j]? = some t → (v.resultList f.resultTypes.size)[j]? = some r → Value.okWide P W' .any 0 t r) :
    s.post enc P f apart fresh handsOn again W args v W' := by
  refine ⟨ds, gs, [], [], [], [], hW, hres _ _ _, hargs _, hvars _, hb.frame _, fun _ => ⟨hok, _, _, [], ⟨[], [], trodAll_append (hargs _) (hres _ _ _), hvars _, rfl, ?_, ?_⟩, ?_⟩⟩
  · intro b off h; cases h
  · intro _; simp
  · intro p h; cases h
end Go.Proofs.Ytjfoiicooleeiaa
