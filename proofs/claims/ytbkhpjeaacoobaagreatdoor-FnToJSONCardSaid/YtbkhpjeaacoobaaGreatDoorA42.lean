/- Contracts of functions and own laws. Conditions: those that each theorem states. -/
import Derived.Test.YtbkhpjeaacoobaaGreatDoorA41
set_option linter.all false
set_option maxRecDepth 100000
namespace Go.Proofs.YtbkhpjeaacoobaaGreatDoor
open Go Go.Proofs Go.ChangeShapes Go.WideShapes Go.ChangeAt Go.RowKit Go.Deep Go.Proofs.LL
theorem andJ{a b:Bool}(h1:a=true)(h2:b=true):(a&&b)=true:=by rw[h1,h2];rfl
set_option maxHeartbeats 0 in
theorem jfacts:joinedFacts Tryz.prog 3 Tryz.f3 Rows.fnToJSONSpec Rows.fnToJSONRow=true:=by
 unfold joinedFacts
 iterate 31 (refine andJ ?_ (by as_aux_lemma=>kernel_rfl))
 as_aux_lemma=>kernel_rfl
theorem fnToJSON_holds:Rows.FnToJSONSaid:=
 OpenClaim.holds_of_wide 3 Tryz.f3 rfl rfl rfl rfl rfl rfl rfl ⟨rfl,rfl,rfl,rfl,rfl⟩ rfl rfl rfl rfl rfl (by as_aux_lemma=>kernel_rfl) Tryz.func3 jfacts
  (of_decide_eq_true (by as_aux_lemma=>kernel_rfl)) (by unfold Func.isWrapper;first|(rw[if_pos (by decide+kernel)];kernel_rfl)|(rw[if_neg (by decide+kernel)];exact⟨rfl,rfl⟩))
  (fun os started H enc _=>lifted os started H enc)
end Go.Proofs.YtbkhpjeaacoobaaGreatDoor
