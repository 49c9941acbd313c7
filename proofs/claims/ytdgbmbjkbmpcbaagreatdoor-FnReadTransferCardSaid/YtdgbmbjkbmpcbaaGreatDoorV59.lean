/- Contracts of functions and own laws. Conditions: those that each theorem states. -/
import Derived.Test.YtdgbmbjkbmpcbaaGreatDoorV58
set_option linter.all false
set_option autoImplicit true
set_option relaxedAutoImplicit true
set_option maxRecDepth 100000
namespace Go.Proofs.YtdgbmbjkbmpcbaaGreatDoor
open Go Go.Proofs Go.ChangeShapes Go.WideShapes Go.ChangeAt Go.RowKit Go.Deep Go.Proofs.LL
theorem andK{a b:Bool}(h1:a=true)(h2:b=true):(a&&b)=true:=by rw[h1,h2];rfl
set_option maxHeartbeats 0 in
theorem j1X:joinedFacts Tryz.prog 4 Tryz.f4 Rows.fnReadTransferSpec Rows.fnReadTransferRow=true:=by
 unfold joinedFacts
 iterate 31 (refine andK ?_ (by as_aux_lemma=>kernel_rfl))
 as_aux_lemma=>kernel_rfl
theorem fnReadTransfer_holds:Rows.FnReadTransferSaid:=
 OpenClaim.holds_of_wide 4 Tryz.f4 rfl rfl rfl rfl rfl rfl rfl ⟨rfl,rfl,rfl,rfl,rfl⟩ rfl rfl rfl rfl rfl (by as_aux_lemma=>kernel_rfl) Tryz.func4 j1X
 (of_decide_eq_true (by as_aux_lemma=>kernel_rfl)) (by unfold Func.isWrapper;first|(rw[if_pos (by decide+kernel)];kernel_rfl)|(rw[if_neg (by decide+kernel)];exact⟨rfl,rfl⟩))
 (fun os started H enc _=>liftedX os started H enc)
end Go.Proofs.YtdgbmbjkbmpcbaaGreatDoor
