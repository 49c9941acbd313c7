/- The tied card of laws.FnReadTarget: for every input that the row admits the law answers true and leaves its arguments as they were; conditions: those of the given statement, no others. -/
import Derived.Test.YtdgbmbjkbmpcbaaGreatDoorV55
import Derived.Test.YtdgbmbjkbmpcbaaGreatDoorCards
import Derived.Test.YtdgbmbjkbmpcbaaGreatDoorTie
set_option linter.all false
set_option maxRecDepth 100000
namespace Go.Proofs.YtdgbmbjkbmpcbaaGreatDoor
open Go Go.Proofs Go.ChangeShapes Go.WideShapes Go.ChangeAt Go.RowKit Go.Deep Go.Proofs.LL
theorem andJ{a b:Bool}(h1:a=true)(h2:b=true):(a&&b)=true:=by rw[h1,h2];rfl
set_option maxHeartbeats 0 in
theorem j1T:joinedFacts Tryz.prog 3 Tryz.f3 Rows.fnReadTargetSpec Rows.fnReadTargetRow=true:=by
 unfold joinedFacts
 iterate 31 (refine andJ ?_ (by as_aux_lemma=>kernel_rfl))
 as_aux_lemma=>kernel_rfl
theorem fnReadTarget_holds:Rows.FnReadTargetSaid:=
 OpenClaim.holds_of_wide 3 Tryz.f3 rfl rfl rfl rfl rfl rfl rfl ⟨rfl,rfl,rfl,rfl,rfl⟩ rfl rfl rfl rfl rfl (by as_aux_lemma=>kernel_rfl) Tryz.func3 j1T
 (of_decide_eq_true (by as_aux_lemma=>kernel_rfl)) (by unfold Func.isWrapper;first|(rw[if_pos (by decide+kernel)];kernel_rfl)|(rw[if_neg (by decide+kernel)];exact⟨rfl,rfl⟩))
 (fun os started H enc _=>liftedT os started H enc)
theorem fnReadTargetCard_holds:Rows.FnReadTargetCardSaid:=
 Claim7.holds_tied_plain_at .later [] [.data, .sentinel, .pinned] true (true, "6f139b31290e7107c1bdc2c50f53b9a4722e63fc43c167518a225bbc2a1fc151") true
  fnReadTarget_holds (fun _ h=>by cases h) (by as_aux_lemma=>kernel_rfl) (fun _ h=>by cases h) fnReadTarget_row_tie rfl ⟨rfl,rfl⟩ (by as_aux_lemma=>kernel_rfl) rfl
  (fun f fn hf hfn=>by
   obtain rfl : f = 3 := Option.some.inj ((show Tryz.prog.funcNamed "given.example/pub-saddlebag/laws.FnReadTarget" = some 3 by as_aux_lemma => kernel_rfl).symm.trans hf) |>.symm
   obtain rfl:fn=Tryz.f3:=(Option.some.inj (Tryz.func3.symm.trans hfn)).symm
   exact⟨by as_aux_lemma=>kernel_rfl,fun j t ht=>by
    rw[Tryz.params3]at ht
    have hm:t∈[26,27,28]:=by simpa using Array.mem_of_getElem? ht
    have hall:([26,27,28].all fun u=> !Tryz.prog.wantsStandIn u)=true:=by as_aux_lemma=>kernel_rfl
    exact(show Tryz.prog.wantsStandIn t=false by simpa using List.all_eq_true.1 hall t hm)⟩)
  (by as_aux_lemma=>kernel_rfl)
#print axioms fnReadTargetCard_holds
end Go.Proofs.YtdgbmbjkbmpcbaaGreatDoor
