/- The tied card of laws.FnReadTransfer: for every input that the row admits the law answers true and leaves its arguments as they were; conditions: those of the given statement, no others. -/
import Derived.Test.YtdgbmbjkbmpcbaaGreatDoorV59
import Derived.Test.YtdgbmbjkbmpcbaaGreatDoorCards
import Derived.Test.YtdgbmbjkbmpcbaaGreatDoorTie
set_option linter.all false
set_option autoImplicit true
set_option relaxedAutoImplicit true
set_option maxRecDepth 100000
namespace Go.Proofs.YtdgbmbjkbmpcbaaGreatDoor
open Go Go.Proofs Go.ChangeShapes Go.WideShapes Go.ChangeAt Go.RowKit Go.Deep Go.Proofs.LL
theorem fnReadTransferCard_holds:Rows.FnReadTransferCardSaid:=
 Claim7.holds_tied_plain_at .later [] [.data, .sentinel, .pinned] true (true, "6f139b31290e7107c1bdc2c50f53b9a4722e63fc43c167518a225bbc2a1fc151") true
  fnReadTransfer_holds (fun _ h=>by cases h) (by as_aux_lemma=>kernel_rfl) (fun _ h=>by cases h) fnReadTransfer_row_tie rfl ⟨rfl,rfl⟩ (by as_aux_lemma=>kernel_rfl) rfl
  (fun f fn hf hfn=>by
   obtain rfl : f = 4 := Option.some.inj ((show Tryz.prog.funcNamed "given.example/pub-saddlebag/laws.FnReadTransfer" = some 4 by as_aux_lemma => kernel_rfl).symm.trans hf) |>.symm
   obtain rfl:fn=Tryz.f4:=(Option.some.inj (Tryz.func4.symm.trans hfn)).symm
   exact⟨by as_aux_lemma=>kernel_rfl,fun j t ht=>by
    rw[Tryz.params4]at ht
    have hm:t∈[47,27]:=by simpa using Array.mem_of_getElem? ht
    have hall:([47,27].all fun u=> !Tryz.prog.wantsStandIn u)=true:=by as_aux_lemma=>kernel_rfl
    exact(show Tryz.prog.wantsStandIn t=false by simpa using List.all_eq_true.1 hall t hm)⟩)
  (by as_aux_lemma=>kernel_rfl)
#print axioms fnReadTransferCard_holds
end Go.Proofs.YtdgbmbjkbmpcbaaGreatDoor
