/- The tied card of laws.FnToJSON: for every input that the row admits the law answers true and leaves its arguments as they were; conditions: those of the given statement, no others. -/
import Derived.Test.YtbkhpjeaacoobaaGreatDoorA42
import Derived.Test.YtbkhpjeaacoobaaGreatDoorCards
import Derived.Test.YtbkhpjeaacoobaaGreatDoorTie
set_option linter.all false
set_option maxRecDepth 100000
namespace Go.Proofs.YtbkhpjeaacoobaaGreatDoor
open Go Go.Proofs Go.ChangeShapes Go.WideShapes Go.ChangeAt Go.RowKit Go.Deep Go.Proofs.LL
theorem fnToJSONCard_holds:Rows.FnToJSONCardSaid:=
 Claim7.holds_tied_plain_at .later [] [.data, .data, .data, .data, .data, .wider, .wider, .pinned, .pinned, .pinned] true (true, "e3eb78f4265b536b8f407744c61299c32c8047f216c4569a7993e400976b55e0") true
  fnToJSON_holds (fun _ h=>by cases h) (by as_aux_lemma=>kernel_rfl) (fun _ h=>by cases h) fnToJSON_row_tie rfl ⟨rfl,rfl⟩ (by as_aux_lemma=>kernel_rfl) rfl
  (fun f fn hf hfn=>by
   obtain rfl : f = 3 := Option.some.inj ((show Tryz.prog.funcNamed "given.example/pub-saddlebag/laws.FnToJSON" = some 3 by as_aux_lemma => kernel_rfl).symm.trans hf) |>.symm
   obtain rfl:fn=Tryz.f3:=(Option.some.inj (Tryz.func3.symm.trans hfn)).symm
   exact⟨by as_aux_lemma=>kernel_rfl,fun j t ht=>by
    rw[Tryz.params3]at ht
    have hm:t∈[25,22]:=by simpa using Array.mem_of_getElem? ht
    have hall:([25,22].all fun u=> !Tryz.prog.wantsStandIn u)=true:=by as_aux_lemma=>kernel_rfl
    exact(show Tryz.prog.wantsStandIn t=false by simpa using List.all_eq_true.1 hall t hm)⟩)
  (by as_aux_lemma=>kernel_rfl)
#print axioms fnToJSONCard_holds
end Go.Proofs.YtbkhpjeaacoobaaGreatDoor
