/- Contracts of functions and own laws. Conditions: those that each theorem states. -/
import Derived.Test.YtbkhpjeaacoobaaGreatDoorA40
import Derived.Test.YtbkhpjeaacoobaaGreatDoorRows
import Derived.Lib.LaidU8T
import Derived.Lay
import Derived.ChangeAlike
import Derived.JoinedOf
import Derived.ChangeVars
import Derived.ChangeOld
set_option linter.all false
set_option maxRecDepth 100000
namespace Go.Proofs.YtbkhpjeaacoobaaGreatDoor
open Go Go.Proofs Go.ChangeShapes Go.WideShapes Go.ChangeAt Go.RowKit Go.Deep Go.Proofs.LL
theorem own:ownKnob Tryz.prog.godebug=Option.none:=by kernel_rfl
theorem kids:Kids Tryz.prog (· <Tryz.prog.types.size):=kids_rows (by kernel_rfl) (by kernel_rfl)
theorem full:∀t e,t<Tryz.prog.types.size→Tryz.prog.underlying t=some (.slice e)→0<Tryz.prog.cellsOf e:=slices_full_of Tryz.prog (by kernel_rfl)
abbrev laid3:List (String×DataW Unit):=Rows.fnToJSONRow.laid
theorem first_eq:Rows.laid_unicode_utf8_first=Lib.firstData:=by kernel_rfl
theorem accept_eq:(Rows.laid_unicode_utf8_acceptRanges:DataW Unit)=Lib.acceptData:=by kernel_rfl
theorem pow_eq:(Rows.laid_internal_strconv_uint64pow10:DataW Unit)=Lib.tabData .u64 Lib.pow10Tab:=by kernel_rfl
theorem var_cells{P:Program}{W:World}{n:String}{g:Nat}{cs:Array Value}(hg:P.globalNamed n=some g)(h:W.var? P n=some cs):∃T f,W.heap[g]?=some (.cells cs T f):=by
  unfold World.var? at h
  rw[hg,Option.bind_some]at h
  split at h
  · rename_i c t fr hb
    simp only[Option.some.injEq]at h
    subst h
    exact⟨_,_,hb⟩
  · cases h
theorem pt_reads {W : World} (h : Lib.VarReads Tryz.prog W "internal/strconv.uint64pow10" (Lib.tabData .u64 Lib.pow10Tab)) : PT W := by
  obtain⟨g,t,cs,fuel,p,hg,hty,hvar,hd⟩:=h
  obtain rfl : g = 7 := Option.some.inj (hg.symm.trans (show Tryz.prog.globalNamed "internal/strconv.uint64pow10" = some 7 by kernel_rfl))
  obtain rfl:t=210:=Option.some.inj (hty.symm.trans (show(Tryz.prog.globals[7]?).map (·.type)=some 210 by kernel_rfl))
  have hcs:=Lib.cells_of_tab (n:=20) (e:=22) (show Tryz.prog.underlying 210=some (.array 20 22) by kernel_rfl) Tryz.underlying22 c22 (by kernel_rfl) hd
  obtain⟨T,f,hb⟩:=var_cells hg hvar
  refine⟨T,f,?_⟩
  rw[hb,← hcs,Array.toArray_toList]
theorem ut_pt_of{W:World}(h:laidMetH Tryz.prog laid3 W):UT W∧PT W:=by
  rw[MakeChecks.laidMetH_plain _ _ _ (by kernel_rfl)]at h
  have h3 : Lib.VarReads Tryz.prog W "unicode/utf8.first" Lib.firstData := first_eq ▸ Lib.laidMet.reads h (.tail _ (.tail _ (.tail _ (.tail _ (.tail _ (.tail _ (.tail _ (.tail _ (.tail _ (.head _))))))))))
  have h4 : Lib.VarReads Tryz.prog W "unicode/utf8.acceptRanges" Lib.acceptData := accept_eq ▸ Lib.laidMet.reads h (.tail _ (.tail _ (.tail _ (.tail _ (.head _)))))
  have h5 : Lib.VarReads Tryz.prog W "internal/strconv.uint64pow10" (Lib.tabData .u64 Lib.pow10Tab) := pow_eq ▸ Lib.laidMet.reads h (.tail _ (.tail _ (.tail _ (.head _))))
  exact⟨utf8Tabs_of_readsT (ρ:=Tryz.lays196_ren) (U8Types.of196 Tryz.lays196) ⟨by kernel_rfl,by kernel_rfl,by kernel_rfl,by kernel_rfl,by kernel_rfl,by kernel_rfl,by kernel_rfl⟩ h3 h4,pt_reads h5⟩
theorem sameAt_ext{w w':World}(h:Ext w w'){p:MemPlace}(hp:p.block<w.heap.size):w.sameAt w' p:=by
  cases p with
  |cell b off=>exact World.cell?_of_block (h.block b hp trivial)
  |map b=>exact h.block b hp trivial
theorem trodAll_carry{H:Type}{enc:TypeId×Value→H}{P:Program}{w w':World}{base:Nat}{sp:Nat→Bool}{held:Bool}:∀ {ts:List TypeId} {vs:List Value} {ds:List (DataW H)} {ps:List MemPlace},DataW.TrodAll enc P w base sp held ts vs ds ps→(∀p∈ps,w.sameAt w' p)→DataW.TrodAll enc P w' base sp held ts vs ds ps
  |[],[],[],_,h,_=>h
  |_::_,_::_,_::_,_,⟨p,q,⟨n,h1⟩,h2,e⟩,hs=>⟨p,q,⟨n,DataW.trod_carry n _ _ _ h1 fun x hx=>hs x (by rw[e];exact List.mem_append_left _ hx)⟩,trodAll_carry h2 fun x hx=>hs x (by rw[e];exact List.mem_append_right _ hx),e⟩
theorem gtys{g:Nat}{t:TypeId}(h:(Tryz.prog.globals[g]?).map (·.type)=some t):t<Tryz.prog.types.size:=by
  have ha:(Tryz.prog.globals.toList.all fun x=>decide (x.type<Tryz.prog.types.size))=true:=by kernel_rfl
  obtain⟨x,hx,rfl⟩:=Option.map_eq_some_iff.1 h
  have hm:x∈Tryz.prog.globals.toList:=by simpa using Array.mem_of_getElem? hx
  exact of_decide_eq_true (List.all_eq_true.1 ha x hm)
theorem var_ext{P:Program}{w w':World}(h:Ext w w'){n:String}{cs:Array Value}(hv:w.var? P n=some cs):w'.var? P n=some cs:=by
  unfold World.var? at hv⊢
  cases hg:P.globalNamed n with
  |none=>simp[hg]at hv
  |some g=>
    simp only[hg,Option.bind_some]at hv⊢
    cases hb:w.heap[g]? with
    |none=>rw[hb]at hv;cases hv
    |some o=>
      have hlt:g<w.heap.size:=(Array.getElem?_eq_some_iff.1 hb).1
      rw[h.block g hlt trivial]
      exact hv
theorem trodVars_carry{H:Type}{enc:TypeId×Value→H}{w w':World}(h:Ext w w'):∀ {ns:List String} {ds:List (DataW H)} {ps:List MemPlace},DataW.TrodVars enc Tryz.prog w (fun _=>true) ns ds ps→(∀p∈ps,p.block<w.heap.size)→DataW.TrodVars enc Tryz.prog w' (fun b=>decide (b<w.heap.size)) ns ds ps
  |[],[],_,hh,_=>hh
  |_::_,_::_,_,⟨g,t,cs,fuel,p,q,h1,h2,h3,h4,hs,e⟩,hlt=>by
    have h5:DataW.Trod enc Tryz.prog w 0 (fun _=>true) true t (.agg cs) _ p:=⟨fuel,h4⟩
    obtain⟨fuel',h7⟩:=h5.respare kids full (gtys h2) (spare':=fun b=>decide (b<w.heap.size)) (fun x hx=>decide_eq_true (hlt x (by rw[e];exact List.mem_append_left _ (List.mem_append_right _ hx))))
    have h8:=DataW.trod_carry fuel' _ _ _ h7 fun x hx=>sameAt_ext h (hlt x (by rw[e];exact List.mem_append_left _ (List.mem_append_right _ hx)))
    exact⟨g,t,cs,fuel',p,q,h1,h2,var_ext h h3,h8,trodVars_carry h hs fun x hx=>hlt x (by rw[e];exact List.mem_append_right _ hx),e⟩
theorem kept_ext{w w':World}(h:Ext w w')(may:MemPlace→Prop):w.keptBut w' may:=
  World.keptBut_mono (may:=fun _=>False) (fun _ h=>h.elim) (World.keptBut_none_iff.2 ⟨h.os,h.output,fun i hi=>h.block i hi trivial⟩)
theorem post_ext{H:Type}{enc:TypeId×Value→H}{fn:Func}{s:ChangeSpec}{W W':World}{args:Array Value}{ds gs:List (DataW H)}{before p q:List MemPlace}(hW:DataW.Whole enc Tryz.prog fn.params.toList s.vars false W args.toList ds gs before)
    (hA:DataW.TrodAll enc Tryz.prog W 0 (fun _=>true) true fn.params.toList args.toList ds p) (hV:DataW.TrodVars enc Tryz.prog W (fun _=>true) s.vars gs q) (hT:∀t∈fn.params.toList,t<Tryz.prog.types.size) (hr:fn.resultTypes= #[4]) (hs:s.fn H (ds++gs)= {results:=[.lit (.bool true)],args:=ds,vars:=gs}) (hE:Ext W W'):
    s.post enc Tryz.prog fn false true false false W args (.bool true) W':=by
  have hlt:=hA.lt
  have hlv:=hV.lt
  refine⟨ds,gs,before,[],p,q,hW,?_,?_,?_,kept_ext hE _,fun h=>by cases h⟩
  · rw[hr,hs];exact trodAll_mk1 (shut_bool Tryz.underlying4 _)
  · rw[hs]
    exact trodAll_carry (DataW.TrodAll.respare kids full hT hA fun p hp=>decide_eq_true (hlt p hp)) fun p hp=>sameAt_ext hE (hlt p hp)
  · rw[hs];exact trodVars_carry hE hV hlv
theorem lifted(os:Os)(started:os.Started)(H:Type)(enc:TypeId×Value→H):
    ReturnsInHanded {} Tryz.checked os 3 .any (fun w args=>(Rows.fnToJSONSpec.pre enc Tryz.prog Tryz.f3 [] false w args∧laidMetH Tryz.prog laid3 w)∧sizedMet enc Tryz.prog Tryz.f3 (OpenSpec.ofChange Rows.fnToJSONSpec) false w args)
      (Rows.fnToJSONSpec.post enc Tryz.prog Tryz.f3 false true false false):=by
  refine returnsInHanded_of_change_and (C:=Tryz.checked) (X:=fun w _=>laidMetH Tryz.prog laid3 w) (fun _ _ _ hh h=>h.of_heap hh) own started (by kernel_rfl) Tryz.func3
    (ChangeSpec.witness_shaped (enc:=enc) (C:=Tryz.checked) (os:=os) (X:=fun w _=>laidMetH Tryz.prog laid3 w) false (World.laidAll Tryz.prog os laid3) #[.agg #[.int .i64 0,.int .u64 0,.string ⟨#[]⟩,.int .i64 0,.slice Option.none 0 0],.int .u64 0] 8 (World.laidAll_os _ _ _)
      (World.shaped_of_ZipB (by kernel_rfl) (by kernel_rfl)) (by kernel_rfl) (by kernel_rfl) (by kernel_rfl)
      (by rw[MakeChecks.laidMetH_plain _ _ _ (by kernel_rfl)];exact laidMet_laidAll _ (by kernel_rfl) (by kernel_rfl))) ?_
  intro W base args ds gs before hval0 hW hc _ hL _
  have hW':=hW
  obtain⟨p,q,hA0,hV,rfl,_,_⟩:=hW
  obtain⟨g0,t0,cs0,f0,e0,p0',g1,t1,cs1,f1,e1,p1',rfl,_⟩:=trodVars_two hV
  have hA:DataW.TrodAll enc Tryz.prog W 0 (fun _=>true) true Tryz.f3.params.toList args.toList ds p:=hA0
  have hA2:=hA
  rw[Tryz.params3]at hA2
  obtain⟨v0,v1,d0,d1,p0,p1,rfl,rfl,rfl,⟨n0,h0⟩,⟨n1,h1⟩⟩:=trodAll_two hA2
  have hval:∀(j:Nat) t v,Tryz.f3.params[j]?=some t→ #[v0,v1][j]?=some v→Value.okWide Tryz.prog W .any base t v:=hval0
  obtain⟨a0,rfl,_⟩:=okWide_struct Tryz.underlying25 (hval 0 25 v0 (by rw[Tryz.params3];rfl) rfl)
  obtain⟨z,rfl,rfl,rfl,wz⟩:=open_int Tryz.underlying22 (hval 1 22 v1 (by rw[Tryz.params3];rfl) rfl) ⟨n1,h1⟩
  obtain⟨x,hR,hN⟩:=open_P _ _ _ h0
  have ea:a0=(Value.agg a0).cells.toList.toArray:=by simp[Value.cells]
  obtain⟨hU,hP⟩:=ut_pt_of hL
  have hlaw:=law_js hR hN (wfu64 wz).1 (wfu64 wz).2 hU hP
  rw[← ea]at hlaw
  refine hlaw.calls.mono fun e W' ⟨v,he,hv,hE⟩=>?_
  subst he hv
  exact⟨_,rfl,post_ext hW' hA hV (by rw[Tryz.params3];decide) rfl rfl hE⟩
end Go.Proofs.YtbkhpjeaacoobaaGreatDoor
