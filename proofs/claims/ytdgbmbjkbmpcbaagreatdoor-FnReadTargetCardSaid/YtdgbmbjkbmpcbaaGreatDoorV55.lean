/- Own laws of frames, operations and loops, and contracts of functions of the program. Conditions: those that each theorem states. -/
import Derived.Test.YtdgbmbjkbmpcbaaGreatDoorV54
set_option linter.all false
set_option maxRecDepth 100000
namespace Go.Proofs.YtdgbmbjkbmpcbaaGreatDoor
open Go Go.Proofs Go.ChangeShapes Go.WideShapes Go.ChangeAt Go.RowKit Go.Deep Go.Proofs.LL
set_option maxHeartbeats 4000000
attribute [local irreducible] RunOp WL WC WDL WT WX
theorem own:ownKnob Tryz.prog.godebug=Option.none:=by kernel_rfl
theorem kids:Kids Tryz.prog (· <Tryz.prog.types.size):=kids_rows (by kernel_rfl) (by kernel_rfl)
theorem full:∀t e,t<Tryz.prog.types.size→Tryz.prog.underlying t=some (.slice e)→0<Tryz.prog.cellsOf e:=slices_full_of Tryz.prog (by kernel_rfl)
abbrev laid3:List (String×DataW Unit):=Rows.fnReadEndRow.laid
theorem first_eq:Rows.laid_unicode_utf8_first=Lib.firstData:=by kernel_rfl
theorem accept_eq:(Rows.laid_unicode_utf8_acceptRanges:DataW Unit)=Lib.acceptData:=by kernel_rfl
theorem ut_of{W:World}(h:laidMetH Tryz.prog laid3 W):UT W:=by
 rw[MakeChecks.laidMetH_plain _ _ _ (by kernel_rfl)]at h
 have h3 : Lib.VarReads Tryz.prog W "unicode/utf8.first" Lib.firstData := first_eq ▸ Lib.laidMet.reads h (.tail _ (.tail _ (.head _)))
 have h4 : Lib.VarReads Tryz.prog W "unicode/utf8.acceptRanges" Lib.acceptData := accept_eq ▸ Lib.laidMet.reads h (.head _)
 exact utf8Tabs_of_readsT (ρ:=Tryz.lays196_ren) (U8Types.of196 Tryz.lays196) ⟨by kernel_rfl,by kernel_rfl,by kernel_rfl,by kernel_rfl,by kernel_rfl,by kernel_rfl,by kernel_rfl⟩ h3 h4
theorem sameAt_ext{w w':World}(h:Ext w w'){p:MemPlace}(hp:p.block<w.heap.size):w.sameAt w' p:=by
 cases p with
 |cell b off=>exact World.cell?_of_block (h.block b hp trivial)
 |map b=>exact h.block b hp trivial
theorem trodAll_carry{H:Type}{enc:TypeId×Value→H}{P:Program}{w w':World}{base:Nat}{sp:Nat→Bool}{held:Bool}:∀ {ts:List TypeId} {vs:List Value} {ds:List (DataW H)} {ps:List MemPlace},DataW.TrodAll enc P w base sp held ts vs ds ps→(∀p∈ps,w.sameAt w' p)→DataW.TrodAll enc P w' base sp held ts vs ds ps
 |[],[],[],_,h,_=>h
 |_::_,_::_,_::_,_,⟨p,q,⟨n,h1⟩,h2,e⟩,hs=>⟨p,q,⟨n,DataW.trod_carry n _ _ _ h1 fun x hx=>hs x (by rw[e];exact List.mem_append_left _ hx)⟩,trodAll_carry h2 fun x hx=>hs x (by rw[e];exact List.mem_append_right _ hx),e⟩
theorem kept_ext{w w':World}(h:Ext w w')(may:MemPlace→Prop):w.keptBut w' may:=
 World.keptBut_mono (may:=fun _=>False) (fun _ h=>h.elim) (World.keptBut_none_iff.2 ⟨h.os,h.output,fun i hi=>h.block i hi trivial⟩)
theorem post_ext{H:Type}{enc:TypeId×Value→H}{fn:Func}{s:ChangeSpec}{W W':World}{args:Array Value}{ds:List (DataW H)}{before:List MemPlace}(hW:DataW.Whole enc Tryz.prog fn.params.toList s.vars false W args.toList ds [] before)
  (hA:DataW.TrodAll enc Tryz.prog W 0 (fun _=>true) true fn.params.toList args.toList ds before) (hT:∀t∈fn.params.toList,t<Tryz.prog.types.size) (hr:fn.resultTypes= #[4]) (hs:s.fn H (ds++[])= {results:=[.lit (.bool true)],args:=ds,vars:=[]}) (hv:s.vars=[]) (hE:Ext W W'):
  s.post enc Tryz.prog fn false true false false W args (.bool true) W':=by
 have hlt:=hA.lt
 refine⟨ds,[],before,[],before,[],hW,?_,?_,?_,kept_ext hE _,fun h=>by cases h⟩
 ·rw[hr,hs];exact trodAll_mk1 (shut_bool Tryz.underlying4 _)
 ·rw[hs]
  exact trodAll_carry (DataW.TrodAll.respare kids full hT hA fun p hp=>decide_eq_true (hlt p hp)) fun p hp=>sameAt_ext hE (hlt p hp)
 ·rw[hs,hv];rfl
end Go.Proofs.YtdgbmbjkbmpcbaaGreatDoor
namespace Go.Proofs.YtdgbmbjkbmpcbaaGreatDoor
open Go Go.Proofs Go.ChangeShapes Go.WideShapes Go.ChangeAt Go.RowKit Go.Deep Go.Proofs.LL
theorem liftedT(os:Os)(started:os.Started)(H:Type)(enc:TypeId×Value→H):
  ReturnsInHanded {} Tryz.checked os 3 .any (fun w args=>(Rows.fnReadTargetSpec.pre enc Tryz.prog Tryz.f3 [] false w args∧laidMetH Tryz.prog laid3 w)∧sizedMet enc Tryz.prog Tryz.f3 (OpenSpec.ofChange Rows.fnReadTargetSpec) false w args)
   (Rows.fnReadTargetSpec.post enc Tryz.prog Tryz.f3 false true false false):=by
 refine returnsInHanded_of_change_and (C:=Tryz.checked) (X:=fun w _=>laidMetH Tryz.prog laid3 w) (fun _ _ _ hh h=>h.of_heap hh) own started (by kernel_rfl) Tryz.func3
  (ChangeSpec.witness_shaped (enc:=enc) (C:=Tryz.checked) (os:=os) (X:=fun w _=>laidMetH Tryz.prog laid3 w) false (World.laidAll Tryz.prog os laid3) #[.agg #[.string ⟨#[]⟩,.int .u32 0,.string ⟨#[]⟩,.int .u32 0,.bool false,.slice Option.none 0 0,.slice Option.none 0 0],.int .u64 0,.slice Option.none 0 0] 8 (World.laidAll_os _ _ _)
   (World.shaped_of_ZipB (by kernel_rfl) (by kernel_rfl)) (by kernel_rfl) (by kernel_rfl) (by kernel_rfl)
   (by rw[MakeChecks.laidMetH_plain _ _ _ (by kernel_rfl)];exact laidMet_laidAll _ (by kernel_rfl) (by kernel_rfl))) ?_
 intro W base args ds gs before hval0 hW hc _ hL _
 have hW':=hW
 obtain⟨p,q,hA0,hV,rfl,_,_⟩:=hW
 obtain⟨rfl,rfl⟩:=trodVars_none hV
 simp only[List.append_nil]at hW'
 have hA:DataW.TrodAll enc Tryz.prog W 0 (fun _=>true) true Tryz.f3.params.toList args.toList ds p:=hA0
 have hA3:=hA
 rw[Tryz.params3]at hA3
 obtain⟨v0,v1,v2,d0,d1,d2,p0,p1,p2,rfl,rfl,rfl,⟨n0,h0⟩,⟨n1,h1⟩,⟨n2,h2⟩⟩:=trodAll_three hA3
 have hval:∀(j:Nat) t v,Tryz.f3.params[j]?=some t→ #[v0,v1,v2][j]?=some v→Value.okWide Tryz.prog W .any base t v:=hval0
 obtain⟨a0,rfl,_⟩:=okWide_struct Tryz.underlying26 (hval 0 26 v0 (by rw[Tryz.params3];rfl) rfl)
 obtain⟨a2,l2,k2,rfl⟩:=okWide_slice Tryz.underlying28 (hval 2 28 v2 (by rw[Tryz.params3];rfl) rfl)
 obtain⟨z,rfl,rfl,rfl,wz⟩:=open_int Tryz.underlying27 (hval 1 27 v1 (by rw[Tryz.params3];rfl) rfl) ⟨n1,h1⟩
 obtain⟨addr,exp,dur,tmo,dyn,node,caps,p',pc,cp,cc,e0,hd,ht,hK,hS⟩:=pB h0
 obtain⟨q2,c2,sb,e2,hB⟩:=nQ h2
 have e0':a0= #[str addr,.int .u32 (dur:Int),str exp,.int .u32 (tmo:Int),.bool dyn,.slice p' node.length cp,.slice pc caps.length cc]:=by
  have h:a0.toList=_:=e0
  rw[← Array.toArray_toList (xs:=a0),h]
 simp only[Value.cells,List.cons.injEq,and_true,Value.slice.injEq]at e2
 obtain⟨rfl,rfl,rfl⟩:=e2
 subst e0'
 refine(nW hK hS hd ht hB (oJ wz) (ut_of hL)).calls.mono fun e W' ⟨v,he,hv,hE⟩=>?_
 subst he hv
 exact⟨_,rfl,post_ext hW' hA (by rw[Tryz.params3];decide) rfl rfl rfl hE⟩
end Go.Proofs.YtdgbmbjkbmpcbaaGreatDoor
