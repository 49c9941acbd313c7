/- Contracts of functions of impl, spec and laws. Conditions: those that each theorem states. -/
import Derived.Test.YtdgbmbjkbmpcbaaGreatDoorW51
import Derived.Test.YtdgbmbjkbmpcbaaGreatDoorRows
import Derived.ProofKit
import Derived.OpenShut
import Derived.LaidMore
import Derived.ReadAgain
import Derived.ChangeSame
import Derived.Stop.Joined
import Derived.Lib.LaidU8T
import Derived.Lay
import Derived.ChangeAlike
import Derived.JoinedOf
set_option linter.all false
set_option maxRecDepth 100000
namespace Go.Proofs.LL
open Go Go.Proofs Go.RowKit
set_option maxHeartbeats 4000000
attribute [local irreducible] RunOp WL WC WDL WT WX
theorem c87:Tryz.prog.cellsOf 87=6:=by kernel_rfl
theorem c55:Tryz.prog.cellsOf 55=3:=by kernel_rfl
theorem c3:Tryz.prog.cellsOf 3=1:=by kernel_rfl
theorem c9:Tryz.prog.cellsOf 9=1:=by kernel_rfl
theorem c23:Tryz.prog.cellsOf 23=1:=by kernel_rfl
theorem c27:Tryz.prog.cellsOf 27=1:=by kernel_rfl
theorem cell5:Tryz.prog.cellsOf 5=1:=by kernel_rfl
theorem wfu64{z:Int}(h:(Lit.int .u64 z).wf=true):0≤z∧z<18446744073709551616:=by
 simp[Lit.wf,IntKind.min,IntKind.max,IntKind.signed,IntKind.bits]at h
 omega
section
variable {H:Type} {enc:TypeId×Value→H} {w:World} {base:Nat} {spare:Nat→Bool} {held:Bool}
theorem row_at{a:Addr}{z len:Nat}{Q:List Value→Prop}(hz:0<z)(h:∀i,i<len→∃cs,w.cells? base (a.add (i * z)) z=some cs∧Q cs)(h0:0<len):
  ∃b o,a=⟨b,o,none⟩∧b<w.heap.size∧∀i,i<len→∃cs,cs.length=z∧At w b (o+i * z) cs∧Q cs:=by
 obtain⟨b,o,spot⟩:=a
 obtain⟨cs,h1,h2⟩:=h 0 h0
 obtain⟨_,hl,hc⟩:=World.cells?_some h1
 have hc0:=hc 0 hz
 have hsp:spot=none:=by
  rw[List.getElem?_eq_getElem (by omega)]at hc0
  have:=World.cell?_spot hc0
  simpa[Addr.add]using this
 subst hsp
 refine⟨b,o,rfl,?_,fun i hi=>?_⟩
 ·rw[List.getElem?_eq_getElem (by omega),Nat.zero_mul,Addr_add,Addr_add]at hc0
  exact lt_of_cell hc0
 ·obtain⟨cs',h3,h4⟩:=h i hi
  obtain⟨_,hl',hc'⟩:=World.cells?_some h3
  refine⟨cs',hl',fun j hj=>?_,h4⟩
  have:=hc' j (by omega)
  rw[Addr_add,Addr_add]at this
  exact this
theorem At.app{b o:Nat}{c d:List Value}(h:At w b o c)(h':At w b (o+c.length) d):At w b o (c++d):=fun j hj=>by
 rcases Nat.lt_or_ge j c.length with h1|h1
 ·rw[h j h1,List.getElem?_append_left h1]
 ·have:=h' (j-c.length) (by rw[List.length_append]at hj;omega)
  rw[List.getElem?_append_right h1,← this]
  congr 2;omega
theorem rows_V{b o len:Nat}(h:∀i,i<len→∃cs,cs.length=6∧At w b (o+i * 6) cs∧∃V,RepV (fun b=>b<w.heap.size) w V cs):∀k,k≤len→∃ys cells,ys.length=k∧RepVL (fun b=>b<w.heap.size) w ys cells∧At w b o cells∧cells.length=k * 6
 |0,_=>⟨[],[],rfl,by rw[RepVL],fun j hj=>absurd hj (by simp),rfl⟩
 |k+1,hk=>by
  obtain⟨ys,cells,h1,h2,h3,h4⟩:=rows_V h k (by omega)
  obtain⟨cs,h5,h6,V,h7⟩:=h k (by omega)
  exact⟨ys++[V],cells++cs,by simp[h1],h2.snoc h7,h3.app (by rw[h4];exact h6),by rw[List.length_append,h4,h5];omega⟩
theorem open_Vs{n:Nat}(ih:∀cs x,DataW.trod enc Tryz.prog w base spare held n 87 cs=some x→∃V,RepV (fun b=>b<w.heap.size) w V cs){cs:List Value}{x:DataW H×List MemPlace}(h:DataW.trod enc Tryz.prog w base spare held (n+1) 23 cs=some x):
  ∃ys sk,cs=[sk]∧SlX (fun b=>b<w.heap.size) w ys.length sk (RepVL (fun b=>b<w.heap.size) w ys):=by
 rcases DataW.trod_slice Tryz.underlying23 h with⟨rfl,_⟩|⟨a,len,cap,elems,rest,m,hm,rfl,_,_,hlc,_,hel,hall,_⟩
 ·exact⟨[],_,rfl,SlX.nil⟩
 ·obtain rfl:n=m:=by omega
  rcases Nat.eq_zero_or_pos len with h0|h0
  ·subst h0
   exact⟨[],_,rfl,some a,cap,[],rfl,Nat.zero_le _,by rw[RepVL],.inl rfl⟩
  ·rw[c87]at hall
   obtain⟨b,o,rfl,hb,hr⟩:=row_at (z:=6) (len:=len) (Q:=fun cs=>∃V,RepV (fun b=>b<w.heap.size) w V cs) (by omega) (fun i hi=>by
    have h1:=hall i hi
    rw[List.getElem?_eq_getElem (by omega)]at h1
    obtain⟨cs',h2,h3⟩:=Option.bind_eq_some_iff.1 h1
    exact⟨cs',h2,ih _ _ h3⟩) h0
   obtain⟨ys,cells,h1,h2,h3,h4⟩:=rows_V hr len (Nat.le_refl _)
   exact⟨ys,_,rfl,some ⟨b,o,none⟩,cap,cells,by rw[h1],by omega,h2,.inr ⟨b,o,rfl,hb,h3⟩⟩
theorem open_V:∀(n:Nat) (cs:List Value) (x:DataW H×List MemPlace),DataW.trod enc Tryz.prog w base spare held n 87 cs=some x→∃V,RepV (fun b=>b<w.heap.size) w V cs:=by
 intro n
 induction n using Nat.strongRecOn with
 |_ n ih=>
  intro cs x h
  obtain⟨xs,m,rfl,_,hcl,hxl,hf⟩:=DataW.trod_struct Tryz.underlying87 h
  rw[c87]at hcl
  have f0:DataW.trod enc Tryz.prog w base spare held m 3 ((cs.drop 0).take (Tryz.prog.cellsOf 3))=xs[0]?:=hf 0 _ rfl
  have f1:DataW.trod enc Tryz.prog w base spare held m 27 ((cs.drop 1).take (Tryz.prog.cellsOf 27))=xs[1]?:=hf 1 _ rfl
  have f2:DataW.trod enc Tryz.prog w base spare held m 9 ((cs.drop 2).take (Tryz.prog.cellsOf 9))=xs[2]?:=hf 2 _ rfl
  have f3:DataW.trod enc Tryz.prog w base spare held m 23 ((cs.drop 3).take (Tryz.prog.cellsOf 23))=xs[3]?:=hf 3 _ rfl
  have f4:DataW.trod enc Tryz.prog w base spare held m 3 ((cs.drop 4).take (Tryz.prog.cellsOf 3))=xs[4]?:=hf 4 _ rfl
  have f5:DataW.trod enc Tryz.prog w base spare held m 23 ((cs.drop 5).take (Tryz.prog.cellsOf 23))=xs[5]?:=hf 5 _ rfl
  have hx6:xs.length=6:=hxl
  match cs,hcl with
  |[a0,a1,a2,a3,a4,a5],_=>
   rw[c3,List.getElem?_eq_getElem (by omega)]at f0 f4
   rw[c27,List.getElem?_eq_getElem (by omega)]at f1
   rw[c9,List.getElem?_eq_getElem (by omega)]at f2
   rw[c23,List.getElem?_eq_getElem (by omega)]at f3 f5
   obtain⟨k,e0,_,_⟩:=DataW.trod_int Tryz.underlying3 f0
   obtain⟨z,e1,_,wz⟩:=DataW.trod_int Tryz.underlying27 f1
   obtain⟨s,e2,_,_⟩:=DataW.trod_string Tryz.underlying9 f2
   obtain⟨o,e4,_,_⟩:=DataW.trod_int Tryz.underlying3 f4
   simp only[List.drop,List.take,List.cons.injEq,and_true]at e0 e1 e2 e4
   subst e0 e1 e2 e4
   cases m with
   |zero=>simp[DataW.trod]at f3
   |succ m=>
    have ih':=fun cs x=>ih m (by omega) cs x
    obtain⟨ks,sk,e3,hK⟩:=open_Vs ih' f3
    obtain⟨d,sd,e5,hD⟩:=open_Vs ih' f5
    simp only[List.drop,List.take,List.cons.injEq,and_true]at e3 e5
    subst e3 e5
    have hz:0≤z:=(wfu64 wz).1
    refine⟨.mk k z.toNat s.data.toList ks o d,?_⟩
    rw[RepV]
    exact⟨_,_,by rw[Int.toNat_of_nonneg hz],hK,hD⟩
theorem open_F{n:Nat}{cs:List Value}{x:DataW H×List MemPlace}(h:DataW.trod enc Tryz.prog w base spare held n 55 cs=some x):∃c d i p cp,cs=[str c,str d,.slice p i.length cp]∧SlX (fun b=>b<w.heap.size) w i.length (.slice p i.length cp) (RepVL (fun b=>b<w.heap.size) w i):=by
 obtain⟨xs,m,rfl,_,hcl,hxl,hf⟩:=DataW.trod_struct Tryz.underlying55 h
 rw[c55]at hcl
 have f0:DataW.trod enc Tryz.prog w base spare held m 9 ((cs.drop 0).take (Tryz.prog.cellsOf 9))=xs[0]?:=hf 0 _ rfl
 have f1:DataW.trod enc Tryz.prog w base spare held m 9 ((cs.drop 1).take (Tryz.prog.cellsOf 9))=xs[1]?:=hf 1 _ rfl
 have f2:DataW.trod enc Tryz.prog w base spare held m 23 ((cs.drop 2).take (Tryz.prog.cellsOf 23))=xs[2]?:=hf 2 _ rfl
 have hx3:xs.length=3:=hxl
 match cs,hcl with
 |[a0,a1,a2],_=>
  rw[c9,List.getElem?_eq_getElem (by omega)]at f0 f1
  rw[c23,List.getElem?_eq_getElem (by omega)]at f2
  obtain⟨s,e0,_,_⟩:=DataW.trod_string Tryz.underlying9 f0
  obtain⟨s2,e1,_,_⟩:=DataW.trod_string Tryz.underlying9 f1
  simp only[List.drop,List.take,List.cons.injEq,and_true]at e0 e1
  subst e0 e1
  cases m with
  |zero=>simp[DataW.trod]at f2
  |succ m=>
   obtain⟨ks,sk,e2,hK⟩:=open_Vs (open_V m) f2
   simp only[List.drop,List.take,List.cons.injEq,and_true]at e2
   subst e2
   have hK':=hK
   obtain⟨p,cp,cells,rfl,_⟩:=hK
   exact⟨s.data.toList,s2.data.toList,ks,p,cp,rfl,hK'⟩
theorem open_Fs{n:Nat}{cs:List Value}{x:DataW H×List MemPlace}(h:DataW.trod enc Tryz.prog w base spare held n 53 cs=some x):∃p len c,cs=[.slice p len c]∧(len≤1→∃l:List Flt,l.length=len∧FltR (fun b=>b<w.heap.size) w l (.slice p len c)):=by
 rcases DataW.trod_slice Tryz.underlying53 h with⟨rfl,_⟩|⟨a,len,cap,elems,rest,m,hm,rfl,_,_,hlc,_,hel,hall,_⟩
 ·exact⟨none,0,0,rfl,fun _=>⟨[],rfl,⟨none,0,rfl,Nat.le_refl _,.inl rfl⟩⟩⟩
 ·refine⟨some a,len,cap,rfl,fun hl=>?_⟩
  rcases Nat.eq_zero_or_pos len with h0|h0
  ·subst h0
   exact⟨[],rfl,⟨some a,cap,rfl,Nat.zero_le _,.inl rfl⟩⟩
  ·obtain rfl:len=1:=by omega
   rw[c55]at hall
   obtain⟨b,o,rfl,hb,hr⟩:=row_at (z:=3) (len:=1) (Q:=fun cs=>∃c d i p cp,cs=[str c,str d,.slice p i.length cp]∧SlX (fun b=>b<w.heap.size) w i.length (.slice p i.length cp) (RepVL (fun b=>b<w.heap.size) w i)) (by omega) (fun i hi=>by
    have h1:=hall i hi
    rw[List.getElem?_eq_getElem (by omega)]at h1
    obtain⟨cs',h2,h3⟩:=Option.bind_eq_some_iff.1 h1
    exact⟨cs',h2,open_F h3⟩) h0
   obtain⟨cs,_,h2,c,d,i,p,cp,rfl,h3⟩:=hr 0 h0
   exact⟨[(c,d,i)],rfl,⟨_,cap,rfl,hlc,.inr ⟨c,d,i,b,o,p,cp,rfl,rfl,hb,hb,by simpa using h2,h3⟩⟩⟩
theorem rows_B{b o len:Nat}(h:∀i,i<len→∃cs,cs.length=1∧At w b (o+i * 1) cs∧∃u:UInt8,cs=[.int .u8 (u.toNat:Int)]):∀k,k≤len→∃l:List UInt8,l.length=k∧At w b o (bc l)
 |0,_=>⟨[],rfl,fun j hj=>absurd hj (by simp[bc])⟩
 |k+1,hk=>by
  obtain⟨l,h1,h3⟩:=rows_B h k (by omega)
  obtain⟨cs,h5,h6,u,rfl⟩:=h k (by omega)
  refine⟨l++[u],by simp[h1],?_⟩
  rw[bc_append]
  refine h3.app ?_
  rw[show(bc l).length=l.length from by simp[bc],h1]
  rw[Nat.mul_one]at h6
  exact h6
theorem open_Bs{n:Nat}{cs:List Value}{x:DataW H×List MemPlace}(h:DataW.trod enc Tryz.prog w base spare held n 28 cs=some x):∃p c l,cs=[.slice p l.length c]∧IsB (fun b=>b<w.heap.size) w (.slice p l.length c) l:=by
 rcases DataW.trod_slice Tryz.underlying28 h with⟨rfl,_⟩|⟨a,len,cap,elems,rest,m,hm,rfl,_,_,hlc,_,hel,hall,_⟩
 ·exact⟨none,0,[],rfl,none,0,rfl,Nat.le_refl _,fun h=>absurd rfl h⟩
 ·rcases Nat.eq_zero_or_pos len with h0|h0
  ·subst h0
   exact⟨some a,cap,[],rfl,some a,cap,rfl,Nat.zero_le _,fun h=>absurd rfl h⟩
  ·rw[cell5]at hall
   obtain⟨b,o,rfl,hb,hr⟩:=row_at (z:=1) (len:=len) (Q:=fun cs=>∃u:UInt8,cs=[.int .u8 (u.toNat:Int)]) (by omega) (fun i hi=>by
    have h1:=hall i hi
    rw[List.getElem?_eq_getElem (by omega)]at h1
    obtain⟨cs',h2,h3⟩:=Option.bind_eq_some_iff.1 h1
    obtain⟨z,e,_,wz⟩:=DataW.trod_int Tryz.underlying5 h3
    refine⟨cs',h2,UInt8.ofNat z.toNat,?_⟩
    have hz:0≤z∧z<256:=by
     simp[Lit.wf,IntKind.min,IntKind.max,IntKind.signed,IntKind.bits]at wz
     omega
    rw[e,ofNat_toNat (by omega),Int.toNat_of_nonneg hz.1]) h0
   obtain⟨l,h1,h2⟩:=rows_B hr len (Nat.le_refl _)
   subst h1
   exact⟨_,cap,l,rfl,_,cap,rfl,hlc,fun _=>⟨b,o,rfl,hb,h2.bytes⟩⟩
end
end Go.Proofs.LL
namespace Go.Proofs.YtdgbmbjkbmpcbaaGreatDoor
open Go Go.Proofs Go.ChangeShapes Go.WideShapes Go.ChangeAt Go.RowKit Go.Deep Go.Proofs.LL
set_option maxHeartbeats 4000000
attribute [local irreducible] RunOp WL WC WDL WT WX
theorem own:ownKnob Tryz.prog.godebug=Option.none:=by kernel_rfl
theorem kids:Kids Tryz.prog (· <Tryz.prog.types.size):=kids_rows (by kernel_rfl) (by kernel_rfl)
theorem full:∀t e,t<Tryz.prog.types.size→Tryz.prog.underlying t=some (.slice e)→0<Tryz.prog.cellsOf e:=slices_full_of Tryz.prog (by kernel_rfl)
abbrev laid3:List (String×DataW Unit):=Rows.fnReadEndRow.laid
theorem first_eq:Rows.laid_unicode_utf8_first=Lib.firstData:=by kernel_rfl
theorem accept_eq:(Rows.laid_unicode_utf8_acceptRanges:DataW Unit)=Lib.acceptData:=by kernel_rfl
theorem ut_of{W:World}(h:laidMetH Tryz.prog laid3 W):UT W:=by
 rw[MakeChecks.laidMetH_plain _ _ _ (by kernel_rfl)]at h
 have h3 : Lib.VarReads Tryz.prog W "unicode/utf8.first" Lib.firstData := first_eq ▸ Lib.laidMet.reads h (.tail _ (.tail _ (.head _)))
 have h4 : Lib.VarReads Tryz.prog W "unicode/utf8.acceptRanges" Lib.acceptData := accept_eq ▸ Lib.laidMet.reads h (.head _)
 exact utf8Tabs_of_readsT (ρ:=Tryz.lays196_ren) (U8Types.of196 Tryz.lays196) ⟨by kernel_rfl,by kernel_rfl,by kernel_rfl,by kernel_rfl,by kernel_rfl,by kernel_rfl,by kernel_rfl⟩ h3 h4
theorem sameAt_ext{w w':World}(h:Ext w w'){p:MemPlace}(hp:p.block<w.heap.size):w.sameAt w' p:=by
 cases p with
 |cell b off=>exact World.cell?_of_block (h.block b hp trivial)
 |map b=>exact h.block b hp trivial
theorem trodAll_carry{H:Type}{enc:TypeId×Value→H}{P:Program}{w w':World}{base:Nat}{sp:Nat→Bool}{held:Bool}:∀ {ts:List TypeId} {vs:List Value} {ds:List (DataW H)} {ps:List MemPlace},DataW.TrodAll enc P w base sp held ts vs ds ps→(∀p∈ps,w.sameAt w' p)→DataW.TrodAll enc P w' base sp held ts vs ds ps
 |[],[],[],_,h,_=>h
 |_::_,_::_,_::_,_,⟨p,q,⟨n,h1⟩,h2,e⟩,hs=>⟨p,q,⟨n,DataW.trod_carry n _ _ _ h1 fun x hx=>hs x (by rw[e];exact List.mem_append_left _ hx)⟩,trodAll_carry h2 fun x hx=>hs x (by rw[e];exact List.mem_append_right _ hx),e⟩
theorem kept_ext{w w':World}(h:Ext w w')(may:MemPlace→Prop):w.keptBut w' may:=
 World.keptBut_mono (may:=fun _=>False) (fun _ h=>h.elim) (World.keptBut_none_iff.2 ⟨h.os,h.output,fun i hi=>h.block i hi trivial⟩)
theorem post_ext{H:Type}{enc:TypeId×Value→H}{fn:Func}{s:ChangeSpec}{W W':World}{args:Array Value}{ds:List (DataW H)}{before:List MemPlace}(hW:DataW.Whole enc Tryz.prog fn.params.toList s.vars false W args.toList ds [] before)
  (hA:DataW.TrodAll enc Tryz.prog W 0 (fun _=>true) true fn.params.toList args.toList ds before) (hT:∀t∈fn.params.toList,t<Tryz.prog.types.size) (hr:fn.resultTypes= #[4]) (hs:s.fn H (ds++[])= {results:=[.lit (.bool true)],args:=ds,vars:=[]}) (hv:s.vars=[]) (hE:Ext W W'):
  s.post enc Tryz.prog fn false true false false W args (.bool true) W':=by
 have hlt:=hA.lt
 refine⟨ds,[],before,[],before,[],hW,?_,?_,?_,kept_ext hE _,fun h=>by cases h⟩
 ·rw[hr,hs];exact trodAll_mk1 (shut_bool Tryz.underlying4 _)
 ·rw[hs]
  exact trodAll_carry (DataW.TrodAll.respare kids full hT hA fun p hp=>decide_eq_true (hlt p hp)) fun p hp=>sameAt_ext hE (hlt p hp)
 ·rw[hs,hv];rfl
theorem lifted(os:Os)(started:os.Started)(H:Type)(enc:TypeId×Value→H):
  ReturnsInHanded {} Tryz.checked os 5 .any (fun w args=>(Rows.fnReadEndSpec.pre enc Tryz.prog Tryz.f5 [] false w args∧laidMetH Tryz.prog laid3 w)∧sizedMet enc Tryz.prog Tryz.f5 (OpenSpec.ofChange Rows.fnReadEndSpec) false w args)
   (Rows.fnReadEndSpec.post enc Tryz.prog Tryz.f5 false true false false):=by
 refine returnsInHanded_of_change_and (C:=Tryz.checked) (X:=fun w _=>laidMetH Tryz.prog laid3 w) (fun _ _ _ hh h=>h.of_heap hh) own started (by kernel_rfl) Tryz.func5
  (ChangeSpec.witness_shaped (enc:=enc) (C:=Tryz.checked) (os:=os) (X:=fun w _=>laidMetH Tryz.prog laid3 w) false (World.laidAll Tryz.prog os laid3) #[.slice Option.none 0 0,.int .u64 0,.slice Option.none 0 0] 8 (World.laidAll_os _ _ _)
   (World.shaped_of_ZipB (by kernel_rfl) (by kernel_rfl)) (by kernel_rfl) (by kernel_rfl) (by kernel_rfl)
   (by rw[MakeChecks.laidMetH_plain _ _ _ (by kernel_rfl)];exact laidMet_laidAll _ (by kernel_rfl) (by kernel_rfl))) ?_
 intro W base args ds gs before hval0 hW hc _ hL _
 have hW':=hW
 obtain⟨p,q,hA0,hV,rfl,_,_⟩:=hW
 obtain⟨rfl,rfl⟩:=trodVars_none hV
 simp only[List.append_nil]at hW'
 have hA:DataW.TrodAll enc Tryz.prog W 0 (fun _=>true) true Tryz.f5.params.toList args.toList ds p:=hA0
 have hA3:=hA
 rw[Tryz.params5]at hA3
 obtain⟨v0,v1,v2,d0,d1,d2,p0,p1,p2,rfl,rfl,rfl,⟨n0,h0⟩,⟨n1,h1⟩,⟨n2,h2⟩⟩:=trodAll_three hA3
 have hval:∀(j:Nat) t v,Tryz.f5.params[j]?=some t→ #[v0,v1,v2][j]?=some v→Value.okWide Tryz.prog W .any base t v:=hval0
 obtain⟨a0,l0,k0,rfl⟩:=okWide_slice Tryz.underlying53 (hval 0 53 v0 (by rw[Tryz.params5];rfl) rfl)
 obtain⟨a2,l2,k2,rfl⟩:=okWide_slice Tryz.underlying28 (hval 2 28 v2 (by rw[Tryz.params5];rfl) rfl)
 obtain⟨z,rfl,rfl,rfl,wz⟩:=open_int Tryz.underlying27 (hval 1 27 v1 (by rw[Tryz.params5];rfl) rfl) ⟨n1,h1⟩
 obtain⟨q0,m0,c0,e0,hF⟩:=open_Fs h0
 obtain⟨q2,c2,sb,e2,hB⟩:=open_Bs h2
 simp only[Value.cells,List.cons.injEq,and_true,Value.slice.injEq]at e0 e2
 obtain⟨rfl,rfl,rfl⟩:=e0
 obtain⟨rfl,rfl,rfl⟩:=e2
 refine(law_end_all hF hB (wfu64 wz) (ut_of hL)).calls.mono fun e W' ⟨v,he,hv,hE⟩=>?_
 subst he hv
 exact⟨_,rfl,post_ext hW' hA (by rw[Tryz.params5];decide) rfl rfl rfl hE⟩
end Go.Proofs.YtdgbmbjkbmpcbaaGreatDoor
