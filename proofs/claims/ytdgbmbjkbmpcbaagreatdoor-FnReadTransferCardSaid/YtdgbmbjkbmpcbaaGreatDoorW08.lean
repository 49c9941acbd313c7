/- Contracts of functions and own laws. Conditions: those that each theorem states. -/
import Derived.Test.YtdgbmbjkbmpcbaaGreatDoorW07
import Derived.Recover
import Derived.Defers
set_option linter.all false
set_option autoImplicit true
set_option relaxedAutoImplicit true
namespace Go.Proofs.LL
open Go Go.RowKit
inductive OT where
 |nil|q (i:Nat) (r:OT)|l (i:Nat) (r:OT)|alt (a b:OT)
def OT.firsts:OT→List Nat
 | .l i _=>[i]
 | .alt a b=>a.firsts++b.firsts
 |_=>[]
def OT.depth:OT→Nat
 | .nil=>0
 | .q _ r=>r.depth+1
 | .l _ r=>r.depth+1
 | .alt a b=>max a.depth b.depth
theorem OT.firsts_nil:∀t:OT,t.depth=0→t.firsts=[]
 | .nil,_=>rfl
 | .q i r,h=>by simp[OT.depth]at h
 | .l i r,h=>by simp[OT.depth]at h
 | .alt a b,h=>by
  have h1:max a.depth b.depth=0:=h
  show a.firsts++b.firsts=[]
  rw[OT.firsts_nil a (by omega),OT.firsts_nil b (by omega)];rfl
def eh(ops:Array Oper):Bool→OT→Array Bool→Bool
 |_,.nil,listed=>(Region.ready .any ops listed).isEmpty
 |_,.q i r,listed=>Nat.blt i ops.size&&Region.free .any ops listed i&&(Region.ready .any ops listed).contains i&&eh ops true r (listed.setIfInBounds i true)
 |top,.l i r,listed=>(!top||(Region.ready .any ops listed==[i]))&&Nat.blt i ops.size&&eh ops true r (listed.setIfInBounds i true)
 |top,.alt a b,listed=>(!top||(Region.ready .any ops listed==a.firsts++b.firsts))&& !a.firsts.isEmpty&&eh ops false a listed&&eh ops false b listed
def l9(P:Program)(ops:Array Oper)(Q:Exit→Act→World→Prop)(S:World→Prop):OT→Act→World→Prop
 | .nil,a,w=>Q .normal a w
 | .q i r,a,w=>∃v,YieldsIf P ops S (ops.getD i default) v a∧l9 P ops Q S r (a.put (ops.getD i default).dst v) w
 | .l i r,a,w=>wpOp P ops Q i (fun a' w'=>S w'∧l9 P ops Q S r a' w') a w
 | .alt s t,a,w=>l9 P ops Q S s a w∧l9 P ops Q S t a w
section
variable {P:Program} {ops:Array Oper} {X:Exit→Act→World→Prop} {S:World→Prop}
theorem dY(hs:Region.noSelect ops=true):∀(t:OT) (listed:Array Bool) (a:Act) (w:World),
  ip ops listed→S w→l9 P ops (NoPanic X) S t a w→
  (eh ops true t listed=true→∀fuel,t.depth≤fuel→gz P ops (NoPanic X) S ops.size fuel listed a w)∧
  (eh ops false t listed=true→∀fuel,t.depth≤fuel+1→∀i∈t.firsts,i∈Region.ready .any ops listed→wpOp P ops (NoPanic X) i (fun a' w'=>((listed.setIfInBounds i true).getD ops.size false=false→S w')∧gz P ops (NoPanic X) S ops.size fuel (listed.setIfInBounds i true) a' w') a w)
 | .nil,listed,a,w,hc,hS,h=>by
  refine⟨fun hB fuel _=>?_,fun _ _ _ i hi=>by cases hi⟩
  have h0:Region.ready .any ops listed=[]:=by simpa[eh]using hB
  cases fuel with
  |zero=>exact⟨h0,h⟩
  |succ f=>exact⟨fun _=>h,fun i hi=>by rw[h0]at hi;cases hi⟩
 | .q i r,listed,a,w,hc,hS,h=>by
  refine⟨fun hB fuel hf=>?_,fun _ _ _ i hi=>by cases hi⟩
  simp only[eh,Bool.and_eq_true]at hB
  obtain⟨⟨⟨hi,hfr⟩,hr⟩,hB'⟩:=hB
  have hlt:i<ops.size:=by simpa[Nat.blt_eq]using hi
  have hoi:ops[i]?=some (ops.getD i default):=by simp[Array.getD,hlt]
  have hri:i∈Region.ready .any ops listed:=by simpa using hr
  obtain⟨v,hy,h'⟩:=h
  cases fuel with
  |zero=>simp[OT.depth]at hf
  |succ f=>
   refine lz hoi (Region.noSelect_spec hs) (fun _ _ _ h=>h) (by omega) (fun l hcl hL=>?_) _ listed a w hc (Region.free_spec hoi hfr) hri hy (fun _=>hS)
    ((dY hs r _ _ _ (fR hc hri) hS h').1 hB' f (by simp[OT.depth]at hf;omega))
   have h3:=hcl.1
   simp[Array.getD_eq_getD_getElem?,Array.getElem?_eq_none (show l.size≤ops.size by omega)]at hL
 | .l i r,listed,a,w,hc,hS,h=>by
  have key:Nat.blt i ops.size=true→eh ops true r (listed.setIfInBounds i true)=true→∀fuel,r.depth≤fuel→i∈Region.ready .any ops listed→wpOp P ops (NoPanic X) i (fun a' w'=>((listed.setIfInBounds i true).getD ops.size false=false→S w')∧gz P ops (NoPanic X) S ops.size fuel (listed.setIfInBounds i true) a' w') a w:=
   fun hi hB' fuel hf hri=>wpOp_mono (fun a' w' hh=>⟨fun _=>hh.1,(dY hs r _ _ _ (fR hc hri) hh.1 hh.2).1 hB' fuel hf⟩) h
  refine⟨fun hB fuel hf=>?_,fun hB fuel hf j hj hr=>?_⟩
  ·simp only[eh,Bool.and_eq_true,Bool.not_true,Bool.false_or]at hB
   have hr':Region.ready .any ops listed=[i]:=by simpa using hB.1.1
   cases fuel with
   |zero=>simp[OT.depth]at hf
   |succ f=>
    refine⟨fun h0=>(by rw[hr']at h0;cases h0),fun j hj=>?_⟩
    have hj2:=hj
    rw[hr']at hj
    obtain rfl:j=i:=by simpa using hj
    exact key hB.1.2 hB.2 f (by simp[OT.depth]at hf;omega) hj2
  ·simp only[eh,Bool.and_eq_true]at hB
   obtain rfl:j=i:=by simpa[OT.firsts]using hj
   exact key hB.1.2 hB.2 fuel (by simp[OT.depth]at hf;omega) hr
 | .alt s t,listed,a,w,hc,hS,h=>by
  have hsub:=dY hs s listed a w hc hS h.1
  have htub:=dY hs t listed a w hc hS h.2
  have hB2:eh ops false s listed=true→eh ops false t listed=true→∀fuel,max s.depth t.depth≤fuel+1→∀i∈s.firsts++t.firsts,i∈Region.ready .any ops listed→wpOp P ops (NoPanic X) i (fun a' w'=>((listed.setIfInBounds i true).getD ops.size false=false→S w')∧gz P ops (NoPanic X) S ops.size fuel (listed.setIfInBounds i true) a' w') a w:=
   fun h1 h2 fuel hf i hi hr=>(List.mem_append.1 hi).elim (fun hi=>hsub.2 h1 fuel (by omega) i hi hr) (fun hi=>htub.2 h2 fuel (by omega) i hi hr)
  refine⟨fun hB fuel hf=>?_,fun hB fuel hf j hj hr=>?_⟩
  ·simp only[eh,Bool.and_eq_true,Bool.not_true,Bool.false_or]at hB
   have hr':Region.ready .any ops listed=s.firsts++t.firsts:=by simpa using hB.1.1.1
   have hne:s.firsts≠[]:=by simpa using hB.1.1.2
   cases fuel with
   |zero=>
    have hf':max s.depth t.depth≤0:=hf
    exact absurd (OT.firsts_nil s (by omega)) hne
   |succ f=>
    exact⟨fun h0=>absurd (List.append_eq_nil_iff.1 (hr'.symm.trans h0)).1 hne,fun i hi=>hB2 hB.1.2 hB.2 f hf i (by rw[← hr'];exact hi) hi⟩
  ·simp only[eh,Bool.and_eq_true]at hB
   exact hB2 hB.1.2 hB.2 fuel hf j hj hr
def pG(l:List Oper)(t:OT):Bool:=Region.noSelect l.toArray&&Nat.ble t.depth l.length&&eh l.toArray true t (Array.replicate l.length false)
def WX(P:Program)(ops:Array Oper)(S:World→Prop)(N:Nat)(D:List Deferred)(t:OT)(ρ:Fr)(w:World)(next:Fr→World→Prop):Prop:=
 ∀a,gh N D a ρ→∀X:Exit→Act→World→Prop,(∀a' ρ' w',gh N D a' ρ'→next ρ' w'→X .normal a' w')→l9 P ops (NoPanic X) S t a w
theorem WC.regionT{N:Nat}{D:List Deferred}{ρ:Fr}{w:World}{X:Exit→Fr→World→Prop}{id:Nat}{l:List Oper}(t:OT)(S:World→Prop)
  (hm:P.follows .mixedOrders=true) (hok:pG l t=true) (hS:S w.drew) (h:WX P l.toArray S N D t ρ w.drew (X .normal)):WC P N D (.region id l.toArray true) ρ w X:=by
 intro a ha
 simp only[pG,Bool.and_eq_true]at hok
 obtain⟨⟨h1,h2⟩,h3⟩:=hok
 have hd:t.depth≤l.toArray.size:=by simpa[Nat.ble_eq]using h2
 refine wp_region_noPanic (wp_region_any hm (kD (S:=S) (L:=l.toArray.size) _ _ _ _ ?_))
 have:=(dY (P:=P) (X:=fun e a' w'=>∃ρ',gh N D a' ρ'∧X e ρ' w') (S:=S) h1 t _ a w.drew (kR l.toArray (n:=l.length) (by simp)) hS (h a ha _ fun a' ρ' w' ha' hx=>⟨ρ',ha',hx⟩)).1 h3 l.toArray.size hd
 simpa using this
variable {N:Nat} {D:List Deferred} {ρ:Fr} {w:World} {next:Fr→World→Prop} {i:Nat} {r s t:OT}
theorem WX.nil(h:next ρ w):WX P ops S N D .nil ρ w next:=fun _ ha _ hQ=>hQ _ _ _ ha h
theorem WX.alt(h1:WX P ops S N D s ρ w next)(h2:WX P ops S N D t ρ w next):WX P ops S N D (.alt s t) ρ w next:=fun a ha X hX=>⟨h1 a ha X hX,h2 a ha X hX⟩
theorem WX.q{op:Op}{ty:TypeId}{pos:String}{af:Array Edge}(ho:ops[i]?=some ⟨some d,op,ty,pos,af,none⟩)(hN:Nat.blt d N=true)
  (hr:∀w',S w'→ar P op ty ρ w' v) (h:WX P ops S N D r ((d,v)::ρ) w next):WX P ops S N D (.q i r) ρ w next:=by
 intro a ha X hX
 have e:ops.getD i default=⟨some d,op,ty,pos,af,none⟩:=by rw[Array.getD_eq_getD_getElem?,ho];rfl
 show∃v,YieldsIf P ops S (ops.getD i default) v a∧_
 rw[e]
 exact⟨v,.inl ⟨by simp[Region.wanted],fun w' hw'=>hr w' hw' N D a _ pos af _ ha⟩,h _ (ha.put hN v) X hX⟩
theorem WX.rd{op:Op}{ty:TypeId}{pos:String}{af:Array Edge}(ho:ops[i]?=some ⟨some d,op,ty,pos,af,none⟩)(hN:Nat.blt d N=true)
  (hr:ar P op ty ρ w v) (h:S w∧WX P ops S N D r ((d,v)::ρ) w next):WX P ops S N D (.l i r) ρ w next:=by
 intro a ha X hX
 show wpOp _ _ _ _ _ _ _
 unfold wpOp
 simp only[ho]
 rw[if_pos (by simp[Region.wanted])]
 exact .inl (aA.of_run hr N D a _ pos af _ ha _ _ fun v' w' hv=>by obtain⟨rfl,rfl⟩:=hv;exact⟨h.1,h.2 _ (ha.put hN _) X hX⟩)
theorem WX.l{op:Op}{ty:TypeId}{pos:String}{af:Array Edge}(ho:ops[i]?=some ⟨some d,op,ty,pos,af,none⟩)(hN:Nat.blt d N=true)
  (hr:aA P op ty ρ w R) (h:∀v w',R v w'→S w'∧WX P ops S N D r ((d,v)::ρ) w' next):WX P ops S N D (.l i r) ρ w next:=by
 intro a ha X hX
 show wpOp _ _ _ _ _ _ _
 unfold wpOp
 simp only[ho]
 rw[if_pos (by simp[Region.wanted])]
 exact .inl (hr N D a _ pos af _ ha _ _ fun v w' hv=>⟨(h v w' hv).1,(h v w' hv).2 _ (ha.put hN v) X hX⟩)
theorem WX.l0{op:Op}{ty:TypeId}{pos:String}{af:Array Edge}(ho:ops[i]?=some ⟨none,op,ty,pos,af,none⟩)
  (hr:aA P op ty ρ w R) (h:∀v w',R v w'→S w'∧WX P ops S N D r ρ w' next):WX P ops S N D (.l i r) ρ w next:=by
 intro a ha X hX
 show wpOp _ _ _ _ _ _ _
 unfold wpOp
 simp only[ho]
 rw[if_pos (by simp[Region.wanted])]
 exact .inl (hr N D a _ pos af _ ha _ _ fun v w' hv=>⟨(h v w' hv).1,(h v w' hv).2 _ (ha.putNone v) X hX⟩)
theorem Hx{op:Op}{ty:TypeId}{pos:String}{af:Array Edge}(ho:ops[i]?=some ⟨some d,op,ty,pos,af,none⟩)(hr:∀w',S w'→ar P op ty ρ w' v)(h:WX P ops S N D r ((d,v)::ρ) w next)(hN:Nat.blt d N=true:=by exact rfl):WX P ops S N D (.q i r) ρ w next:=WX.q ho hN hr h
theorem Hy{op:Op}{ty:TypeId}{pos:String}{af:Array Edge}(ho:ops[i]?=some ⟨some d,op,ty,pos,af,none⟩)(hr:∀{w'},ar P op ty ρ w' v)(h:WX P ops S N D r ((d,v)::ρ) w next)(hN:Nat.blt d N=true:=by exact rfl):WX P ops S N D (.q i r) ρ w next:=WX.q ho hN (fun _ _=>hr) h
end
structure wO (P:Program) (g:FuncId) (args:Array Value):Prop where
 calm:∀w:World,CallsD P g args .returning w fun e u' w'=>u'= .returning∧(∃v,e= .returned v)∧w'=w
 enter:∀w:World,(callFunc g args).run P w= .ok (.enter g args) w
theorem yM{P:Program}{ms}(hu:P.underlying t=some (.interface ms))(d:Nat)(w:World):(Op.equalIn (d+1) t .nilIface .nilIface).run P w= .ok true w:=by
 simp[Op.equalIn,underlying,hu]
theorem wO.of{P:Program}{g:FuncId}{fn:Func}{args:Array Value}{id d d2:Nat}{ts:Array TypeId}{ty ty2 t t2:TypeId}{pos pos2:String}{af af2:Array Edge}{x:Code}(hf:P.funcs[g]?=some fn)
  (hb:fn.body=some (.seq (.region id #[⟨some d,.call ⟨.builtin .recover, #[],ts⟩,ty,pos,af,none⟩,⟨some d2,.binOp .neq t (.tmp d) (.const .nilIface) t2,ty2,pos2,af2,none⟩] false) (.cond (.tmp d2) x .skip)))
  (hr : fn.results = #[]) (hd : Nat.blt d fn.ntmps = true) (hd2 : Nat.blt d2 fn.ntmps = true) (ht : qW P t = true) (hn : (fn.name == "runtime.NumGoroutine") = false) (hz : args.size ≤ fn.ntmps) : wO P g args := by
 have hd':d<fn.ntmps:=by simpa[Nat.blt_eq]using hd
 have hd2':d2<fn.ntmps:=by simpa[Nat.blt_eq]using hd2
 refine⟨fun w=>callsD_of_wpS hf hb fun c₀ cs hu=>?_,fun w=>?_⟩
 ·refine wpS_seq (wpS_region ?_)
  obtain⟨ms,hu'⟩:=fT ht
  have hrec:recoverD (c₀::cs)=none:=by simp[recoverD,hu]
  have hsz:(args++Array.replicate (fn.ntmps-args.size) undef).size=fn.ntmps:=by simp;omega
  have e2:∀w:World,(Op.equal t .nilIface .nilIface).run P w= .ok true w:=by
   exact fun w=>yM hu' _ w
  have hsize2:(List.range #[(⟨some d,.call ⟨.builtin .recover, #[],ts⟩,ty,pos,af,none⟩:Oper),⟨some d2,.binOp .neq t (.tmp d) (.const .nilIface) t2,ty2,pos2,af2,none⟩].size)=[0,1]:=rfl
  rw[hsize2]
  have hget:∀a:Act,a.tmps.size=fn.ntmps→(a.put (some d) .nilIface).tmps.getD d undef= .nilIface:=by
   intro a ha
   simp[Act.put,Array.getD,ha,hd']
  have h1:∀a:Act,(execOp a.eval ⟨some d,.call ⟨.builtin .recover, #[],ts⟩,ty,pos,af,none⟩).run P w= .ok .recover w:=by
   intro a
   simp[execOp,resolve,invoke,builtin]
  have h3:∀(a:Act) (w:World),a.tmps.getD d undef= .nilIface→(execOp a.eval ⟨some d2,.binOp .neq t (.tmp d) (.const .nilIface) t2,ty2,pos2,af2,none⟩).run P w= .ok (.value (.bool false)) w:=by
   intro a w ha
   have:a.eval (.tmp d)= .nilIface:=ha
   have h4:a.eval (.const .nilIface)= .nilIface:=rfl
   simp[execOp,this,h4,binOp,e2,eqGuard]
  simp only[wpOpsS,List.getElem?_toArray,List.getElem?_cons_zero,List.getElem?_cons_succ,Region.wanted,if_true,h1,hrec]
  rw[h3 _ _ (hget _ hsz)]
  simp only[Oper.upon,Exit.thenS]
  refine wpS_cond (t:=false) ?_ ?_
  ·simp[Act.eval,Act.put,Array.getD,hsz,hd2']
  ·simp only[Bool.false_eq_true,if_false]
   refine wpS_of_wp (wp_skip ?_)
   refine⟨by simp[Act.put],.returning,?_,.tuple #[],by simp[results,hr],rfl,⟨_,rfl⟩,rfl⟩
   show c₀::cs= {c₀ with mode:=FrameMode.returning}::cs
   rw[← hu]
 ·have h2' : ¬ fn.name = "runtime.NumGoroutine" := by simpa using hn
  simp[callFunc,hf,hb,h2']
theorem sr{P:Program}{f g:FuncId}{fn:Func}{c0 c1:Code}{id:Nat}{ops:Array Operand}{ts:Array TypeId}{ty:TypeId}{pos:String}{af:Array Edge}{l:List Value}{w:World}{R:Ending→World→Prop}{rs:List ResultVar}(hf:P.funcs[f]?=some fn)
  (hb:fn.body=some (.seq c0 (.seq (.region id #[⟨none,.defer ⟨.value (.func g),ops,ts⟩,ty,pos,af,none⟩] false) c1))) (hr:fn.results=rs.toArray) (hn:Nat.ble l.length fn.ntmps=true)
  (h:WC P fn.ntmps [] c0 (cn 0 l) w (fun e ρ w=>e= .normal∧∃vs,lS ρ ops.toList=some vs∧wO P g vs.toArray∧WC P fn.ntmps [⟨.fn (.func g) #[],vs.toArray⟩] c1 ρ w (m9 P rs R))):Calls P f l.toArray w R:=by
 refine calls_of_wp_defers hf hb (wp_seq (Code.wp_mono (fun e a w1 hq=>?_) (h _ (gQ (by simpa[Nat.ble_eq]using hn)))))
 obtain⟨ρ,ha,rfl,vs,hvs,hidle,hc⟩:=hq
 simp only[Exit.then]
 refine wp_seq ?_
 have ha2:gh fn.ntmps [⟨.fn (.func g) #[],vs.toArray⟩] ({a with defers:=⟨.fn (.func g) #[],vs.toArray⟩::a.defers}.put none undef) ρ:=⟨ha.size,by simp[Act.put,ha.defers],ha.val⟩
 refine wp_region_list<|wpList_plain rfl fun K hK=>?_
 have hrun:(execOp a.eval ⟨none,.defer ⟨.value (.func g),ops,ts⟩,ty,pos,af,none⟩).run P w1= .ok (.defer ⟨.fn (.func g) #[],vs.toArray⟩) w1:=by
  have e1:ops.map a.eval=vs.toArray:=eO ha _ _ hvs
  have e2:a.eval (.func g)= .func (.func g) #[] #[]:=rfl
  simp[execOp,resolve,e1,e2,Deferred.ofValue]
 unfold Oper.wp
 rw[hrun]
 simp only[Oper.upon]
 refine hK _ _ (wpList_nil ?_)
 simp only[Exit.then]
 refine Code.wp_mono (fun e a' w' hq=>?_) (hc _ ha2)
 obtain⟨ρ',ha',hx⟩:=hq
 have key:m9 P rs R .ret ρ' w'→Leaves P fn a'.tmps R a'.defers .returning w':=by
  rintro⟨us,hv,hR⟩
  rw[ha'.defers]
  refine⟨by simp,_,_,g,vs.toArray,rfl,?_,(hidle.calm w').mono ?_⟩
  ·simp[invoke,hidle.enter]
  ·rintro e u' w'' ⟨rfl,⟨v,rfl⟩,rfl⟩
   exact⟨_,jr ha' hr hv,hR⟩
 cases e<;>simp only[m9]at hx
 case normal=>exact key hx
 case ret=>exact key hx
theorem uj{P:Program}{f g:FuncId}{fn:Func}{c0 c1:Code}{id:Nat}{ops:Array Operand}{ts:Array TypeId}{ty:TypeId}{pos:String}{af:Array Edge}{l:List Value}{w:World}{R:Value→World→Prop}{rs:List ResultVar}(hf:P.funcs[f]?=some fn)
  (hb:fn.body=some (.seq c0 (.seq (.region id #[⟨none,.defer ⟨.value (.func g),ops,ts⟩,ty,pos,af,none⟩] false) c1))) (hr:fn.results=rs.toArray) (hn:Nat.ble l.length fn.ntmps=true)
  (h:WC P fn.ntmps [] c0 (cn 0 l) w (fun e ρ w=>e= .normal∧∃vs,lS ρ ops.toList=some vs∧wO P g vs.toArray∧WC P fn.ntmps [⟨.fn (.func g) #[],vs.toArray⟩] c1 ρ w (m9 P rs (gu R)))):ah P f l w R:=⟨sr hf hb hr hn h⟩
class Fb (b:Bool):Prop where
  h:b=true
class Fo {α:Type} (x:Option α) (v:outParam α):Prop where
  h:x=some v
def BD:List Value→Nat→Option Value
  |[],_=>none
  |v::_,0=>some v
  |_::r,i+1=>BD r i
theorem wl:∀(l:List Value) (i:Nat),BD l i=l[i]?
  |[],_=>rfl
  |_::_,0=>rfl
  |_::r,i+1=>by rw[BD,wl r i];rfl
def sB:Bool→Option Value
  |true=>some (.bool true)
  |false=>some (.bool false)
theorem Fx(h:sB b=some v):v= .bool b:=by cases b<;>cases h<;>rfl
def EZ:BinOp→Option (Int→Int→Bool)
  | .eql=>some (· == ·)
  | .neq=>some (· != ·)
  | .lss=>some fun a b=>decide (a<b)
  | .leq=>some fun a b=>decide (a≤b)
  | .gtr=>some fun a b=>decide (b<a)
  | .geq=>some fun a b=>decide (b≤a)
  |_=>none
def FT(ρ:Fr):Op→Option Value
  | .move x=>ov ρ x
  | .assign x=>ov ρ x
  | .extract x i=>match ov ρ x with
    |some (.tuple vs)=>BD vs.toList i
    |_=>none
  | .nilCheck x=>match ov ρ x with
    |some (.pointer (some p))=>some (.pointer (some p))
    |some (.iface t v)=>some (.iface t v)
    |some (.func (.func f) fs cs)=>some (.func (.func f) fs cs)
    |_=>none
  | .binOp o _ x y _=>match EZ o,ov ρ x,ov ρ y with
    |some g,some (.int k a),some (.int k' b)=>if k=k' then sB (g a b)else none
    |_,_,_=>none
  | .unOp .not _ x=>match ov ρ x with
    |some (.bool b)=>some (.bool (!b))
    |_=>none
  |_=>none
theorem zI(h:FT ρ op=some v):ar P op ty ρ w v:=by
  unfold FT at h
  split at h
  · exact aq h
  · exact ap h
  · split at h
    · rename_i hx;rw[wl]at h;exact aK hx (by rw[← Array.getElem?_toList];exact h)
    · cases h
  · split at h
    · cases h;rename_i hx;exact bE hx
    · cases h;rename_i hx;exact D7 hx
    · cases h;rename_i hx;exact D6 hx
    · cases h
  · split at h
    · rename_i ho hx hy
      split at h
      · rename_i hk
        subst hk
        rw[Fx h]
        unfold EZ at ho
        split at ho<;>cases ho
        · exact ak hx hy
        · exact bn hx hy
        · exact ef hx hy
        · exact aY hx hy
        · exact aS hx hy
        · exact bK hx hy
      · cases h
    · cases h
  · split at h
    · cases h;rename_i hx;exact fF hx
    · cases h
  · cases h
inductive KI where
  |s (y:Code)
  |b (id:Nat)
inductive St where
  |c (x:Code)
  |o (l:Array Oper) (r:List Oper)
  |n
def uO:List KI→St×List KI
  |[]=>(.n,[])
  | .s y::k=>(.c y,k)
  | .b _::k=>uO k
def DU:List (Nat×Value)→Nat→Option Value
  |[],_=>none
  |(s,v)::r,t=>bif Nat.beq s t then some v else DU r t
class TZ (P:Program) (l:outParam (List (Nat×Value))):Prop where
  ok:∀t z,DU l t=some z→iK P t=true∧bv P t=some z
def FQ(P:Program):List (Nat×Value)→Prop
  |[]=>True
  |(t,z)::r=>(iK P t=true∧bv P t=some z)∧FQ P r
theorem TZ.of:∀ {l:List (Nat×Value)},FQ P l→TZ P l
  |[],_=>⟨fun _ _ h=>by cases h⟩
  |(s,v)::r,h=>⟨fun t z e=>by
    unfold DU at e
    cases hb:Nat.beq s t with
    |true=>
      rw[hb]at e
      cases e
      rw[← Nat.eq_of_beq_eq_true hb]
      exact h.1
    |false=>
      rw[hb]at e
      exact(TZ.of h.2).ok t z e⟩
def Gh(tz:List (Nat×Value))(ρ:Fr):Op→Option Value
  | .typeAssert x _ t true=>match ov ρ x,DU tz t with
    |some (.iface u _),some z=>bif Nat.beq u t then none else some (.tuple #[z,.bool false])
    |some .nilIface,some z=>some (.tuple #[z,.bool false])
    |_,_=>none
  |o=>FT ρ o
def yD(tz:List (Nat×Value))(N:Nat)(ρ:Fr):St→List KI→Option (Fr×St×List KI)
  | .c (.seq x y),k=>some (ρ,.c x,.s y::k)
  | .c (.region _ l false),k=>some (ρ,.o l l.toList,k)
  | .c (.cond x a b),k=>match ov ρ x with
    |some (.bool true)=>some (ρ,.c a,k)
    |some (.bool false)=>some (ρ,.c b,k)
    |_=>none
  | .c .skip,k=>some (ρ,uO k)
  | .c (.block id c),k=>some (ρ,.c c,.b id::k)
  | .o _ [],k=>some (ρ,uO k)
  | .o l (⟨some d,op,_,_,_,none⟩::r),k=>bif Nat.blt d N then(match Gh tz ρ op with
    |some v=>some ((d,v)::ρ,.o l r,k)
    |none=>none)else none
  |_,_=>none
def ui(tz:List (Nat×Value))(N:Nat):Nat→Fr→St→List KI→Option (Fr×St×List KI)
  |0,ρ,s,k=>some (ρ,s,k)
  |n+1,ρ,s,k=>match yD tz N ρ s k with
    |some (ρ',s',k')=>ui tz N n ρ' s' k'
    |none=>none
section
variable {P:Program} {N:Nat} {D:List Deferred} {tz:List (Nat×Value)}
def Cm(P:Program)(N:Nat)(D:List Deferred):List KI→(Exit→Fr→World→Prop)→Exit→Fr→World→Prop
  |[],X=>X
  | .s y::k,X=>andThen P N D y (Cm P N D k X)
  | .b id::k,X=>qw id (Cm P N D k X)
def mL(P:Program)(N:Nat)(D:List Deferred)(X:Exit→Fr→World→Prop)(ρ:Fr)(w:World):St→List KI→Prop
  | .c x,k=>WC P N D x ρ w (Cm P N D k X)
  | .o l r,k=>WL P l N D r ρ w (Cm P N D k X .normal)
  | .n,k=>Cm P N D k X .normal ρ w
theorem kW:∀k:List KI,mL P N D X ρ w (uO k).1 (uO k).2→Cm P N D k X .normal ρ w
  |[],h=>h
  | .s _::_,h=>h
  | .b _::k,h=>kW k h
theorem BQ[TZ P tz](h:Gh tz ρ op=some v):ar P op ty ρ w v:=by
  unfold Gh at h
  split at h
  · split at h
    · rename_i hx hz
      obtain⟨h1,h2⟩:=TZ.ok (P:=P) _ _ hz
      rw[cond_eq_ite]at h
      split at h
      · cases h
      · rename_i hb
        cases h
        exact ba h1 h2 hx (Bool.eq_false_iff.2 hb)
    · rename_i hx hz
      obtain⟨h1,h2⟩:=TZ.ok (P:=P) _ _ hz
      cases h
      exact jk h1 h2 hx
    · cases h
  · exact zI h
theorem yW[TZ P tz]{ρ':Fr}{s':St}{k k':List KI}(h:yD tz N ρ s k=some (ρ',s',k'))(hg:mL P N D X ρ' w s' k'):mL P N D X ρ w s k:=by
  unfold yD at h
  split at h
  · cases h;exact WC.seq hg
  · cases h
    have:=WC.region (id:= ‹_›) (X:=Cm P N D k X) (show WL P (List.toArray _) N D _ ρ w _ from hg)
    rw[Array.toArray_toList]at this
    exact this
  · split at h
    · cases h;rename_i hc;exact WC.condT hc hg
    · cases h;rename_i hc;exact WC.condF hc hg
    · cases h
  · simp only[Option.some.injEq,Prod.mk.injEq]at h
    obtain⟨rfl,h⟩:=h
    exact WC.skip (kW k (by rw[h];exact hg))
  · cases h;exact WC.block hg
  · simp only[Option.some.injEq,Prod.mk.injEq]at h
    obtain⟨rfl,h⟩:=h
    exact WL.nil (kW k (by rw[h];exact hg))
  · rename_i d op ty pos af r
    cases hb:Nat.blt d N with
    |false=>rw[hb]at h;cases h
    |true=>
      rw[hb]at h
      simp only[cond_true]at h
      split at h
      · rename_i v hv
        cases h
        exact WL.q hb (BQ hv) hg
      · cases h
  · cases h
theorem qQ[TZ P tz]:∀(n:Nat) {ρ ρ':Fr} {s s':St} {k k':List KI},ui tz N n ρ s k=some (ρ',s',k')→mL P N D X ρ' w s' k'→mL P N D X ρ w s k
  |0,_,_,_,_,_,_,h,hg=>by cases h;exact hg
  |n+1,_,_,_,_,_,_,h,hg=>by
    rw[ui]at h
    split at h
    · rename_i hs
      exact yW hs (qQ n h hg)
    · cases h
theorem gc[TZ P tz](n:Nat){ρ':Fr}{s':St}{k':List KI}(h:ui tz N n ρ (.c x) []=some (ρ',s',k'))(hg:mL P N D X ρ' w s' k'):WC P N D x ρ w X:=qQ (s:= .c x) (k:=[]) n h hg
theorem go[TZ P tz](n:Nat){next:Fr→World→Prop}{ρ':Fr}{l:Array Oper}{r:List Oper}{s':St}{k':List KI}(h:ui tz N n ρ (.o l r) []=some (ρ',s',k'))(hg:mL P N D (fun _=>next) ρ' w s' k'):WL P l N D r ρ w next:=qQ (X:=fun _=>next) (s:= .o l r) (k:=[]) n h hg
end
end Go.Proofs.LL
