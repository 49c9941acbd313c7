/- Contracts of functions and own laws. Conditions: those that each theorem states. -/
import Derived.Test.YtdgbmbjkbmpcbaaGreatDoorW06
import Derived.Sort.OwnSorted
import Derived.Sort.LotA
import Derived.Sort.Walk0
set_option linter.all false
set_option autoImplicit true
set_option relaxedAutoImplicit true
namespace Go.Proofs.LL
open Go Go.RowKit
section
variable {P:Program} {ρ:Fr} {w w0:World} {ty:TypeId} {x y s:Operand}
theorem nE:∀(kvs:List (Value×Value)) (b i j:Nat) (v:Value) (hj:j<kvs.length),kvs[j]=(str k,v)→(∀a (h:a<j),∃s,(kvs[a]'(Nat.lt_trans h hj)).1=str s∧s≠k)→Instr.findNow .string (str k) (dJ b kvs) i=some (some (i+j,v))
 |(c,d)::r,b,i,0,v,_,he,_=>by
  simp only[List.getElem_cons_zero,Prod.mk.injEq]at he
  obtain⟨rfl,rfl⟩:=he
  have h3:((⟨k.toArray⟩:ByteArray)==⟨k.toArray⟩)=true:=(MapKept.bytes_beq _ _).2 rfl
  simp only[dJ,Instr.findNow,str,Instr.sameNow,h3,Nat.add_zero]
 |(c,d)::r,b,i,j+1,v,hj,he,hn=>by
  obtain⟨s,h1,h2⟩:=hn 0 (by omega)
  simp only[List.getElem_cons_zero]at h1
  subst h1
  have h3:((⟨k.toArray⟩:ByteArray)==⟨s.toArray⟩)=false:=by
   cases hq:(⟨k.toArray⟩:ByteArray)==⟨s.toArray⟩with
   |false=>rfl
   |true=>exact absurd (by simpa using(MapKept.bytes_beq _ _).1 hq) (Ne.symm h2)
  have ih:=nE r (b+1) (i+1) j v (by simpa using hj) (by simpa using he) (fun a h=>by
   have:=hn (a+1) (by omega)
   simpa using this)
  simp only[dJ,Instr.findNow,str,Instr.sameNow,h3]at ih⊢
  rw[ih]
  congr 3;omega
theorem BS{v:Value}(ht:iQ P t=some kt)(hs:lq P kt=true)(hx:ov ρ x=some (.map (some m)))(hy:ov ρ y=some (str k))(hE:am A w0 w)(hM:cT w0 m kvs)(hj:j<kvs.length)(he:kvs[j]=(str k,v))(hn:∀a (h:a<j),∃s,(kvs[a]'(Nat.lt_trans h hj)).1=str s∧s≠k)(hA:A m:=by first|exact trivial|((try dsimp only[Nb]);omega)|assumption):
  ar P (.lookup t x y false) ty ρ w v:=by
 intro N D a dst pos af g ha
 obtain⟨e,hu⟩:=eN ht
 have h:=hM.m hE hA
 have hus:=fM hs
 have hk:∀b,(Instr.checkKey b 10000 kt (str k)).run P w= .ok () w:=fun b=>iY.str (k:=⟨k.toArray⟩) hs w b
 have hf:(Instr.findKey kt (str k) (dJ 0 kvs)).run P w= .ok (some (0+j,v)) w:=by
  unfold Instr.findKey
  simp[underlying,hus,nE kvs 0 0 j v hj he hn]
 simp[execOp,ha.ov hx,ha.ov hy,Instr.lookup,underlying,hu,MapKept.run_getObj_map h,hk,hf]
end
theorem BU(hx:ov ρ x=some (str a))(hy:ov ρ y=some (str b)):ar P (.binOp .lss xt x y yt) ty ρ w (.bool (Sort.ltStr a b)):=by
 intro N D ac dst pos af g ha
 simp[execOp,ha.ov hx,ha.ov hy,binOp,eqGuard,Op.stringOp,Proofs.bytesLess_eq,Sort.ltStr,str]
theorem iu{e z bs:Nat}{zv:Value}(ht:fG P t=some (e,z,bs,zv)):
  aA P (.buildSlice t 0 #[]) ty ρ w (fun v w'=>v= .slice (some ⟨w.heap.size,0,none⟩) 0 0∧aT w.heap.size e z w' v 0 []∧ay w w'):=by
 obtain⟨i,hu,hi,hz,hzs,rfl,rfl⟩:=ge ht
 refine aA.of_eq fun N D a dst pos af g ha=>⟨_,w.alloc (.cells #[] e),?_,rfl,⟨by simp,.inr ⟨w.heap.size,0, #[],rfl,Nat.le_refl _,?_,Nat.le_refl _,by simp only[maxLen];omega,by simp,by simp⟩⟩,ay.alloc _ _⟩
 ·simp[execOp,Instr.buildSlice,underlying,hu,sizeOf,typeInfo,hi,Instr.fill,newRow]
  have h0:Array.map (fun _=>(default:Value)) (Array.range 0)= #[]:=by simp
  rw[h0]
 ·show(w.heap.push _)[w.heap.size]?=_;simp
theorem aT.sorted{g:Nat}{ss ts:List (List UInt8)}{os:Array Obj}(h:aT B 9 1 w (.slice (some ⟨g,0,none⟩) ss.length cap) ss.length (ss.map str))(hl:ts.length=ss.length):
  aT B 9 1 (Sort.grow (Sort.putRow Go.Proofs.encStr (Sort.ahead w n) g 0 ts.toArray) os) (.slice (some ⟨g,0,none⟩) ss.length cap) ss.length (ts.map str):=by
 obtain⟨h1,h2⟩:=h.row
 rcases h2 with⟨h2,_⟩|⟨g',cap',cur,h3,h4,h5,h6,h7,h8,h9⟩
 ·cases h2
 ·cases h3
  exact⟨ownsRow_sorted hl h4 h5 h6 h7 h8⟩
theorem aT.holds{g:Nat}{ss:List (List UInt8)}(h:aT B 9 1 w (.slice (some ⟨g,0,none⟩) ss.length cap) ss.length (ss.map str)):Sort.Holds Go.Proofs.encStr w g 0 ss.toArray∧g<w.heap.size:=by
 obtain⟨h1,h2⟩:=h.row
 rcases h2 with⟨h2,_⟩|⟨g',cap',cur,h3,h4,h5,h6,h7,h8,h9⟩
 ·cases h2
 ·cases h3
  exact⟨holds_of_block h5 (by simpa using h9),(Array.getElem?_eq_some_iff.1 h5).1⟩
theorem u9{os:Array Obj}(d:Array (List UInt8)):am (fun k=>k≠g) w (Sort.grow (Sort.putRow Go.Proofs.encStr (Sort.ahead w n) g 0 d) os):=
 (lN (v:= .slice (some ⟨g,0,none⟩) 0 0) (grownBy_sorted d)).k fun k _ hk=>by simpa[Value.ownBlock,eq_comm]using hk
def uq(P:Program)(t:TypeId):Option IntKind:=match P.underlying t with|some (.int k)=>some k|_=>none
theorem pn(h:uq P t=some k):P.underlying t=some (.int k):=by
 unfold uq at h
 split at h
 ·rename_i k' hu
  have:k'=k:=Option.some.inj h
  rw[← this];exact hu
 ·cases h
def tL(k:IntKind)(p:Int×Int):Value×Value:=(.int k p.1,.int k p.2)
def dz:List (Int×Int)→Int→Option Int
 |[],_=>none
 |(a,b)::r,z=>if z=a then some b else dz r z
theorem mn{z:Int}:∀(l:List (Int×Int)) (b i:Nat),∃r:Option (Nat×Value),Instr.findNow (.int k) (.int k z) (dJ b (l.map (tL k))) i=some r∧(match dz l z with|none=>r=none|some y=>∃j,r=some (j,.int k y))
 |[],b,i=>⟨none,rfl,rfl⟩
 |(a,c)::l,b,i=>by
  by_cases h:z=a
  ·subst h
   refine⟨some (i,.int k c),?_,?_⟩
   ·simp[tL,dJ,Instr.findNow,Instr.sameNow]
   ·simp[dz]
  ·obtain⟨r,h1,h2⟩:=mn l (b+1) (i+1)
   refine⟨r,?_,?_⟩
   ·have:(z==a)=false:=by simpa using h
    simp[tL,dJ,Instr.findNow,Instr.sameNow,this]
    simpa[tL]using h1
   ·simpa[dz,h]using h2
theorem ml{z:Int}{l:List (Int×Int)}(ht:uq P kt=some k):∃r:Option (Nat×Value),(Instr.findKey kt (.int k z) (dJ 0 (l.map (tL k)))).run P w= .ok r w∧(match dz l z with|none=>r=none|some y=>∃j,r=some (j,.int k y)):=by
 obtain⟨r,h1,h2⟩:=mn (k:=k) (z:=z) l 0 0
 refine⟨r,?_,h2⟩
 unfold Instr.findKey
 simp[underlying,pn ht,h1]
theorem iY.int{z:Int}(ht:uq P kt=some k):iY P kt (.int k z):=by
 intro w e
 unfold Instr.checkKey
 simp[underlying,pn ht]
section
variable {P:Program} {ρ:Fr} {w w0:World} {ty:TypeId} {x y s:Operand}
theorem aV{l:List (Int×Int)}{a b:Int}(ht:iQ P t=some kt)(hi:uq P kt=some k)(ho:ov ρ o=some (.map (some m)))(hk:ov ρ kk=some (.int k a))(hx:ov ρ x=some (.int k b))(hM:cT w m (l.map (tL k)))(hno:dz l a=none):
  aA P (.insert t o kk x) ty ρ w (fun _ w'=>cT w' m ((l++[(a,b)]).map (tL k))∧am (fun b=>b≠m) w w'):=by
 obtain⟨e,hu⟩:=eN ht
 have h1:=iY.int (P:=P) (z:=a) hi w false
 obtain⟨r,hf,hr⟩:=ml (P:=P) (w:=w) (z:=a) (l:=l) hi
 rw[hno]at hr
 simp only at hr
 subst hr
 have:=hM.lt
 refine aA.of_skip fun N D ac dst pos af g ha=>⟨{w with heap:=w.heap.setIfInBounds m (.map ((dJ 0 (l.map (tL k))).toArray.push ⟨.int k a,.int k b,(l.map (tL k)).length⟩) ((l.map (tL k)).length+1))},?_,?_,⟨rfl,rfl,rfl,by simp,fun b _ hb=>by simp[Ne.symm hb]⟩⟩
 ·simp[execOp,ha.ov ho,ha.ov hk,ha.ov hx,Instr.mapUpdate,underlying,hu,MapKept.run_getObj_map hM,h1,hf,MapKept.run_setObj_map _ hM]
 ·show(w.heap.setIfInBounds m _)[m]?=_
  rw[List.map_append,List.map_singleton,show tL k (a,b)=(Value.int k a,Value.int k b)from rfl,(MapKept.heap_set (o':=_) hM).1,lQ]
  simp
theorem cz{l:List (Int×Int)}{z:Int}(ht:iQ P t=some kt)(hi:uq P kt=some k)(he:∃q,P.underlying t=some (.map q et)∧bv P et=some (.int k 0))(hx:ov ρ x=some (.map (some m)))(hy:ov ρ y=some (.int k z))(hE:am A w0 w)(hM:cT w0 m (l.map (tL k)))(hA:A m:=by first|exact trivial|((try dsimp only[Nb]);omega)|assumption):
  ar P (.lookup t x y false) ty ρ w (.int k ((dz l z).getD 0)):=by
 intro N D a dst pos af g ha
 have h:=hM.m hE hA
 obtain⟨q,hu,hz⟩:=he
 have hq:q=kt:=by
  obtain⟨e,hu'⟩:=eN ht
  rw[hu]at hu'
  cases hu';rfl
 subst hq
 have hk:∀b,(Instr.checkKey b 10000 q (.int k z)).run P w= .ok () w:=fun b=>iY.int hi w b
 obtain⟨r,hf,hr⟩:=ml (P:=P) (w:=w) (z:=z) (l:=l) hi
 have hz':(zeroValue et).run P w= .ok (.int k 0) w:=by
  unfold bv at hz
  cases hi2:P.info? et with
  |none=>rw[hi2]at hz;cases hz
  |some i=>
   rw[hi2]at hz
   simp[zeroValue,typeInfo,hi2,show i.zero=some (.int k 0)from hz]
 cases ht2:dz l z with
 |none=>
  rw[ht2]at hr
  simp only at hr
  subst hr
  simp[execOp,ha.ov hx,ha.ov hy,Instr.lookup,underlying,hu,MapKept.run_getObj_map h,hk,hf,hz']
 |some y'=>
  rw[ht2]at hr
  obtain⟨j,rfl⟩:=hr
  simp[execOp,ha.ov hx,ha.ov hy,Instr.lookup,underlying,hu,MapKept.run_getObj_map h,hk,hf]
end
def iR(P:Program)(t:TypeId)(name:String):Option FuncId:=
 match P.info? t with
 |some i=>match i.methods.find? (·.name==name)with
  |some m=>match m.path.toList,m.func,P.underlying t with
   |[],some (f,true),some (.pointer _)=>some f
   |[],some (_,false),some (.pointer _)=>none
   |[],some (f,false),some _=>some f
   |_,_,_=>none
  |none=>none
 |none=>none
theorem uT(h:iR P t name=some f)(n:Nat)(w:World):(Go.method (n+1) t v name).run P w= .ok (f,v) w:=by
 unfold iR at h
 split at h
 ·rename_i i hi
  split at h
  ·rename_i m hm
   unfold Go.method
   split at h
   ·rename_i g e hp hf hu
    cases h
    simp[typeInfo,hi,hm,hp,hf,Go.follow,Go.receiverAt,underlying,hu,Go.Place.get]
   ·cases h
   ·rename_i g d hnp hp hf hu
    cases h
    cases d<;>first|(simp[typeInfo,hi,hm,hp,hf,Go.follow,Go.receiverAt,underlying,hu,Go.Place.get];done)|simp_all
   ·cases h
  ·cases h
 ·cases h
def jd(P:Program)(a t:TypeId):Bool:=
 match P.underlying a,P.info? t with
 |some (.interface want),some i=>(Instr.missingMethod want i.methods).isNone
 |_,_=>false
section
variable {P:Program} {ρ:Fr} {w w0:World} {ty:TypeId} {x y s:Operand}
theorem dc{a t s:TypeId}{v:Value}(ht:jd P a t=true)(hx:ov ρ x=some (.iface t v)):ar P (.typeAssert x s a true) ty ρ w (.tuple #[.iface t v,.bool true]):=by
 intro N D ac dst pos af g ha
 unfold jd at ht
 split at ht
 ·rename_i want i hu hi
  have hm:Instr.missingMethod want i.methods=none:=by simpa using ht
  simp[execOp,ha.ov hx,Instr.typeAssert,underlying,hu,typeInfo,hi,hm]
 ·cases ht
theorem dI{args:Array Operand}{ts:Array TypeId}(hm:iR P t name=some f)(hb:cH P f=true)(hx:ov ρ x=some (.iface t v))(ha:lS ρ args.toList=some vs)(hc:ah P f (v::vs) w R):
  aA P (.call ⟨.invoke x name,args,ts⟩) ty ρ w R:=by
 intro N D a dst pos af g hha next Q hn
 unfold cH at hb
 have e1:args.map a.eval=vs.toArray:=eO hha _ _ ha
 cases hfn:P.funcs[f]? with
 |none=>rw[hfn]at hb;cases hb
 |some fn=>
  rw[hfn]at hb
  simp only[Bool.and_eq_true,Bool.not_eq_true']at hb
  obtain⟨h1,h2⟩:=hb
  have h2' : ¬ fn.name = "runtime.NumGoroutine" := by simpa using h2
  have h1':¬fn.body=none:=by intro h;simp[h]at h1
  have hrun:(execOp a.eval ⟨dst,.call ⟨.invoke x name,args,ts⟩,ty,pos,af,g⟩).run P w= .ok (.enter f (v::vs).toArray) w:=by
   have hd:P.types.size+Made.depth=(P.types.size+Made.depth-1)+1:=by
    have:0<Made.depth:=by decide
    omega
   have hmr:=uT (v:=v) hm (P.types.size+Made.depth-1) w
   rw[← hd]at hmr
   simp only[execOp,resolve,e1]
   simp[invoke,callMethod,hha.ov hx,hmr,callFunc,hfn,h2',h1']
  unfold Oper.wp
  rw[hrun]
  refine Calls.mono hc.calls fun e w' hr=>?_
  obtain⟨v,rfl,hv⟩:=hr
  exact hn v w' hv
end
def ri(P:Program)(t:TypeId):Bool:=
 match P.underlying t with
 |some (.pointer _)=>true
 |_=>false
theorem jN(h:ri P t=true):∃e,P.underlying t=some (.pointer e):=by
 unfold ri at h
 split at h
 ·exact⟨_,by assumption⟩
 ·cases h
theorem o7{P:Program}(hu:P.underlying t=some (.pointer e))(d:Nat)(w:World):(Op.equalIn (d+1) t (.pointer none) (.pointer none)).run P w= .ok true w:=by
 simp[Op.equalIn,underlying,hu]
theorem o8{P:Program}(hu:P.underlying t=some (.pointer e))(d:Nat)(a:Addr)(w:World):(Op.equalIn (d+1) t (.pointer (some a)) (.pointer none)).run P w= .ok false w:=by
 simp[Op.equalIn,underlying,hu]
section
variable {P:Program} {ρ:Fr} {w w0:World} {ty:TypeId} {x y s:Operand}
theorem iB(ht:ri P xt=true)(hx:ov ρ x=some (.pointer none))(hy:ov ρ y=some (.pointer none)):ar P (.binOp .eql xt x y yt) ty ρ w (.bool true):=by
 intro N D ac dst pos af g ha
 obtain⟨e,hu⟩:=jN ht
 have h:∀w:World,(Op.equal xt (.pointer none) (.pointer none)).run P w= .ok true w:=o7 hu _
 simp[execOp,ha.ov hx,ha.ov hy,binOp,h,eqGuard]
theorem nU(ht:ri P xt=true)(hx:ov ρ x=some (.pointer (some a)))(hy:ov ρ y=some (.pointer none)):ar P (.binOp .eql xt x y yt) ty ρ w (.bool false):=by
 intro N D ac dst pos af g ha
 obtain⟨e,hu⟩:=jN ht
 have h:∀w:World,(Op.equal xt (.pointer (some a)) (.pointer none)).run P w= .ok false w:=o8 hu _ a
 simp[execOp,ha.ov hx,ha.ov hy,binOp,h,eqGuard]
end
section
variable {P:Program} {ρ:Fr} {w w0:World} {ty:TypeId} {x y s:Operand}
theorem wx(a b:List UInt8):((⟨a.toArray⟩:ByteArray)==⟨b.toArray⟩)=decide (a=b):=by
 by_cases h:a=b
 ·subst h
  rw[(MapKept.bytes_beq _ _).2 rfl];simp
 ·have:((⟨a.toArray⟩:ByteArray)==⟨b.toArray⟩)=false:=by
   cases hq:((⟨a.toArray⟩:ByteArray)==⟨b.toArray⟩)with
   |false=>rfl
   |true=>
    have:=(MapKept.bytes_beq _ _).1 hq
    exact absurd (by simpa using this) h
  rw[this];simp[h]
theorem k7(hx:ov ρ x=some (str a))(hy:ov ρ y=some (str b))(h:a=b):ar P (.binOp .eql xt x y yt) ty ρ w (.bool true):=by
 intro N D ac dst pos af g ha
 have:=wx a b
 simp[execOp,ha.ov hx,ha.ov hy,binOp,eqGuard,Op.stringOp,h]
theorem tc(hx:ov ρ x=some (str a))(hy:ov ρ y=some (str b))(h:a=b):ar P (.binOp .neq xt x y yt) ty ρ w (.bool false):=by
 intro N D ac dst pos af g ha
 simp[execOp,ha.ov hx,ha.ov hy,binOp,eqGuard,Op.stringOp,h]
theorem tb(hx:ov ρ x=some (str a))(hy:ov ρ y=some (str b))(h:a≠b):ar P (.binOp .neq xt x y yt) ty ρ w (.bool true):=by
 intro N D ac dst pos af g ha
 simp[execOp,ha.ov hx,ha.ov hy,binOp,eqGuard,Op.stringOp,h]
theorem ta(hx:ov ρ x=some (str a))(hy:ov ρ y=some (str b))(h:a≠b):ar P (.binOp .eql xt x y yt) ty ρ w (.bool false):=by
 intro N D ac dst pos af g ha
 have:=wx a b
 simp[execOp,ha.ov hx,ha.ov hy,binOp,eqGuard,Op.stringOp,h]
end
theorem aU{c x:Bool}(hc:c=true)(hx:x=true):some (lH (c&&x) v)=some v:=by simp[lH,hc,hx]
section
variable {P:Program} {ρ:Fr} {w:World} {ty:TypeId} {x y:Operand}
theorem BT(hx:ov ρ x=some (str a))(hy:ov ρ y=some (str b)):ar P (.binOp .eql xt x y yt) ty ρ w (.bool (decide (a=b))):=by
 rcases Decidable.em (a=b)with h|h
 ·rw[decide_eq_true h];exact k7 hx hy h
 ·rw[decide_eq_false h];exact ta hx hy h
theorem wr(hx:ov ρ x=some (str a))(hy:ov ρ y=some (str b)):ar P (.binOp .neq xt x y yt) ty ρ w (.bool (!decide (a=b))):=by
 rcases Decidable.em (a=b)with h|h
 ·rw[decide_eq_true h];exact tc hx hy h
 ·rw[decide_eq_false h];exact tb hx hy h
end
def ES(ops:Array Oper):Bool:=(List.range ops.size).all fun j=>match ops[j]? with
 |some o=>o.after.toList.all fun e=> !(Region.binds .any e)||Nat.blt e.on j
 |none=>true
def Cn(ops:Array Oper)(i:Nat):List Nat:=match ops[i]? with
 |some o=>(o.after.toList.filter fun e=>Region.binds .any e).map (·.on)
 |none=>[]
theorem tW{ops:Array Oper}{listed:Array Bool}(hd:ES ops=true)(hr:Region.ready .any ops listed=[])(hs:listed.size=ops.size):∀j,j<ops.size→listed.getD j false=true:=by
 intro j
 induction j using Nat.strongRecOn with
 |_ j ih=>
  intro hj
  cases hq:listed.getD j false with
  |true=>rfl
  |false=>
   exfalso
   have ho:ops[j]?=some ops[j]:=by simp[hj]
   have hm:j∈Region.ready .any ops listed:=by
    refine mem_ready.2 ⟨?_,ops[j],ho,fun e he hb=>?_⟩
    ·simp[Array.getD_eq_getD_getElem?,show j<listed.size by omega]at hq⊢
     exact hq
    ·have h1:=List.all_eq_true.1 hd j (List.mem_range.2 hj)
     rw[ho]at h1
     have h2:=List.all_eq_true.1 h1 e (by simpa using he)
     rw[hb]at h2
     have h3:e.on<j:=by simpa[Nat.blt_eq]using h2
     exact ih _ h3 (by omega)
   rw[hr]at hm
   cases hm
def sG(listed:Array Bool):Nat:=listed.toList.count false
theorem ph{listed:Array Bool}(h:listed.getD i true=false):sG listed=sG (listed.setIfInBounds i true)+1:=by
 have hi:i<listed.size:=by
  rcases Nat.lt_or_ge i listed.size with h1|h1
  ·exact h1
  ·simp[Array.getD_eq_getD_getElem?,Array.getElem?_eq_none h1]at h
 have h2:listed.toList[i]'(by simpa using hi)=false:=by
  simpa[Array.getD_eq_getD_getElem?,hi]using h
 unfold sG
 have h3:0<List.count false listed.toList:=List.count_pos_iff.2 (h2▸List.getElem_mem _)
 rw[Array.toList_setIfInBounds,List.count_set (by simpa using hi),h2]
 have h4:(if(false==false)=true then 1 else 0:Nat)=1:=rfl
 have h5:(if(true==false)=true then 1 else 0:Nat)=0:=rfl
 rw[h4,h5];omega
theorem pN{ops:Array Oper}{Q:Exit→Act→World→Prop}(I:Array Bool→Act→World→Prop)
  (tp:∀listed i a w,i∈Region.ready .any ops listed→listed.size=ops.size→I listed a w→wpOp P ops Q i (fun a' w'=>I (listed.setIfInBounds i true) a' w') a w)
  (fin:∀listed a w,Region.ready .any ops listed=[]→listed.size=ops.size→I listed a w→Q .normal a w):
  ∀(fuel:Nat) (listed:Array Bool) (a:Act) (w:World),listed.size=ops.size→sG listed≤fuel→I listed a w→wpAny P .any ops Q fuel listed a w
 |0,listed,a,w,hs,hf,hI=>by
  have h0:Region.ready .any ops listed=[]:=by
   rcases hr:Region.ready .any ops listed with _|⟨i,r⟩
   ·rfl
   ·have hm:i∈Region.ready .any ops listed:=by rw[hr];simp
    have:=ph (mem_ready.1 hm).1
    omega
  exact⟨h0,fin _ _ _ h0 hs hI⟩
 |fuel+1,listed,a,w,hs,hf,hI=>⟨fun h0=>fin _ _ _ h0 hs hI,fun i hi=>
  wpOp_mono (fun a' w' h'=>pN I tp fin fuel _ a' w' (by simpa using hs) (by have:=ph (mem_ready.1 hi).1;omega) h') (tp _ _ _ _ hi hs hI)⟩
def bN(P:Program)(ops:Array Oper)(N:Nat)(D:List Deferred)(i:Nat)(ρ:Fr)(w:World)(nx:Fr→World→Prop):Prop:=
 ∀a,gh N D a ρ→∀(Q:Exit→Act→World→Prop) (K:Act→World→Prop),(∀a' ρ' w',gh N D a' ρ'→nx ρ' w'→K a' w')→wpOp P ops Q i K a w
section
variable {P:Program} {ops:Array Oper} {N:Nat} {D:List Deferred} {i:Nat} {ρ:Fr} {w:World} {nx:Fr→World→Prop}
theorem bN.l{op:Op}{ty:TypeId}{pos:String}{af:Array Edge}(ho:ops[i]?=some ⟨some d,op,ty,pos,af,none⟩)(hN:Nat.blt d N=true)
  (hr:aA P op ty ρ w R) (h:∀v w',R v w'→nx ((d,v)::ρ) w'):bN P ops N D i ρ w nx:=by
 intro a ha Q K hK
 unfold wpOp
 simp only[ho]
 rw[if_pos (by simp[Region.wanted])]
 exact .inl (hr N D a _ pos af _ ha _ _ fun v w' hv=>hK _ _ _ (ha.put hN v) (h v w' hv))
theorem bN.l0{op:Op}{ty:TypeId}{pos:String}{af:Array Edge}(ho:ops[i]?=some ⟨none,op,ty,pos,af,none⟩)
  (hr:aA P op ty ρ w R) (h:∀v w',R v w'→nx ρ w'):bN P ops N D i ρ w nx:=by
 intro a ha Q K hK
 unfold wpOp
 simp only[ho]
 rw[if_pos (by simp[Region.wanted])]
 exact .inl (hr N D a _ pos af _ ha _ _ fun v w' hv=>hK _ _ _ (ha.putNone v) (h v w' hv))
theorem bN.q{op:Op}{ty:TypeId}{pos:String}{af:Array Edge}(ho:ops[i]?=some ⟨some d,op,ty,pos,af,none⟩)(hN:Nat.blt d N=true)
  (hr:ar P op ty ρ w v) (h:nx ((d,v)::ρ) w):bN P ops N D i ρ w nx:=
 bN.l ho hN (aA.of_run hr) fun u w' hu=>by obtain⟨rfl,rfl⟩:=hu;exact h
end
theorem WC.regionI{P:Program}{N:Nat}{D:List Deferred}{ρ:Fr}{w:World}{X:Exit→Fr→World→Prop}{id:Nat}{l:List Oper}(J:(Nat→Bool)→Fr→World→Prop)
  (hm:P.follows .mixedOrders=true) (hd:ES l.toArray=true) (h0:J (fun _=>false) ρ w.drew)
  (tp:∀(L:Nat→Bool) ρ' w' i,i<l.length→(∀j∈Cn l.toArray i,L j=true)→L i=false→J L ρ' w'→bN P l.toArray N D i ρ' w' (fun ρ'' w''=>J (fun j=>Nat.beq j i||L j) ρ'' w''))
  (fin:∀L ρ' w',(∀j,j<l.length→L j=true)→J L ρ' w'→X .normal ρ' w'):WC P N D (.region id l.toArray true) ρ w X:=by
 intro a ha
 refine wp_region_any hm (pN (fun listed a w=>∃ρ',gh N D a ρ'∧J (fun j=>listed.getD j false) ρ' w) ?_ ?_ _ _ _ _ (by simp) ?_ ⟨ρ,ha,?_⟩)
 ·rintro listed i a w hi hs ⟨ρ',ha',hJ⟩
  obtain⟨h1,o,ho,h2⟩:=mem_ready.1 hi
  have hil:i<l.toArray.size:=by
   rcases Nat.lt_or_ge i l.toArray.size with h3|h3
   ·exact h3
   ·rw[Array.getElem?_eq_none h3]at ho;cases ho
  refine tp (fun j=>listed.getD j false) ρ' w i (by simpa using hil) (fun j hj=>?_) (tw h1) hJ a ha' _ _ (fun a' ρ'' w' ha'' hn=>⟨ρ'',ha'',?_⟩)
  ·unfold Cn at hj
   rw[ho]at hj
   obtain⟨e,he,rfl⟩:=List.mem_map.1 hj
   obtain⟨he1,he2⟩:=List.mem_filter.1 he
   exact h2 e (by simpa using he1) he2
  ·have e1:(fun j=>(listed.setIfInBounds i true).getD j false)=fun j=>Nat.beq j i||listed.getD j false:=by
    funext j
    rcases Decidable.em (i=j)with rfl|hne
    ·have:i<listed.size:=by omega
     simp[Array.getD_eq_getD_getElem?,this]
    ·have hb:Nat.beq j i=false:=by
      cases hq:Nat.beq j i with
      |false=>rfl
      |true=>exact absurd (Nat.eq_of_beq_eq_true hq).symm hne
     rw[getD_set_ne false hne,hb]
     rfl
   rw[e1];exact hn
 ·rintro listed a w hr hs ⟨ρ',ha',hJ⟩
  exact⟨ρ',ha',fin _ _ _ (fun j hj=>tW hd hr hs j (by simpa using hj)) hJ⟩
 ·unfold sG
  simp
 ·have e1:(fun j=>(Array.replicate l.toArray.size false).getD j false)=fun _=>false:=by
   funext j
   simp only[Array.getD_eq_getD_getElem?]
   rcases Nat.lt_or_ge j l.toArray.size with h|h
   ·simp at h;simp[h]
   ·simp at h;simp[h]
  rw[e1];exact h0
end Go.Proofs.LL
