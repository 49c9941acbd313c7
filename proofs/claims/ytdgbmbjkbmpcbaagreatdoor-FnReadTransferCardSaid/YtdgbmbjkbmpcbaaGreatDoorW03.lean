/- Contracts of functions and own laws. Conditions: those that each theorem states. -/
import Derived.Test.YtdgbmbjkbmpcbaaGreatDoorW02
set_option linter.all false
set_option autoImplicit true
set_option relaxedAutoImplicit true
namespace Go.Proofs.LL
open Go Go.RowKit
structure am (A:Nat→Prop) (w w':World):Prop where
 os:w'.os=w.os
 tape:w'.tape=w.tape
 output:w'.output=w.output
 size:w.heap.size≤w'.heap.size
 block:∀k,k<w.heap.size→A k→w'.heap[k]?=w.heap[k]?
abbrev ay(w w':World):Prop:=am (fun _=>True) w w'
abbrev Nb(rb:Nat):Nat→Prop:=fun k=>k≠rb
theorem am.below(h:ay w w'):Below w.heap.size w w':=⟨h.os,h.tape,h.output,h.size,fun k hk=>h.block k hk trivial⟩
theorem am.s(h:am A w w'):w.heap.size≤w'.heap.size:=h.size
theorem am.refl(w:World):am A w w:=⟨rfl,rfl,rfl,Nat.le_refl _,fun _ _ _=>rfl⟩
theorem am.trans(h:am A a b)(k:am A b c):am A a c:=
 ⟨k.os.trans h.os,k.tape.trans h.tape,k.output.trans h.output,Nat.le_trans h.size k.size,fun i hi ha=>(k.block i (Nat.lt_of_lt_of_le hi h.size) ha).trans (h.block i hi ha)⟩
theorem am.k{B:Nat→Prop}(h:am A a b)(hBA:∀k,k<a.heap.size→B k→A k):am B a b:=⟨h.os,h.tape,h.output,h.size,fun i hi ha=>h.block i hi (hBA i hi ha)⟩
theorem am.t(h:am A a b)(k:am B b c)(hAB:∀k,k<a.heap.size→A k→B k:=by(intro k hk1 hk2;first|exact trivial|exact hk2|exact hk2.2|((try dsimp only[Nb]at hk2⊢);omega)|exact hk2.1|exact⟨by omega,hk2.2⟩)):am A a c:=
 ⟨k.os.trans h.os,k.tape.trans h.tape,k.output.trans h.output,Nat.le_trans h.size k.size,fun i hi ha=>(k.block i (Nat.lt_of_lt_of_le hi h.size) (hAB i hi ha)).trans (h.block i hi ha)⟩
theorem am.of(h:ay a b):am A a b:=h.k fun _ _ _=>trivial
theorem am.drew(w:World):am A w w.drew:=⟨rfl,rfl,rfl,Nat.le_refl _,fun _ _ _=>rfl⟩
theorem am.alloc(w:World)(o:Obj):am A w (w.alloc o):=by
 refine⟨rfl,rfl,rfl,by simp,fun k hk _=>?_⟩
 exact Below.heap_alloc _ _ _ hk
theorem am.setCell{A:Nat→Prop}(w:World)(p:Addr)(u:Value)(hp:¬A p.block):am A w (w.setCell p u):=
 ⟨rfl,rfl,rfl,by simp[World.setCell],fun k _ hk=>Below.heap_setCell _ _ _ _ (fun e=>hp (e▸hk))⟩
theorem ay.refl(w:World):ay w w:=am.refl w
theorem ay.trans(h:ay a b)(k:ay b c):ay a c:=am.trans h k
theorem ay.drew(w:World):ay w w.drew:=am.drew w
theorem Xd:ay w w.drew:=am.drew w
theorem Vd:am A w w.drew:=am.drew w
theorem Xr:ay w w:=am.refl w
theorem Vr:am A w w:=am.refl w
theorem XI(w:World):ay w w:=am.refl w
theorem Hi(w:World):am (fun b=>b<w.heap.size) w w:=am.refl w
theorem ay.alloc(w:World)(o:Obj):ay w (w.alloc o):=am.alloc w o
theorem bD{w:World}{a:Addr}(h:w.cell? a=some v):a.block<w.heap.size:=World.block_lt_of_cell? w a h
theorem am.cell(h:am A w w'){a:Addr}(hc:w.cell? a=some v)(hA:A a.block:=by first|exact trivial|((try dsimp only[Nb]);omega)|assumption):w'.cell? a=some v:=by
 rw[World.cell?_of_block (w:=w) (h.block _ (bD hc) hA),hc]
theorem am.obj(h:am A w w'){b:Nat}(hc:w.heap[b]?=some o)(hA:A b:=by first|exact trivial|((try dsimp only[Nb]);omega)|assumption):w'.heap[b]?=some o:=by
 rw[h.block b (Array.getElem?_eq_some_iff.1 hc).1 hA,hc]
def aH(w:World)(b:Nat)(cs:List Value):Prop:=∃T,w.heap[b]?=some (.cells cs.toArray T (0,0))
def At(w:World)(b o:Nat)(l:List Value):Prop:=∀j,j<l.length→w.cell? ⟨b,o+j,none⟩=l[j]?
theorem aH.cell(h:aH w b cs)(j:Nat):w.cell? ⟨b,j,none⟩=cs[j]?:=by
 obtain⟨T,h⟩:=h
 simp[World.cell?,h]
theorem aH.get(h:aH w b cs){j:Nat}(hv:cs[j]?=some v):w.cell? ⟨b,j,none⟩=some v:=by rw[h.cell,hv]
theorem aH.at(h:aH w b cs):At w b 0 cs:=fun j _=>by rw[Nat.zero_add,h.cell]
theorem aH.frozen(h:aH w b cs)(j:Nat):w.frozen? ⟨b,j,none⟩=false:=by
 obtain⟨T,h⟩:=h
 simp[World.frozen?,h]
theorem aH.lt(h:aH w b cs):b<w.heap.size:=by
 obtain⟨T,h⟩:=h
 exact(Array.getElem?_eq_some_iff.1 h).1
theorem aH.m(h:aH w b cs)(e:am A w w')(hA:A b:=by first|exact trivial|((try dsimp only[Nb]);omega)|assumption):aH w' b cs:=by
 obtain⟨T,h⟩:=h
 exact⟨T,e.obj h hA⟩
theorem aH.new(w:World)(cs:List Value)(T:TypeId):aH (w.alloc (.cells cs.toArray T)) w.heap.size cs:=⟨T,by show(w.heap.push _)[w.heap.size]?=_;simp⟩
theorem aH.set(h:aH w b cs)(j:Nat)(v:Value):aH (w.setCell ⟨b,j,none⟩ v) b (cs.set j v):=by
 obtain⟨T,h⟩:=h
 refine⟨T,?_⟩
 simp[World.setCell,Array.getElem?_modify,h]
theorem At.m(h:At w b o l)(e:am A w w')(hA:A b:=by first|exact trivial|((try dsimp only[Nb]);omega)|assumption):At w' b o l:=fun j hj=>by
 have:=h j hj
 rw[List.getElem?_eq_getElem hj]at this⊢
 exact e.cell this hA
theorem At.get(h:At w b o l){j:Nat}(hv:l[j]?=some v):w.cell? ⟨b,o+j,none⟩=some v:=by
 rw[h j (List.getElem?_eq_some_iff.1 hv).1,hv]
def xr(P:Program)(s f:Nat):Option Nat:=
 match P.underlying s with
 |some (.struct fs)=>match fs[f]? with
  |some fd=>match P.info? fd.type with
   |some i=>if i.size=0 then none else some fd.offset
   |none=>none
  |none=>none
 |_=>none
def ku(P:Program)(t:TypeId):Bool:=
 match P.underlying t with
 |some (.struct _)=>false
 |some (.array _ _)=>false
 |some _=>true
 |none=>false
def eS(P:Program)(t:TypeId):Option Nat:=
 match P.underlying t with
 |some (.struct _)=>(P.info? t).map (·.size)
 |some (.array _ _)=>(P.info? t).map (·.size)
 |_=>none
def iK(P:Program)(t:TypeId):Bool:=
 match P.underlying t with
 |some (.interface _)=>false
 |some _=>true
 |none=>false
def cH(P:Program)(f:FuncId):Bool:=
 match P.funcs[f]? with
 | some fn => fn.body.isSome && !(fn.name == "runtime.NumGoroutine")
 |none=>false
def cr(P:Program)(s d:TypeId):Option IntKind:=
 match P.underlying s,P.underlying d with
 |some _,some (.int k)=>some k
 |_,_=>none
def u6(P:Program)(t:TypeId):Option (TypeId×Nat×Nat):=
 match P.underlying t with
 |some (.slice e)=>(P.info? e).map fun i=>(e,i.size,i.bytes)
 |_=>none
def x8(P:Program)(t:TypeId):Option Nat:=(P.info? t).map (·.size)
def bv(P:Program)(t:TypeId):Option Value:=(P.info? t).bind (·.zero)
section
variable {P:Program} {ρ:Fr} {w w0:World} {ty:TypeId}
theorem aq(hx:ov ρ x=some v):ar P (.move x) ty ρ w v:=by
 intro N D a dst pos af g ha
 simp[execOp,ha.ov hx]
theorem ap(hx:ov ρ x=some v):ar P (.assign x) ty ρ w v:=by
 intro N D a dst pos af g ha
 simp[execOp,ha.ov hx]
theorem zH(hc:ov ρ c=some (.bool b))(hx:ov ρ x=some v)(hy:ov ρ y=some u):ar P (.pick c x y) ty ρ w (bif b then v else u):=by
 intro N D a dst pos af g ha
 cases b<;>simp[execOp,asBool,ha.ov hc,ha.ov hx,ha.ov hy]
theorem cA(hc:ov ρ c=some (.bool b))(hy:ov ρ y=some (lH c' (.bool z)))(hh:b=false→c'=true):ar P (.pick c (.const (.bool true)) y) ty ρ w (.bool (b||z)):=by
 intro N D a dst pos af g ha
 cases b with
 |true=>simp[execOp,asBool,ha.ov hc];rfl
 |false=>simp[execOp,asBool,ha.ov hc,ha.ov hy,hh rfl,lH]
theorem bU(hc:ov ρ c=some (.bool b))(hy:ov ρ y=some (lH c' (.bool z)))(hh:b=true→c'=true):ar P (.pick c y (.const (.bool false))) ty ρ w (.bool (b&&z)):=by
 intro N D a dst pos af g ha
 cases b with
 |false=>simp[execOp,asBool,ha.ov hc];rfl
 |true=>simp[execOp,asBool,ha.ov hc,ha.ov hy,hh rfl,lH]
theorem bE(hx:ov ρ x=some (.pointer (some p))):ar P (.nilCheck x) ty ρ w (.pointer (some p)):=by
 intro N D a dst pos af g ha
 simp[execOp,ha.ov hx]
theorem D7(hx:ov ρ x=some (.iface t v)):ar P (.nilCheck x) ty ρ w (.iface t v):=by
 intro N D a dst pos af g ha
 simp[execOp,ha.ov hx]
theorem D6(hx:ov ρ x=some (.func (.func f) fs cs)):ar P (.nilCheck x) ty ρ w (.func (.func f) fs cs):=by
 intro N D a dst pos af g ha
 simp[execOp,ha.ov hx]
theorem bV{b o:Nat}:Addr.add ⟨b,o,none⟩ k=⟨b,o+k,none⟩:=by
 unfold Addr.add
 split<;>simp_all
theorem aa{b o:Nat}(hx:ov ρ x=some (.pointer (some ⟨b,o,none⟩)))(hf:xr P s f=some k):ar P (.fieldAddr s x f) ty ρ w (.pointer (some ⟨b,o+k,none⟩)):=by
 intro N D a dst pos af g ha
 unfold xr at hf
 split at hf
 ·rename_i fs hu
  split at hf
  ·rename_i fd hfd
   split at hf
   ·rename_i i hi
    split at hf
    ·cases hf
    ·rename_i hsz
     have e:=Option.some.inj hf
     subst e
     simp[execOp,ha.ov hx,Instr.fieldAt,underlying,hu,hfd,Instr.sureAddr,fieldPlace,sizeOf,typeInfo,hi,hsz,bV]
   ·cases hf
  ·cases hf
 ·cases hf
theorem jK(h:ku P t=true):(isAgg t).run P w= .ok false w:=by
 unfold ku at h
 cases hu:P.underlying t with
 |none=>rw[hu]at h;cases h
 |some d=>rw[hu]at h;cases d<;>simp_all [isAgg,underlying]
theorem ao(ht:ku P t=true)(hx:ov ρ x=some (.pointer (some p)))(hE:am A w0 w)(hc:w0.cell? p=some v)(hA:A p.block:=by first|exact trivial|((try dsimp only[Nb]);omega)|assumption):ar P (.load t x) ty ρ w v:=by
 intro N D a dst pos af g ha
 have h1:=hE.cell hc hA
 simp[execOp,ha.ov hx,Instr.loadAt,Instr.sureAddr,loadVar,jK ht,h1]
theorem r3(h:eS P t=some n):(∀w:World,(isAgg t).run P w= .ok true w)∧∃i,P.info? t=some i∧i.size=n:=by
 unfold eS at h
 split at h
 ·rename_i hu
  obtain⟨i,hi,hn⟩:=Option.map_eq_some_iff.1 h
  exact⟨fun w=>by simp[isAgg,underlying,hu],i,hi,hn⟩
 ·rename_i hu
  obtain⟨i,hi,hn⟩:=Option.map_eq_some_iff.1 h
  exact⟨fun w=>by simp[isAgg,underlying,hu],i,hi,hn⟩
 ·cases h
theorem ad{b o:Nat}(ht:eS P t=some n)(hx:ov ρ x=some (.pointer (some ⟨b,o,none⟩)))(hE:am A w0 w)(hc:At w0 b o l)(hn:l.length=n:=by rfl)(hA:A b:=by first|exact trivial|((try dsimp only[Nb]);omega)|assumption):ar P (.load t x) ty ρ w (.agg l.toArray):=by
 intro N D a dst pos af g ha
 obtain⟨h1,i,hi,hs⟩:=r3 ht
 have hl:(loadCells ⟨b,o,none⟩ n).run P w= .ok l.toArray w:=by
  subst hn
  exact run_loadCells_list (P:=P) (w:=w) ⟨b,o,none⟩ l fun j v hv=>by
   rw[bV]
   have h2:=(hc.m hE hA).get hv
   exact h2
 simp[execOp,ha.ov hx,Instr.loadAt,Instr.sureAddr,loadVar,h1,sizeOf,typeInfo,hi,hs,hl]
theorem ce{b j:Nat}(ht:x8 P t=some 1)(hx:ov ρ x=some (.pointer (some ⟨b,j,none⟩)))(hy:ov ρ y=some v)(hv:v.oneCell'=true)(hB:aH w b cs)(hj:Nat.blt j cs.length=true):
  aA P (.store t x y) ty ρ w (fun _ w'=>aH w' b (cs.set j v)∧am (fun k=>k≠b) w w'∧w'.heap.size=w.heap.size):=by
 refine aA.of_skip fun N D a dst pos af g ha=>⟨w.setCell ⟨b,j,none⟩ v,?_,hB.set j v,am.setCell _ _ _ (fun h=>h rfl),by simp[World.setCell]⟩
 obtain⟨i,hi,hs⟩:=Option.map_eq_some_iff.1 ht
 have hjl:j<cs.length:=by simpa[Nat.blt_eq]using hj
 have hc:w.cell? ⟨b,j,none⟩=some cs[j]:=hB.get (List.getElem?_eq_getElem hjl)
 have hcs:v.cells= #[v]:=by cases v<;>simp_all [Value.cells,Value.oneCell']
 have hst:=run_store P w ⟨b,j,none⟩ v .plain hv
 simp[hc,hB.frozen]at hst
 simp[execOp,ha.ov hx,ha.ov hy,Instr.storeAt,Instr.sureAddr,storeVar,sizeOf,typeInfo,hi,hs,hcs,storeCells,bV,hst]
end
section
variable {P:Program} {ρ:Fr} {w w0:World} {ty:TypeId} {x y:Operand} {xt yt:TypeId}
theorem eB{a b:Int}(hx:ov ρ x=some (.int k a))(hy:ov ρ y=some (.int k b))(hr:∀w:World,(binOp op xt (.int k a) (.int k b)).run P w= .ok v w):
  ar P (.binOp op xt x y yt) ty ρ w v:=by
 intro N D ac dst pos af g ha
 simp[execOp,ha.ov hx,ha.ov hy,eqGuard,hr]
theorem pD{a b:Int}(hx:ov ρ x=some (.int k a))(hy:ov ρ y=some (.int k b)):ar P (.binOp .add xt x y yt) ty ρ w (.int k (k.wrap (a+b))):=
 eB hx hy fun w=>by simp[binOp,Op.intArith]
theorem Fv{a b:Int}(hx:ov ρ x=some (.int k a))(hy:ov ρ y=some (.int k b)):ar P (.binOp .sub xt x y yt) ty ρ w (.int k (k.wrap (a-b))):=
 eB hx hy fun w=>by simp[binOp,Op.intArith]
theorem zG{a b:Int}(hx:ov ρ x=some (.int k a))(hy:ov ρ y=some (.int k b)):ar P (.binOp .mul xt x y yt) ty ρ w (.int k (k.wrap (a * b))):=
 eB hx hy fun w=>by simp[binOp,Op.intArith]
theorem s9{a b:Int}(hb:b≠0)(hx:ov ρ x=some (.int k a))(hy:ov ρ y=some (.int k b)):ar P (.binOp .quo xt x y yt) ty ρ w (.int k (k.wrap (a.tdiv b))):=
 eB hx hy fun w=>by simp[binOp,Op.intDiv,hb]
theorem pF{a b:Int}(hb:b≠0)(hx:ov ρ x=some (.int k a))(hy:ov ρ y=some (.int k b)):ar P (.binOp .rem xt x y yt) ty ρ w (.int k (a.tmod b)):=
 eB hx hy fun w=>by simp[binOp,Op.intDiv,hb]
theorem dM{n:Int}(h1: -9223372036854775808≤n)(h2:n≤9223372036854775807):IntKind.i64.wrap n=n:=by
 exact IntWalk.i64_in n ⟨h1,h2⟩
theorem jj{a b c:Int}(hx:ov ρ x=some (.int .i64 a))(hy:ov ρ y=some (.int .i64 b))(hc:a+b=c)(h1: -9223372036854775808≤c)(h2:c≤9223372036854775807):ar P (.binOp .add xt x y yt) ty ρ w (.int .i64 c):=by
 have:=pD (P:=P) (w:=w) (ty:=ty) (xt:=xt) (yt:=yt) hx hy
 rw[hc,dM h1 h2]at this;exact this
theorem bP{a b c:Int}(hx:ov ρ x=some (.int .i64 a))(hy:ov ρ y=some (.int .i64 b))(hc:a-b=c)(h1: -9223372036854775808≤c)(h2:c≤9223372036854775807):ar P (.binOp .sub xt x y yt) ty ρ w (.int .i64 c):=by
 have:=Fv (P:=P) (w:=w) (ty:=ty) (xt:=xt) (yt:=yt) hx hy
 rw[hc,dM h1 h2]at this;exact this
theorem eg{a b c:Int}(hx:ov ρ x=some (.int .i64 a))(hy:ov ρ y=some (.int .i64 b))(hc:a * b=c)(h1: -9223372036854775808≤c)(h2:c≤9223372036854775807):ar P (.binOp .mul xt x y yt) ty ρ w (.int .i64 c):=by
 have:=zG (P:=P) (w:=w) (ty:=ty) (xt:=xt) (yt:=yt) hx hy
 rw[hc,dM h1 h2]at this;exact this
theorem ak{a b:Int}(hx:ov ρ x=some (.int k a))(hy:ov ρ y=some (.int k b)):ar P (.binOp .eql xt x y yt) ty ρ w (.bool (a==b)):=
 eB hx hy fun w=>by simp[binOp,Op.intCmp]
theorem bn{a b:Int}(hx:ov ρ x=some (.int k a))(hy:ov ρ y=some (.int k b)):ar P (.binOp .neq xt x y yt) ty ρ w (.bool (a !=b)):=
 eB hx hy fun w=>by simp[binOp,Op.intCmp]
theorem ef{a b:Int}(hx:ov ρ x=some (.int k a))(hy:ov ρ y=some (.int k b)):ar P (.binOp .lss xt x y yt) ty ρ w (.bool (decide (a<b))):=
 eB hx hy fun w=>by simp[binOp,Op.intCmp]
theorem aY{a b:Int}(hx:ov ρ x=some (.int k a))(hy:ov ρ y=some (.int k b)):ar P (.binOp .leq xt x y yt) ty ρ w (.bool (decide (a≤b))):=
 eB hx hy fun w=>by simp[binOp,Op.intCmp]
theorem aS{a b:Int}(hx:ov ρ x=some (.int k a))(hy:ov ρ y=some (.int k b)):ar P (.binOp .gtr xt x y yt) ty ρ w (.bool (decide (b<a))):=
 eB hx hy fun w=>by simp[binOp,Op.intCmp]
theorem bK{a b:Int}(hx:ov ρ x=some (.int k a))(hy:ov ρ y=some (.int k b)):ar P (.binOp .geq xt x y yt) ty ρ w (.bool (decide (b≤a))):=
 eB hx hy fun w=>by simp[binOp,Op.intCmp]
theorem br{a b:Int}(h:a=b):(a==b)=true:=by simp[h]
theorem bk{a b:Int}(h:a≠b):(a==b)=false:=by simp[h]
theorem kQ{a b:Int}(h:a≠b):(a !=b)=true:=by simp[h]
theorem fI{a b:Int}(h:a=b):(a !=b)=false:=by simp[h]
theorem ae{c:Bool}(h:ar P (.binOp op xt x y yt) ty ρ w (.bool b))(hb:b=c):ar P (.binOp op xt x y yt) ty ρ w (.bool c):=hb▸h
theorem Fu{op:BinOp}{a b:Int}(ho:op= .and∨op= .or∨op= .xor∨op= .andNot)(hx:ov ρ x=some (.int k a))(hy:ov ρ y=some (.int k b)):ar P (.binOp op xt x y yt) ty ρ w (.int k (bits op k a b)):=
 eB hx hy fun w=>by rcases ho with rfl|rfl|rfl|rfl<;>simp[binOp,intBits_and,intBits_or,intBits_xor,intBits_andNot]
theorem eY{a b:Int}(hx:ov ρ x=some (.int k a))(hy:ov ρ y=some (.int k b)):ar P (.binOp .or xt x y yt) ty ρ w (.int k (bits .or k a b)):=Fu (by simp) hx hy
theorem gy{a b:Int}(h:ar P op ty ρ w (.int k a))(e:a=b):ar P op ty ρ w (.int k b):=e▸h
theorem dA{a b:Int}(hx:ov ρ x=some (.int k a))(hy:ov ρ y=some (.int yk b))(hb:0≤b):ar P (.binOp .shl xt x y yt) ty ρ w (.int k (k.wrap (a * 2^(min b.toNat k.bits)))):=by
 intro N D ac dst pos af g ha
 simp[execOp,ha.ov hx,ha.ov hy,eqGuard,binOp,Op.shift,show¬b<0 by omega]
theorem df{a b:Int}(hx:ov ρ x=some (.int k a))(hy:ov ρ y=some (.int yk b))(hb:0≤b):ar P (.binOp .shr xt x y yt) ty ρ w (.int k (a.fdiv (2^(min b.toNat k.bits)))):=by
 intro N D ac dst pos af g ha
 simp[execOp,ha.ov hx,ha.ov hy,eqGuard,binOp,Op.shift,show¬b<0 by omega]
theorem fF(hx:ov ρ x=some (.bool b)):ar P (.unOp .not xt x) ty ρ w (.bool (!b)):=by
 intro N D ac dst pos af g ha
 simp[execOp,ha.ov hx,Op.unary]
theorem aL{a:Int}(h:cr P s d=some k)(hx:ov ρ x=some (.int k' a)):ar P (.convert s d x) ty ρ w (.int k (k.wrap a)):=by
 intro N D ac dst pos af g ha
 unfold cr at h
 cases h1:P.underlying s with
 |none=>simp[h1]at h
 |some ds=>
  cases h2:P.underlying d with
  |none=>simp[h1,h2]at h
  |some dd=>
   cases dd with
   |int k''=>
    simp[h1,h2]at h
    subst h
    simp[execOp,ha.ov hx,convert,underlying,h1,h2,Conv.intToInt]
   |_=>simp[h1,h2]at h
def qW(P:Program)(t:TypeId):Bool:=
 match P.underlying t with
 |some (.interface _)=>true
 |_=>false
theorem fT(h:qW P t=true):∃ms,P.underlying t=some (.interface ms):=by
 unfold qW at h
 split at h
 ·exact⟨_,by assumption⟩
 ·cases h
theorem yN(ht:qW P t=true)(d:Nat)(w:World):(Op.equalIn (d+1) t .nilIface .nilIface).run P w= .ok true w:=by
 obtain⟨ms,hu⟩:=fT ht
 simp[Op.equalIn,underlying,hu]
theorem xo(ht:qW P t=true)(d:Nat)(w:World):(Op.equalIn (d+1) t (.iface u v) .nilIface).run P w= .ok false w:=by
 obtain⟨ms,hu⟩:=fT ht
 simp[Op.equalIn,underlying,hu]
theorem yP(ht:qW P t=true)(w:World):(Op.equal t .nilIface .nilIface).run P w= .ok true w:=yN ht 9999 w
theorem vQ(ht:qW P t=true)(w:World):(Op.equal t (.iface u v) .nilIface).run P w= .ok false w:=xo ht 9999 w
theorem aB(ht:qW P xt=true)(hx:ov ρ x=some .nilIface):ar P (.binOp .neq xt x (.const .nilIface) yt) ty ρ w (.bool false):=by
 intro N D ac dst pos af g ha
 have hc:ac.eval (.const .nilIface)= .nilIface:=rfl
 simp only[execOp,ha.ov hx,hc]
 simp[eqGuard,binOp,yP ht]
theorem uP(ht:qW P xt=true)(hx:ov ρ x=some (.iface t v)):ar P (.binOp .neq xt x (.const .nilIface) yt) ty ρ w (.bool true):=by
 intro N D ac dst pos af g ha
 have hc:ac.eval (.const .nilIface)= .nilIface:=rfl
 simp only[execOp,ha.ov hx,hc]
 simp[eqGuard,binOp,vQ ht]
theorem pE(ht:qW P xt=true)(hx:ov ρ x=some .nilIface):ar P (.binOp .eql xt x (.const .nilIface) yt) ty ρ w (.bool true):=by
 intro N D ac dst pos af g ha
 have hc:ac.eval (.const .nilIface)= .nilIface:=rfl
 simp only[execOp,ha.ov hx,hc]
 simp[eqGuard,binOp,yP ht]
theorem aF(ht:qW P xt=true)(hx:ov ρ x=some (.iface t v)):ar P (.binOp .eql xt x (.const .nilIface) yt) ty ρ w (.bool false):=by
 intro N D ac dst pos af g ha
 have hc:ac.eval (.const .nilIface)= .nilIface:=rfl
 simp only[execOp,ha.ov hx,hc]
 simp[eqGuard,binOp,vQ ht]
theorem lW(ht:iK P t=true)(hx:ov ρ x=some v):ar P (.makeInterface t x) ty ρ w (.iface t v):=by
 intro N D ac dst pos af g ha
 unfold iK at ht
 cases hu:P.underlying t with
 |none=>rw[hu]at ht;cases ht
 |some d=>rw[hu]at ht;cases d<;>simp_all [execOp,ha.ov hx,Instr.makeInterface,underlying]
theorem aQ(ht:iK P t=true)(hx:ov ρ x=some (.iface t v)):ar P (.typeAssert x s t true) ty ρ w (.tuple #[v,.bool true]):=by
 intro N D ac dst pos af g ha
 unfold iK at ht
 cases hu:P.underlying t with
 |none=>rw[hu]at ht;cases ht
 |some d=>rw[hu]at ht;cases d<;>simp_all [execOp,ha.ov hx,Instr.typeAssert,underlying]
theorem ba(ht:iK P t=true)(hz:bv P t=some z)(hx:ov ρ x=some (.iface u v))(hn:Nat.beq u t=false):ar P (.typeAssert x s t true) ty ρ w (.tuple #[z,.bool false]):=by
 intro N D ac dst pos af g ha
 have hne:u≠t:=Nat.ne_of_beq_eq_false hn
 obtain⟨i,hi,hiz⟩:=Option.bind_eq_some_iff.1 hz
 unfold iK at ht
 cases hu:P.underlying t with
 |none=>rw[hu]at ht;cases ht
 |some d=>rw[hu]at ht;cases d<;>simp_all [execOp,ha.ov hx,Instr.typeAssert,underlying,zeroValue,typeInfo]
theorem jk(ht:iK P t=true)(hz:bv P t=some z)(hx:ov ρ x=some .nilIface):ar P (.typeAssert x s t true) ty ρ w (.tuple #[z,.bool false]):=by
 intro N D ac dst pos af g ha
 obtain⟨i,hi,hiz⟩:=Option.bind_eq_some_iff.1 hz
 unfold iK at ht
 cases hu:P.underlying t with
 |none=>rw[hu]at ht;cases ht
 |some d=>rw[hu]at ht;cases d<;>simp_all [execOp,ha.ov hx,Instr.typeAssert,underlying,zeroValue,typeInfo]
theorem aK{i:Nat}(hx:ov ρ x=some (.tuple vs))(hv:vs[i]?=some v):ar P (.extract x i) ty ρ w v:=by
 intro N D ac dst pos af g ha
 simp[execOp,ha.ov hx,Instr.extract,hv]
def lS(ρ:Fr):List Operand→Option (List Value)
 |[]=>some []
 |o::r=>match ov ρ o,lS ρ r with
  |some v,some vs=>some (v::vs)
  |_,_=>none
theorem zo{D:List Deferred}(ha:gh N D ac ρ)(l:List Operand)(vs:List Value)(h:lS ρ l=some vs):l.map ac.eval=vs:=by
 induction l generalizing vs with
 |nil=>simp[lS]at h;simp[h]
 |cons o r ih=>
  simp only[lS]at h
  cases h1:ov ρ o with
  |none=>rw[h1]at h;cases h
  |some v=>
   cases h2:lS ρ r with
   |none=>rw[h1,h2]at h;cases h
   |some us=>
    rw[h1,h2]at h
    have e:v::us=vs:=Option.some.inj h
    rw[List.map_cons,ha.ov h1,ih _ h2,e]
theorem eO{D:List Deferred}(ha:gh N D ac ρ)(l:Array Operand)(vs:List Value)(h:lS ρ l.toList=some vs):l.map ac.eval=vs.toArray:=by
 apply Array.toList_inj.1
 rw[← zo ha _ _ h]
 simp
theorem nV{fs cs:Array Operand}(h1:lS ρ fs.toList=some l)(h2:lS ρ cs.toList=some m):ar P (.makeFunc (.func f) fs cs) ty ρ w (.func (.func f) l.toArray m.toArray):=by
 intro N D ac dst pos af g ha
 simp[execOp,Instr.makeFunc,eO ha _ _ h1,eO ha _ _ h2]
theorem gZ{e z:Nat}(h:u6 P t=some (e,z,bs)):∃i,P.underlying t=some (.slice e)∧P.info? e=some i∧i.size=z∧i.bytes=bs:=by
 unfold u6 at h
 split at h
 ·rename_i e' hu
  obtain⟨i,hi,he⟩:=Option.map_eq_some_iff.1 h
  simp only[Prod.mk.injEq]at he
  obtain⟨rfl,rfl,rfl⟩:=he
  exact⟨i,hu,hi,rfl,rfl⟩
 ·cases h
theorem fy{e z:Nat}(ht:u6 P t=some (e,z,bs))(hx:ov ρ x=some (.slice p n c)):ar P (.call ⟨.builtin .len, #[x], #[t]⟩) ty ρ w (.int .i64 n):=by
 intro N D ac dst pos af g ha
 obtain⟨i,hu,_⟩:=gZ ht
 simp[execOp,ha.ov hx,resolve,invoke,builtin,Builtin.len_,underlying,hu,goInt]
theorem Ft{e z:Nat}(ht:u6 P t=some (e,z,bs))(hx:ov ρ x=some (.slice p n c)):ar P (.call ⟨.builtin .cap, #[x], #[t]⟩) ty ρ w (.int .i64 c):=by
 intro N D ac dst pos af g ha
 obtain⟨i,hu,_⟩:=gZ ht
 simp[execOp,ha.ov hx,resolve,invoke,builtin,Builtin.cap_,underlying,hu,goInt]
def lq(P:Program)(t:TypeId):Bool:=
 match P.underlying t with
 |some .string=>true
 |_=>false
theorem jm(ht:lq P t=true)(hx:ov ρ x=some (.string s)):ar P (.call ⟨.builtin .len, #[x], #[t]⟩) ty ρ w (.int .i64 s.size):=by
 intro N D ac dst pos af g ha
 unfold lq at ht
 split at ht
 ·rename_i hu
  simp[execOp,ha.ov hx,resolve,invoke,builtin,Builtin.len_,underlying,hu,goInt]
 ·cases ht
theorem zF{i:Int}{j:Nat}(ht:lq P t=true)(hx:ov ρ x=some (.string s))(hy:ov ρ y=some (.int k i))(hi:i=(j:Int))(hj:s[j]?=some b):ar P (.index t x y) ty ρ w (.int .u8 b.toNat):=by
 intro N D ac dst pos af g ha
 subst hi
 unfold lq at ht
 split at ht
 ·rename_i hu
  simp[execOp,ha.ov hx,ha.ov hy,Instr.index,underlying,hu,asIntOf,hj]
 ·cases ht
theorem bd{e z b o:Nat}{i:Int}{j:Nat}(ht:u6 P t=some (e,z,bs))(hx:ov ρ x=some (.slice (some ⟨b,o,none⟩) n c))(hy:ov ρ y=some (.int k i))(hi:i=(j:Int))(hj:j<n:=by first|omega|(simp;done)|(simp;omega)):ar P (.indexAddr t x y) ty ρ w (.pointer (some ⟨b,o+j * z,none⟩)):=by
 intro N D ac dst pos af g ha
 obtain⟨i',hu,he,hz,_⟩:=gZ ht
 subst hi
 have h2:(j:Int)<n:=by omega
 simp[execOp,ha.ov hx,ha.ov hy,Instr.indexAt,underlying,hu,asIntOf,hj,sizeOf,typeInfo,he,hz,bV]
theorem dX{e b o:Nat}{i:Int}{j:Nat}(ht:u6 P t=some (e,1,bs))(hx:ov ρ x=some (.slice (some ⟨b,o,none⟩) n c))(hy:ov ρ y=some (.int k i))(hi:i=(j:Int))(hj:j<n:=by first|omega|(simp;done)|(simp;omega)):ar P (.indexAddr t x y) ty ρ w (.pointer (some ⟨b,o+j,none⟩)):=by
 have:=bd (P:=P) (w:=w) (ty:=ty) ht hx hy hi hj
 rwa [Nat.mul_one]at this
theorem fJ{e z:Nat}{i1 i2:Int}{l h:Nat}(ht:u6 P t=some (e,z,bs))(hx:ov ρ x=some (.slice p n c))(h1:ov ρ lo=some (.int k1 i1))(h2:ov ρ hi=some (.int k2 i2))(e1:i1=(l:Int))(e2:i2=(h:Int))(hl:l≤h)(hh:h≤c):
  ar P (.slice t x (some lo) (some hi) none) ty ρ w (.slice (if c=l then p else p.map (·.add (l * z))) (h-l) (c-l)):=by
 intro N D ac dst pos af g ha
 obtain⟨i',hu,he,hz,_⟩:=gZ ht
 subst e1 e2
 simp[execOp,ha.ov hx,ha.ov h1,ha.ov h2,Instr.sliceAt,Instr.slice,Instr.sliceBounds,Instr.sliceBound,underlying,hu,asIntOf,hl,hh,sizeOf,typeInfo,he,hz]
theorem cK{e z:Nat}{i1:Int}{l:Nat}(ht:u6 P t=some (e,z,bs))(hx:ov ρ x=some (.slice p n c))(h1:ov ρ lo=some (.int k1 i1))(e1:i1=(l:Int))(hl:l≤n:=by first|omega|(simp;done)|(simp;omega)):
  ar P (.slice t x (some lo) none none) ty ρ w (.slice (if c=l then p else p.map (·.add (l * z))) (n-l) (c-l)):=by
 intro N D ac dst pos af g ha
 obtain⟨i',hu,he,hz,_⟩:=gZ ht
 subst e1
 simp[execOp,ha.ov hx,ha.ov h1,Instr.sliceAt,Instr.slice,Instr.sliceBounds,Instr.sliceBound,underlying,hu,asIntOf,hl,sizeOf,typeInfo,he,hz]
theorem bu{e z:Nat}{i2:Int}{h:Nat}(ht:u6 P t=some (e,z,bs))(hx:ov ρ x=some (.slice p n c))(h2:ov ρ hi=some (.int k2 i2))(e2:i2=(h:Int))(hh:h≤c:=by first|omega|(simp;done)|(simp;omega)):
  ar P (.slice t x none (some hi) none) ty ρ w (.slice p h c):=by
 intro N D ac dst pos af g ha
 obtain⟨i',hu,he,hz,_⟩:=gZ ht
 subst e2
 simp[execOp,ha.ov hx,ha.ov h2,Instr.sliceAt,Instr.slice,Instr.sliceBounds,Instr.sliceBound,underlying,hu,asIntOf,hh,sizeOf,typeInfo,he]
 intro _
 cases p<;>simp[Addr.add]
theorem E2(hx:ov ρ x=some v):aA P (.box t x) ty ρ w (fun u w'=>u= .pointer (some ⟨w.heap.size,0,none⟩)∧w'=w.alloc (.cells v.cells t)):=
 aA.of_eq fun N D a dst pos af g ha=>⟨_,_,by simp[execOp,ha.ov hx,Instr.box,newVar,newRow],rfl,rfl⟩
theorem gS{cs:List Value}(hx:ov ρ x=some (.agg cs.toArray)):aA P (.box t x) ty ρ w (fun u w'=>u= .pointer (some ⟨w.heap.size,0,none⟩)∧aH w' w.heap.size cs∧ay w w'):=by
 intro N D a dst pos af g ha next Q hn
 refine E2 (P:=P) (ty:=ty) (w:=w) (t:=t) hx N D a dst pos af g ha next Q fun v w' h=>hn v w' ?_
 obtain⟨h1,rfl⟩:=h
 exact⟨h1,aH.new w cs t,ay.alloc _ _⟩
theorem vV{cs:List Value}(hz:bv P t=some z)(hc:z.cells=cs.toArray):aA P (.alloc t) ty ρ w (fun u w'=>u= .pointer (some ⟨w.heap.size,0,none⟩)∧aH w' w.heap.size cs∧ay w w'):=by
 obtain⟨i,hi,hiz⟩:=Option.bind_eq_some_iff.1 hz
 exact aA.of_eq fun N D a dst pos af g ha=>⟨_,w.alloc (.cells cs.toArray t),by simp[execOp,Instr.alloc,zeroValue,typeInfo,hi,hiz,newVar,newRow,hc],rfl,aH.new w cs t,ay.alloc _ _⟩
theorem DP{args:Array Operand}{ts:Array TypeId}{R':Ending→World→Prop}{R:Value→World→Prop}(hb:cH P f=true)(ha:lS ρ args.toList=some vs)(hc:Calls P f vs.toArray w R')(hR:∀e w',R' e w'→∃v,e= .returned v∧R v w'):
  aA P (.call ⟨.value (.func f),args,ts⟩) ty ρ w R:=by
 intro N D a dst pos af g hha next Q hn
 unfold cH at hb
 have e1:args.map a.eval=vs.toArray:=eO hha _ _ ha
 have hf:a.eval (.func f)= .func (.func f) #[] #[]:=rfl
 cases hfn:P.funcs[f]? with
 |none=>rw[hfn]at hb;cases hb
 |some fn=>
  rw[hfn]at hb
  simp only[Bool.and_eq_true,Bool.not_eq_true']at hb
  obtain⟨h1,h2⟩:=hb
  have h2' : ¬ fn.name = "runtime.NumGoroutine" := by simpa using h2
  have h1':¬fn.body=none:=by intro h;simp[h]at h1
  have hrun:(execOp a.eval ⟨dst,.call ⟨.value (.func f),args,ts⟩,ty,pos,af,g⟩).run P w= .ok (.enter f vs.toArray) w:=by
   simp only[execOp,resolve,hf,Deferred.ofValue,e1]
   simp[invoke,callFunc,hfn,h2',h1']
  unfold Oper.wp
  rw[hrun]
  refine Calls.mono hc fun e w' hr=>?_
  obtain⟨v,rfl,hv⟩:=hR e w' hr
  exact hn v w' hv
theorem cD{args:Array Operand}{ts:Array TypeId}(hb:cH P f=true)(ha:lS ρ args.toList=some vs)(hc:ah P f vs w R):
  aA P (.call ⟨.value (.func f),args,ts⟩) ty ρ w R:=DP hb ha hc.calls fun _ _ h=>h
theorem At.nil:At w b o []:=fun _ h=>absurd h (by simp)
end
end Go.Proofs.LL
