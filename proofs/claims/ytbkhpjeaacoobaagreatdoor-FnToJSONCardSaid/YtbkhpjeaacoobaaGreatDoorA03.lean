/- Contracts of functions and own laws. Conditions: those that each theorem states. -/
import Derived.Test.YtbkhpjeaacoobaaGreatDoorA02
set_option linter.all false
namespace Go.Proofs.LL
open Go Go.RowKit
structure Evo (A:Nat→Prop) (w w':World):Prop where
  os:w'.os=w.os
  tape:w'.tape=w.tape
  output:w'.output=w.output
  size:w.heap.size≤w'.heap.size
  block:∀k,k<w.heap.size→A k→w'.heap[k]?=w.heap[k]?
abbrev Ext(w w':World):Prop:=Evo (fun _=>True) w w'
abbrev Nb(rb:Nat):Nat→Prop:=fun k=>k≠rb
theorem Evo.below{w w':World}(h:Ext w w'):Below w.heap.size w w':=⟨h.os,h.tape,h.output,h.size,fun k hk=>h.block k hk trivial⟩
theorem Ext.of_below{w w':World}(h:Below w.heap.size w w'):Ext w w':=⟨h.os,h.tape,h.output,h.size,fun k hk _=>h.block k hk⟩
theorem Evo.refl{A:Nat→Prop}(w:World):Evo A w w:=⟨rfl,rfl,rfl,Nat.le_refl _,fun _ _ _=>rfl⟩
theorem Evo.trans{A:Nat→Prop}{a b c:World}(h:Evo A a b)(k:Evo A b c):Evo A a c:=
  ⟨k.os.trans h.os,k.tape.trans h.tape,k.output.trans h.output,Nat.le_trans h.size k.size,fun i hi ha=>(k.block i (Nat.lt_of_lt_of_le hi h.size) ha).trans (h.block i hi ha)⟩
theorem Evo.weaken{A B:Nat→Prop}{a b:World}(h:Evo A a b)(hBA:∀k,k<a.heap.size→B k→A k):Evo B a b:=⟨h.os,h.tape,h.output,h.size,fun i hi ha=>h.block i hi (hBA i hi ha)⟩
theorem Evo.then{A B:Nat→Prop}{a b c:World}(h:Evo A a b)(k:Evo B b c)(hAB:∀k,k<a.heap.size→A k→B k:=by(intro k hk1 hk2;first|exact trivial|exact hk2|exact hk2.2|((try dsimp only[Nb]at hk2⊢);omega)|exact hk2.1|exact⟨by omega,hk2.2⟩)):Evo A a c:=
  ⟨k.os.trans h.os,k.tape.trans h.tape,k.output.trans h.output,Nat.le_trans h.size k.size,fun i hi ha=>(k.block i (Nat.lt_of_lt_of_le hi h.size) (hAB i hi ha)).trans (h.block i hi ha)⟩
theorem Evo.of{A:Nat→Prop}{a b:World}(h:Ext a b):Evo A a b:=h.weaken fun _ _ _=>trivial
theorem Evo.drew{A:Nat→Prop}(w:World):Evo A w w.drew:=⟨rfl,rfl,rfl,Nat.le_refl _,fun _ _ _=>rfl⟩
theorem Evo.alloc{A:Nat→Prop}(w:World)(o:Obj):Evo A w (w.alloc o):=by
  refine⟨rfl,rfl,rfl,by simp,fun k hk _=>?_⟩
  exact Below.heap_alloc _ _ _ hk
theorem Evo.setCell{A:Nat→Prop}(w:World)(p:Addr)(u:Value)(hp:¬A p.block):Evo A w (w.setCell p u):=
  ⟨rfl,rfl,rfl,by simp[World.setCell],fun k _ hk=>Below.heap_setCell _ _ _ _ (fun e=>hp (e▸hk))⟩
theorem Ext.refl(w:World):Ext w w:=Evo.refl w
theorem Ext.trans{a b c:World}(h:Ext a b)(k:Ext b c):Ext a c:=Evo.trans h k
theorem Ext.drew(w:World):Ext w w.drew:=Evo.drew w
theorem Ext.alloc(w:World)(o:Obj):Ext w (w.alloc o):=Evo.alloc w o
theorem lt_of_cell{w:World}{a:Addr}{v:Value}(h:w.cell? a=some v):a.block<w.heap.size:=World.block_lt_of_cell? w a h
theorem Evo.cell{A:Nat→Prop}{w w':World}(h:Evo A w w'){a:Addr}{v:Value}(hc:w.cell? a=some v)(hA:A a.block:=by first|exact trivial|((try dsimp only[Nb]);omega)|assumption):w'.cell? a=some v:=by
  rw[World.cell?_of_block (w:=w) (h.block _ (lt_of_cell hc) hA),hc]
theorem Evo.obj{A:Nat→Prop}{w w':World}(h:Evo A w w'){b:Nat}{o:Obj}(hc:w.heap[b]?=some o)(hA:A b:=by first|exact trivial|((try dsimp only[Nb]);omega)|assumption):w'.heap[b]?=some o:=by
  rw[h.block b (Array.getElem?_eq_some_iff.1 hc).1 hA,hc]
def Blk(w:World)(b:Nat)(cs:List Value):Prop:=∃T,w.heap[b]?=some (.cells cs.toArray T (0,0))
def At(w:World)(b o:Nat)(l:List Value):Prop:=∀j,j<l.length→w.cell? ⟨b,o+j,none⟩=l[j]?
theorem Blk.cell{w:World}{b:Nat}{cs:List Value}(h:Blk w b cs)(j:Nat):w.cell? ⟨b,j,none⟩=cs[j]?:=by
  obtain⟨T,h⟩:=h
  simp[World.cell?,h]
theorem Blk.get{w:World}{b:Nat}{cs:List Value}(h:Blk w b cs){j:Nat}{v:Value}(hv:cs[j]?=some v):w.cell? ⟨b,j,none⟩=some v:=by rw[h.cell,hv]
theorem Blk.at{w:World}{b:Nat}{cs:List Value}(h:Blk w b cs):At w b 0 cs:=fun j _=>by rw[Nat.zero_add,h.cell]
theorem Blk.frozen{w:World}{b:Nat}{cs:List Value}(h:Blk w b cs)(j:Nat):w.frozen? ⟨b,j,none⟩=false:=by
  obtain⟨T,h⟩:=h
  simp[World.frozen?,h]
theorem Blk.lt{w:World}{b:Nat}{cs:List Value}(h:Blk w b cs):b<w.heap.size:=by
  obtain⟨T,h⟩:=h
  exact(Array.getElem?_eq_some_iff.1 h).1
theorem Blk.mono{A:Nat→Prop}{w w':World}{b:Nat}{cs:List Value}(h:Blk w b cs)(e:Evo A w w')(hA:A b:=by first|exact trivial|((try dsimp only[Nb]);omega)|assumption):Blk w' b cs:=by
  obtain⟨T,h⟩:=h
  exact⟨T,e.obj h hA⟩
theorem Blk.new(w:World)(cs:List Value)(T:TypeId):Blk (w.alloc (.cells cs.toArray T)) w.heap.size cs:=⟨T,by show(w.heap.push _)[w.heap.size]?=_;simp⟩
theorem Blk.set{w:World}{b:Nat}{cs:List Value}(h:Blk w b cs)(j:Nat)(v:Value):Blk (w.setCell ⟨b,j,none⟩ v) b (cs.set j v):=by
  obtain⟨T,h⟩:=h
  refine⟨T,?_⟩
  simp[World.setCell,Array.getElem?_modify,h]
theorem At.mono{A:Nat→Prop}{w w':World}{b o:Nat}{l:List Value}(h:At w b o l)(e:Evo A w w')(hA:A b:=by first|exact trivial|((try dsimp only[Nb]);omega)|assumption):At w' b o l:=fun j hj=>by
  have:=h j hj
  rw[List.getElem?_eq_getElem hj]at this⊢
  exact e.cell this hA
theorem At.get{w:World}{b o:Nat}{l:List Value}(h:At w b o l){j:Nat}{v:Value}(hv:l[j]?=some v):w.cell? ⟨b,o+j,none⟩=some v:=by
  rw[h j (List.getElem?_eq_some_iff.1 hv).1,hv]
def fOff(P:Program)(s f:Nat):Option Nat:=
  match P.underlying s with
  |some (.struct fs)=>match fs[f]? with
    |some fd=>match P.info? fd.type with
      |some i=>if i.size=0 then none else some fd.offset
      |none=>none
    |none=>none
  |_=>none
def oneT(P:Program)(t:TypeId):Bool:=
  match P.underlying t with
  |some (.struct _)=>false
  |some (.array _ _)=>false
  |some _=>true
  |none=>false
def aggT(P:Program)(t:TypeId):Option Nat:=
  match P.underlying t with
  |some (.struct _)=>(P.info? t).map (·.size)
  |some (.array _ _)=>(P.info? t).map (·.size)
  |_=>none
def concT(P:Program)(t:TypeId):Bool:=
  match P.underlying t with
  |some (.interface _)=>false
  |some _=>true
  |none=>false
def bodyB(P:Program)(f:FuncId):Bool:=
  match P.funcs[f]? with
  | some fn => fn.body.isSome && !(fn.name == "runtime.NumGoroutine")
  |none=>false
def cvInt(P:Program)(s d:TypeId):Option IntKind:=
  match P.underlying s,P.underlying d with
  |some _,some (.int k)=>some k
  |_,_=>none
def cvStr(P:Program)(s d:TypeId):Bool:=
  match P.underlying s,P.underlying d with
  |some .string,some .string=>true
  |_,_=>false
def slT(P:Program)(t:TypeId):Option (TypeId×Nat×Nat):=
  match P.underlying t with
  |some (.slice e)=>(P.info? e).map fun i=>(e,i.size,i.bytes)
  |_=>none
def szT(P:Program)(t:TypeId):Option Nat:=(P.info? t).map (·.size)
def zeroT(P:Program)(t:TypeId):Option Value:=(P.info? t).bind (·.zero)
section
variable {P:Program} {ρ:Fr} {w w0:World} {ty:TypeId}
theorem r_move{x:Operand}{v:Value}(hx:ov ρ x=some v):RunOp P (.move x) ty ρ w v:=by
  intro N D a dst pos af g ha
  simp[execOp,ha.ov hx]
theorem r_assign{x:Operand}{v:Value}(hx:ov ρ x=some v):RunOp P (.assign x) ty ρ w v:=by
  intro N D a dst pos af g ha
  simp[execOp,ha.ov hx]
theorem r_pick{c x y:Operand}{b:Bool}{v u:Value}(hc:ov ρ c=some (.bool b))(hx:ov ρ x=some v)(hy:ov ρ y=some u):RunOp P (.pick c x y) ty ρ w (bif b then v else u):=by
  intro N D a dst pos af g ha
  cases b<;>simp[execOp,asBool,ha.ov hc,ha.ov hx,ha.ov hy]
theorem r_or{c y:Operand}{b c' z:Bool}(hc:ov ρ c=some (.bool b))(hy:ov ρ y=some (cnd c' (.bool z)))(hh:b=false→c'=true):RunOp P (.pick c (.const (.bool true)) y) ty ρ w (.bool (b||z)):=by
  intro N D a dst pos af g ha
  cases b with
  |true=>simp[execOp,asBool,ha.ov hc];rfl
  |false=>simp[execOp,asBool,ha.ov hc,ha.ov hy,hh rfl,cnd]
theorem r_and{c y:Operand}{b c' z:Bool}(hc:ov ρ c=some (.bool b))(hy:ov ρ y=some (cnd c' (.bool z)))(hh:b=true→c'=true):RunOp P (.pick c y (.const (.bool false))) ty ρ w (.bool (b&&z)):=by
  intro N D a dst pos af g ha
  cases b with
  |false=>simp[execOp,asBool,ha.ov hc];rfl
  |true=>simp[execOp,asBool,ha.ov hc,ha.ov hy,hh rfl,cnd]
theorem r_nilp{x:Operand}{p:Addr}(hx:ov ρ x=some (.pointer (some p))):RunOp P (.nilCheck x) ty ρ w (.pointer (some p)):=by
  intro N D a dst pos af g ha
  simp[execOp,ha.ov hx]
theorem r_nili{x:Operand}{t:TypeId}{v:Value}(hx:ov ρ x=some (.iface t v)):RunOp P (.nilCheck x) ty ρ w (.iface t v):=by
  intro N D a dst pos af g ha
  simp[execOp,ha.ov hx]
theorem r_nilf{x:Operand}{f:FuncId}{fs cs:Array Value}(hx:ov ρ x=some (.func (.func f) fs cs)):RunOp P (.nilCheck x) ty ρ w (.func (.func f) fs cs):=by
  intro N D a dst pos af g ha
  simp[execOp,ha.ov hx]
theorem Addr_add{b o k:Nat}:Addr.add ⟨b,o,none⟩ k=⟨b,o+k,none⟩:=by
  unfold Addr.add
  split<;>simp_all
theorem r_fieldAddr{s f k b o:Nat}{x:Operand}(hx:ov ρ x=some (.pointer (some ⟨b,o,none⟩)))(hf:fOff P s f=some k):RunOp P (.fieldAddr s x f) ty ρ w (.pointer (some ⟨b,o+k,none⟩)):=by
  intro N D a dst pos af g ha
  unfold fOff at hf
  split at hf
  · rename_i fs hu
    split at hf
    · rename_i fd hfd
      split at hf
      · rename_i i hi
        split at hf
        · cases hf
        · rename_i hsz
          have e:=Option.some.inj hf
          subst e
          simp[execOp,ha.ov hx,Instr.fieldAt,underlying,hu,hfd,Instr.sureAddr,fieldPlace,sizeOf,typeInfo,hi,hsz,Addr_add]
      · cases hf
    · cases hf
  · cases hf
theorem run_und{t:TypeId}{d:TypeDesc}(h:P.underlying t=some d):(underlying t).run P w= .ok d w:=by
  simp[underlying,h]
theorem isAgg_one{t:TypeId}(h:oneT P t=true):(isAgg t).run P w= .ok false w:=by
  unfold oneT at h
  cases hu:P.underlying t with
  |none=>rw[hu]at h;cases h
  |some d=>rw[hu]at h;cases d<;>simp_all [isAgg,underlying]
theorem r_load{A:Nat→Prop}{t:TypeId}{x:Operand}{p:Addr}{v:Value}(ht:oneT P t=true)(hx:ov ρ x=some (.pointer (some p)))(hE:Evo A w0 w)(hc:w0.cell? p=some v)(hA:A p.block:=by first|exact trivial|((try dsimp only[Nb]);omega)|assumption):RunOp P (.load t x) ty ρ w v:=by
  intro N D a dst pos af g ha
  have h1:=hE.cell hc hA
  simp[execOp,ha.ov hx,Instr.loadAt,Instr.sureAddr,loadVar,isAgg_one ht,h1]
theorem agg_some{t n:Nat}(h:aggT P t=some n):(∀w:World,(isAgg t).run P w= .ok true w)∧∃i,P.info? t=some i∧i.size=n:=by
  unfold aggT at h
  split at h
  · rename_i hu
    obtain⟨i,hi,hn⟩:=Option.map_eq_some_iff.1 h
    exact⟨fun w=>by simp[isAgg,underlying,hu],i,hi,hn⟩
  · rename_i hu
    obtain⟨i,hi,hn⟩:=Option.map_eq_some_iff.1 h
    exact⟨fun w=>by simp[isAgg,underlying,hu],i,hi,hn⟩
  · cases h
theorem r_loadAgg{A:Nat→Prop}{t n b o:Nat}{x:Operand}{l:List Value}(ht:aggT P t=some n)(hx:ov ρ x=some (.pointer (some ⟨b,o,none⟩)))(hE:Evo A w0 w)(hc:At w0 b o l)(hn:l.length=n:=by rfl)(hA:A b:=by first|exact trivial|((try dsimp only[Nb]);omega)|assumption):RunOp P (.load t x) ty ρ w (.agg l.toArray):=by
  intro N D a dst pos af g ha
  obtain⟨h1,i,hi,hs⟩:=agg_some ht
  have hl:(loadCells ⟨b,o,none⟩ n).run P w= .ok l.toArray w:=by
    subst hn
    exact run_loadCells_list (P:=P) (w:=w) ⟨b,o,none⟩ l fun j v hv=>by
      rw[Addr_add]
      have h2:=(hc.mono hE hA).get hv
      exact h2
  simp[execOp,ha.ov hx,Instr.loadAt,Instr.sureAddr,loadVar,h1,sizeOf,typeInfo,hi,hs,hl]
theorem l_store{t b j:Nat}{x y:Operand}{v:Value}{cs:List Value}(ht:szT P t=some 1)(hx:ov ρ x=some (.pointer (some ⟨b,j,none⟩)))(hy:ov ρ y=some v)(hv:v.oneCell'=true)(hB:Blk w b cs)(hj:Nat.blt j cs.length=true):
    LoudOp P (.store t x y) ty ρ w (fun _ w'=>Blk w' b (cs.set j v)∧Evo (fun k=>k≠b) w w'∧w'.heap.size=w.heap.size):=by
  refine LoudOp.of_skip fun N D a dst pos af g ha=>⟨w.setCell ⟨b,j,none⟩ v,?_,hB.set j v,Evo.setCell _ _ _ (fun h=>h rfl),by simp[World.setCell]⟩
  obtain⟨i,hi,hs⟩:=Option.map_eq_some_iff.1 ht
  have hjl:j<cs.length:=by simpa[Nat.blt_eq]using hj
  have hc:w.cell? ⟨b,j,none⟩=some cs[j]:=hB.get (List.getElem?_eq_getElem hjl)
  have hcs:v.cells= #[v]:=by cases v<;>simp_all [Value.cells,Value.oneCell']
  have hst:=run_store P w ⟨b,j,none⟩ v .plain hv
  simp[hc,hB.frozen]at hst
  simp[execOp,ha.ov hx,ha.ov hy,Instr.storeAt,Instr.sureAddr,storeVar,sizeOf,typeInfo,hi,hs,hcs,storeCells,Addr_add,hst]
end
end Go.Proofs.LL
namespace Go.Proofs.LL
open Go Go.RowKit
section
variable {P:Program} {ρ:Fr} {w w0:World} {ty:TypeId} {x y:Operand} {xt yt:TypeId}
theorem r_intop{op:BinOp}{k:IntKind}{a b:Int}{v:Value}(hx:ov ρ x=some (.int k a))(hy:ov ρ y=some (.int k b))(hr:∀w:World,(binOp op xt (.int k a) (.int k b)).run P w= .ok v w):
    RunOp P (.binOp op xt x y yt) ty ρ w v:=by
  intro N D ac dst pos af g ha
  simp[execOp,ha.ov hx,ha.ov hy,eqGuard,hr]
theorem r_add{k:IntKind}{a b:Int}(hx:ov ρ x=some (.int k a))(hy:ov ρ y=some (.int k b)):RunOp P (.binOp .add xt x y yt) ty ρ w (.int k (k.wrap (a+b))):=
  r_intop hx hy fun w=>by simp[binOp,Op.intArith]
theorem r_sub{k:IntKind}{a b:Int}(hx:ov ρ x=some (.int k a))(hy:ov ρ y=some (.int k b)):RunOp P (.binOp .sub xt x y yt) ty ρ w (.int k (k.wrap (a-b))):=
  r_intop hx hy fun w=>by simp[binOp,Op.intArith]
theorem r_mul{k:IntKind}{a b:Int}(hx:ov ρ x=some (.int k a))(hy:ov ρ y=some (.int k b)):RunOp P (.binOp .mul xt x y yt) ty ρ w (.int k (k.wrap (a * b))):=
  r_intop hx hy fun w=>by simp[binOp,Op.intArith]
theorem r_quo{k:IntKind}{a b:Int}(hb:b≠0)(hx:ov ρ x=some (.int k a))(hy:ov ρ y=some (.int k b)):RunOp P (.binOp .quo xt x y yt) ty ρ w (.int k (k.wrap (a.tdiv b))):=
  r_intop hx hy fun w=>by simp[binOp,Op.intDiv,hb]
theorem r_rem{k:IntKind}{a b:Int}(hb:b≠0)(hx:ov ρ x=some (.int k a))(hy:ov ρ y=some (.int k b)):RunOp P (.binOp .rem xt x y yt) ty ρ w (.int k (a.tmod b)):=
  r_intop hx hy fun w=>by simp[binOp,Op.intDiv,hb]
theorem wrap_i64{n:Int}(h1: -9223372036854775808≤n)(h2:n≤9223372036854775807):IntKind.i64.wrap n=n:=by
  exact IntWalk.i64_in n ⟨h1,h2⟩
theorem r_addi{a b c:Int}(hx:ov ρ x=some (.int .i64 a))(hy:ov ρ y=some (.int .i64 b))(hc:a+b=c)(h1: -9223372036854775808≤c)(h2:c≤9223372036854775807):RunOp P (.binOp .add xt x y yt) ty ρ w (.int .i64 c):=by
  have:=r_add (P:=P) (w:=w) (ty:=ty) (xt:=xt) (yt:=yt) hx hy
  rw[hc,wrap_i64 h1 h2]at this;exact this
theorem r_subi{a b c:Int}(hx:ov ρ x=some (.int .i64 a))(hy:ov ρ y=some (.int .i64 b))(hc:a-b=c)(h1: -9223372036854775808≤c)(h2:c≤9223372036854775807):RunOp P (.binOp .sub xt x y yt) ty ρ w (.int .i64 c):=by
  have:=r_sub (P:=P) (w:=w) (ty:=ty) (xt:=xt) (yt:=yt) hx hy
  rw[hc,wrap_i64 h1 h2]at this;exact this
theorem r_muli{a b c:Int}(hx:ov ρ x=some (.int .i64 a))(hy:ov ρ y=some (.int .i64 b))(hc:a * b=c)(h1: -9223372036854775808≤c)(h2:c≤9223372036854775807):RunOp P (.binOp .mul xt x y yt) ty ρ w (.int .i64 c):=by
  have:=r_mul (P:=P) (w:=w) (ty:=ty) (xt:=xt) (yt:=yt) hx hy
  rw[hc,wrap_i64 h1 h2]at this;exact this
theorem r_eql{k:IntKind}{a b:Int}(hx:ov ρ x=some (.int k a))(hy:ov ρ y=some (.int k b)):RunOp P (.binOp .eql xt x y yt) ty ρ w (.bool (a==b)):=
  r_intop hx hy fun w=>by simp[binOp,Op.intCmp]
theorem r_neq{k:IntKind}{a b:Int}(hx:ov ρ x=some (.int k a))(hy:ov ρ y=some (.int k b)):RunOp P (.binOp .neq xt x y yt) ty ρ w (.bool (a !=b)):=
  r_intop hx hy fun w=>by simp[binOp,Op.intCmp]
theorem r_lss{k:IntKind}{a b:Int}(hx:ov ρ x=some (.int k a))(hy:ov ρ y=some (.int k b)):RunOp P (.binOp .lss xt x y yt) ty ρ w (.bool (decide (a<b))):=
  r_intop hx hy fun w=>by simp[binOp,Op.intCmp]
theorem r_leq{k:IntKind}{a b:Int}(hx:ov ρ x=some (.int k a))(hy:ov ρ y=some (.int k b)):RunOp P (.binOp .leq xt x y yt) ty ρ w (.bool (decide (a≤b))):=
  r_intop hx hy fun w=>by simp[binOp,Op.intCmp]
theorem r_gtr{k:IntKind}{a b:Int}(hx:ov ρ x=some (.int k a))(hy:ov ρ y=some (.int k b)):RunOp P (.binOp .gtr xt x y yt) ty ρ w (.bool (decide (b<a))):=
  r_intop hx hy fun w=>by simp[binOp,Op.intCmp]
theorem r_geq{k:IntKind}{a b:Int}(hx:ov ρ x=some (.int k a))(hy:ov ρ y=some (.int k b)):RunOp P (.binOp .geq xt x y yt) ty ρ w (.bool (decide (b≤a))):=
  r_intop hx hy fun w=>by simp[binOp,Op.intCmp]
theorem beqT{a b:Int}(h:a=b):(a==b)=true:=by simp[h]
theorem beqF{a b:Int}(h:a≠b):(a==b)=false:=by simp[h]
theorem bneT{a b:Int}(h:a≠b):(a !=b)=true:=by simp[h]
theorem bneF{a b:Int}(h:a=b):(a !=b)=false:=by simp[h]
theorem r_cmp{op:BinOp}{b:Bool}{c:Bool}(h:RunOp P (.binOp op xt x y yt) ty ρ w (.bool b))(hb:b=c):RunOp P (.binOp op xt x y yt) ty ρ w (.bool c):=hb▸h
theorem r_or_{op:BinOp}{k:IntKind}{a b:Int}(ho:op= .and∨op= .or∨op= .xor∨op= .andNot)(hx:ov ρ x=some (.int k a))(hy:ov ρ y=some (.int k b)):RunOp P (.binOp op xt x y yt) ty ρ w (.int k (bits op k a b)):=
  r_intop hx hy fun w=>by rcases ho with rfl|rfl|rfl|rfl<;>simp[binOp,intBits_and,intBits_or,intBits_xor,intBits_andNot]
theorem r_bitand{k:IntKind}{a b:Int}(hx:ov ρ x=some (.int k a))(hy:ov ρ y=some (.int k b)):RunOp P (.binOp .and xt x y yt) ty ρ w (.int k (bits .and k a b)):=r_or_ (by simp) hx hy
theorem r_bitor{k:IntKind}{a b:Int}(hx:ov ρ x=some (.int k a))(hy:ov ρ y=some (.int k b)):RunOp P (.binOp .or xt x y yt) ty ρ w (.int k (bits .or k a b)):=r_or_ (by simp) hx hy
theorem r_bitxor{k:IntKind}{a b:Int}(hx:ov ρ x=some (.int k a))(hy:ov ρ y=some (.int k b)):RunOp P (.binOp .xor xt x y yt) ty ρ w (.int k (bits .xor k a b)):=r_or_ (by simp) hx hy
theorem r_as{op:Op}{k:IntKind}{a b:Int}(h:RunOp P op ty ρ w (.int k a))(e:a=b):RunOp P op ty ρ w (.int k b):=e▸h
theorem r_asb{op:Op}{a b:Bool}(h:RunOp P op ty ρ w (.bool a))(e:a=b):RunOp P op ty ρ w (.bool b):=e▸h
theorem r_shl{k yk:IntKind}{a b:Int}(hx:ov ρ x=some (.int k a))(hy:ov ρ y=some (.int yk b))(hb:0≤b):RunOp P (.binOp .shl xt x y yt) ty ρ w (.int k (k.wrap (a * 2^(min b.toNat k.bits)))):=by
  intro N D ac dst pos af g ha
  simp[execOp,ha.ov hx,ha.ov hy,eqGuard,binOp,Op.shift,show¬b<0 by omega]
theorem r_shr{k yk:IntKind}{a b:Int}(hx:ov ρ x=some (.int k a))(hy:ov ρ y=some (.int yk b))(hb:0≤b):RunOp P (.binOp .shr xt x y yt) ty ρ w (.int k (a.fdiv (2^(min b.toNat k.bits)))):=by
  intro N D ac dst pos af g ha
  simp[execOp,ha.ov hx,ha.ov hy,eqGuard,binOp,Op.shift,show¬b<0 by omega]
theorem r_not{b:Bool}(hx:ov ρ x=some (.bool b)):RunOp P (.unOp .not xt x) ty ρ w (.bool (!b)):=by
  intro N D ac dst pos af g ha
  simp[execOp,ha.ov hx,Op.unary]
theorem r_cvInt{s d:TypeId}{k k':IntKind}{a:Int}(h:cvInt P s d=some k)(hx:ov ρ x=some (.int k' a)):RunOp P (.convert s d x) ty ρ w (.int k (k.wrap a)):=by
  intro N D ac dst pos af g ha
  unfold cvInt at h
  cases h1:P.underlying s with
  |none=>simp[h1]at h
  |some ds=>
    cases h2:P.underlying d with
    |none=>simp[h1,h2]at h
    |some dd=>
      cases dd with
      |int k''=>
        simp[h1,h2]at h
        subst h
        simp[execOp,ha.ov hx,convert,underlying,h1,h2,Conv.intToInt]
      |_=>simp[h1,h2]at h
theorem r_cvIntId{s d:TypeId}{k k':IntKind}{a:Int}(h:cvInt P s d=some k)(hx:ov ρ x=some (.int k' a))(hw:k.wrap a=a):RunOp P (.convert s d x) ty ρ w (.int k a):=by
  have:=r_cvInt (P:=P) (w:=w) (ty:=ty) h hx
  rwa [hw]at this
theorem r_cvStr{s d:TypeId}{a:ByteArray}(h:cvStr P s d=true)(hx:ov ρ x=some (.string a)):RunOp P (.convert s d x) ty ρ w (.string a):=by
  intro N D ac dst pos af g ha
  unfold cvStr at h
  split at h
  · rename_i h1 h2
    simp[execOp,ha.ov hx,convert,underlying,h1,h2]
  · cases h
theorem r_streq{a b:ByteArray}(hx:ov ρ x=some (.string a))(hy:ov ρ y=some (.string b)):RunOp P (.binOp .eql xt x y yt) ty ρ w (.bool (a.toList==b.toList)):=by
  intro N D ac dst pos af g ha
  simp[execOp,ha.ov hx,ha.ov hy,eqGuard,binOp,Op.stringOp]
theorem r_strne{a b:ByteArray}(hx:ov ρ x=some (.string a))(hy:ov ρ y=some (.string b)):RunOp P (.binOp .neq xt x y yt) ty ρ w (.bool !(a.toList==b.toList)):=by
  intro N D ac dst pos af g ha
  simp[execOp,ha.ov hx,ha.ov hy,eqGuard,binOp,Op.stringOp]
def ifT(P:Program)(t:TypeId):Bool:=
  match P.underlying t with
  |some (.interface _)=>true
  |_=>false
theorem ifT_some{t:TypeId}(h:ifT P t=true):∃ms,P.underlying t=some (.interface ms):=by
  unfold ifT at h
  split at h
  · exact⟨_,by assumption⟩
  · cases h
theorem eqIn_nil{t:TypeId}(ht:ifT P t=true)(d:Nat)(w:World):(Op.equalIn (d+1) t .nilIface .nilIface).run P w= .ok true w:=by
  obtain⟨ms,hu⟩:=ifT_some ht
  simp[Op.equalIn,underlying,hu]
theorem eqIn_some{t u:TypeId}{v:Value}(ht:ifT P t=true)(d:Nat)(w:World):(Op.equalIn (d+1) t (.iface u v) .nilIface).run P w= .ok false w:=by
  obtain⟨ms,hu⟩:=ifT_some ht
  simp[Op.equalIn,underlying,hu]
theorem eq_nil{t:TypeId}(ht:ifT P t=true)(w:World):(Op.equal t .nilIface .nilIface).run P w= .ok true w:=eqIn_nil ht 9999 w
theorem eq_some{t u:TypeId}{v:Value}(ht:ifT P t=true)(w:World):(Op.equal t (.iface u v) .nilIface).run P w= .ok false w:=eqIn_some ht 9999 w
theorem r_ifneNil(ht:ifT P xt=true)(hx:ov ρ x=some .nilIface):RunOp P (.binOp .neq xt x (.const .nilIface) yt) ty ρ w (.bool false):=by
  intro N D ac dst pos af g ha
  have hc:ac.eval (.const .nilIface)= .nilIface:=rfl
  simp only[execOp,ha.ov hx,hc]
  simp[eqGuard,binOp,eq_nil ht]
theorem r_ifneSome{t:TypeId}{v:Value}(ht:ifT P xt=true)(hx:ov ρ x=some (.iface t v)):RunOp P (.binOp .neq xt x (.const .nilIface) yt) ty ρ w (.bool true):=by
  intro N D ac dst pos af g ha
  have hc:ac.eval (.const .nilIface)= .nilIface:=rfl
  simp only[execOp,ha.ov hx,hc]
  simp[eqGuard,binOp,eq_some ht]
theorem r_ifeqNil(ht:ifT P xt=true)(hx:ov ρ x=some .nilIface):RunOp P (.binOp .eql xt x (.const .nilIface) yt) ty ρ w (.bool true):=by
  intro N D ac dst pos af g ha
  have hc:ac.eval (.const .nilIface)= .nilIface:=rfl
  simp only[execOp,ha.ov hx,hc]
  simp[eqGuard,binOp,eq_nil ht]
theorem r_ifeqSome{t:TypeId}{v:Value}(ht:ifT P xt=true)(hx:ov ρ x=some (.iface t v)):RunOp P (.binOp .eql xt x (.const .nilIface) yt) ty ρ w (.bool false):=by
  intro N D ac dst pos af g ha
  have hc:ac.eval (.const .nilIface)= .nilIface:=rfl
  simp only[execOp,ha.ov hx,hc]
  simp[eqGuard,binOp,eq_some ht]
theorem r_mkIface{t:TypeId}{v:Value}(ht:concT P t=true)(hx:ov ρ x=some v):RunOp P (.makeInterface t x) ty ρ w (.iface t v):=by
  intro N D ac dst pos af g ha
  unfold concT at ht
  cases hu:P.underlying t with
  |none=>rw[hu]at ht;cases ht
  |some d=>rw[hu]at ht;cases d<;>simp_all [execOp,ha.ov hx,Instr.makeInterface,underlying]
theorem r_assertIs{t s:TypeId}{v:Value}(ht:concT P t=true)(hx:ov ρ x=some (.iface t v)):RunOp P (.typeAssert x s t true) ty ρ w (.tuple #[v,.bool true]):=by
  intro N D ac dst pos af g ha
  unfold concT at ht
  cases hu:P.underlying t with
  |none=>rw[hu]at ht;cases ht
  |some d=>rw[hu]at ht;cases d<;>simp_all [execOp,ha.ov hx,Instr.typeAssert,underlying]
theorem r_assertNo{t u s:TypeId}{v z:Value}(ht:concT P t=true)(hz:zeroT P t=some z)(hx:ov ρ x=some (.iface u v))(hn:Nat.beq u t=false):RunOp P (.typeAssert x s t true) ty ρ w (.tuple #[z,.bool false]):=by
  intro N D ac dst pos af g ha
  have hne:u≠t:=Nat.ne_of_beq_eq_false hn
  obtain⟨i,hi,hiz⟩:=Option.bind_eq_some_iff.1 hz
  unfold concT at ht
  cases hu:P.underlying t with
  |none=>rw[hu]at ht;cases ht
  |some d=>rw[hu]at ht;cases d<;>simp_all [execOp,ha.ov hx,Instr.typeAssert,underlying,zeroValue,typeInfo]
theorem r_assertNil{t s:TypeId}{z:Value}(ht:concT P t=true)(hz:zeroT P t=some z)(hx:ov ρ x=some .nilIface):RunOp P (.typeAssert x s t true) ty ρ w (.tuple #[z,.bool false]):=by
  intro N D ac dst pos af g ha
  obtain⟨i,hi,hiz⟩:=Option.bind_eq_some_iff.1 hz
  unfold concT at ht
  cases hu:P.underlying t with
  |none=>rw[hu]at ht;cases ht
  |some d=>rw[hu]at ht;cases d<;>simp_all [execOp,ha.ov hx,Instr.typeAssert,underlying,zeroValue,typeInfo]
theorem r_extract{i:Nat}{vs:Array Value}{v:Value}(hx:ov ρ x=some (.tuple vs))(hv:vs[i]?=some v):RunOp P (.extract x i) ty ρ w v:=by
  intro N D ac dst pos af g ha
  simp[execOp,ha.ov hx,Instr.extract,hv]
def ovs(ρ:Fr):List Operand→Option (List Value)
  |[]=>some []
  |o::r=>match ov ρ o,ovs ρ r with
    |some v,some vs=>some (v::vs)
    |_,_=>none
theorem map_eval{N:Nat}{D:List Deferred}{ac:Act}(ha:Has N D ac ρ)(l:List Operand)(vs:List Value)(h:ovs ρ l=some vs):l.map ac.eval=vs:=by
  induction l generalizing vs with
  |nil=>simp[ovs]at h;simp[h]
  |cons o r ih=>
    simp only[ovs]at h
    cases h1:ov ρ o with
    |none=>rw[h1]at h;cases h
    |some v=>
      cases h2:ovs ρ r with
      |none=>rw[h1,h2]at h;cases h
      |some us=>
        rw[h1,h2]at h
        have e:v::us=vs:=Option.some.inj h
        rw[List.map_cons,ha.ov h1,ih _ h2,e]
theorem map_evalA{N:Nat}{D:List Deferred}{ac:Act}(ha:Has N D ac ρ)(l:Array Operand)(vs:List Value)(h:ovs ρ l.toList=some vs):l.map ac.eval=vs.toArray:=by
  apply Array.toList_inj.1
  rw[← map_eval ha _ _ h]
  simp
theorem r_makeFunc{f:FuncId}{fs cs:Array Operand}{l m:List Value}(h1:ovs ρ fs.toList=some l)(h2:ovs ρ cs.toList=some m):RunOp P (.makeFunc (.func f) fs cs) ty ρ w (.func (.func f) l.toArray m.toArray):=by
  intro N D ac dst pos af g ha
  simp[execOp,Instr.makeFunc,map_evalA ha _ _ h1,map_evalA ha _ _ h2]
theorem slT_some{t e z bs:Nat}(h:slT P t=some (e,z,bs)):∃i,P.underlying t=some (.slice e)∧P.info? e=some i∧i.size=z∧i.bytes=bs:=by
  unfold slT at h
  split at h
  · rename_i e' hu
    obtain⟨i,hi,he⟩:=Option.map_eq_some_iff.1 h
    simp only[Prod.mk.injEq]at he
    obtain⟨rfl,rfl,rfl⟩:=he
    exact⟨i,hu,hi,rfl,rfl⟩
  · cases h
theorem r_len{t e z bs n c:Nat}{p:Option Addr}(ht:slT P t=some (e,z,bs))(hx:ov ρ x=some (.slice p n c)):RunOp P (.call ⟨.builtin .len, #[x], #[t]⟩) ty ρ w (.int .i64 n):=by
  intro N D ac dst pos af g ha
  obtain⟨i,hu,_⟩:=slT_some ht
  simp[execOp,ha.ov hx,resolve,invoke,builtin,Builtin.len_,underlying,hu,goInt]
theorem r_cap{t e z bs n c:Nat}{p:Option Addr}(ht:slT P t=some (e,z,bs))(hx:ov ρ x=some (.slice p n c)):RunOp P (.call ⟨.builtin .cap, #[x], #[t]⟩) ty ρ w (.int .i64 c):=by
  intro N D ac dst pos af g ha
  obtain⟨i,hu,_⟩:=slT_some ht
  simp[execOp,ha.ov hx,resolve,invoke,builtin,Builtin.cap_,underlying,hu,goInt]
def strT(P:Program)(t:TypeId):Bool:=
  match P.underlying t with
  |some .string=>true
  |_=>false
theorem r_lens{t:TypeId}{s:ByteArray}(ht:strT P t=true)(hx:ov ρ x=some (.string s)):RunOp P (.call ⟨.builtin .len, #[x], #[t]⟩) ty ρ w (.int .i64 s.size):=by
  intro N D ac dst pos af g ha
  unfold strT at ht
  split at ht
  · rename_i hu
    simp[execOp,ha.ov hx,resolve,invoke,builtin,Builtin.len_,underlying,hu,goInt]
  · cases ht
theorem r_idxs{t:TypeId}{s:ByteArray}{k:IntKind}{i:Int}{j:Nat}(ht:strT P t=true)(hx:ov ρ x=some (.string s))(hy:ov ρ y=some (.int k i))(hi:i=(j:Int)){b:UInt8}(hj:s[j]?=some b):RunOp P (.index t x y) ty ρ w (.int .u8 b.toNat):=by
  intro N D ac dst pos af g ha
  subst hi
  unfold strT at ht
  split at ht
  · rename_i hu
    simp[execOp,ha.ov hx,ha.ov hy,Instr.index,underlying,hu,asIntOf,hj]
  · cases ht
theorem r_idx{t e z bs n c b o:Nat}{k:IntKind}{i:Int}{j:Nat}(ht:slT P t=some (e,z,bs))(hx:ov ρ x=some (.slice (some ⟨b,o,none⟩) n c))(hy:ov ρ y=some (.int k i))(hi:i=(j:Int))(hj:j<n):RunOp P (.indexAddr t x y) ty ρ w (.pointer (some ⟨b,o+j * z,none⟩)):=by
  intro N D ac dst pos af g ha
  obtain⟨i',hu,he,hz,_⟩:=slT_some ht
  subst hi
  have h2:(j:Int)<n:=by omega
  simp[execOp,ha.ov hx,ha.ov hy,Instr.indexAt,underlying,hu,asIntOf,hj,sizeOf,typeInfo,he,hz,Addr_add]
theorem r_idx1{t e bs n c b o:Nat}{k:IntKind}{i:Int}{j:Nat}(ht:slT P t=some (e,1,bs))(hx:ov ρ x=some (.slice (some ⟨b,o,none⟩) n c))(hy:ov ρ y=some (.int k i))(hi:i=(j:Int))(hj:j<n):RunOp P (.indexAddr t x y) ty ρ w (.pointer (some ⟨b,o+j,none⟩)):=by
  have:=r_idx (P:=P) (w:=w) (ty:=ty) ht hx hy hi hj
  rwa [Nat.mul_one]at this
theorem r_slice{t e z bs n c:Nat}{p:Option Addr}{lo hi:Operand}{k1 k2:IntKind}{i1 i2:Int}{l h:Nat}(ht:slT P t=some (e,z,bs))(hx:ov ρ x=some (.slice p n c))(h1:ov ρ lo=some (.int k1 i1))(h2:ov ρ hi=some (.int k2 i2))(e1:i1=(l:Int))(e2:i2=(h:Int))(hl:l≤h)(hh:h≤c):
    RunOp P (.slice t x (some lo) (some hi) none) ty ρ w (.slice (if c=l then p else p.map (·.add (l * z))) (h-l) (c-l)):=by
  intro N D ac dst pos af g ha
  obtain⟨i',hu,he,hz,_⟩:=slT_some ht
  subst e1 e2
  simp[execOp,ha.ov hx,ha.ov h1,ha.ov h2,Instr.sliceAt,Instr.slice,Instr.sliceBounds,Instr.sliceBound,underlying,hu,asIntOf,hl,hh,sizeOf,typeInfo,he,hz]
theorem r_slicel{t e z bs n c:Nat}{p:Option Addr}{lo:Operand}{k1:IntKind}{i1:Int}{l:Nat}(ht:slT P t=some (e,z,bs))(hx:ov ρ x=some (.slice p n c))(h1:ov ρ lo=some (.int k1 i1))(e1:i1=(l:Int))(hl:l≤n):
    RunOp P (.slice t x (some lo) none none) ty ρ w (.slice (if c=l then p else p.map (·.add (l * z))) (n-l) (c-l)):=by
  intro N D ac dst pos af g ha
  obtain⟨i',hu,he,hz,_⟩:=slT_some ht
  subst e1
  simp[execOp,ha.ov hx,ha.ov h1,Instr.sliceAt,Instr.slice,Instr.sliceBounds,Instr.sliceBound,underlying,hu,asIntOf,hl,sizeOf,typeInfo,he,hz]
theorem r_sliceh{t e z bs n c:Nat}{p:Option Addr}{hi:Operand}{k2:IntKind}{i2:Int}{h:Nat}(ht:slT P t=some (e,z,bs))(hx:ov ρ x=some (.slice p n c))(h2:ov ρ hi=some (.int k2 i2))(e2:i2=(h:Int))(hh:h≤c):
    RunOp P (.slice t x none (some hi) none) ty ρ w (.slice p h c):=by
  intro N D ac dst pos af g ha
  obtain⟨i',hu,he,hz,_⟩:=slT_some ht
  subst e2
  simp[execOp,ha.ov hx,ha.ov h2,Instr.sliceAt,Instr.slice,Instr.sliceBounds,Instr.sliceBound,underlying,hu,asIntOf,hh,sizeOf,typeInfo,he]
  intro _
  cases p<;>simp[Addr.add]
theorem l_box{t:TypeId}{v:Value}(hx:ov ρ x=some v):LoudOp P (.box t x) ty ρ w (fun u w'=>u= .pointer (some ⟨w.heap.size,0,none⟩)∧w'=w.alloc (.cells v.cells t)):=
  LoudOp.of_eq fun N D a dst pos af g ha=>⟨_,_,by simp[execOp,ha.ov hx,Instr.box,newVar,newRow],rfl,rfl⟩
theorem l_boxAgg{t:TypeId}{cs:List Value}(hx:ov ρ x=some (.agg cs.toArray)):LoudOp P (.box t x) ty ρ w (fun u w'=>u= .pointer (some ⟨w.heap.size,0,none⟩)∧Blk w' w.heap.size cs∧Ext w w'):=by
  intro N D a dst pos af g ha next Q hn
  refine l_box (P:=P) (ty:=ty) (w:=w) (t:=t) hx N D a dst pos af g ha next Q fun v w' h=>hn v w' ?_
  obtain⟨h1,rfl⟩:=h
  exact⟨h1,Blk.new w cs t,Ext.alloc _ _⟩
theorem l_box1{t:TypeId}{v:Value}(hx:ov ρ x=some v)(hv:v.cells= #[v]):LoudOp P (.box t x) ty ρ w (fun u w'=>u= .pointer (some ⟨w.heap.size,0,none⟩)∧Blk w' w.heap.size [v]∧Ext w w'):=by
  intro N D a dst pos af g ha next Q hn
  refine l_box (P:=P) (ty:=ty) (w:=w) (t:=t) hx N D a dst pos af g ha next Q fun u w' h=>hn u w' ?_
  obtain⟨h1,rfl⟩:=h
  rw[hv]
  exact⟨h1,Blk.new w [v] t,Ext.alloc _ _⟩
theorem l_alloc{t:TypeId}{z:Value}{cs:List Value}(hz:zeroT P t=some z)(hc:z.cells=cs.toArray):LoudOp P (.alloc t) ty ρ w (fun u w'=>u= .pointer (some ⟨w.heap.size,0,none⟩)∧Blk w' w.heap.size cs∧Ext w w'):=by
  obtain⟨i,hi,hiz⟩:=Option.bind_eq_some_iff.1 hz
  exact LoudOp.of_eq fun N D a dst pos af g ha=>⟨_,w.alloc (.cells cs.toArray t),by simp[execOp,Instr.alloc,zeroValue,typeInfo,hi,hiz,newVar,newRow,hc],rfl,Blk.new w cs t,Ext.alloc _ _⟩
theorem l_call{f:FuncId}{args:Array Operand}{ts:Array TypeId}{vs:List Value}{R':Ending→World→Prop}{R:Value→World→Prop}(hb:bodyB P f=true)(ha:ovs ρ args.toList=some vs)(hc:Calls P f vs.toArray w R')(hR:∀e w',R' e w'→∃v,e= .returned v∧R v w'):
    LoudOp P (.call ⟨.value (.func f),args,ts⟩) ty ρ w R:=by
  intro N D a dst pos af g hha next Q hn
  unfold bodyB at hb
  have e1:args.map a.eval=vs.toArray:=map_evalA hha _ _ ha
  have hf:a.eval (.func f)= .func (.func f) #[] #[]:=rfl
  cases hfn:P.funcs[f]? with
  |none=>rw[hfn]at hb;cases hb
  |some fn=>
    rw[hfn]at hb
    simp only[Bool.and_eq_true,Bool.not_eq_true']at hb
    obtain⟨h1,h2⟩:=hb
    have h2' : ¬ fn.name = "runtime.NumGoroutine" := by simpa using h2
    have h1':¬fn.body=none:=by intro h;simp[h]at h1
    have hrun:(execOp a.eval ⟨dst,.call ⟨.value (.func f),args,ts⟩,ty,pos,af,g⟩).run P w= .ok (.enter f vs.toArray) w:=by
      simp only[execOp,resolve,hf,Deferred.ofValue,e1]
      simp[invoke,callFunc,hfn,h2',h1']
    unfold Oper.wp
    rw[hrun]
    refine Calls.mono hc fun e w' hr=>?_
    obtain⟨v,rfl,hv⟩:=hR e w' hr
    exact hn v w' hv
theorem l_do{f:FuncId}{args:Array Operand}{ts:Array TypeId}{vs:List Value}{R:Value→World→Prop}(hb:bodyB P f=true)(ha:ovs ρ args.toList=some vs)(hc:Does P f vs w R):
    LoudOp P (.call ⟨.value (.func f),args,ts⟩) ty ρ w R:=l_call hb ha hc.calls fun _ _ h=>h
theorem At.nil{w:World}{b o:Nat}:At w b o []:=fun _ h=>absurd h (by simp)
end
end Go.Proofs.LL
