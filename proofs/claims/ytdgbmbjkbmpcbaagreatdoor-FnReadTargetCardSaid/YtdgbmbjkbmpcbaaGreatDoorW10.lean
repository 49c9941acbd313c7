/- Own laws of frames, operations, regions and loops. The read buffer: what its methods do. Conditions: those that each theorem states. -/
import Derived.Test.YtdgbmbjkbmpcbaaGreatDoorW09
import Derived.Test.YtdgbmbjkbmpcbaaGreatDoorProg
import Derived.KernelRfl
import Derived.Lib.EndianBits
set_option linter.all false
set_option maxRecDepth 20000
namespace Go.Proofs.LL
open Go Go.Proofs Go.RowKit
class KG (op:Op) (k:Nat):Prop where
  t:True
section
variable {x y z:Operand} {s t u:Nat} {xs:Array Operand} {ts:Array TypeId} {o:BinOp} {b:Builtin}
instance:KG (.binOp o s x y t) 1:=⟨trivial⟩
instance:KG (.typeAssert x s t true) 2:=⟨trivial⟩
instance:KG (.load t x) 3:=⟨trivial⟩
instance:KG (.fieldAddr t x s) 4:=⟨trivial⟩
instance:KG (.pick x y z) 6:=⟨trivial⟩
instance:KG (.call ⟨.builtin b,xs,ts⟩) 7:=⟨trivial⟩
instance:KG (.makeInterface t x) 8:=⟨trivial⟩
instance:KG (.convert s t x) 9:=⟨trivial⟩
instance:KG (.indexAddr t x y) 10:=⟨trivial⟩
instance:KG (.binOp .eql s x y t) 20:=⟨trivial⟩
instance:KG (.binOp .neq s x y t) 21:=⟨trivial⟩
instance:KG (.binOp .lss s x y t) 22:=⟨trivial⟩
instance:KG (.binOp .leq s x y t) 23:=⟨trivial⟩
instance:KG (.binOp .gtr s x y t) 24:=⟨trivial⟩
instance:KG (.binOp .geq s x y t) 25:=⟨trivial⟩
instance:KG (.binOp .add s x y t) 26:=⟨trivial⟩
instance:KG (.binOp .sub s x y t) 27:=⟨trivial⟩
instance:KG (.binOp .mul s x y t) 28:=⟨trivial⟩
end
theorem kg{P:Program}{op:Op}{ty:TypeId}{ρ:Fr}{w:World}{v:Value}(k:Nat)[KG op k](h:RunOp P op ty ρ w v):RunOp P op ty ρ w v:=h
abbrev tt(l:List Nat):List (Bool×Nat):=l.map (Prod.mk true)
abbrev ff(l:List Nat):List (Bool×Nat):=l.map (Prod.mk false)
theorem rq{P:Program}{op:Op}{ty:TypeId}{ρ:Fr}{w:World}{v:Value}(h:RunOp P op ty ρ w v:=by
  first
  |exact r_qev rfl
  |exact kg 2 (by first|exact r_assertNo Fb.h Fo.h rfl rfl|exact r_assertIs Fb.h rfl|exact r_assertNil Fb.h Fo.h rfl|exact r_assertIf Fb.h rfl)
  |exact kg 4 (by exact r_fieldAddr rfl Fo.h)
  |exact kg 3 (by first|exact r_load Fb.h rfl (Ext.refl _) (Blk.get (by assumption) rfl)|exact r_loadAgg Fo.h rfl (Ext.refl _) (Blk.at (by assumption)) (hn:=by first|rfl|assumption)|exact r_loadAgg Fo.h rfl (Ext.refl _) At.nil)
  |exact kg 1 (by
    first
    |exact kg 20 (by first|exact r_ifeqNil Fb.h rfl|exact r_ifeqSome Fb.h rfl|exact r_cmp (r_eql rfl rfl) (by first|exact beqT (by omega)|exact beqF (by omega)))
    |exact kg 21 (by first|exact r_ifneNil Fb.h rfl|exact r_ifneSome Fb.h rfl|exact r_cmp (r_neq rfl rfl) (by first|exact bneT (by omega)|exact bneF (by omega)))
    |exact kg 22 (by exact r_cmp (r_lss rfl rfl) (by first|exact decide_eq_true (by omega)|exact decide_eq_false (by omega)))
    |exact kg 26 (by exact r_addi rfl rfl rfl (by omega) (by omega))
    |exact kg 24 (by exact r_cmp (r_gtr rfl rfl) (by first|exact decide_eq_true (by omega)|exact decide_eq_false (by omega)))
    |exact kg 25 (by exact r_cmp (r_geq rfl rfl) (by first|exact decide_eq_true (by omega)|exact decide_eq_false (by omega)))
    |exact kg 23 (by exact r_cmp (r_leq rfl rfl) (by first|exact decide_eq_true (by omega)|exact decide_eq_false (by omega)))
    |exact kg 28 (by exact r_muli rfl rfl rfl (by omega) (by omega))
    |exact kg 27 (by exact r_subi rfl rfl rfl (by omega) (by omega)))
  |exact kg 6 (by first|exact r_or rfl rfl (fun h=>beq_iff_eq.2 h)|exact r_and rfl rfl (fun h=>beq_iff_eq.2 h)|exact r_pick rfl rfl rfl)
  |exact kg 7 (by first|exact r_len Fo.h rfl|exact r_cap Fo.h rfl|exact r_lens Fb.h rfl)
  |exact kg 8 (by exact r_mkIface Fb.h rfl)
  |exact kg 9 (by exact r_cvInt Fo.h rfl)
  |exact kg 10 (by first|exact r_idx1 Fo.h rfl rfl rfl (by first|omega|(simp;done)|(simp;omega))|exact r_idx Fo.h rfl rfl rfl (by first|omega|(simp;done)|(simp;omega)))):RunOp P op ty ρ w v:=h
theorem rqd{P:Program}{op:Op}{ty:TypeId}{ρ:Fr}{w:World}{v:Value}(h:RunOp P op ty ρ w v:=by
  first
  |exact kg 3 (by first|exact r_load Fb.h rfl (by assumption) (Blk.get (by assumption) rfl)|exact r_loadAgg Fo.h rfl (by assumption) (Blk.at (by assumption)) (hn:=by first|rfl|assumption)|exact r_loadAgg Fo.h rfl (Ext.refl _) At.nil)
  |exact rq):RunOp P op ty ρ w v:=h
section
variable {N:Nat} {D:List Deferred}
theorem gq(n:Nat){X:Exit→Fr→World→Prop}{w:World}{ρ ρ':Fr}{x:Code}{s':St}{k':List KI}(h:crun tzT N n ρ (.c x) []=some (ρ',s',k'))(hg:gol TP N D X ρ' w s' k'):WC TP N D x ρ w X:=gc n h hg
theorem gqo(n:Nat){next:Fr→World→Prop}{w:World}{ρ ρ':Fr}{l:Array Oper}{r:List Oper}{s':St}{k':List KI}(h:crun tzT N n ρ (.o l r) []=some (ρ',s',k'))(hg:gol TP N D (fun _=>next) ρ' w s' k'):WL TP l N D r ρ w next:=go n h hg
end
structure Wr (B:Prop):Prop where
  h:B
section
variable {P:Program} {ops:Array Oper} {N L:Nat} {D:List Deferred} {ρ:Fr} {w:World} {next:Fr→World→Prop} {X:Exit→Fr→World→Prop} {S:World→Prop}
theorem gL{l:List Oper}(h:WL P ops N D l ρ w next):WL P ops N D l ρ w next:=h
theorem gC{c:Code}(h:WC P N D c ρ w X):WC P N D c ρ w X:=h
theorem gD{l:List (Bool×Nat×Oper)}(h:WDL P ops S L N D l ρ w next):WDL P ops S L N D l ρ w next:=h
theorem gX{t:OT}(h:WX P ops S N D t ρ w next):WX P ops S N D t ρ w next:=h
theorem gT{l:List (Bool×Nat×Oper)}(h:WT P ops N D l ρ w next):WT P ops N D l ρ w next:=h
end
theorem q{A B:Prop}(h:B)(k:Wr B→A:=by
  intro hgo
  repeat (first
    |(refine gL ?_;first|refine WL.q rfl rq ?_|refine WL.nil ?_|refine WL.qg rfl rfl rfl rfl rq ?_|refine WL.sk rfl rfl rfl rfl rfl ?_|refine WL.sk0 rfl rfl rfl rfl ?_)
    |(refine gC ?_;first|refine WC.seq ?_|refine WC.region ?_|refine WC.condF rfl ?_|refine WC.condT rfl ?_|refine WC.skip ?_|refine WC.block ?_|refine WC.exit ?_|refine WC.ret ?_|refine WC.label ?_)
    |(refine gD ?_;first|refine WD.q rfl (fun _ hS=>rqd) ?_|refine WD.qg rfl rfl rfl rfl (fun _ hS=>rqd) ?_|refine WD.sk rfl rfl rfl rfl rfl ?_|refine WD.nil ?_)
    |(refine gX ?_;first|refine WX.q rfl rfl (fun _ hS=>rqd) ?_|refine WX.nil ?_)
    |(refine gT ?_;first|refine WT.q rfl rfl rq ?_|refine WT.nil ?_))
  exact hgo.h):A:=k ⟨h⟩
theorem qb{A B:Prop}(h:B)(k:Wr B→A:=by
  intro hgo
  repeat (first
    |(refine gL ?_;first|refine WL.q rfl rq ?_|refine WL.nil ?_|refine WL.qg rfl rfl rfl rfl rq ?_|refine WL.sk rfl rfl rfl rfl rfl ?_|refine WL.sk0 rfl rfl rfl rfl ?_)
    |(refine gC ?_;first|refine WC.seq ?_|refine WC.region ?_|refine WC.condF rfl ?_|refine WC.condT rfl ?_|refine WC.skip ?_|refine WC.exit ?_|refine WC.ret ?_|refine WC.label ?_)
    |(refine gD ?_;first|refine WD.q rfl (fun _ hS=>rqd) ?_|refine WD.qg rfl rfl rfl rfl (fun _ hS=>rqd) ?_|refine WD.sk rfl rfl rfl rfl rfl ?_|refine WD.nil ?_)
    |(refine gX ?_;first|refine WX.q rfl rfl (fun _ hS=>rqd) ?_|refine WX.nil ?_)
    |(refine gT ?_;first|refine WT.q rfl rfl rq ?_|refine WT.nil ?_))
  exact hgo.h):A:=k ⟨h⟩
section
variable {P:Program} {ρ:Fr} {w:World} {x y:Operand} {ty t:TypeId} {b j n N d i:Nat} {D:List Deferred} {cs vs:List Value} {ops:Array Oper} {S:World→Prop} {L:Nat} {rest:List Oper} {rd:List (Bool×Nat×Oper)} {r:OT} {next:Fr→World→Prop} {pos:String} {af:Array Edge} {f:FuncId} {args:Array Operand} {ts:Array TypeId} {R:Value→World→Prop} {z v:Value}
theorem lsw[Fo (szT P t) n](hx:ov ρ x=some (.pointer (some ⟨b,0,none⟩)))(hy:ov ρ y=some (.agg vs.toArray))(hB:Blk w b cs)(hv:vs.all (·.oneCell')=true:=by first|rfl|assumption|(simp[*];done)|simp[Value.oneCell', *])(hn:vs.length=n:=by first|rfl|simp[*])(hc:cs.length=n:=by first|rfl|simp[*]):
    LoudOp P (.store t x y) ty ρ w (fun _ w'=>Blk w' b vs∧Evo (fun k=>k≠b) w w'∧w'.heap.size=w.heap.size):=l_storeW Fo.h hx hy hv hn hB hc
theorem lsa[Fo (szT P t) n](hx:ov ρ x=some (.pointer (some ⟨b,j,none⟩)))(hy:ov ρ y=some (.agg vs.toArray))(hB:Blk w b cs)(hv:vs.all (·.oneCell')=true:=by first|rfl|assumption|(simp[*];done)|simp[Value.oneCell', *])(hn:vs.length=n:=by first|rfl|simp[*])(hj:Nat.ble (j+vs.length) cs.length=true:=by first|rfl|simp[*]):
    LoudOp P (.store t x y) ty ρ w (fun _ w'=>Blk w' b (cs.take j++vs++cs.drop (j+vs.length))∧Evo (fun k=>k≠b) w w'∧w'.heap.size=w.heap.size):=l_storeA Fo.h hx hy hv hn hB hj
theorem lst[Fo (szT P t) 1](hx:ov ρ x=some (.pointer (some ⟨b,j,none⟩)))(hy:ov ρ y=some v)(hB:Blk w b cs)(hv:v.oneCell'=true:=by first|rfl|assumption|exact Own.one (by assumption))(hj:Nat.blt j cs.length=true:=by exact rfl):LoudOp P (.store t x y) ty ρ w (fun _ w'=>Blk w' b (cs.set j v)∧Evo (fun k=>k≠b) w w'∧w'.heap.size=w.heap.size):=l_store Fo.h hx hy hv hB hj
theorem ll{e k bs:Nat}{ps:Array (Nat×Operand)}(vs:List Value)[Fo (slZ P t) (e,k,bs,z)](hp:ovp ρ ps.toList=some (numF 0 vs):=by exact rfl)(hall:vs.all (fun v=>Nat.beq v.cells.size k)=true:=by first|rfl|(simp[Value.cells,Nat.beq_eq, *];done))(hn:vs.length=n:=by exact rfl)(hsm:Nat.ble (n * k) 16777216=true:=by exact rfl)(hpos:Nat.blt 0 (n * k)=true:=by exact rfl):
    LoudOp P (.buildSlice t n ps) ty ρ w (fun v w'=>v= .slice (some ⟨w.heap.size,0,none⟩) n n∧Blk w' w.heap.size (vs.flatMap (·.cells.toList))∧Ext w w'):=l_lit Fo.h hp hall hn hsm hpos
theorem cl[Fb (bodyB P f)](ha:ovs ρ args.toList=some vs)(hc:Does P f vs w R)(h:∀v w',R v w'→WL P ops N D rest ((d,v)::ρ) w' next)(hN:Nat.blt d N=true:=by exact rfl):WL P ops N D (⟨some d,.call ⟨.value (.func f),args,ts⟩,ty,pos,af,none⟩::rest) ρ w next:=WL.l hN (l_do Fb.h ha hc) h
theorem cd[Fb (bodyB P f)](ha:ovs ρ args.toList=some vs)(hc:Does P f vs w R)(h:∀v w',R v w'→S w'∧WDL P ops S L N D rd ((d,v)::ρ) w' next)(ho:ops[i]?=some ⟨some d,.call ⟨.value (.func f),args,ts⟩,ty,pos,af,none⟩:=by exact rfl)(hN:Nat.blt d N=true:=by exact rfl)(hL:Nat.beq i L=false:=by exact rfl):WDL P ops S L N D ((false,i,⟨some d,.call ⟨.value (.func f),args,ts⟩,ty,pos,af,none⟩)::rd) ρ w next:=WD.l ho hN (l_do Fb.h ha hc) h hL
theorem cx[Fb (bodyB P f)](ho:ops[i]?=some ⟨some d,.call ⟨.value (.func f),args,ts⟩,ty,pos,af,none⟩)(ha:ovs ρ args.toList=some vs)(hc:Does P f vs w R)(h:∀v w',R v w'→S w'∧WX P ops S N D r ((d,v)::ρ) w' next)(hN:Nat.blt d N=true:=by exact rfl):WX P ops S N D (.l i r) ρ w next:=WX.l ho hN (l_do Fb.h ha hc) h
theorem al[Fo (zeroT P t) z](h:∀v w',v= .pointer (some ⟨w.heap.size,0,none⟩)∧Blk w' w.heap.size cs∧Ext w w'→WL P ops N D rest ((d,v)::ρ) w' next)(hc:z.cells=cs.toArray:=by exact rfl)(hN:Nat.blt d N=true:=by exact rfl):WL P ops N D (⟨some d,.alloc t,ty,pos,af,none⟩::rest) ρ w next:=WL.l hN (l_alloc Fo.h hc) h
theorem ax[Fo (zeroT P t) z](ho:ops[i]?=some ⟨some d,.alloc t,ty,pos,af,none⟩)(h:∀v w',v= .pointer (some ⟨w.heap.size,0,none⟩)∧Blk w' w.heap.size cs∧Ext w w'→S w'∧WX P ops S N D r ((d,v)::ρ) w' next)(hc:z.cells=cs.toArray:=by exact rfl)(hN:Nat.blt d N=true:=by exact rfl):WX P ops S N D (.l i r) ρ w next:=WX.l ho hN (l_alloc Fo.h hc) h
theorem bx(hx:ov ρ x=some (.agg cs.toArray))(h:∀v w',v= .pointer (some ⟨w.heap.size,0,none⟩)∧Blk w' w.heap.size cs∧Ext w w'→WL P ops N D rest ((d,v)::ρ) w' next)(hN:Nat.blt d N=true:=by exact rfl):WL P ops N D (⟨some d,.box t x,ty,pos,af,none⟩::rest) ρ w next:=WL.l hN (l_boxAgg hx) h
theorem ch{A:Nat→Prop}{a b:World}(h:Evo A a b:=by
  repeat (first|exact Evo.drew _|exact Evo.refl _|assumption|refine Evo.then ?_ (Evo.drew _)|refine Evo.then ?_ (by assumption))):Evo A a b:=h
theorem sb{κ ρ:Fr}(h:Sub κ ρ:=by
  repeat (first|exact .nil|refine .cons rfl ?_|refine .cons (lk_int rfl (by omega)) ?_)):Sub κ ρ:=h
end
section
variable {P:Program} {f:FuncId} {fn:Func} {c:Code} {l:List Value} {w:World} {R:Value→World→Prop} {t0 t1 t2 t3:Nat}
theorem do0(hf:P.funcs[f]?=some fn)(h:WC P fn.ntmps [] c (argsFr 0 l) w (Ret0 (Rets R)))(hb:fn.body=some c:=by exact rfl)(hr:fn.results= #[]:=by exact rfl)(hn:Nat.ble l.length fn.ntmps=true:=by exact rfl):Does P f l w R:=does0 hf hb hr hn h
theorem do1(hf:P.funcs[f]?=some fn)(h:WC P fn.ntmps [] c (argsFr 0 l) w (Ret1 t0 (Rets R)))(hb:fn.body=some c:=by exact rfl)(hr:fn.results= #[.tmp t0]:=by exact rfl)(hn:Nat.ble l.length fn.ntmps=true:=by exact rfl):Does P f l w R:=does1 hf hb hr hn h
theorem do2(hf:P.funcs[f]?=some fn)(h:WC P fn.ntmps [] c (argsFr 0 l) w (Ret2 t0 t1 (Rets R)))(hb:fn.body=some c:=by exact rfl)(hr:fn.results= #[.tmp t0,.tmp t1]:=by exact rfl)(hn:Nat.ble l.length fn.ntmps=true:=by exact rfl):Does P f l w R:=does2 hf hb hr hn h
theorem do3(hf:P.funcs[f]?=some fn)(h:WC P fn.ntmps [] c (argsFr 0 l) w (Ret3 t0 t1 t2 (Rets R)))(hb:fn.body=some c:=by exact rfl)(hr:fn.results= #[.tmp t0,.tmp t1,.tmp t2]:=by exact rfl)(hn:Nat.ble l.length fn.ntmps=true:=by exact rfl):Does P f l w R:=does3 hf hb hr hn h
theorem do4(hf:P.funcs[f]?=some fn)(h:WC P fn.ntmps [] c (argsFr 0 l) w (Ret4 t0 t1 t2 t3 (Rets R)))(hb:fn.body=some c:=by exact rfl)(hr:fn.results= #[.tmp t0,.tmp t1,.tmp t2,.tmp t3]:=by exact rfl)(hn:Nat.ble l.length fn.ntmps=true:=by exact rfl):Does P f l w R:=does4 hf hb hr hn h
theorem doR{rs:List ResultVar}(hf:P.funcs[f]?=some fn)(h:WC P fn.ntmps [] c (argsFr 0 l) w (RetR P rs (Rets R)))(hb:fn.body=some c:=by exact rfl)(hr:fn.results=rs.toArray:=by exact rfl)(hn:Nat.ble l.length fn.ntmps=true:=by exact rfl):Does P f l w R:=doesR hf hb hr hn h
end
end Go.Proofs.LL
namespace Go.Proofs.LL
open Go Go.Proofs Go.RowKit
set_option maxHeartbeats 4000000
attribute [local irreducible] RunOp WL WC WDL WT WX
theorem mixed:TP.follows .mixedOrders=true:=by kernel_rfl
def Buf(w:World)(rb:Nat)(bs:List UInt8)(i:Nat):Prop:=
 ∃db c,Blk w rb [.slice (some ⟨db,0,none⟩) bs.length c,.int .i64 (i:Int)]∧BytesAt w db 0 bs∧db<rb∧bs.length≤c∧i≤bs.length∧bs.length≤1099511627776
theorem Buf.mono{A:Nat→Prop}{w w':World}{rb i:Nat}{bs:List UInt8}(h:Buf w rb bs i)(e:Evo A w w')(hA:∀b,b≤rb→A b:=by(intro b hb1;first|exact trivial|((try dsimp only[Nb]);omega))):Buf w' rb bs i:=by
 obtain⟨db,c,h1,h2,h3,h4,h5,h6⟩:=h
 exact⟨db,c,h1.mono e (hA _ (Nat.le_refl _)),h2.mono e (hA _ (by omega)),h3,h4,h5,h6⟩
theorem Buf.le{w:World}{rb i:Nat}{bs:List UInt8}(h:Buf w rb bs i):i≤bs.length∧bs.length≤1099511627776:=by
 obtain⟨db,c,h1,h2,h3,h4,h5,h6⟩:=h
 exact⟨h5,h6⟩
theorem Buf.lt{w:World}{rb i:Nat}{bs:List UInt8}(h:Buf w rb bs i):rb<w.heap.size:=by
 obtain⟨db,c,h1,h2,h3,h4,h5,h6⟩:=h
 exact h1.lt
theorem readCheck_ok{rb i:Nat}{n:Int}{bs:List UInt8}{w:World}(hB:Buf w rb bs i)(hn:0≤n∧n≤1099511627776):
  Does TP 217 [.pointer (some ⟨rb,0,none⟩),.int .i64 n] w fun v w'=>v= .bool (decide ((bs.length:Int)<i+n))∧Ext w w':=by
 obtain⟨db,c,hK, -, -, -,h5,h6⟩:=hB
 refine do1 Tryz.func217 ?_
 refine q ?_
 refine WC.regionD (tt [0,1,2,3,4,5,6,7,8,9,10,11,12]) (Ext w) mixed (by kernel_rfl) (Ext.drew _) ?_
 refine q ?_
 refine WD.q rfl (fun _ hS=>r_gtr rfl rfl) ?_
 refine q ?_
 exact fin1 rfl ⟨rfl,Ext.drew w⟩
theorem readCheck_in{rb i:Nat}{n:Int}{bs:List UInt8}{w:World}(hB:Buf w rb bs i)(hn:0≤n)(h:(i:Int)+n≤bs.length):
  Does TP 217 [.pointer (some ⟨rb,0,none⟩),.int .i64 n] w fun v w'=>v= .bool false∧Ext w w':=
 (readCheck_ok hB (by have:=hB.le;omega)).imp fun v w' ⟨h1,h2⟩=>⟨by rw[h1,decide_eq_false (by omega)],h2⟩
theorem Len_ok{rb i:Nat}{bs:List UInt8}{w:World}(hB:Buf w rb bs i):
  Does TP 98 [.pointer (some ⟨rb,0,none⟩)] w fun v w'=>v= .int .i64 ((bs.length-i:Nat):Int)∧Ext w w':=by
 obtain⟨db,c,hK, -, -, -,h5,h6⟩:=hB
 refine do1 Tryz.func98 ?_
 refine q ?_
 refine WC.regionD (tt [0,1,2,3,4,5,6,7,8,9,10]) (Ext w) mixed (by kernel_rfl) (Ext.drew _) ?_
 refine q ?_
 exact fin1 rfl ⟨by rw[Int.ofNat_sub h5],Ext.drew w⟩
theorem Skip_ok{rb i:Nat}{bs:List UInt8}{w:World}{n:Nat}(hB:Buf w rb bs i)(hn:i+n≤bs.length):
  Does TP 99 [.pointer (some ⟨rb,0,none⟩),.int .i64 (n:Int)] w fun v w'=>v= .tuple #[]∧Buf w' rb bs (i+n)∧Evo (Nb rb) w w':=by
 obtain⟨db,c,hK,hD,hne,hc,h5,h6⟩:=hB
 refine do0 Tryz.func99 ?_
 refine q ?_
 refine WL.l0 (lst rfl rfl hK) ?_
 rintro _ w1 ⟨hK,e1,hz1⟩
 refine q ?_
 exact fin0n ⟨rfl,⟨db,c,hK,hD.mono e1 (Nat.ne_of_lt hne),hne,hc,hn,h6⟩,e1⟩
theorem Bytes_ok{rb i:Nat}{bs:List UInt8}{w:World}(hB:Buf w rb bs i):
  Does TP 27 [.pointer (some ⟨rb,0,none⟩)] w fun v w'=>IsB (fun k=>k<rb) w' v (bs.drop i)∧Ext w w':=by
 obtain⟨db,c,hK,hD,hne,hc,h5,h6⟩:=hB
 refine do1 Tryz.func27 ?_
 refine q ?_
 refine WC.regionD (tt [0,1,2,3,4,5,6,7,8,9]) (Ext w) mixed (by kernel_rfl) (Ext.drew _) ?_
 refine q ?_
 refine WD.q rfl (fun _ hS=>r_slicel Fo.h rfl rfl rfl (by first|omega|(simp;done)|(simp;omega))) ?_
 refine q ?_
 have hI:IsB (fun k=>k<rb) w (.slice (some ⟨db,0,none⟩) bs.length c) bs:=⟨_,c,rfl,hc,fun _=>⟨db,0,rfl,hne,hD⟩⟩
 have h7:=hI.cut i (bs.length-i) (by omega)
 rw[List.take_of_length_le (by simp)]at h7
 exact fin1 rfl ⟨h7.mono (Ext.drew w),Ext.drew w⟩
theorem PeekByte_ok{rb i:Nat}{bs:List UInt8}{w:World}{b:UInt8}(hB:Buf w rb bs i)(hb:bs[i]?=some b):
  Does TP 218 [.pointer (some ⟨rb,0,none⟩)] w fun v w'=>v= .tuple #[.int .u8 (b.toNat:Int),.nilIface]∧Ext w w':=by
 have hB0:=hB
 obtain⟨db,c,hK,hD,hne,hc,h5,h6⟩:=hB
 obtain⟨hlt,hbe⟩:=List.getElem?_eq_some_iff.1 hb
 refine do2 Tryz.func218 ?_
 refine q ?_
 refine cl rfl (readCheck_in hB0 (by omega) (by omega)) ?_
 rintro _ w1 ⟨rfl,e1⟩
 refine q ?_
 refine WC.regionD (tt [0,1,2,3,4,5,6,7,8,9,10,11]) (Ext w) mixed (by kernel_rfl) (e1.trans (Ext.drew _)) ?_
 refine q ?_
 try refine WD.q rfl (fun _ hS=>r_load Fb.h rfl (id hS) (by first|exact hK.get rfl|exact hD.get i hlt)) ?_
 refine q ?_
 try refine WD.q rfl (fun _ hS=>r_load Fb.h rfl (id hS) (by first|exact hK.get rfl|exact hD.get i hlt)) ?_
 refine q ?_
 try refine WD.q rfl (fun _ hS=>r_load Fb.h rfl (id hS) (by first|exact hK.get rfl|exact hD.get i hlt)) ?_
 refine q ?_
 exact fin2 rfl rfl ⟨by rw[hbe],e1.trans (Ext.drew _)⟩
end Go.Proofs.LL
