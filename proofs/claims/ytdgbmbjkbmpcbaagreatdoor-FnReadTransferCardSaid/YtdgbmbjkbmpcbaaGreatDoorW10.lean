/- Contracts of functions and own laws. Conditions: those that each theorem states. -/
import Derived.Test.YtdgbmbjkbmpcbaaGreatDoorW09
import Derived.Test.YtdgbmbjkbmpcbaaGreatDoorProg
import Derived.KernelRfl
import Derived.Lib.EndianBits
set_option linter.all false
set_option autoImplicit true
set_option relaxedAutoImplicit true
set_option maxRecDepth 20000
namespace Go.Proofs.LL
open Go Go.Proofs Go.RowKit
class KG (op:Op) (k:Nat):Prop where
  t:True
section
variable {x y z:Operand} {s t u:Nat} {xs:Array Operand} {ts:Array TypeId} {o:BinOp} {b:Builtin}
instance:KG (.binOp o s x y t) 1:=⟨trivial⟩
instance:KG (.typeAssert x s t true) 2:=⟨trivial⟩
instance:KG (.load t x) 3:=⟨trivial⟩
instance:KG (.fieldAddr t x s) 4:=⟨trivial⟩
instance:KG (.pick x y z) 6:=⟨trivial⟩
instance:KG (.call ⟨.builtin b,xs,ts⟩) 7:=⟨trivial⟩
instance:KG (.makeInterface t x) 8:=⟨trivial⟩
instance:KG (.convert s t x) 9:=⟨trivial⟩
instance:KG (.indexAddr t x y) 10:=⟨trivial⟩
instance:KG (.binOp .eql s x y t) 20:=⟨trivial⟩
instance:KG (.binOp .neq s x y t) 21:=⟨trivial⟩
instance:KG (.binOp .lss s x y t) 22:=⟨trivial⟩
instance:KG (.binOp .leq s x y t) 23:=⟨trivial⟩
instance:KG (.binOp .gtr s x y t) 24:=⟨trivial⟩
instance:KG (.binOp .geq s x y t) 25:=⟨trivial⟩
instance:KG (.binOp .add s x y t) 26:=⟨trivial⟩
instance:KG (.binOp .sub s x y t) 27:=⟨trivial⟩
instance:KG (.binOp .mul s x y t) 28:=⟨trivial⟩
end
theorem kg(k:Nat)[KG op k](h:ar P op ty ρ w v):ar P op ty ρ w v:=h
abbrev tt(l:List Nat):List (Bool×Nat):=l.map (Prod.mk true)
abbrev ff(l:List Nat):List (Bool×Nat):=l.map (Prod.mk false)
theorem rq(h:ar P op ty ρ w v:=by
  first
  |exact zI rfl
  |exact kg 2 (by first|exact ba Fb.h Fo.h rfl rfl|exact aQ Fb.h rfl|exact jk Fb.h Fo.h rfl|exact dc Fb.h rfl)
  |exact kg 4 (by exact aa rfl Fo.h)
  |exact kg 3 (by first|exact ao Fb.h rfl Xr (aH.get (by assumption) rfl)|exact ad Fo.h rfl Xr (aH.at (by assumption)) (hn:=by first|rfl|assumption)|exact ad Fo.h rfl Xr At.nil)
  |exact kg 1 (by
    first
    |exact kg 20 (by first|exact pE Fb.h rfl|exact aF Fb.h rfl|exact ae (ak rfl rfl) (by first|exact br (by omega)|exact bk (by omega)))
    |exact kg 21 (by first|exact aB Fb.h rfl|exact uP Fb.h rfl|exact ae (bn rfl rfl) (by first|exact kQ (by omega)|exact fI (by omega)))
    |exact kg 22 (by exact ae (ef rfl rfl) (by first|exact decide_eq_true (by omega)|exact decide_eq_false (by omega)))
    |exact kg 26 (by exact jj rfl rfl rfl (by omega) (by omega))
    |exact kg 24 (by exact ae (aS rfl rfl) (by first|exact decide_eq_true (by omega)|exact decide_eq_false (by omega)))
    |exact kg 25 (by exact ae (bK rfl rfl) (by first|exact decide_eq_true (by omega)|exact decide_eq_false (by omega)))
    |exact kg 23 (by exact ae (aY rfl rfl) (by first|exact decide_eq_true (by omega)|exact decide_eq_false (by omega)))
    |exact kg 28 (by exact eg rfl rfl rfl (by omega) (by omega))
    |exact kg 27 (by exact bP rfl rfl rfl (by omega) (by omega)))
  |exact kg 6 (by first|exact cA rfl rfl (fun h=>beq_iff_eq.2 h)|exact bU rfl rfl (fun h=>beq_iff_eq.2 h)|exact zH rfl rfl rfl)
  |exact kg 7 (by first|exact fy Fo.h rfl|exact Ft Fo.h rfl|exact jm Fb.h rfl)
  |exact kg 8 (by exact lW Fb.h rfl)
  |exact kg 9 (by exact aL Fo.h rfl)
  |exact kg 10 (by first|exact dX Fo.h rfl rfl rfl (by first|omega|(simp;done)|(simp;omega))|exact bd Fo.h rfl rfl rfl (by first|omega|(simp;done)|(simp;omega)))):ar P op ty ρ w v:=h
theorem Eo(h:ar P op ty ρ w v:=by
  first
  |exact kg 3 (by first|exact ao Fb.h rfl (by assumption) (aH.get (by assumption) rfl)|exact ad Fo.h rfl (by assumption) (aH.at (by assumption)) (hn:=by first|rfl|assumption)|exact ad Fo.h rfl Xr At.nil)
  |exact rq):ar P op ty ρ w v:=h
section
variable {N:Nat} {D:List Deferred}
theorem gq(n:Nat){ρ':Fr}{s':St}{k':List KI}(h:ui Ep N n ρ (.c x) []=some (ρ',s',k'))(hg:mL TP N D X ρ' w s' k'):WC TP N D x ρ w X:=gc n h hg
theorem gx(n:Nat){next:Fr→World→Prop}{ρ':Fr}{l:Array Oper}{r:List Oper}{s':St}{k':List KI}(h:ui Ep N n ρ (.o l r) []=some (ρ',s',k'))(hg:mL TP N D (fun _=>next) ρ' w s' k'):WL TP l N D r ρ w next:=go n h hg
end
structure Wr (B:Prop):Prop where
  h:B
section
variable {P:Program} {ops:Array Oper} {N L:Nat} {D:List Deferred} {ρ:Fr} {w:World} {next:Fr→World→Prop} {X:Exit→Fr→World→Prop} {S:World→Prop}
theorem gL{l:List Oper}(h:WL P ops N D l ρ w next):WL P ops N D l ρ w next:=h
theorem gC(h:WC P N D c ρ w X):WC P N D c ρ w X:=h
theorem gD{l:List (Bool×Nat×Oper)}(h:cq P ops S L N D l ρ w next):cq P ops S L N D l ρ w next:=h
theorem gX(h:WX P ops S N D t ρ w next):WX P ops S N D t ρ w next:=h
theorem gT{l:List (Bool×Nat×Oper)}(h:WT P ops N D l ρ w next):WT P ops N D l ρ w next:=h
end
theorem q{A B:Prop}(h:B)(k:Wr B→A:=by
  intro hgo
  repeat (first
    |(refine gL ?_;first|refine WL.q rfl rq ?_|refine WL.nil ?_|refine WL.qg rfl rfl rfl rfl rq ?_|refine WL.sk rfl rfl rfl rfl rfl ?_|refine WL.sk0 rfl rfl rfl rfl ?_)
    |(refine gC ?_;first|refine WC.seq ?_|refine WC.region ?_|refine WC.condF rfl ?_|refine WC.condT rfl ?_|refine WC.skip ?_|refine WC.block ?_|refine WC.exit ?_|refine WC.ret ?_|refine WC.label ?_)
    |(refine gD ?_;first|refine WD.q rfl (fun _ hS=>Eo) ?_|refine WD.qg rfl rfl rfl rfl (fun _ hS=>Eo) ?_|refine WD.sk rfl rfl rfl rfl rfl ?_|refine WD.nil ?_)
    |(refine gX ?_;first|refine WX.q rfl rfl (fun _ hS=>Eo) ?_|refine WX.nil ?_)
    |(refine gT ?_;first|refine WT.q rfl rfl rq ?_|refine WT.nil ?_))
  exact hgo.h):A:=k ⟨h⟩
theorem qb{A B:Prop}(h:B)(k:Wr B→A:=by
  intro hgo
  repeat (first
    |(refine gL ?_;first|refine WL.q rfl rq ?_|refine WL.nil ?_|refine WL.qg rfl rfl rfl rfl rq ?_|refine WL.sk rfl rfl rfl rfl rfl ?_|refine WL.sk0 rfl rfl rfl rfl ?_)
    |(refine gC ?_;first|refine WC.seq ?_|refine WC.region ?_|refine WC.condF rfl ?_|refine WC.condT rfl ?_|refine WC.skip ?_|refine WC.exit ?_|refine WC.ret ?_|refine WC.label ?_)
    |(refine gD ?_;first|refine WD.q rfl (fun _ hS=>Eo) ?_|refine WD.qg rfl rfl rfl rfl (fun _ hS=>Eo) ?_|refine WD.sk rfl rfl rfl rfl rfl ?_|refine WD.nil ?_)
    |(refine gX ?_;first|refine WX.q rfl rfl (fun _ hS=>Eo) ?_|refine WX.nil ?_)
    |(refine gT ?_;first|refine WT.q rfl rfl rq ?_|refine WT.nil ?_))
  exact hgo.h):A:=k ⟨h⟩
section
variable {P:Program} {ρ:Fr} {w:World} {x y:Operand} {ty t:TypeId} {b j n N d i:Nat} {D:List Deferred} {cs vs:List Value} {ops:Array Oper} {S:World→Prop} {L:Nat} {rest:List Oper} {rd:List (Bool×Nat×Oper)} {r:OT} {next:Fr→World→Prop} {pos:String} {af:Array Edge} {f:FuncId} {args:Array Operand} {ts:Array TypeId} {R:Value→World→Prop} {z v:Value}
theorem bj[Fo (x8 P t) n](hx:ov ρ x=some (.pointer (some ⟨b,0,none⟩)))(hy:ov ρ y=some (.agg vs.toArray))(hB:aH w b cs)(hv:vs.all (·.oneCell')=true:=by first|rfl|assumption|(simp[*];done)|simp[Value.oneCell', *])(hn:vs.length=n:=by first|rfl|simp[*])(hc:cs.length=n:=by first|rfl|simp[*]):
    aA P (.store t x y) ty ρ w (fun _ w'=>aH w' b vs∧am (fun k=>k≠b) w w'∧w'.heap.size=w.heap.size):=ze Fo.h hx hy hv hn hB hc
theorem GE[Fo (x8 P t) n](hx:ov ρ x=some (.pointer (some ⟨b,j,none⟩)))(hy:ov ρ y=some (.agg vs.toArray))(hB:aH w b cs)(hv:vs.all (·.oneCell')=true:=by first|rfl|assumption|(simp[*];done)|simp[Value.oneCell', *])(hn:vs.length=n:=by first|rfl|simp[*])(hj:Nat.ble (j+vs.length) cs.length=true:=by first|rfl|simp[*]):
    aA P (.store t x y) ty ρ w (fun _ w'=>aH w' b (cs.take j++vs++cs.drop (j+vs.length))∧am (fun k=>k≠b) w w'∧w'.heap.size=w.heap.size):=nJ Fo.h hx hy hv hn hB hj
theorem lst[Fo (x8 P t) 1](hx:ov ρ x=some (.pointer (some ⟨b,j,none⟩)))(hy:ov ρ y=some v)(hB:aH w b cs)(hv:v.oneCell'=true:=by first|rfl|assumption|exact aT.one (by assumption))(hj:Nat.blt j cs.length=true:=by exact rfl):aA P (.store t x y) ty ρ w (fun _ w'=>aH w' b (cs.set j v)∧am (fun k=>k≠b) w w'∧w'.heap.size=w.heap.size):=ce Fo.h hx hy hv hB hj
theorem ll{e k bs:Nat}{ps:Array (Nat×Operand)}(vs:List Value)[Fo (fG P t) (e,k,bs,z)](hp:x6 ρ ps.toList=some (nR 0 vs):=by exact rfl)(hall:vs.all (fun v=>Nat.beq v.cells.size k)=true:=by first|rfl|(simp[Value.cells,Nat.beq_eq, *];done))(hn:vs.length=n:=by exact rfl)(hsm:Nat.ble (n * k) 16777216=true:=by exact rfl)(hpos:Nat.blt 0 (n * k)=true:=by exact rfl):
    aA P (.buildSlice t n ps) ty ρ w (fun v w'=>v= .slice (some ⟨w.heap.size,0,none⟩) n n∧aH w' w.heap.size (vs.flatMap (·.cells.toList))∧ay w w'):=E3 Fo.h hp hall hn hsm hpos
theorem cl[Fb (cH P f)](ha:lS ρ args.toList=some vs)(hc:ah P f vs w R)(h:∀v w',R v w'→WL P ops N D rest ((d,v)::ρ) w' next)(hN:Nat.blt d N=true:=by exact rfl):WL P ops N D (⟨some d,.call ⟨.value (.func f),args,ts⟩,ty,pos,af,none⟩::rest) ρ w next:=WL.l hN (cD Fb.h ha hc) h
theorem cd[Fb (cH P f)](ha:lS ρ args.toList=some vs)(hc:ah P f vs w R)(h:∀v w',R v w'→S w'∧cq P ops S L N D rd ((d,v)::ρ) w' next)(ho:ops[i]?=some ⟨some d,.call ⟨.value (.func f),args,ts⟩,ty,pos,af,none⟩:=by exact rfl)(hN:Nat.blt d N=true:=by exact rfl)(hL:Nat.beq i L=false:=by exact rfl):cq P ops S L N D ((false,i,⟨some d,.call ⟨.value (.func f),args,ts⟩,ty,pos,af,none⟩)::rd) ρ w next:=WD.l ho hN (cD Fb.h ha hc) h hL
theorem cx[Fb (cH P f)](ho:ops[i]?=some ⟨some d,.call ⟨.value (.func f),args,ts⟩,ty,pos,af,none⟩)(ha:lS ρ args.toList=some vs)(hc:ah P f vs w R)(h:∀v w',R v w'→S w'∧WX P ops S N D r ((d,v)::ρ) w' next)(hN:Nat.blt d N=true:=by exact rfl):WX P ops S N D (.l i r) ρ w next:=WX.l ho hN (cD Fb.h ha hc) h
theorem al[Fo (bv P t) z](h:∀v w',v= .pointer (some ⟨w.heap.size,0,none⟩)∧aH w' w.heap.size cs∧ay w w'→WL P ops N D rest ((d,v)::ρ) w' next)(hc:z.cells=cs.toArray:=by exact rfl)(hN:Nat.blt d N=true:=by exact rfl):WL P ops N D (⟨some d,.alloc t,ty,pos,af,none⟩::rest) ρ w next:=WL.l hN (vV Fo.h hc) h
theorem ax[Fo (bv P t) z](ho:ops[i]?=some ⟨some d,.alloc t,ty,pos,af,none⟩)(h:∀v w',v= .pointer (some ⟨w.heap.size,0,none⟩)∧aH w' w.heap.size cs∧ay w w'→S w'∧WX P ops S N D r ((d,v)::ρ) w' next)(hc:z.cells=cs.toArray:=by exact rfl)(hN:Nat.blt d N=true:=by exact rfl):WX P ops S N D (.l i r) ρ w next:=WX.l ho hN (vV Fo.h hc) h
theorem bx(hx:ov ρ x=some (.agg cs.toArray))(h:∀v w',v= .pointer (some ⟨w.heap.size,0,none⟩)∧aH w' w.heap.size cs∧ay w w'→WL P ops N D rest ((d,v)::ρ) w' next)(hN:Nat.blt d N=true:=by exact rfl):WL P ops N D (⟨some d,.box t x,ty,pos,af,none⟩::rest) ρ w next:=WL.l hN (gS hx) h
theorem Ha[Fo (bv P t) z](h:∀w',aH w' w.heap.size cs→ay w w'→WL P ops N D rest ((d,.pointer (some ⟨w.heap.size,0,none⟩))::ρ) w' next)(hc:z.cells=cs.toArray:=by exact rfl)(hN:Nat.blt d N=true:=by exact rfl):WL P ops N D (⟨some d,.alloc t,ty,pos,af,none⟩::rest) ρ w next:=al (fun u w' hu=>by obtain⟨rfl,h1,h2⟩:=hu;exact h w' h1 h2) hc hN
theorem Hb(hx:ov ρ x=some (.agg cs.toArray))(h:∀w',aH w' w.heap.size cs→ay w w'→WL P ops N D rest ((d,.pointer (some ⟨w.heap.size,0,none⟩))::ρ) w' next)(hN:Nat.blt d N=true:=by exact rfl):WL P ops N D (⟨some d,.box t x,ty,pos,af,none⟩::rest) ρ w next:=bx hx (fun u w' hu=>by obtain⟨rfl,h1,h2⟩:=hu;exact h w' h1 h2) hN
theorem Hl{E:World→Prop}[Fb (cH P f)](ha:lS ρ args.toList=some vs)(hc:ah P f vs w fun r w'=>r=v∧E w')(h:∀w',E w'→WL P ops N D rest ((d,v)::ρ) w' next)(hN:Nat.blt d N=true:=by exact rfl):WL P ops N D (⟨some d,.call ⟨.value (.func f),args,ts⟩,ty,pos,af,none⟩::rest) ρ w next:=WL.l hN (cD Fb.h ha hc) fun u w' hu=>by obtain⟨rfl,h1⟩:=hu;exact h w' h1
theorem Hm{Q E:World→Prop}[Fb (cH P f)](ha:lS ρ args.toList=some vs)(hc:ah P f vs w fun r w'=>r=v∧Q w'∧E w')(h:∀w',Q w'→E w'→WL P ops N D rest ((d,v)::ρ) w' next)(hN:Nat.blt d N=true:=by exact rfl):WL P ops N D (⟨some d,.call ⟨.value (.func f),args,ts⟩,ty,pos,af,none⟩::rest) ρ w next:=WL.l hN (cD Fb.h ha hc) fun u w' hu=>by obtain⟨rfl,h1,h2⟩:=hu;exact h w' h1 h2
theorem Ho[Fo (x8 P t) n](hx:ov ρ x=some (.pointer (some ⟨b,0,none⟩)))(hy:ov ρ y=some (.agg vs.toArray))(hB:aH w b cs)(h:∀w',aH w' b vs→am (fun k=>k≠b) w w'→w'.heap.size=w.heap.size→WL P ops N D rest ρ w' next)(hv:vs.all (·.oneCell')=true:=by first|rfl|assumption|(simp[*];done)|simp[Value.oneCell', *])(hn:vs.length=n:=by first|rfl|simp[*])(hc:cs.length=n:=by first|rfl|simp[*]):WL P ops N D (⟨none,.store t x y,ty,pos,af,none⟩::rest) ρ w next:=WL.l0 (bj hx hy hB hv hn hc) fun u w' hu=>h w' hu.1 hu.2.1 hu.2.2
theorem Hp[Fo (x8 P t) 1](hx:ov ρ x=some (.pointer (some ⟨b,j,none⟩)))(hy:ov ρ y=some v)(hB:aH w b cs)(h:∀w',aH w' b (cs.set j v)→am (fun k=>k≠b) w w'→w'.heap.size=w.heap.size→WL P ops N D rest ρ w' next)(hv:v.oneCell'=true:=by first|rfl|assumption|exact aT.one (by assumption))(hj:Nat.blt j cs.length=true:=by exact rfl):WL P ops N D (⟨none,.store t x y,ty,pos,af,none⟩::rest) ρ w next:=WL.l0 (lst hx hy hB hv hj) fun u w' hu=>h w' hu.1 hu.2.1 hu.2.2
theorem ch{A:Nat→Prop}{a b:World}(h:am A a b:=by
  repeat (first|exact am.drew _|exact am.refl _|assumption|refine am.t ?_ Vd|refine am.t ?_ (by assumption))):am A a b:=h
theorem sb(h:jZ κ ρ:=by
  repeat (first|exact .nil|refine .cons rfl ?_|refine .cons (DT rfl (by omega)) ?_)):jZ κ ρ:=h
end
section
variable {P:Program} {f:FuncId} {fn:Func} {c:Code} {l:List Value} {w:World} {R:Value→World→Prop} {t0 t1 t2 t3:Nat}
theorem mJ(hf:P.funcs[f]?=some fn)(h:WC P fn.ntmps [] c (cn 0 l) w (wW (gu R)))(hb:fn.body=some c:=by exact rfl)(hr:fn.results= #[]:=by exact rfl)(hn:Nat.ble l.length fn.ntmps=true:=by exact rfl):ah P f l w R:=ET hf hb hr hn h
theorem aR(hf:P.funcs[f]?=some fn)(h:WC P fn.ntmps [] c (cn 0 l) w (wX t0 (gu R)))(hb:fn.body=some c:=by exact rfl)(hr:fn.results= #[.tmp t0]:=by exact rfl)(hn:Nat.ble l.length fn.ntmps=true:=by exact rfl):ah P f l w R:=EU hf hb hr hn h
theorem cN(hf:P.funcs[f]?=some fn)(h:WC P fn.ntmps [] c (cn 0 l) w (yi t0 t1 (gu R)))(hb:fn.body=some c:=by exact rfl)(hr:fn.results= #[.tmp t0,.tmp t1]:=by exact rfl)(hn:Nat.ble l.length fn.ntmps=true:=by exact rfl):ah P f l w R:=EV hf hb hr hn h
theorem F9(hf:P.funcs[f]?=some fn)(h:WC P fn.ntmps [] c (cn 0 l) w (yj t0 t1 t2 (gu R)))(hb:fn.body=some c:=by exact rfl)(hr:fn.results= #[.tmp t0,.tmp t1,.tmp t2]:=by exact rfl)(hn:Nat.ble l.length fn.ntmps=true:=by exact rfl):ah P f l w R:=EW hf hb hr hn h
theorem co{rs:List ResultVar}(hf:P.funcs[f]?=some fn)(h:WC P fn.ntmps [] c (cn 0 l) w (m9 P rs (gu R)))(hb:fn.body=some c:=by exact rfl)(hr:fn.results=rs.toArray:=by exact rfl)(hn:Nat.ble l.length fn.ntmps=true:=by exact rfl):ah P f l w R:=EX hf hb hr hn h
end
end Go.Proofs.LL
namespace Go.Proofs.LL
open Go Go.Proofs Go.RowKit
set_option maxHeartbeats 4000000
attribute [local irreducible] ar WL WC cq WT WX
theorem mixed:TP.follows .mixedOrders=true:=by kernel_rfl
def tO(w:World)(rb:Nat)(bs:List UInt8)(i:Nat):Prop:=
 ∃db c,aH w rb [.slice (some ⟨db,0,none⟩) bs.length c,.int .i64 (i:Int)]∧cR w db 0 bs∧db<rb∧bs.length≤c∧i≤bs.length∧bs.length≤1099511627776
theorem tO.m(h:tO w rb bs i)(e:am A w w')(hA:∀b,b≤rb→A b:=by(intro b hb1;first|exact trivial|((try dsimp only[Nb]);omega))):tO w' rb bs i:=by
 obtain⟨db,c,h1,h2,h3,h4,h5,h6⟩:=h
 exact⟨db,c,h1.m e (hA _ (Nat.le_refl _)),h2.m e (hA _ (by omega)),h3,h4,h5,h6⟩
theorem tO.le(h:tO w rb bs i):i≤bs.length∧bs.length≤1099511627776:=by
 obtain⟨db,c,h1,h2,h3,h4,h5,h6⟩:=h
 exact⟨h5,h6⟩
theorem tO.lt(h:tO w rb bs i):rb<w.heap.size:=by
 obtain⟨db,c,h1,h2,h3,h4,h5,h6⟩:=h
 exact h1.lt
theorem ro{n:Int}(hB:tO w rb bs i)(hn:0≤n∧n≤1099511627776):
  ah TP 217 [.pointer (some ⟨rb,0,none⟩),.int .i64 n] w fun v w'=>v= .bool (decide ((bs.length:Int)<i+n))∧ay w w':=by
 obtain⟨db,c,hK, -, -, -,h5,h6⟩:=hB
 refine aR Tryz.func217 ?_
 refine q ?_
 refine WC.regionD (tt [0,1,2,3,4,5,6,7,8,9,10,11,12]) (ay w) mixed (by kernel_rfl) Xd<|q ?_
 refine WD.q rfl (fun _ hS=>aS rfl rfl)<|q ?_
 exact aw rfl ⟨rfl,ay.drew w⟩
theorem d9{n:Int}(hB:tO w rb bs i)(hn:0≤n)(h:(i:Int)+n≤bs.length):
  ah TP 217 [.pointer (some ⟨rb,0,none⟩),.int .i64 n] w fun v w'=>v= .bool false∧ay w w':=
 (ro hB (by have:=hB.le;omega)).imp fun v w' ⟨h1,h2⟩=>⟨by rw[h1,decide_eq_false (by omega)],h2⟩
theorem CY(hB:tO w rb bs i):
  ah TP 98 [.pointer (some ⟨rb,0,none⟩)] w fun v w'=>v= .int .i64 ((bs.length-i:Nat):Int)∧ay w w':=by
 obtain⟨db,c,hK, -, -, -,h5,h6⟩:=hB
 refine aR Tryz.func98 ?_
 refine q ?_
 refine WC.regionD (tt [0,1,2,3,4,5,6,7,8,9,10]) (ay w) mixed (by kernel_rfl) Xd<|q ?_
 exact aw rfl ⟨by rw[Int.ofNat_sub h5],ay.drew w⟩
theorem A5{n:Nat}(hB:tO w rb bs i)(hn:i+n≤bs.length):
  ah TP 99 [.pointer (some ⟨rb,0,none⟩),.int .i64 (n:Int)] w fun v w'=>v= .tuple #[]∧tO w' rb bs (i+n)∧am (Nb rb) w w':=by
 obtain⟨db,c,hK,hD,hne,hc,h5,h6⟩:=hB
 refine mJ Tryz.func99 ?_
 refine q ?_
 refine WL.l0 (lst rfl rfl hK) ?_
 rintro _ w1 ⟨hK,e1,hz1⟩
 refine q ?_
 exact gO ⟨rfl,⟨db,c,hK,hD.m e1 (Nat.ne_of_lt hne),hne,hc,hn,h6⟩,e1⟩
theorem ya(hB:tO w rb bs i):
  ah TP 27 [.pointer (some ⟨rb,0,none⟩)] w fun v w'=>bT (fun k=>k<rb) w' v (bs.drop i)∧ay w w':=by
 obtain⟨db,c,hK,hD,hne,hc,h5,h6⟩:=hB
 refine aR Tryz.func27 ?_
 refine q ?_
 refine WC.regionD (tt [0,1,2,3,4,5,6,7,8,9]) (ay w) mixed (by kernel_rfl) Xd<|q ?_
 refine WD.q rfl (fun _ hS=>cK Fo.h rfl rfl rfl (by first|omega|(simp;done)|(simp;omega)))<|q ?_
 have hI:bT (fun k=>k<rb) w (.slice (some ⟨db,0,none⟩) bs.length c) bs:=⟨_,c,rfl,hc,fun _=>⟨db,0,rfl,hne,hD⟩⟩
 have h7:=hI.cut i (bs.length-i) (by omega)
 rw[List.take_of_length_le (by simp)]at h7
 exact aw rfl ⟨h7.m (ay.drew w),ay.drew w⟩
theorem rX(hB:tO w rb bs i)(hb:bs[i]?=some b):
  ah TP 218 [.pointer (some ⟨rb,0,none⟩)] w fun v w'=>v= .tuple #[.int .u8 (b.toNat:Int),.nilIface]∧ay w w':=by
 have hB0:=hB
 obtain⟨db,c,hK,hD,hne,hc,h5,h6⟩:=hB
 obtain⟨hlt,hbe⟩:=List.getElem?_eq_some_iff.1 hb
 refine cN Tryz.func218 ?_
 refine q ?_
 refine cl rfl (d9 hB0 (by omega) (by omega)) ?_
 rintro _ w1 ⟨rfl,e1⟩
 refine q ?_
 refine WC.regionD (tt [0,1,2,3,4,5,6,7,8,9,10,11]) (ay w) mixed (by kernel_rfl) (e1.trans Xd)<|q ?_
 try refine WD.q rfl (fun _ hS=>ao Fb.h rfl (id hS) (by first|exact hK.get rfl|exact hD.get i hlt)) ?_
 refine q ?_
 try refine WD.q rfl (fun _ hS=>ao Fb.h rfl (id hS) (by first|exact hK.get rfl|exact hD.get i hlt)) ?_
 refine q ?_
 try refine WD.q rfl (fun _ hS=>ao Fb.h rfl (id hS) (by first|exact hK.get rfl|exact hD.get i hlt)) ?_
 refine q ?_
 exact bt rfl rfl ⟨by rw[hbe],e1.trans Xd⟩
end Go.Proofs.LL
