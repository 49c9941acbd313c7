/- Own laws of frames, operations and loops, and contracts of functions of the program. Conditions: those that each theorem states. -/
import Derived.Test.YtdgbmbjkbmpcbaaGreatDoorV24
import Derived.Shelf.Unicode.DecodeSlow
set_option linter.all false
set_option maxRecDepth 20000
namespace Go.Proofs.LL
open Go Go.Proofs Go.RowKit
set_option maxHeartbeats 4000000
attribute [local irreducible] RunOp WL WC WDL WT WX
theorem bg{n:Nat}(h:n<18446744073709551616):IntKind.u64.wrap (IntKind.i64.wrap (n:Int))=n:=by
 simp only[IntKind.wrap,IntKind.bits,IntKind.signed]
 simp
 split<;>omega
theorem fk(t:List UInt8):(bc t).all (fun v=>v.oneCell')=true:=by
 simp only[bc,List.all_map,List.all_eq_true]
 intro b _;rfl
theorem IsB.blk{w:World}{b:Nat}{t:List UInt8}{n:Nat}(h:Blk w b (bc t))(hn:t.length=n):IsB (fun k=>k=b) w (.slice (some ⟨b,0,none⟩) n n) t:=by
 subst hn
 refine⟨_,_,rfl,Nat.le_refl _,fun _=>⟨b,0,rfl,rfl,fun j hj=>?_⟩⟩
 rw[Nat.zero_add]
 exact h.get (by simp[hj])
section
variable {P:Program} {ρ:Fr} {w w0:World} {ty:TypeId} {x y:Operand}
theorem pQ {f : FuncId} {fn : Func} {o : Operand} {e : Array Value → Sem Value} {args : Array Operand} {ts : Array TypeId} {vs : List Value} {v : Value} (hf : P.funcs[f]? = some fn) (ho : ov ρ o = some (.func (.func f) #[] #[])) (hname : (fn.name == "runtime.NumGoroutine") = false) (hb : fn.body.isNone = true) (hn : (Extern.findNext fn).isNone = true) (he : Extern.find fn = some e) (ha : ovs ρ args.toList = some vs) (hr : ∀ w : World, (e vs.toArray).run P w = .ok v w) :
  LoudOp P (.call ⟨.value o,args,ts⟩) ty ρ w (fun u w'=>u=v∧w'=w):=by
 refine LoudOp.of_eq fun N D a dst pos af g hha=>⟨v,w,?_,rfl,rfl⟩
 have e1:args.map a.eval=vs.toArray:=map_evalA hha _ _ ha
 have hf':a.eval o= .func (.func f) #[] #[]:=hha.ov ho
 have hn':Extern.findNext fn=none:=by simpa using hn
 have:=run_callFunc_extern (P:=P) hf hname hb hn' he vs.toArray w
 simp[execOp,resolve,hf',Deferred.ofValue,e1,invoke,this,hr]
end
theorem jZ{b:Bool}{w:World}:Does TP 137 [.bool b] w fun u w'=>u= .int .u64 ((if b then 1 else 0:Nat):Int)∧Ext w w':=by
 cases b with
 |true=>
  refine do1 Tryz.func137 ?_
  refine q ?_
  exact fin1 rfl ⟨rfl,ch⟩
 |false=>
  refine do1 Tryz.func137 ?_
  refine q ?_
  exact fin1n rfl ⟨rfl,ch⟩
theorem co{ms:Int}{w:World}(h1: -9223372036854775808≤ms)(h2:ms≤9223372036854775807):Does TP 140 [.agg (tm ms).toArray] w fun u w'=>u= .int .i64 ms∧Ext w w':=by
 have hw:IntKind.i64.wrap (IntKind.i64.wrap (ms / 1000 * 1000)+(ms%1000 * 1000000).tdiv 1000000)=ms:=by
  have e1:(ms%1000 * 1000000).tdiv 1000000=ms%1000:=Int.mul_tdiv_cancel _ (by decide)
  rw[e1]
  simp only[IntKind.wrap,IntKind.bits,IntKind.signed]
  simp
  split<;>split<;>omega
 have hq:IntKind.i64.wrap ((ms%1000 * 1000000).tdiv 1000000)=(ms%1000 * 1000000).tdiv 1000000:=by
  have e1:(ms%1000 * 1000000).tdiv 1000000=ms%1000:=Int.mul_tdiv_cancel _ (by decide)
  rw[e1];exact wrap_i64 (by omega) (by omega)
 refine do1 Tryz.func140 ?_
 have he:Evo (fun _=>True) w w:=Evo.refl w
 refine q ?_
 have hs1:=he.size
 refine bx rfl ?_
 rintro _ w1 ⟨rfl,hb1,e1⟩
 refine q ?_
 refine WL.q rfl (r_mul rfl rfl) ?_
 refine q ?_
 refine WL.q rfl (r_quoE (by decide) rfl rfl hq) ?_
 refine WL.q rfl (r_add rfl rfl) ?_
 refine q ?_
 replace he:=he.then e1
 exact fin1n rfl ⟨by rw[hw],he⟩
theorem ra{n:Int}{w:World}:Does TP 145 [.int .u8 n] w fun u w'=>u= .int .u64 (IntKind.u64.wrap n)∧Ext w w':=by
 refine do1 Tryz.func145 ?_
 refine q ?_
 exact fin1n rfl ⟨rfl,ch⟩
theorem pw{n:Int}{w:World}:Does TP 147 [.int .u16 n] w fun u w'=>u= .int .u64 (IntKind.u64.wrap n)∧Ext w w':=by
 refine do1 Tryz.func147 ?_
 refine q ?_
 exact fin1n rfl ⟨rfl,ch⟩
theorem pN{n:Int}{w:World}:Does TP 149 [.int .u32 n] w fun u w'=>u= .int .u64 (IntKind.u64.wrap n)∧Ext w w':=by
 refine do1 Tryz.func149 ?_
 refine q ?_
 exact fin1n rfl ⟨rfl,ch⟩
theorem rm{n:Int}{w:World}:Does TP 153 [.int .i8 n] w fun u w'=>u= .int .u64 (IntKind.u64.wrap n)∧Ext w w':=by
 refine do1 Tryz.func153 ?_
 refine q ?_
 exact fin1n rfl ⟨rfl,ch⟩
theorem pD{n:Int}{w:World}:Does TP 155 [.int .i16 n] w fun u w'=>u= .int .u64 (IntKind.u64.wrap n)∧Ext w w':=by
 refine do1 Tryz.func155 ?_
 refine q ?_
 exact fin1n rfl ⟨rfl,ch⟩
theorem o7{n:Int}{w:World}:Does TP 157 [.int .i32 n] w fun u w'=>u= .int .u64 (IntKind.u64.wrap n)∧Ext w w':=by
 refine do1 Tryz.func157 ?_
 refine q ?_
 exact fin1n rfl ⟨rfl,ch⟩
theorem pf{n:Int}{w:World}:Does TP 159 [.int .i64 n] w fun u w'=>u= .int .u64 (IntKind.u64.wrap n)∧Ext w w':=by
 refine do1 Tryz.func159 ?_
 refine q ?_
 exact fin1n rfl ⟨rfl,ch⟩
theorem oZ{n:Int}{w:World}:Does TP 151 [.int .u64 n] w fun u w'=>u= .int .u64 n∧Ext w w':=by
 refine do1 Tryz.func151 ?_
 refine q ?_
 exact fin1n rfl ⟨rfl,ch⟩
theorem pu{n:Nat}{w:World}:Does TP 161 [.float .f32 n] w fun u w'=>u= .int .u64 (IntKind.u64.wrap (n:Int))∧Ext w w':=by
 refine do1 Tryz.func161 ?_
 refine q ?_
 refine WL.l rfl (l_f32bits rfl) ?_
 rintro v1 w1 ⟨rfl,e1⟩
 refine q ?_
 exact fin1n rfl ⟨rfl,ch⟩
theorem nC{ms:Int}{w:World}(h1: -9223372036854775808≤ms)(h2:ms≤9223372036854775807):Does TP 164 [.agg (tm ms).toArray] w fun u w'=>u= .int .u64 (IntKind.u64.wrap ms)∧Ext w w':=by
 refine do1 Tryz.func164 ?_
 have he:Evo (fun _=>True) w w:=Evo.refl w
 refine q ?_
 have hs1:=he.size
 refine bx rfl ?_
 rintro _ w1 ⟨rfl,hb1,e1⟩
 refine q ?_
 refine cl rfl (co h1 h2) ?_
 rintro v2 w2 ⟨rfl,e2⟩
 refine q ?_
 replace he:=(he.then e1).then e2
 exact fin1n rfl ⟨rfl,he⟩
theorem oe{t:List UInt8}{w:World}(ht:t.length=16):Does TP 166 [.agg (bc t).toArray] w fun u w'=>u=str t∧Ext w w':=by
 refine do1 Tryz.func166 ?_
 have he:Evo (fun _=>True) w w:=Evo.refl w
 refine q ?_
 have hs1:=he.size
 refine bx rfl ?_
 rintro _ w1 ⟨rfl,hb1,e1⟩
 refine q ?_
 refine WL.q rfl (r_sliceArr Fo.h rfl) ?_
 refine WL.q rfl (r_b2s Fb.h rfl (Ext.refl _) (IsB.blk hb1 ht)) ?_
 refine q ?_
 replace he:=he.then e1
 exact fin1n rfl ⟨rfl,he⟩
theorem oV{A:Nat→Prop}{v:Value}{t:List UInt8}{w:World}(h:IsB A w v t):Does TP 168 [v] w fun u w'=>u=str t∧Ext w w':=by
 refine do1 Tryz.func168 ?_
 refine q ?_
 refine WL.q rfl (r_b2s Fb.h rfl (Ext.refl _) h) ?_
 refine q ?_
 exact fin1n rfl ⟨rfl,ch⟩
theorem pz{t:List UInt8}{w:World}:Does TP 170 [str t] w fun u w'=>u=str t∧Ext w w':=by
 refine do1 Tryz.func170 ?_
 refine q ?_
 exact fin1n rfl ⟨rfl,ch⟩
theorem pO{t:List UInt8}{w:World}:Does TP 172 [str t] w fun u w'=>u=str t∧Ext w w':=by
 refine do1 Tryz.func172 ?_
 refine q ?_
 exact fin1n rfl ⟨rfl,ch⟩
theorem ft{A:Prop}(h:A:=by
 refine WL.q rfl (r_bld (cs:=[_,_,_,_,_,_]) Fo.h rfl rfl) ?_
 refine WL.l0 (lsw rfl rfl hb1) ?_
 rintro _ w2 ⟨hb1,e2,hz2⟩
 refine q ?_
 replace he:=he.then (e1.then e2)
 exact finCt rfl hb1 agg_87 rfl ⟨_,rfl,rfl,he⟩):A:=h
theorem gw{A:Prop}(h:A:=by
 refine q ?_
 refine WL.q rfl (r_bld (cs:=[_,_,_,_,_,_]) Fo.h rfl rfl) ?_
 refine WL.l0 (lsw rfl rfl hb1) ?_
 rintro _ w2 ⟨hb1,e2,hz2⟩
 refine q ?_
 replace he:=he.then (e1.then e2)
 exact finCt rfl hb1 agg_87 rfl ⟨_,rfl,rT (m:=0) (bg hNL),he⟩):A:=h
theorem jP{A:Prop}(h:A:=by
 refine q ?_
 refine WL.q rfl (r_bld (cs:=[_,_,_,_,_,_]) Fo.h rfl rfl) ?_
 refine WL.l0 (lsw rfl rfl hb1) ?_
 rintro _ w2 ⟨hb1,e2,hz2⟩
 refine q ?_
 replace he:=he.then (e1.then e2)
 exact finCt rfl hb1 agg_87 rfl ⟨_,rfl,rT (m:=0) (dN hNL),he⟩):A:=h
theorem jy{ρ:Fr}{w:World}{ty:TypeId}{o:Operand}{args:Array Operand}{ts:Array TypeId}{n:Nat}(ho:ov ρ o=some (.func (.func 139) #[] #[]))(ha:ovs ρ args.toList=some [.float .f64 n]):LoudOp TP (.call ⟨.value o,args,ts⟩) ty ρ w (fun u w'=>u= .int .u64 (n:Int)∧Ext w w'):=by
 intro N D a dst pos af g hh next Q hn
 refine pQ (e:=Extern.MathFloatBits.float64bits) Tryz.func139 ho (by kernel_rfl) rfl (by kernel_rfl) (by kernel_rfl) ha (v:= .int .u64 (n:Int)) (fun w=>rfl) N D a dst pos af g hh next Q fun u w' h=>hn u w' ⟨h.1,h.2▸Ext.refl _⟩
theorem lB{g o c:Nat}{ns:List Nat}{k:Int}{w:World}(hle:ns.length≤65536)(hA:At w g o (ns.map fun n=> .float .f64 n))(hg:g<w.heap.size)
  :
  Does TP 162 [.int .i64 k,.slice (some ⟨g,o,none⟩) ns.length c,.func (.func 139) #[] #[]] w fun u w'=>∃cells,u= .agg cells.toArray∧ag (fun b=>w.heap.size≤b) w' (.mk 23 0 [] (ns.map fun n=>pv k n []) k []) cells∧Ext w w':=by
 refine doR Tryz.func162 ?_
 have he:Evo (fun b=>b<w.heap.size) w w:=Evo.refl w
 refine q ?_
 have hs1:=he.size
 refine al ?_
 rintro _ w1 ⟨rfl,hb1,e1⟩
 refine q ?_
 refine WL.q rfl (r_bld (cs:=[_,_,_,_,_,_]) Fo.h rfl rfl) ?_
 replace he:=he.then e1
 have hs2:=he.size
 have hx2b1:=hb1.lt
 refine al ?_
 rintro _ w2 ⟨rfl,hb2,e2⟩
 refine WL.l0 (lsw rfl rfl hb2) ?_
 rintro _ w3 ⟨hb2,e3,hz3⟩
 refine q ?_
 have hx:=hb2.lt
 replace hA:=(hA.mono e1).mono (e2.then e3)
 replace hb1:=hb1.mono (e2.then e3)
 replace he:=he.then (e2.then e3)
 refine WC.loop2 (ι:=Nat) [(0,_),(2,_),(6,_),(7,_),(12,_),(13,_)] (fun i=>[(14,.int .i64 (i:Int))]) (fun i wi=>(∃sv,Blk wi w1.heap.size [.int .i64 23,.int .u64 0,.string ⟨#[]⟩,sv,.int .i64 k,.slice none 0 0]∧Own w3.heap.size 87 6 wi sv i ((ns.take i).flatMap fun n=>vc k n []))∧i≤ns.length∧Evo (fun b=>b<w3.heap.size∧b≠w1.heap.size) w3 wi) (fun i=>ns.length-i) 0 sb sb (⟨⟨_,hb2,Own.nil _ _ _ _⟩,Nat.zero_le _,Evo.refl _⟩) ?_
 intro i wi1 hh;obtain⟨⟨sv,hb2,hO⟩,hil,hE⟩:=hh
 have hwi:=hE.size
 rcases Nat.lt_or_ge i ns.length with hi|hi
 ·have hie:i<(ns.map fun n=>Value.float .f64 n).length:=by simpa using hi
  replace hA:=hA.mono hE
  replace he:=he.then hE
  refine q ?_
  refine WL.q rfl (r_load Fb.h rfl (Ext.refl _) (hA.get (v:= .float .f64 ns[i]) (by simp[hi]))) ?_
  refine q ?_
  replace hb1:=hb1.mono hE
  refine WC.regionDL 10 (tt [0,1,2,3,4]++ff [5]++tt [6]++ff [7,8]++tt [9]++ff [10]) (Evo (fun b=>b<w3.heap.size) _) mixed (by kernel_rfl) (Evo.drew _) ?_
  refine q ?_
  refine WD.l rfl rfl (jy rfl rfl) ?_
  rintro v4 w4 ⟨rfl,e4⟩
  refine⟨((Evo.drew _).then e4),?_⟩
  refine WD.q rfl (fun _ hS=>r_bld (cs:=[_,_,_,_,_,_]) Fo.h rfl rfl) ?_
  replace he:=(he.then (Ext.drew _)).then e4
  have hs5:=he.size
  replace hb1:=(hb1.mono (Ext.drew _)).mono e4
  have hx5b1:=hb1.lt
  replace hb2:=(hb2.mono (Ext.drew _)).mono e4
  have hx5b2:=hb2.lt
  refine WD.l rfl rfl (ll [_]) ?_
  rintro _ w5 ⟨rfl,hb5,e5⟩
  refine⟨(((Evo.drew _).then e4).then e5),?_⟩
  refine WD.l rfl rfl (l_app Fo.h rfl rfl (((hO.mono (Ext.drew _)).mono e4).mono e5) (Src.at Fb.h hb5.at rfl rfl) (by have:=(Ext.drew wi1).size;have:=e4.size;have:=e5.size;omega) (by simp only[maxLen];omega) (by omega)) ?_
  rintro v6 w6 ⟨hO,e6⟩
  obtain⟨q6,c6,rfl,_,_⟩:=hO.form
  refine⟨((((Evo.drew _).then e4).then e5).then e6),?_⟩
  refine q ?_
  replace hb2:=(hb2.mono e5).mono e6
  refine WD.l0L rfl rfl (lst rfl rfl hb2) ?_
  rintro _ w7 ⟨hb2,e7,hz7⟩
  refine q ?_
  replace hO:=hO.mono e7
  replace he:=((he.then e5).then e6).then e7
  have hO2:=(show Own _ _ _ _ _ (i+1) (_++vc k ns[i] [])from hO)
  rw[← show(ns.take (i+1)).flatMap (fun n=>vc k n [])=(ns.take i).flatMap (fun n=>vc k n [])++vc k ns[i] []from dD _ ns hi]at hO2
  exact⟨i+1,sb,sb,⟨⟨_,hb2,hO2⟩,by omega,((((((hE.then (Ext.drew _)).then e4).then e5).then e6).then e7))⟩,by omega⟩
 ·have hin:i=ns.length:=by omega
  subst hin
  obtain⟨q0,c0,rfl,_,_⟩:=hO.form
  refine q ?_
  replace hb1:=hb1.mono hE
  refine WL.l0 (lsw rfl rfl hb1) ?_
  rintro _ w4 ⟨hb1,e4,hz4⟩
  refine q ?_
  replace hO:=hO.mono e4
  replace he:=(he.then hE).then e4
  rw[List.take_length]at hO
  exact finC rfl hb1 agg_87 ⟨_,rfl,by rw[ag];exact⟨_,_,rfl,aD.own hO (by simp) (aa.flat _ _ (fun n=>ag.plain _ _ _) ns) (fun b h _=>by show _≤b;omega),aD.nil⟩,he.weaken fun k hk _=>hk⟩
def UT(w:World):Prop:=Lib.Utf8Tabs 2 3 w
theorem UT.lt{w:World}(h:UT w):3<w.heap.size:=lt_of_cell (h.2 0 (by omega)).1
theorem UT.mono{A:Nat→Prop}{w w':World}(h:UT w)(e:Evo A w w')(hA:A 2∧A 3:=by first|exact⟨trivial,trivial⟩|((try dsimp only[Nb]);omega)):UT w':=
 ⟨fun c hc=>e.cell (h.1 c hc) hA.1,fun i hi=>⟨e.cell (h.2 i hi).1 hA.2,e.cell (h.2 i hi).2 hA.2⟩⟩
theorem UT.ext{w w':World}(h:UT w)(e:Evo (fun b=>b<w.heap.size) w w'):UT w':=h.mono e (by have:=h.lt;exact⟨by omega,this⟩)
def bB(x:V):Prop:=∀(A:Nat→Prop) (u:Value) (w:World),UT w→RepA A w x u→
 Does TP 85 [u] w fun r w'=>∃cells y,r= .tuple #[.agg cells.toArray,.bool true]∧ag (fun b=>w.heap.size≤b) w' y cells∧cG x y∧Ext w w'
theorem lU{n:Nat}(h:n≤1):((if(n !=0)=true then 1 else 0:Nat):Int)=n:=by
 have:n=0∨n=1:=by omega
 rcases this with rfl|rfl<;>rfl
theorem rT{k:Int}{n m:Nat}{z:Int}{t:List UInt8}(hz:z=(n:Int)):[Value.int .i64 k,.int .u64 z,str t,.slice none 0 0,.int .i64 0,.slice none 0 0]=vc k n t:=by rw[hz];rfl
theorem dN{n:Nat}(h:n<18446744073709551616):IntKind.u64.wrap (n:Int)=n:=wu64 (by omega) (by omega)
theorem ej{k:Int}{n:Nat}{t:List UInt8}{ks:List V}{o:Int}{d:List V}{u:Value}{w:World}(hp:plainOK (.mk k n t ks o d))(h:scal k n t=some u):
  Does TP 85 [u] w fun r w'=>∃cells,r= .tuple #[.agg cells.toArray,.bool true]∧cells=vc (eH k) n t∧Ext w w':=by
 obtain⟨hN,htl,ht17,hdn,hq1,hq2⟩:=hp
 simp only[V.kind,V.num,V.text,V.desc]at hN htl ht17 hdn hq1 hq2
 obtain⟨hN1,hN2,hN3,hN4,hN6,hN7,hN8,hN10,hNL⟩:=hN
 have hk:k=0∨k=1∨k=2∨k=3∨k=4∨k=5∨k=6∨k=7∨k=8∨k=9∨k=10∨k=11∨k=16∨k=17∨k=19∨k=20:=by
  unfold scal at h
  split at h
  ·omega
  ·split at h
   ·omega
   ·split at h
    ·omega
    ·split at h
     ·omega
     ·split at h
      ·omega
      ·cases h
 rcases hk with rfl|rfl|rfl|rfl|rfl|rfl|rfl|rfl|rfl|rfl|rfl|rfl|rfl|rfl|rfl|rfl
 ·have hu:u= .nilIface:=by rw[show scal _ _ _=some _ from rfl]at h;exact(Option.some.inj h).symm
  subst hu
  have htz:t=[]:=hq1 (by decide)
  have hnz:n=0:=hq2 (by decide)
  subst htz hnz
  refine doR Tryz.func85 ?_
  have he:Evo (fun _=>True) w w:=Evo.refl w
  refine q ?_
  have hs1:=he.size
  refine al ?_
  rintro _ w1 ⟨rfl,hb1,e1⟩
  refine q ?_
  exact ft
 ·have hu:u= .iface 4 (.bool (n !=0)):=by rw[show scal _ _ _=some _ from rfl]at h;exact(Option.some.inj h).symm
  subst hu
  have htz:t=[]:=hq1 (by decide)
  subst htz
  refine doR Tryz.func85 ?_
  have he:Evo (fun _=>True) w w:=Evo.refl w
  refine q ?_
  have hs1:=he.size
  refine al ?_
  rintro _ w1 ⟨rfl,hb1,e1⟩
  refine q ?_
  refine cl rfl (jZ) ?_
  rintro v2 w2 ⟨rfl,e2⟩
  refine WL.q rfl (r_bld (cs:=[_,_,_,_,_,_]) Fo.h rfl rfl) ?_
  replace hb1:=hb1.mono e2
  refine WL.l0 (lsw rfl rfl hb1) ?_
  rintro _ w3 ⟨hb1,e3,hz3⟩
  refine q ?_
  replace he:=((he.then e1).then e2).then e3
  exact finCt rfl hb1 agg_87 rfl ⟨_,rfl,rT (m:=0) (lU (hN1 rfl)),he⟩
 ·have hu:u= .iface 5 (.int .u8 n):=by rw[show scal _ _ _=some _ from rfl]at h;exact(Option.some.inj h).symm
  subst hu
  have htz:t=[]:=hq1 (by decide)
  subst htz
  refine doR Tryz.func85 ?_
  have he:Evo (fun _=>True) w w:=Evo.refl w
  refine q ?_
  have hs1:=he.size
  refine al ?_
  rintro _ w1 ⟨rfl,hb1,e1⟩
  exact jP
 ·have hu:u= .iface 228 (.int .u16 n):=by rw[show scal _ _ _=some _ from rfl]at h;exact(Option.some.inj h).symm
  subst hu
  have htz:t=[]:=hq1 (by decide)
  subst htz
  refine doR Tryz.func85 ?_
  have he:Evo (fun _=>True) w w:=Evo.refl w
  refine q ?_
  have hs1:=he.size
  refine al ?_
  rintro _ w1 ⟨rfl,hb1,e1⟩
  exact jP
 ·have hu:u= .iface 22 (.int .u32 n):=by rw[show scal _ _ _=some _ from rfl]at h;exact(Option.some.inj h).symm
  subst hu
  have htz:t=[]:=hq1 (by decide)
  subst htz
  refine doR Tryz.func85 ?_
  have he:Evo (fun _=>True) w w:=Evo.refl w
  refine q ?_
  have hs1:=he.size
  refine al ?_
  rintro _ w1 ⟨rfl,hb1,e1⟩
  refine WL.q rfl (r_assign rfl) ?_
  refine WL.nil ?_
  refine gq 8 rfl ?_
  refine WL.q rfl (r_ifeqSome Fb.h rfl) ?_
  refine WL.nil ?_
  refine gq 24 rfl ?_
  exact jP
 ·have hu:u= .iface 27 (.int .u64 n):=by rw[show scal _ _ _=some _ from rfl]at h;exact(Option.some.inj h).symm
  subst hu
  have htz:t=[]:=hq1 (by decide)
  subst htz
  refine doR Tryz.func85 ?_
  have he:Evo (fun _=>True) w w:=Evo.refl w
  refine q ?_
  have hs1:=he.size
  refine al ?_
  rintro _ w1 ⟨rfl,hb1,e1⟩
  refine WL.q rfl (r_assign rfl) ?_
  refine WL.nil ?_
  refine gq 8 rfl ?_
  refine WL.q rfl (r_ifeqSome Fb.h rfl) ?_
  refine WL.nil ?_
  refine gq 31 rfl ?_
  refine q ?_
  exact ft
 ·have hu:u= .iface 213 (.int .i8 (IntKind.i64.wrap n)):=by rw[show scal _ _ _=some _ from rfl]at h;exact(Option.some.inj h).symm
  subst hu
  have htz:t=[]:=hq1 (by decide)
  subst htz
  refine doR Tryz.func85 ?_
  have he:Evo (fun _=>True) w w:=Evo.refl w
  refine q ?_
  have hs1:=he.size
  refine al ?_
  rintro _ w1 ⟨rfl,hb1,e1⟩
  refine WL.q rfl (r_assign rfl) ?_
  refine WL.nil ?_
  refine gq 8 rfl ?_
  refine WL.q rfl (r_ifeqSome Fb.h rfl) ?_
  refine WL.nil ?_
  refine gq 38 rfl ?_
  exact gw
 ·have hu:u= .iface 217 (.int .i16 (IntKind.i64.wrap n)):=by rw[show scal _ _ _=some _ from rfl]at h;exact(Option.some.inj h).symm
  subst hu
  have htz:t=[]:=hq1 (by decide)
  subst htz
  refine doR Tryz.func85 ?_
  have he:Evo (fun _=>True) w w:=Evo.refl w
  refine q ?_
  have hs1:=he.size
  refine al ?_
  rintro _ w1 ⟨rfl,hb1,e1⟩
  refine WL.q rfl (r_assign rfl) ?_
  refine WL.nil ?_
  refine gq 8 rfl ?_
  refine WL.q rfl (r_ifeqSome Fb.h rfl) ?_
  refine WL.nil ?_
  refine gq 45 rfl ?_
  exact gw
 ·have hu:u= .iface 21 (.int .i32 (IntKind.i64.wrap n)):=by rw[show scal _ _ _=some _ from rfl]at h;exact(Option.some.inj h).symm
  subst hu
  have htz:t=[]:=hq1 (by decide)
  subst htz
  refine doR Tryz.func85 ?_
  have he:Evo (fun _=>True) w w:=Evo.refl w
  refine q ?_
  have hs1:=he.size
  refine al ?_
  rintro _ w1 ⟨rfl,hb1,e1⟩
  refine WL.q rfl (r_assign rfl) ?_
  refine WL.nil ?_
  refine gq 8 rfl ?_
  refine WL.q rfl (r_ifeqSome Fb.h rfl) ?_
  refine WL.nil ?_
  refine gq 52 rfl ?_
  exact gw
 ·have hu:u= .iface 2 (.int .i64 (IntKind.i64.wrap n)):=by rw[show scal _ _ _=some _ from rfl]at h;exact(Option.some.inj h).symm
  subst hu
  have htz:t=[]:=hq1 (by decide)
  subst htz
  refine doR Tryz.func85 ?_
  have he:Evo (fun _=>True) w w:=Evo.refl w
  refine q ?_
  have hs1:=he.size
  refine al ?_
  rintro _ w1 ⟨rfl,hb1,e1⟩
  refine WL.q rfl (r_assign rfl) ?_
  refine WL.nil ?_
  refine gq 8 rfl ?_
  refine WL.q rfl (r_ifeqSome Fb.h rfl) ?_
  refine WL.nil ?_
  refine gq 59 rfl ?_
  exact gw
 ·have hu:u= .iface 235 (.float .f32 n):=by rw[show scal _ _ _=some _ from rfl]at h;exact(Option.some.inj h).symm
  subst hu
  have htz:t=[]:=hq1 (by decide)
  subst htz
  refine doR Tryz.func85 ?_
  have he:Evo (fun _=>True) w w:=Evo.refl w
  refine q ?_
  have hs1:=he.size
  refine al ?_
  rintro _ w1 ⟨rfl,hb1,e1⟩
  refine WL.q rfl (r_assign rfl) ?_
  refine WL.nil ?_
  refine gq 8 rfl ?_
  refine WL.q rfl (r_ifeqSome Fb.h rfl) ?_
  refine WL.nil ?_
  refine gq 66 rfl ?_
  refine q ?_
  refine WL.l rfl (l_f32bits rfl) ?_
  rintro v2 w2 ⟨rfl,e2⟩
  refine q ?_
  refine WL.q rfl (r_bld (cs:=[_,_,_,_,_,_]) Fo.h rfl rfl) ?_
  replace hb1:=hb1.mono e2
  refine WL.l0 (lsw rfl rfl hb1) ?_
  rintro _ w3 ⟨hb1,e3,hz3⟩
  refine q ?_
  replace he:=((he.then e1).then e2).then e3
  exact finCt rfl hb1 agg_87 rfl ⟨_,rfl,rT (m:=0) (dN hNL),he⟩
 ·have hu:u= .iface 239 (.float .f64 n):=by rw[show scal _ _ _=some _ from rfl]at h;exact(Option.some.inj h).symm
  subst hu
  have htz:t=[]:=hq1 (by decide)
  subst htz
  refine doR Tryz.func85 ?_
  have he:Evo (fun _=>True) w w:=Evo.refl w
  refine q ?_
  have hs1:=he.size
  refine al ?_
  rintro _ w1 ⟨rfl,hb1,e1⟩
  refine WL.q rfl (r_assign rfl) ?_
  refine WL.nil ?_
  refine gq 8 rfl ?_
  refine WL.q rfl (r_ifeqSome Fb.h rfl) ?_
  refine WL.nil ?_
  refine gq 73 rfl ?_
  refine q ?_
  refine WL.l rfl (l_f64bits rfl) ?_
  rintro v2 w2 ⟨rfl,e2⟩
  refine WL.q rfl (r_bld (cs:=[_,_,_,_,_,_]) Fo.h rfl rfl) ?_
  replace hb1:=hb1.mono e2
  refine WL.l0 (lsw rfl rfl hb1) ?_
  rintro _ w3 ⟨hb1,e3,hz3⟩
  refine q ?_
  replace he:=((he.then e1).then e2).then e3
  exact finCt rfl hb1 agg_87 rfl ⟨_,rfl,rfl,he⟩
 ·have hu:u= .iface 251 (.agg (tm (IntKind.i64.wrap n)).toArray):=by rw[show scal _ _ _=some _ from rfl]at h;exact(Option.some.inj h).symm
  subst hu
  have htz:t=[]:=hq1 (by decide)
  subst htz
  refine doR Tryz.func85 ?_
  have he:Evo (fun _=>True) w w:=Evo.refl w
  refine q ?_
  have hs1:=he.size
  refine al ?_
  rintro _ w1 ⟨rfl,hb1,e1⟩
  refine WL.q rfl (r_assign rfl) ?_
  refine WL.nil ?_
  refine gq 8 rfl ?_
  refine WL.q rfl (r_ifeqSome Fb.h rfl) ?_
  refine WL.nil ?_
  refine gq 80 rfl ?_
  refine q ?_
  replace he:=he.then e1
  have hs2:=he.size
  have hx2b1:=hb1.lt
  refine al ?_
  rintro _ w2 ⟨rfl,hb2,e2⟩
  refine WL.l0 (lsw rfl rfl hb2) ?_
  rintro _ w3 ⟨hb2,e3,hz3⟩
  refine q ?_
  refine cl rfl (co (i64_range _).1 (i64_range _).2) ?_
  rintro v4 w4 ⟨rfl,e4⟩
  refine q ?_
  refine WL.q rfl (r_bld (cs:=[_,_,_,_,_,_]) Fo.h rfl rfl) ?_
  replace hb1:=(hb1.mono (e2.then e3)).mono e4
  refine WL.l0 (lsw rfl rfl hb1) ?_
  rintro _ w5 ⟨hb1,e5,hz5⟩
  refine q ?_
  replace he:=((he.then (e2.then e3)).then e4).then e5
  exact finCt rfl hb1 agg_87 rfl ⟨_,rfl,rT (m:=0) (bg hNL),he⟩
 ·have hu:u= .iface 319 (.agg (bc t).toArray):=by rw[show scal _ _ _=some _ from rfl]at h;exact(Option.some.inj h).symm
  subst hu
  have hnz:n=0:=hq2 (by decide)
  subst hnz
  refine doR Tryz.func85 ?_
  have he:Evo (fun _=>True) w w:=Evo.refl w
  refine q ?_
  have hs1:=he.size
  refine al ?_
  rintro _ w1 ⟨rfl,hb1,e1⟩
  refine WL.q rfl (r_assign rfl) ?_
  refine WL.nil ?_
  refine gq 8 rfl ?_
  refine WL.q rfl (r_ifeqSome Fb.h rfl) ?_
  refine WL.nil ?_
  refine gq 87 rfl ?_
  refine q ?_
  replace he:=he.then e1
  have hs2:=he.size
  have hx2b1:=hb1.lt
  refine al ?_
  rintro _ w2 ⟨rfl,hb2,e2⟩
  refine WL.l0 (lsw rfl rfl hb2) ?_
  rintro _ w3 ⟨hb2,e3,hz3⟩
  refine q ?_
  refine WL.q rfl (r_sliceArr Fo.h rfl) ?_
  refine WL.q rfl (r_b2s Fb.h rfl (Ext.refl _) (IsB.blk hb2 (ht17 rfl))) ?_
  refine WL.q rfl (r_bld (cs:=[_,_,_,_,_,_]) Fo.h rfl rfl) ?_
  replace hb1:=hb1.mono (e2.then e3)
  refine WL.l0 (lsw rfl rfl hb1) ?_
  rintro _ w4 ⟨hb1,e4,hz4⟩
  refine q ?_
  replace he:=(he.then (e2.then e3)).then e4
  exact finCt rfl hb1 agg_87 rfl ⟨_,rfl,rfl,he⟩
 ·have hu:u= .iface 9 (str t):=by rw[show scal _ _ _=some _ from rfl]at h;exact(Option.some.inj h).symm
  subst hu
  have hnz:n=0:=hq2 (by decide)
  subst hnz
  refine doR Tryz.func85 ?_
  have he:Evo (fun _=>True) w w:=Evo.refl w
  refine q ?_
  have hs1:=he.size
  refine al ?_
  rintro _ w1 ⟨rfl,hb1,e1⟩
  refine WL.q rfl (r_assign rfl) ?_
  refine WL.nil ?_
  refine gq 8 rfl ?_
  refine WL.q rfl (r_ifeqSome Fb.h rfl) ?_
  refine WL.nil ?_
  refine gq 101 rfl ?_
  refine q ?_
  exact ft
 ·have hu:u= .iface 9 (str t):=by rw[show scal _ _ _=some _ from rfl]at h;exact(Option.some.inj h).symm
  subst hu
  have hnz:n=0:=hq2 (by decide)
  subst hnz
  refine doR Tryz.func85 ?_
  have he:Evo (fun _=>True) w w:=Evo.refl w
  refine q ?_
  have hs1:=he.size
  refine al ?_
  rintro _ w1 ⟨rfl,hb1,e1⟩
  refine WL.q rfl (r_assign rfl) ?_
  refine WL.nil ?_
  refine gq 8 rfl ?_
  refine WL.q rfl (r_ifeqSome Fb.h rfl) ?_
  refine WL.nil ?_
  refine gq 101 rfl ?_
  refine q ?_
  exact ft
theorem i6{A:Nat→Prop}{v:Value}{t:List UInt8}{w:World}(h:IsB A w v t):
  Does TP 85 [.iface 28 v] w fun r w'=>∃cells,r= .tuple #[.agg cells.toArray,.bool true]∧cells=vc 18 0 t∧Ext w w':=by
 refine doR Tryz.func85 ?_
 have he:Evo (fun _=>True) w w:=Evo.refl w
 refine q ?_
 have hs1:=he.size
 refine al ?_
 rintro _ w1 ⟨rfl,hb1,e1⟩
 refine WL.q rfl (r_assign rfl) ?_
 refine WL.nil ?_
 refine gq 8 rfl ?_
 refine WL.q rfl (r_ifeqSome Fb.h rfl) ?_
 refine WL.nil ?_
 refine gq 94 rfl ?_
 refine q ?_
 replace h:=h.mono e1
 refine WL.q rfl (r_b2s Fb.h rfl (Ext.refl _) h) ?_
 exact ft
end Go.Proofs.LL
