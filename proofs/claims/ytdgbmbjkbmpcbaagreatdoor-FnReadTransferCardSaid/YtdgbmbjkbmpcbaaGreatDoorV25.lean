/- Contracts of functions and own laws. Conditions: those that each theorem states. -/
import Derived.Test.YtdgbmbjkbmpcbaaGreatDoorV24
import Derived.Shelf.Unicode.DecodeSlow
set_option linter.all false
set_option autoImplicit true
set_option relaxedAutoImplicit true
set_option maxRecDepth 20000
namespace Go.Proofs.LL
open Go Go.Proofs Go.RowKit
set_option maxHeartbeats 4000000
attribute [local irreducible] ar WL WC cq WT WX
theorem ft{n:Nat}(h:n<18446744073709551616):IntKind.u64.wrap (IntKind.i64.wrap (n:Int))=n:=by
 simp only[IntKind.wrap,IntKind.bits,IntKind.signed]
 simp
 split<;>omega
theorem nn(t:List UInt8):(bc t).all (fun v=>v.oneCell')=true:=by
 simp only[bc,List.all_map,List.all_eq_true]
 intro b _;rfl
theorem bT.blk(h:aH w b (bc t))(hn:t.length=n):bT (fun k=>k=b) w (.slice (some ⟨b,0,none⟩) n n) t:=by
 subst hn
 refine⟨_,_,rfl,Nat.le_refl _,fun _=>⟨b,0,rfl,rfl,fun j hj=>?_⟩⟩
 rw[Nat.zero_add]
 exact h.get (by simp[hj])
section
variable {P:Program} {ρ:Fr} {w w0:World} {ty:TypeId} {x y:Operand}
theorem DQ {f:FuncId} {e : Array Value → Sem Value} {args : Array Operand} {ts : Array TypeId} (hf : P.funcs[f]? = some fn) (ho : ov ρ o = some (.func (.func f) #[] #[])) (hname : (fn.name == "runtime.NumGoroutine") = false) (hb : fn.body.isNone = true) (hn : (Extern.findNext fn).isNone = true) (he : Extern.find fn = some e) (ha : lS ρ args.toList = some vs) (hr : ∀ w : World, (e vs.toArray).run P w = .ok v w) :
  aA P (.call ⟨.value o,args,ts⟩) ty ρ w (fun u w'=>u=v∧w'=w):=by
 refine aA.of_eq fun N D a dst pos af g hha=>⟨v,w,?_,rfl,rfl⟩
 have e1:args.map a.eval=vs.toArray:=eO hha _ _ ha
 have hf':a.eval o= .func (.func f) #[] #[]:=hha.ov ho
 have hn':Extern.findNext fn=none:=by simpa using hn
 have:=run_callFunc_extern (P:=P) hf hname hb hn' he vs.toArray w
 simp[execOp,resolve,hf',Deferred.ofValue,e1,invoke,this,hr]
end
theorem vS:ah TP 137 [.bool b] w fun u w'=>u= .int .u64 ((if b then 1 else 0:Nat):Int)∧ay w w':=by
 cases b with
 |true=>
  refine aR Tryz.func137 ?_
  refine q ?_
  exact aw rfl ⟨rfl,ch⟩
 |false=>
  refine aR Tryz.func137 ?_
  refine q ?_
  exact fE rfl ⟨rfl,ch⟩
theorem ig{ms:Int}(h1: -9223372036854775808≤ms)(h2:ms≤9223372036854775807):ah TP 140 [.agg (tm ms).toArray] w fun u w'=>u= .int .i64 ms∧ay w w':=by
 have hw:IntKind.i64.wrap (IntKind.i64.wrap (ms / 1000 * 1000)+(ms%1000 * 1000000).tdiv 1000000)=ms:=by
  have e1:(ms%1000 * 1000000).tdiv 1000000=ms%1000:=Int.mul_tdiv_cancel _ (by decide)
  rw[e1]
  simp only[IntKind.wrap,IntKind.bits,IntKind.signed]
  simp
  split<;>split<;>omega
 have hq:IntKind.i64.wrap ((ms%1000 * 1000000).tdiv 1000000)=(ms%1000 * 1000000).tdiv 1000000:=by
  have e1:(ms%1000 * 1000000).tdiv 1000000=ms%1000:=Int.mul_tdiv_cancel _ (by decide)
  rw[e1];exact dM (by omega) (by omega)
 refine aR Tryz.func140 ?_
 have he:=XI w
 refine q ?_
 have:=he.s
 refine Hb rfl fun w1 hb1 e1=>?_
 refine q ?_
 refine Hq (zG rfl rfl)<|q ?_
 refine Hq (nW (by decide) rfl rfl hq)<|Hq (pD rfl rfl)<|q ?_
 replace he:=he.t e1
 exact fE rfl ⟨by rw[hw],he⟩
theorem ER{n:Int}:ah TP 145 [.int .u8 n] w fun u w'=>u= .int .u64 (IntKind.u64.wrap n)∧ay w w':=by
 refine aR Tryz.func145 ?_
 refine q ?_
 exact fE rfl ⟨rfl,ch⟩
theorem DC{n:Int}:ah TP 147 [.int .u16 n] w fun u w'=>u= .int .u64 (IntKind.u64.wrap n)∧ay w w':=by
 refine aR Tryz.func147 ?_
 refine q ?_
 exact fE rfl ⟨rfl,ch⟩
theorem DD{n:Int}:ah TP 149 [.int .u32 n] w fun u w'=>u= .int .u64 (IntKind.u64.wrap n)∧ay w w':=by
 refine aR Tryz.func149 ?_
 refine q ?_
 exact fE rfl ⟨rfl,ch⟩
theorem EQ{n:Int}:ah TP 153 [.int .i8 n] w fun u w'=>u= .int .u64 (IntKind.u64.wrap n)∧ay w w':=by
 refine aR Tryz.func153 ?_
 refine q ?_
 exact fE rfl ⟨rfl,ch⟩
theorem Dx{n:Int}:ah TP 155 [.int .i16 n] w fun u w'=>u= .int .u64 (IntKind.u64.wrap n)∧ay w w':=by
 refine aR Tryz.func155 ?_
 refine q ?_
 exact fE rfl ⟨rfl,ch⟩
theorem Dy{n:Int}:ah TP 157 [.int .i32 n] w fun u w'=>u= .int .u64 (IntKind.u64.wrap n)∧ay w w':=by
 refine aR Tryz.func157 ?_
 refine q ?_
 exact fE rfl ⟨rfl,ch⟩
theorem Dz{n:Int}:ah TP 159 [.int .i64 n] w fun u w'=>u= .int .u64 (IntKind.u64.wrap n)∧ay w w':=by
 refine aR Tryz.func159 ?_
 refine q ?_
 exact fE rfl ⟨rfl,ch⟩
theorem DE{n:Int}:ah TP 151 [.int .u64 n] w fun u w'=>u= .int .u64 n∧ay w w':=by
 refine aR Tryz.func151 ?_
 refine q ?_
 exact fE rfl ⟨rfl,ch⟩
theorem Dw:ah TP 161 [.float .f32 n] w fun u w'=>u= .int .u64 (IntKind.u64.wrap (n:Int))∧ay w w':=by
 refine aR Tryz.func161 ?_
 refine q ?_
 refine WL.l rfl (pq rfl) ?_
 rintro v1 w1 ⟨rfl,e1⟩
 refine q ?_
 exact fE rfl ⟨rfl,ch⟩
theorem Bl{ms:Int}(h1: -9223372036854775808≤ms)(h2:ms≤9223372036854775807):ah TP 164 [.agg (tm ms).toArray] w fun u w'=>u= .int .u64 (IntKind.u64.wrap ms)∧ay w w':=by
 refine aR Tryz.func164 ?_
 have he:=XI w
 refine q ?_
 have:=he.s
 refine Hb rfl fun w1 hb1 e1=>?_
 refine q ?_
 refine Hl rfl (ig h1 h2) fun w2 e2=>?_
 refine q ?_
 replace he:=(he.t e1).t e2
 exact fE rfl ⟨rfl,he⟩
theorem Bm{t:List UInt8}(ht:t.length=16):ah TP 166 [.agg (bc t).toArray] w fun u w'=>u=str t∧ay w w':=by
 refine aR Tryz.func166 ?_
 have he:=XI w
 refine q ?_
 have:=he.s
 refine Hb rfl fun w1 hb1 e1=>?_
 refine q ?_
 refine Hq (ga Fo.h rfl)<|Hq (gp Fb.h rfl Xr (bT.blk hb1 ht))<|q ?_
 replace he:=he.t e1
 exact fE rfl ⟨rfl,he⟩
theorem Dv(h:bT A w v t):ah TP 168 [v] w fun u w'=>u=str t∧ay w w':=by
 refine aR Tryz.func168 ?_
 refine q ?_
 refine Hq (gp Fb.h rfl Xr h)<|q ?_
 exact fE rfl ⟨rfl,ch⟩
theorem DA:ah TP 170 [str t] w fun u w'=>u=str t∧ay w w':=by
 refine aR Tryz.func170 ?_
 refine q ?_
 exact fE rfl ⟨rfl,ch⟩
theorem DB:ah TP 172 [str t] w fun u w'=>u=str t∧ay w w':=by
 refine aR Tryz.func172 ?_
 refine q ?_
 exact fE rfl ⟨rfl,ch⟩
theorem oh{A:Prop}(h:A:=by
 refine Hq (az (cs:=[_,_,_,_,_,_]) Fo.h rfl rfl)<|Ho rfl rfl hb1 fun w2 hb1 e2 hz2=>?_
 refine q ?_
 replace he:=he.t (e1.t e2)
 exact cw rfl hb1 bR rfl ⟨_,rfl,rfl,he⟩):A:=h
theorem rN{A:Prop}(h:A:=by
 refine q ?_
 refine Hq (az (cs:=[_,_,_,_,_,_]) Fo.h rfl rfl)<|Ho rfl rfl hb1 fun w2 hb1 e2 hz2=>?_
 refine q ?_
 replace he:=he.t (e1.t e2)
 exact cw rfl hb1 bR rfl ⟨_,rfl,FN (m:=0) (ft hNL),he⟩):A:=h
theorem vG{A:Prop}(h:A:=by
 refine q ?_
 refine Hq (az (cs:=[_,_,_,_,_,_]) Fo.h rfl rfl)<|Ho rfl rfl hb1 fun w2 hb1 e2 hz2=>?_
 refine q ?_
 replace he:=he.t (e1.t e2)
 exact cw rfl hb1 bR rfl ⟨_,rfl,FN (m:=0) (l8 hNL),he⟩):A:=h
theorem uv{args:Array Operand}{ts:Array TypeId}(ho:ov ρ o=some (.func (.func 139) #[] #[]))(ha:lS ρ args.toList=some [.float .f64 n]):aA TP (.call ⟨.value o,args,ts⟩) ty ρ w (fun u w'=>u= .int .u64 (n:Int)∧ay w w'):=by
 intro N D a dst pos af g hh next Q hn
 refine DQ (e:=Extern.MathFloatBits.float64bits) Tryz.func139 ho (by kernel_rfl) rfl (by kernel_rfl) (by kernel_rfl) ha (v:= .int .u64 (n:Int)) (fun w=>rfl) N D a dst pos af g hh next Q fun u w' h=>hn u w' ⟨h.1,h.2▸ay.refl _⟩
theorem zz{ns:List Nat}{k:Int}(hle:ns.length≤65536)(hA:At w g o (ns.map fun n=> .float .f64 n))(hg:g<w.heap.size)
  :
  ah TP 162 [.int .i64 k,.slice (some ⟨g,o,none⟩) ns.length c,.func (.func 139) #[] #[]] w fun u w'=>∃cells,u= .agg cells.toArray∧aC (fun b=>w.heap.size≤b) w' (.mk 23 0 [] (ns.map fun n=>pv k n []) k []) cells∧ay w w':=by
 refine co Tryz.func162 ?_
 have he:=Hi w
 refine q ?_
 have:=he.s
 refine Ha fun w1 hb1 e1=>?_
 refine q ?_
 refine Hq (az (cs:=[_,_,_,_,_,_]) Fo.h rfl rfl) ?_
 replace he:=he.t e1
 have:=he.s
 have:=hb1.lt
 refine Ha fun w2 hb2 e2=>?_
 refine Ho rfl rfl hb2 fun w3 hb2 e3 hz3=>?_
 refine q ?_
 have:=hb2.lt
 replace hA:=(hA.m e1).m (e2.t e3)
 replace hb1:=hb1.m (e2.t e3)
 replace he:=he.t (e2.t e3)
 refine WC.loop2 (ι:=Nat) [(0,_),(2,_),(6,_),(7,_),(12,_),(13,_)] (fun i=>[(14,.int .i64 (i:Int))]) (fun i wi=>(∃sv,aH wi w1.heap.size [.int .i64 23,.int .u64 0,.string ⟨#[]⟩,sv,.int .i64 k,.slice none 0 0]∧aT w3.heap.size 87 6 wi sv i ((ns.take i).flatMap fun n=>vc k n []))∧i≤ns.length∧am (fun b=>b<w3.heap.size∧b≠w1.heap.size) w3 wi) (fun i=>ns.length-i) 0 sb sb (⟨⟨_,hb2,aT.nil _ _ _ _⟩,Nat.zero_le _,am.refl _⟩) ?_
 intro i wi1 hh;obtain⟨⟨sv,hb2,hO⟩,hil,hE⟩:=hh
 have:=hE.s
 rcases Nat.lt_or_ge i ns.length with hi|hi
 ·have hie:i<(ns.map fun n=>Value.float .f64 n).length:=by simpa using hi
  replace hA:=hA.m hE
  replace he:=he.t hE
  refine q ?_
  refine Hq (ao Fb.h rfl Xr (hA.get (v:= .float .f64 ns[i]) (by simp[hi])))<|q ?_
  replace hb1:=hb1.m hE
  refine WC.regionDL 10 (tt [0,1,2,3,4]++ff [5]++tt [6]++ff [7,8]++tt [9]++ff [10]) (am (fun b=>b<w3.heap.size) _) mixed (by kernel_rfl) Vd<|q ?_
  refine WD.l rfl rfl (uv rfl rfl) ?_
  rintro v4 w4 ⟨rfl,e4⟩
  refine⟨(Vd.t e4),?_⟩
  refine He (fun _ hS=>az (cs:=[_,_,_,_,_,_]) Fo.h rfl rfl) ?_
  replace he:=(he.t Xd).t e4
  have:=he.s
  replace hb1:=(hb1.m Xd).m e4
  have:=hb1.lt
  replace hb2:=(hb2.m Xd).m e4
  have:=hb2.lt
  refine WD.l rfl rfl (ll [_]) ?_
  rintro _ w5 ⟨rfl,hb5,e5⟩
  refine⟨((Vd.t e4).t e5),?_⟩
  refine WD.l rfl rfl (bz Fo.h rfl rfl (((hO.m Xd).m e4).m e5) (Src.at Fb.h hb5.at rfl rfl) (by have:=(ay.drew wi1).size;have:=e4.s;have:=e5.s;omega) (by simp only[maxLen];omega) (by omega)) ?_
  rintro v6 w6 ⟨hO,e6⟩
  obtain⟨q6,c6,rfl,_,_⟩:=hO.form
  refine⟨(((Vd.t e4).t e5).t e6),?_⟩
  refine q ?_
  replace hb2:=(hb2.m e5).m e6
  refine WD.l0L rfl rfl (lst rfl rfl hb2) ?_
  rintro _ w7 ⟨hb2,e7,hz7⟩
  refine q ?_
  replace hO:=hO.m e7
  replace he:=((he.t e5).t e6).t e7
  have hO2:=(show aT _ _ _ _ _ (i+1) (_++vc k ns[i] [])from hO)
  rw[← show(ns.take (i+1)).flatMap (fun n=>vc k n [])=(ns.take i).flatMap (fun n=>vc k n [])++vc k ns[i] []from ly _ ns hi]at hO2
  exact⟨i+1,sb,sb,⟨⟨_,hb2,hO2⟩,by omega,((((((hE.t Xd).t e4).t e5).t e6).t e7))⟩,by omega⟩
 ·have hin:i=ns.length:=by omega
  subst hin
  obtain⟨q0,c0,rfl,_,_⟩:=hO.form
  refine q ?_
  replace hb1:=hb1.m hE
  refine Ho rfl rfl hb1 fun w4 hb1 e4 hz4=>?_
  refine q ?_
  replace hO:=hO.m e4
  replace he:=(he.t hE).t e4
  rw[List.take_length]at hO
  exact cO rfl hb1 bR ⟨_,rfl,by rw[aC];exact⟨_,_,rfl,cM.own hO (by simp) (ag.flat _ _ (fun n=>aC.plain _ _ _) ns) (fun b h _=>by show _≤b;omega),cM.nil⟩,he.k fun k hk _=>hk⟩
def UT(w:World):Prop:=Lib.Utf8Tabs 2 3 w
theorem UT.lt(h:UT w):3<w.heap.size:=bD (h.2 0 (by omega)).1
theorem UT.m(h:UT w)(e:am A w w')(hA:A 2∧A 3:=by first|exact⟨trivial,trivial⟩|((try dsimp only[Nb]);omega)):UT w':=
 ⟨fun c hc=>e.cell (h.1 c hc) hA.1,fun i hi=>⟨e.cell (h.2 i hi).1 hA.2,e.cell (h.2 i hi).2 hA.2⟩⟩
theorem UT.ext(h:UT w)(e:am (fun b=>b<w.heap.size) w w'):UT w':=h.m e (by have:=h.lt;exact⟨by omega,this⟩)
def fO(x:V):Prop:=∀(A:Nat→Prop) (u:Value) (w:World),UT w→bJ A w x u→
 ah TP 85 [u] w fun r w'=>∃cells y,r= .tuple #[.agg cells.toArray,.bool true]∧aC (fun b=>w.heap.size≤b) w' y cells∧iV x y∧ay w w'
theorem yS{n:Nat}(h:n≤1):((if(n !=0)=true then 1 else 0:Nat):Int)=n:=by
 have:n=0∨n=1:=by omega
 rcases this with rfl|rfl<;>rfl
theorem FN{k:Int}{n m:Nat}{z:Int}(hz:z=(n:Int)):[Value.int .i64 k,.int .u64 z,str t,.slice none 0 0,.int .i64 0,.slice none 0 0]=vc k n t:=by rw[hz];rfl
theorem l8{n:Nat}(h:n<18446744073709551616):IntKind.u64.wrap (n:Int)=n:=dZ (by omega) (by omega)
theorem mG{k:Int}{n:Nat}{t:List UInt8}{ks:List V}{o:Int}{d:List V}{u:Value}{w:World}(hp:bI (.mk k n t ks o d))(h:scal k n t=some u):
  ah TP 85 [u] w fun r w'=>∃cells,r= .tuple #[.agg cells.toArray,.bool true]∧cells=vc (mP k) n t∧ay w w':=by
 obtain⟨hN,htl,ht17,hdn,hq1,hq2⟩:=hp
 simp only[V.kind,V.num,V.text,V.desc]at hN htl ht17 hdn hq1 hq2
 obtain⟨hN1,hN2,hN3,hN4,hN6,hN7,hN8,hN10,hNL⟩:=hN
 have hk:k=0∨k=1∨k=2∨k=3∨k=4∨k=5∨k=6∨k=7∨k=8∨k=9∨k=10∨k=11∨k=16∨k=17∨k=19∨k=20:=by
  unfold scal at h
  split at h
  ·omega
  ·split at h
   ·omega
   ·split at h
    ·omega
    ·split at h
     ·omega
     ·split at h
      ·omega
      ·cases h
 rcases hk with rfl|rfl|rfl|rfl|rfl|rfl|rfl|rfl|rfl|rfl|rfl|rfl|rfl|rfl|rfl|rfl
 ·have hu:u= .nilIface:=by rw[show scal _ _ _=some _ from rfl]at h;exact(Option.some.inj h).symm
  subst hu
  have htz:t=[]:=hq1 (by decide)
  have hnz:n=0:=hq2 (by decide)
  subst htz hnz
  refine co Tryz.func85 ?_
  have he:=XI w
  refine q ?_
  have hs1:=he.s
  refine Ha fun w1 hb1 e1=>?_
  refine q ?_
  exact oh
 ·have hu:u= .iface 4 (.bool (n !=0)):=by rw[show scal _ _ _=some _ from rfl]at h;exact(Option.some.inj h).symm
  subst hu
  have htz:t=[]:=hq1 (by decide)
  subst htz
  refine co Tryz.func85 ?_
  have he:=XI w
  refine q ?_
  have hs1:=he.s
  refine Ha fun w1 hb1 e1=>?_
  refine q ?_
  refine Hl rfl (vS) fun w2 e2=>?_
  refine Hq (az (cs:=[_,_,_,_,_,_]) Fo.h rfl rfl) ?_
  replace hb1:=hb1.m e2
  refine Ho rfl rfl hb1 fun w3 hb1 e3 hz3=>?_
  refine q ?_
  replace he:=((he.t e1).t e2).t e3
  exact cw rfl hb1 bR rfl ⟨_,rfl,FN (m:=0) (yS (hN1 rfl)),he⟩
 ·have hu:u= .iface 5 (.int .u8 n):=by rw[show scal _ _ _=some _ from rfl]at h;exact(Option.some.inj h).symm
  subst hu
  have htz:t=[]:=hq1 (by decide)
  subst htz
  refine co Tryz.func85 ?_
  have he:=XI w
  refine q ?_
  have hs1:=he.s
  refine Ha fun w1 hb1 e1=>?_
  exact vG
 ·have hu:u= .iface 228 (.int .u16 n):=by rw[show scal _ _ _=some _ from rfl]at h;exact(Option.some.inj h).symm
  subst hu
  have htz:t=[]:=hq1 (by decide)
  subst htz
  refine co Tryz.func85 ?_
  have he:=XI w
  refine q ?_
  have hs1:=he.s
  refine Ha fun w1 hb1 e1=>?_
  exact vG
 ·have hu:u= .iface 22 (.int .u32 n):=by rw[show scal _ _ _=some _ from rfl]at h;exact(Option.some.inj h).symm
  subst hu
  have htz:t=[]:=hq1 (by decide)
  subst htz
  refine co Tryz.func85 ?_
  have he:=XI w
  refine q ?_
  have hs1:=he.s
  refine Ha fun w1 hb1 e1=>?_
  refine Hq (ap rfl)<|WL.nil<|gq 8 rfl<|Hq (aF Fb.h rfl)<|WL.nil<|gq 24 rfl ?_
  exact vG
 ·have hu:u= .iface 27 (.int .u64 n):=by rw[show scal _ _ _=some _ from rfl]at h;exact(Option.some.inj h).symm
  subst hu
  have htz:t=[]:=hq1 (by decide)
  subst htz
  refine co Tryz.func85 ?_
  have he:=XI w
  refine q ?_
  have hs1:=he.s
  refine Ha fun w1 hb1 e1=>?_
  refine Hq (ap rfl)<|WL.nil<|gq 8 rfl<|Hq (aF Fb.h rfl)<|WL.nil<|gq 31 rfl<|q ?_
  exact oh
 ·have hu:u= .iface 213 (.int .i8 (IntKind.i64.wrap n)):=by rw[show scal _ _ _=some _ from rfl]at h;exact(Option.some.inj h).symm
  subst hu
  have htz:t=[]:=hq1 (by decide)
  subst htz
  refine co Tryz.func85 ?_
  have he:=XI w
  refine q ?_
  have hs1:=he.s
  refine Ha fun w1 hb1 e1=>?_
  refine Hq (ap rfl)<|WL.nil<|gq 8 rfl<|Hq (aF Fb.h rfl)<|WL.nil<|gq 38 rfl ?_
  exact rN
 ·have hu:u= .iface 217 (.int .i16 (IntKind.i64.wrap n)):=by rw[show scal _ _ _=some _ from rfl]at h;exact(Option.some.inj h).symm
  subst hu
  have htz:t=[]:=hq1 (by decide)
  subst htz
  refine co Tryz.func85 ?_
  have he:=XI w
  refine q ?_
  have hs1:=he.s
  refine Ha fun w1 hb1 e1=>?_
  refine Hq (ap rfl)<|WL.nil<|gq 8 rfl<|Hq (aF Fb.h rfl)<|WL.nil<|gq 45 rfl ?_
  exact rN
 ·have hu:u= .iface 21 (.int .i32 (IntKind.i64.wrap n)):=by rw[show scal _ _ _=some _ from rfl]at h;exact(Option.some.inj h).symm
  subst hu
  have htz:t=[]:=hq1 (by decide)
  subst htz
  refine co Tryz.func85 ?_
  have he:=XI w
  refine q ?_
  have hs1:=he.s
  refine Ha fun w1 hb1 e1=>?_
  refine Hq (ap rfl)<|WL.nil<|gq 8 rfl<|Hq (aF Fb.h rfl)<|WL.nil<|gq 52 rfl ?_
  exact rN
 ·have hu:u= .iface 2 (.int .i64 (IntKind.i64.wrap n)):=by rw[show scal _ _ _=some _ from rfl]at h;exact(Option.some.inj h).symm
  subst hu
  have htz:t=[]:=hq1 (by decide)
  subst htz
  refine co Tryz.func85 ?_
  have he:=XI w
  refine q ?_
  have hs1:=he.s
  refine Ha fun w1 hb1 e1=>?_
  refine Hq (ap rfl)<|WL.nil<|gq 8 rfl<|Hq (aF Fb.h rfl)<|WL.nil<|gq 59 rfl ?_
  exact rN
 ·have hu:u= .iface 235 (.float .f32 n):=by rw[show scal _ _ _=some _ from rfl]at h;exact(Option.some.inj h).symm
  subst hu
  have htz:t=[]:=hq1 (by decide)
  subst htz
  refine co Tryz.func85 ?_
  have he:=XI w
  refine q ?_
  have hs1:=he.s
  refine Ha fun w1 hb1 e1=>?_
  refine Hq (ap rfl)<|WL.nil<|gq 8 rfl<|Hq (aF Fb.h rfl)<|WL.nil<|gq 66 rfl<|q ?_
  refine WL.l rfl (pq rfl) ?_
  rintro v2 w2 ⟨rfl,e2⟩
  refine q ?_
  refine Hq (az (cs:=[_,_,_,_,_,_]) Fo.h rfl rfl) ?_
  replace hb1:=hb1.m e2
  refine Ho rfl rfl hb1 fun w3 hb1 e3 hz3=>?_
  refine q ?_
  replace he:=((he.t e1).t e2).t e3
  exact cw rfl hb1 bR rfl ⟨_,rfl,FN (m:=0) (l8 hNL),he⟩
 ·have hu:u= .iface 239 (.float .f64 n):=by rw[show scal _ _ _=some _ from rfl]at h;exact(Option.some.inj h).symm
  subst hu
  have htz:t=[]:=hq1 (by decide)
  subst htz
  refine co Tryz.func85 ?_
  have he:=XI w
  refine q ?_
  have hs1:=he.s
  refine Ha fun w1 hb1 e1=>?_
  refine Hq (ap rfl)<|WL.nil<|gq 8 rfl<|Hq (aF Fb.h rfl)<|WL.nil<|gq 73 rfl<|q ?_
  refine WL.l rfl (xD rfl) ?_
  rintro v2 w2 ⟨rfl,e2⟩
  refine Hq (az (cs:=[_,_,_,_,_,_]) Fo.h rfl rfl) ?_
  replace hb1:=hb1.m e2
  refine Ho rfl rfl hb1 fun w3 hb1 e3 hz3=>?_
  refine q ?_
  replace he:=((he.t e1).t e2).t e3
  exact cw rfl hb1 bR rfl ⟨_,rfl,rfl,he⟩
 ·have hu:u= .iface 251 (.agg (tm (IntKind.i64.wrap n)).toArray):=by rw[show scal _ _ _=some _ from rfl]at h;exact(Option.some.inj h).symm
  subst hu
  have htz:t=[]:=hq1 (by decide)
  subst htz
  refine co Tryz.func85 ?_
  have he:=XI w
  refine q ?_
  have hs1:=he.s
  refine Ha fun w1 hb1 e1=>?_
  refine Hq (ap rfl)<|WL.nil<|gq 8 rfl<|Hq (aF Fb.h rfl)<|WL.nil<|gq 80 rfl<|q ?_
  replace he:=he.t e1
  have hs2:=he.s
  have hx2b1:=hb1.lt
  refine Ha fun w2 hb2 e2=>?_
  refine Ho rfl rfl hb2 fun w3 hb2 e3 hz3=>?_
  refine q ?_
  refine Hl rfl (ig (eJ _).1 (eJ _).2) fun w4 e4=>?_
  refine q ?_
  refine Hq (az (cs:=[_,_,_,_,_,_]) Fo.h rfl rfl) ?_
  replace hb1:=(hb1.m (e2.t e3)).m e4
  refine Ho rfl rfl hb1 fun w5 hb1 e5 hz5=>?_
  refine q ?_
  replace he:=((he.t (e2.t e3)).t e4).t e5
  exact cw rfl hb1 bR rfl ⟨_,rfl,FN (m:=0) (ft hNL),he⟩
 ·have hu:u= .iface 319 (.agg (bc t).toArray):=by rw[show scal _ _ _=some _ from rfl]at h;exact(Option.some.inj h).symm
  subst hu
  have hnz:n=0:=hq2 (by decide)
  subst hnz
  refine co Tryz.func85 ?_
  have he:=XI w
  refine q ?_
  have hs1:=he.s
  refine Ha fun w1 hb1 e1=>?_
  refine Hq (ap rfl)<|WL.nil<|gq 8 rfl<|Hq (aF Fb.h rfl)<|WL.nil<|gq 87 rfl<|q ?_
  replace he:=he.t e1
  have hs2:=he.s
  have hx2b1:=hb1.lt
  refine Ha fun w2 hb2 e2=>?_
  refine Ho rfl rfl hb2 fun w3 hb2 e3 hz3=>?_
  refine q ?_
  refine Hq (ga Fo.h rfl)<|Hq (gp Fb.h rfl Xr (bT.blk hb2 (ht17 rfl)))<|Hq (az (cs:=[_,_,_,_,_,_]) Fo.h rfl rfl) ?_
  replace hb1:=hb1.m (e2.t e3)
  refine Ho rfl rfl hb1 fun w4 hb1 e4 hz4=>?_
  refine q ?_
  replace he:=(he.t (e2.t e3)).t e4
  exact cw rfl hb1 bR rfl ⟨_,rfl,rfl,he⟩
 ·have hu:u= .iface 9 (str t):=by rw[show scal _ _ _=some _ from rfl]at h;exact(Option.some.inj h).symm
  subst hu
  have hnz:n=0:=hq2 (by decide)
  subst hnz
  refine co Tryz.func85 ?_
  have he:=XI w
  refine q ?_
  have hs1:=he.s
  refine Ha fun w1 hb1 e1=>?_
  refine Hq (ap rfl)<|WL.nil<|gq 8 rfl<|Hq (aF Fb.h rfl)<|WL.nil<|gq 101 rfl<|q ?_
  exact oh
 ·have hu:u= .iface 9 (str t):=by rw[show scal _ _ _=some _ from rfl]at h;exact(Option.some.inj h).symm
  subst hu
  have hnz:n=0:=hq2 (by decide)
  subst hnz
  refine co Tryz.func85 ?_
  have he:=XI w
  refine q ?_
  have hs1:=he.s
  refine Ha fun w1 hb1 e1=>?_
  refine Hq (ap rfl)<|WL.nil<|gq 8 rfl<|Hq (aF Fb.h rfl)<|WL.nil<|gq 101 rfl<|q ?_
  exact oh
theorem vu(h:bT A w v t):
  ah TP 85 [.iface 28 v] w fun r w'=>∃cells,r= .tuple #[.agg cells.toArray,.bool true]∧cells=vc 18 0 t∧ay w w':=by
 refine co Tryz.func85 ?_
 have he:=XI w
 refine q ?_
 have:=he.s
 refine Ha fun w1 hb1 e1=>?_
 refine Hq (ap rfl)<|WL.nil<|gq 8 rfl<|Hq (aF Fb.h rfl)<|WL.nil<|gq 94 rfl<|q ?_
 replace h:=h.m e1
 refine Hq (gp Fb.h rfl Xr h) ?_
 exact oh
end Go.Proofs.LL
