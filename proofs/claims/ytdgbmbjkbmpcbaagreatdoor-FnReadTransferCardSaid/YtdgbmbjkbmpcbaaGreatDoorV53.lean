/- Contracts of functions and own laws. Conditions: those that each theorem states. -/
import Derived.Test.YtdgbmbjkbmpcbaaGreatDoorV51
set_option linter.all false
set_option autoImplicit true
set_option relaxedAutoImplicit true
set_option maxRecDepth 20000
namespace Go.Proofs.LL
open Go Go.Proofs Go.RowKit
set_option maxHeartbeats 4000000
attribute [local irreducible] ar WL WC cq WT WX
end Go.Proofs.LL
namespace Go.Proofs.LL
open Go Go.Proofs Go.RowKit
set_option maxHeartbeats 4000000
attribute [local irreducible] ar WL WC cq WT WX
theorem aN.num{k:Int}(hk:k≠0∧k≠21∧k≠22∧k≠23):aN v (pv k m []) (pv k n []) (pv k n []):=
 aN.pv0 (dh hk.1) (dh hk.1) hk.2.1 hk.2.2.1 hk.2.2.2
theorem yU{k:Int}(hk:17≤k∧k≤20):iH (tV k s):=by
 refine⟨CA hk,?_,?_⟩
 ·unfold tV
  split
  ·exact fun _=>rfl
  ·intro h
   have:k=0:=h
   omega
 ·unfold tV
  split
  ·exact fun h=>absurd h (by show¬((0:Int)=23);decide)
  ·intro h
   have:k=23:=h
   omega
theorem fL{k:Int}(hk:k=1∨k=4)(h1:k=1→n≤1)(h4:k=4→n<4294967296):iH (pv k n []):=by
 refine⟨lA (by omega) h1 h4 (by omega) (by omega),fun h=>?_,fun h=>?_⟩
 ·have:k=0:=h
  omega
 ·have:k=23:=h
  omega
theorem wG:∀ {fs:List (V×V)} {ys:List V},ys.length≤fs.length→(∀j (h:j<fs.length),fw fs[j].1 fs[j].2 (bA ys j))→bF ys≤bF (fs.map (·.1))
 |_,[],_,_=>by rw[bF];omega
 |[],y::s,hl,_=>absurd hl (by simp)
 |f::r,y::s,hl,h=>by
  have h0:vol y≤vol f.1:=(h 0 (by simp)).vol
  have h1:=wG (fs:=r) (ys:=s) (by simpa using hl) fun j hj=>h (j+1) (by simpa using hj)
  rw[List.map_cons,bF,bF];omega
section
variable {addr exp:List UInt8} {dur tmo:Nat} {dyn:Bool} {node:List V} {caps:List (List UInt8)}
def FW(A:Nat→Prop)(w:World)(addr:List UInt8)(dur:Nat)(exp:List UInt8)(tmo:Nat)(dyn:Bool)(node:List V)(caps:List (List UInt8))(cells:List Value):Prop:=
 ∃p c pc cc,cells=[str addr,.int .u32 (dur:Int),str exp,.int .u32 (tmo:Int),.bool dyn,.slice p node.length c,.slice pc caps.length cc]∧cM A w node.length (.slice p node.length c) (ag A w node)∧vN A w caps (.slice pc caps.length cc)
theorem Eu.open(h:Eu N0 w addr dur exp tmo dyn.toNat node caps cells):∃ys,FW (fun b=>N0≤b) w addr dur exp tmo dyn ys caps cells∧gk 20 node ys:=by
 obtain⟨sv,ys,cv,rfl,h1,h2,h3⟩:=h
 have h4:=h1
 obtain⟨p,c,_,rfl,_⟩:=h4
 obtain⟨pc,cc,rfl,_⟩:=h3.form
 refine⟨ys,⟨p,c,pc,cc,?_,h1,vN.own h3 fun _ h=>h⟩,h2⟩
 cases dyn<;>rfl
end
end Go.Proofs.LL
namespace Go.Proofs.LL
open Go Go.Proofs Go.RowKit
set_option maxHeartbeats 4000000
attribute [local irreducible] ar WL WC cq WT WX
structure dT (k:IntKind) (A:Nat→Prop) (w:World) (l:List Nat) (v:Value):Prop where
 ex:∃p c,v= .slice p l.length c∧l.length≤c∧(l.length=1→∃n b o,l=[n]∧p=some ⟨b,o,none⟩∧A b∧b<w.heap.size∧At w b o [.int k (n:Int)])
theorem dT.m(h:dT k A w l v)(e:am B w w')(hAB:∀b,b<w.heap.size→A b→B b:=by(intro b hb1 hb2;first|exact trivial|exact hb2|exact hb2.2|((try dsimp only[Nb]at hb2⊢);omega))):dT k A w' l v:=by
 obtain⟨p,c,h1,h2,h3⟩:=h
 exact⟨p,c,h1,h2,fun h=>by
  obtain⟨n,b,o,e1,e2,e3,e4,e5⟩:=h3 h
  exact⟨n,b,o,e1,e2,e3,Nat.lt_of_lt_of_le e4 e.size,e5.growP e hAB e3⟩⟩
theorem dT.lowW{B:Nat→Prop}(h:dT k A w l v)(hAB:∀b,b<w.heap.size→A b→B b):dT k B w l v:=by
 obtain⟨p,c,h1,h2,h3⟩:=h
 exact⟨p,c,h1,h2,fun h=>by
  obtain⟨n,b,o,e1,e2,e3,e4,e5⟩:=h3 h
  exact⟨n,b,o,e1,e2,hAB b e4 e3,e4,e5⟩⟩
theorem dT.nil:dT k A w [] (.slice none 0 0):=⟨none,0,rfl,Nat.le_refl _,fun h=>by cases h⟩
theorem dT.at1{A:Nat→Prop}{n:Nat}(h:aH w b [.int k (n:Int)])(hA:A b):dT k A w [n] (.slice (some ⟨b,0,none⟩) 1 1):=⟨_,1,rfl,Nat.le_refl _,fun _=>⟨n,b,0,rfl,rfl,hA,h.lt,h.at⟩⟩
def nv(kd:Int):List Nat→V
 |[]=>aX
 |n::_=>pv kd n []
theorem iw{kd:Int}(hF:dT .u32 A w l v)(hl:l.length≤1)(hn:∀n∈l,n<4294967296):
  ah TP 45 [.int .i64 kd,v] w fun r w'=>∃cs,r= .agg cs.toArray∧(∀A,ag A w' [nv kd l,aX] cs)∧ay w w':=by
 obtain⟨p,c,rfl,qc,h1⟩:=hF.ex
 match l,hl,hn,h1 with
 |[],_,_,_=>
  refine co Tryz.func45 ?_
  have he:=XI w
  refine uA 2 rfl ?_
  have hs1:=he.s
  refine Ha fun w1 hb1 e1=>?_
  refine uD 6 rfl<|Hq (ae (ak rfl rfl) (br (by(rfl))))<|uD 4 rfl<|Hq (az (cs:=[_,_,_,_,_,_,_,_,_,_,_,_]) Fo.h rfl rfl)<|Ho rfl rfl hb1 fun w2 hb1 e2 hz2=>?_
  refine WL.nil<|WC.ret ?_
  replace he:=he.t (e1.t e2)
  exact cO rfl hb1 eE ⟨_,rfl,fun A=>dK 0 0 0 0 [] [],he⟩
 |[n],_,hn,h1=>
  have hn0:=hn n (by simp)
  obtain⟨n',b,o,en,rfl,qA,_,hA⟩:=h1 rfl
  obtain rfl:n=n':=by simpa using en
  refine co Tryz.func45 ?_
  have he:=XI w
  refine uA 2 rfl ?_
  have hs1:=he.s
  refine Ha fun w1 hb1 e1=>?_
  refine uD 6 rfl<|Hq (ae (ak rfl rfl) (bk (by(simp))))<|uD 3 rfl<|uA 4 rfl<|Hq (dX Fo.h rfl rfl rfl) ?_
  replace hA:=hA.m e1
  refine Hq (ao Fb.h rfl Xr (hA.get (j:=0) rfl))<|Hq (bp Fo.h rfl (dZ (by omega) (by omega)))<|Hl rfl (cV) fun w2 e2=>?_
  refine Hq (az (cs:=[_,_,_,_,_,_,_,_,_,_,_,_]) Fo.h rfl rfl) ?_
  replace hb1:=hb1.m e2
  refine Ho rfl rfl hb1 fun w3 hb1 e3 hz3=>?_
  refine WL.nil<|WC.ret ?_
  replace he:=((he.t e1).t e2).t e3
  exact cO rfl hb1 eE ⟨_,rfl,fun A=>dK kd 0 n 0 [] [],he⟩
theorem pA{kd:Int}(hF:dT .u8 A w l v)(hl:l.length≤1)(hn:∀n∈l,n<256):
  ah TP 47 [.int .i64 kd,v] w fun r w'=>∃cs,r= .agg cs.toArray∧(∀A,ag A w' [nv kd l,aX] cs)∧ay w w':=by
 obtain⟨p,c,rfl,qc,h1⟩:=hF.ex
 match l,hl,hn,h1 with
 |[],_,_,_=>
  refine co Tryz.func47 ?_
  have he:=XI w
  refine uA 2 rfl ?_
  have hs1:=he.s
  refine Ha fun w1 hb1 e1=>?_
  refine uD 6 rfl<|Hq (ae (ak rfl rfl) (br (by(rfl))))<|uD 4 rfl<|Hq (az (cs:=[_,_,_,_,_,_,_,_,_,_,_,_]) Fo.h rfl rfl)<|Ho rfl rfl hb1 fun w2 hb1 e2 hz2=>?_
  refine WL.nil<|WC.ret ?_
  replace he:=he.t (e1.t e2)
  exact cO rfl hb1 eE ⟨_,rfl,fun A=>dK 0 0 0 0 [] [],he⟩
 |[n],_,hn,h1=>
  have hn0:=hn n (by simp)
  obtain⟨n',b,o,en,rfl,qA,_,hA⟩:=h1 rfl
  obtain rfl:n=n':=by simpa using en
  refine co Tryz.func47 ?_
  have he:=XI w
  refine uA 2 rfl ?_
  have hs1:=he.s
  refine Ha fun w1 hb1 e1=>?_
  refine uD 6 rfl<|Hq (ae (ak rfl rfl) (bk (by(simp))))<|uD 3 rfl<|uA 4 rfl<|Hq (dX Fo.h rfl rfl rfl) ?_
  replace hA:=hA.m e1
  refine Hq (ao Fb.h rfl Xr (hA.get (j:=0) rfl))<|Hq (bp Fo.h rfl (dZ (by omega) (by omega)))<|Hl rfl (cV) fun w2 e2=>?_
  refine Hq (az (cs:=[_,_,_,_,_,_,_,_,_,_,_,_]) Fo.h rfl rfl) ?_
  replace hb1:=hb1.m e2
  refine Ho rfl rfl hb1 fun w3 hb1 e3 hz3=>?_
  refine WL.nil<|WC.ret ?_
  replace he:=((he.t e1).t e2).t e3
  exact cO rfl hb1 eE ⟨_,rfl,fun A=>dK kd 0 n 0 [] [],he⟩
structure gF where
 code:Nat
 num:Nat
 off:Nat
 flt:List mH
 fail:Bool
 els:Bool
 ann:List V
def lZ(s:gF):List (V×V):=
 if s.code=35 then[(pv 4 s.num [],aX),(pv 5 s.off [],aX)]
 else if s.code=37 then[(dg s.flt,aX)]
 else if s.code=39 then[(pv 1 s.fail.toNat [],pv 1 0 []),(pv 1 s.els.toNat [],pv 1 0 []),(mV s.ann,aX)]
 else[]
structure rW (A:Nat→Prop) (w:World) (l:List mH) (v:Value):Prop where
 ex:∃p c,v= .slice p l.length c∧(l.length≤1→kE A w l v)
theorem rW.m(h:rW A w l v)(e:am B w w')(hAB:∀b,b<w.heap.size→A b→B b:=by(intro b hb1 hb2;first|exact trivial|exact hb2|exact hb2.2|((try dsimp only[Nb]at hb2⊢);omega))):rW A w' l v:=by
 obtain⟨p,c,h1,h2⟩:=h
 exact⟨p,c,h1,fun h=>(h2 h).m e hAB⟩
theorem rW.lowW{B:Nat→Prop}(h:rW A w l v)(hAB:∀b,b<w.heap.size→A b→B b):rW B w l v:=by
 obtain⟨p,c,h1,h2⟩:=h
 exact⟨p,c,h1,fun h=>(h2 h).lowW hAB⟩
structure j9 (A:Nat→Prop) (w:World) (s:gF) (cs:List Value):Prop where
 ex:∃fv pa ca,cs=[.int .i64 (s.code:Int),.int .u32 (s.num:Int),.int .u64 (s.off:Int),fv,.bool s.fail,.bool s.els,.slice pa s.ann.length ca]∧rW A w s.flt fv∧cM A w s.ann.length (.slice pa s.ann.length ca) (ag A w s.ann)
theorem j9.m(h:j9 A w s cs)(e:am B w w')(hAB:∀b,b<w.heap.size→A b→B b:=by(intro b hb1 hb2;first|exact trivial|exact hb2|exact hb2.2|((try dsimp only[Nb]at hb2⊢);omega))):j9 A w' s cs:=by
 obtain⟨fv,pa,ca,h1,h2,h3⟩:=h
 exact⟨fv,pa,ca,h1,h2.m e hAB,h3.m e hAB⟩
theorem j9.lowW{B:Nat→Prop}(h:j9 A w s cs)(hAB:∀b,b<w.heap.size→A b→B b):j9 B w s cs:=by
 obtain⟨fv,pa,ca,h1,h2,h3⟩:=h
 exact⟨fv,pa,ca,h1,h2.lowW hAB,h3.weakW hAB⟩
theorem fi(hS:j9 A w s cs)(hc:35≤s.code∧s.code≤39)(hn:s.num<4294967296)(ho:s.off<18446744073709551616)(hf:s.flt.length≤1):
  ah TP 76 [.agg cs.toArray] w fun r w'=>∃a b,r= .agg #[a,b]∧cW (fun b=>A b∧b<w.heap.size∨w.heap.size≤b) w' s.code (lZ s) [a,b]∧ay w w':=by
 replace hS:=hS.lowW (B:=fun b=>A b∧b<w.heap.size) fun b hb h=>⟨h,hb⟩
 obtain⟨code,num,off,flt,fail,els,ann⟩:=s
 obtain⟨fv,pa,ca,rfl,hF,hK⟩:=hS
 replace hF:=(hF.ex.choose_spec.choose_spec).2 hf
 dsimp only at hc hn ho hf hF hK⊢
 rcases(show code=35∨code=36∨code=37∨code=38∨code=39 by omega)with rfl|rfl|rfl|rfl|rfl
 ·refine co Tryz.func76 ?_
  have he:=Hi w
  refine uA 2 rfl ?_
  have hs1:=he.s
  refine Hb rfl fun w1 hb1 e1=>?_
  have nx1:=hb1.lt
  have ns1:=e1.s
  replace he:=he.t e1
  have hs2:=he.s
  have hx2b1:=hb1.lt
  refine Ha fun w2 hb2 e2=>?_
  have nx2:=hb2.lt
  have ns2:=e2.s
  refine uD 4 rfl ?_
  replace hb1:=hb1.m e2
  refine ld rfl hb1 rfl<|Hq (bp Fo.h rfl (dZ (by omega) (by omega)))<|Hq (az (cs:=[_,_]) Fo.h rfl rfl) ?_
  replace he:=he.t e2
  have hs3:=he.s
  have hx3b1:=hb1.lt
  have hx3b2:=hb2.lt
  refine Ha fun w3 hb3 e3=>?_
  have nx3:=hb3.lt
  have ns3:=e3.s
  refine Ho rfl rfl hb3 fun w4 hb3 e4 hz4=>?_
  have ns4:=e4.s
  refine uD 5 rfl ?_
  replace hb1:=hb1.m (e3.t e4)
  refine ld rfl hb1 rfl<|uD 8 rfl ?_
  replace hb2:=hb2.m (e3.t e4)
  refine WC.regionD (tt [0,1,2,5,6]++ff [3]++tt [4]++ff [7]++tt [8]++ff [9]++tt [10]++ff [11]) (am (fun b=>b≠w2.heap.size) _) mixed (by kernel_rfl) Vd ?_
  have nd1w4:w4.drew.heap.size=w4.heap.size:=rfl
  refine uE 1 rfl<|dl rfl hb1 rfl<|He (fun _ hS=>bp Fo.h rfl (dZ (by omega) (by omega)))<|uE 1 rfl<|dl rfl hb1 rfl<|cd rfl (cV) ?_
  rintro v5 w5 ⟨rfl,e5⟩
  have ns5:=e5.s
  refine⟨(Vd.t e5),?_⟩
  refine He (fun _ hS=>az (cs:=[_,_,_,_,_,_,_,_,_,_,_,_]) Fo.h rfl rfl)<|cd rfl (cV) ?_
  rintro v6 w6 ⟨rfl,e6⟩
  have ns6:=e6.s
  refine⟨((Vd.t e5).t e6),?_⟩
  refine He (fun _ hS=>az (cs:=[_,_,_,_,_,_,_,_,_,_,_,_]) Fo.h rfl rfl) ?_
  replace he:=(((he.t (e3.t e4)).t Xd).t e5).t e6
  have:=he.s
  replace hb1:=((hb1.m Xd).m e5).m e6
  have:=hb1.lt
  replace hb2:=((hb2.m Xd).m e5).m e6
  have:=hb2.lt
  replace hb3:=((hb3.m Xd).m e5).m e6
  have:=hb3.lt
  refine WD.l rfl rfl (ll [_,_]) ?_
  rintro _ w7 ⟨rfl,hb7,e7⟩
  have ns7:=e7.s
  refine⟨(((Vd.t e5).t e6).t e7),?_⟩
  refine uE 1 rfl ?_
  replace hb3:=hb3.m e7
  refine WD.l0 rfl (lst rfl rfl hb3) ?_
  rintro _ w8 ⟨hb3,e8,hz8⟩
  have ns8:=e8.s
  refine⟨((((Vd.t e5).t e6).t e7).t e8),?_⟩
  refine WD.nil<|uA 2 rfl<|la rfl hb3 ?_
  replace hb2:=(hb2.m e7).m e8
  refine Ho rfl rfl hb2 fun w9 hb2 e9 hz9=>?_
  have ns9:=e9.s
  refine WL.nil<|WC.ret ?_
  have hR:ag (fun b=>A b∧b<w.heap.size∨w.heap.size≤b) w9 (lK [(pv 4 num [],aX),(pv 5 off [],aX)]) _:=ag.append (dK 4 0 num 0 [] []) (dK 5 0 off 0 [] [])
  replace hb7:=(hb7.m e8).m e9
  replace he:=((he.t e7).t e8).t e9
  exact cO rfl hb2 eT ⟨_,_,rfl,cW.lit rfl hb7 (by omega) hR,he.k fun k hk _=>hk⟩
 ·refine co Tryz.func76 ?_
  have he:=Hi w
  refine uA 2 rfl ?_
  have hs1:=he.s
  refine Hb rfl fun w1 hb1 e1=>?_
  have nx1:=hb1.lt
  have ns1:=e1.s
  replace he:=he.t e1
  have hs2:=he.s
  have hx2b1:=hb1.lt
  refine Ha fun w2 hb2 e2=>?_
  have nx2:=hb2.lt
  have ns2:=e2.s
  refine uD 4 rfl ?_
  replace hb1:=hb1.m e2
  refine ld rfl hb1 rfl<|Hq (bp Fo.h rfl (dZ (by omega) (by omega)))<|Hq (az (cs:=[_,_]) Fo.h rfl rfl) ?_
  replace he:=he.t e2
  have hs3:=he.s
  have hx3b1:=hb1.lt
  have hx3b2:=hb2.lt
  refine Ha fun w3 hb3 e3=>?_
  have nx3:=hb3.lt
  have ns3:=e3.s
  refine Ho rfl rfl hb3 fun w4 hb3 e4 hz4=>?_
  have ns4:=e4.s
  refine uD 5 rfl ?_
  replace hb1:=hb1.m (e3.t e4)
  refine ld rfl hb1 rfl<|uD 21 rfl<|uA 2 rfl<|la rfl hb3 ?_
  replace hb2:=hb2.m (e3.t e4)
  refine Ho rfl rfl hb2 fun w5 hb2 e5 hz5=>?_
  have ns5:=e5.s
  refine WL.nil<|WC.ret ?_
  replace he:=(he.t (e3.t e4)).t e5
  exact cO rfl hb2 eT ⟨_,_,rfl,⟨none,0,[],rfl,Nat.le_refl _,by show ag _ _ [] [];rw[ag],.inl rfl⟩,he.k fun k hk _=>hk⟩
 ·refine co Tryz.func76 ?_
  have he:=Hi w
  refine uA 2 rfl ?_
  have hs1:=he.s
  refine Hb rfl fun w1 hb1 e1=>?_
  have nx1:=hb1.lt
  have ns1:=e1.s
  replace he:=he.t e1
  have hs2:=he.s
  have hx2b1:=hb1.lt
  refine Ha fun w2 hb2 e2=>?_
  have nx2:=hb2.lt
  have ns2:=e2.s
  refine uD 4 rfl ?_
  replace hb1:=hb1.m e2
  refine ld rfl hb1 rfl<|Hq (bp Fo.h rfl (dZ (by omega) (by omega)))<|Hq (az (cs:=[_,_]) Fo.h rfl rfl) ?_
  replace he:=he.t e2
  have hs3:=he.s
  have hx3b1:=hb1.lt
  have hx3b2:=hb2.lt
  refine Ha fun w3 hb3 e3=>?_
  have nx3:=hb3.lt
  have ns3:=e3.s
  refine Ho rfl rfl hb3 fun w4 hb3 e4 hz4=>?_
  have ns4:=e4.s
  refine uD 5 rfl ?_
  replace hb1:=hb1.m (e3.t e4)
  refine ld rfl hb1 rfl<|uD 16 rfl<|ld rfl hb1 rfl ?_
  replace hF:=((hF.m e1).m e2).m (e3.t e4)
  refine cl rfl (uZ hF) ?_
  rintro v5 w5 ⟨cs,rfl,qT0,e5⟩
  have qT:=qT0.two
  obtain⟨x0,x1,x2,x3,x4,x5,y0,y1,y2,y3,y4,y5,rfl,hZ1,hZ2⟩:=qT
  have q1:=eH hZ1.one hZ2.one
  have ns5:=e5.s
  replace he:=(he.t (e3.t e4)).t e5
  have:=he.s
  replace hb1:=hb1.m e5
  have:=hb1.lt
  replace hb2:=(hb2.m (e3.t e4)).m e5
  have:=hb2.lt
  replace hb3:=hb3.m e5
  have:=hb3.lt
  refine WL.l rfl (ll [_]) ?_
  rintro _ w6 ⟨rfl,hb6,e6⟩
  have ns6:=e6.s
  refine uC 1 rfl ?_
  replace hb3:=hb3.m e6
  refine Hp rfl rfl hb3 fun w7 hb3 e7 hz7=>?_
  have ns7:=e7.s
  refine uD 3 rfl<|la rfl hb3 ?_
  replace hb2:=(hb2.m e6).m e7
  refine Ho rfl rfl hb2 fun w8 hb2 e8 hz8=>?_
  have ns8:=e8.s
  refine WL.nil<|WC.ret ?_
  replace hZ1:=((hZ1.m e6).m e7).m e8
  replace hZ2:=((hZ2.m e6).m e7).m e8
  have hR:ag (fun b=>A b∧b<w.heap.size∨w.heap.size≤b) w8 (lK [(dg flt,aX)]) _:=ag.mk2 (hZ1.k fun b h=>uI h (by omega)) (hZ2.k fun b h=>uI h (by omega))
  replace hb6:=(hb6.m e7).m e8
  replace he:=((he.t e6).t e7).t e8
  exact cO rfl hb2 eT ⟨_,_,rfl,cW.lit rfl hb6 (by omega) hR,he.k fun k hk _=>hk⟩
 ·refine co Tryz.func76 ?_
  have he:=Hi w
  refine uA 2 rfl ?_
  have hs1:=he.s
  refine Hb rfl fun w1 hb1 e1=>?_
  have nx1:=hb1.lt
  have ns1:=e1.s
  replace he:=he.t e1
  have hs2:=he.s
  have hx2b1:=hb1.lt
  refine Ha fun w2 hb2 e2=>?_
  have nx2:=hb2.lt
  have ns2:=e2.s
  refine uD 4 rfl ?_
  replace hb1:=hb1.m e2
  refine ld rfl hb1 rfl<|Hq (bp Fo.h rfl (dZ (by omega) (by omega)))<|Hq (az (cs:=[_,_]) Fo.h rfl rfl) ?_
  replace he:=he.t e2
  have hs3:=he.s
  have hx3b1:=hb1.lt
  have hx3b2:=hb2.lt
  refine Ha fun w3 hb3 e3=>?_
  have nx3:=hb3.lt
  have ns3:=e3.s
  refine Ho rfl rfl hb3 fun w4 hb3 e4 hz4=>?_
  have ns4:=e4.s
  refine uD 5 rfl ?_
  replace hb1:=hb1.m (e3.t e4)
  refine ld rfl hb1 rfl<|uD 21 rfl<|uA 2 rfl<|la rfl hb3 ?_
  replace hb2:=hb2.m (e3.t e4)
  refine Ho rfl rfl hb2 fun w5 hb2 e5 hz5=>?_
  have ns5:=e5.s
  refine WL.nil<|WC.ret ?_
  replace he:=(he.t (e3.t e4)).t e5
  exact cO rfl hb2 eT ⟨_,_,rfl,⟨none,0,[],rfl,Nat.le_refl _,by show ag _ _ [] [];rw[ag],.inl rfl⟩,he.k fun k hk _=>hk⟩
 ·refine co Tryz.func76 ?_
  have he:=Hi w
  refine uA 2 rfl ?_
  have hs1:=he.s
  refine Hb rfl fun w1 hb1 e1=>?_
  have nx1:=hb1.lt
  have ns1:=e1.s
  replace he:=he.t e1
  have hs2:=he.s
  have hx2b1:=hb1.lt
  refine Ha fun w2 hb2 e2=>?_
  have nx2:=hb2.lt
  have ns2:=e2.s
  refine uD 4 rfl ?_
  replace hb1:=hb1.m e2
  refine ld rfl hb1 rfl<|Hq (bp Fo.h rfl (dZ (by omega) (by omega)))<|Hq (az (cs:=[_,_]) Fo.h rfl rfl) ?_
  replace he:=he.t e2
  have hs3:=he.s
  have hx3b1:=hb1.lt
  have hx3b2:=hb2.lt
  refine Ha fun w3 hb3 e3=>?_
  have nx3:=hb3.lt
  have ns3:=e3.s
  refine Ho rfl rfl hb3 fun w4 hb3 e4 hz4=>?_
  have ns4:=e4.s
  refine uD 5 rfl ?_
  replace hb1:=hb1.m (e3.t e4)
  refine ld rfl hb1 rfl<|uD 20 rfl ?_
  replace hK:=((hK.m e1).m e2).m (e3.t e4)
  replace hb2:=hb2.m (e3.t e4)
  refine WC.regionD (tt [0,1,3,4,6,7]++ff [2,5,8,9]++tt [10]++ff [11]) (am (fun b=>b≠w2.heap.size) _) mixed (by kernel_rfl) Vd ?_
  have nd1w4:w4.drew.heap.size=w4.heap.size:=rfl
  refine uE 1 rfl<|dl rfl hb1 rfl<|uE 1 rfl<|dl rfl hb1 rfl<|uE 1 rfl<|dl rfl hb1 rfl<|cd rfl (dL) ?_
  rintro v5 w5 ⟨rfl,e5⟩
  have ns5:=e5.s
  refine⟨(Vd.t e5),?_⟩
  refine cd rfl (dL) ?_
  rintro v6 w6 ⟨rfl,e6⟩
  have ns6:=e6.s
  refine⟨((Vd.t e5).t e6),?_⟩
  refine cd rfl (mv (((hK.m Xd).m e5).m e6)) ?_
  rintro v7 w7 ⟨cs2,rfl,qM0,e7⟩
  have qM:=qM0.two
  obtain⟨u0,u1,u2,u3,u4,u5,z0,z1,z2,z3,z4,z5,rfl,hZ3,hZ4⟩:=qM
  have q2:=eH hZ3.one hZ4.one
  have ns7:=e7.s
  refine⟨(((Vd.t e5).t e6).t e7),?_⟩
  replace he:=((((he.t (e3.t e4)).t Xd).t e5).t e6).t e7
  have:=he.s
  replace hb1:=(((hb1.m Xd).m e5).m e6).m e7
  have:=hb1.lt
  replace hb2:=(((hb2.m Xd).m e5).m e6).m e7
  have:=hb2.lt
  replace hb3:=(((hb3.m Xd).m e5).m e6).m e7
  have:=hb3.lt
  refine WD.l rfl rfl (ll [_,_,_]) ?_
  rintro _ w8 ⟨rfl,hb8,e8⟩
  have ns8:=e8.s
  refine⟨((((Vd.t e5).t e6).t e7).t e8),?_⟩
  refine uE 1 rfl ?_
  replace hb3:=hb3.m e8
  refine WD.l0 rfl (lst rfl rfl hb3) ?_
  rintro _ w9 ⟨hb3,e9,hz9⟩
  have ns9:=e9.s
  refine⟨(((((Vd.t e5).t e6).t e7).t e8).t e9),?_⟩
  refine WD.nil<|uA 2 rfl<|la rfl hb3 ?_
  replace hb2:=(hb2.m e8).m e9
  refine Ho rfl rfl hb2 fun w10 hb2 e10 hz10=>?_
  have:=e10.s
  refine WL.nil<|WC.ret ?_
  replace hZ3:=((hZ3.m e8).m e9).m e10
  replace hZ4:=((hZ4.m e8).m e9).m e10
  have hR:ag (fun b=>A b∧b<w.heap.size∨w.heap.size≤b) w10 (lK [(pv 1 fail.toNat [],pv 1 0 []),(pv 1 els.toNat [],pv 1 0 []),(mV ann,aX)]) _:=ag.append (dK 1 1 fail.toNat 0 [] []) (ag.append (dK 1 1 els.toNat 0 [] []) (ag.mk2 (hZ3.k fun b h=> .inl h) (hZ4.k fun b h=> .inl h)))
  replace hb8:=(hb8.m e9).m e10
  replace he:=((he.t e8).t e9).t e10
  exact cO rfl hb2 eT ⟨_,_,rfl,cW.lit rfl hb8 (by omega) hR,he.k fun k hk _=>hk⟩
end Go.Proofs.LL
namespace Go.Proofs.LL
open Go Go.Proofs Go.RowKit
set_option maxHeartbeats 4000000
attribute [local irreducible] ar WL WC cq WT WX
def CZ(cs:List Value):Prop:=∃(z:Int) (n o:Nat) (pf:Option Addr) (lf cf:Nat) (fl el:Bool) (pa:Option Addr) (la ca:Nat),z<0∧cs=[.int .i64 z,.int .u32 (n:Int),.int .u64 (o:Int),.slice pf lf cf,.bool fl,.bool el,.slice pa la ca]
structure nf (A:Nat→Prop) (w:World) (l:List gF) (v:Value):Prop where
 ex:∃p c,v= .slice p l.length c∧l.length≤c∧(l.length=1→∃s b o cs,l=[s]∧p=some ⟨b,o,none⟩∧A b∧b<w.heap.size∧At w b o cs∧(j9 A w s cs∨s.code=0∧CZ cs))
theorem nf.m(h:nf A w l v)(e:am B w w')(hAB:∀b,b<w.heap.size→A b→B b:=by(intro b hb1 hb2;first|exact trivial|exact hb2|exact hb2.2|((try dsimp only[Nb]at hb2⊢);omega))):nf A w' l v:=by
 obtain⟨p,c,h1,h2,h3⟩:=h
 exact⟨p,c,h1,h2,fun h=>by
  obtain⟨s,b,o,cs,e1,e2,e3,e4,e5,e6⟩:=h3 h
  exact⟨s,b,o,cs,e1,e2,e3,Nat.lt_of_lt_of_le e4 e.size,e5.growP e hAB e3,e6.imp (fun h=>h.m e hAB) id⟩⟩
theorem nf.lowW{B:Nat→Prop}(h:nf A w l v)(hAB:∀b,b<w.heap.size→A b→B b):nf B w l v:=by
 obtain⟨p,c,h1,h2,h3⟩:=h
 exact⟨p,c,h1,h2,fun h=>by
  obtain⟨s,b,o,cs,e1,e2,e3,e4,e5,e6⟩:=h3 h
  exact⟨s,b,o,cs,e1,e2,hAB b e4 e3,e4,e5,e6.imp (fun h=>h.lowW hAB) id⟩⟩
def dF:List gF→V
 |[]=>aX
 |s::_=>dQ s.code (lZ s)
structure kH (s:gF):Prop where
 code:35≤s.code∧s.code≤39
 num:s.num<4294967296
 off:s.off<18446744073709551616
 flt:s.flt.length≤1
theorem Kz9(s:gF):(lZ s).length≤3:=by
 unfold lZ
 split
 ·simp
 ·split
  ·simp
  ·split<;>simp
theorem n8(hS:nf A w l v)(hl:l.length≤1)(hok:∀s∈l,kH s):
  ah TP 48 [v] w fun r w'=>∃cs,r= .agg cs.toArray∧ag (fun b=>A b∧b<w.heap.size∨w.heap.size≤b) w' [dF l,aX] cs∧ay w w':=by
 replace hS:=(hS.lowW (B:=fun b=>A b∧b<w.heap.size) fun b hb h=>⟨h,hb⟩)
 obtain⟨p,c,rfl,qc,h1⟩:=hS.ex
 match l,hl,hok,h1 with
 |[],_,_,_=>
  refine co Tryz.func48 ?_
  have he:=Hi w
  refine uA 2 rfl ?_
  have hs1:=he.s
  refine Ha fun w1 hb1 e1=>?_
  have nx1:=hb1.lt
  have ns1:=e1.s
  refine uD 6 rfl<|Hq (ae (ak rfl rfl) (br (by(rfl))))<|uD 4 rfl<|Hq (az (cs:=[_,_,_,_,_,_,_,_,_,_,_,_]) Fo.h rfl rfl)<|Ho rfl rfl hb1 fun w2 hb1 e2 hz2=>?_
  have ns2:=e2.s
  refine WL.nil<|WC.ret ?_
  replace he:=he.t (e1.t e2)
  exact cO rfl hb1 eE ⟨_,rfl,ag.mk2 dO dO,he.k fun k hk _=>hk⟩
 |[s],_,hok,h1=>
  have hs0:=hok s (by simp)
  obtain⟨s',b,o,cs,es,rfl,qA,_,hA,hR⟩:=h1 rfl
  obtain rfl:s=s':=by simpa using es
  replace hR:=hR.resolve_right fun h=>by have h1:=h.1;have h2:=hs0.code;omega
  have hR2:=hR.ex
  obtain⟨fv,pa,ca,rfl,hF,_⟩:=hR2
  obtain⟨pf,cf,rfl,_⟩:=hF.ex
  refine co Tryz.func48 ?_
  have he:=Hi w
  refine uA 2 rfl ?_
  have hs1:=he.s
  refine Ha fun w1 hb1 e1=>?_
  have nx1:=hb1.lt
  have ns1:=e1.s
  refine uD 6 rfl<|Hq (ae (ak rfl rfl) (bk (by(simp))))<|uD 3 rfl<|uA 3 rfl<|ix rfl rfl rfl ?_
  replace hA:=hA.m e1
  refine Hq (ad Fo.h rfl Xr hA (hn:=rfl)) ?_
  replace hR:=hR.m e1
  refine cl rfl (fi hR hs0.code hs0.num hs0.off hs0.flt) ?_
  rintro v2 w2 ⟨a,b2,rfl,hC,e2⟩
  have q1:=hC.one
  have ns2:=e2.s
  replace he:=(he.t e1).t e2
  have:=he.s
  replace hb1:=hb1.m e2
  have:=hb1.lt
  refine WL.l rfl (ll [_]) ?_
  rintro _ w3 ⟨rfl,hb3,e3⟩
  have:=e3.s
  replace hC:=hC.m e3
  refine cl rfl (sJ hb3.at hC (by have:=Kz9 s;omega)) ?_
  rintro v4 w4 ⟨cs,rfl,qR,e4⟩
  have qR2:=qR.two
  obtain⟨x0,x1,x2,x3,x4,x5,y0,y1,y2,y3,y4,y5,rfl,hZ1,hZ2⟩:=qR2
  have q2:=eH hZ1.one hZ2.one
  have:=e4.s
  replace hb1:=(hb1.m e3).m e4
  refine Ho rfl rfl hb1 fun w5 hb1 e5 hz5=>?_
  have:=e5.s
  refine WL.nil<|WC.ret ?_
  replace hZ1:=hZ1.m e5
  replace hZ2:=hZ2.m e5
  replace he:=((he.t e3).t e4).t e5
  exact cO rfl hb1 eE ⟨_,rfl,ag.mk2 (hZ1.k fun b h=>BF h (by omega) (by omega)) (hZ2.k fun b h=>BF h (by omega) (by omega)),he.k fun k hk _=>hk⟩
structure Xf where
 hdl:Nat
 did:List Nat
 tag:List UInt8
 fmt:List Nat
 stl:Bool
 more:Bool
 rm:List Nat
 st:List gF
 res:Bool
 abo:Bool
 bat:Bool
 pay:List UInt8
structure kK (x:Xf):Prop where
 hdl:x.hdl<4294967296
 did:x.did.length≤1∧∀n∈x.did,n<4294967296
 fmt:x.fmt.length≤1∧∀n∈x.fmt,n<4294967296
 rm:x.rm.length≤1∧∀n∈x.rm,n<256
 st:x.st.length≤1∧∀s∈x.st,kH s
def jy(x:Xf):List (V×V):=
 [(pv 4 x.hdl [],aX),(nv 4 x.did,aX),(tV 18 x.tag,aX),(nv 4 x.fmt,aX),(pv 1 x.stl.toNat [],pv 1 0 []),(pv 1 x.more.toNat [],pv 1 0 []),(nv 2 x.rm,aX),(dF x.st,aX),(pv 1 x.res.toNat [],pv 1 0 []),(pv 1 x.abo.toNat [],pv 1 0 []),(pv 1 x.bat.toNat [],pv 1 0 [])]
structure oW (A:Nat→Prop) (w:World) (x:Xf) (cs:List Value):Prop where
 ex:∃dv tv fv rv sv pv,cs=[.int .u32 (x.hdl:Int),dv,tv,fv,.bool x.stl,.bool x.more,rv,sv,.bool x.res,.bool x.abo,.bool x.bat,pv]∧dT .u32 A w x.did dv∧bT A w tv x.tag∧dT .u32 A w x.fmt fv∧dT .u8 A w x.rm rv∧nf A w x.st sv∧bT A w pv x.pay
theorem oW.m(h:oW A w x cs)(e:am B w w')(hAB:∀b,b<w.heap.size→A b→B b:=by(intro b hb1 hb2;first|exact trivial|exact hb2|exact hb2.2|((try dsimp only[Nb]at hb2⊢);omega))):oW A w' x cs:=by
 obtain⟨dv,tv,fv,rv,sv,pv,h0,h1,h2,h3,h4,h5,h6⟩:=h
 exact⟨dv,tv,fv,rv,sv,pv,h0,h1.m e hAB,h2.m e hAB,h3.m e hAB,h4.m e hAB,h5.m e hAB,h6.m e hAB⟩
theorem oW.lowW{B:Nat→Prop}(h:oW A w x cs)(hAB:∀b,b<w.heap.size→A b→B b):oW B w x cs:=by
 obtain⟨dv,tv,fv,rv,sv,pv,h0,h1,h2,h3,h4,h5,h6⟩:=h
 exact⟨dv,tv,fv,rv,sv,pv,h0,h1.lowW hAB,h2.k hAB,h3.lowW hAB,h4.lowW hAB,h5.lowW hAB,h6.k hAB⟩
theorem bO(hX:oW A w x cs)(hok:kK x):
  ah TP 16 [.agg cs.toArray] w fun r w'=>∃a b,r= .agg #[a,b]∧cW (fun b=>A b∧b<w.heap.size∨w.heap.size≤b) w' 20 (jy x) [a,b]∧ay w w':=by
 replace hX:=hX.lowW (B:=fun b=>A b∧b<w.heap.size) (fun b hb h=>⟨h,hb⟩)
 obtain⟨hdl,did,tag,fmt,stl,more,rm,st,res,abo,bat,pay⟩:=x
 obtain⟨dv,tv,fv,rv,sv,pv',rfl,hD,hI,hM,hU,hS,hP⟩:=hX.ex
 obtain⟨o1,o2,o3,o4,o5⟩:=hok
 dsimp only at hD hI hM hU hS hP o1 o2 o3 o4 o5⊢
 obtain⟨pd,cd,rfl,_⟩:=hD.ex
 obtain⟨pm,cm,rfl,_⟩:=hM.ex
 obtain⟨pu,cu,rfl,_⟩:=hU.ex
 obtain⟨ps,cs,rfl,_⟩:=hS.ex
 have hI0:=hI
 have hP0:=hP
 obtain⟨pt,ct,rfl,_⟩:=hI0
 obtain⟨pp,cp,rfl,_⟩:=hP0
 rcases Decidable.em (tag=[])with ht|ht
 ·have et:tV 18 tag=aX:=if_pos ht
  subst ht
  refine co Tryz.func16 ?_
  have he:=Hi w
  refine uA 2 rfl ?_
  have hs1:=he.s
  refine Hb rfl fun w1 hb1 e1=>?_
  have nx1:=hb1.lt
  have ns1:=e1.s
  replace he:=he.t e1
  have hs2:=he.s
  have hx2b1:=hb1.lt
  refine Ha fun w2 hb2 e2=>?_
  have nx2:=hb2.lt
  have ns2:=e2.s
  refine uD 3 rfl<|Hq (az (cs:=[_,_,_,_,_,_,_,_,_,_,_,_]) Fo.h rfl rfl) ?_
  replace he:=he.t e2
  have hs3:=he.s
  replace hb1:=hb1.m e2
  have hx3b1:=hb1.lt
  have hx3b2:=hb2.lt
  refine Ha fun w3 hb3 e3=>?_
  have nx3:=hb3.lt
  have ns3:=e3.s
  refine Ho rfl rfl hb3 fun w4 hb3 e4 hz4=>?_
  have ns4:=e4.s
  refine uD 5 rfl ?_
  replace hb1:=hb1.m (e3.t e4)
  refine ld rfl hb1 rfl<|uC 1 rfl<|Hq (ae (aS rfl rfl) (decide_eq_false (by(simp))))<|uD 3 rfl ?_
  replace hD:=((hD.m e1).m e2).m (e3.t e4)
  replace hI:=((hI.m e1).m e2).m (e3.t e4)
  replace hM:=((hM.m e1).m e2).m (e3.t e4)
  replace hU:=((hU.m e1).m e2).m (e3.t e4)
  replace hS:=((hS.m e1).m e2).m (e3.t e4)
  replace hb2:=hb2.m (e3.t e4)
  refine WC.seq<|WC.regionD (tt [0,1,2,5,6,8,9,10,12,13,15,16,18,19,21,22,24,25,27,28,30,31]++ff [3]++tt [4]++ff [7,11,14,17,20,23,26,29,32,33]++tt [34]++ff [35]) (am (fun b=>b≠w1.heap.size) _) mixed (by kernel_rfl) Vd ?_
  have nd1w4:w4.drew.heap.size=w4.heap.size:=rfl
  refine uE 1 rfl<|dl rfl hb1 rfl<|He (fun _ hS=>bp Fo.h rfl (dZ (by omega) (by omega)))<|uE 1 rfl<|dl rfl hb1 rfl<|He (fun _ hS=>ad Fo.h rfl hS hb3.at (hn:=by first|rfl|assumption))<|uE 1 rfl<|dl rfl hb1 rfl<|uE 1 rfl<|dl rfl hb1 rfl<|uE 1 rfl<|dl rfl hb1 rfl<|uE 1 rfl<|dl rfl hb1 rfl<|uE 1 rfl<|dl rfl hb1 rfl<|uE 1 rfl<|dl rfl hb1 rfl<|uE 1 rfl<|dl rfl hb1 rfl<|uE 1 rfl<|dl rfl hb1 rfl<|LL.cd rfl (cV) ?_
  rintro v5 w5 ⟨rfl,e5⟩
  have ns5:=e5.s
  refine⟨(Vd.t e5),?_⟩
  refine He (fun _ hS=>az (cs:=[_,_,_,_,_,_,_,_,_,_,_,_]) Fo.h rfl rfl)<|LL.cd rfl (iw ((hD.m Xd).m e5) o2.1 o2.2) ?_
  rintro v6 w6 ⟨cs1,rfl,qD,e6⟩
  have qT1:=(qD (fun b=>b<0)).two
  obtain⟨x0,x1,x2,x3,x4,x5,y0,y1,y2,y3,y4,y5,rfl,hZ1,hZ2⟩:=qT1
  have q1:=eH hZ1.one hZ2.one
  have ns6:=e6.s
  refine⟨((Vd.t e5).t e6),?_⟩
  refine LL.cd rfl (iw (((hM.m Xd).m e5).m e6) o3.1 o3.2) ?_
  rintro v7 w7 ⟨cs2,rfl,qM,e7⟩
  have qT2:=(qM (fun b=>b<0)).two
  obtain⟨u0,u1,u2,u3,u4,u5,z0,z1,z2,z3,z4,z5,rfl,hZ3,hZ4⟩:=qT2
  have q2:=eH hZ3.one hZ4.one
  have ns7:=e7.s
  refine⟨(((Vd.t e5).t e6).t e7),?_⟩
  refine LL.cd rfl (dL) ?_
  rintro v8 w8 ⟨rfl,e8⟩
  have ns8:=e8.s
  refine⟨((((Vd.t e5).t e6).t e7).t e8),?_⟩
  refine LL.cd rfl (dL) ?_
  rintro v9 w9 ⟨rfl,e9⟩
  have ns9:=e9.s
  refine⟨(((((Vd.t e5).t e6).t e7).t e8).t e9),?_⟩
  refine LL.cd rfl (pA ((((((hU.m Xd).m e5).m e6).m e7).m e8).m e9) o4.1 o4.2) ?_
  rintro v10 w10 ⟨cs3,rfl,qU,e10⟩
  have qT3:=(qU (fun b=>b<0)).two
  obtain⟨i0,i1,i2,i3,i4,i5,j0,j1,j2,j3,j4,j5,rfl,hZ5,hZ6⟩:=qT3
  have q3:=eH hZ5.one hZ6.one
  have ns10:=e10.s
  refine⟨((((((Vd.t e5).t e6).t e7).t e8).t e9).t e10),?_⟩
  refine LL.cd rfl (n8 (((((((hS.m Xd).m e5).m e6).m e7).m e8).m e9).m e10) o5.1 o5.2) ?_
  rintro v11 w11 ⟨cs4,rfl,qS,e11⟩
  have qT4:=qS.two
  obtain⟨k0,k1,k2,k3,k4,k5,l0,l1,l2,l3,l4,l5,rfl,hZ7,hZ8⟩:=qT4
  have q4:=eH hZ7.one hZ8.one
  have ns11:=e11.s
  refine⟨(((((((Vd.t e5).t e6).t e7).t e8).t e9).t e10).t e11),?_⟩
  refine LL.cd rfl (dL) ?_
  rintro v12 w12 ⟨rfl,e12⟩
  have ns12:=e12.s
  refine⟨((((((((Vd.t e5).t e6).t e7).t e8).t e9).t e10).t e11).t e12),?_⟩
  refine LL.cd rfl (dL) ?_
  rintro v13 w13 ⟨rfl,e13⟩
  have ns13:=e13.s
  refine⟨(((((((((Vd.t e5).t e6).t e7).t e8).t e9).t e10).t e11).t e12).t e13),?_⟩
  refine LL.cd rfl (dL) ?_
  rintro v14 w14 ⟨rfl,e14⟩
  have ns14:=e14.s
  refine⟨((((((((((Vd.t e5).t e6).t e7).t e8).t e9).t e10).t e11).t e12).t e13).t e14),?_⟩
  replace he:=(((((((((((he.t (e3.t e4)).t Xd).t e5).t e6).t e7).t e8).t e9).t e10).t e11).t e12).t e13).t e14
  have:=he.s
  replace hb1:=((((((((((hb1.m Xd).m e5).m e6).m e7).m e8).m e9).m e10).m e11).m e12).m e13).m e14
  have:=hb1.lt
  replace hb2:=((((((((((hb2.m Xd).m e5).m e6).m e7).m e8).m e9).m e10).m e11).m e12).m e13).m e14
  have:=hb2.lt
  replace hb3:=((((((((((hb3.m Xd).m e5).m e6).m e7).m e8).m e9).m e10).m e11).m e12).m e13).m e14
  have:=hb3.lt
  refine WD.l rfl rfl (ll [_,_,_,_,_,_,_,_,_,_,_]) ?_
  rintro _ w15 ⟨rfl,hb15,e15⟩
  have ns15:=e15.s
  refine⟨(((((((((((Vd.t e5).t e6).t e7).t e8).t e9).t e10).t e11).t e12).t e13).t e14).t e15),?_⟩
  refine He (fun _ hS=>az (cs:=[_,_]) Fo.h rfl rfl) ?_
  replace hb2:=hb2.m e15
  refine WD.l0 rfl (bj rfl rfl hb2) ?_
  rintro _ w16 ⟨hb2,e16,hz16⟩
  have ns16:=e16.s
  refine⟨((((((((((((Vd.t e5).t e6).t e7).t e8).t e9).t e10).t e11).t e12).t e13).t e14).t e15).t e16),?_⟩
  refine WD.nil<|WC.ret ?_
  replace hZ1:=(((((((((hZ1.m e7).m e8).m e9).m e10).m e11).m e12).m e13).m e14).m e15).m e16
  replace hZ2:=(((((((((hZ2.m e7).m e8).m e9).m e10).m e11).m e12).m e13).m e14).m e15).m e16
  replace hZ3:=((((((((hZ3.m e8).m e9).m e10).m e11).m e12).m e13).m e14).m e15).m e16
  replace hZ4:=((((((((hZ4.m e8).m e9).m e10).m e11).m e12).m e13).m e14).m e15).m e16
  replace hZ5:=(((((hZ5.m e11).m e12).m e13).m e14).m e15).m e16
  replace hZ6:=(((((hZ6.m e11).m e12).m e13).m e14).m e15).m e16
  replace hZ7:=((((hZ7.m e12).m e13).m e14).m e15).m e16
  replace hZ8:=((((hZ8.m e12).m e13).m e14).m e15).m e16
  have hR:ag (fun b=>A b∧b<w.heap.size∨w.heap.size≤b) w16 (lK (jy ⟨hdl,did,[],fmt,stl,more,rm,st,res,abo,bat,pay⟩)) _:=ag.append (dK 4 0 hdl 0 [] []) (ag.append (ag.mk2 (hZ1.k fun b h=>absurd h (Nat.not_lt_zero b)) (hZ2.k fun b h=>absurd h (Nat.not_lt_zero b))) (ag.append (show ag _ _ [tV 18 [],aX] (vc 0 0 []++vc 0 0 [])from by rw[et];exact dK 0 0 0 0 [] []) (ag.append (ag.mk2 (hZ3.k fun b h=>absurd h (Nat.not_lt_zero b)) (hZ4.k fun b h=>absurd h (Nat.not_lt_zero b))) (ag.append (dK 1 1 stl.toNat 0 [] []) (ag.append (dK 1 1 more.toNat 0 [] []) (ag.append (ag.mk2 (hZ5.k fun b h=>absurd h (Nat.not_lt_zero b)) (hZ6.k fun b h=>absurd h (Nat.not_lt_zero b))) (ag.append (ag.mk2 (hZ7.k fun b h=>uI h (by omega)) (hZ8.k fun b h=>uI h (by omega))) (ag.append (dK 1 1 res.toNat 0 [] []) (ag.append (dK 1 1 abo.toNat 0 [] []) (dK 1 1 bat.toNat 0 [] []))))))))))
  replace hb15:=hb15.m e16
  replace he:=(he.t e15).t e16
  exact cO rfl hb2 eT ⟨_,_,rfl,cW.lit rfl hb15 (by omega) hR,he.k fun k hk _=>hk⟩
 ·have et:tV 18 tag=pv 18 0 tag:=if_neg ht
  have htl:=List.length_pos_iff.2 ht
  refine co Tryz.func16 ?_
  have he:=Hi w
  refine uA 2 rfl ?_
  have hs1:=he.s
  refine Hb rfl fun w1 hb1 e1=>?_
  have nx1:=hb1.lt
  have ns1:=e1.s
  replace he:=he.t e1
  have hs2:=he.s
  have hx2b1:=hb1.lt
  refine Ha fun w2 hb2 e2=>?_
  have nx2:=hb2.lt
  have ns2:=e2.s
  refine uD 3 rfl<|Hq (az (cs:=[_,_,_,_,_,_,_,_,_,_,_,_]) Fo.h rfl rfl) ?_
  replace he:=he.t e2
  have hs3:=he.s
  replace hb1:=hb1.m e2
  have hx3b1:=hb1.lt
  have hx3b2:=hb2.lt
  refine Ha fun w3 hb3 e3=>?_
  have nx3:=hb3.lt
  have ns3:=e3.s
  refine Ho rfl rfl hb3 fun w4 hb3 e4 hz4=>?_
  have ns4:=e4.s
  refine uD 5 rfl ?_
  replace hb1:=hb1.m (e3.t e4)
  refine ld rfl hb1 rfl<|uC 1 rfl<|Hq (ae (aS rfl rfl) (decide_eq_true (by(omega))))<|uD 4 rfl<|ld rfl hb1 rfl ?_
  replace hI:=((hI.m e1).m e2).m (e3.t e4)
  refine Hq (gp Fb.h rfl Xr hI)<|Hq (az (cs:=[_,_,_,_,_,_]) Fo.h rfl rfl)<|uC 1 rfl<|WL.l0 (GE rfl rfl hb3) ?_
  rintro _ w5 ⟨hb3,e5,hz5⟩
  have ns5:=e5.s
  refine WL.nil ?_
  replace hD:=((hD.m e1).m e2).m ((e3.t e4).t e5)
  replace hI:=hI.m e5
  replace hM:=((hM.m e1).m e2).m ((e3.t e4).t e5)
  replace hU:=((hU.m e1).m e2).m ((e3.t e4).t e5)
  replace hS:=((hS.m e1).m e2).m ((e3.t e4).t e5)
  replace hb1:=hb1.m e5
  replace hb2:=hb2.m ((e3.t e4).t e5)
  refine WC.seq<|WC.regionD (tt [0,1,2,5,6,8,9,10,12,13,15,16,18,19,21,22,24,25,27,28,30,31]++ff [3]++tt [4]++ff [7,11,14,17,20,23,26,29,32,33]++tt [34]++ff [35]) (am (fun b=>b≠w1.heap.size) _) mixed (by kernel_rfl) Vd ?_
  have nd1w5:w5.drew.heap.size=w5.heap.size:=rfl
  refine uE 1 rfl<|dl rfl hb1 rfl<|He (fun _ hS=>bp Fo.h rfl (dZ (by omega) (by omega)))<|uE 1 rfl<|dl rfl hb1 rfl<|He (fun _ hS=>ad Fo.h rfl hS hb3.at (hn:=by first|rfl|assumption))<|uE 1 rfl<|dl rfl hb1 rfl<|uE 1 rfl<|dl rfl hb1 rfl<|uE 1 rfl<|dl rfl hb1 rfl<|uE 1 rfl<|dl rfl hb1 rfl<|uE 1 rfl<|dl rfl hb1 rfl<|uE 1 rfl<|dl rfl hb1 rfl<|uE 1 rfl<|dl rfl hb1 rfl<|uE 1 rfl<|dl rfl hb1 rfl<|LL.cd rfl (cV) ?_
  rintro v6 w6 ⟨rfl,e6⟩
  have ns6:=e6.s
  refine⟨(Vd.t e6),?_⟩
  refine He (fun _ hS=>az (cs:=[_,_,_,_,_,_,_,_,_,_,_,_]) Fo.h rfl rfl)<|LL.cd rfl (iw ((hD.m Xd).m e6) o2.1 o2.2) ?_
  rintro v7 w7 ⟨cs1,rfl,qD,e7⟩
  have qT1:=(qD (fun b=>b<0)).two
  obtain⟨x0,x1,x2,x3,x4,x5,y0,y1,y2,y3,y4,y5,rfl,hZ1,hZ2⟩:=qT1
  have q1:=eH hZ1.one hZ2.one
  have ns7:=e7.s
  refine⟨((Vd.t e6).t e7),?_⟩
  refine LL.cd rfl (iw (((hM.m Xd).m e6).m e7) o3.1 o3.2) ?_
  rintro v8 w8 ⟨cs2,rfl,qM,e8⟩
  have qT2:=(qM (fun b=>b<0)).two
  obtain⟨u0,u1,u2,u3,u4,u5,z0,z1,z2,z3,z4,z5,rfl,hZ3,hZ4⟩:=qT2
  have q2:=eH hZ3.one hZ4.one
  have ns8:=e8.s
  refine⟨(((Vd.t e6).t e7).t e8),?_⟩
  refine LL.cd rfl (dL) ?_
  rintro v9 w9 ⟨rfl,e9⟩
  have ns9:=e9.s
  refine⟨((((Vd.t e6).t e7).t e8).t e9),?_⟩
  refine LL.cd rfl (dL) ?_
  rintro v10 w10 ⟨rfl,e10⟩
  have ns10:=e10.s
  refine⟨(((((Vd.t e6).t e7).t e8).t e9).t e10),?_⟩
  refine LL.cd rfl (pA ((((((hU.m Xd).m e6).m e7).m e8).m e9).m e10) o4.1 o4.2) ?_
  rintro v11 w11 ⟨cs3,rfl,qU,e11⟩
  have qT3:=(qU (fun b=>b<0)).two
  obtain⟨i0,i1,i2,i3,i4,i5,j0,j1,j2,j3,j4,j5,rfl,hZ5,hZ6⟩:=qT3
  have q3:=eH hZ5.one hZ6.one
  have ns11:=e11.s
  refine⟨((((((Vd.t e6).t e7).t e8).t e9).t e10).t e11),?_⟩
  refine LL.cd rfl (n8 (((((((hS.m Xd).m e6).m e7).m e8).m e9).m e10).m e11) o5.1 o5.2) ?_
  rintro v12 w12 ⟨cs4,rfl,qS,e12⟩
  have qT4:=qS.two
  obtain⟨k0,k1,k2,k3,k4,k5,l0,l1,l2,l3,l4,l5,rfl,hZ7,hZ8⟩:=qT4
  have q4:=eH hZ7.one hZ8.one
  have ns12:=e12.s
  refine⟨(((((((Vd.t e6).t e7).t e8).t e9).t e10).t e11).t e12),?_⟩
  refine LL.cd rfl (dL) ?_
  rintro v13 w13 ⟨rfl,e13⟩
  have ns13:=e13.s
  refine⟨((((((((Vd.t e6).t e7).t e8).t e9).t e10).t e11).t e12).t e13),?_⟩
  refine LL.cd rfl (dL) ?_
  rintro v14 w14 ⟨rfl,e14⟩
  have ns14:=e14.s
  refine⟨(((((((((Vd.t e6).t e7).t e8).t e9).t e10).t e11).t e12).t e13).t e14),?_⟩
  refine LL.cd rfl (dL) ?_
  rintro v15 w15 ⟨rfl,e15⟩
  have ns15:=e15.s
  refine⟨((((((((((Vd.t e6).t e7).t e8).t e9).t e10).t e11).t e12).t e13).t e14).t e15),?_⟩
  replace he:=(((((((((((he.t ((e3.t e4).t e5)).t Xd).t e6).t e7).t e8).t e9).t e10).t e11).t e12).t e13).t e14).t e15
  have:=he.s
  replace hb1:=((((((((((hb1.m Xd).m e6).m e7).m e8).m e9).m e10).m e11).m e12).m e13).m e14).m e15
  have:=hb1.lt
  replace hb2:=((((((((((hb2.m Xd).m e6).m e7).m e8).m e9).m e10).m e11).m e12).m e13).m e14).m e15
  have:=hb2.lt
  replace hb3:=((((((((((hb3.m Xd).m e6).m e7).m e8).m e9).m e10).m e11).m e12).m e13).m e14).m e15
  have:=hb3.lt
  refine WD.l rfl rfl (ll [_,_,_,_,_,_,_,_,_,_,_]) ?_
  rintro _ w16 ⟨rfl,hb16,e16⟩
  have ns16:=e16.s
  refine⟨(((((((((((Vd.t e6).t e7).t e8).t e9).t e10).t e11).t e12).t e13).t e14).t e15).t e16),?_⟩
  refine He (fun _ hS=>az (cs:=[_,_]) Fo.h rfl rfl) ?_
  replace hb2:=hb2.m e16
  refine WD.l0 rfl (bj rfl rfl hb2) ?_
  rintro _ w17 ⟨hb2,e17,hz17⟩
  have:=e17.s
  refine⟨((((((((((((Vd.t e6).t e7).t e8).t e9).t e10).t e11).t e12).t e13).t e14).t e15).t e16).t e17),?_⟩
  refine WD.nil<|WC.ret ?_
  replace hZ1:=(((((((((hZ1.m e8).m e9).m e10).m e11).m e12).m e13).m e14).m e15).m e16).m e17
  replace hZ2:=(((((((((hZ2.m e8).m e9).m e10).m e11).m e12).m e13).m e14).m e15).m e16).m e17
  replace hZ3:=((((((((hZ3.m e9).m e10).m e11).m e12).m e13).m e14).m e15).m e16).m e17
  replace hZ4:=((((((((hZ4.m e9).m e10).m e11).m e12).m e13).m e14).m e15).m e16).m e17
  replace hZ5:=(((((hZ5.m e12).m e13).m e14).m e15).m e16).m e17
  replace hZ6:=(((((hZ6.m e12).m e13).m e14).m e15).m e16).m e17
  replace hZ7:=((((hZ7.m e13).m e14).m e15).m e16).m e17
  replace hZ8:=((((hZ8.m e13).m e14).m e15).m e16).m e17
  have hR:ag (fun b=>A b∧b<w.heap.size∨w.heap.size≤b) w17 (lK (jy ⟨hdl,did,tag,fmt,stl,more,rm,st,res,abo,bat,pay⟩)) _:=ag.append (dK 4 0 hdl 0 [] []) (ag.append (ag.mk2 (hZ1.k fun b h=>absurd h (Nat.not_lt_zero b)) (hZ2.k fun b h=>absurd h (Nat.not_lt_zero b))) (ag.append (show ag _ _ [tV 18 tag,aX] (vc 18 0 tag++vc 0 0 [])from by rw[et];exact dK 18 0 0 0 tag []) (ag.append (ag.mk2 (hZ3.k fun b h=>absurd h (Nat.not_lt_zero b)) (hZ4.k fun b h=>absurd h (Nat.not_lt_zero b))) (ag.append (dK 1 1 stl.toNat 0 [] []) (ag.append (dK 1 1 more.toNat 0 [] []) (ag.append (ag.mk2 (hZ5.k fun b h=>absurd h (Nat.not_lt_zero b)) (hZ6.k fun b h=>absurd h (Nat.not_lt_zero b))) (ag.append (ag.mk2 (hZ7.k fun b h=>uI h (by omega)) (hZ8.k fun b h=>uI h (by omega))) (ag.append (dK 1 1 res.toNat 0 [] []) (ag.append (dK 1 1 abo.toNat 0 [] []) (dK 1 1 bat.toNat 0 [] []))))))))))
  replace hb16:=hb16.m e17
  replace he:=(he.t e16).t e17
  exact cO rfl hb2 eT ⟨_,_,rfl,cW.lit rfl hb16 (by omega) hR,he.k fun k hk _=>hk⟩
end Go.Proofs.LL
namespace Go.Proofs.LL
open Go Go.Proofs Go.RowKit
set_option maxHeartbeats 4000000
attribute [local irreducible] ar WL WC cq WT WX
theorem tJ(hX:oW A w x cs):
  ah TP 14 [.agg cs.toArray] w fun r w'=>∃b,r= .bool b∧ay w w':=by
 obtain⟨dv,tv,fv,rv,sv,pv',rfl,hD,hI,hM,hU,hS,hP⟩:=hX.ex
 obtain⟨pd,cd,rfl,_⟩:=hD.ex
 obtain⟨pm,cm,rfl,_⟩:=hM.ex
 obtain⟨pu,cu,rfl,_⟩:=hU.ex
 obtain⟨ps,cs,rfl,_⟩:=hS.ex
 obtain⟨pt,ct,rfl,_⟩:=hI
 obtain⟨pp,cp,rfl,_⟩:=hP
 refine aR Tryz.func14 ?_
 have he:=XI w
 refine uA 2 rfl ?_
 have:=he.s
 refine Hb rfl fun w1 hb1 e1=>?_
 refine uD 6 rfl<|ld rfl hb1 rfl<|uC 1 rfl<|Hq (aS rfl rfl)<|WL.nil<|WC.cond rfl ?_ ?_
 ·intro hc
  refine uA 4 rfl<|WC.ret ?_
  replace he:=he.t e1
  exact aw rfl ⟨_,rfl,he⟩
 ·intro hc
  refine uB 5 rfl<|ld rfl hb1 rfl<|uC 1 rfl<|Hq (aS rfl rfl)<|WL.nil<|WC.cond rfl ?_ ?_
  ·intro hc
   refine uA 4 rfl<|WC.ret ?_
   replace he:=he.t e1
   exact aw rfl ⟨_,rfl,he⟩
  ·intro hc
   refine uB 5 rfl<|ld rfl hb1 rfl<|uC 1 rfl<|Hq (aS rfl rfl)<|WL.nil<|WC.cond rfl ?_ ?_
   ·intro hc
    refine uA 4 rfl<|WC.ret ?_
    replace he:=he.t e1
    exact aw rfl ⟨_,rfl,he⟩
   ·intro hc
    refine uB 5 rfl<|ld rfl hb1 rfl<|uC 1 rfl<|Hq (aS rfl rfl)<|WL.nil<|WC.cond rfl ?_ ?_
    ·intro hc
     refine uA 4 rfl<|WC.ret ?_
     replace he:=he.t e1
     exact aw rfl ⟨_,rfl,he⟩
    ·intro hc
     refine uB 5 rfl<|ld rfl hb1 rfl<|uC 1 rfl<|Hq (aS rfl rfl)<|WL.nil<|WC.cond rfl ?_ ?_
     ·intro hc
      refine uA 4 rfl<|WC.ret ?_
      replace he:=he.t e1
      exact aw rfl ⟨_,rfl,he⟩
     ·intro hc
      refine uB 5 rfl<|ld rfl hb1 rfl<|uC 1 rfl<|Hq (aS rfl rfl)<|WL.nil<|WC.cond rfl ?_ ?_
      ·intro hc
       refine uA 4 rfl<|WC.ret ?_
       replace he:=he.t e1
       exact aw rfl ⟨_,rfl,he⟩
      ·intro hc
       refine uB 5 rfl<|WC.ret ?_
       replace he:=he.t e1
       exact aw rfl ⟨_,rfl,he⟩
structure ia (s:gF):Prop where
 code:35≤s.code∧s.code≤39
 flt:s.flt.length≤1
 fW:∀f∈s.flt,lB 19 f.2.2
 aW:s.code=39→lB 20 s.ann
theorem yz{s:gF}(h:35≤s.code∧s.code≤38)(hf:s.flt.length=0):ia s:=⟨by omega,by omega,fun f hf'=>(by rw[List.eq_nil_of_length_eq_zero hf]at hf';cases hf'),fun h=>by omega⟩
theorem oE(hS:j9 A w s cs)(hUT:UT w):
  ah TP 77 [.agg cs.toArray] w fun r w'=>∃z,r= .bool z∧(z=true→ia s)∧ay w w':=by
 replace hS:=hS.lowW (B:=fun b=>b<w.heap.size) fun b hb _=>hb
 obtain⟨code,num,off,flt,fail,els,ann⟩:=s
 obtain⟨fv,pa,ca,rfl,hF0,hK⟩:=hS.ex
 dsimp only at hF0 hK⊢
 obtain⟨pf,cf,rfl,hF1⟩:=hF0.ex
 rcases(show code=35∨code=36∨code=37∨code=38∨code=39∨code<35∨39<code by omega)with rfl|rfl|rfl|rfl|rfl|hc
 ·refine aR Tryz.func77 ?_
  have he:=Hi w
  refine uA 2 rfl ?_
  have hs1:=he.s
  refine Hb rfl fun w1 hb1 e1=>?_
  have nx1:=hb1.lt
  have ns1:=e1.s
  refine uD 6 rfl<|ld rfl hb1 rfl<|uD 11 rfl<|ld rfl hb1 rfl<|uC 1 rfl<|Hq (ak rfl rfl)<|uC 1 rfl<|Hc rfl rfl (fun hc=>aa rfl Fo.h)<|Hk rfl rfl rfl hb1 rfl<|Hc rfl rfl (fun hc=>fF (au hc))<|Hq (bU rfl rfl (fun h=>beq_iff_eq.2 h))<|uC 1 rfl<|Hc rfl rfl (fun hc=>aa rfl Fo.h)<|Hk rfl rfl rfl hb1 rfl<|Hc rfl rfl (fun hc=>fF (au hc))<|Hq (bU rfl rfl (fun h=>beq_iff_eq.2 h))<|uC 1 rfl<|Hc rfl rfl (fun hc=>aa rfl Fo.h)<|Hk rfl rfl rfl hb1 rfl<|Hc rfl rfl (fun hc=>fy Fo.h (au hc))<|Hc rfl rfl (fun hc=>ak (au hc) rfl)<|Hq (bU rfl rfl (fun h=>beq_iff_eq.2 h))<|uC 2 rfl<|WC.ret ?_
  replace he:=he.t e1
  exact aw rfl ⟨_,rfl,fun h=>yz (by show 35≤35∧35≤38;omega) (by simp only[Bool.and_eq_true,beq_iff_eq]at h;show flt.length=0;omega),he.k fun k hk _=>hk⟩
 ·refine aR Tryz.func77 ?_
  have he:=Hi w
  refine uA 2 rfl ?_
  have hs1:=he.s
  refine Hb rfl fun w1 hb1 e1=>?_
  have nx1:=hb1.lt
  have ns1:=e1.s
  refine uD 6 rfl<|ld rfl hb1 rfl<|uD 20 rfl<|ld rfl hb1 rfl<|Hq (ak rfl rfl)<|uC 1 rfl<|Hc rfl rfl (fun hc=>aa rfl Fo.h)<|Hk rfl rfl rfl hb1 rfl<|Hc rfl rfl (fun hc=>ak (au hc) rfl)<|Hq (bU rfl rfl (fun h=>beq_iff_eq.2 h))<|uC 1 rfl<|Hc rfl rfl (fun hc=>aa rfl Fo.h)<|Hk rfl rfl rfl hb1 rfl<|Hc rfl rfl (fun hc=>fy Fo.h (au hc))<|Hc rfl rfl (fun hc=>ak (au hc) rfl)<|Hq (bU rfl rfl (fun h=>beq_iff_eq.2 h))<|uC 1 rfl<|Hc rfl rfl (fun hc=>aa rfl Fo.h)<|Hk rfl rfl rfl hb1 rfl<|Hc rfl rfl (fun hc=>fF (au hc))<|Hq (bU rfl rfl (fun h=>beq_iff_eq.2 h))<|uC 1 rfl<|Hc rfl rfl (fun hc=>aa rfl Fo.h)<|Hk rfl rfl rfl hb1 rfl<|Hc rfl rfl (fun hc=>fF (au hc))<|Hq (bU rfl rfl (fun h=>beq_iff_eq.2 h))<|uC 1 rfl<|Hc rfl rfl (fun hc=>aa rfl Fo.h)<|Hk rfl rfl rfl hb1 rfl<|Hc rfl rfl (fun hc=>fy Fo.h (au hc))<|Hc rfl rfl (fun hc=>ak (au hc) rfl)<|Hq (bU rfl rfl (fun h=>beq_iff_eq.2 h))<|uC 2 rfl<|WC.ret ?_
  replace he:=he.t e1
  exact aw rfl ⟨_,rfl,fun h=>yz (by show 35≤36∧36≤38;omega) (by simp only[Bool.and_eq_true,beq_iff_eq]at h;show flt.length=0;omega),he.k fun k hk _=>hk⟩
 ·rcases Nat.eq_zero_or_pos num with hn|hn
  rotate_left
  ·refine aR Tryz.func77 ?_
   have he:=Hi w
   refine uA 2 rfl ?_
   have hs1:=he.s
   refine Hb rfl fun w1 hb1 e1=>?_
   have nx1:=hb1.lt
   have ns1:=e1.s
   refine uD 6 rfl<|ld rfl hb1 rfl<|uD 29 rfl<|ld rfl hb1 rfl<|Hq (ae (ak rfl rfl) (bk (by(omega))))<|uC 28 rfl<|WC.ret ?_
   replace he:=he.t e1
   exact aw rfl ⟨_,rfl,fun h=>(by cases h),he.k fun k hk _=>hk⟩
  rcases Nat.eq_zero_or_pos off with ho|ho
  rotate_left
  ·refine aR Tryz.func77 ?_
   have he:=Hi w
   refine uA 2 rfl ?_
   have hs1:=he.s
   refine Hb rfl fun w1 hb1 e1=>?_
   have nx1:=hb1.lt
   have ns1:=e1.s
   refine uD 6 rfl<|ld rfl hb1 rfl<|uD 29 rfl<|ld rfl hb1 rfl<|Hq (ae (ak rfl rfl) (br (by(omega))))<|uC 2 rfl<|LL.lg rfl rfl rfl hb1 rfl<|Hg rfl rfl (ae (ak rfl rfl) (bk (by(omega))))<|uC 24 rfl<|WC.ret ?_
   replace he:=he.t e1
   exact aw rfl ⟨_,rfl,fun h=>(by cases h),he.k fun k hk _=>hk⟩
  rcases Nat.lt_or_ge 1 flt.length with hl|hl
  ·refine aR Tryz.func77 ?_
   have he:=Hi w
   refine uA 2 rfl ?_
   have hs1:=he.s
   refine Hb rfl fun w1 hb1 e1=>?_
   have nx1:=hb1.lt
   have ns1:=e1.s
   refine uD 6 rfl<|ld rfl hb1 rfl<|uD 29 rfl<|ld rfl hb1 rfl<|Hq (ae (ak rfl rfl) (br (by(omega))))<|uC 2 rfl<|LL.lg rfl rfl rfl hb1 rfl<|Hg rfl rfl (ae (ak rfl rfl) (br (by(omega))))<|uC 3 rfl<|LL.lg rfl rfl rfl hb1 rfl<|WL.lg rfl rfl rfl rfl (cD Fb.h rfl (lE hl)) ?_
   rintro v2 w2 ⟨rfl,e2⟩
   have ns2:=e2.s
   refine uC 19 rfl<|WC.ret ?_
   replace he:=(he.t e1).t e2
   exact aw rfl ⟨_,rfl,fun h=>(by cases h),he.k fun k hk _=>hk⟩
  ·have hF:=hF1 hl
   refine aR Tryz.func77 ?_
   have he:=Hi w
   refine uA 2 rfl ?_
   have hs1:=he.s
   refine Hb rfl fun w1 hb1 e1=>?_
   have nx1:=hb1.lt
   have ns1:=e1.s
   refine uD 6 rfl<|ld rfl hb1 rfl<|uD 29 rfl<|ld rfl hb1 rfl<|Hq (ae (ak rfl rfl) (br (by(omega))))<|uC 2 rfl<|LL.lg rfl rfl rfl hb1 rfl<|Hg rfl rfl (ae (ak rfl rfl) (br (by(omega))))<|uC 3 rfl<|LL.lg rfl rfl rfl hb1 rfl ?_
   replace hF:=hF.m e1
   replace hUT:=hUT.m e1
   refine WL.lg rfl rfl rfl rfl (cD Fb.h rfl (nk hF hUT)) ?_
   rintro v2 w2 ⟨z1,rfl,qz1,e2⟩
   have ns2:=e2.s
   cases z1
   ·refine uC 19 rfl<|WC.ret ?_
    replace he:=(he.t e1).t e2
    exact aw rfl ⟨_,rfl,fun h=>(by cases h),he.k fun k hk _=>hk⟩
   ·refine uC 3 rfl ?_
    replace hb1:=hb1.m e2
    refine LL.lg rfl rfl rfl hb1 rfl<|uC 3 rfl<|Hc rfl rfl (fun hc=>aa rfl Fo.h)<|Hk rfl rfl rfl hb1 rfl<|Hc rfl rfl (fun hc=>fF (au hc))<|Hq (bU rfl rfl (fun h=>beq_iff_eq.2 h))<|uC 1 rfl<|Hc rfl rfl (fun hc=>aa rfl Fo.h)<|Hk rfl rfl rfl hb1 rfl<|Hc rfl rfl (fun hc=>fy Fo.h (au hc))<|Hc rfl rfl (fun hc=>ak (au hc) rfl)<|Hq (bU rfl rfl (fun h=>beq_iff_eq.2 h))<|uC 2 rfl<|WC.ret ?_
    replace he:=(he.t e1).t e2
    exact aw rfl ⟨_,rfl,fun _=>⟨by show 35≤37∧37≤39;omega,hl,qz1 rfl,fun h=>absurd h (by show¬(37=39);decide)⟩,he.k fun k hk _=>hk⟩
 ·refine aR Tryz.func77 ?_
  have he:=Hi w
  refine uA 2 rfl ?_
  have hs1:=he.s
  refine Hb rfl fun w1 hb1 e1=>?_
  have nx1:=hb1.lt
  have ns1:=e1.s
  refine uD 6 rfl<|ld rfl hb1 rfl<|uD 23 rfl<|ld rfl hb1 rfl<|Hq (ak rfl rfl)<|uC 1 rfl<|Hc rfl rfl (fun hc=>aa rfl Fo.h)<|Hk rfl rfl rfl hb1 rfl<|Hc rfl rfl (fun hc=>ak (au hc) rfl)<|Hq (bU rfl rfl (fun h=>beq_iff_eq.2 h))<|uC 1 rfl<|Hc rfl rfl (fun hc=>aa rfl Fo.h)<|Hk rfl rfl rfl hb1 rfl<|Hc rfl rfl (fun hc=>fy Fo.h (au hc))<|Hc rfl rfl (fun hc=>ak (au hc) rfl)<|Hq (bU rfl rfl (fun h=>beq_iff_eq.2 h))<|uC 1 rfl<|Hc rfl rfl (fun hc=>aa rfl Fo.h)<|Hk rfl rfl rfl hb1 rfl<|Hc rfl rfl (fun hc=>fF (au hc))<|Hq (bU rfl rfl (fun h=>beq_iff_eq.2 h))<|uC 1 rfl<|Hc rfl rfl (fun hc=>aa rfl Fo.h)<|Hk rfl rfl rfl hb1 rfl<|Hc rfl rfl (fun hc=>fF (au hc))<|Hq (bU rfl rfl (fun h=>beq_iff_eq.2 h))<|uC 1 rfl<|Hc rfl rfl (fun hc=>aa rfl Fo.h)<|Hk rfl rfl rfl hb1 rfl<|Hc rfl rfl (fun hc=>fy Fo.h (au hc))<|Hc rfl rfl (fun hc=>ak (au hc) rfl)<|Hq (bU rfl rfl (fun h=>beq_iff_eq.2 h))<|uC 2 rfl<|WC.ret ?_
  replace he:=he.t e1
  exact aw rfl ⟨_,rfl,fun h=>yz (by show 35≤38∧38≤38;omega) (by simp only[Bool.and_eq_true,beq_iff_eq]at h;show flt.length=0;omega),he.k fun k hk _=>hk⟩
 ·rcases Nat.eq_zero_or_pos num with hn|hn
  rotate_left
  ·refine aR Tryz.func77 ?_
   have he:=Hi w
   refine uA 2 rfl ?_
   have hs1:=he.s
   refine Hb rfl fun w1 hb1 e1=>?_
   have nx1:=hb1.lt
   have ns1:=e1.s
   refine uD 6 rfl<|ld rfl hb1 rfl<|uD 35 rfl<|ld rfl hb1 rfl<|Hq (ae (ak rfl rfl) (bk (by(omega))))<|uC 19 rfl<|WC.ret ?_
   replace he:=he.t e1
   exact aw rfl ⟨_,rfl,fun h=>(by cases h),he.k fun k hk _=>hk⟩
  rcases Nat.eq_zero_or_pos off with ho|ho
  rotate_left
  ·refine aR Tryz.func77 ?_
   have he:=Hi w
   refine uA 2 rfl ?_
   have hs1:=he.s
   refine Hb rfl fun w1 hb1 e1=>?_
   have nx1:=hb1.lt
   have ns1:=e1.s
   refine uD 6 rfl<|ld rfl hb1 rfl<|uD 35 rfl<|ld rfl hb1 rfl<|Hq (ae (ak rfl rfl) (br (by(omega))))<|uC 2 rfl<|LL.lg rfl rfl rfl hb1 rfl<|Hg rfl rfl (ae (ak rfl rfl) (bk (by(omega))))<|uC 15 rfl<|WC.ret ?_
   replace he:=he.t e1
   exact aw rfl ⟨_,rfl,fun h=>(by cases h),he.k fun k hk _=>hk⟩
  rcases Nat.eq_zero_or_pos flt.length with hl|hl
  rotate_left
  ·refine aR Tryz.func77 ?_
   have he:=Hi w
   refine uA 2 rfl ?_
   have hs1:=he.s
   refine Hb rfl fun w1 hb1 e1=>?_
   have nx1:=hb1.lt
   have ns1:=e1.s
   refine uD 6 rfl<|ld rfl hb1 rfl<|uD 35 rfl<|ld rfl hb1 rfl<|Hq (ae (ak rfl rfl) (br (by(omega))))<|uC 2 rfl<|LL.lg rfl rfl rfl hb1 rfl<|Hg rfl rfl (ae (ak rfl rfl) (br (by(omega))))<|uC 3 rfl<|LL.lg rfl rfl rfl hb1 rfl<|uC 1 rfl<|Hg rfl rfl (ae (ak rfl rfl) (bk (by(omega))))<|uC 9 rfl<|WC.ret ?_
   replace he:=he.t e1
   exact aw rfl ⟨_,rfl,fun h=>(by cases h),he.k fun k hk _=>hk⟩
  ·refine aR Tryz.func77 ?_
   have he:=Hi w
   refine uA 2 rfl ?_
   have hs1:=he.s
   refine Hb rfl fun w1 hb1 e1=>?_
   have nx1:=hb1.lt
   have ns1:=e1.s
   refine uD 6 rfl<|ld rfl hb1 rfl<|uD 35 rfl<|ld rfl hb1 rfl<|Hq (ae (ak rfl rfl) (br (by(omega))))<|uC 2 rfl<|LL.lg rfl rfl rfl hb1 rfl<|Hg rfl rfl (ae (ak rfl rfl) (br (by(omega))))<|uC 3 rfl<|LL.lg rfl rfl rfl hb1 rfl<|uC 1 rfl<|Hg rfl rfl (ae (ak rfl rfl) (br (by(omega))))<|uC 3 rfl<|LL.lg rfl rfl rfl hb1 rfl ?_
   replace he:=he.t e1
   have:=he.s
   have:=hb1.lt
   refine WL.lg rfl rfl rfl rfl (ll [_]) ?_
   rintro _ w2 ⟨rfl,hb2,e2⟩
   have ns2:=e2.s
   replace hK:=(hK.m e1).m e2
   replace hUT:=(hUT.m e1).m e2
   refine WL.lg rfl rfl rfl rfl (cD Fb.h rfl (mu (.inr rfl) hK hb2.at hUT)) ?_
   rintro v3 w3 ⟨z1,rfl,qz1,e3⟩
   have:=e3.s
   refine uC 3 rfl<|WC.ret ?_
   replace he:=(he.t e2).t e3
   exact aw rfl ⟨_,rfl,fun h=>⟨by show 35≤39∧39≤39;omega,by show flt.length≤1;omega,fun f hf=>(by rw[List.eq_nil_of_length_eq_zero hl]at hf;cases hf),fun _=>qz1 h⟩,he.k fun k hk _=>hk⟩
 ·refine aR Tryz.func77 ?_
  have he:=Hi w
  refine uA 2 rfl ?_
  have hs1:=he.s
  refine Hb rfl fun w1 hb1 e1=>?_
  have nx1:=hb1.lt
  have ns1:=e1.s
  refine uD 6 rfl<|ld rfl hb1 rfl<|uD 4 rfl<|Hq (ae (ak rfl rfl) (bk (by(omega))))<|uD 6 rfl<|Hq (ae (ak rfl rfl) (bk (by(omega))))<|uD 4 rfl<|Hq (ae (ak rfl rfl) (bk (by(omega))))<|uD 5 rfl<|Hq (ae (ak rfl rfl) (bk (by(omega))))<|uD 5 rfl<|Hq (ae (ak rfl rfl) (bk (by(omega))))<|uD 4 rfl<|uA 4 rfl<|WC.ret ?_
  replace he:=he.t e1
  exact aw rfl ⟨_,rfl,fun h=>(by cases h),he.k fun k hk _=>hk⟩
theorem nl{z:Int}{n o:Nat}{la:Nat}(hz:z<0):
  ah TP 77 [.agg #[.int .i64 z,.int .u32 (n:Int),.int .u64 (o:Int),.slice pf lf cf,.bool fl,.bool el,.slice pa la ca]] w fun r w'=>r= .bool false∧ay w w':=by
 refine aR Tryz.func77 ?_
 have he:=Hi w
 refine uA 2 rfl ?_
 have:=he.s
 refine Hb rfl fun w1 hb1 e1=>?_
 have:=hb1.lt
 have:=e1.s
 refine uD 6 rfl<|ld rfl hb1 rfl<|uD 4 rfl<|Hq (ae (ak rfl rfl) (bk (by(omega))))<|uD 6 rfl<|Hq (ae (ak rfl rfl) (bk (by(omega))))<|uD 4 rfl<|Hq (ae (ak rfl rfl) (bk (by(omega))))<|uD 5 rfl<|Hq (ae (ak rfl rfl) (bk (by(omega))))<|uD 5 rfl<|Hq (ae (ak rfl rfl) (bk (by(omega))))<|uD 4 rfl<|uA 4 rfl<|WC.ret ?_
 replace he:=he.t e1
 exact aw rfl ⟨rfl,he.k fun k hk _=>hk⟩
theorem ja(hS:nf A w l v)(hUT:UT w):
  ah TP 49 [v] w fun r w'=>∃z,r= .bool z∧(z=true→l.length≤1∧∀s∈l,ia s)∧ay w w':=by
 replace hS:=(hS.lowW (B:=fun b=>b<w.heap.size) fun b hb _=>hb)
 obtain⟨p,c,rfl,qc,h1⟩:=hS.ex
 match l,h1 with
 |[],_=>
  refine aR Tryz.func49 ?_
  have he:=Hi w
  refine uA 8 rfl<|Hq (ae (ak rfl rfl) (br (by(rfl))))<|uC 13 rfl<|WC.ret ?_
  exact aw rfl ⟨_,rfl,fun _=>⟨by simp,fun s hs=>(by cases hs)⟩,he.k fun k hk _=>hk⟩
 |[s],h1=>
  obtain⟨s',b,o,cs,es,rfl,qA,_,hA,hR⟩:=h1 rfl
  obtain rfl:s=s':=by simpa using es
  rcases hR with hR|⟨_,hN⟩
  rotate_left
  ·obtain⟨z,n,o2,pf,lf,cf,fl,el,pa,la,ca,hz0,rfl⟩:=hN
   refine aR Tryz.func49 ?_
   have he:=Hi w
   refine uA 8 rfl<|Hq (ae (ak rfl rfl) (bk (by(simp))))<|uC 3 rfl<|Hg rfl rfl (ae (ak rfl rfl) (br (rfl)))<|uC 2 rfl<|Hg rfl rfl (bd Fo.h rfl rfl rfl)<|Hg rfl rfl (ad Fo.h rfl Xr hA (hn:=rfl))<|WL.lg rfl rfl rfl rfl (cD Fb.h rfl (nl hz0)) ?_
   rintro v1 w1 ⟨rfl,e1⟩
   have ns1:=e1.s
   refine uC 4 rfl<|WC.ret ?_
   replace he:=he.t e1
   exact aw rfl ⟨_,rfl,fun h=>(by cases h),he.k fun k hk _=>hk⟩
  have hR2:=hR.ex
  obtain⟨fv,pa,ca,rfl,hF,_⟩:=hR2
  obtain⟨pf,cf,rfl,_⟩:=hF.ex
  refine aR Tryz.func49 ?_
  have he:=Hi w
  refine uA 8 rfl<|Hq (ae (ak rfl rfl) (bk (by(simp))))<|uC 3 rfl<|Hg rfl rfl (ae (ak rfl rfl) (br (rfl)))<|uC 2 rfl<|Hg rfl rfl (bd Fo.h rfl rfl rfl)<|Hg rfl rfl (ad Fo.h rfl Xr hA (hn:=rfl))<|WL.lg rfl rfl rfl rfl (cD Fb.h rfl (oE hR hUT)) ?_
  rintro v1 w1 ⟨z,rfl,qz,e1⟩
  have ns1:=e1.s
  refine uC 4 rfl<|WC.ret ?_
  replace he:=he.t e1
  exact aw rfl ⟨_,rfl,fun h=>⟨by simp,fun f hf=>(by rw[List.mem_singleton]at hf;subst hf;exact qz h)⟩,he.k fun k hk _=>hk⟩
 |_::_::r,_=>
  refine aR Tryz.func49 ?_
  have he:=Hi w
  refine uA 8 rfl<|Hq (ae (ak rfl rfl) (bk (by(simp;omega))))<|uC 3 rfl<|Hg rfl rfl (ae (ak rfl rfl) (bk (by(simp;omega))))<|uC 9 rfl<|WC.ret ?_
  exact aw rfl ⟨_,rfl,fun h=>(by cases h),he.k fun k hk _=>hk⟩
end Go.Proofs.LL
