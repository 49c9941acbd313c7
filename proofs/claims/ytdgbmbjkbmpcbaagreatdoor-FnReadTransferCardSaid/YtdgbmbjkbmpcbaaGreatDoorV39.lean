/- Contracts of functions and own laws. Conditions: those that each theorem states. -/
import Derived.Test.YtdgbmbjkbmpcbaaGreatDoorV38
set_option linter.all false
set_option autoImplicit true
set_option relaxedAutoImplicit true
set_option maxRecDepth 20000
namespace Go.Proofs.LL
open Go Go.Proofs Go.RowKit
set_option maxHeartbeats 4000000
attribute [local irreducible] ar WL WC cq WT WX
theorem Aw{A:Prop}(h:A:=by
 have hIs:=(qOc.toB (A:=fun b=>wi1.heap.size≤b) (fun b hb _=>by have:=e2.s;have:=e3.s;have:=e4.s;have:=e5.s;omega)).m e9
 have hVn:=bg.push hV (((((((((am.refl wi1:am (fun b=>b<wi1.heap.size) wi1 wi1).t (e2.t e3)).t e4).t (Xd.t e5)).t Xd).t e6).t e7).t e8).t e9) (bg.one (p:=(code,_)) (hIs.k fun b _ h=>⟨by omega,fun e=>by have:=hlow b e;omega⟩)) e10o hob
 rw[← hf0,← hst]at hVn
 have hln:(zN s l d (some c) (i+1)).length=(zN s l d (some c) i).length+1:=by rw[hst,hf0];simp
 exact⟨(i+1,v10),sb,sb,⟨⟨_,by rw[hln];exact hO2,hVn⟩,by omega,(((((((((((hE.t (e2.t e3)).t e4).t Xd).t e5).t Xd).t e6).t e7).t e8).t e9).t e10))⟩,(by show 2-(i+1)<2-i;omega)⟩):A:=h
theorem Ax{A:Prop}(h:A:=by
 have hIs:=(qOc.toB (A:=fun b=>wi1.heap.size≤b) (fun b hb _=>by have:=e2.s;have:=e3.s;have:=e4.s;have:=e5.s;omega)).m e8
 have hVn:=bg.push hV ((((((((am.refl wi1:am (fun b=>b<wi1.heap.size) wi1 wi1).t (e2.t e3)).t e4).t Xd).t e5).t e6).t e7).t e8) (bg.one (p:=(code,_)) (hIs.k fun b _ h=>⟨by omega,fun e=>by have:=hlow b e;omega⟩)) e9o hob
 rw[← hf0,← hst]at hVn
 have hln:(zN s l d none (i+1)).length=(zN s l d none i).length+1:=by rw[hst,hf0];simp
 exact⟨(i+1,v9),sb,sb,⟨⟨_,by rw[hln];exact hO2,hVn⟩,by omega,(((((((((hE.t (e2.t e3)).t e4).t Xd).t e5).t e6).t e7).t e8).t e9))⟩,(by show 2-(i+1)<2-i;omega)⟩):A:=h
theorem Ay{A:Prop}(h:A:=by
 rw[hf0,List.append_nil]at hst
 have hOn:=hO.m (((am.refl wi1:am (fun b=>b<wi1.heap.size) wi1 wi1).t (e2.t e3)).t e4)
 have hVn:=hV.m' (((am.refl wi1:am (fun b=>b<wi1.heap.size) wi1 wi1).t (e2.t e3)).t e4) (fun b hb _=>hb)
 exact⟨(i+1,sv),sb,sb,⟨⟨cs,by rw[hst];exact hOn,by rw[hst];exact hVn⟩,by omega,(((hE.t (e2.t e3)).t e4))⟩,(by show 2-(i+1)<2-i;omega)⟩):A:=h
abbrev ie:=Int×List UInt8
def bg(A:Nat→Prop)(w:World):List ie→List Value→Prop
 |[],cs=>cs=[]
 |p::r,cs=>∃dv cs',cs= .int .i64 p.1::dv::cs'∧bT A w dv p.2∧bg A w r cs'
section
variable {A B:Nat→Prop} {w w':World}
theorem bg.m':∀ {ps:List ie} {cs:List Value},bg A w ps cs→am B w w'→(∀b,b<w.heap.size→A b→B b)→bg A w' ps cs
 |[],cs,h,_,_=>by simpa only[bg]using h
 |p::r,cs,h,e,hAB=>by
  simp only[bg]at h⊢
  obtain⟨dv,cs',h1,h2,h3⟩:=h
  exact⟨dv,cs',h1,h2.m e hAB,bg.m' h3 e hAB⟩
theorem bg.m(h:bg A w ps cs)(e:am B w w')(hAB:∀b,b<w.heap.size→A b→B b:=by(intro b hb1 hb2;first|exact trivial|exact hb2|((try dsimp only[Nb]at hb2⊢);omega))):bg A w' ps cs:=h.m' e hAB
theorem bg.k:∀ {ps:List ie} {cs:List Value},bg A w ps cs→(∀b,A b→B b)→bg B w ps cs
 |[],cs,h,_=>by simpa only[bg]using h
 |p::r,cs,h,hAB=>by
  simp only[bg]at h⊢
  obtain⟨dv,cs',h1,h2,h3⟩:=h
  exact⟨dv,cs',h1,h2.k (fun b _ h=>hAB b h),bg.k h3 hAB⟩
theorem bg.append:∀ {ps qs:List ie} {cs ds:List Value},bg A w ps cs→bg A w qs ds→bg A w (ps++qs) (cs++ds)
 |[],qs,cs,ds,h,h'=>by simp only[bg]at h;subst h;simpa using h'
 |p::r,qs,cs,ds,h,h'=>by
  simp only[bg]at h
  obtain⟨dv,cs',rfl,h2,h3⟩:=h
  simp only[List.cons_append,bg]
  exact⟨dv,_,rfl,h2,bg.append h3 h'⟩
theorem bg.one{p:ie}(h:bT A w dv p.2):bg A w [p] [.int .i64 p.1,dv]:=by
 simp only[bg]
 exact⟨dv,[],rfl,h,rfl⟩
theorem bg.len:∀ {ps:List ie} {cs:List Value},bg A w ps cs→cs.length=ps.length * 2
 |[],cs,h=>by simp only[bg]at h;simp[h]
 |p::r,cs,h=>by
  simp only[bg]at h
  obtain⟨dv,cs',rfl,h2,h3⟩:=h
  simp[bg.len h3,Nat.add_mul]
theorem bg.get:∀ {ps:List ie} {cs:List Value} {i:Nat} (hi:i<ps.length),bg A w ps cs→∃pre dv post,cs=pre++([.int .i64 ps[i].1,dv]++post)∧pre.length=i * 2∧bT A w dv ps[i].2
 |[],_,i,hi,_=>absurd hi (by simp)
 |p::r,cs,0,hi,h=>by
  simp only[bg]at h
  obtain⟨dv,cs',rfl,h2,h3⟩:=h
  exact⟨[],dv,cs',rfl,rfl,h2⟩
 |p::r,cs,i+1,hi,h=>by
  simp only[bg]at h
  obtain⟨dv,cs',rfl,h2,h3⟩:=h
  obtain⟨pre,d,post,rfl,e2,h4⟩:=bg.get (by simpa using hi) h3
  exact⟨.int .i64 p.1::dv::pre,d,post,rfl,by simp[e2];omega,h4⟩
end
structure A1 (N0:Nat) (w:World) (ps:List ie) (v:Value):Prop where
 ex:∃cs,aT N0 152 2 w v ps.length cs∧bg (fun b=>N0≤b∧v.ownBlock≠some b) w ps cs
def fx(code:Int)(size:Nat)(d:List UInt8):Option Nat→List ie
 |none=>if size=1∧255<d.length then[]else[(code,aI d.length size++([]++d))]
 |some c=>if size=1∧255<c then[]else if size=1∧255<d.length+size then[]else[(code,aI (d.length+size) size++(aI c size++d))]
def gi(s l:Int)(d:List UInt8)(c:Option Nat):List ie:=fx s 1 d c++fx l 4 d c
def ug:Option Nat→Int
 |none=> -1
 |some c=>c
theorem aT.lt(h:aT B e z w v n xs):∀b,v.ownBlock=some b→b<w.heap.size:=by
 intro b hb
 rcases h.row.2 with⟨rfl,_⟩|⟨g,cap,cur,rfl,h4,h5,_⟩
 ·simp[Value.ownBlock]at hb
 ·simp[Value.ownBlock]at hb
  subst hb
  exact(Array.getElem?_eq_some_iff.1 h5).1
theorem aT.cong{ys:List Value}(h:aT B e z w v n xs)(hx:xs=ys):aT B e z w v n ys:=hx▸h
theorem bg.weakenW{B:Nat→Prop}:∀ {ps:List ie} {cs:List Value},bg A w ps cs→(∀b,b<w.heap.size→A b→B b)→bg B w ps cs
 |[],cs,h,_=>by simpa only[bg]using h
 |p::r,cs,h,hAB=>by
  simp only[bg]at h⊢
  obtain⟨dv,cs',h1,h2,h3⟩:=h
  exact⟨dv,cs',h1,h2.k hAB,bg.weakenW h3 hAB⟩
theorem bg.push{N0:Nat}{sv v5:Value}(hV:bg (fun b=>N0≤b∧sv.ownBlock≠some b) wi ps cs)(he:am (fun b=>b<wi.heap.size) wi w4)(hy:bg (fun b=>N0≤b∧sv.ownBlock≠some b) w4 ps' c')
  (e5:am (fun k=>sv.ownBlock≠some k) w4 w5) (hob:v5.ownBlock=sv.ownBlock∨∀b,v5.ownBlock=some b→w4.heap.size≤b):bg (fun b=>N0≤b∧v5.ownBlock≠some b) w5 (ps++ps') (cs++c'):=by
 have h1:bg (fun b=>(N0≤b∧sv.ownBlock≠some b)∧b<w4.heap.size) w4 ps cs:=(hV.m' he (fun _ hb _=>hb)).weakenW fun b hb h=>⟨h,hb⟩
 have h2:bg (fun b=>(N0≤b∧sv.ownBlock≠some b)∧b<w4.heap.size) w4 ps' c':=hy.weakenW fun b hb h=>⟨h,hb⟩
 refine((h1.append h2).m' e5 (fun b _ h=>h.1.2)).k fun b h=>⟨h.1.1,fun e=>?_⟩
 rcases hob with h3|h3
 ·rw[h3]at e;exact h.1.2 e
 ·have:=h3 b e;omega
def zN(s l:Int)(d:List UInt8)(c:Option Nat):Nat→List ie
 |0=>[]
 |1=>fx s 1 d c
 |_=>gi s l d c
theorem dW{s l:Int}{c:Option Nat}(hd:bT A w dv d)(hl:d.length≤1000000000)(hc:∀n,c=some n→n≤1000000):
  ah TP 87 [.int .i64 s,.int .i64 l,dv,.int .i64 (ug c)] w fun r w'=>A1 w.heap.size w' (gi s l d c) r∧ay w w':=by
 have hd0:=hd
 obtain⟨pd,cd,rfl,hcd,hdd⟩:=hd
 refine aR Tryz.func87 ?_
 have he:=Hi w
 refine jA 12 rfl<|Hq (az (cs:=[_,_]) Fo.h rfl rfl)<|jC 1 rfl<|Hq (az (cs:=[_,_]) Fo.h rfl rfl) ?_
 have hs1:=he.s
 refine WL.l rfl (ll [_,_]) ?_
 rintro _ w1 ⟨rfl,hb1,e1⟩
 refine jD 4 rfl ?_
 have nq1:=e1.s
 have nx1:=hb1.lt
 replace he:=he.t e1
 refine WC.loop2 (ι:=(Nat×Value)) [(2,_),(3,_),(8,_),(18,_),(19,_)] (fun i=>[(9,i.2),(20,.int .i64 (i.1:Int))]) (fun i wi=>(∃cs,aT w1.heap.size 152 2 wi i.2 (zN s l d c i.1).length cs∧bg (fun b=>w.heap.size≤b∧i.2.ownBlock≠some b) wi (zN s l d c i.1) cs)∧i.1≤2∧am (fun b=>b<w1.heap.size) w1 wi) (fun i=>2-i.1) (0,.slice none 0 0) sb sb (⟨⟨[],aT.nil _ _ _ _,rfl⟩,by omega,am.refl _⟩) ?_
 intro i wi1 hh;obtain⟨⟨cs,hO,hV⟩,nil2,hE⟩:=hh
 obtain⟨i,sv⟩:=i
 dsimp only at hO hV nil2
 have hwi:=hE.s
 rcases Nat.lt_or_ge i 2 with hi|hi
 replace hb1:=hb1.m hE
 ·have hbx:=hb1.at
  have hfm:∃code size,At wi1 w.heap.size (0+i * 2) [.int .i64 code,.int .i64 ((size:Nat):Int)]∧((i=0∧size=1∧code=s)∨(i=1∧size=4∧code=l)):=by
   rcases(show i=0∨i=1 by omega)with rfl|rfl
   ·exact⟨s,1,At.mid (pre:=[]) (c:=[.int .i64 s,.int .i64 1]) (post:=[.int .i64 l,.int .i64 4]) hbx,.inl ⟨rfl,rfl,rfl⟩⟩
   ·exact⟨l,4,At.mid (pre:=[.int .i64 s,.int .i64 1]) (c:=[.int .i64 l,.int .i64 4]) (post:=[]) hbx,.inr ⟨rfl,rfl,rfl⟩⟩
  obtain⟨code,size,hfa,hcs⟩:=hfm
  have hst:zN s l d c (i+1)=zN s l d c i++fx code size d c:=by
   rcases hcs with⟨rfl,rfl,rfl⟩|⟨rfl,rfl,rfl⟩<;>rfl
  have hsz:size=1∨size=4:=by omega
  have hlow:=hO.lt
  have hstl:(zN s l d c i).length≤2:=by
   rcases(show i=0∨i=1 by omega)with rfl|rfl
   ·simp[zN]
   ·simp only[zN,fx];split<;>(repeat' split)<;>simp
  replace he:=he.t hE
  have hdi:=(hd0.m he (fun b hb _=>hb)).k (B:=fun b=>b<wi1.heap.size) (fun b hb _=>hb)
  rcases c with _|c
  ·have hcv:ug none= -1:=rfl
   rcases hsz with hs1|hs4
   ·subst hs1
    rcases Nat.lt_or_ge 255 d.length with h5|h5
    ·refine jA 2 rfl<|lT rfl rfl<|jD 8 rfl<|Hq (bd Fo.h rfl rfl rfl hi)<|Hq (ad Fo.h rfl Xr hfa (hn:=rfl)) ?_
     have hs2:=he.s
     have hx2b1:=hb1.lt
     refine Ha fun w2 hb2 e2=>?_
     refine Ho rfl rfl hb2 fun w3 hb2 e3 hz3=>?_
     refine jD 9 rfl ?_
     replace he:=he.t (e2.t e3)
     have hs4:=he.s
     replace hb1:=hb1.m (e2.t e3)
     have hx4b1:=hb1.lt
     have hx4b2:=hb2.lt
     refine WL.l rfl (iu Fo.h) ?_
     rintro _ w4 ⟨rfl,ho4,e4⟩
     refine jD 6 rfl<|Hq (ae (bK rfl rfl) (decide_eq_false (by omega)))<|jD 3 rfl<|jA 4 rfl ?_
     replace hb2:=hb2.m e4
     refine ld rfl hb2 rfl<|Hq (ae (ak rfl rfl) (br (by omega)))<|jC 2 rfl<|Hg rfl rfl (ae (aS rfl rfl) (decide_eq_true (by omega)))<|jD 3 rfl<|WC.exit<|jA 1 rfl<|ai rfl rfl rfl<|jC 2 rfl ?_
     have hf0:fx code 1 d none=[]:=if_pos ⟨rfl,h5⟩
     exact Ay
    ·refine jA 2 rfl<|lT rfl rfl<|jD 8 rfl<|Hq (bd Fo.h rfl rfl rfl hi)<|Hq (ad Fo.h rfl Xr hfa (hn:=rfl)) ?_
     have hs2:=he.s
     have hx2b1:=hb1.lt
     refine Ha fun w2 hb2 e2=>?_
     refine Ho rfl rfl hb2 fun w3 hb2 e3 hz3=>?_
     refine jD 9 rfl ?_
     replace he:=he.t (e2.t e3)
     have hs4:=he.s
     replace hb1:=hb1.m (e2.t e3)
     have hx4b1:=hb1.lt
     have hx4b2:=hb2.lt
     refine WL.l rfl (iu Fo.h) ?_
     rintro _ w4 ⟨rfl,ho4,e4⟩
     refine jD 6 rfl<|Hq (ae (bK rfl rfl) (decide_eq_false (by omega)))<|jD 3 rfl<|jA 4 rfl ?_
     replace hb2:=hb2.m e4
     refine ld rfl hb2 rfl<|Hq (ae (ak rfl rfl) (br (by omega)))<|jC 2 rfl<|Hg rfl rfl (ae (aS rfl rfl) (decide_eq_false (by omega)))<|jD 4 rfl ?_
     replace hb1:=hb1.m e4
     replace hdi:=(hdi.m (e2.t e3)).m e4
     refine WC.regionDL 14 (tt [0,1,2,3,4,5,6,8,10]++ff [7,9,11]++tt [12]++ff [13,14]++tt [15]) (am (fun b=>b<w3.heap.size) _) mixed (by kernel_rfl) Vd<|jE 2 rfl<|dl rfl hb2 rfl<|jE 1 rfl<|He (fun _ hS=>bp Fo.h rfl (dZ (by omega) (by omega)))<|jE 1 rfl<|dl rfl hb2 rfl<|jE 2 rfl<|LL.cd rfl (cJ (k:=1) (by omega) (by omega)) ?_
     rintro v5 w5 ⟨hOb,e5⟩
     have nq4:=e4.s
     have nd:w4.drew.heap.size=w4.heap.size:=rfl
     refine⟨(Vd.t e5),?_⟩
     refine WD.l rfl rfl (bz (n:=1) Fo.h rfl rfl hOb (Src.own Fb.h ((ho4.m Xd).m e5) (by omega) rfl) (by have:=e5.s;omega) (by simp only[maxLen];omega) (by omega)) ?_
     rintro v6 w6 ⟨hOb,e6⟩
     refine⟨((Vd.t e5).t e6),?_⟩
     refine WD.l rfl rfl (bz (n:=1+0) Fo.h rfl rfl hOb (Src.isB Fb.h (((hdi.m Xd).m e5).m e6)) (by have:=e5.s;have:=e6.s;omega) (by simp only[maxLen];omega) (by omega)) ?_
     rintro v7 w7 ⟨hOb,e7⟩
     obtain⟨q7,c7,hq7,_,_⟩:=hOb.form
     subst hq7
     have qOb:=hOb
     refine⟨(((Vd.t e5).t e6).t e7),?_⟩
     refine He (fun _ hS=>az (cs:=[_,_]) Fo.h rfl rfl) ?_
     replace he:=((((he.t e4).t Xd).t e5).t e6).t e7
     have hs8:=he.s
     replace hb1:=(((hb1.m Xd).m e5).m e6).m e7
     have hx8b1:=hb1.lt
     replace hb2:=(((hb2.m Xd).m e5).m e6).m e7
     have hx8b2:=hb2.lt
     refine WD.l rfl rfl (ll [_]) ?_
     rintro _ w8 ⟨rfl,hb8,e8⟩
     refine⟨((((Vd.t e5).t e6).t e7).t e8),?_⟩
     refine WD.lL rfl rfl rfl (eF Fo.h rfl rfl (hO.m ((((((((am.refl wi1:am (fun b=>b<wi1.heap.size) wi1 wi1).t (e2.t e3)).t e4).t Xd).t e5).t e6).t e7).t e8)) (Src.at Fb.h hb8.at rfl rfl) (by have:=e2.s;have:=e3.s;have:=e4.s;have:=e5.s;have:=e6.s;have:=e7.s;have:=e8.s;have:w4.drew.heap.size=w4.heap.size:=rfl;omega) (by simp only[maxLen];omega) (by omega)) ?_
     rintro v9 w9 ⟨hO2,e9,hob⟩
     have e9o:=e9
     have e9:=aT.evo (w0:=w) (hO.m ((((((((am.refl wi1:am (fun b=>b<wi1.heap.size) wi1 wi1).t (e2.t e3)).t e4).t Xd).t e5).t e6).t e7).t e8)) e9o
     refine WT.q rfl rfl (ap rfl)<|WT.nil<|jA 1 rfl<|ai rfl rfl rfl<|jC 2 rfl ?_
     have hf0:fx code 1 d none=[(code,aI d.length 1++([]++d))]:=by show(if 1=1∧255<d.length then[]else[(code,aI d.length 1++([]++d))])=_;exact if_neg (by omega)
     have qOc:=qOb.cong (ys:=bc (aI d.length 1++([]++d))) (by simp[bc,List.map_append,List.append_assoc,ug,show((d.length:Int)+4).toNat=d.length+4 by omega])
     exact Ax
   ·subst hs4
    skip
    refine jA 2 rfl<|lT rfl rfl<|jD 8 rfl<|Hq (bd Fo.h rfl rfl rfl hi)<|Hq (ad Fo.h rfl Xr hfa (hn:=rfl)) ?_
    have hs2:=he.s
    have hx2b1:=hb1.lt
    refine Ha fun w2 hb2 e2=>?_
    refine Ho rfl rfl hb2 fun w3 hb2 e3 hz3=>?_
    refine jD 9 rfl ?_
    replace he:=he.t (e2.t e3)
    have hs4:=he.s
    replace hb1:=hb1.m (e2.t e3)
    have hx4b1:=hb1.lt
    have hx4b2:=hb2.lt
    refine WL.l rfl (iu Fo.h) ?_
    rintro _ w4 ⟨rfl,ho4,e4⟩
    refine jD 6 rfl<|Hq (ae (bK rfl rfl) (decide_eq_false (by omega)))<|jD 3 rfl<|jA 4 rfl ?_
    replace hb2:=hb2.m e4
    refine ld rfl hb2 rfl<|Hq (ae (ak rfl rfl) (bk (by omega)))<|jD 7 rfl ?_
    replace hb1:=hb1.m e4
    replace hdi:=(hdi.m (e2.t e3)).m e4
    refine WC.regionDL 14 (tt [0,1,2,3,4,5,6,8,10]++ff [7,9,11]++tt [12]++ff [13,14]++tt [15]) (am (fun b=>b<w3.heap.size) _) mixed (by kernel_rfl) Vd<|jE 2 rfl<|dl rfl hb2 rfl<|jE 1 rfl<|He (fun _ hS=>bp Fo.h rfl (dZ (by omega) (by omega)))<|jE 1 rfl<|dl rfl hb2 rfl<|jE 2 rfl<|LL.cd rfl (cJ (k:=4) (by omega) (by omega)) ?_
    rintro v5 w5 ⟨hOb,e5⟩
    have nq4:=e4.s
    have nd:w4.drew.heap.size=w4.heap.size:=rfl
    refine⟨(Vd.t e5),?_⟩
    refine WD.l rfl rfl (bz (n:=4) Fo.h rfl rfl hOb (Src.own Fb.h ((ho4.m Xd).m e5) (by omega) rfl) (by have:=e5.s;omega) (by simp only[maxLen];omega) (by omega)) ?_
    rintro v6 w6 ⟨hOb,e6⟩
    refine⟨((Vd.t e5).t e6),?_⟩
    refine WD.l rfl rfl (bz (n:=4+0) Fo.h rfl rfl hOb (Src.isB Fb.h (((hdi.m Xd).m e5).m e6)) (by have:=e5.s;have:=e6.s;omega) (by simp only[maxLen];omega) (by omega)) ?_
    rintro v7 w7 ⟨hOb,e7⟩
    obtain⟨q7,c7,hq7,_,_⟩:=hOb.form
    subst hq7
    have qOb:=hOb
    refine⟨(((Vd.t e5).t e6).t e7),?_⟩
    refine He (fun _ hS=>az (cs:=[_,_]) Fo.h rfl rfl) ?_
    replace he:=((((he.t e4).t Xd).t e5).t e6).t e7
    have hs8:=he.s
    replace hb1:=(((hb1.m Xd).m e5).m e6).m e7
    have hx8b1:=hb1.lt
    replace hb2:=(((hb2.m Xd).m e5).m e6).m e7
    have hx8b2:=hb2.lt
    refine WD.l rfl rfl (ll [_]) ?_
    rintro _ w8 ⟨rfl,hb8,e8⟩
    refine⟨((((Vd.t e5).t e6).t e7).t e8),?_⟩
    refine WD.lL rfl rfl rfl (eF Fo.h rfl rfl (hO.m ((((((((am.refl wi1:am (fun b=>b<wi1.heap.size) wi1 wi1).t (e2.t e3)).t e4).t Xd).t e5).t e6).t e7).t e8)) (Src.at Fb.h hb8.at rfl rfl) (by have:=e2.s;have:=e3.s;have:=e4.s;have:=e5.s;have:=e6.s;have:=e7.s;have:=e8.s;have:w4.drew.heap.size=w4.heap.size:=rfl;omega) (by simp only[maxLen];omega) (by omega)) ?_
    rintro v9 w9 ⟨hO2,e9,hob⟩
    have e9o:=e9
    have e9:=aT.evo (w0:=w) (hO.m ((((((((am.refl wi1:am (fun b=>b<wi1.heap.size) wi1 wi1).t (e2.t e3)).t e4).t Xd).t e5).t e6).t e7).t e8)) e9o
    refine WT.q rfl rfl (ap rfl)<|WT.nil<|jA 1 rfl<|ai rfl rfl rfl<|jC 2 rfl ?_
    have hf0:fx code 4 d none=[(code,aI d.length 4++([]++d))]:=by show(if 4=1∧255<d.length then[]else[(code,aI d.length 4++([]++d))])=_;exact if_neg (by omega)
    have qOc:=qOb.cong (ys:=bc (aI d.length 4++([]++d))) (by simp[bc,List.map_append,List.append_assoc,ug,show((d.length:Int)+4).toNat=d.length+4 by omega])
    exact Ax
  ·have hcv:ug (some c)=(c:Int):=rfl
   have hcb:=hc c rfl
   rcases hsz with hs1|hs4
   ·subst hs1
    rcases Nat.lt_or_ge 255 c with h4|h4
    ·refine jA 2 rfl<|lT rfl rfl<|jD 8 rfl<|Hq (bd Fo.h rfl rfl rfl hi)<|Hq (ad Fo.h rfl Xr hfa (hn:=rfl)) ?_
     have hs2:=he.s
     have hx2b1:=hb1.lt
     refine Ha fun w2 hb2 e2=>?_
     refine Ho rfl rfl hb2 fun w3 hb2 e3 hz3=>?_
     refine jD 9 rfl ?_
     replace he:=he.t (e2.t e3)
     have hs4:=he.s
     replace hb1:=hb1.m (e2.t e3)
     have hx4b1:=hb1.lt
     have hx4b2:=hb2.lt
     refine WL.l rfl (iu Fo.h) ?_
     rintro _ w4 ⟨rfl,ho4,e4⟩
     refine jD 6 rfl<|Hq (ae (bK rfl rfl) (decide_eq_true (by omega)))<|jD 6 rfl ?_
     replace hb2:=hb2.m e4
     refine ld rfl hb2 rfl<|Hq (ae (ak rfl rfl) (br (by omega)))<|jC 2 rfl<|Hg rfl rfl (ae (aS rfl rfl) (decide_eq_true (by omega)))<|jD 3 rfl<|WC.exit<|jA 1 rfl<|ai rfl rfl rfl<|jC 2 rfl ?_
     have hf0:fx code 1 d (some c)=[]:=if_pos ⟨rfl,h4⟩
     exact Ay
    ·rcases Nat.lt_or_ge 255 (d.length+1)with h5|h5
     ·refine jA 2 rfl<|lT rfl rfl<|jD 8 rfl<|Hq (bd Fo.h rfl rfl rfl hi)<|Hq (ad Fo.h rfl Xr hfa (hn:=rfl)) ?_
      have hs2:=he.s
      have hx2b1:=hb1.lt
      refine Ha fun w2 hb2 e2=>?_
      refine Ho rfl rfl hb2 fun w3 hb2 e3 hz3=>?_
      refine jD 9 rfl ?_
      replace he:=he.t (e2.t e3)
      have hs4:=he.s
      replace hb1:=hb1.m (e2.t e3)
      have hx4b1:=hb1.lt
      have hx4b2:=hb2.lt
      refine WL.l rfl (iu Fo.h) ?_
      rintro _ w4 ⟨rfl,ho4,e4⟩
      refine jD 6 rfl<|Hq (ae (bK rfl rfl) (decide_eq_true (by omega)))<|jD 6 rfl ?_
      replace hb2:=hb2.m e4
      refine ld rfl hb2 rfl<|Hq (ae (ak rfl rfl) (br (by omega)))<|jC 2 rfl<|Hg rfl rfl (ae (aS rfl rfl) (decide_eq_false (by omega)))<|jD 4 rfl ?_
      replace hb1:=hb1.m e4
      replace hdi:=(hdi.m (e2.t e3)).m e4
      refine WC.regionD (tt [0,1,2,3,4,5,6,7]++ff [8]++tt [9,10]) (ay _) mixed (by kernel_rfl) Xd<|jE 2 rfl<|dl rfl hb2 rfl<|He (fun _ hS=>jj rfl rfl rfl (by omega) (by omega))<|jE 1 rfl<|He (fun _ hS=>bp Fo.h rfl (dZ (by omega) (by omega)))<|jE 1 rfl<|dl rfl hb2 rfl<|LL.cd rfl (cJ (k:=1) (by omega) (by omega)) ?_
      rintro v5 w5 ⟨hHd,e5⟩
      refine⟨(Vd.t e5),?_⟩
      refine jE 2 rfl<|WD.nil<|jA 4 rfl ?_
      replace hb2:=(hb2.m Xd).m e5
      refine ld rfl hb2 rfl<|Hq (ae (ak rfl rfl) (br (by omega)))<|jC 2 rfl<|Hg rfl rfl (ae (aS rfl rfl) (decide_eq_true (by omega)))<|jD 3 rfl<|WC.exit<|jA 1 rfl<|ai rfl rfl rfl<|jC 2 rfl ?_
      have hf0:fx code 1 d (some c)=[]:=by show(if 1=1∧255<c then[]else if 1=1∧255<d.length+1 then[]else _)=_;rw[if_neg (by omega),if_pos (by omega)]
      rw[hf0,List.append_nil]at hst
      have hOn:=hO.m ((((am.refl wi1:am (fun b=>b<wi1.heap.size) wi1 wi1).t (e2.t e3)).t e4).t (Xd.t e5))
      have hVn:=hV.m' ((((am.refl wi1:am (fun b=>b<wi1.heap.size) wi1 wi1).t (e2.t e3)).t e4).t (Xd.t e5)) (fun b hb _=>hb)
      exact⟨(i+1,sv),sb,sb,⟨⟨cs,by rw[hst];exact hOn,by rw[hst];exact hVn⟩,by omega,(((((hE.t (e2.t e3)).t e4).t Xd).t e5))⟩,(by show 2-(i+1)<2-i;omega)⟩
     ·refine jA 2 rfl<|lT rfl rfl<|jD 8 rfl<|Hq (bd Fo.h rfl rfl rfl hi)<|Hq (ad Fo.h rfl Xr hfa (hn:=rfl)) ?_
      have hs2:=he.s
      have hx2b1:=hb1.lt
      refine Ha fun w2 hb2 e2=>?_
      refine Ho rfl rfl hb2 fun w3 hb2 e3 hz3=>?_
      refine jD 9 rfl ?_
      replace he:=he.t (e2.t e3)
      have hs4:=he.s
      replace hb1:=hb1.m (e2.t e3)
      have hx4b1:=hb1.lt
      have hx4b2:=hb2.lt
      refine WL.l rfl (iu Fo.h) ?_
      rintro _ w4 ⟨rfl,ho4,e4⟩
      refine jD 6 rfl<|Hq (ae (bK rfl rfl) (decide_eq_true (by omega)))<|jD 6 rfl ?_
      replace hb2:=hb2.m e4
      refine ld rfl hb2 rfl<|Hq (ae (ak rfl rfl) (br (by omega)))<|jC 2 rfl<|Hg rfl rfl (ae (aS rfl rfl) (decide_eq_false (by omega)))<|jD 4 rfl ?_
      replace hb1:=hb1.m e4
      replace hdi:=(hdi.m (e2.t e3)).m e4
      refine WC.regionD (tt [0,1,2,3,4,5,6,7]++ff [8]++tt [9,10]) (am (fun b=>b<w3.heap.size) _) mixed (by kernel_rfl) Vd<|jE 2 rfl<|dl rfl hb2 rfl<|He (fun _ hS=>jj rfl rfl rfl (by omega) (by omega))<|jE 1 rfl<|He (fun _ hS=>bp Fo.h rfl (dZ (by omega) (by omega)))<|jE 1 rfl<|dl rfl hb2 rfl<|LL.cd rfl (cJ (k:=1) (by omega) (by omega)) ?_
      rintro v5 w5 ⟨hHd,e5⟩
      refine⟨(Vd.t e5),?_⟩
      refine jE 2 rfl<|WD.nil<|jA 4 rfl ?_
      replace hb2:=(hb2.m Xd).m e5
      refine ld rfl hb2 rfl<|Hq (ae (ak rfl rfl) (br (by omega)))<|jC 2 rfl<|Hg rfl rfl (ae (aS rfl rfl) (decide_eq_false (by omega)))<|jD 4 rfl ?_
      replace hb1:=(hb1.m Xd).m e5
      replace hdi:=(hdi.m Xd).m e5
      replace ho4:=(ho4.m Xd).m e5
      refine WC.regionDL 14 (tt [0,1,2,3,4,5,6,8,10]++ff [7,9,11]++tt [12]++ff [13,14]++tt [15]) (am (fun b=>b<w3.heap.size) _) mixed (by kernel_rfl) Vd<|jE 2 rfl<|dl rfl hb2 rfl<|jE 1 rfl<|He (fun _ hS=>bp Fo.h rfl (dZ (by omega) (by omega)))<|jE 1 rfl<|dl rfl hb2 rfl<|jE 2 rfl<|LL.cd rfl (cJ (k:=1) (by omega) (by omega)) ?_
      rintro v6 w6 ⟨hOb,e6⟩
      have nq4:=e4.s
      have nd:w4.drew.heap.size=w4.heap.size:=rfl
      have nq5:w4.heap.size≤w5.heap.size:=e5.s
      have nd5:w5.drew.heap.size=w5.heap.size:=rfl
      refine⟨(Vd.t e6),?_⟩
      refine WD.l rfl rfl (bz (n:=1) Fo.h rfl rfl hOb (Src.own Fb.h ((hHd.m Xd).m e6) (by omega) (nn _)) (by have:=e6.s;omega) (by simp only[maxLen];omega) (by omega)) ?_
      rintro v7 w7 ⟨hOb,e7⟩
      refine⟨((Vd.t e6).t e7),?_⟩
      refine WD.l rfl rfl (bz Fo.h rfl rfl hOb (Src.isB Fb.h (((hdi.m Xd).m e6).m e7)) (by have:=e6.s;have:=e7.s;omega) (by simp only[maxLen];omega) (by omega)) ?_
      rintro v8 w8 ⟨hOb,e8⟩
      obtain⟨q8,c8,hq8,_,_⟩:=hOb.form
      subst hq8
      have qOb:=hOb
      refine⟨(((Vd.t e6).t e7).t e8),?_⟩
      refine He (fun _ hS=>az (cs:=[_,_]) Fo.h rfl rfl) ?_
      replace he:=((((((he.t e4).t Xd).t e5).t Xd).t e6).t e7).t e8
      have hs9:=he.s
      replace hb1:=(((hb1.m Xd).m e6).m e7).m e8
      have hx9b1:=hb1.lt
      replace hb2:=(((hb2.m Xd).m e6).m e7).m e8
      have hx9b2:=hb2.lt
      refine WD.l rfl rfl (ll [_]) ?_
      rintro _ w9 ⟨rfl,hb9,e9⟩
      refine⟨((((Vd.t e6).t e7).t e8).t e9),?_⟩
      refine WD.lL rfl rfl rfl (eF Fo.h rfl rfl (hO.m (((((((((am.refl wi1:am (fun b=>b<wi1.heap.size) wi1 wi1).t (e2.t e3)).t e4).t (Xd.t e5)).t Xd).t e6).t e7).t e8).t e9)) (Src.at Fb.h hb9.at rfl rfl) (by have:=e2.s;have:=e3.s;have:=e4.s;have:=e5.s;have:=e6.s;have:=e7.s;have:=e8.s;have:=e9.s;have:w4.drew.heap.size=w4.heap.size:=rfl;have:w5.drew.heap.size=w5.heap.size:=rfl;omega) (by simp only[maxLen];omega) (by omega)) ?_
      rintro v10 w10 ⟨hO2,e10,hob⟩
      have e10o:=e10
      have e10:=aT.evo (w0:=w) (hO.m (((((((((am.refl wi1:am (fun b=>b<wi1.heap.size) wi1 wi1).t (e2.t e3)).t e4).t (Xd.t e5)).t Xd).t e6).t e7).t e8).t e9)) e10o
      refine WT.q rfl rfl (ap rfl)<|WT.nil<|jA 1 rfl<|ai rfl rfl rfl<|jC 2 rfl ?_
      have hf0:fx code 1 d (some c)=[(code,aI (d.length+1) 1++(aI c 1++d))]:=by show(if 1=1∧255<c then[]else if 1=1∧255<d.length+1 then[]else[(code,aI (d.length+1) 1++(aI c 1++d))])=_;rw[if_neg (by omega),if_neg (by omega)]
      have qOc:=qOb.cong (ys:=bc (aI (d.length+1) 1++(aI c 1++d))) (by simp[bc,List.map_append,List.append_assoc,ug,show((d.length:Int)+4).toNat=d.length+4 by omega])
      exact Aw
   ·subst hs4
    skip
    refine jA 2 rfl<|lT rfl rfl<|jD 8 rfl<|Hq (bd Fo.h rfl rfl rfl hi)<|Hq (ad Fo.h rfl Xr hfa (hn:=rfl)) ?_
    have hs2:=he.s
    have hx2b1:=hb1.lt
    refine Ha fun w2 hb2 e2=>?_
    refine Ho rfl rfl hb2 fun w3 hb2 e3 hz3=>?_
    refine jD 9 rfl ?_
    replace he:=he.t (e2.t e3)
    have hs4:=he.s
    replace hb1:=hb1.m (e2.t e3)
    have hx4b1:=hb1.lt
    have hx4b2:=hb2.lt
    refine WL.l rfl (iu Fo.h) ?_
    rintro _ w4 ⟨rfl,ho4,e4⟩
    refine jD 6 rfl<|Hq (ae (bK rfl rfl) (decide_eq_true (by omega)))<|jD 6 rfl ?_
    replace hb2:=hb2.m e4
    refine ld rfl hb2 rfl<|Hq (ae (ak rfl rfl) (bk (by omega)))<|jD 7 rfl ?_
    replace hb1:=hb1.m e4
    replace hdi:=(hdi.m (e2.t e3)).m e4
    refine WC.regionD (tt [0,1,2,3,4,5,6,7]++ff [8]++tt [9,10]) (am (fun b=>b<w3.heap.size) _) mixed (by kernel_rfl) Vd<|jE 2 rfl<|dl rfl hb2 rfl<|He (fun _ hS=>jj rfl rfl rfl (by omega) (by omega))<|jE 1 rfl<|He (fun _ hS=>bp Fo.h rfl (dZ (by omega) (by omega)))<|jE 1 rfl<|dl rfl hb2 rfl<|LL.cd rfl (cJ (k:=4) (by omega) (by omega)) ?_
    rintro v5 w5 ⟨hHd,e5⟩
    refine⟨(Vd.t e5),?_⟩
    refine jE 2 rfl<|WD.nil<|jA 4 rfl ?_
    replace hb2:=(hb2.m Xd).m e5
    refine ld rfl hb2 rfl<|Hq (ae (ak rfl rfl) (bk (by omega)))<|jD 7 rfl ?_
    replace hb1:=(hb1.m Xd).m e5
    replace hdi:=(hdi.m Xd).m e5
    replace ho4:=(ho4.m Xd).m e5
    refine WC.regionDL 14 (tt [0,1,2,3,4,5,6,8,10]++ff [7,9,11]++tt [12]++ff [13,14]++tt [15]) (am (fun b=>b<w3.heap.size) _) mixed (by kernel_rfl) Vd<|jE 2 rfl<|dl rfl hb2 rfl<|jE 1 rfl<|He (fun _ hS=>bp Fo.h rfl (dZ (by omega) (by omega)))<|jE 1 rfl<|dl rfl hb2 rfl<|jE 2 rfl<|LL.cd rfl (cJ (k:=4) (by omega) (by omega)) ?_
    rintro v6 w6 ⟨hOb,e6⟩
    have nq4:=e4.s
    have nd:w4.drew.heap.size=w4.heap.size:=rfl
    have nq5:w4.heap.size≤w5.heap.size:=e5.s
    have nd5:w5.drew.heap.size=w5.heap.size:=rfl
    refine⟨(Vd.t e6),?_⟩
    refine WD.l rfl rfl (bz (n:=4) Fo.h rfl rfl hOb (Src.own Fb.h ((hHd.m Xd).m e6) (by omega) (nn _)) (by have:=e6.s;omega) (by simp only[maxLen];omega) (by omega)) ?_
    rintro v7 w7 ⟨hOb,e7⟩
    refine⟨((Vd.t e6).t e7),?_⟩
    refine WD.l rfl rfl (bz Fo.h rfl rfl hOb (Src.isB Fb.h (((hdi.m Xd).m e6).m e7)) (by have:=e6.s;have:=e7.s;omega) (by simp only[maxLen];omega) (by omega)) ?_
    rintro v8 w8 ⟨hOb,e8⟩
    obtain⟨q8,c8,hq8,_,_⟩:=hOb.form
    subst hq8
    have qOb:=hOb
    refine⟨(((Vd.t e6).t e7).t e8),?_⟩
    refine He (fun _ hS=>az (cs:=[_,_]) Fo.h rfl rfl) ?_
    replace he:=((((((he.t e4).t Xd).t e5).t Xd).t e6).t e7).t e8
    have hs9:=he.s
    replace hb1:=(((hb1.m Xd).m e6).m e7).m e8
    have hx9b1:=hb1.lt
    replace hb2:=(((hb2.m Xd).m e6).m e7).m e8
    have hx9b2:=hb2.lt
    refine WD.l rfl rfl (ll [_]) ?_
    rintro _ w9 ⟨rfl,hb9,e9⟩
    refine⟨((((Vd.t e6).t e7).t e8).t e9),?_⟩
    refine WD.lL rfl rfl rfl (eF Fo.h rfl rfl (hO.m (((((((((am.refl wi1:am (fun b=>b<wi1.heap.size) wi1 wi1).t (e2.t e3)).t e4).t (Xd.t e5)).t Xd).t e6).t e7).t e8).t e9)) (Src.at Fb.h hb9.at rfl rfl) (by have:=e2.s;have:=e3.s;have:=e4.s;have:=e5.s;have:=e6.s;have:=e7.s;have:=e8.s;have:=e9.s;have:w4.drew.heap.size=w4.heap.size:=rfl;have:w5.drew.heap.size=w5.heap.size:=rfl;omega) (by simp only[maxLen];omega) (by omega)) ?_
    rintro v10 w10 ⟨hO2,e10,hob⟩
    have e10o:=e10
    have e10:=aT.evo (w0:=w) (hO.m (((((((((am.refl wi1:am (fun b=>b<wi1.heap.size) wi1 wi1).t (e2.t e3)).t e4).t (Xd.t e5)).t Xd).t e6).t e7).t e8).t e9)) e10o
    refine WT.q rfl rfl (ap rfl)<|WT.nil<|jA 1 rfl<|ai rfl rfl rfl<|jC 2 rfl ?_
    have hf0:fx code 4 d (some c)=[(code,aI (d.length+4) 4++(aI c 4++d))]:=by show(if 4=1∧255<c then[]else if 4=1∧255<d.length+4 then[]else[(code,aI (d.length+4) 4++(aI c 4++d))])=_;rw[if_neg (by omega),if_neg (by omega)]
    have qOc:=qOb.cong (ys:=bc (aI (d.length+4) 4++(aI c 4++d))) (by simp[bc,List.map_append,List.append_assoc,ug,show((d.length:Int)+4).toNat=d.length+4 by omega])
    exact Aw
 ·obtain rfl:i=2:=by omega
  refine jA 2 rfl<|lF rfl rfl<|jD 3 rfl<|WC.exit<|jA 5 rfl<|WC.ret ?_
  replace he:=he.t hE
  exact aw rfl ⟨⟨cs,hO.low nq1,hV⟩,he.k fun k hk _=>hk⟩
end Go.Proofs.LL
namespace Go.Proofs.LL
open Go Go.RowKit
def Cp(k:Nat):Code→Option Code
 | .seq a b=>match Cp k a with
  |some c=>some c
  |none=>Cp k b
 | .cond _ a b=>match Cp k a with
  |some c=>some c
  |none=>Cp k b
 | .block _ c=>Cp k c
 | .loop c=>Cp k c
 | .scope c=>Cp k c
 | .region i o d=>bif Nat.beq i k then some (.region i o d)else none
 |_=>none
def cg(f:Func)(k:Nat):Code:=match f.body with
 |some c=>match Cp k c with
  |some r=>r
  |none=> .skip
 |none=> .skip
end Go.Proofs.LL
