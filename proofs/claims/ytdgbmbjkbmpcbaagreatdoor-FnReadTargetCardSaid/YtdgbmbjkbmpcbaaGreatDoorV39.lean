/- Own laws of frames, operations and loops, and contracts of functions of the program. Conditions: those that each theorem states. -/
import Derived.Test.YtdgbmbjkbmpcbaaGreatDoorV38
set_option linter.all false
set_option maxRecDepth 20000
namespace Go.Proofs.LL
open Go Go.Proofs Go.RowKit
set_option maxHeartbeats 4000000
attribute [local irreducible] RunOp WL WC WDL WT WX
theorem lu{A:Prop}(h:A:=by
 have hIs:=(qOc.toB (A:=fun b=>wi1.heap.size≤b) (fun b hb _=>by have:=e2.size;have:=e3.size;have:=e4.size;have:=e5.size;omega)).mono e9
 have hVn:=am.push hV (((((((((Evo.refl wi1:Evo (fun b=>b<wi1.heap.size) wi1 wi1).then (e2.then e3)).then e4).then ((Ext.drew _).then e5)).then (Ext.drew _)).then e6).then e7).then e8).then e9) (am.one (p:=(code,_)) (hIs.weaken fun b _ h=>⟨by omega,fun e=>by have:=hlow b e;omega⟩)) e10o hob
 rw[← hf0,← hst]at hVn
 have hln:(lW s l d (some c) (i+1)).length=(lW s l d (some c) i).length+1:=by rw[hst,hf0];simp
 exact⟨(i+1,v10),sb,sb,⟨⟨_,by rw[hln];exact hO2,hVn⟩,by omega,(((((((((((hE.then (e2.then e3)).then e4).then (Ext.drew _)).then e5).then (Ext.drew _)).then e6).then e7).then e8).then e9).then e10))⟩,(by show 2-(i+1)<2-i;omega)⟩):A:=h
theorem lE{A:Prop}(h:A:=by
 have hIs:=(qOc.toB (A:=fun b=>wi1.heap.size≤b) (fun b hb _=>by have:=e2.size;have:=e3.size;have:=e4.size;have:=e5.size;omega)).mono e8
 have hVn:=am.push hV ((((((((Evo.refl wi1:Evo (fun b=>b<wi1.heap.size) wi1 wi1).then (e2.then e3)).then e4).then (Ext.drew _)).then e5).then e6).then e7).then e8) (am.one (p:=(code,_)) (hIs.weaken fun b _ h=>⟨by omega,fun e=>by have:=hlow b e;omega⟩)) e9o hob
 rw[← hf0,← hst]at hVn
 have hln:(lW s l d none (i+1)).length=(lW s l d none i).length+1:=by rw[hst,hf0];simp
 exact⟨(i+1,v9),sb,sb,⟨⟨_,by rw[hln];exact hO2,hVn⟩,by omega,(((((((((hE.then (e2.then e3)).then e4).then (Ext.drew _)).then e5).then e6).then e7).then e8).then e9))⟩,(by show 2-(i+1)<2-i;omega)⟩):A:=h
theorem mn{A:Prop}(h:A:=by
 rw[hf0,List.append_nil]at hst
 have hOn:=hO.mono (((Evo.refl wi1:Evo (fun b=>b<wi1.heap.size) wi1 wi1).then (e2.then e3)).then e4)
 have hVn:=hV.mono' (((Evo.refl wi1:Evo (fun b=>b<wi1.heap.size) wi1 wi1).then (e2.then e3)).then e4) (fun b hb _=>hb)
 exact⟨(i+1,sv),sb,sb,⟨⟨cs,by rw[hst];exact hOn,by rw[hst];exact hVn⟩,by omega,(((hE.then (e2.then e3)).then e4))⟩,(by show 2-(i+1)<2-i;omega)⟩):A:=h
abbrev cj:=Int×List UInt8
def am(A:Nat→Prop)(w:World):List cj→List Value→Prop
 |[],cs=>cs=[]
 |p::r,cs=>∃dv cs',cs= .int .i64 p.1::dv::cs'∧IsB A w dv p.2∧am A w r cs'
section
variable {A B:Nat→Prop} {w w':World}
theorem am.mono':∀ {ps:List cj} {cs:List Value},am A w ps cs→Evo B w w'→(∀b,b<w.heap.size→A b→B b)→am A w' ps cs
 |[],cs,h,_,_=>by simpa only[am]using h
 |p::r,cs,h,e,hAB=>by
  simp only[am]at h⊢
  obtain⟨dv,cs',h1,h2,h3⟩:=h
  exact⟨dv,cs',h1,h2.mono e hAB,am.mono' h3 e hAB⟩
theorem am.mono{ps:List cj}{cs:List Value}(h:am A w ps cs)(e:Evo B w w')(hAB:∀b,b<w.heap.size→A b→B b:=by(intro b hb1 hb2;first|exact trivial|exact hb2|((try dsimp only[Nb]at hb2⊢);omega))):am A w' ps cs:=h.mono' e hAB
theorem am.weaken:∀ {ps:List cj} {cs:List Value},am A w ps cs→(∀b,A b→B b)→am B w ps cs
 |[],cs,h,_=>by simpa only[am]using h
 |p::r,cs,h,hAB=>by
  simp only[am]at h⊢
  obtain⟨dv,cs',h1,h2,h3⟩:=h
  exact⟨dv,cs',h1,h2.weaken (fun b _ h=>hAB b h),am.weaken h3 hAB⟩
theorem am.append:∀ {ps qs:List cj} {cs ds:List Value},am A w ps cs→am A w qs ds→am A w (ps++qs) (cs++ds)
 |[],qs,cs,ds,h,h'=>by simp only[am]at h;subst h;simpa using h'
 |p::r,qs,cs,ds,h,h'=>by
  simp only[am]at h
  obtain⟨dv,cs',rfl,h2,h3⟩:=h
  simp only[List.cons_append,am]
  exact⟨dv,_,rfl,h2,am.append h3 h'⟩
theorem am.one{p:cj}{dv:Value}(h:IsB A w dv p.2):am A w [p] [.int .i64 p.1,dv]:=by
 simp only[am]
 exact⟨dv,[],rfl,h,rfl⟩
theorem am.len:∀ {ps:List cj} {cs:List Value},am A w ps cs→cs.length=ps.length * 2
 |[],cs,h=>by simp only[am]at h;simp[h]
 |p::r,cs,h=>by
  simp only[am]at h
  obtain⟨dv,cs',rfl,h2,h3⟩:=h
  simp[am.len h3,Nat.add_mul]
theorem am.get:∀ {ps:List cj} {cs:List Value} {i:Nat} (hi:i<ps.length),am A w ps cs→∃pre dv post,cs=pre++([.int .i64 ps[i].1,dv]++post)∧pre.length=i * 2∧IsB A w dv ps[i].2
 |[],_,i,hi,_=>absurd hi (by simp)
 |p::r,cs,0,hi,h=>by
  simp only[am]at h
  obtain⟨dv,cs',rfl,h2,h3⟩:=h
  exact⟨[],dv,cs',rfl,rfl,h2⟩
 |p::r,cs,i+1,hi,h=>by
  simp only[am]at h
  obtain⟨dv,cs',rfl,h2,h3⟩:=h
  obtain⟨pre,d,post,rfl,e2,h4⟩:=am.get (by simpa using hi) h3
  exact⟨.int .i64 p.1::dv::pre,d,post,rfl,by simp[e2];omega,h4⟩
end
structure nP (N0:Nat) (w:World) (ps:List cj) (v:Value):Prop where
 ex:∃cs,Own N0 152 2 w v ps.length cs∧am (fun b=>N0≤b∧v.ownBlock≠some b) w ps cs
def bo(code:Int)(size:Nat)(d:List UInt8):Option Nat→List cj
 |none=>if size=1∧255<d.length then[]else[(code,bigB d.length size++([]++d))]
 |some c=>if size=1∧255<c then[]else if size=1∧255<d.length+size then[]else[(code,bigB (d.length+size) size++(bigB c size++d))]
def bE(s l:Int)(d:List UInt8)(c:Option Nat):List cj:=bo s 1 d c++bo l 4 d c
def jp:Option Nat→Int
 |none=> -1
 |some c=>c
theorem Own.lt{B e z n:Nat}{w:World}{v:Value}{xs:List Value}(h:Own B e z w v n xs):∀b,v.ownBlock=some b→b<w.heap.size:=by
 intro b hb
 rcases h.row.2 with⟨rfl,_⟩|⟨g,cap,cur,rfl,h4,h5,_⟩
 ·simp[Value.ownBlock]at hb
 ·simp[Value.ownBlock]at hb
  subst hb
  exact(Array.getElem?_eq_some_iff.1 h5).1
theorem Own.cong{B e z n:Nat}{w:World}{v:Value}{xs ys:List Value}(h:Own B e z w v n xs)(hx:xs=ys):Own B e z w v n ys:=hx▸h
theorem am.weakenW{A B:Nat→Prop}{w:World}:∀ {ps:List cj} {cs:List Value},am A w ps cs→(∀b,b<w.heap.size→A b→B b)→am B w ps cs
 |[],cs,h,_=>by simpa only[am]using h
 |p::r,cs,h,hAB=>by
  simp only[am]at h⊢
  obtain⟨dv,cs',h1,h2,h3⟩:=h
  exact⟨dv,cs',h1,h2.weaken hAB,am.weakenW h3 hAB⟩
theorem am.push{N0:Nat}{wi w4 w5:World}{sv v5:Value}{cs c':List Value}{ps ps':List cj}(hV:am (fun b=>N0≤b∧sv.ownBlock≠some b) wi ps cs)(he:Evo (fun b=>b<wi.heap.size) wi w4)(hy:am (fun b=>N0≤b∧sv.ownBlock≠some b) w4 ps' c')
  (e5:Evo (fun k=>sv.ownBlock≠some k) w4 w5) (hob:v5.ownBlock=sv.ownBlock∨∀b,v5.ownBlock=some b→w4.heap.size≤b):am (fun b=>N0≤b∧v5.ownBlock≠some b) w5 (ps++ps') (cs++c'):=by
 have h1:am (fun b=>(N0≤b∧sv.ownBlock≠some b)∧b<w4.heap.size) w4 ps cs:=(hV.mono' he (fun _ hb _=>hb)).weakenW fun b hb h=>⟨h,hb⟩
 have h2:am (fun b=>(N0≤b∧sv.ownBlock≠some b)∧b<w4.heap.size) w4 ps' c':=hy.weakenW fun b hb h=>⟨h,hb⟩
 refine((h1.append h2).mono' e5 (fun b _ h=>h.1.2)).weaken fun b h=>⟨h.1.1,fun e=>?_⟩
 rcases hob with h3|h3
 ·rw[h3]at e;exact h.1.2 e
 ·have:=h3 b e;omega
def lW(s l:Int)(d:List UInt8)(c:Option Nat):Nat→List cj
 |0=>[]
 |1=>bo s 1 d c
 |_=>bE s l d c
theorem aP{A:Nat→Prop}{s l:Int}{dv:Value}{d:List UInt8}{c:Option Nat}{w:World}(hd:IsB A w dv d)(hl:d.length≤1000000000)(hc:∀n,c=some n→n≤1000000):
  Does TP 87 [.int .i64 s,.int .i64 l,dv,.int .i64 (jp c)] w fun r w'=>nP w.heap.size w' (bE s l d c) r∧Ext w w':=by
 have hd0:=hd
 obtain⟨pd,cd,rfl,hcd,hdd⟩:=hd
 refine do1 Tryz.func87 ?_
 have he:Evo (fun b=>b<w.heap.size) w w:=Evo.refl w
 refine jA 12 rfl<|WL.q rfl (r_bld (cs:=[_,_]) Fo.h rfl rfl)<|jC 1 rfl<|WL.q rfl (r_bld (cs:=[_,_]) Fo.h rfl rfl) ?_
 have hs1:=he.size
 refine WL.l rfl (ll [_,_]) ?_
 rintro _ w1 ⟨rfl,hb1,e1⟩
 refine jD 4 rfl ?_
 have nq1:=e1.size
 have nx1:=hb1.lt
 replace he:=he.then e1
 refine WC.loop2 (ι:=(Nat×Value)) [(2,_),(3,_),(8,_),(18,_),(19,_)] (fun i=>[(9,i.2),(20,.int .i64 (i.1:Int))]) (fun i wi=>(∃cs,Own w1.heap.size 152 2 wi i.2 (lW s l d c i.1).length cs∧am (fun b=>w.heap.size≤b∧i.2.ownBlock≠some b) wi (lW s l d c i.1) cs)∧i.1≤2∧Evo (fun b=>b<w1.heap.size) w1 wi) (fun i=>2-i.1) (0,.slice none 0 0) sb sb (⟨⟨[],Own.nil _ _ _ _,rfl⟩,by omega,Evo.refl _⟩) ?_
 intro i wi1 hh;obtain⟨⟨cs,hO,hV⟩,nil2,hE⟩:=hh
 obtain⟨i,sv⟩:=i
 dsimp only at hO hV nil2
 have hwi:=hE.size
 rcases Nat.lt_or_ge i 2 with hi|hi
 replace hb1:=hb1.mono hE
 ·have hbx:=hb1.at
  have hfm:∃code size,At wi1 w.heap.size (0+i * 2) [.int .i64 code,.int .i64 ((size:Nat):Int)]∧((i=0∧size=1∧code=s)∨(i=1∧size=4∧code=l)):=by
   rcases(show i=0∨i=1 by omega)with rfl|rfl
   ·exact⟨s,1,At.mid (pre:=[]) (c:=[.int .i64 s,.int .i64 1]) (post:=[.int .i64 l,.int .i64 4]) hbx,.inl ⟨rfl,rfl,rfl⟩⟩
   ·exact⟨l,4,At.mid (pre:=[.int .i64 s,.int .i64 1]) (c:=[.int .i64 l,.int .i64 4]) (post:=[]) hbx,.inr ⟨rfl,rfl,rfl⟩⟩
  obtain⟨code,size,hfa,hcs⟩:=hfm
  have hst:lW s l d c (i+1)=lW s l d c i++bo code size d c:=by
   rcases hcs with⟨rfl,rfl,rfl⟩|⟨rfl,rfl,rfl⟩<;>rfl
  have hsz:size=1∨size=4:=by omega
  have hlow:=hO.lt
  have hstl:(lW s l d c i).length≤2:=by
   rcases(show i=0∨i=1 by omega)with rfl|rfl
   ·simp[lW]
   ·simp only[lW,bo];split<;>(repeat' split)<;>simp
  replace he:=he.then hE
  have hdi:=(hd0.mono he (fun b hb _=>hb)).weaken (B:=fun b=>b<wi1.heap.size) (fun b hb _=>hb)
  rcases c with _|c
  ·have hcv:jp none= -1:=rfl
   rcases hsz with hs1|hs4
   ·subst hs1
    rcases Nat.lt_or_ge 255 d.length with h5|h5
    ·refine jA 2 rfl<|lT rfl rfl<|jD 8 rfl<|WL.q rfl (r_idx Fo.h rfl rfl rfl hi)<|WL.q rfl (r_loadAgg Fo.h rfl (Ext.refl _) hfa (hn:=rfl)) ?_
     have hs2:=he.size
     have hx2b1:=hb1.lt
     refine al ?_
     rintro _ w2 ⟨rfl,hb2,e2⟩
     refine WL.l0 (lsw rfl rfl hb2) ?_
     rintro _ w3 ⟨hb2,e3,hz3⟩
     refine jD 9 rfl ?_
     replace he:=he.then (e2.then e3)
     have hs4:=he.size
     replace hb1:=hb1.mono (e2.then e3)
     have hx4b1:=hb1.lt
     have hx4b2:=hb2.lt
     refine WL.l rfl (l_lit0 Fo.h) ?_
     rintro _ w4 ⟨rfl,ho4,e4⟩
     refine jD 6 rfl ?_
     refine WL.q rfl (r_cmp (r_geq rfl rfl) (decide_eq_false (by omega))) ?_
     refine jD 3 rfl<|jA 4 rfl ?_
     replace hb2:=hb2.mono e4
     refine ld rfl hb2 rfl ?_
     refine WL.q rfl (r_cmp (r_eql rfl rfl) (beqT (by omega))) ?_
     refine jC 2 rfl ?_
     refine WL.qg rfl rfl rfl rfl (r_cmp (r_gtr rfl rfl) (decide_eq_true (by omega))) ?_
     refine jD 3 rfl<|WC.exit<|jA 1 rfl<|ai rfl rfl rfl<|jC 2 rfl ?_
     have hf0:bo code 1 d none=[]:=if_pos ⟨rfl,h5⟩
     exact mn
    ·refine jA 2 rfl<|lT rfl rfl<|jD 8 rfl<|WL.q rfl (r_idx Fo.h rfl rfl rfl hi)<|WL.q rfl (r_loadAgg Fo.h rfl (Ext.refl _) hfa (hn:=rfl)) ?_
     have hs2:=he.size
     have hx2b1:=hb1.lt
     refine al ?_
     rintro _ w2 ⟨rfl,hb2,e2⟩
     refine WL.l0 (lsw rfl rfl hb2) ?_
     rintro _ w3 ⟨hb2,e3,hz3⟩
     refine jD 9 rfl ?_
     replace he:=he.then (e2.then e3)
     have hs4:=he.size
     replace hb1:=hb1.mono (e2.then e3)
     have hx4b1:=hb1.lt
     have hx4b2:=hb2.lt
     refine WL.l rfl (l_lit0 Fo.h) ?_
     rintro _ w4 ⟨rfl,ho4,e4⟩
     refine jD 6 rfl ?_
     refine WL.q rfl (r_cmp (r_geq rfl rfl) (decide_eq_false (by omega))) ?_
     refine jD 3 rfl<|jA 4 rfl ?_
     replace hb2:=hb2.mono e4
     refine ld rfl hb2 rfl ?_
     refine WL.q rfl (r_cmp (r_eql rfl rfl) (beqT (by omega))) ?_
     refine jC 2 rfl ?_
     refine WL.qg rfl rfl rfl rfl (r_cmp (r_gtr rfl rfl) (decide_eq_false (by omega))) ?_
     refine jD 4 rfl ?_
     replace hb1:=hb1.mono e4
     replace hdi:=(hdi.mono (e2.then e3)).mono e4
     refine WC.regionDL 14 (tt [0,1,2,3,4,5,6,8,10]++ff [7,9,11]++tt [12]++ff [13,14]++tt [15]) (Evo (fun b=>b<w3.heap.size) _) mixed (by kernel_rfl) (Evo.drew _) ?_
     refine jE 2 rfl<|dl rfl hb2 rfl<|jE 1 rfl ?_
     refine WD.q rfl (fun _ hS=>r_cvIntE Fo.h rfl (wu64 (by omega) (by omega))) ?_
     refine jE 1 rfl<|dl rfl hb2 rfl<|jE 2 rfl ?_
     refine LL.cd rfl (aC (k:=1) (by omega) (by omega)) ?_
     rintro v5 w5 ⟨hOb,e5⟩
     have nq4:=e4.size
     have nd:w4.drew.heap.size=w4.heap.size:=rfl
     refine⟨((Evo.drew _).then e5),?_⟩
     refine WD.l rfl rfl (l_app (n:=1) Fo.h rfl rfl hOb (Src.own Fb.h ((ho4.mono (Ext.drew _)).mono e5) (by omega) rfl) (by have:=e5.size;omega) (by simp only[maxLen];omega) (by omega)) ?_
     rintro v6 w6 ⟨hOb,e6⟩
     refine⟨(((Evo.drew _).then e5).then e6),?_⟩
     refine WD.l rfl rfl (l_app (n:=1+0) Fo.h rfl rfl hOb (Src.isB Fb.h (((hdi.mono (Ext.drew _)).mono e5).mono e6)) (by have:=e5.size;have:=e6.size;omega) (by simp only[maxLen];omega) (by omega)) ?_
     rintro v7 w7 ⟨hOb,e7⟩
     obtain⟨q7,c7,hq7,_,_⟩:=hOb.form
     subst hq7
     have qOb:=hOb
     refine⟨((((Evo.drew _).then e5).then e6).then e7),?_⟩
     refine WD.q rfl (fun _ hS=>r_bld (cs:=[_,_]) Fo.h rfl rfl) ?_
     replace he:=((((he.then e4).then (Ext.drew _)).then e5).then e6).then e7
     have hs8:=he.size
     replace hb1:=(((hb1.mono (Ext.drew _)).mono e5).mono e6).mono e7
     have hx8b1:=hb1.lt
     replace hb2:=(((hb2.mono (Ext.drew _)).mono e5).mono e6).mono e7
     have hx8b2:=hb2.lt
     refine WD.l rfl rfl (ll [_]) ?_
     rintro _ w8 ⟨rfl,hb8,e8⟩
     refine⟨(((((Evo.drew _).then e5).then e6).then e7).then e8),?_⟩
     refine WD.lL rfl rfl rfl (l_appO Fo.h rfl rfl (hO.mono ((((((((Evo.refl wi1:Evo (fun b=>b<wi1.heap.size) wi1 wi1).then (e2.then e3)).then e4).then (Ext.drew _)).then e5).then e6).then e7).then e8)) (Src.at Fb.h hb8.at rfl rfl) (by have:=e2.size;have:=e3.size;have:=e4.size;have:=e5.size;have:=e6.size;have:=e7.size;have:=e8.size;have:w4.drew.heap.size=w4.heap.size:=rfl;omega) (by simp only[maxLen];omega) (by omega)) ?_
     rintro v9 w9 ⟨hO2,e9,hob⟩
     have e9o:=e9
     have e9:=Own.evo (w0:=w) (hO.mono ((((((((Evo.refl wi1:Evo (fun b=>b<wi1.heap.size) wi1 wi1).then (e2.then e3)).then e4).then (Ext.drew _)).then e5).then e6).then e7).then e8)) e9o
     refine WT.q rfl rfl (r_assign rfl)<|WT.nil<|jA 1 rfl<|ai rfl rfl rfl<|jC 2 rfl ?_
     have hf0:bo code 1 d none=[(code,bigB d.length 1++([]++d))]:=by show(if 1=1∧255<d.length then[]else[(code,bigB d.length 1++([]++d))])=_;exact if_neg (by omega)
     have qOc:=qOb.cong (ys:=bc (bigB d.length 1++([]++d))) (by simp[bc,List.map_append,List.append_assoc,jp,show((d.length:Int)+4).toNat=d.length+4 by omega])
     exact lE
   ·subst hs4
    skip
    refine jA 2 rfl<|lT rfl rfl<|jD 8 rfl<|WL.q rfl (r_idx Fo.h rfl rfl rfl hi)<|WL.q rfl (r_loadAgg Fo.h rfl (Ext.refl _) hfa (hn:=rfl)) ?_
    have hs2:=he.size
    have hx2b1:=hb1.lt
    refine al ?_
    rintro _ w2 ⟨rfl,hb2,e2⟩
    refine WL.l0 (lsw rfl rfl hb2) ?_
    rintro _ w3 ⟨hb2,e3,hz3⟩
    refine jD 9 rfl ?_
    replace he:=he.then (e2.then e3)
    have hs4:=he.size
    replace hb1:=hb1.mono (e2.then e3)
    have hx4b1:=hb1.lt
    have hx4b2:=hb2.lt
    refine WL.l rfl (l_lit0 Fo.h) ?_
    rintro _ w4 ⟨rfl,ho4,e4⟩
    refine jD 6 rfl ?_
    refine WL.q rfl (r_cmp (r_geq rfl rfl) (decide_eq_false (by omega))) ?_
    refine jD 3 rfl<|jA 4 rfl ?_
    replace hb2:=hb2.mono e4
    refine ld rfl hb2 rfl ?_
    refine WL.q rfl (r_cmp (r_eql rfl rfl) (beqF (by omega))) ?_
    refine jD 7 rfl ?_
    replace hb1:=hb1.mono e4
    replace hdi:=(hdi.mono (e2.then e3)).mono e4
    refine WC.regionDL 14 (tt [0,1,2,3,4,5,6,8,10]++ff [7,9,11]++tt [12]++ff [13,14]++tt [15]) (Evo (fun b=>b<w3.heap.size) _) mixed (by kernel_rfl) (Evo.drew _) ?_
    refine jE 2 rfl<|dl rfl hb2 rfl<|jE 1 rfl ?_
    refine WD.q rfl (fun _ hS=>r_cvIntE Fo.h rfl (wu64 (by omega) (by omega))) ?_
    refine jE 1 rfl<|dl rfl hb2 rfl<|jE 2 rfl ?_
    refine LL.cd rfl (aC (k:=4) (by omega) (by omega)) ?_
    rintro v5 w5 ⟨hOb,e5⟩
    have nq4:=e4.size
    have nd:w4.drew.heap.size=w4.heap.size:=rfl
    refine⟨((Evo.drew _).then e5),?_⟩
    refine WD.l rfl rfl (l_app (n:=4) Fo.h rfl rfl hOb (Src.own Fb.h ((ho4.mono (Ext.drew _)).mono e5) (by omega) rfl) (by have:=e5.size;omega) (by simp only[maxLen];omega) (by omega)) ?_
    rintro v6 w6 ⟨hOb,e6⟩
    refine⟨(((Evo.drew _).then e5).then e6),?_⟩
    refine WD.l rfl rfl (l_app (n:=4+0) Fo.h rfl rfl hOb (Src.isB Fb.h (((hdi.mono (Ext.drew _)).mono e5).mono e6)) (by have:=e5.size;have:=e6.size;omega) (by simp only[maxLen];omega) (by omega)) ?_
    rintro v7 w7 ⟨hOb,e7⟩
    obtain⟨q7,c7,hq7,_,_⟩:=hOb.form
    subst hq7
    have qOb:=hOb
    refine⟨((((Evo.drew _).then e5).then e6).then e7),?_⟩
    refine WD.q rfl (fun _ hS=>r_bld (cs:=[_,_]) Fo.h rfl rfl) ?_
    replace he:=((((he.then e4).then (Ext.drew _)).then e5).then e6).then e7
    have hs8:=he.size
    replace hb1:=(((hb1.mono (Ext.drew _)).mono e5).mono e6).mono e7
    have hx8b1:=hb1.lt
    replace hb2:=(((hb2.mono (Ext.drew _)).mono e5).mono e6).mono e7
    have hx8b2:=hb2.lt
    refine WD.l rfl rfl (ll [_]) ?_
    rintro _ w8 ⟨rfl,hb8,e8⟩
    refine⟨(((((Evo.drew _).then e5).then e6).then e7).then e8),?_⟩
    refine WD.lL rfl rfl rfl (l_appO Fo.h rfl rfl (hO.mono ((((((((Evo.refl wi1:Evo (fun b=>b<wi1.heap.size) wi1 wi1).then (e2.then e3)).then e4).then (Ext.drew _)).then e5).then e6).then e7).then e8)) (Src.at Fb.h hb8.at rfl rfl) (by have:=e2.size;have:=e3.size;have:=e4.size;have:=e5.size;have:=e6.size;have:=e7.size;have:=e8.size;have:w4.drew.heap.size=w4.heap.size:=rfl;omega) (by simp only[maxLen];omega) (by omega)) ?_
    rintro v9 w9 ⟨hO2,e9,hob⟩
    have e9o:=e9
    have e9:=Own.evo (w0:=w) (hO.mono ((((((((Evo.refl wi1:Evo (fun b=>b<wi1.heap.size) wi1 wi1).then (e2.then e3)).then e4).then (Ext.drew _)).then e5).then e6).then e7).then e8)) e9o
    refine WT.q rfl rfl (r_assign rfl)<|WT.nil<|jA 1 rfl<|ai rfl rfl rfl<|jC 2 rfl ?_
    have hf0:bo code 4 d none=[(code,bigB d.length 4++([]++d))]:=by show(if 4=1∧255<d.length then[]else[(code,bigB d.length 4++([]++d))])=_;exact if_neg (by omega)
    have qOc:=qOb.cong (ys:=bc (bigB d.length 4++([]++d))) (by simp[bc,List.map_append,List.append_assoc,jp,show((d.length:Int)+4).toNat=d.length+4 by omega])
    exact lE
  ·have hcv:jp (some c)=(c:Int):=rfl
   have hcb:=hc c rfl
   rcases hsz with hs1|hs4
   ·subst hs1
    rcases Nat.lt_or_ge 255 c with h4|h4
    ·refine jA 2 rfl<|lT rfl rfl<|jD 8 rfl<|WL.q rfl (r_idx Fo.h rfl rfl rfl hi)<|WL.q rfl (r_loadAgg Fo.h rfl (Ext.refl _) hfa (hn:=rfl)) ?_
     have hs2:=he.size
     have hx2b1:=hb1.lt
     refine al ?_
     rintro _ w2 ⟨rfl,hb2,e2⟩
     refine WL.l0 (lsw rfl rfl hb2) ?_
     rintro _ w3 ⟨hb2,e3,hz3⟩
     refine jD 9 rfl ?_
     replace he:=he.then (e2.then e3)
     have hs4:=he.size
     replace hb1:=hb1.mono (e2.then e3)
     have hx4b1:=hb1.lt
     have hx4b2:=hb2.lt
     refine WL.l rfl (l_lit0 Fo.h) ?_
     rintro _ w4 ⟨rfl,ho4,e4⟩
     refine jD 6 rfl ?_
     refine WL.q rfl (r_cmp (r_geq rfl rfl) (decide_eq_true (by omega))) ?_
     refine jD 6 rfl ?_
     replace hb2:=hb2.mono e4
     refine ld rfl hb2 rfl ?_
     refine WL.q rfl (r_cmp (r_eql rfl rfl) (beqT (by omega))) ?_
     refine jC 2 rfl ?_
     refine WL.qg rfl rfl rfl rfl (r_cmp (r_gtr rfl rfl) (decide_eq_true (by omega))) ?_
     refine jD 3 rfl<|WC.exit<|jA 1 rfl<|ai rfl rfl rfl<|jC 2 rfl ?_
     have hf0:bo code 1 d (some c)=[]:=if_pos ⟨rfl,h4⟩
     exact mn
    ·rcases Nat.lt_or_ge 255 (d.length+1)with h5|h5
     ·refine jA 2 rfl<|lT rfl rfl<|jD 8 rfl<|WL.q rfl (r_idx Fo.h rfl rfl rfl hi)<|WL.q rfl (r_loadAgg Fo.h rfl (Ext.refl _) hfa (hn:=rfl)) ?_
      have hs2:=he.size
      have hx2b1:=hb1.lt
      refine al ?_
      rintro _ w2 ⟨rfl,hb2,e2⟩
      refine WL.l0 (lsw rfl rfl hb2) ?_
      rintro _ w3 ⟨hb2,e3,hz3⟩
      refine jD 9 rfl ?_
      replace he:=he.then (e2.then e3)
      have hs4:=he.size
      replace hb1:=hb1.mono (e2.then e3)
      have hx4b1:=hb1.lt
      have hx4b2:=hb2.lt
      refine WL.l rfl (l_lit0 Fo.h) ?_
      rintro _ w4 ⟨rfl,ho4,e4⟩
      refine jD 6 rfl ?_
      refine WL.q rfl (r_cmp (r_geq rfl rfl) (decide_eq_true (by omega))) ?_
      refine jD 6 rfl ?_
      replace hb2:=hb2.mono e4
      refine ld rfl hb2 rfl ?_
      refine WL.q rfl (r_cmp (r_eql rfl rfl) (beqT (by omega))) ?_
      refine jC 2 rfl ?_
      refine WL.qg rfl rfl rfl rfl (r_cmp (r_gtr rfl rfl) (decide_eq_false (by omega))) ?_
      refine jD 4 rfl ?_
      replace hb1:=hb1.mono e4
      replace hdi:=(hdi.mono (e2.then e3)).mono e4
      refine WC.regionD (tt [0,1,2,3,4,5,6,7]++ff [8]++tt [9,10]) (Ext _) mixed (by kernel_rfl) (Ext.drew _) ?_
      refine jE 2 rfl<|dl rfl hb2 rfl ?_
      refine WD.q rfl (fun _ hS=>r_addi rfl rfl rfl (by omega) (by omega)) ?_
      refine jE 1 rfl ?_
      refine WD.q rfl (fun _ hS=>r_cvIntE Fo.h rfl (wu64 (by omega) (by omega))) ?_
      refine jE 1 rfl<|dl rfl hb2 rfl ?_
      refine LL.cd rfl (aC (k:=1) (by omega) (by omega)) ?_
      rintro v5 w5 ⟨hHd,e5⟩
      refine⟨((Evo.drew _).then e5),?_⟩
      refine jE 2 rfl<|WD.nil<|jA 4 rfl ?_
      replace hb2:=(hb2.mono (Ext.drew _)).mono e5
      refine ld rfl hb2 rfl ?_
      refine WL.q rfl (r_cmp (r_eql rfl rfl) (beqT (by omega))) ?_
      refine jC 2 rfl ?_
      refine WL.qg rfl rfl rfl rfl (r_cmp (r_gtr rfl rfl) (decide_eq_true (by omega))) ?_
      refine jD 3 rfl<|WC.exit<|jA 1 rfl<|ai rfl rfl rfl<|jC 2 rfl ?_
      have hf0:bo code 1 d (some c)=[]:=by show(if 1=1∧255<c then[]else if 1=1∧255<d.length+1 then[]else _)=_;rw[if_neg (by omega),if_pos (by omega)]
      rw[hf0,List.append_nil]at hst
      have hOn:=hO.mono ((((Evo.refl wi1:Evo (fun b=>b<wi1.heap.size) wi1 wi1).then (e2.then e3)).then e4).then ((Ext.drew _).then e5))
      have hVn:=hV.mono' ((((Evo.refl wi1:Evo (fun b=>b<wi1.heap.size) wi1 wi1).then (e2.then e3)).then e4).then ((Ext.drew _).then e5)) (fun b hb _=>hb)
      exact⟨(i+1,sv),sb,sb,⟨⟨cs,by rw[hst];exact hOn,by rw[hst];exact hVn⟩,by omega,(((((hE.then (e2.then e3)).then e4).then (Ext.drew _)).then e5))⟩,(by show 2-(i+1)<2-i;omega)⟩
     ·refine jA 2 rfl<|lT rfl rfl<|jD 8 rfl<|WL.q rfl (r_idx Fo.h rfl rfl rfl hi)<|WL.q rfl (r_loadAgg Fo.h rfl (Ext.refl _) hfa (hn:=rfl)) ?_
      have hs2:=he.size
      have hx2b1:=hb1.lt
      refine al ?_
      rintro _ w2 ⟨rfl,hb2,e2⟩
      refine WL.l0 (lsw rfl rfl hb2) ?_
      rintro _ w3 ⟨hb2,e3,hz3⟩
      refine jD 9 rfl ?_
      replace he:=he.then (e2.then e3)
      have hs4:=he.size
      replace hb1:=hb1.mono (e2.then e3)
      have hx4b1:=hb1.lt
      have hx4b2:=hb2.lt
      refine WL.l rfl (l_lit0 Fo.h) ?_
      rintro _ w4 ⟨rfl,ho4,e4⟩
      refine jD 6 rfl ?_
      refine WL.q rfl (r_cmp (r_geq rfl rfl) (decide_eq_true (by omega))) ?_
      refine jD 6 rfl ?_
      replace hb2:=hb2.mono e4
      refine ld rfl hb2 rfl ?_
      refine WL.q rfl (r_cmp (r_eql rfl rfl) (beqT (by omega))) ?_
      refine jC 2 rfl ?_
      refine WL.qg rfl rfl rfl rfl (r_cmp (r_gtr rfl rfl) (decide_eq_false (by omega))) ?_
      refine jD 4 rfl ?_
      replace hb1:=hb1.mono e4
      replace hdi:=(hdi.mono (e2.then e3)).mono e4
      refine WC.regionD (tt [0,1,2,3,4,5,6,7]++ff [8]++tt [9,10]) (Evo (fun b=>b<w3.heap.size) _) mixed (by kernel_rfl) (Evo.drew _) ?_
      refine jE 2 rfl<|dl rfl hb2 rfl ?_
      refine WD.q rfl (fun _ hS=>r_addi rfl rfl rfl (by omega) (by omega)) ?_
      refine jE 1 rfl ?_
      refine WD.q rfl (fun _ hS=>r_cvIntE Fo.h rfl (wu64 (by omega) (by omega))) ?_
      refine jE 1 rfl<|dl rfl hb2 rfl ?_
      refine LL.cd rfl (aC (k:=1) (by omega) (by omega)) ?_
      rintro v5 w5 ⟨hHd,e5⟩
      refine⟨((Evo.drew _).then e5),?_⟩
      refine jE 2 rfl<|WD.nil<|jA 4 rfl ?_
      replace hb2:=(hb2.mono (Ext.drew _)).mono e5
      refine ld rfl hb2 rfl ?_
      refine WL.q rfl (r_cmp (r_eql rfl rfl) (beqT (by omega))) ?_
      refine jC 2 rfl ?_
      refine WL.qg rfl rfl rfl rfl (r_cmp (r_gtr rfl rfl) (decide_eq_false (by omega))) ?_
      refine jD 4 rfl ?_
      replace hb1:=(hb1.mono (Ext.drew _)).mono e5
      replace hdi:=(hdi.mono (Ext.drew _)).mono e5
      replace ho4:=(ho4.mono (Ext.drew _)).mono e5
      refine WC.regionDL 14 (tt [0,1,2,3,4,5,6,8,10]++ff [7,9,11]++tt [12]++ff [13,14]++tt [15]) (Evo (fun b=>b<w3.heap.size) _) mixed (by kernel_rfl) (Evo.drew _) ?_
      refine jE 2 rfl<|dl rfl hb2 rfl<|jE 1 rfl ?_
      refine WD.q rfl (fun _ hS=>r_cvIntE Fo.h rfl (wu64 (by omega) (by omega))) ?_
      refine jE 1 rfl<|dl rfl hb2 rfl<|jE 2 rfl ?_
      refine LL.cd rfl (aC (k:=1) (by omega) (by omega)) ?_
      rintro v6 w6 ⟨hOb,e6⟩
      have nq4:=e4.size
      have nd:w4.drew.heap.size=w4.heap.size:=rfl
      have nq5:w4.heap.size≤w5.heap.size:=e5.size
      have nd5:w5.drew.heap.size=w5.heap.size:=rfl
      refine⟨((Evo.drew _).then e6),?_⟩
      refine WD.l rfl rfl (l_app (n:=1) Fo.h rfl rfl hOb (Src.own Fb.h ((hHd.mono (Ext.drew _)).mono e6) (by omega) (fk _)) (by have:=e6.size;omega) (by simp only[maxLen];omega) (by omega)) ?_
      rintro v7 w7 ⟨hOb,e7⟩
      refine⟨(((Evo.drew _).then e6).then e7),?_⟩
      refine WD.l rfl rfl (l_app Fo.h rfl rfl hOb (Src.isB Fb.h (((hdi.mono (Ext.drew _)).mono e6).mono e7)) (by have:=e6.size;have:=e7.size;omega) (by simp only[maxLen];omega) (by omega)) ?_
      rintro v8 w8 ⟨hOb,e8⟩
      obtain⟨q8,c8,hq8,_,_⟩:=hOb.form
      subst hq8
      have qOb:=hOb
      refine⟨((((Evo.drew _).then e6).then e7).then e8),?_⟩
      refine WD.q rfl (fun _ hS=>r_bld (cs:=[_,_]) Fo.h rfl rfl) ?_
      replace he:=((((((he.then e4).then (Ext.drew _)).then e5).then (Ext.drew _)).then e6).then e7).then e8
      have hs9:=he.size
      replace hb1:=(((hb1.mono (Ext.drew _)).mono e6).mono e7).mono e8
      have hx9b1:=hb1.lt
      replace hb2:=(((hb2.mono (Ext.drew _)).mono e6).mono e7).mono e8
      have hx9b2:=hb2.lt
      refine WD.l rfl rfl (ll [_]) ?_
      rintro _ w9 ⟨rfl,hb9,e9⟩
      refine⟨(((((Evo.drew _).then e6).then e7).then e8).then e9),?_⟩
      refine WD.lL rfl rfl rfl (l_appO Fo.h rfl rfl (hO.mono (((((((((Evo.refl wi1:Evo (fun b=>b<wi1.heap.size) wi1 wi1).then (e2.then e3)).then e4).then ((Ext.drew _).then e5)).then (Ext.drew _)).then e6).then e7).then e8).then e9)) (Src.at Fb.h hb9.at rfl rfl) (by have:=e2.size;have:=e3.size;have:=e4.size;have:=e5.size;have:=e6.size;have:=e7.size;have:=e8.size;have:=e9.size;have:w4.drew.heap.size=w4.heap.size:=rfl;have:w5.drew.heap.size=w5.heap.size:=rfl;omega) (by simp only[maxLen];omega) (by omega)) ?_
      rintro v10 w10 ⟨hO2,e10,hob⟩
      have e10o:=e10
      have e10:=Own.evo (w0:=w) (hO.mono (((((((((Evo.refl wi1:Evo (fun b=>b<wi1.heap.size) wi1 wi1).then (e2.then e3)).then e4).then ((Ext.drew _).then e5)).then (Ext.drew _)).then e6).then e7).then e8).then e9)) e10o
      refine WT.q rfl rfl (r_assign rfl)<|WT.nil<|jA 1 rfl<|ai rfl rfl rfl<|jC 2 rfl ?_
      have hf0:bo code 1 d (some c)=[(code,bigB (d.length+1) 1++(bigB c 1++d))]:=by show(if 1=1∧255<c then[]else if 1=1∧255<d.length+1 then[]else[(code,bigB (d.length+1) 1++(bigB c 1++d))])=_;rw[if_neg (by omega),if_neg (by omega)]
      have qOc:=qOb.cong (ys:=bc (bigB (d.length+1) 1++(bigB c 1++d))) (by simp[bc,List.map_append,List.append_assoc,jp,show((d.length:Int)+4).toNat=d.length+4 by omega])
      exact lu
   ·subst hs4
    skip
    refine jA 2 rfl<|lT rfl rfl<|jD 8 rfl<|WL.q rfl (r_idx Fo.h rfl rfl rfl hi)<|WL.q rfl (r_loadAgg Fo.h rfl (Ext.refl _) hfa (hn:=rfl)) ?_
    have hs2:=he.size
    have hx2b1:=hb1.lt
    refine al ?_
    rintro _ w2 ⟨rfl,hb2,e2⟩
    refine WL.l0 (lsw rfl rfl hb2) ?_
    rintro _ w3 ⟨hb2,e3,hz3⟩
    refine jD 9 rfl ?_
    replace he:=he.then (e2.then e3)
    have hs4:=he.size
    replace hb1:=hb1.mono (e2.then e3)
    have hx4b1:=hb1.lt
    have hx4b2:=hb2.lt
    refine WL.l rfl (l_lit0 Fo.h) ?_
    rintro _ w4 ⟨rfl,ho4,e4⟩
    refine jD 6 rfl ?_
    refine WL.q rfl (r_cmp (r_geq rfl rfl) (decide_eq_true (by omega))) ?_
    refine jD 6 rfl ?_
    replace hb2:=hb2.mono e4
    refine ld rfl hb2 rfl ?_
    refine WL.q rfl (r_cmp (r_eql rfl rfl) (beqF (by omega))) ?_
    refine jD 7 rfl ?_
    replace hb1:=hb1.mono e4
    replace hdi:=(hdi.mono (e2.then e3)).mono e4
    refine WC.regionD (tt [0,1,2,3,4,5,6,7]++ff [8]++tt [9,10]) (Evo (fun b=>b<w3.heap.size) _) mixed (by kernel_rfl) (Evo.drew _) ?_
    refine jE 2 rfl<|dl rfl hb2 rfl ?_
    refine WD.q rfl (fun _ hS=>r_addi rfl rfl rfl (by omega) (by omega)) ?_
    refine jE 1 rfl ?_
    refine WD.q rfl (fun _ hS=>r_cvIntE Fo.h rfl (wu64 (by omega) (by omega))) ?_
    refine jE 1 rfl<|dl rfl hb2 rfl ?_
    refine LL.cd rfl (aC (k:=4) (by omega) (by omega)) ?_
    rintro v5 w5 ⟨hHd,e5⟩
    refine⟨((Evo.drew _).then e5),?_⟩
    refine jE 2 rfl<|WD.nil<|jA 4 rfl ?_
    replace hb2:=(hb2.mono (Ext.drew _)).mono e5
    refine ld rfl hb2 rfl ?_
    refine WL.q rfl (r_cmp (r_eql rfl rfl) (beqF (by omega))) ?_
    refine jD 7 rfl ?_
    replace hb1:=(hb1.mono (Ext.drew _)).mono e5
    replace hdi:=(hdi.mono (Ext.drew _)).mono e5
    replace ho4:=(ho4.mono (Ext.drew _)).mono e5
    refine WC.regionDL 14 (tt [0,1,2,3,4,5,6,8,10]++ff [7,9,11]++tt [12]++ff [13,14]++tt [15]) (Evo (fun b=>b<w3.heap.size) _) mixed (by kernel_rfl) (Evo.drew _) ?_
    refine jE 2 rfl<|dl rfl hb2 rfl<|jE 1 rfl ?_
    refine WD.q rfl (fun _ hS=>r_cvIntE Fo.h rfl (wu64 (by omega) (by omega))) ?_
    refine jE 1 rfl<|dl rfl hb2 rfl<|jE 2 rfl ?_
    refine LL.cd rfl (aC (k:=4) (by omega) (by omega)) ?_
    rintro v6 w6 ⟨hOb,e6⟩
    have nq4:=e4.size
    have nd:w4.drew.heap.size=w4.heap.size:=rfl
    have nq5:w4.heap.size≤w5.heap.size:=e5.size
    have nd5:w5.drew.heap.size=w5.heap.size:=rfl
    refine⟨((Evo.drew _).then e6),?_⟩
    refine WD.l rfl rfl (l_app (n:=4) Fo.h rfl rfl hOb (Src.own Fb.h ((hHd.mono (Ext.drew _)).mono e6) (by omega) (fk _)) (by have:=e6.size;omega) (by simp only[maxLen];omega) (by omega)) ?_
    rintro v7 w7 ⟨hOb,e7⟩
    refine⟨(((Evo.drew _).then e6).then e7),?_⟩
    refine WD.l rfl rfl (l_app Fo.h rfl rfl hOb (Src.isB Fb.h (((hdi.mono (Ext.drew _)).mono e6).mono e7)) (by have:=e6.size;have:=e7.size;omega) (by simp only[maxLen];omega) (by omega)) ?_
    rintro v8 w8 ⟨hOb,e8⟩
    obtain⟨q8,c8,hq8,_,_⟩:=hOb.form
    subst hq8
    have qOb:=hOb
    refine⟨((((Evo.drew _).then e6).then e7).then e8),?_⟩
    refine WD.q rfl (fun _ hS=>r_bld (cs:=[_,_]) Fo.h rfl rfl) ?_
    replace he:=((((((he.then e4).then (Ext.drew _)).then e5).then (Ext.drew _)).then e6).then e7).then e8
    have hs9:=he.size
    replace hb1:=(((hb1.mono (Ext.drew _)).mono e6).mono e7).mono e8
    have hx9b1:=hb1.lt
    replace hb2:=(((hb2.mono (Ext.drew _)).mono e6).mono e7).mono e8
    have hx9b2:=hb2.lt
    refine WD.l rfl rfl (ll [_]) ?_
    rintro _ w9 ⟨rfl,hb9,e9⟩
    refine⟨(((((Evo.drew _).then e6).then e7).then e8).then e9),?_⟩
    refine WD.lL rfl rfl rfl (l_appO Fo.h rfl rfl (hO.mono (((((((((Evo.refl wi1:Evo (fun b=>b<wi1.heap.size) wi1 wi1).then (e2.then e3)).then e4).then ((Ext.drew _).then e5)).then (Ext.drew _)).then e6).then e7).then e8).then e9)) (Src.at Fb.h hb9.at rfl rfl) (by have:=e2.size;have:=e3.size;have:=e4.size;have:=e5.size;have:=e6.size;have:=e7.size;have:=e8.size;have:=e9.size;have:w4.drew.heap.size=w4.heap.size:=rfl;have:w5.drew.heap.size=w5.heap.size:=rfl;omega) (by simp only[maxLen];omega) (by omega)) ?_
    rintro v10 w10 ⟨hO2,e10,hob⟩
    have e10o:=e10
    have e10:=Own.evo (w0:=w) (hO.mono (((((((((Evo.refl wi1:Evo (fun b=>b<wi1.heap.size) wi1 wi1).then (e2.then e3)).then e4).then ((Ext.drew _).then e5)).then (Ext.drew _)).then e6).then e7).then e8).then e9)) e10o
    refine WT.q rfl rfl (r_assign rfl)<|WT.nil<|jA 1 rfl<|ai rfl rfl rfl<|jC 2 rfl ?_
    have hf0:bo code 4 d (some c)=[(code,bigB (d.length+4) 4++(bigB c 4++d))]:=by show(if 4=1∧255<c then[]else if 4=1∧255<d.length+4 then[]else[(code,bigB (d.length+4) 4++(bigB c 4++d))])=_;rw[if_neg (by omega),if_neg (by omega)]
    have qOc:=qOb.cong (ys:=bc (bigB (d.length+4) 4++(bigB c 4++d))) (by simp[bc,List.map_append,List.append_assoc,jp,show((d.length:Int)+4).toNat=d.length+4 by omega])
    exact lu
 ·obtain rfl:i=2:=by omega
  refine jA 2 rfl<|lF rfl rfl<|jD 3 rfl<|WC.exit<|jA 5 rfl<|WC.ret ?_
  replace he:=he.then hE
  exact fin1 rfl ⟨⟨cs,hO.low nq1,hV⟩,he.weaken fun k hk _=>hk⟩
end Go.Proofs.LL
namespace Go.Proofs.LL
open Go Go.RowKit
def oK(k:Nat):Code→Option Code
 | .seq a b=>match oK k a with
  |some c=>some c
  |none=>oK k b
 | .cond _ a b=>match oK k a with
  |some c=>some c
  |none=>oK k b
 | .block _ c=>oK k c
 | .loop c=>oK k c
 | .scope c=>oK k c
 | .region i o d=>bif Nat.beq i k then some (.region i o d)else none
 |_=>none
def cg(f:Func)(k:Nat):Code:=match f.body with
 |some c=>match oK k c with
  |some r=>r
  |none=> .skip
 |none=> .skip
end Go.Proofs.LL
