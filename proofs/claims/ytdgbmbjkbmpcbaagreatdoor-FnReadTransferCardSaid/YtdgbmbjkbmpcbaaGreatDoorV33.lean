/- Contracts of functions and own laws. Conditions: those that each theorem states. -/
import Derived.Test.YtdgbmbjkbmpcbaaGreatDoorV32
set_option linter.all false
set_option autoImplicit true
set_option relaxedAutoImplicit true
set_option maxRecDepth 20000
namespace Go.Proofs.LL
open Go Go.Proofs Go.RowKit
set_option maxHeartbeats 4000000
attribute [local irreducible] ar WL WC cq WT WX
def rZ(x:V):Prop:=∀(A B:Nat→Prop) (y:V) (cx cy:List Value) (w:World),aE x≤1000000000→aC A w x cx→aC B w y cy→
 ah TP 31 [.agg cx.toArray,.agg cy.toArray] w fun r w'=>r= .bool (same x y)∧ay w w'
theorem uW{k k':Int}{n n':Nat}{t t':List UInt8}{ks ks' d d':List V}{o o':Int}(h:(((((k !=k')||((n:Int) !=(n':Int)))|| !decide (t=t'))||((ks.length:Int) !=(ks'.length:Int)))||((d.length:Int) !=(d'.length:Int)))=true):same (.mk k n t ks o d) (.mk k' n' t' ks' o' d')=false:=by
 simp only[Bool.or_eq_true,bne_iff_ne,ne_eq,Bool.not_eq_true',decide_eq_false_iff_not]at h
 simp only[same]
 rcases h with(((h|h)|h)|h)|h
 ·simp[h]
 ·have:¬n=n':=fun e=>h (by rw[e])
  simp[this]
 ·simp[h]
 ·have:¬ks.length=ks'.length:=fun e=>h (by rw[e])
  simp[this]
 ·have:¬d.length=d'.length:=fun e=>h (by rw[e])
  simp[this]
theorem xQ{k k':Int}{n n':Nat}{t t':List UInt8}{ks ks' d d':List V}{o o':Int}(h:(((((k !=k')||((n:Int) !=(n':Int)))|| !decide (t=t'))||((ks.length:Int) !=(ks'.length:Int)))||((d.length:Int) !=(d'.length:Int)))=false):same (.mk k n t ks o d) (.mk k' n' t' ks' o' d')=(fc ks ks'&&gr d d')∧ks.length=ks'.length∧d.length=d'.length:=by
 simp only[Bool.or_eq_false_iff,bne_eq_false_iff_eq,Bool.not_eq_false',decide_eq_true_eq]at h
 obtain⟨⟨⟨⟨h1,h2⟩,h3⟩,h4⟩,h5⟩:=h
 have h2':n=n':=by omega
 have h4':ks.length=ks'.length:=by omega
 have h5':d.length=d'.length:=by omega
 refine⟨?_,h4',h5'⟩
 simp only[same]
 simp[h1,h2',h3,h4',h5']
theorem tk{d d':List V}(h:d.length=d'.length):gr d d'=(decide (d.length=0)||same (bA d 0) (bA d' 0)):=by
 match d,d',h with
 |[],[],_=>rfl
 |a::r,b::s,_=>simp[gr,bA]
theorem zL{k:Int}{ks:List V}{o:Int}{d:List V}(hks:∀x∈ks,rZ x)(hds:∀x∈d,rZ x):rZ (.mk k n t ks o d):=by
 intro A B y cx cy w hv hx hy
 rw[aE]at hv
 have hkl:=av ks
 obtain⟨k',n',t',ks',o',d'⟩:=y
 obtain⟨pk,ck,pd,cd,rfl,_,_,hK,hD⟩:=hx.openV
 obtain⟨pk',ck',pd',cd',rfl,_,_,hK',hD'⟩:=hy.openV
 refine aR Tryz.func31 ?_
 have he:=XI w
 refine jA 2 rfl ?_
 have:=he.s
 refine Hb rfl fun w1 hb1 e1=>?_
 replace he:=he.t e1
 have:=he.s
 have:=hb1.lt
 refine Hb rfl fun w2 hb2 e2=>?_
 refine jC 2 rfl<|jA 4 rfl ?_
 replace hb1:=hb1.m e2
 refine ld rfl hb1 rfl<|jC 1 rfl<|ld rfl hb2 rfl<|Hq (bn rfl rfl)<|jC 1 rfl<|Hc rfl rfl (fun hc=>aa rfl Fo.h)<|Hk rfl rfl rfl hb1 rfl<|Hc rfl rfl (fun hc=>aa rfl Fo.h)<|Hk rfl rfl rfl hb2 rfl<|Hc rfl rfl (fun hc=>bn (au hc) (au hc))<|Hq (cA rfl rfl (fun h=>beq_iff_eq.2 h))<|jC 1 rfl<|Hc rfl rfl (fun hc=>aa rfl Fo.h)<|Hk rfl rfl rfl hb1 rfl<|Hc rfl rfl (fun hc=>aa rfl Fo.h)<|Hk rfl rfl rfl hb2 rfl<|Hc rfl rfl (fun hc=>wr (au hc) (au hc))<|Hq (cA rfl rfl (fun h=>beq_iff_eq.2 h))<|jC 1 rfl<|Hc rfl rfl (fun hc=>aa rfl Fo.h)<|Hk rfl rfl rfl hb1 rfl<|Hc rfl rfl (fun hc=>fy Fo.h (au hc))<|Hc rfl rfl (fun hc=>aa rfl Fo.h)<|Hk rfl rfl rfl hb2 rfl<|Hc rfl rfl (fun hc=>fy Fo.h (au hc))<|Hc rfl rfl (fun hc=>bn (au hc) (au hc))<|Hq (cA rfl rfl (fun h=>beq_iff_eq.2 h))<|jC 1 rfl<|Hc rfl rfl (fun hc=>aa rfl Fo.h)<|Hk rfl rfl rfl hb1 rfl<|Hc rfl rfl (fun hc=>fy Fo.h (au hc))<|Hc rfl rfl (fun hc=>aa rfl Fo.h)<|Hk rfl rfl rfl hb2 rfl<|Hc rfl rfl (fun hc=>fy Fo.h (au hc))<|Hc rfl rfl (fun hc=>bn (au hc) (au hc))<|Hq (cA rfl rfl (fun h=>beq_iff_eq.2 h))<|WL.nil<|WC.cond rfl ?_ ?_
 ·intro hc
  refine jA 4 rfl<|WC.ret ?_
  replace he:=he.t e2
  exact aw rfl ⟨congrArg Value.bool (uW hc).symm,he⟩
 ·intro hc
  obtain⟨eq,el,ed⟩:=xQ (o:=o) (o':=o') hc
  refine WC.skip<|jA 4 rfl<|ld rfl hb1 rfl<|jC 3 rfl<|jA 1 rfl ?_
  replace hK:=(hK.m e1).m e2
  replace hD:=(hD.m e1).m e2
  replace hK':=(hK'.m e1).m e2
  replace hD':=(hD'.m e1).m e2
  replace he:=he.t e2
  refine WC.loop2 (ι:=Nat) [(2,_),(3,_),(4,_),(45,_)] (fun i=>[(46,.int .i64 (i:Int))]) (fun i wi=>(∀j,j<i→same (bA ks j) (bA ks' j)=true)∧i≤ks.length∧ay w2 wi) (fun i=>ks.length-i) 0 sb sb (⟨fun j hj=>absurd hj (by omega),Nat.zero_le _,ay.refl _⟩) ?_
  intro i wi1 hh;obtain⟨qS,ni,hE⟩:=hh
  rcases Nat.lt_or_ge i ks.length with qi|qi
  replace hK:=hK.m hE
  ·obtain⟨b,o1,c1,rfl,_,hA1,l1,hR1⟩:=hK.kid qi
   replace hK':=hK'.m hE
   obtain⟨b',o2,c2,rfl,_,hA2,l2,hR2⟩:=hK'.kid (i:=i) (by omega)
   refine jA 2 rfl<|lT rfl rfl<|WL.nil<|jA 10 rfl ?_
   replace hD:=hD.m hE
   replace hD':=hD'.m hE
   replace hb1:=hb1.m hE
   replace hb2:=hb2.m hE
   refine WC.seq<|WC.regionD (tt [0,1,2,3,4,5,6,7,8,9]++ff [10]++tt [11]) (ay _) mixed (by kernel_rfl) Xd<|jE 1 rfl<|dl rfl hb1 rfl<|jE 1 rfl<|He (fun _ hS=>bd Fo.h rfl rfl rfl)<|He (fun _ hS=>ad Fo.h rfl hS hA1 (hn:=l1))<|jE 1 rfl<|dl rfl hb2 rfl<|jE 1 rfl<|He (fun _ hS=>bd Fo.h rfl rfl rfl)<|He (fun _ hS=>ad Fo.h rfl hS hA2 (hn:=l2))<|LL.cd rfl (hks _ (bf qi) _ _ _ _ _ _ (by have:=bo (bf qi);omega) (hR1.m Xd) (hR2.m Xd)) ?_
   rintro v3 w3 ⟨rfl,e3⟩
   refine⟨(Vd.t e3),?_⟩
   refine jE 1 rfl<|WD.nil<|WC.cond rfl ?_ ?_
   ·intro h2
    refine jA 4 rfl<|WC.ret ?_
    have h3:same (bA ks i) (bA ks' i)=false:=by simpa using h2
    replace he:=((he.t hE).t Xd).t e3
    exact aw rfl ⟨congrArg Value.bool (by rw[eq,pH qi el h3,Bool.false_and]),he⟩
   ·intro h2
    have h3:same (bA ks i) (bA ks' i)=true:=by simpa using h2
    refine WC.skip<|jA 1 rfl<|ai rfl rfl rfl<|jC 2 rfl ?_
    exact⟨i+1,sb,sb,⟨fun j hj=>by rcases Nat.lt_or_ge j i with h|h;exact qS j h;exact(show j=i by omega)▸h3,qi,(((hE.t Xd).t e3))⟩,by omega⟩
  ·have hin:i=ks.length:=by omega
   have hL:fc ks ks'=true:=tl el fun j hj=>qS j (by omega)
   rcases Nat.eq_zero_or_pos d.length with hd0|hd0
   ·refine jA 2 rfl<|lF rfl rfl<|WL.nil<|jA 2 rfl<|WC.exit ?_
    replace hK:=hK.m hE
    replace hD:=hD.m hE
    replace hK':=hK'.m hE
    replace hD':=hD'.m hE
    replace hb1:=hb1.m hE
    replace hb2:=hb2.m hE
    refine WC.seq<|WC.regionD (tt [0,1,2,3,4,5,6,7,8,9,10,11,12]++ff [13]++tt [14,15]) (ay _) mixed (by kernel_rfl) Xd<|jE 1 rfl<|dl rfl hb1 rfl<|jE 1 rfl<|He (fun _ hS=>ae (ak rfl rfl) (br (by omega)))<|jE 9 rfl<|WD.lsk rfl (Vd) rfl rfl rfl rfl rfl<|jE 2 rfl<|WD.nil<|WC.ret ?_
    replace he:=(he.t hE).t Xd
    exact aw rfl ⟨congrArg Value.bool (by rw[eq,hL,tk ed,decide_eq_true hd0];rfl),he⟩
   replace hD:=hD.m hE
   ·obtain⟨b,o1,c1,rfl,_,hA1,l1,hR1⟩:=hD.kid hd0
    replace hD':=hD'.m hE
    obtain⟨b',o2,c2,rfl,_,hA2,l2,hR2⟩:=hD'.kid (i:=0) (by omega)
    refine jA 2 rfl<|lF rfl rfl<|WL.nil<|jA 2 rfl<|WC.exit ?_
    replace hK:=hK.m hE
    replace hK':=hK'.m hE
    replace hb1:=hb1.m hE
    replace hb2:=hb2.m hE
    refine WC.seq<|WC.regionD (tt [0,1,2,3,4,5,6,7,8,9,10,11,12]++ff [13]++tt [14,15]) (ay _) mixed (by kernel_rfl) Xd<|jE 1 rfl<|dl rfl hb1 rfl<|jE 1 rfl<|He (fun _ hS=>ae (ak rfl rfl) (bk (by omega)))<|jE 2 rfl<|bl rfl rfl rfl hb1 rfl<|Hf rfl rfl (fun _ hS=>bd Fo.h rfl rfl rfl)<|Hf rfl rfl (fun _ hS=>ad Fo.h rfl hS hA1 (hn:=l1))<|jE 1 rfl<|bl rfl rfl rfl hb2 rfl<|Hf rfl rfl (fun _ hS=>bd Fo.h rfl rfl rfl)<|Hf rfl rfl (fun _ hS=>ad Fo.h rfl hS hA2 (hn:=l2))<|WD.lg rfl rfl rfl rfl rfl (cD Fb.h rfl (hds _ (bf hd0) _ _ _ _ _ _ (by have:=bo (bf hd0);omega) (hR1.m Xd) (hR2.m Xd))) ?_
    rintro v3 w3 ⟨rfl,e3⟩
    refine⟨(Vd.t e3),?_⟩
    refine jE 2 rfl<|WD.nil<|WC.ret ?_
    replace he:=((he.t hE).t Xd).t e3
    exact aw rfl ⟨congrArg Value.bool (by rw[eq,hL,tk ed,decide_eq_false (by omega)];rfl),he⟩
mutual
theorem Cq:∀x:V,rZ x
 | .mk k n t ks o d=>zL (uX ks) (uX d)
theorem uX:∀l:List V,∀x∈l,rZ x
 |[],x,hx=>by cases hx
 |a::r,x,hx=>by
  rcases List.mem_cons.1 hx with e|hx
  ·exact e▸Cq a
  ·exact uX r x hx
end
theorem eR{A B:Nat→Prop}{x y:V}{cx cy:List Value}{w:World}(hv:aE x≤1000000000)(hx:aC A w x cx)(hy:aC B w y cy):
  ah TP 31 [.agg cx.toArray,.agg cy.toArray] w fun r w'=>r= .bool (same x y)∧ay w w':=Cq x A B y cx cy w hv hx hy
theorem Az{A:Prop}(h:A:=by
 intro h2
 refine jA 4 rfl<|WC.ret ?_
 replace he:=(he.t hE).t e3
 exact aw rfl ⟨false,_,rfl,hB,fun h=>(by cases h),he⟩):A:=h
def yf(x:V):Prop:=∀(cx:List Value) (lb:Nat) (L:Int) (w:World),aC (fun b=>b≠lb) w x cx→aH w lb [.int .i64 L]→0≤L→L≤1000000→
 ah TP 67 [.agg cx.toArray,.pointer (some ⟨lb,0,none⟩)] w fun r w'=>∃b L',r= .bool b∧aH w' lb [.int .i64 L']∧(b=true→(aE x:Int)+L'=L∧0≤L')∧am (fun k=>k≠lb) w w'
theorem iG{l:List V}(h:i<l.length):aj (l.take (i+1))=aj (l.take i)+aE (bA l i):=by
 rw[← List.take_append_getElem h,cI,bW h]
 rw[aj,aj];omega
theorem Bq{k:Int}{ks:List V}{o:Int}{d:List V}(hks:∀x∈ks,yf x)(hds:∀x∈d,yf x):yf (.mk k n t ks o d):=by
 intro cx lb L w hx hB q0 q1
 obtain⟨pk,ck,pd,cd,rfl,_,_,hK,hD⟩:=hx.openV
 have:=hB.lt
 refine aR Tryz.func67 ?_
 have he:am (fun k=>k≠lb) w w:=am.refl w
 refine jA 2 rfl ?_
 have:=he.s
 refine Hb rfl fun w1 hb1 e1=>?_
 refine jC 2 rfl<|jA 5 rfl ?_
 replace hB:=hB.m e1
 refine ld rfl hB rfl<|Hq (bP rfl rfl rfl (by omega) (by omega))<|jC 1 rfl<|Hp rfl rfl hB fun w2 hB e2 hz2=>?_
 refine WL.nil<|jA 4 rfl<|ld rfl hB rfl<|Hq (ef rfl rfl)<|WL.nil<|WC.cond rfl ?_ ?_
 ·intro hc
  refine jA 4 rfl<|WC.ret ?_
  replace he:=(he.t e1).t e2
  exact aw rfl ⟨false,_,rfl,hB,fun h=>(by cases h),he⟩
 ·intro hc
  have q2:¬L-1<0:=by simpa using hc
  refine WC.skip<|jA 6 rfl ?_
  replace hK:=(hK.m e1).m e2
  replace hD:=(hD.m e1).m e2
  replace hb1:=hb1.m e2
  replace he:=(he.t e1).t e2
  refine WC.loop2 (ι:=(Nat×Int)) [(1,_),(2,_),(4,_)] (fun i=>[(5,.int .i64 (i.1:Int))]) (fun i wi=>aH wi lb [.int .i64 i.2]∧0≤i.2∧(1+(aj (ks.take i.1):Int)+i.2=L)∧i.1≤ks.length∧am (fun k=>k≠lb) w2 wi) (fun i=>ks.length-i.1) (0,L-1) sb sb (⟨hB,by omega,by simp[aj];omega,Nat.zero_le _,am.refl _⟩) ?_
  intro i wi1 hh;obtain⟨hB,n0,n1,n2,hE⟩:=hh
  obtain⟨i,M⟩:=i
  dsimp only at hB n0 n1 n2
  have hlt:=av (ks.take i)
  rw[List.length_take,Nat.min_eq_left n2]at hlt
  rcases Nat.lt_or_ge i ks.length with qi|qi
  replace hK:=hK.m hE
  ·obtain⟨b,o1,c1,rfl,_,hA1,l1,hR1⟩:=hK.kid qi
   have hta:=iG qi
   refine jA 5 rfl ?_
   replace hb1:=hb1.m hE
   refine ld rfl hb1 rfl<|jC 1 rfl<|lT rfl rfl<|WL.nil<|jA 2 rfl<|jA 5 rfl<|ld rfl hb1 rfl<|jC 1 rfl<|ix rfl rfl rfl<|Hq (ad Fo.h rfl Xr hA1 (hn:=l1))<|jC 1 rfl<|cl rfl (hks _ (bf qi) _ _ _ _ hR1 hB n0 (by omega)) ?_
   rintro v3 w3 ⟨z,M',rfl,hB,n4,e3⟩
   refine jC 2 rfl<|WC.cond rfl ?_ ?_
   ·exact Az
   ·intro h2
    obtain⟨n5,n6⟩:=n4 (by simpa using h2)
    refine WC.skip<|jA 2 rfl<|ai rfl rfl rfl<|jC 2 rfl ?_
    exact⟨(i+1,M'),sb,sb,⟨hB,n6,by dsimp only;omega,qi,((hE.t e3))⟩,(by show ks.length-(i+1)<ks.length-i;omega)⟩
  ·have hin:i=ks.length:=by omega
   subst hin
   rw[List.take_length]at n1
   refine jA 5 rfl ?_
   replace hb1:=hb1.m hE
   refine ld rfl hb1 rfl<|jC 1 rfl<|lF rfl rfl<|WL.nil<|jA 1 rfl<|WC.exit<|jA 6 rfl ?_
   replace hK:=hK.m hE
   replace hD:=hD.m hE
   replace he:=he.t hE
   refine WC.loop2 (ι:=(Nat×Int)) [(1,_),(2,_),(4,_),(5,_)] (fun i=>[(6,.int .i64 (i.1:Int))]) (fun i wi=>aH wi lb [.int .i64 i.2]∧0≤i.2∧(1+(aj ks:Int)+(aj (d.take i.1):Int)+i.2=L)∧i.1≤d.length∧am (fun k=>k≠lb) wi1 wi) (fun i=>d.length-i.1) (0,M) sb sb (⟨hB,by omega,by simp[aj];omega,Nat.zero_le _,am.refl _⟩) ?_
   intro i wi2 hh;obtain⟨hB,n0,n1,n2,hE⟩:=hh
   obtain⟨i,M⟩:=i
   dsimp only at hB n0 n1 n2
   have hlt:=av (d.take i)
   rw[List.length_take,Nat.min_eq_left n2]at hlt
   rcases Nat.lt_or_ge i d.length with qi|qi
   replace hD:=hD.m hE
   ·obtain⟨b,o1,c1,rfl,_,hA1,l1,hR1⟩:=hD.kid qi
    have hta:=iG qi
    refine jA 5 rfl ?_
    replace hb1:=hb1.m hE
    refine ld rfl hb1 rfl<|jC 1 rfl<|lT rfl rfl<|WL.nil<|jA 2 rfl<|jA 5 rfl<|ld rfl hb1 rfl<|jC 1 rfl<|ix rfl rfl rfl<|Hq (ad Fo.h rfl Xr hA1 (hn:=l1))<|jC 1 rfl<|cl rfl (hds _ (bf qi) _ _ _ _ hR1 hB n0 (by omega)) ?_
    rintro v3 w3 ⟨z,M',rfl,hB,n4,e3⟩
    refine jC 2 rfl<|WC.cond rfl ?_ ?_
    ·exact Az
    ·intro h2
     obtain⟨n5,n6⟩:=n4 (by simpa using h2)
     refine WC.skip<|jA 2 rfl<|ai rfl rfl rfl<|jC 2 rfl ?_
     exact⟨(i+1,M'),sb,sb,⟨hB,n6,by dsimp only;omega,qi,((hE.t e3))⟩,(by show d.length-(i+1)<d.length-i;omega)⟩
   ·have hin:i=d.length:=by omega
    subst hin
    rw[List.take_length]at n1
    refine jA 5 rfl ?_
    replace hb1:=hb1.m hE
    refine ld rfl hb1 rfl<|jC 1 rfl<|lF rfl rfl<|WL.nil<|jA 1 rfl<|WC.exit<|jA 4 rfl<|WC.ret ?_
    replace he:=he.t hE
    exact aw rfl ⟨true,_,rfl,hB,fun _=>⟨by rw[aE];omega,n0⟩,he⟩
mutual
theorem EY:∀x:V,yf x
 | .mk k n t ks o d=>Bq (yR ks) (yR d)
theorem yR:∀l:List V,∀x∈l,yf x
 |[],x,hx=>by cases hx
 |a::r,x,hx=>by
  rcases List.mem_cons.1 hx with e|hx
  ·exact e▸EY a
  ·exact yR r x hx
end
end Go.Proofs.LL
namespace Go.Proofs.LL
open Go Go.Proofs Go.RowKit
set_option maxHeartbeats 4000000
attribute [local irreducible] ar WL WC cq WT WX
theorem Ef:TP.underlying 368=some (.map 3 3):=by kernel_rfl
theorem eo:∃q,TP.underlying 368=some (.map q 3)∧bv TP 3=some (.int .i64 0):=⟨3,Ef,by kernel_rfl⟩
def jT:List (Int×Int):=[(2,1),(6,1),(3,2),(7,2),(4,4),(8,4),(10,4),(12,4),(15,4),(5,8),(9,8),(11,8),(13,8),(16,8),(14,16),(17,16)]
def F8:List (Int×Int):=[(0,64),(1,86),(2,80),(6,81),(3,96),(7,97),(4,112),(8,113),(10,114),(15,115),(12,116),(5,128),(9,129),(11,130),(16,131),(13,132),(14,148),(17,152),(18,176),(19,177),(20,179),(21,208),(22,209),(23,240)]
def yB(k:Int):Int:=bif (k==0||k==1)||decide (18≤k)then 1 else 0
def vU(k:Int):Int:=(dz jT k).getD 0-yB k
def gJ(k:Int):Int:=(dz F8 k).getD 0
theorem sq{k:Int}:ah TP 215 [.int .i64 k] w fun r w'=>r= .int .i64 (yB k)∧ay w w':=by
 refine aR Tryz.func215 ?_
 refine jA 8 rfl<|Hq (ak rfl rfl)<|jC 1 rfl<|Hc rfl rfl (fun hc=>aq rfl)<|Hc rfl rfl (fun hc=>ak (au hc) rfl)<|Hq (cA rfl rfl (fun h=>beq_iff_eq.2 h))<|jC 1 rfl<|Hc rfl rfl (fun hc=>aq rfl)<|Hc rfl rfl (fun hc=>bK (au hc) rfl)<|Hq (cA rfl rfl (fun h=>beq_iff_eq.2 h))<|WL.nil<|WC.cond rfl ?_ ?_
 ·intro hc
  have e:yB k=1:=by unfold yB;rw[hc];rfl
  refine jA 4 rfl<|WC.ret ?_
  exact aw rfl ⟨by rw[e],ch⟩
 ·intro hc
  have e:yB k=0:=by unfold yB;rw[hc];rfl
  refine jB 5 rfl<|WC.ret ?_
  exact aw rfl ⟨by rw[e],ch⟩
theorem l6(a b z:Int):∀l:List (Int×Int),dz (l++[(a,b)]) z=(dz l z).or (if z=a then some b else none)
 |[]=>by simp[dz]
 |(c,d)::r=>by
  rw[List.cons_append,dz,dz]
  split
  ·rfl
  ·exact l6 a b z r
def pT(N0:Nat)(L:Nat→Bool)(ρ:Fr)(w:World):Prop:=
 (L 0=true→∃m l,N0≤m∧lk ρ 3=some (.map (some m))∧cT w m (l.map (tL .i64))∧(∀a,a<16→L (a+1)=true→∀p,jT[a]?=some p→dz l p.1=some p.2)∧(∀z,(∀a,a<16→L (a+1)=true→∀p,jT[a]?=some p→p.1≠z)→dz l z=none))∧(L 0=false→∀a,a<16→L (a+1)=false)
theorem pT.keep{L L':Nat→Bool}(h:pT N0 L ρ w)(h0:L' 0=L 0)(ha:∀a,a<16→L' (a+1)=L (a+1))(h3:lk ρ' 3=lk ρ 3)(e:ay w w'):pT N0 L' ρ' w':=by
 refine⟨fun hL=>?_,fun hL a ha'=>?_⟩
 ·obtain⟨m,l,hm,h1,h2,h4,h5⟩:=h.1 (by rw[← h0];exact hL)
  exact⟨m,l,hm,by rw[h3];exact h1,h2.m e,fun a ha' hq=>h4 a ha' (by rw[← ha a ha'];exact hq),fun z hz=>h5 z fun a ha' hq=>hz a ha' (by rw[ha a ha'];exact hq)⟩
 ·rw[ha a ha'];exact h.2 (by rw[← h0];exact hL) a ha'
theorem yA(h:a≠b):Nat.beq a b=false:=by
 cases hq:Nat.beq a b with
 |false=>rfl
 |true=>exact absurd (Nat.eq_of_beq_eq_true hq) h
theorem um{a b:Nat}{p q:Int×Int}(ha:jT[a]?=some p)(hb:jT[b]?=some q)(hne:a≠b):p.1≠q.1:=by
 intro e
 have hn:(jT.map (·.1)).Nodup:=by decide
 obtain⟨h1,h2⟩:=List.getElem?_eq_some_iff.1 ha
 obtain⟨h3,h4⟩:=List.getElem?_eq_some_iff.1 hb
 have hp:=List.pairwise_iff_getElem.1 hn
 rcases Nat.lt_or_gt_of_ne hne with h|h
 ·refine hp a b (by simpa using h1) (by simpa using h3) h ?_
  rw[List.getElem_map,List.getElem_map,h2,h4,e]
 ·refine hp b a (by simpa using h3) (by simpa using h1) h ?_
  rw[List.getElem_map,List.getElem_map,h2,h4,e]
theorem pT.ins{L:Nat→Bool}{p:Int×Int}(h:pT N0 L ρ w)(h0:L 0=true)(ha:L (a+1)=false)(hp:jT[a]?=some p)(hlt:a<16):
  ∃m l,N0≤m∧lk ρ 3=some (.map (some m))∧cT w m (l.map (tL .i64))∧dz l p.1=none∧∀w',cT w' m ((l++[(p.1,p.2)]).map (tL .i64))→pT N0 (fun j=>Nat.beq j (a+1)||L j) ρ w':=by
 obtain⟨m,l,hm,h1,h2,h4,h5⟩:=h.1 h0
 have hno:dz l p.1=none:=h5 _ fun b hb hLb q hq=>um hq hp fun e=>by subst e;rw[ha]at hLb;cases hLb
 refine⟨m,l,hm,h1,h2,hno,fun w' hw=>⟨fun _=>⟨m,_,hm,h1,hw,fun b hb hLb q hq=>?_,fun z hz=>?_⟩,fun hL=>?_⟩⟩
 ·rw[l6]
  rcases Decidable.em (b=a)with e|e
  ·subst e
   rw[hp]at hq;obtain rfl:=Option.some.inj hq
   rw[hno];simp
  ·have hb2:L (b+1)=true:=by
    have:(Nat.beq (b+1) (a+1)||L (b+1))=true:=hLb
    rw[yA (by omega)]at this;exact this
   rw[h4 b hb hb2 q hq];rfl
 ·rw[l6,h5 z fun b hb hLb q hq=>hz b hb (by show(Nat.beq (b+1) (a+1)||L (b+1))=true;rw[hLb,Bool.or_true]) q hq]
  have:p.1≠z:=hz a hlt (by show(Nat.beq (a+1) (a+1)||L (a+1))=true;simp) p hp
  rw[if_neg (fun e=>this e.symm)];rfl
 ·have:(Nat.beq 0 (a+1)||L 0)=false:=hL
  rw[h0,Bool.or_true]at this;cases this
theorem pT.all{L:Nat→Bool}{k:Int}(h:pT N0 L ρ w)(hL:∀j,j<17→L j=true):∃m l,lk ρ 3=some (.map (some m))∧cT w m (l.map (tL .i64))∧dz l k=dz jT k:=by
 obtain⟨m,l,_,h1,h2,h4,h5⟩:=h.1 (hL 0 (by omega))
 refine⟨m,l,h1,h2,?_⟩
 have key:∀(t:List (Int×Int)) (s:Nat),(∀i,t[i]?=jT[i+s]?)→(t.length+s=16)→(dz l k=none∧dz t k=none∨dz l k=dz t k∨(∃a,a<s∧∃p,jT[a]?=some p∧p.1=k)):=by
  intro t
  induction t with
  |nil=>
   intro s hs hl
   simp at hl
   rcases Classical.em (∃a,a<s∧∃p,jT[a]?=some p∧p.1=k)with hq|hq
   ·exact .inr (.inr hq)
   ·left
    refine⟨h5 k fun a ha _ p hp e=>hq ⟨a,by omega,p,hp,e⟩,rfl⟩
  |cons q r ih=>
   intro s hs hl
   have hq0:=hs 0
   simp only[List.getElem?_cons_zero,Nat.zero_add]at hq0
   rcases Decidable.em (k=q.1)with e|e
   ·right;left
    have hs16:s<16:=by simp at hl;omega
    have:=h4 s hs16 (hL _ (by omega)) q hq0.symm
    obtain⟨qa,qb⟩:=q
    rw[dz,if_pos e,e];exact this
   ·rcases ih (s+1) (fun i=>by have:=hs (i+1);rw[List.getElem?_cons_succ]at this;rw[this];congr 1;omega) (by simp at hl⊢;omega)with h6|h6|⟨a,ha,p,hp,hpk⟩
    ·left
     obtain⟨qa,qb⟩:=q
     exact⟨h6.1,by rw[dz,if_neg e];exact h6.2⟩
    ·right;left
     obtain⟨qa,qb⟩:=q
     rw[dz,if_neg e];exact h6
    ·rcases Nat.lt_or_ge a s with h7|h7
     ·exact .inr (.inr ⟨a,h7,p,hp,hpk⟩)
     ·obtain rfl:a=s:=by omega
      rw[hp]at hq0
      obtain rfl:=Option.some.inj hq0
      exact absurd hpk.symm e
 rcases key jT 0 (fun i=>rfl) rfl with h6|h6|⟨a,ha,_⟩
 ·rw[h6.1,h6.2]
 ·exact h6
 ·omega
structure FV (k:Int) (w0:World) (L:Nat→Bool) (ρ:Fr) (w:World):Prop where
 e:ay w0 w
 t0:lk ρ 0=some (.int .i64 k)
 mp:pT w0.heap.size L ρ w
 t17:L 17=true→∃m,lk ρ 3=some (.map (some m))∧lk ρ 4=some (.map (some m))
 t18:L 18=true→lk ρ 5=some (.int .i64 k)
 t19:L 19=true→lk ρ 6=some (.int .i64 ((dz jT k).getD 0))
 t20:L 20=true→lk ρ 7=some (.int .i64 k)
 t21:L 21=true→lk ρ 8=some (.int .i64 (yB k))
 t22:L 22=true→lk ρ 9=some (.int .i64 (vU k))
 t23:L 23=true→lk ρ 2=some (.int .i64 (vU k))
 c17:L 17=true→∀j,j<17→L j=true
theorem tq:∀(l:List (Int×Int)) (z:Int),(∀p∈l,0≤p.2∧p.2≤16)→0≤(dz l z).getD 0∧(dz l z).getD 0≤16
 |[],z,_=>by simp[dz]
 |(a,b)::r,z,h=>by
  rw[dz]
  split
  ·exact h (a,b) (by simp)
  ·exact tq r z fun p hp=>h p (by simp[hp])
theorem xx(k:Int):0≤(dz jT k).getD 0∧(dz jT k).getD 0≤16∧0≤yB k∧yB k≤1:=by
 have h:=tq jT k (by decide)
 refine⟨h.1,h.2,?_,?_⟩
 ·unfold yB;cases((k==0||k==1)||decide (18≤k))<;>decide
 ·unfold yB;cases((k==0||k==1)||decide (18≤k))<;>decide
theorem nI{L:Nat→Bool}(hi:i=0∨17≤i):∀a,a<16→(Nat.beq (a+1) i||L (a+1))=L (a+1):=fun a ha=>by rw[yA (by omega)];rfl
theorem qC{k:Int}:ah TP 175 [.int .i64 k] w fun r w'=>r= .int .i64 (vU k)∧ay w w':=by
 obtain⟨sa,sb,sc,sd⟩:=xx k
 refine aR Tryz.func175 ?_
 refine jA 4 rfl<|WC.seq<|WC.regionI (FV k w) mixed (by kernel_rfl) ?_ ?_ ?_
 ·exact⟨ay.drew _,rfl,⟨fun h=>(by cases h),fun _ _ _=>rfl⟩,fun h=>(by cases h),fun h=>(by cases h),fun h=>(by cases h),fun h=>(by cases h),fun h=>(by cases h),fun h=>(by cases h),fun h=>(by cases h),fun h=>(by cases h)⟩
 ·intro L ρ' w' i hi hdep hL h
  have hi':i<24:=hi
  rcases(show i=0∨i=1∨i=2∨i=3∨i=4∨i=5∨i=6∨i=7∨i=8∨i=9∨i=10∨i=11∨i=12∨i=13∨i=14∨i=15∨i=16∨i=17∨i=18∨i=19∨i=20∨i=21∨i=22∨i=23 by omega)with rfl|rfl|rfl|rfl|rfl|rfl|rfl|rfl|rfl|rfl|rfl|rfl|rfl|rfl|rfl|rfl|rfl|rfl|rfl|rfl|rfl|rfl|rfl|rfl
  ·refine bN.l rfl rfl (d8 Fo.h (fun o h=>by cases h)) ?_
   rintro v w1 ⟨rfl,hM,e1⟩
   refine⟨h.e.trans e1,h.t0,⟨fun _=>⟨_,[],h.e.size,rfl,hM,fun a ha hq=>?_,fun z hz=>rfl⟩,fun hq=>by cases hq⟩,fun hq=>?_,h.t18,h.t19,h.t20,h.t21,h.t22,h.t23,fun hq j hj=>?_⟩
   ·have h2:=h.mp.2 hL a ha
    have hq':L (a+1)=true:=hq
    rw[h2]at hq'
    cases hq'
   ·have:=h.c17 hq 0 (by omega)
    rw[hL]at this;cases this
   ·have:=h.c17 hq 0 (by omega)
    rw[hL]at this;cases this
  ·obtain⟨m,l,q0,q1,q2,q3,q4⟩:=h.mp.ins (a:=0) (p:=(2,1)) (hdep 0 (by decide)) hL rfl (by omega)
   refine bN.l0 rfl (aV Fo.h Fo.h q1 rfl rfl q2 q3) ?_
   rintro v w1 ⟨hM,e1⟩
   exact⟨h.e.t e1 (fun b hb _=>by omega),h.t0,q4 _ hM,h.t17,h.t18,h.t19,h.t20,h.t21,h.t22,h.t23,fun hq j hj=>by
    show(Nat.beq j 1||L j)=true
    rw[h.c17 hq j hj,Bool.or_true]⟩
  ·obtain⟨m,l,q0,q1,q2,q3,q4⟩:=h.mp.ins (a:=1) (p:=(6,1)) (hdep 0 (by decide)) hL rfl (by omega)
   refine bN.l0 rfl (aV Fo.h Fo.h q1 rfl rfl q2 q3) ?_
   rintro v w1 ⟨hM,e1⟩
   exact⟨h.e.t e1 (fun b hb _=>by omega),h.t0,q4 _ hM,h.t17,h.t18,h.t19,h.t20,h.t21,h.t22,h.t23,fun hq j hj=>by
    show(Nat.beq j 2||L j)=true
    rw[h.c17 hq j hj,Bool.or_true]⟩
  ·obtain⟨m,l,q0,q1,q2,q3,q4⟩:=h.mp.ins (a:=2) (p:=(3,2)) (hdep 0 (by decide)) hL rfl (by omega)
   refine bN.l0 rfl (aV Fo.h Fo.h q1 rfl rfl q2 q3) ?_
   rintro v w1 ⟨hM,e1⟩
   exact⟨h.e.t e1 (fun b hb _=>by omega),h.t0,q4 _ hM,h.t17,h.t18,h.t19,h.t20,h.t21,h.t22,h.t23,fun hq j hj=>by
    show(Nat.beq j 3||L j)=true
    rw[h.c17 hq j hj,Bool.or_true]⟩
  ·obtain⟨m,l,q0,q1,q2,q3,q4⟩:=h.mp.ins (a:=3) (p:=(7,2)) (hdep 0 (by decide)) hL rfl (by omega)
   refine bN.l0 rfl (aV Fo.h Fo.h q1 rfl rfl q2 q3) ?_
   rintro v w1 ⟨hM,e1⟩
   exact⟨h.e.t e1 (fun b hb _=>by omega),h.t0,q4 _ hM,h.t17,h.t18,h.t19,h.t20,h.t21,h.t22,h.t23,fun hq j hj=>by
    show(Nat.beq j 4||L j)=true
    rw[h.c17 hq j hj,Bool.or_true]⟩
  ·obtain⟨m,l,q0,q1,q2,q3,q4⟩:=h.mp.ins (a:=4) (p:=(4,4)) (hdep 0 (by decide)) hL rfl (by omega)
   refine bN.l0 rfl (aV Fo.h Fo.h q1 rfl rfl q2 q3) ?_
   rintro v w1 ⟨hM,e1⟩
   exact⟨h.e.t e1 (fun b hb _=>by omega),h.t0,q4 _ hM,h.t17,h.t18,h.t19,h.t20,h.t21,h.t22,h.t23,fun hq j hj=>by
    show(Nat.beq j 5||L j)=true
    rw[h.c17 hq j hj,Bool.or_true]⟩
  ·obtain⟨m,l,q0,q1,q2,q3,q4⟩:=h.mp.ins (a:=5) (p:=(8,4)) (hdep 0 (by decide)) hL rfl (by omega)
   refine bN.l0 rfl (aV Fo.h Fo.h q1 rfl rfl q2 q3) ?_
   rintro v w1 ⟨hM,e1⟩
   exact⟨h.e.t e1 (fun b hb _=>by omega),h.t0,q4 _ hM,h.t17,h.t18,h.t19,h.t20,h.t21,h.t22,h.t23,fun hq j hj=>by
    show(Nat.beq j 6||L j)=true
    rw[h.c17 hq j hj,Bool.or_true]⟩
  ·obtain⟨m,l,q0,q1,q2,q3,q4⟩:=h.mp.ins (a:=6) (p:=(10,4)) (hdep 0 (by decide)) hL rfl (by omega)
   refine bN.l0 rfl (aV Fo.h Fo.h q1 rfl rfl q2 q3) ?_
   rintro v w1 ⟨hM,e1⟩
   exact⟨h.e.t e1 (fun b hb _=>by omega),h.t0,q4 _ hM,h.t17,h.t18,h.t19,h.t20,h.t21,h.t22,h.t23,fun hq j hj=>by
    show(Nat.beq j 7||L j)=true
    rw[h.c17 hq j hj,Bool.or_true]⟩
  ·obtain⟨m,l,q0,q1,q2,q3,q4⟩:=h.mp.ins (a:=7) (p:=(12,4)) (hdep 0 (by decide)) hL rfl (by omega)
   refine bN.l0 rfl (aV Fo.h Fo.h q1 rfl rfl q2 q3) ?_
   rintro v w1 ⟨hM,e1⟩
   exact⟨h.e.t e1 (fun b hb _=>by omega),h.t0,q4 _ hM,h.t17,h.t18,h.t19,h.t20,h.t21,h.t22,h.t23,fun hq j hj=>by
    show(Nat.beq j 8||L j)=true
    rw[h.c17 hq j hj,Bool.or_true]⟩
  ·obtain⟨m,l,q0,q1,q2,q3,q4⟩:=h.mp.ins (a:=8) (p:=(15,4)) (hdep 0 (by decide)) hL rfl (by omega)
   refine bN.l0 rfl (aV Fo.h Fo.h q1 rfl rfl q2 q3) ?_
   rintro v w1 ⟨hM,e1⟩
   exact⟨h.e.t e1 (fun b hb _=>by omega),h.t0,q4 _ hM,h.t17,h.t18,h.t19,h.t20,h.t21,h.t22,h.t23,fun hq j hj=>by
    show(Nat.beq j 9||L j)=true
    rw[h.c17 hq j hj,Bool.or_true]⟩
  ·obtain⟨m,l,q0,q1,q2,q3,q4⟩:=h.mp.ins (a:=9) (p:=(5,8)) (hdep 0 (by decide)) hL rfl (by omega)
   refine bN.l0 rfl (aV Fo.h Fo.h q1 rfl rfl q2 q3) ?_
   rintro v w1 ⟨hM,e1⟩
   exact⟨h.e.t e1 (fun b hb _=>by omega),h.t0,q4 _ hM,h.t17,h.t18,h.t19,h.t20,h.t21,h.t22,h.t23,fun hq j hj=>by
    show(Nat.beq j 10||L j)=true
    rw[h.c17 hq j hj,Bool.or_true]⟩
  ·obtain⟨m,l,q0,q1,q2,q3,q4⟩:=h.mp.ins (a:=10) (p:=(9,8)) (hdep 0 (by decide)) hL rfl (by omega)
   refine bN.l0 rfl (aV Fo.h Fo.h q1 rfl rfl q2 q3) ?_
   rintro v w1 ⟨hM,e1⟩
   exact⟨h.e.t e1 (fun b hb _=>by omega),h.t0,q4 _ hM,h.t17,h.t18,h.t19,h.t20,h.t21,h.t22,h.t23,fun hq j hj=>by
    show(Nat.beq j 11||L j)=true
    rw[h.c17 hq j hj,Bool.or_true]⟩
  ·obtain⟨m,l,q0,q1,q2,q3,q4⟩:=h.mp.ins (a:=11) (p:=(11,8)) (hdep 0 (by decide)) hL rfl (by omega)
   refine bN.l0 rfl (aV Fo.h Fo.h q1 rfl rfl q2 q3) ?_
   rintro v w1 ⟨hM,e1⟩
   exact⟨h.e.t e1 (fun b hb _=>by omega),h.t0,q4 _ hM,h.t17,h.t18,h.t19,h.t20,h.t21,h.t22,h.t23,fun hq j hj=>by
    show(Nat.beq j 12||L j)=true
    rw[h.c17 hq j hj,Bool.or_true]⟩
  ·obtain⟨m,l,q0,q1,q2,q3,q4⟩:=h.mp.ins (a:=12) (p:=(13,8)) (hdep 0 (by decide)) hL rfl (by omega)
   refine bN.l0 rfl (aV Fo.h Fo.h q1 rfl rfl q2 q3) ?_
   rintro v w1 ⟨hM,e1⟩
   exact⟨h.e.t e1 (fun b hb _=>by omega),h.t0,q4 _ hM,h.t17,h.t18,h.t19,h.t20,h.t21,h.t22,h.t23,fun hq j hj=>by
    show(Nat.beq j 13||L j)=true
    rw[h.c17 hq j hj,Bool.or_true]⟩
  ·obtain⟨m,l,q0,q1,q2,q3,q4⟩:=h.mp.ins (a:=13) (p:=(16,8)) (hdep 0 (by decide)) hL rfl (by omega)
   refine bN.l0 rfl (aV Fo.h Fo.h q1 rfl rfl q2 q3) ?_
   rintro v w1 ⟨hM,e1⟩
   exact⟨h.e.t e1 (fun b hb _=>by omega),h.t0,q4 _ hM,h.t17,h.t18,h.t19,h.t20,h.t21,h.t22,h.t23,fun hq j hj=>by
    show(Nat.beq j 14||L j)=true
    rw[h.c17 hq j hj,Bool.or_true]⟩
  ·obtain⟨m,l,q0,q1,q2,q3,q4⟩:=h.mp.ins (a:=14) (p:=(14,16)) (hdep 0 (by decide)) hL rfl (by omega)
   refine bN.l0 rfl (aV Fo.h Fo.h q1 rfl rfl q2 q3) ?_
   rintro v w1 ⟨hM,e1⟩
   exact⟨h.e.t e1 (fun b hb _=>by omega),h.t0,q4 _ hM,h.t17,h.t18,h.t19,h.t20,h.t21,h.t22,h.t23,fun hq j hj=>by
    show(Nat.beq j 15||L j)=true
    rw[h.c17 hq j hj,Bool.or_true]⟩
  ·obtain⟨m,l,q0,q1,q2,q3,q4⟩:=h.mp.ins (a:=15) (p:=(17,16)) (hdep 0 (by decide)) hL rfl (by omega)
   refine bN.l0 rfl (aV Fo.h Fo.h q1 rfl rfl q2 q3) ?_
   rintro v w1 ⟨hM,e1⟩
   exact⟨h.e.t e1 (fun b hb _=>by omega),h.t0,q4 _ hM,h.t17,h.t18,h.t19,h.t20,h.t21,h.t22,h.t23,fun hq j hj=>by
    show(Nat.beq j 16||L j)=true
    rw[h.c17 hq j hj,Bool.or_true]⟩
  ·have hall:∀j,j<17→L j=true:=fun j hj=>by
    rcases(show j=0∨j=1∨j=2∨j=3∨j=4∨j=5∨j=6∨j=7∨j=8∨j=9∨j=10∨j=11∨j=12∨j=13∨j=14∨j=15∨j=16 by omega)with rfl|rfl|rfl|rfl|rfl|rfl|rfl|rfl|rfl|rfl|rfl|rfl|rfl|rfl|rfl|rfl|rfl<;>exact hdep _ (by decide)
   obtain⟨m,l,q1,q2,_⟩:=h.mp.all (k:=k) hall
   refine bN.q rfl rfl (aq q1) ?_
   exact⟨h.e,h.t0,h.mp.keep rfl (nI (.inr (by omega))) rfl Xr,fun _=>⟨m,q1,rfl⟩,h.t18,h.t19,h.t20,h.t21,h.t22,h.t23,fun _ j hj=>by
    show(Nat.beq j 17||L j)=true
    rw[hall j hj,Bool.or_true]⟩
  ·exact bN.q rfl rfl (aq h.t0) ⟨h.e,h.t0,h.mp.keep rfl (nI (.inr (by omega))) rfl Xr,h.t17,fun _=>rfl,h.t19,h.t20,h.t21,h.t22,h.t23,fun hq j hj=>by show(Nat.beq j 18||L j)=true;rw[h.c17 hq j hj,Bool.or_true]⟩
  ·obtain⟨m,q1,q2⟩:=h.t17 (hdep 17 (by decide))
   obtain⟨m',l,q3,q4,q5⟩:=h.mp.all (k:=k) (h.c17 (hdep 17 (by decide)))
   rw[q1]at q3
   have hm:m=m':=by injection q3 with q3;injection q3 with q3;injection q3
   subst hm
   refine bN.q rfl rfl (cz Fo.h Fo.h eo q2 (h.t18 (hdep 18 (by decide))) Xr q4) ?_
   rw[q5]
   exact⟨h.e,h.t0,h.mp.keep rfl (nI (.inr (by omega))) rfl Xr,h.t17,h.t18,fun _=>rfl,h.t20,h.t21,h.t22,h.t23,fun hq j hj=>by show(Nat.beq j 19||L j)=true;rw[h.c17 hq j hj,Bool.or_true]⟩
  ·exact bN.q rfl rfl (aq h.t0) ⟨h.e,h.t0,h.mp.keep rfl (nI (.inr (by omega))) rfl Xr,h.t17,h.t18,h.t19,fun _=>rfl,h.t21,h.t22,h.t23,fun hq j hj=>by show(Nat.beq j 20||L j)=true;rw[h.c17 hq j hj,Bool.or_true]⟩
  ·refine bN.l rfl rfl (cD Fb.h (by rw[lS,show ov ρ' (.tmp 7)=_ from h.t20 (hdep 20 (by decide))];rfl) sq) ?_
   rintro v w1 ⟨rfl,e1⟩
   exact⟨h.e.trans e1,h.t0,h.mp.keep rfl (nI (.inr (by omega))) rfl e1,h.t17,h.t18,h.t19,h.t20,fun _=>rfl,h.t22,h.t23,fun hq j hj=>by show(Nat.beq j 21||L j)=true;rw[h.c17 hq j hj,Bool.or_true]⟩
  ·exact bN.q rfl rfl (bP (h.t19 (hdep 19 (by decide))) (h.t21 (hdep 21 (by decide))) rfl (by omega) (by omega)) ⟨h.e,h.t0,h.mp.keep rfl (nI (.inr (by omega))) rfl Xr,h.t17,h.t18,h.t19,h.t20,h.t21,fun _=>rfl,h.t23,fun hq j hj=>by show(Nat.beq j 22||L j)=true;rw[h.c17 hq j hj,Bool.or_true]⟩
  ·exact bN.q rfl rfl (ap (h.t22 (hdep 22 (by decide)))) ⟨h.e,h.t0,h.mp.keep rfl (nI (.inr (by omega))) rfl Xr,h.t17,h.t18,h.t19,h.t20,h.t21,h.t22,fun _=>rfl,fun hq j hj=>by show(Nat.beq j 23||L j)=true;rw[h.c17 hq j hj,Bool.or_true]⟩
 ·intro L ρ' w' hall h
  exact WC.ret (aw (h.t23 (hall 23 (by decide))) ⟨rfl,h.e⟩)
theorem su{k:Int}:ah TP 86 [.int .i64 k] w fun r w'=>r= .int .i64 (gJ k)∧ay w w':=by
 refine aR Tryz.func86 ?_
 have he:=XI w
 refine jA 6 rfl ?_
 have:=he.s
 refine WL.l rfl (d8 Fo.h (fun o h=>by cases h)) ?_
 rintro _ w1 ⟨rfl,hm1,e1⟩
 refine WL.l0 (aV (l:=[]) Fo.h Fo.h rfl rfl rfl hm1 rfl) ?_
 rintro _ w2 ⟨hm1,e2⟩
 refine WL.l0 (aV (l:=[(0,64)]) Fo.h Fo.h rfl rfl rfl hm1 rfl) ?_
 rintro _ w3 ⟨hm1,e3⟩
 refine WL.l0 (aV (l:=[(0,64),(1,86)]) Fo.h Fo.h rfl rfl rfl hm1 rfl) ?_
 rintro _ w4 ⟨hm1,e4⟩
 refine WL.l0 (aV (l:=[(0,64),(1,86),(2,80)]) Fo.h Fo.h rfl rfl rfl hm1 rfl) ?_
 rintro _ w5 ⟨hm1,e5⟩
 refine WL.l0 (aV (l:=[(0,64),(1,86),(2,80),(6,81)]) Fo.h Fo.h rfl rfl rfl hm1 rfl) ?_
 rintro _ w6 ⟨hm1,e6⟩
 refine WL.l0 (aV (l:=[(0,64),(1,86),(2,80),(6,81),(3,96)]) Fo.h Fo.h rfl rfl rfl hm1 rfl) ?_
 rintro _ w7 ⟨hm1,e7⟩
 refine WL.l0 (aV (l:=[(0,64),(1,86),(2,80),(6,81),(3,96),(7,97)]) Fo.h Fo.h rfl rfl rfl hm1 rfl) ?_
 rintro _ w8 ⟨hm1,e8⟩
 refine WL.l0 (aV (l:=[(0,64),(1,86),(2,80),(6,81),(3,96),(7,97),(4,112)]) Fo.h Fo.h rfl rfl rfl hm1 rfl) ?_
 rintro _ w9 ⟨hm1,e9⟩
 refine WL.l0 (aV (l:=[(0,64),(1,86),(2,80),(6,81),(3,96),(7,97),(4,112),(8,113)]) Fo.h Fo.h rfl rfl rfl hm1 rfl) ?_
 rintro _ w10 ⟨hm1,e10⟩
 refine WL.l0 (aV (l:=[(0,64),(1,86),(2,80),(6,81),(3,96),(7,97),(4,112),(8,113),(10,114)]) Fo.h Fo.h rfl rfl rfl hm1 rfl) ?_
 rintro _ w11 ⟨hm1,e11⟩
 refine WL.l0 (aV (l:=[(0,64),(1,86),(2,80),(6,81),(3,96),(7,97),(4,112),(8,113),(10,114),(15,115)]) Fo.h Fo.h rfl rfl rfl hm1 rfl) ?_
 rintro _ w12 ⟨hm1,e12⟩
 refine WL.l0 (aV (l:=[(0,64),(1,86),(2,80),(6,81),(3,96),(7,97),(4,112),(8,113),(10,114),(15,115),(12,116)]) Fo.h Fo.h rfl rfl rfl hm1 rfl) ?_
 rintro _ w13 ⟨hm1,e13⟩
 refine WL.l0 (aV (l:=[(0,64),(1,86),(2,80),(6,81),(3,96),(7,97),(4,112),(8,113),(10,114),(15,115),(12,116),(5,128)]) Fo.h Fo.h rfl rfl rfl hm1 rfl) ?_
 rintro _ w14 ⟨hm1,e14⟩
 refine WL.l0 (aV (l:=[(0,64),(1,86),(2,80),(6,81),(3,96),(7,97),(4,112),(8,113),(10,114),(15,115),(12,116),(5,128),(9,129)]) Fo.h Fo.h rfl rfl rfl hm1 rfl) ?_
 rintro _ w15 ⟨hm1,e15⟩
 refine WL.l0 (aV (l:=[(0,64),(1,86),(2,80),(6,81),(3,96),(7,97),(4,112),(8,113),(10,114),(15,115),(12,116),(5,128),(9,129),(11,130)]) Fo.h Fo.h rfl rfl rfl hm1 rfl) ?_
 rintro _ w16 ⟨hm1,e16⟩
 refine WL.l0 (aV (l:=[(0,64),(1,86),(2,80),(6,81),(3,96),(7,97),(4,112),(8,113),(10,114),(15,115),(12,116),(5,128),(9,129),(11,130),(16,131)]) Fo.h Fo.h rfl rfl rfl hm1 rfl) ?_
 rintro _ w17 ⟨hm1,e17⟩
 refine WL.l0 (aV (l:=[(0,64),(1,86),(2,80),(6,81),(3,96),(7,97),(4,112),(8,113),(10,114),(15,115),(12,116),(5,128),(9,129),(11,130),(16,131),(13,132)]) Fo.h Fo.h rfl rfl rfl hm1 rfl) ?_
 rintro _ w18 ⟨hm1,e18⟩
 refine WL.l0 (aV (l:=[(0,64),(1,86),(2,80),(6,81),(3,96),(7,97),(4,112),(8,113),(10,114),(15,115),(12,116),(5,128),(9,129),(11,130),(16,131),(13,132),(14,148)]) Fo.h Fo.h rfl rfl rfl hm1 rfl) ?_
 rintro _ w19 ⟨hm1,e19⟩
 refine WL.l0 (aV (l:=[(0,64),(1,86),(2,80),(6,81),(3,96),(7,97),(4,112),(8,113),(10,114),(15,115),(12,116),(5,128),(9,129),(11,130),(16,131),(13,132),(14,148),(17,152)]) Fo.h Fo.h rfl rfl rfl hm1 rfl) ?_
 rintro _ w20 ⟨hm1,e20⟩
 refine WL.l0 (aV (l:=[(0,64),(1,86),(2,80),(6,81),(3,96),(7,97),(4,112),(8,113),(10,114),(15,115),(12,116),(5,128),(9,129),(11,130),(16,131),(13,132),(14,148),(17,152),(18,176)]) Fo.h Fo.h rfl rfl rfl hm1 rfl) ?_
 rintro _ w21 ⟨hm1,e21⟩
 refine WL.l0 (aV (l:=[(0,64),(1,86),(2,80),(6,81),(3,96),(7,97),(4,112),(8,113),(10,114),(15,115),(12,116),(5,128),(9,129),(11,130),(16,131),(13,132),(14,148),(17,152),(18,176),(19,177)]) Fo.h Fo.h rfl rfl rfl hm1 rfl) ?_
 rintro _ w22 ⟨hm1,e22⟩
 refine WL.l0 (aV (l:=[(0,64),(1,86),(2,80),(6,81),(3,96),(7,97),(4,112),(8,113),(10,114),(15,115),(12,116),(5,128),(9,129),(11,130),(16,131),(13,132),(14,148),(17,152),(18,176),(19,177),(20,179)]) Fo.h Fo.h rfl rfl rfl hm1 rfl) ?_
 rintro _ w23 ⟨hm1,e23⟩
 refine WL.l0 (aV (l:=[(0,64),(1,86),(2,80),(6,81),(3,96),(7,97),(4,112),(8,113),(10,114),(15,115),(12,116),(5,128),(9,129),(11,130),(16,131),(13,132),(14,148),(17,152),(18,176),(19,177),(20,179),(21,208)]) Fo.h Fo.h rfl rfl rfl hm1 rfl) ?_
 rintro _ w24 ⟨hm1,e24⟩
 refine WL.l0 (aV (l:=[(0,64),(1,86),(2,80),(6,81),(3,96),(7,97),(4,112),(8,113),(10,114),(15,115),(12,116),(5,128),(9,129),(11,130),(16,131),(13,132),(14,148),(17,152),(18,176),(19,177),(20,179),(21,208),(22,209)]) Fo.h Fo.h rfl rfl rfl hm1 rfl) ?_
 rintro _ w25 ⟨hm1,e25⟩
 refine jC 2 rfl<|Hq (cz (l:=[(0,64),(1,86),(2,80),(6,81),(3,96),(7,97),(4,112),(8,113),(10,114),(15,115),(12,116),(5,128),(9,129),(11,130),(16,131),(13,132),(14,148),(17,152),(18,176),(19,177),(20,179),(21,208),(22,209),(23,240)]) Fo.h Fo.h eo rfl rfl Xr hm1)<|jC 2 rfl<|WC.ret ?_
 replace he:=(((((((((((((((((((((he.t (((e1.t e2).t e3).t e4)).t e5).t e6).t e7).t e8).t e9).t e10).t e11).t e12).t e13).t e14).t e15).t e16).t e17).t e18).t e19).t e20).t e21).t e22).t e23).t e24).t e25
 exact aw rfl ⟨rfl,he⟩
end Go.Proofs.LL
namespace Go.Proofs.LL
open Go Go.Proofs Go.RowKit
theorem eC(z:Int):IntKind.u64.wrap z=z%18446744073709551616:=rfl
theorem kX(z:Int):IntKind.i64.wrap z=if z%18446744073709551616<9223372036854775808 then z%18446744073709551616 else z%18446744073709551616-18446744073709551616:=by
 simp only[IntKind.wrap,IntKind.bits,IntKind.signed]
 simp
 split<;>split<;>omega
theorem FK{n E F:Nat}(hE:(2:Int)^E=72057594037927936)(hF:(2:Int)^F=72057594037927936)(h:(IntKind.u64.wrap ((n:Int) * 2^E)).fdiv (2^F)=(n:Int)):n<256:=by
 rw[hE,hF,Int.fdiv_eq_ediv_of_nonneg _ (by omega),eC]at h
 omega
theorem Gj{n E F:Nat}(hE:(2:Int)^E=72057594037927936)(hF:(2:Int)^F=72057594037927936)(h:IntKind.u64.wrap ((IntKind.i64.wrap (IntKind.u64.wrap ((n:Int) * 2^E))).fdiv (2^F))=(n:Int)):mT 8 n∧n<18446744073709551616:=by
 rw[hE,hF,Int.fdiv_eq_ediv_of_nonneg _ (by omega),eC,eC,kX]at h
 unfold mT
 simp only[Nat.reduceSub,Nat.reducePow]
 split at h<;>omega
theorem FL{n E F:Nat}(hE:(2:Int)^E=281474976710656)(hF:(2:Int)^F=281474976710656)(h:(IntKind.u64.wrap ((n:Int) * 2^E)).fdiv (2^F)=(n:Int)):n<65536:=by
 rw[hE,hF,Int.fdiv_eq_ediv_of_nonneg _ (by omega),eC]at h
 omega
theorem Gk{n E F:Nat}(hE:(2:Int)^E=281474976710656)(hF:(2:Int)^F=281474976710656)(h:IntKind.u64.wrap ((IntKind.i64.wrap (IntKind.u64.wrap ((n:Int) * 2^E))).fdiv (2^F))=(n:Int)):mT 16 n∧n<18446744073709551616:=by
 rw[hE,hF,Int.fdiv_eq_ediv_of_nonneg _ (by omega),eC,eC,kX]at h
 unfold mT
 simp only[Nat.reduceSub,Nat.reducePow]
 split at h<;>omega
theorem wD{n E F:Nat}(hE:(2:Int)^E=4294967296)(hF:(2:Int)^F=4294967296)(h:(IntKind.u64.wrap ((n:Int) * 2^E)).fdiv (2^F)=(n:Int)):n<4294967296:=by
 rw[hE,hF,Int.fdiv_eq_ediv_of_nonneg _ (by omega),eC]at h
 omega
theorem Gl{n E F:Nat}(hE:(2:Int)^E=4294967296)(hF:(2:Int)^F=4294967296)(h:IntKind.u64.wrap ((IntKind.i64.wrap (IntKind.u64.wrap ((n:Int) * 2^E))).fdiv (2^F))=(n:Int)):mT 32 n∧n<18446744073709551616:=by
 rw[hE,hF,Int.fdiv_eq_ediv_of_nonneg _ (by omega),eC,eC,kX]at h
 unfold mT
 simp only[Nat.reduceSub,Nat.reducePow]
 split at h<;>omega
theorem FM{n E F:Nat}(hE:(2:Int)^E=1)(hF:(2:Int)^F=1)(h:(IntKind.u64.wrap ((n:Int) * 2^E)).fdiv (2^F)=(n:Int)):n<18446744073709551616:=by
 rw[hE,hF,Int.fdiv_eq_ediv_of_nonneg _ (by omega),eC]at h
 omega
theorem Gm{n E F:Nat}(hE:(2:Int)^E=1)(hF:(2:Int)^F=1)(h:IntKind.u64.wrap ((IntKind.i64.wrap (IntKind.u64.wrap ((n:Int) * 2^E))).fdiv (2^F))=(n:Int)):mT 64 n∧n<18446744073709551616:=by
 rw[hE,hF,Int.fdiv_eq_ediv_of_nonneg _ (by omega),eC,eC,kX]at h
 unfold mT
 simp only[Nat.reduceSub,Nat.reducePow]
 split at h<;>omega
theorem gI{k:Int}{t:List UInt8}{ks:List V}(h1:k=1→n≤1)(h2:k=2→n<256)(h3:k=3→n<65536)(h4:k=4→n<4294967296)(h6:k=6→mT 8 n)(h7:k=7→mT 16 n)(h8:k=8→mT 32 n)(h10:k=10→n<4294967296)(hn:n<18446744073709551616)
  (a1:k=14∨k=17→t.length=16) (a2:k=19→Lib.validD t=true) (a3:k=20→si t) (a4:k=22→ks.length%2=0) (a5:k=23→∀x∈ks,x.kind=(bA ks 0).kind∧x.desc.length=(bA ks 0).desc.length):CF k n t ks:=
 ⟨⟨h1,h2,h3,h4,h6,h7,h8,h10,hn⟩,a1,a2,a3,a4,a5⟩
end Go.Proofs.LL
