/- Own laws of frames, operations and loops, and contracts of functions of the program. Conditions: those that each theorem states. -/
import Derived.Test.YtdgbmbjkbmpcbaaGreatDoorV32
set_option linter.all false
set_option maxRecDepth 20000
namespace Go.Proofs.LL
open Go Go.Proofs Go.RowKit
set_option maxHeartbeats 4000000
attribute [local irreducible] RunOp WL WC WDL WT WX
def gZ(x:V):Prop:=∀(A B:Nat→Prop) (y:V) (cx cy:List Value) (w:World),ah x≤1000000000→ag A w x cx→ag B w y cy→
 Does TP 31 [.agg cx.toArray,.agg cy.toArray] w fun r w'=>r= .bool (same x y)∧Ext w w'
theorem iK{k k':Int}{n n':Nat}{t t':List UInt8}{ks ks' d d':List V}{o o':Int}(h:(((((k !=k')||((n:Int) !=(n':Int)))|| !decide (t=t'))||((ks.length:Int) !=(ks'.length:Int)))||((d.length:Int) !=(d'.length:Int)))=true):same (.mk k n t ks o d) (.mk k' n' t' ks' o' d')=false:=by
 simp only[Bool.or_eq_true,bne_iff_ne,ne_eq,Bool.not_eq_true',decide_eq_false_iff_not]at h
 simp only[same]
 rcases h with(((h|h)|h)|h)|h
 ·simp[h]
 ·have:¬n=n':=fun e=>h (by rw[e])
  simp[this]
 ·simp[h]
 ·have:¬ks.length=ks'.length:=fun e=>h (by rw[e])
  simp[this]
 ·have:¬d.length=d'.length:=fun e=>h (by rw[e])
  simp[this]
theorem kQ{k k':Int}{n n':Nat}{t t':List UInt8}{ks ks' d d':List V}{o o':Int}(h:(((((k !=k')||((n:Int) !=(n':Int)))|| !decide (t=t'))||((ks.length:Int) !=(ks'.length:Int)))||((d.length:Int) !=(d'.length:Int)))=false):same (.mk k n t ks o d) (.mk k' n' t' ks' o' d')=(sameL ks ks'&&same1 d d')∧ks.length=ks'.length∧d.length=d'.length:=by
 simp only[Bool.or_eq_false_iff,bne_eq_false_iff_eq,Bool.not_eq_false',decide_eq_true_eq]at h
 obtain⟨⟨⟨⟨h1,h2⟩,h3⟩,h4⟩,h5⟩:=h
 have h2':n=n':=by omega
 have h4':ks.length=ks'.length:=by omega
 have h5':d.length=d'.length:=by omega
 refine⟨?_,h4',h5'⟩
 simp only[same]
 simp[h1,h2',h3,h4',h5']
theorem ib{d d':List V}(h:d.length=d'.length):same1 d d'=(decide (d.length=0)||same (aq d 0) (aq d' 0)):=by
 match d,d',h with
 |[],[],_=>rfl
 |a::r,b::s,_=>simp[same1,aq]
theorem lw{k:Int}{n:Nat}{t:List UInt8}{ks:List V}{o:Int}{d:List V}(hks:∀x∈ks,gZ x)(hds:∀x∈d,gZ x):gZ (.mk k n t ks o d):=by
 intro A B y cx cy w hv hx hy
 rw[ah]at hv
 have hkl:=ae ks
 obtain⟨k',n',t',ks',o',d'⟩:=y
 obtain⟨pk,ck,pd,cd,rfl,_,_,hK,hD⟩:=hx.openV
 obtain⟨pk',ck',pd',cd',rfl,_,_,hK',hD'⟩:=hy.openV
 refine do1 Tryz.func31 ?_
 have he:Evo (fun _=>True) w w:=Evo.refl w
 refine jA 2 rfl ?_
 have hs1:=he.size
 refine bx rfl ?_
 rintro _ w1 ⟨rfl,hb1,e1⟩
 replace he:=he.then e1
 have hs2:=he.size
 have hx2b1:=hb1.lt
 refine bx rfl ?_
 rintro _ w2 ⟨rfl,hb2,e2⟩
 refine jC 2 rfl<|jA 4 rfl ?_
 replace hb1:=hb1.mono e2
 refine ld rfl hb1 rfl<|jC 1 rfl<|ld rfl hb2 rfl<|WL.q rfl (r_neq rfl rfl)<|jC 1 rfl ?_
 refine WL.qc rfl rfl rfl rfl (fun hc=>r_fieldAddr rfl Fo.h) ?_
 refine WL.qc rfl rfl rfl rfl (fun hc=>r_load Fb.h (cnd_of hc) (Ext.refl _) (hb1.get rfl)) ?_
 refine WL.qc rfl rfl rfl rfl (fun hc=>r_fieldAddr rfl Fo.h) ?_
 refine WL.qc rfl rfl rfl rfl (fun hc=>r_load Fb.h (cnd_of hc) (Ext.refl _) (hb2.get rfl)) ?_
 refine WL.qc rfl rfl rfl rfl (fun hc=>r_neq (cnd_of hc) (cnd_of hc)) ?_
 refine WL.q rfl (r_or rfl rfl (fun h=>beq_iff_eq.2 h)) ?_
 refine jC 1 rfl ?_
 refine WL.qc rfl rfl rfl rfl (fun hc=>r_fieldAddr rfl Fo.h) ?_
 refine WL.qc rfl rfl rfl rfl (fun hc=>r_load Fb.h (cnd_of hc) (Ext.refl _) (hb1.get rfl)) ?_
 refine WL.qc rfl rfl rfl rfl (fun hc=>r_fieldAddr rfl Fo.h) ?_
 refine WL.qc rfl rfl rfl rfl (fun hc=>r_load Fb.h (cnd_of hc) (Ext.refl _) (hb2.get rfl)) ?_
 refine WL.qc rfl rfl rfl rfl (fun hc=>r_stneE (cnd_of hc) (cnd_of hc)) ?_
 refine WL.q rfl (r_or rfl rfl (fun h=>beq_iff_eq.2 h)) ?_
 refine jC 1 rfl ?_
 refine WL.qc rfl rfl rfl rfl (fun hc=>r_fieldAddr rfl Fo.h) ?_
 refine WL.qc rfl rfl rfl rfl (fun hc=>r_load Fb.h (cnd_of hc) (Ext.refl _) (hb1.get rfl)) ?_
 refine WL.qc rfl rfl rfl rfl (fun hc=>r_len Fo.h (cnd_of hc)) ?_
 refine WL.qc rfl rfl rfl rfl (fun hc=>r_fieldAddr rfl Fo.h) ?_
 refine WL.qc rfl rfl rfl rfl (fun hc=>r_load Fb.h (cnd_of hc) (Ext.refl _) (hb2.get rfl)) ?_
 refine WL.qc rfl rfl rfl rfl (fun hc=>r_len Fo.h (cnd_of hc)) ?_
 refine WL.qc rfl rfl rfl rfl (fun hc=>r_neq (cnd_of hc) (cnd_of hc)) ?_
 refine WL.q rfl (r_or rfl rfl (fun h=>beq_iff_eq.2 h)) ?_
 refine jC 1 rfl ?_
 refine WL.qc rfl rfl rfl rfl (fun hc=>r_fieldAddr rfl Fo.h) ?_
 refine WL.qc rfl rfl rfl rfl (fun hc=>r_load Fb.h (cnd_of hc) (Ext.refl _) (hb1.get rfl)) ?_
 refine WL.qc rfl rfl rfl rfl (fun hc=>r_len Fo.h (cnd_of hc)) ?_
 refine WL.qc rfl rfl rfl rfl (fun hc=>r_fieldAddr rfl Fo.h) ?_
 refine WL.qc rfl rfl rfl rfl (fun hc=>r_load Fb.h (cnd_of hc) (Ext.refl _) (hb2.get rfl)) ?_
 refine WL.qc rfl rfl rfl rfl (fun hc=>r_len Fo.h (cnd_of hc)) ?_
 refine WL.qc rfl rfl rfl rfl (fun hc=>r_neq (cnd_of hc) (cnd_of hc)) ?_
 refine WL.q rfl (r_or rfl rfl (fun h=>beq_iff_eq.2 h)) ?_
 refine WL.nil ?_
 refine WC.cond rfl ?_ ?_
 ·intro hc
  refine jA 4 rfl<|WC.ret ?_
  replace he:=he.then e2
  exact fin1 rfl ⟨congrArg Value.bool (iK hc).symm,he⟩
 ·intro hc
  obtain⟨eq,el,ed⟩:=kQ (o:=o) (o':=o') hc
  refine WC.skip<|jA 4 rfl<|ld rfl hb1 rfl<|jC 3 rfl<|jA 1 rfl ?_
  replace hK:=(hK.mono e1).mono e2
  replace hD:=(hD.mono e1).mono e2
  replace hK':=(hK'.mono e1).mono e2
  replace hD':=(hD'.mono e1).mono e2
  replace he:=he.then e2
  refine WC.loop2 (ι:=Nat) [(2,_),(3,_),(4,_),(45,_)] (fun i=>[(46,.int .i64 (i:Int))]) (fun i wi=>(∀j,j<i→same (aq ks j) (aq ks' j)=true)∧i≤ks.length∧Ext w2 wi) (fun i=>ks.length-i) 0 sb sb (⟨fun j hj=>absurd hj (by omega),Nat.zero_le _,Ext.refl _⟩) ?_
  intro i wi1 hh;obtain⟨qS,ni,hE⟩:=hh
  rcases Nat.lt_or_ge i ks.length with qi|qi
  replace hK:=hK.mono hE
  ·obtain⟨b,o1,c1,rfl,_,hA1,l1,hR1⟩:=hK.kid qi
   replace hK':=hK'.mono hE
   obtain⟨b',o2,c2,rfl,_,hA2,l2,hR2⟩:=hK'.kid (i:=i) (by omega)
   refine jA 2 rfl<|lT rfl rfl<|WL.nil<|jA 10 rfl ?_
   replace hD:=hD.mono hE
   replace hD':=hD'.mono hE
   replace hb1:=hb1.mono hE
   replace hb2:=hb2.mono hE
   refine WC.seq<|WC.regionD (tt [0,1,2,3,4,5,6,7,8,9]++ff [10]++tt [11]) (Ext _) mixed (by kernel_rfl) (Ext.drew _) ?_
   refine jE 1 rfl<|dl rfl hb1 rfl<|jE 1 rfl ?_
   refine WD.q rfl (fun _ hS=>r_idx Fo.h rfl rfl rfl (by first|omega|(simp;done)|(simp;omega))) ?_
   refine WD.q rfl (fun _ hS=>r_loadAgg Fo.h rfl hS hA1 (hn:=l1)) ?_
   refine jE 1 rfl<|dl rfl hb2 rfl<|jE 1 rfl ?_
   refine WD.q rfl (fun _ hS=>r_idx Fo.h rfl rfl rfl (by first|omega|(simp;done)|(simp;omega))) ?_
   refine WD.q rfl (fun _ hS=>r_loadAgg Fo.h rfl hS hA2 (hn:=l2)) ?_
   refine LL.cd rfl (hks _ (ak qi) _ _ _ _ _ _ (by have:=an (ak qi);omega) (hR1.mono (Ext.drew _)) (hR2.mono (Ext.drew _))) ?_
   rintro v3 w3 ⟨rfl,e3⟩
   refine⟨((Evo.drew _).then e3),?_⟩
   refine jE 1 rfl<|WD.nil ?_
   refine WC.cond rfl ?_ ?_
   ·intro h2
    refine jA 4 rfl<|WC.ret ?_
    have h3:same (aq ks i) (aq ks' i)=false:=by simpa using h2
    replace he:=((he.then hE).then (Ext.drew _)).then e3
    exact fin1 rfl ⟨congrArg Value.bool (by rw[eq,fL qi el h3,Bool.false_and]),he⟩
   ·intro h2
    have h3:same (aq ks i) (aq ks' i)=true:=by simpa using h2
    refine WC.skip<|jA 1 rfl<|ai rfl rfl rfl<|jC 2 rfl ?_
    exact⟨i+1,sb,sb,⟨fun j hj=>by rcases Nat.lt_or_ge j i with h|h;exact qS j h;exact(show j=i by omega)▸h3,qi,(((hE.then (Ext.drew _)).then e3))⟩,by omega⟩
  ·have hin:i=ks.length:=by omega
   have hL:sameL ks ks'=true:=iF el fun j hj=>qS j (by omega)
   rcases Nat.eq_zero_or_pos d.length with hd0|hd0
   ·refine jA 2 rfl<|lF rfl rfl<|WL.nil<|jA 2 rfl<|WC.exit ?_
    replace hK:=hK.mono hE
    replace hD:=hD.mono hE
    replace hK':=hK'.mono hE
    replace hD':=hD'.mono hE
    replace hb1:=hb1.mono hE
    replace hb2:=hb2.mono hE
    refine WC.seq<|WC.regionD (tt [0,1,2,3,4,5,6,7,8,9,10,11,12]++ff [13]++tt [14,15]) (Ext _) mixed (by kernel_rfl) (Ext.drew _) ?_
    refine jE 1 rfl<|dl rfl hb1 rfl<|jE 1 rfl ?_
    refine WD.q rfl (fun _ hS=>r_cmp (r_eql rfl rfl) (beqT (by omega))) ?_
    refine jE 9 rfl ?_
    refine WD.lsk rfl ((Evo.drew _)) rfl rfl rfl rfl rfl ?_
    refine jE 2 rfl<|WD.nil<|WC.ret ?_
    replace he:=(he.then hE).then (Ext.drew _)
    exact fin1 rfl ⟨congrArg Value.bool (by rw[eq,hL,ib ed,decide_eq_true hd0];rfl),he⟩
   replace hD:=hD.mono hE
   ·obtain⟨b,o1,c1,rfl,_,hA1,l1,hR1⟩:=hD.kid hd0
    replace hD':=hD'.mono hE
    obtain⟨b',o2,c2,rfl,_,hA2,l2,hR2⟩:=hD'.kid (i:=0) (by omega)
    refine jA 2 rfl<|lF rfl rfl<|WL.nil<|jA 2 rfl<|WC.exit ?_
    replace hK:=hK.mono hE
    replace hK':=hK'.mono hE
    replace hb1:=hb1.mono hE
    replace hb2:=hb2.mono hE
    refine WC.seq<|WC.regionD (tt [0,1,2,3,4,5,6,7,8,9,10,11,12]++ff [13]++tt [14,15]) (Ext _) mixed (by kernel_rfl) (Ext.drew _) ?_
    refine jE 1 rfl<|dl rfl hb1 rfl<|jE 1 rfl ?_
    refine WD.q rfl (fun _ hS=>r_cmp (r_eql rfl rfl) (beqF (by omega))) ?_
    refine jE 2 rfl<|bl rfl rfl rfl hb1 rfl ?_
    refine WD.qg rfl rfl rfl rfl (fun _ hS=>r_idx Fo.h rfl rfl rfl (by first|omega|(simp;done)|(simp;omega))) ?_
    refine WD.qg rfl rfl rfl rfl (fun _ hS=>r_loadAgg Fo.h rfl hS hA1 (hn:=l1)) ?_
    refine jE 1 rfl<|bl rfl rfl rfl hb2 rfl ?_
    refine WD.qg rfl rfl rfl rfl (fun _ hS=>r_idx Fo.h rfl rfl rfl (by first|omega|(simp;done)|(simp;omega))) ?_
    refine WD.qg rfl rfl rfl rfl (fun _ hS=>r_loadAgg Fo.h rfl hS hA2 (hn:=l2)) ?_
    refine WD.lg rfl rfl rfl rfl rfl (l_do Fb.h rfl (hds _ (ak hd0) _ _ _ _ _ _ (by have:=an (ak hd0);omega) (hR1.mono (Ext.drew _)) (hR2.mono (Ext.drew _)))) ?_
    rintro v3 w3 ⟨rfl,e3⟩
    refine⟨((Evo.drew _).then e3),?_⟩
    refine jE 2 rfl<|WD.nil<|WC.ret ?_
    replace he:=((he.then hE).then (Ext.drew _)).then e3
    exact fin1 rfl ⟨congrArg Value.bool (by rw[eq,hL,ib ed,decide_eq_false (by omega)];rfl),he⟩
mutual
theorem oD:∀x:V,gZ x
 | .mk k n t ks o d=>lw (iP ks) (iP d)
theorem iP:∀l:List V,∀x∈l,gZ x
 |[],x,hx=>by cases hx
 |a::r,x,hx=>by
  rcases List.mem_cons.1 hx with e|hx
  ·exact e▸oD a
  ·exact iP r x hx
end
theorem ba{A B:Nat→Prop}{x y:V}{cx cy:List Value}{w:World}(hv:ah x≤1000000000)(hx:ag A w x cx)(hy:ag B w y cy):
  Does TP 31 [.agg cx.toArray,.agg cy.toArray] w fun r w'=>r= .bool (same x y)∧Ext w w':=oD x A B y cx cy w hv hx hy
theorem lC{A:Prop}(h:A:=by
 intro h2
 refine jA 4 rfl<|WC.ret ?_
 replace he:=(he.then hE).then e3
 exact fin1 rfl ⟨false,_,rfl,hB,fun h=>(by cases h),he⟩):A:=h
def lV(x:V):Prop:=∀(cx:List Value) (lb:Nat) (L:Int) (w:World),ag (fun b=>b≠lb) w x cx→Blk w lb [.int .i64 L]→0≤L→L≤1000000→
 Does TP 67 [.agg cx.toArray,.pointer (some ⟨lb,0,none⟩)] w fun r w'=>∃b L',r= .bool b∧Blk w' lb [.int .i64 L']∧(b=true→(ah x:Int)+L'=L∧0≤L')∧Evo (fun k=>k≠lb) w w'
theorem ce{l:List V}{i:Nat}(h:i<l.length):ad (l.take (i+1))=ad (l.take i)+ah (aq l i):=by
 rw[← List.take_append_getElem h,aA,az h]
 rw[ad,ad];omega
theorem n9{k:Int}{n:Nat}{t:List UInt8}{ks:List V}{o:Int}{d:List V}(hks:∀x∈ks,lV x)(hds:∀x∈d,lV x):lV (.mk k n t ks o d):=by
 intro cx lb L w hx hB q0 q1
 obtain⟨pk,ck,pd,cd,rfl,_,_,hK,hD⟩:=hx.openV
 have hbl:=hB.lt
 refine do1 Tryz.func67 ?_
 have he:Evo (fun k=>k≠lb) w w:=Evo.refl w
 refine jA 2 rfl ?_
 have hs1:=he.size
 refine bx rfl ?_
 rintro _ w1 ⟨rfl,hb1,e1⟩
 refine jC 2 rfl<|jA 5 rfl ?_
 replace hB:=hB.mono e1
 refine ld rfl hB rfl ?_
 refine WL.q rfl (r_subi rfl rfl rfl (by omega) (by omega)) ?_
 refine jC 1 rfl ?_
 refine WL.l0 (lst rfl rfl hB) ?_
 rintro _ w2 ⟨hB,e2,hz2⟩
 refine WL.nil<|jA 4 rfl<|ld rfl hB rfl<|WL.q rfl (r_lss rfl rfl)<|WL.nil ?_
 refine WC.cond rfl ?_ ?_
 ·intro hc
  refine jA 4 rfl<|WC.ret ?_
  replace he:=(he.then e1).then e2
  exact fin1 rfl ⟨false,_,rfl,hB,fun h=>(by cases h),he⟩
 ·intro hc
  have q2:¬L-1<0:=by simpa using hc
  refine WC.skip<|jA 6 rfl ?_
  replace hK:=(hK.mono e1).mono e2
  replace hD:=(hD.mono e1).mono e2
  replace hb1:=hb1.mono e2
  replace he:=(he.then e1).then e2
  refine WC.loop2 (ι:=(Nat×Int)) [(1,_),(2,_),(4,_)] (fun i=>[(5,.int .i64 (i.1:Int))]) (fun i wi=>Blk wi lb [.int .i64 i.2]∧0≤i.2∧(1+(ad (ks.take i.1):Int)+i.2=L)∧i.1≤ks.length∧Evo (fun k=>k≠lb) w2 wi) (fun i=>ks.length-i.1) (0,L-1) sb sb (⟨hB,by omega,by simp[ad];omega,Nat.zero_le _,Evo.refl _⟩) ?_
  intro i wi1 hh;obtain⟨hB,n0,n1,n2,hE⟩:=hh
  obtain⟨i,M⟩:=i
  dsimp only at hB n0 n1 n2
  have hlt:=ae (ks.take i)
  rw[List.length_take,Nat.min_eq_left n2]at hlt
  rcases Nat.lt_or_ge i ks.length with qi|qi
  replace hK:=hK.mono hE
  ·obtain⟨b,o1,c1,rfl,_,hA1,l1,hR1⟩:=hK.kid qi
   have hta:=ce qi
   refine jA 5 rfl ?_
   replace hb1:=hb1.mono hE
   refine ld rfl hb1 rfl<|jC 1 rfl<|lT rfl rfl<|WL.nil<|jA 2 rfl<|jA 5 rfl<|ld rfl hb1 rfl<|jC 1 rfl<|ix rfl rfl rfl<|WL.q rfl (r_loadAgg Fo.h rfl (Ext.refl _) hA1 (hn:=l1))<|jC 1 rfl ?_
   refine cl rfl (hks _ (ak qi) _ _ _ _ hR1 hB n0 (by omega)) ?_
   rintro v3 w3 ⟨z,M',rfl,hB,n4,e3⟩
   refine jC 2 rfl ?_
   refine WC.cond rfl ?_ ?_
   ·exact lC
   ·intro h2
    obtain⟨n5,n6⟩:=n4 (by simpa using h2)
    refine WC.skip<|jA 2 rfl<|ai rfl rfl rfl<|jC 2 rfl ?_
    exact⟨(i+1,M'),sb,sb,⟨hB,n6,by dsimp only;omega,qi,((hE.then e3))⟩,(by show ks.length-(i+1)<ks.length-i;omega)⟩
  ·have hin:i=ks.length:=by omega
   subst hin
   rw[List.take_length]at n1
   refine jA 5 rfl ?_
   replace hb1:=hb1.mono hE
   refine ld rfl hb1 rfl<|jC 1 rfl<|lF rfl rfl<|WL.nil<|jA 1 rfl<|WC.exit<|jA 6 rfl ?_
   replace hK:=hK.mono hE
   replace hD:=hD.mono hE
   replace he:=he.then hE
   refine WC.loop2 (ι:=(Nat×Int)) [(1,_),(2,_),(4,_),(5,_)] (fun i=>[(6,.int .i64 (i.1:Int))]) (fun i wi=>Blk wi lb [.int .i64 i.2]∧0≤i.2∧(1+(ad ks:Int)+(ad (d.take i.1):Int)+i.2=L)∧i.1≤d.length∧Evo (fun k=>k≠lb) wi1 wi) (fun i=>d.length-i.1) (0,M) sb sb (⟨hB,by omega,by simp[ad];omega,Nat.zero_le _,Evo.refl _⟩) ?_
   intro i wi2 hh;obtain⟨hB,n0,n1,n2,hE⟩:=hh
   obtain⟨i,M⟩:=i
   dsimp only at hB n0 n1 n2
   have hlt:=ae (d.take i)
   rw[List.length_take,Nat.min_eq_left n2]at hlt
   rcases Nat.lt_or_ge i d.length with qi|qi
   replace hD:=hD.mono hE
   ·obtain⟨b,o1,c1,rfl,_,hA1,l1,hR1⟩:=hD.kid qi
    have hta:=ce qi
    refine jA 5 rfl ?_
    replace hb1:=hb1.mono hE
    refine ld rfl hb1 rfl<|jC 1 rfl<|lT rfl rfl<|WL.nil<|jA 2 rfl<|jA 5 rfl<|ld rfl hb1 rfl<|jC 1 rfl<|ix rfl rfl rfl<|WL.q rfl (r_loadAgg Fo.h rfl (Ext.refl _) hA1 (hn:=l1))<|jC 1 rfl ?_
    refine cl rfl (hds _ (ak qi) _ _ _ _ hR1 hB n0 (by omega)) ?_
    rintro v3 w3 ⟨z,M',rfl,hB,n4,e3⟩
    refine jC 2 rfl ?_
    refine WC.cond rfl ?_ ?_
    ·exact lC
    ·intro h2
     obtain⟨n5,n6⟩:=n4 (by simpa using h2)
     refine WC.skip<|jA 2 rfl<|ai rfl rfl rfl<|jC 2 rfl ?_
     exact⟨(i+1,M'),sb,sb,⟨hB,n6,by dsimp only;omega,qi,((hE.then e3))⟩,(by show d.length-(i+1)<d.length-i;omega)⟩
   ·have hin:i=d.length:=by omega
    subst hin
    rw[List.take_length]at n1
    refine jA 5 rfl ?_
    replace hb1:=hb1.mono hE
    refine ld rfl hb1 rfl<|jC 1 rfl<|lF rfl rfl<|WL.nil<|jA 1 rfl<|WC.exit<|jA 4 rfl<|WC.ret ?_
    replace he:=he.then hE
    exact fin1 rfl ⟨true,_,rfl,hB,fun _=>⟨by rw[ah];omega,n0⟩,he⟩
mutual
theorem ru:∀x:V,lV x
 | .mk k n t ks o d=>n9 (mT ks) (mT d)
theorem mT:∀l:List V,∀x∈l,lV x
 |[],x,hx=>by cases hx
 |a::r,x,hx=>by
  rcases List.mem_cons.1 hx with e|hx
  ·exact e▸ru a
  ·exact mT r x hx
end
end Go.Proofs.LL
namespace Go.Proofs.LL
open Go Go.Proofs Go.RowKit
set_option maxHeartbeats 4000000
attribute [local irreducible] RunOp WL WC WDL WT WX
theorem pA:TP.underlying 368=some (.map 3 3):=by kernel_rfl
theorem aV:∃q,TP.underlying 368=some (.map q 3)∧zeroT TP 3=some (.int .i64 0):=⟨3,pA,by kernel_rfl⟩
def cX:List (Int×Int):=[(2,1),(6,1),(3,2),(7,2),(4,4),(8,4),(10,4),(12,4),(15,4),(5,8),(9,8),(11,8),(13,8),(16,8),(14,16),(17,16)]
def sw:List (Int×Int):=[(0,64),(1,86),(2,80),(6,81),(3,96),(7,97),(4,112),(8,113),(10,114),(15,115),(12,116),(5,128),(9,129),(11,130),(16,131),(13,132),(14,148),(17,152),(18,176),(19,177),(20,179),(21,208),(22,209),(23,240)]
def mb(k:Int):Int:=bif (k==0||k==1)||decide (18≤k)then 1 else 0
def j9(k:Int):Int:=(tabI cX k).getD 0-mb k
def bU(k:Int):Int:=(tabI sw k).getD 0
theorem iA{k:Int}{w:World}:Does TP 215 [.int .i64 k] w fun r w'=>r= .int .i64 (mb k)∧Ext w w':=by
 refine do1 Tryz.func215 ?_
 refine jA 8 rfl<|WL.q rfl (r_eql rfl rfl)<|jC 1 rfl ?_
 refine WL.qc rfl rfl rfl rfl (fun hc=>r_move rfl) ?_
 refine WL.qc rfl rfl rfl rfl (fun hc=>r_eql (cnd_of hc) rfl) ?_
 refine WL.q rfl (r_or rfl rfl (fun h=>beq_iff_eq.2 h)) ?_
 refine jC 1 rfl ?_
 refine WL.qc rfl rfl rfl rfl (fun hc=>r_move rfl) ?_
 refine WL.qc rfl rfl rfl rfl (fun hc=>r_geq (cnd_of hc) rfl) ?_
 refine WL.q rfl (r_or rfl rfl (fun h=>beq_iff_eq.2 h)) ?_
 refine WL.nil ?_
 refine WC.cond rfl ?_ ?_
 ·intro hc
  have e:mb k=1:=by unfold mb;rw[hc];rfl
  refine jA 4 rfl<|WC.ret ?_
  exact fin1 rfl ⟨by rw[e],ch⟩
 ·intro hc
  have e:mb k=0:=by unfold mb;rw[hc];rfl
  refine jB 5 rfl<|WC.ret ?_
  exact fin1 rfl ⟨by rw[e],ch⟩
theorem dU(a b z:Int):∀l:List (Int×Int),tabI (l++[(a,b)]) z=(tabI l z).or (if z=a then some b else none)
 |[]=>by simp[tabI]
 |(c,d)::r=>by
  rw[List.cons_append,tabI,tabI]
  split
  ·rfl
  ·exact dU a b z r
def fW(N0:Nat)(L:Nat→Bool)(ρ:Fr)(w:World):Prop:=
 (L 0=true→∃m l,N0≤m∧lk ρ 3=some (.map (some m))∧MapO w m (l.map (iKV .i64))∧(∀a,a<16→L (a+1)=true→∀p,cX[a]?=some p→tabI l p.1=some p.2)∧(∀z,(∀a,a<16→L (a+1)=true→∀p,cX[a]?=some p→p.1≠z)→tabI l z=none))∧(L 0=false→∀a,a<16→L (a+1)=false)
theorem fW.keep{N0:Nat}{L L':Nat→Bool}{ρ ρ':Fr}{w w':World}(h:fW N0 L ρ w)(h0:L' 0=L 0)(ha:∀a,a<16→L' (a+1)=L (a+1))(h3:lk ρ' 3=lk ρ 3)(e:Ext w w'):fW N0 L' ρ' w':=by
 refine⟨fun hL=>?_,fun hL a ha'=>?_⟩
 ·obtain⟨m,l,hm,h1,h2,h4,h5⟩:=h.1 (by rw[← h0];exact hL)
  exact⟨m,l,hm,by rw[h3];exact h1,h2.mono e,fun a ha' hq=>h4 a ha' (by rw[← ha a ha'];exact hq),fun z hz=>h5 z fun a ha' hq=>hz a ha' (by rw[ha a ha'];exact hq)⟩
 ·rw[ha a ha'];exact h.2 (by rw[← h0];exact hL) a ha'
theorem mJ{a b:Nat}(h:a≠b):Nat.beq a b=false:=by
 cases hq:Nat.beq a b with
 |false=>rfl
 |true=>exact absurd (Nat.eq_of_beq_eq_true hq) h
theorem jQ{a b:Nat}{p q:Int×Int}(ha:cX[a]?=some p)(hb:cX[b]?=some q)(hne:a≠b):p.1≠q.1:=by
 intro e
 have hn:(cX.map (·.1)).Nodup:=by decide
 obtain⟨h1,h2⟩:=List.getElem?_eq_some_iff.1 ha
 obtain⟨h3,h4⟩:=List.getElem?_eq_some_iff.1 hb
 have hp:=List.pairwise_iff_getElem.1 hn
 rcases Nat.lt_or_gt_of_ne hne with h|h
 ·refine hp a b (by simpa using h1) (by simpa using h3) h ?_
  rw[List.getElem_map,List.getElem_map,h2,h4,e]
 ·refine hp b a (by simpa using h3) (by simpa using h1) h ?_
  rw[List.getElem_map,List.getElem_map,h2,h4,e]
theorem fW.ins{N0:Nat}{L:Nat→Bool}{ρ:Fr}{w:World}{a:Nat}{p:Int×Int}(h:fW N0 L ρ w)(h0:L 0=true)(ha:L (a+1)=false)(hp:cX[a]?=some p)(hlt:a<16):
  ∃m l,N0≤m∧lk ρ 3=some (.map (some m))∧MapO w m (l.map (iKV .i64))∧tabI l p.1=none∧∀w',MapO w' m ((l++[(p.1,p.2)]).map (iKV .i64))→fW N0 (fun j=>Nat.beq j (a+1)||L j) ρ w':=by
 obtain⟨m,l,hm,h1,h2,h4,h5⟩:=h.1 h0
 have hno:tabI l p.1=none:=h5 _ fun b hb hLb q hq=>jQ hq hp fun e=>by subst e;rw[ha]at hLb;cases hLb
 refine⟨m,l,hm,h1,h2,hno,fun w' hw=>⟨fun _=>⟨m,_,hm,h1,hw,fun b hb hLb q hq=>?_,fun z hz=>?_⟩,fun hL=>?_⟩⟩
 ·rw[dU]
  rcases Decidable.em (b=a)with e|e
  ·subst e
   rw[hp]at hq;obtain rfl:=Option.some.inj hq
   rw[hno];simp
  ·have hb2:L (b+1)=true:=by
    have:(Nat.beq (b+1) (a+1)||L (b+1))=true:=hLb
    rw[mJ (by omega)]at this;exact this
   rw[h4 b hb hb2 q hq];rfl
 ·rw[dU,h5 z fun b hb hLb q hq=>hz b hb (by show(Nat.beq (b+1) (a+1)||L (b+1))=true;rw[hLb,Bool.or_true]) q hq]
  have:p.1≠z:=hz a hlt (by show(Nat.beq (a+1) (a+1)||L (a+1))=true;simp) p hp
  rw[if_neg (fun e=>this e.symm)];rfl
 ·have:(Nat.beq 0 (a+1)||L 0)=false:=hL
  rw[h0,Bool.or_true]at this;cases this
theorem fW.all{N0:Nat}{L:Nat→Bool}{ρ:Fr}{w:World}{k:Int}(h:fW N0 L ρ w)(hL:∀j,j<17→L j=true):∃m l,lk ρ 3=some (.map (some m))∧MapO w m (l.map (iKV .i64))∧tabI l k=tabI cX k:=by
 obtain⟨m,l,_,h1,h2,h4,h5⟩:=h.1 (hL 0 (by omega))
 refine⟨m,l,h1,h2,?_⟩
 have key:∀(t:List (Int×Int)) (s:Nat),(∀i,t[i]?=cX[i+s]?)→(t.length+s=16)→(tabI l k=none∧tabI t k=none∨tabI l k=tabI t k∨(∃a,a<s∧∃p,cX[a]?=some p∧p.1=k)):=by
  intro t
  induction t with
  |nil=>
   intro s hs hl
   simp at hl
   rcases Classical.em (∃a,a<s∧∃p,cX[a]?=some p∧p.1=k)with hq|hq
   ·exact .inr (.inr hq)
   ·left
    refine⟨h5 k fun a ha _ p hp e=>hq ⟨a,by omega,p,hp,e⟩,rfl⟩
  |cons q r ih=>
   intro s hs hl
   have hq0:=hs 0
   simp only[List.getElem?_cons_zero,Nat.zero_add]at hq0
   rcases Decidable.em (k=q.1)with e|e
   ·right;left
    have hs16:s<16:=by simp at hl;omega
    have:=h4 s hs16 (hL _ (by omega)) q hq0.symm
    obtain⟨qa,qb⟩:=q
    rw[tabI,if_pos e,e];exact this
   ·rcases ih (s+1) (fun i=>by have:=hs (i+1);rw[List.getElem?_cons_succ]at this;rw[this];congr 1;omega) (by simp at hl⊢;omega)with h6|h6|⟨a,ha,p,hp,hpk⟩
    ·left
     obtain⟨qa,qb⟩:=q
     exact⟨h6.1,by rw[tabI,if_neg e];exact h6.2⟩
    ·right;left
     obtain⟨qa,qb⟩:=q
     rw[tabI,if_neg e];exact h6
    ·rcases Nat.lt_or_ge a s with h7|h7
     ·exact .inr (.inr ⟨a,h7,p,hp,hpk⟩)
     ·obtain rfl:a=s:=by omega
      rw[hp]at hq0
      obtain rfl:=Option.some.inj hq0
      exact absurd hpk.symm e
 rcases key cX 0 (fun i=>rfl) rfl with h6|h6|⟨a,ha,_⟩
 ·rw[h6.1,h6.2]
 ·exact h6
 ·omega
structure sx (k:Int) (w0:World) (L:Nat→Bool) (ρ:Fr) (w:World):Prop where
 e:Ext w0 w
 t0:lk ρ 0=some (.int .i64 k)
 mp:fW w0.heap.size L ρ w
 t17:L 17=true→∃m,lk ρ 3=some (.map (some m))∧lk ρ 4=some (.map (some m))
 t18:L 18=true→lk ρ 5=some (.int .i64 k)
 t19:L 19=true→lk ρ 6=some (.int .i64 ((tabI cX k).getD 0))
 t20:L 20=true→lk ρ 7=some (.int .i64 k)
 t21:L 21=true→lk ρ 8=some (.int .i64 (mb k))
 t22:L 22=true→lk ρ 9=some (.int .i64 (j9 k))
 t23:L 23=true→lk ρ 2=some (.int .i64 (j9 k))
 c17:L 17=true→∀j,j<17→L j=true
theorem iv:∀(l:List (Int×Int)) (z:Int),(∀p∈l,0≤p.2∧p.2≤16)→0≤(tabI l z).getD 0∧(tabI l z).getD 0≤16
 |[],z,_=>by simp[tabI]
 |(a,b)::r,z,h=>by
  rw[tabI]
  split
  ·exact h (a,b) (by simp)
  ·exact iv r z fun p hp=>h p (by simp[hp])
theorem kN(k:Int):0≤(tabI cX k).getD 0∧(tabI cX k).getD 0≤16∧0≤mb k∧mb k≤1:=by
 have h:=iv cX k (by decide)
 refine⟨h.1,h.2,?_,?_⟩
 ·unfold mb;cases((k==0||k==1)||decide (18≤k))<;>decide
 ·unfold mb;cases((k==0||k==1)||decide (18≤k))<;>decide
theorem eZ{L:Nat→Bool}{i:Nat}(hi:i=0∨17≤i):∀a,a<16→(Nat.beq (a+1) i||L (a+1))=L (a+1):=fun a ha=>by rw[mJ (by omega)];rfl
theorem gt{k:Int}{w:World}:Does TP 175 [.int .i64 k] w fun r w'=>r= .int .i64 (j9 k)∧Ext w w':=by
 obtain⟨sa,sb,sc,sd⟩:=kN k
 refine do1 Tryz.func175 ?_
 refine jA 4 rfl ?_
 refine WC.seq<|WC.regionI (sx k w) mixed (by kernel_rfl) ?_ ?_ ?_
 ·exact⟨Ext.drew _,rfl,⟨fun h=>(by cases h),fun _ _ _=>rfl⟩,fun h=>(by cases h),fun h=>(by cases h),fun h=>(by cases h),fun h=>(by cases h),fun h=>(by cases h),fun h=>(by cases h),fun h=>(by cases h),fun h=>(by cases h)⟩
 ·intro L ρ' w' i hi hdep hL h
  have hi':i<24:=hi
  rcases(show i=0∨i=1∨i=2∨i=3∨i=4∨i=5∨i=6∨i=7∨i=8∨i=9∨i=10∨i=11∨i=12∨i=13∨i=14∨i=15∨i=16∨i=17∨i=18∨i=19∨i=20∨i=21∨i=22∨i=23 by omega)with rfl|rfl|rfl|rfl|rfl|rfl|rfl|rfl|rfl|rfl|rfl|rfl|rfl|rfl|rfl|rfl|rfl|rfl|rfl|rfl|rfl|rfl|rfl|rfl
  ·refine StepOp.l rfl rfl (l_mkMap Fo.h (fun o h=>by cases h)) ?_
   rintro v w1 ⟨rfl,hM,e1⟩
   refine⟨h.e.trans e1,h.t0,⟨fun _=>⟨_,[],h.e.size,rfl,hM,fun a ha hq=>?_,fun z hz=>rfl⟩,fun hq=>by cases hq⟩,fun hq=>?_,h.t18,h.t19,h.t20,h.t21,h.t22,h.t23,fun hq j hj=>?_⟩
   ·have h2:=h.mp.2 hL a ha
    have hq':L (a+1)=true:=hq
    rw[h2]at hq'
    cases hq'
   ·have:=h.c17 hq 0 (by omega)
    rw[hL]at this;cases this
   ·have:=h.c17 hq 0 (by omega)
    rw[hL]at this;cases this
  ·obtain⟨m,l,q0,q1,q2,q3,q4⟩:=h.mp.ins (a:=0) (p:=(2,1)) (hdep 0 (by decide)) hL rfl (by omega)
   refine StepOp.l0 rfl (l_ins Fo.h Fo.h q1 rfl rfl q2 q3) ?_
   rintro v w1 ⟨hM,e1⟩
   exact⟨h.e.then e1 (fun b hb _=>by omega),h.t0,q4 _ hM,h.t17,h.t18,h.t19,h.t20,h.t21,h.t22,h.t23,fun hq j hj=>by
    show(Nat.beq j 1||L j)=true
    rw[h.c17 hq j hj,Bool.or_true]⟩
  ·obtain⟨m,l,q0,q1,q2,q3,q4⟩:=h.mp.ins (a:=1) (p:=(6,1)) (hdep 0 (by decide)) hL rfl (by omega)
   refine StepOp.l0 rfl (l_ins Fo.h Fo.h q1 rfl rfl q2 q3) ?_
   rintro v w1 ⟨hM,e1⟩
   exact⟨h.e.then e1 (fun b hb _=>by omega),h.t0,q4 _ hM,h.t17,h.t18,h.t19,h.t20,h.t21,h.t22,h.t23,fun hq j hj=>by
    show(Nat.beq j 2||L j)=true
    rw[h.c17 hq j hj,Bool.or_true]⟩
  ·obtain⟨m,l,q0,q1,q2,q3,q4⟩:=h.mp.ins (a:=2) (p:=(3,2)) (hdep 0 (by decide)) hL rfl (by omega)
   refine StepOp.l0 rfl (l_ins Fo.h Fo.h q1 rfl rfl q2 q3) ?_
   rintro v w1 ⟨hM,e1⟩
   exact⟨h.e.then e1 (fun b hb _=>by omega),h.t0,q4 _ hM,h.t17,h.t18,h.t19,h.t20,h.t21,h.t22,h.t23,fun hq j hj=>by
    show(Nat.beq j 3||L j)=true
    rw[h.c17 hq j hj,Bool.or_true]⟩
  ·obtain⟨m,l,q0,q1,q2,q3,q4⟩:=h.mp.ins (a:=3) (p:=(7,2)) (hdep 0 (by decide)) hL rfl (by omega)
   refine StepOp.l0 rfl (l_ins Fo.h Fo.h q1 rfl rfl q2 q3) ?_
   rintro v w1 ⟨hM,e1⟩
   exact⟨h.e.then e1 (fun b hb _=>by omega),h.t0,q4 _ hM,h.t17,h.t18,h.t19,h.t20,h.t21,h.t22,h.t23,fun hq j hj=>by
    show(Nat.beq j 4||L j)=true
    rw[h.c17 hq j hj,Bool.or_true]⟩
  ·obtain⟨m,l,q0,q1,q2,q3,q4⟩:=h.mp.ins (a:=4) (p:=(4,4)) (hdep 0 (by decide)) hL rfl (by omega)
   refine StepOp.l0 rfl (l_ins Fo.h Fo.h q1 rfl rfl q2 q3) ?_
   rintro v w1 ⟨hM,e1⟩
   exact⟨h.e.then e1 (fun b hb _=>by omega),h.t0,q4 _ hM,h.t17,h.t18,h.t19,h.t20,h.t21,h.t22,h.t23,fun hq j hj=>by
    show(Nat.beq j 5||L j)=true
    rw[h.c17 hq j hj,Bool.or_true]⟩
  ·obtain⟨m,l,q0,q1,q2,q3,q4⟩:=h.mp.ins (a:=5) (p:=(8,4)) (hdep 0 (by decide)) hL rfl (by omega)
   refine StepOp.l0 rfl (l_ins Fo.h Fo.h q1 rfl rfl q2 q3) ?_
   rintro v w1 ⟨hM,e1⟩
   exact⟨h.e.then e1 (fun b hb _=>by omega),h.t0,q4 _ hM,h.t17,h.t18,h.t19,h.t20,h.t21,h.t22,h.t23,fun hq j hj=>by
    show(Nat.beq j 6||L j)=true
    rw[h.c17 hq j hj,Bool.or_true]⟩
  ·obtain⟨m,l,q0,q1,q2,q3,q4⟩:=h.mp.ins (a:=6) (p:=(10,4)) (hdep 0 (by decide)) hL rfl (by omega)
   refine StepOp.l0 rfl (l_ins Fo.h Fo.h q1 rfl rfl q2 q3) ?_
   rintro v w1 ⟨hM,e1⟩
   exact⟨h.e.then e1 (fun b hb _=>by omega),h.t0,q4 _ hM,h.t17,h.t18,h.t19,h.t20,h.t21,h.t22,h.t23,fun hq j hj=>by
    show(Nat.beq j 7||L j)=true
    rw[h.c17 hq j hj,Bool.or_true]⟩
  ·obtain⟨m,l,q0,q1,q2,q3,q4⟩:=h.mp.ins (a:=7) (p:=(12,4)) (hdep 0 (by decide)) hL rfl (by omega)
   refine StepOp.l0 rfl (l_ins Fo.h Fo.h q1 rfl rfl q2 q3) ?_
   rintro v w1 ⟨hM,e1⟩
   exact⟨h.e.then e1 (fun b hb _=>by omega),h.t0,q4 _ hM,h.t17,h.t18,h.t19,h.t20,h.t21,h.t22,h.t23,fun hq j hj=>by
    show(Nat.beq j 8||L j)=true
    rw[h.c17 hq j hj,Bool.or_true]⟩
  ·obtain⟨m,l,q0,q1,q2,q3,q4⟩:=h.mp.ins (a:=8) (p:=(15,4)) (hdep 0 (by decide)) hL rfl (by omega)
   refine StepOp.l0 rfl (l_ins Fo.h Fo.h q1 rfl rfl q2 q3) ?_
   rintro v w1 ⟨hM,e1⟩
   exact⟨h.e.then e1 (fun b hb _=>by omega),h.t0,q4 _ hM,h.t17,h.t18,h.t19,h.t20,h.t21,h.t22,h.t23,fun hq j hj=>by
    show(Nat.beq j 9||L j)=true
    rw[h.c17 hq j hj,Bool.or_true]⟩
  ·obtain⟨m,l,q0,q1,q2,q3,q4⟩:=h.mp.ins (a:=9) (p:=(5,8)) (hdep 0 (by decide)) hL rfl (by omega)
   refine StepOp.l0 rfl (l_ins Fo.h Fo.h q1 rfl rfl q2 q3) ?_
   rintro v w1 ⟨hM,e1⟩
   exact⟨h.e.then e1 (fun b hb _=>by omega),h.t0,q4 _ hM,h.t17,h.t18,h.t19,h.t20,h.t21,h.t22,h.t23,fun hq j hj=>by
    show(Nat.beq j 10||L j)=true
    rw[h.c17 hq j hj,Bool.or_true]⟩
  ·obtain⟨m,l,q0,q1,q2,q3,q4⟩:=h.mp.ins (a:=10) (p:=(9,8)) (hdep 0 (by decide)) hL rfl (by omega)
   refine StepOp.l0 rfl (l_ins Fo.h Fo.h q1 rfl rfl q2 q3) ?_
   rintro v w1 ⟨hM,e1⟩
   exact⟨h.e.then e1 (fun b hb _=>by omega),h.t0,q4 _ hM,h.t17,h.t18,h.t19,h.t20,h.t21,h.t22,h.t23,fun hq j hj=>by
    show(Nat.beq j 11||L j)=true
    rw[h.c17 hq j hj,Bool.or_true]⟩
  ·obtain⟨m,l,q0,q1,q2,q3,q4⟩:=h.mp.ins (a:=11) (p:=(11,8)) (hdep 0 (by decide)) hL rfl (by omega)
   refine StepOp.l0 rfl (l_ins Fo.h Fo.h q1 rfl rfl q2 q3) ?_
   rintro v w1 ⟨hM,e1⟩
   exact⟨h.e.then e1 (fun b hb _=>by omega),h.t0,q4 _ hM,h.t17,h.t18,h.t19,h.t20,h.t21,h.t22,h.t23,fun hq j hj=>by
    show(Nat.beq j 12||L j)=true
    rw[h.c17 hq j hj,Bool.or_true]⟩
  ·obtain⟨m,l,q0,q1,q2,q3,q4⟩:=h.mp.ins (a:=12) (p:=(13,8)) (hdep 0 (by decide)) hL rfl (by omega)
   refine StepOp.l0 rfl (l_ins Fo.h Fo.h q1 rfl rfl q2 q3) ?_
   rintro v w1 ⟨hM,e1⟩
   exact⟨h.e.then e1 (fun b hb _=>by omega),h.t0,q4 _ hM,h.t17,h.t18,h.t19,h.t20,h.t21,h.t22,h.t23,fun hq j hj=>by
    show(Nat.beq j 13||L j)=true
    rw[h.c17 hq j hj,Bool.or_true]⟩
  ·obtain⟨m,l,q0,q1,q2,q3,q4⟩:=h.mp.ins (a:=13) (p:=(16,8)) (hdep 0 (by decide)) hL rfl (by omega)
   refine StepOp.l0 rfl (l_ins Fo.h Fo.h q1 rfl rfl q2 q3) ?_
   rintro v w1 ⟨hM,e1⟩
   exact⟨h.e.then e1 (fun b hb _=>by omega),h.t0,q4 _ hM,h.t17,h.t18,h.t19,h.t20,h.t21,h.t22,h.t23,fun hq j hj=>by
    show(Nat.beq j 14||L j)=true
    rw[h.c17 hq j hj,Bool.or_true]⟩
  ·obtain⟨m,l,q0,q1,q2,q3,q4⟩:=h.mp.ins (a:=14) (p:=(14,16)) (hdep 0 (by decide)) hL rfl (by omega)
   refine StepOp.l0 rfl (l_ins Fo.h Fo.h q1 rfl rfl q2 q3) ?_
   rintro v w1 ⟨hM,e1⟩
   exact⟨h.e.then e1 (fun b hb _=>by omega),h.t0,q4 _ hM,h.t17,h.t18,h.t19,h.t20,h.t21,h.t22,h.t23,fun hq j hj=>by
    show(Nat.beq j 15||L j)=true
    rw[h.c17 hq j hj,Bool.or_true]⟩
  ·obtain⟨m,l,q0,q1,q2,q3,q4⟩:=h.mp.ins (a:=15) (p:=(17,16)) (hdep 0 (by decide)) hL rfl (by omega)
   refine StepOp.l0 rfl (l_ins Fo.h Fo.h q1 rfl rfl q2 q3) ?_
   rintro v w1 ⟨hM,e1⟩
   exact⟨h.e.then e1 (fun b hb _=>by omega),h.t0,q4 _ hM,h.t17,h.t18,h.t19,h.t20,h.t21,h.t22,h.t23,fun hq j hj=>by
    show(Nat.beq j 16||L j)=true
    rw[h.c17 hq j hj,Bool.or_true]⟩
  ·have hall:∀j,j<17→L j=true:=fun j hj=>by
    rcases(show j=0∨j=1∨j=2∨j=3∨j=4∨j=5∨j=6∨j=7∨j=8∨j=9∨j=10∨j=11∨j=12∨j=13∨j=14∨j=15∨j=16 by omega)with rfl|rfl|rfl|rfl|rfl|rfl|rfl|rfl|rfl|rfl|rfl|rfl|rfl|rfl|rfl|rfl|rfl<;>exact hdep _ (by decide)
   obtain⟨m,l,q1,q2,_⟩:=h.mp.all (k:=k) hall
   refine StepOp.q rfl rfl (r_move q1) ?_
   exact⟨h.e,h.t0,h.mp.keep rfl (eZ (.inr (by omega))) rfl (Ext.refl _),fun _=>⟨m,q1,rfl⟩,h.t18,h.t19,h.t20,h.t21,h.t22,h.t23,fun _ j hj=>by
    show(Nat.beq j 17||L j)=true
    rw[hall j hj,Bool.or_true]⟩
  ·exact StepOp.q rfl rfl (r_move h.t0) ⟨h.e,h.t0,h.mp.keep rfl (eZ (.inr (by omega))) rfl (Ext.refl _),h.t17,fun _=>rfl,h.t19,h.t20,h.t21,h.t22,h.t23,fun hq j hj=>by show(Nat.beq j 18||L j)=true;rw[h.c17 hq j hj,Bool.or_true]⟩
  ·obtain⟨m,q1,q2⟩:=h.t17 (hdep 17 (by decide))
   obtain⟨m',l,q3,q4,q5⟩:=h.mp.all (k:=k) (h.c17 (hdep 17 (by decide)))
   rw[q1]at q3
   have hm:m=m':=by injection q3 with q3;injection q3 with q3;injection q3
   subst hm
   refine StepOp.q rfl rfl (r_lookI Fo.h Fo.h aV q2 (h.t18 (hdep 18 (by decide))) (Ext.refl _) q4) ?_
   rw[q5]
   exact⟨h.e,h.t0,h.mp.keep rfl (eZ (.inr (by omega))) rfl (Ext.refl _),h.t17,h.t18,fun _=>rfl,h.t20,h.t21,h.t22,h.t23,fun hq j hj=>by show(Nat.beq j 19||L j)=true;rw[h.c17 hq j hj,Bool.or_true]⟩
  ·exact StepOp.q rfl rfl (r_move h.t0) ⟨h.e,h.t0,h.mp.keep rfl (eZ (.inr (by omega))) rfl (Ext.refl _),h.t17,h.t18,h.t19,fun _=>rfl,h.t21,h.t22,h.t23,fun hq j hj=>by show(Nat.beq j 20||L j)=true;rw[h.c17 hq j hj,Bool.or_true]⟩
  ·refine StepOp.l rfl rfl (l_do Fb.h (by rw[ovs,show ov ρ' (.tmp 7)=_ from h.t20 (hdep 20 (by decide))];rfl) iA) ?_
   rintro v w1 ⟨rfl,e1⟩
   exact⟨h.e.trans e1,h.t0,h.mp.keep rfl (eZ (.inr (by omega))) rfl e1,h.t17,h.t18,h.t19,h.t20,fun _=>rfl,h.t22,h.t23,fun hq j hj=>by show(Nat.beq j 21||L j)=true;rw[h.c17 hq j hj,Bool.or_true]⟩
  ·exact StepOp.q rfl rfl (r_subi (h.t19 (hdep 19 (by decide))) (h.t21 (hdep 21 (by decide))) rfl (by omega) (by omega)) ⟨h.e,h.t0,h.mp.keep rfl (eZ (.inr (by omega))) rfl (Ext.refl _),h.t17,h.t18,h.t19,h.t20,h.t21,fun _=>rfl,h.t23,fun hq j hj=>by show(Nat.beq j 22||L j)=true;rw[h.c17 hq j hj,Bool.or_true]⟩
  ·exact StepOp.q rfl rfl (r_assign (h.t22 (hdep 22 (by decide)))) ⟨h.e,h.t0,h.mp.keep rfl (eZ (.inr (by omega))) rfl (Ext.refl _),h.t17,h.t18,h.t19,h.t20,h.t21,h.t22,fun _=>rfl,fun hq j hj=>by show(Nat.beq j 23||L j)=true;rw[h.c17 hq j hj,Bool.or_true]⟩
 ·intro L ρ' w' hall h
  exact WC.ret (fin1 (h.t23 (hall 23 (by decide))) ⟨rfl,h.e⟩)
theorem gN{k:Int}{w:World}:Does TP 86 [.int .i64 k] w fun r w'=>r= .int .i64 (bU k)∧Ext w w':=by
 refine do1 Tryz.func86 ?_
 have he:Evo (fun _=>True) w w:=Evo.refl w
 refine jA 6 rfl ?_
 have hs1:=he.size
 refine WL.l rfl (l_mkMap Fo.h (fun o h=>by cases h)) ?_
 rintro _ w1 ⟨rfl,hm1,e1⟩
 refine WL.l0 (l_ins (l:=[]) Fo.h Fo.h rfl rfl rfl hm1 rfl) ?_
 rintro _ w2 ⟨hm1,e2⟩
 refine WL.l0 (l_ins (l:=[(0,64)]) Fo.h Fo.h rfl rfl rfl hm1 rfl) ?_
 rintro _ w3 ⟨hm1,e3⟩
 refine WL.l0 (l_ins (l:=[(0,64),(1,86)]) Fo.h Fo.h rfl rfl rfl hm1 rfl) ?_
 rintro _ w4 ⟨hm1,e4⟩
 refine WL.l0 (l_ins (l:=[(0,64),(1,86),(2,80)]) Fo.h Fo.h rfl rfl rfl hm1 rfl) ?_
 rintro _ w5 ⟨hm1,e5⟩
 refine WL.l0 (l_ins (l:=[(0,64),(1,86),(2,80),(6,81)]) Fo.h Fo.h rfl rfl rfl hm1 rfl) ?_
 rintro _ w6 ⟨hm1,e6⟩
 refine WL.l0 (l_ins (l:=[(0,64),(1,86),(2,80),(6,81),(3,96)]) Fo.h Fo.h rfl rfl rfl hm1 rfl) ?_
 rintro _ w7 ⟨hm1,e7⟩
 refine WL.l0 (l_ins (l:=[(0,64),(1,86),(2,80),(6,81),(3,96),(7,97)]) Fo.h Fo.h rfl rfl rfl hm1 rfl) ?_
 rintro _ w8 ⟨hm1,e8⟩
 refine WL.l0 (l_ins (l:=[(0,64),(1,86),(2,80),(6,81),(3,96),(7,97),(4,112)]) Fo.h Fo.h rfl rfl rfl hm1 rfl) ?_
 rintro _ w9 ⟨hm1,e9⟩
 refine WL.l0 (l_ins (l:=[(0,64),(1,86),(2,80),(6,81),(3,96),(7,97),(4,112),(8,113)]) Fo.h Fo.h rfl rfl rfl hm1 rfl) ?_
 rintro _ w10 ⟨hm1,e10⟩
 refine WL.l0 (l_ins (l:=[(0,64),(1,86),(2,80),(6,81),(3,96),(7,97),(4,112),(8,113),(10,114)]) Fo.h Fo.h rfl rfl rfl hm1 rfl) ?_
 rintro _ w11 ⟨hm1,e11⟩
 refine WL.l0 (l_ins (l:=[(0,64),(1,86),(2,80),(6,81),(3,96),(7,97),(4,112),(8,113),(10,114),(15,115)]) Fo.h Fo.h rfl rfl rfl hm1 rfl) ?_
 rintro _ w12 ⟨hm1,e12⟩
 refine WL.l0 (l_ins (l:=[(0,64),(1,86),(2,80),(6,81),(3,96),(7,97),(4,112),(8,113),(10,114),(15,115),(12,116)]) Fo.h Fo.h rfl rfl rfl hm1 rfl) ?_
 rintro _ w13 ⟨hm1,e13⟩
 refine WL.l0 (l_ins (l:=[(0,64),(1,86),(2,80),(6,81),(3,96),(7,97),(4,112),(8,113),(10,114),(15,115),(12,116),(5,128)]) Fo.h Fo.h rfl rfl rfl hm1 rfl) ?_
 rintro _ w14 ⟨hm1,e14⟩
 refine WL.l0 (l_ins (l:=[(0,64),(1,86),(2,80),(6,81),(3,96),(7,97),(4,112),(8,113),(10,114),(15,115),(12,116),(5,128),(9,129)]) Fo.h Fo.h rfl rfl rfl hm1 rfl) ?_
 rintro _ w15 ⟨hm1,e15⟩
 refine WL.l0 (l_ins (l:=[(0,64),(1,86),(2,80),(6,81),(3,96),(7,97),(4,112),(8,113),(10,114),(15,115),(12,116),(5,128),(9,129),(11,130)]) Fo.h Fo.h rfl rfl rfl hm1 rfl) ?_
 rintro _ w16 ⟨hm1,e16⟩
 refine WL.l0 (l_ins (l:=[(0,64),(1,86),(2,80),(6,81),(3,96),(7,97),(4,112),(8,113),(10,114),(15,115),(12,116),(5,128),(9,129),(11,130),(16,131)]) Fo.h Fo.h rfl rfl rfl hm1 rfl) ?_
 rintro _ w17 ⟨hm1,e17⟩
 refine WL.l0 (l_ins (l:=[(0,64),(1,86),(2,80),(6,81),(3,96),(7,97),(4,112),(8,113),(10,114),(15,115),(12,116),(5,128),(9,129),(11,130),(16,131),(13,132)]) Fo.h Fo.h rfl rfl rfl hm1 rfl) ?_
 rintro _ w18 ⟨hm1,e18⟩
 refine WL.l0 (l_ins (l:=[(0,64),(1,86),(2,80),(6,81),(3,96),(7,97),(4,112),(8,113),(10,114),(15,115),(12,116),(5,128),(9,129),(11,130),(16,131),(13,132),(14,148)]) Fo.h Fo.h rfl rfl rfl hm1 rfl) ?_
 rintro _ w19 ⟨hm1,e19⟩
 refine WL.l0 (l_ins (l:=[(0,64),(1,86),(2,80),(6,81),(3,96),(7,97),(4,112),(8,113),(10,114),(15,115),(12,116),(5,128),(9,129),(11,130),(16,131),(13,132),(14,148),(17,152)]) Fo.h Fo.h rfl rfl rfl hm1 rfl) ?_
 rintro _ w20 ⟨hm1,e20⟩
 refine WL.l0 (l_ins (l:=[(0,64),(1,86),(2,80),(6,81),(3,96),(7,97),(4,112),(8,113),(10,114),(15,115),(12,116),(5,128),(9,129),(11,130),(16,131),(13,132),(14,148),(17,152),(18,176)]) Fo.h Fo.h rfl rfl rfl hm1 rfl) ?_
 rintro _ w21 ⟨hm1,e21⟩
 refine WL.l0 (l_ins (l:=[(0,64),(1,86),(2,80),(6,81),(3,96),(7,97),(4,112),(8,113),(10,114),(15,115),(12,116),(5,128),(9,129),(11,130),(16,131),(13,132),(14,148),(17,152),(18,176),(19,177)]) Fo.h Fo.h rfl rfl rfl hm1 rfl) ?_
 rintro _ w22 ⟨hm1,e22⟩
 refine WL.l0 (l_ins (l:=[(0,64),(1,86),(2,80),(6,81),(3,96),(7,97),(4,112),(8,113),(10,114),(15,115),(12,116),(5,128),(9,129),(11,130),(16,131),(13,132),(14,148),(17,152),(18,176),(19,177),(20,179)]) Fo.h Fo.h rfl rfl rfl hm1 rfl) ?_
 rintro _ w23 ⟨hm1,e23⟩
 refine WL.l0 (l_ins (l:=[(0,64),(1,86),(2,80),(6,81),(3,96),(7,97),(4,112),(8,113),(10,114),(15,115),(12,116),(5,128),(9,129),(11,130),(16,131),(13,132),(14,148),(17,152),(18,176),(19,177),(20,179),(21,208)]) Fo.h Fo.h rfl rfl rfl hm1 rfl) ?_
 rintro _ w24 ⟨hm1,e24⟩
 refine WL.l0 (l_ins (l:=[(0,64),(1,86),(2,80),(6,81),(3,96),(7,97),(4,112),(8,113),(10,114),(15,115),(12,116),(5,128),(9,129),(11,130),(16,131),(13,132),(14,148),(17,152),(18,176),(19,177),(20,179),(21,208),(22,209)]) Fo.h Fo.h rfl rfl rfl hm1 rfl) ?_
 rintro _ w25 ⟨hm1,e25⟩
 refine jC 2 rfl<|WL.q rfl (r_lookI (l:=[(0,64),(1,86),(2,80),(6,81),(3,96),(7,97),(4,112),(8,113),(10,114),(15,115),(12,116),(5,128),(9,129),(11,130),(16,131),(13,132),(14,148),(17,152),(18,176),(19,177),(20,179),(21,208),(22,209),(23,240)]) Fo.h Fo.h aV rfl rfl (Ext.refl _) hm1) ?_
 refine jC 2 rfl<|WC.ret ?_
 replace he:=(((((((((((((((((((((he.then (((e1.then e2).then e3).then e4)).then e5).then e6).then e7).then e8).then e9).then e10).then e11).then e12).then e13).then e14).then e15).then e16).then e17).then e18).then e19).then e20).then e21).then e22).then e23).then e24).then e25
 exact fin1 rfl ⟨rfl,he⟩
end Go.Proofs.LL
namespace Go.Proofs.LL
open Go Go.Proofs Go.RowKit
theorem aZ(z:Int):IntKind.u64.wrap z=z%18446744073709551616:=rfl
theorem dG(z:Int):IntKind.i64.wrap z=if z%18446744073709551616<9223372036854775808 then z%18446744073709551616 else z%18446744073709551616-18446744073709551616:=by
 simp only[IntKind.wrap,IntKind.bits,IntKind.signed]
 simp
 split<;>split<;>omega
theorem qm{n E F:Nat}(hE:(2:Int)^E=72057594037927936)(hF:(2:Int)^F=72057594037927936)(h:(IntKind.u64.wrap ((n:Int) * 2^E)).fdiv (2^F)=(n:Int)):n<256:=by
 rw[hE,hF,Int.fdiv_eq_ediv_of_nonneg _ (by omega),aZ]at h
 omega
theorem sh{n E F:Nat}(hE:(2:Int)^E=72057594037927936)(hF:(2:Int)^F=72057594037927936)(h:IntKind.u64.wrap ((IntKind.i64.wrap (IntKind.u64.wrap ((n:Int) * 2^E))).fdiv (2^F))=(n:Int)):SOK 8 n∧n<18446744073709551616:=by
 rw[hE,hF,Int.fdiv_eq_ediv_of_nonneg _ (by omega),aZ,aZ,dG]at h
 unfold SOK
 simp only[Nat.reduceSub,Nat.reducePow]
 split at h<;>omega
theorem qH{n E F:Nat}(hE:(2:Int)^E=281474976710656)(hF:(2:Int)^F=281474976710656)(h:(IntKind.u64.wrap ((n:Int) * 2^E)).fdiv (2^F)=(n:Int)):n<65536:=by
 rw[hE,hF,Int.fdiv_eq_ediv_of_nonneg _ (by omega),aZ]at h
 omega
theorem sy{n E F:Nat}(hE:(2:Int)^E=281474976710656)(hF:(2:Int)^F=281474976710656)(h:IntKind.u64.wrap ((IntKind.i64.wrap (IntKind.u64.wrap ((n:Int) * 2^E))).fdiv (2^F))=(n:Int)):SOK 16 n∧n<18446744073709551616:=by
 rw[hE,hF,Int.fdiv_eq_ediv_of_nonneg _ (by omega),aZ,aZ,dG]at h
 unfold SOK
 simp only[Nat.reduceSub,Nat.reducePow]
 split at h<;>omega
theorem j5{n E F:Nat}(hE:(2:Int)^E=4294967296)(hF:(2:Int)^F=4294967296)(h:(IntKind.u64.wrap ((n:Int) * 2^E)).fdiv (2^F)=(n:Int)):n<4294967296:=by
 rw[hE,hF,Int.fdiv_eq_ediv_of_nonneg _ (by omega),aZ]at h
 omega
theorem sA{n E F:Nat}(hE:(2:Int)^E=4294967296)(hF:(2:Int)^F=4294967296)(h:IntKind.u64.wrap ((IntKind.i64.wrap (IntKind.u64.wrap ((n:Int) * 2^E))).fdiv (2^F))=(n:Int)):SOK 32 n∧n<18446744073709551616:=by
 rw[hE,hF,Int.fdiv_eq_ediv_of_nonneg _ (by omega),aZ,aZ,dG]at h
 unfold SOK
 simp only[Nat.reduceSub,Nat.reducePow]
 split at h<;>omega
theorem rc{n E F:Nat}(hE:(2:Int)^E=1)(hF:(2:Int)^F=1)(h:(IntKind.u64.wrap ((n:Int) * 2^E)).fdiv (2^F)=(n:Int)):n<18446744073709551616:=by
 rw[hE,hF,Int.fdiv_eq_ediv_of_nonneg _ (by omega),aZ]at h
 omega
theorem r9{n E F:Nat}(hE:(2:Int)^E=1)(hF:(2:Int)^F=1)(h:IntKind.u64.wrap ((IntKind.i64.wrap (IntKind.u64.wrap ((n:Int) * 2^E))).fdiv (2^F))=(n:Int)):SOK 64 n∧n<18446744073709551616:=by
 rw[hE,hF,Int.fdiv_eq_ediv_of_nonneg _ (by omega),aZ,aZ,dG]at h
 unfold SOK
 simp only[Nat.reduceSub,Nat.reducePow]
 split at h<;>omega
theorem bR{k:Int}{n:Nat}{t:List UInt8}{ks:List V}(h1:k=1→n≤1)(h2:k=2→n<256)(h3:k=3→n<65536)(h4:k=4→n<4294967296)(h6:k=6→SOK 8 n)(h7:k=7→SOK 16 n)(h8:k=8→SOK 32 n)(h10:k=10→n<4294967296)(hn:n<18446744073709551616)
  (a1:k=14∨k=17→t.length=16) (a2:k=19→Lib.validD t=true) (a3:k=20→iB t) (a4:k=22→ks.length%2=0) (a5:k=23→∀x∈ks,x.kind=(aq ks 0).kind∧x.desc.length=(aq ks 0).desc.length):CF k n t ks:=
 ⟨⟨h1,h2,h3,h4,h6,h7,h8,h10,hn⟩,a1,a2,a3,a4,a5⟩
end Go.Proofs.LL
