/- Contracts of functions of impl, spec and laws. Conditions: those that each theorem states. -/
import Derived.Test.YtdgbmbjkbmpcbaaGreatDoorW32
set_option linter.all false
set_option maxRecDepth 20000
namespace Go.Proofs.LL
open Go Go.Proofs Go.RowKit
set_option maxHeartbeats 4000000
attribute [local irreducible] RunOp WL WC WDL WT WX
def SameS(x:V):Prop:=∀(A B:Nat→Prop) (y:V) (cx cy:List Value) (w:World),vcount x≤1000000000→RepV A w x cx→RepV B w y cy→
 Does TP 31 [.agg cx.toArray,.agg cy.toArray] w fun r w'=>r= .bool (same x y)∧Ext w w'
theorem same_heads{k k':Int}{n n':Nat}{t t':List UInt8}{ks ks' d d':List V}{o o':Int}(h:(((((k !=k')||((n:Int) !=(n':Int)))|| !decide (t=t'))||((ks.length:Int) !=(ks'.length:Int)))||((d.length:Int) !=(d'.length:Int)))=true):same (.mk k n t ks o d) (.mk k' n' t' ks' o' d')=false:=by
 simp only[Bool.or_eq_true,bne_iff_ne,ne_eq,Bool.not_eq_true',decide_eq_false_iff_not]at h
 simp only[same]
 rcases h with(((h|h)|h)|h)|h
 ·simp[h]
 ·have:¬n=n':=fun e=>h (by rw[e])
  simp[this]
 ·simp[h]
 ·have:¬ks.length=ks'.length:=fun e=>h (by rw[e])
  simp[this]
 ·have:¬d.length=d'.length:=fun e=>h (by rw[e])
  simp[this]
theorem same_body{k k':Int}{n n':Nat}{t t':List UInt8}{ks ks' d d':List V}{o o':Int}(h:(((((k !=k')||((n:Int) !=(n':Int)))|| !decide (t=t'))||((ks.length:Int) !=(ks'.length:Int)))||((d.length:Int) !=(d'.length:Int)))=false):same (.mk k n t ks o d) (.mk k' n' t' ks' o' d')=(sameL ks ks'&&same1 d d')∧ks.length=ks'.length∧d.length=d'.length:=by
 simp only[Bool.or_eq_false_iff,bne_eq_false_iff_eq,Bool.not_eq_false',decide_eq_true_eq]at h
 obtain⟨⟨⟨⟨h1,h2⟩,h3⟩,h4⟩,h5⟩:=h
 have h2':n=n':=by omega
 have h4':ks.length=ks'.length:=by omega
 have h5':d.length=d'.length:=by omega
 refine⟨?_,h4',h5'⟩
 simp only[same]
 simp[h1,h2',h3,h4',h5']
theorem same1_of{d d':List V}(h:d.length=d'.length):same1 d d'=(decide (d.length=0)||same (fld d 0) (fld d' 0)):=by
 match d,d',h with
 |[],[],_=>rfl
 |a::r,b::s,_=>simp[same1,fld]
theorem same_one{k:Int}{n:Nat}{t:List UInt8}{ks:List V}{o:Int}{d:List V}(hks:∀x∈ks,SameS x)(hds:∀x∈d,SameS x):SameS (.mk k n t ks o d):=by
 intro A B y cx cy w hv hx hy
 rw[vcount]at hv
 have hkl:=vcountL_len ks
 obtain⟨k',n',t',ks',o',d'⟩:=y
 obtain⟨pk,ck,pd,cd,rfl,_,_,hK,hD⟩:=hx.openV
 obtain⟨pk',ck',pd',cd',rfl,_,_,hK',hD'⟩:=hy.openV
 refine do1 Tryz.func31 ?_
 have he:Evo (fun _=>True) w w:=Evo.refl w
 refine jA 2 rfl ?_
 have hs1:=he.size
 refine bx rfl ?_
 rintro _ w1 ⟨rfl,hb1,e1⟩
 replace he:=he.then e1
 have hs2:=he.size
 have hx2b1:=hb1.lt
 refine bx rfl ?_
 rintro _ w2 ⟨rfl,hb2,e2⟩
 refine jC 2 rfl<|jA 4 rfl ?_
 replace hb1:=hb1.mono e2
 refine ld rfl hb1 rfl<|jC 1 rfl<|ld rfl hb2 rfl<|WL.q rfl (r_neq rfl rfl)<|jC 1 rfl ?_
 refine WL.qc rfl rfl rfl rfl (fun hc=>r_fieldAddr rfl Fo.h) ?_
 refine WL.qc rfl rfl rfl rfl (fun hc=>r_load Fb.h (cnd_of hc) (Ext.refl _) (hb1.get rfl)) ?_
 refine WL.qc rfl rfl rfl rfl (fun hc=>r_fieldAddr rfl Fo.h) ?_
 refine WL.qc rfl rfl rfl rfl (fun hc=>r_load Fb.h (cnd_of hc) (Ext.refl _) (hb2.get rfl)) ?_
 refine WL.qc rfl rfl rfl rfl (fun hc=>r_neq (cnd_of hc) (cnd_of hc)) ?_
 refine WL.q rfl (r_or rfl rfl (fun h=>beq_iff_eq.2 h)) ?_
 refine jC 1 rfl ?_
 refine WL.qc rfl rfl rfl rfl (fun hc=>r_fieldAddr rfl Fo.h) ?_
 refine WL.qc rfl rfl rfl rfl (fun hc=>r_load Fb.h (cnd_of hc) (Ext.refl _) (hb1.get rfl)) ?_
 refine WL.qc rfl rfl rfl rfl (fun hc=>r_fieldAddr rfl Fo.h) ?_
 refine WL.qc rfl rfl rfl rfl (fun hc=>r_load Fb.h (cnd_of hc) (Ext.refl _) (hb2.get rfl)) ?_
 refine WL.qc rfl rfl rfl rfl (fun hc=>r_stneE (cnd_of hc) (cnd_of hc)) ?_
 refine WL.q rfl (r_or rfl rfl (fun h=>beq_iff_eq.2 h)) ?_
 refine jC 1 rfl ?_
 refine WL.qc rfl rfl rfl rfl (fun hc=>r_fieldAddr rfl Fo.h) ?_
 refine WL.qc rfl rfl rfl rfl (fun hc=>r_load Fb.h (cnd_of hc) (Ext.refl _) (hb1.get rfl)) ?_
 refine WL.qc rfl rfl rfl rfl (fun hc=>r_len Fo.h (cnd_of hc)) ?_
 refine WL.qc rfl rfl rfl rfl (fun hc=>r_fieldAddr rfl Fo.h) ?_
 refine WL.qc rfl rfl rfl rfl (fun hc=>r_load Fb.h (cnd_of hc) (Ext.refl _) (hb2.get rfl)) ?_
 refine WL.qc rfl rfl rfl rfl (fun hc=>r_len Fo.h (cnd_of hc)) ?_
 refine WL.qc rfl rfl rfl rfl (fun hc=>r_neq (cnd_of hc) (cnd_of hc)) ?_
 refine WL.q rfl (r_or rfl rfl (fun h=>beq_iff_eq.2 h)) ?_
 refine jC 1 rfl ?_
 refine WL.qc rfl rfl rfl rfl (fun hc=>r_fieldAddr rfl Fo.h) ?_
 refine WL.qc rfl rfl rfl rfl (fun hc=>r_load Fb.h (cnd_of hc) (Ext.refl _) (hb1.get rfl)) ?_
 refine WL.qc rfl rfl rfl rfl (fun hc=>r_len Fo.h (cnd_of hc)) ?_
 refine WL.qc rfl rfl rfl rfl (fun hc=>r_fieldAddr rfl Fo.h) ?_
 refine WL.qc rfl rfl rfl rfl (fun hc=>r_load Fb.h (cnd_of hc) (Ext.refl _) (hb2.get rfl)) ?_
 refine WL.qc rfl rfl rfl rfl (fun hc=>r_len Fo.h (cnd_of hc)) ?_
 refine WL.qc rfl rfl rfl rfl (fun hc=>r_neq (cnd_of hc) (cnd_of hc)) ?_
 refine WL.q rfl (r_or rfl rfl (fun h=>beq_iff_eq.2 h)) ?_
 refine WL.nil ?_
 refine WC.cond rfl ?_ ?_
 ·intro hc
  refine jA 4 rfl<|WC.ret ?_
  replace he:=he.then e2
  exact fin1 rfl ⟨congrArg Value.bool (same_heads hc).symm,he⟩
 ·intro hc
  obtain⟨eq,el,ed⟩:=same_body (o:=o) (o':=o') hc
  refine WC.skip<|jA 4 rfl<|ld rfl hb1 rfl<|jC 3 rfl<|jA 1 rfl ?_
  replace hK:=(hK.mono e1).mono e2
  replace hD:=(hD.mono e1).mono e2
  replace hK':=(hK'.mono e1).mono e2
  replace hD':=(hD'.mono e1).mono e2
  replace he:=he.then e2
  refine WC.loop2 (ι:=Nat) [(2,_),(3,_),(4,_),(45,_)] (fun i=>[(46,.int .i64 (i:Int))]) (fun i wi=>(∀j,j<i→same (fld ks j) (fld ks' j)=true)∧i≤ks.length∧Ext w2 wi) (fun i=>ks.length-i) 0 sb sb (⟨fun j hj=>absurd hj (by omega),Nat.zero_le _,Ext.refl _⟩) ?_
  intro i wi1 hh;obtain⟨qS,ni,hE⟩:=hh
  rcases Nat.lt_or_ge i ks.length with qi|qi
  replace hK:=hK.mono hE
  ·obtain⟨b,o1,c1,rfl,_,hA1,l1,hR1⟩:=hK.kid qi
   replace hK':=hK'.mono hE
   obtain⟨b',o2,c2,rfl,_,hA2,l2,hR2⟩:=hK'.kid (i:=i) (by omega)
   refine jA 2 rfl<|lT rfl rfl<|WL.nil<|jA 10 rfl ?_
   replace hD:=hD.mono hE
   replace hD':=hD'.mono hE
   replace hb1:=hb1.mono hE
   replace hb2:=hb2.mono hE
   refine WC.seq<|WC.regionD (tt [0,1,2,3,4,5,6,7,8,9]++ff [10]++tt [11]) (Ext _) mixed (by kernel_rfl) (Ext.drew _) ?_
   refine jE 1 rfl<|dl rfl hb1 rfl<|jE 1 rfl ?_
   refine WD.q rfl (fun _ hS=>r_idx Fo.h rfl rfl rfl (by first|omega|(simp;done)|(simp;omega))) ?_
   refine WD.q rfl (fun _ hS=>r_loadAgg Fo.h rfl hS hA1 (hn:=l1)) ?_
   refine jE 1 rfl<|dl rfl hb2 rfl<|jE 1 rfl ?_
   refine WD.q rfl (fun _ hS=>r_idx Fo.h rfl rfl rfl (by first|omega|(simp;done)|(simp;omega))) ?_
   refine WD.q rfl (fun _ hS=>r_loadAgg Fo.h rfl hS hA2 (hn:=l2)) ?_
   refine LL.cd rfl (hks _ (fld_mem qi) _ _ _ _ _ _ (by have:=vcountL_mem (fld_mem qi);omega) (hR1.mono (Ext.drew _)) (hR2.mono (Ext.drew _))) ?_
   rintro v3 w3 ⟨rfl,e3⟩
   refine⟨((Evo.drew _).then e3),?_⟩
   refine jE 1 rfl<|WD.nil ?_
   refine WC.cond rfl ?_ ?_
   ·intro h2
    refine jA 4 rfl<|WC.ret ?_
    have h3:same (fld ks i) (fld ks' i)=false:=by simpa using h2
    replace he:=((he.then hE).then (Ext.drew _)).then e3
    exact fin1 rfl ⟨congrArg Value.bool (by rw[eq,sameL_not qi el h3,Bool.false_and]),he⟩
   ·intro h2
    have h3:same (fld ks i) (fld ks' i)=true:=by simpa using h2
    refine WC.skip<|jA 1 rfl<|ai rfl rfl rfl<|jC 2 rfl ?_
    exact⟨i+1,sb,sb,⟨fun j hj=>by rcases Nat.lt_or_ge j i with h|h;exact qS j h;exact(show j=i by omega)▸h3,qi,(((hE.then (Ext.drew _)).then e3))⟩,by omega⟩
  ·have hin:i=ks.length:=by omega
   have hL:sameL ks ks'=true:=sameL_of el fun j hj=>qS j (by omega)
   rcases Nat.eq_zero_or_pos d.length with hd0|hd0
   ·refine jA 2 rfl<|lF rfl rfl<|WL.nil<|jA 2 rfl<|WC.exit ?_
    replace hK:=hK.mono hE
    replace hD:=hD.mono hE
    replace hK':=hK'.mono hE
    replace hD':=hD'.mono hE
    replace hb1:=hb1.mono hE
    replace hb2:=hb2.mono hE
    refine WC.seq<|WC.regionD (tt [0,1,2,3,4,5,6,7,8,9,10,11,12]++ff [13]++tt [14,15]) (Ext _) mixed (by kernel_rfl) (Ext.drew _) ?_
    refine jE 1 rfl<|dl rfl hb1 rfl<|jE 1 rfl ?_
    refine WD.q rfl (fun _ hS=>r_cmp (r_eql rfl rfl) (beqT (by omega))) ?_
    refine jE 9 rfl ?_
    refine WD.lsk rfl ((Evo.drew _)) rfl rfl rfl rfl rfl ?_
    refine jE 2 rfl<|WD.nil<|WC.ret ?_
    replace he:=(he.then hE).then (Ext.drew _)
    exact fin1 rfl ⟨congrArg Value.bool (by rw[eq,hL,same1_of ed,decide_eq_true hd0];rfl),he⟩
   replace hD:=hD.mono hE
   ·obtain⟨b,o1,c1,rfl,_,hA1,l1,hR1⟩:=hD.kid hd0
    replace hD':=hD'.mono hE
    obtain⟨b',o2,c2,rfl,_,hA2,l2,hR2⟩:=hD'.kid (i:=0) (by omega)
    refine jA 2 rfl<|lF rfl rfl<|WL.nil<|jA 2 rfl<|WC.exit ?_
    replace hK:=hK.mono hE
    replace hK':=hK'.mono hE
    replace hb1:=hb1.mono hE
    replace hb2:=hb2.mono hE
    refine WC.seq<|WC.regionD (tt [0,1,2,3,4,5,6,7,8,9,10,11,12]++ff [13]++tt [14,15]) (Ext _) mixed (by kernel_rfl) (Ext.drew _) ?_
    refine jE 1 rfl<|dl rfl hb1 rfl<|jE 1 rfl ?_
    refine WD.q rfl (fun _ hS=>r_cmp (r_eql rfl rfl) (beqF (by omega))) ?_
    refine jE 2 rfl<|bl rfl rfl rfl hb1 rfl ?_
    refine WD.qg rfl rfl rfl rfl (fun _ hS=>r_idx Fo.h rfl rfl rfl (by first|omega|(simp;done)|(simp;omega))) ?_
    refine WD.qg rfl rfl rfl rfl (fun _ hS=>r_loadAgg Fo.h rfl hS hA1 (hn:=l1)) ?_
    refine jE 1 rfl<|bl rfl rfl rfl hb2 rfl ?_
    refine WD.qg rfl rfl rfl rfl (fun _ hS=>r_idx Fo.h rfl rfl rfl (by first|omega|(simp;done)|(simp;omega))) ?_
    refine WD.qg rfl rfl rfl rfl (fun _ hS=>r_loadAgg Fo.h rfl hS hA2 (hn:=l2)) ?_
    refine WD.lg rfl rfl rfl rfl rfl (l_do Fb.h rfl (hds _ (fld_mem hd0) _ _ _ _ _ _ (by have:=vcountL_mem (fld_mem hd0);omega) (hR1.mono (Ext.drew _)) (hR2.mono (Ext.drew _)))) ?_
    rintro v3 w3 ⟨rfl,e3⟩
    refine⟨((Evo.drew _).then e3),?_⟩
    refine jE 2 rfl<|WD.nil<|WC.ret ?_
    replace he:=((he.then hE).then (Ext.drew _)).then e3
    exact fin1 rfl ⟨congrArg Value.bool (by rw[eq,hL,same1_of ed,decide_eq_false (by omega)];rfl),he⟩
mutual
theorem sames:∀x:V,SameS x
 | .mk k n t ks o d=>same_one (samesL ks) (samesL d)
theorem samesL:∀l:List V,∀x∈l,SameS x
 |[],x,hx=>by cases hx
 |a::r,x,hx=>by
  rcases List.mem_cons.1 hx with e|hx
  ·exact e▸sames a
  ·exact samesL r x hx
end
theorem SameValue_ok{A B:Nat→Prop}{x y:V}{cx cy:List Value}{w:World}(hv:vcount x≤1000000000)(hx:RepV A w x cx)(hy:RepV B w y cy):
  Does TP 31 [.agg cx.toArray,.agg cy.toArray] w fun r w'=>r= .bool (same x y)∧Ext w w':=sames x A B y cx cy w hv hx hy
theorem zR50_1{A:Prop}(h:A:=by
 intro h2
 refine jA 4 rfl<|WC.ret ?_
 replace he:=(he.then hE).then e3
 exact fin1 rfl ⟨false,_,rfl,hB,fun h=>(by cases h),he⟩):A:=h
def FewS(x:V):Prop:=∀(cx:List Value) (lb:Nat) (L:Int) (w:World),RepV (fun b=>b≠lb) w x cx→Blk w lb [.int .i64 L]→0≤L→L≤1000000→
 Does TP 67 [.agg cx.toArray,.pointer (some ⟨lb,0,none⟩)] w fun r w'=>∃b L',r= .bool b∧Blk w' lb [.int .i64 L']∧(b=true→(vcount x:Int)+L'=L∧0≤L')∧Evo (fun k=>k≠lb) w w'
theorem vcountL_take{l:List V}{i:Nat}(h:i<l.length):vcountL (l.take (i+1))=vcountL (l.take i)+vcount (fld l i):=by
 rw[← List.take_append_getElem h,vcountL_app,fld_get h]
 rw[vcountL,vcountL];omega
theorem few_one{k:Int}{n:Nat}{t:List UInt8}{ks:List V}{o:Int}{d:List V}(hks:∀x∈ks,FewS x)(hds:∀x∈d,FewS x):FewS (.mk k n t ks o d):=by
 intro cx lb L w hx hB q0 q1
 obtain⟨pk,ck,pd,cd,rfl,_,_,hK,hD⟩:=hx.openV
 have hbl:=hB.lt
 refine do1 Tryz.func67 ?_
 have he:Evo (fun k=>k≠lb) w w:=Evo.refl w
 refine jA 2 rfl ?_
 have hs1:=he.size
 refine bx rfl ?_
 rintro _ w1 ⟨rfl,hb1,e1⟩
 refine jC 2 rfl<|jA 5 rfl ?_
 replace hB:=hB.mono e1
 refine ld rfl hB rfl ?_
 refine WL.q rfl (r_subi rfl rfl rfl (by omega) (by omega)) ?_
 refine jC 1 rfl ?_
 refine WL.l0 (lst rfl rfl hB) ?_
 rintro _ w2 ⟨hB,e2,hz2⟩
 refine WL.nil<|jA 4 rfl<|ld rfl hB rfl<|WL.q rfl (r_lss rfl rfl)<|WL.nil ?_
 refine WC.cond rfl ?_ ?_
 ·intro hc
  refine jA 4 rfl<|WC.ret ?_
  replace he:=(he.then e1).then e2
  exact fin1 rfl ⟨false,_,rfl,hB,fun h=>(by cases h),he⟩
 ·intro hc
  have q2:¬L-1<0:=by simpa using hc
  refine WC.skip<|jA 6 rfl ?_
  replace hK:=(hK.mono e1).mono e2
  replace hD:=(hD.mono e1).mono e2
  replace hb1:=hb1.mono e2
  replace he:=(he.then e1).then e2
  refine WC.loop2 (ι:=(Nat×Int)) [(1,_),(2,_),(4,_)] (fun i=>[(5,.int .i64 (i.1:Int))]) (fun i wi=>Blk wi lb [.int .i64 i.2]∧0≤i.2∧(1+(vcountL (ks.take i.1):Int)+i.2=L)∧i.1≤ks.length∧Evo (fun k=>k≠lb) w2 wi) (fun i=>ks.length-i.1) (0,L-1) sb sb (⟨hB,by omega,by simp[vcountL];omega,Nat.zero_le _,Evo.refl _⟩) ?_
  intro i wi1 hh;obtain⟨hB,n0,n1,n2,hE⟩:=hh
  obtain⟨i,M⟩:=i
  dsimp only at hB n0 n1 n2
  have hlt:=vcountL_len (ks.take i)
  rw[List.length_take,Nat.min_eq_left n2]at hlt
  rcases Nat.lt_or_ge i ks.length with qi|qi
  replace hK:=hK.mono hE
  ·obtain⟨b,o1,c1,rfl,_,hA1,l1,hR1⟩:=hK.kid qi
   have hta:=vcountL_take qi
   refine jA 5 rfl ?_
   replace hb1:=hb1.mono hE
   refine ld rfl hb1 rfl<|jC 1 rfl<|lT rfl rfl<|WL.nil<|jA 2 rfl<|jA 5 rfl<|ld rfl hb1 rfl<|jC 1 rfl<|ix rfl rfl rfl<|WL.q rfl (r_loadAgg Fo.h rfl (Ext.refl _) hA1 (hn:=l1))<|jC 1 rfl ?_
   refine cl rfl (hks _ (fld_mem qi) _ _ _ _ hR1 hB n0 (by omega)) ?_
   rintro v3 w3 ⟨z,M',rfl,hB,n4,e3⟩
   refine jC 2 rfl ?_
   refine WC.cond rfl ?_ ?_
   ·exact zR50_1
   ·intro h2
    obtain⟨n5,n6⟩:=n4 (by simpa using h2)
    refine WC.skip<|jA 2 rfl<|ai rfl rfl rfl<|jC 2 rfl ?_
    exact⟨(i+1,M'),sb,sb,⟨hB,n6,by dsimp only;omega,qi,((hE.then e3))⟩,(by show ks.length-(i+1)<ks.length-i;omega)⟩
  ·have hin:i=ks.length:=by omega
   subst hin
   rw[List.take_length]at n1
   refine jA 5 rfl ?_
   replace hb1:=hb1.mono hE
   refine ld rfl hb1 rfl<|jC 1 rfl<|lF rfl rfl<|WL.nil<|jA 1 rfl<|WC.exit<|jA 6 rfl ?_
   replace hK:=hK.mono hE
   replace hD:=hD.mono hE
   replace he:=he.then hE
   refine WC.loop2 (ι:=(Nat×Int)) [(1,_),(2,_),(4,_),(5,_)] (fun i=>[(6,.int .i64 (i.1:Int))]) (fun i wi=>Blk wi lb [.int .i64 i.2]∧0≤i.2∧(1+(vcountL ks:Int)+(vcountL (d.take i.1):Int)+i.2=L)∧i.1≤d.length∧Evo (fun k=>k≠lb) wi1 wi) (fun i=>d.length-i.1) (0,M) sb sb (⟨hB,by omega,by simp[vcountL];omega,Nat.zero_le _,Evo.refl _⟩) ?_
   intro i wi2 hh;obtain⟨hB,n0,n1,n2,hE⟩:=hh
   obtain⟨i,M⟩:=i
   dsimp only at hB n0 n1 n2
   have hlt:=vcountL_len (d.take i)
   rw[List.length_take,Nat.min_eq_left n2]at hlt
   rcases Nat.lt_or_ge i d.length with qi|qi
   replace hD:=hD.mono hE
   ·obtain⟨b,o1,c1,rfl,_,hA1,l1,hR1⟩:=hD.kid qi
    have hta:=vcountL_take qi
    refine jA 5 rfl ?_
    replace hb1:=hb1.mono hE
    refine ld rfl hb1 rfl<|jC 1 rfl<|lT rfl rfl<|WL.nil<|jA 2 rfl<|jA 5 rfl<|ld rfl hb1 rfl<|jC 1 rfl<|ix rfl rfl rfl<|WL.q rfl (r_loadAgg Fo.h rfl (Ext.refl _) hA1 (hn:=l1))<|jC 1 rfl ?_
    refine cl rfl (hds _ (fld_mem qi) _ _ _ _ hR1 hB n0 (by omega)) ?_
    rintro v3 w3 ⟨z,M',rfl,hB,n4,e3⟩
    refine jC 2 rfl ?_
    refine WC.cond rfl ?_ ?_
    ·exact zR50_1
    ·intro h2
     obtain⟨n5,n6⟩:=n4 (by simpa using h2)
     refine WC.skip<|jA 2 rfl<|ai rfl rfl rfl<|jC 2 rfl ?_
     exact⟨(i+1,M'),sb,sb,⟨hB,n6,by dsimp only;omega,qi,((hE.then e3))⟩,(by show d.length-(i+1)<d.length-i;omega)⟩
   ·have hin:i=d.length:=by omega
    subst hin
    rw[List.take_length]at n1
    refine jA 5 rfl ?_
    replace hb1:=hb1.mono hE
    refine ld rfl hb1 rfl<|jC 1 rfl<|lF rfl rfl<|WL.nil<|jA 1 rfl<|WC.exit<|jA 4 rfl<|WC.ret ?_
    replace he:=he.then hE
    exact fin1 rfl ⟨true,_,rfl,hB,fun _=>⟨by rw[vcount];omega,n0⟩,he⟩
mutual
theorem fews:∀x:V,FewS x
 | .mk k n t ks o d=>few_one (fewsL ks) (fewsL d)
theorem fewsL:∀l:List V,∀x∈l,FewS x
 |[],x,hx=>by cases hx
 |a::r,x,hx=>by
  rcases List.mem_cons.1 hx with e|hx
  ·exact e▸fews a
  ·exact fewsL r x hx
end
end Go.Proofs.LL
