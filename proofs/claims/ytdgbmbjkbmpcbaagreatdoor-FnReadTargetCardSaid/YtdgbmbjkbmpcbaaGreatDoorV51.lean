/- Own laws of frames, operations and loops, and contracts of functions of the program. Conditions: those that each theorem states. -/
import Derived.Test.YtdgbmbjkbmpcbaaGreatDoorV50
set_option linter.all false
set_option maxRecDepth 20000
namespace Go.Proofs.LL
open Go Go.Proofs Go.RowKit
set_option maxHeartbeats 4000000
attribute [local irreducible] RunOp WL WC WDL WT WX
theorem lN{A:Prop}(h:A:=by
 exact ar.pv0 (k:=0) (n:=0) (s:=[]) bT bT (by decide) (by decide) (by decide)):A:=h
theorem fi{qs ps:List (V×V)}(h:qs.Perm ps):ad (qs.flatMap aS)=ad (ps.flatMap aS):=by
 induction h with
 |nil=>rfl
 |cons x _ ih=>rw[List.flatMap_cons,List.flatMap_cons,aA,aA,ih]
 |swap x y l=>simp only[List.flatMap_cons,aA];omega
 |trans _ _ a b=>exact a.trans b
theorem en:∀l:List V,ad (l.map fun x=>pv x.kind x.num x.text)≤ad l
 |[]=>Nat.le_refl _
 |x::r=>by
  have h:=en r
  have h2:=dh x
  rw[List.map_cons,ad,ad]
  have h3:ah (pv x.kind x.num x.text)=1:=by simp[pv,ah,ad]
  omega
mutual
theorem cm:∀ {x y:V},cG x y→ah y≤ah x
 | .mk k n t ks o d,y,h=>by
  cases h with
  |scal=>simp only[pv,ah,ad];omega
  |list hb=>have:=d8 hb;simp only[ah,ad];omega
  |map hb hq=>
   have h1:=d9 hb
   have h2:=fi hq
   have h3:ad (List.flatMap (fun p:V×V=>[p.1,p.2]) _)=_:=h2
   simp only[ah,ad]
   rw[h3];omega
  |arr=>have:=en ks;simp only[ah,ad];omega
theorem d8:∀ {l m:List V},bH l m→ad m≤ad l
 |[],_,h=>by cases h;exact Nat.le_refl _
 |x::r,_,h=>by
  cases h with
  |cons h1 h2=>
   have:=cm h1
   have:=d8 h2
   rw[ad,ad];omega
theorem d9:∀ {l:List V} {ps:List (V×V)},ew l ps→ad (ps.flatMap aS)≤ad l
 |[],_,h=>by cases h;exact Nat.le_refl _
 |[x],_,h=>by cases h
 |k::v::r,_,h=>by
  cases h with
  |cons h1 h2 h3=>
   have:=cm h1
   have:=cm h2
   have:=d9 h3
   rw[List.flatMap_cons,aA,ad,ad]
   simp only[aS,ad]
   omega
end
theorem ei{kk:Int}:∀ {es:List cN} {ps:List (V×V)},aB (fun k a=>a=pv kk 0 k.text) es ps→ad (ps.flatMap aS)≤ad (es.flatMap de)
 |[],_,h=>by cases h;exact Nat.le_refl _
 |(k,v,c)::r,_,h=>by
  cases h with
  |cons h1 h2 h3=>
   have h4:=cm h2
   have h5:=ei h3
   subst h1
   rw[List.flatMap_cons,List.flatMap_cons,aA,aA]
   simp only[aS,de,pv,ah,ad]
   have:=dh k
   omega
theorem iy{kk:Int}{l ys:List V}(h:dw kk l ys):ad ys≤ad l:=by
 obtain⟨es,rfl,ps,qs,hS,hq,rfl⟩:=h
 rw[fi hq]
 exact ei hS
mutual
theorem kZ:∀ {x:V},Fine x→ND (usual x)
 | .mk k n t ks o d,h=>by
  rw[Fine]at h
  obtain⟨hp,hk0,hk1,hk2,hle,f21,f22,f23⟩:=h
  have hd:d=[]:=hp.2.2.2.1
  subst hd
  rw[usual]
  split
  ·rw[ND];exact⟨rfl,fun h=>by omega⟩
  ·split
   ·rw[ND];exact⟨rfl,fun h=>by omega⟩
   ·rw[if_neg (by simp),ND]
    refine⟨rfl,fun h=>?_⟩
    rcases h with h|h
    ·exact cV (f21 h)
    ·exact cV (f22 h).1
theorem cV:∀ {l:List V},FineL l→fv (usualL l)
 |[],_=>by rw[usualL,fv];trivial
 |x::r,h=>by rw[FineL]at h;rw[usualL,fv];exact⟨kZ h.1,cV h.2⟩
end
theorem df{x:V}(h1:(usual x).kind≠21)(h2:(usual x).kind≠22):av (usual x) (usual x):=av.scal (same_refl _) h1 h2
theorem mG{k:Int}{n:Nat}{s:List UInt8}(h:k≠20)(h1:k≠23):usual (pv k n s)=pv k n s:=a8 k n s 0 h h1
theorem oG(k:Int)(n:Nat)(s:List UInt8)(h:k≠21)(h2:k≠22):ND (pv k n s):=by rw[pv,ND];exact⟨rfl,fun h=>by omega⟩
theorem mK(k:Int)(n:Nat)(s:List UInt8)(h:k≠21)(h2:k≠22)(h3:k≠23):∃k' n',usual (pv k n s)=pv k' n' s∧k'≠21∧k'≠22:=by
 rcases Decidable.em (k=20)with rfl|h0
 ·exact⟨19,0,bu n s 0,by decide,by decide⟩
 ·exact⟨k,n,mG h0 h3,h,h2⟩
theorem dr{k:Int}{n:Nat}{s:List UInt8}{d:V}(h:k≠0):bF (pv k n s) d=pv k n s:=if_neg h
theorem bT{d:V}:bF ap d=d:=if_pos rfl
theorem ar.pv0{v d:V}{k:Int}{n:Nat}{s:List UInt8}{x y:V}(hx:bF x d=pv k n s)(hy:bF y d=pv k n s)(h:k≠21)(h2:k≠22)(h3:k≠23):ar v d x y:=by
 obtain⟨k',n',e,h4,h5⟩:=mK k n s h h2 h3
 have ev:ah (pv k n s)=1:=by simp[pv,ah,ad]
 refine ar.plain ?_ ?_ ?_ ?_ ?_
 ·rw[hx];show¬(0=1);decide
 ·rw[hx,e];exact oG _ _ _ h4 h5
 ·rw[hx,hy];exact df (by rw[e];exact h4) (by rw[e];exact h5)
 ·rw[hx,ev];decide
 ·rw[hy,ev];decide
theorem jX{x d:V}(h:x.kind≠0):bF x d=x:=if_neg h
theorem ar.txt{v:V}{k:Int}{s:List UInt8}(hk:k=19∨k=20):ar v ap (tV k s) (tV k s):=by
 rcases Decidable.em (s=[])with h|h
 ·have e:tV k s=ap:=if_pos h
  rw[e]
  exact lN
 ·have e:tV k s=pv k 0 s:=if_neg h
  rw[e]
  exact ar.pv0 (dr (by omega)) (dr (by omega)) (by omega) (by omega) (by omega)
theorem bO{l:List V}{d:V}:bF (bk l) d=bk l:=jX (by show(22:Int)≠0;decide)
theorem ar.map{v:V}{kk:Int}{l ys:List V}(hkk:kk=19∨kk=20)(hB:dw kk l ys)(hW:fo kk l)(hc:ad l≤999999999):ar v ap (mV l) (mV ys):=by
 have hL:=iH hB hW.1 hW.2.1 hW.2.2 hkk
 have hcy:=iy hB
 have hlen:l.length=ys.length:=by
  have h:=(av.kids (k:=22) (by rw[bk,aF (by decide) (by decide)]at hL;exact hL) (.inr rfl)).2.1
  rw[bk,aF (by decide) (by decide)]at h
  simp only[V.kids]at h
  rw[ao,ao]at h
  exact h
 rcases Decidable.em (l=[])with h|h
 ·have e:mV l=ap:=if_pos h
  have e2:mV ys=ap:=if_pos (List.eq_nil_of_length_eq_zero (by rw[← hlen,h];rfl))
  rw[e,e2]
  exact lN
 ·have e:mV l=bk l:=if_neg h
  have e2:mV ys=bk ys:=if_neg (fun e=>h (List.eq_nil_of_length_eq_zero (by rw[hlen,e];rfl)))
  rw[e,e2]
  refine ar.plain ?_ ?_ ?_ ?_ ?_
  ·rw[bO];show¬(0=1);decide
  ·rw[bO,bk,aF (by decide) (by decide),ND]
   exact⟨rfl,fun _=>cV hW.1.1.1⟩
  ·rw[bO,bO];exact hL
  ·rw[bO,bk,ah,ad];omega
  ·rw[bO,bk,ah,ad];omega
theorem nU{A B:Nat→Prop}{code:Nat}{fs fs':List (V×V)}{cells cells':List Value}{w:World}(hC:aN A w code fs cells)(hC2:aN B w code fs' cells')(hl:fs.length≤1000)(hll:fs'.length=fs.length)(hf:∀i (h:i<fs.length),ar fs[i].1 fs[i].2 fs[i].1 (aq (fs'.map (·.1)) i)):
  Does TP 10 [.agg cells.toArray,.agg cells'.toArray] w fun r w'=>r= .bool true∧Ext w w':=by
 replace hC:=hC.lowW (B:=fun b=>b<w.heap.size) fun b hb _=>hb
 replace hC2:=hC2.lowW (B:=fun b=>b<w.heap.size) fun b hb _=>hb
 obtain⟨p,c,rfl⟩:=hC.open
 obtain⟨p',c',rfl⟩:=hC2.open
 refine do1 Tryz.func10 ?_
 have he:Evo (fun b=>b<w.heap.size) w w:=Evo.refl w
 refine jA 2 rfl ?_
 have hs1:=he.size
 refine bx rfl ?_
 rintro _ w1 ⟨rfl,hb1,e1⟩
 have nx1:=hb1.lt
 have ns1:=e1.size
 replace he:=he.then e1
 have hs2:=he.size
 have hx2b1:=hb1.lt
 refine bx rfl ?_
 rintro _ w2 ⟨rfl,hb2,e2⟩
 have nx2:=hb2.lt
 have ns2:=e2.size
 refine jC 2 rfl ?_
 replace hC:=(hC.mono e1).mono e2
 replace hC2:=(hC2.mono e1).mono e2
 replace hb1:=hb1.mono e2
 refine WC.seq<|WC.regionD (tt [0,1,2,3,4,5,6,7]++ff [8,9]++tt [10,11]) (Ext _) mixed (by kernel_rfl) (Ext.drew _) ?_
 have nd1w2:w2.drew.heap.size=w2.heap.size:=rfl
 refine jE 1 rfl<|dl rfl hb1 rfl<|jE 1 rfl<|dl rfl hb2 rfl ?_
 refine WD.q rfl (fun _ hS=>r_cmp (r_eql rfl rfl) (beqT (rfl))) ?_
 refine jE 1 rfl ?_
 refine WD.qg rfl rfl rfl rfl (fun _ hS=>r_loadAgg Fo.h rfl hS hb1.at (hn:=by first|rfl|assumption)) ?_
 refine WD.qg rfl rfl rfl rfl (fun _ hS=>r_loadAgg Fo.h rfl hS hb2.at (hn:=by first|rfl|assumption)) ?_
 refine WD.lg rfl rfl rfl rfl rfl (l_do Fb.h rfl (dT (hC2.mono (Ext.drew _)) (by omega))) ?_
 rintro v3 w3 ⟨x0,x1,x2,x3,x4,x5,rfl,hR,e3⟩
 have ns3:=e3.size
 refine⟨((Evo.drew _).then e3),?_⟩
 refine WD.lg rfl rfl rfl rfl rfl (l_do Fb.h rfl (rj ((hC.mono (Ext.drew _)).mono e3) hR hl (by rw[List.length_map];exact hll) hf)) ?_
 rintro v4 w4 ⟨rfl,e4⟩
 have ns4:=e4.size
 refine⟨(((Evo.drew _).then e3).then e4),?_⟩
 refine jE 2 rfl<|WD.nil<|WC.ret ?_
 replace he:=(((he.then e2).then (Ext.drew _)).then e3).then e4
 exact fin1 rfl ⟨rfl,he.weaken fun k hk _=>hk⟩
theorem mX{A:Nat→Prop}{code:Nat}{fs:List (V×V)}{cells:List Value}{w:World}(hC:aN A w code fs cells)(hl:fs.length≤1000)(hUT:UT w):
  Does TP 12 [.agg cells.toArray] w fun r w'=>∃b,r= .bool b∧(b=true→VF (bC code fs)∧ah (bC code fs)≤300)∧Ext w w':=by
 replace hC:=hC.lowW (B:=fun b=>b<w.heap.size) fun b hb _=>hb
 obtain⟨p,c,rfl⟩:=hC.open
 refine do1 Tryz.func12 ?_
 have he:Evo (fun b=>b<w.heap.size) w w:=Evo.refl w
 refine jA 2 rfl ?_
 have hs1:=he.size
 refine bx rfl ?_
 rintro _ w1 ⟨rfl,hb1,e1⟩
 have nx1:=hb1.lt
 have ns1:=e1.size
 refine jD 4 rfl<|la rfl hb1 ?_
 replace hC:=hC.mono e1
 refine cl rfl (dT hC hl) ?_
 rintro v2 w2 ⟨x0,x1,x2,x3,x4,x5,rfl,hR0,e2⟩
 have hZR:=hR0.weakenW (B:=fun b=>b<w2.heap.size) (fun b hb _=>hb)
 have q1:=hR0.one
 have ns2:=e2.size
 replace he:=(he.then e1).then e2
 have hs3:=he.size
 replace hb1:=hb1.mono e2
 have hx3b1:=hb1.lt
 refine al ?_
 rintro _ w3 ⟨rfl,hb3,e3⟩
 have nx3:=hb3.lt
 have ns3:=e3.size
 refine WL.l0 (lsw rfl rfl hb3) ?_
 rintro _ w4 ⟨hb3,e4,hz4⟩
 have ns4:=e4.size
 refine jD 3 rfl<|la rfl hb3 ?_
 replace hUT:=((hUT.mono e1).mono e2).mono (e3.then e4)
 replace hZR:=hZR.mono (e3.then e4)
 refine cl rfl (dz hZR hUT (by omega) (by omega)) ?_
 rintro v5 w5 ⟨b,rfl,qb,e5⟩
 have ns5:=e5.size
 cases b
 ·refine jC 7 rfl<|WC.ret ?_
  replace he:=(he.then (e3.then e4)).then e5
  exact fin1 rfl ⟨_,rfl,fun h=>(by cases h),he.weaken fun k hk _=>hk⟩
 ·have qV:=qb rfl
  refine jC 1 rfl ?_
  replace hb3:=hb3.mono e5
  refine WL.qg rfl rfl rfl rfl (r_loadAgg Fo.h rfl (Ext.refl _) hb3.at (hn:=by first|rfl|assumption)) ?_
  replace hZR:=hZR.mono e5
  refine WL.lg rfl rfl rfl rfl (l_do Fb.h rfl (ow _ _ _ _ hZR (by omega))) ?_
  rintro v6 w6 ⟨rfl,e6⟩
  have ns6:=e6.size
  refine WL.qg rfl rfl rfl rfl (r_leq rfl rfl)<|jC 3 rfl<|WC.ret ?_
  replace he:=((he.then (e3.then e4)).then e5).then e6
  exact fin1 rfl ⟨_,rfl,fun h=>⟨qV.1,by have:=of_decide_eq_true h;omega⟩,he.weaken fun k hk _=>hk⟩
theorem nv{A B:Nat→Prop}{l:List UInt8}{u v:Value}{w:World}(hu:IsB A w u l)(hv:IsB B w v l):
  Does TP 13 [u,v] w fun r w'=>r= .bool true∧Ext w w':=by
 replace hu:=hu.weaken (B:=fun _=>True) (fun _ _ _=>trivial)
 replace hv:=hv.weaken (B:=fun _=>True) (fun _ _ _=>trivial)
 refine do1 Tryz.func13 ?_
 refine jA 7 rfl<|WL.q rfl (r_b2s Fb.h rfl (Ext.refl _) hu)<|jC 1 rfl<|WL.q rfl (r_b2s Fb.h rfl (Ext.refl _) hv)<|WL.q rfl (r_steqlT rfl rfl (rfl))<|jC 2 rfl<|WC.ret ?_
 exact fin1 rfl ⟨rfl,ch⟩
theorem g0.lit{w:World}{b:Nat}{A:Nat→Prop}{c:List UInt8}(h:Blk w b [str c,str [],.slice none 0 0])(hA:A b):g0 A w [(c,[],[])] (.slice (some ⟨b,0,none⟩) 1 1):=
 ⟨_,1,rfl,Nat.le_refl _,.inr ⟨c,[],[],b,0,none,0,rfl,rfl,hA,h.lt,h.at,aD.nil⟩⟩
theorem rx{k:Int}{s:List UInt8}(hk:17≤k∧k≤20):Wt (tV k s):=by
 unfold tV
 split
 ·exact eQ
 ·exact gM (.inr (.inr (.inr (.inr (.inr hk))))) (by omega) (by omega) (by omega) (by omega)
theorem rD{kk:Int}{l:List V}(h:fo kk l):Wt (mV l):=by
 unfold mV
 split
 ·exact eQ
 ·rw[bk,Wt]
  exact⟨by omega,by omega,by omega,dJ (by omega) (by omega) (by omega) (by omega) (by omega),h.1.2.2,.inl rfl,fun _=>FineL.wt h.1.1.1,fun h=>by omega⟩
theorem fe:cz ap:=⟨eQ,fun _=>rfl,fun h=>absurd h (by decide)⟩
end Go.Proofs.LL
