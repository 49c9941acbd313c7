/- Contracts of functions and own laws. Conditions: those that each theorem states. -/
import Derived.Test.YtdgbmbjkbmpcbaaGreatDoorV50
set_option linter.all false
set_option autoImplicit true
set_option relaxedAutoImplicit true
set_option maxRecDepth 20000
namespace Go.Proofs.LL
open Go Go.Proofs Go.RowKit
set_option maxHeartbeats 4000000
attribute [local irreducible] ar WL WC cq WT WX
theorem AV{A:Prop}(h:A:=by
 exact aN.pv0 (k:=0) (n:=0) (s:=[]) cQ cQ (by decide) (by decide) (by decide)):A:=h
theorem nS{qs:List (V×V)}(h:qs.Perm ps):aj (qs.flatMap eX)=aj (ps.flatMap eX):=by
 induction h with
 |nil=>rfl
 |cons x _ ih=>rw[List.flatMap_cons,List.flatMap_cons,cI,cI,ih]
 |swap x y l=>simp only[List.flatMap_cons,cI];omega
 |trans _ _ a b=>exact a.trans b
theorem mj:∀l:List V,aj (l.map fun x=>pv x.kind x.num x.text)≤aj l
 |[]=>Nat.le_refl _
 |x::r=>by
  have h:=mj r
  have h2:=kC x
  rw[List.map_cons,aj,aj]
  have h3:aE (pv x.kind x.num x.text)=1:=by simp[pv,aE,aj]
  omega
mutual
theorem il:∀ {x y:V},iV x y→aE y≤aE x
 | .mk k n t ks o d,y,h=>by
  cases h with
  |scal=>simp only[pv,aE,aj];omega
  |list hb=>have:=mg hb;simp only[aE,aj];omega
  |map hb hq=>
   have h1:=mh hb
   have h2:=nS hq
   have h3:aj (List.flatMap (fun p:V×V=>[p.1,p.2]) _)=_:=h2
   simp only[aE,aj]
   rw[h3];omega
  |arr=>have:=mj ks;simp only[aE,aj];omega
theorem mg:∀ {l m:List V},gj l m→aj m≤aj l
 |[],_,h=>by cases h;exact Nat.le_refl _
 |x::r,_,h=>by
  cases h with
  |cons h1 h2=>
   have:=il h1
   have:=mg h2
   rw[aj,aj];omega
theorem mh:∀ {l:List V} {ps:List (V×V)},md l ps→aj (ps.flatMap eX)≤aj l
 |[],_,h=>by cases h;exact Nat.le_refl _
 |[x],_,h=>by cases h
 |k::v::r,_,h=>by
  cases h with
  |cons h1 h2 h3=>
   have:=il h1
   have:=il h2
   have:=mh h3
   rw[List.flatMap_cons,cI,aj,aj]
   simp only[eX,aj]
   omega
end
theorem mD{kk:Int}:∀ {es:List iW} {ps:List (V×V)},cE (fun k a=>a=pv kk 0 k.text) es ps→aj (ps.flatMap eX)≤aj (es.flatMap ke)
 |[],_,h=>by cases h;exact Nat.le_refl _
 |(k,v,c)::r,_,h=>by
  cases h with
  |cons h1 h2 h3=>
   have h4:=il h2
   have h5:=mD h3
   subst h1
   rw[List.flatMap_cons,List.flatMap_cons,cI,cI]
   simp only[eX,ke,pv,aE,aj]
   have:=kC k
   omega
theorem mi{kk:Int}(h:gk kk l ys):aj ys≤aj l:=by
 obtain⟨es,rfl,ps,qs,hS,hq,rfl⟩:=h
 rw[nS hq]
 exact mD hS
mutual
theorem zr:∀ {x:V},fh x→ND (bq x)
 | .mk k n t ks o d,h=>by
  rw[fh]at h
  obtain⟨hp,hk0,hk1,hk2,hle,f21,f22,f23⟩:=h
  have hd:d=[]:=hp.2.2.2.1
  subst hd
  rw[bq]
  split
  ·rw[ND];exact⟨rfl,fun h=>by omega⟩
  ·split
   ·rw[ND];exact⟨rfl,fun h=>by omega⟩
   ·rw[if_neg (by simp),ND]
    refine⟨rfl,fun h=>?_⟩
    rcases h with h|h
    ·exact gV (f21 h)
    ·exact gV (f22 h).1
theorem gV:∀ {l:List V},cG l→ou (aM l)
 |[],_=>by rw[aM,ou];trivial
 |x::r,h=>by rw[cG]at h;rw[aM,ou];exact⟨zr h.1,gV h.2⟩
end
theorem uF(h1:(bq x).kind≠21)(h2:(bq x).kind≠22):bG (bq x) (bq x):=bG.scal (fp _) h1 h2
theorem zY{k:Int}(h:k≠20)(h1:k≠23):bq (pv k n s)=pv k n s:=ec k n s 0 h h1
theorem E8(k:Int)(n:Nat)(s:List UInt8)(h:k≠21)(h2:k≠22):ND (pv k n s):=by rw[pv,ND];exact⟨rfl,fun h=>by omega⟩
theorem zX(k:Int)(n:Nat)(s:List UInt8)(h:k≠21)(h2:k≠22)(h3:k≠23):∃k' n',bq (pv k n s)=pv k' n' s∧k'≠21∧k'≠22:=by
 rcases Decidable.em (k=20)with rfl|h0
 ·exact⟨19,0,fq n s 0,by decide,by decide⟩
 ·exact⟨k,n,zY h0 h3,h,h2⟩
theorem dh{k:Int}(h:k≠0):gP (pv k n s) d=pv k n s:=if_neg h
theorem cQ:gP aX d=d:=if_pos rfl
theorem aN.pv0{k:Int}(hx:gP x d=pv k n s)(hy:gP y d=pv k n s)(h:k≠21)(h2:k≠22)(h3:k≠23):aN v d x y:=by
 obtain⟨k',n',e,h4,h5⟩:=zX k n s h h2 h3
 have ev:aE (pv k n s)=1:=by simp[pv,aE,aj]
 refine aN.plain ?_ ?_ ?_ ?_ ?_
 ·rw[hx];show¬(0=1);decide
 ·rw[hx,e];exact E8 _ _ _ h4 h5
 ·rw[hx,hy];exact uF (by rw[e];exact h4) (by rw[e];exact h5)
 ·rw[hx,ev];decide
 ·rw[hy,ev];decide
theorem Bu{x:V}(h:x.kind≠0):gP x d=x:=if_neg h
theorem aN.txt{k:Int}(hk:k=19∨k=20):aN v aX (tV k s) (tV k s):=by
 rcases Decidable.em (s=[])with h|h
 ·have e:tV k s=aX:=if_pos h
  rw[e]
  exact AV
 ·have e:tV k s=pv k 0 s:=if_neg h
  rw[e]
  exact aN.pv0 (dh (by omega)) (dh (by omega)) (by omega) (by omega) (by omega)
theorem dH:gP (dP l) d=dP l:=Bu (by show(22:Int)≠0;decide)
theorem aN.map{kk:Int}(hkk:kk=19∨kk=20)(hB:gk kk l ys)(hW:lB kk l)(hc:aj l≤999999999):aN v aX (mV l) (mV ys):=by
 have hL:=sR hB hW.1 hW.2.1 hW.2.2 hkk
 have hcy:=mi hB
 have hlen:l.length=ys.length:=by
  have h:=(bG.kids (k:=22) (by rw[dP,bM (by decide) (by decide)]at hL;exact hL) (.inr rfl)).2.1
  rw[dP,bM (by decide) (by decide)]at h
  simp only[V.kids]at h
  rw[aZ,aZ]at h
  exact h
 rcases Decidable.em (l=[])with h|h
 ·have e:mV l=aX:=if_pos h
  have e2:mV ys=aX:=if_pos (List.eq_nil_of_length_eq_zero (by rw[← hlen,h];rfl))
  rw[e,e2]
  exact AV
 ·have e:mV l=dP l:=if_neg h
  have e2:mV ys=dP ys:=if_neg (fun e=>h (List.eq_nil_of_length_eq_zero (by rw[hlen,e];rfl)))
  rw[e,e2]
  refine aN.plain ?_ ?_ ?_ ?_ ?_
  ·rw[dH];show¬(0=1);decide
  ·rw[dH,dP,bM (by decide) (by decide),ND]
   exact⟨rfl,fun _=>gV hW.1.1.1⟩
  ·rw[dH,dH];exact hL
  ·rw[dH,dP,aE,aj];omega
  ·rw[dH,dP,aE,aj];omega
theorem aN.fault(hB:gk 19 l ys)(hW:lB 19 l)(hc:aj l≤999999999):aN v d (kf c dd l) (kf c dd ys):=by
 refine aN.comp (fs:=lJ [] [] []) (fun w=>tR) (by simp[lJ]) rfl rfl fun i hi=>?_
 match i,hi with
 |0,_=>exact aN.pv0 (dh (k:=20) (n:=0) (s:=c) (by decide)) (dh (by decide)) (by decide) (by decide) (by decide)
 |1,_=>exact aN.txt (.inl rfl)
 |2,_=>exact aN.map (.inl rfl) hB hW hc
theorem A3(hC:cW A w code fs cells)(hC2:cW B w code fs' cells')(hl:fs.length≤1000)(hll:fs'.length=fs.length)(hf:∀i (h:i<fs.length),aN fs[i].1 fs[i].2 fs[i].1 (bA (fs'.map (·.1)) i)):
  ah TP 10 [.agg cells.toArray,.agg cells'.toArray] w fun r w'=>r= .bool true∧ay w w':=by
 replace hC:=hC.lowW (B:=fun b=>b<w.heap.size) fun b hb _=>hb
 replace hC2:=hC2.lowW (B:=fun b=>b<w.heap.size) fun b hb _=>hb
 obtain⟨p,c,rfl⟩:=hC.open
 obtain⟨p',c',rfl⟩:=hC2.open
 refine aR Tryz.func10 ?_
 have he:=Hi w
 refine jA 2 rfl ?_
 have:=he.s
 refine Hb rfl fun w1 hb1 e1=>?_
 have:=hb1.lt
 have:=e1.s
 replace he:=he.t e1
 have:=he.s
 have:=hb1.lt
 refine Hb rfl fun w2 hb2 e2=>?_
 have:=hb2.lt
 have:=e2.s
 refine jC 2 rfl ?_
 replace hC:=(hC.m e1).m e2
 replace hC2:=(hC2.m e1).m e2
 replace hb1:=hb1.m e2
 refine WC.seq<|WC.regionD (tt [0,1,2,3,4,5,6,7]++ff [8,9]++tt [10,11]) (ay _) mixed (by kernel_rfl) Xd ?_
 have nd1w2:w2.drew.heap.size=w2.heap.size:=rfl
 refine jE 1 rfl<|dl rfl hb1 rfl<|jE 1 rfl<|dl rfl hb2 rfl<|He (fun _ hS=>ae (ak rfl rfl) (br (rfl)))<|jE 1 rfl<|Hf rfl rfl (fun _ hS=>ad Fo.h rfl hS hb1.at (hn:=by first|rfl|assumption))<|Hf rfl rfl (fun _ hS=>ad Fo.h rfl hS hb2.at (hn:=by first|rfl|assumption))<|WD.lg rfl rfl rfl rfl rfl (cD Fb.h rfl (jF (hC2.m Xd) (by omega))) ?_
 rintro v3 w3 ⟨x0,x1,x2,x3,x4,x5,rfl,hR,e3⟩
 have:=e3.s
 refine⟨(Vd.t e3),?_⟩
 refine WD.lg rfl rfl rfl rfl rfl (cD Fb.h rfl (Es ((hC.m Xd).m e3) hR hl (by rw[List.length_map];exact hll) hf)) ?_
 rintro v4 w4 ⟨rfl,e4⟩
 have:=e4.s
 refine⟨((Vd.t e3).t e4),?_⟩
 refine jE 2 rfl<|WD.nil<|WC.ret ?_
 replace he:=(((he.t e2).t Xd).t e3).t e4
 exact aw rfl ⟨rfl,he.k fun k hk _=>hk⟩
theorem AY(hC:cW A w code fs cells)(hl:fs.length≤1000)(hUT:UT w):
  ah TP 12 [.agg cells.toArray] w fun r w'=>∃b,r= .bool b∧(b=true→VF (dQ code fs)∧aE (dQ code fs)≤300)∧ay w w':=by
 replace hC:=hC.lowW (B:=fun b=>b<w.heap.size) fun b hb _=>hb
 obtain⟨p,c,rfl⟩:=hC.open
 refine aR Tryz.func12 ?_
 have he:=Hi w
 refine jA 2 rfl ?_
 have:=he.s
 refine Hb rfl fun w1 hb1 e1=>?_
 have:=hb1.lt
 have:=e1.s
 refine jD 4 rfl<|la rfl hb1 ?_
 replace hC:=hC.m e1
 refine cl rfl (jF hC hl) ?_
 rintro v2 w2 ⟨x0,x1,x2,x3,x4,x5,rfl,hR0,e2⟩
 have hZR:=hR0.weakenW (B:=fun b=>b<w2.heap.size) (fun b hb _=>hb)
 have q1:=hR0.one
 have:=e2.s
 replace he:=(he.t e1).t e2
 have:=he.s
 replace hb1:=hb1.m e2
 have:=hb1.lt
 refine Ha fun w3 hb3 e3=>?_
 have:=hb3.lt
 have:=e3.s
 refine Ho rfl rfl hb3 fun w4 hb3 e4 hz4=>?_
 have:=e4.s
 refine jD 3 rfl<|la rfl hb3 ?_
 replace hUT:=((hUT.m e1).m e2).m (e3.t e4)
 replace hZR:=hZR.m (e3.t e4)
 refine cl rfl (kJ hZR hUT (by omega) (by omega)) ?_
 rintro v5 w5 ⟨b,rfl,qb,e5⟩
 have:=e5.s
 cases b
 ·refine jC 7 rfl<|WC.ret ?_
  replace he:=(he.t (e3.t e4)).t e5
  exact aw rfl ⟨_,rfl,fun h=>(by cases h),he.k fun k hk _=>hk⟩
 ·have qV:=qb rfl
  refine jC 1 rfl ?_
  replace hb3:=hb3.m e5
  refine Hg rfl rfl (ad Fo.h rfl Xr hb3.at (hn:=by first|rfl|assumption)) ?_
  replace hZR:=hZR.m e5
  refine WL.lg rfl rfl rfl rfl (cD Fb.h rfl (B5 _ _ _ _ hZR (by omega))) ?_
  rintro v6 w6 ⟨rfl,e6⟩
  have:=e6.s
  refine Hg rfl rfl (aY rfl rfl)<|jC 3 rfl<|WC.ret ?_
  replace he:=((he.t (e3.t e4)).t e5).t e6
  exact aw rfl ⟨_,rfl,fun h=>⟨qV.1,by have:=of_decide_eq_true h;omega⟩,he.k fun k hk _=>hk⟩
theorem By(hu:bT A w u l)(hv:bT B w v l):
  ah TP 13 [u,v] w fun r w'=>r= .bool true∧ay w w':=by
 replace hu:=hu.k (B:=fun _=>True) (fun _ _ _=>trivial)
 replace hv:=hv.k (B:=fun _=>True) (fun _ _ _=>trivial)
 refine aR Tryz.func13 ?_
 refine jA 7 rfl<|Hq (gp Fb.h rfl Xr hu)<|jC 1 rfl<|Hq (gp Fb.h rfl Xr hv)<|Hq (k7 rfl rfl (rfl))<|jC 2 rfl<|WC.ret ?_
 exact aw rfl ⟨rfl,ch⟩
theorem oD{i:List V}(hK:cM A w i.length (.slice p i.length cp) (ag A w i))(hUT:UT w):
  ah TP 54 [.agg #[str c,str d,.slice p i.length cp]] w fun r w'=>∃b,r= .bool b∧(b=true→lB 19 i)∧ay w w':=by
 replace hK:=hK.weakW (B:=fun b=>b<w.heap.size) (fun b hb _=>hb)
 rcases Decidable.em (c=[])with hc|hc
 ·refine aR Tryz.func54 ?_
  have he:=Hi w
  refine jA 2 rfl ?_
  have hs1:=he.s
  refine Hb rfl fun w1 hb1 e1=>?_
  have nx1:=hb1.lt
  have ns1:=e1.s
  refine jD 5 rfl<|ld rfl hb1 rfl<|Hq (tc rfl rfl (hc))<|jC 8 rfl<|WC.ret ?_
  replace he:=he.t e1
  exact aw rfl ⟨_,rfl,fun h=>(by cases h),he.k fun k hk _=>hk⟩
 ·refine aR Tryz.func54 ?_
  have he:=Hi w
  refine jA 2 rfl ?_
  have hs1:=he.s
  refine Hb rfl fun w1 hb1 e1=>?_
  have nx1:=hb1.lt
  have ns1:=e1.s
  refine jD 5 rfl<|ld rfl hb1 rfl<|Hq (tb rfl rfl (hc))<|jC 2 rfl<|LL.lg rfl rfl rfl hb1 rfl ?_
  replace he:=he.t e1
  have:=he.s
  have:=hb1.lt
  refine WL.lg rfl rfl rfl rfl (ll [_]) ?_
  rintro _ w2 ⟨rfl,hb2,e2⟩
  have:=e2.s
  replace hK:=(hK.m e1).m e2
  replace hUT:=(hUT.m e1).m e2
  refine WL.lg rfl rfl rfl rfl (cD Fb.h rfl (mu (.inl rfl) hK hb2.at hUT)) ?_
  rintro v3 w3 ⟨z,rfl,qz,e3⟩
  have:=e3.s
  refine jC 3 rfl<|WC.ret ?_
  replace he:=(he.t e2).t e3
  exact aw rfl ⟨_,rfl,qz,he.k fun k hk _=>hk⟩
theorem nk(hF:kE A w l v)(hUT:UT w):
  ah TP 20 [v] w fun r w'=>∃b,r= .bool b∧(b=true→∀f∈l,lB 19 f.2.2)∧ay w w':=by
 replace hF:=(hF.lowW (B:=fun b=>b<w.heap.size) fun b hb _=>hb)
 obtain⟨p,c,rfl,qc,hl|⟨cc,d,i,b,o,pi,ci,rfl,rfl,qA,_,hA,hK⟩⟩:=hF.ex
 ·subst hl
  refine aR Tryz.func20 ?_
  have he:=Hi w
  refine jA 8 rfl<|Hq (ae (ak rfl rfl) (br (by(rfl))))<|jC 13 rfl<|WC.ret ?_
  exact aw rfl ⟨_,rfl,fun _ f hf=>(by cases hf),he.k fun k hk _=>hk⟩
 ·refine aR Tryz.func20 ?_
  have he:=Hi w
  refine jA 8 rfl<|Hq (ae (ak rfl rfl) (bk (by(simp))))<|jC 3 rfl<|Hg rfl rfl (ae (ak rfl rfl) (br (rfl)))<|jC 2 rfl<|Hg rfl rfl (bd Fo.h rfl rfl rfl)<|Hg rfl rfl (ad Fo.h rfl Xr hA (hn:=rfl))<|WL.lg rfl rfl rfl rfl (cD Fb.h rfl (oD hK hUT)) ?_
  rintro v1 w1 ⟨z,rfl,qz,e1⟩
  have:=e1.s
  refine jC 4 rfl<|WC.ret ?_
  replace he:=he.t e1
  exact aw rfl ⟨_,rfl,fun h f hf=>(by rw[List.mem_singleton]at hf;subst hf;exact qz h),he.k fun k hk _=>hk⟩
theorem lE(hn:2≤n):
  ah TP 20 [.slice p n c] w fun r w'=>r= .bool false∧ay w w':=by
 refine aR Tryz.func20 ?_
 have he:=Hi w
 refine jA 8 rfl<|Hq (ae (ak rfl rfl) (bk (by(omega))))<|jC 3 rfl<|Hg rfl rfl (ae (ak rfl rfl) (bk (by(omega))))<|jC 9 rfl<|WC.ret ?_
 exact aw rfl ⟨rfl,he.k fun k hk _=>hk⟩
theorem kE.lit{A:Nat→Prop}(h:aH w b [str c,str [],.slice none 0 0])(hA:A b):kE A w [(c,[],[])] (.slice (some ⟨b,0,none⟩) 1 1):=
 ⟨_,1,rfl,Nat.le_refl _,.inr ⟨c,[],[],b,0,none,0,rfl,rfl,hA,h.lt,h.at,cM.nil⟩⟩
def CW(l l':List mH):Prop:=(l=[]∧l'=[])∨∃c d i ys,l=[(c,d,i)]∧l'=[(c,d,ys)]∧gk 19 i ys
theorem eP.flt(h:eP N0 w l v):∃l',kE (fun b=>N0≤b) w l' v∧CW l l':=by
 rcases h with⟨h1,h2⟩|⟨c,d,i,b,sv,ys,h1,h2,h3,h4,h5,h6⟩
 ·exact⟨[],⟨none,0,h2,Nat.le_refl _,.inl rfl⟩,.inl ⟨h1,rfl⟩⟩
 ·have h5':=h5
  obtain⟨p,cp,cells,rfl,_⟩:=h5
  exact⟨[(c,d,ys)],⟨_,1,h2,Nat.le_refl _,.inr ⟨c,d,ys,b,0,p,cp,rfl,rfl,h3,h4.lt,h4.at,h5'⟩⟩,.inr ⟨c,d,i,ys,h1,rfl,h6⟩⟩
theorem aN.faults(hB:CW l l')(hW:∀f∈l,lB 19 f.2.2)(hc:∀f∈l,aj f.2.2≤999999999):aN v aX (dg l) (dg l'):=by
 rcases hB with⟨rfl,rfl⟩|⟨c,d,i,ys,rfl,rfl,hB⟩
 ·exact aN.pv0 (k:=0) (n:=0) (s:=[]) cQ cQ (by decide) (by decide) (by decide)
 ·exact aN.fault hB (hW (c,d,i) (by simp)) (hc (c,d,i) (by simp))
theorem CA{k:Int}(hk:17≤k∧k≤20):Wt (tV k s):=by
 unfold tV
 split
 ·exact m3
 ·exact lA (.inr (.inr (.inr (.inr (.inr hk))))) (by omega) (by omega) (by omega) (by omega)
theorem Cz{kk:Int}(h:lB kk l):Wt (mV l):=by
 unfold mV
 split
 ·exact m3
 ·rw[dP,Wt]
  exact⟨by omega,by omega,by omega,jg (by omega) (by omega) (by omega) (by omega) (by omega),h.1.2.2,.inl rfl,fun _=>cG.wt h.1.1.1,fun h=>by omega⟩
theorem kj:iH aX:=⟨m3,fun _=>rfl,fun h=>absurd h (by decide)⟩
theorem qJ{l:List mH}(hW:∀f∈l,lB 19 f.2.2):iH (dg l):=by
 match l,hW with
 |[],_=>exact kj
 |f::r,hW=>
  refine⟨?_,fun h=>absurd h (by show¬((21:Int)=0);decide),fun h=>absurd h (by show¬((21:Int)=23);decide)⟩
  rw[dg,kf,Wt]
  refine⟨by omega,by omega,by omega,jg (by omega) (by omega) (by omega) (by omega) (by omega),by simp,.inr ⟨29,by omega,rfl⟩,fun _=>?_,fun h=>by omega⟩
  rw[g9,g9,g9,g9]
  exact⟨lA (by omega) (by omega) (by omega) (by omega) (by omega),CA (by omega),Cz (hW f (by simp)),trivial⟩
theorem xw{l:List mH}(hl:l.length≤1):∀f∈l,aj f.2.2≤aE (dg l):=by
 intro f hf
 match l,hl,hf with
 |[g],_,hf=>
  rw[List.mem_singleton]at hf
  subst hf
  rw[dg,kf,aE,aj,aj,aj]
  have h:aj f.2.2≤aE (mV f.2.2):=by
   unfold mV
   split
   ·rename_i e;rw[e,aj];omega
   ·rw[dP,aE];omega
  omega
end Go.Proofs.LL
namespace Go.Proofs.LL
open Go Go.Proofs Go.RowKit
set_option maxHeartbeats 4000000
attribute [local irreducible] ar WL WC cq WT WX
theorem xR(h:same a b=true):a.kind=b.kind∧a.num=b.num∧a.text=b.text:=by
 obtain⟨k,n,t,ks,o,d⟩:=a
 obtain⟨k',n',t',ks',o',d'⟩:=b
 simp only[same,Bool.and_eq_true,beq_iff_eq]at h
 exact⟨h.1.1.1.1.1.1,h.1.1.1.1.1.2,h.1.1.1.1.2⟩
theorem ji{k:Int}(hk:k≠23)(hk0:k≠0)(h:fw (pv k n []) (pv k m []) y):pS k y n m:=by
 rcases h with rfl|⟨rfl,h|⟨_,h⟩⟩|⟨h,_⟩
 ·exact .inr ⟨rfl,rfl,rfl⟩
 ·exact absurd (congrArg V.kind h) hk0
 ·exact .inl ⟨fu,(xR h).2.1⟩
 ·exact absurd h hk
end Go.Proofs.LL
namespace Go.Proofs.LL
open Go Go.Proofs Go.RowKit
set_option maxHeartbeats 4000000
attribute [local irreducible] ar WL WC cq WT WX
structure vN (A:Nat→Prop) (w:World) (ts:List (List UInt8)) (v:Value):Prop where
 ex:∃p c,v= .slice p ts.length c∧ts.length≤c∧(ts=[]∨∃b o,p=some ⟨b,o,none⟩∧A b∧b<w.heap.size∧At w b o (ts.map str))
theorem vN.m(h:vN A w ts v)(e:am B w w')(hAB:∀b,b<w.heap.size→A b→B b:=by(intro b hb1 hb2;first|exact trivial|exact hb2|exact hb2.2|((try dsimp only[Nb]at hb2⊢);omega))):vN A w' ts v:=by
 obtain⟨p,c,h1,h2,h3⟩:=h
 exact⟨p,c,h1,h2,h3.imp id fun⟨b,o,e1,e2,e3,e4⟩=>⟨b,o,e1,e2,Nat.lt_of_lt_of_le e3 e.size,e4.growP e hAB e2⟩⟩
theorem vN.lowW{B:Nat→Prop}(h:vN A w ts v)(hAB:∀b,b<w.heap.size→A b→B b):vN B w ts v:=by
 obtain⟨p,c,h1,h2,h3⟩:=h
 exact⟨p,c,h1,h2,h3.imp id fun⟨b,o,e1,e2,e3,e4⟩=>⟨b,o,e1,hAB b e3 e2,e3,e4⟩⟩
theorem vN.nil:vN A w [] (.slice none 0 0):=⟨none,0,rfl,Nat.le_refl _,.inl rfl⟩
theorem vN.idx(h:vN A w ts (.slice p ts.length c))(hi:i<ts.length):∃b o,p=some ⟨b,o,none⟩∧ts.length≤c∧w.cell? ⟨b,o+i,none⟩=some (str ts[i]):=by
 obtain⟨p',c',h1,h2,h3⟩:=h
 simp only[Value.slice.injEq,true_and]at h1
 obtain⟨rfl,rfl⟩:=h1
 rcases h3 with h3|⟨b,o,e1,e2,e3,e4⟩
 ·rw[h3]at hi;exact absurd hi (by simp)
 ·exact⟨b,o,e1,h2,e4.get (j:=i) (v:=str ts[i]) (by simp[hi])⟩
theorem vN.own{A:Nat→Prop}{ts:List (List UInt8)}(h:aT B 9 1 w v ts.length (ts.map str))(hA:∀b,B≤b→A b):vN A w ts v:=by
 obtain⟨p,c,h1,h2,h3⟩:=h.form
 refine⟨p,c,h1,h2,?_⟩
 rcases Nat.eq_zero_or_pos ts.length with h0|h0
 ·exact .inl (List.eq_nil_of_length_eq_zero h0)
 ·obtain⟨b,h4,h5,h6,h7⟩:=h3 h0
  exact .inr ⟨b,0,h4,hA b h5,h6,h7⟩
theorem zU:ah TP 74 [.bool b] w fun r w'=>r= .int .u64 (b.toNat:Int)∧ay w w':=by
 cases b
 ·refine aR Tryz.func74 ?_
  refine uA 15 rfl<|WC.ret ?_
  exact aw rfl ⟨rfl,ch⟩
 ·refine aR Tryz.func74 ?_
  refine uA 14 rfl<|WC.ret ?_
  exact aw rfl ⟨rfl,ch⟩
theorem oK{k:Int}{n:Nat}:ah TP 60 [.int .i64 k,.int .u64 (n:Int)] w fun r w'=>r= .agg #[.int .i64 k,.int .u64 (n:Int),str [],.slice none 0 0,.int .i64 0,.slice none 0 0,.int .i64 k,.int .u64 0,str [],.slice none 0 0,.int .i64 0,.slice none 0 0]∧ay w w':=by
 refine co Tryz.func60 ?_
 have he:=XI w
 refine uA 2 rfl ?_
 have:=he.s
 refine Ha fun w1 hb1 e1=>?_
 refine uD 5 rfl<|Hl rfl (cV) fun w2 e2=>?_
 refine uC 1 rfl<|Hl rfl (cV) fun w3 e3=>?_
 refine Hq (az (cs:=[_,_,_,_,_,_,_,_,_,_,_,_]) Fo.h rfl rfl) ?_
 replace hb1:=(hb1.m e2).m e3
 refine Ho rfl rfl hb1 fun w4 hb1 e4 hz4=>?_
 refine WL.nil<|WC.ret ?_
 replace he:=(((he.t e1).t e2).t e3).t e4
 exact cO rfl hb1 eE ⟨rfl,he⟩
theorem dL:ah TP 46 [.bool b] w fun r w'=>r= .agg #[.int .i64 1,.int .u64 (b.toNat:Int),str [],.slice none 0 0,.int .i64 0,.slice none 0 0,.int .i64 1,.int .u64 0,str [],.slice none 0 0,.int .i64 0,.slice none 0 0]∧ay w w':=by
 refine co Tryz.func46 ?_
 have he:=XI w
 refine uA 2 rfl ?_
 have:=he.s
 refine Ha fun w1 hb1 e1=>?_
 refine uD 4 rfl<|Hl rfl (zU) fun w2 e2=>?_
 refine Hl rfl (oK) fun w3 e3=>?_
 replace hb1:=(hb1.m e2).m e3
 refine Ho rfl rfl hb1 fun w4 hb1 e4 hz4=>?_
 refine WL.nil<|WC.ret ?_
 replace he:=(((he.t e1).t e2).t e3).t e4
 exact cO rfl hb1 eE ⟨rfl,he⟩
end Go.Proofs.LL
namespace Go.Proofs.LL
open Go Go.Proofs Go.RowKit
set_option maxHeartbeats 4000000
attribute [local irreducible] ar WL WC cq WT WX
theorem cW.at{a b:Value}(h:cW A w code fs [a,b])(h0:0<fs.length):∃bb o c xs,a= .int .u64 (code:Int)∧b= .slice (some ⟨bb,o,none⟩) fs.length c∧fs.length≤c∧A bb∧At w bb o xs∧ag A w (lK fs) xs:=by
 obtain⟨p,c,xs,h1,h2,h3,h4⟩:=h
 simp only[List.cons.injEq,and_true]at h1
 obtain⟨rfl,rfl⟩:=h1
 rcases h4 with h4|⟨bb,o,rfl,e2,e3⟩
 ·rw[h4]at h0;exact absurd h0 (by simp)
 ·exact⟨bb,o,c,xs,rfl,rfl,h2,e2,e3,h3⟩
end Go.Proofs.LL
