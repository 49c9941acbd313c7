/- Contracts of functions of impl, spec and laws. Conditions: those that each theorem states. -/
import Derived.Test.YtdgbmbjkbmpcbaaGreatDoorW50
set_option linter.all false
set_option maxRecDepth 20000
namespace Go.Proofs.LL
open Go Go.Proofs Go.RowKit
set_option maxHeartbeats 4000000
attribute [local irreducible] RunOp WL WC WDL WT WX
theorem zR74_1{A:Prop}(h:A:=by
 exact FieldT.pv0 (k:=0) (n:=0) (s:=[]) fval_null fval_null (by decide) (by decide) (by decide)):A:=h
theorem perm_count{qs ps:List (V×V)}(h:qs.Perm ps):vcountL (qs.flatMap pairF)=vcountL (ps.flatMap pairF):=by
 induction h with
 |nil=>rfl
 |cons x _ ih=>rw[List.flatMap_cons,List.flatMap_cons,vcountL_app,vcountL_app,ih]
 |swap x y l=>simp only[List.flatMap_cons,vcountL_app];omega
 |trans _ _ a b=>exact a.trans b
theorem elems_count:∀l:List V,vcountL (l.map fun x=>pv x.kind x.num x.text)≤vcountL l
 |[]=>Nat.le_refl _
 |x::r=>by
  have h:=elems_count r
  have h2:=vcount_pos x
  rw[List.map_cons,vcountL,vcountL]
  have h3:vcount (pv x.kind x.num x.text)=1:=by simp[pv,vcount,vcountL]
  omega
mutual
theorem back_count:∀ {x y:V},Back x y→vcount y≤vcount x
 | .mk k n t ks o d,y,h=>by
  cases h with
  |scal=>simp only[pv,vcount,vcountL];omega
  |list hb=>have:=backL_count hb;simp only[vcount,vcountL];omega
  |map hb hq=>
   have h1:=backM_count hb
   have h2:=perm_count hq
   have h3:vcountL (List.flatMap (fun p:V×V=>[p.1,p.2]) _)=_:=h2
   simp only[vcount,vcountL]
   rw[h3];omega
  |arr=>have:=elems_count ks;simp only[vcount,vcountL];omega
theorem backL_count:∀ {l m:List V},BackL l m→vcountL m≤vcountL l
 |[],_,h=>by cases h;exact Nat.le_refl _
 |x::r,_,h=>by
  cases h with
  |cons h1 h2=>
   have:=back_count h1
   have:=backL_count h2
   rw[vcountL,vcountL];omega
theorem backM_count:∀ {l:List V} {ps:List (V×V)},BackM l ps→vcountL (ps.flatMap pairF)≤vcountL l
 |[],_,h=>by cases h;exact Nat.le_refl _
 |[x],_,h=>by cases h
 |k::v::r,_,h=>by
  cases h with
  |cons h1 h2 h3=>
   have:=back_count h1
   have:=back_count h2
   have:=backM_count h3
   rw[List.flatMap_cons,vcountL_app,vcountL,vcountL]
   simp only[pairF,vcountL]
   omega
end
theorem shown_count{kk:Int}:∀ {es:List Ent} {ps:List (V×V)},Shown (fun k a=>a=pv kk 0 k.text) es ps→vcountL (ps.flatMap pairF)≤vcountL (es.flatMap entF)
 |[],_,h=>by cases h;exact Nat.le_refl _
 |(k,v,c)::r,_,h=>by
  cases h with
  |cons h1 h2 h3=>
   have h4:=back_count h2
   have h5:=shown_count h3
   subst h1
   rw[List.flatMap_cons,List.flatMap_cons,vcountL_app,vcountL_app]
   simp only[pairF,entF,pv,vcount,vcountL]
   have:=vcount_pos k
   omega
theorem backP_count{kk:Int}{l ys:List V}(h:BackP kk l ys):vcountL ys≤vcountL l:=by
 obtain⟨es,rfl,ps,qs,hS,hq,rfl⟩:=h
 rw[perm_count hq]
 exact shown_count hS
mutual
theorem nd_usual:∀ {x:V},Fine x→ND (usual x)
 | .mk k n t ks o d,h=>by
  rw[Fine]at h
  obtain⟨hp,hk0,hk1,hk2,hle,f21,f22,f23⟩:=h
  have hd:d=[]:=hp.2.2.2.1
  subst hd
  rw[usual]
  split
  ·rw[ND];exact⟨rfl,fun h=>by omega⟩
  ·split
   ·rw[ND];exact⟨rfl,fun h=>by omega⟩
   ·rw[if_neg (by simp),ND]
    refine⟨rfl,fun h=>?_⟩
    rcases h with h|h
    ·exact nd_usualL (f21 h)
    ·exact nd_usualL (f22 h).1
theorem nd_usualL:∀ {l:List V},FineL l→NDL (usualL l)
 |[],_=>by rw[usualL,NDL];trivial
 |x::r,h=>by rw[FineL]at h;rw[usualL,NDL];exact⟨nd_usual h.1,nd_usualL h.2⟩
end
theorem loose_same{x:V}(h1:(usual x).kind≠21)(h2:(usual x).kind≠22):Loose (usual x) (usual x):=Loose.scal (same_refl _) h1 h2
theorem usual_pv{k:Int}{n:Nat}{s:List UInt8}(h:k≠20)(h1:k≠23):usual (pv k n s)=pv k n s:=usual_nil k n s 0 h h1
theorem nd_pv(k:Int)(n:Nat)(s:List UInt8)(h:k≠21)(h2:k≠22):ND (pv k n s):=by rw[pv,ND];exact⟨rfl,fun h=>by omega⟩
theorem usual_pk(k:Int)(n:Nat)(s:List UInt8)(h:k≠21)(h2:k≠22)(h3:k≠23):∃k' n',usual (pv k n s)=pv k' n' s∧k'≠21∧k'≠22:=by
 rcases Decidable.em (k=20)with rfl|h0
 ·exact⟨19,0,usual_sym n s 0,by decide,by decide⟩
 ·exact⟨k,n,usual_pv h0 h3,h,h2⟩
theorem fval_pv{k:Int}{n:Nat}{s:List UInt8}{d:V}(h:k≠0):fval (pv k n s) d=pv k n s:=if_neg h
theorem fval_null{d:V}:fval nullV d=d:=if_pos rfl
theorem FieldT.pv0{v d:V}{k:Int}{n:Nat}{s:List UInt8}{x y:V}(hx:fval x d=pv k n s)(hy:fval y d=pv k n s)(h:k≠21)(h2:k≠22)(h3:k≠23):FieldT v d x y:=by
 obtain⟨k',n',e,h4,h5⟩:=usual_pk k n s h h2 h3
 have ev:vcount (pv k n s)=1:=by simp[pv,vcount,vcountL]
 refine FieldT.plain ?_ ?_ ?_ ?_ ?_
 ·rw[hx];show¬(0=1);decide
 ·rw[hx,e];exact nd_pv _ _ _ h4 h5
 ·rw[hx,hy];exact loose_same (by rw[e];exact h4) (by rw[e];exact h5)
 ·rw[hx,ev];decide
 ·rw[hy,ev];decide
theorem fval_eq{x d:V}(h:x.kind≠0):fval x d=x:=if_neg h
theorem FieldT.txt{v:V}{k:Int}{s:List UInt8}(hk:k=19∨k=20):FieldT v nullV (tV k s) (tV k s):=by
 rcases Decidable.em (s=[])with h|h
 ·have e:tV k s=nullV:=if_pos h
  rw[e]
  exact zR74_1
 ·have e:tV k s=pv k 0 s:=if_neg h
  rw[e]
  exact FieldT.pv0 (fval_pv (by omega)) (fval_pv (by omega)) (by omega) (by omega) (by omega)
theorem fval_map{l:List V}{d:V}:fval (mapV l) d=mapV l:=fval_eq (by show(22:Int)≠0;decide)
theorem FieldT.map{v:V}{kk:Int}{l ys:List V}(hkk:kk=19∨kk=20)(hB:BackP kk l ys)(hW:MapW kk l)(hc:vcountL l≤999999999):FieldT v nullV (mV l) (mV ys):=by
 have hL:=loose_backP hB hW.1 hW.2.1 hW.2.2 hkk
 have hcy:=backP_count hB
 have hlen:l.length=ys.length:=by
  have h:=(Loose.kids (k:=22) (by rw[mapV,usual_plain (by decide) (by decide)]at hL;exact hL) (.inr rfl)).2.1
  rw[mapV,usual_plain (by decide) (by decide)]at h
  simp only[V.kids]at h
  rw[usualL_length,usualL_length]at h
  exact h
 rcases Decidable.em (l=[])with h|h
 ·have e:mV l=nullV:=if_pos h
  have e2:mV ys=nullV:=if_pos (List.eq_nil_of_length_eq_zero (by rw[← hlen,h];rfl))
  rw[e,e2]
  exact zR74_1
 ·have e:mV l=mapV l:=if_neg h
  have e2:mV ys=mapV ys:=if_neg (fun e=>h (List.eq_nil_of_length_eq_zero (by rw[hlen,e];rfl)))
  rw[e,e2]
  refine FieldT.plain ?_ ?_ ?_ ?_ ?_
  ·rw[fval_map];show¬(0=1);decide
  ·rw[fval_map,mapV,usual_plain (by decide) (by decide),ND]
   exact⟨rfl,fun _=>nd_usualL hW.1.1.1⟩
  ·rw[fval_map,fval_map];exact hL
  ·rw[fval_map,mapV,vcount,vcountL];omega
  ·rw[fval_map,mapV,vcount,vcountL];omega
theorem FieldT.fault{v d:V}{c dd:List UInt8}{l ys:List V}(hB:BackP 19 l ys)(hW:MapW 19 l)(hc:vcountL l≤999999999):FieldT v d (faultV c dd l) (faultV c dd ys):=by
 refine FieldT.comp (fs:=faultF [] [] []) (fun w=>Known29_ok) (by simp[faultF]) rfl rfl fun i hi=>?_
 match i,hi with
 |0,_=>exact FieldT.pv0 (fval_pv (k:=20) (n:=0) (s:=c) (by decide)) (fval_pv (by decide)) (by decide) (by decide) (by decide)
 |1,_=>exact FieldT.txt (.inl rfl)
 |2,_=>exact FieldT.map (.inl rfl) hB hW hc
theorem Same_ok{A B:Nat→Prop}{code:Nat}{fs fs':List (V×V)}{cells cells':List Value}{w:World}(hC:CmpR A w code fs cells)(hC2:CmpR B w code fs' cells')(hl:fs.length≤1000)(hll:fs'.length=fs.length)(hf:∀i (h:i<fs.length),FieldT fs[i].1 fs[i].2 fs[i].1 (fld (fs'.map (·.1)) i)):
  Does TP 10 [.agg cells.toArray,.agg cells'.toArray] w fun r w'=>r= .bool true∧Ext w w':=by
 replace hC:=hC.lowW (B:=fun b=>b<w.heap.size) fun b hb _=>hb
 replace hC2:=hC2.lowW (B:=fun b=>b<w.heap.size) fun b hb _=>hb
 obtain⟨p,c,rfl⟩:=hC.open
 obtain⟨p',c',rfl⟩:=hC2.open
 refine do1 Tryz.func10 ?_
 have he:Evo (fun b=>b<w.heap.size) w w:=Evo.refl w
 refine jA 2 rfl ?_
 have hs1:=he.size
 refine bx rfl ?_
 rintro _ w1 ⟨rfl,hb1,e1⟩
 have nx1:=hb1.lt
 have ns1:=e1.size
 replace he:=he.then e1
 have hs2:=he.size
 have hx2b1:=hb1.lt
 refine bx rfl ?_
 rintro _ w2 ⟨rfl,hb2,e2⟩
 have nx2:=hb2.lt
 have ns2:=e2.size
 refine jC 2 rfl ?_
 replace hC:=(hC.mono e1).mono e2
 replace hC2:=(hC2.mono e1).mono e2
 replace hb1:=hb1.mono e2
 refine WC.seq<|WC.regionD (tt [0,1,2,3,4,5,6,7]++ff [8,9]++tt [10,11]) (Ext _) mixed (by kernel_rfl) (Ext.drew _) ?_
 have nd1w2:w2.drew.heap.size=w2.heap.size:=rfl
 refine jE 1 rfl<|dl rfl hb1 rfl<|jE 1 rfl<|dl rfl hb2 rfl ?_
 refine WD.q rfl (fun _ hS=>r_cmp (r_eql rfl rfl) (beqT (rfl))) ?_
 refine jE 1 rfl ?_
 refine WD.qg rfl rfl rfl rfl (fun _ hS=>r_loadAgg Fo.h rfl hS hb1.at (hn:=by first|rfl|assumption)) ?_
 refine WD.qg rfl rfl rfl rfl (fun _ hS=>r_loadAgg Fo.h rfl hS hb2.at (hn:=by first|rfl|assumption)) ?_
 refine WD.lg rfl rfl rfl rfl rfl (l_do Fb.h rfl (Whole_rep (hC2.mono (Ext.drew _)) (by omega))) ?_
 rintro v3 w3 ⟨x0,x1,x2,x3,x4,x5,rfl,hR,e3⟩
 have ns3:=e3.size
 refine⟨((Evo.drew _).then e3),?_⟩
 refine WD.lg rfl rfl rfl rfl rfl (l_do Fb.h rfl (Is_ok ((hC.mono (Ext.drew _)).mono e3) hR hl (by rw[List.length_map];exact hll) hf)) ?_
 rintro v4 w4 ⟨rfl,e4⟩
 have ns4:=e4.size
 refine⟨(((Evo.drew _).then e3).then e4),?_⟩
 refine jE 2 rfl<|WD.nil<|WC.ret ?_
 replace he:=(((he.then e2).then (Ext.drew _)).then e3).then e4
 exact fin1 rfl ⟨rfl,he.weaken fun k hk _=>hk⟩
theorem Fits_ok{A:Nat→Prop}{code:Nat}{fs:List (V×V)}{cells:List Value}{w:World}(hC:CmpR A w code fs cells)(hl:fs.length≤1000)(hUT:UT w):
  Does TP 12 [.agg cells.toArray] w fun r w'=>∃b,r= .bool b∧(b=true→VF (wholeV code fs)∧vcount (wholeV code fs)≤300)∧Ext w w':=by
 replace hC:=hC.lowW (B:=fun b=>b<w.heap.size) fun b hb _=>hb
 obtain⟨p,c,rfl⟩:=hC.open
 refine do1 Tryz.func12 ?_
 have he:Evo (fun b=>b<w.heap.size) w w:=Evo.refl w
 refine jA 2 rfl ?_
 have hs1:=he.size
 refine bx rfl ?_
 rintro _ w1 ⟨rfl,hb1,e1⟩
 have nx1:=hb1.lt
 have ns1:=e1.size
 refine jD 4 rfl<|la rfl hb1 ?_
 replace hC:=hC.mono e1
 refine cl rfl (Whole_rep hC hl) ?_
 rintro v2 w2 ⟨x0,x1,x2,x3,x4,x5,rfl,hR0,e2⟩
 have hZR:=hR0.weakenW (B:=fun b=>b<w2.heap.size) (fun b hb _=>hb)
 have q1:=hR0.one
 have ns2:=e2.size
 replace he:=(he.then e1).then e2
 have hs3:=he.size
 replace hb1:=hb1.mono e2
 have hx3b1:=hb1.lt
 refine al ?_
 rintro _ w3 ⟨rfl,hb3,e3⟩
 have nx3:=hb3.lt
 have ns3:=e3.size
 refine WL.l0 (lsw rfl rfl hb3) ?_
 rintro _ w4 ⟨hb3,e4,hz4⟩
 have ns4:=e4.size
 refine jD 3 rfl<|la rfl hb3 ?_
 replace hUT:=((hUT.mono e1).mono e2).mono (e3.then e4)
 replace hZR:=hZR.mono (e3.then e4)
 refine cl rfl (ValueFits_ok hZR hUT (by omega) (by omega)) ?_
 rintro v5 w5 ⟨b,rfl,qb,e5⟩
 have ns5:=e5.size
 cases b
 ·refine jC 7 rfl<|WC.ret ?_
  replace he:=(he.then (e3.then e4)).then e5
  exact fin1 rfl ⟨_,rfl,fun h=>(by cases h),he.weaken fun k hk _=>hk⟩
 ·have qV:=qb rfl
  refine jC 1 rfl ?_
  replace hb3:=hb3.mono e5
  refine WL.qg rfl rfl rfl rfl (r_loadAgg Fo.h rfl (Ext.refl _) hb3.at (hn:=by first|rfl|assumption)) ?_
  replace hZR:=hZR.mono e5
  refine WL.lg rfl rfl rfl rfl (l_do Fb.h rfl (vals _ _ _ _ hZR (by omega))) ?_
  rintro v6 w6 ⟨rfl,e6⟩
  have ns6:=e6.size
  refine WL.qg rfl rfl rfl rfl (r_leq rfl rfl)<|jC 3 rfl<|WC.ret ?_
  replace he:=((he.then (e3.then e4)).then e5).then e6
  exact fin1 rfl ⟨_,rfl,fun h=>⟨qV.1,by have:=of_decide_eq_true h;omega⟩,he.weaken fun k hk _=>hk⟩
theorem left_ok{A B:Nat→Prop}{l:List UInt8}{u v:Value}{w:World}(hu:IsB A w u l)(hv:IsB B w v l):
  Does TP 13 [u,v] w fun r w'=>r= .bool true∧Ext w w':=by
 replace hu:=hu.weaken (B:=fun _=>True) (fun _ _ _=>trivial)
 replace hv:=hv.weaken (B:=fun _=>True) (fun _ _ _=>trivial)
 refine do1 Tryz.func13 ?_
 refine jA 7 rfl<|WL.q rfl (r_b2s Fb.h rfl (Ext.refl _) hu)<|jC 1 rfl<|WL.q rfl (r_b2s Fb.h rfl (Ext.refl _) hv)<|WL.q rfl (r_steqlT rfl rfl (rfl))<|jC 2 rfl<|WC.ret ?_
 exact fin1 rfl ⟨rfl,ch⟩
theorem askedFault_ok{A:Nat→Prop}{c d:List UInt8}{i:List V}{p:Option Addr}{cp:Nat}{w:World}(hK:SlX A w i.length (.slice p i.length cp) (RepVL A w i))(hUT:UT w):
  Does TP 54 [.agg #[str c,str d,.slice p i.length cp]] w fun r w'=>∃b,r= .bool b∧(b=true→MapW 19 i)∧Ext w w':=by
 replace hK:=hK.weakW (B:=fun b=>b<w.heap.size) (fun b hb _=>hb)
 rcases Decidable.em (c=[])with hc|hc
 ·refine do1 Tryz.func54 ?_
  have he:Evo (fun b=>b<w.heap.size) w w:=Evo.refl w
  refine jA 2 rfl ?_
  have hs1:=he.size
  refine bx rfl ?_
  rintro _ w1 ⟨rfl,hb1,e1⟩
  have nx1:=hb1.lt
  have ns1:=e1.size
  refine jD 5 rfl<|ld rfl hb1 rfl<|WL.q rfl (r_stneqT rfl rfl (hc))<|jC 8 rfl<|WC.ret ?_
  replace he:=he.then e1
  exact fin1 rfl ⟨_,rfl,fun h=>(by cases h),he.weaken fun k hk _=>hk⟩
 ·refine do1 Tryz.func54 ?_
  have he:Evo (fun b=>b<w.heap.size) w w:=Evo.refl w
  refine jA 2 rfl ?_
  have hs1:=he.size
  refine bx rfl ?_
  rintro _ w1 ⟨rfl,hb1,e1⟩
  have nx1:=hb1.lt
  have ns1:=e1.size
  refine jD 5 rfl<|ld rfl hb1 rfl<|WL.q rfl (r_stneqF rfl rfl (hc))<|jC 2 rfl<|LL.lg rfl rfl rfl hb1 rfl ?_
  replace he:=he.then e1
  have hs2:=he.size
  have hx2b1:=hb1.lt
  refine WL.lg rfl rfl rfl rfl (ll [_]) ?_
  rintro _ w2 ⟨rfl,hb2,e2⟩
  have ns2:=e2.size
  replace hK:=(hK.mono e1).mono e2
  replace hUT:=(hUT.mono e1).mono e2
  refine WL.lg rfl rfl rfl rfl (l_do Fb.h rfl (mapAsked_ok (.inl rfl) hK hb2.at hUT)) ?_
  rintro v3 w3 ⟨z,rfl,qz,e3⟩
  have ns3:=e3.size
  refine jC 3 rfl<|WC.ret ?_
  replace he:=(he.then e2).then e3
  exact fin1 rfl ⟨_,rfl,qz,he.weaken fun k hk _=>hk⟩
theorem askedFaults_ok{A:Nat→Prop}{l:List Flt}{v:Value}{w:World}(hF:FltR A w l v)(hUT:UT w):
  Does TP 20 [v] w fun r w'=>∃b,r= .bool b∧(b=true→∀f∈l,MapW 19 f.2.2)∧Ext w w':=by
 replace hF:=(hF.lowW (B:=fun b=>b<w.heap.size) fun b hb _=>hb)
 obtain⟨p,c,rfl,qc,hl|⟨cc,d,i,b,o,pi,ci,rfl,rfl,qA,_,hA,hK⟩⟩:=hF.ex
 ·subst hl
  refine do1 Tryz.func20 ?_
  have he:Evo (fun b=>b<w.heap.size) w w:=Evo.refl w
  refine jA 8 rfl ?_
  refine WL.q rfl (r_cmp (r_eql rfl rfl) (beqT (by(rfl)))) ?_
  refine jC 13 rfl<|WC.ret ?_
  exact fin1 rfl ⟨_,rfl,fun _ f hf=>(by cases hf),he.weaken fun k hk _=>hk⟩
 ·refine do1 Tryz.func20 ?_
  have he:Evo (fun b=>b<w.heap.size) w w:=Evo.refl w
  refine jA 8 rfl ?_
  refine WL.q rfl (r_cmp (r_eql rfl rfl) (beqF (by(simp)))) ?_
  refine jC 3 rfl<|WL.qg rfl rfl rfl rfl (r_cmp (r_eql rfl rfl) (beqT (rfl)))<|jC 2 rfl ?_
  refine WL.qg rfl rfl rfl rfl (r_idx Fo.h rfl rfl rfl (by first|omega|(simp;done)|(simp;omega))) ?_
  refine WL.qg rfl rfl rfl rfl (r_loadAgg Fo.h rfl (Ext.refl _) hA (hn:=rfl)) ?_
  refine WL.lg rfl rfl rfl rfl (l_do Fb.h rfl (askedFault_ok hK hUT)) ?_
  rintro v1 w1 ⟨z,rfl,qz,e1⟩
  have ns1:=e1.size
  refine jC 4 rfl<|WC.ret ?_
  replace he:=he.then e1
  exact fin1 rfl ⟨_,rfl,fun h f hf=>(by rw[List.mem_singleton]at hf;subst hf;exact qz h),he.weaken fun k hk _=>hk⟩
theorem askedFaults_many{p:Option Addr}{n c:Nat}{w:World}(hn:2≤n):
  Does TP 20 [.slice p n c] w fun r w'=>r= .bool false∧Ext w w':=by
 refine do1 Tryz.func20 ?_
 have he:Evo (fun b=>b<w.heap.size) w w:=Evo.refl w
 refine jA 8 rfl ?_
 refine WL.q rfl (r_cmp (r_eql rfl rfl) (beqF (by(omega)))) ?_
 refine jC 3 rfl ?_
 refine WL.qg rfl rfl rfl rfl (r_cmp (r_eql rfl rfl) (beqF (by(omega)))) ?_
 refine jC 9 rfl<|WC.ret ?_
 exact fin1 rfl ⟨rfl,he.weaken fun k hk _=>hk⟩
theorem FltR.lit{w:World}{b:Nat}{A:Nat→Prop}{c:List UInt8}(h:Blk w b [str c,str [],.slice none 0 0])(hA:A b):FltR A w [(c,[],[])] (.slice (some ⟨b,0,none⟩) 1 1):=
 ⟨_,1,rfl,Nat.le_refl _,.inr ⟨c,[],[],b,0,none,0,rfl,rfl,hA,h.lt,h.at,SlX.nil⟩⟩
def FltB(l l':List Flt):Prop:=(l=[]∧l'=[])∨∃c d i ys,l=[(c,d,i)]∧l'=[(c,d,ys)]∧BackP 19 i ys
theorem FaultsR.flt{N0:Nat}{w:World}{l:List Flt}{v:Value}(h:FaultsR N0 w l v):∃l',FltR (fun b=>N0≤b) w l' v∧FltB l l':=by
 rcases h with⟨h1,h2⟩|⟨c,d,i,b,sv,ys,h1,h2,h3,h4,h5,h6⟩
 ·exact⟨[],⟨none,0,h2,Nat.le_refl _,.inl rfl⟩,.inl ⟨h1,rfl⟩⟩
 ·have h5':=h5
  obtain⟨p,cp,cells,rfl,_⟩:=h5
  exact⟨[(c,d,ys)],⟨_,1,h2,Nat.le_refl _,.inr ⟨c,d,ys,b,0,p,cp,rfl,rfl,h3,h4.lt,h4.at,h5'⟩⟩,.inr ⟨c,d,i,ys,h1,rfl,h6⟩⟩
theorem FieldT.faults{v:V}{l l':List Flt}(hB:FltB l l')(hW:∀f∈l,MapW 19 f.2.2)(hc:∀f∈l,vcountL f.2.2≤999999999):FieldT v nullV (faultsV l) (faultsV l'):=by
 rcases hB with⟨rfl,rfl⟩|⟨c,d,i,ys,rfl,rfl,hB⟩
 ·exact FieldT.pv0 (k:=0) (n:=0) (s:=[]) fval_null fval_null (by decide) (by decide) (by decide)
 ·exact FieldT.fault hB (hW (c,d,i) (by simp)) (hc (c,d,i) (by simp))
theorem wt_tV{k:Int}{s:List UInt8}(hk:17≤k∧k≤20):Wt (tV k s):=by
 unfold tV
 split
 ·exact wt_null
 ·exact wt_pv (.inr (.inr (.inr (.inr (.inr hk))))) (by omega) (by omega) (by omega) (by omega)
theorem wt_mV{kk:Int}{l:List V}(h:MapW kk l):Wt (mV l):=by
 unfold mV
 split
 ·exact wt_null
 ·rw[mapV,Wt]
  exact⟨by omega,by omega,by omega,numOK_of (by omega) (by omega) (by omega) (by omega) (by omega),h.1.2.2,.inl rfl,fun _=>FineL.wt h.1.1.1,fun h=>by omega⟩
theorem fldOK_null:FldOK nullV:=⟨wt_null,fun _=>rfl,fun h=>absurd h (by decide)⟩
theorem fldOK_faults{l:List Flt}(hW:∀f∈l,MapW 19 f.2.2):FldOK (faultsV l):=by
 match l,hW with
 |[],_=>exact fldOK_null
 |f::r,hW=>
  refine⟨?_,fun h=>absurd h (by show¬((21:Int)=0);decide),fun h=>absurd h (by show¬((21:Int)=23);decide)⟩
  rw[faultsV,faultV,Wt]
  refine⟨by omega,by omega,by omega,numOK_of (by omega) (by omega) (by omega) (by omega) (by omega),by simp,.inr ⟨29,by omega,rfl⟩,fun _=>?_,fun h=>by omega⟩
  rw[WtL,WtL,WtL,WtL]
  exact⟨wt_pv (by omega) (by omega) (by omega) (by omega) (by omega),wt_tV (by omega),wt_mV (hW f (by simp)),trivial⟩
theorem readEnd_put{A:Nat→Prop}{l:List Flt}{ks:List V}{bs r:List UInt8}{data:Value}{w:World}(hl:l.length≤1)(hW:∀f∈l,MapW 19 f.2.2)(hk:ks.length≤1)(hp:PutF (faultsV l) nullV (fld ks 0))(hE:Enc (.mk 21 0 [] ks 0 [uV 23]) bs)(hI:IsB A w data (bs++r))(hbl:(bs++r).length≤1000000000)(hUT:UT w):
  Does TP 18 [data] w fun rr w'=>∃l' fv rest,rr= .tuple #[fv,rest,.bool true]∧FltR (fun b=>w.heap.size≤b) w' l' fv∧FltB l l'∧IsB (fun b=>w.heap.size≤b) w' rest r∧Ext w w':=by
 obtain⟨cu,du,hd,body,rfl,hP,hEn,hh⟩:=hE.comp rfl rfl rfl
 have e:0::((cu::du)++(hd++body))++r=0::((cu::du)++(hd++(body++r))):=by simp
 rw[e]at hI hbl
 refine(readEnd_ok hI hbl hk (putF_faults hl (fun f hf=>(hW f hf).1.1) hp) hP hh hEn (fun f hf=>(hW f hf).1) hUT).imp fun rr w' ⟨fv,rest,h1,h2,h3,h4⟩=>?_
 obtain⟨l',h5,h6⟩:=h2.flt
 exact⟨l',fv,rest,h1,h5,h6,h3,h4⟩
theorem same_end{A B:Nat→Prop}{l l':List Flt}{c1 c2:List Value}{w:World}(hC:CmpR A w 23 [(faultsV l,nullV)] c1)(hC2:CmpR B w 23 [(faultsV l',nullV)] c2)(hB:FltB l l')(hW:∀f∈l,MapW 19 f.2.2)(hc:∀f∈l,vcountL f.2.2≤999999999):
  Does TP 10 [.agg c1.toArray,.agg c2.toArray] w fun r w'=>r= .bool true∧Ext w w':=by
 refine Same_ok hC hC2 (by simp) rfl fun i hi=>?_
 match i,hi with
 |0,_=>exact FieldT.faults hB hW hc
theorem put_end{A:Nat→Prop}{l:List Flt}{cells:List Value}{fb:Nat}{w:World}(hC:CmpR A w 23 [(faultsV l,nullV)] cells)(hF:Fm w fb)(hA:∀b,A b→b≠fb)(hW:∀f∈l,MapW 19 f.2.2)(hv:vol (faultsV l)≤900000000):
  Does TP 9 [.agg cells.toArray,.pointer (some ⟨fb,0,none⟩)] w fun r w'=>∃ks bs,ks.length≤1∧PutF (faultsV l) nullV (fld ks 0)∧Enc (.mk 21 0 [] ks 0 [uV 23]) bs∧bs.length≤900001000∧Own w.heap.size 5 1 w' r bs.length (bc bs)∧Evo (fun k=>k≠fb) w w':=by
 refine(Put_ok hC hF hA (by simp) (by simp) (by rw[List.map_cons,List.map_nil,volL,volL];show vol (faultsV l)+0≤_;omega) (by omega) (fun f hf=>by rw[List.mem_singleton]at hf;subst hf;exact fldOK_faults hW)).imp fun r w' ⟨ks,bs,h1,h2,h3,h4,_,h6⟩=>⟨ks,bs,h1,h2 0 (by simp),h3,?_,h4,h6⟩
 have h7:=h3.vol
 have h8:=(h2 0 (by simp)).vol
 have h9:volL ks≤vol (faultsV l):=by
  match ks,h1 with
  |[],_=>rw[volL];omega
  |[y],_=>rw[volL,volL];exact h8
 have e1:vol (.mk 21 0 [] ks 0 [uV 23])=64+([]:List UInt8).length+volL ks+volL [uV 23]:=by rw[vol]
 have e2:volL [uV 23]=64:=by simp[volL,vol,uV]
 rw[e1,e2,List.length_nil]at h7
 omega
theorem zR78_1{A:Prop}(h:A:=by
 replace he:=((((((((he.then e3).then e4).then e5).then e6).then e7).then e8).then e9).then e10).then e11
 exact fin1 rfl ⟨rfl,he.weaken fun k hk _=>hk⟩):A:=h
theorem flt_count{l:List Flt}(hl:l.length≤1):∀f∈l,vcountL f.2.2≤vcount (faultsV l):=by
 intro f hf
 match l,hl,hf with
 |[g],_,hf=>
  rw[List.mem_singleton]at hf
  subst hf
  rw[faultsV,faultV,vcount,vcountL,vcountL,vcountL]
  have h:vcountL f.2.2≤vcount (mV f.2.2):=by
   unfold mV
   split
   ·rename_i e;rw[e,vcountL];omega
   ·rw[mapV,vcount];omega
  omega
theorem whole_one{code:Nat}{x d:V}(hV:VF (wholeV code [(x,d)]))(hc:vcount (wholeV code [(x,d)])≤300):vol x≤900000000∧vcount x≤300:=by
 have h1:=hV.vol
 have e1:vol (wholeV code [(x,d)])=64+([]:List UInt8).length+(vol x+0)+volL [uV code]:=by rw[wholeV,vol,List.map_cons,List.map_nil,volL,volL]
 have e2:vcount (wholeV code [(x,d)])=1+(vcount x+0)+vcountL [uV code]:=by rw[wholeV,vcount,List.map_cons,List.map_nil,vcountL,vcountL]
 omega
theorem mapW_a:∀f∈([([97],[],[])]:List Flt),MapW 19 f.2.2:=fun f hf=>by rw[List.mem_singleton]at hf;subst hf;exact mapW_nil 19
theorem law_end{l:List Flt}{v0 v2:Value}{z:Int}{sb:List UInt8}{w:World}{A:Nat→Prop}(hF:FltR A w l v0)(hl:l.length≤1)(hS:IsB A w v2 sb)(hsl:sb.length≤2147483647)(hz:0≤z∧z<18446744073709551616)(hUT:UT w):
  Does TP 5 [v0,.int .u64 z,v2] w fun r w'=>r= .bool true∧Ext w w':=by
 have hUTl:=hUT.lt
 replace hF:=(hF.lowW (B:=fun b=>b<w.heap.size) fun b hb _=>hb)
 obtain⟨p,c,rfl,_⟩:=hF.ex
 replace hS:=hS.weaken (B:=fun b=>b<w.heap.size) (fun b hb _=>hb)
 have hS0:=hS
 obtain⟨p2,c2,rfl,_⟩:=hS0
 refine do1 Tryz.func5 ?_
 have he:Evo (fun b=>b<w.heap.size) w w:=Evo.refl w
 refine jA 9 rfl ?_
 refine WL.q rfl (r_cmp (r_gtr rfl rfl) (decide_eq_false (by(omega)))) ?_
 refine jC 3 rfl ?_
 refine WL.qg rfl rfl rfl rfl (r_cmp (r_gtr rfl rfl) (decide_eq_false (by(omega)))) ?_
 refine jD 4 rfl<|jA 2 rfl<|WL.q rfl (r_bld (cs:=[_,_,_]) Fo.h rfl rfl) ?_
 have hs1:=he.size
 refine WL.l rfl (ll [_]) ?_
 rintro _ w1 ⟨rfl,hb1,e1⟩
 have ns1:=e1.size
 refine jD 5 rfl ?_
 refine cl rfl (EndOf_ok (FltR.lit (c:=[97]) hb1 (A:=fun b=>w.heap.size≤b) (Nat.le_refl _))) ?_
 rintro v2 w2 ⟨a,b,rfl,hC,e2⟩
 have hZC:=hC.lowW (B:=fun b=>b<w2.heap.size) (fun b hb _=>hb)
 have ns2:=e2.size
 refine WL.q rfl (r_bld (cs:=[_,_]) Fo.h rfl rfl) ?_
 replace he:=(he.then e1).then e2
 have hs3:=he.size
 replace hb1:=hb1.mono e2
 have hx3b1:=hb1.lt
 refine bx rfl ?_
 rintro _ w3 ⟨rfl,hb3,e3⟩
 have nx3:=hb3.lt
 have ns3:=e3.size
 replace hZC:=hZC.mono e3
 refine cl rfl (put_end hZC ⟨0,true,by omega,by omega,hb3⟩ (fun b h=>by omega) mapW_a (by simp[faultsV,faultV,volL,vol,pv,tV,mV,nullV,uV])) ?_
 rintro v4 w4 ⟨ks,bs,qk,qp,qE,qbl,hO,e4⟩
 have ns4:=e4.size
 replace hUT:=(((hUT.mono e1).mono e2).mono e3).mono e4
 refine cl rfl (readEnd_put (l:=[([97],[],[])]) (r:=[]) (Nat.le_refl 1) mapW_a qk qp qE (by rw[List.append_nil];exact hO.toB (A:=fun _=>True) (fun _ _ _=>trivial)) (by rw[List.append_nil];omega) hUT) ?_
 rintro v5 w5 ⟨l1,fv,rest,rfl,hFl,qB,_,e5⟩
 have ns5:=e5.size
 refine jD 13 rfl ?_
 replace hb1:=((hb1.mono e3).mono e4).mono e5
 refine WL.lg rfl rfl rfl rfl (l_do Fb.h rfl (EndOf_ok (FltR.lit (c:=[97]) hb1 (A:=fun _=>True) trivial))) ?_
 rintro v6 w6 ⟨a1,b1,rfl,hCa,e6⟩
 have ns6:=e6.size
 refine jC 1 rfl ?_
 replace hFl:=hFl.mono e6
 refine WL.lg rfl rfl rfl rfl (l_do Fb.h rfl (EndOf_ok hFl)) ?_
 rintro v7 w7 ⟨a2,b2,rfl,hCb,e7⟩
 have ns7:=e7.size
 replace hCa:=hCa.mono e7
 refine WL.lg rfl rfl rfl rfl (l_do Fb.h rfl (same_end hCa hCb qB mapW_a (fun f hf=>by rw[List.mem_singleton]at hf;subst hf;simp[vcountL]))) ?_
 rintro v8 w8 ⟨rfl,e8⟩
 have ns8:=e8.size
 refine jD 7 rfl ?_
 replace hF:=(((((((hF.mono e1).mono e2).mono e3).mono e4).mono e5).mono e6).mono e7).mono e8
 replace hUT:=(((hUT.mono e5).mono e6).mono e7).mono e8
 refine cl rfl (askedFaults_ok hF hUT) ?_
 rintro v9 w9 ⟨z1,rfl,qz,e9⟩
 have ns9:=e9.size
 cases z1
 ·refine jD 19 rfl<|WC.ret ?_
  replace he:=((((((he.then e3).then e4).then e5).then e6).then e7).then e8).then e9
  exact fin1 rfl ⟨rfl,he.weaken fun k hk _=>hk⟩
 ·have hW:=qz rfl
  refine jC 3 rfl ?_
  replace hF:=hF.mono e9
  refine WL.lg rfl rfl rfl rfl (l_do Fb.h rfl (EndOf_ok hF)) ?_
  rintro v10 w10 ⟨a3,b3,rfl,hCf,e10⟩
  have ns10:=e10.size
  replace hUT:=(hUT.mono e9).mono e10
  refine WL.lg rfl rfl rfl rfl (l_do Fb.h rfl (Fits_ok hCf (by simp) hUT)) ?_
  rintro v11 w11 ⟨z2,rfl,qf,e11⟩
  have ns11:=e11.size
  cases z2
  ·refine jD 14 rfl<|WC.ret ?_
   exact zR78_1
  ·obtain⟨qV,qc⟩:=qf rfl
   obtain⟨nvol,ncnt⟩:=whole_one qV qc
   have qfc:=flt_count hl
   rcases Nat.lt_or_ge 100 sb.length with q|q
   ·refine jC 5 rfl ?_
    refine WL.qg rfl rfl rfl rfl (r_cmp (r_gtr rfl rfl) (decide_eq_true (by(omega)))) ?_
    refine jD 8 rfl<|WC.ret ?_
    exact zR78_1
   ·refine jC 5 rfl ?_
    refine WL.qg rfl rfl rfl rfl (r_cmp (r_gtr rfl rfl) (decide_eq_false (by(omega)))) ?_
    refine jD 4 rfl<|jA 3 rfl ?_
    replace hF:=(hF.mono e10).mono e11
    refine cl rfl (EndOf_ok hF) ?_
    rintro v12 w12 ⟨a4,b4,rfl,hC4,e12⟩
    have hZC4:=hC4.lowW (B:=fun b=>b<w12.heap.size) (fun b hb _=>hb)
    have ns12:=e12.size
    refine jC 1 rfl<|WL.q rfl (r_bld (cs:=[_,_]) Fo.h rfl rfl) ?_
    replace he:=(((((((((he.then e3).then e4).then e5).then e6).then e7).then e8).then e9).then e10).then e11).then e12
    have hs13:=he.size
    replace hb1:=((((((hb1.mono e6).mono e7).mono e8).mono e9).mono e10).mono e11).mono e12
    have hx13b1:=hb1.lt
    refine bx rfl ?_
    rintro _ w13 ⟨rfl,hb13,e13⟩
    have nx13:=hb13.lt
    have ns13:=e13.size
    replace hZC4:=hZC4.mono e13
    refine cl rfl (put_end hZC4 ⟨z,false,hz.1,hz.2,hb13⟩ (fun b h=>by omega) hW nvol) ?_
    rintro v14 w14 ⟨ks2,bs2,qk2,qp2,qE2,qbl2,hO2,e14⟩
    obtain⟨q14,c14,hq14,_,_⟩:=hO2.form
    subst hq14
    have ns14:=e14.size
    refine jC 1 rfl ?_
    replace hS:=(((((((((((((hS.mono e1).mono e2).mono e3).mono e4).mono e5).mono e6).mono e7).mono e8).mono e9).mono e10).mono e11).mono e12).mono e13).mono e14
    refine WL.l rfl (l_app Fo.h rfl rfl hO2 (Src.isB Fb.h hS) (by omega) (by simp only[maxLen];omega) (by omega)) ?_
    rintro v15 w15 ⟨hO3,e15⟩
    have hZB:=((hO3.low (B':=w.heap.size) (by omega)).cast rfl (bc_append bs2 sb).symm).toB (A:=fun b=>w.heap.size≤b) (fun b hb _=>hb)
    have ns15:=e15.size
    replace hUT:=((((hUT.mono e11).mono e12).mono e13).mono e14).mono e15
    refine cl rfl (readEnd_put hl hW qk2 qp2 qE2 hZB (by rw[List.length_append];omega) hUT) ?_
    rintro v16 w16 ⟨l3,fv3,rest3,rfl,hF3,qB3,hI3,e16⟩
    have ns16:=e16.size
    refine jD 13 rfl ?_
    replace hF:=((((hF.mono e12).mono e13).mono e14).mono e15).mono e16
    refine WL.lg rfl rfl rfl rfl (l_do Fb.h rfl (EndOf_ok hF)) ?_
    rintro v17 w17 ⟨a5,b5,rfl,hC5,e17⟩
    have ns17:=e17.size
    refine jC 1 rfl ?_
    replace hF3:=hF3.mono e17
    refine WL.lg rfl rfl rfl rfl (l_do Fb.h rfl (EndOf_ok hF3)) ?_
    rintro v18 w18 ⟨a6,b6,rfl,hC6,e18⟩
    have ns18:=e18.size
    replace hC5:=hC5.mono e18
    refine WL.lg rfl rfl rfl rfl (l_do Fb.h rfl (same_end hC5 hC6 qB3 hW (fun f hf=>by have:=qfc f hf;omega))) ?_
    rintro v19 w19 ⟨rfl,e19⟩
    have ns19:=e19.size
    refine jC 4 rfl ?_
    replace hS:=((((hS.mono e15).mono e16).mono e17).mono e18).mono e19
    replace hI3:=((hI3.mono e17).mono e18).mono e19
    refine WL.lg rfl rfl rfl rfl (l_do Fb.h rfl (left_ok hI3 hS)) ?_
    rintro v20 w20 ⟨rfl,e20⟩
    have ns20:=e20.size
    refine jC 6 rfl<|WC.ret ?_
    replace he:=(((((((he.then e13).then e14).then e15).then e16).then e17).then e18).then e19).then e20
    exact fin1 rfl ⟨rfl,he.weaken fun k hk _=>hk⟩
theorem law_end_many{p p2:Option Addr}{n c m c2:Nat}{z:Int}{w:World}(h2:2≤n)(hl:n≤2147483647)(hsl:m≤2147483647)(hUT:UT w):
  Does TP 5 [.slice p n c,.int .u64 z,.slice p2 m c2] w fun r w'=>r= .bool true∧Ext w w':=by
 have hUTl:=hUT.lt
 refine do1 Tryz.func5 ?_
 have he:Evo (fun b=>b<w.heap.size) w w:=Evo.refl w
 refine jA 9 rfl ?_
 refine WL.q rfl (r_cmp (r_gtr rfl rfl) (decide_eq_false (by(omega)))) ?_
 refine jC 3 rfl ?_
 refine WL.qg rfl rfl rfl rfl (r_cmp (r_gtr rfl rfl) (decide_eq_false (by(omega)))) ?_
 refine jD 4 rfl<|jA 2 rfl<|WL.q rfl (r_bld (cs:=[_,_,_]) Fo.h rfl rfl) ?_
 have hs1:=he.size
 refine WL.l rfl (ll [_]) ?_
 rintro _ w1 ⟨rfl,hb1,e1⟩
 have ns1:=e1.size
 refine jD 5 rfl ?_
 refine cl rfl (EndOf_ok (FltR.lit (c:=[97]) hb1 (A:=fun b=>w.heap.size≤b) (Nat.le_refl _))) ?_
 rintro v2 w2 ⟨a,b,rfl,hC,e2⟩
 have hZC:=hC.lowW (B:=fun b=>b<w2.heap.size) (fun b hb _=>hb)
 have ns2:=e2.size
 refine WL.q rfl (r_bld (cs:=[_,_]) Fo.h rfl rfl) ?_
 replace he:=(he.then e1).then e2
 have hs3:=he.size
 replace hb1:=hb1.mono e2
 have hx3b1:=hb1.lt
 refine bx rfl ?_
 rintro _ w3 ⟨rfl,hb3,e3⟩
 have nx3:=hb3.lt
 have ns3:=e3.size
 replace hZC:=hZC.mono e3
 refine cl rfl (put_end hZC ⟨0,true,by omega,by omega,hb3⟩ (fun b h=>by omega) mapW_a (by simp[faultsV,faultV,volL,vol,pv,tV,mV,nullV,uV])) ?_
 rintro v4 w4 ⟨ks,bs,qk,qp,qE,qbl,hO,e4⟩
 have ns4:=e4.size
 replace hUT:=(((hUT.mono e1).mono e2).mono e3).mono e4
 refine cl rfl (readEnd_put (l:=[([97],[],[])]) (r:=[]) (Nat.le_refl 1) mapW_a qk qp qE (by rw[List.append_nil];exact hO.toB (A:=fun _=>True) (fun _ _ _=>trivial)) (by rw[List.append_nil];omega) hUT) ?_
 rintro v5 w5 ⟨l1,fv,rest,rfl,hFl,qB,_,e5⟩
 have ns5:=e5.size
 refine jD 13 rfl ?_
 replace hb1:=((hb1.mono e3).mono e4).mono e5
 refine WL.lg rfl rfl rfl rfl (l_do Fb.h rfl (EndOf_ok (FltR.lit (c:=[97]) hb1 (A:=fun _=>True) trivial))) ?_
 rintro v6 w6 ⟨a1,b1,rfl,hCa,e6⟩
 have ns6:=e6.size
 refine jC 1 rfl ?_
 replace hFl:=hFl.mono e6
 refine WL.lg rfl rfl rfl rfl (l_do Fb.h rfl (EndOf_ok hFl)) ?_
 rintro v7 w7 ⟨a2,b2,rfl,hCb,e7⟩
 have ns7:=e7.size
 replace hCa:=hCa.mono e7
 refine WL.lg rfl rfl rfl rfl (l_do Fb.h rfl (same_end hCa hCb qB mapW_a (fun f hf=>by rw[List.mem_singleton]at hf;subst hf;simp[vcountL]))) ?_
 rintro v8 w8 ⟨rfl,e8⟩
 have ns8:=e8.size
 refine jD 7 rfl ?_
 refine cl rfl (askedFaults_many h2) ?_
 rintro v9 w9 ⟨rfl,e9⟩
 have ns9:=e9.size
 refine jD 19 rfl<|WC.ret ?_
 replace he:=((((((he.then e3).then e4).then e5).then e6).then e7).then e8).then e9
 exact fin1 rfl ⟨rfl,he.weaken fun k hk _=>hk⟩
theorem law_end_big{p p2:Option Addr}{n c m c2:Nat}{z:Int}{w:World}(h:2147483647<n):
  Does TP 5 [.slice p n c,.int .u64 z,.slice p2 m c2] w fun r w'=>r= .bool true∧Ext w w':=by
 refine do1 Tryz.func5 ?_
 refine jA 9 rfl ?_
 refine WL.q rfl (r_cmp (r_gtr rfl rfl) (decide_eq_true (by(omega)))) ?_
 refine jD 11 rfl<|WC.ret ?_
 exact fin1 rfl ⟨rfl,ch⟩
theorem law_end_bigS{p p2:Option Addr}{n c m c2:Nat}{z:Int}{w:World}(h:n≤2147483647)(h2:2147483647<m):
  Does TP 5 [.slice p n c,.int .u64 z,.slice p2 m c2] w fun r w'=>r= .bool true∧Ext w w':=by
 refine do1 Tryz.func5 ?_
 refine jA 9 rfl ?_
 refine WL.q rfl (r_cmp (r_gtr rfl rfl) (decide_eq_false (by(omega)))) ?_
 refine jC 3 rfl ?_
 refine WL.qg rfl rfl rfl rfl (r_cmp (r_gtr rfl rfl) (decide_eq_true (by(omega)))) ?_
 refine jD 7 rfl<|WC.ret ?_
 exact fin1 rfl ⟨rfl,ch⟩
theorem law_end_all{A:Nat→Prop}{p p2:Option Addr}{n c c2:Nat}{z:Int}{sb:List UInt8}{w:World}(hF:n≤1→∃l:List Flt,l.length=n∧FltR A w l (.slice p n c))(hS:IsB A w (.slice p2 sb.length c2) sb)(hz:0≤z∧z<18446744073709551616)(hUT:UT w):
  Does TP 5 [.slice p n c,.int .u64 z,.slice p2 sb.length c2] w fun r w'=>r= .bool true∧Ext w w':=by
 rcases Nat.lt_or_ge 2147483647 n with h|h
 ·exact law_end_big h
 ·rcases Nat.lt_or_ge 2147483647 sb.length with h2|h2
  ·exact law_end_bigS h h2
  ·rcases Nat.lt_or_ge 1 n with h3|h3
   ·exact law_end_many h3 h h2 hUT
   ·obtain⟨l,rfl,hl⟩:=hF h3
    exact law_end hl h3 hS h2 hz hUT
end Go.Proofs.LL
