/- Contracts of functions and own laws. Conditions: those that each theorem states. -/
import Derived.Test.YtdgbmbjkbmpcbaaGreatDoorV25
set_option linter.all false
set_option autoImplicit true
set_option relaxedAutoImplicit true
set_option maxRecDepth 20000
namespace Go.Proofs.LL
open Go Go.Proofs Go.RowKit
set_option maxHeartbeats 4000000
attribute [local irreducible] ar WL WC cq WT WX
theorem fD{A:Prop}(h:A:=by
 rintro v2 w2 ⟨cells,rfl,hV,e2⟩
 have:=hb1.lt
 have hone:=hV.one
 have hlen:=hV.len
 replace hb1:=hb1.m e2
 refine Ho rfl rfl hb1 fun w3 hb1 e3 hz3=>?_
 refine q ?_
 replace hV:=hV.m e3
 replace he:=((he.t e1).t e2).t e3
 exact cw rfl hb1 (by rw[hlen];exact bR) rfl ⟨cells,_,rfl,(yw hk (htx (by decide)))▸hV.k (fun b h=>Nat.le_trans e1.s h),he⟩):A:=h
theorem rO{A:Prop}(h:A:=by
 rintro v2 w2 ⟨cells,rfl,hV,e2⟩
 have:=hb1.lt
 have hone:=hV.one
 have hlen:=hV.len
 replace hb1:=hb1.m e2
 refine Ho rfl rfl hb1 fun w3 hb1 e3 hz3=>?_
 refine q ?_
 replace hV:=hV.m e3
 replace he:=((he.t e1).t e2).t e3
 exact cw rfl hb1 (by rw[hlen];exact bR) rfl ⟨cells,_,rfl,(xf hk (hnz (by decide)))▸hV.k (fun b h=>Nat.le_trans e1.s h),he⟩):A:=h
theorem jI{f:V→Value}:∀(ks:List V),(∀x∈ks,ee x=[f x])→ks.flatMap ee=ks.map f
 |[],_=>rfl
 |a::r,h=>by rw[List.flatMap_cons,List.map_cons,h a (by simp),jI r (fun x hx=>h x (by simp[hx]))];rfl
theorem yw{ks:List V}{kk:Int}(hk:∀x∈ks,x.kind=kk)(ht:∀x∈ks,x.text=[]):((ks.map V.num).map fun n=>pv kk n [])=ks.map fun x=>pv x.kind x.num x.text:=by
 rw[List.map_map]
 refine List.map_congr_left fun x hx=>?_
 simp only[Function.comp,hk x hx,ht x hx]
theorem xf{ks:List V}{kk:Int}(hk:∀x∈ks,x.kind=kk)(hn:∀x∈ks,x.num=0):((ks.map V.text).map fun t=>pv kk 0 t)=ks.map fun x=>pv x.kind x.num x.text:=by
 rw[List.map_map]
 refine List.map_congr_left fun x hx=>?_
 simp only[Function.comp,hk x hx,hn x hx]
theorem Bs.get:∀ {vs:List Value} {ts:List (List UInt8)} (_:Bs A w vs ts) (i:Nat) (h:i<vs.length) (h2:i<ts.length),bT A w vs[i] ts[i]
 |v::vs,t::ts,hb,0,_,_=>hb.1
 |v::vs,t::ts,hb,i+1,h,h2=>Bs.get hb.2 i (by simpa using h) (by simpa using h2)
 |[],_,_,i,h,_=>absurd h (by simp)
 |_::_,[],_,i,_,h=>absurd h (by simp)
theorem At.lt0(h:At w g 0 l)(hl:0<l.length):g<w.heap.size:=by
 have h1:=h 0 hl
 rw[List.getElem?_eq_getElem hl]at h1
 exact bD h1
set_option maxHeartbeats 4000000 in
theorem vt{ks:List V}(hP:∀x∈ks,bI x)(hle:ks.length≤65536)(h:bQ A w ks u):
  ah TP 85 [u] w fun r w'=>∃cells kk,r= .tuple #[.agg cells.toArray,.bool true]∧aC (fun b=>w.heap.size≤b) w' (.mk 23 0 [] (ks.map fun x=>pv x.kind x.num x.text) kk []) cells∧ay w w':=by
 obtain⟨kk,hk,hne,hkk,h⟩:=h
 have hpos:0<ks.length:=List.length_pos_iff.2 hne
 have hN:∀x∈ks,de kk x.num:=fun x hx=>by have:=(hP x hx).1;rw[hk x hx]at this;exact this
 have hNL:∀x∈ks,x.num<18446744073709551616:=fun x hx=>(hN x hx).2.2.2.2.2.2.2.2
 have htx:kk<17→∀x∈ks,x.text=[]:=fun hlt x hx=>(hP x hx).2.2.2.2.1 (by rw[hk x hx];exact hlt)
 have hnz:17≤kk→∀x∈ks,x.num=0:=fun hlt x hx=>(hP x hx).2.2.2.2.2 (.inr (by rw[hk x hx];exact hlt))
 have hnl:(ks.map V.num).length=ks.length:=List.length_map ..
 have htl:(ks.map V.text).length=ks.length:=List.length_map ..
 rcases h with⟨rfl,v,rfl,hB⟩|⟨rfl,g,vs,hAg,rfl,hG,hBs⟩|⟨hn2,hn18,g,hAg,rfl,hG⟩
 ·obtain⟨b0,o0,cc,rfl,hcc,_,hD⟩:=hB.open (by simpa using hpos)
  have hAt:At w b0 o0 (bc (ks.map fun x=>UInt8.ofNat x.num)):=by
   intro j hj
   have hj2:j<(ks.map fun x=>UInt8.ofNat x.num).length:=by simpa using hj
   rw[hD j hj2]
   simp[show j<ks.length by simpa using hj]
  have hg0:b0<w.heap.size:=by have:=hD 0 (by simpa using hpos);exact bD this
  rw[show(ks.map fun x=>UInt8.ofNat x.num).length=(ks.map V.num).length by simp]
  refine co Tryz.func85 ?_
  have he:=XI w
  refine q ?_
  have hs1:=he.s
  refine Ha fun w1 hb1 e1=>?_
  refine Hq (ap rfl)<|WL.nil<|gq 8 rfl<|Hq (aF Fb.h rfl)<|WL.nil<|gq 143 rfl<|q ?_
  refine cl rfl (DW (ns:=ks.map V.num) (es:=bc (ks.map fun x=>UInt8.ofNat x.num)) (k:=2) (c:=cc) (g:=b0) (o:=o0) (by simp) (by rw[hnl];exact hle) (hAt.m e1) (Nat.lt_of_lt_of_le hg0 e1.s) Fb.h (fun i h h2 w1 hw=>by have hx:=List.getElem_mem (show i<ks.length by simpa using h);have hb:=(hN _ hx).2.1 rfl;simp only[bc,List.getElem_map];exact ER.imp fun u w2 ⟨a,b⟩=>⟨by rw[a,jt hb,l8 (hNL _ hx)],b⟩)) ?_
  exact fD
 ·have hvl:=hBs.length
  have hg0:g<w.heap.size:=hG.lt0 (by rw[hvl];simpa using hpos)
  rw[← htl]
  refine co Tryz.func85 ?_
  have he:=XI w
  refine q ?_
  have hs1:=he.s
  refine Ha fun w1 hb1 e1=>?_
  refine Hq (ap rfl)<|WL.nil<|gq 8 rfl<|Hq (aF Fb.h rfl)<|WL.nil<|gq 227 rfl<|q ?_
  refine cl rfl (Ca (ns:=ks.map V.text) (es:=vs) (k:=18) (c:=(ks.map V.text).length) (g:=g) (o:=0) hvl (by rw[htl];exact hle) (hG.m e1) (Nat.lt_of_lt_of_le hg0 e1.s) Fb.h (fun i h h2 w1 hw=>(Dv ((hBs.get i h2 h).m (e1.trans hw) (fun _ _ _=>trivial))))) ?_
  exact rO
 ·have hfl:1≤kk∧kk≤11→ks.flatMap ee=ks.map fun x=>jV kk x.num:=fun hr=>jI ks fun x hx=>o6 (hk x hx) hr
  have hg0:g<w.heap.size:=hG.lt0 (by
   obtain⟨x,r,rfl⟩:=List.exists_cons_of_ne_nil hne
   rw[List.flatMap_cons,List.length_append]
   have:=xl (A:=A) x (fun h17 e=>by have:=(hP x (by simp)).2.2.1 h17;rw[e]at this;simp at this)
   omega)
  have hcase:kk=1∨kk=3∨kk=4∨kk=5∨kk=6∨kk=7∨kk=8∨kk=9∨kk=10∨kk=11∨kk=16∨kk=17∨kk=19∨kk=20:=by unfold dp at hkk;omega
  rcases hcase with rfl|rfl|rfl|rfl|rfl|rfl|rfl|rfl|rfl|rfl|rfl|rfl|rfl|rfl
  ·rw[hfl (by decide)]at hG
   rw[← hnl]
   show ah _ _ [.iface 323 _] _ _
   refine co Tryz.func85 ?_
   have he:=XI w
   refine q ?_
   have hs1:=he.s
   refine Ha fun w1 hb1 e1=>?_
   refine Hq (ap rfl)<|WL.nil<|gq 8 rfl<|Hq (aF Fb.h rfl)<|WL.nil<|gq 136 rfl<|q ?_
   refine cl rfl (zy (ns:=ks.map V.num) (es:=ks.map fun x=>jV 1 x.num) (k:=1) (c:=(ks.map V.num).length) (g:=g) (o:=0) (by simp) (by rw[hnl];exact hle) (hG.m e1) (Nat.lt_of_lt_of_le hg0 e1.s) Fb.h (fun i h h2 w1 hw=>by have hx:=List.getElem_mem (show i<ks.length by simpa using h);simp only[List.getElem_map];exact vS.imp fun u w2 ⟨a,b⟩=>⟨by rw[a,yS ((hN _ hx).1 rfl)],b⟩)) ?_
   exact fD
  ·rw[hfl (by decide)]at hG
   rw[← hnl]
   show ah _ _ [.iface 328 _] _ _
   refine co Tryz.func85 ?_
   have he:=XI w
   refine q ?_
   have hs1:=he.s
   refine Ha fun w1 hb1 e1=>?_
   refine Hq (ap rfl)<|WL.nil<|gq 8 rfl<|Hq (aF Fb.h rfl)<|WL.nil<|gq 150 rfl<|q ?_
   refine cl rfl (BL (ns:=ks.map V.num) (es:=ks.map fun x=>jV 3 x.num) (k:=3) (c:=(ks.map V.num).length) (g:=g) (o:=0) (by simp) (by rw[hnl];exact hle) (hG.m e1) (Nat.lt_of_lt_of_le hg0 e1.s) Fb.h (fun i h h2 w1 hw=>by have hx:=List.getElem_mem (show i<ks.length by simpa using h);simp only[List.getElem_map];exact DC.imp fun u w2 ⟨a,b⟩=>⟨by rw[a,l8 (hNL _ hx)],b⟩)) ?_
   exact fD
  ·rw[hfl (by decide)]at hG
   rw[← hnl]
   show ah _ _ [.iface 44 _] _ _
   refine co Tryz.func85 ?_
   have he:=XI w
   refine q ?_
   have hs1:=he.s
   refine Ha fun w1 hb1 e1=>?_
   refine Hq (ap rfl)<|WL.nil<|gq 8 rfl<|Hq (aF Fb.h rfl)<|WL.nil<|gq 157 rfl<|q ?_
   refine cl rfl (BM (ns:=ks.map V.num) (es:=ks.map fun x=>jV 4 x.num) (k:=4) (c:=(ks.map V.num).length) (g:=g) (o:=0) (by simp) (by rw[hnl];exact hle) (hG.m e1) (Nat.lt_of_lt_of_le hg0 e1.s) Fb.h (fun i h h2 w1 hw=>by have hx:=List.getElem_mem (show i<ks.length by simpa using h);simp only[List.getElem_map];exact DD.imp fun u w2 ⟨a,b⟩=>⟨by rw[a,l8 (hNL _ hx)],b⟩)) ?_
   exact fD
  ·rw[hfl (by decide)]at hG
   rw[← hnl]
   show ah _ _ [.iface 333 _] _ _
   refine co Tryz.func85 ?_
   have he:=XI w
   refine q ?_
   have hs1:=he.s
   refine Ha fun w1 hb1 e1=>?_
   refine Hq (ap rfl)<|WL.nil<|gq 8 rfl<|Hq (aF Fb.h rfl)<|WL.nil<|gq 164 rfl<|q ?_
   refine cl rfl (BN (ns:=ks.map V.num) (es:=ks.map fun x=>jV 5 x.num) (k:=5) (c:=(ks.map V.num).length) (g:=g) (o:=0) (by simp) (by rw[hnl];exact hle) (hG.m e1) (Nat.lt_of_lt_of_le hg0 e1.s) Fb.h (fun i h h2 w1 hw=>by have hx:=List.getElem_mem (show i<ks.length by simpa using h);simp only[List.getElem_map];exact DE.imp fun u w2 ⟨a,b⟩=>⟨by rw[a],b⟩)) ?_
   exact fD
  ·rw[hfl (by decide)]at hG
   rw[← hnl]
   show ah _ _ [.iface 336 _] _ _
   refine co Tryz.func85 ?_
   have he:=XI w
   refine q ?_
   have hs1:=he.s
   refine Ha fun w1 hb1 e1=>?_
   refine Hq (ap rfl)<|WL.nil<|gq 8 rfl<|Hq (aF Fb.h rfl)<|WL.nil<|gq 171 rfl<|q ?_
   refine cl rfl (DV (ns:=ks.map V.num) (es:=ks.map fun x=>jV 6 x.num) (k:=6) (c:=(ks.map V.num).length) (g:=g) (o:=0) (by simp) (by rw[hnl];exact hle) (hG.m e1) (Nat.lt_of_lt_of_le hg0 e1.s) Fb.h (fun i h h2 w1 hw=>by have hx:=List.getElem_mem (show i<ks.length by simpa using h);simp only[List.getElem_map];exact EQ.imp fun u w2 ⟨a,b⟩=>⟨by rw[a,ft (hNL _ hx)],b⟩)) ?_
   exact fD
  ·rw[hfl (by decide)]at hG
   rw[← hnl]
   show ah _ _ [.iface 339 _] _ _
   refine co Tryz.func85 ?_
   have he:=XI w
   refine q ?_
   have hs1:=he.s
   refine Ha fun w1 hb1 e1=>?_
   refine Hq (ap rfl)<|WL.nil<|gq 8 rfl<|Hq (aF Fb.h rfl)<|WL.nil<|gq 178 rfl<|q ?_
   refine cl rfl (BI (ns:=ks.map V.num) (es:=ks.map fun x=>jV 7 x.num) (k:=7) (c:=(ks.map V.num).length) (g:=g) (o:=0) (by simp) (by rw[hnl];exact hle) (hG.m e1) (Nat.lt_of_lt_of_le hg0 e1.s) Fb.h (fun i h h2 w1 hw=>by have hx:=List.getElem_mem (show i<ks.length by simpa using h);simp only[List.getElem_map];exact Dx.imp fun u w2 ⟨a,b⟩=>⟨by rw[a,ft (hNL _ hx)],b⟩)) ?_
   exact fD
  ·rw[hfl (by decide)]at hG
   rw[← hnl]
   show ah _ _ [.iface 342 _] _ _
   refine co Tryz.func85 ?_
   have he:=XI w
   refine q ?_
   have hs1:=he.s
   refine Ha fun w1 hb1 e1=>?_
   refine Hq (ap rfl)<|WL.nil<|gq 8 rfl<|Hq (aF Fb.h rfl)<|WL.nil<|gq 185 rfl<|q ?_
   refine cl rfl (BJ (ns:=ks.map V.num) (es:=ks.map fun x=>jV 8 x.num) (k:=8) (c:=(ks.map V.num).length) (g:=g) (o:=0) (by simp) (by rw[hnl];exact hle) (hG.m e1) (Nat.lt_of_lt_of_le hg0 e1.s) Fb.h (fun i h h2 w1 hw=>by have hx:=List.getElem_mem (show i<ks.length by simpa using h);simp only[List.getElem_map];exact Dy.imp fun u w2 ⟨a,b⟩=>⟨by rw[a,ft (hNL _ hx)],b⟩)) ?_
   exact fD
  ·rw[hfl (by decide)]at hG
   rw[← hnl]
   show ah _ _ [.iface 345 _] _ _
   refine co Tryz.func85 ?_
   have he:=XI w
   refine q ?_
   have hs1:=he.s
   refine Ha fun w1 hb1 e1=>?_
   refine Hq (ap rfl)<|WL.nil<|gq 8 rfl<|Hq (aF Fb.h rfl)<|WL.nil<|gq 192 rfl<|q ?_
   refine cl rfl (BK (ns:=ks.map V.num) (es:=ks.map fun x=>jV 9 x.num) (k:=9) (c:=(ks.map V.num).length) (g:=g) (o:=0) (by simp) (by rw[hnl];exact hle) (hG.m e1) (Nat.lt_of_lt_of_le hg0 e1.s) Fb.h (fun i h h2 w1 hw=>by have hx:=List.getElem_mem (show i<ks.length by simpa using h);simp only[List.getElem_map];exact Dz.imp fun u w2 ⟨a,b⟩=>⟨by rw[a,ft (hNL _ hx)],b⟩)) ?_
   exact fD
  ·rw[hfl (by decide)]at hG
   rw[← hnl]
   show ah _ _ [.iface 348 _] _ _
   refine co Tryz.func85 ?_
   have he:=XI w
   refine q ?_
   have hs1:=he.s
   refine Ha fun w1 hb1 e1=>?_
   refine Hq (ap rfl)<|WL.nil<|gq 8 rfl<|Hq (aF Fb.h rfl)<|WL.nil<|gq 199 rfl<|q ?_
   refine cl rfl (BH (ns:=ks.map V.num) (es:=ks.map fun x=>jV 10 x.num) (k:=10) (c:=(ks.map V.num).length) (g:=g) (o:=0) (by simp) (by rw[hnl];exact hle) (hG.m e1) (Nat.lt_of_lt_of_le hg0 e1.s) Fb.h (fun i h h2 w1 hw=>by have hx:=List.getElem_mem (show i<ks.length by simpa using h);simp only[List.getElem_map];exact Dw.imp fun u w2 ⟨a,b⟩=>⟨by rw[a,l8 (hNL _ hx)],b⟩)) ?_
   exact fD
  ·rw[hfl (by decide)]at hG
   rw[← hnl]
   show ah _ _ [.iface 351 _] _ _
   refine co Tryz.func85 ?_
   have he:=XI w
   refine q ?_
   have hs1:=he.s
   refine Ha fun w1 hb1 e1=>?_
   refine Hq (ap rfl)<|WL.nil<|gq 8 rfl<|Hq (aF Fb.h rfl)<|WL.nil<|gq 206 rfl<|q ?_
   refine cl rfl (zz (ns:=ks.map V.num) (k:=11) (c:=(ks.map V.num).length) (g:=g) (o:=0) (by rw[hnl];exact hle) (by rw[List.map_map];exact hG.m e1) (Nat.lt_of_lt_of_le hg0 e1.s)) ?_
   exact fD
  ·rw[show ks.flatMap ee=(ks.map fun x=>tm (IntKind.i64.wrap x.num)).flatten by rw[← List.flatMap_def];exact(ir ks fun x hx=>by unfold ee;rw[if_pos (hk x hx)]).symm]at hG
   rw[← hnl]
   show ah _ _ [.iface 353 _] _ _
   refine co Tryz.func85 ?_
   have he:=XI w
   refine q ?_
   have hs1:=he.s
   refine Ha fun w1 hb1 e1=>?_
   refine Hq (ap rfl)<|WL.nil<|gq 8 rfl<|Hq (aF Fb.h rfl)<|WL.nil<|gq 213 rfl<|q ?_
   refine cl rfl (zA (ns:=ks.map V.num) (es:=ks.map fun x=>tm (IntKind.i64.wrap x.num)) (k:=16) (c:=(ks.map V.num).length) (g:=g) (o:=0) (by simp) (fun e he=>by obtain⟨x,_,rfl⟩:=List.mem_map.1 he;exact⟨rfl,rfl⟩) (by rw[hnl];exact hle) (hG.m e1) (Nat.lt_of_lt_of_le hg0 e1.s) Fb.h (fun i h h2 w1 hw=>by have hx:=List.getElem_mem (show i<ks.length by simpa using h);simp only[List.getElem_map];exact(Bl (eJ _).1 (eJ _).2).imp fun u w2 ⟨a,b⟩=>⟨by rw[a,ft (hNL _ hx)],b⟩)) ?_
   exact fD
  ·have h16:∀x∈ks,x.text.length=16:=fun x hx=>(hP x hx).2.2.1 (hk x hx)
   rw[show ks.flatMap ee=(ks.map fun x=>bc x.text).flatten by rw[← List.flatMap_def];exact(ir ks fun x hx=>by unfold ee;rw[if_neg (by rw[hk x hx];decide),if_pos (hk x hx)]).symm]at hG
   rw[← htl]
   show ah _ _ [.iface 356 _] _ _
   refine co Tryz.func85 ?_
   have he:=XI w
   refine q ?_
   have hs1:=he.s
   refine Ha fun w1 hb1 e1=>?_
   refine Hq (ap rfl)<|WL.nil<|gq 8 rfl<|Hq (aF Fb.h rfl)<|WL.nil<|gq 220 rfl<|q ?_
   refine cl rfl (Ae (ns:=ks.map V.text) (es:=ks.map fun x=>bc x.text) (k:=17) (c:=(ks.map V.text).length) (g:=g) (o:=0) (by simp) (fun e he=>by obtain⟨x,hx,rfl⟩:=List.mem_map.1 he;exact⟨by simp[h16 x hx],nn _⟩) (by rw[htl];exact hle) (hG.m e1) (Nat.lt_of_lt_of_le hg0 e1.s) Fb.h (fun i h h2 w1 hw=>by have hx:=List.getElem_mem (show i<ks.length by simpa using h);simp only[List.getElem_map];exact Bm (h16 _ hx))) ?_
   exact rO
  ·rw[jI (f:=fun x=>str x.text) ks fun x hx=>by unfold ee;rw[if_neg (by rw[hk x hx];decide),if_neg (by rw[hk x hx];decide),if_pos (by rw[hk x hx];decide)]]at hG
   rw[← htl]
   show ah _ _ [.iface 24 _] _ _
   refine co Tryz.func85 ?_
   have he:=XI w
   refine q ?_
   have hs1:=he.s
   refine Ha fun w1 hb1 e1=>?_
   refine Hq (ap rfl)<|WL.nil<|gq 8 rfl<|Hq (aF Fb.h rfl)<|WL.nil<|gq 234 rfl<|q ?_
   refine cl rfl (Cb (ns:=ks.map V.text) (es:=ks.map fun x=>str x.text) (k:=19) (c:=(ks.map V.text).length) (g:=g) (o:=0) (by simp) (by rw[htl];exact hle) (hG.m e1) (Nat.lt_of_lt_of_le hg0 e1.s) Fb.h (fun i h h2 w1 hw=>by have hx:=List.getElem_mem (show i<ks.length by simpa using h);simp only[List.getElem_map];exact DA)) ?_
   exact rO
  ·rw[jI (f:=fun x=>str x.text) ks fun x hx=>by unfold ee;rw[if_neg (by rw[hk x hx];decide),if_neg (by rw[hk x hx];decide),if_pos (by rw[hk x hx];decide)]]at hG
   rw[← htl]
   show ah _ _ [.iface 73 _] _ _
   refine co Tryz.func85 ?_
   have he:=XI w
   refine q ?_
   have hs1:=he.s
   refine Ha fun w1 hb1 e1=>?_
   refine Hq (ap rfl)<|WL.nil<|gq 8 rfl<|Hq (aF Fb.h rfl)<|WL.nil<|gq 241 rfl<|q ?_
   refine cl rfl (Cc (ns:=ks.map V.text) (es:=ks.map fun x=>str x.text) (k:=20) (c:=(ks.map V.text).length) (g:=g) (o:=0) (by simp) (by rw[htl];exact hle) (hG.m e1) (Nat.lt_of_lt_of_le hg0 e1.s) Fb.h (fun i h h2 w1 hw=>by have hx:=List.getElem_mem (show i<ks.length by simpa using h);simp only[List.getElem_map];exact DB)) ?_
   exact rO
end Go.Proofs.LL
namespace Go.Proofs.LL
open Go Go.RowKit
section
variable {A B:Nat→Prop} {w w':World}
mutual
theorem aC.weakenW:∀ {x:V} {cs:List Value},aC A w x cs→(∀b,b<w.heap.size→A b→B b)→aC B w x cs
 | .mk k n t ks o d,cs,h,hAB=>by
  rw[aC]at h⊢
  obtain⟨sk,sd,h1,⟨p1,c1,l1,a1,a2,a3,a4⟩,⟨p2,c2,l2,b1,b2,b3,b4⟩⟩:=h
  refine⟨sk,sd,h1,⟨p1,c1,l1,a1,a2,ag.weakenW a3 hAB,?_⟩,⟨p2,c2,l2,b1,b2,ag.weakenW b3 hAB,?_⟩⟩
  ·rcases Nat.eq_zero_or_pos ks.length with h0|h0
   ·exact .inl h0
   ·refine a4.imp id fun⟨b,o,x1,x2,x3⟩=>⟨b,o,x1,hAB b ?_ x2,x3⟩
    have hl:=ag.len a3
    have h2:=x3 0 (by omega)
    rw[List.getElem?_eq_getElem (by omega)]at h2
    exact bD h2
  ·rcases Nat.eq_zero_or_pos d.length with h0|h0
   ·exact .inl h0
   ·refine b4.imp id fun⟨b,o,x1,x2,x3⟩=>⟨b,o,x1,hAB b ?_ x2,x3⟩
    have hl:=ag.len b3
    have h2:=x3 0 (by omega)
    rw[List.getElem?_eq_getElem (by omega)]at h2
    exact bD h2
theorem ag.weakenW:∀ {l:List V} {cs:List Value},ag A w l cs→(∀b,b<w.heap.size→A b→B b)→ag B w l cs
 |[],cs,h,_=>by rw[ag]at h⊢;exact h
 |x::r,cs,h,hAB=>by
  rw[ag]at h⊢
  obtain⟨c,c',h1,h2,h3⟩:=h
  exact⟨c,c',h1,aC.weakenW h2 hAB,ag.weakenW h3 hAB⟩
end
end
theorem ag.push{N0:Nat}{v5:Value}(hO:aT Bb e 6 wi sv n cs)(hV:ag (fun b=>N0≤b∧sv.ownBlock≠some b) wi ys cs)(hN:N0≤wi.heap.size)(he:ay wi w4)(hy:ag (fun b=>wi.heap.size≤b) w4 ys' c')
  (e5:am (fun k=>sv.ownBlock≠some k) w4 w5) (hob:v5.ownBlock=sv.ownBlock∨∀b,v5.ownBlock=some b→w4.heap.size≤b):ag (fun b=>N0≤b∧v5.ownBlock≠some b) w5 (ys++ys') (cs++c'):=by
 have hlow:∀b,sv.ownBlock=some b→b<wi.heap.size:=by
  intro b hb
  rcases hO.row.2 with⟨rfl,_⟩|⟨g,cap,cur,rfl,h4,h5,_⟩
  ·simp[Value.ownBlock]at hb
  ·simp[Value.ownBlock]at hb
   subst hb
   exact(Array.getElem?_eq_some_iff.1 h5).1
 have h1:ag (fun b=>(N0≤b∧sv.ownBlock≠some b)∧b<w4.heap.size) w4 ys cs:=(hV.m' he (fun _ _ _=>trivial)).weakenW fun b hb h=>⟨h,hb⟩
 have h2:ag (fun b=>(N0≤b∧sv.ownBlock≠some b)∧b<w4.heap.size) w4 ys' c':=hy.weakenW fun b hb h=>⟨⟨Nat.le_trans hN h,fun e=>by have:=hlow b e;omega⟩,hb⟩
 refine((h1.append h2).m' e5 (fun b _ h=>h.1.2)).k fun b h=>⟨h.1.1,fun e=>?_⟩
 rcases hob with h3|h3
 ·rw[h3]at e;exact h.1.2 e
 ·have:=h3 b e;omega
theorem iN{l:List Value}(h:aH w b (([.agg l.toArray]:List Value).flatMap (fun v=>v.cells.toList))):At w b 0 l:=by
 simpa[Value.cells]using h.at
theorem vT{l l':List Value}(h:aH w b (([.agg l.toArray,.agg l'.toArray]:List Value).flatMap (fun v=>v.cells.toList))):At w b 0 (l++l'):=by
 simpa[Value.cells]using h.at
end Go.Proofs.LL
namespace Go.Proofs.LL
open Go Go.Proofs Go.RowKit
set_option maxHeartbeats 4000000
attribute [local irreducible] ar WL WC cq WT WX
theorem cU.get:∀ {ks:List V} {cs:List Value} (i:Nat) (h:i<ks.length) (h2:i<cs.length),cU A w ks cs→bJ A w ks[i] cs[i]
 |x::r,_,0,_,_,h=>by
  simp only[cU]at h
  obtain⟨c,cs',rfl,h1,_⟩:=h
  exact h1
 |x::r,_,i+1,h0,h2,h=>by
  simp only[cU]at h
  obtain⟨c,cs',rfl,_,h3⟩:=h
  exact cU.get i (by simpa using h0) (by simpa using h2) h3
 |[],_,i,h0,_,_=>absurd h0 (by simp)
theorem xF{ks:List V}{p:Option Addr}(hks:∀x∈ks,fO x)(hUT:UT w)(hle:ks.length≤65536)(hL:cU A w ks cells)(hat:ks=[]∨∃b,p=some ⟨b,0,none⟩∧A b∧At w b 0 cells):
  ah TP 141 [.slice p ks.length c] w fun r w'=>∃sv ys,r= .tuple #[sv,.bool true]∧cM (fun b=>w.heap.size≤b) w' ys.length sv (ag (fun b=>w.heap.size≤b) w' ys)∧gj ks ys∧ay w w':=by
 have hcl:=hL.length
 refine cN Tryz.func141 ?_
 have he:=Hi w
 refine q ?_
 refine WC.loop2 (ι:=(Nat×Value)) [(2,_),(3,_),(9,_),(10,_)] (fun i=>[(4,i.2),(11,.int .i64 (i.1:Int))]) (fun i wi=>(∃cs ys,aT w.heap.size 87 6 wi i.2 i.1 cs∧ag (fun b=>w.heap.size≤b∧i.2.ownBlock≠some b) wi ys cs∧ys.length=i.1∧gj (ks.take i.1) ys)∧i.1≤ks.length∧am (fun b=>b<w.heap.size) w wi) (fun i=>ks.length-i.1) (0,.slice none 0 0) sb sb (⟨⟨[],[],aT.nil _ _ _ _,by rw[ag],rfl,by simpa using gj.nil⟩,Nat.zero_le _,am.refl _⟩) ?_
 intro i wi1 hh;obtain⟨⟨cs,ys,hO,hV,hyl,hBk⟩,hil,hE⟩:=hh
 obtain⟨i,sv⟩:=i
 dsimp only at hO hV hyl hBk hil
 have hwi:=hE.s
 rcases Nat.lt_or_ge i ks.length with hi|hi
 ·have hic:i<cells.length:=by omega
  have hb0:∃b,p=some ⟨b,0,none⟩∧A b∧At w b 0 cells:=by
   rcases hat with h|h
   ·subst h;simp at hi
   ·exact h
  obtain⟨b,rfl,hAb,hAt⟩:=hb0
  have hbl:b<w.heap.size:=hAt.lt0 (by omega)
  have hAti:=hAt.m hE hbl
  replace hL:=hL.m hE
  have hra:=hL.get i hi hic
  replace he:=he.t hE
  have hU1:=hUT.ext he
  refine q ?_
  refine Hq (ao Fb.h rfl Xr (hAti.get (List.getElem?_eq_getElem hic))) ?_
  refine q ?_
  refine cl rfl (hks _ (List.getElem_mem hi) _ _ _ hU1 hra) ?_
  rintro v1 w1 ⟨c6,y,rfl,hVy,hBy,e1⟩
  have hone:=hVy.one
  have hlen:=hVy.len
  refine q ?_
  replace he:=he.t e1
  have:=he.s
  refine Ha fun w2 hb2 e2=>?_
  refine Ho rfl rfl hb2 fun w3 hb2 e3 hz3=>?_
  refine q ?_
  replace he:=he.t (e2.t e3)
  have:=he.s
  have:=hb2.lt
  refine WL.l rfl (ll [_]) ?_
  rintro _ w4 ⟨rfl,hb4,e4⟩
  refine WL.l rfl (eF Fo.h rfl rfl (hO.m (((e1.t (e2.t e3)).t e4):ay wi1 w4)) (Src.at Fb.h (iN hb4) (by rw[hlen]) hone) (by have:=e1.s;have:=e2.s;have:=e3.s;have:=e4.s;omega) (by simp only[maxLen];omega) (by omega)) ?_
  rintro v5 w5 ⟨hO5,e5,hob⟩
  have e5o:=e5
  have e5:=aT.evo (w0:=w) (hO.m (((e1.t (e2.t e3)).t e4):ay wi1 w4)) e5o
  refine q ?_
  have hV2:=ag.push hO hV hwi (((e1.t (e2.t e3)).t e4):ay wi1 w4) (ag.one (hVy.m ((e2.t e3).t e4))) e5o hob
  have hBk2:=hBk.snoc hBy
  rw[List.take_append_getElem hi]at hBk2
  exact⟨(i+1,v5),sb,sb,⟨⟨_,_,hO5,hV2,by simp[hyl],hBk2⟩,hi,(((((hE.t e1).t (e2.t e3)).t e4).t e5))⟩,(by show ks.length-(i+1)<ks.length-i;omega)⟩
 ·have hin:i=ks.length:=by omega
  subst hin
  rw[List.take_length]at hBk
  refine q ?_
  replace he:=he.t hE
  exact bt rfl rfl ⟨sv,ys,rfl,by rw[hyl];exact(by rw[← hyl];exact cM.own hO hyl (hV.k fun b h=>h.1) (fun b h _=>h)),hBk,he.k fun k hk _=>hk⟩
end Go.Proofs.LL
namespace Go.Proofs.LL
open Go Go.RowKit
theorem uN{α β:Type}{f:α→β}{l l':List β}(h:l.Perm l'):∀(l2:List α),l'=l2.map f→∃l3:List α,l3.Perm l2∧l=l3.map f:=by
 induction h with
 |nil=>intro l2 h;exact⟨l2,.refl _,h⟩
 |cons x _ ih=>
  intro l2 h
  cases l2 with
  |nil=>cases h
  |cons a r=>
   simp only[List.map_cons,List.cons.injEq]at h
   obtain⟨rfl,h2⟩:=h
   obtain⟨r',h3,rfl⟩:=ih r h2
   exact⟨a::r',h3.cons a,rfl⟩
 |swap x y l=>
  intro l2 h
  match l2,h with
  |[],h=>cases h
  |[a],h=>simp at h
  |a::b::r,h=>
   simp only[List.map_cons,List.cons.injEq]at h
   obtain⟨rfl,rfl,rfl⟩:=h
   exact⟨b::a::r,.swap _ _ _,rfl⟩
 |trans _ _ ih1 ih2=>
  intro l2 h
  obtain⟨l3,h3,h4⟩:=ih2 l2 h
  obtain⟨l4,h5,h6⟩:=ih1 l3 h4
  exact⟨l4,h5.trans h3,h6⟩
theorem lV{α β:Type}{f:α→β}{l:List β}{l2:List α}(h:l.Perm (l2.map f)):∃l3:List α,l3.Perm l2∧l=l3.map f:=uN h l2 rfl
abbrev iW:=V×V×Value
def ke(e:iW):List V:=[e.1,e.2.1]
def xm(e:iW):List UInt8×Value:=(e.1.text,e.2.2)
theorem cC.ents:∀ {ks:List V} {ss:List (List UInt8×Value)},cC A w ks ss→ks.length%2=0→∃es:List iW,ks=es.flatMap ke∧ss=es.map xm∧∀e∈es,bJ A w e.2.1 e.2.2
 |[],ss,h,_=>by simp only[cC]at h;subst h;exact⟨[],rfl,rfl,by simp⟩
 |[_],ss,_,h=>by simp at h
 |k::v::r,ss,h,h0=>by
  simp only[cC]at h
  obtain⟨b,l',rfl,h1,h2⟩:=h
  obtain⟨es,rfl,rfl,h3⟩:=cC.ents h2 (by simp at h0;omega)
  refine⟨(k,v,b)::es,rfl,rfl,?_⟩
  intro e he
  rcases List.mem_cons.1 he with rfl|he
  ·exact h1
  ·exact h3 e he
theorem gn:∀es:List iW,aP (es.flatMap ke)=es.map (·.1)
 |[]=>rfl
 |e::r=>by
  simp only[List.flatMap_cons,ke,List.cons_append,List.nil_append,aP,List.map_cons]
  rw[gn r]
theorem eI:∀es:List iW,(es.flatMap ke).length=2 * es.length
 |[]=>rfl
 |e::r=>by
  have:=eI r
  simp only[List.flatMap_cons,ke,List.length_append,List.length_cons,List.length_nil]at this⊢
  omega
def eX(p:V×V):List V:=[p.1,p.2]
theorem dE:∀qs:List (V×V),(qs.flatMap eX).length=2 * qs.length
 |[]=>rfl
 |e::r=>by
  have:=dE r
  simp only[List.flatMap_cons,List.length_append,this,eX,List.length_cons,List.length_nil];omega
inductive cE (R:V→V→Prop):List iW→List (V×V)→Prop
 |nil:cE R [] []
 |cons {k v c a b r s}:R k a→iV v b→cE R r s→cE R ((k,v,c)::r) ((a,b)::s)
theorem cE.snoc{R:V→V→Prop}:∀ {es:List iW} {qs:List (V×V)} {e:iW} {q:V×V},cE R es qs→R e.1 q.1→iV e.2.1 q.2→cE R (es++[e]) (qs++[q])
 |[],_,e,q,h,h1,h2=>by cases h;exact .cons h1 h2 .nil
 |a::r,_,e,q,h,h1,h2=>by
  cases h with
  |cons h3 h4 h5=>exact .cons h3 h4 (h5.snoc h1 h2)
theorem cE.length{R:V→V→Prop}:∀ {es:List iW} {qs:List (V×V)},cE R es qs→qs.length=es.length
 |[],_,h=>by cases h;rfl
 |a::r,_,h=>by
  cases h with
  |cons h3 h4 h5=>simp[h5.length]
theorem cE.perm{R:V→V→Prop}{es:List iW}(h:es.Perm es'):∀ {qs:List (V×V)},cE R es qs→∃qs',cE R es' qs'∧qs.Perm qs':=by
 induction h with
 |nil=>intro qs h;exact⟨qs,h,.refl _⟩
 |cons x _ ih=>
  intro qs h
  cases h with
  |cons h1 h2 h3=>
   obtain⟨qs',h4,h5⟩:=ih h3
   exact⟨_,.cons h1 h2 h4,h5.cons _⟩
 |swap x y l=>
  intro qs h
  cases h with
  |cons h1 h2 h3=>
   cases h3 with
   |cons h4 h5 h6=>exact⟨_,.cons h4 h5 (.cons h1 h2 h6),.swap _ _ _⟩
 |trans _ _ ih1 ih2=>
  intro qs h
  obtain⟨q1,h1,h2⟩:=ih1 h
  obtain⟨q2,h3,h4⟩:=ih2 h1
  exact⟨q2,h3,h2.trans h4⟩
theorem cE.perm'{R:V→V→Prop}{qs':List (V×V)}(h:qs'.Perm qs):∀ {es:List iW},cE R es qs→∃es',es'.Perm es∧cE R es' qs':=by
 induction h with
 |nil=>intro es h;exact⟨es,.refl _,h⟩
 |cons x _ ih=>
  intro es h
  cases h with
  |cons h1 h2 h3=>
   obtain⟨es',h4,h5⟩:=ih h3
   exact⟨_,h4.cons _,.cons h1 h2 h5⟩
 |swap x y l=>
  intro es h
  cases h with
  |cons h1 h2 h3=>
   cases h3 with
   |cons h4 h5 h6=>exact⟨_,.swap _ _ _,.cons h4 h5 (.cons h1 h2 h6)⟩
 |trans _ _ ih1 ih2=>
  intro es h
  obtain⟨q1,h1,h2⟩:=ih2 h
  obtain⟨q2,h3,h4⟩:=ih1 h2
  exact⟨q2,h3.trans h1,h4⟩
theorem cE.back:∀ {es:List iW} {qs:List (V×V)},cE iV es qs→md (es.flatMap ke) qs
 |[],_,h=>by cases h;exact .nil
 |(k,v,c)::r,_,h=>by
  cases h with
  |cons h1 h2 h3=>exact .cons h1 h2 h3.back
theorem cE.imp{R S:V→V→Prop}:∀ {es:List iW} {qs:List (V×V)},cE R es qs→(∀e∈es,∀a,R e.1 a→S e.1 a)→cE S es qs
 |[],_,h,_=>by cases h;exact .nil
 |(k,v,c)::r,_,h,hi=>by
  cases h with
  |cons h1 h2 h3=>exact .cons (hi (k,v,c) (by simp) _ h1) h2 (h3.imp fun e he=>hi e (by simp[he]))
end Go.Proofs.LL
namespace Go.Proofs.LL
open Go Go.RowKit
def wT(A:Nat→Prop)(w:World)(es:List iW):Prop:=∀e∈es,bJ A w e.2.1 e.2.2
theorem wT.m(h:wT A w es)(e:am B w w')(hAB:∀b,b<w.heap.size→A b→B b:=by(intro b hb1 hb2;first|exact trivial|exact hb2|((try dsimp only[Nb]at hb2⊢);omega))):wT A w' es:=fun x hx=>bJ.m' (h x hx) e hAB
def AW(es:List iW)(j:Nat):List UInt8:=((es[j]?).map (·.1.text)).getD []
theorem wB{es:List iW}(h:j<es.length):AW es j=es[j].1.text:=by simp[AW,h]
theorem xW(es:List iW):(List.range es.length).map (AW es)=es.map (·.1.text):=by
 apply List.ext_getElem
 ·simp
 ·intro i h1 h2
  have:i<es.length:=by simpa using h2
  simp[wB this]
abbrev yF(e:iW):Value×Value:=xP (xm e)
theorem yG{es:List iW}(hnd:(es.map (·.1.text)).Nodup){e:iW}(he:e∈es):∃j,∃(hj:j<(es.map yF).length),(es.map yF)[j]=(str e.1.text,e.2.2)∧∀a (h:a<j),∃s,((es.map yF)[a]'(Nat.lt_trans h hj)).1=str s∧s≠e.1.text:=by
 obtain⟨j,hj,rfl⟩:=List.mem_iff_getElem.1 he
 refine⟨j,by simpa using hj,by simp[xP,xm],fun a h=>⟨es[a].1.text,by simp[xP,xm],fun e1=>?_⟩⟩
 have h2:(es.map (·.1.text))[a]'(by simp;omega)=(es.map (·.1.text))[j]'(by simpa using hj):=by simpa using e1
 have:=List.pairwise_iff_getElem.1 hnd a j (by simp;omega) (by simpa using hj) h
 exact this h2
end Go.Proofs.LL
