/- Own laws of frames, operations and loops, and contracts of functions of the program. Conditions: those that each theorem states. -/
import Derived.Test.YtdgbmbjkbmpcbaaGreatDoorV25
set_option linter.all false
set_option maxRecDepth 20000
namespace Go.Proofs.LL
open Go Go.Proofs Go.RowKit
set_option maxHeartbeats 4000000
attribute [local irreducible] RunOp WL WC WDL WT WX
theorem bq{A:Prop}(h:A:=by
 rintro v2 w2 ⟨cells,rfl,hV,e2⟩
 have hx1:=hb1.lt
 have hone:=hV.one
 have hlen:=hV.len
 replace hb1:=hb1.mono e2
 refine WL.l0 (lsw rfl rfl hb1) ?_
 rintro _ w3 ⟨hb1,e3,hz3⟩
 refine q ?_
 replace hV:=hV.mono e3
 replace he:=((he.then e1).then e2).then e3
 exact finCt rfl hb1 (by rw[hlen];exact agg_87) rfl ⟨cells,_,rfl,(mh hk (htx (by decide)))▸hV.weaken (fun b h=>Nat.le_trans e1.size h),he⟩):A:=h
theorem gx{A:Prop}(h:A:=by
 rintro v2 w2 ⟨cells,rfl,hV,e2⟩
 have hx1:=hb1.lt
 have hone:=hV.one
 have hlen:=hV.len
 replace hb1:=hb1.mono e2
 refine WL.l0 (lsw rfl rfl hb1) ?_
 rintro _ w3 ⟨hb1,e3,hz3⟩
 refine q ?_
 replace hV:=hV.mono e3
 replace he:=((he.then e1).then e2).then e3
 exact finCt rfl hb1 (by rw[hlen];exact agg_87) rfl ⟨cells,_,rfl,(kA hk (hnz (by decide)))▸hV.weaken (fun b h=>Nat.le_trans e1.size h),he⟩):A:=h
theorem cW{f:V→Value}:∀(ks:List V),(∀x∈ks,elemC x=[f x])→ks.flatMap elemC=ks.map f
 |[],_=>rfl
 |a::r,h=>by rw[List.flatMap_cons,List.map_cons,h a (by simp),cW r (fun x hx=>h x (by simp[hx]))];rfl
theorem mh{ks:List V}{kk:Int}(hk:∀x∈ks,x.kind=kk)(ht:∀x∈ks,x.text=[]):((ks.map V.num).map fun n=>pv kk n [])=ks.map fun x=>pv x.kind x.num x.text:=by
 rw[List.map_map]
 refine List.map_congr_left fun x hx=>?_
 simp only[Function.comp,hk x hx,ht x hx]
theorem kA{ks:List V}{kk:Int}(hk:∀x∈ks,x.kind=kk)(hn:∀x∈ks,x.num=0):((ks.map V.text).map fun t=>pv kk 0 t)=ks.map fun x=>pv x.kind x.num x.text:=by
 rw[List.map_map]
 refine List.map_congr_left fun x hx=>?_
 simp only[Function.comp,hk x hx,hn x hx]
theorem Bs.get{A:Nat→Prop}{w:World}:∀ {vs:List Value} {ts:List (List UInt8)} (_:Bs A w vs ts) (i:Nat) (h:i<vs.length) (h2:i<ts.length),IsB A w vs[i] ts[i]
 |v::vs,t::ts,hb,0,_,_=>hb.1
 |v::vs,t::ts,hb,i+1,h,h2=>Bs.get hb.2 i (by simpa using h) (by simpa using h2)
 |[],_,_,i,h,_=>absurd h (by simp)
 |_::_,[],_,i,_,h=>absurd h (by simp)
theorem At.lt0{w:World}{g:Nat}{l:List Value}(h:At w g 0 l)(hl:0<l.length):g<w.heap.size:=by
 have h1:=h 0 hl
 rw[List.getElem?_eq_getElem hl]at h1
 exact lt_of_cell h1
set_option maxHeartbeats 4000000 in
theorem jJ{A:Nat→Prop}{ks:List V}{u:Value}{w:World}(hP:∀x∈ks,plainOK x)(hle:ks.length≤65536)(h:RepArr A w ks u):
  Does TP 85 [u] w fun r w'=>∃cells kk,r= .tuple #[.agg cells.toArray,.bool true]∧ag (fun b=>w.heap.size≤b) w' (.mk 23 0 [] (ks.map fun x=>pv x.kind x.num x.text) kk []) cells∧Ext w w':=by
 obtain⟨kk,hk,hne,hkk,h⟩:=h
 have hpos:0<ks.length:=List.length_pos_iff.2 hne
 have hN:∀x∈ks,NumOK kk x.num:=fun x hx=>by have:=(hP x hx).1;rw[hk x hx]at this;exact this
 have hNL:∀x∈ks,x.num<18446744073709551616:=fun x hx=>(hN x hx).2.2.2.2.2.2.2.2
 have htx:kk<17→∀x∈ks,x.text=[]:=fun hlt x hx=>(hP x hx).2.2.2.2.1 (by rw[hk x hx];exact hlt)
 have hnz:17≤kk→∀x∈ks,x.num=0:=fun hlt x hx=>(hP x hx).2.2.2.2.2 (.inr (by rw[hk x hx];exact hlt))
 have hnl:(ks.map V.num).length=ks.length:=List.length_map ..
 have htl:(ks.map V.text).length=ks.length:=List.length_map ..
 rcases h with⟨rfl,v,rfl,hB⟩|⟨rfl,g,vs,hAg,rfl,hG,hBs⟩|⟨hn2,hn18,g,hAg,rfl,hG⟩
 ·obtain⟨b0,o0,cc,rfl,hcc,_,hD⟩:=hB.open (by simpa using hpos)
  have hAt:At w b0 o0 (bc (ks.map fun x=>UInt8.ofNat x.num)):=by
   intro j hj
   have hj2:j<(ks.map fun x=>UInt8.ofNat x.num).length:=by simpa using hj
   rw[hD j hj2]
   simp[show j<ks.length by simpa using hj]
  have hg0:b0<w.heap.size:=by have:=hD 0 (by simpa using hpos);exact lt_of_cell this
  rw[show(ks.map fun x=>UInt8.ofNat x.num).length=(ks.map V.num).length by simp]
  refine doR Tryz.func85 ?_
  have he:Evo (fun _=>True) w w:=Evo.refl w
  refine q ?_
  have hs1:=he.size
  refine al ?_
  rintro _ w1 ⟨rfl,hb1,e1⟩
  refine WL.q rfl (r_assign rfl) ?_
  refine WL.nil ?_
  refine gq 8 rfl ?_
  refine WL.q rfl (r_ifeqSome Fb.h rfl) ?_
  refine WL.nil ?_
  refine gq 143 rfl ?_
  refine q ?_
  refine cl rfl (pI (ns:=ks.map V.num) (es:=bc (ks.map fun x=>UInt8.ofNat x.num)) (k:=2) (c:=cc) (g:=b0) (o:=o0) (by simp) (by rw[hnl];exact hle) (hAt.mono e1) (Nat.lt_of_lt_of_le hg0 e1.size) Fb.h (fun i h h2 w1 hw=>by have hx:=List.getElem_mem (show i<ks.length by simpa using h);have hb:=(hN _ hx).2.1 rfl;simp only[bc,List.getElem_map];exact ra.imp fun u w2 ⟨a,b⟩=>⟨by rw[a,small_of hb,dN (hNL _ hx)],b⟩)) ?_
  exact bq
 ·have hvl:=hBs.length
  have hg0:g<w.heap.size:=hG.lt0 (by rw[hvl];simpa using hpos)
  rw[← htl]
  refine doR Tryz.func85 ?_
  have he:Evo (fun _=>True) w w:=Evo.refl w
  refine q ?_
  have hs1:=he.size
  refine al ?_
  rintro _ w1 ⟨rfl,hb1,e1⟩
  refine WL.q rfl (r_assign rfl) ?_
  refine WL.nil ?_
  refine gq 8 rfl ?_
  refine WL.q rfl (r_ifeqSome Fb.h rfl) ?_
  refine WL.nil ?_
  refine gq 227 rfl ?_
  refine q ?_
  refine cl rfl (oq (ns:=ks.map V.text) (es:=vs) (k:=18) (c:=(ks.map V.text).length) (g:=g) (o:=0) hvl (by rw[htl];exact hle) (hG.mono e1) (Nat.lt_of_lt_of_le hg0 e1.size) Fb.h (fun i h h2 w1 hw=>(oV ((hBs.get i h2 h).mono (e1.trans hw) (fun _ _ _=>trivial))))) ?_
  exact gx
 ·have hfl:1≤kk∧kk≤11→ks.flatMap elemC=ks.map fun x=>numV kk x.num:=fun hr=>cW ks fun x hx=>elemC_num (hk x hx) hr
  have hg0:g<w.heap.size:=hG.lt0 (by
   obtain⟨x,r,rfl⟩:=List.exists_cons_of_ne_nil hne
   rw[List.flatMap_cons,List.length_append]
   have:=elemC_pos (A:=A) x (fun h17 e=>by have:=(hP x (by simp)).2.2.1 h17;rw[e]at this;simp at this)
   omega)
  have hcase:kk=1∨kk=3∨kk=4∨kk=5∨kk=6∨kk=7∨kk=8∨kk=9∨kk=10∨kk=11∨kk=16∨kk=17∨kk=19∨kk=20:=by unfold arrK at hkk;omega
  rcases hcase with rfl|rfl|rfl|rfl|rfl|rfl|rfl|rfl|rfl|rfl|rfl|rfl|rfl|rfl
  ·rw[hfl (by decide)]at hG
   rw[← hnl]
   show Does _ _ [.iface 323 _] _ _
   refine doR Tryz.func85 ?_
   have he:Evo (fun _=>True) w w:=Evo.refl w
   refine q ?_
   have hs1:=he.size
   refine al ?_
   rintro _ w1 ⟨rfl,hb1,e1⟩
   refine WL.q rfl (r_assign rfl) ?_
   refine WL.nil ?_
   refine gq 8 rfl ?_
   refine WL.q rfl (r_ifeqSome Fb.h rfl) ?_
   refine WL.nil ?_
   refine gq 136 rfl ?_
   refine q ?_
   refine cl rfl (mo (ns:=ks.map V.num) (es:=ks.map fun x=>numV 1 x.num) (k:=1) (c:=(ks.map V.num).length) (g:=g) (o:=0) (by simp) (by rw[hnl];exact hle) (hG.mono e1) (Nat.lt_of_lt_of_le hg0 e1.size) Fb.h (fun i h h2 w1 hw=>by have hx:=List.getElem_mem (show i<ks.length by simpa using h);simp only[List.getElem_map];exact jZ.imp fun u w2 ⟨a,b⟩=>⟨by rw[a,lU ((hN _ hx).1 rfl)],b⟩)) ?_
   exact bq
  ·rw[hfl (by decide)]at hG
   rw[← hnl]
   show Does _ _ [.iface 328 _] _ _
   refine doR Tryz.func85 ?_
   have he:Evo (fun _=>True) w w:=Evo.refl w
   refine q ?_
   have hs1:=he.size
   refine al ?_
   rintro _ w1 ⟨rfl,hb1,e1⟩
   refine WL.q rfl (r_assign rfl) ?_
   refine WL.nil ?_
   refine gq 8 rfl ?_
   refine WL.q rfl (r_ifeqSome Fb.h rfl) ?_
   refine WL.nil ?_
   refine gq 150 rfl ?_
   refine q ?_
   refine cl rfl (nw (ns:=ks.map V.num) (es:=ks.map fun x=>numV 3 x.num) (k:=3) (c:=(ks.map V.num).length) (g:=g) (o:=0) (by simp) (by rw[hnl];exact hle) (hG.mono e1) (Nat.lt_of_lt_of_le hg0 e1.size) Fb.h (fun i h h2 w1 hw=>by have hx:=List.getElem_mem (show i<ks.length by simpa using h);simp only[List.getElem_map];exact pw.imp fun u w2 ⟨a,b⟩=>⟨by rw[a,dN (hNL _ hx)],b⟩)) ?_
   exact bq
  ·rw[hfl (by decide)]at hG
   rw[← hnl]
   show Does _ _ [.iface 44 _] _ _
   refine doR Tryz.func85 ?_
   have he:Evo (fun _=>True) w w:=Evo.refl w
   refine q ?_
   have hs1:=he.size
   refine al ?_
   rintro _ w1 ⟨rfl,hb1,e1⟩
   refine WL.q rfl (r_assign rfl) ?_
   refine WL.nil ?_
   refine gq 8 rfl ?_
   refine WL.q rfl (r_ifeqSome Fb.h rfl) ?_
   refine WL.nil ?_
   refine gq 157 rfl ?_
   refine q ?_
   refine cl rfl (nf (ns:=ks.map V.num) (es:=ks.map fun x=>numV 4 x.num) (k:=4) (c:=(ks.map V.num).length) (g:=g) (o:=0) (by simp) (by rw[hnl];exact hle) (hG.mono e1) (Nat.lt_of_lt_of_le hg0 e1.size) Fb.h (fun i h h2 w1 hw=>by have hx:=List.getElem_mem (show i<ks.length by simpa using h);simp only[List.getElem_map];exact pN.imp fun u w2 ⟨a,b⟩=>⟨by rw[a,dN (hNL _ hx)],b⟩)) ?_
   exact bq
  ·rw[hfl (by decide)]at hG
   rw[← hnl]
   show Does _ _ [.iface 333 _] _ _
   refine doR Tryz.func85 ?_
   have he:Evo (fun _=>True) w w:=Evo.refl w
   refine q ?_
   have hs1:=he.size
   refine al ?_
   rintro _ w1 ⟨rfl,hb1,e1⟩
   refine WL.q rfl (r_assign rfl) ?_
   refine WL.nil ?_
   refine gq 8 rfl ?_
   refine WL.q rfl (r_ifeqSome Fb.h rfl) ?_
   refine WL.nil ?_
   refine gq 164 rfl ?_
   refine q ?_
   refine cl rfl (nn (ns:=ks.map V.num) (es:=ks.map fun x=>numV 5 x.num) (k:=5) (c:=(ks.map V.num).length) (g:=g) (o:=0) (by simp) (by rw[hnl];exact hle) (hG.mono e1) (Nat.lt_of_lt_of_le hg0 e1.size) Fb.h (fun i h h2 w1 hw=>by have hx:=List.getElem_mem (show i<ks.length by simpa using h);simp only[List.getElem_map];exact oZ.imp fun u w2 ⟨a,b⟩=>⟨by rw[a],b⟩)) ?_
   exact bq
  ·rw[hfl (by decide)]at hG
   rw[← hnl]
   show Does _ _ [.iface 336 _] _ _
   refine doR Tryz.func85 ?_
   have he:Evo (fun _=>True) w w:=Evo.refl w
   refine q ?_
   have hs1:=he.size
   refine al ?_
   rintro _ w1 ⟨rfl,hb1,e1⟩
   refine WL.q rfl (r_assign rfl) ?_
   refine WL.nil ?_
   refine gq 8 rfl ?_
   refine WL.q rfl (r_ifeqSome Fb.h rfl) ?_
   refine WL.nil ?_
   refine gq 171 rfl ?_
   refine q ?_
   refine cl rfl (pR (ns:=ks.map V.num) (es:=ks.map fun x=>numV 6 x.num) (k:=6) (c:=(ks.map V.num).length) (g:=g) (o:=0) (by simp) (by rw[hnl];exact hle) (hG.mono e1) (Nat.lt_of_lt_of_le hg0 e1.size) Fb.h (fun i h h2 w1 hw=>by have hx:=List.getElem_mem (show i<ks.length by simpa using h);simp only[List.getElem_map];exact rm.imp fun u w2 ⟨a,b⟩=>⟨by rw[a,bg (hNL _ hx)],b⟩)) ?_
   exact bq
  ·rw[hfl (by decide)]at hG
   rw[← hnl]
   show Does _ _ [.iface 339 _] _ _
   refine doR Tryz.func85 ?_
   have he:Evo (fun _=>True) w w:=Evo.refl w
   refine q ?_
   have hs1:=he.size
   refine al ?_
   rintro _ w1 ⟨rfl,hb1,e1⟩
   refine WL.q rfl (r_assign rfl) ?_
   refine WL.nil ?_
   refine gq 8 rfl ?_
   refine WL.q rfl (r_ifeqSome Fb.h rfl) ?_
   refine WL.nil ?_
   refine gq 178 rfl ?_
   refine q ?_
   refine cl rfl (m5 (ns:=ks.map V.num) (es:=ks.map fun x=>numV 7 x.num) (k:=7) (c:=(ks.map V.num).length) (g:=g) (o:=0) (by simp) (by rw[hnl];exact hle) (hG.mono e1) (Nat.lt_of_lt_of_le hg0 e1.size) Fb.h (fun i h h2 w1 hw=>by have hx:=List.getElem_mem (show i<ks.length by simpa using h);simp only[List.getElem_map];exact pD.imp fun u w2 ⟨a,b⟩=>⟨by rw[a,bg (hNL _ hx)],b⟩)) ?_
   exact bq
  ·rw[hfl (by decide)]at hG
   rw[← hnl]
   show Does _ _ [.iface 342 _] _ _
   refine doR Tryz.func85 ?_
   have he:Evo (fun _=>True) w w:=Evo.refl w
   refine q ?_
   have hs1:=he.size
   refine al ?_
   rintro _ w1 ⟨rfl,hb1,e1⟩
   refine WL.q rfl (r_assign rfl) ?_
   refine WL.nil ?_
   refine gq 8 rfl ?_
   refine WL.q rfl (r_ifeqSome Fb.h rfl) ?_
   refine WL.nil ?_
   refine gq 185 rfl ?_
   refine q ?_
   refine cl rfl (nk (ns:=ks.map V.num) (es:=ks.map fun x=>numV 8 x.num) (k:=8) (c:=(ks.map V.num).length) (g:=g) (o:=0) (by simp) (by rw[hnl];exact hle) (hG.mono e1) (Nat.lt_of_lt_of_le hg0 e1.size) Fb.h (fun i h h2 w1 hw=>by have hx:=List.getElem_mem (show i<ks.length by simpa using h);simp only[List.getElem_map];exact o7.imp fun u w2 ⟨a,b⟩=>⟨by rw[a,bg (hNL _ hx)],b⟩)) ?_
   exact bq
  ·rw[hfl (by decide)]at hG
   rw[← hnl]
   show Does _ _ [.iface 345 _] _ _
   refine doR Tryz.func85 ?_
   have he:Evo (fun _=>True) w w:=Evo.refl w
   refine q ?_
   have hs1:=he.size
   refine al ?_
   rintro _ w1 ⟨rfl,hb1,e1⟩
   refine WL.q rfl (r_assign rfl) ?_
   refine WL.nil ?_
   refine gq 8 rfl ?_
   refine WL.q rfl (r_ifeqSome Fb.h rfl) ?_
   refine WL.nil ?_
   refine gq 192 rfl ?_
   refine q ?_
   refine cl rfl (np (ns:=ks.map V.num) (es:=ks.map fun x=>numV 9 x.num) (k:=9) (c:=(ks.map V.num).length) (g:=g) (o:=0) (by simp) (by rw[hnl];exact hle) (hG.mono e1) (Nat.lt_of_lt_of_le hg0 e1.size) Fb.h (fun i h h2 w1 hw=>by have hx:=List.getElem_mem (show i<ks.length by simpa using h);simp only[List.getElem_map];exact pf.imp fun u w2 ⟨a,b⟩=>⟨by rw[a,bg (hNL _ hx)],b⟩)) ?_
   exact bq
  ·rw[hfl (by decide)]at hG
   rw[← hnl]
   show Does _ _ [.iface 348 _] _ _
   refine doR Tryz.func85 ?_
   have he:Evo (fun _=>True) w w:=Evo.refl w
   refine q ?_
   have hs1:=he.size
   refine al ?_
   rintro _ w1 ⟨rfl,hb1,e1⟩
   refine WL.q rfl (r_assign rfl) ?_
   refine WL.nil ?_
   refine gq 8 rfl ?_
   refine WL.q rfl (r_ifeqSome Fb.h rfl) ?_
   refine WL.nil ?_
   refine gq 199 rfl ?_
   refine q ?_
   refine cl rfl (nu (ns:=ks.map V.num) (es:=ks.map fun x=>numV 10 x.num) (k:=10) (c:=(ks.map V.num).length) (g:=g) (o:=0) (by simp) (by rw[hnl];exact hle) (hG.mono e1) (Nat.lt_of_lt_of_le hg0 e1.size) Fb.h (fun i h h2 w1 hw=>by have hx:=List.getElem_mem (show i<ks.length by simpa using h);simp only[List.getElem_map];exact pu.imp fun u w2 ⟨a,b⟩=>⟨by rw[a,dN (hNL _ hx)],b⟩)) ?_
   exact bq
  ·rw[hfl (by decide)]at hG
   rw[← hnl]
   show Does _ _ [.iface 351 _] _ _
   refine doR Tryz.func85 ?_
   have he:Evo (fun _=>True) w w:=Evo.refl w
   refine q ?_
   have hs1:=he.size
   refine al ?_
   rintro _ w1 ⟨rfl,hb1,e1⟩
   refine WL.q rfl (r_assign rfl) ?_
   refine WL.nil ?_
   refine gq 8 rfl ?_
   refine WL.q rfl (r_ifeqSome Fb.h rfl) ?_
   refine WL.nil ?_
   refine gq 206 rfl ?_
   refine q ?_
   refine cl rfl (lB (ns:=ks.map V.num) (k:=11) (c:=(ks.map V.num).length) (g:=g) (o:=0) (by rw[hnl];exact hle) (by rw[List.map_map];exact hG.mono e1) (Nat.lt_of_lt_of_le hg0 e1.size)) ?_
   exact bq
  ·rw[show ks.flatMap elemC=(ks.map fun x=>tm (IntKind.i64.wrap x.num)).flatten by rw[← List.flatMap_def];exact(flat_eq ks fun x hx=>by unfold elemC;rw[if_pos (hk x hx)]).symm]at hG
   rw[← hnl]
   show Does _ _ [.iface 353 _] _ _
   refine doR Tryz.func85 ?_
   have he:Evo (fun _=>True) w w:=Evo.refl w
   refine q ?_
   have hs1:=he.size
   refine al ?_
   rintro _ w1 ⟨rfl,hb1,e1⟩
   refine WL.q rfl (r_assign rfl) ?_
   refine WL.nil ?_
   refine gq 8 rfl ?_
   refine WL.q rfl (r_ifeqSome Fb.h rfl) ?_
   refine WL.nil ?_
   refine gq 213 rfl ?_
   refine q ?_
   refine cl rfl (kV (ns:=ks.map V.num) (es:=ks.map fun x=>tm (IntKind.i64.wrap x.num)) (k:=16) (c:=(ks.map V.num).length) (g:=g) (o:=0) (by simp) (fun e he=>by obtain⟨x,_,rfl⟩:=List.mem_map.1 he;exact⟨rfl,rfl⟩) (by rw[hnl];exact hle) (hG.mono e1) (Nat.lt_of_lt_of_le hg0 e1.size) Fb.h (fun i h h2 w1 hw=>by have hx:=List.getElem_mem (show i<ks.length by simpa using h);simp only[List.getElem_map];exact(nC (i64_range _).1 (i64_range _).2).imp fun u w2 ⟨a,b⟩=>⟨by rw[a,bg (hNL _ hx)],b⟩)) ?_
   exact bq
  ·have h16:∀x∈ks,x.text.length=16:=fun x hx=>(hP x hx).2.2.1 (hk x hx)
   rw[show ks.flatMap elemC=(ks.map fun x=>bc x.text).flatten by rw[← List.flatMap_def];exact(flat_eq ks fun x hx=>by unfold elemC;rw[if_neg (by rw[hk x hx];decide),if_pos (hk x hx)]).symm]at hG
   rw[← htl]
   show Does _ _ [.iface 356 _] _ _
   refine doR Tryz.func85 ?_
   have he:Evo (fun _=>True) w w:=Evo.refl w
   refine q ?_
   have hs1:=he.size
   refine al ?_
   rintro _ w1 ⟨rfl,hb1,e1⟩
   refine WL.q rfl (r_assign rfl) ?_
   refine WL.nil ?_
   refine gq 8 rfl ?_
   refine WL.q rfl (r_ifeqSome Fb.h rfl) ?_
   refine WL.nil ?_
   refine gq 220 rfl ?_
   refine q ?_
   refine cl rfl (kW (ns:=ks.map V.text) (es:=ks.map fun x=>bc x.text) (k:=17) (c:=(ks.map V.text).length) (g:=g) (o:=0) (by simp) (fun e he=>by obtain⟨x,hx,rfl⟩:=List.mem_map.1 he;exact⟨by simp[h16 x hx],fk _⟩) (by rw[htl];exact hle) (hG.mono e1) (Nat.lt_of_lt_of_le hg0 e1.size) Fb.h (fun i h h2 w1 hw=>by have hx:=List.getElem_mem (show i<ks.length by simpa using h);simp only[List.getElem_map];exact oe (h16 _ hx))) ?_
   exact gx
  ·rw[cW (f:=fun x=>str x.text) ks fun x hx=>by unfold elemC;rw[if_neg (by rw[hk x hx];decide),if_neg (by rw[hk x hx];decide),if_pos (by rw[hk x hx];decide)]]at hG
   rw[← htl]
   show Does _ _ [.iface 24 _] _ _
   refine doR Tryz.func85 ?_
   have he:Evo (fun _=>True) w w:=Evo.refl w
   refine q ?_
   have hs1:=he.size
   refine al ?_
   rintro _ w1 ⟨rfl,hb1,e1⟩
   refine WL.q rfl (r_assign rfl) ?_
   refine WL.nil ?_
   refine gq 8 rfl ?_
   refine WL.q rfl (r_ifeqSome Fb.h rfl) ?_
   refine WL.nil ?_
   refine gq 234 rfl ?_
   refine q ?_
   refine cl rfl (m0 (ns:=ks.map V.text) (es:=ks.map fun x=>str x.text) (k:=19) (c:=(ks.map V.text).length) (g:=g) (o:=0) (by simp) (by rw[htl];exact hle) (hG.mono e1) (Nat.lt_of_lt_of_le hg0 e1.size) Fb.h (fun i h h2 w1 hw=>by have hx:=List.getElem_mem (show i<ks.length by simpa using h);simp only[List.getElem_map];exact pz)) ?_
   exact gx
  ·rw[cW (f:=fun x=>str x.text) ks fun x hx=>by unfold elemC;rw[if_neg (by rw[hk x hx];decide),if_neg (by rw[hk x hx];decide),if_pos (by rw[hk x hx];decide)]]at hG
   rw[← htl]
   show Does _ _ [.iface 73 _] _ _
   refine doR Tryz.func85 ?_
   have he:Evo (fun _=>True) w w:=Evo.refl w
   refine q ?_
   have hs1:=he.size
   refine al ?_
   rintro _ w1 ⟨rfl,hb1,e1⟩
   refine WL.q rfl (r_assign rfl) ?_
   refine WL.nil ?_
   refine gq 8 rfl ?_
   refine WL.q rfl (r_ifeqSome Fb.h rfl) ?_
   refine WL.nil ?_
   refine gq 241 rfl ?_
   refine q ?_
   refine cl rfl (nX (ns:=ks.map V.text) (es:=ks.map fun x=>str x.text) (k:=20) (c:=(ks.map V.text).length) (g:=g) (o:=0) (by simp) (by rw[htl];exact hle) (hG.mono e1) (Nat.lt_of_lt_of_le hg0 e1.size) Fb.h (fun i h h2 w1 hw=>by have hx:=List.getElem_mem (show i<ks.length by simpa using h);simp only[List.getElem_map];exact pO)) ?_
   exact gx
end Go.Proofs.LL
namespace Go.Proofs.LL
open Go Go.RowKit
section
variable {A B:Nat→Prop} {w w':World}
mutual
theorem ag.weakenW:∀ {x:V} {cs:List Value},ag A w x cs→(∀b,b<w.heap.size→A b→B b)→ag B w x cs
 | .mk k n t ks o d,cs,h,hAB=>by
  rw[ag]at h⊢
  obtain⟨sk,sd,h1,⟨p1,c1,l1,a1,a2,a3,a4⟩,⟨p2,c2,l2,b1,b2,b3,b4⟩⟩:=h
  refine⟨sk,sd,h1,⟨p1,c1,l1,a1,a2,aa.weakenW a3 hAB,?_⟩,⟨p2,c2,l2,b1,b2,aa.weakenW b3 hAB,?_⟩⟩
  ·rcases Nat.eq_zero_or_pos ks.length with h0|h0
   ·exact .inl h0
   ·refine a4.imp id fun⟨b,o,x1,x2,x3⟩=>⟨b,o,x1,hAB b ?_ x2,x3⟩
    have hl:=aa.len a3
    have h2:=x3 0 (by omega)
    rw[List.getElem?_eq_getElem (by omega)]at h2
    exact lt_of_cell h2
  ·rcases Nat.eq_zero_or_pos d.length with h0|h0
   ·exact .inl h0
   ·refine b4.imp id fun⟨b,o,x1,x2,x3⟩=>⟨b,o,x1,hAB b ?_ x2,x3⟩
    have hl:=aa.len b3
    have h2:=x3 0 (by omega)
    rw[List.getElem?_eq_getElem (by omega)]at h2
    exact lt_of_cell h2
theorem aa.weakenW:∀ {l:List V} {cs:List Value},aa A w l cs→(∀b,b<w.heap.size→A b→B b)→aa B w l cs
 |[],cs,h,_=>by rw[aa]at h⊢;exact h
 |x::r,cs,h,hAB=>by
  rw[aa]at h⊢
  obtain⟨c,c',h1,h2,h3⟩:=h
  exact⟨c,c',h1,ag.weakenW h2 hAB,aa.weakenW h3 hAB⟩
end
end
theorem aa.push{N0 n e Bb:Nat}{wi w4 w5:World}{sv v5:Value}{cs c':List Value}{ys ys':List V}(hO:Own Bb e 6 wi sv n cs)(hV:aa (fun b=>N0≤b∧sv.ownBlock≠some b) wi ys cs)(hN:N0≤wi.heap.size)(he:Ext wi w4)(hy:aa (fun b=>wi.heap.size≤b) w4 ys' c')
  (e5:Evo (fun k=>sv.ownBlock≠some k) w4 w5) (hob:v5.ownBlock=sv.ownBlock∨∀b,v5.ownBlock=some b→w4.heap.size≤b):aa (fun b=>N0≤b∧v5.ownBlock≠some b) w5 (ys++ys') (cs++c'):=by
 have hlow:∀b,sv.ownBlock=some b→b<wi.heap.size:=by
  intro b hb
  rcases hO.row.2 with⟨rfl,_⟩|⟨g,cap,cur,rfl,h4,h5,_⟩
  ·simp[Value.ownBlock]at hb
  ·simp[Value.ownBlock]at hb
   subst hb
   exact(Array.getElem?_eq_some_iff.1 h5).1
 have h1:aa (fun b=>(N0≤b∧sv.ownBlock≠some b)∧b<w4.heap.size) w4 ys cs:=(hV.mono' he (fun _ _ _=>trivial)).weakenW fun b hb h=>⟨h,hb⟩
 have h2:aa (fun b=>(N0≤b∧sv.ownBlock≠some b)∧b<w4.heap.size) w4 ys' c':=hy.weakenW fun b hb h=>⟨⟨Nat.le_trans hN h,fun e=>by have:=hlow b e;omega⟩,hb⟩
 refine((h1.append h2).mono' e5 (fun b _ h=>h.1.2)).weaken fun b h=>⟨h.1.1,fun e=>?_⟩
 rcases hob with h3|h3
 ·rw[h3]at e;exact h.1.2 e
 ·have:=h3 b e;omega
theorem ct{w:World}{b:Nat}{l:List Value}(h:Blk w b (([.agg l.toArray]:List Value).flatMap (fun v=>v.cells.toList))):At w b 0 l:=by
 simpa[Value.cells]using h.at
theorem io{w:World}{b:Nat}{l l':List Value}(h:Blk w b (([.agg l.toArray,.agg l'.toArray]:List Value).flatMap (fun v=>v.cells.toList))):At w b 0 (l++l'):=by
 simpa[Value.cells]using h.at
end Go.Proofs.LL
namespace Go.Proofs.LL
open Go Go.Proofs Go.RowKit
set_option maxHeartbeats 4000000
attribute [local irreducible] RunOp WL WC WDL WT WX
theorem RepL.get{A:Nat→Prop}{w:World}:∀ {ks:List V} {cs:List Value} (i:Nat) (h:i<ks.length) (h2:i<cs.length),RepL A w ks cs→RepA A w ks[i] cs[i]
 |x::r,_,0,_,_,h=>by
  simp only[RepL]at h
  obtain⟨c,cs',rfl,h1,_⟩:=h
  exact h1
 |x::r,_,i+1,h0,h2,h=>by
  simp only[RepL]at h
  obtain⟨c,cs',rfl,_,h3⟩:=h
  exact RepL.get i (by simpa using h0) (by simpa using h2) h3
 |[],_,i,h0,_,_=>absurd h0 (by simp)
theorem kL{A:Nat→Prop}{ks:List V}{p:Option Addr}{c:Nat}{cells:List Value}{w:World}(hks:∀x∈ks,bB x)(hUT:UT w)(hle:ks.length≤65536)(hL:RepL A w ks cells)(hat:ks=[]∨∃b,p=some ⟨b,0,none⟩∧A b∧At w b 0 cells):
  Does TP 141 [.slice p ks.length c] w fun r w'=>∃sv ys,r= .tuple #[sv,.bool true]∧aD (fun b=>w.heap.size≤b) w' ys.length sv (aa (fun b=>w.heap.size≤b) w' ys)∧bH ks ys∧Ext w w':=by
 have hcl:=hL.length
 refine do2 Tryz.func141 ?_
 have he:Evo (fun b=>b<w.heap.size) w w:=Evo.refl w
 refine q ?_
 refine WC.loop2 (ι:=(Nat×Value)) [(2,_),(3,_),(9,_),(10,_)] (fun i=>[(4,i.2),(11,.int .i64 (i.1:Int))]) (fun i wi=>(∃cs ys,Own w.heap.size 87 6 wi i.2 i.1 cs∧aa (fun b=>w.heap.size≤b∧i.2.ownBlock≠some b) wi ys cs∧ys.length=i.1∧bH (ks.take i.1) ys)∧i.1≤ks.length∧Evo (fun b=>b<w.heap.size) w wi) (fun i=>ks.length-i.1) (0,.slice none 0 0) sb sb (⟨⟨[],[],Own.nil _ _ _ _,by rw[aa],rfl,by simpa using bH.nil⟩,Nat.zero_le _,Evo.refl _⟩) ?_
 intro i wi1 hh;obtain⟨⟨cs,ys,hO,hV,hyl,hBk⟩,hil,hE⟩:=hh
 obtain⟨i,sv⟩:=i
 dsimp only at hO hV hyl hBk hil
 have hwi:=hE.size
 rcases Nat.lt_or_ge i ks.length with hi|hi
 ·have hic:i<cells.length:=by omega
  have hb0:∃b,p=some ⟨b,0,none⟩∧A b∧At w b 0 cells:=by
   rcases hat with h|h
   ·subst h;simp at hi
   ·exact h
  obtain⟨b,rfl,hAb,hAt⟩:=hb0
  have hbl:b<w.heap.size:=hAt.lt0 (by omega)
  have hAti:=hAt.mono hE hbl
  replace hL:=hL.mono hE
  have hra:=hL.get i hi hic
  replace he:=he.then hE
  have hU1:=hUT.ext he
  refine q ?_
  refine WL.q rfl (r_load Fb.h rfl (Ext.refl _) (hAti.get (List.getElem?_eq_getElem hic))) ?_
  refine q ?_
  refine cl rfl (hks _ (List.getElem_mem hi) _ _ _ hU1 hra) ?_
  rintro v1 w1 ⟨c6,y,rfl,hVy,hBy,e1⟩
  have hone:=hVy.one
  have hlen:=hVy.len
  refine q ?_
  replace he:=he.then e1
  have hs2:=he.size
  refine al ?_
  rintro _ w2 ⟨rfl,hb2,e2⟩
  refine WL.l0 (lsw rfl rfl hb2) ?_
  rintro _ w3 ⟨hb2,e3,hz3⟩
  refine q ?_
  replace he:=he.then (e2.then e3)
  have hs4:=he.size
  have hx4b2:=hb2.lt
  refine WL.l rfl (ll [_]) ?_
  rintro _ w4 ⟨rfl,hb4,e4⟩
  refine WL.l rfl (l_appO Fo.h rfl rfl (hO.mono (((e1.then (e2.then e3)).then e4):Ext wi1 w4)) (Src.at Fb.h (ct hb4) (by rw[hlen]) hone) (by have:=e1.size;have:=e2.size;have:=e3.size;have:=e4.size;omega) (by simp only[maxLen];omega) (by omega)) ?_
  rintro v5 w5 ⟨hO5,e5,hob⟩
  have e5o:=e5
  have e5:=Own.evo (w0:=w) (hO.mono (((e1.then (e2.then e3)).then e4):Ext wi1 w4)) e5o
  refine q ?_
  have hV2:=aa.push hO hV hwi (((e1.then (e2.then e3)).then e4):Ext wi1 w4) (aa.one (hVy.mono ((e2.then e3).then e4))) e5o hob
  have hBk2:=hBk.snoc hBy
  rw[List.take_append_getElem hi]at hBk2
  exact⟨(i+1,v5),sb,sb,⟨⟨_,_,hO5,hV2,by simp[hyl],hBk2⟩,hi,(((((hE.then e1).then (e2.then e3)).then e4).then e5))⟩,(by show ks.length-(i+1)<ks.length-i;omega)⟩
 ·have hin:i=ks.length:=by omega
  subst hin
  rw[List.take_length]at hBk
  refine q ?_
  replace he:=he.then hE
  exact fin2 rfl rfl ⟨sv,ys,rfl,by rw[hyl];exact(by rw[← hyl];exact aD.own hO hyl (hV.weaken fun b h=>h.1) (fun b h _=>h)),hBk,he.weaken fun k hk _=>hk⟩
end Go.Proofs.LL
namespace Go.Proofs.LL
open Go Go.RowKit
theorem iX{α β:Type}{f:α→β}{l l':List β}(h:l.Perm l'):∀(l2:List α),l'=l2.map f→∃l3:List α,l3.Perm l2∧l=l3.map f:=by
 induction h with
 |nil=>intro l2 h;exact⟨l2,.refl _,h⟩
 |cons x _ ih=>
  intro l2 h
  cases l2 with
  |nil=>cases h
  |cons a r=>
   simp only[List.map_cons,List.cons.injEq]at h
   obtain⟨rfl,h2⟩:=h
   obtain⟨r',h3,rfl⟩:=ih r h2
   exact⟨a::r',h3.cons a,rfl⟩
 |swap x y l=>
  intro l2 h
  match l2,h with
  |[],h=>cases h
  |[a],h=>simp at h
  |a::b::r,h=>
   simp only[List.map_cons,List.cons.injEq]at h
   obtain⟨rfl,rfl,rfl⟩:=h
   exact⟨b::a::r,.swap _ _ _,rfl⟩
 |trans _ _ ih1 ih2=>
  intro l2 h
  obtain⟨l3,h3,h4⟩:=ih2 l2 h
  obtain⟨l4,h5,h6⟩:=ih1 l3 h4
  exact⟨l4,h5.trans h3,h6⟩
theorem bP{α β:Type}{f:α→β}{l:List β}{l2:List α}(h:l.Perm (l2.map f)):∃l3:List α,l3.Perm l2∧l=l3.map f:=iX h l2 rfl
abbrev cN:=V×V×Value
def de(e:cN):List V:=[e.1,e.2.1]
def ja(e:cN):List UInt8×Value:=(e.1.text,e.2.2)
theorem ay.ents{A:Nat→Prop}{w:World}:∀ {ks:List V} {ss:List (List UInt8×Value)},ay A w ks ss→ks.length%2=0→∃es:List cN,ks=es.flatMap de∧ss=es.map ja∧∀e∈es,RepA A w e.2.1 e.2.2
 |[],ss,h,_=>by simp only[ay]at h;subst h;exact⟨[],rfl,rfl,by simp⟩
 |[_],ss,_,h=>by simp at h
 |k::v::r,ss,h,h0=>by
  simp only[ay]at h
  obtain⟨b,l',rfl,h1,h2⟩:=h
  obtain⟨es,rfl,rfl,h3⟩:=ay.ents h2 (by simp at h0;omega)
  refine⟨(k,v,b)::es,rfl,rfl,?_⟩
  intro e he
  rcases List.mem_cons.1 he with rfl|he
  ·exact h1
  ·exact h3 e he
theorem bL:∀es:List cN,keysOf (es.flatMap de)=es.map (·.1)
 |[]=>rfl
 |e::r=>by
  simp only[List.flatMap_cons,de,List.cons_append,List.nil_append,keysOf,List.map_cons]
  rw[bL r]
theorem bI:∀es:List cN,(es.flatMap de).length=2 * es.length
 |[]=>rfl
 |e::r=>by
  have:=bI r
  simp only[List.flatMap_cons,de,List.length_append,List.length_cons,List.length_nil]at this⊢
  omega
def aS(p:V×V):List V:=[p.1,p.2]
theorem aK:∀qs:List (V×V),(qs.flatMap aS).length=2 * qs.length
 |[]=>rfl
 |e::r=>by
  have:=aK r
  simp only[List.flatMap_cons,List.length_append,this,aS,List.length_cons,List.length_nil];omega
inductive aB (R:V→V→Prop):List cN→List (V×V)→Prop
 |nil:aB R [] []
 |cons {k v c a b r s}:R k a→cG v b→aB R r s→aB R ((k,v,c)::r) ((a,b)::s)
theorem aB.snoc{R:V→V→Prop}:∀ {es:List cN} {qs:List (V×V)} {e:cN} {q:V×V},aB R es qs→R e.1 q.1→cG e.2.1 q.2→aB R (es++[e]) (qs++[q])
 |[],_,e,q,h,h1,h2=>by cases h;exact .cons h1 h2 .nil
 |a::r,_,e,q,h,h1,h2=>by
  cases h with
  |cons h3 h4 h5=>exact .cons h3 h4 (h5.snoc h1 h2)
theorem aB.length{R:V→V→Prop}:∀ {es:List cN} {qs:List (V×V)},aB R es qs→qs.length=es.length
 |[],_,h=>by cases h;rfl
 |a::r,_,h=>by
  cases h with
  |cons h3 h4 h5=>simp[h5.length]
theorem aB.perm{R:V→V→Prop}{es es':List cN}(h:es.Perm es'):∀ {qs:List (V×V)},aB R es qs→∃qs',aB R es' qs'∧qs.Perm qs':=by
 induction h with
 |nil=>intro qs h;exact⟨qs,h,.refl _⟩
 |cons x _ ih=>
  intro qs h
  cases h with
  |cons h1 h2 h3=>
   obtain⟨qs',h4,h5⟩:=ih h3
   exact⟨_,.cons h1 h2 h4,h5.cons _⟩
 |swap x y l=>
  intro qs h
  cases h with
  |cons h1 h2 h3=>
   cases h3 with
   |cons h4 h5 h6=>exact⟨_,.cons h4 h5 (.cons h1 h2 h6),.swap _ _ _⟩
 |trans _ _ ih1 ih2=>
  intro qs h
  obtain⟨q1,h1,h2⟩:=ih1 h
  obtain⟨q2,h3,h4⟩:=ih2 h1
  exact⟨q2,h3,h2.trans h4⟩
theorem aB.perm'{R:V→V→Prop}{qs qs':List (V×V)}(h:qs'.Perm qs):∀ {es:List cN},aB R es qs→∃es',es'.Perm es∧aB R es' qs':=by
 induction h with
 |nil=>intro es h;exact⟨es,.refl _,h⟩
 |cons x _ ih=>
  intro es h
  cases h with
  |cons h1 h2 h3=>
   obtain⟨es',h4,h5⟩:=ih h3
   exact⟨_,h4.cons _,.cons h1 h2 h5⟩
 |swap x y l=>
  intro es h
  cases h with
  |cons h1 h2 h3=>
   cases h3 with
   |cons h4 h5 h6=>exact⟨_,.swap _ _ _,.cons h4 h5 (.cons h1 h2 h6)⟩
 |trans _ _ ih1 ih2=>
  intro es h
  obtain⟨q1,h1,h2⟩:=ih2 h
  obtain⟨q2,h3,h4⟩:=ih1 h2
  exact⟨q2,h3.trans h1,h4⟩
theorem aB.back:∀ {es:List cN} {qs:List (V×V)},aB cG es qs→ew (es.flatMap de) qs
 |[],_,h=>by cases h;exact .nil
 |(k,v,c)::r,_,h=>by
  cases h with
  |cons h1 h2 h3=>exact .cons h1 h2 h3.back
theorem aB.imp{R S:V→V→Prop}:∀ {es:List cN} {qs:List (V×V)},aB R es qs→(∀e∈es,∀a,R e.1 a→S e.1 a)→aB S es qs
 |[],_,h,_=>by cases h;exact .nil
 |(k,v,c)::r,_,h,hi=>by
  cases h with
  |cons h1 h2 h3=>exact .cons (hi (k,v,c) (by simp) _ h1) h2 (h3.imp fun e he=>hi e (by simp[he]))
end Go.Proofs.LL
namespace Go.Proofs.LL
open Go Go.RowKit
def jq(A:Nat→Prop)(w:World)(es:List cN):Prop:=∀e∈es,RepA A w e.2.1 e.2.2
theorem jq.mono{A B:Nat→Prop}{w w':World}{es:List cN}(h:jq A w es)(e:Evo B w w')(hAB:∀b,b<w.heap.size→A b→B b:=by(intro b hb1 hb2;first|exact trivial|exact hb2|((try dsimp only[Nb]at hb2⊢);omega))):jq A w' es:=fun x hx=>RepA.mono' (h x hx) e hAB
def ir(es:List cN)(j:Nat):List UInt8:=((es[j]?).map (·.1.text)).getD []
theorem gj{es:List cN}{j:Nat}(h:j<es.length):ir es j=es[j].1.text:=by simp[ir,h]
theorem fN(es:List cN):(List.range es.length).map (ir es)=es.map (·.1.text):=by
 apply List.ext_getElem
 ·simp
 ·intro i h1 h2
  have:i<es.length:=by simpa using h2
  simp[gj this]
abbrev gG(e:cN):Value×Value:=jS (ja e)
theorem gV{es:List cN}(hnd:(es.map (·.1.text)).Nodup){e:cN}(he:e∈es):∃j,∃(hj:j<(es.map gG).length),(es.map gG)[j]=(str e.1.text,e.2.2)∧∀a (h:a<j),∃s,((es.map gG)[a]'(Nat.lt_trans h hj)).1=str s∧s≠e.1.text:=by
 obtain⟨j,hj,rfl⟩:=List.mem_iff_getElem.1 he
 refine⟨j,by simpa using hj,by simp[jS,ja],fun a h=>⟨es[a].1.text,by simp[jS,ja],fun e1=>?_⟩⟩
 have h2:(es.map (·.1.text))[a]'(by simp;omega)=(es.map (·.1.text))[j]'(by simpa using hj):=by simpa using e1
 have:=List.pairwise_iff_getElem.1 hnd a j (by simp;omega) (by simpa using hj) h
 exact this h2
end Go.Proofs.LL
