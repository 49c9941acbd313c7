/- Own laws of frames, operations and loops, and contracts of functions of the program. Conditions: those that each theorem states. -/
import Derived.Test.YtdgbmbjkbmpcbaaGreatDoorV29
set_option linter.all false
set_option maxRecDepth 20000
namespace Go.Proofs.LL
open Go Go.Proofs Go.RowKit
set_option maxHeartbeats 4000000
attribute [local irreducible] RunOp WL WC WDL WT WX
theorem ag.six:∀ {A:Nat→Prop} {w:World} {x:V} {cs:List Value},ag A w x cs→∃a b c d e f,cs=[a,b,c,d,e,f]
 |A,w,.mk k n t ks o d,cs,h=>by
  rw[ag]at h
  obtain⟨sk,sd,rfl,_⟩:=h
  exact⟨_,_,_,_,_,_,rfl⟩
abbrev oF:=gk×(V×V)
def gu(A:Nat→Prop)(w:World)(zs:List oF):Prop:=∀z∈zs,aa A w [z.2.1,z.2.2] z.1.1.2
theorem gu.mono{A B:Nat→Prop}{w w':World}{zs:List oF}(h:gu A w zs)(e:Evo B w w')(hAB:∀b,b<w.heap.size→A b→B b:=by(intro b hb1 hb2;first|exact trivial|exact hb2|((try dsimp only[Nb]at hb2⊢);omega))):gu A w' zs:=fun z hz=>(h z hz).mono' e hAB
def kq(e:cN):Value×Value:=(.iface (ktyK (rk e.1.kind)) (kval (rk e.1.kind) e.1.num e.1.text),e.2.2)
theorem jk(x:V){w:World}(hk:keyK x.kind)(hp:plainOK x):
  Does TP 85 [.iface (ktyK (rk x.kind)) (kval (rk x.kind) x.num x.text)] w fun r w'=>r= .tuple #[.agg (vc (eH x.kind) x.num x.text).toArray,.bool true]∧Ext w w':=by
 obtain⟨k,n,t,ks,o,d⟩:=x
 exact(ej hp (scal_key hk)).imp fun r w' ⟨cells,h1,h2,h3⟩=>⟨by rw[h1,h2];rfl,h3⟩
theorem iz{α β:Type}{f g:α→Option β}:∀(l:List α),(∀x∈l,f x=g x)→l.filterMap f=l.filterMap g
 |[],_=>rfl
 |a::r,h=>by
  rw[List.filterMap_cons,List.filterMap_cons,h a (by simp),iz r (fun x hx=>h x (by simp[hx]))]
theorem bQ:∀(l:List cN) (s:Nat),(List.range' s l.length).filterMap (fun i=>l[i-s]?)=l
 |[],s=>rfl
 |a::r,s=>by
  rw[List.length_cons,List.range'_succ,List.filterMap_cons]
  simp only[Nat.sub_self,List.getElem?_cons_zero]
  rw[iz (g:=fun i=>r[i-(s+1)]?) _ (fun i hi=>by
   have:=(List.mem_range'_1.1 hi).1
   rw[show i-s=(i-(s+1))+1 by omega,List.getElem?_cons_succ]),bQ r (s+1)]
theorem eD(es:List cN):(List.range es.length).filterMap (fun i=>es[i]?)=es:=by
 have:=bQ es 0
 simpa[List.range_eq_range']using this
theorem mc{B:Nat}{w:World}{v:Value}{zs:List oF}{r:gk}{q:V×V}(h:Own B 423 13 w v (zs.length+1) ((zs.map (·.1)).flatMap aI++aI r)):Own B 423 13 w v (zs++[(r,q)]).length (((zs++[(r,q)]).map (·.1)).flatMap aI):=by
 simpa using h
theorem At.row{w:World}{g:Nat}{rows:List gk}{i:Nat}(h:At w g 0 (rows.flatMap aI))(hi:i<rows.length):At w g (i * 13) (aI rows[i]):=by
 have e1:rows.flatMap aI=(rows.take i).flatMap aI++(aI rows[i]++(rows.drop (i+1)).flatMap aI):=by
  conv=>lhs;rw[← List.take_append_drop i rows,List.flatMap_append,List.drop_eq_getElem_cons hi,List.flatMap_cons]
 rw[e1]at h
 have h2:=At.mid h
 rw[aJ,List.length_take,Nat.min_eq_left (Nat.le_of_lt hi),Nat.zero_add]at h2
 exact h2
theorem oF.six{A:Nat→Prop}{w:World}{z:oF}(h:aa A w [z.2.1,z.2.2] z.1.1.2):∃b1 b2 b3 b4 b5 b6 a1 a2 a3 a4 a5 a6,aI z.1=[str z.1.1.1,b1,b2,b3,b4,b5,b6,a1,a2,a3,a4,a5,a6]∧aa A w [z.2.1,z.2.2] ([b1,b2,b3,b4,b5,b6]++[a1,a2,a3,a4,a5,a6])∧([b1,b2,b3,b4,b5,b6]++[a1,a2,a3,a4,a5,a6]).all (fun v=>v.oneCell')=true:=by
 have h0:=h
 have h1:=h.oneAll
 rw[aa]at h
 obtain⟨c,c',e,hq,h⟩:=h
 rw[aa]at h
 obtain⟨d,d',rfl,hy,h⟩:=h
 rw[aa]at h
 subst h
 obtain⟨b1,b2,b3,b4,b5,b6,rfl⟩:=hq.six
 obtain⟨a1,a2,a3,a4,a5,a6,rfl⟩:=hy.six
 rw[List.append_nil]at e
 refine⟨b1,b2,b3,b4,b5,b6,a1,a2,a3,a4,a5,a6,?_,by rw[← e];exact h0,by rw[← e];exact h1⟩
 show str _::z.1.1.2=_
 rw[e];rfl
theorem aa.push2{N0:Nat}{wi w4 w5:World}{sv v5:Value}{cs c':List Value}{ys ys':List V}(hV:aa (fun b=>N0≤b∧sv.ownBlock≠some b) wi ys cs)(he:Ext wi w4)(hy:aa (fun b=>N0≤b∧sv.ownBlock≠some b) w4 ys' c')
  (e5:Evo (fun k=>sv.ownBlock≠some k) w4 w5) (hob:v5.ownBlock=sv.ownBlock∨∀b,v5.ownBlock=some b→w4.heap.size≤b):aa (fun b=>N0≤b∧v5.ownBlock≠some b) w5 (ys++ys') (cs++c'):=by
 have h1:aa (fun b=>(N0≤b∧sv.ownBlock≠some b)∧b<w4.heap.size) w4 ys cs:=(hV.mono' he (fun _ _ _=>trivial)).weakenW fun b hb h=>⟨h,hb⟩
 have h2:aa (fun b=>(N0≤b∧sv.ownBlock≠some b)∧b<w4.heap.size) w4 ys' c':=hy.weakenW fun b hb h=>⟨h,hb⟩
 refine((h1.append h2).mono' e5 (fun b _ h=>h.1.2)).weaken fun b h=>⟨h.1.1,fun e=>?_⟩
 rcases hob with h3|h3
 ·rw[h3]at e;exact h.1.2 e
 ·have:=h3 b e;omega
theorem gu.push{N0 Bb:Nat}{wi w4 w5:World}{sv v5:Value}{n:Nat}{cs:List Value}{zs:List oF}{z:oF}(hO:Own Bb 423 13 wi sv n cs)(hZ:gu (fun b=>N0<b∧sv.ownBlock≠some b) wi zs)(hN:N0<wi.heap.size)(he:Evo (fun b=>N0<b) wi w4)(hy:aa (fun b=>wi.heap.size≤b) w4 [z.2.1,z.2.2] z.1.1.2)
  (e5:Evo (fun k=>sv.ownBlock≠some k) w4 w5) (hob:v5.ownBlock=sv.ownBlock∨∀b,v5.ownBlock=some b→w4.heap.size≤b):gu (fun b=>N0<b∧v5.ownBlock≠some b) w5 (zs++[z]):=by
 have hlow:∀b,sv.ownBlock=some b→b<wi.heap.size:=by
  intro b hb
  rcases hO.row.2 with⟨rfl,_⟩|⟨g,cap,cur,rfl,h4,h5,_⟩
  ·simp[Value.ownBlock]at hb
  ·simp[Value.ownBlock]at hb
   subst hb
   exact(Array.getElem?_eq_some_iff.1 h5).1
 have fin:∀(l:List V) (c:List Value),aa (fun b=>(N0<b∧sv.ownBlock≠some b)∧b<w4.heap.size) w4 l c→aa (fun b=>N0<b∧v5.ownBlock≠some b) w5 l c:=fun l c h=>
  (h.mono' e5 (fun b _ h=>h.1.2)).weaken fun b h=>⟨h.1.1,fun e=>by
   rcases hob with h3|h3
   ·rw[h3]at e;exact h.1.2 e
   ·have:=h3 b e;omega⟩
 intro y hy'
 rcases List.mem_append.1 hy' with h|h
 ·exact fin _ _ (((hZ y h).mono' he (fun _ _ h=>h.1)).weakenW fun b hb h=>⟨h,hb⟩)
 ·rw[List.mem_singleton.1 h]
  exact fin _ _ (hy.weakenW fun b hb h=>⟨⟨Nat.lt_of_lt_of_le hN h,fun e=>by have:=hlow b e;omega⟩,hb⟩)
theorem k4{x:V}(h:plainOK x):NumOK (rk x.kind) x.num:=by
 unfold rk
 split
 ·rename_i h20
  have:=h.2.2.2.2.2 (by omega)
  rw[this]
  refine⟨?_,?_,?_,?_,?_,?_,?_,?_,?_⟩<;>omega
 ·exact h.1
theorem qQ{w:World}{b:Nat}{l:List UInt8}{k:Int}{n:Nat}{t:List UInt8}{a1 a2 a3 a4 a5 a6:Value}(h:Blk w b (([.agg #[str l,.int .i64 k,.int .u64 (n:Int),str t,.slice none 0 0,.int .i64 0,.slice none 0 0,a1,a2,a3,a4,a5,a6]]:List Value).flatMap (fun v=>v.cells.toList))):At w b 0 (str l::(vc k n t++[a1,a2,a3,a4,a5,a6])):=h.at
theorem qh{l:List UInt8}{k:Int}{n:Nat}{t:List UInt8}{c:List Value}(h:c.all (fun v=>v.oneCell')=true):(str l::(vc k n t++c)).all (fun v=>v.oneCell')=true:=h
def lK(l:List UInt8)(k:Int)(n:Nat)(t:List UInt8)(c:List Value)(hc:c.length=6)(h:c.all (fun v=>v.oneCell')=true):gk:=
 ⟨(l,vc k n t++c),by simp[vc,hc],List.all_eq_true.1 (show(vc k n t++c).all (fun v=>v.oneCell')=true from h)⟩
theorem lG{A:Nat→Prop}{m:Nat}{es:List cN}{w:World}(hV:∀e∈es,bB e.2.1)(hK:∀e∈es,keyK e.1.kind∧plainOK e.1∧(e.1.kind=19∨e.1.kind=20→Lib.validD e.1.text=true))(hUT:UT w)(hRE:jq A w es)(hle:es.length≤30000)(hM:MapO w m (es.map kq)):
  Does TP 142 [.map (some m)] w fun r w'=>∃sv qs,r= .tuple #[sv,.bool true]∧aD (fun b=>w.heap.size≤b) w' (qs.flatMap aS).length sv (aa (fun b=>w.heap.size≤b) w' (qs.flatMap aS))∧(∃es',es'.Perm es∧aB (fun k a=>a=pv (eH k.kind) k.num k.text) es' qs)∧Ext w w':=by
 have hm0:=hM.lt
 have hkl:(es.map kq).length=es.length:=List.length_map ..
 refine do2 Tryz.func142 ?_
 have he:Evo (fun b=>b<w.heap.size) w w:=Evo.refl w
 refine jA 7 rfl ?_
 have hs1:=he.size
 refine al ?_
 rintro _ w1 ⟨rfl,hb1,e1⟩
 refine jD 5 rfl ?_
 replace hM:=hM.mono e1
 refine WL.l rfl (l_range Fo.h rfl hM) ?_
 rintro v2 w2 ⟨rfl,hI,e2⟩
 have hx0:=hb1.lt
 have hx1:=hI.lt
 have hq1:=e1.size
 have hq2:=e2.size
 refine jD 2 rfl ?_
 replace hM:=hM.mono e2
 replace hb1:=hb1.mono e2
 replace he:=(he.then e1).then e2
 refine WC.loop2 (ι:=(List Nat)) [(2,_),(3,_),(4,_),(17,_)] (fun i=>[]) (fun i wi=>(∃sv zs,Blk wi w.heap.size [sv]∧Own w2.heap.size 423 13 wi sv zs.length ((zs.map (·.1)).flatMap aI)∧gu (fun b=>w1.heap.size<b∧sv.ownBlock≠some b) wi zs∧aB (fun k a=>a=pv (eH k.kind) k.num k.text) (i.filterMap (fun j=>es[j]?)) (zs.map (·.2)))∧ItO wi w1.heap.size m (es.map kq).length i∧i.Nodup∧(∀j∈i,j<(es.map kq).length)∧Evo (fun k=>k<w2.heap.size∧k≠w.heap.size∧k≠w1.heap.size) w2 wi) (fun i=>(es.map kq).length-i.length) [] sb .nil (⟨⟨_,[],hb1,Own.nil _ _ _ _,(by intro z hz;cases hz),.nil⟩,hI,.nil,by simp,Evo.refl _⟩) ?_
 intro i wi1 hh;obtain⟨⟨sv,zs,hb1,hO,hZ,hSh⟩,hI,hnd2,hlt2,hE⟩:=hh
 have hwi:=hE.size
 have hO0:=hO
 have hO1:=hO.below
 have hzl:zs.length≤30000:=by
  have h1:=hSh.length
  have h2:(i.filterMap (fun j=>es[j]?)).length≤i.length:=List.length_filterMap_le ..
  have h3:=List.Nodup.length_le_of_subset (l₂:=List.range (es.map kq).length) hnd2 (fun j hj=>List.mem_range.2 (hlt2 j hj))
  simp at h1 h3;omega
 replace hM:=hM.mono hE
 rcases next_or (P:=TP) hM hI with⟨hall,hN⟩|⟨j,hj,hnj,hN⟩
 ·have hper:=seen_perm hnd2 hlt2 hall
  have hpe:(i.filterMap (fun j=>es[j]?)).Perm es:=by
   have:=hper.filterMap (fun j=>es[j]?)
   rwa [hkl,eD]at this
  refine jA 2 rfl ?_
  refine WL.l rfl (hN rfl) ?_
  rintro v3 w3 ⟨rfl,e3⟩
  have hq3:=e3.size
  refine jD 4 rfl<|WC.exit<|jA 2 rfl ?_
  replace hb1:=hb1.mono e3
  refine ld rfl hb1 rfl<|jC 1 rfl<|WL.q rfl (r_makeFunc rfl rfl) ?_
  replace hO:=hO.mono e3
  refine cl rfl (f7 (rows:=zs.map (·.1)) (by rw[List.length_map];exact hO) hb1 (by omega) (by rw[List.length_map];omega)) ?_
  rintro v4 w4 ⟨rfl,⟨rows',hpr,hS⟩,e4⟩
  have e4o:=e4
  replace e4:=Own.evo (w0:=w) hO e4o
  have hq4:=e4.size
  obtain⟨p,c,hsv,hpc,hAt⟩:=hS.form
  have hsvl:=hpr.length_eq
  subst hsv
  refine jD 8 rfl ?_
  replace hb1:=hb1.mono e4
  refine ld rfl hb1 rfl<|jD 4 rfl ?_
  rw[List.length_map]at hsvl
  obtain⟨zs2,hp2,rfl⟩:=bP hpr
  have hzl2:zs2.length=zs.length:=hp2.length_eq
  have hZ4:gu (fun b=>w1.heap.size<b) w4 zs2:=fun z hz=>(((hZ z (hp2.mem_iff.1 hz)).mono' e3 (fun b _ h=>by show b≠w1.heap.size;have:=h.1;omega)).mono' e4o (fun b _ h=>h.2)).weaken fun b h=>h.1
  obtain⟨qs0,hSh0,hpq⟩:∃es',es'.Perm es∧aB (fun k a=>a=pv (eH k.kind) k.num k.text) es' (zs2.map (·.2)):=by
   obtain⟨qs',h1,h2⟩:=aB.perm' (hp2.map (·.2)) hSh
   exact⟨qs',h1.trans hpe,h2⟩
  replace hM:=(hM.mono e3).mono e4
  replace he:=((he.then hE).then e3).then e4
  refine WC.loop2 (ι:=(Nat×Value)) [(2,_),(3,_),(4,_),(17,_),(60,_),(61,_)] (fun i=>[(13,i.2),(62,.int .i64 (i.1:Int))]) (fun i wi=>(∃cs,Own w4.heap.size 87 6 wi i.2 (2 * i.1) cs∧aa (fun b=>w.heap.size≤b∧i.2.ownBlock≠some b) wi (((zs2.map (·.2)).take i.1).flatMap aS) cs)∧i.1≤zs2.length∧Evo (fun b=>b<w4.heap.size) w4 wi) (fun i=>zs2.length-i.1) (0,.slice none 0 0) sb sb (⟨⟨[],Own.nil _ _ _ _,by rw[List.take_zero,List.flatMap_nil,aa]⟩,Nat.zero_le _,Evo.refl _⟩) ?_
  intro i wi2 hh;obtain⟨⟨cs,hP,hV2⟩,hil2,hE⟩:=hh
  obtain⟨i2,so⟩:=i
  dsimp only at hP hV2 hil2
  have hwi2:=hE.size
  rcases Nat.lt_or_ge i2 zs2.length with hi|hi
  ·have hir:i2<(zs2.map (·.1)).length:=by simpa using hi
   obtain⟨b,rfl,hBb,hbl,hAt⟩:=hAt (by omega)
   obtain⟨b1,b2,b3,b4,b5,b6,a1,a2,a3,a4,a5,a6,hrow,hrv,hone⟩:=oF.six (hZ4 _ (List.getElem_mem hi))
   have hAti:=(hAt.row hir).mono hE hbl
   rw[List.getElem_map,hrow]at hAti
   have hAtj:At wi2 b (0+i2 * 13) [str zs2[i2].1.1.1,b1,b2,b3,b4,b5,b6,a1,a2,a3,a4,a5,a6]:=by rw[Nat.zero_add];exact hAti
   have hrvi:=((hrv.weakenW (B:=fun b=>w1.heap.size<b∧b<w4.heap.size) fun b hb h=>⟨h,hb⟩).mono' hE (fun b hb _=>hb)).weaken (B:=fun b=>w.heap.size≤b∧so.ownBlock≠some b) fun b h=>⟨by omega,hP.below.2 b h.2⟩
   refine jA 2 rfl<|lT rfl rfl<|jD 8 rfl<|WL.q rfl (r_idx Fo.h rfl rfl rfl hir)<|WL.q rfl (r_loadAgg Fo.h rfl (Ext.refl _) hAtj (hn:=rfl)) ?_
   replace he:=he.then hE
   have hs5:=he.size
   replace hb1:=hb1.mono hE
   have hx5b1:=hb1.lt
   refine al ?_
   rintro _ w5 ⟨rfl,hb5,e5⟩
   refine WL.l0 (lsw rfl rfl hb5) ?_
   rintro _ w6 ⟨hb5,e6,hz6⟩
   refine jD 4 rfl<|WL.q rfl (r_loadAgg Fo.h rfl (Ext.refl _) (At.mid (pre:=[_]) (c:=[b1,b2,b3,b4,b5,b6]) (post:=[a1,a2,a3,a4,a5,a6]) hb5.at) (hn:=rfl))<|jC 1 rfl<|WL.q rfl (r_loadAgg Fo.h rfl (Ext.refl _) (At.mid (pre:=[_,b1,b2,b3,b4,b5,b6]) (c:=[a1,a2,a3,a4,a5,a6]) (post:=[]) hb5.at) (hn:=rfl)) ?_
   replace he:=he.then (e5.then e6)
   have hs7:=he.size
   replace hb1:=hb1.mono (e5.then e6)
   have hx7b1:=hb1.lt
   have hx7b5:=hb5.lt
   refine WL.l rfl (ll [_,_]) ?_
   rintro _ w7 ⟨rfl,hb7,e7⟩
   refine WL.l rfl (l_appO (n:=2 * i2) Fo.h rfl rfl (hP.mono ((e5.then e6).then e7:Ext wi2 w7)) (Src.at Fb.h (io hb7) rfl hone) (by have:=e5.size;have:=e6.size;have:=e7.size;omega) (by simp only[maxLen];omega) (by omega)) ?_
   rintro v8 w8 ⟨hO8,e8,hob⟩
   have e8o:=e8
   have e8:=Own.evo (w0:=w) (hP.mono ((e5.then e6).then e7:Ext wi2 w7)) e8o
   refine jD 3 rfl<|ai rfl rfl rfl<|jC 2 rfl ?_
   have hV3:=aa.push2 hV2 ((e5.then e6).then e7:Ext wi2 w7) (hrvi.mono' ((e5.then e6).then e7:Ext wi2 w7) (fun _ _ _=>trivial)) e8o hob
   have htk:((zs2.map (·.2)).take (i2+1)).flatMap aS=((zs2.map (·.2)).take i2).flatMap aS++[zs2[i2].2.1,zs2[i2].2.2]:=by
    have hi':i2<(zs2.map (·.2)).length:=by simpa using hi
    rw[← List.take_append_getElem hi',List.flatMap_append];simp[aS]
   exact⟨(i2+1,v8),sb,sb,⟨⟨_,hO8,by rw[htk];exact hV3⟩,hi,((((hE.then (e5.then e6)).then e7).then e8))⟩,(by show zs2.length-(i2+1)<zs2.length-i2;omega)⟩
  ·have hin:i2=zs2.length:=by omega
   subst hin
   have htk:(zs2.map (·.2)).take zs2.length=zs2.map (·.2):=List.take_of_length_le (by simp)
   rw[htk]at hV2
   refine jA 2 rfl<|lF rfl rfl<|jD 3 rfl<|WC.exit<|jA 6 rfl<|WC.ret ?_
   replace he:=he.then hE
   exact fin2 rfl rfl ⟨so,zs2.map (·.2),rfl,by exact(aD.own hP (by rw[aK,List.length_map]) (hV2.weaken fun b h=>h.1) (fun b h _=>by show w.heap.size≤b;omega)),⟨qs0,hSh0,hpq⟩,he.weaken fun k hk _=>hk⟩
 ·obtain⟨hnd3,hlt3,hmu⟩:=seen_snoc hnd2 hlt2 hj hnj
  have hj1:j<es.length:=by omega
  have hfm:(i++[j]).filterMap (fun j=>es[j]?)=i.filterMap (fun j=>es[j]?)++[es[j]]:=by
   rw[List.filterMap_append];simp[hj1]
  have hmem:=List.getElem_mem hj1
  have hgk:((es.map kq)[j]).1= .iface (ktyK (rk es[j].1.kind)) (kval (rk es[j].1.kind) es[j].1.num es[j].1.text):=by simp[kq]
  have hgv:((es.map kq)[j]).2=es[j].2.2:=by simp[kq]
  obtain⟨hkk,hkp,hku⟩:=hK _ hmem
  have hk1:NumOK (rk es[j].1.kind) es[j].1.num:=k4 hkp
  have hk2:rk es[j].1.kind=17→es[j].1.text.length=16:=fun h=>hkp.2.2.1 (by unfold rk at h;split at h<;>omega)
  have hk3:rk es[j].1.kind=19→Lib.validD es[j].1.text=true∧es[j].1.text.length≤131072:=fun h=>⟨hku (by unfold rk at h;split at h<;>omega),hkp.2.1⟩
  refine jA 2 rfl ?_
  refine WL.l rfl (hN rfl) ?_
  rintro v3 w3 ⟨rfl,hI,e3⟩
  refine jD 8 rfl ?_
  replace hM:=hM.mono e3
  refine WL.q rfl (r_entryE rfl hj hgk hgv (Ext.refl _) hM hI)<|jD 8 rfl ?_
  refine cl rfl (jk es[j].1 hkk hkp) ?_
  rintro v4 w4 ⟨rfl,e4⟩
  refine jC 3 rfl ?_
  replace he:=((he.then hE).then e3).then e4
  have hs5:=he.size
  replace hb1:=(hb1.mono e3).mono e4
  have hx5b1:=hb1.lt
  refine al ?_
  rintro _ w5 ⟨rfl,hb5,e5⟩
  refine WL.l0 (lsw rfl rfl hb5) ?_
  rintro _ w6 ⟨hb5,e6,hz6⟩
  refine jD 5 rfl ?_
  refine cl rfl (hV _ hmem _ _ _ (hUT.ext (he.then (e5.then e6))) (RepA.mono' (hRE _ hmem) (he.then (e5.then e6)) (fun b hb _=>hb))) ?_
  rintro v7 w7 ⟨c6,y,rfl,hVy,hBy,e7⟩
  have hone:=hVy.one
  obtain⟨a1,a2,a3,a4,a5,a6,rfl⟩:=hVy.six
  refine jC 3 rfl ?_
  replace he:=(he.then (e5.then e6)).then e7
  have hs8:=he.size
  replace hb1:=(hb1.mono (e5.then e6)).mono e7
  have hx8b1:=hb1.lt
  replace hb5:=hb5.mono e7
  have hx8b5:=hb5.lt
  refine al ?_
  rintro _ w8 ⟨rfl,hb8,e8⟩
  refine WL.l0 (lsw rfl rfl hb8) ?_
  rintro _ w9 ⟨hb8,e9,hz9⟩
  refine jD 5 rfl ?_
  refine cl rfl (gi (k:=rk es[j].1.kind) (hUT.ext (he.then (e8.then e9))) (keyK_R hkk) hk1 hk2 hk3) ?_
  rintro v10 w10 ⟨u7,l7,N7,rfl,hOl,hN7,hll,e10⟩
  have hIl:=Own.toB (A:=fun _=>True) hOl (fun _ _ _=>trivial)
  refine jD 23 rfl ?_
  replace hb1:=(hb1.mono (e8.then e9)).mono e10
  refine ld rfl hb1 rfl<|jC 1 rfl<|WL.q rfl (r_b2s Fb.h rfl (Ext.refl _) hIl) ?_
  replace hb5:=(hb5.mono (e8.then e9)).mono e10
  refine la rfl hb5 ?_
  replace hb8:=hb8.mono e10
  refine la rfl hb8<|WL.q rfl (r_bld (cs:=[_,_,_,_,_,_,_,_,_,_,_,_,_]) Fo.h rfl rfl) ?_
  replace he:=(he.then (e8.then e9)).then e10
  have hs11:=he.size
  have hx11b1:=hb1.lt
  have hx11b5:=hb5.lt
  have hx11b8:=hb8.lt
  refine WL.l rfl (ll [_]) ?_
  rintro _ w11 ⟨rfl,hb11,e11⟩
  replace hO:=((((((hO.mono e3).mono e4).mono (e5.then e6)).mono e7).mono (e8.then e9)).mono e10).mono e11
  refine WL.l rfl (l_appO (n:=zs.length) Fo.h rfl rfl hO (Src.at Fb.h (qQ hb11) rfl (qh hone)) (by have:=e3.size;have:=e4.size;have:=e5.size;have:=e6.size;have:=e7.size;have:=e8.size;have:=e9.size;have:=e10.size;have:=e11.size;omega) (by simp only[maxLen];omega) (by omega)) ?_
  rintro v12 w12 ⟨hO2,e12,hob⟩
  have e12o:=e12
  have e12:=Own.evo (w0:=w) hO e12o
  replace hb1:=(hb1.mono e11).mono e12
  refine WL.l0 (lst rfl rfl hb1) ?_
  rintro _ w13 ⟨hb1,e13,hz13⟩
  refine WL.nil ?_
  have hZ2:=(gu.push (z:=(lK l7 (eH es[j].1.kind) es[j].1.num es[j].1.text [a1,a2,a3,a4,a5,a6] rfl hone,(pv (eH es[j].1.kind) es[j].1.num es[j].1.text,y))) hO0 hZ (by omega) ((((((((Evo.refl wi1:Evo (fun b=>w1.heap.size<b) wi1 wi1).then e3).then e4).then (e5.then e6)).then e7).then (e8.then e9)).then e10).then e11)
   ((aa.one (ag.plain (eH es[j].1.kind) es[j].1.num es[j].1.text)).append (aa.one ((hVy.mono (((e8.then e9).then e10).then e11)).weaken fun b h=>by have:=e3.size;have:=e4.size;have:=e5.size;have:=e6.size;omega))) e12o hob).mono e13
  have hSh2:=hSh.snoc (e:=es[j]) (q:=(pv (eH es[j].1.kind) es[j].1.num es[j].1.text,y)) rfl hBy
  rw[← hfm]at hSh2
  replace hI:=(((((((hI.mono e4).mono (e5.then e6)).mono e7).mono (e8.then e9)).mono e10).mono e11).mono e12).mono e13
  exact⟨(i++[j]),sb,.nil,⟨⟨v12,zs++[(lK l7 (eH es[j].1.kind) es[j].1.num es[j].1.text [a1,a2,a3,a4,a5,a6] rfl hone,(pv (eH es[j].1.kind) es[j].1.num es[j].1.text,y))],hb1,mc (r:=lK l7 (eH es[j].1.kind) es[j].1.num es[j].1.text [a1,a2,a3,a4,a5,a6] rfl hone) (hO2.mono e13),hZ2,by rw[List.map_append];exact hSh2⟩,hI,hnd3,hlt3,((((((((((hE.then e3).then e4).then (e5.then e6)).then e7).then (e8.then e9)).then e10).then e11).then e12).then e13))⟩,hmu⟩
mutual
def fw:V→Prop
 | .mk k _ t ks _ _=>(k=19∨k=20→Lib.validD t=true)∧bJ ks
def bJ:List V→Prop
 |[]=>True
 |x::r=>fw x∧bJ r
end
theorem aD.mono{A B:Nat→Prop}{w w':World}{n:Nat}{v:Value}{l:List V}(h:aD A w n v (aa A w l))(e:Evo B w w')(hAB:∀b,b<w.heap.size→A b→B b:=by(intro b hb1 hb2;first|exact trivial|exact hb2|((try dsimp only[Nb]at hb2⊢);omega))):aD A w' n v (aa A w' l):=by
 obtain⟨p,c,cells,h1,h2,h3,h4⟩:=h
 exact⟨p,c,cells,h1,h2,h3.mono' e hAB,h4.imp id fun⟨b,o,x1,x2,x3⟩=>⟨b,o,x1,x2,x3.growP e hAB x2⟩⟩
theorem aD.low{A B:Nat→Prop}{w:World}{n:Nat}{v:Value}{l:List V}(h:aD A w n v (aa A w l))(hAB:∀b,A b→B b):aD B w n v (aa B w l):=by
 obtain⟨p,c,cells,h1,h2,h3,h4⟩:=h
 exact⟨p,c,cells,h1,h2,h3.weaken hAB,h4.imp id fun⟨b,o,x1,x2,x3⟩=>⟨b,o,x1,hAB b x2,x3⟩⟩
theorem RepM.ents{A:Nat→Prop}{w:World}:∀ {ks:List V} {kvs:List (Value×Value)},RepM A w ks kvs→ks.length%2=0→(∀x∈keysOf ks,keyK x.kind)→∃es:List cN,ks=es.flatMap de∧kvs=es.map kq∧jq A w es
 |[],kvs,h,_,_=>by rw[RepM]at h;subst h;exact⟨[],rfl,rfl,fun e he=>by cases he⟩
 |[_],kvs,_,h,_=>by simp at h
 |k::v::r,kvs,h,h0,hk=>by
  rw[RepM]at h
  obtain⟨a,b,l',rfl,h1,h2,h3⟩:=h
  obtain⟨es,rfl,rfl,h4⟩:=RepM.ents h3 (by simp at h0;omega) (fun x hx=>hk x (by simp[keysOf,hx]))
  have hkk:=hk k (by simp[keysOf])
  have ha:a= .iface (ktyK (rk k.kind)) (kval (rk k.kind) k.num k.text):=by
   obtain⟨kk,kn,kt,kks,ko,kd⟩:=k
   rw[RepA]at h1
   simp only[V.kind,V.num,V.text]at hkk⊢
   have hs:=scal_key (n:=kn) (t:=kt) hkk
   unfold keyK at hkk
   rcases h1 with h1|⟨h1,_⟩|⟨h1,_⟩|⟨h1,_⟩|⟨h1,_⟩
   ·rw[hs]at h1;exact(Option.some.inj h1).symm
   all_goals omega
  refine⟨(k,v,b)::es,rfl,by rw[ha];rfl,?_⟩
  intro e he
  rcases List.mem_cons.1 he with rfl|he
  ·exact h2
  ·exact h4 e he
theorem fp:∀ {es:List cN} {ss:List (List UInt8×Value)},es.map kq=ss.map (fun p=>(.iface 9 (str p.1),p.2))→(∀e∈es,keyK e.1.kind)→ss=es.map ja∧∀e∈es,e.1.kind=19∨e.1.kind=20
 |[],ss,h,_=>by
  have:ss=[]:=by cases ss with
   |nil=>rfl
   |cons a r=>cases h
  subst this;exact⟨rfl,fun e he=>by cases he⟩
 |e::es,[],h,_=>by cases h
 |e::es,p::ss,h,hk=>by
  simp only[List.map_cons,List.cons.injEq]at h
  obtain⟨h1,h2⟩:=h
  obtain⟨h3,h4⟩:=fp h2 (fun e he=>hk e (by simp[he]))
  have hkk:=hk e (by simp)
  have hR:=keyK_R hkk
  simp only[kq,Prod.mk.injEq,Value.iface.injEq]at h1
  obtain⟨⟨h5,h6⟩,h7⟩:=h1
  have h19:rk e.1.kind=19:=by
   rw[← kndT_kty hR,h5];rfl
  have hkd:e.1.kind=19∨e.1.kind=20:=by
   unfold rk at h19;split at h19<;>omega
  rw[h19]at h6
  have ht:e.1.text=p.1:=by
   have h8:str e.1.text=str p.1:=h6
   simpa[str]using h8
  refine⟨?_,?_⟩
  ·rw[List.map_cons,← h3]
   congr 1
   exact Prod.ext ht.symm h7.symm
  ·intro x hx
   rcases List.mem_cons.1 hx with rfl|hx
   ·exact hkd
   ·exact h4 x hx
theorem fm{es:List cN}(hp:∀e∈es,plainOK e.1)(hk:∀e∈es,e.1.kind=19∨e.1.kind=20)(h:((es.map (·.1)).map asKey).Nodup):(es.map (·.1.text)).Nodup:=by
 rw[List.map_map]at h
 have h1:=List.pairwise_map.1 h
 refine List.pairwise_map.2 (List.Pairwise.imp_of_mem (fun {a b} ha hb hab=>?_) h1)
 exact j2 (hk a ha) (hk b hb) (hp a ha) (hp b hb) hab
theorem gI{x a:V}(hk:keyK x.kind)(h:a=pv (eH x.kind) x.num x.text):cG x a:=by
 obtain⟨k,n,t,ks,o,d⟩:=x
 subst h
 unfold keyK at hk
 simp only[V.kind]at hk
 exact .scal (by omega) (by omega) (by omega)
theorem bJ.mem:∀ {l:List V},bJ l→∀x∈l,fw x
 |[],_,x,hx=>by cases hx
 |a::r,h,x,hx=>by
  rw[bJ]at h
  rcases List.mem_cons.1 hx with rfl|hx
  ·exact h.1
  ·exact bJ.mem h.2 x hx
theorem fw.text{x:V}(h:fw x):x.kind=19∨x.kind=20→Lib.validD x.text=true:=by
 obtain⟨k,n,t,ks,o,d⟩:=x
 rw[fw]at h
 exact h.1
theorem dc:∀ {l:List V} {x:V},x∈keysOf l→x∈l:=by
 intro l
 induction l using keysOf.induct with
 |case1 k v r ih=>
  intro x hx
  simp only[keysOf,List.mem_cons]at hx⊢
  rcases hx with h|h
  ·exact .inl h
  ·exact .inr (.inr (ih h))
 |case2 l h=>
  intro x hx
  match l,h with
  |[],_=>simp[keysOf]at hx
  |[a],_=>simp[keysOf]at hx
  |a::b::r,h=>exact absurd rfl (h a b r)
theorem aO{es:List cN}{e:cN}(he:e∈es):e.2.1∈es.flatMap de∧e.1∈keysOf (es.flatMap de):=by
 refine⟨List.mem_flatMap.2 ⟨e,he,by simp[de]⟩,?_⟩
 rw[bL]
 exact List.mem_map.2 ⟨e,he,rfl⟩
theorem gU{A:Nat→Prop}{n:Nat}{t:List UInt8}{ks:List V}{o:Int}{d:List V}{u:Value}{w:World}(hks:∀x∈ks,bB x)(hUT:UT w)(hle:ks.length≤1000)(p:Option Addr)(c:Nat)(cells:List Value)(hu:u= .iface 320 (.slice p ks.length c))(hL:RepL A w ks cells)(hat:ks=[]∨∃b,p=some ⟨b,0,none⟩∧A b∧At w b 0 cells):
  Does TP 85 [u] w fun r w'=>∃cells y,r= .tuple #[.agg cells.toArray,.bool true]∧ag (fun b=>w.heap.size≤b) w' y cells∧cG (.mk 21 n t ks o d) y∧Ext w w':=by
 subst hu
 have hUTl:=hUT.lt
 refine doR Tryz.func85 ?_
 have he:Evo (fun _=>True) w w:=Evo.refl w
 refine jA 2 rfl ?_
 have hs1:=he.size
 refine al ?_
 rintro _ w1 ⟨rfl,hb1,e1⟩
 refine jD 10 rfl<|WL.q rfl (r_ifeqSome Fb.h rfl)<|jD 116 rfl<|WL.q rfl (r_assertIs Fb.h rfl)<|jD 11 rfl ?_
 replace hUT:=hUT.mono e1
 replace hL:=hL.mono e1
 refine cl rfl (kL hks hUT (by omega) (hL.weaken fun _ h=>h) (hat.imp id fun⟨b,h1,h2,h3⟩=>⟨b,h1,h2,h3.growP e1 (fun _ _ _=>trivial) h2⟩)) ?_
 rintro v2 w2 ⟨sv,ys,rfl,hX,hBk,e2⟩
 have hx1:=hb1.lt
 have hX0:=hX
 obtain⟨p2,c2,_,hsv,_⟩:=hX0
 subst hsv
 refine jD 9 rfl<|WL.q rfl (r_bld (cs:=[_,_,_,_,_,_]) Fo.h rfl rfl)<|jC 1 rfl ?_
 replace hb1:=hb1.mono e2
 refine WL.l0 (lsw rfl rfl hb1) ?_
 rintro _ w3 ⟨hb1,e3,hz3⟩
 refine jC 2 rfl<|WC.ret ?_
 replace hX:=hX.mono e3
 have hX:=hX.low (B:=fun b=>w.heap.size≤b) (fun b h=>Nat.le_trans e1.size h)
 replace he:=((he.then e1).then e2).then e3
 exact finCt rfl hb1 agg_87 rfl ⟨_,_,rfl,by rw[ag];exact⟨_,_,rfl,hX,aD.nil⟩,.list hBk,he⟩
theorem jr{A:Nat→Prop}{n:Nat}{t:List UInt8}{ks:List V}{o:Int}{d:List V}{u:Value}{w:World}(hV:∀x∈ks,bB x)(hT:bJ ks)(hM:MapOK ks)(hUT:UT w)(hle:ks.length≤1000)(m:Nat)(kvs kvs0:List (Value×Value))(hMo:MapO w m kvs)(hpm:RepM A w ks kvs0)
  (h:(u= .iface 299 (.map (some m))∧kvs=kvs0)∨(u= .iface 177 (.map (some m))∧∃ss:List (List UInt8×Value),kvs0=ss.map (fun p=>(.iface 9 (str p.1),p.2))∧kvs.Perm (ss.map fun p=>(str p.1,p.2)))):
  Does TP 85 [u] w fun r w'=>∃cells y,r= .tuple #[.agg cells.toArray,.bool true]∧ag (fun b=>w.heap.size≤b) w' y cells∧cG (.mk 22 n t ks o d) y∧Ext w w':=by
 obtain⟨hM1,hM2,hM3⟩:=hM
 obtain⟨es,rfl,rfl,hRE⟩:=hpm.ents hM1 (fun x hx=>(hM2 x hx).1)
 rw[bI]at hle
 have hVe:∀e∈es,bB e.2.1:=fun e he=>hV _ (aO he).1
 have hKe:∀e∈es,keyK e.1.kind∧plainOK e.1∧(e.1.kind=19∨e.1.kind=20→Lib.validD e.1.text=true):=fun e he=>
  ⟨(hM2 _ (aO he).2).1,(hM2 _ (aO he).2).2,(hT.mem _ (dc (aO he).2)).text⟩
 have hUTl:=hUT.lt
 rcases h with⟨rfl,rfl⟩|⟨rfl,ss,hss,hpr⟩
 ·refine doR Tryz.func85 ?_
  have he:Evo (fun _=>True) w w:=Evo.refl w
  refine jA 2 rfl ?_
  have hs1:=he.size
  refine al ?_
  rintro _ w1 ⟨rfl,hb1,e1⟩
  refine jD 10 rfl<|WL.q rfl (r_ifeqSome Fb.h rfl)<|jD 123 rfl<|WL.q rfl (r_assertIs Fb.h rfl)<|jD 11 rfl ?_
  replace hUT:=hUT.mono e1
  replace hRE:=hRE.mono e1
  replace hMo:=hMo.mono e1
  refine cl rfl (lG hVe hKe hUT hRE (by omega) hMo) ?_
  rintro v2 w2 ⟨sv,qs,rfl,hX,⟨es',hp2,hSh⟩,e2⟩
  have hx1:=hb1.lt
  have hX0:=hX
  obtain⟨p2,c2,_,hsv,_⟩:=hX0
  subst hsv
  refine jD 9 rfl<|WL.q rfl (r_bld (cs:=[_,_,_,_,_,_]) Fo.h rfl rfl)<|jC 1 rfl ?_
  replace hb1:=hb1.mono e2
  refine WL.l0 (lsw rfl rfl hb1) ?_
  rintro _ w3 ⟨hb1,e3,hz3⟩
  refine jC 2 rfl<|WC.ret ?_
  obtain⟨ps,hSh2,hqp⟩:=hSh.perm hp2
  replace hX:=hX.mono e3
  have hX:=hX.low (B:=fun b=>w.heap.size≤b) (fun b h=>Nat.le_trans e1.size h)
  replace he:=((he.then e1).then e2).then e3
  exact finCt rfl hb1 agg_87 rfl ⟨_,_,rfl,by rw[ag];exact⟨_,_,rfl,hX,aD.nil⟩,.map (hSh2.imp fun e he a h=>gI (hKe e he).1 h).back hqp,he⟩
 ·obtain⟨rfl,hk⟩:=fp hss (fun e he=>(hKe e he).1)
  rw[bL]at hM3
  have hnd:=fm (fun e he=>(hKe e he).2.1) hk hM3
  have hpr2:kvs.Perm (es.map gG):=by rw[List.map_map]at hpr;exact hpr
  refine doR Tryz.func85 ?_
  have he:Evo (fun _=>True) w w:=Evo.refl w
  refine jA 2 rfl ?_
  have hs1:=he.size
  refine al ?_
  rintro _ w1 ⟨rfl,hb1,e1⟩
  refine jD 10 rfl<|WL.q rfl (r_ifeqSome Fb.h rfl)<|jD 130 rfl<|WL.q rfl (r_assertIs Fb.h rfl)<|jD 11 rfl ?_
  replace hUT:=hUT.mono e1
  replace hRE:=hRE.mono e1
  replace hMo:=hMo.mono e1
  refine cl rfl (eG hVe hUT hRE hnd (by omega) hMo hpr2) ?_
  rintro v2 w2 ⟨sv,qs,rfl,hX,⟨es',hp2,hSh⟩,e2⟩
  have hx1:=hb1.lt
  have hX0:=hX
  obtain⟨p2,c2,_,hsv,_⟩:=hX0
  subst hsv
  refine jD 9 rfl<|WL.q rfl (r_bld (cs:=[_,_,_,_,_,_]) Fo.h rfl rfl)<|jC 1 rfl ?_
  replace hb1:=hb1.mono e2
  refine WL.l0 (lsw rfl rfl hb1) ?_
  rintro _ w3 ⟨hb1,e3,hz3⟩
  refine jC 2 rfl<|WC.ret ?_
  obtain⟨ps,hSh2,hqp⟩:=hSh.perm hp2
  replace hX:=hX.mono e3
  have hX:=hX.low (B:=fun b=>w.heap.size≤b) (fun b h=>Nat.le_trans e1.size h)
  replace he:=((he.then e1).then e2).then e3
  exact finCt rfl hb1 agg_87 rfl ⟨_,_,rfl,by rw[ag];exact⟨_,_,rfl,hX,aD.nil⟩,.map (hSh2.imp fun e he a h=>gI (hKe e he).1 (by
   have h1:=hk e he
   have h2:=(hKe e he).2.1.2.2.2.2.2 (by omega)
   rw[h,h2];unfold eH;split<;>simp_all)).back hqp,he⟩
mutual
theorem oX:∀x:V,Fine x→fw x→bB x
 | .mk k n t ks o d,h,hT=>fun A u w hUT hR=>by
  have hm:=h
  rw[Fine]at h
  obtain⟨h1,h2,h3,h4,h5,h6,h7,h8⟩:=h
  have hT0:=hT
  rw[fw]at hT
  have hvs:k=21∨k=22→∀x∈ks,bB x:=fun hk=>gA ks (by rcases hk with hk|hk;exact h6 hk;exact(h7 hk).1) hT.2
  rw[RepA]at hR
  rcases hR with hR|⟨rfl,v,rfl,hB⟩|⟨rfl,p,c,cells,hu,_,hL,hat⟩|⟨rfl,m,kvs,kvs0,hAm,hMo,hpm,hcs⟩|⟨rfl,hAr⟩
  ·refine(ej h1 hR).imp fun r w' ⟨cells,e1,e2,e3⟩=>⟨cells,pv (eH k) n t,e1,by rw[e2];exact ag.plain _ _ _,?_,e3⟩
   refine .scal ?_ ?_ ?_<;>(intro hk;subst hk;unfold scal at hR;simp at hR)
  ·refine(i6 hB).imp fun r w' ⟨cells,e1,e2,e3⟩=>⟨cells,pv 18 0 t,e1,by rw[e2];exact ag.plain _ _ _,?_,e3⟩
   have hn:n=0:=h1.2.2.2.2.2 (.inr (by simp only[V.kind];omega))
   subst hn
   exact .scal (by omega) (by omega) (by omega)
  ·exact gU (hvs (.inl rfl)) hUT h5 p c cells hu hL hat
  ·exact jr (hvs (.inr rfl)) hT.2 hm.mapOK hUT h5 m kvs kvs0 hMo hpm hcs
  ·obtain⟨_,kk,_,h8⟩:=h8 rfl
   refine(jJ (fun x hx=>(h8 x hx).2.1) (by omega) hAr).imp fun r w' ⟨cells,kk,e1,e2,e3⟩=>⟨cells,_,e1,e2,.arr,e3⟩
theorem gA:∀l:List V,FineL l→bJ l→∀x∈l,bB x
 |[],_,_,x,hx=>by cases hx
 |a::r,h,hT,x,hx=>by
  rw[FineL]at h
  rw[bJ]at hT
  rcases List.mem_cons.1 hx with e|hx
  ·exact e▸oX a h.1 hT.1
  ·exact gA r h.2 hT.2 x hx
end
end Go.Proofs.LL
