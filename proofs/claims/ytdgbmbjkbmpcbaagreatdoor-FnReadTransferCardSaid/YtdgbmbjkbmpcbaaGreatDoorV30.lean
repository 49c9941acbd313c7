/- Contracts of functions and own laws. Conditions: those that each theorem states. -/
import Derived.Test.YtdgbmbjkbmpcbaaGreatDoorV29
set_option linter.all false
set_option autoImplicit true
set_option relaxedAutoImplicit true
set_option maxRecDepth 20000
namespace Go.Proofs.LL
open Go Go.Proofs Go.RowKit
set_option maxHeartbeats 4000000
attribute [local irreducible] ar WL WC cq WT WX
theorem aC.six:∀ {A:Nat→Prop} {w:World} {x:V} {cs:List Value},aC A w x cs→∃a b c d e f,cs=[a,b,c,d,e,f]
 |A,w,.mk k n t ks o d,cs,h=>by
  rw[aC]at h
  obtain⟨sk,sd,rfl,_⟩:=h
  exact⟨_,_,_,_,_,_,rfl⟩
abbrev Ck:=oU×(V×V)
def pW(A:Nat→Prop)(w:World)(zs:List Ck):Prop:=∀z∈zs,ag A w [z.2.1,z.2.2] z.1.1.2
theorem pW.m(h:pW A w zs)(e:am B w w')(hAB:∀b,b<w.heap.size→A b→B b:=by(intro b hb1 hb2;first|exact trivial|exact hb2|((try dsimp only[Nb]at hb2⊢);omega))):pW A w' zs:=fun z hz=>(h z hz).m' e hAB
def xj(e:iW):Value×Value:=(.iface (gR (rk e.1.kind)) (jU (rk e.1.kind) e.1.num e.1.text),e.2.2)
theorem vw(x:V)(hk:dV x.kind)(hp:bI x):
  ah TP 85 [.iface (gR (rk x.kind)) (jU (rk x.kind) x.num x.text)] w fun r w'=>r= .tuple #[.agg (vc (mP x.kind) x.num x.text).toArray,.bool true]∧ay w w':=by
 obtain⟨k,n,t,ks,o,d⟩:=x
 exact(mG hp (n7 hk)).imp fun r w' ⟨cells,h1,h2,h3⟩=>⟨by rw[h1,h2];rfl,h3⟩
theorem sE{α β:Type}{f g:α→Option β}:∀(l:List α),(∀x∈l,f x=g x)→l.filterMap f=l.filterMap g
 |[],_=>rfl
 |a::r,h=>by
  rw[List.filterMap_cons,List.filterMap_cons,h a (by simp),sE r (fun x hx=>h x (by simp[hx]))]
theorem gN:∀(l:List iW) (s:Nat),(List.range' s l.length).filterMap (fun i=>l[i-s]?)=l
 |[],s=>rfl
 |a::r,s=>by
  rw[List.length_cons,List.range'_succ,List.filterMap_cons]
  simp only[Nat.sub_self,List.getElem?_cons_zero]
  rw[sE (g:=fun i=>r[i-(s+1)]?) _ (fun i hi=>by
   have:=(List.mem_range'_1.1 hi).1
   rw[show i-s=(i-(s+1))+1 by omega,List.getElem?_cons_succ]),gN r (s+1)]
theorem mK(es:List iW):(List.range es.length).filterMap (fun i=>es[i]?)=es:=by
 have:=gN es 0
 simpa[List.range_eq_range']using this
theorem zC{zs:List Ck}{q:V×V}(h:aT B 423 13 w v (zs.length+1) ((zs.map (·.1)).flatMap dw++dw r)):aT B 423 13 w v (zs++[(r,q)]).length (((zs++[(r,q)]).map (·.1)).flatMap dw):=by
 simpa using h
theorem At.row{rows:List oU}(h:At w g 0 (rows.flatMap dw))(hi:i<rows.length):At w g (i * 13) (dw rows[i]):=by
 have e1:rows.flatMap dw=(rows.take i).flatMap dw++(dw rows[i]++(rows.drop (i+1)).flatMap dw):=by
  conv=>lhs;rw[← List.take_append_drop i rows,List.flatMap_append,List.drop_eq_getElem_cons hi,List.flatMap_cons]
 rw[e1]at h
 have h2:=At.mid h
 rw[dB,List.length_take,Nat.min_eq_left (Nat.le_of_lt hi),Nat.zero_add]at h2
 exact h2
theorem Ck.six{z:Ck}(h:ag A w [z.2.1,z.2.2] z.1.1.2):∃b1 b2 b3 b4 b5 b6 a1 a2 a3 a4 a5 a6,dw z.1=[str z.1.1.1,b1,b2,b3,b4,b5,b6,a1,a2,a3,a4,a5,a6]∧ag A w [z.2.1,z.2.2] ([b1,b2,b3,b4,b5,b6]++[a1,a2,a3,a4,a5,a6])∧([b1,b2,b3,b4,b5,b6]++[a1,a2,a3,a4,a5,a6]).all (fun v=>v.oneCell')=true:=by
 have h0:=h
 have h1:=h.oneAll
 rw[ag]at h
 obtain⟨c,c',e,hq,h⟩:=h
 rw[ag]at h
 obtain⟨d,d',rfl,hy,h⟩:=h
 rw[ag]at h
 subst h
 obtain⟨b1,b2,b3,b4,b5,b6,rfl⟩:=hq.six
 obtain⟨a1,a2,a3,a4,a5,a6,rfl⟩:=hy.six
 rw[List.append_nil]at e
 refine⟨b1,b2,b3,b4,b5,b6,a1,a2,a3,a4,a5,a6,?_,by rw[← e];exact h0,by rw[← e];exact h1⟩
 show str _::z.1.1.2=_
 rw[e];rfl
theorem ag.push2{N0:Nat}{sv v5:Value}(hV:ag (fun b=>N0≤b∧sv.ownBlock≠some b) wi ys cs)(he:ay wi w4)(hy:ag (fun b=>N0≤b∧sv.ownBlock≠some b) w4 ys' c')
  (e5:am (fun k=>sv.ownBlock≠some k) w4 w5) (hob:v5.ownBlock=sv.ownBlock∨∀b,v5.ownBlock=some b→w4.heap.size≤b):ag (fun b=>N0≤b∧v5.ownBlock≠some b) w5 (ys++ys') (cs++c'):=by
 have h1:ag (fun b=>(N0≤b∧sv.ownBlock≠some b)∧b<w4.heap.size) w4 ys cs:=(hV.m' he (fun _ _ _=>trivial)).weakenW fun b hb h=>⟨h,hb⟩
 have h2:ag (fun b=>(N0≤b∧sv.ownBlock≠some b)∧b<w4.heap.size) w4 ys' c':=hy.weakenW fun b hb h=>⟨h,hb⟩
 refine((h1.append h2).m' e5 (fun b _ h=>h.1.2)).k fun b h=>⟨h.1.1,fun e=>?_⟩
 rcases hob with h3|h3
 ·rw[h3]at e;exact h.1.2 e
 ·have:=h3 b e;omega
theorem pW.push{N0:Nat}{v5:Value}{z:Ck}(hO:aT Bb 423 13 wi sv n cs)(hZ:pW (fun b=>N0<b∧sv.ownBlock≠some b) wi zs)(hN:N0<wi.heap.size)(he:am (fun b=>N0<b) wi w4)(hy:ag (fun b=>wi.heap.size≤b) w4 [z.2.1,z.2.2] z.1.1.2)
  (e5:am (fun k=>sv.ownBlock≠some k) w4 w5) (hob:v5.ownBlock=sv.ownBlock∨∀b,v5.ownBlock=some b→w4.heap.size≤b):pW (fun b=>N0<b∧v5.ownBlock≠some b) w5 (zs++[z]):=by
 have hlow:∀b,sv.ownBlock=some b→b<wi.heap.size:=by
  intro b hb
  rcases hO.row.2 with⟨rfl,_⟩|⟨g,cap,cur,rfl,h4,h5,_⟩
  ·simp[Value.ownBlock]at hb
  ·simp[Value.ownBlock]at hb
   subst hb
   exact(Array.getElem?_eq_some_iff.1 h5).1
 have fin:∀(l:List V) (c:List Value),ag (fun b=>(N0<b∧sv.ownBlock≠some b)∧b<w4.heap.size) w4 l c→ag (fun b=>N0<b∧v5.ownBlock≠some b) w5 l c:=fun l c h=>
  (h.m' e5 (fun b _ h=>h.1.2)).k fun b h=>⟨h.1.1,fun e=>by
   rcases hob with h3|h3
   ·rw[h3]at e;exact h.1.2 e
   ·have:=h3 b e;omega⟩
 intro y hy'
 rcases List.mem_append.1 hy' with h|h
 ·exact fin _ _ (((hZ y h).m' he (fun _ _ h=>h.1)).weakenW fun b hb h=>⟨h,hb⟩)
 ·rw[List.mem_singleton.1 h]
  exact fin _ _ (hy.weakenW fun b hb h=>⟨⟨Nat.lt_of_lt_of_le hN h,fun e=>by have:=hlow b e;omega⟩,hb⟩)
theorem zx(h:bI x):de (rk x.kind) x.num:=by
 unfold rk
 split
 ·rename_i h20
  have:=h.2.2.2.2.2 (by omega)
  rw[this]
  refine⟨?_,?_,?_,?_,?_,?_,?_,?_,?_⟩<;>omega
 ·exact h.1
theorem Fw{k:Int}{n:Nat}{a1 a2 a3 a4 a5 a6:Value}(h:aH w b (([.agg #[str l,.int .i64 k,.int .u64 (n:Int),str t,.slice none 0 0,.int .i64 0,.slice none 0 0,a1,a2,a3,a4,a5,a6]]:List Value).flatMap (fun v=>v.cells.toList))):At w b 0 (str l::(vc k n t++[a1,a2,a3,a4,a5,a6])):=h.at
theorem Fc{k:Int}{c:List Value}(h:c.all (fun v=>v.oneCell')=true):(str l::(vc k n t++c)).all (fun v=>v.oneCell')=true:=h
def zp(l:List UInt8)(k:Int)(n:Nat)(t:List UInt8)(c:List Value)(hc:c.length=6)(h:c.all (fun v=>v.oneCell')=true):oU:=
 ⟨(l,vc k n t++c),by simp[vc,hc],List.all_eq_true.1 (show(vc k n t++c).all (fun v=>v.oneCell')=true from h)⟩
theorem sX{es:List iW}(hV:∀e∈es,fO e.2.1)(hK:∀e∈es,dV e.1.kind∧bI e.1∧(e.1.kind=19∨e.1.kind=20→Lib.validD e.1.text=true))(hUT:UT w)(hRE:wT A w es)(hle:es.length≤30000)(hM:cT w m (es.map xj)):
  ah TP 142 [.map (some m)] w fun r w'=>∃sv qs,r= .tuple #[sv,.bool true]∧cM (fun b=>w.heap.size≤b) w' (qs.flatMap eX).length sv (ag (fun b=>w.heap.size≤b) w' (qs.flatMap eX))∧(∃es',es'.Perm es∧cE (fun k a=>a=pv (mP k.kind) k.num k.text) es' qs)∧ay w w':=by
 have hm0:=hM.lt
 have hkl:(es.map xj).length=es.length:=List.length_map ..
 refine cN Tryz.func142 ?_
 have he:=Hi w
 refine jA 7 rfl ?_
 have hs1:=he.s
 refine Ha fun w1 hb1 e1=>?_
 refine jD 5 rfl ?_
 replace hM:=hM.m e1
 refine WL.l rfl (mW Fo.h rfl hM) ?_
 rintro v2 w2 ⟨rfl,hI,e2⟩
 have hx0:=hb1.lt
 have hx1:=hI.lt
 have hq1:=e1.s
 have hq2:=e2.s
 refine jD 2 rfl ?_
 replace hM:=hM.m e2
 replace hb1:=hb1.m e2
 replace he:=(he.t e1).t e2
 refine WC.loop2 (ι:=(List Nat)) [(2,_),(3,_),(4,_),(17,_)] (fun i=>[]) (fun i wi=>(∃sv zs,aH wi w.heap.size [sv]∧aT w2.heap.size 423 13 wi sv zs.length ((zs.map (·.1)).flatMap dw)∧pW (fun b=>w1.heap.size<b∧sv.ownBlock≠some b) wi zs∧cE (fun k a=>a=pv (mP k.kind) k.num k.text) (i.filterMap (fun j=>es[j]?)) (zs.map (·.2)))∧tK wi w1.heap.size m (es.map xj).length i∧i.Nodup∧(∀j∈i,j<(es.map xj).length)∧am (fun k=>k<w2.heap.size∧k≠w.heap.size∧k≠w1.heap.size) w2 wi) (fun i=>(es.map xj).length-i.length) [] sb .nil (⟨⟨_,[],hb1,aT.nil _ _ _ _,(by intro z hz;cases hz),.nil⟩,hI,.nil,by simp,am.refl _⟩) ?_
 intro i wi1 hh;obtain⟨⟨sv,zs,hb1,hO,hZ,hSh⟩,hI,hnd2,hlt2,hE⟩:=hh
 have hwi:=hE.s
 have hO0:=hO
 have hO1:=hO.below
 have hzl:zs.length≤30000:=by
  have h1:=hSh.length
  have h2:(i.filterMap (fun j=>es[j]?)).length≤i.length:=List.length_filterMap_le ..
  have h3:=List.Nodup.length_le_of_subset (l₂:=List.range (es.map xj).length) hnd2 (fun j hj=>List.mem_range.2 (hlt2 j hj))
  simp at h1 h3;omega
 replace hM:=hM.m hE
 rcases mX (P:=TP) hM hI with⟨hall,hN⟩|⟨j,hj,hnj,hN⟩
 ·have hper:=jO hnd2 hlt2 hall
  have hpe:(i.filterMap (fun j=>es[j]?)).Perm es:=by
   have:=hper.filterMap (fun j=>es[j]?)
   rwa [hkl,mK]at this
  refine jA 2 rfl<|WL.l rfl (hN rfl) ?_
  rintro v3 w3 ⟨rfl,e3⟩
  have hq3:=e3.s
  refine jD 4 rfl<|WC.exit<|jA 2 rfl ?_
  replace hb1:=hb1.m e3
  refine ld rfl hb1 rfl<|jC 1 rfl<|Hq (nV rfl rfl) ?_
  replace hO:=hO.m e3
  refine cl rfl (lp (rows:=zs.map (·.1)) (by rw[List.length_map];exact hO) hb1 (by omega) (by rw[List.length_map];omega)) ?_
  rintro v4 w4 ⟨rfl,⟨rows',hpr,hS⟩,e4⟩
  have e4o:=e4
  replace e4:=aT.evo (w0:=w) hO e4o
  have hq4:=e4.s
  obtain⟨p,c,hsv,hpc,hAt⟩:=hS.form
  have hsvl:=hpr.length_eq
  subst hsv
  refine jD 8 rfl ?_
  replace hb1:=hb1.m e4
  refine ld rfl hb1 rfl<|jD 4 rfl ?_
  rw[List.length_map]at hsvl
  obtain⟨zs2,hp2,rfl⟩:=lV hpr
  have hzl2:zs2.length=zs.length:=hp2.length_eq
  have hZ4:pW (fun b=>w1.heap.size<b) w4 zs2:=fun z hz=>(((hZ z (hp2.mem_iff.1 hz)).m' e3 (fun b _ h=>by show b≠w1.heap.size;have:=h.1;omega)).m' e4o (fun b _ h=>h.2)).k fun b h=>h.1
  obtain⟨qs0,hSh0,hpq⟩:∃es',es'.Perm es∧cE (fun k a=>a=pv (mP k.kind) k.num k.text) es' (zs2.map (·.2)):=by
   obtain⟨qs',h1,h2⟩:=cE.perm' (hp2.map (·.2)) hSh
   exact⟨qs',h1.trans hpe,h2⟩
  replace hM:=(hM.m e3).m e4
  replace he:=((he.t hE).t e3).t e4
  refine WC.loop2 (ι:=(Nat×Value)) [(2,_),(3,_),(4,_),(17,_),(60,_),(61,_)] (fun i=>[(13,i.2),(62,.int .i64 (i.1:Int))]) (fun i wi=>(∃cs,aT w4.heap.size 87 6 wi i.2 (2 * i.1) cs∧ag (fun b=>w.heap.size≤b∧i.2.ownBlock≠some b) wi (((zs2.map (·.2)).take i.1).flatMap eX) cs)∧i.1≤zs2.length∧am (fun b=>b<w4.heap.size) w4 wi) (fun i=>zs2.length-i.1) (0,.slice none 0 0) sb sb (⟨⟨[],aT.nil _ _ _ _,by rw[List.take_zero,List.flatMap_nil,ag]⟩,Nat.zero_le _,am.refl _⟩) ?_
  intro i wi2 hh;obtain⟨⟨cs,hP,hV2⟩,hil2,hE⟩:=hh
  obtain⟨i2,so⟩:=i
  dsimp only at hP hV2 hil2
  have hwi2:=hE.s
  rcases Nat.lt_or_ge i2 zs2.length with hi|hi
  ·have hir:i2<(zs2.map (·.1)).length:=by simpa using hi
   obtain⟨b,rfl,hBb,hbl,hAt⟩:=hAt (by omega)
   obtain⟨b1,b2,b3,b4,b5,b6,a1,a2,a3,a4,a5,a6,hrow,hrv,hone⟩:=Ck.six (hZ4 _ (List.getElem_mem hi))
   have hAti:=(hAt.row hir).m hE hbl
   rw[List.getElem_map,hrow]at hAti
   have hAtj:At wi2 b (0+i2 * 13) [str zs2[i2].1.1.1,b1,b2,b3,b4,b5,b6,a1,a2,a3,a4,a5,a6]:=by rw[Nat.zero_add];exact hAti
   have hrvi:=((hrv.weakenW (B:=fun b=>w1.heap.size<b∧b<w4.heap.size) fun b hb h=>⟨h,hb⟩).m' hE (fun b hb _=>hb)).k (B:=fun b=>w.heap.size≤b∧so.ownBlock≠some b) fun b h=>⟨by omega,hP.below.2 b h.2⟩
   refine jA 2 rfl<|lT rfl rfl<|jD 8 rfl<|Hq (bd Fo.h rfl rfl rfl hir)<|Hq (ad Fo.h rfl Xr hAtj (hn:=rfl)) ?_
   replace he:=he.t hE
   have hs5:=he.s
   replace hb1:=hb1.m hE
   have hx5b1:=hb1.lt
   refine Ha fun w5 hb5 e5=>?_
   refine Ho rfl rfl hb5 fun w6 hb5 e6 hz6=>?_
   refine jD 4 rfl<|Hq (ad Fo.h rfl Xr (At.mid (pre:=[_]) (c:=[b1,b2,b3,b4,b5,b6]) (post:=[a1,a2,a3,a4,a5,a6]) hb5.at) (hn:=rfl))<|jC 1 rfl<|Hq (ad Fo.h rfl Xr (At.mid (pre:=[_,b1,b2,b3,b4,b5,b6]) (c:=[a1,a2,a3,a4,a5,a6]) (post:=[]) hb5.at) (hn:=rfl)) ?_
   replace he:=he.t (e5.t e6)
   have hs7:=he.s
   replace hb1:=hb1.m (e5.t e6)
   have hx7b1:=hb1.lt
   have hx7b5:=hb5.lt
   refine WL.l rfl (ll [_,_]) ?_
   rintro _ w7 ⟨rfl,hb7,e7⟩
   refine WL.l rfl (eF (n:=2 * i2) Fo.h rfl rfl (hP.m ((e5.t e6).t e7:ay wi2 w7)) (Src.at Fb.h (vT hb7) rfl hone) (by have:=e5.s;have:=e6.s;have:=e7.s;omega) (by simp only[maxLen];omega) (by omega)) ?_
   rintro v8 w8 ⟨hO8,e8,hob⟩
   have e8o:=e8
   have e8:=aT.evo (w0:=w) (hP.m ((e5.t e6).t e7:ay wi2 w7)) e8o
   refine jD 3 rfl<|ai rfl rfl rfl<|jC 2 rfl ?_
   have hV3:=ag.push2 hV2 ((e5.t e6).t e7:ay wi2 w7) (hrvi.m' ((e5.t e6).t e7:ay wi2 w7) (fun _ _ _=>trivial)) e8o hob
   have htk:((zs2.map (·.2)).take (i2+1)).flatMap eX=((zs2.map (·.2)).take i2).flatMap eX++[zs2[i2].2.1,zs2[i2].2.2]:=by
    have hi':i2<(zs2.map (·.2)).length:=by simpa using hi
    rw[← List.take_append_getElem hi',List.flatMap_append];simp[eX]
   exact⟨(i2+1,v8),sb,sb,⟨⟨_,hO8,by rw[htk];exact hV3⟩,hi,((((hE.t (e5.t e6)).t e7).t e8))⟩,(by show zs2.length-(i2+1)<zs2.length-i2;omega)⟩
  ·have hin:i2=zs2.length:=by omega
   subst hin
   have htk:(zs2.map (·.2)).take zs2.length=zs2.map (·.2):=List.take_of_length_le (by simp)
   rw[htk]at hV2
   refine jA 2 rfl<|lF rfl rfl<|jD 3 rfl<|WC.exit<|jA 6 rfl<|WC.ret ?_
   replace he:=he.t hE
   exact bt rfl rfl ⟨so,zs2.map (·.2),rfl,by exact(cM.own hP (by rw[dE,List.length_map]) (hV2.k fun b h=>h.1) (fun b h _=>by show w.heap.size≤b;omega)),⟨qs0,hSh0,hpq⟩,he.k fun k hk _=>hk⟩
 ·obtain⟨hnd3,hlt3,hmu⟩:=jP hnd2 hlt2 hj hnj
  have hj1:j<es.length:=by omega
  have hfm:(i++[j]).filterMap (fun j=>es[j]?)=i.filterMap (fun j=>es[j]?)++[es[j]]:=by
   rw[List.filterMap_append];simp[hj1]
  have hmem:=List.getElem_mem hj1
  have hgk:((es.map xj)[j]).1= .iface (gR (rk es[j].1.kind)) (jU (rk es[j].1.kind) es[j].1.num es[j].1.text):=by simp[xj]
  have hgv:((es.map xj)[j]).2=es[j].2.2:=by simp[xj]
  obtain⟨hkk,hkp,hku⟩:=hK _ hmem
  have hk1:de (rk es[j].1.kind) es[j].1.num:=zx hkp
  have hk2:rk es[j].1.kind=17→es[j].1.text.length=16:=fun h=>hkp.2.2.1 (by unfold rk at h;split at h<;>omega)
  have hk3:rk es[j].1.kind=19→Lib.validD es[j].1.text=true∧es[j].1.text.length≤131072:=fun h=>⟨hku (by unfold rk at h;split at h<;>omega),hkp.2.1⟩
  refine jA 2 rfl<|WL.l rfl (hN rfl) ?_
  rintro v3 w3 ⟨rfl,hI,e3⟩
  refine jD 8 rfl ?_
  replace hM:=hM.m e3
  refine Hq (jl rfl hj hgk hgv Xr hM hI)<|jD 8 rfl<|Hl rfl (vw es[j].1 hkk hkp) fun w4 e4=>?_
  refine jC 3 rfl ?_
  replace he:=((he.t hE).t e3).t e4
  have hs5:=he.s
  replace hb1:=(hb1.m e3).m e4
  have hx5b1:=hb1.lt
  refine Ha fun w5 hb5 e5=>?_
  refine Ho rfl rfl hb5 fun w6 hb5 e6 hz6=>?_
  refine jD 5 rfl<|cl rfl (hV _ hmem _ _ _ (hUT.ext (he.t (e5.t e6))) (bJ.m' (hRE _ hmem) (he.t (e5.t e6)) (fun b hb _=>hb))) ?_
  rintro v7 w7 ⟨c6,y,rfl,hVy,hBy,e7⟩
  have hone:=hVy.one
  obtain⟨a1,a2,a3,a4,a5,a6,rfl⟩:=hVy.six
  refine jC 3 rfl ?_
  replace he:=(he.t (e5.t e6)).t e7
  have hs8:=he.s
  replace hb1:=(hb1.m (e5.t e6)).m e7
  have hx8b1:=hb1.lt
  replace hb5:=hb5.m e7
  have hx8b5:=hb5.lt
  refine Ha fun w8 hb8 e8=>?_
  refine Ho rfl rfl hb8 fun w9 hb8 e9 hz9=>?_
  refine jD 5 rfl<|cl rfl (re (k:=rk es[j].1.kind) (hUT.ext (he.t (e8.t e9))) (fU hkk) hk1 hk2 hk3) ?_
  rintro v10 w10 ⟨u7,l7,N7,rfl,hOl,hN7,hll,e10⟩
  have hIl:=aT.toB (A:=fun _=>True) hOl (fun _ _ _=>trivial)
  refine jD 23 rfl ?_
  replace hb1:=(hb1.m (e8.t e9)).m e10
  refine ld rfl hb1 rfl<|jC 1 rfl<|Hq (gp Fb.h rfl Xr hIl) ?_
  replace hb5:=(hb5.m (e8.t e9)).m e10
  refine la rfl hb5 ?_
  replace hb8:=hb8.m e10
  refine la rfl hb8<|Hq (az (cs:=[_,_,_,_,_,_,_,_,_,_,_,_,_]) Fo.h rfl rfl) ?_
  replace he:=(he.t (e8.t e9)).t e10
  have hs11:=he.s
  have hx11b1:=hb1.lt
  have hx11b5:=hb5.lt
  have hx11b8:=hb8.lt
  refine WL.l rfl (ll [_]) ?_
  rintro _ w11 ⟨rfl,hb11,e11⟩
  replace hO:=((((((hO.m e3).m e4).m (e5.t e6)).m e7).m (e8.t e9)).m e10).m e11
  refine WL.l rfl (eF (n:=zs.length) Fo.h rfl rfl hO (Src.at Fb.h (Fw hb11) rfl (Fc hone)) (by have:=e3.s;have:=e4.s;have:=e5.s;have:=e6.s;have:=e7.s;have:=e8.s;have:=e9.s;have:=e10.s;have:=e11.s;omega) (by simp only[maxLen];omega) (by omega)) ?_
  rintro v12 w12 ⟨hO2,e12,hob⟩
  have e12o:=e12
  have e12:=aT.evo (w0:=w) hO e12o
  replace hb1:=(hb1.m e11).m e12
  refine Hp rfl rfl hb1 fun w13 hb1 e13 hz13=>?_
  refine WL.nil ?_
  have hZ2:=(pW.push (z:=(zp l7 (mP es[j].1.kind) es[j].1.num es[j].1.text [a1,a2,a3,a4,a5,a6] rfl hone,(pv (mP es[j].1.kind) es[j].1.num es[j].1.text,y))) hO0 hZ (by omega) ((((((((am.refl wi1:am (fun b=>w1.heap.size<b) wi1 wi1).t e3).t e4).t (e5.t e6)).t e7).t (e8.t e9)).t e10).t e11)
   ((ag.one (aC.plain (mP es[j].1.kind) es[j].1.num es[j].1.text)).append (ag.one ((hVy.m (((e8.t e9).t e10).t e11)).k fun b h=>by have:=e3.s;have:=e4.s;have:=e5.s;have:=e6.s;omega))) e12o hob).m e13
  have hSh2:=hSh.snoc (e:=es[j]) (q:=(pv (mP es[j].1.kind) es[j].1.num es[j].1.text,y)) rfl hBy
  rw[← hfm]at hSh2
  replace hI:=(((((((hI.m e4).m (e5.t e6)).m e7).m (e8.t e9)).m e10).m e11).m e12).m e13
  exact⟨(i++[j]),sb,.nil,⟨⟨v12,zs++[(zp l7 (mP es[j].1.kind) es[j].1.num es[j].1.text [a1,a2,a3,a4,a5,a6] rfl hone,(pv (mP es[j].1.kind) es[j].1.num es[j].1.text,y))],hb1,zC (r:=zp l7 (mP es[j].1.kind) es[j].1.num es[j].1.text [a1,a2,a3,a4,a5,a6] rfl hone) (hO2.m e13),hZ2,by rw[List.map_append];exact hSh2⟩,hI,hnd3,hlt3,((((((((((hE.t e3).t e4).t (e5.t e6)).t e7).t (e8.t e9)).t e10).t e11).t e12).t e13))⟩,hmu⟩
mutual
def ng:V→Prop
 | .mk k _ t ks _ _=>(k=19∨k=20→Lib.validD t=true)∧gm ks
def gm:List V→Prop
 |[]=>True
 |x::r=>ng x∧gm r
end
theorem cM.m(h:cM A w n v (ag A w l))(e:am B w w')(hAB:∀b,b<w.heap.size→A b→B b:=by(intro b hb1 hb2;first|exact trivial|exact hb2|((try dsimp only[Nb]at hb2⊢);omega))):cM A w' n v (ag A w' l):=by
 obtain⟨p,c,cells,h1,h2,h3,h4⟩:=h
 exact⟨p,c,cells,h1,h2,h3.m' e hAB,h4.imp id fun⟨b,o,x1,x2,x3⟩=>⟨b,o,x1,x2,x3.growP e hAB x2⟩⟩
theorem cM.low{B:Nat→Prop}(h:cM A w n v (ag A w l))(hAB:∀b,A b→B b):cM B w n v (ag B w l):=by
 obtain⟨p,c,cells,h1,h2,h3,h4⟩:=h
 exact⟨p,c,cells,h1,h2,h3.k hAB,h4.imp id fun⟨b,o,x1,x2,x3⟩=>⟨b,o,x1,hAB b x2,x3⟩⟩
theorem bB.ents:∀ {ks:List V} {kvs:List (Value×Value)},bB A w ks kvs→ks.length%2=0→(∀x∈aP ks,dV x.kind)→∃es:List iW,ks=es.flatMap ke∧kvs=es.map xj∧wT A w es
 |[],kvs,h,_,_=>by rw[bB]at h;subst h;exact⟨[],rfl,rfl,fun e he=>by cases he⟩
 |[_],kvs,_,h,_=>by simp at h
 |k::v::r,kvs,h,h0,hk=>by
  rw[bB]at h
  obtain⟨a,b,l',rfl,h1,h2,h3⟩:=h
  obtain⟨es,rfl,rfl,h4⟩:=bB.ents h3 (by simp at h0;omega) (fun x hx=>hk x (by simp[aP,hx]))
  have hkk:=hk k (by simp[aP])
  have ha:a= .iface (gR (rk k.kind)) (jU (rk k.kind) k.num k.text):=by
   obtain⟨kk,kn,kt,kks,ko,kd⟩:=k
   rw[bJ]at h1
   simp only[V.kind,V.num,V.text]at hkk⊢
   have hs:=n7 (n:=kn) (t:=kt) hkk
   unfold dV at hkk
   rcases h1 with h1|⟨h1,_⟩|⟨h1,_⟩|⟨h1,_⟩|⟨h1,_⟩
   ·rw[hs]at h1;exact(Option.some.inj h1).symm
   all_goals omega
  refine⟨(k,v,b)::es,rfl,by rw[ha];rfl,?_⟩
  intro e he
  rcases List.mem_cons.1 he with rfl|he
  ·exact h2
  ·exact h4 e he
theorem nt:∀ {es:List iW} {ss:List (List UInt8×Value)},es.map xj=ss.map (fun p=>(.iface 9 (str p.1),p.2))→(∀e∈es,dV e.1.kind)→ss=es.map xm∧∀e∈es,e.1.kind=19∨e.1.kind=20
 |[],ss,h,_=>by
  have:ss=[]:=by cases ss with
   |nil=>rfl
   |cons a r=>cases h
  subst this;exact⟨rfl,fun e he=>by cases he⟩
 |e::es,[],h,_=>by cases h
 |e::es,p::ss,h,hk=>by
  simp only[List.map_cons,List.cons.injEq]at h
  obtain⟨h1,h2⟩:=h
  obtain⟨h3,h4⟩:=nt h2 (fun e he=>hk e (by simp[he]))
  have hkk:=hk e (by simp)
  have hR:=fU hkk
  simp only[xj,Prod.mk.injEq,Value.iface.injEq]at h1
  obtain⟨⟨h5,h6⟩,h7⟩:=h1
  have h19:rk e.1.kind=19:=by
   rw[← je hR,h5];rfl
  have hkd:e.1.kind=19∨e.1.kind=20:=by
   unfold rk at h19;split at h19<;>omega
  rw[h19]at h6
  have ht:e.1.text=p.1:=by
   have h8:str e.1.text=str p.1:=h6
   simpa[str]using h8
  refine⟨?_,?_⟩
  ·rw[List.map_cons,← h3]
   congr 1
   exact Prod.ext ht.symm h7.symm
  ·intro x hx
   rcases List.mem_cons.1 hx with rfl|hx
   ·exact hkd
   ·exact h4 x hx
theorem nr{es:List iW}(hp:∀e∈es,bI e.1)(hk:∀e∈es,e.1.kind=19∨e.1.kind=20)(h:((es.map (·.1)).map eU).Nodup):(es.map (·.1.text)).Nodup:=by
 rw[List.map_map]at h
 have h1:=List.pairwise_map.1 h
 refine List.pairwise_map.2 (List.Pairwise.imp_of_mem (fun {a b} ha hb hab=>?_) h1)
 exact wy (hk a ha) (hk b hb) (hp a ha) (hp b hb) hab
theorem sl{x a:V}(hk:dV x.kind)(h:a=pv (mP x.kind) x.num x.text):iV x a:=by
 obtain⟨k,n,t,ks,o,d⟩:=x
 subst h
 unfold dV at hk
 simp only[V.kind]at hk
 exact .scal (by omega) (by omega) (by omega)
theorem gm.mem:∀ {l:List V},gm l→∀x∈l,ng x
 |[],_,x,hx=>by cases hx
 |a::r,h,x,hx=>by
  rw[gm]at h
  rcases List.mem_cons.1 hx with rfl|hx
  ·exact h.1
  ·exact gm.mem h.2 x hx
theorem ng.text(h:ng x):x.kind=19∨x.kind=20→Lib.validD x.text=true:=by
 obtain⟨k,n,t,ks,o,d⟩:=x
 rw[ng]at h
 exact h.1
theorem fj:∀ {l:List V} {x:V},x∈aP l→x∈l:=by
 intro l
 induction l using aP.induct with
 |case1 k v r ih=>
  intro x hx
  simp only[aP,List.mem_cons]at hx⊢
  rcases hx with h|h
  ·exact .inl h
  ·exact .inr (.inr (ih h))
 |case2 l h=>
  intro x hx
  match l,h with
  |[],_=>simp[aP]at hx
  |[a],_=>simp[aP]at hx
  |a::b::r,h=>exact absurd rfl (h a b r)
theorem bX{es:List iW}{e:iW}(he:e∈es):e.2.1∈es.flatMap ke∧e.1∈aP (es.flatMap ke):=by
 refine⟨List.mem_flatMap.2 ⟨e,he,by simp[ke]⟩,?_⟩
 rw[gn]
 exact List.mem_map.2 ⟨e,he,rfl⟩
theorem tE{ks:List V}{o:Int}{u:Value}(hks:∀x∈ks,fO x)(hUT:UT w)(hle:ks.length≤1000)(p:Option Addr)(c:Nat)(cells:List Value)(hu:u= .iface 320 (.slice p ks.length c))(hL:cU A w ks cells)(hat:ks=[]∨∃b,p=some ⟨b,0,none⟩∧A b∧At w b 0 cells):
  ah TP 85 [u] w fun r w'=>∃cells y,r= .tuple #[.agg cells.toArray,.bool true]∧aC (fun b=>w.heap.size≤b) w' y cells∧iV (.mk 21 n t ks o d) y∧ay w w':=by
 subst hu
 have:=hUT.lt
 refine co Tryz.func85 ?_
 have he:=XI w
 refine jA 2 rfl ?_
 have:=he.s
 refine Ha fun w1 hb1 e1=>?_
 refine jD 10 rfl<|Hq (aF Fb.h rfl)<|jD 116 rfl<|Hq (aQ Fb.h rfl)<|jD 11 rfl ?_
 replace hUT:=hUT.m e1
 replace hL:=hL.m e1
 refine cl rfl (xF hks hUT (by omega) (hL.k fun _ h=>h) (hat.imp id fun⟨b,h1,h2,h3⟩=>⟨b,h1,h2,h3.growP e1 (fun _ _ _=>trivial) h2⟩)) ?_
 rintro v2 w2 ⟨sv,ys,rfl,hX,hBk,e2⟩
 have:=hb1.lt
 have hX0:=hX
 obtain⟨p2,c2,_,hsv,_⟩:=hX0
 subst hsv
 refine jD 9 rfl<|Hq (az (cs:=[_,_,_,_,_,_]) Fo.h rfl rfl)<|jC 1 rfl ?_
 replace hb1:=hb1.m e2
 refine Ho rfl rfl hb1 fun w3 hb1 e3 hz3=>?_
 refine jC 2 rfl<|WC.ret ?_
 replace hX:=hX.m e3
 have hX:=hX.low (B:=fun b=>w.heap.size≤b) (fun b h=>Nat.le_trans e1.s h)
 replace he:=((he.t e1).t e2).t e3
 exact cw rfl hb1 bR rfl ⟨_,_,rfl,by rw[aC];exact⟨_,_,rfl,hX,cM.nil⟩,.list hBk,he⟩
theorem vz{ks:List V}{o:Int}{u:Value}(hV:∀x∈ks,fO x)(hT:gm ks)(hM:iI ks)(hUT:UT w)(hle:ks.length≤1000)(m:Nat)(kvs kvs0:List (Value×Value))(hMo:cT w m kvs)(hpm:bB A w ks kvs0)
  (h:(u= .iface 299 (.map (some m))∧kvs=kvs0)∨(u= .iface 177 (.map (some m))∧∃ss:List (List UInt8×Value),kvs0=ss.map (fun p=>(.iface 9 (str p.1),p.2))∧kvs.Perm (ss.map fun p=>(str p.1,p.2)))):
  ah TP 85 [u] w fun r w'=>∃cells y,r= .tuple #[.agg cells.toArray,.bool true]∧aC (fun b=>w.heap.size≤b) w' y cells∧iV (.mk 22 n t ks o d) y∧ay w w':=by
 obtain⟨hM1,hM2,hM3⟩:=hM
 obtain⟨es,rfl,rfl,hRE⟩:=hpm.ents hM1 (fun x hx=>(hM2 x hx).1)
 rw[eI]at hle
 have hVe:∀e∈es,fO e.2.1:=fun e he=>hV _ (bX he).1
 have hKe:∀e∈es,dV e.1.kind∧bI e.1∧(e.1.kind=19∨e.1.kind=20→Lib.validD e.1.text=true):=fun e he=>
  ⟨(hM2 _ (bX he).2).1,(hM2 _ (bX he).2).2,(hT.mem _ (fj (bX he).2)).text⟩
 have:=hUT.lt
 rcases h with⟨rfl,rfl⟩|⟨rfl,ss,hss,hpr⟩
 ·refine co Tryz.func85 ?_
  have he:=XI w
  refine jA 2 rfl ?_
  have hs1:=he.s
  refine Ha fun w1 hb1 e1=>?_
  refine jD 10 rfl<|Hq (aF Fb.h rfl)<|jD 123 rfl<|Hq (aQ Fb.h rfl)<|jD 11 rfl ?_
  replace hUT:=hUT.m e1
  replace hRE:=hRE.m e1
  replace hMo:=hMo.m e1
  refine cl rfl (sX hVe hKe hUT hRE (by omega) hMo) ?_
  rintro v2 w2 ⟨sv,qs,rfl,hX,⟨es',hp2,hSh⟩,e2⟩
  have hx1:=hb1.lt
  have hX0:=hX
  obtain⟨p2,c2,_,hsv,_⟩:=hX0
  subst hsv
  refine jD 9 rfl<|Hq (az (cs:=[_,_,_,_,_,_]) Fo.h rfl rfl)<|jC 1 rfl ?_
  replace hb1:=hb1.m e2
  refine Ho rfl rfl hb1 fun w3 hb1 e3 hz3=>?_
  refine jC 2 rfl<|WC.ret ?_
  obtain⟨ps,hSh2,hqp⟩:=hSh.perm hp2
  replace hX:=hX.m e3
  have hX:=hX.low (B:=fun b=>w.heap.size≤b) (fun b h=>Nat.le_trans e1.s h)
  replace he:=((he.t e1).t e2).t e3
  exact cw rfl hb1 bR rfl ⟨_,_,rfl,by rw[aC];exact⟨_,_,rfl,hX,cM.nil⟩,.map (hSh2.imp fun e he a h=>sl (hKe e he).1 h).back hqp,he⟩
 ·obtain⟨rfl,hk⟩:=nt hss (fun e he=>(hKe e he).1)
  rw[gn]at hM3
  have hnd:=nr (fun e he=>(hKe e he).2.1) hk hM3
  have hpr2:kvs.Perm (es.map yF):=by rw[List.map_map]at hpr;exact hpr
  refine co Tryz.func85 ?_
  have he:=XI w
  refine jA 2 rfl ?_
  have hs1:=he.s
  refine Ha fun w1 hb1 e1=>?_
  refine jD 10 rfl<|Hq (aF Fb.h rfl)<|jD 130 rfl<|Hq (aQ Fb.h rfl)<|jD 11 rfl ?_
  replace hUT:=hUT.m e1
  replace hRE:=hRE.m e1
  replace hMo:=hMo.m e1
  refine cl rfl (iO hVe hUT hRE hnd (by omega) hMo hpr2) ?_
  rintro v2 w2 ⟨sv,qs,rfl,hX,⟨es',hp2,hSh⟩,e2⟩
  have hx1:=hb1.lt
  have hX0:=hX
  obtain⟨p2,c2,_,hsv,_⟩:=hX0
  subst hsv
  refine jD 9 rfl<|Hq (az (cs:=[_,_,_,_,_,_]) Fo.h rfl rfl)<|jC 1 rfl ?_
  replace hb1:=hb1.m e2
  refine Ho rfl rfl hb1 fun w3 hb1 e3 hz3=>?_
  refine jC 2 rfl<|WC.ret ?_
  obtain⟨ps,hSh2,hqp⟩:=hSh.perm hp2
  replace hX:=hX.m e3
  have hX:=hX.low (B:=fun b=>w.heap.size≤b) (fun b h=>Nat.le_trans e1.s h)
  replace he:=((he.t e1).t e2).t e3
  exact cw rfl hb1 bR rfl ⟨_,_,rfl,by rw[aC];exact⟨_,_,rfl,hX,cM.nil⟩,.map (hSh2.imp fun e he a h=>sl (hKe e he).1 (by
   have h1:=hk e he
   have h2:=(hKe e he).2.1.2.2.2.2.2 (by omega)
   rw[h,h2];unfold mP;split<;>simp_all)).back hqp,he⟩
mutual
theorem Eg:∀x:V,fh x→ng x→fO x
 | .mk k n t ks o d,h,hT=>fun A u w hUT hR=>by
  have hm:=h
  rw[fh]at h
  obtain⟨h1,h2,h3,h4,h5,h6,h7,h8⟩:=h
  have hT0:=hT
  rw[ng]at hT
  have hvs:k=21∨k=22→∀x∈ks,fO x:=fun hk=>m0 ks (by rcases hk with hk|hk;exact h6 hk;exact(h7 hk).1) hT.2
  rw[bJ]at hR
  rcases hR with hR|⟨rfl,v,rfl,hB⟩|⟨rfl,p,c,cells,hu,_,hL,hat⟩|⟨rfl,m,kvs,kvs0,hAm,hMo,hpm,hcs⟩|⟨rfl,hAr⟩
  ·refine(mG h1 hR).imp fun r w' ⟨cells,e1,e2,e3⟩=>⟨cells,pv (mP k) n t,e1,by rw[e2];exact aC.plain _ _ _,?_,e3⟩
   refine .scal ?_ ?_ ?_<;>(intro hk;subst hk;unfold scal at hR;simp at hR)
  ·refine(vu hB).imp fun r w' ⟨cells,e1,e2,e3⟩=>⟨cells,pv 18 0 t,e1,by rw[e2];exact aC.plain _ _ _,?_,e3⟩
   have hn:n=0:=h1.2.2.2.2.2 (.inr (by simp only[V.kind];omega))
   subst hn
   exact .scal (by omega) (by omega) (by omega)
  ·exact tE (hvs (.inl rfl)) hUT h5 p c cells hu hL hat
  ·exact vz (hvs (.inr rfl)) hT.2 hm.mapOK hUT h5 m kvs kvs0 hMo hpm hcs
  ·obtain⟨_,kk,_,h8⟩:=h8 rfl
   refine(vt (fun x hx=>(h8 x hx).2.1) (by omega) hAr).imp fun r w' ⟨cells,kk,e1,e2,e3⟩=>⟨cells,_,e1,e2,.arr,e3⟩
theorem m0:∀l:List V,cG l→gm l→∀x∈l,fO x
 |[],_,_,x,hx=>by cases hx
 |a::r,h,hT,x,hx=>by
  rw[cG]at h
  rw[gm]at hT
  rcases List.mem_cons.1 hx with e|hx
  ·exact e▸Eg a h.1 hT.1
  ·exact m0 r h.2 hT.2 x hx
end
end Go.Proofs.LL
