/- Contracts of functions and own laws. Conditions: those that each theorem states. -/
import Derived.Test.YtdgbmbjkbmpcbaaGreatDoorV27
set_option linter.all false
set_option autoImplicit true
set_option relaxedAutoImplicit true
set_option maxRecDepth 20000
namespace Go.Proofs.LL
open Go Go.Proofs Go.RowKit
set_option maxHeartbeats 4000000
attribute [local irreducible] ar WL WC cq WT WX
theorem Bz:ah TP 244 [.int .u64 0] w fun r w'=>r= .int .i64 0∧ay w w':=by
 refine aR Tryz.func244 ?_
 refine jA 8 rfl<|Hq (ae (bK rfl rfl) (decide_eq_false (by omega)))<|jD 3 rfl<|jA 4 rfl<|Hq (ae (bK rfl rfl) (decide_eq_false (by omega)))<|jD 3 rfl<|jA 4 rfl<|Hq (ae (bK rfl rfl) (decide_eq_false (by omega)))<|jD 3 rfl<|jA 4 rfl<|Hq (aL Fo.h rfl)<|Hq (zF Fb.h rfl rfl rfl (show _=some (0:UInt8)from by kernel_rfl))<|Hq (aL Fo.h rfl)<|Hq (jj (a:=0) (b:=0) rfl rfl rfl (by omega) (by omega))<|jC 2 rfl<|WC.ret ?_
 exact aw rfl ⟨rfl,ch⟩
theorem E1:ah TP 234 [.slice none 0 0,.int .i64 0,.int .i64 0] w fun r w'=>r= .tuple #[]∧ay w w':=by
 refine mJ Tryz.func234 ?_
 refine jA 3 rfl<|ai rfl rfl rfl<|jD 3 rfl<|WC.loop2 (ι:=Nat) [(0,_),(1,_),(2,_)] (fun i=>[(6,.int .i64 1)]) (fun i wi=>ay w wi) (fun i=>0) 0 sb sb Xr ?_
 intro i wi1 hh;have hE:=hh
 refine jA 5 rfl<|lF rfl rfl<|jD 2 rfl<|WC.exit ?_
 exact gO (ρ:=cn 0 []) (R:=fun r w'=>r=Value.tuple #[]∧ay w w') ⟨rfl,ch⟩
theorem Fe:ah TP 210 [.slice none 0 0,.int .i64 0,.int .i64 0,.int .i64 0] w fun r w'=>r= .tuple #[]∧ay w w':=by
 refine mJ Tryz.func210 ?_
 refine jA 9 rfl<|WC.loop2 (ι:=Nat) [(0,_)] (fun i=>[(1,.int .i64 0),(2,.int .i64 0),(3,.int .i64 0),(8,.bool true),(9,.bool true)]) (fun i wi=>ay w wi) (fun i=>0) 0 sb sb Xr ?_
 intro i wi1 hh;have hE:=hh
 refine jA 5 rfl<|Hq (bP rfl rfl rfl (by omega) (by omega))<|jD 6 rfl<|Hq (ae (aY rfl rfl) (decide_eq_true (by omega)))<|jD 7 rfl<|Hl rfl (E1) fun w1 e1=>?_
 refine WL.nil<|WC.ret ?_
 exact DF (ρ:=cn 0 []) (R:=fun r w'=>r=Value.tuple #[]∧ay w w') ⟨rfl,ch⟩
theorem E5:ah TP 211 [.int .u64 0] w fun r w'=>r= .int .i64 0∧ay w w':=by
 refine aR Tryz.func211 ?_
 refine jA 10 rfl<|Hl rfl (Bz) fun w1 e1=>?_
 refine jC 2 rfl<|WC.ret ?_
 exact aw rfl ⟨rfl,ch⟩
theorem Fy:ah TP 136 [.slice none 0 0] w fun r w'=>r= .tuple #[]∧ay w w':=by
 refine mJ Tryz.func136 ?_
 refine jA 10 rfl<|Hq (aL Fo.h rfl)<|Hl rfl (E5) fun w1 e1=>?_
 refine Hl rfl (Fe) fun w2 e2=>?_
 refine WL.nil ?_
 exact gO ⟨rfl,ch⟩
theorem pK:ah TP 84 [.slice none 0 0] w fun r w'=>r= .tuple #[]∧ay w w':=by
 refine mJ Tryz.func84 ?_
 refine jA 2 rfl<|Hl rfl (Fy) fun w1 e1=>?_
 refine WL.nil ?_
 exact gO ⟨rfl,ch⟩
theorem xT{ss:List (List UInt8)}(h:aT B 9 1 w v ss.length (ss.map str))(hsz:ss.length≤65536):
  ah TP 84 [v] w fun r w'=>r= .tuple #[]∧aT B 9 1 w' v ss.length ((ss.mergeSort fun x y=>decide (x≤y)).map str)∧am (fun k=>k<B) w w':=by
 rcases h.row.2 with⟨rfl,h2⟩|⟨g,cap,cur,rfl,hBg,_⟩
 ·have hs:ss=[]:=List.length_eq_zero_iff.1 h2
  subst hs
  exact pK.imp fun r w' ⟨a,e⟩=>⟨a,by simpa using aT.nil B 9 1 w',e.k fun _ _ _=>trivial⟩
 ·obtain⟨hH,hg⟩:=h.holds
  refine⟨Calls.mono (Any.sort_Strings Tryz.lays192 g 0 cap ss w hH hg (by omega)) fun e w' hr=>?_⟩
  obtain⟨rfl,n,os,rfl⟩:=hr
  exact⟨_,rfl,rfl,h.sorted (by simp),(u9 _).k fun k _ hk=>by show k≠g;omega⟩
theorem iO{es:List iW}{kk:Int}(hV:∀e∈es,fO e.2.1)(hUT:UT w)(hRE:wT A w es)(hnd:(es.map (·.1.text)).Nodup)(hle:es.length≤65536)(hM:cT w m kvs)(hp:kvs.Perm (es.map yF)):
  ah TP 79 [.int .i64 kk,.map (some m)] w fun r w'=>∃sv qs,r= .tuple #[sv,.bool true]∧cM (fun b=>w.heap.size≤b) w' (qs.flatMap eX).length sv (ag (fun b=>w.heap.size≤b) w' (qs.flatMap eX))∧(∃es',es'.Perm es∧cE (fun k a=>a=pv kk 0 k.text) es' qs)∧ay w w':=by
 obtain⟨es1,hp1,rfl⟩:=lV hp
 have hm0:=hM.lt
 have hnd1:(es1.map (·.1.text)).Nodup:=(hp1.map _).nodup_iff.2 hnd
 have hl1:es1.length=es.length:=hp1.length_eq
 have hkl:(es1.map yF).length=es1.length:=List.length_map ..
 refine cN Tryz.func79 ?_
 have he:=Hi w
 refine jA 13 rfl<|WL.l rfl (mW Fo.h rfl hM) ?_
 rintro v1 w1 ⟨rfl,hI,e1⟩
 have hx1:=hI.lt
 have hq1:=e1.s
 refine jD 2 rfl ?_
 replace hM:=hM.m e1
 replace he:=he.t e1
 refine WC.loop2 (ι:=(List Nat×Value)) [(0,_),(1,_),(4,_),(5,_),(14,_)] (fun i=>[(6,i.2)]) (fun i wi=>tK wi w.heap.size m (es1.map yF).length i.1∧i.1.Nodup∧(∀j∈i.1,j<(es1.map yF).length)∧aT w1.heap.size 9 1 wi i.2 i.1.length ((i.1.map (AW es1)).map str)∧am (fun k=>k<w1.heap.size∧k≠w.heap.size) w1 wi) (fun i=>(es1.map yF).length-i.1.length) ([],.slice none 0 0) sb sb (⟨hI,.nil,by simp,aT.nil _ _ _ _,am.refl _⟩) ?_
 intro i wi1 hh;obtain⟨hI,hnd2,hlt2,hO,hE⟩:=hh
 obtain⟨i,sv⟩:=i
 dsimp only at hI hnd2 hlt2 hO
 have hwi:=hE.s
 have hil:i.length≤65536:=by
  have:=List.Nodup.length_le_of_subset (l₂:=List.range (es1.map yF).length) hnd2 (fun j hj=>List.mem_range.2 (hlt2 j hj))
  simp at this;omega
 replace hM:=hM.m hE
 rcases mX (P:=TP) hM hI with⟨hall,hN⟩|⟨j,hj,hnj,hN⟩
 ·have hper:=jO hnd2 hlt2 hall
  have hpt:(i.map (AW es1)).Perm (es1.map (·.1.text)):=by
   rw[← xW,← hkl];exact hper.map _
  obtain⟨es2,hp2,hst⟩:=lV ((List.mergeSort_perm (i.map (AW es1)) (fun x y=>decide (x≤y))).trans hpt)
  have hl2:es2.length=es1.length:=hp2.length_eq
  have hilen:i.length=es1.length:=by have:=hpt.length_eq;simpa using this
  refine jA 2 rfl<|WL.l rfl (hN rfl) ?_
  rintro v2 w2 ⟨rfl,e2⟩
  have hq2:=e2.s
  refine jD 4 rfl<|WC.exit<|jA 3 rfl ?_
  replace hO:=hO.m e2
  refine Hm rfl (xT (ss:=i.map (AW es1)) (by rw[List.length_map];exact hO) (by simpa using hil)) fun w3 hS e3=>?_
  have hqs:=e3.s
  rw[hst,List.length_map]at hS
  obtain⟨p,c,hsv,hpc,hAt⟩:=hS.form
  subst hsv
  refine jD 13 rfl ?_
  replace hM:=(hM.m e2).m e3
  replace he:=((he.t hE).t e2).t e3
  refine WC.loop2 (ι:=(Nat×Value)) [(0,_),(1,_),(4,_),(5,_),(6,_),(14,_),(25,_),(26,_)] (fun i=>[(8,i.2),(27,.int .i64 (i.1:Int))]) (fun i wi=>(∃cs qs,aT w3.heap.size 87 6 wi i.2 (2 * i.1) cs∧ag (fun b=>w.heap.size≤b∧i.2.ownBlock≠some b) wi (qs.flatMap eX) cs∧cE (fun k a=>a=pv kk 0 k.text) (es2.take i.1) qs)∧i.1≤es2.length∧am (fun b=>b<w3.heap.size) w3 wi) (fun i=>es2.length-i.1) (0,.slice none 0 0) sb sb (⟨⟨[],[],aT.nil _ _ _ _,by rw[List.flatMap_nil,ag],by simpa using cE.nil⟩,Nat.zero_le _,am.refl _⟩) ?_
  intro i wi2 hh;obtain⟨⟨cs,qs,hP,hV2,hSh⟩,hil2,hE⟩:=hh
  obtain⟨i2,so⟩:=i
  dsimp only at hP hV2 hSh hil2
  have hwi2:=hE.s
  rcases Nat.lt_or_ge i2 es2.length with hi|hi
  ·obtain⟨b,rfl,hBb,hbl,hAt⟩:=hAt (by omega)
   have hAti:=(hAt.m hE hbl).get (j:=i2) (v:=str es2[i2].1.text) (by simp[hi])
   have hmem1:es2[i2]∈es1:=hp2.mem_iff.1 (List.getElem_mem hi)
   have hmem:es2[i2]∈es:=hp1.mem_iff.1 hmem1
   obtain⟨j,hj,hje,hjn⟩:=yG hnd1 hmem1
   replace he:=he.t hE
   have hra:=bJ.m' (hRE _ hmem) he (fun b hb _=>hb)
   have hU1:=hUT.ext he
   refine jA 2 rfl<|lT rfl rfl<|jD 8 rfl<|Hq (dX Fo.h rfl rfl rfl)<|Hq (ao Fb.h rfl Xr hAti)<|jD 6 rfl ?_
   replace hM:=hM.m hE
   refine Hq (BS Fo.h Fb.h rfl rfl Xr hM hj hje hjn)<|cl rfl (hV _ hmem _ _ _ hU1 hra) ?_
   rintro v4 w4 ⟨c6,y,rfl,hVy,hBy,e4⟩
   have hone:=hVy.one
   have hlen:=hVy.len
   refine jC 3 rfl ?_
   replace he:=he.t e4
   have hs5:=he.s
   refine Ha fun w5 hb5 e5=>?_
   refine Ho rfl rfl hb5 fun w6 hb5 e6 hz6=>?_
   refine jD 14 rfl<|Hq (az (cs:=[_,_,_,_,_,_]) Fo.h rfl rfl)<|la rfl hb5 ?_
   replace he:=he.t (e5.t e6)
   have hs7:=he.s
   have hx7b5:=hb5.lt
   refine WL.l rfl (ll [_,_]) ?_
   rintro _ w7 ⟨rfl,hb7,e7⟩
   refine WL.l rfl (eF (n:=2 * i2) Fo.h rfl rfl (hP.m (((e4.t (e5.t e6)).t e7):ay wi2 w7)) (Src.at Fb.h (vT hb7) (by simp[hlen]) (by rw[List.all_append,hone];rfl)) (by have:=e4.s;have:=e5.s;have:=e6.s;have:=e7.s;omega) (by simp only[maxLen];omega) (by omega)) ?_
   rintro v8 w8 ⟨hO8,e8,hob⟩
   have e8o:=e8
   have e8:=aT.evo (w0:=w) (hP.m (((e4.t (e5.t e6)).t e7):ay wi2 w7)) e8o
   refine jD 3 rfl<|ai rfl rfl rfl<|jC 2 rfl ?_
   have hV3:=ag.push hP hV2 (by omega) (((e4.t (e5.t e6)).t e7):ay wi2 w7) ((ag.one (aC.plain kk 0 es2[i2].1.text)).append (ag.one (hVy.m ((e5.t e6).t e7)))) e8o hob
   have hSh2:=hSh.snoc (e:=es2[i2]) (q:=(pv kk 0 es2[i2].1.text,y)) rfl hBy
   rw[List.take_append_getElem hi]at hSh2
   exact⟨(i2+1,v8),sb,sb,⟨⟨_,_,hO8,by rw[List.flatMap_append];exact hV3,hSh2⟩,hi,(((((hE.t e4).t (e5.t e6)).t e7).t e8))⟩,(by show es2.length-(i2+1)<es2.length-i2;omega)⟩
  ·have hin:i2=es2.length:=by omega
   subst hin
   rw[List.take_length]at hSh
   refine jA 2 rfl<|lF rfl rfl<|jD 3 rfl<|WC.exit<|jA 6 rfl<|WC.ret ?_
   replace he:=he.t hE
   exact bt rfl rfl ⟨so,qs,rfl,by exact(cM.own hP (by rw[dE,hSh.length]) (hV2.k fun b h=>h.1) (fun b h _=>by show w.heap.size≤b;omega)),⟨es2,hp2.trans hp1,hSh⟩,he.k fun k hk _=>hk⟩
 ·obtain⟨hnd3,hlt3,hmu⟩:=jP hnd2 hlt2 hj hnj
  have hj1:j<es1.length:=by omega
  have hmap:(((i++[j]).map (AW es1)).map str)=((i.map (AW es1)).map str)++[str es1[j].1.text]:=by
   simp[wB hj1]
  have hgk:((es1.map yF)[j]).1=str es1[j].1.text:=by simp[xP,xm]
  refine jA 2 rfl<|WL.l rfl (hN rfl) ?_
  rintro v2 w2 ⟨rfl,hI,e2⟩
  refine jD 8 rfl ?_
  replace hM:=hM.m e2
  refine Hq (jl rfl hj hgk rfl Xr hM hI)<|jD 6 rfl ?_
  replace he:=(he.t hE).t e2
  have hs3:=he.s
  refine WL.l rfl (ll [_]) ?_
  rintro _ w3 ⟨rfl,hb3,e3⟩
  replace hO:=(hO.m e2).m e3
  refine WL.l rfl (bz Fo.h rfl rfl hO (Src.at Fb.h hb3.at rfl rfl) (by have:=e2.s;have:=e3.s;omega) (by simp only[maxLen];omega) (by omega)) ?_
  rintro v4 w4 ⟨hO,e4⟩
  refine jC 2 rfl ?_
  have hO2:aT w1.heap.size 9 1 w4 v4 (i.length+1) ((i.map (AW es1)).map str++[str es1[j].1.text]):=hO
  rw[← hmap]at hO2
  replace hI:=(hI.m e3).m e4
  exact⟨(i++[j],v4),sb,sb,⟨hI,hnd3,hlt3,(by rw[List.length_append];exact hO2),((((hE.t e2).t e3).t e4))⟩,hmu⟩
theorem lv{kk:Int}:
  ah TP 79 [.int .i64 kk,.map none] w fun r w'=>r= .tuple #[.slice none 0 0,.bool true]∧ay w w':=by
 refine cN Tryz.func79 ?_
 refine jA 13 rfl<|WL.l rfl (sN Fo.h rfl) ?_
 rintro v1 w1 ⟨rfl,hI,e1⟩
 refine jD 2 rfl<|WC.loop2 (ι:=Nat) [(0,_),(1,_),(4,_),(5,_),(14,_)] (fun i=>[(6,.slice none 0 0)]) (fun i wi=>Ci wi w.heap.size∧am (fun _=>True) w1 wi) (fun i=>0) 0 sb sb (⟨hI,am.refl _⟩) ?_
 intro i wi1 hh;obtain⟨hI,hE⟩:=hh
 refine jA 2 rfl<|WL.l rfl (wk rfl hI) ?_
 rintro v2 w2 ⟨rfl,e2⟩
 refine jD 4 rfl<|WC.exit<|jA 3 rfl<|Hl rfl (pK) fun w3 e3=>?_
 refine jD 13 rfl<|WC.loop2 (ι:=Nat) [(0,_),(1,_),(4,_),(5,_),(6,_),(14,_),(25,_),(26,_)] (fun i=>[(8,.slice none 0 0),(27,.int .i64 0)]) (fun i wi=>am (fun _=>True) w3 wi) (fun i=>0) 0 sb sb Vr ?_
 intro i wi2 hh;have hE:=hh
 refine jA 2 rfl<|lF rfl rfl<|jD 3 rfl<|WC.exit<|jA 6 rfl<|WC.ret ?_
 exact bt rfl rfl ⟨rfl,ch⟩
def Wb(B bb:Nat)(w:World)(n:Nat):Prop:=∃v l,l.length=n∧aH w bb [v,.int .i64 0]∧aT B 5 1 w v n (bc l)
theorem Wb.lt(h:Wb B bb w n):bb<w.heap.size:=by obtain⟨v,l,_,h,_⟩:=h;exact h.lt
theorem Wb.m(h:Wb B bb w n)(e:am A w w')(hA:∀b,b<w.heap.size→(B≤b∨b=bb)→A b:=by(intro b hb1 hb2;first|exact trivial|exact hb2|((try dsimp only[Nb]at hb2⊢);omega))):Wb B bb w' n:=by
 obtain⟨v,l,h1,h2,h3⟩:=h
 exact⟨v,l,h1,h2.m e (hA _ h2.lt (.inr rfl)),h3.m e (fun b hb hs=>hA b hs (.inl hb))⟩
theorem wC(z:Int):∃b:UInt8,IntKind.u8.wrap z=(b.toNat:Int):=by
 have h:∃m:Nat,m<256∧IntKind.u8.wrap z=(m:Int):=⟨(z%256).toNat,by omega,by
  have:IntKind.u8.wrap z=z%256:=rfl
  rw[this];omega⟩
 obtain⟨m,h1,h2⟩:=h
 exact⟨UInt8.ofNat m,by rw[h2];simp;omega⟩
theorem aT.one(h:aT B e z w v n xs):v.oneCell'=true:=by
 obtain⟨p,c,rfl,_⟩:=h.form
 rfl
theorem bC(a b:List UInt8):bc (a++b)=bc a++bc b:=List.map_append
theorem Wb.of{B bb n m:Nat}{w:World}{v:Value}{l:List UInt8}{xs:List Value}(hb:aH w bb [v,.int .i64 0])(hO:aT B 5 1 w v (n+m) (bc l++xs))(hl:l.length=n)(hx:∃l2:List UInt8,l2.length=m∧xs=bc l2):Wb B bb w (n+m):=by
 obtain⟨l2,h1,rfl⟩:=hx
 exact⟨v,l++l2,by simp[hl,h1],hb,by rw[bC];exact hO⟩
theorem cj{z:UInt8}(hW:Wb B bb w n)(h1:bb<B)(h2:B≤w.heap.size)(hn:n≤1000000):
  ah TP 259 [.pointer (some ⟨bb,0,none⟩),.int .u8 (z.toNat:Int)] w fun r w'=>r= .tuple #[]∧Wb B bb w' (n+1)∧am (fun k=>k<B∧k≠bb) w w':=by
 obtain⟨v,l,hl,hb,hO⟩:=hW
 refine mJ Tryz.func259 ?_
 have he:am (fun k=>k<B∧k≠bb) w w:=am.refl w
 refine WC.region<|Hq (aq rfl)<|Hq (aq rfl)<|Hq (bE rfl)<|Hq (aa rfl Fo.h)<|ld rfl hb rfl<|Hq (aq rfl) ?_
 have:=he.s
 refine WL.l rfl (ll [_]) ?_
 rintro _ w1 ⟨rfl,hb1,e1⟩
 replace hO:=hO.m e1
 refine WL.l rfl (bz Fo.h rfl rfl hO (Src.at Fb.h hb1.at rfl rfl) (by have:=e1.s;omega) (by simp only[maxLen];omega) (by omega)) ?_
 rintro v2 w2 ⟨hO,e2⟩
 refine Hq (bE rfl)<|Hq (aa rfl Fo.h) ?_
 replace hb:=(hb.m e1).m e2
 refine Hp rfl rfl hb fun w3 hb e3 hz3=>?_
 refine WL.nil ?_
 replace hO:=hO.m e3
 replace he:=((he.t e1).t e2).t e3
 exact gO ⟨rfl,⟨_,l++[z],by simp[hl],hb,by rw[bC];exact hO⟩,he⟩
theorem yq(hW:Wb B bb w n)(h1:bb<B)(h2:B≤w.heap.size)(hn:n≤1000000)(hu:bT A w u l2)(hm:l2.length=m)(hm2:m≤200000):
  ah TP 263 [.pointer (some ⟨bb,0,none⟩),u] w fun r w'=>r= .tuple #[]∧Wb B bb w' (n+m)∧am (fun k=>k<B∧k≠bb) w w':=by
 obtain⟨v,l,hl,hb,hO⟩:=hW
 subst hm
 refine mJ Tryz.func263 ?_
 refine WC.region<|Hq (aq rfl)<|Hq (aq rfl)<|Hq (bE rfl)<|Hq (aa rfl Fo.h)<|ld rfl hb rfl<|Hq (aq rfl)<|WL.l rfl (bz Fo.h rfl rfl hO (Src.isB Fb.h hu) (by omega) (by simp only[maxLen];omega) (by omega)) ?_
 rintro v1 w1 ⟨hO,e1⟩
 refine Hq (bE rfl)<|Hq (aa rfl Fo.h) ?_
 replace hb:=hb.m e1
 refine Hp rfl rfl hb fun w2 hb e2 hz2=>?_
 refine WL.nil ?_
 replace hO:=hO.m e2
 exact gO ⟨rfl,⟨_,l++l2,by simp[hl],hb,by rw[bC];exact hO⟩,ch⟩
theorem oX{t:List UInt8}(hW:Wb B bb w n)(h1:bb<B)(h2:B≤w.heap.size)(hn:n≤1000000)(hm2:t.length≤200000):
  ah TP 309 [.pointer (some ⟨bb,0,none⟩),str t] w fun r w'=>r= .tuple #[]∧Wb B bb w' (n+t.length)∧am (fun k=>k<B∧k≠bb) w w':=by
 obtain⟨v,l,hl,hb,hO⟩:=hW
 refine mJ Tryz.func309 ?_
 refine WC.region<|Hq (aq rfl)<|Hq (aq rfl)<|Hq (bE rfl)<|Hq (aa rfl Fo.h)<|ld rfl hb rfl<|Hq (aq rfl)<|WL.l rfl (bz Fo.h rfl rfl hO (Src.str Fb.h) (by omega) (by simp only[maxLen];omega) (by omega)) ?_
 rintro v1 w1 ⟨hO,e1⟩
 refine Hq (bE rfl)<|Hq (aa rfl Fo.h) ?_
 replace hb:=hb.m e1
 refine Hp rfl rfl hb fun w2 hb e2 hz2=>?_
 refine WL.nil ?_
 replace hO:=hO.m e2
 exact gO ⟨rfl,⟨_,l++t,by simp[hl],hb,by rw[bC];exact hO⟩,ch⟩
theorem io{z1 z2:Int}:∃l:List UInt8,l.length=2∧[Value.int .u8 (IntKind.u8.wrap z1),Value.int .u8 (IntKind.u8.wrap z2)]=bc l:=by
 obtain⟨a,ha⟩:=wC z1
 obtain⟨b,hb⟩:=wC z2
 exact⟨[a,b],rfl,by rw[ha,hb];rfl⟩
theorem uf{z1 z2 z3 z4:Int}:∃l:List UInt8,l.length=4∧[Value.int .u8 (IntKind.u8.wrap z1),Value.int .u8 (IntKind.u8.wrap z2),Value.int .u8 (IntKind.u8.wrap z3),Value.int .u8 (IntKind.u8.wrap z4)]=bc l:=by
 obtain⟨a,ha,e1⟩:=io (z1:=z1) (z2:=z2)
 obtain⟨b,hb,e2⟩:=io (z1:=z3) (z2:=z4)
 exact⟨a++b,by simp[ha,hb],by rw[bC,← e1,← e2];rfl⟩
theorem Do{z1 z2 z3 z4 z5 z6 z7 z8:Int}:∃l:List UInt8,l.length=8∧[Value.int .u8 (IntKind.u8.wrap z1),Value.int .u8 (IntKind.u8.wrap z2),Value.int .u8 (IntKind.u8.wrap z3),Value.int .u8 (IntKind.u8.wrap z4),Value.int .u8 (IntKind.u8.wrap z5),Value.int .u8 (IntKind.u8.wrap z6),Value.int .u8 (IntKind.u8.wrap z7),Value.int .u8 (IntKind.u8.wrap z8)]=bc l:=by
 obtain⟨a,ha,e1⟩:=uf (z1:=z1) (z2:=z2) (z3:=z3) (z4:=z4)
 obtain⟨b,hb,e2⟩:=uf (z1:=z5) (z2:=z6) (z3:=z7) (z4:=z8)
 exact⟨a++b,by simp[ha,hb],by rw[bC,← e1,← e2];rfl⟩
theorem r5{z:Int}(hW:Wb B bb w n)(h1:bb<B)(h2:B≤w.heap.size)(hn:n≤1000000):
  ah TP 262 [.pointer (some ⟨bb,0,none⟩),.int .u16 z] w fun r w'=>r= .tuple #[]∧Wb B bb w' (n+2)∧am (fun k=>k<B∧k≠bb) w w':=by
 obtain⟨v,l,hl,hb,hO⟩:=hW
 refine mJ Tryz.func262 ?_
 have he:am (fun k=>k<B∧k≠bb) w w:=am.refl w
 refine WC.region<|Hq (aq rfl)<|Hq (aq rfl)<|Hq (bE rfl)<|Hq (aa rfl Fo.h)<|ld rfl hb rfl<|Hq (aq rfl)<|Hq (df rfl rfl (by decide))<|Hq (aL Fo.h rfl)<|Hq (aq rfl)<|Hq (aL Fo.h rfl) ?_
 have hs1:=he.s
 refine WL.l rfl (ll [_,_]) ?_
 rintro _ w1 ⟨rfl,hb1,e1⟩
 replace hO:=hO.m e1
 refine WL.l rfl (bz Fo.h rfl rfl hO (Src.at Fb.h hb1.at rfl rfl) (by have:=e1.s;omega) (by simp only[maxLen];omega) (by omega)) ?_
 rintro v2 w2 ⟨hO,e2⟩
 refine Hq (bE rfl)<|Hq (aa rfl Fo.h) ?_
 replace hb:=(hb.m e1).m e2
 refine Hp rfl rfl hb fun w3 hb e3 hz3=>?_
 refine WL.nil ?_
 replace hO:=hO.m e3
 replace he:=((he.t e1).t e2).t e3
 exact gO ⟨rfl,Wb.of hb hO hl io,he⟩
theorem kM{z:Int}(hW:Wb B bb w n)(h1:bb<B)(h2:B≤w.heap.size)(hn:n≤1000000):
  ah TP 308 [.pointer (some ⟨bb,0,none⟩),.int .u32 z] w fun r w'=>r= .tuple #[]∧Wb B bb w' (n+4)∧am (fun k=>k<B∧k≠bb) w w':=by
 obtain⟨v,l,hl,hb,hO⟩:=hW
 refine mJ Tryz.func308 ?_
 have he:am (fun k=>k<B∧k≠bb) w w:=am.refl w
 refine WC.region<|Hq (aq rfl)<|Hq (aq rfl)<|Hq (bE rfl)<|Hq (aa rfl Fo.h)<|ld rfl hb rfl<|Hq (aq rfl)<|Hq (df rfl rfl (by decide))<|Hq (aL Fo.h rfl)<|Hq (aq rfl)<|Hq (df rfl rfl (by decide))<|Hq (aL Fo.h rfl)<|Hq (aq rfl)<|Hq (df rfl rfl (by decide))<|Hq (aL Fo.h rfl)<|Hq (aq rfl)<|Hq (aL Fo.h rfl) ?_
 have hs1:=he.s
 refine WL.l rfl (ll [_,_,_,_]) ?_
 rintro _ w1 ⟨rfl,hb1,e1⟩
 replace hO:=hO.m e1
 refine WL.l rfl (bz Fo.h rfl rfl hO (Src.at Fb.h hb1.at rfl rfl) (by have:=e1.s;omega) (by simp only[maxLen];omega) (by omega)) ?_
 rintro v2 w2 ⟨hO,e2⟩
 refine Hq (bE rfl)<|Hq (aa rfl Fo.h) ?_
 replace hb:=(hb.m e1).m e2
 refine Hp rfl rfl hb fun w3 hb e3 hz3=>?_
 refine WL.nil ?_
 replace hO:=hO.m e3
 replace he:=((he.t e1).t e2).t e3
 exact gO ⟨rfl,Wb.of hb hO hl uf,he⟩
theorem kN{z:Int}(hW:Wb B bb w n)(h1:bb<B)(h2:B≤w.heap.size)(hn:n≤1000000):
  ah TP 307 [.pointer (some ⟨bb,0,none⟩),.int .u64 z] w fun r w'=>r= .tuple #[]∧Wb B bb w' (n+8)∧am (fun k=>k<B∧k≠bb) w w':=by
 obtain⟨v,l,hl,hb,hO⟩:=hW
 refine mJ Tryz.func307 ?_
 have he:am (fun k=>k<B∧k≠bb) w w:=am.refl w
 refine WC.region<|Hq (aq rfl)<|Hq (aq rfl)<|Hq (bE rfl)<|Hq (aa rfl Fo.h)<|ld rfl hb rfl<|Hq (aq rfl)<|Hq (df rfl rfl (by decide))<|Hq (aL Fo.h rfl)<|Hq (aq rfl)<|Hq (df rfl rfl (by decide))<|Hq (aL Fo.h rfl)<|Hq (aq rfl)<|Hq (df rfl rfl (by decide))<|Hq (aL Fo.h rfl)<|Hq (aq rfl)<|Hq (df rfl rfl (by decide))<|Hq (aL Fo.h rfl)<|Hq (aq rfl)<|Hq (df rfl rfl (by decide))<|Hq (aL Fo.h rfl)<|Hq (aq rfl)<|Hq (df rfl rfl (by decide))<|Hq (aL Fo.h rfl)<|Hq (aq rfl)<|Hq (df rfl rfl (by decide))<|Hq (aL Fo.h rfl)<|Hq (aq rfl)<|Hq (aL Fo.h rfl) ?_
 have hs1:=he.s
 refine WL.l rfl (ll [_,_,_,_,_,_,_,_]) ?_
 rintro _ w1 ⟨rfl,hb1,e1⟩
 replace hO:=hO.m e1
 refine WL.l rfl (bz Fo.h rfl rfl hO (Src.at Fb.h hb1.at rfl rfl) (by have:=e1.s;omega) (by simp only[maxLen];omega) (by omega)) ?_
 rintro v2 w2 ⟨hO,e2⟩
 refine Hq (bE rfl)<|Hq (aa rfl Fo.h) ?_
 replace hb:=(hb.m e1).m e2
 refine Hp rfl rfl hb fun w3 hb e3 hz3=>?_
 refine WL.nil ?_
 replace hO:=hO.m e3
 replace he:=((he.t e1).t e2).t e3
 exact gO ⟨rfl,Wb.of hb hO hl Do,he⟩
theorem ma{A:Prop}(h:A:=by
 rintro v2 w2 ⟨rfl,hW,e2⟩
 refine WL.nil ?_
 replace he:=(he.t e1).t e2
 exact gO (ρ:=cn 0 []) ⟨rfl,⟨_,by omega,by omega,hW⟩,he⟩):A:=h
theorem rP{A:Prop}(h:A:=by
 rintro v2 w2 ⟨rfl,hW,e2⟩
 refine WL.nil<|WC.ret ?_
 replace he:=(he.t e1).t e2
 exact DF (ρ:=cn 0 []) ⟨rfl,⟨_,by omega,by omega,hW⟩,he⟩):A:=h
theorem As{A:Prop}(h:A:=by
 rintro v1 w1 ⟨rfl,hW,e1⟩
 refine WL.nil<|WC.ret ?_
 replace he:=he.t e1
 exact DF (ρ:=cn 0 []) ⟨rfl,⟨_,by omega,by omega,hW⟩,he⟩):A:=h
theorem bT.lit{A:Nat→Prop}{n:Nat}(h:aH w g xs)(hx:∃l2:List UInt8,l2.length=n∧xs=bc l2)(hA:A g:=by trivial):∃l2:List UInt8,l2.length=n∧bT A w (.slice (some ⟨g,0,none⟩) n n) l2:=by
 obtain⟨l2,rfl,rfl⟩:=hx
 refine⟨l2,rfl,_,_,rfl,Nat.le_refl _,fun _=>⟨g,0,rfl,hA,fun j hj=>?_⟩⟩
 have h1:=h.at j (by simpa using hj)
 rw[h1]
 simp[hj]
theorem ij(hW:Wb B bb w n)(h1:bb<B)(h2:B≤w.heap.size)(hn:n≤1000000)(h:aH w g xs)(hx:∃l2:List UInt8,l2.length=2∧xs=bc l2):
  ah TP 263 [.pointer (some ⟨bb,0,none⟩),.slice (some ⟨g,0,none⟩) 2 2] w fun r w'=>r= .tuple #[]∧Wb B bb w' (n+2)∧am (fun k=>k<B∧k≠bb) w w':=by
 obtain⟨l2,hl,hI⟩:=bT.lit (A:=fun _=>True) h hx
 exact yq hW h1 h2 hn hI hl (by omega)
def Cj(B bb n:Nat)(r r':Value)(w w':World):Prop:=r=r'∧(∃m,n≤m∧m≤n+200000∧Wb B bb w' m)∧am (fun k=>k<B∧k≠bb) w w'
theorem Ce{z:Int}(hW:Wb B bb w n)(h1:bb<B)(h2:B≤w.heap.size)(hn:n≤1000)(hz:0≤z):
  ah TP 260 [.pointer (some ⟨bb,0,none⟩),.int .u64 z] w (Cj B bb n · (.tuple #[]) w ·):=by
 rcases Int.lt_or_le 0 z with h0|h0
 ·rcases Int.lt_or_le z 256 with h5|h5
  ·refine mJ Tryz.func260 ?_
   have he:am (fun k=>k<B∧k≠bb) w w:=am.refl w
   refine jA 4 rfl<|Hq (ae (ak rfl rfl) (bk (by omega)))<|jD 3 rfl<|jA 4 rfl<|lT rfl rfl<|jD 6 rfl<|Hq (aL Fo.h rfl) ?_
   have:=he.s
   refine WL.l rfl (ll [_,_]) ?_
   rintro _ w1 ⟨rfl,hb1,e1⟩
   replace hW:=hW.m e1
   refine cl rfl (ij hW h1 (by have:=e1.s;omega) (by omega) hb1 (io (z1:=83))) ?_
   exact rP
  ·refine mJ Tryz.func260 ?_
   have he:am (fun k=>k<B∧k≠bb) w w:=am.refl w
   refine jA 4 rfl<|Hq (ae (ak rfl rfl) (bk (by omega)))<|jD 3 rfl<|jA 4 rfl<|lF rfl rfl<|jD 3 rfl<|jA 3 rfl<|Hm rfl (cj (z:=128) hW h1 (by omega) (by omega)) fun w1 hW e1=>?_
   refine jD 4 rfl<|cl rfl (kN hW h1 (by have:=e1.s;omega) (by omega)) ?_
   exact ma
 ·have hz0:z=0:=by omega
  subst hz0
  refine mJ Tryz.func260 ?_
  have he:am (fun k=>k<B∧k≠bb) w w:=am.refl w
  refine jA 4 rfl<|Hq (ae (ak rfl rfl) (br (by omega)))<|jD 5 rfl<|cl rfl (cj (z:=68) hW h1 (by omega) (by omega)) ?_
  exact As
theorem Cd{z:Int}(hW:Wb B bb w n)(h1:bb<B)(h2:B≤w.heap.size)(hn:n≤1000)(hz:0≤z):
  ah TP 261 [.pointer (some ⟨bb,0,none⟩),.int .u32 z] w (Cj B bb n · (.tuple #[]) w ·):=by
 rcases Int.lt_or_le 0 z with h0|h0
 ·rcases Int.lt_or_le z 256 with h5|h5
  ·refine mJ Tryz.func261 ?_
   have he:am (fun k=>k<B∧k≠bb) w w:=am.refl w
   refine jA 4 rfl<|Hq (ae (ak rfl rfl) (bk (by omega)))<|jD 3 rfl<|jA 4 rfl<|lT rfl rfl<|jD 6 rfl<|Hq (aL Fo.h rfl) ?_
   have:=he.s
   refine WL.l rfl (ll [_,_]) ?_
   rintro _ w1 ⟨rfl,hb1,e1⟩
   replace hW:=hW.m e1
   refine cl rfl (ij hW h1 (by have:=e1.s;omega) (by omega) hb1 (io (z1:=82))) ?_
   exact rP
  ·refine mJ Tryz.func261 ?_
   have he:am (fun k=>k<B∧k≠bb) w w:=am.refl w
   refine jA 4 rfl<|Hq (ae (ak rfl rfl) (bk (by omega)))<|jD 3 rfl<|jA 4 rfl<|lF rfl rfl<|jD 3 rfl<|jA 3 rfl<|Hm rfl (cj (z:=112) hW h1 (by omega) (by omega)) fun w1 hW e1=>?_
   refine jD 4 rfl<|cl rfl (kM hW h1 (by have:=e1.s;omega) (by omega)) ?_
   exact ma
 ·have hz0:z=0:=by omega
  subst hz0
  refine mJ Tryz.func261 ?_
  have he:am (fun k=>k<B∧k≠bb) w w:=am.refl w
  refine jA 4 rfl<|Hq (ae (ak rfl rfl) (br (by omega)))<|jD 5 rfl<|cl rfl (cj (z:=67) hW h1 (by omega) (by omega)) ?_
  exact As
theorem B9{z:Int}(hW:Wb B bb w n)(h1:bb<B)(h2:B≤w.heap.size)(hn:n≤1000):
  ah TP 264 [.pointer (some ⟨bb,0,none⟩),.int .i64 z] w (Cj B bb n · (.tuple #[]) w ·):=by
 rcases Int.lt_or_le z 128 with h3|h3
 ·rcases Int.lt_or_le z (-128)with h4|h4
  ·refine mJ Tryz.func264 ?_
   have he:am (fun k=>k<B∧k≠bb) w w:=am.refl w
   refine jA 4 rfl<|lT rfl rfl<|jC 2 rfl<|Hg rfl rfl (ae (bK rfl rfl) (decide_eq_false (by omega)))<|jD 4 rfl<|jA 3 rfl<|Hm rfl (cj (z:=129) hW h1 (by omega) (by omega)) fun w1 hW e1=>?_
   refine jD 4 rfl<|Hq (aL Fo.h rfl)<|cl rfl (kN hW h1 (by have:=e1.s;omega) (by omega)) ?_
   exact ma
  ·refine mJ Tryz.func264 ?_
   have he:am (fun k=>k<B∧k≠bb) w w:=am.refl w
   refine jA 4 rfl<|lT rfl rfl<|jC 2 rfl<|Hg rfl rfl (ae (bK rfl rfl) (decide_eq_true (by omega)))<|jD 7 rfl<|Hq (aL Fo.h rfl) ?_
   have:=he.s
   refine WL.l rfl (ll [_,_]) ?_
   rintro _ w1 ⟨rfl,hb1,e1⟩
   replace hW:=hW.m e1
   refine cl rfl (ij hW h1 (by have:=e1.s;omega) (by omega) hb1 (io (z1:=85))) ?_
   exact rP
 ·refine mJ Tryz.func264 ?_
  have he:am (fun k=>k<B∧k≠bb) w w:=am.refl w
  refine jA 4 rfl<|lF rfl rfl<|jD 7 rfl<|jA 3 rfl<|Hm rfl (cj (z:=129) hW h1 (by omega) (by omega)) fun w1 hW e1=>?_
  refine jD 4 rfl<|Hq (aL Fo.h rfl)<|cl rfl (kN hW h1 (by have:=e1.s;omega) (by omega)) ?_
  exact ma
theorem B8{z:Int}(hW:Wb B bb w n)(h1:bb<B)(h2:B≤w.heap.size)(hn:n≤1000):
  ah TP 265 [.pointer (some ⟨bb,0,none⟩),.int .i32 z] w (Cj B bb n · (.tuple #[]) w ·):=by
 rcases Int.lt_or_le z 128 with h3|h3
 ·rcases Int.lt_or_le z (-128)with h4|h4
  ·refine mJ Tryz.func265 ?_
   have he:am (fun k=>k<B∧k≠bb) w w:=am.refl w
   refine jA 4 rfl<|lT rfl rfl<|jC 2 rfl<|Hg rfl rfl (ae (bK rfl rfl) (decide_eq_false (by omega)))<|jD 4 rfl<|jA 3 rfl<|Hm rfl (cj (z:=113) hW h1 (by omega) (by omega)) fun w1 hW e1=>?_
   refine jD 4 rfl<|Hq (aL Fo.h rfl)<|cl rfl (kM hW h1 (by have:=e1.s;omega) (by omega)) ?_
   exact ma
  ·refine mJ Tryz.func265 ?_
   have he:am (fun k=>k<B∧k≠bb) w w:=am.refl w
   refine jA 4 rfl<|lT rfl rfl<|jC 2 rfl<|Hg rfl rfl (ae (bK rfl rfl) (decide_eq_true (by omega)))<|jD 7 rfl<|Hq (aL Fo.h rfl) ?_
   have:=he.s
   refine WL.l rfl (ll [_,_]) ?_
   rintro _ w1 ⟨rfl,hb1,e1⟩
   replace hW:=hW.m e1
   refine cl rfl (ij hW h1 (by have:=e1.s;omega) (by omega) hb1 (io (z1:=84))) ?_
   exact rP
 ·refine mJ Tryz.func265 ?_
  have he:am (fun k=>k<B∧k≠bb) w w:=am.refl w
  refine jA 4 rfl<|lF rfl rfl<|jD 7 rfl<|jA 3 rfl<|Hm rfl (cj (z:=113) hW h1 (by omega) (by omega)) fun w1 hW e1=>?_
  refine jD 4 rfl<|Hq (aL Fo.h rfl)<|cl rfl (kM hW h1 (by have:=e1.s;omega) (by omega)) ?_
  exact ma
theorem aT.below(h:aT B e z w v n xs):v.ownBlock≠some w.heap.size∧∀k,k<B→v.ownBlock≠some k:=by
 rcases h.row.2 with⟨rfl,_⟩|⟨g,cap,cur,rfl,h4,h5,_⟩
 ·exact⟨by simp[Value.ownBlock],fun k _=>by simp[Value.ownBlock]⟩
 ·have:=(Array.getElem?_eq_some_iff.1 h5).1
  exact⟨by simp[Value.ownBlock];omega,fun k _=>by simp[Value.ownBlock];omega⟩
theorem mf{z:UInt8}{v:Value}{l:List UInt8}(hl:l.length=n)(hb:aH w bb [v,.int .i64 0])(hO:aT B 5 1 w v n (bc l))(h1:bb<B)(h2:B≤w.heap.size)(hn:n≤1000000):
  ah TP 259 [.pointer (some ⟨bb,0,none⟩),.int .u8 (z.toNat:Int)] w fun r w'=>r= .tuple #[]∧Wb B bb w' (n+1)∧am (fun k=>v.ownBlock≠some k∧k≠bb) w w':=by
 have hbb:=hO.below.2 bb h1
 refine mJ Tryz.func259 ?_
 have he:am (fun k=>v.ownBlock≠some k∧k≠bb) w w:=am.refl w
 refine WC.region<|Hq (aq rfl)<|Hq (aq rfl)<|Hq (bE rfl)<|Hq (aa rfl Fo.h)<|ld rfl hb rfl<|Hq (aq rfl) ?_
 have:=he.s
 refine WL.l rfl (ll [_]) ?_
 rintro _ w1 ⟨rfl,hb1,e1⟩
 replace hO:=hO.m e1
 refine WL.l rfl (eF Fo.h rfl rfl hO (Src.at Fb.h hb1.at rfl rfl) (by have:=e1.s;omega) (by simp only[maxLen];omega) (by omega)) ?_
 rintro v2 w2 ⟨hP,e2,hob⟩
 refine Hq (bE rfl)<|Hq (aa rfl Fo.h) ?_
 replace hb:=(hb.m e1).m e2
 refine Hp rfl rfl hb fun w3 hb e3 hz3=>?_
 refine WL.nil ?_
 replace hP:=hP.m e3
 replace he:=((he.t e1).t e2).t e3
 exact gO ⟨rfl,⟨_,l++[z],by simp[hl],hb,by rw[bC];exact hP⟩,he⟩
theorem Ab{ms:Int}(hW:Wb B bb w n)(h1:bb<B)(h2:B≤w.heap.size)(hn:n≤1000)(hm1: -9223372036854775808≤ms)(hm2:ms≤9223372036854775807):
  ah TP 271 [.pointer (some ⟨bb,0,none⟩),.agg (tm ms).toArray] w (Cj B bb n · (.tuple #[]) w ·):=by
 obtain⟨v,l,hl,hb,hO⟩:=hW
 have hbe:=hO.below
 refine mJ Tryz.func271 ?_
 have he:am (fun k=>k<B∧k≠bb) w w:=am.refl w
 refine jA 2 rfl ?_
 have:=he.s
 refine Hb rfl fun w1 hb1 e1=>?_
 refine jD 4 rfl ?_
 replace hb:=hb.m e1
 replace hO:=hO.m e1
 refine Hm rfl (mf (z:=131) hl hb hO h1 (by have:=e1.s;omega) (by omega)) fun w2 hW e2=>?_
 have e2:=e2.k (B:=fun k=>(k<B∨k=w.heap.size)∧k≠bb) (fun k _ hk=>⟨by rcases hk.1 with h|h;exact hbe.2 k h;subst h;exact hbe.1,hk.2⟩)
 refine jD 3 rfl ?_
 replace hb1:=hb1.m e2
 refine la rfl hb1<|Hl rfl (ig hm1 hm2) fun w3 e3=>?_
 refine jD 5 rfl<|Hq (aL Fo.h rfl) ?_
 replace hW:=hW.m e3
 refine Hm rfl (kN hW h1 (by have:=e1.s;have:=e2.s;have:=e3.s;omega) (by omega)) fun w4 hW e4=>?_
 refine WL.nil ?_
 replace he:=(((he.t e1).t e2).t e3).t e4
 exact gO (ρ:=cn 0 []) ⟨rfl,⟨_,by omega,by omega,hW⟩,he⟩
end Go.Proofs.LL
