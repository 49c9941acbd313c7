/- Own laws of frames, operations and loops, and contracts of functions of the program. Conditions: those that each theorem states. -/
import Derived.Test.YtdgbmbjkbmpcbaaGreatDoorV27
set_option linter.all false
set_option maxRecDepth 20000
namespace Go.Proofs.LL
open Go Go.Proofs Go.RowKit
set_option maxHeartbeats 4000000
attribute [local irreducible] RunOp WL WC WDL WT WX
theorem m3{w:World}:Does TP 244 [.int .u64 0] w fun r w'=>r= .int .i64 0∧Ext w w':=by
 refine do1 Tryz.func244 ?_
 refine jA 8 rfl ?_
 refine WL.q rfl (r_cmp (r_geq rfl rfl) (decide_eq_false (by omega))) ?_
 refine jD 3 rfl<|jA 4 rfl ?_
 refine WL.q rfl (r_cmp (r_geq rfl rfl) (decide_eq_false (by omega))) ?_
 refine jD 3 rfl<|jA 4 rfl ?_
 refine WL.q rfl (r_cmp (r_geq rfl rfl) (decide_eq_false (by omega))) ?_
 refine jD 3 rfl<|jA 4 rfl<|WL.q rfl (r_cvInt Fo.h rfl) ?_
 refine WL.q rfl (r_idxs Fb.h rfl rfl rfl (show _=some (0:UInt8)from by kernel_rfl)) ?_
 refine WL.q rfl (r_cvInt Fo.h rfl) ?_
 refine WL.q rfl (r_addi (a:=0) (b:=0) rfl rfl rfl (by omega) (by omega)) ?_
 refine jC 2 rfl<|WC.ret ?_
 exact fin1 rfl ⟨rfl,ch⟩
theorem qq{w:World}:Does TP 234 [.slice none 0 0,.int .i64 0,.int .i64 0] w fun r w'=>r= .tuple #[]∧Ext w w':=by
 refine do0 Tryz.func234 ?_
 refine jA 3 rfl<|ai rfl rfl rfl<|jD 3 rfl ?_
 refine WC.loop2 (ι:=Nat) [(0,_),(1,_),(2,_)] (fun i=>[(6,.int .i64 1)]) (fun i wi=>Ext w wi) (fun i=>0) 0 sb sb (Ext.refl _) ?_
 intro i wi1 hh;have hE:=hh
 refine jA 5 rfl<|lF rfl rfl<|jD 2 rfl<|WC.exit ?_
 exact fin0n (ρ:=argsFr 0 []) (R:=fun r w'=>r=Value.tuple #[]∧Ext w w') ⟨rfl,ch⟩
theorem rL{w:World}:Does TP 210 [.slice none 0 0,.int .i64 0,.int .i64 0,.int .i64 0] w fun r w'=>r= .tuple #[]∧Ext w w':=by
 refine do0 Tryz.func210 ?_
 refine jA 9 rfl ?_
 refine WC.loop2 (ι:=Nat) [(0,_)] (fun i=>[(1,.int .i64 0),(2,.int .i64 0),(3,.int .i64 0),(8,.bool true),(9,.bool true)]) (fun i wi=>Ext w wi) (fun i=>0) 0 sb sb (Ext.refl _) ?_
 intro i wi1 hh;have hE:=hh
 refine jA 5 rfl ?_
 refine WL.q rfl (r_subi rfl rfl rfl (by omega) (by omega)) ?_
 refine jD 6 rfl ?_
 refine WL.q rfl (r_cmp (r_leq rfl rfl) (decide_eq_true (by omega))) ?_
 refine jD 7 rfl ?_
 refine cl rfl (qq) ?_
 rintro v1 w1 ⟨rfl,e1⟩
 refine WL.nil<|WC.ret ?_
 exact fin0 (ρ:=argsFr 0 []) (R:=fun r w'=>r=Value.tuple #[]∧Ext w w') ⟨rfl,ch⟩
theorem r0{w:World}:Does TP 211 [.int .u64 0] w fun r w'=>r= .int .i64 0∧Ext w w':=by
 refine do1 Tryz.func211 ?_
 refine jA 10 rfl ?_
 refine cl rfl (m3) ?_
 rintro v1 w1 ⟨rfl,e1⟩
 refine jC 2 rfl<|WC.ret ?_
 exact fin1 rfl ⟨rfl,ch⟩
theorem rn{w:World}:Does TP 136 [.slice none 0 0] w fun r w'=>r= .tuple #[]∧Ext w w':=by
 refine do0 Tryz.func136 ?_
 refine jA 10 rfl<|WL.q rfl (r_cvInt Fo.h rfl) ?_
 refine cl rfl (r0) ?_
 rintro v1 w1 ⟨rfl,e1⟩
 refine cl rfl (rL) ?_
 rintro v2 w2 ⟨rfl,e2⟩
 refine WL.nil ?_
 exact fin0n ⟨rfl,ch⟩
theorem fT{w:World}:Does TP 84 [.slice none 0 0] w fun r w'=>r= .tuple #[]∧Ext w w':=by
 refine do0 Tryz.func84 ?_
 refine jA 2 rfl ?_
 refine cl rfl (rn) ?_
 rintro v1 w1 ⟨rfl,e1⟩
 refine WL.nil ?_
 exact fin0n ⟨rfl,ch⟩
theorem fM{B:Nat}{v:Value}{ss:List (List UInt8)}{w:World}(h:Own B 9 1 w v ss.length (ss.map str))(hsz:ss.length≤65536):
  Does TP 84 [v] w fun r w'=>r= .tuple #[]∧Own B 9 1 w' v ss.length ((ss.mergeSort fun x y=>decide (x≤y)).map str)∧Evo (fun k=>k<B) w w':=by
 rcases h.row.2 with⟨rfl,h2⟩|⟨g,cap,cur,rfl,hBg,_⟩
 ·have hs:ss=[]:=List.length_eq_zero_iff.1 h2
  subst hs
  exact fT.imp fun r w' ⟨a,e⟩=>⟨a,by simpa using Own.nil B 9 1 w',e.weaken fun _ _ _=>trivial⟩
 ·obtain⟨hH,hg⟩:=h.holds
  refine⟨Calls.mono (Any.sort_Strings Tryz.lays192 g 0 cap ss w hH hg (by omega)) fun e w' hr=>?_⟩
  obtain⟨rfl,n,os,rfl⟩:=hr
  exact⟨_,rfl,rfl,h.sorted (by simp),(sorted_evo _).weaken fun k _ hk=>by show k≠g;omega⟩
theorem eG{A:Nat→Prop}{m:Nat}{es:List cN}{kvs:List (Value×Value)}{kk:Int}{w:World}(hV:∀e∈es,bB e.2.1)(hUT:UT w)(hRE:jq A w es)(hnd:(es.map (·.1.text)).Nodup)(hle:es.length≤65536)(hM:MapO w m kvs)(hp:kvs.Perm (es.map gG)):
  Does TP 79 [.int .i64 kk,.map (some m)] w fun r w'=>∃sv qs,r= .tuple #[sv,.bool true]∧aD (fun b=>w.heap.size≤b) w' (qs.flatMap aS).length sv (aa (fun b=>w.heap.size≤b) w' (qs.flatMap aS))∧(∃es',es'.Perm es∧aB (fun k a=>a=pv kk 0 k.text) es' qs)∧Ext w w':=by
 obtain⟨es1,hp1,rfl⟩:=bP hp
 have hm0:=hM.lt
 have hnd1:(es1.map (·.1.text)).Nodup:=(hp1.map _).nodup_iff.2 hnd
 have hl1:es1.length=es.length:=hp1.length_eq
 have hkl:(es1.map gG).length=es1.length:=List.length_map ..
 refine do2 Tryz.func79 ?_
 have he:Evo (fun b=>b<w.heap.size) w w:=Evo.refl w
 refine jA 13 rfl ?_
 refine WL.l rfl (l_range Fo.h rfl hM) ?_
 rintro v1 w1 ⟨rfl,hI,e1⟩
 have hx1:=hI.lt
 have hq1:=e1.size
 refine jD 2 rfl ?_
 replace hM:=hM.mono e1
 replace he:=he.then e1
 refine WC.loop2 (ι:=(List Nat×Value)) [(0,_),(1,_),(4,_),(5,_),(14,_)] (fun i=>[(6,i.2)]) (fun i wi=>ItO wi w.heap.size m (es1.map gG).length i.1∧i.1.Nodup∧(∀j∈i.1,j<(es1.map gG).length)∧Own w1.heap.size 9 1 wi i.2 i.1.length ((i.1.map (ir es1)).map str)∧Evo (fun k=>k<w1.heap.size∧k≠w.heap.size) w1 wi) (fun i=>(es1.map gG).length-i.1.length) ([],.slice none 0 0) sb sb (⟨hI,.nil,by simp,Own.nil _ _ _ _,Evo.refl _⟩) ?_
 intro i wi1 hh;obtain⟨hI,hnd2,hlt2,hO,hE⟩:=hh
 obtain⟨i,sv⟩:=i
 dsimp only at hI hnd2 hlt2 hO
 have hwi:=hE.size
 have hil:i.length≤65536:=by
  have:=List.Nodup.length_le_of_subset (l₂:=List.range (es1.map gG).length) hnd2 (fun j hj=>List.mem_range.2 (hlt2 j hj))
  simp at this;omega
 replace hM:=hM.mono hE
 rcases next_or (P:=TP) hM hI with⟨hall,hN⟩|⟨j,hj,hnj,hN⟩
 ·have hper:=seen_perm hnd2 hlt2 hall
  have hpt:(i.map (ir es1)).Perm (es1.map (·.1.text)):=by
   rw[← fN,← hkl];exact hper.map _
  obtain⟨es2,hp2,hst⟩:=bP ((List.mergeSort_perm (i.map (ir es1)) (fun x y=>decide (x≤y))).trans hpt)
  have hl2:es2.length=es1.length:=hp2.length_eq
  have hilen:i.length=es1.length:=by have:=hpt.length_eq;simpa using this
  refine jA 2 rfl ?_
  refine WL.l rfl (hN rfl) ?_
  rintro v2 w2 ⟨rfl,e2⟩
  have hq2:=e2.size
  refine jD 4 rfl<|WC.exit<|jA 3 rfl ?_
  replace hO:=hO.mono e2
  refine cl rfl (fM (ss:=i.map (ir es1)) (by rw[List.length_map];exact hO) (by simpa using hil)) ?_
  rintro v3 w3 ⟨rfl,hS,e3⟩
  have hqs:=e3.size
  rw[hst,List.length_map]at hS
  obtain⟨p,c,hsv,hpc,hAt⟩:=hS.form
  subst hsv
  refine jD 13 rfl ?_
  replace hM:=(hM.mono e2).mono e3
  replace he:=((he.then hE).then e2).then e3
  refine WC.loop2 (ι:=(Nat×Value)) [(0,_),(1,_),(4,_),(5,_),(6,_),(14,_),(25,_),(26,_)] (fun i=>[(8,i.2),(27,.int .i64 (i.1:Int))]) (fun i wi=>(∃cs qs,Own w3.heap.size 87 6 wi i.2 (2 * i.1) cs∧aa (fun b=>w.heap.size≤b∧i.2.ownBlock≠some b) wi (qs.flatMap aS) cs∧aB (fun k a=>a=pv kk 0 k.text) (es2.take i.1) qs)∧i.1≤es2.length∧Evo (fun b=>b<w3.heap.size) w3 wi) (fun i=>es2.length-i.1) (0,.slice none 0 0) sb sb (⟨⟨[],[],Own.nil _ _ _ _,by rw[List.flatMap_nil,aa],by simpa using aB.nil⟩,Nat.zero_le _,Evo.refl _⟩) ?_
  intro i wi2 hh;obtain⟨⟨cs,qs,hP,hV2,hSh⟩,hil2,hE⟩:=hh
  obtain⟨i2,so⟩:=i
  dsimp only at hP hV2 hSh hil2
  have hwi2:=hE.size
  rcases Nat.lt_or_ge i2 es2.length with hi|hi
  ·obtain⟨b,rfl,hBb,hbl,hAt⟩:=hAt (by omega)
   have hAti:=(hAt.mono hE hbl).get (j:=i2) (v:=str es2[i2].1.text) (by simp[hi])
   have hmem1:es2[i2]∈es1:=hp2.mem_iff.1 (List.getElem_mem hi)
   have hmem:es2[i2]∈es:=hp1.mem_iff.1 hmem1
   obtain⟨j,hj,hje,hjn⟩:=gV hnd1 hmem1
   replace he:=he.then hE
   have hra:=RepA.mono' (hRE _ hmem) he (fun b hb _=>hb)
   have hU1:=hUT.ext he
   refine jA 2 rfl<|lT rfl rfl<|jD 8 rfl ?_
   refine WL.q rfl (r_idx1 Fo.h rfl rfl rfl (by first|omega|(simp;done)|(simp;omega))) ?_
   refine WL.q rfl (r_load Fb.h rfl (Ext.refl _) hAti)<|jD 6 rfl ?_
   replace hM:=hM.mono hE
   refine WL.q rfl (r_lookS Fo.h Fb.h rfl rfl (Ext.refl _) hM hj hje hjn) ?_
   refine cl rfl (hV _ hmem _ _ _ hU1 hra) ?_
   rintro v4 w4 ⟨c6,y,rfl,hVy,hBy,e4⟩
   have hone:=hVy.one
   have hlen:=hVy.len
   refine jC 3 rfl ?_
   replace he:=he.then e4
   have hs5:=he.size
   refine al ?_
   rintro _ w5 ⟨rfl,hb5,e5⟩
   refine WL.l0 (lsw rfl rfl hb5) ?_
   rintro _ w6 ⟨hb5,e6,hz6⟩
   refine jD 14 rfl<|WL.q rfl (r_bld (cs:=[_,_,_,_,_,_]) Fo.h rfl rfl)<|la rfl hb5 ?_
   replace he:=he.then (e5.then e6)
   have hs7:=he.size
   have hx7b5:=hb5.lt
   refine WL.l rfl (ll [_,_]) ?_
   rintro _ w7 ⟨rfl,hb7,e7⟩
   refine WL.l rfl (l_appO (n:=2 * i2) Fo.h rfl rfl (hP.mono (((e4.then (e5.then e6)).then e7):Ext wi2 w7)) (Src.at Fb.h (io hb7) (by simp[hlen]) (by rw[List.all_append,hone];rfl)) (by have:=e4.size;have:=e5.size;have:=e6.size;have:=e7.size;omega) (by simp only[maxLen];omega) (by omega)) ?_
   rintro v8 w8 ⟨hO8,e8,hob⟩
   have e8o:=e8
   have e8:=Own.evo (w0:=w) (hP.mono (((e4.then (e5.then e6)).then e7):Ext wi2 w7)) e8o
   refine jD 3 rfl<|ai rfl rfl rfl<|jC 2 rfl ?_
   have hV3:=aa.push hP hV2 (by omega) (((e4.then (e5.then e6)).then e7):Ext wi2 w7) ((aa.one (ag.plain kk 0 es2[i2].1.text)).append (aa.one (hVy.mono ((e5.then e6).then e7)))) e8o hob
   have hSh2:=hSh.snoc (e:=es2[i2]) (q:=(pv kk 0 es2[i2].1.text,y)) rfl hBy
   rw[List.take_append_getElem hi]at hSh2
   exact⟨(i2+1,v8),sb,sb,⟨⟨_,_,hO8,by rw[List.flatMap_append];exact hV3,hSh2⟩,hi,(((((hE.then e4).then (e5.then e6)).then e7).then e8))⟩,(by show es2.length-(i2+1)<es2.length-i2;omega)⟩
  ·have hin:i2=es2.length:=by omega
   subst hin
   rw[List.take_length]at hSh
   refine jA 2 rfl<|lF rfl rfl<|jD 3 rfl<|WC.exit<|jA 6 rfl<|WC.ret ?_
   replace he:=he.then hE
   exact fin2 rfl rfl ⟨so,qs,rfl,by exact(aD.own hP (by rw[aK,hSh.length]) (hV2.weaken fun b h=>h.1) (fun b h _=>by show w.heap.size≤b;omega)),⟨es2,hp2.trans hp1,hSh⟩,he.weaken fun k hk _=>hk⟩
 ·obtain⟨hnd3,hlt3,hmu⟩:=seen_snoc hnd2 hlt2 hj hnj
  have hj1:j<es1.length:=by omega
  have hmap:(((i++[j]).map (ir es1)).map str)=((i.map (ir es1)).map str)++[str es1[j].1.text]:=by
   simp[gj hj1]
  have hgk:((es1.map gG)[j]).1=str es1[j].1.text:=by simp[jS,ja]
  refine jA 2 rfl ?_
  refine WL.l rfl (hN rfl) ?_
  rintro v2 w2 ⟨rfl,hI,e2⟩
  refine jD 8 rfl ?_
  replace hM:=hM.mono e2
  refine WL.q rfl (r_entryE rfl hj hgk rfl (Ext.refl _) hM hI)<|jD 6 rfl ?_
  replace he:=(he.then hE).then e2
  have hs3:=he.size
  refine WL.l rfl (ll [_]) ?_
  rintro _ w3 ⟨rfl,hb3,e3⟩
  replace hO:=(hO.mono e2).mono e3
  refine WL.l rfl (l_app Fo.h rfl rfl hO (Src.at Fb.h hb3.at rfl rfl) (by have:=e2.size;have:=e3.size;omega) (by simp only[maxLen];omega) (by omega)) ?_
  rintro v4 w4 ⟨hO,e4⟩
  refine jC 2 rfl ?_
  have hO2:Own w1.heap.size 9 1 w4 v4 (i.length+1) ((i.map (ir es1)).map str++[str es1[j].1.text]):=hO
  rw[← hmap]at hO2
  replace hI:=(hI.mono e3).mono e4
  exact⟨(i++[j],v4),sb,sb,⟨hI,hnd3,hlt3,(by rw[List.length_append];exact hO2),((((hE.then e2).then e3).then e4))⟩,hmu⟩
def Wb(B bb:Nat)(w:World)(n:Nat):Prop:=∃v l,l.length=n∧Blk w bb [v,.int .i64 0]∧Own B 5 1 w v n (bc l)
theorem Wb.lt{B bb n:Nat}{w:World}(h:Wb B bb w n):bb<w.heap.size:=by obtain⟨v,l,_,h,_⟩:=h;exact h.lt
theorem Wb.mono{A:Nat→Prop}{B bb n:Nat}{w w':World}(h:Wb B bb w n)(e:Evo A w w')(hA:∀b,b<w.heap.size→(B≤b∨b=bb)→A b:=by(intro b hb1 hb2;first|exact trivial|exact hb2|((try dsimp only[Nb]at hb2⊢);omega))):Wb B bb w' n:=by
 obtain⟨v,l,h1,h2,h3⟩:=h
 exact⟨v,l,h1,h2.mono e (hA _ h2.lt (.inr rfl)),h3.mono e (fun b hb hs=>hA b hs (.inl hb))⟩
theorem j8(z:Int):∃b:UInt8,IntKind.u8.wrap z=(b.toNat:Int):=by
 have h:∃m:Nat,m<256∧IntKind.u8.wrap z=(m:Int):=⟨(z%256).toNat,by omega,by
  have:IntKind.u8.wrap z=z%256:=rfl
  rw[this];omega⟩
 obtain⟨m,h1,h2⟩:=h
 exact⟨UInt8.ofNat m,by rw[h2];simp;omega⟩
theorem Own.one{B e z n:Nat}{w:World}{v:Value}{xs:List Value}(h:Own B e z w v n xs):v.oneCell'=true:=by
 obtain⟨p,c,rfl,_⟩:=h.form
 rfl
theorem aE(a b:List UInt8):bc (a++b)=bc a++bc b:=List.map_append
theorem Wb.of{B bb n m:Nat}{w:World}{v:Value}{l:List UInt8}{xs:List Value}(hb:Blk w bb [v,.int .i64 0])(hO:Own B 5 1 w v (n+m) (bc l++xs))(hl:l.length=n)(hx:∃l2:List UInt8,l2.length=m∧xs=bc l2):Wb B bb w (n+m):=by
 obtain⟨l2,h1,rfl⟩:=hx
 exact⟨v,l++l2,by simp[hl,h1],hb,by rw[aE];exact hO⟩
theorem aw{B bb n:Nat}{z:UInt8}{w:World}(hW:Wb B bb w n)(h1:bb<B)(h2:B≤w.heap.size)(hn:n≤1000000):
  Does TP 259 [.pointer (some ⟨bb,0,none⟩),.int .u8 (z.toNat:Int)] w fun r w'=>r= .tuple #[]∧Wb B bb w' (n+1)∧Evo (fun k=>k<B∧k≠bb) w w':=by
 obtain⟨v,l,hl,hb,hO⟩:=hW
 refine do0 Tryz.func259 ?_
 have he:Evo (fun k=>k<B∧k≠bb) w w:=Evo.refl w
 refine WC.region ?_
 refine WL.q rfl (r_move rfl)<|WL.q rfl (r_move rfl)<|WL.q rfl (r_nilp rfl)<|WL.q rfl (r_fieldAddr rfl Fo.h)<|ld rfl hb rfl<|WL.q rfl (r_move rfl) ?_
 have hs1:=he.size
 refine WL.l rfl (ll [_]) ?_
 rintro _ w1 ⟨rfl,hb1,e1⟩
 replace hO:=hO.mono e1
 refine WL.l rfl (l_app Fo.h rfl rfl hO (Src.at Fb.h hb1.at rfl rfl) (by have:=e1.size;omega) (by simp only[maxLen];omega) (by omega)) ?_
 rintro v2 w2 ⟨hO,e2⟩
 refine WL.q rfl (r_nilp rfl)<|WL.q rfl (r_fieldAddr rfl Fo.h) ?_
 replace hb:=(hb.mono e1).mono e2
 refine WL.l0 (lst rfl rfl hb) ?_
 rintro _ w3 ⟨hb,e3,hz3⟩
 refine WL.nil ?_
 replace hO:=hO.mono e3
 replace he:=((he.then e1).then e2).then e3
 exact fin0n ⟨rfl,⟨_,l++[z],by simp[hl],hb,by rw[aE];exact hO⟩,he⟩
theorem lh{B bb n m:Nat}{u:Value}{l2:List UInt8}{A:Nat→Prop}{w:World}(hW:Wb B bb w n)(h1:bb<B)(h2:B≤w.heap.size)(hn:n≤1000000)(hu:IsB A w u l2)(hm:l2.length=m)(hm2:m≤200000):
  Does TP 263 [.pointer (some ⟨bb,0,none⟩),u] w fun r w'=>r= .tuple #[]∧Wb B bb w' (n+m)∧Evo (fun k=>k<B∧k≠bb) w w':=by
 obtain⟨v,l,hl,hb,hO⟩:=hW
 subst hm
 refine do0 Tryz.func263 ?_
 refine WC.region ?_
 refine WL.q rfl (r_move rfl)<|WL.q rfl (r_move rfl)<|WL.q rfl (r_nilp rfl)<|WL.q rfl (r_fieldAddr rfl Fo.h)<|ld rfl hb rfl<|WL.q rfl (r_move rfl) ?_
 refine WL.l rfl (l_app Fo.h rfl rfl hO (Src.isB Fb.h hu) (by omega) (by simp only[maxLen];omega) (by omega)) ?_
 rintro v1 w1 ⟨hO,e1⟩
 refine WL.q rfl (r_nilp rfl)<|WL.q rfl (r_fieldAddr rfl Fo.h) ?_
 replace hb:=hb.mono e1
 refine WL.l0 (lst rfl rfl hb) ?_
 rintro _ w2 ⟨hb,e2,hz2⟩
 refine WL.nil ?_
 replace hO:=hO.mono e2
 exact fin0n ⟨rfl,⟨_,l++l2,by simp[hl],hb,by rw[aE];exact hO⟩,ch⟩
theorem fK{B bb n:Nat}{t:List UInt8}{w:World}(hW:Wb B bb w n)(h1:bb<B)(h2:B≤w.heap.size)(hn:n≤1000000)(hm2:t.length≤200000):
  Does TP 309 [.pointer (some ⟨bb,0,none⟩),str t] w fun r w'=>r= .tuple #[]∧Wb B bb w' (n+t.length)∧Evo (fun k=>k<B∧k≠bb) w w':=by
 obtain⟨v,l,hl,hb,hO⟩:=hW
 refine do0 Tryz.func309 ?_
 refine WC.region ?_
 refine WL.q rfl (r_move rfl)<|WL.q rfl (r_move rfl)<|WL.q rfl (r_nilp rfl)<|WL.q rfl (r_fieldAddr rfl Fo.h)<|ld rfl hb rfl<|WL.q rfl (r_move rfl) ?_
 refine WL.l rfl (l_app Fo.h rfl rfl hO (Src.str Fb.h) (by omega) (by simp only[maxLen];omega) (by omega)) ?_
 rintro v1 w1 ⟨hO,e1⟩
 refine WL.q rfl (r_nilp rfl)<|WL.q rfl (r_fieldAddr rfl Fo.h) ?_
 replace hb:=hb.mono e1
 refine WL.l0 (lst rfl rfl hb) ?_
 rintro _ w2 ⟨hb,e2,hz2⟩
 refine WL.nil ?_
 replace hO:=hO.mono e2
 exact fin0n ⟨rfl,⟨_,l++t,by simp[hl],hb,by rw[aE];exact hO⟩,ch⟩
theorem b9{z1 z2:Int}:∃l:List UInt8,l.length=2∧[Value.int .u8 (IntKind.u8.wrap z1),Value.int .u8 (IntKind.u8.wrap z2)]=bc l:=by
 obtain⟨a,ha⟩:=j8 z1
 obtain⟨b,hb⟩:=j8 z2
 exact⟨[a,b],rfl,by rw[ha,hb];rfl⟩
theorem je{z1 z2 z3 z4:Int}:∃l:List UInt8,l.length=4∧[Value.int .u8 (IntKind.u8.wrap z1),Value.int .u8 (IntKind.u8.wrap z2),Value.int .u8 (IntKind.u8.wrap z3),Value.int .u8 (IntKind.u8.wrap z4)]=bc l:=by
 obtain⟨a,ha,e1⟩:=b9 (z1:=z1) (z2:=z2)
 obtain⟨b,hb,e2⟩:=b9 (z1:=z3) (z2:=z4)
 exact⟨a++b,by simp[ha,hb],by rw[aE,← e1,← e2];rfl⟩
theorem oR{z1 z2 z3 z4 z5 z6 z7 z8:Int}:∃l:List UInt8,l.length=8∧[Value.int .u8 (IntKind.u8.wrap z1),Value.int .u8 (IntKind.u8.wrap z2),Value.int .u8 (IntKind.u8.wrap z3),Value.int .u8 (IntKind.u8.wrap z4),Value.int .u8 (IntKind.u8.wrap z5),Value.int .u8 (IntKind.u8.wrap z6),Value.int .u8 (IntKind.u8.wrap z7),Value.int .u8 (IntKind.u8.wrap z8)]=bc l:=by
 obtain⟨a,ha,e1⟩:=je (z1:=z1) (z2:=z2) (z3:=z3) (z4:=z4)
 obtain⟨b,hb,e2⟩:=je (z1:=z5) (z2:=z6) (z3:=z7) (z4:=z8)
 exact⟨a++b,by simp[ha,hb],by rw[aE,← e1,← e2];rfl⟩
theorem gS{B bb n:Nat}{z:Int}{w:World}(hW:Wb B bb w n)(h1:bb<B)(h2:B≤w.heap.size)(hn:n≤1000000):
  Does TP 262 [.pointer (some ⟨bb,0,none⟩),.int .u16 z] w fun r w'=>r= .tuple #[]∧Wb B bb w' (n+2)∧Evo (fun k=>k<B∧k≠bb) w w':=by
 obtain⟨v,l,hl,hb,hO⟩:=hW
 refine do0 Tryz.func262 ?_
 have he:Evo (fun k=>k<B∧k≠bb) w w:=Evo.refl w
 refine WC.region ?_
 refine WL.q rfl (r_move rfl)<|WL.q rfl (r_move rfl)<|WL.q rfl (r_nilp rfl)<|WL.q rfl (r_fieldAddr rfl Fo.h)<|ld rfl hb rfl<|WL.q rfl (r_move rfl) ?_
 refine WL.q rfl (r_shr rfl rfl (by decide)) ?_
 refine WL.q rfl (r_cvInt Fo.h rfl)<|WL.q rfl (r_move rfl)<|WL.q rfl (r_cvInt Fo.h rfl) ?_
 have hs1:=he.size
 refine WL.l rfl (ll [_,_]) ?_
 rintro _ w1 ⟨rfl,hb1,e1⟩
 replace hO:=hO.mono e1
 refine WL.l rfl (l_app Fo.h rfl rfl hO (Src.at Fb.h hb1.at rfl rfl) (by have:=e1.size;omega) (by simp only[maxLen];omega) (by omega)) ?_
 rintro v2 w2 ⟨hO,e2⟩
 refine WL.q rfl (r_nilp rfl)<|WL.q rfl (r_fieldAddr rfl Fo.h) ?_
 replace hb:=(hb.mono e1).mono e2
 refine WL.l0 (lst rfl rfl hb) ?_
 rintro _ w3 ⟨hb,e3,hz3⟩
 refine WL.nil ?_
 replace hO:=hO.mono e3
 replace he:=((he.then e1).then e2).then e3
 exact fin0n ⟨rfl,Wb.of hb hO hl b9,he⟩
theorem dA{B bb n:Nat}{z:Int}{w:World}(hW:Wb B bb w n)(h1:bb<B)(h2:B≤w.heap.size)(hn:n≤1000000):
  Does TP 308 [.pointer (some ⟨bb,0,none⟩),.int .u32 z] w fun r w'=>r= .tuple #[]∧Wb B bb w' (n+4)∧Evo (fun k=>k<B∧k≠bb) w w':=by
 obtain⟨v,l,hl,hb,hO⟩:=hW
 refine do0 Tryz.func308 ?_
 have he:Evo (fun k=>k<B∧k≠bb) w w:=Evo.refl w
 refine WC.region ?_
 refine WL.q rfl (r_move rfl)<|WL.q rfl (r_move rfl)<|WL.q rfl (r_nilp rfl)<|WL.q rfl (r_fieldAddr rfl Fo.h)<|ld rfl hb rfl<|WL.q rfl (r_move rfl) ?_
 refine WL.q rfl (r_shr rfl rfl (by decide)) ?_
 refine WL.q rfl (r_cvInt Fo.h rfl)<|WL.q rfl (r_move rfl) ?_
 refine WL.q rfl (r_shr rfl rfl (by decide)) ?_
 refine WL.q rfl (r_cvInt Fo.h rfl)<|WL.q rfl (r_move rfl) ?_
 refine WL.q rfl (r_shr rfl rfl (by decide)) ?_
 refine WL.q rfl (r_cvInt Fo.h rfl)<|WL.q rfl (r_move rfl)<|WL.q rfl (r_cvInt Fo.h rfl) ?_
 have hs1:=he.size
 refine WL.l rfl (ll [_,_,_,_]) ?_
 rintro _ w1 ⟨rfl,hb1,e1⟩
 replace hO:=hO.mono e1
 refine WL.l rfl (l_app Fo.h rfl rfl hO (Src.at Fb.h hb1.at rfl rfl) (by have:=e1.size;omega) (by simp only[maxLen];omega) (by omega)) ?_
 rintro v2 w2 ⟨hO,e2⟩
 refine WL.q rfl (r_nilp rfl)<|WL.q rfl (r_fieldAddr rfl Fo.h) ?_
 replace hb:=(hb.mono e1).mono e2
 refine WL.l0 (lst rfl rfl hb) ?_
 rintro _ w3 ⟨hb,e3,hz3⟩
 refine WL.nil ?_
 replace hO:=hO.mono e3
 replace he:=((he.then e1).then e2).then e3
 exact fin0n ⟨rfl,Wb.of hb hO hl je,he⟩
theorem dL{B bb n:Nat}{z:Int}{w:World}(hW:Wb B bb w n)(h1:bb<B)(h2:B≤w.heap.size)(hn:n≤1000000):
  Does TP 307 [.pointer (some ⟨bb,0,none⟩),.int .u64 z] w fun r w'=>r= .tuple #[]∧Wb B bb w' (n+8)∧Evo (fun k=>k<B∧k≠bb) w w':=by
 obtain⟨v,l,hl,hb,hO⟩:=hW
 refine do0 Tryz.func307 ?_
 have he:Evo (fun k=>k<B∧k≠bb) w w:=Evo.refl w
 refine WC.region ?_
 refine WL.q rfl (r_move rfl)<|WL.q rfl (r_move rfl)<|WL.q rfl (r_nilp rfl)<|WL.q rfl (r_fieldAddr rfl Fo.h)<|ld rfl hb rfl<|WL.q rfl (r_move rfl) ?_
 refine WL.q rfl (r_shr rfl rfl (by decide)) ?_
 refine WL.q rfl (r_cvInt Fo.h rfl)<|WL.q rfl (r_move rfl) ?_
 refine WL.q rfl (r_shr rfl rfl (by decide)) ?_
 refine WL.q rfl (r_cvInt Fo.h rfl)<|WL.q rfl (r_move rfl) ?_
 refine WL.q rfl (r_shr rfl rfl (by decide)) ?_
 refine WL.q rfl (r_cvInt Fo.h rfl)<|WL.q rfl (r_move rfl) ?_
 refine WL.q rfl (r_shr rfl rfl (by decide)) ?_
 refine WL.q rfl (r_cvInt Fo.h rfl)<|WL.q rfl (r_move rfl) ?_
 refine WL.q rfl (r_shr rfl rfl (by decide)) ?_
 refine WL.q rfl (r_cvInt Fo.h rfl)<|WL.q rfl (r_move rfl) ?_
 refine WL.q rfl (r_shr rfl rfl (by decide)) ?_
 refine WL.q rfl (r_cvInt Fo.h rfl)<|WL.q rfl (r_move rfl) ?_
 refine WL.q rfl (r_shr rfl rfl (by decide)) ?_
 refine WL.q rfl (r_cvInt Fo.h rfl)<|WL.q rfl (r_move rfl)<|WL.q rfl (r_cvInt Fo.h rfl) ?_
 have hs1:=he.size
 refine WL.l rfl (ll [_,_,_,_,_,_,_,_]) ?_
 rintro _ w1 ⟨rfl,hb1,e1⟩
 replace hO:=hO.mono e1
 refine WL.l rfl (l_app Fo.h rfl rfl hO (Src.at Fb.h hb1.at rfl rfl) (by have:=e1.size;omega) (by simp only[maxLen];omega) (by omega)) ?_
 rintro v2 w2 ⟨hO,e2⟩
 refine WL.q rfl (r_nilp rfl)<|WL.q rfl (r_fieldAddr rfl Fo.h) ?_
 replace hb:=(hb.mono e1).mono e2
 refine WL.l0 (lst rfl rfl hb) ?_
 rintro _ w3 ⟨hb,e3,hz3⟩
 refine WL.nil ?_
 replace hO:=hO.mono e3
 replace he:=((he.then e1).then e2).then e3
 exact fin0n ⟨rfl,Wb.of hb hO hl oR,he⟩
theorem dM{A:Prop}(h:A:=by
 rintro v2 w2 ⟨rfl,hW,e2⟩
 refine WL.nil ?_
 replace he:=(he.then e1).then e2
 exact fin0n (ρ:=argsFr 0 []) ⟨rfl,⟨_,by omega,by omega,hW⟩,he⟩):A:=h
theorem fV{A:Prop}(h:A:=by
 rintro v2 w2 ⟨rfl,hW,e2⟩
 refine WL.nil<|WC.ret ?_
 replace he:=(he.then e1).then e2
 exact fin0 (ρ:=argsFr 0 []) ⟨rfl,⟨_,by omega,by omega,hW⟩,he⟩):A:=h
theorem mq{A:Prop}(h:A:=by
 rintro v1 w1 ⟨rfl,hW,e1⟩
 refine WL.nil<|WC.ret ?_
 replace he:=he.then e1
 exact fin0 (ρ:=argsFr 0 []) ⟨rfl,⟨_,by omega,by omega,hW⟩,he⟩):A:=h
theorem IsB.lit{A:Nat→Prop}{w:World}{g n:Nat}{xs:List Value}(h:Blk w g xs)(hx:∃l2:List UInt8,l2.length=n∧xs=bc l2)(hA:A g:=by trivial):∃l2:List UInt8,l2.length=n∧IsB A w (.slice (some ⟨g,0,none⟩) n n) l2:=by
 obtain⟨l2,rfl,rfl⟩:=hx
 refine⟨l2,rfl,_,_,rfl,Nat.le_refl _,fun _=>⟨g,0,rfl,hA,fun j hj=>?_⟩⟩
 have h1:=h.at j (by simpa using hj)
 rw[h1]
 simp[hj]
theorem bX{B bb n g:Nat}{xs:List Value}{w:World}(hW:Wb B bb w n)(h1:bb<B)(h2:B≤w.heap.size)(hn:n≤1000000)(h:Blk w g xs)(hx:∃l2:List UInt8,l2.length=2∧xs=bc l2):
  Does TP 263 [.pointer (some ⟨bb,0,none⟩),.slice (some ⟨g,0,none⟩) 2 2] w fun r w'=>r= .tuple #[]∧Wb B bb w' (n+2)∧Evo (fun k=>k<B∧k≠bb) w w':=by
 obtain⟨l2,hl,hI⟩:=IsB.lit (A:=fun _=>True) h hx
 exact lh hW h1 h2 hn hI hl (by omega)
def oC(B bb n:Nat)(r r':Value)(w w':World):Prop:=r=r'∧(∃m,n≤m∧m≤n+200000∧Wb B bb w' m)∧Evo (fun k=>k<B∧k≠bb) w w'
theorem nY{B bb n:Nat}{z:Int}{w:World}(hW:Wb B bb w n)(h1:bb<B)(h2:B≤w.heap.size)(hn:n≤1000)(hz:0≤z):
  Does TP 260 [.pointer (some ⟨bb,0,none⟩),.int .u64 z] w (oC B bb n · (.tuple #[]) w ·):=by
 rcases Int.lt_or_le 0 z with h0|h0
 ·rcases Int.lt_or_le z 256 with h5|h5
  ·refine do0 Tryz.func260 ?_
   have he:Evo (fun k=>k<B∧k≠bb) w w:=Evo.refl w
   refine jA 4 rfl ?_
   refine WL.q rfl (r_cmp (r_eql rfl rfl) (beqF (by omega))) ?_
   refine jD 3 rfl<|jA 4 rfl<|lT rfl rfl<|jD 6 rfl<|WL.q rfl (r_cvInt Fo.h rfl) ?_
   have hs1:=he.size
   refine WL.l rfl (ll [_,_]) ?_
   rintro _ w1 ⟨rfl,hb1,e1⟩
   replace hW:=hW.mono e1
   refine cl rfl (bX hW h1 (by have:=e1.size;omega) (by omega) hb1 (b9 (z1:=83))) ?_
   exact fV
  ·refine do0 Tryz.func260 ?_
   have he:Evo (fun k=>k<B∧k≠bb) w w:=Evo.refl w
   refine jA 4 rfl ?_
   refine WL.q rfl (r_cmp (r_eql rfl rfl) (beqF (by omega))) ?_
   refine jD 3 rfl<|jA 4 rfl<|lF rfl rfl<|jD 3 rfl<|jA 3 rfl ?_
   refine cl rfl (aw (z:=128) hW h1 (by omega) (by omega)) ?_
   rintro v1 w1 ⟨rfl,hW,e1⟩
   refine jD 4 rfl ?_
   refine cl rfl (dL hW h1 (by have:=e1.size;omega) (by omega)) ?_
   exact dM
 ·have hz0:z=0:=by omega
  subst hz0
  refine do0 Tryz.func260 ?_
  have he:Evo (fun k=>k<B∧k≠bb) w w:=Evo.refl w
  refine jA 4 rfl ?_
  refine WL.q rfl (r_cmp (r_eql rfl rfl) (beqT (by omega))) ?_
  refine jD 5 rfl ?_
  refine cl rfl (aw (z:=68) hW h1 (by omega) (by omega)) ?_
  exact mq
theorem n3{B bb n:Nat}{z:Int}{w:World}(hW:Wb B bb w n)(h1:bb<B)(h2:B≤w.heap.size)(hn:n≤1000)(hz:0≤z):
  Does TP 261 [.pointer (some ⟨bb,0,none⟩),.int .u32 z] w (oC B bb n · (.tuple #[]) w ·):=by
 rcases Int.lt_or_le 0 z with h0|h0
 ·rcases Int.lt_or_le z 256 with h5|h5
  ·refine do0 Tryz.func261 ?_
   have he:Evo (fun k=>k<B∧k≠bb) w w:=Evo.refl w
   refine jA 4 rfl ?_
   refine WL.q rfl (r_cmp (r_eql rfl rfl) (beqF (by omega))) ?_
   refine jD 3 rfl<|jA 4 rfl<|lT rfl rfl<|jD 6 rfl<|WL.q rfl (r_cvInt Fo.h rfl) ?_
   have hs1:=he.size
   refine WL.l rfl (ll [_,_]) ?_
   rintro _ w1 ⟨rfl,hb1,e1⟩
   replace hW:=hW.mono e1
   refine cl rfl (bX hW h1 (by have:=e1.size;omega) (by omega) hb1 (b9 (z1:=82))) ?_
   exact fV
  ·refine do0 Tryz.func261 ?_
   have he:Evo (fun k=>k<B∧k≠bb) w w:=Evo.refl w
   refine jA 4 rfl ?_
   refine WL.q rfl (r_cmp (r_eql rfl rfl) (beqF (by omega))) ?_
   refine jD 3 rfl<|jA 4 rfl<|lF rfl rfl<|jD 3 rfl<|jA 3 rfl ?_
   refine cl rfl (aw (z:=112) hW h1 (by omega) (by omega)) ?_
   rintro v1 w1 ⟨rfl,hW,e1⟩
   refine jD 4 rfl ?_
   refine cl rfl (dA hW h1 (by have:=e1.size;omega) (by omega)) ?_
   exact dM
 ·have hz0:z=0:=by omega
  subst hz0
  refine do0 Tryz.func261 ?_
  have he:Evo (fun k=>k<B∧k≠bb) w w:=Evo.refl w
  refine jA 4 rfl ?_
  refine WL.q rfl (r_cmp (r_eql rfl rfl) (beqT (by omega))) ?_
  refine jD 5 rfl ?_
  refine cl rfl (aw (z:=67) hW h1 (by omega) (by omega)) ?_
  exact mq
theorem nr{B bb n:Nat}{z:Int}{w:World}(hW:Wb B bb w n)(h1:bb<B)(h2:B≤w.heap.size)(hn:n≤1000):
  Does TP 264 [.pointer (some ⟨bb,0,none⟩),.int .i64 z] w (oC B bb n · (.tuple #[]) w ·):=by
 rcases Int.lt_or_le z 128 with h3|h3
 ·rcases Int.lt_or_le z (-128)with h4|h4
  ·refine do0 Tryz.func264 ?_
   have he:Evo (fun k=>k<B∧k≠bb) w w:=Evo.refl w
   refine jA 4 rfl<|lT rfl rfl<|jC 2 rfl ?_
   refine WL.qg rfl rfl rfl rfl (r_cmp (r_geq rfl rfl) (decide_eq_false (by omega))) ?_
   refine jD 4 rfl<|jA 3 rfl ?_
   refine cl rfl (aw (z:=129) hW h1 (by omega) (by omega)) ?_
   rintro v1 w1 ⟨rfl,hW,e1⟩
   refine jD 4 rfl<|WL.q rfl (r_cvInt Fo.h rfl) ?_
   refine cl rfl (dL hW h1 (by have:=e1.size;omega) (by omega)) ?_
   exact dM
  ·refine do0 Tryz.func264 ?_
   have he:Evo (fun k=>k<B∧k≠bb) w w:=Evo.refl w
   refine jA 4 rfl<|lT rfl rfl<|jC 2 rfl ?_
   refine WL.qg rfl rfl rfl rfl (r_cmp (r_geq rfl rfl) (decide_eq_true (by omega))) ?_
   refine jD 7 rfl<|WL.q rfl (r_cvInt Fo.h rfl) ?_
   have hs1:=he.size
   refine WL.l rfl (ll [_,_]) ?_
   rintro _ w1 ⟨rfl,hb1,e1⟩
   replace hW:=hW.mono e1
   refine cl rfl (bX hW h1 (by have:=e1.size;omega) (by omega) hb1 (b9 (z1:=85))) ?_
   exact fV
 ·refine do0 Tryz.func264 ?_
  have he:Evo (fun k=>k<B∧k≠bb) w w:=Evo.refl w
  refine jA 4 rfl<|lF rfl rfl<|jD 7 rfl<|jA 3 rfl ?_
  refine cl rfl (aw (z:=129) hW h1 (by omega) (by omega)) ?_
  rintro v1 w1 ⟨rfl,hW,e1⟩
  refine jD 4 rfl<|WL.q rfl (r_cvInt Fo.h rfl) ?_
  refine cl rfl (dL hW h1 (by have:=e1.size;omega) (by omega)) ?_
  exact dM
theorem nJ{B bb n:Nat}{z:Int}{w:World}(hW:Wb B bb w n)(h1:bb<B)(h2:B≤w.heap.size)(hn:n≤1000):
  Does TP 265 [.pointer (some ⟨bb,0,none⟩),.int .i32 z] w (oC B bb n · (.tuple #[]) w ·):=by
 rcases Int.lt_or_le z 128 with h3|h3
 ·rcases Int.lt_or_le z (-128)with h4|h4
  ·refine do0 Tryz.func265 ?_
   have he:Evo (fun k=>k<B∧k≠bb) w w:=Evo.refl w
   refine jA 4 rfl<|lT rfl rfl<|jC 2 rfl ?_
   refine WL.qg rfl rfl rfl rfl (r_cmp (r_geq rfl rfl) (decide_eq_false (by omega))) ?_
   refine jD 4 rfl<|jA 3 rfl ?_
   refine cl rfl (aw (z:=113) hW h1 (by omega) (by omega)) ?_
   rintro v1 w1 ⟨rfl,hW,e1⟩
   refine jD 4 rfl<|WL.q rfl (r_cvInt Fo.h rfl) ?_
   refine cl rfl (dA hW h1 (by have:=e1.size;omega) (by omega)) ?_
   exact dM
  ·refine do0 Tryz.func265 ?_
   have he:Evo (fun k=>k<B∧k≠bb) w w:=Evo.refl w
   refine jA 4 rfl<|lT rfl rfl<|jC 2 rfl ?_
   refine WL.qg rfl rfl rfl rfl (r_cmp (r_geq rfl rfl) (decide_eq_true (by omega))) ?_
   refine jD 7 rfl<|WL.q rfl (r_cvInt Fo.h rfl) ?_
   have hs1:=he.size
   refine WL.l rfl (ll [_,_]) ?_
   rintro _ w1 ⟨rfl,hb1,e1⟩
   replace hW:=hW.mono e1
   refine cl rfl (bX hW h1 (by have:=e1.size;omega) (by omega) hb1 (b9 (z1:=84))) ?_
   exact fV
 ·refine do0 Tryz.func265 ?_
  have he:Evo (fun k=>k<B∧k≠bb) w w:=Evo.refl w
  refine jA 4 rfl<|lF rfl rfl<|jD 7 rfl<|jA 3 rfl ?_
  refine cl rfl (aw (z:=113) hW h1 (by omega) (by omega)) ?_
  rintro v1 w1 ⟨rfl,hW,e1⟩
  refine jD 4 rfl<|WL.q rfl (r_cvInt Fo.h rfl) ?_
  refine cl rfl (dA hW h1 (by have:=e1.size;omega) (by omega)) ?_
  exact dM
theorem Own.below{B e z n:Nat}{w:World}{v:Value}{xs:List Value}(h:Own B e z w v n xs):v.ownBlock≠some w.heap.size∧∀k,k<B→v.ownBlock≠some k:=by
 rcases h.row.2 with⟨rfl,_⟩|⟨g,cap,cur,rfl,h4,h5,_⟩
 ·exact⟨by simp[Value.ownBlock],fun k _=>by simp[Value.ownBlock]⟩
 ·have:=(Array.getElem?_eq_some_iff.1 h5).1
  exact⟨by simp[Value.ownBlock];omega,fun k _=>by simp[Value.ownBlock];omega⟩
theorem dX{B bb n:Nat}{z:UInt8}{v:Value}{l:List UInt8}{w:World}(hl:l.length=n)(hb:Blk w bb [v,.int .i64 0])(hO:Own B 5 1 w v n (bc l))(h1:bb<B)(h2:B≤w.heap.size)(hn:n≤1000000):
  Does TP 259 [.pointer (some ⟨bb,0,none⟩),.int .u8 (z.toNat:Int)] w fun r w'=>r= .tuple #[]∧Wb B bb w' (n+1)∧Evo (fun k=>v.ownBlock≠some k∧k≠bb) w w':=by
 have hbb:=hO.below.2 bb h1
 refine do0 Tryz.func259 ?_
 have he:Evo (fun k=>v.ownBlock≠some k∧k≠bb) w w:=Evo.refl w
 refine WC.region ?_
 refine WL.q rfl (r_move rfl)<|WL.q rfl (r_move rfl)<|WL.q rfl (r_nilp rfl)<|WL.q rfl (r_fieldAddr rfl Fo.h)<|ld rfl hb rfl<|WL.q rfl (r_move rfl) ?_
 have hs1:=he.size
 refine WL.l rfl (ll [_]) ?_
 rintro _ w1 ⟨rfl,hb1,e1⟩
 replace hO:=hO.mono e1
 refine WL.l rfl (l_appO Fo.h rfl rfl hO (Src.at Fb.h hb1.at rfl rfl) (by have:=e1.size;omega) (by simp only[maxLen];omega) (by omega)) ?_
 rintro v2 w2 ⟨hP,e2,hob⟩
 refine WL.q rfl (r_nilp rfl)<|WL.q rfl (r_fieldAddr rfl Fo.h) ?_
 replace hb:=(hb.mono e1).mono e2
 refine WL.l0 (lst rfl rfl hb) ?_
 rintro _ w3 ⟨hb,e3,hz3⟩
 refine WL.nil ?_
 replace hP:=hP.mono e3
 replace he:=((he.then e1).then e2).then e3
 exact fin0n ⟨rfl,⟨_,l++[z],by simp[hl],hb,by rw[aE];exact hP⟩,he⟩
theorem l8{B bb n:Nat}{ms:Int}{w:World}(hW:Wb B bb w n)(h1:bb<B)(h2:B≤w.heap.size)(hn:n≤1000)(hm1: -9223372036854775808≤ms)(hm2:ms≤9223372036854775807):
  Does TP 271 [.pointer (some ⟨bb,0,none⟩),.agg (tm ms).toArray] w (oC B bb n · (.tuple #[]) w ·):=by
 obtain⟨v,l,hl,hb,hO⟩:=hW
 have hbe:=hO.below
 refine do0 Tryz.func271 ?_
 have he:Evo (fun k=>k<B∧k≠bb) w w:=Evo.refl w
 refine jA 2 rfl ?_
 have hs1:=he.size
 refine bx rfl ?_
 rintro _ w1 ⟨rfl,hb1,e1⟩
 refine jD 4 rfl ?_
 replace hb:=hb.mono e1
 replace hO:=hO.mono e1
 refine cl rfl (dX (z:=131) hl hb hO h1 (by have:=e1.size;omega) (by omega)) ?_
 rintro v2 w2 ⟨rfl,hW,e2⟩
 have e2:=e2.weaken (B:=fun k=>(k<B∨k=w.heap.size)∧k≠bb) (fun k _ hk=>⟨by rcases hk.1 with h|h;exact hbe.2 k h;subst h;exact hbe.1,hk.2⟩)
 refine jD 3 rfl ?_
 replace hb1:=hb1.mono e2
 refine la rfl hb1 ?_
 refine cl rfl (co hm1 hm2) ?_
 rintro v3 w3 ⟨rfl,e3⟩
 refine jD 5 rfl<|WL.q rfl (r_cvInt Fo.h rfl) ?_
 replace hW:=hW.mono e3
 refine cl rfl (dL hW h1 (by have:=e1.size;have:=e2.size;have:=e3.size;omega) (by omega)) ?_
 rintro v4 w4 ⟨rfl,hW,e4⟩
 refine WL.nil ?_
 replace he:=(((he.then e1).then e2).then e3).then e4
 exact fin0n (ρ:=argsFr 0 []) ⟨rfl,⟨_,by omega,by omega,hW⟩,he⟩
end Go.Proofs.LL
