/- Contracts of functions and own laws. Conditions: those that each theorem states. -/
import Derived.Test.YtdgbmbjkbmpcbaaGreatDoorW17
set_option linter.all false
set_option autoImplicit true
set_option relaxedAutoImplicit true
set_option maxRecDepth 20000
namespace Go.Proofs.LL
open Go Go.Proofs Go.RowKit
set_option maxHeartbeats 4000000
attribute [local irreducible] ar WL WC cq WT WX
theorem Af{A:Prop}(h:A:=by
 rintro v3 w3 ⟨rfl,⟨g,hg,hb2,hG⟩,hR,e3⟩
 have:=e2.s
 refine q ?_
 replace he:=(he.t e2).t e3
 exact bt rfl rfl ⟨_,rfl,bQ.other (kk:=19) hks hk (by decide) rfl (show _≤g by omega) hG (by simp) (by rw[List.map_map];rw[show ks.map (str∘V.text)=ks.flatMap (fun x=>[str x.text])from lP _ _];refine ir ks fun x hx=>?_;unfold ee;rw[if_neg (by rw[hk x hx];decide),if_neg (by rw[hk x hx];decide),if_pos (by rw[hk x hx];decide)]),hR,he⟩):A:=h
theorem Ag{A:Prop}(h:A:=by
 rintro v3 w3 ⟨rfl,⟨g,hg,hb2,hG⟩,hR,e3⟩
 have:=e2.s
 refine q ?_
 replace he:=(he.t e2).t e3
 exact bt rfl rfl ⟨_,rfl,bQ.other (kk:=20) hks hk (by decide) rfl (show _≤g by omega) hG (by simp) (by rw[List.map_map];rw[show ks.map (str∘V.text)=ks.flatMap (fun x=>[str x.text])from lP _ _];refine ir ks fun x hx=>?_;unfold ee;rw[if_neg (by rw[hk x hx];decide),if_neg (by rw[hk x hx];decide),if_pos (by rw[hk x hx];decide)]),hR,he⟩):A:=h
theorem Ah{A:Prop}(h:A:=by
 rintro v3 w3 ⟨rfl,⟨g,vs,hg,hb2,hG,hV⟩,hR,e3⟩
 have:=e2.s
 refine q ?_
 replace he:=(he.t e2).t e3
 exact bt rfl rfl ⟨_,rfl,⟨18,hk,hks,by unfold dp;omega,.inr (.inl ⟨rfl,g,vs,show _≤g by omega,by simp,hG.at,hV.k (fun b _ h=>show _≤b by omega)⟩)⟩,hR,he⟩):A:=h
theorem cR.at{i:Nat}{n:Int}(h:cR w b o l)(hi:l[i]?=some c)(hn:(c.toNat:Int)=n):w.cell? ⟨b,o+i,none⟩=some (.int .u8 n):=by
 obtain⟨h1,h2⟩:=List.getElem?_eq_some_iff.1 hi
 rw[h i h1,h2,hn]
theorem o6{x:V}{k:Int}(hk:x.kind=k)(h:1≤k∧k≤11):ee x=[jV k x.num]:=by
 unfold ee
 rw[hk,if_neg (by omega),if_neg (by omega),if_neg (by omega)]
theorem bQ.num{A:Nat→Prop}{ks:List V}{kk:Int}(hne:ks≠[])(hk:∀x∈ks,x.kind=kk)(h1:1≤kk∧kk≤11)(h2:kk≠2)(hT:yu kk=T)(hA:A g)(hG:aH w g vs)(hn:n=ks.length)(hv:vs=ks.map fun x=>jV kk x.num):
  bQ A w ks (.iface T (.slice (some ⟨g,0,none⟩) n n)):=by
 refine⟨kk,hk,hne,by unfold dp;omega,.inr (.inr ⟨h2,by omega,g,hA,by rw[hT,hn],?_⟩)⟩
 have:ks.flatMap ee=ks.map fun x=>jV kk x.num:=by
  clear hv hn hne
  induction ks with
  |nil=>rfl
  |cons a r ih=>rw[List.flatMap_cons,o6 (hk a (by simp)) h1,ih (fun x hx=>hk x (by simp[hx]))];rfl
 rw[this,← hv]
 exact hG.at
theorem bQ.other{A:Nat→Prop}{ks:List V}{kk:Int}(hne:ks≠[])(hk:∀x∈ks,x.kind=kk)(h1:kk=16∨kk=17∨kk=19∨kk=20)(hT:yu kk=T)(hA:A g)(hG:aH w g vs)(hn:n=ks.length)(hv:vs=ks.flatMap ee):
  bQ A w ks (.iface T (.slice (some ⟨g,0,none⟩) n n)):=by
 refine⟨kk,hk,hne,by unfold dp;omega,.inr (.inr ⟨by omega,by omega,g,hA,by rw[hT,hn],?_⟩)⟩
 rw[← hv]
 exact hG.at
theorem ir{f:V→List Value}:∀(ks:List V),(∀x∈ks,ee x=f x)→ks.flatMap f=ks.flatMap ee
 |[],_=>rfl
 |a::r,h=>by rw[List.flatMap_cons,List.flatMap_cons,h a (by simp),ir r (fun x hx=>h x (by simp[hx]))]
theorem lP{α:Type}(f:α→Value):∀l:List α,l.map f=l.flatMap fun x=>[f x]
 |[]=>rfl
 |a::r=>by rw[List.map_cons,List.flatMap_cons,lP f r];rfl
theorem zB(n:Nat):((n:Int) !=0)=(n !=0):=by
 cases n with
 |zero=>rfl
 |succ n=>exact(bne_iff_ne.2 (by omega)).trans (bne_iff_ne.2 (by omega)).symm
theorem DK{c':UInt8}{body r:List UInt8}(hh:Hd 0xe0 0xf0 c hd n (c'::body)):∃i,(c::(hd++((c'::body)++r)))[i]?=some c'∧i<(c::(hd++((c'::body)++r))).length∧((c=0xe0∧i=3)∨(c=0xf0∧i=9)):=by
 rcases hh with⟨s,k,rfl,rfl,_⟩|⟨a,b,d,e,f,g,h,i,rfl,rfl,_⟩
 ·exact⟨3,rfl,by simp,.inl ⟨rfl,rfl⟩⟩
 ·exact⟨9,rfl,by simp,.inr ⟨rfl,rfl⟩⟩
theorem mM{c':UInt8}{r:List UInt8}{ks:List V}(hks:ks≠[])(hP:∀x∈ks,bI x∧(18≤x.kind→x.text≠[]))(hc:c'∈fQ)(hEl:bY c' ks body)(hh:Hd 0xe0 0xf0 c hd ks.length (c'::body))(hR:Rd w rb (c::(hd++((c'::body)++r)))):
  ah TP 207 [.pointer (some ⟨rb,0,none⟩)] w fun u w'=>∃y,u= .tuple #[y,.nilIface]∧bQ (fun b=>w.heap.size≤b) w' ks y∧Rd w' rb r∧am (Nb rb) w w':=by
 have hr0:=hR.lt
 have hlenR:=hR.len
 have harr:=hh.arr
 have hpos:0<ks.length:=List.length_pos_iff.2 hks
 obtain⟨idx,hidx,hil,hcs⟩:=DK (r:=r) hh
 refine cN Tryz.func207 ?_
 have he:am (Nb rb) w w:=am.refl w
 refine q ?_
 refine cl rfl (dN hR) ?_
 rintro v1 w1 ⟨hY,e1⟩
 obtain⟨pb,po,cp,rfl,hcp,hA,hD⟩:=hY.open (by simp)
 have hZ0:=hD.at (i:=0) rfl rfl
 refine q ?_
 try refine Hq (ae (ef rfl rfl) (decide_eq_false (by(simp only[List.length_cons];omega)))) ?_
 refine q ?_
 refine Hq (ao Fb.h rfl Xr hZ0)<|qb ?_
 replace hR:=hR.m e1
 replace he:=he.t e1
 refine WC.thenJ (ι:=Nat) [(0,_),(2,_),(3,_),(4,_)] (fun i=>[(5,.int .i64 (i:Int))]) (fun i wi=>i=idx∧am (fun _=>True) w1 wi) sb ?_ ?_
 ·rcases hcs with⟨rfl,rfl⟩|⟨rfl,rfl⟩
  ·refine q ?_
   try refine Hq (ae (ak rfl rfl) (br (rfl))) ?_
   refine q ?_
   exact⟨3,sb,sb,⟨rfl,am.refl _⟩⟩
  ·refine q ?_
   try refine Hq (ae (ak rfl rfl) (bk (by(decide)))) ?_
   refine q ?_
   try refine Hq (ae (ak rfl rfl) (br (rfl))) ?_
   refine q ?_
   exact⟨9,sb,sb,⟨rfl,am.refl _⟩⟩
 ·intro i wj hh;obtain⟨rfl,hE⟩:=hh
  have hc2:c'=0x50∨c'=0x60∨c'=0x70∨c'=0x80∨c'=0x51∨c'=0x61∨c'=0x71∨c'=0x81∨c'=0x72∨c'=0x82∨c'=0x83∨c'=0x52∨c'=0x53∨c'=0x54∨c'=0x55∨c'=0x56∨c'=0x98∨c'=0xa0∨c'=0xb0∨c'=0xa1∨c'=0xb1∨c'=0xa3∨c'=0xb3:=by simpa[fQ]using hc
  clear hc hcs
  rcases hc2 with rfl|rfl|rfl|rfl|rfl|rfl|rfl|rfl|rfl|rfl|rfl|rfl|rfl|rfl|rfl|rfl|rfl|rfl|rfl|rfl|rfl|rfl|rfl
  ·obtain⟨hk,rfl⟩:=hEl.fix1 (k:=2) rfl
   have hpb:0<(ks.map fun x=>UInt8.ofNat x.num).length:=by rw[List.length_map];exact hpos
   refine q ?_
   replace hD:=hD.m hE
   refine Hq (ao Fb.h rfl Xr (hD.at hidx rfl))<|q ?_
   replace he:=he.t hE
   have hs2:=he.s
   refine Ha fun w2 hb2 e2=>?_
   refine q ?_
   replace hR:=(hR.m hE).m e2
   refine cl rfl (sf hb2 (by omega) hpb (by rw[List.length_map];exact harr) hR) ?_
   rintro v3 w3 ⟨rfl,⟨vv,hb2,hG⟩,hR,e3⟩
   have hq:=e2.s
   refine q ?_
   replace he:=(he.t e2).t e3
   exact bt rfl rfl ⟨_,rfl,⟨2,hk,hks,by unfold dp;omega,.inl ⟨rfl,_,rfl,hG.k (fun b _ h=>show _≤b by omega)⟩⟩,hR,he⟩
  ·obtain⟨hk,rfl⟩:=hEl.fix (k:=3) rfl
   have hN:∀x∈ks,de x.kind x.num:=fun x hx=>(hP x hx).1.1
   have hpb:0<(ks.map V.num).length:=by rw[List.length_map];exact hpos
   refine q ?_
   replace hD:=hD.m hE
   refine Hq (ao Fb.h rfl Xr (hD.at hidx rfl))<|q ?_
   replace he:=he.t hE
   have hs2:=he.s
   refine Ha fun w2 hb2 e2=>?_
   refine q ?_
   replace hR:=(hR.m hE).m e2
   refine cl rfl (pZ hb2 (by omega) hpb (by rw[List.length_map];exact harr) hR) ?_
   rintro v3 w3 ⟨rfl,⟨g,hg,hb2,hG⟩,hR,e3⟩
   have hq:=e2.s
   refine q ?_
   replace he:=(he.t e2).t e3
   exact bt rfl rfl ⟨_,rfl,bQ.num (kk:=3) hks hk (by decide) (by decide) rfl (show _≤g by omega) hG (by simp) (by rw[List.map_map];exact List.map_congr_left fun x hx=>by have:=(hN x hx).2.2.1 (hk x hx);simp only[Function.comp];rw[Nat.mod_eq_of_lt this];rfl),hR,he⟩
  ·obtain⟨hk,rfl⟩:=hEl.fix (k:=4) rfl
   have hN:∀x∈ks,de x.kind x.num:=fun x hx=>(hP x hx).1.1
   have hpb:0<(ks.map V.num).length:=by rw[List.length_map];exact hpos
   refine q ?_
   replace hD:=hD.m hE
   refine Hq (ao Fb.h rfl Xr (hD.at hidx rfl))<|WL.nil<|gq 45 rfl ?_
   replace he:=he.t hE
   have hs2:=he.s
   refine Ha fun w2 hb2 e2=>?_
   refine q ?_
   replace hR:=(hR.m hE).m e2
   refine cl rfl (sh hb2 (by omega) hpb (by rw[List.length_map];exact harr) hR) ?_
   rintro v3 w3 ⟨rfl,⟨g,hg,hb2,hG⟩,hR,e3⟩
   have hq:=e2.s
   refine q ?_
   replace he:=(he.t e2).t e3
   exact bt rfl rfl ⟨_,rfl,bQ.num (kk:=4) hks hk (by decide) (by decide) rfl (show _≤g by omega) hG (by simp) (by rw[List.map_map];exact List.map_congr_left fun x hx=>by have:=(hN x hx).2.2.2.1 (hk x hx);simp only[Function.comp];rw[Nat.mod_eq_of_lt this];rfl),hR,he⟩
  ·obtain⟨hk,rfl⟩:=hEl.fix (k:=5) rfl
   have hN:∀x∈ks,de x.kind x.num:=fun x hx=>(hP x hx).1.1
   have hpb:0<(ks.map V.num).length:=by rw[List.length_map];exact hpos
   refine q ?_
   replace hD:=hD.m hE
   refine Hq (ao Fb.h rfl Xr (hD.at hidx rfl))<|WL.nil<|gq 75 rfl ?_
   replace he:=he.t hE
   have hs2:=he.s
   refine Ha fun w2 hb2 e2=>?_
   refine q ?_
   replace hR:=(hR.m hE).m e2
   refine cl rfl (qh hb2 (by omega) hpb (by rw[List.length_map];exact harr) hR) ?_
   rintro v3 w3 ⟨rfl,⟨g,hg,hb2,hG⟩,hR,e3⟩
   have hq:=e2.s
   refine q ?_
   replace he:=(he.t e2).t e3
   exact bt rfl rfl ⟨_,rfl,bQ.num (kk:=5) hks hk (by decide) (by decide) rfl (show _≤g by omega) hG (by simp) (by rw[List.map_map];exact List.map_congr_left fun x hx=>by have:=(hN x hx).2.2.2.2.2.2.2.2;simp only[Function.comp];rw[Nat.mod_eq_of_lt this];rfl),hR,he⟩
  ·obtain⟨hk,rfl⟩:=hEl.fix1 (k:=6) rfl
   have hN:∀x∈ks,de x.kind x.num:=fun x hx=>(hP x hx).1.1
   have hpb:0<(ks.map fun x=>UInt8.ofNat x.num).length:=by rw[List.length_map];exact hpos
   refine q ?_
   replace hD:=hD.m hE
   refine Hq (ao Fb.h rfl Xr (hD.at hidx rfl))<|q ?_
   replace he:=he.t hE
   have hs2:=he.s
   refine Ha fun w2 hb2 e2=>?_
   refine q ?_
   replace hR:=(hR.m hE).m e2
   refine cl rfl (r8 hb2 (by omega) hpb (by rw[List.length_map];exact harr) hR) ?_
   rintro v3 w3 ⟨rfl,⟨g,hg,hb2,hG⟩,hR,e3⟩
   have hq:=e2.s
   refine q ?_
   replace he:=(he.t e2).t e3
   exact bt rfl rfl ⟨_,rfl,bQ.num (kk:=6) hks hk (by decide) (by decide) rfl (show _≤g by omega) hG (by simp) (by rw[List.map_map];exact List.map_congr_left fun x hx=>by simp only[Function.comp];rw[Ej ((hN x hx).2.2.2.2.1 (hk x hx))];rfl),hR,he⟩
  ·obtain⟨hk,rfl⟩:=hEl.fix (k:=7) rfl
   have hN:∀x∈ks,de x.kind x.num:=fun x hx=>(hP x hx).1.1
   have hpb:0<(ks.map V.num).length:=by rw[List.length_map];exact hpos
   refine q ?_
   replace hD:=hD.m hE
   refine Hq (ao Fb.h rfl Xr (hD.at hidx rfl))<|WL.nil<|gq 27 rfl ?_
   replace he:=he.t hE
   have hs2:=he.s
   refine Ha fun w2 hb2 e2=>?_
   refine q ?_
   replace hR:=(hR.m hE).m e2
   refine cl rfl (r7 hb2 (by omega) hpb (by rw[List.length_map];exact harr) hR) ?_
   rintro v3 w3 ⟨rfl,⟨g,hg,hb2,hG⟩,hR,e3⟩
   have hq:=e2.s
   refine q ?_
   replace he:=(he.t e2).t e3
   exact bt rfl rfl ⟨_,rfl,bQ.num (kk:=7) hks hk (by decide) (by decide) rfl (show _≤g by omega) hG (by simp) (by rw[List.map_map];exact List.map_congr_left fun x hx=>by simp only[Function.comp];rw[Cv ((hN x hx).2.2.2.2.2.1 (hk x hx))];rfl),hR,he⟩
  ·obtain⟨hk,rfl⟩:=hEl.fix (k:=8) rfl
   have hN:∀x∈ks,de x.kind x.num:=fun x hx=>(hP x hx).1.1
   have hpb:0<(ks.map V.num).length:=by rw[List.length_map];exact hpos
   refine q ?_
   replace hD:=hD.m hE
   refine Hq (ao Fb.h rfl Xr (hD.at hidx rfl))<|WL.nil<|gq 57 rfl ?_
   replace he:=he.t hE
   have hs2:=he.s
   refine Ha fun w2 hb2 e2=>?_
   refine q ?_
   replace hR:=(hR.m hE).m e2
   refine cl rfl (t7 hb2 (by omega) hpb (by rw[List.length_map];exact harr) hR) ?_
   rintro v3 w3 ⟨rfl,⟨g,hg,hb2,hG⟩,hR,e3⟩
   have hq:=e2.s
   refine q ?_
   replace he:=(he.t e2).t e3
   exact bt rfl rfl ⟨_,rfl,bQ.num (kk:=8) hks hk (by decide) (by decide) rfl (show _≤g by omega) hG (by simp) (by rw[List.map_map];exact List.map_congr_left fun x hx=>by simp only[Function.comp];rw[Cw ((hN x hx).2.2.2.2.2.2.1 (hk x hx))];rfl),hR,he⟩
  ·obtain⟨hk,rfl⟩:=hEl.fix (k:=9) rfl
   have hN:∀x∈ks,de x.kind x.num:=fun x hx=>(hP x hx).1.1
   have hpb:0<(ks.map V.num).length:=by rw[List.length_map];exact hpos
   refine q ?_
   replace hD:=hD.m hE
   refine Hq (ao Fb.h rfl Xr (hD.at hidx rfl))<|WL.nil<|gq 87 rfl ?_
   replace he:=he.t hE
   have hs2:=he.s
   refine Ha fun w2 hb2 e2=>?_
   refine q ?_
   replace hR:=(hR.m hE).m e2
   refine cl rfl (se hb2 (by omega) hpb (by rw[List.length_map];exact harr) hR) ?_
   rintro v3 w3 ⟨rfl,⟨g,hg,hb2,hG⟩,hR,e3⟩
   have hq:=e2.s
   refine q ?_
   replace he:=(he.t e2).t e3
   exact bt rfl rfl ⟨_,rfl,bQ.num (kk:=9) hks hk (by decide) (by decide) rfl (show _≤g by omega) hG (by simp) (by rw[List.map_map];exact List.map_congr_left fun x hx=>by have:=(hN x hx).2.2.2.2.2.2.2.2;simp only[Function.comp];rw[Nat.mod_eq_of_lt this];rfl),hR,he⟩
  ·obtain⟨hk,rfl⟩:=hEl.fix (k:=10) rfl
   have hN:∀x∈ks,de x.kind x.num:=fun x hx=>(hP x hx).1.1
   have hpb:0<(ks.map V.num).length:=by rw[List.length_map];exact hpos
   refine q ?_
   replace hD:=hD.m hE
   refine Hq (ao Fb.h rfl Xr (hD.at hidx rfl))<|WL.nil<|gq 93 rfl ?_
   replace he:=he.t hE
   have hs2:=he.s
   refine Ha fun w2 hb2 e2=>?_
   refine q ?_
   replace hR:=(hR.m hE).m e2
   refine cl rfl (r6 hb2 (by omega) hpb (by rw[List.length_map];exact harr) hR) ?_
   rintro v3 w3 ⟨rfl,⟨g,hg,hb2,hG⟩,hR,e3⟩
   have hq:=e2.s
   refine q ?_
   replace he:=(he.t e2).t e3
   exact bt rfl rfl ⟨_,rfl,bQ.num (kk:=10) hks hk (by decide) (by decide) rfl (show _≤g by omega) hG (by simp) (by rw[List.map_map];exact List.map_congr_left fun x hx=>by have:=(hN x hx).2.2.2.2.2.2.2.1 (hk x hx);simp only[Function.comp];rw[Nat.mod_eq_of_lt this];rfl),hR,he⟩
  ·obtain⟨hk,rfl⟩:=hEl.fix (k:=11) rfl
   have hN:∀x∈ks,de x.kind x.num:=fun x hx=>(hP x hx).1.1
   have hpb:0<(ks.map V.num).length:=by rw[List.length_map];exact hpos
   refine q ?_
   replace hD:=hD.m hE
   refine Hq (ao Fb.h rfl Xr (hD.at hidx rfl))<|WL.nil<|gq 99 rfl ?_
   replace he:=he.t hE
   have hs2:=he.s
   refine Ha fun w2 hb2 e2=>?_
   refine q ?_
   replace hR:=(hR.m hE).m e2
   refine cl rfl (pY hb2 (by omega) hpb (by rw[List.length_map];exact harr) hR) ?_
   rintro v3 w3 ⟨rfl,⟨g,hg,hb2,hG⟩,hR,e3⟩
   have hq:=e2.s
   refine q ?_
   replace he:=(he.t e2).t e3
   exact bt rfl rfl ⟨_,rfl,bQ.num (kk:=11) hks hk (by decide) (by decide) rfl (show _≤g by omega) hG (by simp) (by rw[List.map_map];exact List.map_congr_left fun x hx=>by have:=(hN x hx).2.2.2.2.2.2.2.2;simp only[Function.comp];rw[Nat.mod_eq_of_lt this];rfl),hR,he⟩
  ·obtain⟨hk,rfl⟩:=hEl.fix (k:=16) rfl
   have hN:∀x∈ks,de x.kind x.num:=fun x hx=>(hP x hx).1.1
   have hpb:0<(ks.map V.num).length:=by rw[List.length_map];exact hpos
   refine q ?_
   replace hD:=hD.m hE
   refine Hq (ao Fb.h rfl Xr (hD.at hidx rfl))<|WL.nil<|gq 159 rfl ?_
   replace he:=he.t hE
   have hs2:=he.s
   refine Ha fun w2 hb2 e2=>?_
   refine q ?_
   replace hR:=(hR.m hE).m e2
   refine cl rfl (ud hb2 (by omega) hpb (by rw[List.length_map];exact harr) hR) ?_
   rintro v3 w3 ⟨rfl,⟨g,hg,hb2,hG⟩,hR,e3⟩
   have hq:=e2.s
   refine q ?_
   replace he:=(he.t e2).t e3
   exact bt rfl rfl ⟨_,rfl,bQ.other (kk:=16) hks hk (by decide) rfl (show _≤g by omega) hG (by simp) (by rw[List.map_map,← List.flatMap_def];refine ir ks fun x hx=>?_;have:=(hN x hx).2.2.2.2.2.2.2.2;unfold ee;rw[if_pos (hk x hx)];simp only[Function.comp,zq];rw[Nat.mod_eq_of_lt this]),hR,he⟩
  ·obtain⟨hk,rfl⟩:=hEl.fix1 (k:=4) rfl
   have hN:∀x∈ks,de x.kind x.num:=fun x hx=>(hP x hx).1.1
   have hS:=(hEl.flat (Q:=fun x=>x.num<256) (f:=fun x=>aI x.num 1) (fun x b hp=>⟨hp.sm1 (.inl rfl),(hp.fix (k:=4) rfl).2⟩)).1
   have hpb:0<(ks.map fun x=>UInt8.ofNat x.num).length:=by rw[List.length_map];exact hpos
   refine q ?_
   replace hD:=hD.m hE
   refine Hq (ao Fb.h rfl Xr (hD.at hidx rfl))<|WL.nil<|gq 42 rfl ?_
   replace he:=he.t hE
   have hs2:=he.s
   refine Ha fun w2 hb2 e2=>?_
   refine q ?_
   replace hR:=(hR.m hE).m e2
   refine cl rfl (sg hb2 (by omega) hpb (by rw[List.length_map];exact harr) hR) ?_
   rintro v3 w3 ⟨rfl,⟨g,hg,hb2,hG⟩,hR,e3⟩
   have hq:=e2.s
   refine q ?_
   replace he:=(he.t e2).t e3
   exact bt rfl rfl ⟨_,rfl,bQ.num (kk:=4) hks hk (by decide) (by decide) rfl (show _≤g by omega) hG (by simp) (by rw[List.map_map];exact List.map_congr_left fun x hx=>by simp only[Function.comp];rw[Cx,jt (hS x hx)];rfl),hR,he⟩
  ·obtain⟨hk,rfl⟩:=hEl.fix1 (k:=5) rfl
   have hN:∀x∈ks,de x.kind x.num:=fun x hx=>(hP x hx).1.1
   have hS:=(hEl.flat (Q:=fun x=>x.num<256) (f:=fun x=>aI x.num 1) (fun x b hp=>⟨hp.sm1 (.inr rfl),(hp.fix (k:=5) rfl).2⟩)).1
   have hpb:0<(ks.map fun x=>UInt8.ofNat x.num).length:=by rw[List.length_map];exact hpos
   refine q ?_
   replace hD:=hD.m hE
   refine Hq (ao Fb.h rfl Xr (hD.at hidx rfl))<|WL.nil<|gq 72 rfl ?_
   replace he:=he.t hE
   have hs2:=he.s
   refine Ha fun w2 hb2 e2=>?_
   refine q ?_
   replace hR:=(hR.m hE).m e2
   refine cl rfl (p9 hb2 (by omega) hpb (by rw[List.length_map];exact harr) hR) ?_
   rintro v3 w3 ⟨rfl,⟨g,hg,hb2,hG⟩,hR,e3⟩
   have hq:=e2.s
   refine q ?_
   replace he:=(he.t e2).t e3
   exact bt rfl rfl ⟨_,rfl,bQ.num (kk:=5) hks hk (by decide) (by decide) rfl (show _≤g by omega) hG (by simp) (by rw[List.map_map];exact List.map_congr_left fun x hx=>by simp only[Function.comp];rw[Cy,jt (hS x hx)];rfl),hR,he⟩
  ·obtain⟨hk,rfl⟩:=hEl.fix1 (k:=8) rfl
   have hN:∀x∈ks,de x.kind x.num:=fun x hx=>(hP x hx).1.1
   have hS:=(hEl.flat (Q:=fun x=>ln x.num) (f:=fun x=>aI x.num 1) (fun x b hp=>⟨hp.sm (.inl rfl),(hp.fix (k:=8) rfl).2⟩)).1
   have hpb:0<(ks.map fun x=>UInt8.ofNat x.num).length:=by rw[List.length_map];exact hpos
   refine q ?_
   replace hD:=hD.m hE
   refine Hq (ao Fb.h rfl Xr (hD.at hidx rfl))<|WL.nil<|gq 54 rfl ?_
   replace he:=he.t hE
   have hs2:=he.s
   refine Ha fun w2 hb2 e2=>?_
   refine q ?_
   replace hR:=(hR.m hE).m e2
   refine cl rfl (t6 hb2 (by omega) hpb (by rw[List.length_map];exact harr) hR) ?_
   rintro v3 w3 ⟨rfl,⟨g,hg,hb2,hG⟩,hR,e3⟩
   have hq:=e2.s
   refine q ?_
   replace he:=(he.t e2).t e3
   exact bt rfl rfl ⟨_,rfl,bQ.num (kk:=8) hks hk (by decide) (by decide) rfl (show _≤g by omega) hG (by simp) (by rw[List.map_map];exact List.map_congr_left fun x hx=>by simp only[Function.comp];rw[tG,B7 (hS x hx) ((hN x hx).2.2.2.2.2.2.2.2)];rfl),hR,he⟩
  ·obtain⟨hk,rfl⟩:=hEl.fix1 (k:=9) rfl
   have hN:∀x∈ks,de x.kind x.num:=fun x hx=>(hP x hx).1.1
   have hS:=(hEl.flat (Q:=fun x=>ln x.num) (f:=fun x=>aI x.num 1) (fun x b hp=>⟨hp.sm (.inr rfl),(hp.fix (k:=9) rfl).2⟩)).1
   have hpb:0<(ks.map fun x=>UInt8.ofNat x.num).length:=by rw[List.length_map];exact hpos
   refine q ?_
   replace hD:=hD.m hE
   refine Hq (ao Fb.h rfl Xr (hD.at hidx rfl))<|WL.nil<|gq 84 rfl ?_
   replace he:=he.t hE
   have hs2:=he.s
   refine Ha fun w2 hb2 e2=>?_
   refine q ?_
   replace hR:=(hR.m hE).m e2
   refine cl rfl (r9 hb2 (by omega) hpb (by rw[List.length_map];exact harr) hR) ?_
   rintro v3 w3 ⟨rfl,⟨g,hg,hb2,hG⟩,hR,e3⟩
   have hq:=e2.s
   refine q ?_
   replace he:=(he.t e2).t e3
   exact bt rfl rfl ⟨_,rfl,bQ.num (kk:=9) hks hk (by decide) (by decide) rfl (show _≤g by omega) hG (by simp) (by rw[List.map_map];exact List.map_congr_left fun x hx=>by simp only[Function.comp];rw[tH,B7 (hS x hx) ((hN x hx).2.2.2.2.2.2.2.2)];rfl),hR,he⟩
  ·obtain⟨hk,hb⟩:=hEl.flat (fun x b hp=>hp.b56)
   have hb2:body=ks.map fun x=>UInt8.ofNat x.num:=by rw[hb,← List.flatMap_map (f:=V.num) (g:=fun m=>aI m 1),sC,List.map_map];rfl
   subst hb2;clear hb
   have hN:∀x∈ks,de x.kind x.num:=fun x hx=>(hP x hx).1.1
   have hpb:0<(ks.map fun x=>UInt8.ofNat x.num).length:=by rw[List.length_map];exact hpos
   refine q ?_
   replace hD:=hD.m hE
   refine Hq (ao Fb.h rfl Xr (hD.at hidx rfl))<|WL.nil<|gq 108 rfl ?_
   replace he:=he.t hE
   have hs2:=he.s
   refine Ha fun w2 hb2 e2=>?_
   refine q ?_
   replace hR:=(hR.m hE).m e2
   refine cl rfl (tZ hb2 (by omega) hpb (by rw[List.length_map];exact harr) hR) ?_
   rintro v3 w3 ⟨rfl,⟨g,hg,hb2,hG⟩,hR,e3⟩
   have hq:=e2.s
   refine q ?_
   replace he:=(he.t e2).t e3
   exact bt rfl rfl ⟨_,rfl,bQ.num (kk:=1) hks hk (by decide) (by decide) rfl (show _≤g by omega) hG (by simp) (by rw[List.map_map];exact List.map_congr_left fun x hx=>by have:=(hN x hx).1 (hk x hx);simp only[Function.comp];rw[jt (by omega),zB];rfl),hR,he⟩
  ·obtain⟨hk,hb⟩:=hEl.flat (fun x b hp=>hp.uuidF)
   have hb2:body=(ks.map V.text).flatten:=by rw[hb,List.flatMap_def]
   subst hb2;clear hb
   have hts:∀t∈ks.map V.text,t.length=16:=by intro t ht;obtain⟨x,hx,rfl⟩:=List.mem_map.1 ht;exact(hP x hx).1.2.2.1 (hk x hx)
   have hpb:0<(ks.map V.text).length:=by rw[List.length_map];exact hpos
   refine q ?_
   replace hD:=hD.m hE
   refine Hq (ao Fb.h rfl Xr (hD.at hidx rfl))<|WL.nil<|gq 165 rfl ?_
   replace he:=he.t hE
   have hs2:=he.s
   refine Ha fun w2 hb2 e2=>?_
   refine q ?_
   replace hR:=(hR.m hE).m e2
   refine cl rfl (ue hts hb2 (by omega) hpb (by rw[List.length_map];exact harr) hR) ?_
   rintro v3 w3 ⟨rfl,⟨g,hg,hb2,hG⟩,hR,e3⟩
   have hq:=e2.s
   refine q ?_
   replace he:=(he.t e2).t e3
   exact bt rfl rfl ⟨_,rfl,bQ.other (kk:=17) hks hk (by decide) rfl (show _≤g by omega) hG (by simp) (by rw[List.map_map,← List.flatMap_def];refine ir ks fun x hx=>?_;unfold ee;rw[if_neg (by rw[hk x hx];decide),if_pos (hk x hx)];rfl),hR,he⟩
  ·have hF:=hEl.flat (Q:=fun x=>x.kind=18∧x.text.length<256^1) (f:=fun x=>txt 1 x.text) (fun x b hp=>by obtain⟨h1,h2,h3⟩:=hp.fixT (k:=18) (s:=1) rfl;exact⟨⟨h1,h3⟩,h2⟩)
   have hk:=fun x hx=>(hF.1 x hx).1
   have hb2:body=(ks.map V.text).flatMap (txt 1):=by rw[hF.2,List.flatMap_map]
   subst hb2
   have hts:∀t∈ks.map V.text,t≠[]∧t.length<256:=by intro t ht;obtain⟨x,hx,rfl⟩:=List.mem_map.1 ht;exact⟨(hP x hx).2 (by have:=hk x hx;omega),by have:=(hF.1 x hx).2;simpa using this⟩
   have hpb:0<(ks.map V.text).length:=by rw[List.length_map];exact hpos
   refine q ?_
   replace hD:=hD.m hE
   refine Hq (ao Fb.h rfl Xr (hD.at hidx rfl))<|WL.nil<|gq 150 rfl ?_
   replace he:=he.t hE
   have hs2:=he.s
   refine Ha fun w2 hb2 e2=>?_
   refine q ?_
   replace hR:=(hR.m hE).m e2
   refine cl rfl (tX hts hb2 (by omega) hpb (by rw[List.length_map];exact harr) hR) ?_
   exact Ah
  ·have hF:=hEl.flat (Q:=fun x=>x.kind=18∧x.text.length<256^4) (f:=fun x=>txt 4 x.text) (fun x b hp=>by obtain⟨h1,h2,h3⟩:=hp.fixT (k:=18) (s:=4) rfl;exact⟨⟨h1,h3⟩,h2⟩)
   have hk:=fun x hx=>(hF.1 x hx).1
   have hb2:body=(ks.map V.text).flatMap (txt 4):=by rw[hF.2,List.flatMap_map]
   subst hb2
   have hts:∀t∈ks.map V.text,t≠[]∧t.length<4294967296:=by intro t ht;obtain⟨x,hx,rfl⟩:=List.mem_map.1 ht;exact⟨(hP x hx).2 (by have:=hk x hx;omega),by have:=(hF.1 x hx).2;simpa using this⟩
   have hpb:0<(ks.map V.text).length:=by rw[List.length_map];exact hpos
   refine q ?_
   replace hD:=hD.m hE
   refine Hq (ao Fb.h rfl Xr (hD.at hidx rfl))<|WL.nil<|gq 153 rfl ?_
   replace he:=he.t hE
   have hs2:=he.s
   refine Ha fun w2 hb2 e2=>?_
   refine q ?_
   replace hR:=(hR.m hE).m e2
   refine cl rfl (tY hts hb2 (by omega) hpb (by rw[List.length_map];exact harr) hR) ?_
   exact Ah
  ·have hF:=hEl.flat (Q:=fun x=>x.kind=19∧x.text.length<256^1) (f:=fun x=>txt 1 x.text) (fun x b hp=>by obtain⟨h1,h2,h3⟩:=hp.fixT (k:=19) (s:=1) rfl;exact⟨⟨h1,h3⟩,h2⟩)
   have hk:=fun x hx=>(hF.1 x hx).1
   have hb2:body=(ks.map V.text).flatMap (txt 1):=by rw[hF.2,List.flatMap_map]
   subst hb2
   have hts:∀t∈ks.map V.text,t≠[]∧t.length<256:=by intro t ht;obtain⟨x,hx,rfl⟩:=List.mem_map.1 ht;exact⟨(hP x hx).2 (by have:=hk x hx;omega),by have:=(hF.1 x hx).2;simpa using this⟩
   have hpb:0<(ks.map V.text).length:=by rw[List.length_map];exact hpos
   refine q ?_
   replace hD:=hD.m hE
   refine Hq (ao Fb.h rfl Xr (hD.at hidx rfl))<|WL.nil<|gq 126 rfl ?_
   replace he:=he.t hE
   have hs2:=he.s
   refine Ha fun w2 hb2 e2=>?_
   refine q ?_
   replace hR:=(hR.m hE).m e2
   refine cl rfl (t8 hts hb2 (by omega) hpb (by rw[List.length_map];exact harr) hR) ?_
   exact Af
  ·have hF:=hEl.flat (Q:=fun x=>x.kind=19∧x.text.length<256^4) (f:=fun x=>txt 4 x.text) (fun x b hp=>by obtain⟨h1,h2,h3⟩:=hp.fixT (k:=19) (s:=4) rfl;exact⟨⟨h1,h3⟩,h2⟩)
   have hk:=fun x hx=>(hF.1 x hx).1
   have hb2:body=(ks.map V.text).flatMap (txt 4):=by rw[hF.2,List.flatMap_map]
   subst hb2
   have hts:∀t∈ks.map V.text,t≠[]∧t.length<4294967296:=by intro t ht;obtain⟨x,hx,rfl⟩:=List.mem_map.1 ht;exact⟨(hP x hx).2 (by have:=hk x hx;omega),by have:=(hF.1 x hx).2;simpa using this⟩
   have hpb:0<(ks.map V.text).length:=by rw[List.length_map];exact hpos
   refine q ?_
   replace hD:=hD.m hE
   refine Hq (ao Fb.h rfl Xr (hD.at hidx rfl))<|WL.nil<|gq 129 rfl ?_
   replace he:=he.t hE
   have hs2:=he.s
   refine Ha fun w2 hb2 e2=>?_
   refine q ?_
   replace hR:=(hR.m hE).m e2
   refine cl rfl (ua hts hb2 (by omega) hpb (by rw[List.length_map];exact harr) hR) ?_
   exact Af
  ·have hF:=hEl.flat (Q:=fun x=>x.kind=20∧x.text.length<256^1) (f:=fun x=>txt 1 x.text) (fun x b hp=>by obtain⟨h1,h2,h3⟩:=hp.fixT (k:=20) (s:=1) rfl;exact⟨⟨h1,h3⟩,h2⟩)
   have hk:=fun x hx=>(hF.1 x hx).1
   have hb2:body=(ks.map V.text).flatMap (txt 1):=by rw[hF.2,List.flatMap_map]
   subst hb2
   have hts:∀t∈ks.map V.text,t≠[]∧t.length<256:=by intro t ht;obtain⟨x,hx,rfl⟩:=List.mem_map.1 ht;exact⟨(hP x hx).2 (by have:=hk x hx;omega),by have:=(hF.1 x hx).2;simpa using this⟩
   have hpb:0<(ks.map V.text).length:=by rw[List.length_map];exact hpos
   refine q ?_
   replace hD:=hD.m hE
   refine Hq (ao Fb.h rfl Xr (hD.at hidx rfl))<|WL.nil<|gq 138 rfl ?_
   replace he:=he.t hE
   have hs2:=he.s
   refine Ha fun w2 hb2 e2=>?_
   refine q ?_
   replace hR:=(hR.m hE).m e2
   refine cl rfl (ub hts hb2 (by omega) hpb (by rw[List.length_map];exact harr) hR) ?_
   exact Ag
  ·have hF:=hEl.flat (Q:=fun x=>x.kind=20∧x.text.length<256^4) (f:=fun x=>txt 4 x.text) (fun x b hp=>by obtain⟨h1,h2,h3⟩:=hp.fixT (k:=20) (s:=4) rfl;exact⟨⟨h1,h3⟩,h2⟩)
   have hk:=fun x hx=>(hF.1 x hx).1
   have hb2:body=(ks.map V.text).flatMap (txt 4):=by rw[hF.2,List.flatMap_map]
   subst hb2
   have hts:∀t∈ks.map V.text,t≠[]∧t.length<4294967296:=by intro t ht;obtain⟨x,hx,rfl⟩:=List.mem_map.1 ht;exact⟨(hP x hx).2 (by have:=hk x hx;omega),by have:=(hF.1 x hx).2;simpa using this⟩
   have hpb:0<(ks.map V.text).length:=by rw[List.length_map];exact hpos
   refine q ?_
   replace hD:=hD.m hE
   refine Hq (ao Fb.h rfl Xr (hD.at hidx rfl))<|WL.nil<|gq 141 rfl ?_
   replace he:=he.t hE
   have hs2:=he.s
   refine Ha fun w2 hb2 e2=>?_
   refine q ?_
   replace hR:=(hR.m hE).m e2
   refine cl rfl (uc hts hb2 (by omega) hpb (by rw[List.length_map];exact harr) hR) ?_
   exact Ag
end Go.Proofs.LL
