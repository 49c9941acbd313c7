/- Contracts of functions of impl, spec and laws. Conditions: those that each theorem states. -/
import Derived.Test.YtdgbmbjkbmpcbaaGreatDoorW18
set_option linter.all false
set_option maxRecDepth 20000
namespace Go.Proofs.LL
open Go Go.Proofs Go.RowKit
set_option maxHeartbeats 4000000
attribute [local irreducible] RunOp WL WC WDL WT WX
theorem zR18_1{A:Prop}(h:A:=by
 rintro v3 w3 ⟨rfl,⟨g,hg,hb2,hG⟩,hR,e3⟩
 have hq:=e2.size
 refine q ?_
 replace he:=(he.then e2).then e3
 exact fin2 rfl rfl ⟨_,rfl,RepArr.other (kk:=19) hks hk (by decide) rfl (show _≤g by omega) hG (by simp) (by rw[List.map_map];rw[show ks.map (str∘V.text)=ks.flatMap (fun x=>[str x.text])from map_flat1 _ _];refine flat_eq ks fun x hx=>?_;unfold elemC;rw[if_neg (by rw[hk x hx];decide),if_neg (by rw[hk x hx];decide),if_pos (by rw[hk x hx];decide)]),hR,he⟩):A:=h
theorem zR18_2{A:Prop}(h:A:=by
 rintro v3 w3 ⟨rfl,⟨g,hg,hb2,hG⟩,hR,e3⟩
 have hq:=e2.size
 refine q ?_
 replace he:=(he.then e2).then e3
 exact fin2 rfl rfl ⟨_,rfl,RepArr.other (kk:=20) hks hk (by decide) rfl (show _≤g by omega) hG (by simp) (by rw[List.map_map];rw[show ks.map (str∘V.text)=ks.flatMap (fun x=>[str x.text])from map_flat1 _ _];refine flat_eq ks fun x hx=>?_;unfold elemC;rw[if_neg (by rw[hk x hx];decide),if_neg (by rw[hk x hx];decide),if_pos (by rw[hk x hx];decide)]),hR,he⟩):A:=h
theorem zR18_3{A:Prop}(h:A:=by
 rintro v3 w3 ⟨rfl,⟨g,vs,hg,hb2,hG,hV⟩,hR,e3⟩
 have hq:=e2.size
 refine q ?_
 replace he:=(he.then e2).then e3
 exact fin2 rfl rfl ⟨_,rfl,⟨18,hk,hks,by unfold arrK;omega,.inr (.inl ⟨rfl,g,vs,show _≤g by omega,by simp,hG.at,hV.weaken (fun b _ h=>show _≤b by omega)⟩)⟩,hR,he⟩):A:=h
theorem BytesAt.at{w:World}{b o i:Nat}{l:List UInt8}{c:UInt8}{n:Int}(h:BytesAt w b o l)(hi:l[i]?=some c)(hn:(c.toNat:Int)=n):w.cell? ⟨b,o+i,none⟩=some (.int .u8 n):=by
 obtain⟨h1,h2⟩:=List.getElem?_eq_some_iff.1 hi
 rw[h i h1,h2,hn]
theorem elemC_num{x:V}{k:Int}(hk:x.kind=k)(h:1≤k∧k≤11):elemC x=[numV k x.num]:=by
 unfold elemC
 rw[hk,if_neg (by omega),if_neg (by omega),if_neg (by omega)]
theorem RepArr.num{A:Nat→Prop}{w:World}{ks:List V}{kk:Int}{T g n:Nat}{vs:List Value}(hne:ks≠[])(hk:∀x∈ks,x.kind=kk)(h1:1≤kk∧kk≤11)(h2:kk≠2)(hT:arrTy kk=T)(hA:A g)(hG:Blk w g vs)(hn:n=ks.length)(hv:vs=ks.map fun x=>numV kk x.num):
  RepArr A w ks (.iface T (.slice (some ⟨g,0,none⟩) n n)):=by
 refine⟨kk,hk,hne,by unfold arrK;omega,.inr (.inr ⟨h2,by omega,g,hA,by rw[hT,hn],?_⟩)⟩
 have:ks.flatMap elemC=ks.map fun x=>numV kk x.num:=by
  clear hv hn hne
  induction ks with
  |nil=>rfl
  |cons a r ih=>rw[List.flatMap_cons,elemC_num (hk a (by simp)) h1,ih (fun x hx=>hk x (by simp[hx]))];rfl
 rw[this,← hv]
 exact hG.at
theorem RepArr.other{A:Nat→Prop}{w:World}{ks:List V}{kk:Int}{T g n:Nat}{vs:List Value}(hne:ks≠[])(hk:∀x∈ks,x.kind=kk)(h1:kk=16∨kk=17∨kk=19∨kk=20)(hT:arrTy kk=T)(hA:A g)(hG:Blk w g vs)(hn:n=ks.length)(hv:vs=ks.flatMap elemC):
  RepArr A w ks (.iface T (.slice (some ⟨g,0,none⟩) n n)):=by
 refine⟨kk,hk,hne,by unfold arrK;omega,.inr (.inr ⟨by omega,by omega,g,hA,by rw[hT,hn],?_⟩)⟩
 rw[← hv]
 exact hG.at
theorem flat_eq{f:V→List Value}:∀(ks:List V),(∀x∈ks,elemC x=f x)→ks.flatMap f=ks.flatMap elemC
 |[],_=>rfl
 |a::r,h=>by rw[List.flatMap_cons,List.flatMap_cons,h a (by simp),flat_eq r (fun x hx=>h x (by simp[hx]))]
theorem map_flat1{α:Type}(f:α→Value):∀l:List α,l.map f=l.flatMap fun x=>[f x]
 |[]=>rfl
 |a::r=>by rw[List.map_cons,List.flatMap_cons,map_flat1 f r];rfl
theorem nz_iff(n:Nat):((n:Int) !=0)=(n !=0):=by
 cases n with
 |zero=>rfl
 |succ n=>exact(bne_iff_ne.2 (by omega)).trans (bne_iff_ne.2 (by omega)).symm
theorem idx_of{c c':UInt8}{hd body r:List UInt8}{n:Nat}(hh:Hd 0xe0 0xf0 c hd n (c'::body)):∃i,(c::(hd++((c'::body)++r)))[i]?=some c'∧i<(c::(hd++((c'::body)++r))).length∧((c=0xe0∧i=3)∨(c=0xf0∧i=9)):=by
 rcases hh with⟨s,k,rfl,rfl,_⟩|⟨a,b,d,e,f,g,h,i,rfl,rfl,_⟩
 ·exact⟨3,rfl,by simp,.inl ⟨rfl,rfl⟩⟩
 ·exact⟨9,rfl,by simp,.inr ⟨rfl,rfl⟩⟩
theorem readAnyArray_ok{rb:Nat}{c c':UInt8}{hd body r:List UInt8}{ks:List V}{w:World}(hks:ks≠[])(hP:∀x∈ks,plainOK x∧(18≤x.kind→x.text≠[]))(hc:c'∈arrCodes)(hEl:Elems c' ks body)(hh:Hd 0xe0 0xf0 c hd ks.length (c'::body))(hR:Rd w rb (c::(hd++((c'::body)++r)))):
  Does TP 207 [.pointer (some ⟨rb,0,none⟩)] w fun u w'=>∃y,u= .tuple #[y,.nilIface]∧RepArr (fun b=>w.heap.size≤b) w' ks y∧Rd w' rb r∧Evo (Nb rb) w w':=by
 have hr0:=hR.lt
 have hlenR:=hR.len
 have harr:=hh.arr
 have hpos:0<ks.length:=List.length_pos_iff.2 hks
 obtain⟨idx,hidx,hil,hcs⟩:=idx_of (r:=r) hh
 refine do2 Tryz.func207 ?_
 have he:Evo (Nb rb) w w:=Evo.refl w
 refine q ?_
 refine cl rfl (BytesR_ok hR) ?_
 rintro v1 w1 ⟨hY,e1⟩
 obtain⟨pb,po,cp,rfl,hcp,hA,hD⟩:=hY.open (by simp)
 have hZ0:=hD.at (i:=0) rfl rfl
 refine q ?_
 try refine WL.q rfl (r_cmp (r_lss rfl rfl) (decide_eq_false (by(simp only[List.length_cons];omega)))) ?_
 refine q ?_
 refine WL.q rfl (r_load Fb.h rfl (Ext.refl _) hZ0) ?_
 refine qb ?_
 replace hR:=hR.mono e1
 replace he:=he.then e1
 refine WC.thenJ (ι:=Nat) [(0,_),(2,_),(3,_),(4,_)] (fun i=>[(5,.int .i64 (i:Int))]) (fun i wi=>i=idx∧Evo (fun _=>True) w1 wi) sb ?_ ?_
 ·rcases hcs with⟨rfl,rfl⟩|⟨rfl,rfl⟩
  ·refine q ?_
   try refine WL.q rfl (r_cmp (r_eql rfl rfl) (beqT (rfl))) ?_
   refine q ?_
   exact⟨3,sb,sb,⟨rfl,Evo.refl _⟩⟩
  ·refine q ?_
   try refine WL.q rfl (r_cmp (r_eql rfl rfl) (beqF (by(decide)))) ?_
   refine q ?_
   try refine WL.q rfl (r_cmp (r_eql rfl rfl) (beqT (rfl))) ?_
   refine q ?_
   exact⟨9,sb,sb,⟨rfl,Evo.refl _⟩⟩
 ·intro i wj hh;obtain⟨rfl,hE⟩:=hh
  have hc2:c'=0x50∨c'=0x60∨c'=0x70∨c'=0x80∨c'=0x51∨c'=0x61∨c'=0x71∨c'=0x81∨c'=0x72∨c'=0x82∨c'=0x83∨c'=0x52∨c'=0x53∨c'=0x54∨c'=0x55∨c'=0x56∨c'=0x98∨c'=0xa0∨c'=0xb0∨c'=0xa1∨c'=0xb1∨c'=0xa3∨c'=0xb3:=by simpa[arrCodes]using hc
  clear hc hcs
  rcases hc2 with rfl|rfl|rfl|rfl|rfl|rfl|rfl|rfl|rfl|rfl|rfl|rfl|rfl|rfl|rfl|rfl|rfl|rfl|rfl|rfl|rfl|rfl|rfl
  ·obtain⟨hk,rfl⟩:=hEl.fix1 (k:=2) rfl
   have hpb:0<(ks.map fun x=>UInt8.ofNat x.num).length:=by rw[List.length_map];exact hpos
   refine q ?_
   replace hD:=hD.mono hE
   refine WL.q rfl (r_load Fb.h rfl (Ext.refl _) (hD.at hidx rfl)) ?_
   refine q ?_
   replace he:=he.then hE
   have hs2:=he.size
   refine al ?_
   rintro _ w2 ⟨rfl,hb2,e2⟩
   refine q ?_
   replace hR:=(hR.mono hE).mono e2
   refine cl rfl (arrUbyte_ok hb2 (by omega) hpb (by rw[List.length_map];exact harr) hR) ?_
   rintro v3 w3 ⟨rfl,⟨vv,hb2,hG⟩,hR,e3⟩
   have hq:=e2.size
   refine q ?_
   replace he:=(he.then e2).then e3
   exact fin2 rfl rfl ⟨_,rfl,⟨2,hk,hks,by unfold arrK;omega,.inl ⟨rfl,_,rfl,hG.weaken (fun b _ h=>show _≤b by omega)⟩⟩,hR,he⟩
  ·obtain⟨hk,rfl⟩:=hEl.fix (k:=3) rfl
   have hN:∀x∈ks,NumOK x.kind x.num:=fun x hx=>(hP x hx).1.1
   have hpb:0<(ks.map V.num).length:=by rw[List.length_map];exact hpos
   refine q ?_
   replace hD:=hD.mono hE
   refine WL.q rfl (r_load Fb.h rfl (Ext.refl _) (hD.at hidx rfl)) ?_
   refine q ?_
   replace he:=he.then hE
   have hs2:=he.size
   refine al ?_
   rintro _ w2 ⟨rfl,hb2,e2⟩
   refine q ?_
   replace hR:=(hR.mono hE).mono e2
   refine cl rfl (arrUint16_ok hb2 (by omega) hpb (by rw[List.length_map];exact harr) hR) ?_
   rintro v3 w3 ⟨rfl,⟨g,hg,hb2,hG⟩,hR,e3⟩
   have hq:=e2.size
   refine q ?_
   replace he:=(he.then e2).then e3
   exact fin2 rfl rfl ⟨_,rfl,RepArr.num (kk:=3) hks hk (by decide) (by decide) rfl (show _≤g by omega) hG (by simp) (by rw[List.map_map];exact List.map_congr_left fun x hx=>by have:=(hN x hx).2.2.1 (hk x hx);simp only[Function.comp];rw[Nat.mod_eq_of_lt this];rfl),hR,he⟩
  ·obtain⟨hk,rfl⟩:=hEl.fix (k:=4) rfl
   have hN:∀x∈ks,NumOK x.kind x.num:=fun x hx=>(hP x hx).1.1
   have hpb:0<(ks.map V.num).length:=by rw[List.length_map];exact hpos
   refine q ?_
   replace hD:=hD.mono hE
   refine WL.q rfl (r_load Fb.h rfl (Ext.refl _) (hD.at hidx rfl)) ?_
   refine WL.nil ?_
   refine gq 45 rfl ?_
   replace he:=he.then hE
   have hs2:=he.size
   refine al ?_
   rintro _ w2 ⟨rfl,hb2,e2⟩
   refine q ?_
   replace hR:=(hR.mono hE).mono e2
   refine cl rfl (arrUint4_ok hb2 (by omega) hpb (by rw[List.length_map];exact harr) hR) ?_
   rintro v3 w3 ⟨rfl,⟨g,hg,hb2,hG⟩,hR,e3⟩
   have hq:=e2.size
   refine q ?_
   replace he:=(he.then e2).then e3
   exact fin2 rfl rfl ⟨_,rfl,RepArr.num (kk:=4) hks hk (by decide) (by decide) rfl (show _≤g by omega) hG (by simp) (by rw[List.map_map];exact List.map_congr_left fun x hx=>by have:=(hN x hx).2.2.2.1 (hk x hx);simp only[Function.comp];rw[Nat.mod_eq_of_lt this];rfl),hR,he⟩
  ·obtain⟨hk,rfl⟩:=hEl.fix (k:=5) rfl
   have hN:∀x∈ks,NumOK x.kind x.num:=fun x hx=>(hP x hx).1.1
   have hpb:0<(ks.map V.num).length:=by rw[List.length_map];exact hpos
   refine q ?_
   replace hD:=hD.mono hE
   refine WL.q rfl (r_load Fb.h rfl (Ext.refl _) (hD.at hidx rfl)) ?_
   refine WL.nil ?_
   refine gq 75 rfl ?_
   replace he:=he.then hE
   have hs2:=he.size
   refine al ?_
   rintro _ w2 ⟨rfl,hb2,e2⟩
   refine q ?_
   replace hR:=(hR.mono hE).mono e2
   refine cl rfl (arrUlong8_ok hb2 (by omega) hpb (by rw[List.length_map];exact harr) hR) ?_
   rintro v3 w3 ⟨rfl,⟨g,hg,hb2,hG⟩,hR,e3⟩
   have hq:=e2.size
   refine q ?_
   replace he:=(he.then e2).then e3
   exact fin2 rfl rfl ⟨_,rfl,RepArr.num (kk:=5) hks hk (by decide) (by decide) rfl (show _≤g by omega) hG (by simp) (by rw[List.map_map];exact List.map_congr_left fun x hx=>by have:=(hN x hx).2.2.2.2.2.2.2.2;simp only[Function.comp];rw[Nat.mod_eq_of_lt this];rfl),hR,he⟩
  ·obtain⟨hk,rfl⟩:=hEl.fix1 (k:=6) rfl
   have hN:∀x∈ks,NumOK x.kind x.num:=fun x hx=>(hP x hx).1.1
   have hpb:0<(ks.map fun x=>UInt8.ofNat x.num).length:=by rw[List.length_map];exact hpos
   refine q ?_
   replace hD:=hD.mono hE
   refine WL.q rfl (r_load Fb.h rfl (Ext.refl _) (hD.at hidx rfl)) ?_
   refine q ?_
   replace he:=he.then hE
   have hs2:=he.size
   refine al ?_
   rintro _ w2 ⟨rfl,hb2,e2⟩
   refine q ?_
   replace hR:=(hR.mono hE).mono e2
   refine cl rfl (arrInt8_ok2 hb2 (by omega) hpb (by rw[List.length_map];exact harr) hR) ?_
   rintro v3 w3 ⟨rfl,⟨g,hg,hb2,hG⟩,hR,e3⟩
   have hq:=e2.size
   refine q ?_
   replace he:=(he.then e2).then e3
   exact fin2 rfl rfl ⟨_,rfl,RepArr.num (kk:=6) hks hk (by decide) (by decide) rfl (show _≤g by omega) hG (by simp) (by rw[List.map_map];exact List.map_congr_left fun x hx=>by simp only[Function.comp];rw[w_i8 ((hN x hx).2.2.2.2.1 (hk x hx))];rfl),hR,he⟩
  ·obtain⟨hk,rfl⟩:=hEl.fix (k:=7) rfl
   have hN:∀x∈ks,NumOK x.kind x.num:=fun x hx=>(hP x hx).1.1
   have hpb:0<(ks.map V.num).length:=by rw[List.length_map];exact hpos
   refine q ?_
   replace hD:=hD.mono hE
   refine WL.q rfl (r_load Fb.h rfl (Ext.refl _) (hD.at hidx rfl)) ?_
   refine WL.nil ?_
   refine gq 27 rfl ?_
   replace he:=he.then hE
   have hs2:=he.size
   refine al ?_
   rintro _ w2 ⟨rfl,hb2,e2⟩
   refine q ?_
   replace hR:=(hR.mono hE).mono e2
   refine cl rfl (arrInt16_ok hb2 (by omega) hpb (by rw[List.length_map];exact harr) hR) ?_
   rintro v3 w3 ⟨rfl,⟨g,hg,hb2,hG⟩,hR,e3⟩
   have hq:=e2.size
   refine q ?_
   replace he:=(he.then e2).then e3
   exact fin2 rfl rfl ⟨_,rfl,RepArr.num (kk:=7) hks hk (by decide) (by decide) rfl (show _≤g by omega) hG (by simp) (by rw[List.map_map];exact List.map_congr_left fun x hx=>by simp only[Function.comp];rw[w_i16 ((hN x hx).2.2.2.2.2.1 (hk x hx))];rfl),hR,he⟩
  ·obtain⟨hk,rfl⟩:=hEl.fix (k:=8) rfl
   have hN:∀x∈ks,NumOK x.kind x.num:=fun x hx=>(hP x hx).1.1
   have hpb:0<(ks.map V.num).length:=by rw[List.length_map];exact hpos
   refine q ?_
   replace hD:=hD.mono hE
   refine WL.q rfl (r_load Fb.h rfl (Ext.refl _) (hD.at hidx rfl)) ?_
   refine WL.nil ?_
   refine gq 57 rfl ?_
   replace he:=he.then hE
   have hs2:=he.size
   refine al ?_
   rintro _ w2 ⟨rfl,hb2,e2⟩
   refine q ?_
   replace hR:=(hR.mono hE).mono e2
   refine cl rfl (arrInt4_ok hb2 (by omega) hpb (by rw[List.length_map];exact harr) hR) ?_
   rintro v3 w3 ⟨rfl,⟨g,hg,hb2,hG⟩,hR,e3⟩
   have hq:=e2.size
   refine q ?_
   replace he:=(he.then e2).then e3
   exact fin2 rfl rfl ⟨_,rfl,RepArr.num (kk:=8) hks hk (by decide) (by decide) rfl (show _≤g by omega) hG (by simp) (by rw[List.map_map];exact List.map_congr_left fun x hx=>by simp only[Function.comp];rw[w_i32 ((hN x hx).2.2.2.2.2.2.1 (hk x hx))];rfl),hR,he⟩
  ·obtain⟨hk,rfl⟩:=hEl.fix (k:=9) rfl
   have hN:∀x∈ks,NumOK x.kind x.num:=fun x hx=>(hP x hx).1.1
   have hpb:0<(ks.map V.num).length:=by rw[List.length_map];exact hpos
   refine q ?_
   replace hD:=hD.mono hE
   refine WL.q rfl (r_load Fb.h rfl (Ext.refl _) (hD.at hidx rfl)) ?_
   refine WL.nil ?_
   refine gq 87 rfl ?_
   replace he:=he.then hE
   have hs2:=he.size
   refine al ?_
   rintro _ w2 ⟨rfl,hb2,e2⟩
   refine q ?_
   replace hR:=(hR.mono hE).mono e2
   refine cl rfl (arrLong8_ok hb2 (by omega) hpb (by rw[List.length_map];exact harr) hR) ?_
   rintro v3 w3 ⟨rfl,⟨g,hg,hb2,hG⟩,hR,e3⟩
   have hq:=e2.size
   refine q ?_
   replace he:=(he.then e2).then e3
   exact fin2 rfl rfl ⟨_,rfl,RepArr.num (kk:=9) hks hk (by decide) (by decide) rfl (show _≤g by omega) hG (by simp) (by rw[List.map_map];exact List.map_congr_left fun x hx=>by have:=(hN x hx).2.2.2.2.2.2.2.2;simp only[Function.comp];rw[Nat.mod_eq_of_lt this];rfl),hR,he⟩
  ·obtain⟨hk,rfl⟩:=hEl.fix (k:=10) rfl
   have hN:∀x∈ks,NumOK x.kind x.num:=fun x hx=>(hP x hx).1.1
   have hpb:0<(ks.map V.num).length:=by rw[List.length_map];exact hpos
   refine q ?_
   replace hD:=hD.mono hE
   refine WL.q rfl (r_load Fb.h rfl (Ext.refl _) (hD.at hidx rfl)) ?_
   refine WL.nil ?_
   refine gq 93 rfl ?_
   replace he:=he.then hE
   have hs2:=he.size
   refine al ?_
   rintro _ w2 ⟨rfl,hb2,e2⟩
   refine q ?_
   replace hR:=(hR.mono hE).mono e2
   refine cl rfl (arrFloat_ok hb2 (by omega) hpb (by rw[List.length_map];exact harr) hR) ?_
   rintro v3 w3 ⟨rfl,⟨g,hg,hb2,hG⟩,hR,e3⟩
   have hq:=e2.size
   refine q ?_
   replace he:=(he.then e2).then e3
   exact fin2 rfl rfl ⟨_,rfl,RepArr.num (kk:=10) hks hk (by decide) (by decide) rfl (show _≤g by omega) hG (by simp) (by rw[List.map_map];exact List.map_congr_left fun x hx=>by have:=(hN x hx).2.2.2.2.2.2.2.1 (hk x hx);simp only[Function.comp];rw[Nat.mod_eq_of_lt this];rfl),hR,he⟩
  ·obtain⟨hk,rfl⟩:=hEl.fix (k:=11) rfl
   have hN:∀x∈ks,NumOK x.kind x.num:=fun x hx=>(hP x hx).1.1
   have hpb:0<(ks.map V.num).length:=by rw[List.length_map];exact hpos
   refine q ?_
   replace hD:=hD.mono hE
   refine WL.q rfl (r_load Fb.h rfl (Ext.refl _) (hD.at hidx rfl)) ?_
   refine WL.nil ?_
   refine gq 99 rfl ?_
   replace he:=he.then hE
   have hs2:=he.size
   refine al ?_
   rintro _ w2 ⟨rfl,hb2,e2⟩
   refine q ?_
   replace hR:=(hR.mono hE).mono e2
   refine cl rfl (arrDouble_ok hb2 (by omega) hpb (by rw[List.length_map];exact harr) hR) ?_
   rintro v3 w3 ⟨rfl,⟨g,hg,hb2,hG⟩,hR,e3⟩
   have hq:=e2.size
   refine q ?_
   replace he:=(he.then e2).then e3
   exact fin2 rfl rfl ⟨_,rfl,RepArr.num (kk:=11) hks hk (by decide) (by decide) rfl (show _≤g by omega) hG (by simp) (by rw[List.map_map];exact List.map_congr_left fun x hx=>by have:=(hN x hx).2.2.2.2.2.2.2.2;simp only[Function.comp];rw[Nat.mod_eq_of_lt this];rfl),hR,he⟩
  ·obtain⟨hk,rfl⟩:=hEl.fix (k:=16) rfl
   have hN:∀x∈ks,NumOK x.kind x.num:=fun x hx=>(hP x hx).1.1
   have hpb:0<(ks.map V.num).length:=by rw[List.length_map];exact hpos
   refine q ?_
   replace hD:=hD.mono hE
   refine WL.q rfl (r_load Fb.h rfl (Ext.refl _) (hD.at hidx rfl)) ?_
   refine WL.nil ?_
   refine gq 159 rfl ?_
   replace he:=he.then hE
   have hs2:=he.size
   refine al ?_
   rintro _ w2 ⟨rfl,hb2,e2⟩
   refine q ?_
   replace hR:=(hR.mono hE).mono e2
   refine cl rfl (arrTime_ok hb2 (by omega) hpb (by rw[List.length_map];exact harr) hR) ?_
   rintro v3 w3 ⟨rfl,⟨g,hg,hb2,hG⟩,hR,e3⟩
   have hq:=e2.size
   refine q ?_
   replace he:=(he.then e2).then e3
   exact fin2 rfl rfl ⟨_,rfl,RepArr.other (kk:=16) hks hk (by decide) rfl (show _≤g by omega) hG (by simp) (by rw[List.map_map,← List.flatMap_def];refine flat_eq ks fun x hx=>?_;have:=(hN x hx).2.2.2.2.2.2.2.2;unfold elemC;rw[if_pos (hk x hx)];simp only[Function.comp,msOf];rw[Nat.mod_eq_of_lt this]),hR,he⟩
  ·obtain⟨hk,rfl⟩:=hEl.fix1 (k:=4) rfl
   have hN:∀x∈ks,NumOK x.kind x.num:=fun x hx=>(hP x hx).1.1
   have hS:=(hEl.flat (Q:=fun x=>x.num<256) (f:=fun x=>bigB x.num 1) (fun x b hp=>⟨hp.sm1 (.inl rfl),(hp.fix (k:=4) rfl).2⟩)).1
   have hpb:0<(ks.map fun x=>UInt8.ofNat x.num).length:=by rw[List.length_map];exact hpos
   refine q ?_
   replace hD:=hD.mono hE
   refine WL.q rfl (r_load Fb.h rfl (Ext.refl _) (hD.at hidx rfl)) ?_
   refine WL.nil ?_
   refine gq 42 rfl ?_
   replace he:=he.then hE
   have hs2:=he.size
   refine al ?_
   rintro _ w2 ⟨rfl,hb2,e2⟩
   refine q ?_
   replace hR:=(hR.mono hE).mono e2
   refine cl rfl (arrUint1_ok hb2 (by omega) hpb (by rw[List.length_map];exact harr) hR) ?_
   rintro v3 w3 ⟨rfl,⟨g,hg,hb2,hG⟩,hR,e3⟩
   have hq:=e2.size
   refine q ?_
   replace he:=(he.then e2).then e3
   exact fin2 rfl rfl ⟨_,rfl,RepArr.num (kk:=4) hks hk (by decide) (by decide) rfl (show _≤g by omega) hG (by simp) (by rw[List.map_map];exact List.map_congr_left fun x hx=>by simp only[Function.comp];rw[w_u32,small_of (hS x hx)];rfl),hR,he⟩
  ·obtain⟨hk,rfl⟩:=hEl.fix1 (k:=5) rfl
   have hN:∀x∈ks,NumOK x.kind x.num:=fun x hx=>(hP x hx).1.1
   have hS:=(hEl.flat (Q:=fun x=>x.num<256) (f:=fun x=>bigB x.num 1) (fun x b hp=>⟨hp.sm1 (.inr rfl),(hp.fix (k:=5) rfl).2⟩)).1
   have hpb:0<(ks.map fun x=>UInt8.ofNat x.num).length:=by rw[List.length_map];exact hpos
   refine q ?_
   replace hD:=hD.mono hE
   refine WL.q rfl (r_load Fb.h rfl (Ext.refl _) (hD.at hidx rfl)) ?_
   refine WL.nil ?_
   refine gq 72 rfl ?_
   replace he:=he.then hE
   have hs2:=he.size
   refine al ?_
   rintro _ w2 ⟨rfl,hb2,e2⟩
   refine q ?_
   replace hR:=(hR.mono hE).mono e2
   refine cl rfl (arrUlong1_ok hb2 (by omega) hpb (by rw[List.length_map];exact harr) hR) ?_
   rintro v3 w3 ⟨rfl,⟨g,hg,hb2,hG⟩,hR,e3⟩
   have hq:=e2.size
   refine q ?_
   replace he:=(he.then e2).then e3
   exact fin2 rfl rfl ⟨_,rfl,RepArr.num (kk:=5) hks hk (by decide) (by decide) rfl (show _≤g by omega) hG (by simp) (by rw[List.map_map];exact List.map_congr_left fun x hx=>by simp only[Function.comp];rw[w_u64,small_of (hS x hx)];rfl),hR,he⟩
  ·obtain⟨hk,rfl⟩:=hEl.fix1 (k:=8) rfl
   have hN:∀x∈ks,NumOK x.kind x.num:=fun x hx=>(hP x hx).1.1
   have hS:=(hEl.flat (Q:=fun x=>small x.num) (f:=fun x=>bigB x.num 1) (fun x b hp=>⟨hp.sm (.inl rfl),(hp.fix (k:=8) rfl).2⟩)).1
   have hpb:0<(ks.map fun x=>UInt8.ofNat x.num).length:=by rw[List.length_map];exact hpos
   refine q ?_
   replace hD:=hD.mono hE
   refine WL.q rfl (r_load Fb.h rfl (Ext.refl _) (hD.at hidx rfl)) ?_
   refine WL.nil ?_
   refine gq 54 rfl ?_
   replace he:=he.then hE
   have hs2:=he.size
   refine al ?_
   rintro _ w2 ⟨rfl,hb2,e2⟩
   refine q ?_
   replace hR:=(hR.mono hE).mono e2
   refine cl rfl (arrInt1_ok hb2 (by omega) hpb (by rw[List.length_map];exact harr) hR) ?_
   rintro v3 w3 ⟨rfl,⟨g,hg,hb2,hG⟩,hR,e3⟩
   have hq:=e2.size
   refine q ?_
   replace he:=(he.then e2).then e3
   exact fin2 rfl rfl ⟨_,rfl,RepArr.num (kk:=8) hks hk (by decide) (by decide) rfl (show _≤g by omega) hG (by simp) (by rw[List.map_map];exact List.map_congr_left fun x hx=>by simp only[Function.comp];rw[w_i32_i8,w_sm (hS x hx) ((hN x hx).2.2.2.2.2.2.2.2)];rfl),hR,he⟩
  ·obtain⟨hk,rfl⟩:=hEl.fix1 (k:=9) rfl
   have hN:∀x∈ks,NumOK x.kind x.num:=fun x hx=>(hP x hx).1.1
   have hS:=(hEl.flat (Q:=fun x=>small x.num) (f:=fun x=>bigB x.num 1) (fun x b hp=>⟨hp.sm (.inr rfl),(hp.fix (k:=9) rfl).2⟩)).1
   have hpb:0<(ks.map fun x=>UInt8.ofNat x.num).length:=by rw[List.length_map];exact hpos
   refine q ?_
   replace hD:=hD.mono hE
   refine WL.q rfl (r_load Fb.h rfl (Ext.refl _) (hD.at hidx rfl)) ?_
   refine WL.nil ?_
   refine gq 84 rfl ?_
   replace he:=he.then hE
   have hs2:=he.size
   refine al ?_
   rintro _ w2 ⟨rfl,hb2,e2⟩
   refine q ?_
   replace hR:=(hR.mono hE).mono e2
   refine cl rfl (arrLong1_ok hb2 (by omega) hpb (by rw[List.length_map];exact harr) hR) ?_
   rintro v3 w3 ⟨rfl,⟨g,hg,hb2,hG⟩,hR,e3⟩
   have hq:=e2.size
   refine q ?_
   replace he:=(he.then e2).then e3
   exact fin2 rfl rfl ⟨_,rfl,RepArr.num (kk:=9) hks hk (by decide) (by decide) rfl (show _≤g by omega) hG (by simp) (by rw[List.map_map];exact List.map_congr_left fun x hx=>by simp only[Function.comp];rw[w_i64_i8,w_sm (hS x hx) ((hN x hx).2.2.2.2.2.2.2.2)];rfl),hR,he⟩
  ·obtain⟨hk,hb⟩:=hEl.flat (fun x b hp=>hp.b56)
   have hb2:body=ks.map fun x=>UInt8.ofNat x.num:=by rw[hb,← List.flatMap_map (f:=V.num) (g:=fun m=>bigB m 1),flat_one,List.map_map];rfl
   subst hb2;clear hb
   have hN:∀x∈ks,NumOK x.kind x.num:=fun x hx=>(hP x hx).1.1
   have hpb:0<(ks.map fun x=>UInt8.ofNat x.num).length:=by rw[List.length_map];exact hpos
   refine q ?_
   replace hD:=hD.mono hE
   refine WL.q rfl (r_load Fb.h rfl (Ext.refl _) (hD.at hidx rfl)) ?_
   refine WL.nil ?_
   refine gq 108 rfl ?_
   replace he:=he.then hE
   have hs2:=he.size
   refine al ?_
   rintro _ w2 ⟨rfl,hb2,e2⟩
   refine q ?_
   replace hR:=(hR.mono hE).mono e2
   refine cl rfl (arrBool_ok hb2 (by omega) hpb (by rw[List.length_map];exact harr) hR) ?_
   rintro v3 w3 ⟨rfl,⟨g,hg,hb2,hG⟩,hR,e3⟩
   have hq:=e2.size
   refine q ?_
   replace he:=(he.then e2).then e3
   exact fin2 rfl rfl ⟨_,rfl,RepArr.num (kk:=1) hks hk (by decide) (by decide) rfl (show _≤g by omega) hG (by simp) (by rw[List.map_map];exact List.map_congr_left fun x hx=>by have:=(hN x hx).1 (hk x hx);simp only[Function.comp];rw[small_of (by omega),nz_iff];rfl),hR,he⟩
  ·obtain⟨hk,hb⟩:=hEl.flat (fun x b hp=>hp.uuidF)
   have hb2:body=(ks.map V.text).flatten:=by rw[hb,List.flatMap_def]
   subst hb2;clear hb
   have hts:∀t∈ks.map V.text,t.length=16:=by intro t ht;obtain⟨x,hx,rfl⟩:=List.mem_map.1 ht;exact(hP x hx).1.2.2.1 (hk x hx)
   have hpb:0<(ks.map V.text).length:=by rw[List.length_map];exact hpos
   refine q ?_
   replace hD:=hD.mono hE
   refine WL.q rfl (r_load Fb.h rfl (Ext.refl _) (hD.at hidx rfl)) ?_
   refine WL.nil ?_
   refine gq 165 rfl ?_
   replace he:=he.then hE
   have hs2:=he.size
   refine al ?_
   rintro _ w2 ⟨rfl,hb2,e2⟩
   refine q ?_
   replace hR:=(hR.mono hE).mono e2
   refine cl rfl (arrUUID_ok hts hb2 (by omega) hpb (by rw[List.length_map];exact harr) hR) ?_
   rintro v3 w3 ⟨rfl,⟨g,hg,hb2,hG⟩,hR,e3⟩
   have hq:=e2.size
   refine q ?_
   replace he:=(he.then e2).then e3
   exact fin2 rfl rfl ⟨_,rfl,RepArr.other (kk:=17) hks hk (by decide) rfl (show _≤g by omega) hG (by simp) (by rw[List.map_map,← List.flatMap_def];refine flat_eq ks fun x hx=>?_;unfold elemC;rw[if_neg (by rw[hk x hx];decide),if_pos (hk x hx)];rfl),hR,he⟩
  ·have hF:=hEl.flat (Q:=fun x=>x.kind=18∧x.text.length<256^1) (f:=fun x=>txt 1 x.text) (fun x b hp=>by obtain⟨h1,h2,h3⟩:=hp.fixT (k:=18) (s:=1) rfl;exact⟨⟨h1,h3⟩,h2⟩)
   have hk:=fun x hx=>(hF.1 x hx).1
   have hb2:body=(ks.map V.text).flatMap (txt 1):=by rw[hF.2,List.flatMap_map]
   subst hb2
   have hts:∀t∈ks.map V.text,t≠[]∧t.length<256:=by intro t ht;obtain⟨x,hx,rfl⟩:=List.mem_map.1 ht;exact⟨(hP x hx).2 (by have:=hk x hx;omega),by have:=(hF.1 x hx).2;simpa using this⟩
   have hpb:0<(ks.map V.text).length:=by rw[List.length_map];exact hpos
   refine q ?_
   replace hD:=hD.mono hE
   refine WL.q rfl (r_load Fb.h rfl (Ext.refl _) (hD.at hidx rfl)) ?_
   refine WL.nil ?_
   refine gq 150 rfl ?_
   replace he:=he.then hE
   have hs2:=he.size
   refine al ?_
   rintro _ w2 ⟨rfl,hb2,e2⟩
   refine q ?_
   replace hR:=(hR.mono hE).mono e2
   refine cl rfl (arrBin1_ok hts hb2 (by omega) hpb (by rw[List.length_map];exact harr) hR) ?_
   exact zR18_3
  ·have hF:=hEl.flat (Q:=fun x=>x.kind=18∧x.text.length<256^4) (f:=fun x=>txt 4 x.text) (fun x b hp=>by obtain⟨h1,h2,h3⟩:=hp.fixT (k:=18) (s:=4) rfl;exact⟨⟨h1,h3⟩,h2⟩)
   have hk:=fun x hx=>(hF.1 x hx).1
   have hb2:body=(ks.map V.text).flatMap (txt 4):=by rw[hF.2,List.flatMap_map]
   subst hb2
   have hts:∀t∈ks.map V.text,t≠[]∧t.length<4294967296:=by intro t ht;obtain⟨x,hx,rfl⟩:=List.mem_map.1 ht;exact⟨(hP x hx).2 (by have:=hk x hx;omega),by have:=(hF.1 x hx).2;simpa using this⟩
   have hpb:0<(ks.map V.text).length:=by rw[List.length_map];exact hpos
   refine q ?_
   replace hD:=hD.mono hE
   refine WL.q rfl (r_load Fb.h rfl (Ext.refl _) (hD.at hidx rfl)) ?_
   refine WL.nil ?_
   refine gq 153 rfl ?_
   replace he:=he.then hE
   have hs2:=he.size
   refine al ?_
   rintro _ w2 ⟨rfl,hb2,e2⟩
   refine q ?_
   replace hR:=(hR.mono hE).mono e2
   refine cl rfl (arrBin4_ok hts hb2 (by omega) hpb (by rw[List.length_map];exact harr) hR) ?_
   exact zR18_3
  ·have hF:=hEl.flat (Q:=fun x=>x.kind=19∧x.text.length<256^1) (f:=fun x=>txt 1 x.text) (fun x b hp=>by obtain⟨h1,h2,h3⟩:=hp.fixT (k:=19) (s:=1) rfl;exact⟨⟨h1,h3⟩,h2⟩)
   have hk:=fun x hx=>(hF.1 x hx).1
   have hb2:body=(ks.map V.text).flatMap (txt 1):=by rw[hF.2,List.flatMap_map]
   subst hb2
   have hts:∀t∈ks.map V.text,t≠[]∧t.length<256:=by intro t ht;obtain⟨x,hx,rfl⟩:=List.mem_map.1 ht;exact⟨(hP x hx).2 (by have:=hk x hx;omega),by have:=(hF.1 x hx).2;simpa using this⟩
   have hpb:0<(ks.map V.text).length:=by rw[List.length_map];exact hpos
   refine q ?_
   replace hD:=hD.mono hE
   refine WL.q rfl (r_load Fb.h rfl (Ext.refl _) (hD.at hidx rfl)) ?_
   refine WL.nil ?_
   refine gq 126 rfl ?_
   replace he:=he.then hE
   have hs2:=he.size
   refine al ?_
   rintro _ w2 ⟨rfl,hb2,e2⟩
   refine q ?_
   replace hR:=(hR.mono hE).mono e2
   refine cl rfl (arrStr1_ok hts hb2 (by omega) hpb (by rw[List.length_map];exact harr) hR) ?_
   exact zR18_1
  ·have hF:=hEl.flat (Q:=fun x=>x.kind=19∧x.text.length<256^4) (f:=fun x=>txt 4 x.text) (fun x b hp=>by obtain⟨h1,h2,h3⟩:=hp.fixT (k:=19) (s:=4) rfl;exact⟨⟨h1,h3⟩,h2⟩)
   have hk:=fun x hx=>(hF.1 x hx).1
   have hb2:body=(ks.map V.text).flatMap (txt 4):=by rw[hF.2,List.flatMap_map]
   subst hb2
   have hts:∀t∈ks.map V.text,t≠[]∧t.length<4294967296:=by intro t ht;obtain⟨x,hx,rfl⟩:=List.mem_map.1 ht;exact⟨(hP x hx).2 (by have:=hk x hx;omega),by have:=(hF.1 x hx).2;simpa using this⟩
   have hpb:0<(ks.map V.text).length:=by rw[List.length_map];exact hpos
   refine q ?_
   replace hD:=hD.mono hE
   refine WL.q rfl (r_load Fb.h rfl (Ext.refl _) (hD.at hidx rfl)) ?_
   refine WL.nil ?_
   refine gq 129 rfl ?_
   replace he:=he.then hE
   have hs2:=he.size
   refine al ?_
   rintro _ w2 ⟨rfl,hb2,e2⟩
   refine q ?_
   replace hR:=(hR.mono hE).mono e2
   refine cl rfl (arrStr4_ok hts hb2 (by omega) hpb (by rw[List.length_map];exact harr) hR) ?_
   exact zR18_1
  ·have hF:=hEl.flat (Q:=fun x=>x.kind=20∧x.text.length<256^1) (f:=fun x=>txt 1 x.text) (fun x b hp=>by obtain⟨h1,h2,h3⟩:=hp.fixT (k:=20) (s:=1) rfl;exact⟨⟨h1,h3⟩,h2⟩)
   have hk:=fun x hx=>(hF.1 x hx).1
   have hb2:body=(ks.map V.text).flatMap (txt 1):=by rw[hF.2,List.flatMap_map]
   subst hb2
   have hts:∀t∈ks.map V.text,t≠[]∧t.length<256:=by intro t ht;obtain⟨x,hx,rfl⟩:=List.mem_map.1 ht;exact⟨(hP x hx).2 (by have:=hk x hx;omega),by have:=(hF.1 x hx).2;simpa using this⟩
   have hpb:0<(ks.map V.text).length:=by rw[List.length_map];exact hpos
   refine q ?_
   replace hD:=hD.mono hE
   refine WL.q rfl (r_load Fb.h rfl (Ext.refl _) (hD.at hidx rfl)) ?_
   refine WL.nil ?_
   refine gq 138 rfl ?_
   replace he:=he.then hE
   have hs2:=he.size
   refine al ?_
   rintro _ w2 ⟨rfl,hb2,e2⟩
   refine q ?_
   replace hR:=(hR.mono hE).mono e2
   refine cl rfl (arrSym1_ok hts hb2 (by omega) hpb (by rw[List.length_map];exact harr) hR) ?_
   exact zR18_2
  ·have hF:=hEl.flat (Q:=fun x=>x.kind=20∧x.text.length<256^4) (f:=fun x=>txt 4 x.text) (fun x b hp=>by obtain⟨h1,h2,h3⟩:=hp.fixT (k:=20) (s:=4) rfl;exact⟨⟨h1,h3⟩,h2⟩)
   have hk:=fun x hx=>(hF.1 x hx).1
   have hb2:body=(ks.map V.text).flatMap (txt 4):=by rw[hF.2,List.flatMap_map]
   subst hb2
   have hts:∀t∈ks.map V.text,t≠[]∧t.length<4294967296:=by intro t ht;obtain⟨x,hx,rfl⟩:=List.mem_map.1 ht;exact⟨(hP x hx).2 (by have:=hk x hx;omega),by have:=(hF.1 x hx).2;simpa using this⟩
   have hpb:0<(ks.map V.text).length:=by rw[List.length_map];exact hpos
   refine q ?_
   replace hD:=hD.mono hE
   refine WL.q rfl (r_load Fb.h rfl (Ext.refl _) (hD.at hidx rfl)) ?_
   refine WL.nil ?_
   refine gq 141 rfl ?_
   replace he:=he.then hE
   have hs2:=he.size
   refine al ?_
   rintro _ w2 ⟨rfl,hb2,e2⟩
   refine q ?_
   replace hR:=(hR.mono hE).mono e2
   refine cl rfl (arrSym4_ok hts hb2 (by omega) hpb (by rw[List.length_map];exact harr) hR) ?_
   exact zR18_2
end Go.Proofs.LL
