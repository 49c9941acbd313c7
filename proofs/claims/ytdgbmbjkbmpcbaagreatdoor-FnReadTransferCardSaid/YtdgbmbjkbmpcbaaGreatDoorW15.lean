/- Contracts of functions and own laws. Conditions: those that each theorem states. -/
import Derived.Test.YtdgbmbjkbmpcbaaGreatDoorW14
set_option linter.all false
set_option autoImplicit true
set_option relaxedAutoImplicit true
set_option maxRecDepth 20000
namespace Go.Proofs.LL
open Go Go.Proofs Go.RowKit
set_option maxHeartbeats 4000000
attribute [local irreducible] ar WL WC cq WT WX
theorem CR{A:Prop}(h:A:=by
 have he:am (fun k=>k≠rb∧k≠ab) w w:=am.refl w
 refine q ?_
 refine Hm rfl (aG hh hR) fun w1 hR e1=>?_
 refine q ?_
 refine Hl rfl (cS hR) fun w2 e2=>?_
 replace hab:=(hab.m e1).m e2
 refine q ?_
 refine Hq (bu Fo.h rfl rfl rfl)<|q ?_
 replace he:=(he.t e1).t e2
 have hs3:=he.s
 refine WL.l rfl (cF (n:=ts.length) Fo.h rfl rfl rfl rfl rfl (by omega) (by simp only[maxLen];omega)) ?_
 rintro v3 w3 ⟨rfl,hK,e3⟩
 refine q ?_
 replace hR:=(hR.m e2).m e3
 refine Hm rfl (aD hR) fun w4 hR e4=>?_
 refine q ?_
 replace hab:=(hab.m e3).m e4
 replace hK:=hK.m e4
 replace he:=(he.t e3).t e4
 refine WC.loop2 (ι:=Nat) [(0,_),(1,_),(4,_),(7,_),(89,_)] (fun i=>[(90,.int .i64 (i:Int))]) (fun i wi=>aH wi w2.heap.size (dr (ts.map str) (.string ⟨#[]⟩) i)∧Rd wi rb ((ts.drop i).flatMap (txt 4)++r)∧am (fun k=>k≠w2.heap.size∧k≠rb) w4 wi) (fun i=>ts.length-i) 0 sb sb (⟨by rw[bL,List.length_map];exact hK,hR,am.refl _⟩) ?_
 intro i wi1 hh;obtain⟨hK,hR,hE⟩:=hh
 rcases Nat.lt_or_ge i ts.length with hi|hi
 ·rw[List.drop_eq_getElem_cons hi,List.flatMap_cons,List.append_assoc]at hR
  simp only[txt,aI,List.cons_append,List.nil_append,List.append_assoc]at hR
  have hlt:=(hts _ (List.getElem_mem hi)).2
  refine q ?_
  refine cl rfl (cL (l:=[_,_,_,_]) hR rfl) ?_
  rintro v5 w5 ⟨v,rfl,hX,hR,e5⟩
  refine q ?_
  refine Hl rfl (dj (r:=[]) hX) fun w6 e6=>?_
  refine q ?_
  replace hR:=hR.m e6
  refine cl rfl (dC hR (by rw[uw hlt,iq (by omega)])) ?_
  rintro v7 w7 ⟨v,rfl,hY,hR,e7⟩
  refine q ?_
  refine Hq (gp Fb.h rfl Xr hY)<|q ?_
  replace hK:=((hK.m e5).m e6).m e7
  refine WL.l0 (lO Fo.h rfl (by omega) rfl rfl hK (by simp[hi])) ?_
  rintro _ w8 ⟨hK,e8⟩
  refine q ?_
  replace hR:=hR.m e8
  exact⟨i+1,sb,sb,⟨hK,hR,(((((hE.t e5).t e6).t e7).t e8))⟩,by omega⟩
 ·refine q ?_
  replace hab:=hab.m hE
  refine Hp rfl rfl hab fun w5 hab e5 hz5=>?_
  refine q ?_
  replace hK:=hK.m e5
  rw[fK _ _ (by simpa using hi)]at hK
  replace hR:=hR.m e5
  rw[List.drop_eq_nil_of_le hi]at hR
  replace he:=(he.t hE).t e5
  exact aw rfl ⟨rfl,⟨_,hs3,hab,hK⟩,by simpa using hR,he⟩):A:=h
theorem CS{A:Prop}(h:A:=by
 have he:am (fun k=>k≠rb∧k≠ab) w w:=am.refl w
 refine q ?_
 refine Hm rfl (aG hh hR) fun w1 hR e1=>?_
 refine q ?_
 refine Hl rfl (cS hR) fun w2 e2=>?_
 replace hab:=(hab.m e1).m e2
 refine q ?_
 refine Hq (bu Fo.h rfl rfl rfl)<|q ?_
 replace he:=(he.t e1).t e2
 have hs3:=he.s
 refine WL.l rfl (cF (n:=ts.length) Fo.h rfl rfl rfl rfl rfl (by omega) (by simp only[maxLen];omega)) ?_
 rintro v3 w3 ⟨rfl,hK,e3⟩
 refine q ?_
 replace hR:=(hR.m e2).m e3
 refine Hm rfl (aD hR) fun w4 hR e4=>?_
 refine q ?_
 replace hab:=(hab.m e3).m e4
 replace hK:=hK.m e4
 replace he:=(he.t e3).t e4
 refine WC.loop2 (ι:=Nat) [(0,_),(1,_),(4,_),(7,_),(58,_)] (fun i=>[(59,.int .i64 (i:Int))]) (fun i wi=>aH wi w2.heap.size (dr (ts.map str) (.string ⟨#[]⟩) i)∧Rd wi rb ((ts.drop i).flatMap (txt 1)++r)∧am (fun k=>k≠w2.heap.size∧k≠rb) w4 wi) (fun i=>ts.length-i) 0 sb sb (⟨by rw[bL,List.length_map];exact hK,hR,am.refl _⟩) ?_
 intro i wi1 hh;obtain⟨hK,hR,hE⟩:=hh
 rcases Nat.lt_or_ge i ts.length with hi|hi
 ·rw[List.drop_eq_getElem_cons hi,List.flatMap_cons,List.append_assoc]at hR
  simp only[txt,aI,List.cons_append,List.nil_append,List.append_assoc]at hR
  have hlt:=(hts _ (List.getElem_mem hi)).2
  refine q ?_
  refine Hm rfl (cB hR) fun w5 hR e5=>?_
  refine q ?_
  refine cl rfl (dC hR (by rw[E4 hlt,iq (by omega)])) ?_
  rintro v6 w6 ⟨v,rfl,hY,hR,e6⟩
  refine q ?_
  refine Hq (gp Fb.h rfl Xr hY)<|q ?_
  replace hK:=(hK.m e5).m e6
  refine WL.l0 (lO Fo.h rfl (by omega) rfl rfl hK (by simp[hi])) ?_
  rintro _ w7 ⟨hK,e7⟩
  refine q ?_
  replace hR:=hR.m e7
  exact⟨i+1,sb,sb,⟨hK,hR,((((hE.t e5).t e6).t e7))⟩,by omega⟩
 ·refine q ?_
  replace hab:=hab.m hE
  refine Hp rfl rfl hab fun w5 hab e5 hz5=>?_
  refine q ?_
  replace hK:=hK.m e5
  rw[fK _ _ (by simpa using hi)]at hK
  replace hR:=hR.m e5
  rw[List.drop_eq_nil_of_le hi]at hR
  replace he:=(he.t hE).t e5
  exact aw rfl ⟨rfl,⟨_,hs3,hab,hK⟩,by simpa using hR,he⟩):A:=h
theorem CT{A:Prop}(h:A:=by
 refine q ?_
 replace hab:=hab.m hE
 refine Hp rfl rfl hab fun w5 hab e5 hz5=>?_
 refine q ?_
 have h0:ts.length-i=0:=by omega
 replace hK:=hK.m e5
 rw[h0,List.replicate_zero,List.append_nil]at hK
 replace hR:=hR.m e5
 rw[List.drop_eq_nil_of_le hi]at hR
 replace hV:=hV.m e5
 rw[List.take_of_length_le hi]at hV
 replace he:=(he.t hE).t e5
 exact aw rfl ⟨rfl,⟨_,vs,hs3,hab,hK,hV.k (fun b _ h=>Nat.le_trans (Nat.le_trans hs3 (Nat.le_of_lt hx3)) h)⟩,by simpa using hR,he⟩):A:=h
theorem vl(k:Nat)(t:List UInt8):(txt k t).length=k+t.length:=by simp[txt,bh]
theorem is(k:Nat)(hk:0<k):∀(ts:List (List UInt8)),(∀t∈ts,t≠[])→2 * ts.length≤(ts.flatMap (txt k)).length
 |[],_=>by simp
 |a::r,h=>by
  have ih:=is k hk r (fun x hx=>h x (by simp[hx]))
  have ha:0<a.length:=List.length_pos_iff.2 (h a (by simp))
  rw[List.flatMap_cons,List.length_append,vl,List.length_cons]
  omega
theorem E4(h:n<256):(UInt8.ofNat (n>>>(8 * 0))).toNat=n:=by
 simp;omega
theorem uw(h:n<4294967296):be [UInt8.ofNat (n>>>(8 * 3)),UInt8.ofNat (n>>>(8 * 2)),UInt8.ofNat (n>>>(8 * 1)),UInt8.ofNat (n>>>(8 * 0))]=n:=by
 have e:be (aI n 4)=n%4294967296:=ew n 4
 rw[Nat.mod_eq_of_lt h]at e
 exact e
theorem iq{n:Nat}(h:n<4611686018427387904):IntKind.i64.wrap (n:Int)=n:=dM (by omega) (by omega)
def Bs(A:Nat→Prop)(w:World):List Value→List (List UInt8)→Prop
 |[],[]=>True
 |v::vs,t::ts=>bT A w v t∧Bs A w vs ts
 |_,_=>False
theorem Bs.m:∀ {vs:List Value} {ts:List (List UInt8)} (_:Bs A w vs ts) (_:am B w w') (_:∀b,b<w.heap.size→A b→B b:=by(intro b hb1 hb2;first|exact trivial|exact hb2|((try dsimp only[Nb]at hb2⊢);omega))),Bs A w' vs ts
 |[],[],_,_,_=>trivial
 |v::vs,t::ts,h,e,hAB=>⟨h.1.m e hAB,h.2.m e hAB⟩
 |[],_::_,h,_,_=>h.elim
 |_::_,[],h,_,_=>h.elim
theorem Bs.k{B:Nat→Prop}:∀ {vs:List Value} {ts:List (List UInt8)} (_:Bs A w vs ts) (_:∀b,b<w.heap.size→A b→B b),Bs B w vs ts
 |[],[],_,_=>trivial
 |v::vs,t::ts,h,hAB=>⟨h.1.k hAB,h.2.k hAB⟩
 |[],_::_,h,_=>h.elim
 |_::_,[],h,_=>h.elim
theorem Bs.length:∀ {vs:List Value} {ts:List (List UInt8)},Bs A w vs ts→vs.length=ts.length
 |[],[],_=>rfl
 |v::vs,t::ts,h=>by simp[h.2.length]
 |[],_::_,h=>h.elim
 |_::_,[],h=>h.elim
theorem Bs.snoc:∀ {vs:List Value} {ts:List (List UInt8)} {v:Value} {t:List UInt8},Bs A w vs ts→bT A w v t→Bs A w (vs++[v]) (ts++[t])
 |[],[],_,_,_,h=>⟨h,trivial⟩
 |_::_,_::_,_,_,h,h'=>⟨h.1,h.2.snoc h'⟩
 |[],_::_,_,_,h,_=>h.elim
 |_::_,[],_,_,h,_=>h.elim
theorem t8{r:List UInt8}{ts:List (List UInt8)}(hts:∀t∈ts,t≠[]∧t.length<256)(hab:aH w ab [.slice none 0 0])(hne:rb<ab)(hpos:0<ts.length)(hh:fg hd ts.length (0xa1::ts.flatMap (txt 1)))(hR:Rd w rb (hd++((0xa1::ts.flatMap (txt 1))++r))):
  ah TP 124 [.pointer (some ⟨ab,0,none⟩),.pointer (some ⟨rb,0,none⟩)] w fun u w'=>u= .nilIface∧(∃g,w.heap.size≤g∧aH w' ab [.slice (some ⟨g,0,none⟩) ts.length ts.length]∧aH w' g (ts.map str))∧Rd w' rb r∧am (fun k=>k≠rb∧k≠ab) w w':=by
 have hle:=hh.le
 have:=hab.lt
 have hge:=is 1 (by decide) ts (fun t h=>(hts t h).1)
 have hlr:=hR.len
 have hln:((0xa1::ts.flatMap (txt 1))++r).length=(ts.flatMap (txt 1)).length+r.length+1:=by simp only[List.length_append,List.length_cons];omega
 rw[List.length_append]at hlr
 refine aR Tryz.func124 ?_
 exact CS
theorem ua{r:List UInt8}{ts:List (List UInt8)}(hts:∀t∈ts,t≠[]∧t.length<4294967296)(hab:aH w ab [.slice none 0 0])(hne:rb<ab)(hpos:0<ts.length)(hh:fg hd ts.length (0xb1::ts.flatMap (txt 4)))(hR:Rd w rb (hd++((0xb1::ts.flatMap (txt 4))++r))):
  ah TP 124 [.pointer (some ⟨ab,0,none⟩),.pointer (some ⟨rb,0,none⟩)] w fun u w'=>u= .nilIface∧(∃g,w.heap.size≤g∧aH w' ab [.slice (some ⟨g,0,none⟩) ts.length ts.length]∧aH w' g (ts.map str))∧Rd w' rb r∧am (fun k=>k≠rb∧k≠ab) w w':=by
 have hle:=hh.le
 have:=hab.lt
 have hge:=is 4 (by decide) ts (fun t h=>(hts t h).1)
 have hlr:=hR.len
 have hln:((0xb1::ts.flatMap (txt 4))++r).length=(ts.flatMap (txt 4)).length+r.length+1:=by simp only[List.length_append,List.length_cons];omega
 rw[List.length_append]at hlr
 refine aR Tryz.func124 ?_
 exact CR
theorem ub{r:List UInt8}{ts:List (List UInt8)}(hts:∀t∈ts,t≠[]∧t.length<256)(hab:aH w ab [.slice none 0 0])(hne:rb<ab)(hpos:0<ts.length)(hh:fg hd ts.length (0xa3::ts.flatMap (txt 1)))(hR:Rd w rb (hd++((0xa3::ts.flatMap (txt 1))++r))):
  ah TP 125 [.pointer (some ⟨ab,0,none⟩),.pointer (some ⟨rb,0,none⟩)] w fun u w'=>u= .nilIface∧(∃g,w.heap.size≤g∧aH w' ab [.slice (some ⟨g,0,none⟩) ts.length ts.length]∧aH w' g (ts.map str))∧Rd w' rb r∧am (fun k=>k≠rb∧k≠ab) w w':=by
 have hle:=hh.le
 have:=hab.lt
 have hge:=is 1 (by decide) ts (fun t h=>(hts t h).1)
 have hlr:=hR.len
 have hln:((0xa3::ts.flatMap (txt 1))++r).length=(ts.flatMap (txt 1)).length+r.length+1:=by simp only[List.length_append,List.length_cons];omega
 rw[List.length_append]at hlr
 refine aR Tryz.func125 ?_
 exact CS
theorem uc{r:List UInt8}{ts:List (List UInt8)}(hts:∀t∈ts,t≠[]∧t.length<4294967296)(hab:aH w ab [.slice none 0 0])(hne:rb<ab)(hpos:0<ts.length)(hh:fg hd ts.length (0xb3::ts.flatMap (txt 4)))(hR:Rd w rb (hd++((0xb3::ts.flatMap (txt 4))++r))):
  ah TP 125 [.pointer (some ⟨ab,0,none⟩),.pointer (some ⟨rb,0,none⟩)] w fun u w'=>u= .nilIface∧(∃g,w.heap.size≤g∧aH w' ab [.slice (some ⟨g,0,none⟩) ts.length ts.length]∧aH w' g (ts.map str))∧Rd w' rb r∧am (fun k=>k≠rb∧k≠ab) w w':=by
 have hle:=hh.le
 have:=hab.lt
 have hge:=is 4 (by decide) ts (fun t h=>(hts t h).1)
 have hlr:=hR.len
 have hln:((0xb3::ts.flatMap (txt 4))++r).length=(ts.flatMap (txt 4)).length+r.length+1:=by simp only[List.length_append,List.length_cons];omega
 rw[List.length_append]at hlr
 refine aR Tryz.func125 ?_
 exact CR
theorem tX{r:List UInt8}{ts:List (List UInt8)}(hts:∀t∈ts,t≠[]∧t.length<256)(hab:aH w ab [.slice none 0 0])(hne:rb<ab)(hpos:0<ts.length)(hh:fg hd ts.length (0xa0::ts.flatMap (txt 1)))(hR:Rd w rb (hd++((0xa0::ts.flatMap (txt 1))++r))):
  ah TP 126 [.pointer (some ⟨ab,0,none⟩),.pointer (some ⟨rb,0,none⟩)] w fun u w'=>u= .nilIface∧(∃g vs,w.heap.size≤g∧aH w' ab [.slice (some ⟨g,0,none⟩) ts.length ts.length]∧aH w' g vs∧Bs (fun b=>w.heap.size≤b) w' vs ts)∧Rd w' rb r∧am (fun k=>k≠rb∧k≠ab) w w':=by
 have hle:=hh.le
 have hr0:=hab.lt
 have hge:=is 1 (by decide) ts (fun t h=>(hts t h).1)
 have hlr:=hR.len
 have hln:((0xa0::ts.flatMap (txt 1))++r).length=(ts.flatMap (txt 1)).length+r.length+1:=by simp only[List.length_append,List.length_cons];omega
 rw[List.length_append]at hlr
 refine aR Tryz.func126 ?_
 have he:am (fun k=>k≠rb∧k≠ab) w w:=am.refl w
 refine q ?_
 refine Hm rfl (aG hh hR) fun w1 hR e1=>?_
 refine q ?_
 refine Hl rfl (cS hR) fun w2 e2=>?_
 replace hab:=(hab.m e1).m e2
 refine q ?_
 refine Hq (bu Fo.h rfl rfl rfl)<|q ?_
 replace he:=(he.t e1).t e2
 have hs3:=he.s
 refine WL.l rfl (cF (n:=ts.length) Fo.h rfl rfl rfl rfl rfl (by omega) (by simp only[maxLen];omega)) ?_
 rintro v3 w3 ⟨rfl,hK,e3⟩
 have hx3:=hK.lt
 refine q ?_
 replace hR:=(hR.m e2).m e3
 refine Hm rfl (aD hR) fun w4 hR e4=>?_
 refine q ?_
 replace hab:=(hab.m e3).m e4
 replace hK:=hK.m e4
 replace he:=(he.t e3).t e4
 refine WC.loop2 (ι:=Nat) [(0,_),(1,_),(4,_),(7,_),(58,_)] (fun i=>[(59,.int .i64 (i:Int))]) (fun i wi=>(∃vs,aH wi w2.heap.size (vs++List.replicate (ts.length-i) (.slice none 0 0))∧Bs (fun b=>w3.heap.size≤b) wi vs (ts.take i))∧Rd wi rb ((ts.drop i).flatMap (txt 1)++r)∧am (fun k=>k<w3.heap.size∧k≠w2.heap.size∧k≠rb) w4 wi) (fun i=>ts.length-i) 0 sb sb (⟨⟨[],hK,trivial⟩,hR,am.refl _⟩) ?_
 intro i wi1 hh;obtain⟨⟨vs,hK,hV⟩,hR,hE⟩:=hh
 have hvl:=hV.length
 have hwi:=Nat.le_trans e4.s hE.s
 rcases Nat.lt_or_ge i ts.length with hi|hi
 ·rw[List.drop_eq_getElem_cons hi,List.flatMap_cons,List.append_assoc]at hR
  simp only[txt,aI,List.cons_append,List.nil_append,List.append_assoc]at hR
  have hlt:=(hts _ (List.getElem_mem hi)).2
  rw[List.length_take,Nat.min_eq_left (Nat.le_of_lt hi)]at hvl
  have hrp:List.replicate (ts.length-i) (Value.slice none 0 0)= .slice none 0 0::List.replicate (ts.length-(i+1)) (.slice none 0 0):=by
   rw[show ts.length-i=(ts.length-(i+1))+1 by omega,List.replicate_succ]
  rw[hrp]at hK
  have htk:ts.take (i+1)=ts.take i++[ts[i]]:=by rw[List.take_add_one,List.getElem?_eq_getElem hi];rfl
  refine q ?_
  refine Hm rfl (cB hR) fun w5 hR e5=>?_
  refine q ?_
  refine cl rfl (dC hR (by rw[E4 hlt,iq (by omega)])) ?_
  rintro v6 w6 ⟨v,rfl,hY,hR,e6⟩
  have hB0:w3.heap.size≤w6.heap.size:=Nat.le_trans (Nat.le_trans (Nat.le_trans e4.s hE.s) e5.s) e6.s
  refine q ?_
  refine WL.l rfl (bz Fo.h rfl rfl (aT.nil _ 5 1 _) (Src.isB Fb.h hY) (Nat.le_refl _) (by simp only[maxLen];omega) (by omega)) ?_
  rintro v7 w7 ⟨hO,e7⟩
  obtain⟨po1,co1,rfl,hco1,hfo⟩:=hO.form
  have hZ:=aT.toB (A:=fun b=>w3.heap.size≤b) hO (fun b h _=>Nat.le_trans hB0 h)
  refine q ?_
  replace hK:=((hK.m e5).m e6).m e7
  refine WL.l0 (ce Fo.h rfl rfl rfl hK (by simp[Nat.blt_eq];omega)) ?_
  rintro _ w8 ⟨hK,e8,hz8⟩
  refine q ?_
  rw[show 0+i=vs.length by omega,List.set_append_right _ _ (Nat.le_refl _),Nat.sub_self,List.set_cons_zero,← List.singleton_append,← List.append_assoc]at hK
  replace hV:=(((hV.m e5).m e6).m e7).m e8
  replace hZ:=hZ.m e8
  have hV2:=hV.snoc hZ
  rw[← htk]at hV2
  replace hR:=(hR.m e7).m e8
  exact⟨i+1,sb,sb,⟨⟨_,hK,hV2⟩,hR,(((((hE.t e5).t e6).t e7).t e8))⟩,by omega⟩
 ·exact CT
theorem tY{r:List UInt8}{ts:List (List UInt8)}(hts:∀t∈ts,t≠[]∧t.length<4294967296)(hab:aH w ab [.slice none 0 0])(hne:rb<ab)(hpos:0<ts.length)(hh:fg hd ts.length (0xb0::ts.flatMap (txt 4)))(hR:Rd w rb (hd++((0xb0::ts.flatMap (txt 4))++r))):
  ah TP 126 [.pointer (some ⟨ab,0,none⟩),.pointer (some ⟨rb,0,none⟩)] w fun u w'=>u= .nilIface∧(∃g vs,w.heap.size≤g∧aH w' ab [.slice (some ⟨g,0,none⟩) ts.length ts.length]∧aH w' g vs∧Bs (fun b=>w.heap.size≤b) w' vs ts)∧Rd w' rb r∧am (fun k=>k≠rb∧k≠ab) w w':=by
 have hle:=hh.le
 have hr0:=hab.lt
 have hge:=is 4 (by decide) ts (fun t h=>(hts t h).1)
 have hlr:=hR.len
 have hln:((0xb0::ts.flatMap (txt 4))++r).length=(ts.flatMap (txt 4)).length+r.length+1:=by simp only[List.length_append,List.length_cons];omega
 rw[List.length_append]at hlr
 refine aR Tryz.func126 ?_
 have he:am (fun k=>k≠rb∧k≠ab) w w:=am.refl w
 refine q ?_
 refine Hm rfl (aG hh hR) fun w1 hR e1=>?_
 refine q ?_
 refine Hl rfl (cS hR) fun w2 e2=>?_
 replace hab:=(hab.m e1).m e2
 refine q ?_
 refine Hq (bu Fo.h rfl rfl rfl)<|q ?_
 replace he:=(he.t e1).t e2
 have hs3:=he.s
 refine WL.l rfl (cF (n:=ts.length) Fo.h rfl rfl rfl rfl rfl (by omega) (by simp only[maxLen];omega)) ?_
 rintro v3 w3 ⟨rfl,hK,e3⟩
 have hx3:=hK.lt
 refine q ?_
 replace hR:=(hR.m e2).m e3
 refine Hm rfl (aD hR) fun w4 hR e4=>?_
 refine q ?_
 replace hab:=(hab.m e3).m e4
 replace hK:=hK.m e4
 replace he:=(he.t e3).t e4
 refine WC.loop2 (ι:=Nat) [(0,_),(1,_),(4,_),(7,_),(89,_)] (fun i=>[(90,.int .i64 (i:Int))]) (fun i wi=>(∃vs,aH wi w2.heap.size (vs++List.replicate (ts.length-i) (.slice none 0 0))∧Bs (fun b=>w3.heap.size≤b) wi vs (ts.take i))∧Rd wi rb ((ts.drop i).flatMap (txt 4)++r)∧am (fun k=>k<w3.heap.size∧k≠w2.heap.size∧k≠rb) w4 wi) (fun i=>ts.length-i) 0 sb sb (⟨⟨[],hK,trivial⟩,hR,am.refl _⟩) ?_
 intro i wi1 hh;obtain⟨⟨vs,hK,hV⟩,hR,hE⟩:=hh
 have hvl:=hV.length
 have hwi:=Nat.le_trans e4.s hE.s
 rcases Nat.lt_or_ge i ts.length with hi|hi
 ·rw[List.drop_eq_getElem_cons hi,List.flatMap_cons,List.append_assoc]at hR
  simp only[txt,aI,List.cons_append,List.nil_append,List.append_assoc]at hR
  have hlt:=(hts _ (List.getElem_mem hi)).2
  rw[List.length_take,Nat.min_eq_left (Nat.le_of_lt hi)]at hvl
  have hrp:List.replicate (ts.length-i) (Value.slice none 0 0)= .slice none 0 0::List.replicate (ts.length-(i+1)) (.slice none 0 0):=by
   rw[show ts.length-i=(ts.length-(i+1))+1 by omega,List.replicate_succ]
  rw[hrp]at hK
  have htk:ts.take (i+1)=ts.take i++[ts[i]]:=by rw[List.take_add_one,List.getElem?_eq_getElem hi];rfl
  refine q ?_
  refine cl rfl (cL (l:=[_,_,_,_]) hR rfl) ?_
  rintro v5 w5 ⟨v,rfl,hX,hR,e5⟩
  refine q ?_
  refine Hl rfl (dj (r:=[]) hX) fun w6 e6=>?_
  refine q ?_
  replace hR:=hR.m e6
  refine cl rfl (dC hR (by rw[uw hlt,iq (by omega)])) ?_
  rintro v7 w7 ⟨v,rfl,hY,hR,e7⟩
  have hB0:w3.heap.size≤w7.heap.size:=Nat.le_trans (Nat.le_trans (Nat.le_trans (Nat.le_trans e4.s hE.s) e5.s) e6.s) e7.s
  refine q ?_
  refine WL.l rfl (bz Fo.h rfl rfl (aT.nil _ 5 1 _) (Src.isB Fb.h hY) (Nat.le_refl _) (by simp only[maxLen];omega) (by omega)) ?_
  rintro v8 w8 ⟨hO,e8⟩
  obtain⟨po1,co1,rfl,hco1,hfo⟩:=hO.form
  have hZ:=aT.toB (A:=fun b=>w3.heap.size≤b) hO (fun b h _=>Nat.le_trans hB0 h)
  refine q ?_
  replace hK:=(((hK.m e5).m e6).m e7).m e8
  refine WL.l0 (ce Fo.h rfl rfl rfl hK (by simp[Nat.blt_eq];omega)) ?_
  rintro _ w9 ⟨hK,e9,hz9⟩
  refine q ?_
  rw[show 0+i=vs.length by omega,List.set_append_right _ _ (Nat.le_refl _),Nat.sub_self,List.set_cons_zero,← List.singleton_append,← List.append_assoc]at hK
  replace hV:=((((hV.m e5).m e6).m e7).m e8).m e9
  replace hZ:=hZ.m e9
  have hV2:=hV.snoc hZ
  rw[← htk]at hV2
  replace hR:=(hR.m e8).m e9
  exact⟨i+1,sb,sb,⟨⟨_,hK,hV2⟩,hR,((((((hE.t e5).t e6).t e7).t e8).t e9))⟩,by omega⟩
 ·exact CT
theorem Hd.arr(h:Hd 0xe0 0xf0 c hd n t):fg (c::hd) n t:=by
 rcases h with⟨s,k,rfl,rfl,h⟩|⟨a,b,d,e,f,g,h,i,rfl,rfl,h'⟩
 ·exact .inl ⟨s,k,rfl,h⟩
 ·exact .inr ⟨a,b,d,e,f,g,h,i,rfl,h'⟩
theorem Hd.lst(h:Hd 0xc0 0xd0 c hd n t):di (c::hd) n t:=by
 rcases h with⟨s,k,rfl,rfl,h⟩|⟨a,b,d,e,f,g,h,i,rfl,rfl,h'⟩
 ·exact .inr (.inl ⟨s,k,rfl,h⟩)
 ·exact .inr (.inr ⟨a,b,d,e,f,g,h,i,rfl,h'⟩)
theorem Hd.le(h:Hd c8 c32 c hd n t):n≤65536∧n≤t.length:=by
 rcases h with⟨s,k,rfl,rfl,h1,h2,h3⟩|⟨a,b,d,e,f,g,h,i,rfl,rfl,h1,h2,h3,h4⟩
 ·exact⟨by have:=k.toNat_lt;omega,h3⟩
 ·exact⟨h3,h4⟩
theorem xi(b:UInt8):IntKind.u32.wrap (b.toNat:Int)=(b.toNat:Int):=mR (by omega) (by have:=dR b;omega)
theorem k8{s n:UInt8}{t r:List UInt8}(hn:t.length+1=s.toNat)(hc:n.toNat≤t.length)(hR:Rd w rb (s::n::(t++r))):
  ah TP 222 [.pointer (some ⟨rb,0,none⟩)] w fun u w'=>u= .tuple #[.int .u32 (n.toNat:Int),.nilIface]∧Rd w' rb (t++r)∧am (Nb rb) w w':=by
 have hs:=dR s
 have hs2:=dR n
 have hlen:=hR.len
 simp only[List.length_cons,List.length_append]at hlen
 have hl:(s::n::(t++r)).length=t.length+r.length+2:=by simp only[List.length_cons,List.length_append]
 have hl2:(t++r).length=t.length+r.length:=by simp only[List.length_append]
 have hl3:(t.append r).length=t.length+r.length:=by simp
 have hw1:=dq s
 have hw2:=xi n
 have hw3:=dq n
 refine cN Tryz.func222 ?_
 have he:am (Nb rb) w w:=am.refl w
 refine WC.seq<|WC.region<|Hq (ap rfl)<|Hq (ap rfl)<|WL.nil<|WC.seq<|WC.region<|Hq (aq rfl)<|Hl rfl (cS hR) fun w1 e1=>?_
 refine Hq (ap rfl)<|WL.nil<|WC.seq<|WC.region<|Hq (aq rfl) ?_
 replace hR:=hR.m e1
 refine cl rfl (cL (l:=[s,n]) hR rfl) ?_
 rintro v2 w2 ⟨v,rfl,hY,hR,e2⟩
 obtain⟨pb,po,cp,rfl,hcp,hA,hD⟩:=hY.open (by simp)
 have hD0:=hD.get 0 (by simp)
 have hD1:=hD.get 1 (by simp)
 simp only[List.getElem_cons_zero,List.getElem_cons_succ]at hD0 hD1
 refine Hq (aq rfl)<|Hq (aK rfl rfl)<|Hq (aK rfl rfl)<|Hq (ap rfl)<|Hq (ap rfl)<|WL.nil<|WC.seq<|WC.seq<|WC.region<|Hq (aq rfl)<|Hq (fF rfl)<|WL.nil<|WC.condF rfl<|WC.skip<|WC.seq<|WC.region<|Hq (aq rfl)<|Hq (dX Fo.h rfl rfl rfl)<|Hq (ao Fb.h rfl Xr (by first|exact hD0|exact hD1))<|WL.nil<|WC.seq<|WC.region<|Hq (aq rfl)<|Hq (dX Fo.h rfl rfl rfl)<|Hq (ao Fb.h rfl Xr (by first|exact hD0|exact hD1))<|Hq (aL Fo.h rfl)<|Hq (ap rfl)<|WL.nil<|WC.seq<|WC.seq<|WC.region<|Hq (aq rfl)<|Hq (aq rfl)<|Hq (bP rfl rfl rfl (by omega) (by omega))<|Hq (ae (aS rfl rfl) (decide_eq_false (by omega)))<|WL.nil<|WC.condF rfl<|WC.skip<|WC.seq<|WC.region<|Hq (aq rfl)<|Hq (dX Fo.h rfl rfl rfl)<|Hq (ao Fb.h rfl Xr (by first|exact hD0|exact hD1))<|Hq (aL Fo.h rfl)<|Hq (ap rfl)<|WL.nil<|WC.seq<|WC.seq<|WC.region<|Hq (aq rfl)<|Hq (ae (aS rfl rfl) (decide_eq_false (by omega)))<|WL.nil<|WC.condF rfl<|WC.skip<|WC.seq<|WC.seq<|WC.region<|Hq (aq rfl)<|Hq (bp Fo.h rfl (by rw[hw2,hw3]))<|Hq (aq rfl)<|Hl rfl (cS hR) fun w3 e3=>?_
 refine Hq (ae (aS rfl rfl) (decide_eq_false (by omega)))<|WL.nil<|WC.condF rfl<|WC.skip<|WC.seq<|WC.region<|Hq (aq rfl)<|Hq (ap rfl)<|Hq (ap rfl)<|WL.nil<|WC.ret ?_
 replace hR:=hR.m e3
 replace he:=((he.t e1).t e2).t e3
 exact bt rfl rfl ⟨by rw[hw2],hR,he⟩
theorem kz{a b c d e f g h:UInt8}{t r:List UInt8}(hn:t.length+4=be [a,b,c,d])(hc:be [e,f,g,h]≤t.length)(hm:be [e,f,g,h]≤65536)(hR:Rd w rb (a::b::c::d::e::f::g::h::(t++r))):
  ah TP 223 [.pointer (some ⟨rb,0,none⟩)] w fun u w'=>u= .tuple #[.int .u32 ((be [e,f,g,h]:Nat):Int),.nilIface]∧Rd w' rb (t++r)∧am (Nb rb) w w':=by
 have hs:=np a b c d
 have hlen:=hR.len
 simp only[List.length_cons,List.length_append]at hlen
 have hl:(a::b::c::d::e::f::g::h::(t++r)).length=t.length+r.length+8:=by simp only[List.length_cons,List.length_append]
 have hl2:(t++r).length=t.length+r.length:=by simp only[List.length_append]
 have hl3:(t.append r).length=t.length+r.length:=by simp
 have hw1:=cY a b c d
 have hw2:=cY e f g h
 refine cN Tryz.func223 ?_
 refine q ?_
 refine Hl rfl (cS hR) fun w1 e1=>?_
 refine q ?_
 replace hR:=hR.m e1
 refine cl rfl (cL (l:=[a,b,c,d,e,f,g,h]) hR rfl) ?_
 rintro v2 w2 ⟨v,rfl,hY,hR,e2⟩
 obtain⟨pb,po,cp,rfl,hcp,hA,hD⟩:=hY.open (by simp)
 have hD7:=hD.get 7 (by simp)
 simp only[List.getElem_cons_zero,List.getElem_cons_succ]at hD7
 have hZ1:=hY.cut 0 4 (by simp)
 have hZ2:=hY.cut 4 4 (by simp)
 simp only[List.drop_zero,List.take_succ_cons,List.take_zero,List.drop_succ_cons]at hZ1 hZ2
 rw[show(if cp=0 then some (⟨pb,po,none⟩:Addr)else Option.map (fun x=>x.add (0 * 1)) (some (⟨pb,po,none⟩:Addr)))=some ⟨pb,po,none⟩ by split<;>simp[bV]]at hZ1
 refine q ?_
 refine Hq (ao Fb.h rfl Xr hD7)<|q ?_
 refine WC.regionD (tt [0,1,2]++ff [3]++tt [4,5]) (ay _) mixed (by kernel_rfl) Xd<|q ?_
 refine He (fun _ hS=>bu Fo.h rfl rfl rfl (by simp at hcp⊢;omega))<|cd rfl (dj (r:=[]) (hZ1.m Xd)) ?_
 rintro v3 w3 ⟨rfl,e3⟩
 refine⟨ch,?_⟩
 refine q ?_
 replace hR:=(hR.m Xd).m e3
 replace hY:=(hY.m Xd).m e3
 replace hZ1:=(hZ1.m Xd).m e3
 replace hZ2:=(hZ2.m Xd).m e3
 replace hD:=(hD.m Xd).m e3
 refine WC.regionD (tt [0,1,2]++ff [3]++tt [4]) (ay _) mixed (by kernel_rfl) Xd<|q ?_
 refine He (fun _ hS=>fJ Fo.h rfl rfl rfl (l:=4) (h:=8) rfl rfl (by omega) (by simp at hcp⊢;omega))<|cd rfl (dj (r:=[]) (hZ2.m Xd)) ?_
 rintro v4 w4 ⟨rfl,e4⟩
 refine⟨ch,?_⟩
 refine q ?_
 replace hR:=(hR.m Xd).m e4
 refine Hl rfl (cS hR) fun w5 e5=>?_
 refine q ?_
 replace hR:=hR.m e5
 exact bt rfl rfl ⟨rfl,hR,ch⟩
theorem fo{r:List UInt8}(hh:Hd 0xc1 0xd1 c hd n t)(hR:Rd w rb (c::(hd++(t++r)))):
  ah TP 203 [.pointer (some ⟨rb,0,none⟩)] w fun u w'=>u= .tuple #[.int .u32 (n:Int),.nilIface]∧Rd w' rb (t++r)∧am (Nb rb) w w':=by
 rcases hh with⟨s,k,rfl,rfl,h1,rfl,h3⟩|⟨a,b,d,e,f,g,h,i,rfl,rfl,h1,rfl,h3,h4⟩
 ·refine cN Tryz.func203 ?_
  refine q ?_
  refine Hl rfl (aJ hR) fun w1 e1=>?_
  refine q ?_
  replace hR:=hR.m e1
  refine Hm rfl (cB hR) fun w2 hR e2=>?_
  refine q ?_
  refine Hm rfl (k8 h1 h3 hR) fun w3 hR e3=>?_
  refine q ?_
  exact bt rfl rfl ⟨rfl,hR,ch⟩
 ·refine cN Tryz.func203 ?_
  refine q ?_
  refine Hl rfl (aJ hR) fun w1 e1=>?_
  refine q ?_
  replace hR:=hR.m e1
  refine Hm rfl (cB hR) fun w2 hR e2=>?_
  refine q ?_
  refine Hm rfl (kz h1 h4 h3 hR) fun w3 hR e3=>?_
  refine q ?_
  exact bt rfl rfl ⟨rfl,hR,ch⟩
end Go.Proofs.LL
