/- Contracts of functions of impl, spec and laws. Conditions: those that each theorem states. -/
import Derived.Test.YtdgbmbjkbmpcbaaGreatDoorW14
set_option linter.all false
set_option maxRecDepth 20000
namespace Go.Proofs.LL
open Go Go.Proofs Go.RowKit
set_option maxHeartbeats 4000000
attribute [local irreducible] RunOp WL WC WDL WT WX
theorem zR9_1{A:Prop}(h:A:=by
 have he:Evo (fun k=>k≠rb∧k≠ab) w w:=Evo.refl w
 refine q ?_
 refine cl rfl (readArrayHeader_ok hh hR) ?_
 rintro v1 w1 ⟨rfl,hR,e1⟩
 refine q ?_
 refine cl rfl (LenR_ok hR) ?_
 rintro v2 w2 ⟨rfl,e2⟩
 replace hab:=(hab.mono e1).mono e2
 refine q ?_
 refine WL.q rfl (r_sliceh Fo.h rfl rfl rfl (by first|omega|(simp;done)|(simp;omega))) ?_
 refine q ?_
 replace he:=(he.then e1).then e2
 have hs3:=he.size
 refine WL.l rfl (l_makeB (n:=ts.length) Fo.h rfl rfl rfl rfl rfl (by omega) (by simp only[maxLen];omega)) ?_
 rintro v3 w3 ⟨rfl,hK,e3⟩
 refine q ?_
 replace hR:=(hR.mono e2).mono e3
 refine cl rfl (readType_ok hR) ?_
 rintro v4 w4 ⟨rfl,hR,e4⟩
 refine q ?_
 replace hab:=(hab.mono e3).mono e4
 replace hK:=hK.mono e4
 replace he:=(he.then e3).then e4
 refine WC.loop2 (ι:=Nat) [(0,_),(1,_),(4,_),(7,_),(89,_)] (fun i=>[(90,.int .i64 (i:Int))]) (fun i wi=>Blk wi w2.heap.size (fillA (ts.map str) (.string ⟨#[]⟩) i)∧Rd wi rb ((ts.drop i).flatMap (txt 4)++r)∧Evo (fun k=>k≠w2.heap.size∧k≠rb) w4 wi) (fun i=>ts.length-i) 0 sb sb (⟨by rw[fillA_zero,List.length_map];exact hK,hR,Evo.refl _⟩) ?_
 intro i wi1 hh;obtain⟨hK,hR,hE⟩:=hh
 rcases Nat.lt_or_ge i ts.length with hi|hi
 ·rw[List.drop_eq_getElem_cons hi,List.flatMap_cons,List.append_assoc]at hR
  simp only[txt,bigB,List.cons_append,List.nil_append,List.append_assoc]at hR
  have hlt:=(hts _ (List.getElem_mem hi)).2
  refine q ?_
  refine cl rfl (Next_ok (l:=[_,_,_,_]) hR rfl) ?_
  rintro v5 w5 ⟨v,rfl,hX,hR,e5⟩
  refine q ?_
  refine cl rfl (Uint32_ok (r:=[]) hX) ?_
  rintro v6 w6 ⟨rfl,e6⟩
  refine q ?_
  replace hR:=hR.mono e6
  refine cl rfl (Next_I hR (by rw[len4 hlt,cv_nat_i64 (by omega)])) ?_
  rintro v7 w7 ⟨v,rfl,hY,hR,e7⟩
  refine q ?_
  refine WL.q rfl (r_b2s Fb.h rfl (Ext.refl _) hY) ?_
  refine q ?_
  replace hK:=((hK.mono e5).mono e6).mono e7
  refine WL.l0 (l_fill Fo.h rfl (by omega) rfl rfl hK (by simp[hi])) ?_
  rintro _ w8 ⟨hK,e8⟩
  refine q ?_
  replace hR:=hR.mono e8
  exact⟨i+1,sb,sb,⟨hK,hR,(((((hE.then e5).then e6).then e7).then e8))⟩,by omega⟩
 ·refine q ?_
  replace hab:=hab.mono hE
  refine WL.l0 (lst rfl rfl hab) ?_
  rintro _ w5 ⟨hab,e5,hz5⟩
  refine q ?_
  replace hK:=hK.mono e5
  rw[fillA_all _ _ (by simpa using hi)]at hK
  replace hR:=hR.mono e5
  rw[List.drop_eq_nil_of_le hi]at hR
  replace he:=(he.then hE).then e5
  exact fin1 rfl ⟨rfl,⟨_,hs3,hab,hK⟩,by simpa using hR,he⟩):A:=h
theorem zR9_2{A:Prop}(h:A:=by
 have he:Evo (fun k=>k≠rb∧k≠ab) w w:=Evo.refl w
 refine q ?_
 refine cl rfl (readArrayHeader_ok hh hR) ?_
 rintro v1 w1 ⟨rfl,hR,e1⟩
 refine q ?_
 refine cl rfl (LenR_ok hR) ?_
 rintro v2 w2 ⟨rfl,e2⟩
 replace hab:=(hab.mono e1).mono e2
 refine q ?_
 refine WL.q rfl (r_sliceh Fo.h rfl rfl rfl (by first|omega|(simp;done)|(simp;omega))) ?_
 refine q ?_
 replace he:=(he.then e1).then e2
 have hs3:=he.size
 refine WL.l rfl (l_makeB (n:=ts.length) Fo.h rfl rfl rfl rfl rfl (by omega) (by simp only[maxLen];omega)) ?_
 rintro v3 w3 ⟨rfl,hK,e3⟩
 refine q ?_
 replace hR:=(hR.mono e2).mono e3
 refine cl rfl (readType_ok hR) ?_
 rintro v4 w4 ⟨rfl,hR,e4⟩
 refine q ?_
 replace hab:=(hab.mono e3).mono e4
 replace hK:=hK.mono e4
 replace he:=(he.then e3).then e4
 refine WC.loop2 (ι:=Nat) [(0,_),(1,_),(4,_),(7,_),(58,_)] (fun i=>[(59,.int .i64 (i:Int))]) (fun i wi=>Blk wi w2.heap.size (fillA (ts.map str) (.string ⟨#[]⟩) i)∧Rd wi rb ((ts.drop i).flatMap (txt 1)++r)∧Evo (fun k=>k≠w2.heap.size∧k≠rb) w4 wi) (fun i=>ts.length-i) 0 sb sb (⟨by rw[fillA_zero,List.length_map];exact hK,hR,Evo.refl _⟩) ?_
 intro i wi1 hh;obtain⟨hK,hR,hE⟩:=hh
 rcases Nat.lt_or_ge i ts.length with hi|hi
 ·rw[List.drop_eq_getElem_cons hi,List.flatMap_cons,List.append_assoc]at hR
  simp only[txt,bigB,List.cons_append,List.nil_append,List.append_assoc]at hR
  have hlt:=(hts _ (List.getElem_mem hi)).2
  refine q ?_
  refine cl rfl (ReadByte_ok hR) ?_
  rintro v5 w5 ⟨rfl,hR,e5⟩
  refine q ?_
  refine cl rfl (Next_I hR (by rw[len1 hlt,cv_nat_i64 (by omega)])) ?_
  rintro v6 w6 ⟨v,rfl,hY,hR,e6⟩
  refine q ?_
  refine WL.q rfl (r_b2s Fb.h rfl (Ext.refl _) hY) ?_
  refine q ?_
  replace hK:=(hK.mono e5).mono e6
  refine WL.l0 (l_fill Fo.h rfl (by omega) rfl rfl hK (by simp[hi])) ?_
  rintro _ w7 ⟨hK,e7⟩
  refine q ?_
  replace hR:=hR.mono e7
  exact⟨i+1,sb,sb,⟨hK,hR,((((hE.then e5).then e6).then e7))⟩,by omega⟩
 ·refine q ?_
  replace hab:=hab.mono hE
  refine WL.l0 (lst rfl rfl hab) ?_
  rintro _ w5 ⟨hab,e5,hz5⟩
  refine q ?_
  replace hK:=hK.mono e5
  rw[fillA_all _ _ (by simpa using hi)]at hK
  replace hR:=hR.mono e5
  rw[List.drop_eq_nil_of_le hi]at hR
  replace he:=(he.then hE).then e5
  exact fin1 rfl ⟨rfl,⟨_,hs3,hab,hK⟩,by simpa using hR,he⟩):A:=h
theorem zR9_3{A:Prop}(h:A:=by
 refine q ?_
 replace hab:=hab.mono hE
 refine WL.l0 (lst rfl rfl hab) ?_
 rintro _ w5 ⟨hab,e5,hz5⟩
 refine q ?_
 have h0:ts.length-i=0:=by omega
 replace hK:=hK.mono e5
 rw[h0,List.replicate_zero,List.append_nil]at hK
 replace hR:=hR.mono e5
 rw[List.drop_eq_nil_of_le hi]at hR
 replace hV:=hV.mono e5
 rw[List.take_of_length_le hi]at hV
 replace he:=(he.then hE).then e5
 exact fin1 rfl ⟨rfl,⟨_,vs,hs3,hab,hK,hV.weaken (fun b _ h=>Nat.le_trans (Nat.le_trans hs3 (Nat.le_of_lt hx3)) h)⟩,by simpa using hR,he⟩):A:=h
theorem txt_length(k:Nat)(t:List UInt8):(txt k t).length=k+t.length:=by simp[txt,bigB_length]
theorem flat_ge(k:Nat)(hk:0<k):∀(ts:List (List UInt8)),(∀t∈ts,t≠[])→2 * ts.length≤(ts.flatMap (txt k)).length
 |[],_=>by simp
 |a::r,h=>by
  have ih:=flat_ge k hk r (fun x hx=>h x (by simp[hx]))
  have ha:0<a.length:=List.length_pos_iff.2 (h a (by simp))
  rw[List.flatMap_cons,List.length_append,txt_length,List.length_cons]
  omega
theorem len1{n:Nat}(h:n<256):(UInt8.ofNat (n>>>(8 * 0))).toNat=n:=by
 simp;omega
theorem len4{n:Nat}(h:n<4294967296):be [UInt8.ofNat (n>>>(8 * 3)),UInt8.ofNat (n>>>(8 * 2)),UInt8.ofNat (n>>>(8 * 1)),UInt8.ofNat (n>>>(8 * 0))]=n:=by
 have e:be (bigB n 4)=n%4294967296:=be_bigB n 4
 rw[Nat.mod_eq_of_lt h]at e
 exact e
theorem cv_nat_i64{n:Nat}(h:n<4611686018427387904):IntKind.i64.wrap (n:Int)=n:=wrap_i64 (by omega) (by omega)
def Bs(A:Nat→Prop)(w:World):List Value→List (List UInt8)→Prop
 |[],[]=>True
 |v::vs,t::ts=>IsB A w v t∧Bs A w vs ts
 |_,_=>False
theorem Bs.mono{A B:Nat→Prop}{w w':World}:∀ {vs:List Value} {ts:List (List UInt8)} (_:Bs A w vs ts) (_:Evo B w w') (_:∀b,b<w.heap.size→A b→B b:=by(intro b hb1 hb2;first|exact trivial|exact hb2|((try dsimp only[Nb]at hb2⊢);omega))),Bs A w' vs ts
 |[],[],_,_,_=>trivial
 |v::vs,t::ts,h,e,hAB=>⟨h.1.mono e hAB,h.2.mono e hAB⟩
 |[],_::_,h,_,_=>h.elim
 |_::_,[],h,_,_=>h.elim
theorem Bs.weaken{A B:Nat→Prop}{w:World}:∀ {vs:List Value} {ts:List (List UInt8)} (_:Bs A w vs ts) (_:∀b,b<w.heap.size→A b→B b),Bs B w vs ts
 |[],[],_,_=>trivial
 |v::vs,t::ts,h,hAB=>⟨h.1.weaken hAB,h.2.weaken hAB⟩
 |[],_::_,h,_=>h.elim
 |_::_,[],h,_=>h.elim
theorem Bs.length{A:Nat→Prop}{w:World}:∀ {vs:List Value} {ts:List (List UInt8)},Bs A w vs ts→vs.length=ts.length
 |[],[],_=>rfl
 |v::vs,t::ts,h=>by simp[h.2.length]
 |[],_::_,h=>h.elim
 |_::_,[],h=>h.elim
theorem Bs.snoc{A:Nat→Prop}{w:World}:∀ {vs:List Value} {ts:List (List UInt8)} {v:Value} {t:List UInt8},Bs A w vs ts→IsB A w v t→Bs A w (vs++[v]) (ts++[t])
 |[],[],_,_,_,h=>⟨h,trivial⟩
 |_::_,_::_,_,_,h,h'=>⟨h.1,h.2.snoc h'⟩
 |[],_::_,_,_,h,_=>h.elim
 |_::_,[],_,_,h,_=>h.elim
theorem arrStr1_ok{rb ab:Nat}{hd r:List UInt8}{ts:List (List UInt8)}{w:World}(hts:∀t∈ts,t≠[]∧t.length<256)(hab:Blk w ab [.slice none 0 0])(hne:rb<ab)(hpos:0<ts.length)(hh:ArrH hd ts.length (0xa1::ts.flatMap (txt 1)))(hR:Rd w rb (hd++((0xa1::ts.flatMap (txt 1))++r))):
  Does TP 124 [.pointer (some ⟨ab,0,none⟩),.pointer (some ⟨rb,0,none⟩)] w fun u w'=>u= .nilIface∧(∃g,w.heap.size≤g∧Blk w' ab [.slice (some ⟨g,0,none⟩) ts.length ts.length]∧Blk w' g (ts.map str))∧Rd w' rb r∧Evo (fun k=>k≠rb∧k≠ab) w w':=by
 have hle:=hh.le
 have hr0:=hab.lt
 have hge:=flat_ge 1 (by decide) ts (fun t h=>(hts t h).1)
 have hlr:=hR.len
 have hln:((0xa1::ts.flatMap (txt 1))++r).length=(ts.flatMap (txt 1)).length+r.length+1:=by simp only[List.length_append,List.length_cons];omega
 rw[List.length_append]at hlr
 refine do1 Tryz.func124 ?_
 exact zR9_2
theorem arrStr4_ok{rb ab:Nat}{hd r:List UInt8}{ts:List (List UInt8)}{w:World}(hts:∀t∈ts,t≠[]∧t.length<4294967296)(hab:Blk w ab [.slice none 0 0])(hne:rb<ab)(hpos:0<ts.length)(hh:ArrH hd ts.length (0xb1::ts.flatMap (txt 4)))(hR:Rd w rb (hd++((0xb1::ts.flatMap (txt 4))++r))):
  Does TP 124 [.pointer (some ⟨ab,0,none⟩),.pointer (some ⟨rb,0,none⟩)] w fun u w'=>u= .nilIface∧(∃g,w.heap.size≤g∧Blk w' ab [.slice (some ⟨g,0,none⟩) ts.length ts.length]∧Blk w' g (ts.map str))∧Rd w' rb r∧Evo (fun k=>k≠rb∧k≠ab) w w':=by
 have hle:=hh.le
 have hr0:=hab.lt
 have hge:=flat_ge 4 (by decide) ts (fun t h=>(hts t h).1)
 have hlr:=hR.len
 have hln:((0xb1::ts.flatMap (txt 4))++r).length=(ts.flatMap (txt 4)).length+r.length+1:=by simp only[List.length_append,List.length_cons];omega
 rw[List.length_append]at hlr
 refine do1 Tryz.func124 ?_
 exact zR9_1
theorem arrSym1_ok{rb ab:Nat}{hd r:List UInt8}{ts:List (List UInt8)}{w:World}(hts:∀t∈ts,t≠[]∧t.length<256)(hab:Blk w ab [.slice none 0 0])(hne:rb<ab)(hpos:0<ts.length)(hh:ArrH hd ts.length (0xa3::ts.flatMap (txt 1)))(hR:Rd w rb (hd++((0xa3::ts.flatMap (txt 1))++r))):
  Does TP 125 [.pointer (some ⟨ab,0,none⟩),.pointer (some ⟨rb,0,none⟩)] w fun u w'=>u= .nilIface∧(∃g,w.heap.size≤g∧Blk w' ab [.slice (some ⟨g,0,none⟩) ts.length ts.length]∧Blk w' g (ts.map str))∧Rd w' rb r∧Evo (fun k=>k≠rb∧k≠ab) w w':=by
 have hle:=hh.le
 have hr0:=hab.lt
 have hge:=flat_ge 1 (by decide) ts (fun t h=>(hts t h).1)
 have hlr:=hR.len
 have hln:((0xa3::ts.flatMap (txt 1))++r).length=(ts.flatMap (txt 1)).length+r.length+1:=by simp only[List.length_append,List.length_cons];omega
 rw[List.length_append]at hlr
 refine do1 Tryz.func125 ?_
 exact zR9_2
theorem arrSym4_ok{rb ab:Nat}{hd r:List UInt8}{ts:List (List UInt8)}{w:World}(hts:∀t∈ts,t≠[]∧t.length<4294967296)(hab:Blk w ab [.slice none 0 0])(hne:rb<ab)(hpos:0<ts.length)(hh:ArrH hd ts.length (0xb3::ts.flatMap (txt 4)))(hR:Rd w rb (hd++((0xb3::ts.flatMap (txt 4))++r))):
  Does TP 125 [.pointer (some ⟨ab,0,none⟩),.pointer (some ⟨rb,0,none⟩)] w fun u w'=>u= .nilIface∧(∃g,w.heap.size≤g∧Blk w' ab [.slice (some ⟨g,0,none⟩) ts.length ts.length]∧Blk w' g (ts.map str))∧Rd w' rb r∧Evo (fun k=>k≠rb∧k≠ab) w w':=by
 have hle:=hh.le
 have hr0:=hab.lt
 have hge:=flat_ge 4 (by decide) ts (fun t h=>(hts t h).1)
 have hlr:=hR.len
 have hln:((0xb3::ts.flatMap (txt 4))++r).length=(ts.flatMap (txt 4)).length+r.length+1:=by simp only[List.length_append,List.length_cons];omega
 rw[List.length_append]at hlr
 refine do1 Tryz.func125 ?_
 exact zR9_1
theorem arrBin1_ok{rb ab:Nat}{hd r:List UInt8}{ts:List (List UInt8)}{w:World}(hts:∀t∈ts,t≠[]∧t.length<256)(hab:Blk w ab [.slice none 0 0])(hne:rb<ab)(hpos:0<ts.length)(hh:ArrH hd ts.length (0xa0::ts.flatMap (txt 1)))(hR:Rd w rb (hd++((0xa0::ts.flatMap (txt 1))++r))):
  Does TP 126 [.pointer (some ⟨ab,0,none⟩),.pointer (some ⟨rb,0,none⟩)] w fun u w'=>u= .nilIface∧(∃g vs,w.heap.size≤g∧Blk w' ab [.slice (some ⟨g,0,none⟩) ts.length ts.length]∧Blk w' g vs∧Bs (fun b=>w.heap.size≤b) w' vs ts)∧Rd w' rb r∧Evo (fun k=>k≠rb∧k≠ab) w w':=by
 have hle:=hh.le
 have hr0:=hab.lt
 have hge:=flat_ge 1 (by decide) ts (fun t h=>(hts t h).1)
 have hlr:=hR.len
 have hln:((0xa0::ts.flatMap (txt 1))++r).length=(ts.flatMap (txt 1)).length+r.length+1:=by simp only[List.length_append,List.length_cons];omega
 rw[List.length_append]at hlr
 refine do1 Tryz.func126 ?_
 have he:Evo (fun k=>k≠rb∧k≠ab) w w:=Evo.refl w
 refine q ?_
 refine cl rfl (readArrayHeader_ok hh hR) ?_
 rintro v1 w1 ⟨rfl,hR,e1⟩
 refine q ?_
 refine cl rfl (LenR_ok hR) ?_
 rintro v2 w2 ⟨rfl,e2⟩
 replace hab:=(hab.mono e1).mono e2
 refine q ?_
 refine WL.q rfl (r_sliceh Fo.h rfl rfl rfl (by first|omega|(simp;done)|(simp;omega))) ?_
 refine q ?_
 replace he:=(he.then e1).then e2
 have hs3:=he.size
 refine WL.l rfl (l_makeB (n:=ts.length) Fo.h rfl rfl rfl rfl rfl (by omega) (by simp only[maxLen];omega)) ?_
 rintro v3 w3 ⟨rfl,hK,e3⟩
 have hx3:=hK.lt
 refine q ?_
 replace hR:=(hR.mono e2).mono e3
 refine cl rfl (readType_ok hR) ?_
 rintro v4 w4 ⟨rfl,hR,e4⟩
 refine q ?_
 replace hab:=(hab.mono e3).mono e4
 replace hK:=hK.mono e4
 replace he:=(he.then e3).then e4
 refine WC.loop2 (ι:=Nat) [(0,_),(1,_),(4,_),(7,_),(58,_)] (fun i=>[(59,.int .i64 (i:Int))]) (fun i wi=>(∃vs,Blk wi w2.heap.size (vs++List.replicate (ts.length-i) (.slice none 0 0))∧Bs (fun b=>w3.heap.size≤b) wi vs (ts.take i))∧Rd wi rb ((ts.drop i).flatMap (txt 1)++r)∧Evo (fun k=>k<w3.heap.size∧k≠w2.heap.size∧k≠rb) w4 wi) (fun i=>ts.length-i) 0 sb sb (⟨⟨[],hK,trivial⟩,hR,Evo.refl _⟩) ?_
 intro i wi1 hh;obtain⟨⟨vs,hK,hV⟩,hR,hE⟩:=hh
 have hvl:=hV.length
 have hwi:=Nat.le_trans e4.size hE.size
 rcases Nat.lt_or_ge i ts.length with hi|hi
 ·rw[List.drop_eq_getElem_cons hi,List.flatMap_cons,List.append_assoc]at hR
  simp only[txt,bigB,List.cons_append,List.nil_append,List.append_assoc]at hR
  have hlt:=(hts _ (List.getElem_mem hi)).2
  rw[List.length_take,Nat.min_eq_left (Nat.le_of_lt hi)]at hvl
  have hrp:List.replicate (ts.length-i) (Value.slice none 0 0)= .slice none 0 0::List.replicate (ts.length-(i+1)) (.slice none 0 0):=by
   rw[show ts.length-i=(ts.length-(i+1))+1 by omega,List.replicate_succ]
  rw[hrp]at hK
  have htk:ts.take (i+1)=ts.take i++[ts[i]]:=by rw[List.take_add_one,List.getElem?_eq_getElem hi];rfl
  refine q ?_
  refine cl rfl (ReadByte_ok hR) ?_
  rintro v5 w5 ⟨rfl,hR,e5⟩
  refine q ?_
  refine cl rfl (Next_I hR (by rw[len1 hlt,cv_nat_i64 (by omega)])) ?_
  rintro v6 w6 ⟨v,rfl,hY,hR,e6⟩
  have hB0:w3.heap.size≤w6.heap.size:=Nat.le_trans (Nat.le_trans (Nat.le_trans e4.size hE.size) e5.size) e6.size
  refine q ?_
  refine WL.l rfl (l_app Fo.h rfl rfl (Own.nil _ 5 1 _) (Src.isB Fb.h hY) (Nat.le_refl _) (by simp only[maxLen];omega) (by omega)) ?_
  rintro v7 w7 ⟨hO,e7⟩
  obtain⟨po1,co1,rfl,hco1,hfo⟩:=hO.form
  have hZ:=Own.toB (A:=fun b=>w3.heap.size≤b) hO (fun b h _=>Nat.le_trans hB0 h)
  refine q ?_
  replace hK:=((hK.mono e5).mono e6).mono e7
  refine WL.l0 (l_store Fo.h rfl rfl rfl hK (by simp[Nat.blt_eq];omega)) ?_
  rintro _ w8 ⟨hK,e8,hz8⟩
  refine q ?_
  rw[show 0+i=vs.length by omega,List.set_append_right _ _ (Nat.le_refl _),Nat.sub_self,List.set_cons_zero,← List.singleton_append,← List.append_assoc]at hK
  replace hV:=(((hV.mono e5).mono e6).mono e7).mono e8
  replace hZ:=hZ.mono e8
  have hV2:=hV.snoc hZ
  rw[← htk]at hV2
  replace hR:=(hR.mono e7).mono e8
  exact⟨i+1,sb,sb,⟨⟨_,hK,hV2⟩,hR,(((((hE.then e5).then e6).then e7).then e8))⟩,by omega⟩
 ·exact zR9_3
theorem arrBin4_ok{rb ab:Nat}{hd r:List UInt8}{ts:List (List UInt8)}{w:World}(hts:∀t∈ts,t≠[]∧t.length<4294967296)(hab:Blk w ab [.slice none 0 0])(hne:rb<ab)(hpos:0<ts.length)(hh:ArrH hd ts.length (0xb0::ts.flatMap (txt 4)))(hR:Rd w rb (hd++((0xb0::ts.flatMap (txt 4))++r))):
  Does TP 126 [.pointer (some ⟨ab,0,none⟩),.pointer (some ⟨rb,0,none⟩)] w fun u w'=>u= .nilIface∧(∃g vs,w.heap.size≤g∧Blk w' ab [.slice (some ⟨g,0,none⟩) ts.length ts.length]∧Blk w' g vs∧Bs (fun b=>w.heap.size≤b) w' vs ts)∧Rd w' rb r∧Evo (fun k=>k≠rb∧k≠ab) w w':=by
 have hle:=hh.le
 have hr0:=hab.lt
 have hge:=flat_ge 4 (by decide) ts (fun t h=>(hts t h).1)
 have hlr:=hR.len
 have hln:((0xb0::ts.flatMap (txt 4))++r).length=(ts.flatMap (txt 4)).length+r.length+1:=by simp only[List.length_append,List.length_cons];omega
 rw[List.length_append]at hlr
 refine do1 Tryz.func126 ?_
 have he:Evo (fun k=>k≠rb∧k≠ab) w w:=Evo.refl w
 refine q ?_
 refine cl rfl (readArrayHeader_ok hh hR) ?_
 rintro v1 w1 ⟨rfl,hR,e1⟩
 refine q ?_
 refine cl rfl (LenR_ok hR) ?_
 rintro v2 w2 ⟨rfl,e2⟩
 replace hab:=(hab.mono e1).mono e2
 refine q ?_
 refine WL.q rfl (r_sliceh Fo.h rfl rfl rfl (by first|omega|(simp;done)|(simp;omega))) ?_
 refine q ?_
 replace he:=(he.then e1).then e2
 have hs3:=he.size
 refine WL.l rfl (l_makeB (n:=ts.length) Fo.h rfl rfl rfl rfl rfl (by omega) (by simp only[maxLen];omega)) ?_
 rintro v3 w3 ⟨rfl,hK,e3⟩
 have hx3:=hK.lt
 refine q ?_
 replace hR:=(hR.mono e2).mono e3
 refine cl rfl (readType_ok hR) ?_
 rintro v4 w4 ⟨rfl,hR,e4⟩
 refine q ?_
 replace hab:=(hab.mono e3).mono e4
 replace hK:=hK.mono e4
 replace he:=(he.then e3).then e4
 refine WC.loop2 (ι:=Nat) [(0,_),(1,_),(4,_),(7,_),(89,_)] (fun i=>[(90,.int .i64 (i:Int))]) (fun i wi=>(∃vs,Blk wi w2.heap.size (vs++List.replicate (ts.length-i) (.slice none 0 0))∧Bs (fun b=>w3.heap.size≤b) wi vs (ts.take i))∧Rd wi rb ((ts.drop i).flatMap (txt 4)++r)∧Evo (fun k=>k<w3.heap.size∧k≠w2.heap.size∧k≠rb) w4 wi) (fun i=>ts.length-i) 0 sb sb (⟨⟨[],hK,trivial⟩,hR,Evo.refl _⟩) ?_
 intro i wi1 hh;obtain⟨⟨vs,hK,hV⟩,hR,hE⟩:=hh
 have hvl:=hV.length
 have hwi:=Nat.le_trans e4.size hE.size
 rcases Nat.lt_or_ge i ts.length with hi|hi
 ·rw[List.drop_eq_getElem_cons hi,List.flatMap_cons,List.append_assoc]at hR
  simp only[txt,bigB,List.cons_append,List.nil_append,List.append_assoc]at hR
  have hlt:=(hts _ (List.getElem_mem hi)).2
  rw[List.length_take,Nat.min_eq_left (Nat.le_of_lt hi)]at hvl
  have hrp:List.replicate (ts.length-i) (Value.slice none 0 0)= .slice none 0 0::List.replicate (ts.length-(i+1)) (.slice none 0 0):=by
   rw[show ts.length-i=(ts.length-(i+1))+1 by omega,List.replicate_succ]
  rw[hrp]at hK
  have htk:ts.take (i+1)=ts.take i++[ts[i]]:=by rw[List.take_add_one,List.getElem?_eq_getElem hi];rfl
  refine q ?_
  refine cl rfl (Next_ok (l:=[_,_,_,_]) hR rfl) ?_
  rintro v5 w5 ⟨v,rfl,hX,hR,e5⟩
  refine q ?_
  refine cl rfl (Uint32_ok (r:=[]) hX) ?_
  rintro v6 w6 ⟨rfl,e6⟩
  refine q ?_
  replace hR:=hR.mono e6
  refine cl rfl (Next_I hR (by rw[len4 hlt,cv_nat_i64 (by omega)])) ?_
  rintro v7 w7 ⟨v,rfl,hY,hR,e7⟩
  have hB0:w3.heap.size≤w7.heap.size:=Nat.le_trans (Nat.le_trans (Nat.le_trans (Nat.le_trans e4.size hE.size) e5.size) e6.size) e7.size
  refine q ?_
  refine WL.l rfl (l_app Fo.h rfl rfl (Own.nil _ 5 1 _) (Src.isB Fb.h hY) (Nat.le_refl _) (by simp only[maxLen];omega) (by omega)) ?_
  rintro v8 w8 ⟨hO,e8⟩
  obtain⟨po1,co1,rfl,hco1,hfo⟩:=hO.form
  have hZ:=Own.toB (A:=fun b=>w3.heap.size≤b) hO (fun b h _=>Nat.le_trans hB0 h)
  refine q ?_
  replace hK:=(((hK.mono e5).mono e6).mono e7).mono e8
  refine WL.l0 (l_store Fo.h rfl rfl rfl hK (by simp[Nat.blt_eq];omega)) ?_
  rintro _ w9 ⟨hK,e9,hz9⟩
  refine q ?_
  rw[show 0+i=vs.length by omega,List.set_append_right _ _ (Nat.le_refl _),Nat.sub_self,List.set_cons_zero,← List.singleton_append,← List.append_assoc]at hK
  replace hV:=((((hV.mono e5).mono e6).mono e7).mono e8).mono e9
  replace hZ:=hZ.mono e9
  have hV2:=hV.snoc hZ
  rw[← htk]at hV2
  replace hR:=(hR.mono e8).mono e9
  exact⟨i+1,sb,sb,⟨⟨_,hK,hV2⟩,hR,((((((hE.then e5).then e6).then e7).then e8).then e9))⟩,by omega⟩
 ·exact zR9_3
theorem Hd.arr{c:UInt8}{hd t:List UInt8}{n:Nat}(h:Hd 0xe0 0xf0 c hd n t):ArrH (c::hd) n t:=by
 rcases h with⟨s,k,rfl,rfl,h⟩|⟨a,b,d,e,f,g,h,i,rfl,rfl,h'⟩
 ·exact .inl ⟨s,k,rfl,h⟩
 ·exact .inr ⟨a,b,d,e,f,g,h,i,rfl,h'⟩
theorem Hd.lst{c:UInt8}{hd t:List UInt8}{n:Nat}(h:Hd 0xc0 0xd0 c hd n t):LstH (c::hd) n t:=by
 rcases h with⟨s,k,rfl,rfl,h⟩|⟨a,b,d,e,f,g,h,i,rfl,rfl,h'⟩
 ·exact .inr (.inl ⟨s,k,rfl,h⟩)
 ·exact .inr (.inr ⟨a,b,d,e,f,g,h,i,rfl,h'⟩)
theorem Hd.le{c8 c32 c:UInt8}{hd t:List UInt8}{n:Nat}(h:Hd c8 c32 c hd n t):n≤65536∧n≤t.length:=by
 rcases h with⟨s,k,rfl,rfl,h1,h2,h3⟩|⟨a,b,d,e,f,g,h,i,rfl,rfl,h1,h2,h3,h4⟩
 ·exact⟨by have:=k.toNat_lt;omega,h3⟩
 ·exact⟨h3,h4⟩
theorem cv_u8_u32(b:UInt8):IntKind.u32.wrap (b.toNat:Int)=(b.toNat:Int):=wu32 (by omega) (by have:=u8_lt b;omega)
theorem readMap8Header_ok{rb:Nat}{s n:UInt8}{t r:List UInt8}{w:World}(hn:t.length+1=s.toNat)(hc:n.toNat≤t.length)(hR:Rd w rb (s::n::(t++r))):
  Does TP 222 [.pointer (some ⟨rb,0,none⟩)] w fun u w'=>u= .tuple #[.int .u32 (n.toNat:Int),.nilIface]∧Rd w' rb (t++r)∧Evo (Nb rb) w w':=by
 have hs:=u8_lt s
 have hs2:=u8_lt n
 have hlen:=hR.len
 simp only[List.length_cons,List.length_append]at hlen
 have hl:(s::n::(t++r)).length=t.length+r.length+2:=by simp only[List.length_cons,List.length_append]
 have hl2:(t++r).length=t.length+r.length:=by simp only[List.length_append]
 have hl3:(t.append r).length=t.length+r.length:=by simp
 have hw1:=cv_u8_i64 s
 have hw2:=cv_u8_u32 n
 have hw3:=cv_u8_i64 n
 refine do2 Tryz.func222 ?_
 have he:Evo (Nb rb) w w:=Evo.refl w
 refine WC.seq<|WC.region ?_
 refine WL.q rfl (r_assign rfl) ?_
 refine WL.q rfl (r_assign rfl) ?_
 refine WL.nil ?_
 refine WC.seq<|WC.region ?_
 refine WL.q rfl (r_move rfl) ?_
 refine cl rfl (LenR_ok hR) ?_
 rintro v1 w1 ⟨rfl,e1⟩
 refine WL.q rfl (r_assign rfl) ?_
 refine WL.nil ?_
 refine WC.seq<|WC.region ?_
 refine WL.q rfl (r_move rfl) ?_
 replace hR:=hR.mono e1
 refine cl rfl (Next_ok (l:=[s,n]) hR rfl) ?_
 rintro v2 w2 ⟨v,rfl,hY,hR,e2⟩
 obtain⟨pb,po,cp,rfl,hcp,hA,hD⟩:=hY.open (by simp)
 have hD0:=hD.get 0 (by simp)
 have hD1:=hD.get 1 (by simp)
 simp only[List.getElem_cons_zero,List.getElem_cons_succ]at hD0 hD1
 refine WL.q rfl (r_move rfl) ?_
 refine WL.q rfl (r_extract rfl rfl) ?_
 refine WL.q rfl (r_extract rfl rfl) ?_
 refine WL.q rfl (r_assign rfl) ?_
 refine WL.q rfl (r_assign rfl) ?_
 refine WL.nil ?_
 refine WC.seq<|WC.seq<|WC.region ?_
 refine WL.q rfl (r_move rfl) ?_
 refine WL.q rfl (r_not rfl) ?_
 refine WL.nil ?_
 refine WC.condF rfl ?_
 refine WC.skip ?_
 refine WC.seq<|WC.region ?_
 refine WL.q rfl (r_move rfl) ?_
 refine WL.q rfl (r_idx1 Fo.h rfl rfl rfl (by first|omega|(simp;done)|(simp;omega))) ?_
 refine WL.q rfl (r_load Fb.h rfl (Ext.refl _) (by first|exact hD0|exact hD1)) ?_
 refine WL.nil ?_
 refine WC.seq<|WC.region ?_
 refine WL.q rfl (r_move rfl) ?_
 refine WL.q rfl (r_idx1 Fo.h rfl rfl rfl (by first|omega|(simp;done)|(simp;omega))) ?_
 refine WL.q rfl (r_load Fb.h rfl (Ext.refl _) (by first|exact hD0|exact hD1)) ?_
 refine WL.q rfl (r_cvInt Fo.h rfl) ?_
 refine WL.q rfl (r_assign rfl) ?_
 refine WL.nil ?_
 refine WC.seq<|WC.seq<|WC.region ?_
 refine WL.q rfl (r_move rfl) ?_
 refine WL.q rfl (r_move rfl) ?_
 refine WL.q rfl (r_subi rfl rfl rfl (by omega) (by omega)) ?_
 refine WL.q rfl (r_cmp (r_gtr rfl rfl) (decide_eq_false (by omega))) ?_
 refine WL.nil ?_
 refine WC.condF rfl ?_
 refine WC.skip ?_
 refine WC.seq<|WC.region ?_
 refine WL.q rfl (r_move rfl) ?_
 refine WL.q rfl (r_idx1 Fo.h rfl rfl rfl (by first|omega|(simp;done)|(simp;omega))) ?_
 refine WL.q rfl (r_load Fb.h rfl (Ext.refl _) (by first|exact hD0|exact hD1)) ?_
 refine WL.q rfl (r_cvInt Fo.h rfl) ?_
 refine WL.q rfl (r_assign rfl) ?_
 refine WL.nil ?_
 refine WC.seq<|WC.seq<|WC.region ?_
 refine WL.q rfl (r_move rfl) ?_
 refine WL.q rfl (r_cmp (r_gtr rfl rfl) (decide_eq_false (by omega))) ?_
 refine WL.nil ?_
 refine WC.condF rfl ?_
 refine WC.skip ?_
 refine WC.seq<|WC.seq<|WC.region ?_
 refine WL.q rfl (r_move rfl) ?_
 refine WL.q rfl (r_cvIntE Fo.h rfl (by rw[hw2,hw3])) ?_
 refine WL.q rfl (r_move rfl) ?_
 refine cl rfl (LenR_ok hR) ?_
 rintro v3 w3 ⟨rfl,e3⟩
 refine WL.q rfl (r_cmp (r_gtr rfl rfl) (decide_eq_false (by omega))) ?_
 refine WL.nil ?_
 refine WC.condF rfl ?_
 refine WC.skip ?_
 refine WC.seq<|WC.region ?_
 refine WL.q rfl (r_move rfl) ?_
 refine WL.q rfl (r_assign rfl) ?_
 refine WL.q rfl (r_assign rfl) ?_
 refine WL.nil ?_
 refine WC.ret ?_
 replace hR:=hR.mono e3
 replace he:=((he.then e1).then e2).then e3
 exact fin2 rfl rfl ⟨by rw[hw2],hR,he⟩
theorem readMap32Header_ok{rb:Nat}{a b c d e f g h:UInt8}{t r:List UInt8}{w:World}(hn:t.length+4=be [a,b,c,d])(hc:be [e,f,g,h]≤t.length)(hm:be [e,f,g,h]≤65536)(hR:Rd w rb (a::b::c::d::e::f::g::h::(t++r))):
  Does TP 223 [.pointer (some ⟨rb,0,none⟩)] w fun u w'=>u= .tuple #[.int .u32 ((be [e,f,g,h]:Nat):Int),.nilIface]∧Rd w' rb (t++r)∧Evo (Nb rb) w w':=by
 have hs:=be4_lt a b c d
 have hlen:=hR.len
 simp only[List.length_cons,List.length_append]at hlen
 have hl:(a::b::c::d::e::f::g::h::(t++r)).length=t.length+r.length+8:=by simp only[List.length_cons,List.length_append]
 have hl2:(t++r).length=t.length+r.length:=by simp only[List.length_append]
 have hl3:(t.append r).length=t.length+r.length:=by simp
 have hw1:=cv_be4_i64 a b c d
 have hw2:=cv_be4_i64 e f g h
 refine do2 Tryz.func223 ?_
 refine q ?_
 refine cl rfl (LenR_ok hR) ?_
 rintro v1 w1 ⟨rfl,e1⟩
 refine q ?_
 replace hR:=hR.mono e1
 refine cl rfl (Next_ok (l:=[a,b,c,d,e,f,g,h]) hR rfl) ?_
 rintro v2 w2 ⟨v,rfl,hY,hR,e2⟩
 obtain⟨pb,po,cp,rfl,hcp,hA,hD⟩:=hY.open (by simp)
 have hD7:=hD.get 7 (by simp)
 simp only[List.getElem_cons_zero,List.getElem_cons_succ]at hD7
 have hZ1:=hY.cut 0 4 (by simp)
 have hZ2:=hY.cut 4 4 (by simp)
 simp only[List.drop_zero,List.take_succ_cons,List.take_zero,List.drop_succ_cons]at hZ1 hZ2
 rw[show(if cp=0 then some (⟨pb,po,none⟩:Addr)else Option.map (fun x=>x.add (0 * 1)) (some (⟨pb,po,none⟩:Addr)))=some ⟨pb,po,none⟩ by split<;>simp[Addr_add]]at hZ1
 refine q ?_
 refine WL.q rfl (r_load Fb.h rfl (Ext.refl _) hD7) ?_
 refine q ?_
 refine WC.regionD (tt [0,1,2]++ff [3]++tt [4,5]) (Ext _) mixed (by kernel_rfl) (Ext.drew _) ?_
 refine q ?_
 refine WD.q rfl (fun _ hS=>r_sliceh Fo.h rfl rfl rfl (by simp at hcp⊢;omega)) ?_
 refine cd rfl (Uint32_ok (r:=[]) (hZ1.mono (Ext.drew _))) ?_
 rintro v3 w3 ⟨rfl,e3⟩
 refine⟨ch,?_⟩
 refine q ?_
 replace hR:=(hR.mono (Ext.drew _)).mono e3
 replace hY:=(hY.mono (Ext.drew _)).mono e3
 replace hZ1:=(hZ1.mono (Ext.drew _)).mono e3
 replace hZ2:=(hZ2.mono (Ext.drew _)).mono e3
 replace hD:=(hD.mono (Ext.drew _)).mono e3
 refine WC.regionD (tt [0,1,2]++ff [3]++tt [4]) (Ext _) mixed (by kernel_rfl) (Ext.drew _) ?_
 refine q ?_
 refine WD.q rfl (fun _ hS=>r_slice Fo.h rfl rfl rfl (l:=4) (h:=8) rfl rfl (by omega) (by simp at hcp⊢;omega)) ?_
 refine cd rfl (Uint32_ok (r:=[]) (hZ2.mono (Ext.drew _))) ?_
 rintro v4 w4 ⟨rfl,e4⟩
 refine⟨ch,?_⟩
 refine q ?_
 replace hR:=(hR.mono (Ext.drew _)).mono e4
 refine cl rfl (LenR_ok hR) ?_
 rintro v5 w5 ⟨rfl,e5⟩
 refine q ?_
 replace hR:=hR.mono e5
 exact fin2 rfl rfl ⟨rfl,hR,ch⟩
theorem readMapHeader_ok{rb n:Nat}{c:UInt8}{hd t r:List UInt8}{w:World}(hh:Hd 0xc1 0xd1 c hd n t)(hR:Rd w rb (c::(hd++(t++r)))):
  Does TP 203 [.pointer (some ⟨rb,0,none⟩)] w fun u w'=>u= .tuple #[.int .u32 (n:Int),.nilIface]∧Rd w' rb (t++r)∧Evo (Nb rb) w w':=by
 rcases hh with⟨s,k,rfl,rfl,h1,rfl,h3⟩|⟨a,b,d,e,f,g,h,i,rfl,rfl,h1,rfl,h3,h4⟩
 ·refine do2 Tryz.func203 ?_
  refine q ?_
  refine cl rfl (peekType_ok hR) ?_
  rintro v1 w1 ⟨rfl,e1⟩
  refine q ?_
  replace hR:=hR.mono e1
  refine cl rfl (ReadByte_ok hR) ?_
  rintro v2 w2 ⟨rfl,hR,e2⟩
  refine q ?_
  refine cl rfl (readMap8Header_ok h1 h3 hR) ?_
  rintro v3 w3 ⟨rfl,hR,e3⟩
  refine q ?_
  exact fin2 rfl rfl ⟨rfl,hR,ch⟩
 ·refine do2 Tryz.func203 ?_
  refine q ?_
  refine cl rfl (peekType_ok hR) ?_
  rintro v1 w1 ⟨rfl,e1⟩
  refine q ?_
  replace hR:=hR.mono e1
  refine cl rfl (ReadByte_ok hR) ?_
  rintro v2 w2 ⟨rfl,hR,e2⟩
  refine q ?_
  refine cl rfl (readMap32Header_ok h1 h4 h3 hR) ?_
  rintro v3 w3 ⟨rfl,hR,e3⟩
  refine q ?_
  exact fin2 rfl rfl ⟨rfl,hR,ch⟩
end Go.Proofs.LL
