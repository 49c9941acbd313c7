/- Contracts of functions and own laws. Conditions: those that each theorem states. -/
import Derived.Test.YtdgbmbjkbmpcbaaGreatDoorV23
set_option linter.all false
set_option autoImplicit true
set_option relaxedAutoImplicit true
set_option maxRecDepth 20000
namespace Go.Proofs.LL
open Go Go.Proofs Go.RowKit
set_option maxHeartbeats 4000000
attribute [local irreducible] ar WL WC cq WT WX
theorem gB{A:Prop}(h:A:=by
 have he:=Hi w
 refine q ?_
 have:=he.s
 refine Ha fun w1 hb1 e1=>?_
 refine q ?_
 refine Hq (az (cs:=[_,_,_,_,_,_]) Fo.h rfl rfl) ?_
 replace he:=he.t e1
 have:=he.s
 have:=hb1.lt
 refine Ha fun w2 hb2 e2=>?_
 refine Ho rfl rfl hb2 fun w3 hb2 e3 hz3=>?_
 refine q ?_
 have:=hb2.lt
 replace hA:=(hA.m e1).m (e2.t e3)
 replace hb1:=hb1.m (e2.t e3)
 replace he:=he.t (e2.t e3)
 refine WC.loop2 (ι:=Nat) [(0,_),(2,_),(6,_),(7,_),(12,_),(13,_)] (fun i=>[(14,.int .i64 (i:Int))]) (fun i wi=>(∃sv,aH wi w1.heap.size [.int .i64 23,.int .u64 0,.string ⟨#[]⟩,sv,.int .i64 k,.slice none 0 0]∧aT w3.heap.size 87 6 wi sv i ((ns.take i).flatMap fun n=>vc k n []))∧i≤ns.length∧am (fun b=>b<w3.heap.size∧b≠w1.heap.size) w3 wi) (fun i=>ns.length-i) 0 sb sb (⟨⟨_,hb2,aT.nil _ _ _ _⟩,Nat.zero_le _,am.refl _⟩) ?_
 intro i wi1 hh;obtain⟨⟨sv,hb2,hO⟩,hil,hE⟩:=hh
 have:=hE.s
 rcases Nat.lt_or_ge i ns.length with hi|hi
 ·have hie:i<es.length:=by omega
  replace hA:=hA.m hE
  replace he:=he.t hE
  refine q ?_
  refine Hq (ao Fb.h rfl Xr (hA.get (List.getElem?_eq_getElem hie))) ?_
  refine q ?_
  replace hb1:=hb1.m hE
  refine WC.regionDL 10 (tt [0,1,2,3,4]++ff [5]++tt [6]++ff [7,8]++tt [9]++ff [10]) (am (fun b=>b<w3.heap.size) _) mixed (by kernel_rfl) Vd<|q ?_
  refine WD.l rfl rfl (jL hbf rfl rfl (hf i hi hie _ ((he.t Xd).k fun k hk _=>hk))) ?_
  rintro v4 w4 ⟨rfl,e4⟩
  refine⟨(Vd.t e4),?_⟩
  refine He (fun _ hS=>az (cs:=[_,_,_,_,_,_]) Fo.h rfl rfl) ?_
  replace he:=(he.t Xd).t e4
  have:=he.s
  replace hb1:=(hb1.m Xd).m e4
  have:=hb1.lt
  replace hb2:=(hb2.m Xd).m e4
  have:=hb2.lt
  refine WD.l rfl rfl (ll [_]) ?_
  rintro _ w5 ⟨rfl,hb5,e5⟩
  refine⟨((Vd.t e4).t e5),?_⟩
  refine WD.l rfl rfl (bz Fo.h rfl rfl (((hO.m Xd).m e4).m e5) (Src.at Fb.h hb5.at rfl rfl) (by have:=(ay.drew wi1).size;have:=e4.s;have:=e5.s;omega) (by simp only[maxLen];omega) (by omega)) ?_
  rintro v6 w6 ⟨hO,e6⟩
  obtain⟨q6,c6,rfl,_,_⟩:=hO.form
  refine⟨(((Vd.t e4).t e5).t e6),?_⟩
  refine q ?_
  replace hb2:=(hb2.m e5).m e6
  refine WD.l0L rfl rfl (lst rfl rfl hb2) ?_
  rintro _ w7 ⟨hb2,e7,hz7⟩
  refine q ?_
  replace hO:=hO.m e7
  replace he:=((he.t e5).t e6).t e7
  have hO2:=(show aT _ _ _ _ _ (i+1) (_++vc k ns[i] [])from hO)
  rw[← show(ns.take (i+1)).flatMap (fun n=>vc k n [])=(ns.take i).flatMap (fun n=>vc k n [])++vc k ns[i] []from ly _ ns hi]at hO2
  exact⟨i+1,sb,sb,⟨⟨_,hb2,hO2⟩,by omega,((((((hE.t Xd).t e4).t e5).t e6).t e7))⟩,by omega⟩
 ·have hin:i=ns.length:=by omega
  subst hin
  obtain⟨q0,c0,rfl,_,_⟩:=hO.form
  refine q ?_
  replace hb1:=hb1.m hE
  refine Ho rfl rfl hb1 fun w4 hb1 e4 hz4=>?_
  refine q ?_
  replace hO:=hO.m e4
  replace he:=(he.t hE).t e4
  rw[List.take_length]at hO
  exact cO rfl hb1 bR ⟨_,rfl,by rw[aC];exact⟨_,_,rfl,cM.own hO (by simp) (ag.flat _ _ (fun n=>aC.plain _ _ _) ns) (fun b h _=>by show _≤b;omega),cM.nil⟩,he.k fun k hk _=>hk⟩):A:=h
theorem vF{A:Prop}(h:A:=by
 have he:=Hi w
 refine q ?_
 have:=he.s
 refine Ha fun w1 hb1 e1=>?_
 refine q ?_
 refine Hq (az (cs:=[_,_,_,_,_,_]) Fo.h rfl rfl) ?_
 replace he:=he.t e1
 have:=he.s
 have:=hb1.lt
 refine Ha fun w2 hb2 e2=>?_
 refine Ho rfl rfl hb2 fun w3 hb2 e3 hz3=>?_
 refine q ?_
 have:=hb2.lt
 replace hA:=(hA.m e1).m (e2.t e3)
 replace hb1:=hb1.m (e2.t e3)
 replace he:=he.t (e2.t e3)
 refine WC.loop2 (ι:=Nat) [(0,_),(2,_),(6,_),(7,_),(12,_),(13,_)] (fun i=>[(14,.int .i64 (i:Int))]) (fun i wi=>(∃sv,aH wi w1.heap.size [.int .i64 23,.int .u64 0,.string ⟨#[]⟩,sv,.int .i64 k,.slice none 0 0]∧aT w3.heap.size 87 6 wi sv i ((ns.take i).flatMap fun n=>vc k 0 n))∧i≤ns.length∧am (fun b=>b<w3.heap.size∧b≠w1.heap.size) w3 wi) (fun i=>ns.length-i) 0 sb sb (⟨⟨_,hb2,aT.nil _ _ _ _⟩,Nat.zero_le _,am.refl _⟩) ?_
 intro i wi1 hh;obtain⟨⟨sv,hb2,hO⟩,hil,hE⟩:=hh
 have:=hE.s
 rcases Nat.lt_or_ge i ns.length with hi|hi
 ·have hie:i<es.length:=by omega
  replace hA:=hA.m hE
  replace he:=he.t hE
  refine q ?_
  refine Hq (ao Fb.h rfl Xr (hA.get (List.getElem?_eq_getElem hie))) ?_
  refine q ?_
  replace hb1:=hb1.m hE
  refine WC.regionDL 10 (tt [0,1,2,3,4]++ff [5]++tt [6]++ff [7,8]++tt [9]++ff [10]) (am (fun b=>b<w3.heap.size) _) mixed (by kernel_rfl) Vd<|q ?_
  refine WD.l rfl rfl (jL hbf rfl rfl (hf i hi hie _ ((he.t Xd).k fun k hk _=>hk))) ?_
  rintro v4 w4 ⟨rfl,e4⟩
  refine⟨(Vd.t e4),?_⟩
  refine He (fun _ hS=>az (cs:=[_,_,_,_,_,_]) Fo.h rfl rfl) ?_
  replace he:=(he.t Xd).t e4
  have:=he.s
  replace hb1:=(hb1.m Xd).m e4
  have:=hb1.lt
  replace hb2:=(hb2.m Xd).m e4
  have:=hb2.lt
  refine WD.l rfl rfl (ll [_]) ?_
  rintro _ w5 ⟨rfl,hb5,e5⟩
  refine⟨((Vd.t e4).t e5),?_⟩
  refine WD.l rfl rfl (bz Fo.h rfl rfl (((hO.m Xd).m e4).m e5) (Src.at Fb.h hb5.at rfl rfl) (by have:=(ay.drew wi1).size;have:=e4.s;have:=e5.s;omega) (by simp only[maxLen];omega) (by omega)) ?_
  rintro v6 w6 ⟨hO,e6⟩
  obtain⟨q6,c6,rfl,_,_⟩:=hO.form
  refine⟨(((Vd.t e4).t e5).t e6),?_⟩
  refine q ?_
  replace hb2:=(hb2.m e5).m e6
  refine WD.l0L rfl rfl (lst rfl rfl hb2) ?_
  rintro _ w7 ⟨hb2,e7,hz7⟩
  refine q ?_
  replace hO:=hO.m e7
  replace he:=((he.t e5).t e6).t e7
  have hO2:=(show aT _ _ _ _ _ (i+1) (_++vc k 0 ns[i])from hO)
  rw[← show(ns.take (i+1)).flatMap (fun n=>vc k 0 n)=(ns.take i).flatMap (fun n=>vc k 0 n)++vc k 0 ns[i]from ly _ ns hi]at hO2
  exact⟨i+1,sb,sb,⟨⟨_,hb2,hO2⟩,by omega,((((((hE.t Xd).t e4).t e5).t e6).t e7))⟩,by omega⟩
 ·have hin:i=ns.length:=by omega
  subst hin
  obtain⟨q0,c0,rfl,_,_⟩:=hO.form
  refine q ?_
  replace hb1:=hb1.m hE
  refine Ho rfl rfl hb1 fun w4 hb1 e4 hz4=>?_
  refine q ?_
  replace hO:=hO.m e4
  replace he:=(he.t hE).t e4
  rw[List.take_length]at hO
  exact cO rfl hb1 bR ⟨_,rfl,by rw[aC];exact⟨_,_,rfl,cM.own hO (by simp) (ag.flat _ _ (fun n=>aC.plain _ _ _) ns) (fun b h _=>by show _≤b;omega),cM.nil⟩,he.k fun k hk _=>hk⟩):A:=h
theorem Ap{A:Prop}(h:A:=by
 have hin:i=ns.length:=by omega
 subst hin
 obtain⟨q0,c0,rfl,_,_⟩:=hO.form
 refine q ?_
 replace hb1:=hb1.m hE
 refine Ho rfl rfl hb1 fun w4 hb1 e4 hz4=>?_
 refine q ?_
 replace hO:=hO.m e4
 replace he:=(he.t hE).t e4
 rw[List.take_length]at hO
 exact cO rfl hb1 bR ⟨_,rfl,by rw[aC];exact⟨_,_,rfl,cM.own hO (by simp) (ag.flat _ _ (fun n=>aC.plain _ _ _) ns) (fun b h _=>by show _≤b;omega),cM.nil⟩,he.k fun k hk _=>hk⟩):A:=h
theorem Aq{A:Prop}(h:A:=by
 exact⟨i+1,sb,sb,⟨⟨_,hb2,hO2⟩,by omega,(((((((hE.t (e4.t e5)).t Xd).t e6).t e7).t e8).t e9))⟩,by omega⟩):A:=h
theorem qH:∀ {es:List (List Value)} {i:Nat},(∀e∈es,e.length=k)→(hi:i<es.length)→At w b o es.flatten→At w b (o+i * k) es[i]
 |[],i,_,hi,_=>absurd hi (by simp)
 |e::r,0,hk,hi,h=>by
  have h2:At w b o ([]++(e++r.flatten)):=by simpa using h
  have:=h2.mid
  simpa using this
 |e::r,i+1,hk,hi,h=>by
  have h2:At w b o (e++(r.flatten++[])):=by simpa using h
  have h3:=h2.mid
  have h4:=qH (k:=k) (i:=i) (fun e he=>hk e (by simp[he])) (by simpa using hi) h3
  rw[hk e (by simp)]at h4
  have:o+(i+1) * k=o+k+i * k:=by rw[Nat.add_mul,Nat.one_mul];omega
  rw[this]
  exact h4
theorem aT.low'(h:aT B e z w v n xs):∀b,v.ownBlock=some b→B≤b∧b<w.heap.size:=by
 intro b hb
 rcases h.row.2 with⟨rfl,_⟩|⟨g,cap,cur,rfl,h4,h5,_⟩
 ·simp[Value.ownBlock]at hb
 ·simp[Value.ownBlock]at hb
  subst hb
  exact⟨h4,(Array.getElem?_eq_some_iff.1 h5).1⟩
theorem y9{e z bs:Nat}{zv:Value}(ht:fG P t=some (e,z,bs,zv))(hs:ov ρ s=some v)(hx:ov ρ x=some u)(hown:aT B e z w v n xs)(hsrc:Src P z tx u m news w)
  (hB:B≤w.heap.size) (h63:n+m≤maxLen) (hbytes:(n+m) * bs≤140737488355328) (hlow:∀b,v.ownBlock=some b→B≤b∧b<N0):
  aA P (.call ⟨.builtin .append, #[s,x], #[t,tx]⟩) ty ρ w (fun v' w'=>aT B e z w' v' (n+m) (xs++news)∧am (fun k=>k<B∨N0≤k) w w'):=by
 intro N D a dst pos af g ha next Q hn
 refine sM ht hs hx hown.row hB hsrc h63 hbytes N D a dst pos af g ha next Q fun v' w' h=>hn v' w' ⟨⟨h.1⟩,h.2.k fun k _ hk hv=>?_⟩
 have:=hlow k hv
 omega
theorem ly{α:Type}(f:α→List Value)(l:List α)(hi:i<l.length):(l.take (i+1)).flatMap f=(l.take i).flatMap f++f l[i]:=by
 rw[← List.take_append_getElem hi,List.flatMap_append]
 simp
theorem zy{es:List Value}{ns:List (Nat)}{k:Int}(hes:es.length=ns.length)(hle:ns.length≤65536)(hA:At w g o es)(hg:g<w.heap.size)(hbf:cH TP f=true)
  (hf:∀i (h:i<ns.length) (h2:i<es.length) (w1:World),ay w w1→ah TP f [es[i]] w1 fun u w'=>u= .int .u64 (ns[i]:Int)∧ay w1 w'):
  ah TP 143 [.int .i64 k,.slice (some ⟨g,o,none⟩) ns.length c,.func (.func f) #[] #[]] w fun u w'=>∃cells,u= .agg cells.toArray∧aC (fun b=>w.heap.size≤b) w' (.mk 23 0 [] (ns.map fun n=>pv k n []) k []) cells∧ay w w':=by
 refine co Tryz.func143 ?_
 exact gB
theorem DW{es:List Value}{ns:List (Nat)}{k:Int}(hes:es.length=ns.length)(hle:ns.length≤65536)(hA:At w g o es)(hg:g<w.heap.size)(hbf:cH TP f=true)
  (hf:∀i (h:i<ns.length) (h2:i<es.length) (w1:World),ay w w1→ah TP f [es[i]] w1 fun u w'=>u= .int .u64 (ns[i]:Int)∧ay w1 w'):
  ah TP 144 [.int .i64 k,.slice (some ⟨g,o,none⟩) ns.length c,.func (.func f) #[] #[]] w fun u w'=>∃cells,u= .agg cells.toArray∧aC (fun b=>w.heap.size≤b) w' (.mk 23 0 [] (ns.map fun n=>pv k n []) k []) cells∧ay w w':=by
 refine co Tryz.func144 ?_
 exact gB
theorem BL{es:List Value}{ns:List (Nat)}{k:Int}(hes:es.length=ns.length)(hle:ns.length≤65536)(hA:At w g o es)(hg:g<w.heap.size)(hbf:cH TP f=true)
  (hf:∀i (h:i<ns.length) (h2:i<es.length) (w1:World),ay w w1→ah TP f [es[i]] w1 fun u w'=>u= .int .u64 (ns[i]:Int)∧ay w1 w'):
  ah TP 146 [.int .i64 k,.slice (some ⟨g,o,none⟩) ns.length c,.func (.func f) #[] #[]] w fun u w'=>∃cells,u= .agg cells.toArray∧aC (fun b=>w.heap.size≤b) w' (.mk 23 0 [] (ns.map fun n=>pv k n []) k []) cells∧ay w w':=by
 refine co Tryz.func146 ?_
 exact gB
theorem BM{es:List Value}{ns:List (Nat)}{k:Int}(hes:es.length=ns.length)(hle:ns.length≤65536)(hA:At w g o es)(hg:g<w.heap.size)(hbf:cH TP f=true)
  (hf:∀i (h:i<ns.length) (h2:i<es.length) (w1:World),ay w w1→ah TP f [es[i]] w1 fun u w'=>u= .int .u64 (ns[i]:Int)∧ay w1 w'):
  ah TP 148 [.int .i64 k,.slice (some ⟨g,o,none⟩) ns.length c,.func (.func f) #[] #[]] w fun u w'=>∃cells,u= .agg cells.toArray∧aC (fun b=>w.heap.size≤b) w' (.mk 23 0 [] (ns.map fun n=>pv k n []) k []) cells∧ay w w':=by
 refine co Tryz.func148 ?_
 exact gB
theorem BN{es:List Value}{ns:List (Nat)}{k:Int}(hes:es.length=ns.length)(hle:ns.length≤65536)(hA:At w g o es)(hg:g<w.heap.size)(hbf:cH TP f=true)
  (hf:∀i (h:i<ns.length) (h2:i<es.length) (w1:World),ay w w1→ah TP f [es[i]] w1 fun u w'=>u= .int .u64 (ns[i]:Int)∧ay w1 w'):
  ah TP 150 [.int .i64 k,.slice (some ⟨g,o,none⟩) ns.length c,.func (.func f) #[] #[]] w fun u w'=>∃cells,u= .agg cells.toArray∧aC (fun b=>w.heap.size≤b) w' (.mk 23 0 [] (ns.map fun n=>pv k n []) k []) cells∧ay w w':=by
 refine co Tryz.func150 ?_
 exact gB
theorem DV{es:List Value}{ns:List (Nat)}{k:Int}(hes:es.length=ns.length)(hle:ns.length≤65536)(hA:At w g o es)(hg:g<w.heap.size)(hbf:cH TP f=true)
  (hf:∀i (h:i<ns.length) (h2:i<es.length) (w1:World),ay w w1→ah TP f [es[i]] w1 fun u w'=>u= .int .u64 (ns[i]:Int)∧ay w1 w'):
  ah TP 152 [.int .i64 k,.slice (some ⟨g,o,none⟩) ns.length c,.func (.func f) #[] #[]] w fun u w'=>∃cells,u= .agg cells.toArray∧aC (fun b=>w.heap.size≤b) w' (.mk 23 0 [] (ns.map fun n=>pv k n []) k []) cells∧ay w w':=by
 refine co Tryz.func152 ?_
 exact gB
theorem BI{es:List Value}{ns:List (Nat)}{k:Int}(hes:es.length=ns.length)(hle:ns.length≤65536)(hA:At w g o es)(hg:g<w.heap.size)(hbf:cH TP f=true)
  (hf:∀i (h:i<ns.length) (h2:i<es.length) (w1:World),ay w w1→ah TP f [es[i]] w1 fun u w'=>u= .int .u64 (ns[i]:Int)∧ay w1 w'):
  ah TP 154 [.int .i64 k,.slice (some ⟨g,o,none⟩) ns.length c,.func (.func f) #[] #[]] w fun u w'=>∃cells,u= .agg cells.toArray∧aC (fun b=>w.heap.size≤b) w' (.mk 23 0 [] (ns.map fun n=>pv k n []) k []) cells∧ay w w':=by
 refine co Tryz.func154 ?_
 exact gB
theorem BJ{es:List Value}{ns:List (Nat)}{k:Int}(hes:es.length=ns.length)(hle:ns.length≤65536)(hA:At w g o es)(hg:g<w.heap.size)(hbf:cH TP f=true)
  (hf:∀i (h:i<ns.length) (h2:i<es.length) (w1:World),ay w w1→ah TP f [es[i]] w1 fun u w'=>u= .int .u64 (ns[i]:Int)∧ay w1 w'):
  ah TP 156 [.int .i64 k,.slice (some ⟨g,o,none⟩) ns.length c,.func (.func f) #[] #[]] w fun u w'=>∃cells,u= .agg cells.toArray∧aC (fun b=>w.heap.size≤b) w' (.mk 23 0 [] (ns.map fun n=>pv k n []) k []) cells∧ay w w':=by
 refine co Tryz.func156 ?_
 exact gB
theorem BK{es:List Value}{ns:List (Nat)}{k:Int}(hes:es.length=ns.length)(hle:ns.length≤65536)(hA:At w g o es)(hg:g<w.heap.size)(hbf:cH TP f=true)
  (hf:∀i (h:i<ns.length) (h2:i<es.length) (w1:World),ay w w1→ah TP f [es[i]] w1 fun u w'=>u= .int .u64 (ns[i]:Int)∧ay w1 w'):
  ah TP 158 [.int .i64 k,.slice (some ⟨g,o,none⟩) ns.length c,.func (.func f) #[] #[]] w fun u w'=>∃cells,u= .agg cells.toArray∧aC (fun b=>w.heap.size≤b) w' (.mk 23 0 [] (ns.map fun n=>pv k n []) k []) cells∧ay w w':=by
 refine co Tryz.func158 ?_
 exact gB
theorem BH{es:List Value}{ns:List (Nat)}{k:Int}(hes:es.length=ns.length)(hle:ns.length≤65536)(hA:At w g o es)(hg:g<w.heap.size)(hbf:cH TP f=true)
  (hf:∀i (h:i<ns.length) (h2:i<es.length) (w1:World),ay w w1→ah TP f [es[i]] w1 fun u w'=>u= .int .u64 (ns[i]:Int)∧ay w1 w'):
  ah TP 160 [.int .i64 k,.slice (some ⟨g,o,none⟩) ns.length c,.func (.func f) #[] #[]] w fun u w'=>∃cells,u= .agg cells.toArray∧aC (fun b=>w.heap.size≤b) w' (.mk 23 0 [] (ns.map fun n=>pv k n []) k []) cells∧ay w w':=by
 refine co Tryz.func160 ?_
 exact gB
theorem Ca{es:List Value}{ns:List (List UInt8)}{k:Int}(hes:es.length=ns.length)(hle:ns.length≤65536)(hA:At w g o es)(hg:g<w.heap.size)(hbf:cH TP f=true)
  (hf:∀i (h:i<ns.length) (h2:i<es.length) (w1:World),ay w w1→ah TP f [es[i]] w1 fun u w'=>u=str ns[i]∧ay w1 w'):
  ah TP 167 [.int .i64 k,.slice (some ⟨g,o,none⟩) ns.length c,.func (.func f) #[] #[]] w fun u w'=>∃cells,u= .agg cells.toArray∧aC (fun b=>w.heap.size≤b) w' (.mk 23 0 [] (ns.map fun n=>pv k 0 n) k []) cells∧ay w w':=by
 refine co Tryz.func167 ?_
 exact vF
theorem Cb{es:List Value}{ns:List (List UInt8)}{k:Int}(hes:es.length=ns.length)(hle:ns.length≤65536)(hA:At w g o es)(hg:g<w.heap.size)(hbf:cH TP f=true)
  (hf:∀i (h:i<ns.length) (h2:i<es.length) (w1:World),ay w w1→ah TP f [es[i]] w1 fun u w'=>u=str ns[i]∧ay w1 w'):
  ah TP 169 [.int .i64 k,.slice (some ⟨g,o,none⟩) ns.length c,.func (.func f) #[] #[]] w fun u w'=>∃cells,u= .agg cells.toArray∧aC (fun b=>w.heap.size≤b) w' (.mk 23 0 [] (ns.map fun n=>pv k 0 n) k []) cells∧ay w w':=by
 refine co Tryz.func169 ?_
 exact vF
theorem Cc{es:List Value}{ns:List (List UInt8)}{k:Int}(hes:es.length=ns.length)(hle:ns.length≤65536)(hA:At w g o es)(hg:g<w.heap.size)(hbf:cH TP f=true)
  (hf:∀i (h:i<ns.length) (h2:i<es.length) (w1:World),ay w w1→ah TP f [es[i]] w1 fun u w'=>u=str ns[i]∧ay w1 w'):
  ah TP 171 [.int .i64 k,.slice (some ⟨g,o,none⟩) ns.length c,.func (.func f) #[] #[]] w fun u w'=>∃cells,u= .agg cells.toArray∧aC (fun b=>w.heap.size≤b) w' (.mk 23 0 [] (ns.map fun n=>pv k 0 n) k []) cells∧ay w w':=by
 refine co Tryz.func171 ?_
 exact vF
theorem zA{es:List (List Value)}{ns:List (Nat)}{k:Int}(hes:es.length=ns.length)(hz:∀e∈es,e.length=2∧e.all (fun v=>v.oneCell')=true)(hle:ns.length≤65536)(hA:At w g o es.flatten)(hg:g<w.heap.size)(hbf:cH TP f=true)
  (hf:∀i (h:i<ns.length) (h2:i<es.length) (w1:World),ay w w1→ah TP f [.agg es[i].toArray] w1 fun u w'=>u= .int .u64 (ns[i]:Int)∧ay w1 w'):
  ah TP 163 [.int .i64 k,.slice (some ⟨g,o,none⟩) ns.length c,.func (.func f) #[] #[]] w fun u w'=>∃cells,u= .agg cells.toArray∧aC (fun b=>w.heap.size≤b) w' (.mk 23 0 [] (ns.map fun n=>pv k n []) k []) cells∧ay w w':=by
 refine co Tryz.func163 ?_
 have he:=Hi w
 refine q ?_
 have:=he.s
 refine Ha fun w1 hb1 e1=>?_
 refine q ?_
 refine Hq (az (cs:=[_,_,_,_,_,_]) Fo.h rfl rfl) ?_
 replace he:=he.t e1
 have:=he.s
 have:=hb1.lt
 refine Ha fun w2 hb2 e2=>?_
 refine Ho rfl rfl hb2 fun w3 hb2 e3 hz3=>?_
 refine q ?_
 have:=hb2.lt
 replace hA:=(hA.m e1).m (e2.t e3)
 replace hb1:=hb1.m (e2.t e3)
 replace he:=he.t (e2.t e3)
 refine WC.loop2 (ι:=Nat) [(0,_),(2,_),(6,_),(7,_),(12,_),(13,_)] (fun i=>[(14,.int .i64 (i:Int))]) (fun i wi=>(∃sv,aH wi w1.heap.size [.int .i64 23,.int .u64 0,.string ⟨#[]⟩,sv,.int .i64 k,.slice none 0 0]∧aT w3.heap.size 87 6 wi sv i ((ns.take i).flatMap fun n=>vc k n []))∧i≤ns.length∧am (fun b=>b<w3.heap.size∧b≠w1.heap.size) w3 wi) (fun i=>ns.length-i) 0 sb sb (⟨⟨_,hb2,aT.nil _ _ _ _⟩,Nat.zero_le _,am.refl _⟩) ?_
 intro i wi1 hh;obtain⟨⟨sv,hb2,hO⟩,hil,hE⟩:=hh
 have:=hE.s
 rcases Nat.lt_or_ge i ns.length with hi|hi
 ·have hie:i<es.length:=by omega
  replace hA:=hA.m hE
  replace he:=he.t hE
  have hAi:=qH (k:=2) (fun e he=>(hz e he).1) hie hA
  have hzi:=hz _ (List.getElem_mem hie)
  have hall:=hzi.2
  have hlow:=hO.low'
  refine q ?_
  refine Hq (ad Fo.h rfl Xr hAi (hn:=hzi.1)) ?_
  have:=he.s
  replace hb1:=hb1.m hE
  have:=hb1.lt
  have:=hb2.lt
  refine Ha fun w4 hb4 e4=>?_
  refine Ho rfl rfl hb4 fun w5 hb4 e5 hz5=>?_
  refine q ?_
  replace hA:=hA.m (e4.t e5)
  replace hb1:=hb1.m (e4.t e5)
  replace hb2:=hb2.m (e4.t e5)
  replace hO:=hO.m (e4.t e5)
  refine WC.regionDL 10 (tt [0,1,2,3,4]++ff [5]++tt [6]++ff [7,8]++tt [9]++ff [10]) (am (fun b=>b<w3.heap.size∨wi1.heap.size≤b) _) mixed (by kernel_rfl) Vd<|q ?_
  refine He (fun _ hS=>ad Fo.h rfl hS hb4.at (hn:=hzi.1))<|WD.l rfl rfl (jL hbf rfl rfl (hf i hi hie _ ((((he.t e4).t e5).t Xd).k fun k hk _=>hk))) ?_
  rintro v6 w6 ⟨rfl,e6⟩
  refine⟨(Vd.t e6),?_⟩
  refine He (fun _ hS=>az (cs:=[_,_,_,_,_,_]) Fo.h rfl rfl) ?_
  replace he:=((he.t (e4.t e5)).t Xd).t e6
  have:=he.s
  replace hb1:=(hb1.m Xd).m e6
  have:=hb1.lt
  replace hb2:=(hb2.m Xd).m e6
  have:=hb2.lt
  replace hb4:=(hb4.m Xd).m e6
  have:=hb4.lt
  refine WD.l rfl rfl (ll [_]) ?_
  rintro _ w7 ⟨rfl,hb7,e7⟩
  refine⟨((Vd.t e6).t e7),?_⟩
  refine WD.l rfl rfl (y9 Fo.h rfl rfl (((hO.m Xd).m e6).m e7) (Src.at Fb.h hb7.at rfl rfl) (by have:=e4.s;have:=e5.s;have:=(ay.drew w5).size;have:=e6.s;have:=e7.s;omega) (by simp only[maxLen];omega) (by omega) hlow) ?_
  rintro v8 w8 ⟨hO,e8⟩
  obtain⟨q8,c8,rfl,_,_⟩:=hO.form
  refine⟨(((Vd.t e6).t e7).t e8),?_⟩
  refine q ?_
  replace hb2:=(hb2.m e7).m e8
  refine WD.l0L rfl rfl (lst rfl rfl hb2) ?_
  rintro _ w9 ⟨hb2,e9,hz9⟩
  refine q ?_
  replace hO:=hO.m e9
  replace he:=((he.t e7).t e8).t e9
  have hO2:=(show aT _ _ _ _ _ (i+1) (_++vc k ns[i] [])from hO)
  rw[← show(ns.take (i+1)).flatMap (fun n=>vc k n [])=(ns.take i).flatMap (fun n=>vc k n [])++vc k ns[i] []from ly _ ns hi]at hO2
  exact Aq
 ·exact Ap
theorem Ae{es:List (List Value)}{ns:List (List UInt8)}{k:Int}(hes:es.length=ns.length)(hz:∀e∈es,e.length=16∧e.all (fun v=>v.oneCell')=true)(hle:ns.length≤65536)(hA:At w g o es.flatten)(hg:g<w.heap.size)(hbf:cH TP f=true)
  (hf:∀i (h:i<ns.length) (h2:i<es.length) (w1:World),ay w w1→ah TP f [.agg es[i].toArray] w1 fun u w'=>u=str ns[i]∧ay w1 w'):
  ah TP 165 [.int .i64 k,.slice (some ⟨g,o,none⟩) ns.length c,.func (.func f) #[] #[]] w fun u w'=>∃cells,u= .agg cells.toArray∧aC (fun b=>w.heap.size≤b) w' (.mk 23 0 [] (ns.map fun n=>pv k 0 n) k []) cells∧ay w w':=by
 refine co Tryz.func165 ?_
 have he:=Hi w
 refine q ?_
 have:=he.s
 refine Ha fun w1 hb1 e1=>?_
 refine q ?_
 refine Hq (az (cs:=[_,_,_,_,_,_]) Fo.h rfl rfl) ?_
 replace he:=he.t e1
 have:=he.s
 have:=hb1.lt
 refine Ha fun w2 hb2 e2=>?_
 refine Ho rfl rfl hb2 fun w3 hb2 e3 hz3=>?_
 refine q ?_
 have:=hb2.lt
 replace hA:=(hA.m e1).m (e2.t e3)
 replace hb1:=hb1.m (e2.t e3)
 replace he:=he.t (e2.t e3)
 refine WC.loop2 (ι:=Nat) [(0,_),(2,_),(6,_),(7,_),(12,_),(13,_)] (fun i=>[(14,.int .i64 (i:Int))]) (fun i wi=>(∃sv,aH wi w1.heap.size [.int .i64 23,.int .u64 0,.string ⟨#[]⟩,sv,.int .i64 k,.slice none 0 0]∧aT w3.heap.size 87 6 wi sv i ((ns.take i).flatMap fun n=>vc k 0 n))∧i≤ns.length∧am (fun b=>b<w3.heap.size∧b≠w1.heap.size) w3 wi) (fun i=>ns.length-i) 0 sb sb (⟨⟨_,hb2,aT.nil _ _ _ _⟩,Nat.zero_le _,am.refl _⟩) ?_
 intro i wi1 hh;obtain⟨⟨sv,hb2,hO⟩,hil,hE⟩:=hh
 have:=hE.s
 rcases Nat.lt_or_ge i ns.length with hi|hi
 ·have hie:i<es.length:=by omega
  replace hA:=hA.m hE
  replace he:=he.t hE
  have hAi:=qH (k:=16) (fun e he=>(hz e he).1) hie hA
  have hzi:=hz _ (List.getElem_mem hie)
  have hall:=hzi.2
  have hlow:=hO.low'
  refine q ?_
  refine Hq (ad Fo.h rfl Xr hAi (hn:=hzi.1)) ?_
  have:=he.s
  replace hb1:=hb1.m hE
  have:=hb1.lt
  have:=hb2.lt
  refine Ha fun w4 hb4 e4=>?_
  refine Ho rfl rfl hb4 fun w5 hb4 e5 hz5=>?_
  refine q ?_
  replace hA:=hA.m (e4.t e5)
  replace hb1:=hb1.m (e4.t e5)
  replace hb2:=hb2.m (e4.t e5)
  replace hO:=hO.m (e4.t e5)
  refine WC.regionDL 10 (tt [0,1,2,3,4]++ff [5]++tt [6]++ff [7,8]++tt [9]++ff [10]) (am (fun b=>b<w3.heap.size∨wi1.heap.size≤b) _) mixed (by kernel_rfl) Vd<|q ?_
  refine He (fun _ hS=>ad Fo.h rfl hS hb4.at (hn:=hzi.1))<|WD.l rfl rfl (jL hbf rfl rfl (hf i hi hie _ ((((he.t e4).t e5).t Xd).k fun k hk _=>hk))) ?_
  rintro v6 w6 ⟨rfl,e6⟩
  refine⟨(Vd.t e6),?_⟩
  refine He (fun _ hS=>az (cs:=[_,_,_,_,_,_]) Fo.h rfl rfl) ?_
  replace he:=((he.t (e4.t e5)).t Xd).t e6
  have:=he.s
  replace hb1:=(hb1.m Xd).m e6
  have:=hb1.lt
  replace hb2:=(hb2.m Xd).m e6
  have:=hb2.lt
  replace hb4:=(hb4.m Xd).m e6
  have:=hb4.lt
  refine WD.l rfl rfl (ll [_]) ?_
  rintro _ w7 ⟨rfl,hb7,e7⟩
  refine⟨((Vd.t e6).t e7),?_⟩
  refine WD.l rfl rfl (y9 Fo.h rfl rfl (((hO.m Xd).m e6).m e7) (Src.at Fb.h hb7.at rfl rfl) (by have:=e4.s;have:=e5.s;have:=(ay.drew w5).size;have:=e6.s;have:=e7.s;omega) (by simp only[maxLen];omega) (by omega) hlow) ?_
  rintro v8 w8 ⟨hO,e8⟩
  obtain⟨q8,c8,rfl,_,_⟩:=hO.form
  refine⟨(((Vd.t e6).t e7).t e8),?_⟩
  refine q ?_
  replace hb2:=(hb2.m e7).m e8
  refine WD.l0L rfl rfl (lst rfl rfl hb2) ?_
  rintro _ w9 ⟨hb2,e9,hz9⟩
  refine q ?_
  replace hO:=hO.m e9
  replace he:=((he.t e7).t e8).t e9
  have hO2:=(show aT _ _ _ _ _ (i+1) (_++vc k 0 ns[i])from hO)
  rw[← show(ns.take (i+1)).flatMap (fun n=>vc k 0 n)=(ns.take i).flatMap (fun n=>vc k 0 n)++vc k 0 ns[i]from ly _ ns hi]at hO2
  exact Aq
 ·exact Ap
end Go.Proofs.LL
