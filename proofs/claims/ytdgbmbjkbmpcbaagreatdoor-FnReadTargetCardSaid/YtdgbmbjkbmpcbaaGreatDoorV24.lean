/- Own laws of frames, operations and loops, and contracts of functions of the program. Conditions: those that each theorem states. -/
import Derived.Test.YtdgbmbjkbmpcbaaGreatDoorV23
set_option linter.all false
set_option maxRecDepth 20000
namespace Go.Proofs.LL
open Go Go.Proofs Go.RowKit
set_option maxHeartbeats 4000000
attribute [local irreducible] RunOp WL WC WDL WT WX
theorem bM{A:Prop}(h:A:=by
 have he:Evo (fun b=>b<w.heap.size) w w:=Evo.refl w
 refine q ?_
 have hs1:=he.size
 refine al ?_
 rintro _ w1 ⟨rfl,hb1,e1⟩
 refine q ?_
 refine WL.q rfl (r_bld (cs:=[_,_,_,_,_,_]) Fo.h rfl rfl) ?_
 replace he:=he.then e1
 have hs2:=he.size
 have hx2b1:=hb1.lt
 refine al ?_
 rintro _ w2 ⟨rfl,hb2,e2⟩
 refine WL.l0 (lsw rfl rfl hb2) ?_
 rintro _ w3 ⟨hb2,e3,hz3⟩
 refine q ?_
 have hx:=hb2.lt
 replace hA:=(hA.mono e1).mono (e2.then e3)
 replace hb1:=hb1.mono (e2.then e3)
 replace he:=he.then (e2.then e3)
 refine WC.loop2 (ι:=Nat) [(0,_),(2,_),(6,_),(7,_),(12,_),(13,_)] (fun i=>[(14,.int .i64 (i:Int))]) (fun i wi=>(∃sv,Blk wi w1.heap.size [.int .i64 23,.int .u64 0,.string ⟨#[]⟩,sv,.int .i64 k,.slice none 0 0]∧Own w3.heap.size 87 6 wi sv i ((ns.take i).flatMap fun n=>vc k n []))∧i≤ns.length∧Evo (fun b=>b<w3.heap.size∧b≠w1.heap.size) w3 wi) (fun i=>ns.length-i) 0 sb sb (⟨⟨_,hb2,Own.nil _ _ _ _⟩,Nat.zero_le _,Evo.refl _⟩) ?_
 intro i wi1 hh;obtain⟨⟨sv,hb2,hO⟩,hil,hE⟩:=hh
 have hwi:=hE.size
 rcases Nat.lt_or_ge i ns.length with hi|hi
 ·have hie:i<es.length:=by omega
  replace hA:=hA.mono hE
  replace he:=he.then hE
  refine q ?_
  refine WL.q rfl (r_load Fb.h rfl (Ext.refl _) (hA.get (List.getElem?_eq_getElem hie))) ?_
  refine q ?_
  replace hb1:=hb1.mono hE
  refine WC.regionDL 10 (tt [0,1,2,3,4]++ff [5]++tt [6]++ff [7,8]++tt [9]++ff [10]) (Evo (fun b=>b<w3.heap.size) _) mixed (by kernel_rfl) (Evo.drew _) ?_
  refine q ?_
  refine WD.l rfl rfl (l_callv hbf rfl rfl (hf i hi hie _ ((he.then (Ext.drew _)).weaken fun k hk _=>hk))) ?_
  rintro v4 w4 ⟨rfl,e4⟩
  refine⟨((Evo.drew _).then e4),?_⟩
  refine WD.q rfl (fun _ hS=>r_bld (cs:=[_,_,_,_,_,_]) Fo.h rfl rfl) ?_
  replace he:=(he.then (Ext.drew _)).then e4
  have hs5:=he.size
  replace hb1:=(hb1.mono (Ext.drew _)).mono e4
  have hx5b1:=hb1.lt
  replace hb2:=(hb2.mono (Ext.drew _)).mono e4
  have hx5b2:=hb2.lt
  refine WD.l rfl rfl (ll [_]) ?_
  rintro _ w5 ⟨rfl,hb5,e5⟩
  refine⟨(((Evo.drew _).then e4).then e5),?_⟩
  refine WD.l rfl rfl (l_app Fo.h rfl rfl (((hO.mono (Ext.drew _)).mono e4).mono e5) (Src.at Fb.h hb5.at rfl rfl) (by have:=(Ext.drew wi1).size;have:=e4.size;have:=e5.size;omega) (by simp only[maxLen];omega) (by omega)) ?_
  rintro v6 w6 ⟨hO,e6⟩
  obtain⟨q6,c6,rfl,_,_⟩:=hO.form
  refine⟨((((Evo.drew _).then e4).then e5).then e6),?_⟩
  refine q ?_
  replace hb2:=(hb2.mono e5).mono e6
  refine WD.l0L rfl rfl (lst rfl rfl hb2) ?_
  rintro _ w7 ⟨hb2,e7,hz7⟩
  refine q ?_
  replace hO:=hO.mono e7
  replace he:=((he.then e5).then e6).then e7
  have hO2:=(show Own _ _ _ _ _ (i+1) (_++vc k ns[i] [])from hO)
  rw[← show(ns.take (i+1)).flatMap (fun n=>vc k n [])=(ns.take i).flatMap (fun n=>vc k n [])++vc k ns[i] []from dD _ ns hi]at hO2
  exact⟨i+1,sb,sb,⟨⟨_,hb2,hO2⟩,by omega,((((((hE.then (Ext.drew _)).then e4).then e5).then e6).then e7))⟩,by omega⟩
 ·have hin:i=ns.length:=by omega
  subst hin
  obtain⟨q0,c0,rfl,_,_⟩:=hO.form
  refine q ?_
  replace hb1:=hb1.mono hE
  refine WL.l0 (lsw rfl rfl hb1) ?_
  rintro _ w4 ⟨hb1,e4,hz4⟩
  refine q ?_
  replace hO:=hO.mono e4
  replace he:=(he.then hE).then e4
  rw[List.take_length]at hO
  exact finC rfl hb1 agg_87 ⟨_,rfl,by rw[ag];exact⟨_,_,rfl,aD.own hO (by simp) (aa.flat _ _ (fun n=>ag.plain _ _ _) ns) (fun b h _=>by show _≤b;omega),aD.nil⟩,he.weaken fun k hk _=>hk⟩):A:=h
theorem iT{A:Prop}(h:A:=by
 have he:Evo (fun b=>b<w.heap.size) w w:=Evo.refl w
 refine q ?_
 have hs1:=he.size
 refine al ?_
 rintro _ w1 ⟨rfl,hb1,e1⟩
 refine q ?_
 refine WL.q rfl (r_bld (cs:=[_,_,_,_,_,_]) Fo.h rfl rfl) ?_
 replace he:=he.then e1
 have hs2:=he.size
 have hx2b1:=hb1.lt
 refine al ?_
 rintro _ w2 ⟨rfl,hb2,e2⟩
 refine WL.l0 (lsw rfl rfl hb2) ?_
 rintro _ w3 ⟨hb2,e3,hz3⟩
 refine q ?_
 have hx:=hb2.lt
 replace hA:=(hA.mono e1).mono (e2.then e3)
 replace hb1:=hb1.mono (e2.then e3)
 replace he:=he.then (e2.then e3)
 refine WC.loop2 (ι:=Nat) [(0,_),(2,_),(6,_),(7,_),(12,_),(13,_)] (fun i=>[(14,.int .i64 (i:Int))]) (fun i wi=>(∃sv,Blk wi w1.heap.size [.int .i64 23,.int .u64 0,.string ⟨#[]⟩,sv,.int .i64 k,.slice none 0 0]∧Own w3.heap.size 87 6 wi sv i ((ns.take i).flatMap fun n=>vc k 0 n))∧i≤ns.length∧Evo (fun b=>b<w3.heap.size∧b≠w1.heap.size) w3 wi) (fun i=>ns.length-i) 0 sb sb (⟨⟨_,hb2,Own.nil _ _ _ _⟩,Nat.zero_le _,Evo.refl _⟩) ?_
 intro i wi1 hh;obtain⟨⟨sv,hb2,hO⟩,hil,hE⟩:=hh
 have hwi:=hE.size
 rcases Nat.lt_or_ge i ns.length with hi|hi
 ·have hie:i<es.length:=by omega
  replace hA:=hA.mono hE
  replace he:=he.then hE
  refine q ?_
  refine WL.q rfl (r_load Fb.h rfl (Ext.refl _) (hA.get (List.getElem?_eq_getElem hie))) ?_
  refine q ?_
  replace hb1:=hb1.mono hE
  refine WC.regionDL 10 (tt [0,1,2,3,4]++ff [5]++tt [6]++ff [7,8]++tt [9]++ff [10]) (Evo (fun b=>b<w3.heap.size) _) mixed (by kernel_rfl) (Evo.drew _) ?_
  refine q ?_
  refine WD.l rfl rfl (l_callv hbf rfl rfl (hf i hi hie _ ((he.then (Ext.drew _)).weaken fun k hk _=>hk))) ?_
  rintro v4 w4 ⟨rfl,e4⟩
  refine⟨((Evo.drew _).then e4),?_⟩
  refine WD.q rfl (fun _ hS=>r_bld (cs:=[_,_,_,_,_,_]) Fo.h rfl rfl) ?_
  replace he:=(he.then (Ext.drew _)).then e4
  have hs5:=he.size
  replace hb1:=(hb1.mono (Ext.drew _)).mono e4
  have hx5b1:=hb1.lt
  replace hb2:=(hb2.mono (Ext.drew _)).mono e4
  have hx5b2:=hb2.lt
  refine WD.l rfl rfl (ll [_]) ?_
  rintro _ w5 ⟨rfl,hb5,e5⟩
  refine⟨(((Evo.drew _).then e4).then e5),?_⟩
  refine WD.l rfl rfl (l_app Fo.h rfl rfl (((hO.mono (Ext.drew _)).mono e4).mono e5) (Src.at Fb.h hb5.at rfl rfl) (by have:=(Ext.drew wi1).size;have:=e4.size;have:=e5.size;omega) (by simp only[maxLen];omega) (by omega)) ?_
  rintro v6 w6 ⟨hO,e6⟩
  obtain⟨q6,c6,rfl,_,_⟩:=hO.form
  refine⟨((((Evo.drew _).then e4).then e5).then e6),?_⟩
  refine q ?_
  replace hb2:=(hb2.mono e5).mono e6
  refine WD.l0L rfl rfl (lst rfl rfl hb2) ?_
  rintro _ w7 ⟨hb2,e7,hz7⟩
  refine q ?_
  replace hO:=hO.mono e7
  replace he:=((he.then e5).then e6).then e7
  have hO2:=(show Own _ _ _ _ _ (i+1) (_++vc k 0 ns[i])from hO)
  rw[← show(ns.take (i+1)).flatMap (fun n=>vc k 0 n)=(ns.take i).flatMap (fun n=>vc k 0 n)++vc k 0 ns[i]from dD _ ns hi]at hO2
  exact⟨i+1,sb,sb,⟨⟨_,hb2,hO2⟩,by omega,((((((hE.then (Ext.drew _)).then e4).then e5).then e6).then e7))⟩,by omega⟩
 ·have hin:i=ns.length:=by omega
  subst hin
  obtain⟨q0,c0,rfl,_,_⟩:=hO.form
  refine q ?_
  replace hb1:=hb1.mono hE
  refine WL.l0 (lsw rfl rfl hb1) ?_
  rintro _ w4 ⟨hb1,e4,hz4⟩
  refine q ?_
  replace hO:=hO.mono e4
  replace he:=(he.then hE).then e4
  rw[List.take_length]at hO
  exact finC rfl hb1 agg_87 ⟨_,rfl,by rw[ag];exact⟨_,_,rfl,aD.own hO (by simp) (aa.flat _ _ (fun n=>ag.plain _ _ _) ns) (fun b h _=>by show _≤b;omega),aD.nil⟩,he.weaken fun k hk _=>hk⟩):A:=h
theorem mR{A:Prop}(h:A:=by
 have hin:i=ns.length:=by omega
 subst hin
 obtain⟨q0,c0,rfl,_,_⟩:=hO.form
 refine q ?_
 replace hb1:=hb1.mono hE
 refine WL.l0 (lsw rfl rfl hb1) ?_
 rintro _ w4 ⟨hb1,e4,hz4⟩
 refine q ?_
 replace hO:=hO.mono e4
 replace he:=(he.then hE).then e4
 rw[List.take_length]at hO
 exact finC rfl hb1 agg_87 ⟨_,rfl,by rw[ag];exact⟨_,_,rfl,aD.own hO (by simp) (aa.flat _ _ (fun n=>ag.plain _ _ _) ns) (fun b h _=>by show _≤b;omega),aD.nil⟩,he.weaken fun k hk _=>hk⟩):A:=h
theorem l5{A:Prop}(h:A:=by
 exact⟨i+1,sb,sb,⟨⟨_,hb2,hO2⟩,by omega,(((((((hE.then (e4.then e5)).then (Ext.drew _)).then e6).then e7).then e8).then e9))⟩,by omega⟩):A:=h
theorem gv{w:World}{b o k:Nat}:∀ {es:List (List Value)} {i:Nat},(∀e∈es,e.length=k)→(hi:i<es.length)→At w b o es.flatten→At w b (o+i * k) es[i]
 |[],i,_,hi,_=>absurd hi (by simp)
 |e::r,0,hk,hi,h=>by
  have h2:At w b o ([]++(e++r.flatten)):=by simpa using h
  have:=h2.mid
  simpa using this
 |e::r,i+1,hk,hi,h=>by
  have h2:At w b o (e++(r.flatten++[])):=by simpa using h
  have h3:=h2.mid
  have h4:=gv (k:=k) (i:=i) (fun e he=>hk e (by simp[he])) (by simpa using hi) h3
  rw[hk e (by simp)]at h4
  have:o+(i+1) * k=o+k+i * k:=by rw[Nat.add_mul,Nat.one_mul];omega
  rw[this]
  exact h4
theorem Own.low'{B e z n:Nat}{w:World}{v:Value}{xs:List Value}(h:Own B e z w v n xs):∀b,v.ownBlock=some b→B≤b∧b<w.heap.size:=by
 intro b hb
 rcases h.row.2 with⟨rfl,_⟩|⟨g,cap,cur,rfl,h4,h5,_⟩
 ·simp[Value.ownBlock]at hb
 ·simp[Value.ownBlock]at hb
  subst hb
  exact⟨h4,(Array.getElem?_eq_some_iff.1 h5).1⟩
theorem ma{P:Program}{ρ:Fr}{w:World}{ty:TypeId}{x s:Operand}{B N0 t tx e z bs n m:Nat}{zv v u:Value}{xs news:List Value}(ht:slZ P t=some (e,z,bs,zv))(hs:ov ρ s=some v)(hx:ov ρ x=some u)(hown:Own B e z w v n xs)(hsrc:Src P z tx u m news w)
  (hB:B≤w.heap.size) (h63:n+m≤maxLen) (hbytes:(n+m) * bs≤140737488355328) (hlow:∀b,v.ownBlock=some b→B≤b∧b<N0):
  LoudOp P (.call ⟨.builtin .append, #[s,x], #[t,tx]⟩) ty ρ w (fun v' w'=>Own B e z w' v' (n+m) (xs++news)∧Evo (fun k=>k<B∨N0≤k) w w'):=by
 intro N D a dst pos af g ha next Q hn
 refine l_append ht hs hx hown.row hB hsrc h63 hbytes N D a dst pos af g ha next Q fun v' w' h=>hn v' w' ⟨⟨h.1⟩,h.2.weaken fun k _ hk hv=>?_⟩
 have:=hlow k hv
 omega
theorem dD{α:Type}(f:α→List Value)(l:List α){i:Nat}(hi:i<l.length):(l.take (i+1)).flatMap f=(l.take i).flatMap f++f l[i]:=by
 rw[← List.take_append_getElem hi,List.flatMap_append]
 simp
theorem mo{g o c:Nat}{es:List Value}{ns:List (Nat)}{k:Int}{f:FuncId}{w:World}(hes:es.length=ns.length)(hle:ns.length≤65536)(hA:At w g o es)(hg:g<w.heap.size)(hbf:bodyB TP f=true)
  (hf:∀i (h:i<ns.length) (h2:i<es.length) (w1:World),Ext w w1→Does TP f [es[i]] w1 fun u w'=>u= .int .u64 (ns[i]:Int)∧Ext w1 w'):
  Does TP 143 [.int .i64 k,.slice (some ⟨g,o,none⟩) ns.length c,.func (.func f) #[] #[]] w fun u w'=>∃cells,u= .agg cells.toArray∧ag (fun b=>w.heap.size≤b) w' (.mk 23 0 [] (ns.map fun n=>pv k n []) k []) cells∧Ext w w':=by
 refine doR Tryz.func143 ?_
 exact bM
theorem pI{g o c:Nat}{es:List Value}{ns:List (Nat)}{k:Int}{f:FuncId}{w:World}(hes:es.length=ns.length)(hle:ns.length≤65536)(hA:At w g o es)(hg:g<w.heap.size)(hbf:bodyB TP f=true)
  (hf:∀i (h:i<ns.length) (h2:i<es.length) (w1:World),Ext w w1→Does TP f [es[i]] w1 fun u w'=>u= .int .u64 (ns[i]:Int)∧Ext w1 w'):
  Does TP 144 [.int .i64 k,.slice (some ⟨g,o,none⟩) ns.length c,.func (.func f) #[] #[]] w fun u w'=>∃cells,u= .agg cells.toArray∧ag (fun b=>w.heap.size≤b) w' (.mk 23 0 [] (ns.map fun n=>pv k n []) k []) cells∧Ext w w':=by
 refine doR Tryz.func144 ?_
 exact bM
theorem nw{g o c:Nat}{es:List Value}{ns:List (Nat)}{k:Int}{f:FuncId}{w:World}(hes:es.length=ns.length)(hle:ns.length≤65536)(hA:At w g o es)(hg:g<w.heap.size)(hbf:bodyB TP f=true)
  (hf:∀i (h:i<ns.length) (h2:i<es.length) (w1:World),Ext w w1→Does TP f [es[i]] w1 fun u w'=>u= .int .u64 (ns[i]:Int)∧Ext w1 w'):
  Does TP 146 [.int .i64 k,.slice (some ⟨g,o,none⟩) ns.length c,.func (.func f) #[] #[]] w fun u w'=>∃cells,u= .agg cells.toArray∧ag (fun b=>w.heap.size≤b) w' (.mk 23 0 [] (ns.map fun n=>pv k n []) k []) cells∧Ext w w':=by
 refine doR Tryz.func146 ?_
 exact bM
theorem nf{g o c:Nat}{es:List Value}{ns:List (Nat)}{k:Int}{f:FuncId}{w:World}(hes:es.length=ns.length)(hle:ns.length≤65536)(hA:At w g o es)(hg:g<w.heap.size)(hbf:bodyB TP f=true)
  (hf:∀i (h:i<ns.length) (h2:i<es.length) (w1:World),Ext w w1→Does TP f [es[i]] w1 fun u w'=>u= .int .u64 (ns[i]:Int)∧Ext w1 w'):
  Does TP 148 [.int .i64 k,.slice (some ⟨g,o,none⟩) ns.length c,.func (.func f) #[] #[]] w fun u w'=>∃cells,u= .agg cells.toArray∧ag (fun b=>w.heap.size≤b) w' (.mk 23 0 [] (ns.map fun n=>pv k n []) k []) cells∧Ext w w':=by
 refine doR Tryz.func148 ?_
 exact bM
theorem nn{g o c:Nat}{es:List Value}{ns:List (Nat)}{k:Int}{f:FuncId}{w:World}(hes:es.length=ns.length)(hle:ns.length≤65536)(hA:At w g o es)(hg:g<w.heap.size)(hbf:bodyB TP f=true)
  (hf:∀i (h:i<ns.length) (h2:i<es.length) (w1:World),Ext w w1→Does TP f [es[i]] w1 fun u w'=>u= .int .u64 (ns[i]:Int)∧Ext w1 w'):
  Does TP 150 [.int .i64 k,.slice (some ⟨g,o,none⟩) ns.length c,.func (.func f) #[] #[]] w fun u w'=>∃cells,u= .agg cells.toArray∧ag (fun b=>w.heap.size≤b) w' (.mk 23 0 [] (ns.map fun n=>pv k n []) k []) cells∧Ext w w':=by
 refine doR Tryz.func150 ?_
 exact bM
theorem pR{g o c:Nat}{es:List Value}{ns:List (Nat)}{k:Int}{f:FuncId}{w:World}(hes:es.length=ns.length)(hle:ns.length≤65536)(hA:At w g o es)(hg:g<w.heap.size)(hbf:bodyB TP f=true)
  (hf:∀i (h:i<ns.length) (h2:i<es.length) (w1:World),Ext w w1→Does TP f [es[i]] w1 fun u w'=>u= .int .u64 (ns[i]:Int)∧Ext w1 w'):
  Does TP 152 [.int .i64 k,.slice (some ⟨g,o,none⟩) ns.length c,.func (.func f) #[] #[]] w fun u w'=>∃cells,u= .agg cells.toArray∧ag (fun b=>w.heap.size≤b) w' (.mk 23 0 [] (ns.map fun n=>pv k n []) k []) cells∧Ext w w':=by
 refine doR Tryz.func152 ?_
 exact bM
theorem m5{g o c:Nat}{es:List Value}{ns:List (Nat)}{k:Int}{f:FuncId}{w:World}(hes:es.length=ns.length)(hle:ns.length≤65536)(hA:At w g o es)(hg:g<w.heap.size)(hbf:bodyB TP f=true)
  (hf:∀i (h:i<ns.length) (h2:i<es.length) (w1:World),Ext w w1→Does TP f [es[i]] w1 fun u w'=>u= .int .u64 (ns[i]:Int)∧Ext w1 w'):
  Does TP 154 [.int .i64 k,.slice (some ⟨g,o,none⟩) ns.length c,.func (.func f) #[] #[]] w fun u w'=>∃cells,u= .agg cells.toArray∧ag (fun b=>w.heap.size≤b) w' (.mk 23 0 [] (ns.map fun n=>pv k n []) k []) cells∧Ext w w':=by
 refine doR Tryz.func154 ?_
 exact bM
theorem nk{g o c:Nat}{es:List Value}{ns:List (Nat)}{k:Int}{f:FuncId}{w:World}(hes:es.length=ns.length)(hle:ns.length≤65536)(hA:At w g o es)(hg:g<w.heap.size)(hbf:bodyB TP f=true)
  (hf:∀i (h:i<ns.length) (h2:i<es.length) (w1:World),Ext w w1→Does TP f [es[i]] w1 fun u w'=>u= .int .u64 (ns[i]:Int)∧Ext w1 w'):
  Does TP 156 [.int .i64 k,.slice (some ⟨g,o,none⟩) ns.length c,.func (.func f) #[] #[]] w fun u w'=>∃cells,u= .agg cells.toArray∧ag (fun b=>w.heap.size≤b) w' (.mk 23 0 [] (ns.map fun n=>pv k n []) k []) cells∧Ext w w':=by
 refine doR Tryz.func156 ?_
 exact bM
theorem np{g o c:Nat}{es:List Value}{ns:List (Nat)}{k:Int}{f:FuncId}{w:World}(hes:es.length=ns.length)(hle:ns.length≤65536)(hA:At w g o es)(hg:g<w.heap.size)(hbf:bodyB TP f=true)
  (hf:∀i (h:i<ns.length) (h2:i<es.length) (w1:World),Ext w w1→Does TP f [es[i]] w1 fun u w'=>u= .int .u64 (ns[i]:Int)∧Ext w1 w'):
  Does TP 158 [.int .i64 k,.slice (some ⟨g,o,none⟩) ns.length c,.func (.func f) #[] #[]] w fun u w'=>∃cells,u= .agg cells.toArray∧ag (fun b=>w.heap.size≤b) w' (.mk 23 0 [] (ns.map fun n=>pv k n []) k []) cells∧Ext w w':=by
 refine doR Tryz.func158 ?_
 exact bM
theorem nu{g o c:Nat}{es:List Value}{ns:List (Nat)}{k:Int}{f:FuncId}{w:World}(hes:es.length=ns.length)(hle:ns.length≤65536)(hA:At w g o es)(hg:g<w.heap.size)(hbf:bodyB TP f=true)
  (hf:∀i (h:i<ns.length) (h2:i<es.length) (w1:World),Ext w w1→Does TP f [es[i]] w1 fun u w'=>u= .int .u64 (ns[i]:Int)∧Ext w1 w'):
  Does TP 160 [.int .i64 k,.slice (some ⟨g,o,none⟩) ns.length c,.func (.func f) #[] #[]] w fun u w'=>∃cells,u= .agg cells.toArray∧ag (fun b=>w.heap.size≤b) w' (.mk 23 0 [] (ns.map fun n=>pv k n []) k []) cells∧Ext w w':=by
 refine doR Tryz.func160 ?_
 exact bM
theorem oq{g o c:Nat}{es:List Value}{ns:List (List UInt8)}{k:Int}{f:FuncId}{w:World}(hes:es.length=ns.length)(hle:ns.length≤65536)(hA:At w g o es)(hg:g<w.heap.size)(hbf:bodyB TP f=true)
  (hf:∀i (h:i<ns.length) (h2:i<es.length) (w1:World),Ext w w1→Does TP f [es[i]] w1 fun u w'=>u=str ns[i]∧Ext w1 w'):
  Does TP 167 [.int .i64 k,.slice (some ⟨g,o,none⟩) ns.length c,.func (.func f) #[] #[]] w fun u w'=>∃cells,u= .agg cells.toArray∧ag (fun b=>w.heap.size≤b) w' (.mk 23 0 [] (ns.map fun n=>pv k 0 n) k []) cells∧Ext w w':=by
 refine doR Tryz.func167 ?_
 exact iT
theorem m0{g o c:Nat}{es:List Value}{ns:List (List UInt8)}{k:Int}{f:FuncId}{w:World}(hes:es.length=ns.length)(hle:ns.length≤65536)(hA:At w g o es)(hg:g<w.heap.size)(hbf:bodyB TP f=true)
  (hf:∀i (h:i<ns.length) (h2:i<es.length) (w1:World),Ext w w1→Does TP f [es[i]] w1 fun u w'=>u=str ns[i]∧Ext w1 w'):
  Does TP 169 [.int .i64 k,.slice (some ⟨g,o,none⟩) ns.length c,.func (.func f) #[] #[]] w fun u w'=>∃cells,u= .agg cells.toArray∧ag (fun b=>w.heap.size≤b) w' (.mk 23 0 [] (ns.map fun n=>pv k 0 n) k []) cells∧Ext w w':=by
 refine doR Tryz.func169 ?_
 exact iT
theorem nX{g o c:Nat}{es:List Value}{ns:List (List UInt8)}{k:Int}{f:FuncId}{w:World}(hes:es.length=ns.length)(hle:ns.length≤65536)(hA:At w g o es)(hg:g<w.heap.size)(hbf:bodyB TP f=true)
  (hf:∀i (h:i<ns.length) (h2:i<es.length) (w1:World),Ext w w1→Does TP f [es[i]] w1 fun u w'=>u=str ns[i]∧Ext w1 w'):
  Does TP 171 [.int .i64 k,.slice (some ⟨g,o,none⟩) ns.length c,.func (.func f) #[] #[]] w fun u w'=>∃cells,u= .agg cells.toArray∧ag (fun b=>w.heap.size≤b) w' (.mk 23 0 [] (ns.map fun n=>pv k 0 n) k []) cells∧Ext w w':=by
 refine doR Tryz.func171 ?_
 exact iT
theorem kV{g o c:Nat}{es:List (List Value)}{ns:List (Nat)}{k:Int}{f:FuncId}{w:World}(hes:es.length=ns.length)(hz:∀e∈es,e.length=2∧e.all (fun v=>v.oneCell')=true)(hle:ns.length≤65536)(hA:At w g o es.flatten)(hg:g<w.heap.size)(hbf:bodyB TP f=true)
  (hf:∀i (h:i<ns.length) (h2:i<es.length) (w1:World),Ext w w1→Does TP f [.agg es[i].toArray] w1 fun u w'=>u= .int .u64 (ns[i]:Int)∧Ext w1 w'):
  Does TP 163 [.int .i64 k,.slice (some ⟨g,o,none⟩) ns.length c,.func (.func f) #[] #[]] w fun u w'=>∃cells,u= .agg cells.toArray∧ag (fun b=>w.heap.size≤b) w' (.mk 23 0 [] (ns.map fun n=>pv k n []) k []) cells∧Ext w w':=by
 refine doR Tryz.func163 ?_
 have he:Evo (fun b=>b<w.heap.size) w w:=Evo.refl w
 refine q ?_
 have hs1:=he.size
 refine al ?_
 rintro _ w1 ⟨rfl,hb1,e1⟩
 refine q ?_
 refine WL.q rfl (r_bld (cs:=[_,_,_,_,_,_]) Fo.h rfl rfl) ?_
 replace he:=he.then e1
 have hs2:=he.size
 have hx2b1:=hb1.lt
 refine al ?_
 rintro _ w2 ⟨rfl,hb2,e2⟩
 refine WL.l0 (lsw rfl rfl hb2) ?_
 rintro _ w3 ⟨hb2,e3,hz3⟩
 refine q ?_
 have hx:=hb2.lt
 replace hA:=(hA.mono e1).mono (e2.then e3)
 replace hb1:=hb1.mono (e2.then e3)
 replace he:=he.then (e2.then e3)
 refine WC.loop2 (ι:=Nat) [(0,_),(2,_),(6,_),(7,_),(12,_),(13,_)] (fun i=>[(14,.int .i64 (i:Int))]) (fun i wi=>(∃sv,Blk wi w1.heap.size [.int .i64 23,.int .u64 0,.string ⟨#[]⟩,sv,.int .i64 k,.slice none 0 0]∧Own w3.heap.size 87 6 wi sv i ((ns.take i).flatMap fun n=>vc k n []))∧i≤ns.length∧Evo (fun b=>b<w3.heap.size∧b≠w1.heap.size) w3 wi) (fun i=>ns.length-i) 0 sb sb (⟨⟨_,hb2,Own.nil _ _ _ _⟩,Nat.zero_le _,Evo.refl _⟩) ?_
 intro i wi1 hh;obtain⟨⟨sv,hb2,hO⟩,hil,hE⟩:=hh
 have hwi:=hE.size
 rcases Nat.lt_or_ge i ns.length with hi|hi
 ·have hie:i<es.length:=by omega
  replace hA:=hA.mono hE
  replace he:=he.then hE
  have hAi:=gv (k:=2) (fun e he=>(hz e he).1) hie hA
  have hzi:=hz _ (List.getElem_mem hie)
  have hall:=hzi.2
  have hlow:=hO.low'
  refine q ?_
  refine WL.q rfl (r_loadAgg Fo.h rfl (Ext.refl _) hAi (hn:=hzi.1)) ?_
  have hs4:=he.size
  replace hb1:=hb1.mono hE
  have hx4b1:=hb1.lt
  have hx4b2:=hb2.lt
  refine al ?_
  rintro _ w4 ⟨rfl,hb4,e4⟩
  refine WL.l0 (lsw rfl rfl hb4) ?_
  rintro _ w5 ⟨hb4,e5,hz5⟩
  refine q ?_
  replace hA:=hA.mono (e4.then e5)
  replace hb1:=hb1.mono (e4.then e5)
  replace hb2:=hb2.mono (e4.then e5)
  replace hO:=hO.mono (e4.then e5)
  refine WC.regionDL 10 (tt [0,1,2,3,4]++ff [5]++tt [6]++ff [7,8]++tt [9]++ff [10]) (Evo (fun b=>b<w3.heap.size∨wi1.heap.size≤b) _) mixed (by kernel_rfl) (Evo.drew _) ?_
  refine q ?_
  refine WD.q rfl (fun _ hS=>r_loadAgg Fo.h rfl hS hb4.at (hn:=hzi.1)) ?_
  refine WD.l rfl rfl (l_callv hbf rfl rfl (hf i hi hie _ ((((he.then e4).then e5).then (Ext.drew _)).weaken fun k hk _=>hk))) ?_
  rintro v6 w6 ⟨rfl,e6⟩
  refine⟨((Evo.drew _).then e6),?_⟩
  refine WD.q rfl (fun _ hS=>r_bld (cs:=[_,_,_,_,_,_]) Fo.h rfl rfl) ?_
  replace he:=((he.then (e4.then e5)).then (Ext.drew _)).then e6
  have hs7:=he.size
  replace hb1:=(hb1.mono (Ext.drew _)).mono e6
  have hx7b1:=hb1.lt
  replace hb2:=(hb2.mono (Ext.drew _)).mono e6
  have hx7b2:=hb2.lt
  replace hb4:=(hb4.mono (Ext.drew _)).mono e6
  have hx7b4:=hb4.lt
  refine WD.l rfl rfl (ll [_]) ?_
  rintro _ w7 ⟨rfl,hb7,e7⟩
  refine⟨(((Evo.drew _).then e6).then e7),?_⟩
  refine WD.l rfl rfl (ma Fo.h rfl rfl (((hO.mono (Ext.drew _)).mono e6).mono e7) (Src.at Fb.h hb7.at rfl rfl) (by have:=e4.size;have:=e5.size;have:=(Ext.drew w5).size;have:=e6.size;have:=e7.size;omega) (by simp only[maxLen];omega) (by omega) hlow) ?_
  rintro v8 w8 ⟨hO,e8⟩
  obtain⟨q8,c8,rfl,_,_⟩:=hO.form
  refine⟨((((Evo.drew _).then e6).then e7).then e8),?_⟩
  refine q ?_
  replace hb2:=(hb2.mono e7).mono e8
  refine WD.l0L rfl rfl (lst rfl rfl hb2) ?_
  rintro _ w9 ⟨hb2,e9,hz9⟩
  refine q ?_
  replace hO:=hO.mono e9
  replace he:=((he.then e7).then e8).then e9
  have hO2:=(show Own _ _ _ _ _ (i+1) (_++vc k ns[i] [])from hO)
  rw[← show(ns.take (i+1)).flatMap (fun n=>vc k n [])=(ns.take i).flatMap (fun n=>vc k n [])++vc k ns[i] []from dD _ ns hi]at hO2
  exact l5
 ·exact mR
theorem kW{g o c:Nat}{es:List (List Value)}{ns:List (List UInt8)}{k:Int}{f:FuncId}{w:World}(hes:es.length=ns.length)(hz:∀e∈es,e.length=16∧e.all (fun v=>v.oneCell')=true)(hle:ns.length≤65536)(hA:At w g o es.flatten)(hg:g<w.heap.size)(hbf:bodyB TP f=true)
  (hf:∀i (h:i<ns.length) (h2:i<es.length) (w1:World),Ext w w1→Does TP f [.agg es[i].toArray] w1 fun u w'=>u=str ns[i]∧Ext w1 w'):
  Does TP 165 [.int .i64 k,.slice (some ⟨g,o,none⟩) ns.length c,.func (.func f) #[] #[]] w fun u w'=>∃cells,u= .agg cells.toArray∧ag (fun b=>w.heap.size≤b) w' (.mk 23 0 [] (ns.map fun n=>pv k 0 n) k []) cells∧Ext w w':=by
 refine doR Tryz.func165 ?_
 have he:Evo (fun b=>b<w.heap.size) w w:=Evo.refl w
 refine q ?_
 have hs1:=he.size
 refine al ?_
 rintro _ w1 ⟨rfl,hb1,e1⟩
 refine q ?_
 refine WL.q rfl (r_bld (cs:=[_,_,_,_,_,_]) Fo.h rfl rfl) ?_
 replace he:=he.then e1
 have hs2:=he.size
 have hx2b1:=hb1.lt
 refine al ?_
 rintro _ w2 ⟨rfl,hb2,e2⟩
 refine WL.l0 (lsw rfl rfl hb2) ?_
 rintro _ w3 ⟨hb2,e3,hz3⟩
 refine q ?_
 have hx:=hb2.lt
 replace hA:=(hA.mono e1).mono (e2.then e3)
 replace hb1:=hb1.mono (e2.then e3)
 replace he:=he.then (e2.then e3)
 refine WC.loop2 (ι:=Nat) [(0,_),(2,_),(6,_),(7,_),(12,_),(13,_)] (fun i=>[(14,.int .i64 (i:Int))]) (fun i wi=>(∃sv,Blk wi w1.heap.size [.int .i64 23,.int .u64 0,.string ⟨#[]⟩,sv,.int .i64 k,.slice none 0 0]∧Own w3.heap.size 87 6 wi sv i ((ns.take i).flatMap fun n=>vc k 0 n))∧i≤ns.length∧Evo (fun b=>b<w3.heap.size∧b≠w1.heap.size) w3 wi) (fun i=>ns.length-i) 0 sb sb (⟨⟨_,hb2,Own.nil _ _ _ _⟩,Nat.zero_le _,Evo.refl _⟩) ?_
 intro i wi1 hh;obtain⟨⟨sv,hb2,hO⟩,hil,hE⟩:=hh
 have hwi:=hE.size
 rcases Nat.lt_or_ge i ns.length with hi|hi
 ·have hie:i<es.length:=by omega
  replace hA:=hA.mono hE
  replace he:=he.then hE
  have hAi:=gv (k:=16) (fun e he=>(hz e he).1) hie hA
  have hzi:=hz _ (List.getElem_mem hie)
  have hall:=hzi.2
  have hlow:=hO.low'
  refine q ?_
  refine WL.q rfl (r_loadAgg Fo.h rfl (Ext.refl _) hAi (hn:=hzi.1)) ?_
  have hs4:=he.size
  replace hb1:=hb1.mono hE
  have hx4b1:=hb1.lt
  have hx4b2:=hb2.lt
  refine al ?_
  rintro _ w4 ⟨rfl,hb4,e4⟩
  refine WL.l0 (lsw rfl rfl hb4) ?_
  rintro _ w5 ⟨hb4,e5,hz5⟩
  refine q ?_
  replace hA:=hA.mono (e4.then e5)
  replace hb1:=hb1.mono (e4.then e5)
  replace hb2:=hb2.mono (e4.then e5)
  replace hO:=hO.mono (e4.then e5)
  refine WC.regionDL 10 (tt [0,1,2,3,4]++ff [5]++tt [6]++ff [7,8]++tt [9]++ff [10]) (Evo (fun b=>b<w3.heap.size∨wi1.heap.size≤b) _) mixed (by kernel_rfl) (Evo.drew _) ?_
  refine q ?_
  refine WD.q rfl (fun _ hS=>r_loadAgg Fo.h rfl hS hb4.at (hn:=hzi.1)) ?_
  refine WD.l rfl rfl (l_callv hbf rfl rfl (hf i hi hie _ ((((he.then e4).then e5).then (Ext.drew _)).weaken fun k hk _=>hk))) ?_
  rintro v6 w6 ⟨rfl,e6⟩
  refine⟨((Evo.drew _).then e6),?_⟩
  refine WD.q rfl (fun _ hS=>r_bld (cs:=[_,_,_,_,_,_]) Fo.h rfl rfl) ?_
  replace he:=((he.then (e4.then e5)).then (Ext.drew _)).then e6
  have hs7:=he.size
  replace hb1:=(hb1.mono (Ext.drew _)).mono e6
  have hx7b1:=hb1.lt
  replace hb2:=(hb2.mono (Ext.drew _)).mono e6
  have hx7b2:=hb2.lt
  replace hb4:=(hb4.mono (Ext.drew _)).mono e6
  have hx7b4:=hb4.lt
  refine WD.l rfl rfl (ll [_]) ?_
  rintro _ w7 ⟨rfl,hb7,e7⟩
  refine⟨(((Evo.drew _).then e6).then e7),?_⟩
  refine WD.l rfl rfl (ma Fo.h rfl rfl (((hO.mono (Ext.drew _)).mono e6).mono e7) (Src.at Fb.h hb7.at rfl rfl) (by have:=e4.size;have:=e5.size;have:=(Ext.drew w5).size;have:=e6.size;have:=e7.size;omega) (by simp only[maxLen];omega) (by omega) hlow) ?_
  rintro v8 w8 ⟨hO,e8⟩
  obtain⟨q8,c8,rfl,_,_⟩:=hO.form
  refine⟨((((Evo.drew _).then e6).then e7).then e8),?_⟩
  refine q ?_
  replace hb2:=(hb2.mono e7).mono e8
  refine WD.l0L rfl rfl (lst rfl rfl hb2) ?_
  rintro _ w9 ⟨hb2,e9,hz9⟩
  refine q ?_
  replace hO:=hO.mono e9
  replace he:=((he.then e7).then e8).then e9
  have hO2:=(show Own _ _ _ _ _ (i+1) (_++vc k 0 ns[i])from hO)
  rw[← show(ns.take (i+1)).flatMap (fun n=>vc k 0 n)=(ns.take i).flatMap (fun n=>vc k 0 n)++vc k 0 ns[i]from dD _ ns hi]at hO2
  exact l5
 ·exact mR
end Go.Proofs.LL
