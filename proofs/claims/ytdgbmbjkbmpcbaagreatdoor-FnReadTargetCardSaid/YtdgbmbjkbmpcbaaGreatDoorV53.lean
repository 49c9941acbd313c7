/- Own laws of frames, operations and loops, and contracts of functions of the program. Conditions: those that each theorem states. -/
import Derived.Test.YtdgbmbjkbmpcbaaGreatDoorV52
set_option linter.all false
set_option maxRecDepth 20000
namespace Go.Proofs.LL
open Go Go.Proofs Go.RowKit
set_option maxHeartbeats 4000000
attribute [local irreducible] RunOp WL WC WDL WT WX
theorem iV{A:Nat→Prop}{ts:List (List UInt8)}{p:Option Addr}{c:Nat}{w:World}(hS:dY A w ts (.slice p ts.length c)):
  Does TP 21 [.slice p ts.length c] w fun r w'=>∃b,r= .bool b∧(b=true→ts.length≤2147483647)∧Ext w w':=by
 rcases Nat.lt_or_ge 2147483647 ts.length with h|h
 ·refine do1 Tryz.func21 ?_
  refine uA 9 rfl ?_
  refine WL.q rfl (r_cmp (r_gtr rfl rfl) (decide_eq_true (by(omega)))) ?_
  refine uD 6 rfl<|WC.ret ?_
  exact fin1 rfl ⟨_,rfl,fun h=>(by cases h),ch⟩
 ·refine do1 Tryz.func21 ?_
  refine uA 9 rfl ?_
  refine WL.q rfl (r_cmp (r_gtr rfl rfl) (decide_eq_false (by(omega)))) ?_
  refine uD 3 rfl<|uA 8 rfl ?_
  refine WC.loop2 (ι:=Nat) [(2,_),(8,_),(9,_)] (fun i=>[(10,.int .i64 (i:Int))]) (fun i wi=>i≤ts.length∧Ext w wi) (fun i=>ts.length-i) 0 sb sb (⟨Nat.zero_le _,Ext.refl _⟩) ?_
  intro i wi1 hh;obtain⟨ni,hE⟩:=hh
  rcases Nat.lt_or_ge i ts.length with qi|qi
  replace hS:=hS.mono hE
  ·obtain⟨b,o,rfl,qc,qA⟩:=hS.idx qi
   rcases Nat.lt_or_ge 2147483647 (ts[i]).length with h2|h2
   ·refine uA 2 rfl<|lT rfl rfl<|uD 8 rfl ?_
    refine WL.q rfl (r_idx1 Fo.h rfl rfl rfl (by first|omega|(simp;done)|(simp;omega))) ?_
    refine WL.q rfl (r_load Fb.h rfl (Ext.refl _) qA)<|uD 5 rfl<|WL.q rfl (r_lens Fb.h rfl) ?_
    refine WL.q rfl (r_cmp (r_gtr rfl rfl) (decide_eq_true (by(show(2147483647:Int)<((ts[i]).length:Int);omega)))) ?_
    refine uD 6 rfl<|WC.ret ?_
    exact fin1 rfl ⟨_,rfl,fun h=>(by cases h),ch⟩
   ·refine uA 2 rfl<|lT rfl rfl<|uD 8 rfl ?_
    refine WL.q rfl (r_idx1 Fo.h rfl rfl rfl (by first|omega|(simp;done)|(simp;omega))) ?_
    refine WL.q rfl (r_load Fb.h rfl (Ext.refl _) qA)<|uD 5 rfl<|WL.q rfl (r_lens Fb.h rfl) ?_
    refine WL.q rfl (r_cmp (r_gtr rfl rfl) (decide_eq_false (by(show¬(2147483647:Int)<((ts[i]).length:Int);omega)))) ?_
    refine uD 3 rfl<|uA 1 rfl<|ai rfl rfl rfl<|uC 2 rfl ?_
    exact⟨i+1,sb,sb,⟨qi,(hE)⟩,by omega⟩
  ·refine uA 2 rfl<|lF rfl rfl<|uD 3 rfl<|WC.exit<|uA 4 rfl<|WC.ret ?_
   exact fin1 rfl ⟨_,rfl,fun _=>h,ch⟩
theorem jj{A:Nat→Prop}{addr exp:List UInt8}{d t:Value}{dyn:Value}{n cp:Nat}{caps:List (List UInt8)}{p pc:Option Addr}{cc:Nat}{w:World}(h1:d.oneCell'=true)(h2:t.oneCell'=true)(h3:dyn.oneCell'=true)(hS:dY A w caps (.slice pc caps.length cc)):
  Does TP 6 [.agg #[str addr,d,str exp,t,dyn,.slice p n cp,.slice pc caps.length cc]] w fun r w'=>∃b,r= .bool b∧(b=true→caps.length≤2147483647)∧Ext w w':=by
 rcases Nat.lt_or_ge 2147483647 addr.length with q1|q1
 ·refine do1 Tryz.func6 ?_
  have he:Evo (fun _=>True) w w:=Evo.refl w
  refine uA 2 rfl ?_
  have hs1:=he.size
  refine bx rfl ?_
  rintro _ w1 ⟨rfl,hb1,e1⟩
  refine uD 6 rfl<|ld rfl hb1 rfl<|WL.q rfl (r_lens Fb.h rfl) ?_
  refine WL.q rfl (r_cmp (r_gtr rfl rfl) (decide_eq_true (by(show(2147483647:Int)<(addr.length:Int);omega)))) ?_
  refine uD 6 rfl<|WC.ret ?_
  replace he:=he.then e1
  exact fin1 rfl ⟨_,rfl,fun h=>(by cases h),he⟩
 rcases Nat.lt_or_ge 2147483647 exp.length with q2|q2
 ·refine do1 Tryz.func6 ?_
  have he:Evo (fun _=>True) w w:=Evo.refl w
  refine uA 2 rfl ?_
  have hs1:=he.size
  refine bx rfl ?_
  rintro _ w1 ⟨rfl,hb1,e1⟩
  refine uD 6 rfl<|ld rfl hb1 rfl<|WL.q rfl (r_lens Fb.h rfl) ?_
  refine WL.q rfl (r_cmp (r_gtr rfl rfl) (decide_eq_false (by(show¬(2147483647:Int)<(addr.length:Int);omega)))) ?_
  refine uD 3 rfl<|uA 4 rfl<|ld rfl hb1 rfl<|WL.q rfl (r_lens Fb.h rfl) ?_
  refine WL.q rfl (r_cmp (r_gtr rfl rfl) (decide_eq_true (by(show(2147483647:Int)<(exp.length:Int);omega)))) ?_
  refine uD 6 rfl<|WC.ret ?_
  replace he:=he.then e1
  exact fin1 rfl ⟨_,rfl,fun h=>(by cases h),he⟩
 rcases Nat.lt_or_ge 2147483647 n with q3|q3
 ·refine do1 Tryz.func6 ?_
  have he:Evo (fun _=>True) w w:=Evo.refl w
  refine uA 2 rfl ?_
  have hs1:=he.size
  refine bx rfl ?_
  rintro _ w1 ⟨rfl,hb1,e1⟩
  refine uD 6 rfl<|ld rfl hb1 rfl<|WL.q rfl (r_lens Fb.h rfl) ?_
  refine WL.q rfl (r_cmp (r_gtr rfl rfl) (decide_eq_false (by(show¬(2147483647:Int)<(addr.length:Int);omega)))) ?_
  refine uD 3 rfl<|uA 4 rfl<|ld rfl hb1 rfl<|WL.q rfl (r_lens Fb.h rfl) ?_
  refine WL.q rfl (r_cmp (r_gtr rfl rfl) (decide_eq_false (by(show¬(2147483647:Int)<(exp.length:Int);omega)))) ?_
  refine uD 3 rfl<|uA 4 rfl<|ld rfl hb1 rfl<|uC 1 rfl ?_
  refine WL.q rfl (r_cmp (r_gtr rfl rfl) (decide_eq_true (by(omega)))) ?_
  refine uD 6 rfl<|WC.ret ?_
  replace he:=he.then e1
  exact fin1 rfl ⟨_,rfl,fun h=>(by cases h),he⟩
 refine do1 Tryz.func6 ?_
 have he:Evo (fun _=>True) w w:=Evo.refl w
 refine uA 2 rfl ?_
 have hs1:=he.size
 refine bx rfl ?_
 rintro _ w1 ⟨rfl,hb1,e1⟩
 refine uD 6 rfl<|ld rfl hb1 rfl<|WL.q rfl (r_lens Fb.h rfl) ?_
 refine WL.q rfl (r_cmp (r_gtr rfl rfl) (decide_eq_false (by(show¬(2147483647:Int)<(addr.length:Int);omega)))) ?_
 refine uD 3 rfl<|uA 4 rfl<|ld rfl hb1 rfl<|WL.q rfl (r_lens Fb.h rfl) ?_
 refine WL.q rfl (r_cmp (r_gtr rfl rfl) (decide_eq_false (by(show¬(2147483647:Int)<(exp.length:Int);omega)))) ?_
 refine uD 3 rfl<|uA 4 rfl<|ld rfl hb1 rfl<|uC 1 rfl ?_
 refine WL.q rfl (r_cmp (r_gtr rfl rfl) (decide_eq_false (by(omega)))) ?_
 refine uD 3 rfl<|uA 4 rfl<|ld rfl hb1 rfl ?_
 replace hS:=hS.mono e1
 refine cl rfl (iV hS) ?_
 rintro v2 w2 ⟨b,rfl,qb,e2⟩
 cases b
 ·refine uD 7 rfl<|WC.ret ?_
  replace he:=(he.then e1).then e2
  exact fin1 rfl ⟨_,rfl,fun h=>(by cases h),he⟩
 ·refine uD 4 rfl<|uA 4 rfl<|WC.ret ?_
  replace he:=(he.then e1).then e2
  exact fin1 rfl ⟨_,rfl,fun h=>qb rfl,he⟩
theorem fx{s:List UInt8}{w:World}:Does TP 36 [str s] w fun r w'=>∃b,r= .bool b∧(b=true→s=[]∨aY s)∧Ext w w':=by
 refine do1 Tryz.func36 ?_
 refine uA 7 rfl<|WL.q rfl (r_steqE rfl rfl)<|uC 1 rfl ?_
 refine WL.qc rfl rfl rfl rfl (fun hc=>r_move rfl) ?_
 refine WL.qc rfl rfl rfl rfl (fun hc=>r_steqE (cnd_of hc) rfl) ?_
 refine WL.q rfl (r_or rfl rfl (fun h=>beq_iff_eq.2 h)) ?_
 refine uC 1 rfl ?_
 refine WL.qc rfl rfl rfl rfl (fun hc=>r_move rfl) ?_
 refine WL.qc rfl rfl rfl rfl (fun hc=>r_steqE (cnd_of hc) rfl) ?_
 refine WL.q rfl (r_or rfl rfl (fun h=>beq_iff_eq.2 h)) ?_
 refine uC 1 rfl ?_
 refine WL.qc rfl rfl rfl rfl (fun hc=>r_move rfl) ?_
 refine WL.qc rfl rfl rfl rfl (fun hc=>r_steqE (cnd_of hc) rfl) ?_
 refine WL.q rfl (r_or rfl rfl (fun h=>beq_iff_eq.2 h)) ?_
 refine uC 1 rfl ?_
 refine WL.qc rfl rfl rfl rfl (fun hc=>r_move rfl) ?_
 refine WL.qc rfl rfl rfl rfl (fun hc=>r_steqE (cnd_of hc) rfl) ?_
 refine WL.q rfl (r_or rfl rfl (fun h=>beq_iff_eq.2 h)) ?_
 refine uC 2 rfl<|WC.ret ?_
 exact fin1 rfl ⟨_,rfl,fun h=>(by simpa[aY,or_assoc]using h),ch⟩
theorem nq{A:Nat→Prop}{ts:List (List UInt8)}{p:Option Addr}{c b o cc:Nat}{w:World}(hS:dY A w ts (.slice p ts.length c))(hI:At w b o [.slice p ts.length c])(hl:ts.length≤2147483647):
  Does TP 38 [.slice (some ⟨b,o,none⟩) 1 cc] w fun r w'=>∃z,r= .bool z∧(z=true→∀s∈ts,s≠[])∧Ext w w':=by
 refine do1 Tryz.func38 ?_
 refine uA 12 rfl ?_
 refine WC.loop2 (ι:=Nat) [(2,_),(7,_),(8,_)] (fun i=>[(9,.int .i64 (i:Int))]) (fun i wi=>(0<i→∀s∈ts,s≠[])∧i≤1∧Ext w wi) (fun i=>1-i) 0 sb sb (⟨fun h=>absurd h (by omega),Nat.zero_le _,Ext.refl _⟩) ?_
 intro i wi1 hh;obtain⟨qS,ni,hE⟩:=hh
 rcases Nat.eq_zero_or_pos i with qi|qi
 ·subst qi
  refine uA 2 rfl<|lT rfl rfl<|uD 8 rfl ?_
  refine WL.q rfl (r_idx1 Fo.h rfl rfl rfl (by first|omega|(simp;done)|(simp;omega))) ?_
  replace hI:=hI.mono hE
  refine WL.q rfl (r_load Fb.h rfl (Ext.refl _) (hI.get (j:=0) rfl)) ?_
  refine uD 9 rfl ?_
  have hT:=cq.mk hE
  replace hS:=hS.mono hE
  refine WC.loop2 (ι:=Nat) [(2,_),(7,_),(8,_),(9,_),(13,_),(14,_)] (fun j=>[(15,.int .i64 (j:Int))]) (fun j wi=>(∀q (h:q<ts.length),q<j→ts[q]≠[])∧j≤ts.length∧Ext wi1 wi) (fun j=>ts.length-j) 0 sb sb (⟨fun q _ h=>absurd h (by omega),Nat.zero_le _,Ext.refl _⟩) ?_
  intro j wi2 hh;obtain⟨qJ,nj,hE⟩:=hh
  rcases Nat.lt_or_ge j ts.length with qj|qj
  replace hS:=hS.mono hE
  ·obtain⟨b2,o2,rfl,qc,qA⟩:=hS.idx qj
   rcases Decidable.em (ts[j]=[])with h0|h0
   ·refine uA 2 rfl<|lT rfl rfl<|uD 8 rfl ?_
    refine WL.q rfl (r_idx1 Fo.h rfl rfl rfl (by first|omega|(simp;done)|(simp;omega))) ?_
    refine WL.q rfl (r_load Fb.h rfl (Ext.refl _) qA)<|uD 5 rfl<|WL.q rfl (r_steqlT rfl rfl (h0))<|uD 6 rfl<|WC.ret ?_
    exact fin1 rfl ⟨_,rfl,fun h=>(by cases h),ch⟩
   ·refine uA 2 rfl<|lT rfl rfl<|uD 8 rfl ?_
    refine WL.q rfl (r_idx1 Fo.h rfl rfl rfl (by first|omega|(simp;done)|(simp;omega))) ?_
    refine WL.q rfl (r_load Fb.h rfl (Ext.refl _) qA)<|uD 5 rfl<|WL.q rfl (r_steqlF rfl rfl (h0))<|uD 3 rfl<|uA 1 rfl<|ai rfl rfl rfl<|uC 2 rfl ?_
    exact⟨j+1,sb,sb,⟨fun q hq h=>(by rcases Nat.lt_or_ge q j with h'|h';exact qJ q hq h';obtain rfl:q=j:=(by omega);exact h0),qj,(hE)⟩,by omega⟩
  ·refine uA 2 rfl<|lF rfl rfl<|uD 3 rfl<|WC.exit<|uA 1 rfl<|ai rfl rfl rfl<|uC 2 rfl ?_
   replace hT:=hT.mono hE
   exact⟨1,sb,sb,⟨fun _ s hs=>(by obtain⟨q,hq,rfl⟩:=List.getElem_of_mem hs;exact qJ q hq (by omega)),Nat.le_refl _,hT.evo⟩,(by show 1-1<1-0;omega)⟩
 ·refine uA 2 rfl<|lF rfl rfl<|uD 3 rfl<|WC.exit<|uA 4 rfl<|WC.ret ?_
  exact fin1 rfl ⟨_,rfl,fun _=>qS qi,ch⟩
theorem eS{A:Nat→Prop}{addr exp:List UInt8}{dur:Nat}{t dyn:Value}{node:List V}{caps:List (List UInt8)}{p pc:Option Addr}{cp cc:Nat}{w:World}(h2:t.oneCell'=true)(h3:dyn.oneCell'=true)(hK:aD A w node.length (.slice p node.length cp) (aa A w node))(hS:dY A w caps (.slice pc caps.length cc))(hl:caps.length≤2147483647)(hUT:UT w):
  Does TP 11 [.agg #[str addr,.int .u32 (dur:Int),str exp,t,dyn,.slice p node.length cp,.slice pc caps.length cc]] w fun r w'=>∃z,r= .bool z∧(z=true→(exp=[]∨aY exp)∧fo 20 node∧∀s∈caps,s≠[])∧Ext w w':=by
 replace hK:=hK.weakW (B:=fun b=>b<w.heap.size) (fun b hb _=>hb)
 replace hS:=hS.lowW (B:=fun b=>b<w.heap.size) (fun b hb _=>hb)
 rcases Nat.lt_or_ge 2 dur with q1|q1
 ·refine do1 Tryz.func11 ?_
  have he:Evo (fun b=>b<w.heap.size) w w:=Evo.refl w
  refine uA 2 rfl ?_
  have hs1:=he.size
  refine bx rfl ?_
  rintro _ w1 ⟨rfl,hb1,e1⟩
  refine uD 5 rfl<|ld rfl hb1 rfl ?_
  refine WL.q rfl (r_cmp (r_leq rfl rfl) (decide_eq_false (by(omega)))) ?_
  refine uC 19 rfl<|WC.ret ?_
  replace he:=he.then e1
  exact fin1 rfl ⟨_,rfl,fun h=>(by cases h),he.weaken fun k hk _=>hk⟩
 refine do1 Tryz.func11 ?_
 have he:Evo (fun b=>b<w.heap.size) w w:=Evo.refl w
 refine uA 2 rfl ?_
 have hs1:=he.size
 refine bx rfl ?_
 rintro _ w1 ⟨rfl,hb1,e1⟩
 have nx1:=hb1.lt
 have ns1:=e1.size
 refine uD 5 rfl<|ld rfl hb1 rfl ?_
 refine WL.q rfl (r_cmp (r_leq rfl rfl) (decide_eq_true (by(omega)))) ?_
 refine uC 2 rfl<|LL.lg rfl rfl rfl hb1 rfl ?_
 refine WL.lg rfl rfl rfl rfl (l_do Fb.h rfl (fx)) ?_
 rintro v2 w2 ⟨z1,rfl,qz1,e2⟩
 have ns2:=e2.size
 cases z1
 ·refine uC 15 rfl<|WC.ret ?_
  replace he:=(he.then e1).then e2
  exact fin1 rfl ⟨_,rfl,fun h=>(by cases h),he.weaken fun k hk _=>hk⟩
 ·refine uC 3 rfl ?_
  replace hb1:=hb1.mono e2
  refine LL.lg rfl rfl rfl hb1 rfl ?_
  replace he:=(he.then e1).then e2
  have hs3:=he.size
  have hx3b1:=hb1.lt
  refine WL.lg rfl rfl rfl rfl (ll [_]) ?_
  rintro _ w3 ⟨rfl,hb3,e3⟩
  have ns3:=e3.size
  replace hK:=((hK.mono e1).mono e2).mono e3
  replace hUT:=((hUT.mono e1).mono e2).mono e3
  refine WL.lg rfl rfl rfl rfl (l_do Fb.h rfl (iE (.inr rfl) hK hb3.at hUT)) ?_
  rintro v4 w4 ⟨z2,rfl,qz2,e4⟩
  have ns4:=e4.size
  cases z2
  ·refine uC 9 rfl<|WC.ret ?_
   replace he:=(he.then e3).then e4
   exact fin1 rfl ⟨_,rfl,fun h=>(by cases h),he.weaken fun k hk _=>hk⟩
  ·refine uC 3 rfl ?_
   replace hb1:=(hb1.mono e3).mono e4
   refine LL.lg rfl rfl rfl hb1 rfl ?_
   replace he:=(he.then e3).then e4
   have hs5:=he.size
   have hx5b1:=hb1.lt
   replace hb3:=hb3.mono e4
   have hx5b3:=hb3.lt
   refine WL.lg rfl rfl rfl rfl (ll [_]) ?_
   rintro _ w5 ⟨rfl,hb5,e5⟩
   have ns5:=e5.size
   replace hS:=((((hS.mono e1).mono e2).mono e3).mono e4).mono e5
   refine WL.lg rfl rfl rfl rfl (l_do Fb.h rfl (nq hS hb5.at hl)) ?_
   rintro v6 w6 ⟨z3,rfl,qz3,e6⟩
   have ns6:=e6.size
   refine uC 3 rfl<|WC.ret ?_
   replace he:=(he.then e5).then e6
   exact fin1 rfl ⟨_,rfl,fun h=>⟨qz1 rfl,qz2 rfl,qz3 h⟩,he.weaken fun k hk _=>hk⟩
end Go.Proofs.LL
namespace Go.Proofs.LL
open Go Go.Proofs Go.RowKit
set_option maxHeartbeats 4000000
attribute [local irreducible] RunOp WL WC WDL WT WX
def dg(s:List UInt8):List UInt8:=if s=[]then aH else s
theorem ou(s:List UInt8):dg s≠[]:=by
 unfold dg
 split
 ·decide
 ·assumption
theorem g6(s:List UInt8):bF (tV 20 s) (pv 20 0 aH)=pv 20 0 (dg s):=by
 rcases Decidable.em (s=[])with h|h
 ·rw[tV,if_pos h,dg,if_pos h];exact bT
 ·rw[tV,if_neg h,dg,if_neg h];exact dr (by decide)
theorem ar.exp{v:V}{s:List UInt8}:ar v (pv 20 0 aH) (tV 20 s) (tV 20 (dg s)):=
 ar.pv0 (g6 s) (by rw[g6,dg,if_neg (ou s)]) (by decide) (by decide) (by decide)
theorem ar.num{v:V}{k:Int}{n m:Nat}(hk:k≠0∧k≠21∧k≠22∧k≠23):ar v (pv k m []) (pv k n []) (pv k n []):=
 ar.pv0 (dr hk.1) (dr hk.1) hk.2.1 hk.2.2.1 hk.2.2.2
theorem eK{ts:List (List UInt8)}(h:ts≠[]):bf ts= .mk 23 0 [] (ts.map fun s=>pv 20 0 s) 0 []:=if_neg h
theorem ar.syms{v:V}{ts:List (List UInt8)}(hc:ah (bf ts)≤1000000000):ar v ap (bf ts) (bf ts):=by
 rcases Decidable.em (ts=[])with h|h
 ·have e:bf ts=ap:=if_pos h
  rw[e]
  exact ar.pv0 (k:=0) (n:=0) (s:=[]) bT bT (by decide) (by decide) (by decide)
 ·have e:=eK h
  have ef:bF (bf ts) ap=bf ts:=jX (by rw[e];show(23:Int)≠0;decide)
  have hu:(∃s,usual (bf ts)=pv 19 0 s)∨usual (bf ts)= .mk 23 0 [] (usualL (ts.map fun s=>pv 20 0 s)) 0 []:=by
   rw[e]
   rcases Decidable.em (ts.length=1)with h1|h1
   ·obtain⟨t,rfl⟩:=List.length_eq_one_iff.1 h1
    exact .inl ⟨t,fJ rfl rfl rfl⟩
   ·exact .inr (cB (by decide) (fun h=>h1 (by simpa using h.2.1)) (fun h=>absurd h.1 (by decide)))
  refine ar.plain ?_ ?_ ?_ ?_ ?_
  ·rw[ef,e];show¬(0=1);decide
  ·rw[ef]
   rcases hu with⟨s,hu⟩|hu
   ·rw[hu];exact oG 19 0 s (by decide) (by decide)
   ·rw[hu,ND];exact⟨rfl,fun h=>by omega⟩
  ·rw[ef]
   rcases hu with⟨s,hu⟩|hu
   ·exact df (by rw[hu];show(19:Int)≠21;decide) (by rw[hu];show(19:Int)≠22;decide)
   ·exact df (by rw[hu];show(23:Int)≠21;decide) (by rw[hu];show(23:Int)≠22;decide)
  ·rw[ef];exact hc
  ·rw[ef];exact hc
theorem mI{s:List UInt8}{y:V}(h:bt (tV 20 s) (pv 20 0 aH) y):(cI y∧dg s=aH)∨(y.kind=20∧y.desc=[]∧y.text=dg s):=by
 rcases Decidable.em (s=[])with h0|h0
 ·have e:tV 20 s=ap:=if_pos h0
  have e2:dg s=aH:=if_pos h0
  rw[e]at h
  rcases h with rfl|⟨rfl,_⟩|⟨h,_⟩
  ·exact .inl ⟨bd,e2⟩
  ·exact .inl ⟨bd,e2⟩
  ·exact absurd h (by show¬((0:Int)=23);decide)
 ·have e:tV 20 s=pv 20 0 s:=if_neg h0
  have e2:dg s=s:=if_neg h0
  rw[e]at h
  rw[e2]
  rcases h with rfl|⟨rfl,h|⟨_,h⟩⟩|⟨h,_⟩
  ·exact .inr ⟨rfl,rfl,rfl⟩
  ·exact absurd (congrArg V.kind h) (by show¬((20:Int)=0);decide)
  ·exact .inl ⟨bd,(fS h).2.2⟩
  ·exact absurd h (by show¬((20:Int)=23);decide)
theorem kE{ts:List (List UInt8)}{y:V}(hn:∀s∈ts,s≠[])(h:bt (bf ts) ap y):mg y ts:=by
 rcases Decidable.em (ts=[])with h0|h0
 ·have e:bf ts=ap:=if_pos h0
  rw[e]at h
  rcases h with rfl|⟨rfl,_⟩|⟨h,_⟩
  ·exact .inl ⟨bd,h0⟩
  ·exact .inl ⟨bd,h0⟩
  ·exact absurd h (by show¬((0:Int)=23);decide)
 ·have e:=eK h0
  rw[e]at h
  rcases h with rfl|⟨rfl,h|⟨h,_⟩⟩|⟨_,s,h1,h2,rfl⟩
  ·refine .inr (.inr ⟨rfl,rfl,by simpa[V.kids]using h0,fun z hz=>?_,?_⟩)
   ·obtain⟨s,hs,rfl⟩:=List.mem_map.1 hz
    exact⟨rfl,hn s hs⟩
   ·simp[V.kids,Function.comp_def,V.text]
  ·exact absurd (congrArg V.kind h) (by show¬((23:Int)=0);decide)
  ·exact absurd rfl h
  ·have h1':(ts.map fun s=>pv 20 0 s)=[y]:=h1
   match ts,h1' with
   |[t],h3=>
    obtain rfl:pv 20 0 t=y:=by simpa using h3
    exact .inr (.inl ⟨rfl,rfl,rfl⟩)
theorem is{k:Int}{s:List UInt8}(hk:17≤k∧k≤20):cz (tV k s):=by
 refine⟨rx hk,?_,?_⟩
 ·unfold tV
  split
  ·exact fun _=>rfl
  ·intro h
   have:k=0:=h
   omega
 ·unfold tV
  split
  ·exact fun h=>absurd h (by show¬((0:Int)=23);decide)
  ·intro h
   have:k=23:=h
   omega
theorem dQ{k:Int}{n:Nat}(hk:k=1∨k=4)(h1:k=1→n≤1)(h4:k=4→n<4294967296):cz (pv k n []):=by
 refine⟨gM (by omega) h1 h4 (by omega) (by omega),fun h=>?_,fun h=>?_⟩
 ·have:k=0:=h
  omega
 ·have:k=23:=h
  omega
theorem kI{kk:Int}{l:List V}(h:fo kk l):cz (mV l):=by
 refine⟨rD h,?_,?_⟩
 ·unfold mV
  split
  ·exact fun _=>rfl
  ·exact fun h=>absurd h (by show¬((22:Int)=0);decide)
 ·unfold mV
  split
  ·exact fun h=>absurd h (by show¬((0:Int)=23);decide)
  ·exact fun h=>absurd h (by show¬((22:Int)=23);decide)
theorem jG{ts:List (List UInt8)}(hV:VF (bf ts)):cz (bf ts):=by
 rcases Decidable.em (ts=[])with h0|h0
 ·rw[show bf ts=ap from if_pos h0];exact fe
 ·rw[eK h0]at hV⊢
  rw[VF]at hV
  have hk:=cr.mem hV.2.2.2.2.2.2.2.2.2.1
  refine⟨?_,fun h=>absurd h (by show¬((23:Int)=0);decide),fun _ s hs=>?_⟩
  ·rw[Wt]
   refine⟨by omega,by omega,by omega,dJ (by omega) (by omega) (by omega) (by omega) (by omega),hV.2.2.2.2.2.2.1,.inl rfl,fun h=>by omega,fun _=>⟨by simpa using h0,20,by unfold arrK;omega,fun x hx=>?_⟩⟩
   have hv:=hk x hx
   obtain⟨s,hs,rfl⟩:=List.mem_map.1 hx
   exact⟨rfl,hv.plain rfl (by show(20:Int)≠14;decide)⟩
  ·obtain⟨t,_,rfl⟩:=List.mem_map.1 hs
   exact gM (by omega) (by omega) (by omega) (by omega) (by omega)
theorem j7:∀ {fs:List (V×V)} {ys:List V},ys.length≤fs.length→(∀j (h:j<fs.length),bt fs[j].1 fs[j].2 (aq ys j))→au ys≤au (fs.map (·.1))
 |_,[],_,_=>by rw[au];omega
 |[],y::s,hl,_=>absurd hl (by simp)
 |f::r,y::s,hl,h=>by
  have h0:bv y≤bv f.1:=(h 0 (by simp)).vol
  have h1:=j7 (fs:=r) (ys:=s) (by simpa using hl) fun j hj=>h (j+1) (by simpa using hj)
  rw[List.map_cons,au,au];omega
section
variable {addr exp:List UInt8} {dur tmo:Nat} {dyn:Bool} {node:List V} {caps:List (List UInt8)}
theorem aM:(aU addr dur exp tmo dyn node caps).length=7:=rfl
theorem fF(hd:dur<4294967296)(ht:tmo<4294967296)(hW:fo 20 node)(hS:cz (bf caps)):∀f∈aU addr dur exp tmo dyn node caps,cz f.1:=by
 intro f hf
 simp only[aU,fC,List.cons_append,List.nil_append,List.mem_cons,List.not_mem_nil,or_false]at hf
 rcases hf with rfl|rfl|rfl|rfl|rfl|rfl|rfl
 ·exact is (by omega)
 ·exact dQ (.inr rfl) (by omega) fun _=>hd
 ·exact is (by omega)
 ·exact dQ (.inr rfl) (by omega) fun _=>ht
 ·exact dQ (.inl rfl) (fun _=>by cases dyn<;>decide) (by omega)
 ·exact kI hW
 ·exact hS
theorem nl{ks:List V}(hd:dur<4294967296)(ht:tmo<4294967296)(hx:exp=[]∨aY exp)(hW:fo 20 node)(hn:∀s∈caps,s≠[])(hk:ks.length≤7)(hp:∀i (h:i<(aU addr dur exp tmo dyn node caps).length),bt (aU addr dur exp tmo dyn node caps)[i].1 (aU addr dur exp tmo dyn node caps)[i].2 (aq ks i)):oa ks addr dur (dg exp) tmo dyn.toNat node caps where
 len:=hk
 f0:=md (by decide) (hp 0 (by rw[aM];omega))
 f1:=eT (by decide) (by decide) (hp 1 (by rw[aM];omega))
 f2:=mI (hp 2 (by rw[aM];omega))
 f3:=eT (by decide) (by decide) (hp 3 (by rw[aM];omega))
 f4:=eT (by decide) (by decide) (hp 4 (by rw[aM];omega))
 f5:=mW hW.1.1 (hp 5 (by rw[aM];omega))
 f6:=kE hn (hp 6 (by rw[aM];omega))
 hdur:=hd
 htmo:=ht
 hexp:=by
  rcases hx with rfl|hx
  ·exact .inr (.inl rfl)
  ·unfold dg
   split
   ·exact .inr (.inl rfl)
   ·exact hx
def rp(A:Nat→Prop)(w:World)(addr:List UInt8)(dur:Nat)(exp:List UInt8)(tmo:Nat)(dyn:Bool)(node:List V)(caps:List (List UInt8))(cells:List Value):Prop:=
 ∃p c pc cc,cells=[str addr,.int .u32 (dur:Int),str exp,.int .u32 (tmo:Int),.bool dyn,.slice p node.length c,.slice pc caps.length cc]∧aD A w node.length (.slice p node.length c) (aa A w node)∧dY A w caps (.slice pc caps.length cc)
theorem nV.open{N0:Nat}{w:World}{cells:List Value}(h:nV N0 w addr dur exp tmo dyn.toNat node caps cells):∃ys,rp (fun b=>N0≤b) w addr dur exp tmo dyn ys caps cells∧dw 20 node ys:=by
 obtain⟨sv,ys,cv,rfl,h1,h2,h3⟩:=h
 have h4:=h1
 obtain⟨p,c,_,rfl,_⟩:=h4
 obtain⟨pc,cc,rfl,_⟩:=h3.form
 refine⟨ys,⟨p,c,pc,cc,?_,h1,dY.own h3 fun _ h=>h⟩,h2⟩
 cases dyn<;>rfl
theorem cQ{A:Nat→Prop}{ks:List V}{bs r:List UInt8}{data:Value}{w:World}(hd:dur<4294967296)(ht:tmo<4294967296)(hx:exp=[]∨aY exp)(hW:fo 20 node)(hn:∀s∈caps,s≠[])(hcl:caps.length≤65536)(hk:ks.length≤7)(hp:∀i (h:i<(aU addr dur exp tmo dyn node caps).length),bt (aU addr dur exp tmo dyn node caps)[i].1 (aU addr dur exp tmo dyn node caps)[i].2 (aq ks i))(hE:Enc (.mk 21 0 [] ks 0 [uV 41]) bs)(hI:IsB A w data (bs++r))(hbl:(bs++r).length≤1000000000)(hUT:UT w):
  Does TP 7 [data] w fun rr w'=>∃cells ys rest,rr= .tuple #[.agg cells.toArray,rest,.bool true]∧rp (fun b=>w.heap.size≤b) w' addr dur (dg exp) tmo dyn ys caps cells∧dw 20 node ys∧IsB (fun b=>w.heap.size≤b) w' rest r∧Ext w w':=by
 obtain⟨cu,du,hd',body,rfl,hP,hEn,hh⟩:=hE.comp rfl rfl rfl
 have e:0::((cu::du)++(hd'++body))++r=0::((cu::du)++(hd'++(body++r))):=by simp
 rw[e]at hI hbl
 refine(fy hI hbl (nl hd ht hx hW hn hk hp) hP hh hEn hW.1 hcl hUT).imp fun rr w' ⟨cells,rest,h1,h2,h3,h4⟩=>?_
 obtain⟨ys,h5,h6⟩:=h2.open
 exact⟨cells,ys,rest,h1,h5,h6,h3,h4⟩
theorem gQ{A B:Nat→Prop}{ys:List V}{c1 c2:List Value}{w:World}(hC:aN A w 41 (aU addr dur exp tmo dyn node caps) c1)(hC2:aN B w 41 (aU addr dur (dg exp) tmo dyn ys caps) c2)(hB:dw 20 node ys)(hW:fo 20 node)(hc:ad node≤999999999)(hcs:ah (bf caps)≤1000000000):
  Does TP 10 [.agg c1.toArray,.agg c2.toArray] w fun r w'=>r= .bool true∧Ext w w':=by
 refine nU hC hC2 (by rw[aM];omega) rfl fun i hi=>?_
 match i,hi with
 |0,_=>exact ar.txt (.inl rfl)
 |1,_=>exact ar.num (by decide)
 |2,_=>exact ar.exp
 |3,_=>exact ar.num (by decide)
 |4,_=>exact ar.num (by decide)
 |5,_=>exact ar.map (.inr rfl) hB hW hc
 |6,_=>exact ar.syms hcs
 |i+7,h=>exact absurd h (by rw[aM];omega)
theorem j1{A:Nat→Prop}{cells:List Value}{fb:Nat}{w:World}(hC:aN A w 41 (aU addr dur exp tmo dyn node caps) cells)(hF:Fm w fb)(hA:∀b,A b→b≠fb)(hok:∀f∈aU addr dur exp tmo dyn node caps,cz f.1)(hv:au ((aU addr dur exp tmo dyn node caps).map (·.1))≤900000000):
  Does TP 9 [.agg cells.toArray,.pointer (some ⟨fb,0,none⟩)] w fun r w'=>∃ks bs,ks.length≤7∧(∀i (h:i<(aU addr dur exp tmo dyn node caps).length),bt (aU addr dur exp tmo dyn node caps)[i].1 (aU addr dur exp tmo dyn node caps)[i].2 (aq ks i))∧Enc (.mk 21 0 [] ks 0 [uV 41]) bs∧bs.length≤900001000∧Own w.heap.size 5 1 w' r bs.length (bc bs)∧Evo (fun k=>k≠fb) w w':=by
 refine(oM hC hF hA (by rw[aM];omega) (by rw[aM];omega) (by omega) (by omega) hok).imp fun r w' ⟨ks,bs,h1,h2,h3,h4,_,h6⟩=>⟨ks,bs,h1,h2,h3,?_,h4,h6⟩
 have h7:=h3.vol
 have h8:=j7 h1 h2
 have e1:bv (.mk 21 0 [] ks 0 [uV 41])=64+([]:List UInt8).length+au ks+au [uV 41]:=by rw[bv]
 have e2:au [uV 41]=64:=by simp[au,bv,uV]
 rw[e1,e2,List.length_nil]at h7
 omega
theorem kp(hV:VF (bC 41 (aU addr dur exp tmo dyn node caps)))(hc:ah (bC 41 (aU addr dur exp tmo dyn node caps))≤300):au ((aU addr dur exp tmo dyn node caps).map (·.1))≤900000000∧ad node≤999999999∧ah (bf caps)≤1000000000∧VF (bf caps)∧caps.length≤65536:=by
 have h1:=hV.vol
 have e1:bv (bC 41 (aU addr dur exp tmo dyn node caps))=64+([]:List UInt8).length+au ((aU addr dur exp tmo dyn node caps).map (·.1))+au [uV 41]:=by rw[bC,bv]
 have e2:ah (bC 41 (aU addr dur exp tmo dyn node caps))=1+ad ((aU addr dur exp tmo dyn node caps).map (·.1))+ad [uV 41]:=by rw[bC,ah]
 have m1:ah (mV node)≤ad ((aU addr dur exp tmo dyn node caps).map (·.1)):=an (by simp[aU,fC])
 have m2:ah (bf caps)≤ad ((aU addr dur exp tmo dyn node caps).map (·.1)):=an (by simp[aU])
 have hS:VF (bf caps):=by
  rw[bC,VF]at hV
  exact cr.mem hV.2.2.2.2.2.2.2.2.2.1 _ (by simp[aU])
 have n1:ad node≤ah (mV node):=by
  unfold mV
  split
  ·rename_i e;rw[e,ad];omega
  ·rw[bk,ah];omega
 have n2:caps.length≤ah (bf caps):=by
  rcases Decidable.em (caps=[])with h|h
  ·rw[h];exact Nat.zero_le _
  ·rw[eK h,ah]
   have:=ae (caps.map fun s=>pv 20 0 s)
   rw[List.length_map]at this
   omega
 refine⟨by omega,by omega,by omega,hS,by omega⟩
end
end Go.Proofs.LL
namespace Go.Proofs.LL
open Go Go.Proofs Go.RowKit
set_option maxHeartbeats 4000000
attribute [local irreducible] RunOp WL WC WDL WT WX
theorem rF:au ((aU [97] 0 [] 0 false [] []).map (·.1))≤900000000:=by
 simp[aU,fC,tV,mV,bf,pv,ap,au,bv]
theorem nW{A:Nat→Prop}{addr exp:List UInt8}{dur tmo:Nat}{dyn:Bool}{node:List V}{caps:List (List UInt8)}{p pc:Option Addr}{cp cc:Nat}{v2:Value}{z:Int}{sb:List UInt8}{w:World}(hK:aD A w node.length (.slice p node.length cp) (aa A w node))(hT:dY A w caps (.slice pc caps.length cc))(hd:dur<4294967296)(ht:tmo<4294967296)(hS:IsB A w v2 sb)(hz:0≤z∧z<18446744073709551616)(hUT:UT w):
  Does TP 3 [.agg #[str addr,.int .u32 (dur:Int),str exp,.int .u32 (tmo:Int),.bool dyn,.slice p node.length cp,.slice pc caps.length cc],.int .u64 z,v2] w fun r w'=>r= .bool true∧Ext w w':=by
 have hUTl:=hUT.lt
 replace hK:=hK.weakW (B:=fun b=>b<w.heap.size) (fun b hb _=>hb)
 replace hT:=hT.lowW (B:=fun b=>b<w.heap.size) (fun b hb _=>hb)
 replace hS:=hS.weaken (B:=fun b=>b<w.heap.size) (fun b hb _=>hb)
 have hS0:=hS
 obtain⟨p2,c2,rfl,_⟩:=hS0
 refine do1 Tryz.func3 ?_
 have he:Evo (fun b=>b<w.heap.size) w w:=Evo.refl w
 refine uA 2 rfl ?_
 have hs1:=he.size
 refine bx rfl ?_
 rintro _ w1 ⟨rfl,hb1,e1⟩
 have nx1:=hb1.lt
 have ns1:=e1.size
 refine uD 5 rfl<|la rfl hb1 ?_
 replace hT:=hT.mono e1
 refine cl rfl (jj rfl rfl rfl hT) ?_
 rintro v2 w2 ⟨z0,rfl,qz0,e2⟩
 have ns2:=e2.size
 cases z0
 ·refine uD 12 rfl<|WC.ret ?_
  replace he:=(he.then e1).then e2
  exact fin1 rfl ⟨rfl,he.weaken fun k hk _=>hk⟩
 ·have hcl:=qz0 rfl
  rcases Nat.lt_or_ge 2147483647 sb.length with q0|q0
  ·refine uC 4 rfl ?_
   refine WL.qg rfl rfl rfl rfl (r_cmp (r_gtr rfl rfl) (decide_eq_true (by(omega)))) ?_
   refine uD 7 rfl<|WC.ret ?_
   replace he:=(he.then e1).then e2
   exact fin1 rfl ⟨rfl,he.weaken fun k hk _=>hk⟩
  ·refine uC 4 rfl ?_
   refine WL.qg rfl rfl rfl rfl (r_cmp (r_gtr rfl rfl) (decide_eq_false (by(omega)))) ?_
   refine uD 4 rfl<|uA 2 rfl<|WL.q rfl (r_bld (cs:=[_,_,_,_,_,_,_]) Fo.h rfl rfl) ?_
   replace he:=(he.then e1).then e2
   have hs3:=he.size
   replace hb1:=hb1.mono e2
   have hx3b1:=hb1.lt
   refine al ?_
   rintro _ w3 ⟨rfl,hb3,e3⟩
   have nx3:=hb3.lt
   have ns3:=e3.size
   refine WL.l0 (lsw rfl rfl hb3) ?_
   rintro _ w4 ⟨hb3,e4,hz4⟩
   have ns4:=e4.size
   refine uD 3 rfl<|la rfl hb3 ?_
   refine cl rfl (aQ (A:=fun b=>b<0) (addr:=[97]) (exp:=[]) (dur:=0) (tmo:=0) (dyn:=false) (node:=[]) (caps:=[]) aD.nil dY.nil (by omega) (by omega) (by simp)) ?_
   rintro v5 w5 ⟨a,b,rfl,hC,e5⟩
   have hZC:=hC.lowW (B:=fun b=>b<w5.heap.size) (fun b hb _=>hb)
   have ns5:=e5.size
   refine WL.q rfl (r_bld (cs:=[_,_]) Fo.h rfl rfl) ?_
   replace he:=(he.then (e3.then e4)).then e5
   have hs6:=he.size
   replace hb1:=(hb1.mono (e3.then e4)).mono e5
   have hx6b1:=hb1.lt
   replace hb3:=hb3.mono e5
   have hx6b3:=hb3.lt
   refine bx rfl ?_
   rintro _ w6 ⟨rfl,hb6,e6⟩
   have nx6:=hb6.lt
   have ns6:=e6.size
   replace hZC:=hZC.mono e6
   refine cl rfl (j1 hZC ⟨0,true,by omega,by omega,hb6⟩ (fun b h=>by omega) (fF (by omega) (by omega) (dq 20) fe) rF) ?_
   rintro v7 w7 ⟨ks,bs,qk,qp,qE,qbl,hO,e7⟩
   have ns7:=e7.size
   replace hUT:=(((((hUT.mono e1).mono e2).mono (e3.then e4)).mono e5).mono e6).mono e7
   refine cl rfl (cQ (addr:=[97]) (exp:=[]) (dur:=0) (tmo:=0) (dyn:=false) (node:=[]) (caps:=[]) (r:=[]) (by omega) (by omega) (.inl rfl) (dq 20) (fun s h=>by cases h) (by simp) qk qp qE (by rw[List.append_nil];exact hO.toB (A:=fun _=>True) (fun _ _ _=>trivial)) (by rw[List.append_nil];omega) hUT) ?_
   rintro v8 w8 ⟨cs,ys,rest,rfl,qT,qB,_,e8⟩
   obtain⟨p1,c1,pc1,cc1,rfl,hZK,hZS⟩:=qT
   have ns8:=e8.size
   refine uC 4 rfl ?_
   replace he:=((he.then e6).then e7).then e8
   have hs9:=he.size
   replace hb1:=((hb1.mono e6).mono e7).mono e8
   have hx9b1:=hb1.lt
   replace hb3:=((hb3.mono e6).mono e7).mono e8
   have hx9b3:=hb3.lt
   refine al ?_
   rintro _ w9 ⟨rfl,hb9,e9⟩
   have nx9:=hb9.lt
   have ns9:=e9.size
   refine WL.l0 (lsw rfl rfl hb9) ?_
   rintro _ w10 ⟨hb9,e10,hz10⟩
   have ns10:=e10.size
   refine uC 3 rfl ?_
   replace hK:=(((((((hK.mono e1).mono e2).mono (e3.then e4)).mono e5).mono e6).mono e7).mono e8).mono (e9.then e10)
   replace hT:=((((((hT.mono e2).mono (e3.then e4)).mono e5).mono e6).mono e7).mono e8).mono (e9.then e10)
   replace hUT:=(hUT.mono e8).mono (e9.then e10)
   replace hS:=(((((((hS.mono e1).mono e2).mono (e3.then e4)).mono e5).mono e6).mono e7).mono e8).mono (e9.then e10)
   replace hb1:=hb1.mono (e9.then e10)
   replace hb3:=hb3.mono (e9.then e10)
   replace hZK:=hZK.mono (e9.then e10)
   replace hZS:=hZS.mono (e9.then e10)
   refine WC.seq<|WC.regionD (tt [0,1,2,4]++ff [3,5,6]++tt [7,8]) (Ext _) mixed (by kernel_rfl) (Ext.drew _) ?_
   have nd1w10:w10.drew.heap.size=w10.heap.size:=rfl
   refine uE 2 rfl ?_
   refine WD.qg rfl rfl rfl rfl (fun _ hS=>r_loadAgg Fo.h rfl hS hb3.at (hn:=by first|rfl|assumption)) ?_
   refine WD.qg rfl rfl rfl rfl (fun _ hS=>r_loadAgg Fo.h rfl hS hb9.at (hn:=by first|rfl|assumption)) ?_
   refine WD.lg rfl rfl rfl rfl rfl (l_do Fb.h rfl (aQ (A:=fun b=>b<0) (addr:=[97]) (exp:=[]) (dur:=0) (tmo:=0) (dyn:=false) (node:=[]) (caps:=[]) aD.nil dY.nil (by omega) (by omega) (by simp))) ?_
   rintro v11 w11 ⟨a1,b1,rfl,hCa,e11⟩
   have ns11:=e11.size
   refine⟨((Evo.drew _).then e11),?_⟩
   refine WD.lg rfl rfl rfl rfl rfl (l_do Fb.h rfl (aQ ((hZK.mono (Ext.drew _)).mono e11) ((hZS.mono (Ext.drew _)).mono e11) (by omega) (by omega) (by simp))) ?_
   rintro v12 w12 ⟨a2,b2,rfl,hCb,e12⟩
   have ns12:=e12.size
   refine⟨(((Evo.drew _).then e11).then e12),?_⟩
   refine WD.lg rfl rfl rfl rfl rfl (l_do Fb.h rfl (gQ (hCa.mono e12) hCb qB (dq 20) (by simp[ad]) (by simp[bf,ap,ah,ad]))) ?_
   rintro v13 w13 ⟨rfl,e13⟩
   have ns13:=e13.size
   refine⟨((((Evo.drew _).then e11).then e12).then e13),?_⟩
   refine uE 2 rfl<|WD.nil<|uA 3 rfl ?_
   replace hb1:=(((hb1.mono (Ext.drew _)).mono e11).mono e12).mono e13
   refine la rfl hb1 ?_
   replace hK:=(((hK.mono (Ext.drew _)).mono e11).mono e12).mono e13
   replace hT:=(((hT.mono (Ext.drew _)).mono e11).mono e12).mono e13
   replace hUT:=(((hUT.mono (Ext.drew _)).mono e11).mono e12).mono e13
   refine cl rfl (eS rfl rfl hK hT hcl hUT) ?_
   rintro v14 w14 ⟨z1,rfl,qz,e14⟩
   have ns14:=e14.size
   cases z1
   ·refine uD 19 rfl<|WC.ret ?_
    replace he:=(((((he.then (e9.then e10)).then (Ext.drew _)).then e11).then e12).then e13).then e14
    exact fin1 rfl ⟨rfl,he.weaken fun k hk _=>hk⟩
   ·obtain⟨qx,qW,qn⟩:=qz rfl
    refine uC 2 rfl ?_
    replace hb1:=hb1.mono e14
    refine WL.qg rfl rfl rfl rfl (r_loadAgg Fo.h rfl (Ext.refl _) hb1.at (hn:=by first|rfl|assumption)) ?_
    replace hK:=hK.mono e14
    replace hT:=hT.mono e14
    refine WL.lg rfl rfl rfl rfl (l_do Fb.h rfl (aQ hK hT hd ht hcl)) ?_
    rintro v15 w15 ⟨a3,b3,rfl,hCf,e15⟩
    have ns15:=e15.size
    replace hUT:=(hUT.mono e14).mono e15
    refine WL.lg rfl rfl rfl rfl (l_do Fb.h rfl (mX hCf (by rw[aM];omega) hUT)) ?_
    rintro v16 w16 ⟨z2,rfl,qf,e16⟩
    have ns16:=e16.size
    cases z2
    ·refine uD 14 rfl<|WC.ret ?_
     replace he:=(((((((he.then (e9.then e10)).then (Ext.drew _)).then e11).then e12).then e13).then e14).then e15).then e16
     exact fin1 rfl ⟨rfl,he.weaken fun k hk _=>hk⟩
    ·obtain⟨qV,qc⟩:=qf rfl
     obtain⟨nvol,ncn,ncs,qVS,ncl⟩:=kp qV qc
     rcases Nat.lt_or_ge 100 sb.length with q|q
     ·refine uC 5 rfl ?_
      refine WL.qg rfl rfl rfl rfl (r_cmp (r_gtr rfl rfl) (decide_eq_true (by(omega)))) ?_
      refine uD 8 rfl<|WC.ret ?_
      replace he:=(((((((he.then (e9.then e10)).then (Ext.drew _)).then e11).then e12).then e13).then e14).then e15).then e16
      exact fin1 rfl ⟨rfl,he.weaken fun k hk _=>hk⟩
     ·refine uC 5 rfl ?_
      refine WL.qg rfl rfl rfl rfl (r_cmp (r_gtr rfl rfl) (decide_eq_false (by(omega)))) ?_
      refine uD 4 rfl<|uA 2 rfl ?_
      replace hb1:=(hb1.mono e15).mono e16
      refine la rfl hb1 ?_
      replace hK:=(hK.mono e15).mono e16
      replace hT:=(hT.mono e15).mono e16
      refine cl rfl (aQ hK hT hd ht hcl) ?_
      rintro v17 w17 ⟨a4,b4,rfl,hC4,e17⟩
      have hZC4:=hC4.lowW (B:=fun b=>b<w17.heap.size) (fun b hb _=>hb)
      have ns17:=e17.size
      refine uC 1 rfl<|WL.q rfl (r_bld (cs:=[_,_]) Fo.h rfl rfl) ?_
      replace he:=((((((((he.then (e9.then e10)).then (Ext.drew _)).then e11).then e12).then e13).then e14).then e15).then e16).then e17
      have hs18:=he.size
      replace hb1:=hb1.mono e17
      have hx18b1:=hb1.lt
      replace hb3:=(((((((hb3.mono (Ext.drew _)).mono e11).mono e12).mono e13).mono e14).mono e15).mono e16).mono e17
      have hx18b3:=hb3.lt
      replace hb9:=(((((((hb9.mono (Ext.drew _)).mono e11).mono e12).mono e13).mono e14).mono e15).mono e16).mono e17
      have hx18b9:=hb9.lt
      refine bx rfl ?_
      rintro _ w18 ⟨rfl,hb18,e18⟩
      have nx18:=hb18.lt
      have ns18:=e18.size
      replace hZC4:=hZC4.mono e18
      refine cl rfl (j1 hZC4 ⟨z,false,hz.1,hz.2,hb18⟩ (fun b h=>by omega) (fF hd ht qW (jG qVS)) nvol) ?_
      rintro v19 w19 ⟨ks2,bs2,qk2,qp2,qE2,qbl2,hO2,e19⟩
      obtain⟨q19,c19,hq19,_,_⟩:=hO2.form
      subst hq19
      have ns19:=e19.size
      refine uC 1 rfl ?_
      replace hS:=(((((((((hS.mono (Ext.drew _)).mono e11).mono e12).mono e13).mono e14).mono e15).mono e16).mono e17).mono e18).mono e19
      refine WL.l rfl (l_app Fo.h rfl rfl hO2 (Src.isB Fb.h hS) (by omega) (by simp only[maxLen];omega) (by omega)) ?_
      rintro v20 w20 ⟨hO3,e20⟩
      have hZB:=((hO3.low (B':=w.heap.size) (by omega)).cast rfl (aE bs2 sb).symm).toB (A:=fun b=>w.heap.size≤b) (fun b hb _=>hb)
      have ns20:=e20.size
      replace hUT:=((((hUT.mono e16).mono e17).mono e18).mono e19).mono e20
      refine cl rfl (cQ hd ht qx qW qn ncl qk2 qp2 qE2 hZB (by rw[List.length_append];omega) hUT) ?_
      rintro v21 w21 ⟨cs3,ys3,rest3,rfl,qT3,qB3,hI3,e21⟩
      obtain⟨p3,c3,pc3,cc3,rfl,hZK3,hZS3⟩:=qT3
      have ns21:=e21.size
      refine uC 4 rfl ?_
      replace he:=(((he.then e18).then e19).then e20).then e21
      have hs22:=he.size
      replace hb1:=(((hb1.mono e18).mono e19).mono e20).mono e21
      have hx22b1:=hb1.lt
      replace hb3:=(((hb3.mono e18).mono e19).mono e20).mono e21
      have hx22b3:=hb3.lt
      replace hb9:=(((hb9.mono e18).mono e19).mono e20).mono e21
      have hx22b9:=hb9.lt
      refine al ?_
      rintro _ w22 ⟨rfl,hb22,e22⟩
      have nx22:=hb22.lt
      have ns22:=e22.size
      refine WL.l0 (lsw rfl rfl hb22) ?_
      rintro _ w23 ⟨hb22,e23,hz23⟩
      have ns23:=e23.size
      refine uC 3 rfl ?_
      replace hK:=(((((hK.mono e17).mono e18).mono e19).mono e20).mono e21).mono (e22.then e23)
      replace hT:=(((((hT.mono e17).mono e18).mono e19).mono e20).mono e21).mono (e22.then e23)
      replace hUT:=(hUT.mono e21).mono (e22.then e23)
      replace hS:=((hS.mono e20).mono e21).mono (e22.then e23)
      replace hb1:=hb1.mono (e22.then e23)
      replace hb3:=hb3.mono (e22.then e23)
      replace hb9:=hb9.mono (e22.then e23)
      replace hI3:=hI3.mono (e22.then e23)
      replace hZK3:=hZK3.mono (e22.then e23)
      replace hZS3:=hZS3.mono (e22.then e23)
      refine WC.seq<|WC.regionD (tt [0,1,2,4]++ff [3,5,6]++tt [7,8,9,10]++ff [11]++tt [12,13,14,15,16]) (Ext _) mixed (by kernel_rfl) (Ext.drew _) ?_
      have nd1w23:w23.drew.heap.size=w23.heap.size:=rfl
      refine uE 2 rfl ?_
      refine WD.qg rfl rfl rfl rfl (fun _ hS=>r_loadAgg Fo.h rfl hS hb1.at (hn:=by first|rfl|assumption)) ?_
      refine WD.qg rfl rfl rfl rfl (fun _ hS=>r_loadAgg Fo.h rfl hS hb22.at (hn:=by first|rfl|assumption)) ?_
      refine WD.lg rfl rfl rfl rfl rfl (l_do Fb.h rfl (aQ (hK.mono (Ext.drew _)) (hT.mono (Ext.drew _)) hd ht hcl)) ?_
      rintro v24 w24 ⟨a5,b5,rfl,hC5,e24⟩
      have ns24:=e24.size
      refine⟨((Evo.drew _).then e24),?_⟩
      refine WD.lg rfl rfl rfl rfl rfl (l_do Fb.h rfl (aQ ((hZK3.mono (Ext.drew _)).mono e24) ((hZS3.mono (Ext.drew _)).mono e24) hd ht hcl)) ?_
      rintro v25 w25 ⟨a6,b6,rfl,hC6,e25⟩
      have ns25:=e25.size
      refine⟨(((Evo.drew _).then e24).then e25),?_⟩
      refine WD.lg rfl rfl rfl rfl rfl (l_do Fb.h rfl (gQ (hC5.mono e25) hC6 qB3 qW ncn ncs)) ?_
      rintro v26 w26 ⟨rfl,e26⟩
      have ns26:=e26.size
      refine⟨((((Evo.drew _).then e24).then e25).then e26),?_⟩
      refine uE 4 rfl ?_
      refine WD.lg rfl rfl rfl rfl rfl (l_do Fb.h rfl (nv ((((hI3.mono (Ext.drew _)).mono e24).mono e25).mono e26) ((((hS.mono (Ext.drew _)).mono e24).mono e25).mono e26))) ?_
      rintro v27 w27 ⟨rfl,e27⟩
      have ns27:=e27.size
      refine⟨(((((Evo.drew _).then e24).then e25).then e26).then e27),?_⟩
      refine uE 5 rfl<|WD.nil<|WC.ret ?_
      replace he:=(((((he.then (e22.then e23)).then (Ext.drew _)).then e24).then e25).then e26).then e27
      exact fin1 rfl ⟨rfl,he.weaken fun k hk _=>hk⟩
end Go.Proofs.LL
