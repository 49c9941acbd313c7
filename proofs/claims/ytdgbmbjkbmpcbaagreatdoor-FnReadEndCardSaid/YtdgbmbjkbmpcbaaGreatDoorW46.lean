/- Contracts of functions of impl, spec and laws. Conditions: those that each theorem states. -/
import Derived.Test.YtdgbmbjkbmpcbaaGreatDoorW45
set_option linter.all false
set_option maxRecDepth 20000
namespace Go.Proofs.LL
open Go Go.Proofs Go.RowKit
set_option maxHeartbeats 4000000
attribute [local irreducible] RunOp WL WC WDL WT WX
theorem RepVL.set{A:Nat→Prop}{w:World}:∀ {ys:List V} {cs:List Value} {i:Nat} {y:V} {c:List Value},i<ys.length→RepVL A w ys cs→RepV A w y c→RepVL A w (ys.set i y) (cs.take (i * 6)++c++cs.drop (i * 6+c.length))
 |[],_,i,_,_,hi,_,_=>absurd hi (by simp)
 |x::r,cs,0,y,c,_,h,hy=>by
  rw[RepVL]at h
  obtain⟨c0,c',rfl,h1,h2⟩:=h
  have l0:=h1.len
  have l1:=hy.len
  simp only[List.set_cons_zero,Nat.zero_mul,List.take_zero,List.nil_append,Nat.zero_add]
  rw[RepVL]
  refine⟨c,c',?_,hy,h2⟩
  rw[l1,← l0,List.drop_left]
 |x::r,cs,i+1,y,c,hi,h,hy=>by
  rw[RepVL]at h
  obtain⟨c0,c',rfl,h1,h2⟩:=h
  have l0:=h1.len
  have ih:=RepVL.set (i:=i) (by simpa using hi) h2 hy
  simp only[List.set_cons_succ]
  rw[RepVL]
  refine⟨c0,_,?_,h1,ih⟩
  have e1:(i+1) * 6=c0.length+i * 6:=by omega
  rw[e1,Nat.add_assoc,List.take_length_add_append,List.drop_length_add_append,List.append_assoc,List.append_assoc,List.append_assoc]
theorem RepVL.take{A:Nat→Prop}{w:World}:∀ {ys:List V} {cs:List Value} (m:Nat),RepVL A w ys cs→RepVL A w (ys.take m) (cs.take (m * 6))
 |[],cs,m,h=>by rw[RepVL]at h;subst h;simp[RepVL]
 |x::r,cs,0,h=>by simp[RepVL]
 |x::r,cs,m+1,h=>by
  rw[RepVL]at h
  obtain⟨c0,c',rfl,h1,h2⟩:=h
  have l0:=h1.len
  rw[List.take_succ_cons,RepVL]
  refine⟨c0,c'.take (m * 6),?_,h1,RepVL.take m h2⟩
  have e1:(m+1) * 6=c0.length+m * 6:=by omega
  rw[e1,List.take_length_add_append]
theorem At.takeL{w:World}{b o:Nat}{c:List Value}(h:At w b o c)(n:Nat):At w b o (c.take n):=by
 have h2:At w b o (c.take n++c.drop n):=by rw[List.take_append_drop];exact h
 exact h2.pre
theorem Own.at0{B e z n g c:Nat}{w:World}{xs:List Value}(h:Own B e z w (.slice (some ⟨g,0,none⟩) n c) n xs)(hn:0<n):At w g 0 xs∧g<w.heap.size∧B≤g∧n≤c:=by
 obtain⟨p,c',e1,e2,e3⟩:=h.form
 obtain⟨b,e4,e5,e6,e7⟩:=e3 hn
 simp only[Value.slice.injEq]at e1
 obtain⟨e1,_,rfl⟩:=e1
 rw[e4]at e1
 simp only[Option.some.injEq,Addr.mk.injEq]at e1
 obtain⟨rfl,_⟩:=e1
 exact⟨e7,e6,e5,e2⟩
theorem take_patch{α:Type}{L vs:List α}{j N:Nat}(h1:j+vs.length≤N)(h2:N≤L.length):(L.take j++vs++L.drop (j+vs.length)).take N=(L.take N).take j++vs++(L.take N).drop (j+vs.length):=by
 have e1:(L.take j).length=j:=by rw[List.length_take];omega
 rw[List.take_append,List.take_append,List.length_append,e1,List.take_take,List.take_take,List.drop_take,Nat.min_eq_right (by omega),Nat.min_eq_left (by omega),List.take_of_length_le (show vs.length≤N-j by omega)]
theorem l_storeOwn{P:Program}{ρ:Fr}{w:World}{ty:TypeId}{x y:Operand}{t B e z n c g i j:Nat}{xs vs:List Value}(ht:szT P t=some z)(hx:ov ρ x=some (.pointer (some ⟨g,j,none⟩)))(hy:ov ρ y=some (.agg vs.toArray))(hv:vs.all (fun v=>v.oneCell')=true)(hn:vs.length=z)(hO:Own B e z w (.slice (some ⟨g,0,none⟩) n c) n xs)(hj:j=i * z)(hi:i<n):
  LoudOp P (.store t x y) ty ρ w (fun _ w'=>Own B e z w' (.slice (some ⟨g,0,none⟩) n c) n (xs.take (i * z)++vs++xs.drop (i * z+vs.length))∧Evo (fun k=>k≠g) w w'∧w'.heap.size=w.heap.size):=by
 subst hj
 obtain⟨hl,hr|⟨g',cap,cur,h3,h4,h5,h6,h7,h8,h9⟩⟩:=hO.row
 ·cases hr.1
 ·simp only[Value.slice.injEq,Option.some.injEq,Addr.mk.injEq]at h3
  obtain⟨⟨rfl,_⟩,_,rfl⟩:=h3
  obtain⟨q,hq,hs⟩:=Option.map_eq_some_iff.1 ht
  have hle:(i+1) * z≤n * z:=Nat.mul_le_mul_right z hi
  have hle2:n * z≤c * z:=Nat.mul_le_mul_right z h6
  rw[Nat.add_mul,Nat.one_mul]at hle
  have hst:=run_storeCells_at (P:=P) g (i * z) e vs 0 cur w h5 (by omega) (fun v h=>by simpa using(List.all_eq_true.1 hv) v h)
  have hcl:cur.toList.length=c * z:=by simp[h8]
  refine LoudOp.of_skip fun N D a dst pos af gg ha=>⟨w.setRow g (cur.toList.take (i * z)++vs++cur.toList.drop (i * z+vs.length)).toArray,?_,⟨?_,.inr ⟨g,c,(cur.toList.take (i * z)++vs++cur.toList.drop (i * z+vs.length)).toArray,rfl,h4,setRow_heap w g cur _ e (0,0) h5,h6,h7,?_,?_⟩⟩,⟨rfl,rfl,rfl,by simp,fun k _ hk=>setRow_other w g k _ hk⟩,by simp⟩
  ·simp only[Nat.add_zero]at hst
   simp[execOp,ha.ov hx,ha.ov hy,Instr.storeAt,Instr.sureAddr,storeVar,sizeOf,typeInfo,hq,hs,Value.cells,hn,hst]
  ·simp;omega
  ·simp;omega
  ·rw[← h9]
   exact take_patch (by omega) (by omega)
theorem zR67_1{A:Prop}(h:A:=by
 refine WL.l0 (lsw rfl rfl hb2) ?_
 rintro _ w3 ⟨hb2,e3,hz3⟩
 have ns3:=e3.size
 refine WL.nil<|WC.ret ?_
 replace hx:=(hx.mono e1).mono (e2.then e3)
 replace hF:=(hF.mono e1).mono (e2.then e3)
 replace he:=he.then (e2.then e3)
 exact finC rfl hb2 agg_87 ⟨_,_,_,_,_,_,_,rfl,.inl rfl,hx,hF,he.weaken fun b hb h=>⟨hb,h⟩⟩):A:=h
def InF(v y:V):Prop:=y=v∨(v.kind=23∧∃s,v.kids=[s]∧s.kind=20∧y=s)
theorem inside_ok{A:Nat→Prop}{x:V}{cx:List Value}{fb:Nat}{w:World}(hx:RepV A w x cx)(hF:Fm w fb)(hA:∀b,A b→b≠fb):
  Does TP 33 [.pointer (some ⟨fb,0,none⟩),.agg cx.toArray] w fun r w'=>∃y a b c d e f,r= .agg #[a,b,c,d,e,f]∧InF x y∧RepV (fun b=>A b∧b<w.heap.size∧b≠fb) w' y [a,b,c,d,e,f]∧Fm w' fb∧Evo (fun k=>k≠fb) w w':=by
 replace hx:=hx.weakenW (B:=fun b=>A b∧b<w.heap.size∧b≠fb) (fun b hb h=>⟨h,hb,hA b h⟩)
 have hfl:=hF.lt
 obtain⟨k,n,t,ks,o,d⟩:=x
 obtain⟨pk,ck,pd,cd,rfl,_,_,hK,_⟩:=hx.openV
 rcases Decidable.em (k=23)with qk|qk
 ·rcases Decidable.em (ks.length=1)with q1|q1
  ·obtain⟨b0,o0,c0,rfl,qA0,hA0,l0,hR0⟩:=hK.kid (i:=0) (by omega)
   obtain⟨s,rfl⟩:=List.length_eq_one_iff.1 q1
   have hRs:RepV (fun b=>A b∧b<w.heap.size∧b≠fb) w s c0:=hR0
   obtain⟨k0,n0,t0,ks0,oo0,d0⟩:=s
   obtain⟨pk0,ck0,pd0,cd0,rfl,_,_,_,_⟩:=hRs.openV
   have q1s:=hRs.one
   rcases Decidable.em (k0=20)with qk0|qk0
   ·refine doR Tryz.func33 ?_
    have he:Evo (fun b=>b<w.heap.size∧b≠fb) w w:=Evo.refl w
    refine jA 2 rfl ?_
    have hs1:=he.size
    refine bx rfl ?_
    rintro _ w1 ⟨rfl,hb1,e1⟩
    have nx1:=hb1.lt
    have ns1:=e1.size
    replace he:=he.then e1
    have hs2:=he.size
    have hx2b1:=hb1.lt
    refine al ?_
    rintro _ w2 ⟨rfl,hb2,e2⟩
    have nx2:=hb2.lt
    have ns2:=e2.size
    refine jD 5 rfl ?_
    replace hb1:=hb1.mono e2
    refine ld rfl hb1 rfl<|WL.q rfl (r_cmp (r_eql rfl rfl) (beqT (qk)))<|jC 2 rfl<|LL.lg rfl rfl rfl hb1 rfl<|jC 1 rfl ?_
    refine WL.qg rfl rfl rfl rfl (r_cmp (r_eql rfl rfl) (beqT (by(simp)))) ?_
    refine jC 3 rfl<|LL.lg rfl rfl rfl hb1 rfl ?_
    refine WL.qg rfl rfl rfl rfl (r_idx Fo.h rfl rfl rfl (by first|omega|(simp;done)|(simp;omega))) ?_
    refine jC 1 rfl ?_
    replace hA0:=(hA0.mono e1).mono e2
    refine WL.qg rfl rfl rfl rfl (r_load Fb.h rfl (Ext.refl _) (hA0.get (j:=0) rfl)) ?_
    refine WL.qg rfl rfl rfl rfl (r_cmp (r_eql rfl rfl) (beqT (qk0)))<|jC 3 rfl ?_
    replace hF:=(hF.mono e1).mono e2
    refine WL.lg rfl rfl rfl rfl (l_do Fb.h rfl (pick_ok (n:=2) hF (by omega) (by omega))) ?_
    rintro v3 w3 ⟨⟨ki,qki,rfl⟩,hF,e3⟩
    have ns3:=e3.size
    rcases Nat.eq_zero_or_pos ki with q|q
    ·refine WL.qg rfl rfl rfl rfl (r_cmp (r_eql rfl rfl) (beqT (by(omega)))) ?_
     refine jD 6 rfl ?_
     replace hb1:=hb1.mono e3
     refine ld rfl hb1 rfl<|ix rfl rfl rfl ?_
     replace hA0:=hA0.mono e3
     refine WL.q rfl (r_loadAgg Fo.h rfl (Ext.refl _) hA0 (hn:=rfl)) ?_
     replace hb2:=hb2.mono e3
     refine WL.l0 (lsw rfl rfl hb2) ?_
     rintro _ w4 ⟨hb2,e4,hz4⟩
     have ns4:=e4.size
     refine WL.nil<|WC.ret ?_
     replace hF:=hF.mono e4
     replace hRs:=(((hRs.mono e1).mono e2).mono e3).mono e4
     replace he:=((he.then e2).then e3).then e4
     exact finC rfl hb2 agg_87 ⟨_,_,_,_,_,_,_,rfl,.inr ⟨qk,_,rfl,qk0,rfl⟩,hRs,hF,he.weaken fun b hb h=>⟨hb,h⟩⟩
    ·refine WL.qg rfl rfl rfl rfl (r_cmp (r_eql rfl rfl) (beqF (by(omega)))) ?_
     refine jD 4 rfl<|jA 2 rfl ?_
     replace hb1:=hb1.mono e3
     refine la rfl hb1 ?_
     replace hb2:=hb2.mono e3
     refine WL.l0 (lsw rfl rfl hb2) ?_
     rintro _ w4 ⟨hb2,e4,hz4⟩
     have ns4:=e4.size
     refine WL.nil<|WC.ret ?_
     replace hx:=(((hx.mono e1).mono e2).mono e3).mono e4
     replace hF:=hF.mono e4
     replace he:=((he.then e2).then e3).then e4
     exact finC rfl hb2 agg_87 ⟨_,_,_,_,_,_,_,rfl,.inl rfl,hx,hF,he.weaken fun b hb h=>⟨hb,h⟩⟩
   ·refine doR Tryz.func33 ?_
    have he:Evo (fun b=>b<w.heap.size∧b≠fb) w w:=Evo.refl w
    refine jA 2 rfl ?_
    have hs1:=he.size
    refine bx rfl ?_
    rintro _ w1 ⟨rfl,hb1,e1⟩
    have nx1:=hb1.lt
    have ns1:=e1.size
    replace he:=he.then e1
    have hs2:=he.size
    have hx2b1:=hb1.lt
    refine al ?_
    rintro _ w2 ⟨rfl,hb2,e2⟩
    have nx2:=hb2.lt
    have ns2:=e2.size
    refine jD 5 rfl ?_
    replace hb1:=hb1.mono e2
    refine ld rfl hb1 rfl<|WL.q rfl (r_cmp (r_eql rfl rfl) (beqT (qk)))<|jC 2 rfl<|LL.lg rfl rfl rfl hb1 rfl<|jC 1 rfl ?_
    refine WL.qg rfl rfl rfl rfl (r_cmp (r_eql rfl rfl) (beqT (by(simp)))) ?_
    refine jC 3 rfl<|LL.lg rfl rfl rfl hb1 rfl ?_
    refine WL.qg rfl rfl rfl rfl (r_idx Fo.h rfl rfl rfl (by first|omega|(simp;done)|(simp;omega))) ?_
    refine jC 1 rfl ?_
    replace hA0:=(hA0.mono e1).mono e2
    refine WL.qg rfl rfl rfl rfl (r_load Fb.h rfl (Ext.refl _) (hA0.get (j:=0) rfl)) ?_
    refine WL.qg rfl rfl rfl rfl (r_cmp (r_eql rfl rfl) (beqF (qk0)))<|jD 9 rfl<|jA 2 rfl<|la rfl hb1 ?_
    exact zR67_1
  ·refine doR Tryz.func33 ?_
   have he:Evo (fun b=>b<w.heap.size∧b≠fb) w w:=Evo.refl w
   refine jA 2 rfl ?_
   have hs1:=he.size
   refine bx rfl ?_
   rintro _ w1 ⟨rfl,hb1,e1⟩
   have nx1:=hb1.lt
   have ns1:=e1.size
   replace he:=he.then e1
   have hs2:=he.size
   have hx2b1:=hb1.lt
   refine al ?_
   rintro _ w2 ⟨rfl,hb2,e2⟩
   have nx2:=hb2.lt
   have ns2:=e2.size
   refine jD 5 rfl ?_
   replace hb1:=hb1.mono e2
   refine ld rfl hb1 rfl<|WL.q rfl (r_cmp (r_eql rfl rfl) (beqT (qk)))<|jC 2 rfl<|LL.lg rfl rfl rfl hb1 rfl<|jC 1 rfl ?_
   refine WL.qg rfl rfl rfl rfl (r_cmp (r_eql rfl rfl) (beqF (by(omega)))) ?_
   refine jD 17 rfl<|jA 2 rfl<|la rfl hb1 ?_
   exact zR67_1
 ·refine doR Tryz.func33 ?_
  have he:Evo (fun b=>b<w.heap.size∧b≠fb) w w:=Evo.refl w
  refine jA 2 rfl ?_
  have hs1:=he.size
  refine bx rfl ?_
  rintro _ w1 ⟨rfl,hb1,e1⟩
  have nx1:=hb1.lt
  have ns1:=e1.size
  replace he:=he.then e1
  have hs2:=he.size
  have hx2b1:=hb1.lt
  refine al ?_
  rintro _ w2 ⟨rfl,hb2,e2⟩
  have nx2:=hb2.lt
  have ns2:=e2.size
  refine jD 5 rfl ?_
  replace hb1:=hb1.mono e2
  refine ld rfl hb1 rfl<|WL.q rfl (r_cmp (r_eql rfl rfl) (beqF (qk)))<|jD 22 rfl<|jA 2 rfl<|la rfl hb1 ?_
  exact zR67_1
end Go.Proofs.LL
