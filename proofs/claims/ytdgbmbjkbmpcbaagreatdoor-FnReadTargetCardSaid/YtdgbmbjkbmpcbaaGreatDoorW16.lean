/- Contracts of functions of impl, spec and laws. Conditions: those that each theorem states. -/
import Derived.Test.YtdgbmbjkbmpcbaaGreatDoorW15
set_option linter.all false
set_option maxRecDepth 20000
namespace Go.Proofs.LL
open Go Go.Proofs Go.RowKit
set_option maxHeartbeats 4000000
attribute [local irreducible] RunOp WL WC WDL WT WX
def tyK(k:Int):Nat:=
 if k=1 then 4 else if k=2 then 5 else if k=3 then 228 else if k=4 then 22 else if k=5 then 27 else if k=6 then 213 else
 if k=7 then 217 else if k=8 then 21 else if k=9 then 2 else if k=10 then 235 else 239
def numV(k:Int)(n:Nat):Value:=
 if k=1 then .bool (n !=0)else if k=2 then .int .u8 n else if k=3 then .int .u16 n else if k=4 then .int .u32 n else if k=5 then .int .u64 n else
 if k=6 then .int .i8 (IntKind.i64.wrap n)else if k=7 then .int .i16 (IntKind.i64.wrap n)else if k=8 then .int .i32 (IntKind.i64.wrap n)else if k=9 then .int .i64 (IntKind.i64.wrap n)else
 if k=10 then .float .f32 n else .float .f64 n
def scal(k:Int)(n:Nat)(t:List UInt8):Option Value:=
 if k=0 then some .nilIface
 else if 1≤k∧k≤11 then some (.iface (tyK k) (numV k n))
 else if k=16 then some (.iface 251 (.agg (tm (IntKind.i64.wrap n)).toArray))
 else if k=17 then some (.iface 319 (.agg (bc t).toArray))
 else if k=19∨k=20 then some (.iface 9 (str t))
 else none
def arrTy(k:Int):Nat:=
 if k=1 then 323 else if k=3 then 328 else if k=4 then 44 else if k=5 then 333 else if k=6 then 336 else if k=7 then 339 else
 if k=8 then 342 else if k=9 then 345 else if k=10 then 348 else if k=11 then 351 else if k=16 then 353 else if k=17 then 356 else if k=19 then 24 else 73
def elemC(x:V):List Value:=
 if x.kind=16 then tm (IntKind.i64.wrap x.num)else if x.kind=17 then bc x.text else if 19≤x.kind then[str x.text]else[numV x.kind x.num]
def RepArr(A:Nat→Prop)(w:World)(ks:List V)(y:Value):Prop:=
 ∃kk,(∀x∈ks,x.kind=kk)∧ks≠[]∧arrK kk∧
 ((kk=2∧∃v,y= .iface 325 v∧IsB A w v (ks.map fun x=>UInt8.ofNat x.num))∨
  (kk=18∧∃g vs,A g∧y= .iface 359 (.slice (some ⟨g,0,none⟩) ks.length ks.length)∧At w g 0 vs∧Bs A w vs (ks.map V.text))∨
  (kk≠2∧kk≠18∧∃g,A g∧y= .iface (arrTy kk) (.slice (some ⟨g,0,none⟩) ks.length ks.length)∧At w g 0 (ks.flatMap elemC)))
def RepX(A:Nat→Prop)(w:World)(k:Int)(n:Nat)(t:List UInt8)(ks:List V)(y:Value)(pl:List Value→Prop)(pm:List (Value×Value)→Prop):Prop:=
 scal k n t=some y∨
 (k=18∧∃v,y= .iface 28 v∧IsB A w v t)∨
 (k=21∧∃p c cells,y= .iface 320 (.slice p ks.length c)∧ks.length≤c∧pl cells∧(ks=[]∨∃b,p=some ⟨b,0,none⟩∧A b∧At w b 0 cells))∨
 (k=22∧∃m kvs kvs0,A m∧MapO w m kvs∧pm kvs0∧((y= .iface 299 (.map (some m))∧kvs=kvs0)∨
  (y= .iface 177 (.map (some m))∧∃ss:List (List UInt8×Value),kvs0=ss.map (fun p=>(.iface 9 (str p.1),p.2))∧kvs.Perm (ss.map fun p=>(str p.1,p.2)))))∨
 (k=23∧RepArr A w ks y)
mutual
def RepA(A:Nat→Prop)(w:World):V→Value→Prop
 | .mk k n t ks _ _,y=>RepX A w k n t ks y (RepL A w ks) (RepM A w ks)
def RepL(A:Nat→Prop)(w:World):List V→List Value→Prop
 |[],cs=>cs=[]
 |x::r,cs=>∃c cs',cs=c::cs'∧RepA A w x c∧RepL A w r cs'
def RepM(A:Nat→Prop)(w:World):List V→List (Value×Value)→Prop
 |[],l=>l=[]
 |[_],l=>l=[]
 |k::v::r,l=>∃a b l',l=(a,b)::l'∧RepA A w k a∧RepA A w v b∧RepM A w r l'
end
theorem RepL.length{A:Nat→Prop}{w:World}:∀ {ks:List V} {cs:List Value},RepL A w ks cs→cs.length=ks.length
 |[],cs,h=>by simp only[RepL]at h;simp[h]
 |x::r,cs,h=>by
  simp only[RepL]at h
  obtain⟨c,cs',rfl,_,h2⟩:=h
  simp[RepL.length h2]
theorem elemC_pos{A:Nat→Prop}(x:V)(h:x.kind=17→x.text≠[]):0<(elemC x).length:=by
 unfold elemC
 split
 ·simp[tm]
 ·split
  ·rename_i h1
   have:=h h1
   simp;exact List.length_pos_iff.2 this
  ·split<;>simp
section
variable {A B:Nat→Prop} {w w':World}
theorem At.grow{b o:Nat}{l:List Value}(h:At w b o l)(e:Evo B w w')(hAB:∀b,b<w.heap.size→A b→B b)(hA:A b):At w' b o l:=by
 rcases Nat.eq_zero_or_pos l.length with h0|h0
 ·intro j hj;omega
 ·have hlt:b<w.heap.size:=by
   have h1:=h 0 h0
   rw[List.getElem?_eq_getElem h0]at h1
   exact lt_of_cell h1
  exact h.mono e (hAB b hlt hA)
theorem RepArr.grow{ks:List V}{y:Value}(h:RepArr A w ks y)(e:Evo B w w')(hAB:∀b,b<w.heap.size→A b→B b):RepArr A w' ks y:=by
 obtain⟨kk,h1,h2,h3,h4⟩:=h
 refine⟨kk,h1,h2,h3,?_⟩
 rcases h4 with⟨h5,v,h6,h7⟩|⟨h5,g,vs,h6,h7,h8,h9⟩|⟨h5,h5',g,h6,h7,h8⟩
 ·exact .inl ⟨h5,v,h6,h7.mono e hAB⟩
 ·exact .inr (.inl ⟨h5,g,vs,h6,h7,h8.grow e hAB h6,h9.mono e hAB⟩)
 ·exact .inr (.inr ⟨h5,h5',g,h6,h7,h8.grow e hAB h6⟩)
mutual
theorem RepA.mono':∀ {x:V} {y:Value},RepA A w x y→Evo B w w'→(∀b,b<w.heap.size→A b→B b)→RepA A w' x y
 | .mk k n t ks o d,y,h,e,hAB=>by
  simp only[RepA,RepX]at h⊢
  rcases h with h|⟨h1,v,h2,h3⟩|⟨h1,p,c,cells,h2,h3,h4,h5⟩|⟨h1,m,kvs,kvs0,h2,h3,h4,h5⟩|⟨h1,h2⟩
  ·exact .inl h
  ·exact .inr (.inl ⟨h1,v,h2,h3.mono e hAB⟩)
  ·refine .inr (.inr (.inl ⟨h1,p,c,cells,h2,h3,RepL.mono' h4 e hAB,?_⟩))
   rcases h5 with h5|⟨b,h5,h6,h7⟩
   ·exact .inl h5
   ·exact .inr ⟨b,h5,h6,h7.grow e hAB h6⟩
  ·exact .inr (.inr (.inr (.inl ⟨h1,m,kvs,kvs0,h2,h3.mono e (hAB m h3.lt h2),RepM.mono' h4 e hAB,h5⟩)))
  ·exact .inr (.inr (.inr (.inr ⟨h1,h2.grow e hAB⟩)))
theorem RepL.mono':∀ {ks:List V} {cs:List Value},RepL A w ks cs→Evo B w w'→(∀b,b<w.heap.size→A b→B b)→RepL A w' ks cs
 |[],cs,h,_,_=>by simpa only[RepL]using h
 |x::r,cs,h,e,hAB=>by
  simp only[RepL]at h⊢
  obtain⟨c,cs',h1,h2,h3⟩:=h
  exact⟨c,cs',h1,RepA.mono' h2 e hAB,RepL.mono' h3 e hAB⟩
theorem RepM.mono':∀ {ks:List V} {l:List (Value×Value)},RepM A w ks l→Evo B w w'→(∀b,b<w.heap.size→A b→B b)→RepM A w' ks l
 |[],l,h,_,_=>by simpa only[RepM]using h
 |[_],l,h,_,_=>by simpa only[RepM]using h
 |k::v::r,l,h,e,hAB=>by
  simp only[RepM]at h⊢
  obtain⟨a,b,l',h1,h2,h3,h4⟩:=h
  exact⟨a,b,l',h1,RepA.mono' h2 e hAB,RepA.mono' h3 e hAB,RepM.mono' h4 e hAB⟩
end
theorem RepA.mono{x:V}{y:Value}(h:RepA A w x y)(e:Evo B w w')(hAB:∀b,b<w.heap.size→A b→B b:=by(intro b hb1 hb2;first|exact trivial|exact hb2|((try dsimp only[Nb]at hb2⊢);omega))):RepA A w' x y:=h.mono' e hAB
theorem RepL.mono{x:List V}{y:List Value}(h:RepL A w x y)(e:Evo B w w')(hAB:∀b,b<w.heap.size→A b→B b:=by(intro b hb1 hb2;first|exact trivial|exact hb2|((try dsimp only[Nb]at hb2⊢);omega))):RepL A w' x y:=h.mono' e hAB
theorem RepM.mono{x:List V}{y:List (Value×Value)}(h:RepM A w x y)(e:Evo B w w')(hAB:∀b,b<w.heap.size→A b→B b:=by(intro b hb1 hb2;first|exact trivial|exact hb2|((try dsimp only[Nb]at hb2⊢);omega))):RepM A w' x y:=h.mono' e hAB
theorem RepArr.weaken{ks:List V}{y:Value}(h:RepArr A w ks y)(hAB:∀b,A b→B b):RepArr B w ks y:=by
 obtain⟨kk,h1,h2,h3,h4⟩:=h
 refine⟨kk,h1,h2,h3,?_⟩
 rcases h4 with⟨h5,v,h6,h7⟩|⟨h5,g,vs,h6,h7,h8,h9⟩|⟨h5,h5',g,h6,h7,h8⟩
 ·exact .inl ⟨h5,v,h6,h7.weaken fun b _ h=>hAB b h⟩
 ·exact .inr (.inl ⟨h5,g,vs,hAB g h6,h7,h8,h9.weaken fun b _ h=>hAB b h⟩)
 ·exact .inr (.inr ⟨h5,h5',g,hAB g h6,h7,h8⟩)
mutual
theorem RepA.weaken:∀ {x:V} {y:Value},RepA A w x y→(∀b,A b→B b)→RepA B w x y
 | .mk k n t ks o d,y,h,hAB=>by
  simp only[RepA,RepX]at h⊢
  rcases h with h|⟨h1,v,h2,h3⟩|⟨h1,p,c,cells,h2,h3,h4,h5⟩|⟨h1,m,kvs,kvs0,h2,h3,h4,h5⟩|⟨h1,h2⟩
  ·exact .inl h
  ·exact .inr (.inl ⟨h1,v,h2,h3.weaken fun b _ h=>hAB b h⟩)
  ·refine .inr (.inr (.inl ⟨h1,p,c,cells,h2,h3,RepL.weaken h4 hAB,?_⟩))
   rcases h5 with h5|⟨b,h5,h6,h7⟩
   ·exact .inl h5
   ·exact .inr ⟨b,h5,hAB b h6,h7⟩
  ·exact .inr (.inr (.inr (.inl ⟨h1,m,kvs,kvs0,hAB m h2,h3,RepM.weaken h4 hAB,h5⟩)))
  ·exact .inr (.inr (.inr (.inr ⟨h1,h2.weaken hAB⟩)))
theorem RepL.weaken:∀ {ks:List V} {cs:List Value},RepL A w ks cs→(∀b,A b→B b)→RepL B w ks cs
 |[],cs,h,_=>by simpa only[RepL]using h
 |x::r,cs,h,hAB=>by
  simp only[RepL]at h⊢
  obtain⟨c,cs',h1,h2,h3⟩:=h
  exact⟨c,cs',h1,RepA.weaken h2 hAB,RepL.weaken h3 hAB⟩
theorem RepM.weaken:∀ {ks:List V} {l:List (Value×Value)},RepM A w ks l→(∀b,A b→B b)→RepM B w ks l
 |[],l,h,_=>by simpa only[RepM]using h
 |[_],l,h,_=>by simpa only[RepM]using h
 |k::v::r,l,h,hAB=>by
  simp only[RepM]at h⊢
  obtain⟨a,b,l',h1,h2,h3,h4⟩:=h
  exact⟨a,b,l',h1,RepA.weaken h2 hAB,RepA.weaken h3 hAB,RepM.weaken h4 hAB⟩
end
theorem RepL.snoc:∀ {ks:List V} {cs:List Value} {x:V} {c:Value},RepL A w ks cs→RepA A w x c→RepL A w (ks++[x]) (cs++[c])
 |[],cs,x,c,h,h'=>by
  simp only[RepL]at h
  subst h
  simp only[List.nil_append,RepL]
  exact⟨c,[],rfl,h',rfl⟩
 |y::r,cs,x,c,h,h'=>by
  simp only[RepL]at h
  obtain⟨d,cs',rfl,h2,h3⟩:=h
  simp only[List.cons_append,RepL]
  exact⟨d,cs'++[c],rfl,h2,RepL.snoc h3 h'⟩
theorem RepM.snoc:∀ {ks:List V} {l:List (Value×Value)} {x y:V} {a b:Value},ks.length%2=0→RepM A w ks l→RepA A w x a→RepA A w y b→RepM A w (ks++[x,y]) (l++[(a,b)])
 |[],l,x,y,a,b,_,h,h1,h2=>by
  simp only[RepM]at h
  subst h
  simp only[List.nil_append,RepM]
  exact⟨a,b,[],rfl,h1,h2,rfl⟩
 |[_],l,x,y,a,b,h0,_,_,_=>by simp at h0
 |k::v::r,l,x,y,a,b,h0,h,h1,h2=>by
  simp only[RepM]at h
  obtain⟨c,d,l',rfl,h3,h4,h5⟩:=h
  simp only[List.cons_append,RepM]
  exact⟨c,d,l'++[(a,b)],rfl,h3,h4,RepM.snoc (by simp at h0;omega) h5 h1 h2⟩
theorem RepM.length:∀ {ks:List V} {l:List (Value×Value)},RepM A w ks l→l.length=ks.length / 2
 |[],l,h=>by simp only[RepM]at h;simp[h]
 |[_],l,h=>by simp only[RepM]at h;simp[h]
 |k::v::r,l,h=>by
  simp only[RepM]at h
  obtain⟨a,b,l',rfl,_,_,h4⟩:=h
  simp[RepM.length h4];omega
end
def Reads(x:V):Prop:=∀(bs r:List UInt8) (w:World) (rb:Nat),Enc x bs→Rd w rb (bs++r)→
 Does TP 135 [.pointer (some ⟨rb,0,none⟩)] w fun u w'=>∃y,u= .tuple #[y,.nilIface]∧RepA (fun b=>w.heap.size≤b) w' x y∧Rd w' rb r∧Evo (Nb rb) w w'
theorem RepA.one{A:Nat→Prop}{w:World}{x:V}{y:Value}(h:RepA A w x y):y.oneCell'=true:=by
 obtain⟨k,n,t,ks,o,d⟩:=x
 simp only[RepA,RepX]at h
 rcases h with h|⟨h1,v,rfl,h3⟩|⟨h1,p,c,cells,rfl,h3,h4,h5⟩|⟨h1,m,kvs,kvs0,h2,h3,h4,h5⟩|⟨h1,kk,h2,h3,h4,h5⟩
 ·unfold scal at h
  split at h
  ·cases h;rfl
  ·split at h
   ·cases h;rfl
   ·split at h
    ·cases h;rfl
    ·split at h
     ·cases h;rfl
     ·split at h
      ·cases h;rfl
      ·cases h
 ·rfl
 ·rfl
 ·rcases h5 with⟨rfl,_⟩|⟨rfl,_⟩<;>rfl
 ·rcases h5 with⟨_,v,rfl,_⟩|⟨_,g,vs,_,rfl,_⟩|⟨_,_,g,_,rfl,_⟩<;>rfl
theorem list_ok{rb ab:Nat}{ks:List V}{hd body r:List UInt8}{w:World}(hks:∀x∈ks,Reads x)(hE:EncL ks body)(hab:Blk w ab [.slice none 0 0])(hne:rb<ab)(hh:LstH hd ks.length body)(hR:Rd w rb (hd++(body++r))):
  Does TP 130 [.pointer (some ⟨ab,0,none⟩),.pointer (some ⟨rb,0,none⟩)] w fun u w'=>u= .nilIface∧(∃p c cells,Blk w' ab [.slice p ks.length c]∧ks.length≤c∧RepL (fun b=>w.heap.size≤b) w' ks cells∧(ks=[]∨∃b,p=some ⟨b,0,none⟩∧w.heap.size≤b∧At w' b 0 cells))∧Rd w' rb r∧Evo (fun k=>k≠rb∧k≠ab) w w':=by
 have hle:=hh.le
 have hr0:=hab.lt
 have hlr:=hR.len
 have hln:(body++r).length=body.length+r.length:=by simp only[List.length_append]
 rw[List.length_append]at hlr
 rcases Nat.eq_zero_or_pos ks.length with h0|h0
 ·have hk0:ks=[]:=List.eq_nil_of_length_eq_zero h0
  subst hk0
  cases hE
  refine do1 Tryz.func130 ?_
  have he:Evo (fun k=>k≠rb∧k≠ab) w w:=Evo.refl w
  refine q ?_
  refine cl rfl (readListHeader_ok hh hR) ?_
  rintro v1 w1 ⟨rfl,hR,e1⟩
  refine q ?_
  refine cl rfl (LenR_ok hR) ?_
  rintro v2 w2 ⟨rfl,e2⟩
  try refine WL.q rfl (r_cmp (r_gtr rfl rfl) (decide_eq_false (by(simp)))) ?_
  replace hab:=(hab.mono e1).mono e2
  refine q ?_
  try refine WL.q rfl (r_cmp (r_lss rfl rfl) (decide_eq_false (by(simp)))) ?_
  refine q ?_
  try refine WL.q rfl (r_sliceh (h:=0) Fo.h rfl rfl rfl (by simp)) ?_
  refine q ?_
  replace hR:=hR.mono e2
  replace he:=(he.then e1).then e2
  refine WC.loop2 (ι:=Nat) [(0,_),(1,_),(4,_),(7,_),(35,_)] (fun i=>[(6,.nilIface),(36,.int .i64 (i:Int))]) (fun i wi=>Evo (fun _=>True) w2 wi) (fun i=>0) 0 sb sb (Evo.refl _) ?_
  intro i wi1 hh;have hE:=hh
  refine q ?_
  try refine WL.q rfl (r_cmp (r_lss rfl rfl) (decide_eq_false (by(simp)))) ?_
  refine q ?_
  replace hab:=hab.mono hE
  refine WL.l0 (lst rfl rfl hab) ?_
  rintro _ w3 ⟨hab,e3,hz3⟩
  refine q ?_
  replace hR:=(hR.mono hE).mono e3
  replace he:=(he.then hE).then e3
  exact fin1 rfl ⟨rfl,⟨_,_,[],hab,Nat.zero_le _,by simp[RepL],.inl rfl⟩,by simpa using hR,he⟩
 ·refine do1 Tryz.func130 ?_
  have he:Evo (fun k=>k≠rb∧k≠ab) w w:=Evo.refl w
  refine q ?_
  refine cl rfl (readListHeader_ok hh hR) ?_
  rintro v1 w1 ⟨rfl,hR,e1⟩
  refine q ?_
  refine cl rfl (LenR_ok hR) ?_
  rintro v2 w2 ⟨rfl,e2⟩
  replace hab:=(hab.mono e1).mono e2
  refine q ?_
  replace he:=(he.then e1).then e2
  have hs3:=he.size
  refine WL.l rfl (l_makeB (n:=ks.length) Fo.h rfl rfl rfl rfl rfl (by omega) (by simp only[maxLen];omega)) ?_
  rintro v3 w3 ⟨rfl,hK,e3⟩
  have hx3:=hK.lt
  refine q ?_
  replace hR:=(hR.mono e2).mono e3
  replace hab:=hab.mono e3
  replace he:=he.then e3
  refine WC.loop2 (ι:=Nat) [(0,_),(1,_),(4,_),(7,_),(35,_)] (fun i=>[(6,.nilIface),(36,.int .i64 (i:Int))]) (fun i wi=>(∃cs bi,Blk wi w2.heap.size (cs++List.replicate (ks.length-i) .nilIface)∧RepL (fun b=>w3.heap.size≤b) wi (ks.take i) cs∧EncL (ks.drop i) bi∧Rd wi rb (bi++r))∧Evo (fun k=>k<w3.heap.size∧k≠w2.heap.size∧k≠rb) w3 wi) (fun i=>ks.length-i) 0 sb sb (⟨⟨[],body,hK,by simp[RepL],hE,hR⟩,Evo.refl _⟩) ?_
  intro i wi1 hh;obtain⟨⟨cs,bi,hK,hV,hB,hR⟩,hE⟩:=hh
  have hvl:=hV.length
  have hwi:=hE.size
  rcases Nat.lt_or_ge i ks.length with hi|hi
  ·rw[List.drop_eq_getElem_cons hi]at hB
   cases hB with
   |cons hB1 hB2=>
   rename_i b1 b2
   rw[List.append_assoc]at hR
   rw[List.length_take,Nat.min_eq_left (Nat.le_of_lt hi)]at hvl
   have hrp:List.replicate (ks.length-i) Value.nilIface= .nilIface::List.replicate (ks.length-(i+1)) .nilIface:=by
    rw[show ks.length-i=(ks.length-(i+1))+1 by omega,List.replicate_succ]
   rw[hrp]at hK
   have htk:ks.take (i+1)=ks.take i++[ks[i]]:=by rw[List.take_add_one,List.getElem?_eq_getElem hi];rfl
   refine q ?_
   refine cl rfl (hks _ (List.getElem_mem hi) _ _ _ _ hB1 hR) ?_
   rintro v4 w4 ⟨y,rfl,hZ,hR,e4⟩
   have hZV:=hV.mono e4 (by intro b h1 h2;dsimp only[Nb];omega)
   have hone:=hZ.one
   refine q ?_
   replace hK:=hK.mono e4
   refine WL.l0 (l_store Fo.h rfl rfl hone hK (by simp[Nat.blt_eq];omega)) ?_
   rintro _ w5 ⟨hK,e5,hz5⟩
   refine q ?_
   rw[show 0+i=cs.length by omega,List.set_append_right _ _ (Nat.le_refl _),Nat.sub_self,List.set_cons_zero,← List.singleton_append,← List.append_assoc]at hK
   replace hZ:=hZ.mono e5
   replace hZV:=hZV.mono e5
   have hV2:=hZV.snoc (hZ.weaken (B:=fun b=>w3.heap.size≤b) (fun b h=>Nat.le_trans hwi h))
   rw[← htk]at hV2
   replace hR:=hR.mono e5
   exact⟨i+1,sb,sb,⟨⟨_,_,hK,hV2,hB2,hR⟩,(((hE.then e4).then e5))⟩,by omega⟩
  ·have h0':ks.length-i=0:=by omega
   rw[h0',List.replicate_zero,List.append_nil]at hK
   rw[List.drop_eq_nil_of_le hi]at hB
   cases hB
   rw[List.take_of_length_le hi]at hV
   refine q ?_
   replace hab:=hab.mono hE
   refine WL.l0 (lst rfl rfl hab) ?_
   rintro _ w4 ⟨hab,e4,hz4⟩
   refine q ?_
   replace hV:=hV.mono e4
   have hVw:=hV.weaken (B:=fun b=>w.heap.size≤b) (fun b h=>Nat.le_trans (Nat.le_trans hs3 (Nat.le_of_lt hx3)) h)
   replace hR:=hR.mono e4
   replace hK:=hK.mono e4
   replace he:=(he.then hE).then e4
   exact fin1 rfl ⟨rfl,⟨_,_,cs,hab,Nat.le_refl _,hVw,.inr ⟨_,rfl,hs3,hK.at⟩⟩,by simpa using hR,he⟩
end Go.Proofs.LL
namespace Go.Proofs.LL
open Go Go.Proofs Go.RowKit
def tfOK(f:Field)(n:String)(o:Nat):Bool:=f.name==n&&f.type==2&&f.offset==o
def tmOK(d:Option TypeDesc):Bool:=match d with
 |some (.struct fs)=>match fs.toList with
  | [f, g] => tfOK f "sec" 0 && tfOK g "nsec" 1
  |_=>false
 |_=>false
theorem und251 : ∃ f g : Field, TP.underlying 251 = some (.struct #[f, g]) ∧ f.name = "sec" ∧ f.type = 2 ∧ f.offset = 0 ∧ g.name = "nsec" ∧ g.type = 2 ∧ g.offset = 1 := by
 have h:tmOK (TP.underlying 251)=true:=by kernel_rfl
 unfold tmOK at h
 split at h
 ·rename_i fs hu
  split at h
  ·rename_i f g hl
   simp only[tfOK,Bool.and_eq_true,beq_iff_eq]at h
   obtain⟨⟨⟨h1,h2⟩,h3⟩,⟨h4,h5⟩,h6⟩:=h
   refine⟨f,g,?_,h1,h2,h3,h4,h5,h6⟩
   rw[hu,← hl]
  ·cases h
 ·cases h
theorem und319:TP.underlying 319=some (.array 16 5):=by kernel_rfl
theorem stood251:TP.stoodInHeld 251=false:=by kernel_rfl
theorem und2:TP.underlying 2=some (.int .i64):=by kernel_rfl
theorem und5:TP.underlying 5=some (.int .u8):=by kernel_rfl
theorem sz5:(TP.info? 5).map (·.size)=some 1:=by kernel_rfl
def cmpT(P:Program)(t:TypeId):Bool:=((P.info? t).map (·.comparable)).getD false
theorem cmpT_some{P:Program}{t:TypeId}(h:cmpT P t=true):∃i,P.info? t=some i∧i.comparable=true:=by
 unfold cmpT at h
 cases hi:P.info? t with
 |none=>rw[hi]at h;cases h
 |some i=>rw[hi]at h;exact⟨i,rfl,by simpa using h⟩
theorem part_one{P:Program}{t off:Nat}{cs:Array Value}{v:Value}{w:World}(ht:oneT P t=true)(hv:cs[off]?=some v):(part t cs off).run P w= .ok v w:=by
 simp[part,isAgg_one ht,hv]
theorem eqIn_int{P:Program}{t:TypeId}{k:IntKind}(hu:P.underlying t=some (.int k))(d:Nat)(a b:Int)(w:World):(Op.equalIn (d+1) t (.int k a) (.int k b)).run P w= .ok (a==b) w:=by
 simp[Op.equalIn,underlying,hu]
theorem eqIn_bool{P:Program}{t:TypeId}(hu:P.underlying t=some .bool)(d:Nat)(a b:Bool)(w:World):(Op.equalIn (d+1) t (.bool a) (.bool b)).run P w= .ok (a==b) w:=by
 simp[Op.equalIn,underlying,hu]
theorem eqIn_str{P:Program}{t:TypeId}(hu:P.underlying t=some .string)(d:Nat)(a b:List UInt8)(w:World)(h:a≠b):(Op.equalIn (d+1) t (str a) (str b)).run P w= .ok false w:=by
 have h1:((⟨a.toArray⟩:ByteArray)==⟨b.toArray⟩)=false:=by
  cases hq:(⟨a.toArray⟩:ByteArray)==⟨b.toArray⟩with
  |false=>rfl
  |true=>
   have:=(MapKept.bytes_beq _ _).1 hq
   simp at this
   exact absurd this h
 simp[Op.equalIn,underlying,hu,h1]
theorem forIn_eq{P:Program}{w:World}(f:Nat→Bool):∀(l:List Nat) (body:Nat→Option Bool×Unit→Sem (ForInStep (Option Bool×Unit))),(∀i∈l,(body i (none,())).run P w= .ok (if f i then .yield (none,())else .done (some false,())) w)→(forIn l ((none,()):Option Bool×Unit) body).run P w= .ok (if l.all f then(none,())else(some false,())) w
 |[],body,_=>by simp
 |a::l,body,h=>by
  have h1:=h a (by simp)
  have ih:=forIn_eq f l body (fun i hi=>h i (by simp[hi]))
  cases hf:f a with
  |true=>simp[List.forIn_cons,h1,hf,ih]
  |false=>simp[List.forIn_cons,h1,hf]
theorem eqIn_time(d:Nat)(a b a' b':Int)(w:World):(Op.equalIn (d+2) 251 (.agg #[.int .i64 a,.int .i64 b]) (.agg #[.int .i64 a',.int .i64 b'])).run TP w= .ok (a==a'&&b==b') w:=by
 have p0:∀x y:Int,(part 2 #[.int .i64 x,.int .i64 y] 0).run TP w= .ok (.int .i64 x) w:=fun x y=>part_one (by kernel_rfl) rfl
 have p1:∀x y:Int,(part 2 #[.int .i64 x,.int .i64 y] 1).run TP w= .ok (.int .i64 y) w:=fun x y=>part_one (by kernel_rfl) rfl
 have q:∀x y:Int,(Op.equalIn (d+1) 2 (.int .i64 x) (.int .i64 y)).run TP w= .ok (x==y) w:=fun x y=>eqIn_int und2 d x y w
 obtain⟨f,g,hu,n1,t1,o1,n2,t2,o2⟩:=und251
 unfold Op.equalIn
 simp only[Sem.run_bind,underlying]
 cases h1:a==a'<;>cases h2:b==b'<;>
  simp[hu,stood251,n1,n2,t1,t2,o1,o2,p0,p1,q,h1,h2,program,Sem.run]
theorem eqIn_uuid(d:Nat)(xs ys:List UInt8)(hx:xs.length=16)(hy:ys.length=16)(w:World):(Op.equalIn (d+2) 319 (.agg (bc xs).toArray) (.agg (bc ys).toArray)).run TP w= .ok (decide (xs=ys)) w:=by
 have p:∀(l:List UInt8) (i:Nat) (h:i<l.length),(part 5 (bc l).toArray i).run TP w= .ok (.int .u8 (l[i].toNat:Int)) w:=fun l i h=>part_one (by kernel_rfl) (by simp[h])
 have q:∀x y:Int,(Op.equalIn (d+1) 5 (.int .u8 x) (.int .u8 y)).run TP w= .ok (x==y) w:=fun x y=>eqIn_int und5 d x y w
 obtain⟨i5,hi5,hs5⟩:=Option.map_eq_some_iff.1 sz5
 unfold Op.equalIn
 simp only[Sem.run_bind,underlying]
 simp only[und319,sizeOf,typeInfo,hi5,hs5,program,Sem.run,Sem.run_bind,Result.andThen,Sem.run_pure,Nat.mul_one,Std.Legacy.Range.forIn_eq_forIn_range',Std.Legacy.Range.size,Nat.sub_zero,Nat.add_sub_cancel,Nat.div_one]
 rw[forIn_eq (fun i=>decide (xs[i]?.getD 0=ys[i]?.getD 0)) _ _ ?_]
 ·have key:∀(xs ys:List UInt8) (n:Nat),xs.length=n→ys.length=n→((List.range' 0 n).all fun i=>decide (xs[i]?.getD 0=ys[i]?.getD 0))=decide (xs=ys):=by
   intro xs ys n h1 h2
   rw[Bool.eq_iff_iff]
   simp only[List.all_eq_true,decide_eq_true_eq,List.mem_range'_1]
   constructor
   ·intro h
    apply List.ext_getElem (by omega)
    intro i g1 g2
    have:=h i ⟨by omega,by omega⟩
    simpa[g1,g2]using this
   ·rintro rfl i _;rfl
  simp only[key xs ys 16 hx hy]
  by_cases h:xs=ys<;>simp[h]
 ·intro i hi
  have hi':i<16:=by simpa[List.mem_range'_1]using hi
  have h1:=p xs i (by omega)
  have h2:=p ys i (by omega)
  have e1:xs[i]?.getD 0=xs[i]:=by simp[hx,hi']
  have e2:ys[i]?.getD 0=ys[i]:=by simp[hy,hi']
  by_cases h:xs[i]=ys[i]
  ·simp[h1,h2,q,h,e1,e2]
  ·have h3:¬(xs[i].toNat:Int)=ys[i].toNat:=fun e=>h (UInt8.toNat_inj.1 (by omega))
   simp[h1,h2,q,h,h3,e1,e2]
def ktyK(k:Int):Nat:=if k=16 then 251 else if k=17 then 319 else if k=19 then 9 else tyK k
def kndT(t:Nat):Int:=if t=4 then 1 else if t=5 then 2 else if t=228 then 3 else if t=22 then 4 else if t=27 then 5 else if t=213 then 6 else if t=217 then 7 else if t=21 then 8 else if t=2 then 9 else if t=251 then 16 else if t=319 then 17 else 19
def kval(k:Int)(n:Nat)(t:List UInt8):Value:=if k=16 then .agg (tm (IntKind.i64.wrap n)).toArray else if k=17 then .agg (bc t).toArray else if k=19 then str t else numV k n
def keyR(k:Int):Prop:=k=1∨k=2∨k=3∨k=4∨k=5∨k=6∨k=7∨k=8∨k=9∨k=16∨k=17∨k=19
theorem kndT_kty{k:Int}(h:keyR k):kndT (ktyK k)=k:=by
 rcases h with rfl|rfl|rfl|rfl|rfl|rfl|rfl|rfl|rfl|rfl|rfl|rfl<;>rfl
def rk(k:Int):Int:=if k=20 then 19 else k
theorem keyK_R{k:Int}(h:keyK k):keyR (rk k):=by
 unfold keyK at h
 unfold rk keyR
 split<;>omega
theorem scal_key{k:Int}{n:Nat}{t:List UInt8}(h:keyK k):scal k n t=some (.iface (ktyK (rk k)) (kval (rk k) n t)):=by
 have hR:=keyK_R h
 unfold keyK at h
 by_cases h20:k=20
 ·subst h20;rfl
 ·have e:rk k=k:=by simp[rk,h20]
  rw[e]at hR⊢
  rcases hR with rfl|rfl|rfl|rfl|rfl|rfl|rfl|rfl|rfl|rfl|rfl|rfl<;>rfl
theorem KeyNe_ty{tx ty:Nat}{vx vy:Value}(h:tx≠ty):KeyNe TP 20 (.iface tx vx) (.iface ty vy):=by
 intro w
 obtain⟨ms,hu⟩:=ifT_some (P:=TP) (t:=20) ift_20
 have:(Op.equalIn (9999+1) 20 (.iface tx vx) (.iface ty vy)).run TP w= .ok false w:=by
  rw[Op.equalIn]
  simp[underlying,hu,h]
 exact this
theorem KeyNe_same{t:Nat}{vx vy:Value}(hc:cmpT TP t=true)(h:∀w:World,(Op.equalIn 9999 t vx vy).run TP w= .ok false w):KeyNe TP 20 (.iface t vx) (.iface t vy):=by
 intro w
 obtain⟨ms,hu⟩:=ifT_some (P:=TP) (t:=20) ift_20
 obtain⟨i,hi,hc⟩:=cmpT_some hc
 have:(Op.equalIn (9999+1) 20 (.iface t vx) (.iface t vy)).run TP w= .ok false w:=by
  rw[Op.equalIn]
  simp[underlying,hu,typeInfo,hi,hc,h w]
 exact this
theorem wrap64_inj{a b:Nat}(ha:a<18446744073709551616)(hb:b<18446744073709551616)(h:IntKind.i64.wrap (a:Int)=IntKind.i64.wrap (b:Int)):a=b:=by
 unfold IntKind.wrap at h
 have e1:(2:Int)^IntKind.i64.bits=18446744073709551616:=by decide
 have e2:(2:Int)^(IntKind.i64.bits-1)=9223372036854775808:=by decide
 simp only[e1,e2,show IntKind.i64.signed=true from rfl,Bool.true_and,decide_eq_true_eq]at h
 split at h<;>split at h<;>omega
theorem KeyNe_kind{k:Int}{n n':Nat}{t t':List UInt8}(hk:keyR k)(h1:NumOK k n)(h2:NumOK k n')(h3:k=17→t.length=16∧t'.length=16)(h4:k<17→t=t')(h5:17≤k→n=n')(hne:¬(n=n'∧t=t')):
  KeyNe TP 20 (.iface (ktyK k) (kval k n t)) (.iface (ktyK k) (kval k n' t')):=by
 have hint:∀(tt:Nat) (kk:IntKind) (a b:Int),TP.underlying tt=some (.int kk)→cmpT TP tt=true→a≠b→KeyNe TP 20 (.iface tt (.int kk a)) (.iface tt (.int kk b)):=fun tt kk a b hu hc hab=>
  KeyNe_same hc fun w=>by rw[show(9999:Nat)=9998+1 from rfl,eqIn_int hu 9998 a b w];simp[hab]
 have hw:n≠n'→IntKind.i64.wrap (n:Int)≠IntKind.i64.wrap (n':Int):=fun h e=>h (wrap64_inj h1.2.2.2.2.2.2.2.2 h2.2.2.2.2.2.2.2.2 e)
 have hn:k<17→n≠n':=fun h e=>hne ⟨e,h4 h⟩
 have ht:17≤k→t≠t':=fun h e=>hne ⟨h5 h,e⟩
 rcases hk with rfl|rfl|rfl|rfl|rfl|rfl|rfl|rfl|rfl|rfl|rfl|rfl
 ·have a1:=h1.1 rfl
  have a2:=h2.1 rfl
  have a3:=hn (by decide)
  refine KeyNe_same (by kernel_rfl) fun w=>?_
  show(Op.equalIn 9999 4 (.bool (n !=0)) (.bool (n' !=0))).run TP w=_
  rw[show(9999:Nat)=9998+1 from rfl,eqIn_bool (by kernel_rfl)]
  have:((n !=0)==(n' !=0))=false:=by
   have:(n=0∧n'=1)∨(n=1∧n'=0):=by omega
   rcases this with⟨rfl,rfl⟩|⟨rfl,rfl⟩<;>rfl
  rw[this]
 ·exact hint 5 .u8 n n' (by kernel_rfl) (by kernel_rfl) (by have:=hn (by decide);omega)
 ·exact hint 228 .u16 n n' (by kernel_rfl) (by kernel_rfl) (by have:=hn (by decide);omega)
 ·exact hint 22 .u32 n n' (by kernel_rfl) (by kernel_rfl) (by have:=hn (by decide);omega)
 ·exact hint 27 .u64 n n' (by kernel_rfl) (by kernel_rfl) (by have:=hn (by decide);omega)
 ·exact hint 213 .i8 _ _ (by kernel_rfl) (by kernel_rfl) (hw (hn (by decide)))
 ·exact hint 217 .i16 _ _ (by kernel_rfl) (by kernel_rfl) (hw (hn (by decide)))
 ·exact hint 21 .i32 _ _ (by kernel_rfl) (by kernel_rfl) (hw (hn (by decide)))
 ·exact hint 2 .i64 _ _ (by kernel_rfl) (by kernel_rfl) (hw (hn (by decide)))
 ·refine KeyNe_same (by kernel_rfl) fun w=>?_
  show(Op.equalIn 9999 251 (.agg (tm (IntKind.i64.wrap n)).toArray) (.agg (tm (IntKind.i64.wrap n')).toArray)).run TP w=_
  have a3:=hw (hn (by decide))
  rw[show(9999:Nat)=9997+2 from rfl]
  have:=eqIn_time 9997 (IntKind.i64.wrap n / 1000) ((IntKind.i64.wrap n%1000) * 1000000) (IntKind.i64.wrap n' / 1000) ((IntKind.i64.wrap n'%1000) * 1000000) w
  refine this.trans ?_
  congr 1
  rw[Bool.and_eq_false_iff]
  by_cases h:IntKind.i64.wrap (n:Int) / 1000=IntKind.i64.wrap (n':Int) / 1000
  ·right;simp;omega
  ·left;simpa using h
 ·obtain⟨a1,a2⟩:=h3 rfl
  have a3:=ht (by decide)
  refine KeyNe_same (by kernel_rfl) fun w=>?_
  show(Op.equalIn 9999 319 (.agg (bc t).toArray) (.agg (bc t').toArray)).run TP w=_
  rw[show(9999:Nat)=9997+2 from rfl,eqIn_uuid 9997 t t' a1 a2]
  simp[a3]
 ·refine KeyNe_same (by kernel_rfl) fun w=>?_
  show(Op.equalIn 9999 9 (str t) (str t')).run TP w=_
  rw[show(9999:Nat)=9998+1 from rfl,eqIn_str (by kernel_rfl) 9998 t t' w (ht (by decide))]
theorem forIn_unit{P:Program}{w:World}:∀(l:List Nat) (body:Nat→PUnit→Sem (ForInStep PUnit)),(∀i∈l,(body i ()).run P w= .ok (.yield ()) w)→(forIn l () body).run P w= .ok () w
 |[],body,_=>by simp
 |a::l,body,h=>by
  have h1:=h a (by simp)
  have ih:=forIn_unit l body (fun i hi=>h i (by simp[hi]))
  simp[List.forIn_cons,h1,ih]
theorem ck_if{e:Bool}{t:TypeId}{v:Value}{w:World}(hc:cmpT TP t=true)(h:(Instr.checkKey e 9999 t v).run TP w= .ok () w):(Instr.checkKey e 10000 20 (.iface t v)).run TP w= .ok () w:=by
 obtain⟨ms,hu⟩:=ifT_some (P:=TP) (t:=20) ift_20
 obtain⟨i,hi,hc⟩:=cmpT_some hc
 show(Instr.checkKey e (9999+1) 20 (.iface t v)).run TP w=_
 rw[Instr.checkKey]
 simp[underlying,hu,typeInfo,hi,hc,h]
theorem ck_one{e:Bool}{t:TypeId}{v:Value}{w:World}(h:(∃kk,TP.underlying t=some (.int kk))∨TP.underlying t=some .bool∨TP.underlying t=some .string):(Instr.checkKey e (9998+1) t v).run TP w= .ok () w:=by
 rw[Instr.checkKey.eq_def]
 rcases h with⟨kk,h⟩|h|h<;>simp[underlying,h]
theorem ck_byte{e:Bool}{x:Int}{w:World}:(Instr.checkKey e (9997+1) 5 (.int .u8 x)).run TP w= .ok () w:=by
 rw[Instr.checkKey.eq_def]
 simp[underlying,und5]
theorem ck_i64{e:Bool}{x:Int}{w:World}:(Instr.checkKey e (9997+1) 2 (.int .i64 x)).run TP w= .ok () w:=by
 rw[Instr.checkKey.eq_def]
 simp[underlying,und2]
theorem ck_time{e:Bool}{x y:Int}{w:World}:(Instr.checkKey e (9998+1) 251 (.agg #[.int .i64 x,.int .i64 y])).run TP w= .ok () w:=by
 obtain⟨f,g,hu2,n1,t1,o1,n2,t2,o2⟩:=und251
 have p0:(part 2 #[.int .i64 x,.int .i64 y] 0).run TP w= .ok (.int .i64 x) w:=part_one (by kernel_rfl) rfl
 have p1:(part 2 #[.int .i64 x,.int .i64 y] 1).run TP w= .ok (.int .i64 y) w:=part_one (by kernel_rfl) rfl
 have q:∀x:Int,(Instr.checkKey e 9998 2 (.int .i64 x)).run TP w= .ok () w:=fun x=>ck_i64
 rw[Instr.checkKey]
 simp only[Sem.run_bind,underlying]
 simp[hu2,n1,n2,t1,t2,o1,o2,p0,p1,q,program,Sem.run]
theorem ck_uuid{e:Bool}{t:List UInt8}{w:World}(hl:t.length=16):(Instr.checkKey e (9998+1) 319 (.agg (bc t).toArray)).run TP w= .ok () w:=by
 obtain⟨i5,hi5,hs5⟩:=Option.map_eq_some_iff.1 sz5
 have q:∀x:Int,(Instr.checkKey e 9998 5 (.int .u8 x)).run TP w= .ok () w:=fun x=>ck_byte
 rw[Instr.checkKey]
 simp only[Sem.run_bind,underlying]
 simp only[und319,sizeOf,typeInfo,hi5,hs5,program,Sem.run,Sem.run_bind,Result.andThen,Sem.run_pure,Nat.mul_one,Std.Legacy.Range.forIn_eq_forIn_range',Std.Legacy.Range.size,Nat.sub_zero,Nat.add_sub_cancel,Nat.div_one]
 rw[forIn_unit _ _ ?_]
 intro i hi
 have hi':i<16:=by simpa[List.mem_range'_1]using hi
 have h1:(part 5 (bc t).toArray i).run TP w= .ok (.int .u8 (t[i].toNat:Int)) w:=part_one (by kernel_rfl) (by simp[hl,hi'])
 simp[h1,q,Sem.run,hi5,hs5,Result.andThen]
theorem KeyOK_scal{k:Int}{n:Nat}{t:List UInt8}(hk:keyR k)(ht:k=17→t.length=16):KeyOK TP 20 (.iface (ktyK k) (kval k n t)):=by
 intro w e
 rcases hk with rfl|rfl|rfl|rfl|rfl|rfl|rfl|rfl|rfl|rfl|rfl|rfl
 ·exact ck_if (t:=4) (by kernel_rfl) (ck_one (.inr (.inl (by kernel_rfl))))
 ·exact ck_if (t:=5) (by kernel_rfl) (ck_one (.inl ⟨.u8,by kernel_rfl⟩))
 ·exact ck_if (t:=228) (by kernel_rfl) (ck_one (.inl ⟨.u16,by kernel_rfl⟩))
 ·exact ck_if (t:=22) (by kernel_rfl) (ck_one (.inl ⟨.u32,by kernel_rfl⟩))
 ·exact ck_if (t:=27) (by kernel_rfl) (ck_one (.inl ⟨.u64,by kernel_rfl⟩))
 ·exact ck_if (t:=213) (by kernel_rfl) (ck_one (.inl ⟨.i8,by kernel_rfl⟩))
 ·exact ck_if (t:=217) (by kernel_rfl) (ck_one (.inl ⟨.i16,by kernel_rfl⟩))
 ·exact ck_if (t:=21) (by kernel_rfl) (ck_one (.inl ⟨.i32,by kernel_rfl⟩))
 ·exact ck_if (t:=2) (by kernel_rfl) (ck_one (.inl ⟨.i64,by kernel_rfl⟩))
 ·exact ck_if (t:=251) (by kernel_rfl) ck_time
 ·exact ck_if (t:=319) (by kernel_rfl) (ck_uuid (ht rfl))
 ·exact ck_if (t:=9) (by kernel_rfl) (ck_one (.inr (.inr (by kernel_rfl))))
end Go.Proofs.LL
