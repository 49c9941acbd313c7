/- Contracts of functions and own laws. Conditions: those that each theorem states. -/
import Derived.Test.YtdgbmbjkbmpcbaaGreatDoorW15
set_option linter.all false
set_option autoImplicit true
set_option relaxedAutoImplicit true
set_option maxRecDepth 20000
namespace Go.Proofs.LL
open Go Go.Proofs Go.RowKit
set_option maxHeartbeats 4000000
attribute [local irreducible] ar WL WC cq WT WX
def GA(k:Int):Nat:=
 if k=1 then 4 else if k=2 then 5 else if k=3 then 228 else if k=4 then 22 else if k=5 then 27 else if k=6 then 213 else
 if k=7 then 217 else if k=8 then 21 else if k=9 then 2 else if k=10 then 235 else 239
def jV(k:Int)(n:Nat):Value:=
 if k=1 then .bool (n !=0)else if k=2 then .int .u8 n else if k=3 then .int .u16 n else if k=4 then .int .u32 n else if k=5 then .int .u64 n else
 if k=6 then .int .i8 (IntKind.i64.wrap n)else if k=7 then .int .i16 (IntKind.i64.wrap n)else if k=8 then .int .i32 (IntKind.i64.wrap n)else if k=9 then .int .i64 (IntKind.i64.wrap n)else
 if k=10 then .float .f32 n else .float .f64 n
def scal(k:Int)(n:Nat)(t:List UInt8):Option Value:=
 if k=0 then some .nilIface
 else if 1≤k∧k≤11 then some (.iface (GA k) (jV k n))
 else if k=16 then some (.iface 251 (.agg (tm (IntKind.i64.wrap n)).toArray))
 else if k=17 then some (.iface 319 (.agg (bc t).toArray))
 else if k=19∨k=20 then some (.iface 9 (str t))
 else none
def yu(k:Int):Nat:=
 if k=1 then 323 else if k=3 then 328 else if k=4 then 44 else if k=5 then 333 else if k=6 then 336 else if k=7 then 339 else
 if k=8 then 342 else if k=9 then 345 else if k=10 then 348 else if k=11 then 351 else if k=16 then 353 else if k=17 then 356 else if k=19 then 24 else 73
def ee(x:V):List Value:=
 if x.kind=16 then tm (IntKind.i64.wrap x.num)else if x.kind=17 then bc x.text else if 19≤x.kind then[str x.text]else[jV x.kind x.num]
def bQ(A:Nat→Prop)(w:World)(ks:List V)(y:Value):Prop:=
 ∃kk,(∀x∈ks,x.kind=kk)∧ks≠[]∧dp kk∧
 ((kk=2∧∃v,y= .iface 325 v∧bT A w v (ks.map fun x=>UInt8.ofNat x.num))∨
  (kk=18∧∃g vs,A g∧y= .iface 359 (.slice (some ⟨g,0,none⟩) ks.length ks.length)∧At w g 0 vs∧Bs A w vs (ks.map V.text))∨
  (kk≠2∧kk≠18∧∃g,A g∧y= .iface (yu kk) (.slice (some ⟨g,0,none⟩) ks.length ks.length)∧At w g 0 (ks.flatMap ee)))
def wU(A:Nat→Prop)(w:World)(k:Int)(n:Nat)(t:List UInt8)(ks:List V)(y:Value)(pl:List Value→Prop)(pm:List (Value×Value)→Prop):Prop:=
 scal k n t=some y∨
 (k=18∧∃v,y= .iface 28 v∧bT A w v t)∨
 (k=21∧∃p c cells,y= .iface 320 (.slice p ks.length c)∧ks.length≤c∧pl cells∧(ks=[]∨∃b,p=some ⟨b,0,none⟩∧A b∧At w b 0 cells))∨
 (k=22∧∃m kvs kvs0,A m∧cT w m kvs∧pm kvs0∧((y= .iface 299 (.map (some m))∧kvs=kvs0)∨
  (y= .iface 177 (.map (some m))∧∃ss:List (List UInt8×Value),kvs0=ss.map (fun p=>(.iface 9 (str p.1),p.2))∧kvs.Perm (ss.map fun p=>(str p.1,p.2)))))∨
 (k=23∧bQ A w ks y)
mutual
def bJ(A:Nat→Prop)(w:World):V→Value→Prop
 | .mk k n t ks _ _,y=>wU A w k n t ks y (cU A w ks) (bB A w ks)
def cU(A:Nat→Prop)(w:World):List V→List Value→Prop
 |[],cs=>cs=[]
 |x::r,cs=>∃c cs',cs=c::cs'∧bJ A w x c∧cU A w r cs'
def bB(A:Nat→Prop)(w:World):List V→List (Value×Value)→Prop
 |[],l=>l=[]
 |[_],l=>l=[]
 |k::v::r,l=>∃a b l',l=(a,b)::l'∧bJ A w k a∧bJ A w v b∧bB A w r l'
end
theorem cU.length:∀ {ks:List V} {cs:List Value},cU A w ks cs→cs.length=ks.length
 |[],cs,h=>by simp only[cU]at h;simp[h]
 |x::r,cs,h=>by
  simp only[cU]at h
  obtain⟨c,cs',rfl,_,h2⟩:=h
  simp[cU.length h2]
theorem xl{A:Nat→Prop}(x:V)(h:x.kind=17→x.text≠[]):0<(ee x).length:=by
 unfold ee
 split
 ·simp[tm]
 ·split
  ·rename_i h1
   have:=h h1
   simp;exact List.length_pos_iff.2 this
  ·split<;>simp
section
variable {A B:Nat→Prop} {w w':World}
theorem At.grow(h:At w b o l)(e:am B w w')(hAB:∀b,b<w.heap.size→A b→B b)(hA:A b):At w' b o l:=by
 rcases Nat.eq_zero_or_pos l.length with h0|h0
 ·intro j hj;omega
 ·have hlt:b<w.heap.size:=by
   have h1:=h 0 h0
   rw[List.getElem?_eq_getElem h0]at h1
   exact bD h1
  exact h.m e (hAB b hlt hA)
theorem bQ.grow(h:bQ A w ks y)(e:am B w w')(hAB:∀b,b<w.heap.size→A b→B b):bQ A w' ks y:=by
 obtain⟨kk,h1,h2,h3,h4⟩:=h
 refine⟨kk,h1,h2,h3,?_⟩
 rcases h4 with⟨h5,v,h6,h7⟩|⟨h5,g,vs,h6,h7,h8,h9⟩|⟨h5,h5',g,h6,h7,h8⟩
 ·exact .inl ⟨h5,v,h6,h7.m e hAB⟩
 ·exact .inr (.inl ⟨h5,g,vs,h6,h7,h8.grow e hAB h6,h9.m e hAB⟩)
 ·exact .inr (.inr ⟨h5,h5',g,h6,h7,h8.grow e hAB h6⟩)
mutual
theorem bJ.m':∀ {x:V} {y:Value},bJ A w x y→am B w w'→(∀b,b<w.heap.size→A b→B b)→bJ A w' x y
 | .mk k n t ks o d,y,h,e,hAB=>by
  simp only[bJ,wU]at h⊢
  rcases h with h|⟨h1,v,h2,h3⟩|⟨h1,p,c,cells,h2,h3,h4,h5⟩|⟨h1,m,kvs,kvs0,h2,h3,h4,h5⟩|⟨h1,h2⟩
  ·exact .inl h
  ·exact .inr (.inl ⟨h1,v,h2,h3.m e hAB⟩)
  ·refine .inr (.inr (.inl ⟨h1,p,c,cells,h2,h3,cU.m' h4 e hAB,?_⟩))
   rcases h5 with h5|⟨b,h5,h6,h7⟩
   ·exact .inl h5
   ·exact .inr ⟨b,h5,h6,h7.grow e hAB h6⟩
  ·exact .inr (.inr (.inr (.inl ⟨h1,m,kvs,kvs0,h2,h3.m e (hAB m h3.lt h2),bB.m' h4 e hAB,h5⟩)))
  ·exact .inr (.inr (.inr (.inr ⟨h1,h2.grow e hAB⟩)))
theorem cU.m':∀ {ks:List V} {cs:List Value},cU A w ks cs→am B w w'→(∀b,b<w.heap.size→A b→B b)→cU A w' ks cs
 |[],cs,h,_,_=>by simpa only[cU]using h
 |x::r,cs,h,e,hAB=>by
  simp only[cU]at h⊢
  obtain⟨c,cs',h1,h2,h3⟩:=h
  exact⟨c,cs',h1,bJ.m' h2 e hAB,cU.m' h3 e hAB⟩
theorem bB.m':∀ {ks:List V} {l:List (Value×Value)},bB A w ks l→am B w w'→(∀b,b<w.heap.size→A b→B b)→bB A w' ks l
 |[],l,h,_,_=>by simpa only[bB]using h
 |[_],l,h,_,_=>by simpa only[bB]using h
 |k::v::r,l,h,e,hAB=>by
  simp only[bB]at h⊢
  obtain⟨a,b,l',h1,h2,h3,h4⟩:=h
  exact⟨a,b,l',h1,bJ.m' h2 e hAB,bJ.m' h3 e hAB,bB.m' h4 e hAB⟩
end
theorem bJ.m(h:bJ A w x y)(e:am B w w')(hAB:∀b,b<w.heap.size→A b→B b:=by(intro b hb1 hb2;first|exact trivial|exact hb2|((try dsimp only[Nb]at hb2⊢);omega))):bJ A w' x y:=h.m' e hAB
theorem cU.m(h:cU A w x y)(e:am B w w')(hAB:∀b,b<w.heap.size→A b→B b:=by(intro b hb1 hb2;first|exact trivial|exact hb2|((try dsimp only[Nb]at hb2⊢);omega))):cU A w' x y:=h.m' e hAB
theorem bB.m(h:bB A w x y)(e:am B w w')(hAB:∀b,b<w.heap.size→A b→B b:=by(intro b hb1 hb2;first|exact trivial|exact hb2|((try dsimp only[Nb]at hb2⊢);omega))):bB A w' x y:=h.m' e hAB
theorem bQ.k(h:bQ A w ks y)(hAB:∀b,A b→B b):bQ B w ks y:=by
 obtain⟨kk,h1,h2,h3,h4⟩:=h
 refine⟨kk,h1,h2,h3,?_⟩
 rcases h4 with⟨h5,v,h6,h7⟩|⟨h5,g,vs,h6,h7,h8,h9⟩|⟨h5,h5',g,h6,h7,h8⟩
 ·exact .inl ⟨h5,v,h6,h7.k fun b _ h=>hAB b h⟩
 ·exact .inr (.inl ⟨h5,g,vs,hAB g h6,h7,h8,h9.k fun b _ h=>hAB b h⟩)
 ·exact .inr (.inr ⟨h5,h5',g,hAB g h6,h7,h8⟩)
mutual
theorem bJ.k:∀ {x:V} {y:Value},bJ A w x y→(∀b,A b→B b)→bJ B w x y
 | .mk k n t ks o d,y,h,hAB=>by
  simp only[bJ,wU]at h⊢
  rcases h with h|⟨h1,v,h2,h3⟩|⟨h1,p,c,cells,h2,h3,h4,h5⟩|⟨h1,m,kvs,kvs0,h2,h3,h4,h5⟩|⟨h1,h2⟩
  ·exact .inl h
  ·exact .inr (.inl ⟨h1,v,h2,h3.k fun b _ h=>hAB b h⟩)
  ·refine .inr (.inr (.inl ⟨h1,p,c,cells,h2,h3,cU.k h4 hAB,?_⟩))
   rcases h5 with h5|⟨b,h5,h6,h7⟩
   ·exact .inl h5
   ·exact .inr ⟨b,h5,hAB b h6,h7⟩
  ·exact .inr (.inr (.inr (.inl ⟨h1,m,kvs,kvs0,hAB m h2,h3,bB.k h4 hAB,h5⟩)))
  ·exact .inr (.inr (.inr (.inr ⟨h1,h2.k hAB⟩)))
theorem cU.k:∀ {ks:List V} {cs:List Value},cU A w ks cs→(∀b,A b→B b)→cU B w ks cs
 |[],cs,h,_=>by simpa only[cU]using h
 |x::r,cs,h,hAB=>by
  simp only[cU]at h⊢
  obtain⟨c,cs',h1,h2,h3⟩:=h
  exact⟨c,cs',h1,bJ.k h2 hAB,cU.k h3 hAB⟩
theorem bB.k:∀ {ks:List V} {l:List (Value×Value)},bB A w ks l→(∀b,A b→B b)→bB B w ks l
 |[],l,h,_=>by simpa only[bB]using h
 |[_],l,h,_=>by simpa only[bB]using h
 |k::v::r,l,h,hAB=>by
  simp only[bB]at h⊢
  obtain⟨a,b,l',h1,h2,h3,h4⟩:=h
  exact⟨a,b,l',h1,bJ.k h2 hAB,bJ.k h3 hAB,bB.k h4 hAB⟩
end
theorem cU.snoc:∀ {ks:List V} {cs:List Value} {x:V} {c:Value},cU A w ks cs→bJ A w x c→cU A w (ks++[x]) (cs++[c])
 |[],cs,x,c,h,h'=>by
  simp only[cU]at h
  subst h
  simp only[List.nil_append,cU]
  exact⟨c,[],rfl,h',rfl⟩
 |y::r,cs,x,c,h,h'=>by
  simp only[cU]at h
  obtain⟨d,cs',rfl,h2,h3⟩:=h
  simp only[List.cons_append,cU]
  exact⟨d,cs'++[c],rfl,h2,cU.snoc h3 h'⟩
theorem bB.snoc:∀ {ks:List V} {l:List (Value×Value)} {x y:V} {a b:Value},ks.length%2=0→bB A w ks l→bJ A w x a→bJ A w y b→bB A w (ks++[x,y]) (l++[(a,b)])
 |[],l,x,y,a,b,_,h,h1,h2=>by
  simp only[bB]at h
  subst h
  simp only[List.nil_append,bB]
  exact⟨a,b,[],rfl,h1,h2,rfl⟩
 |[_],l,x,y,a,b,h0,_,_,_=>by simp at h0
 |k::v::r,l,x,y,a,b,h0,h,h1,h2=>by
  simp only[bB]at h
  obtain⟨c,d,l',rfl,h3,h4,h5⟩:=h
  simp only[List.cons_append,bB]
  exact⟨c,d,l'++[(a,b)],rfl,h3,h4,bB.snoc (by simp at h0;omega) h5 h1 h2⟩
theorem bB.length:∀ {ks:List V} {l:List (Value×Value)},bB A w ks l→l.length=ks.length / 2
 |[],l,h=>by simp only[bB]at h;simp[h]
 |[_],l,h=>by simp only[bB]at h;simp[h]
 |k::v::r,l,h=>by
  simp only[bB]at h
  obtain⟨a,b,l',rfl,_,_,h4⟩:=h
  simp[bB.length h4];omega
end
def gl(x:V):Prop:=∀(bs r:List UInt8) (w:World) (rb:Nat),g8 x bs→Rd w rb (bs++r)→
 ah TP 135 [.pointer (some ⟨rb,0,none⟩)] w fun u w'=>∃y,u= .tuple #[y,.nilIface]∧bJ (fun b=>w.heap.size≤b) w' x y∧Rd w' rb r∧am (Nb rb) w w'
theorem bJ.one(h:bJ A w x y):y.oneCell'=true:=by
 obtain⟨k,n,t,ks,o,d⟩:=x
 simp only[bJ,wU]at h
 rcases h with h|⟨h1,v,rfl,h3⟩|⟨h1,p,c,cells,rfl,h3,h4,h5⟩|⟨h1,m,kvs,kvs0,h2,h3,h4,h5⟩|⟨h1,kk,h2,h3,h4,h5⟩
 ·unfold scal at h
  split at h
  ·cases h;rfl
  ·split at h
   ·cases h;rfl
   ·split at h
    ·cases h;rfl
    ·split at h
     ·cases h;rfl
     ·split at h
      ·cases h;rfl
      ·cases h
 ·rfl
 ·rfl
 ·rcases h5 with⟨rfl,_⟩|⟨rfl,_⟩<;>rfl
 ·rcases h5 with⟨_,v,rfl,_⟩|⟨_,g,vs,_,rfl,_⟩|⟨_,_,g,_,rfl,_⟩<;>rfl
theorem BC{ks:List V}{r:List UInt8}(hks:∀x∈ks,gl x)(hE:bw ks body)(hab:aH w ab [.slice none 0 0])(hne:rb<ab)(hh:di hd ks.length body)(hR:Rd w rb (hd++(body++r))):
  ah TP 130 [.pointer (some ⟨ab,0,none⟩),.pointer (some ⟨rb,0,none⟩)] w fun u w'=>u= .nilIface∧(∃p c cells,aH w' ab [.slice p ks.length c]∧ks.length≤c∧cU (fun b=>w.heap.size≤b) w' ks cells∧(ks=[]∨∃b,p=some ⟨b,0,none⟩∧w.heap.size≤b∧At w' b 0 cells))∧Rd w' rb r∧am (fun k=>k≠rb∧k≠ab) w w':=by
 have hle:=hh.le
 have:=hab.lt
 have hlr:=hR.len
 have hln:(body++r).length=body.length+r.length:=by simp only[List.length_append]
 rw[List.length_append]at hlr
 rcases Nat.eq_zero_or_pos ks.length with h0|h0
 ·have hk0:ks=[]:=List.eq_nil_of_length_eq_zero h0
  subst hk0
  cases hE
  refine aR Tryz.func130 ?_
  have he:am (fun k=>k≠rb∧k≠ab) w w:=am.refl w
  refine q ?_
  refine Hm rfl (fa hh hR) fun w1 hR e1=>?_
  refine q ?_
  refine Hl rfl (cS hR) fun w2 e2=>?_
  try refine Hq (ae (aS rfl rfl) (decide_eq_false (by(simp)))) ?_
  replace hab:=(hab.m e1).m e2
  refine q ?_
  try refine Hq (ae (ef rfl rfl) (decide_eq_false (by(simp)))) ?_
  refine q ?_
  try refine Hq (bu (h:=0) Fo.h rfl rfl rfl (by simp)) ?_
  refine q ?_
  replace hR:=hR.m e2
  replace he:=(he.t e1).t e2
  refine WC.loop2 (ι:=Nat) [(0,_),(1,_),(4,_),(7,_),(35,_)] (fun i=>[(6,.nilIface),(36,.int .i64 (i:Int))]) (fun i wi=>am (fun _=>True) w2 wi) (fun i=>0) 0 sb sb Vr ?_
  intro i wi1 hh;have hE:=hh
  refine q ?_
  try refine Hq (ae (ef rfl rfl) (decide_eq_false (by(simp)))) ?_
  refine q ?_
  replace hab:=hab.m hE
  refine Hp rfl rfl hab fun w3 hab e3 hz3=>?_
  refine q ?_
  replace hR:=(hR.m hE).m e3
  replace he:=(he.t hE).t e3
  exact aw rfl ⟨rfl,⟨_,_,[],hab,Nat.zero_le _,by simp[cU],.inl rfl⟩,by simpa using hR,he⟩
 ·refine aR Tryz.func130 ?_
  have he:am (fun k=>k≠rb∧k≠ab) w w:=am.refl w
  refine q ?_
  refine Hm rfl (fa hh hR) fun w1 hR e1=>?_
  refine q ?_
  refine Hl rfl (cS hR) fun w2 e2=>?_
  replace hab:=(hab.m e1).m e2
  refine q ?_
  replace he:=(he.t e1).t e2
  have hs3:=he.s
  refine WL.l rfl (cF (n:=ks.length) Fo.h rfl rfl rfl rfl rfl (by omega) (by simp only[maxLen];omega)) ?_
  rintro v3 w3 ⟨rfl,hK,e3⟩
  have hx3:=hK.lt
  refine q ?_
  replace hR:=(hR.m e2).m e3
  replace hab:=hab.m e3
  replace he:=he.t e3
  refine WC.loop2 (ι:=Nat) [(0,_),(1,_),(4,_),(7,_),(35,_)] (fun i=>[(6,.nilIface),(36,.int .i64 (i:Int))]) (fun i wi=>(∃cs bi,aH wi w2.heap.size (cs++List.replicate (ks.length-i) .nilIface)∧cU (fun b=>w3.heap.size≤b) wi (ks.take i) cs∧bw (ks.drop i) bi∧Rd wi rb (bi++r))∧am (fun k=>k<w3.heap.size∧k≠w2.heap.size∧k≠rb) w3 wi) (fun i=>ks.length-i) 0 sb sb (⟨⟨[],body,hK,by simp[cU],hE,hR⟩,am.refl _⟩) ?_
  intro i wi1 hh;obtain⟨⟨cs,bi,hK,hV,hB,hR⟩,hE⟩:=hh
  have hvl:=hV.length
  have hwi:=hE.s
  rcases Nat.lt_or_ge i ks.length with hi|hi
  ·rw[List.drop_eq_getElem_cons hi]at hB
   cases hB with
   |cons hB1 hB2=>
   rename_i b1 b2
   rw[List.append_assoc]at hR
   rw[List.length_take,Nat.min_eq_left (Nat.le_of_lt hi)]at hvl
   have hrp:List.replicate (ks.length-i) Value.nilIface= .nilIface::List.replicate (ks.length-(i+1)) .nilIface:=by
    rw[show ks.length-i=(ks.length-(i+1))+1 by omega,List.replicate_succ]
   rw[hrp]at hK
   have htk:ks.take (i+1)=ks.take i++[ks[i]]:=by rw[List.take_add_one,List.getElem?_eq_getElem hi];rfl
   refine q ?_
   refine cl rfl (hks _ (List.getElem_mem hi) _ _ _ _ hB1 hR) ?_
   rintro v4 w4 ⟨y,rfl,hZ,hR,e4⟩
   have hZV:=hV.m e4 (by intro b h1 h2;dsimp only[Nb];omega)
   have hone:=hZ.one
   refine q ?_
   replace hK:=hK.m e4
   refine WL.l0 (ce Fo.h rfl rfl hone hK (by simp[Nat.blt_eq];omega)) ?_
   rintro _ w5 ⟨hK,e5,hz5⟩
   refine q ?_
   rw[show 0+i=cs.length by omega,List.set_append_right _ _ (Nat.le_refl _),Nat.sub_self,List.set_cons_zero,← List.singleton_append,← List.append_assoc]at hK
   replace hZ:=hZ.m e5
   replace hZV:=hZV.m e5
   have hV2:=hZV.snoc (hZ.k (B:=fun b=>w3.heap.size≤b) (fun b h=>Nat.le_trans hwi h))
   rw[← htk]at hV2
   replace hR:=hR.m e5
   exact⟨i+1,sb,sb,⟨⟨_,_,hK,hV2,hB2,hR⟩,(((hE.t e4).t e5))⟩,by omega⟩
  ·have h0':ks.length-i=0:=by omega
   rw[h0',List.replicate_zero,List.append_nil]at hK
   rw[List.drop_eq_nil_of_le hi]at hB
   cases hB
   rw[List.take_of_length_le hi]at hV
   refine q ?_
   replace hab:=hab.m hE
   refine Hp rfl rfl hab fun w4 hab e4 hz4=>?_
   refine q ?_
   replace hV:=hV.m e4
   have hVw:=hV.k (B:=fun b=>w.heap.size≤b) (fun b h=>Nat.le_trans (Nat.le_trans hs3 (Nat.le_of_lt hx3)) h)
   replace hR:=hR.m e4
   replace hK:=hK.m e4
   replace he:=(he.t hE).t e4
   exact aw rfl ⟨rfl,⟨_,_,cs,hab,Nat.le_refl _,hVw,.inr ⟨_,rfl,hs3,hK.at⟩⟩,by simpa using hR,he⟩
end Go.Proofs.LL
namespace Go.Proofs.LL
open Go Go.Proofs Go.RowKit
def Eb(f:Field)(n:String)(o:Nat):Bool:=f.name==n&&f.type==2&&f.offset==o
def FF(d:Option TypeDesc):Bool:=match d with
 |some (.struct fs)=>match fs.toList with
  | [f, g] => Eb f "sec" 0 && Eb g "nsec" 1
  |_=>false
 |_=>false
theorem zV : ∃ f g : Field, TP.underlying 251 = some (.struct #[f, g]) ∧ f.name = "sec" ∧ f.type = 2 ∧ f.offset = 0 ∧ g.name = "nsec" ∧ g.type = 2 ∧ g.offset = 1 := by
 have h:FF (TP.underlying 251)=true:=by kernel_rfl
 unfold FF at h
 split at h
 ·rename_i fs hu
  split at h
  ·rename_i f g hl
   simp only[Eb,Bool.and_eq_true,beq_iff_eq]at h
   obtain⟨⟨⟨h1,h2⟩,h3⟩,⟨h4,h5⟩,h6⟩:=h
   refine⟨f,g,?_,h1,h2,h3,h4,h5,h6⟩
   rw[hu,← hl]
  ·cases h
 ·cases h
theorem zW:TP.underlying 319=some (.array 16 5):=by kernel_rfl
theorem zR:TP.stoodInHeld 251=false:=by kernel_rfl
theorem FI:TP.underlying 2=some (.int .i64):=by kernel_rfl
theorem FJ:TP.underlying 5=some (.int .u8):=by kernel_rfl
theorem Gz:(TP.info? 5).map (·.size)=some 1:=by kernel_rfl
def yC(P:Program)(t:TypeId):Bool:=((P.info? t).map (·.comparable)).getD false
theorem oY(h:yC P t=true):∃i,P.info? t=some i∧i.comparable=true:=by
 unfold yC at h
 cases hi:P.info? t with
 |none=>rw[hi]at h;cases h
 |some i=>rw[hi]at h;exact⟨i,rfl,by simpa using h⟩
theorem gW{off:Nat}{cs:Array Value}(ht:ku P t=true)(hv:cs[off]?=some v):(part t cs off).run P w= .ok v w:=by
 simp[part,jK ht,hv]
theorem nu{P:Program}(hu:P.underlying t=some (.int k))(d:Nat)(a b:Int)(w:World):(Op.equalIn (d+1) t (.int k a) (.int k b)).run P w= .ok (a==b) w:=by
 simp[Op.equalIn,underlying,hu]
theorem xn{P:Program}(hu:P.underlying t=some .bool)(d:Nat)(a b:Bool)(w:World):(Op.equalIn (d+1) t (.bool a) (.bool b)).run P w= .ok (a==b) w:=by
 simp[Op.equalIn,underlying,hu]
theorem yO{P:Program}(hu:P.underlying t=some .string)(d:Nat)(a b:List UInt8)(w:World)(h:a≠b):(Op.equalIn (d+1) t (str a) (str b)).run P w= .ok false w:=by
 have h1:((⟨a.toArray⟩:ByteArray)==⟨b.toArray⟩)=false:=by
  cases hq:(⟨a.toArray⟩:ByteArray)==⟨b.toArray⟩with
  |false=>rfl
  |true=>
   have:=(MapKept.bytes_beq _ _).1 hq
   simp at this
   exact absurd this h
 simp[Op.equalIn,underlying,hu,h1]
theorem sF(f:Nat→Bool):∀(l:List Nat) (body:Nat→Option Bool×Unit→Sem (ForInStep (Option Bool×Unit))),(∀i∈l,(body i (none,())).run P w= .ok (if f i then .yield (none,())else .done (some false,())) w)→(forIn l ((none,()):Option Bool×Unit) body).run P w= .ok (if l.all f then(none,())else(some false,())) w
 |[],body,_=>by simp
 |a::l,body,h=>by
  have h1:=h a (by simp)
  have ih:=sF f l body (fun i hi=>h i (by simp[hi]))
  cases hf:f a with
  |true=>simp[List.forIn_cons,h1,hf,ih]
  |false=>simp[List.forIn_cons,h1,hf]
theorem xp(d:Nat)(a b a' b':Int)(w:World):(Op.equalIn (d+2) 251 (.agg #[.int .i64 a,.int .i64 b]) (.agg #[.int .i64 a',.int .i64 b'])).run TP w= .ok (a==a'&&b==b') w:=by
 have p0:∀x y:Int,(part 2 #[.int .i64 x,.int .i64 y] 0).run TP w= .ok (.int .i64 x) w:=fun x y=>gW (by kernel_rfl) rfl
 have p1:∀x y:Int,(part 2 #[.int .i64 x,.int .i64 y] 1).run TP w= .ok (.int .i64 y) w:=fun x y=>gW (by kernel_rfl) rfl
 have q:∀x y:Int,(Op.equalIn (d+1) 2 (.int .i64 x) (.int .i64 y)).run TP w= .ok (x==y) w:=fun x y=>nu FI d x y w
 obtain⟨f,g,hu,n1,t1,o1,n2,t2,o2⟩:=zV
 unfold Op.equalIn
 simp only[Sem.run_bind,underlying]
 cases h1:a==a'<;>cases h2:b==b'<;>
  simp[hu,zR,n1,n2,t1,t2,o1,o2,p0,p1,q,h1,h2,program,Sem.run]
theorem xq(d:Nat)(xs ys:List UInt8)(hx:xs.length=16)(hy:ys.length=16)(w:World):(Op.equalIn (d+2) 319 (.agg (bc xs).toArray) (.agg (bc ys).toArray)).run TP w= .ok (decide (xs=ys)) w:=by
 have p:∀(l:List UInt8) (i:Nat) (h:i<l.length),(part 5 (bc l).toArray i).run TP w= .ok (.int .u8 (l[i].toNat:Int)) w:=fun l i h=>gW (by kernel_rfl) (by simp[h])
 have q:∀x y:Int,(Op.equalIn (d+1) 5 (.int .u8 x) (.int .u8 y)).run TP w= .ok (x==y) w:=fun x y=>nu FJ d x y w
 obtain⟨i5,hi5,hs5⟩:=Option.map_eq_some_iff.1 Gz
 unfold Op.equalIn
 simp only[Sem.run_bind,underlying]
 simp only[zW,sizeOf,typeInfo,hi5,hs5,program,Sem.run,Sem.run_bind,Result.andThen,Sem.run_pure,Nat.mul_one,Std.Legacy.Range.forIn_eq_forIn_range',Std.Legacy.Range.size,Nat.sub_zero,Nat.add_sub_cancel,Nat.div_one]
 rw[sF (fun i=>decide (xs[i]?.getD 0=ys[i]?.getD 0)) _ _ ?_]
 ·have key:∀(xs ys:List UInt8) (n:Nat),xs.length=n→ys.length=n→((List.range' 0 n).all fun i=>decide (xs[i]?.getD 0=ys[i]?.getD 0))=decide (xs=ys):=by
   intro xs ys n h1 h2
   rw[Bool.eq_iff_iff]
   simp only[List.all_eq_true,decide_eq_true_eq,List.mem_range'_1]
   constructor
   ·intro h
    apply List.ext_getElem (by omega)
    intro i g1 g2
    have:=h i ⟨by omega,by omega⟩
    simpa[g1,g2]using this
   ·rintro rfl i _;rfl
  simp only[key xs ys 16 hx hy]
  by_cases h:xs=ys<;>simp[h]
 ·intro i hi
  have hi':i<16:=by simpa[List.mem_range'_1]using hi
  have h1:=p xs i (by omega)
  have h2:=p ys i (by omega)
  have e1:xs[i]?.getD 0=xs[i]:=by simp[hx,hi']
  have e2:ys[i]?.getD 0=ys[i]:=by simp[hy,hi']
  by_cases h:xs[i]=ys[i]
  ·simp[h1,h2,q,h,e1,e2]
  ·have h3:¬(xs[i].toNat:Int)=ys[i].toNat:=fun e=>h (UInt8.toNat_inj.1 (by omega))
   simp[h1,h2,q,h,h3,e1,e2]
def gR(k:Int):Nat:=if k=16 then 251 else if k=17 then 319 else if k=19 then 9 else GA k
def Gb(t:Nat):Int:=if t=4 then 1 else if t=5 then 2 else if t=228 then 3 else if t=22 then 4 else if t=27 then 5 else if t=213 then 6 else if t=217 then 7 else if t=21 then 8 else if t=2 then 9 else if t=251 then 16 else if t=319 then 17 else 19
def jU(k:Int)(n:Nat)(t:List UInt8):Value:=if k=16 then .agg (tm (IntKind.i64.wrap n)).toArray else if k=17 then .agg (bc t).toArray else if k=19 then str t else jV k n
def qY(k:Int):Prop:=k=1∨k=2∨k=3∨k=4∨k=5∨k=6∨k=7∨k=8∨k=9∨k=16∨k=17∨k=19
theorem je{k:Int}(h:qY k):Gb (gR k)=k:=by
 rcases h with rfl|rfl|rfl|rfl|rfl|rfl|rfl|rfl|rfl|rfl|rfl|rfl<;>rfl
def rk(k:Int):Int:=if k=20 then 19 else k
theorem fU{k:Int}(h:dV k):qY (rk k):=by
 unfold dV at h
 unfold rk qY
 split<;>omega
theorem n7{k:Int}(h:dV k):scal k n t=some (.iface (gR (rk k)) (jU (rk k) n t)):=by
 have hR:=fU h
 unfold dV at h
 by_cases h20:k=20
 ·subst h20;rfl
 ·have e:rk k=k:=by simp[rk,h20]
  rw[e]at hR⊢
  rcases hR with rfl|rfl|rfl|rfl|rfl|rfl|rfl|rfl|rfl|rfl|rfl|rfl<;>rfl
theorem yg(h:tx≠ty):kF TP 20 (.iface tx vx) (.iface ty vy):=by
 intro w
 obtain⟨ms,hu⟩:=fT (P:=TP) (t:=20) qX
 have:(Op.equalIn (9999+1) 20 (.iface tx vx) (.iface ty vy)).run TP w= .ok false w:=by
  rw[Op.equalIn]
  simp[underlying,hu,h]
 exact this
theorem fN(hc:yC TP t=true)(h:∀w:World,(Op.equalIn 9999 t vx vy).run TP w= .ok false w):kF TP 20 (.iface t vx) (.iface t vy):=by
 intro w
 obtain⟨ms,hu⟩:=fT (P:=TP) (t:=20) qX
 obtain⟨i,hi,hc⟩:=oY hc
 have:(Op.equalIn (9999+1) 20 (.iface t vx) (.iface t vy)).run TP w= .ok false w:=by
  rw[Op.equalIn]
  simp[underlying,hu,typeInfo,hi,hc,h w]
 exact this
theorem vA{a b:Nat}(ha:a<18446744073709551616)(hb:b<18446744073709551616)(h:IntKind.i64.wrap (a:Int)=IntKind.i64.wrap (b:Int)):a=b:=by
 unfold IntKind.wrap at h
 have e1:(2:Int)^IntKind.i64.bits=18446744073709551616:=by decide
 have e2:(2:Int)^(IntKind.i64.bits-1)=9223372036854775808:=by decide
 simp only[e1,e2,show IntKind.i64.signed=true from rfl,Bool.true_and,decide_eq_true_eq]at h
 split at h<;>split at h<;>omega
theorem tQ{k:Int}{t t':List UInt8}(hk:qY k)(h1:de k n)(h2:de k n')(h3:k=17→t.length=16∧t'.length=16)(h4:k<17→t=t')(h5:17≤k→n=n')(hne:¬(n=n'∧t=t')):
  kF TP 20 (.iface (gR k) (jU k n t)) (.iface (gR k) (jU k n' t')):=by
 have hint:∀(tt:Nat) (kk:IntKind) (a b:Int),TP.underlying tt=some (.int kk)→yC TP tt=true→a≠b→kF TP 20 (.iface tt (.int kk a)) (.iface tt (.int kk b)):=fun tt kk a b hu hc hab=>
  fN hc fun w=>by rw[show(9999:Nat)=9998+1 from rfl,nu hu 9998 a b w];simp[hab]
 have hw:n≠n'→IntKind.i64.wrap (n:Int)≠IntKind.i64.wrap (n':Int):=fun h e=>h (vA h1.2.2.2.2.2.2.2.2 h2.2.2.2.2.2.2.2.2 e)
 have hn:k<17→n≠n':=fun h e=>hne ⟨e,h4 h⟩
 have ht:17≤k→t≠t':=fun h e=>hne ⟨h5 h,e⟩
 rcases hk with rfl|rfl|rfl|rfl|rfl|rfl|rfl|rfl|rfl|rfl|rfl|rfl
 ·have a1:=h1.1 rfl
  have a2:=h2.1 rfl
  have a3:=hn (by decide)
  refine fN (by kernel_rfl) fun w=>?_
  show(Op.equalIn 9999 4 (.bool (n !=0)) (.bool (n' !=0))).run TP w=_
  rw[show(9999:Nat)=9998+1 from rfl,xn (by kernel_rfl)]
  have:((n !=0)==(n' !=0))=false:=by
   have:(n=0∧n'=1)∨(n=1∧n'=0):=by omega
   rcases this with⟨rfl,rfl⟩|⟨rfl,rfl⟩<;>rfl
  rw[this]
 ·exact hint 5 .u8 n n' (by kernel_rfl) (by kernel_rfl) (by have:=hn (by decide);omega)
 ·exact hint 228 .u16 n n' (by kernel_rfl) (by kernel_rfl) (by have:=hn (by decide);omega)
 ·exact hint 22 .u32 n n' (by kernel_rfl) (by kernel_rfl) (by have:=hn (by decide);omega)
 ·exact hint 27 .u64 n n' (by kernel_rfl) (by kernel_rfl) (by have:=hn (by decide);omega)
 ·exact hint 213 .i8 _ _ (by kernel_rfl) (by kernel_rfl) (hw (hn (by decide)))
 ·exact hint 217 .i16 _ _ (by kernel_rfl) (by kernel_rfl) (hw (hn (by decide)))
 ·exact hint 21 .i32 _ _ (by kernel_rfl) (by kernel_rfl) (hw (hn (by decide)))
 ·exact hint 2 .i64 _ _ (by kernel_rfl) (by kernel_rfl) (hw (hn (by decide)))
 ·refine fN (by kernel_rfl) fun w=>?_
  show(Op.equalIn 9999 251 (.agg (tm (IntKind.i64.wrap n)).toArray) (.agg (tm (IntKind.i64.wrap n')).toArray)).run TP w=_
  have a3:=hw (hn (by decide))
  rw[show(9999:Nat)=9997+2 from rfl]
  have:=xp 9997 (IntKind.i64.wrap n / 1000) ((IntKind.i64.wrap n%1000) * 1000000) (IntKind.i64.wrap n' / 1000) ((IntKind.i64.wrap n'%1000) * 1000000) w
  refine this.trans ?_
  congr 1
  rw[Bool.and_eq_false_iff]
  by_cases h:IntKind.i64.wrap (n:Int) / 1000=IntKind.i64.wrap (n':Int) / 1000
  ·right;simp;omega
  ·left;simpa using h
 ·obtain⟨a1,a2⟩:=h3 rfl
  have a3:=ht (by decide)
  refine fN (by kernel_rfl) fun w=>?_
  show(Op.equalIn 9999 319 (.agg (bc t).toArray) (.agg (bc t').toArray)).run TP w=_
  rw[show(9999:Nat)=9997+2 from rfl,xq 9997 t t' a1 a2]
  simp[a3]
 ·refine fN (by kernel_rfl) fun w=>?_
  show(Op.equalIn 9999 9 (str t) (str t')).run TP w=_
  rw[show(9999:Nat)=9998+1 from rfl,yO (by kernel_rfl) 9998 t t' w (ht (by decide))]
theorem nG:∀(l:List Nat) (body:Nat→PUnit→Sem (ForInStep PUnit)),(∀i∈l,(body i ()).run P w= .ok (.yield ()) w)→(forIn l () body).run P w= .ok () w
 |[],body,_=>by simp
 |a::l,body,h=>by
  have h1:=h a (by simp)
  have ih:=nG l body (fun i hi=>h i (by simp[hi]))
  simp[List.forIn_cons,h1,ih]
theorem iJ(hc:yC TP t=true)(h:(Instr.checkKey e 9999 t v).run TP w= .ok () w):(Instr.checkKey e 10000 20 (.iface t v)).run TP w= .ok () w:=by
 obtain⟨ms,hu⟩:=fT (P:=TP) (t:=20) qX
 obtain⟨i,hi,hc⟩:=oY hc
 show(Instr.checkKey e (9999+1) 20 (.iface t v)).run TP w=_
 rw[Instr.checkKey]
 simp[underlying,hu,typeInfo,hi,hc,h]
theorem gv(h:(∃kk,TP.underlying t=some (.int kk))∨TP.underlying t=some .bool∨TP.underlying t=some .string):(Instr.checkKey e (9998+1) t v).run TP w= .ok () w:=by
 rw[Instr.checkKey.eq_def]
 rcases h with⟨kk,h⟩|h|h<;>simp[underlying,h]
theorem Bi{x:Int}:(Instr.checkKey e (9997+1) 5 (.int .u8 x)).run TP w= .ok () w:=by
 rw[Instr.checkKey.eq_def]
 simp[underlying,FJ]
theorem Du{x:Int}:(Instr.checkKey e (9997+1) 2 (.int .i64 x)).run TP w= .ok () w:=by
 rw[Instr.checkKey.eq_def]
 simp[underlying,FI]
theorem Bj{x y:Int}:(Instr.checkKey e (9998+1) 251 (.agg #[.int .i64 x,.int .i64 y])).run TP w= .ok () w:=by
 obtain⟨f,g,hu2,n1,t1,o1,n2,t2,o2⟩:=zV
 have p0:(part 2 #[.int .i64 x,.int .i64 y] 0).run TP w= .ok (.int .i64 x) w:=gW (by kernel_rfl) rfl
 have p1:(part 2 #[.int .i64 x,.int .i64 y] 1).run TP w= .ok (.int .i64 y) w:=gW (by kernel_rfl) rfl
 have q:∀x:Int,(Instr.checkKey e 9998 2 (.int .i64 x)).run TP w= .ok () w:=fun x=>Du
 rw[Instr.checkKey]
 simp only[Sem.run_bind,underlying]
 simp[hu2,n1,n2,t1,t2,o1,o2,p0,p1,q,program,Sem.run]
theorem Bk{t:List UInt8}(hl:t.length=16):(Instr.checkKey e (9998+1) 319 (.agg (bc t).toArray)).run TP w= .ok () w:=by
 obtain⟨i5,hi5,hs5⟩:=Option.map_eq_some_iff.1 Gz
 have q:∀x:Int,(Instr.checkKey e 9998 5 (.int .u8 x)).run TP w= .ok () w:=fun x=>Bi
 rw[Instr.checkKey]
 simp only[Sem.run_bind,underlying]
 simp only[zW,sizeOf,typeInfo,hi5,hs5,program,Sem.run,Sem.run_bind,Result.andThen,Sem.run_pure,Nat.mul_one,Std.Legacy.Range.forIn_eq_forIn_range',Std.Legacy.Range.size,Nat.sub_zero,Nat.add_sub_cancel,Nat.div_one]
 rw[nG _ _ ?_]
 intro i hi
 have hi':i<16:=by simpa[List.mem_range'_1]using hi
 have h1:(part 5 (bc t).toArray i).run TP w= .ok (.int .u8 (t[i].toNat:Int)) w:=gW (by kernel_rfl) (by simp[hl,hi'])
 simp[h1,q,Sem.run,hi5,hs5,Result.andThen]
theorem m6{k:Int}{t:List UInt8}(hk:qY k)(ht:k=17→t.length=16):iY TP 20 (.iface (gR k) (jU k n t)):=by
 intro w e
 rcases hk with rfl|rfl|rfl|rfl|rfl|rfl|rfl|rfl|rfl|rfl|rfl|rfl
 ·exact iJ (t:=4) (by kernel_rfl) (gv (.inr (.inl (by kernel_rfl))))
 ·exact iJ (t:=5) (by kernel_rfl) (gv (.inl ⟨.u8,by kernel_rfl⟩))
 ·exact iJ (t:=228) (by kernel_rfl) (gv (.inl ⟨.u16,by kernel_rfl⟩))
 ·exact iJ (t:=22) (by kernel_rfl) (gv (.inl ⟨.u32,by kernel_rfl⟩))
 ·exact iJ (t:=27) (by kernel_rfl) (gv (.inl ⟨.u64,by kernel_rfl⟩))
 ·exact iJ (t:=213) (by kernel_rfl) (gv (.inl ⟨.i8,by kernel_rfl⟩))
 ·exact iJ (t:=217) (by kernel_rfl) (gv (.inl ⟨.i16,by kernel_rfl⟩))
 ·exact iJ (t:=21) (by kernel_rfl) (gv (.inl ⟨.i32,by kernel_rfl⟩))
 ·exact iJ (t:=2) (by kernel_rfl) (gv (.inl ⟨.i64,by kernel_rfl⟩))
 ·exact iJ (t:=251) (by kernel_rfl) Bj
 ·exact iJ (t:=319) (by kernel_rfl) (Bk (ht rfl))
 ·exact iJ (t:=9) (by kernel_rfl) (gv (.inr (.inr (by kernel_rfl))))
end Go.Proofs.LL
