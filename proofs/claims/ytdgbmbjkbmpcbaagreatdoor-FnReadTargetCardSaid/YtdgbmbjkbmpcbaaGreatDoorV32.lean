/- Own laws of frames, operations and loops, and contracts of functions of the program. Conditions: those that each theorem states. -/
import Derived.Test.YtdgbmbjkbmpcbaaGreatDoorV31
set_option linter.all false
set_option maxRecDepth 20000
namespace Go.Proofs.LL
open Go Go.Proofs Go.RowKit
def iB(t:List UInt8):Prop:=∀b∈t,b.toNat<128
theorem iw{t:List UInt8}(h:iB t):Lib.validD t=true:=by
 rw[Lib.validD_ascii t.length t (by rw[List.take_length];exact h),List.drop_length]
 exact Lib.validD_nil
def CF(k:Int)(n:Nat)(t:List UInt8)(ks:List V):Prop:=
 NumOK k n∧(k=14∨k=17→t.length=16)∧(k=19→Lib.validD t=true)∧(k=20→iB t)∧(k=22→ks.length%2=0)∧(k=23→∀x∈ks,x.kind=(aq ks 0).kind∧x.desc.length=(aq ks 0).desc.length)
mutual
def VF:V→Prop
 | .mk k n t ks _ d=>0≤k∧k≤23∧(k<21→ks=[])∧(k<17∧k≠14∨21≤k→t=[])∧(k=0∨17≤k→n=0)∧d.length≤1∧ks.length≤1000∧t.length≤131072∧CF k n t ks∧cr ks∧cr d
def cr:List V→Prop
 |[]=>True
 |x::r=>VF x∧cr r
end
theorem cr.mem:∀ {l:List V},cr l→∀x∈l,VF x
 |[],_,x,hx=>by cases hx
 |a::r,h,x,hx=>by
  rw[cr]at h
  rcases List.mem_cons.1 hx with rfl|hx
  ·exact h.1
  ·exact cr.mem h.2 x hx
theorem cr.of:∀ {l:List V},(∀x∈l,VF x)→cr l
 |[],_=>by rw[cr];trivial
 |a::r,h=>by rw[cr];exact⟨h a (by simp),cr.of fun x hx=>h x (by simp[hx])⟩
mutual
def aG:V→V
 | .mk k n t ks o d=> .mk (eH k) n t (if k=23 then ks else dB ks) o d
def dB:List V→List V
 |[]=>[]
 |x::r=>aG x::dB r
end
mutual
def SY:V→Prop
 | .mk k _ _ ks _ d=>d=[]∧¬(12≤k∧k≤15)∧(k=23→ks≠[]∧arrK (aq ks 0).kind∧(aq ks 0).desc=[]∧∀x∈ks,18≤x.kind∧x.kind≤20→x.text≠[])∧(k≠23→jW ks)∧
  (k=22→∀i,2 * i<ks.length→keyK (aq ks (2 * i)).kind∧∀j,j<i→same (aG (aq ks (2 * j))) (aG (aq ks (2 * i)))=false)
def jW:List V→Prop
 |[]=>True
 |x::r=>SY x∧jW r
end
theorem jW.mem:∀ {l:List V},jW l→∀x∈l,SY x
 |[],_,x,hx=>by cases hx
 |a::r,h,x,hx=>by
  rw[jW]at h
  rcases List.mem_cons.1 hx with rfl|hx
  ·exact h.1
  ·exact jW.mem h.2 x hx
theorem jW.of:∀ {l:List V},(∀x∈l,SY x)→jW l
 |[],_=>by rw[jW];trivial
 |a::r,h=>by rw[jW];exact⟨h a (by simp),jW.of fun x hx=>h x (by simp[hx])⟩
mutual
def dV:V→Prop
 | .mk k _ t ks _ _=>(k<21→ks=[])∧(21≤k→t=[])∧bm ks
def bm:List V→Prop
 |[]=>True
 |x::r=>dV x∧bm r
end
mutual
theorem VF.trim:∀ {x:V},VF x→dV x
 | .mk k n t ks o d,h=>by
  rw[VF]at h;rw[dV]
  exact⟨h.2.2.1,fun hk=>h.2.2.2.1 (.inr hk),cr.trim h.2.2.2.2.2.2.2.2.2.1⟩
theorem cr.trim:∀ {l:List V},cr l→bm l
 |[],_=>by rw[bm];trivial
 |x::r,h=>by rw[cr]at h;rw[bm];exact⟨VF.trim h.1,cr.trim h.2⟩
end
mutual
theorem VF.told:∀ {x:V},VF x→fw x
 | .mk k n t ks o d,h=>by
  rw[VF]at h;rw[fw]
  obtain⟨_,_,_,_,_,_,_,_,⟨_,_,h1,h2,_⟩,h3,_⟩:=h
  exact⟨fun hk=>hk.elim h1 fun hk=>iw (h2 hk),cr.told h3⟩
theorem cr.told:∀ {l:List V},cr l→bJ l
 |[],_=>by rw[bJ];trivial
 |x::r,h=>by rw[cr]at h;rw[bJ];exact⟨VF.told h.1,cr.told h.2⟩
end
theorem VF.num{x:V}(h:VF x):NumOK x.kind x.num:=by
 obtain⟨k,n,t,ks,o,d⟩:=x
 rw[VF]at h
 exact h.2.2.2.2.2.2.2.2.1.1
theorem VF.plain{x:V}(h:VF x)(hd:x.desc=[])(h14:x.kind≠14):plainOK x:=by
 obtain⟨k,n,t,ks,o,d⟩:=x
 rw[VF]at h
 obtain⟨h1,h2,h3,h4,h5,h6,h7,h8,⟨c1,c2,_⟩,_,_⟩:=h
 simp only[V.kind,V.desc]at hd h14
 exact⟨c1,h8,fun hk=>c2 (.inr hk),hd,fun hk=>h4 (.inl ⟨hk,h14⟩),fun hk=>h5 hk⟩
theorem VF.kidsNil{x:V}(h:VF x)(hk:x.kind<21):x.kids=[]:=by
 obtain⟨k,n,t,ks,o,d⟩:=x
 rw[VF]at h
 exact h.2.2.1 hk
theorem SY.desc{x:V}(h:SY x):x.desc=[]:=by
 obtain⟨k,n,t,ks,o,d⟩:=x
 rw[SY]at h
 exact h.1
theorem ak{ks:List V}{j:Nat}(h:j<ks.length):aq ks j∈ks:=by rw[← az h];exact List.getElem_mem h
theorem jO{a b:V}(ha:VF a)(hb:VF b)(sa:SY a)(sb:SY b)(ka:keyK a.kind)(kb:keyK b.kind)(h:same (aG a) (aG b)=false):asKey a≠asKey b:=by
 intro e
 have na:=ha.kidsNil (by unfold keyK at ka;omega)
 have nb:=hb.kidsNil (by unfold keyK at kb;omega)
 have da:=sa.desc
 have db:=sb.desc
 obtain⟨k,n,t,ks,o,d⟩:=a
 obtain⟨k',n',t',ks',o',d'⟩:=b
 simp only[V.kids,V.desc]at na nb da db
 subst na nb da db
 simp only[asKey,V.kind,V.num,V.text,Prod.mk.injEq]at e
 have e1:eH k=eH k':=e.1
 have e2:=e.2.1
 have e3:=e.2.2
 subst e2 e3
 have h0:same (aG (.mk k n t [] o [])) (aG (.mk k' n t [] o' []))=true:=by
  simp only[aG,dB,same,e1]
  simp[show sameL [] []=true from rfl,show same1 [] []=true from rfl]
 rw[h0]at h;cases h
theorem iY{ks:List V}(h0:ks.length%2=0)(hv:∀x∈ks,VF x)(hs:∀x∈ks,SY x)(h:∀i,2 * i<ks.length→keyK (aq ks (2 * i)).kind∧∀j,j<i→same (aG (aq ks (2 * j))) (aG (aq ks (2 * i)))=false):
  (∀x∈keysOf ks,keyK x.kind)∧((keysOf ks).map asKey).Nodup:=by
 have hget:∀i (hi:i<(keysOf ks).length),2 * i+1<ks.length∧(keysOf ks)[i]=aq ks (2 * i):=by
  intro i hi
  have hl:2 * i+1<ks.length:=by
   rcases Nat.lt_or_ge (2 * i+1) ks.length with h1|h1
   ·exact h1
   ·exfalso
    have h2:(keysOf (ks.take (2 * i)))=(keysOf ks).take i:=keysOf_take i ks
    rw[List.take_of_length_le (by omega)]at h2
    have h3:=congrArg List.length h2
    rw[List.length_take]at h3
    omega
  have h1:=keysOf_get i ks hl
  rw[List.getElem?_eq_getElem hi]at h1
  exact⟨hl,by rw[Option.some.inj h1,← az (by omega)]⟩
 refine⟨fun x hx=>?_,?_⟩
 ·obtain⟨i,hi,rfl⟩:=List.getElem_of_mem hx
  rw[(hget i hi).2]
  exact(h i (by have:=(hget i hi).1;omega)).1
 ·refine List.pairwise_iff_getElem.2 fun i j hi hj hij=>?_
  rw[List.length_map]at hi hj
  rw[List.getElem_map,List.getElem_map,(hget i hi).2,(hget j hj).2]
  have li:=(hget i hi).1
  have lj:=(hget j hj).1
  have m1:=ak (ks:=ks) (j:=2 * i) (by omega)
  have m2:=ak (ks:=ks) (j:=2 * j) (by omega)
  exact jO (hv _ m1) (hv _ m2) (hs _ m1) (hs _ m2) (h i (by omega)).1 (h j (by omega)).1 ((h j (by omega)).2 i hij)
mutual
theorem VF.fine:∀ {x:V},VF x→SY x→Fine x
 | .mk k n t ks o d,h,hs=>by
  have hv:=h
  have hsy:=hs
  rw[VF]at h
  rw[SY]at hs
  obtain⟨h1,h2,h3,h4,h5,h6,h7,h8,hc,hks,_⟩:=h
  obtain⟨s1,s2,s3,s4,s5⟩:=hs
  obtain⟨c1,c2,c3,c4,c5,c6⟩:=hc
  rw[Fine]
  refine⟨hv.plain s1 (by simp only[V.kind];omega),h1,h2,by omega,h7,fun hk=>cr.fine hks (s4 (by omega)),fun hk=>?_,fun hk=>?_⟩
  ·have hsl:=s4 (by omega)
   obtain⟨g1,g2⟩:=iY (c5 hk) hks.mem hsl.mem (s5 hk)
   exact⟨cr.fine hks hsl,c5 hk,g1,g2⟩
  ·obtain⟨g1,g2,g3,g4⟩:=s3 hk
   refine⟨g1,_,g2,fun x hx=>?_⟩
   obtain⟨f1,f2⟩:=c6 hk x hx
   rw[g3]at f2
   refine⟨f1,(hks.mem x hx).plain (List.eq_nil_of_length_eq_zero f2) (by rw[f1];unfold arrK at g2;omega),fun hk=>g4 x hx ?_⟩
   rw[f1];unfold arrK at g2;omega
theorem cr.fine:∀ {l:List V},cr l→jW l→FineL l
 |[],_,_=>by rw[FineL];trivial
 |x::r,h,hs=>by
  rw[cr]at h;rw[jW]at hs;rw[FineL]
  exact⟨VF.fine h.1 hs.1,cr.fine h.2 hs.2⟩
end
def bk(l:List V):V:= .mk 22 0 [] l 0 []
theorem m8:b7 []:=by
 refine⟨⟨by rw[FineL];trivial,⟨rfl,by simp[keysOf],by simp[keysOf]⟩,by simp[keysOf]⟩,by rw[bJ];trivial,by simp⟩
theorem pt{l:List V}(h:VF (bk l))(hs:SY (bk l))(hk:∀x∈keysOf l,x.kind=19∨x.kind=20):b7 l:=by
 have hf:=VF.fine h hs
 have ht:=h.told
 have hm:=hf.mapOK
 unfold bk at hf ht
 rw[Fine]at hf
 rw[fw]at ht
 exact⟨⟨(hf.2.2.2.2.2.2.1 rfl).1,hm,hk⟩,ht.2,hf.2.2.2.2.1⟩
mutual
def ah:V→Nat
 | .mk _ _ _ ks _ d=>1+ad ks+ad d
def ad:List V→Nat
 |[]=>0
 |x::r=>ah x+ad r
end
mutual
def bv:V→Nat
 | .mk _ _ t ks _ d=>64+t.length+au ks+au d
def au:List V→Nat
 |[]=>0
 |x::r=>bv x+au r
end
mutual
theorem VF.vol:∀ {x:V},VF x→bv x≤ah x * 131136
 | .mk k n t ks o d,h=>by
  rw[VF]at h
  have h1:=cr.vol h.2.2.2.2.2.2.2.2.2.1
  have h2:=cr.vol h.2.2.2.2.2.2.2.2.2.2
  have h3:=h.2.2.2.2.2.2.2.1
  rw[LL.bv,ah]
  omega
theorem cr.vol:∀ {l:List V},cr l→au l≤ad l * 131136
 |[],_=>by rw[au,ad];omega
 |x::r,h=>by
  rw[cr]at h
  have h1:=VF.vol h.1
  have h2:=cr.vol h.2
  rw[au,ad]
  omega
end
theorem dh(x:V):1≤ah x:=by obtain⟨k,n,t,ks,o,d⟩:=x;rw[ah];omega
theorem ae:∀l:List V,l.length≤ad l
 |[]=>by simp
 |x::r=>by have:=dh x;have:=ae r;rw[ad,List.length_cons];omega
theorem an:∀ {l:List V} {x:V},x∈l→ah x≤ad l
 |[],x,h=>by cases h
 |a::r,x,h=>by
  rw[ad]
  rcases List.mem_cons.1 h with rfl|h
  ·omega
  ·have:=an h;omega
theorem aA:∀(a b:List V),ad (a++b)=ad a+ad b
 |[],b=>by simp[ad]
 |x::r,b=>by rw[List.cons_append,ad,ad,aA r b];omega
theorem jU(x:V):64≤bv x:=by obtain⟨k,n,t,ks,o,d⟩:=x;rw[bv];omega
theorem cJ:∀l:List V,l.length * 64≤au l
 |[]=>by simp
 |x::r=>by have:=jU x;have:=cJ r;rw[au,List.length_cons];omega
theorem ie:∀ {l:List V} {x:V},x∈l→bv x≤au l
 |[],x,h=>by cases h
 |a::r,x,h=>by
  rw[au]
  rcases List.mem_cons.1 h with rfl|h
  ·omega
  ·have:=ie h;omega
theorem eU:∀(a b:List V),au (a++b)=au a+au b
 |[],b=>by simp[au]
 |x::r,b=>by rw[List.cons_append,au,au,eU r b];omega
mutual
def av:V→V→Prop
 | .mk k n t ks o d,y=>(k≠21∧k≠22∧same (.mk k n t ks o d) y=true)∨(k=21∧y.kind=21∧ks.length=y.kids.length∧d=[]∧y.desc=[]∧b8 ks y.kids)∨(k=22∧y.kind=22∧ks.length=y.kids.length∧d=[]∧y.desc=[]∧a7 ks y.kids)
def b8:List V→List V→Prop
 |a::r,l=>∃b s,l=b::s∧av a b∧b8 r s
 |[],_=>True
def a7:List V→List V→Prop
 |k::v::r,l=>(∃j a b,l[2 * j]?=some a∧l[2 * j+1]?=some b∧same k a=true∧av v b)∧a7 r l
 |_,_=>True
end
theorem fu(l:List V):a7 [] l:=by unfold a7;trivial
theorem jH(a:V)(l:List V):a7 [a] l:=by unfold a7;trivial
theorem av.scal{x y:V}(h:same x y=true)(h1:x.kind≠21)(h2:x.kind≠22):av x y:=by
 obtain⟨k,n,t,ks,o,d⟩:=x
 rw[av]
 exact .inl ⟨h1,h2,h⟩
theorem av.same{x y:V}(h:av x y)(h1:x.kind≠21)(h2:x.kind≠22):same x y=true:=by
 obtain⟨k,n,t,ks,o,d⟩:=x
 rw[av]at h
 rcases h with h|h|h
 ·exact h.2.2
 ·exact absurd h.1 h1
 ·exact absurd h.1 h2
theorem dS:∀(qs:List (V×V)) (q:V×V),q∈qs→∃j,(qs.flatMap fun p=>[p.1,p.2])[2 * j]?=some q.1∧(qs.flatMap fun p=>[p.1,p.2])[2 * j+1]?=some q.2
 |[],q,h=>by cases h
 |p::r,q,h=>by
  rcases List.mem_cons.1 h with rfl|h
  ·exact⟨0,rfl,rfl⟩
  ·obtain⟨j,h1,h2⟩:=dS r q h
   exact⟨j+1,h1,h2⟩
theorem a8(k:Int)(n:Nat)(t:List UInt8)(o:Int)(h20:k≠20)(h23:k≠23):usual (.mk k n t [] o [])= .mk k n t [] o []:=by
 rw[usual,if_neg (by omega),if_neg h20,if_neg (by simp),usualL]
theorem bu(n:Nat)(t:List UInt8)(o:Int):usual (.mk 20 n t [] o [])= .mk 19 0 t [] 0 []:=by
 rw[usual,if_neg (by omega),if_pos rfl,usualL]
theorem jh{x:V}(hp:plainOK x)(hk:x.kind<21)(hn:x.kids=[]):same (usual x) (usual (pv x.kind x.num x.text))=true:=by
 obtain⟨k,n,t,ks,o,d⟩:=x
 simp only[V.kind,V.kids,V.num,V.text]at hk hn⊢
 have hd:d=[]:=hp.2.2.2.1
 subst hn hd
 rcases Decidable.em (k=20)with h20|h20
 ·subst h20
  rw[bu,bu];exact same_refl _
 ·rw[a8 _ _ _ _ h20 (by omega),a8 _ _ _ _ h20 (by omega)]
  simp[same,sameL,same1]
theorem cR:∀ {ks:List V},(∀x∈ks,plainOK x∧x.kind<21∧x.kids=[])→sameL (usualL ks) (usualL (ks.map fun x=>pv x.kind x.num x.text))=true
 |[],_=>rfl
 |x::r,h=>by
  obtain⟨h1,h2,h3⟩:=h x (by simp)
  rw[List.map_cons,usualL,usualL,sameL,jh h1 h2 h3,cR fun y hy=>h y (by simp[hy])]
  rfl
theorem bm.mem:∀ {l:List V},bm l→∀x∈l,dV x
 |[],_,x,hx=>by cases hx
 |a::r,h,x,hx=>by
  rw[bm]at h
  rcases List.mem_cons.1 hx with rfl|hx
  ·exact h.1
  ·exact bm.mem h.2 x hx
theorem dV.kids{x:V}(h:dV x)(hk:x.kind<21):x.kids=[]:=by
 obtain⟨k,n,t,ks,o,d⟩:=x
 rw[dV]at h
 exact h.1 hk
theorem ao(l:List V):(usualL l).length=l.length:=by rw[usualL_eq,List.length_map]
theorem cf(l:List V)(i:Nat):(usualL l)[i]?=(l[i]?).map usual:=by rw[usualL_eq,List.getElem?_map]
theorem jf{k:Int}{n:Nat}{t:List UInt8}{ks:List V}{o:Int}{d:List V}(hF:Fine (.mk k n t ks o d))(hT:dV (.mk k n t ks o d))(h1:k≠21)(h2:k≠22)(h3:k≠23):same (usual (.mk k n t ks o d)) (usual (pv (eH k) n t))=true:=by
 rw[Fine]at hF
 rw[dV]at hT
 obtain⟨hp,hk0,hk1,_⟩:=hF
 have hks:=hT.1 (by omega)
 have hd:d=[]:=hp.2.2.2.1
 subst hks hd
 rcases Decidable.em (k=20)with h20|h20
 ·subst h20
  have hn:n=0:=hp.2.2.2.2.2 (.inr (by simp only[V.kind];omega))
  subst hn
  have e:eH 20=19:=rfl
  rw[bu,e,a8 _ _ _ _ (by omega) (by omega)]
  exact same_refl _
 ·have e:eH k=k:=if_neg h20
  rw[e,a8 _ _ _ _ h20 h3,a8 _ _ _ _ h20 h3]
  simp[same,sameL,same1]
theorem aF{k:Int}{n:Nat}{t:List UInt8}{ks:List V}{o:Int}(h20:k≠20)(h23:k≠23):usual (.mk k n t ks o [])= .mk k n t (usualL ks) o []:=by
 rw[usual,if_neg (by omega),if_neg h20,if_neg (by simp)]
mutual
theorem bZ:∀ {x y:V},cG x y→Fine x→dV x→av (usual x) (usual y)
 | .mk k n t ks o d,y,h,hF,hT=>by
  have hF0:=hF
  have hT0:=hT
  rw[Fine]at hF
  rw[dV]at hT
  obtain⟨hp,hk0,hk1,hk2,hle,f21,f22,f23⟩:=hF
  have hd:d=[]:=hp.2.2.2.1
  cases h with
  |scal h1 h2 h3=>
   refine av.scal (jf hF0 hT0 h1 h2 h3) ?_ ?_
   all_goals
    subst hd
    rw[usual]
    split
    ·simp[V.kind]
    ·split
     ·simp[V.kind]
     ·split<;>simp[V.kind]<;>omega
  |list hb=>
   subst hd
   rw[aF (by omega) (by omega),aF (by omega) (by omega),av]
   refine .inr (.inl ⟨rfl,rfl,?_,rfl,rfl,eg hb (f21 rfl) hT.2.2⟩)
   simp only[V.kids]
   rw[ao,ao,hb.length]
  |map hb hq=>
   subst hd
   obtain⟨g1,g2,g3,g4⟩:=f22 rfl
   rw[aF (by omega) (by omega),aF (by omega) (by omega),av]
   refine .inr (.inr ⟨rfl,rfl,?_,rfl,rfl,eC hb g1 hT.2.2 g3 fun q hq'=>hq.mem_iff.2 hq'⟩)
   simp only[V.kids]
   rw[ao,ao]
   rename_i ps qs
   have e1:(qs.flatMap fun p:V×V=>[p.1,p.2]).length=2 * qs.length:=aK qs
   rw[e1,hq.length_eq]
   exact dj hb g2
  |arr=>
   subst hd
   obtain⟨g1,kk,g2,g3⟩:=f23 rfl
   have hn:n=0:=hp.2.2.2.2.2 (.inr (by simp only[V.kind];omega))
   have ht:t=[]:=hT.2.1 (by omega)
   subst hn ht
   have hall:∀x∈ks,plainOK x∧x.kind<21∧x.kids=[]:=fun x hx=>by
    obtain⟨a1,a2,a3⟩:=g3 x hx
    have hk:x.kind<21:=by rw[a1];unfold arrK at g2;omega
    exact⟨a2,hk,(hT.2.2.mem x hx).kids hk⟩
   refine av.scal ?_ ?_ ?_
   ·match ks,g1,hall with
    |[x],_,hall=>
     obtain⟨b1,b2,b3⟩:=hall x (by simp)
     rw[usual,usual]
     rcases Decidable.em (x.kind=20)with h20|h20
     ·rw[if_pos ⟨rfl,rfl,congrArg some h20⟩,if_pos ⟨rfl,rfl,congrArg some h20⟩]
      simp[same,sameL,same1,V.text]
     ·rw[if_neg (fun h=>h20 (Option.some.inj h.2.2)),if_neg (by omega),if_neg (by omega),if_neg (fun h=>h20 (Option.some.inj h.2.2)),if_neg (by omega),if_neg (by omega)]
      have:=cR hall
      simp only[same]
      rw[this]
      simp[usualL,same1]
    |x::y::r,_,hall=>
     rw[usual,usual,if_neg (by simp),if_neg (by omega),if_neg (by omega),if_neg (by simp),if_neg (by omega),if_neg (by omega)]
     have:=cR hall
     simp only[same]
     rw[this]
     simp[ao,same1]
   all_goals
    rw[usual]
    split
    ·simp[V.kind]
    ·split
     ·simp[V.kind]
     ·split<;>simp[V.kind]
theorem eg:∀ {ks ls:List V},bH ks ls→FineL ks→bm ks→b8 (usualL ks) (usualL ls)
 |[],ls,h,_,_=>by rw[usualL,b8];trivial
 |x::r,ls,h,hF,hT=>by
  cases h with
  |cons h1 h2=>
   rw[FineL]at hF
   rw[bm]at hT
   rw[usualL,usualL,b8]
   exact⟨_,_,rfl,bZ h1 hF.1 hT.1,eg h2 hF.2 hT.2⟩
theorem eC:∀ {ks:List V} {ps qs:List (V×V)},ew ks ps→FineL ks→bm ks→(∀x∈keysOf ks,keyK x.kind)→(∀q∈ps,q∈qs)→a7 (usualL ks) (usualL (qs.flatMap fun p=>[p.1,p.2]))
 |[],ps,qs,h,_,_,_,_=>by rw[usualL];exact fu _
 |[a],ps,qs,h,_,_,_,_=>by rw[usualL,usualL];exact jH _ _
 |k::v::r,ps,qs,h,hF,hT,hK,hq=>by
  cases h with
  |cons h1 h2 h3=>
   rename_i a b s
   rw[FineL,FineL]at hF
   rw[bm,bm]at hT
   have hkk:=hK k (by simp[keysOf])
   obtain⟨j,e1,e2⟩:=dS qs (a,b) (hq _ (by simp))
   rw[usualL,usualL,a7]
   refine⟨⟨j,usual a,usual b,by rw[cf,e1];rfl,by rw[cf,e2];rfl,?_,bZ h2 hF.2.1 hT.2.1⟩,eC h3 hF.2.2 hT.2.2 (fun x hx=>hK x (by simp[keysOf,hx])) fun q h=>hq q (by simp[h])⟩
   have hl:=bZ h1 hF.1 hT.1
   obtain⟨kk,kn,kt,kks,ko,kd⟩:=k
   unfold keyK at hkk
   simp only[V.kind]at hkk
   refine hl.same ?_ ?_
   all_goals
    rw[usual]
    split
    ·simp[V.kind]
    ·split
     ·simp[V.kind]
     ·split<;>simp[V.kind]<;>omega
theorem dj:∀ {ks:List V} {ps:List (V×V)},ew ks ps→ks.length%2=0→ks.length=2 * ps.length
 |[],_,h,_=>by cases h;rfl
 |[a],_,h,h0=>by simp at h0
 |k::v::r,_,h,h0=>by
  cases h with
  |cons h1 h2 h3=>
   have:=dj h3 (by simp at h0;omega)
   simp only[List.length_cons]
   omega
end
theorem eu{kk:Int}{R:V→V→Prop}:∀ {es:List cN} {ps qs:List (V×V)},aB R es ps→(∀q∈ps,q∈qs)→(∀e∈es,∀a,R e.1 a→same (usual e.1) (usual a)=true)→(∀e∈es,Fine e.2.1∧dV e.2.1)→a7 (usualL (es.flatMap de)) (usualL (qs.flatMap fun p=>[p.1,p.2]))
 |[],ps,qs,_,_,_,_=>by rw[List.flatMap_nil,usualL];exact fu _
 |e::es,ps,qs,h,hq,hR,hF=>by
  cases h with
  |cons h1 h2 h3=>
   rename_i k v c a b s
   obtain⟨j,e1,e2⟩:=dS qs (a,b) (hq _ (by simp))
   have hx:=hF _ (List.mem_cons_self ..)
   show a7 (usualL (k::v::es.flatMap de)) _
   rw[usualL,usualL,a7]
   exact⟨⟨j,usual a,usual b,by rw[cf,e1];rfl,by rw[cf,e2];rfl,hR _ (List.mem_cons_self ..) a h1,bZ h2 hx.1 hx.2⟩,eu (kk:=kk) h3 (fun q h=>hq q (by simp[h])) (fun e he=>hR e (by simp[he])) fun e he=>hF e (by simp[he])⟩
theorem FineL.mem:∀ {l:List V},FineL l→∀x∈l,Fine x
 |[],_,x,hx=>by cases hx
 |a::r,h,x,hx=>by
  rw[FineL]at h
  rcases List.mem_cons.1 hx with rfl|hx
  ·exact h.1
  ·exact FineL.mem h.2 x hx
theorem iH{kk:Int}{l ys:List V}(h:dw kk l ys)(hA:b7 l)(hT:bm l)(hk:∀x∈keysOf l,x.kind=kk)(hkk:kk=19∨kk=20):av (usual (bk l)) (usual (bk ys)):=by
 obtain⟨es,rfl,ps,qs,hS,hq,rfl⟩:=h
 obtain⟨⟨hF,hM,_⟩,_,_⟩:=hA
 unfold bk
 rw[aF (by omega) (by omega),aF (by omega) (by omega),av]
 refine .inr (.inr ⟨rfl,rfl,?_,rfl,rfl,?_⟩)
 ·simp only[V.kids]
  rw[ao,ao,bI,aK,hq.length_eq,hS.length]
 ·refine eu (kk:=kk) hS (fun q h=>hq.mem_iff.2 h) (fun e he a ha=>?_) fun e he=>⟨hF.mem _ (aO he).1,hT.mem _ (aO he).1⟩
  have hm:=(aO he).2
  have hke:=hk _ hm
  have hpl:=(hM.2.1 _ hm).2
  have hfe:=hF.mem _ (dc hm)
  have hte:=hT.mem _ (dc hm)
  subst ha
  obtain⟨⟨k,n,t,ks,o,d⟩,v,c⟩:=e
  simp only[V.kind,V.text]at hke⊢
  subst hke
  have hks:=hte.kids (by simp only[V.kind];omega)
  simp only[V.kids]at hks
  have hd:d=[]:=hpl.2.2.2.1
  have hn:n=0:=hpl.2.2.2.2.2 (.inr (by simp only[V.kind];omega))
  subst hks hd hn
  rcases hkk with rfl|rfl
  ·rw[a8 _ _ _ _ (by omega) (by omega),a8 _ _ _ _ (by omega) (by omega)]
   simp[same,sameL,same1]
  ·rw[bu,bu];exact same_refl _
theorem Hd.len{c8 c32 c:UInt8}{hd:List UInt8}{n:Nat}{t:List UInt8}(h:Hd c8 c32 c hd n t):hd.length≤8:=by
 rcases h with⟨s,k,_,rfl,_⟩|⟨a,b,d,e,f,g,h,i,_,rfl,_⟩<;>simp
theorem lQ{k:Int}{c:UInt8}{s:Nat}(h:numC k=some (c,s)):s≤8:=by
 rcases cn h with h|h|h|h|h|h|h|h|h|h|h<;>omega
theorem Pc.vol1{x:V}{c:UInt8}{b:List UInt8}(h:Pc x c b)(hk:∀body,EncL x.kids body→body.length≤au x.kids)(he:∀c' body,Elems c' x.kids body→body.length≤au x.kids):b.length+24+au x.desc≤bv x:=by
 cases h with
 |num hc=>have:=lQ hc;simp only[V.desc];rw[bv,bigB_length];omega
 |list hE hh=>
  have h1:=hk _ hE
  have h2:=hh.len
  simp only[V.kids]at h1
  simp only[V.desc];rw[bv,List.length_append];omega
 |map hE hh=>
  have h1:=hk _ hE
  have h2:=hh.len
  simp only[V.kids]at h1
  simp only[V.desc];rw[bv,List.length_append];omega
 |arr _ hE hh=>
  have h1:=he _ _ hE
  have h2:=hh.len
  simp only[V.kids]at h1
  simp only[V.desc];rw[bv,List.length_append,List.length_cons];omega
 |_=>simp only[V.desc];rw[bv];simp[txt,bigB_length]<;>omega
mutual
theorem Enc.vol:∀ {x:V} {bs:List UInt8},Enc x bs→bs.length≤bv x
 | .mk k n t ks o d,bs,h=>by
  have hk:∀body,EncL ks body→body.length≤au ks:=fun body h=>EncL.vol h
  have he:∀c' body,Elems c' ks body→body.length≤au ks:=fun c' body h=>Elems.vol h
  have hdv:∀body,EncL d body→body.length≤au d:=fun body h=>EncL.vol h
  cases h with
  |plain hd hp=>
   have:=hp.vol1 hk he
   rw[List.length_cons];omega
  |desc hd hy hp=>
   have h1:=hp.vol1 hk he
   have h2:=hdv _ (by rw[show d=_ from hd];exact .cons hy .nil)
   simp only[V.desc]at h1
   simp only[List.length_cons,List.length_append,List.length_nil]at h2⊢
   omega
theorem EncL.vol:∀ {l:List V} {bs:List UInt8},EncL l bs→bs.length≤au l
 |[],bs,h=>by cases h;simp
 |x::r,bs,h=>by
  cases h with
  |cons h1 h2=>
   have:=Enc.vol h1
   have:=EncL.vol h2
   rw[List.length_append,au];omega
theorem Elems.vol:∀ {l:List V} {c:UInt8} {bs:List UInt8},Elems c l bs→bs.length≤au l
 |[],c,bs,h=>by cases h;simp
 | .mk k n t ks o d::r,c,bs,h=>by
  have hk:∀body,EncL ks body→body.length≤au ks:=fun body h=>EncL.vol h
  have he:∀c' body,Elems c' ks body→body.length≤au ks:=fun c' body h=>Elems.vol h
  cases h with
  |cons h1 h2=>
   have:=h1.vol1 hk he
   have:=Elems.vol h2
   rw[List.length_append,au];omega
end
mutual
def Wt:V→Prop
 | .mk k n t ks _ d=>0≤k∧k≤23∧(k<12∨16≤k)∧NumOK k n∧ks.length≤1000∧(d=[]∨∃c,c<18446744073709551616∧d=[uV c])∧(k=21∨k=22→fG ks)∧(k=23→ks≠[]∧∃kk,arrK kk∧∀x∈ks,x.kind=kk∧plainOK x)
def fG:List V→Prop
 |[]=>True
 |x::r=>Wt x∧fG r
end
theorem fG.mem:∀ {l:List V},fG l→∀x∈l,Wt x
 |[],_,x,hx=>by cases hx
 |a::r,h,x,hx=>by
  rw[fG]at h
  rcases List.mem_cons.1 hx with rfl|hx
  ·exact h.1
  ·exact fG.mem h.2 x hx
theorem fG.of:∀ {l:List V},(∀x∈l,Wt x)→fG l
 |[],_=>by rw[fG];trivial
 |a::r,h=>by rw[fG];exact⟨h a (by simp),fG.of fun x hx=>h x (by simp[hx])⟩
mutual
theorem Fine.wt:∀ {x:V},Fine x→Wt x
 | .mk k n t ks o d,h=>by
  rw[Fine]at h;rw[Wt]
  obtain⟨h1,h2,h3,h4,h5,h6,h7,h8⟩:=h
  refine⟨h2,h3,h4,h1.1,h5,.inl h1.2.2.2.1,fun hk=>?_,fun hk=>?_⟩
  ·rcases hk with hk|hk
   ·exact FineL.wt (h6 hk)
   ·exact FineL.wt (h7 hk).1
  ·obtain⟨g1,kk,g2,g3⟩:=h8 hk
   exact⟨g1,kk,g2,fun x hx=>⟨(g3 x hx).1,(g3 x hx).2.1⟩⟩
theorem FineL.wt:∀ {l:List V},FineL l→fG l
 |[],_=>by rw[fG];trivial
 |x::r,h=>by rw[FineL]at h;rw[fG];exact⟨Fine.wt h.1,FineL.wt h.2⟩
end
theorem dJ{k:Int}{n:Nat}(h1:k=1→n≤1)(h2:k=4→n<4294967296)(h3:k=2→n<256)(h5:n<18446744073709551616)(hk:k=0∨k=1∨k=2∨k=4∨k=5∨17≤k):NumOK k n:=by
 refine⟨h1,h3,?_,h2,?_,?_,?_,?_,h5⟩<;>(intro h;omega)
theorem gM{k:Int}{n:Nat}{t:List UInt8}(hk:k=0∨k=1∨k=2∨k=4∨k=5∨17≤k∧k≤20)(h1:k=1→n≤1)(h2:k=4→n<4294967296)(h3:k=2→n<256)(h5:n<18446744073709551616):Wt (pv k n t):=by
 rw[pv,Wt]
 exact⟨by omega,by omega,by omega,dJ h1 h2 h3 h5 (by omega),by simp,.inl rfl,fun h=>by omega,fun h=>by omega⟩
theorem eQ:Wt ap:=gM (.inl rfl) (by omega) (by omega) (by omega) (by omega)
def tV(k:Int)(s:List UInt8):V:=if s=[]then ap else pv k 0 s
def mV(l:List V):V:=if l=[]then ap else bk l
def bf(l:List (List UInt8)):V:=if l=[]then ap else .mk 23 0 [] (l.map fun s=>pv 20 0 s) 0 []
def bt(v d y:V):Prop:=y=v∨(y=ap∧(v=ap∨(d.kind≠0∧same v d=true)))∨(v.kind=23∧∃s,v.kids=[s]∧s.kind=20∧y=s)
theorem bd:cI ap:=⟨rfl,rfl⟩
theorem md{k:Int}{s:List UInt8}{y:V}(hk:k≠23)(h:bt (tV k s) ap y):pe k y s:=by
 unfold tV at h
 rcases h with h|⟨rfl,h|⟨h,_⟩⟩|⟨h,_⟩
 ·subst h
  split
  ·exact .inl ⟨bd,by assumption⟩
  ·exact .inr ⟨rfl,rfl,rfl⟩
 ·split at h
  ·exact .inl ⟨bd,by assumption⟩
  ·have h2:=congrArg V.text h
   exact .inl ⟨bd,h2⟩
 ·exact absurd rfl h
 ·split at h
  ·exact absurd h (by decide)
  ·exact absurd h hk
theorem mW{l:List V}{y:V}(hA:gp l)(h:bt (mV l) ap y):pM y l:=by
 unfold mV at h
 rcases h with h|⟨rfl,h|⟨h,_⟩⟩|⟨h,_⟩
 ·subst h
  split
  ·exact .inl ⟨bd,by assumption⟩
  ·exact .inr ⟨rfl,rfl,rfl,hA⟩
 ·split at h
  ·exact .inl ⟨bd,by assumption⟩
  ·have h2:=congrArg V.kind h
   exact absurd h2 (by show¬(22:Int)=0;decide)
 ·exact absurd rfl h
 ·split at h
  ·exact absurd h (by decide)
  ·exact absurd h (by show(22:Int)≠23;decide)
abbrev se:=List UInt8×List UInt8×List V
theorem ag.openV{A:Nat→Prop}{w:World}{k:Int}{n:Nat}{t:List UInt8}{ks:List V}{o:Int}{d:List V}{cs:List Value}(h:ag A w (.mk k n t ks o d) cs):
  ∃pk ck pd cd,cs=[.int .i64 k,.int .u64 (n:Int),str t,.slice pk ks.length ck,.int .i64 o,.slice pd d.length cd]∧ks.length≤ck∧d.length≤cd∧aD A w ks.length (.slice pk ks.length ck) (aa A w ks)∧aD A w d.length (.slice pd d.length cd) (aa A w d):=by
 rw[ag]at h
 obtain⟨sk,sd,rfl,h1,h2⟩:=h
 have h1':=h1
 have h2':=h2
 obtain⟨p,c,cells,rfl,hc,_⟩:=h1
 obtain⟨p',c',cells',rfl,hc',_⟩:=h2
 exact⟨_,_,_,_,rfl,hc,hc',h1',h2'⟩
theorem aD.kid{A:Nat→Prop}{w:World}{p:Option Addr}{c i:Nat}{l:List V}(h:aD A w l.length (.slice p l.length c) (aa A w l))(hi:i<l.length):
  ∃b o c',p=some ⟨b,o,none⟩∧A b∧At w b (o+i * 6) c'∧c'.length=6∧ag A w (aq l i) c':=by
 obtain⟨p',c0,cells,e,_,hL,hat⟩:=h
 injection e with e1 _ _
 subst e1
 rcases hat with h0|⟨b,o,rfl,hA,hat⟩
 ·omega
 ·obtain⟨pre,c',post,rfl,hpre,hr⟩:=aa.get hi hL
  rw[az hi]at hr
  exact⟨b,o,c',rfl,hA,hpre▸At.mid hat,hr.len,hr⟩
theorem aD.kidP{A:Nat→Prop}{w:World}{b o c i:Nat}{l:List V}(h:aD A w l.length (.slice (some ⟨b,o,none⟩) l.length c) (aa A w l))(hi:i<l.length):
  ∃c',A b∧At w b (o+i * 6) c'∧c'.length=6∧ag A w (aq l i) c':=by
 obtain⟨b',o',c',e,h1,h2,h3,h4⟩:=h.kid hi
 injection e with e
 injection e with e1 e2
 subst e1 e2
 exact⟨c',h1,h2,h3,h4⟩
theorem aD.any{A:Nat→Prop}{w:World}{n:Nat}{v:Value}{l:List V}(h:aD A w n v (aa A w l)):aD (fun _=>True) w n v (aa (fun _=>True) w l):=h.low fun _ _=>trivial
theorem ag.any{A:Nat→Prop}{w:World}{x:V}{cs:List Value}(h:ag A w x cs):ag (fun _=>True) w x cs:=h.weaken fun _ _=>trivial
theorem iF:∀ {l l':List V},l.length=l'.length→(∀j,j<l.length→same (aq l j) (aq l' j)=true)→sameL l l'=true
 |[],[],_,_=>rfl
 |a::r,b::s,h,hj=>by
  have h0:=hj 0 (by simp)
  rw[sameL,show same a b=true from h0,iF (by simpa using h) fun j h=>hj (j+1) (by simpa using h)]
  rfl
 |[],_::_,h,_=>by cases h
 |_::_,[],h,_=>by cases h
theorem fL:∀ {l l':List V} {j:Nat},j<l.length→l.length=l'.length→same (aq l j) (aq l' j)=false→sameL l l'=false
 |a::r,b::s,0,_,_,h=>by
  rw[sameL,show same a b=false from h];rfl
 |a::r,b::s,j+1,hj,hl,h=>by
  rw[sameL,fL (j:=j) (by simpa using hj) (by simpa using hl) h,Bool.and_false]
 |[],_,j,hj,_,_=>by simp at hj
 |_::_,[],_,_,h,_=>by cases h
theorem bV{l:List V}{x:V}(h:x∈l):∃j,j<l.length∧aq l j=x:=by
 obtain⟨j,hj,rfl⟩:=List.getElem_of_mem h
 exact⟨j,hj,(az hj).symm⟩
theorem eJ{A:Nat→Prop}{w:World}(k:Int)(n:Nat)(t:List UInt8):ag A w (pv k n t) (vc k n t):=ag.plain k n t
theorem cU{A:Nat→Prop}{w:World}:ag A w ap (vc 0 0 []):=ag.plain 0 0 []
theorem ag.mkK{A:Nat→Prop}{w:World}{k:Int}{ks:List V}{sk:Value}(h:aD A w ks.length sk (aa A w ks)):ag A w (.mk k 0 [] ks 0 []) [.int .i64 k,.int .u64 0,str [],sk,.int .i64 0,.slice none 0 0]:=by
 rw[ag];exact⟨_,_,rfl,h,aD.nil⟩
end Go.Proofs.LL
