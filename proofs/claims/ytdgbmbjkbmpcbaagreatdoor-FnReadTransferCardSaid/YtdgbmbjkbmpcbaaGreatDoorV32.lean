/- Contracts of functions and own laws. Conditions: those that each theorem states. -/
import Derived.Test.YtdgbmbjkbmpcbaaGreatDoorV31
set_option linter.all false
set_option autoImplicit true
set_option relaxedAutoImplicit true
set_option maxRecDepth 20000
namespace Go.Proofs.LL
open Go Go.Proofs Go.RowKit
def si(t:List UInt8):Prop:=∀b∈t,b.toNat<128
theorem sj(h:si t):Lib.validD t=true:=by
 rw[Lib.validD_ascii t.length t (by rw[List.take_length];exact h),List.drop_length]
 exact Lib.validD_nil
def CF(k:Int)(n:Nat)(t:List UInt8)(ks:List V):Prop:=
 de k n∧(k=14∨k=17→t.length=16)∧(k=19→Lib.validD t=true)∧(k=20→si t)∧(k=22→ks.length%2=0)∧(k=23→∀x∈ks,x.kind=(bA ks 0).kind∧x.desc.length=(bA ks 0).desc.length)
mutual
def VF:V→Prop
 | .mk k n t ks _ d=>0≤k∧k≤23∧(k<21→ks=[])∧(k<17∧k≠14∨21≤k→t=[])∧(k=0∨17≤k→n=0)∧d.length≤1∧ks.length≤1000∧t.length≤131072∧CF k n t ks∧iT ks∧iT d
def iT:List V→Prop
 |[]=>True
 |x::r=>VF x∧iT r
end
theorem iT.mem:∀ {l:List V},iT l→∀x∈l,VF x
 |[],_,x,hx=>by cases hx
 |a::r,h,x,hx=>by
  rw[iT]at h
  rcases List.mem_cons.1 hx with rfl|hx
  ·exact h.1
  ·exact iT.mem h.2 x hx
theorem iT.of:∀ {l:List V},(∀x∈l,VF x)→iT l
 |[],_=>by rw[iT];trivial
 |a::r,h=>by rw[iT];exact⟨h a (by simp),iT.of fun x hx=>h x (by simp[hx])⟩
mutual
def cX:V→V
 | .mk k n t ks o d=> .mk (mP k) n t (if k=23 then ks else kO ks) o d
def kO:List V→List V
 |[]=>[]
 |x::r=>cX x::kO r
end
mutual
def SY:V→Prop
 | .mk k _ _ ks _ d=>d=[]∧¬(12≤k∧k≤15)∧(k=23→ks≠[]∧dp (bA ks 0).kind∧(bA ks 0).desc=[]∧∀x∈ks,18≤x.kind∧x.kind≤20→x.text≠[])∧(k≠23→vL ks)∧
  (k=22→∀i,2 * i<ks.length→dV (bA ks (2 * i)).kind∧∀j,j<i→same (cX (bA ks (2 * j))) (cX (bA ks (2 * i)))=false)
def vL:List V→Prop
 |[]=>True
 |x::r=>SY x∧vL r
end
theorem vL.mem:∀ {l:List V},vL l→∀x∈l,SY x
 |[],_,x,hx=>by cases hx
 |a::r,h,x,hx=>by
  rw[vL]at h
  rcases List.mem_cons.1 hx with rfl|hx
  ·exact h.1
  ·exact vL.mem h.2 x hx
theorem vL.of:∀ {l:List V},(∀x∈l,SY x)→vL l
 |[],_=>by rw[vL];trivial
 |a::r,h=>by rw[vL];exact⟨h a (by simp),vL.of fun x hx=>h x (by simp[hx])⟩
mutual
def lC:V→Prop
 | .mk k _ t ks _ _=>(k<21→ks=[])∧(21≤k→t=[])∧fe ks
def fe:List V→Prop
 |[]=>True
 |x::r=>lC x∧fe r
end
mutual
theorem VF.trim:∀ {x:V},VF x→lC x
 | .mk k n t ks o d,h=>by
  rw[VF]at h;rw[lC]
  exact⟨h.2.2.1,fun hk=>h.2.2.2.1 (.inr hk),iT.trim h.2.2.2.2.2.2.2.2.2.1⟩
theorem iT.trim:∀ {l:List V},iT l→fe l
 |[],_=>by rw[fe];trivial
 |x::r,h=>by rw[iT]at h;rw[fe];exact⟨VF.trim h.1,iT.trim h.2⟩
end
mutual
theorem VF.told:∀ {x:V},VF x→ng x
 | .mk k n t ks o d,h=>by
  rw[VF]at h;rw[ng]
  obtain⟨_,_,_,_,_,_,_,_,⟨_,_,h1,h2,_⟩,h3,_⟩:=h
  exact⟨fun hk=>hk.elim h1 fun hk=>sj (h2 hk),iT.told h3⟩
theorem iT.told:∀ {l:List V},iT l→gm l
 |[],_=>by rw[gm];trivial
 |x::r,h=>by rw[iT]at h;rw[gm];exact⟨VF.told h.1,iT.told h.2⟩
end
theorem VF.num(h:VF x):de x.kind x.num:=by
 obtain⟨k,n,t,ks,o,d⟩:=x
 rw[VF]at h
 exact h.2.2.2.2.2.2.2.2.1.1
theorem VF.plain(h:VF x)(hd:x.desc=[])(h14:x.kind≠14):bI x:=by
 obtain⟨k,n,t,ks,o,d⟩:=x
 rw[VF]at h
 obtain⟨h1,h2,h3,h4,h5,h6,h7,h8,⟨c1,c2,_⟩,_,_⟩:=h
 simp only[V.kind,V.desc]at hd h14
 exact⟨c1,h8,fun hk=>c2 (.inr hk),hd,fun hk=>h4 (.inl ⟨hk,h14⟩),fun hk=>h5 hk⟩
theorem VF.kidsNil(h:VF x)(hk:x.kind<21):x.kids=[]:=by
 obtain⟨k,n,t,ks,o,d⟩:=x
 rw[VF]at h
 exact h.2.2.1 hk
theorem SY.desc(h:SY x):x.desc=[]:=by
 obtain⟨k,n,t,ks,o,d⟩:=x
 rw[SY]at h
 exact h.1
theorem bf{ks:List V}(h:j<ks.length):bA ks j∈ks:=by rw[← bW h];exact List.getElem_mem h
theorem ut(ha:VF a)(hb:VF b)(sa:SY a)(sb:SY b)(ka:dV a.kind)(kb:dV b.kind)(h:same (cX a) (cX b)=false):eU a≠eU b:=by
 intro e
 have na:=ha.kidsNil (by unfold dV at ka;omega)
 have nb:=hb.kidsNil (by unfold dV at kb;omega)
 have da:=sa.desc
 have db:=sb.desc
 obtain⟨k,n,t,ks,o,d⟩:=a
 obtain⟨k',n',t',ks',o',d'⟩:=b
 simp only[V.kids,V.desc]at na nb da db
 subst na nb da db
 simp only[eU,V.kind,V.num,V.text,Prod.mk.injEq]at e
 have e1:mP k=mP k':=e.1
 have e2:=e.2.1
 have e3:=e.2.2
 subst e2 e3
 have h0:same (cX (.mk k n t [] o [])) (cX (.mk k' n t [] o' []))=true:=by
  simp only[cX,kO,same,e1]
  simp[show fc [] []=true from rfl,show gr [] []=true from rfl]
 rw[h0]at h;cases h
theorem uu{ks:List V}(h0:ks.length%2=0)(hv:∀x∈ks,VF x)(hs:∀x∈ks,SY x)(h:∀i,2 * i<ks.length→dV (bA ks (2 * i)).kind∧∀j,j<i→same (cX (bA ks (2 * j))) (cX (bA ks (2 * i)))=false):
  (∀x∈aP ks,dV x.kind)∧((aP ks).map eU).Nodup:=by
 have hget:∀i (hi:i<(aP ks).length),2 * i+1<ks.length∧(aP ks)[i]=bA ks (2 * i):=by
  intro i hi
  have hl:2 * i+1<ks.length:=by
   rcases Nat.lt_or_ge (2 * i+1) ks.length with h1|h1
   ·exact h1
   ·exfalso
    have h2:(aP (ks.take (2 * i)))=(aP ks).take i:=eK i ks
    rw[List.take_of_length_le (by omega)]at h2
    have h3:=congrArg List.length h2
    rw[List.length_take]at h3
    omega
  have h1:=dD i ks hl
  rw[List.getElem?_eq_getElem hi]at h1
  exact⟨hl,by rw[Option.some.inj h1,← bW (by omega)]⟩
 refine⟨fun x hx=>?_,?_⟩
 ·obtain⟨i,hi,rfl⟩:=List.getElem_of_mem hx
  rw[(hget i hi).2]
  exact(h i (by have:=(hget i hi).1;omega)).1
 ·refine List.pairwise_iff_getElem.2 fun i j hi hj hij=>?_
  rw[List.length_map]at hi hj
  rw[List.getElem_map,List.getElem_map,(hget i hi).2,(hget j hj).2]
  have li:=(hget i hi).1
  have lj:=(hget j hj).1
  have m1:=bf (ks:=ks) (j:=2 * i) (by omega)
  have m2:=bf (ks:=ks) (j:=2 * j) (by omega)
  exact ut (hv _ m1) (hv _ m2) (hs _ m1) (hs _ m2) (h i (by omega)).1 (h j (by omega)).1 ((h j (by omega)).2 i hij)
mutual
theorem VF.fine:∀ {x:V},VF x→SY x→fh x
 | .mk k n t ks o d,h,hs=>by
  have hv:=h
  have hsy:=hs
  rw[VF]at h
  rw[SY]at hs
  obtain⟨h1,h2,h3,h4,h5,h6,h7,h8,hc,hks,_⟩:=h
  obtain⟨s1,s2,s3,s4,s5⟩:=hs
  obtain⟨c1,c2,c3,c4,c5,c6⟩:=hc
  rw[fh]
  refine⟨hv.plain s1 (by simp only[V.kind];omega),h1,h2,by omega,h7,fun hk=>iT.fine hks (s4 (by omega)),fun hk=>?_,fun hk=>?_⟩
  ·have hsl:=s4 (by omega)
   obtain⟨g1,g2⟩:=uu (c5 hk) hks.mem hsl.mem (s5 hk)
   exact⟨iT.fine hks hsl,c5 hk,g1,g2⟩
  ·obtain⟨g1,g2,g3,g4⟩:=s3 hk
   refine⟨g1,_,g2,fun x hx=>?_⟩
   obtain⟨f1,f2⟩:=c6 hk x hx
   rw[g3]at f2
   refine⟨f1,(hks.mem x hx).plain (List.eq_nil_of_length_eq_zero f2) (by rw[f1];unfold dp at g2;omega),fun hk=>g4 x hx ?_⟩
   rw[f1];unfold dp at g2;omega
theorem iT.fine:∀ {l:List V},iT l→vL l→cG l
 |[],_,_=>by rw[cG];trivial
 |x::r,h,hs=>by
  rw[iT]at h;rw[vL]at hs;rw[cG]
  exact⟨VF.fine h.1 hs.1,iT.fine h.2 hs.2⟩
end
def dP(l:List V):V:= .mk 22 0 [] l 0 []
theorem Be:fH []:=by
 refine⟨⟨by rw[cG];trivial,⟨rfl,by simp[aP],by simp[aP]⟩,by simp[aP]⟩,by rw[gm];trivial,by simp⟩
theorem Dn(h:VF (dP l))(hs:SY (dP l))(hk:∀x∈aP l,x.kind=19∨x.kind=20):fH l:=by
 have hf:=VF.fine h hs
 have ht:=h.told
 have hm:=hf.mapOK
 unfold dP at hf ht
 rw[fh]at hf
 rw[ng]at ht
 exact⟨⟨(hf.2.2.2.2.2.2.1 rfl).1,hm,hk⟩,ht.2,hf.2.2.2.2.1⟩
mutual
def aE:V→Nat
 | .mk _ _ _ ks _ d=>1+aj ks+aj d
def aj:List V→Nat
 |[]=>0
 |x::r=>aE x+aj r
end
mutual
def vol:V→Nat
 | .mk _ _ t ks _ d=>64+t.length+bF ks+bF d
def bF:List V→Nat
 |[]=>0
 |x::r=>vol x+bF r
end
mutual
theorem VF.vol:∀ {x:V},VF x→vol x≤aE x * 131136
 | .mk k n t ks o d,h=>by
  rw[VF]at h
  have h1:=iT.vol h.2.2.2.2.2.2.2.2.2.1
  have h2:=iT.vol h.2.2.2.2.2.2.2.2.2.2
  have h3:=h.2.2.2.2.2.2.2.1
  rw[LL.vol,aE]
  omega
theorem iT.vol:∀ {l:List V},iT l→bF l≤aj l * 131136
 |[],_=>by rw[bF,aj];omega
 |x::r,h=>by
  rw[iT]at h
  have h1:=VF.vol h.1
  have h2:=iT.vol h.2
  rw[bF,aj]
  omega
end
theorem kC(x:V):1≤aE x:=by obtain⟨k,n,t,ks,o,d⟩:=x;rw[aE];omega
theorem av:∀l:List V,l.length≤aj l
 |[]=>by simp
 |x::r=>by have:=kC x;have:=av r;rw[aj,List.length_cons];omega
theorem bo:∀ {l:List V} {x:V},x∈l→aE x≤aj l
 |[],x,h=>by cases h
 |a::r,x,h=>by
  rw[aj]
  rcases List.mem_cons.1 h with rfl|h
  ·omega
  ·have:=bo h;omega
theorem cI:∀(a b:List V),aj (a++b)=aj a+aj b
 |[],b=>by simp[aj]
 |x::r,b=>by rw[List.cons_append,aj,aj,cI r b];omega
theorem wF(x:V):64≤vol x:=by obtain⟨k,n,t,ks,o,d⟩:=x;rw[vol];omega
theorem jx:∀l:List V,l.length * 64≤bF l
 |[]=>by simp
 |x::r=>by have:=wF x;have:=jx r;rw[bF,List.length_cons];omega
theorem tF:∀ {l:List V} {x:V},x∈l→vol x≤bF l
 |[],x,h=>by cases h
 |a::r,x,h=>by
  rw[bF]
  rcases List.mem_cons.1 h with rfl|h
  ·omega
  ·have:=tF h;omega
theorem og:∀(a b:List V),bF (a++b)=bF a+bF b
 |[],b=>by simp[bF]
 |x::r,b=>by rw[List.cons_append,bF,bF,og r b];omega
mutual
def bG:V→V→Prop
 | .mk k n t ks o d,y=>(k≠21∧k≠22∧same (.mk k n t ks o d) y=true)∨(k=21∧y.kind=21∧ks.length=y.kids.length∧d=[]∧y.desc=[]∧ib ks y.kids)∨(k=22∧y.kind=22∧ks.length=y.kids.length∧d=[]∧y.desc=[]∧eD ks y.kids)
def ib:List V→List V→Prop
 |a::r,l=>∃b s,l=b::s∧bG a b∧ib r s
 |[],_=>True
def eD:List V→List V→Prop
 |k::v::r,l=>(∃j a b,l[2 * j]?=some a∧l[2 * j+1]?=some b∧same k a=true∧bG v b)∧eD r l
 |_,_=>True
end
theorem nP(l:List V):eD [] l:=by unfold eD;trivial
theorem uy(a:V)(l:List V):eD [a] l:=by unfold eD;trivial
theorem bG.scal(h:same x y=true)(h1:x.kind≠21)(h2:x.kind≠22):bG x y:=by
 obtain⟨k,n,t,ks,o,d⟩:=x
 rw[bG]
 exact .inl ⟨h1,h2,h⟩
theorem bG.same(h:bG x y)(h1:x.kind≠21)(h2:x.kind≠22):same x y=true:=by
 obtain⟨k,n,t,ks,o,d⟩:=x
 rw[bG]at h
 rcases h with h|h|h
 ·exact h.2.2
 ·exact absurd h.1 h1
 ·exact absurd h.1 h2
theorem lU:∀(qs:List (V×V)) (q:V×V),q∈qs→∃j,(qs.flatMap fun p=>[p.1,p.2])[2 * j]?=some q.1∧(qs.flatMap fun p=>[p.1,p.2])[2 * j+1]?=some q.2
 |[],q,h=>by cases h
 |p::r,q,h=>by
  rcases List.mem_cons.1 h with rfl|h
  ·exact⟨0,rfl,rfl⟩
  ·obtain⟨j,h1,h2⟩:=lU r q h
   exact⟨j+1,h1,h2⟩
theorem ec(k:Int)(n:Nat)(t:List UInt8)(o:Int)(h20:k≠20)(h23:k≠23):bq (.mk k n t [] o [])= .mk k n t [] o []:=by
 rw[bq,if_neg (by omega),if_neg h20,if_neg (by simp),aM]
theorem fq(n:Nat)(t:List UInt8)(o:Int):bq (.mk 20 n t [] o [])= .mk 19 0 t [] 0 []:=by
 rw[bq,if_neg (by omega),if_pos rfl,aM]
theorem vq(hp:bI x)(hk:x.kind<21)(hn:x.kids=[]):same (bq x) (bq (pv x.kind x.num x.text))=true:=by
 obtain⟨k,n,t,ks,o,d⟩:=x
 simp only[V.kind,V.kids,V.num,V.text]at hk hn⊢
 have hd:d=[]:=hp.2.2.2.1
 subst hn hd
 rcases Decidable.em (k=20)with h20|h20
 ·subst h20
  rw[fq,fq];exact fp _
 ·rw[ec _ _ _ _ h20 (by omega),ec _ _ _ _ h20 (by omega)]
  simp[same,fc,gr]
theorem js:∀ {ks:List V},(∀x∈ks,bI x∧x.kind<21∧x.kids=[])→fc (aM ks) (aM (ks.map fun x=>pv x.kind x.num x.text))=true
 |[],_=>rfl
 |x::r,h=>by
  obtain⟨h1,h2,h3⟩:=h x (by simp)
  rw[List.map_cons,aM,aM,fc,vq h1 h2 h3,js fun y hy=>h y (by simp[hy])]
  rfl
theorem fe.mem:∀ {l:List V},fe l→∀x∈l,lC x
 |[],_,x,hx=>by cases hx
 |a::r,h,x,hx=>by
  rw[fe]at h
  rcases List.mem_cons.1 hx with rfl|hx
  ·exact h.1
  ·exact fe.mem h.2 x hx
theorem lC.kids(h:lC x)(hk:x.kind<21):x.kids=[]:=by
 obtain⟨k,n,t,ks,o,d⟩:=x
 rw[lC]at h
 exact h.1 hk
theorem aZ(l:List V):(aM l).length=l.length:=by rw[jR,List.length_map]
theorem iF(l:List V)(i:Nat):(aM l)[i]?=(l[i]?).map bq:=by rw[jR,List.getElem?_map]
theorem uG{k:Int}{o:Int}(hF:fh (.mk k n t ks o d))(hT:lC (.mk k n t ks o d))(h1:k≠21)(h2:k≠22)(h3:k≠23):same (bq (.mk k n t ks o d)) (bq (pv (mP k) n t))=true:=by
 rw[fh]at hF
 rw[lC]at hT
 obtain⟨hp,hk0,hk1,_⟩:=hF
 have hks:=hT.1 (by omega)
 have hd:d=[]:=hp.2.2.2.1
 subst hks hd
 rcases Decidable.em (k=20)with h20|h20
 ·subst h20
  have hn:n=0:=hp.2.2.2.2.2 (.inr (by simp only[V.kind];omega))
  subst hn
  have e:mP 20=19:=rfl
  rw[fq,e,ec _ _ _ _ (by omega) (by omega)]
  exact fp _
 ·have e:mP k=k:=if_neg h20
  rw[e,ec _ _ _ _ h20 h3,ec _ _ _ _ h20 h3]
  simp[same,fc,gr]
theorem bM{k:Int}{o:Int}(h20:k≠20)(h23:k≠23):bq (.mk k n t ks o [])= .mk k n t (aM ks) o []:=by
 rw[bq,if_neg (by omega),if_neg h20,if_neg (by simp)]
mutual
theorem iv:∀ {x y:V},iV x y→fh x→lC x→bG (bq x) (bq y)
 | .mk k n t ks o d,y,h,hF,hT=>by
  have hF0:=hF
  have hT0:=hT
  rw[fh]at hF
  rw[lC]at hT
  obtain⟨hp,hk0,hk1,hk2,hle,f21,f22,f23⟩:=hF
  have hd:d=[]:=hp.2.2.2.1
  cases h with
  |scal h1 h2 h3=>
   refine bG.scal (uG hF0 hT0 h1 h2 h3) ?_ ?_
   all_goals
    subst hd
    rw[bq]
    split
    ·simp[V.kind]
    ·split
     ·simp[V.kind]
     ·split<;>simp[V.kind]<;>omega
  |list hb=>
   subst hd
   rw[bM (by omega) (by omega),bM (by omega) (by omega),bG]
   refine .inr (.inl ⟨rfl,rfl,?_,rfl,rfl,mr hb (f21 rfl) hT.2.2⟩)
   simp only[V.kids]
   rw[aZ,aZ,hb.length]
  |map hb hq=>
   subst hd
   obtain⟨g1,g2,g3,g4⟩:=f22 rfl
   rw[bM (by omega) (by omega),bM (by omega) (by omega),bG]
   refine .inr (.inr ⟨rfl,rfl,?_,rfl,rfl,mt hb g1 hT.2.2 g3 fun q hq'=>hq.mem_iff.2 hq'⟩)
   simp only[V.kids]
   rw[aZ,aZ]
   rename_i ps qs
   have e1:(qs.flatMap fun p:V×V=>[p.1,p.2]).length=2 * qs.length:=dE qs
   rw[e1,hq.length_eq]
   exact kP hb g2
  |arr=>
   subst hd
   obtain⟨g1,kk,g2,g3⟩:=f23 rfl
   have hn:n=0:=hp.2.2.2.2.2 (.inr (by simp only[V.kind];omega))
   have ht:t=[]:=hT.2.1 (by omega)
   subst hn ht
   have hall:∀x∈ks,bI x∧x.kind<21∧x.kids=[]:=fun x hx=>by
    obtain⟨a1,a2,a3⟩:=g3 x hx
    have hk:x.kind<21:=by rw[a1];unfold dp at g2;omega
    exact⟨a2,hk,(hT.2.2.mem x hx).kids hk⟩
   refine bG.scal ?_ ?_ ?_
   ·match ks,g1,hall with
    |[x],_,hall=>
     obtain⟨b1,b2,b3⟩:=hall x (by simp)
     rw[bq,bq]
     rcases Decidable.em (x.kind=20)with h20|h20
     ·rw[if_pos ⟨rfl,rfl,congrArg some h20⟩,if_pos ⟨rfl,rfl,congrArg some h20⟩]
      simp[same,fc,gr,V.text]
     ·rw[if_neg (fun h=>h20 (Option.some.inj h.2.2)),if_neg (by omega),if_neg (by omega),if_neg (fun h=>h20 (Option.some.inj h.2.2)),if_neg (by omega),if_neg (by omega)]
      have:=js hall
      simp only[same]
      rw[this]
      simp[aM,gr]
    |x::y::r,_,hall=>
     rw[bq,bq,if_neg (by simp),if_neg (by omega),if_neg (by omega),if_neg (by simp),if_neg (by omega),if_neg (by omega)]
     have:=js hall
     simp only[same]
     rw[this]
     simp[aZ,gr]
   all_goals
    rw[bq]
    split
    ·simp[V.kind]
    ·split
     ·simp[V.kind]
     ·split<;>simp[V.kind]
theorem mr:∀ {ks ls:List V},gj ks ls→cG ks→fe ks→ib (aM ks) (aM ls)
 |[],ls,h,_,_=>by rw[aM,ib];trivial
 |x::r,ls,h,hF,hT=>by
  cases h with
  |cons h1 h2=>
   rw[cG]at hF
   rw[fe]at hT
   rw[aM,aM,ib]
   exact⟨_,_,rfl,iv h1 hF.1 hT.1,mr h2 hF.2 hT.2⟩
theorem mt:∀ {ks:List V} {ps qs:List (V×V)},md ks ps→cG ks→fe ks→(∀x∈aP ks,dV x.kind)→(∀q∈ps,q∈qs)→eD (aM ks) (aM (qs.flatMap fun p=>[p.1,p.2]))
 |[],ps,qs,h,_,_,_,_=>by rw[aM];exact nP _
 |[a],ps,qs,h,_,_,_,_=>by rw[aM,aM];exact uy _ _
 |k::v::r,ps,qs,h,hF,hT,hK,hq=>by
  cases h with
  |cons h1 h2 h3=>
   rename_i a b s
   rw[cG,cG]at hF
   rw[fe,fe]at hT
   have hkk:=hK k (by simp[aP])
   obtain⟨j,e1,e2⟩:=lU qs (a,b) (hq _ (by simp))
   rw[aM,aM,eD]
   refine⟨⟨j,bq a,bq b,by rw[iF,e1];rfl,by rw[iF,e2];rfl,?_,iv h2 hF.2.1 hT.2.1⟩,mt h3 hF.2.2 hT.2.2 (fun x hx=>hK x (by simp[aP,hx])) fun q h=>hq q (by simp[h])⟩
   have hl:=iv h1 hF.1 hT.1
   obtain⟨kk,kn,kt,kks,ko,kd⟩:=k
   unfold dV at hkk
   simp only[V.kind]at hkk
   refine hl.same ?_ ?_
   all_goals
    rw[bq]
    split
    ·simp[V.kind]
    ·split
     ·simp[V.kind]
     ·split<;>simp[V.kind]<;>omega
theorem kP:∀ {ks:List V} {ps:List (V×V)},md ks ps→ks.length%2=0→ks.length=2 * ps.length
 |[],_,h,_=>by cases h;rfl
 |[a],_,h,h0=>by simp at h0
 |k::v::r,_,h,h0=>by
  cases h with
  |cons h1 h2 h3=>
   have:=kP h3 (by simp at h0;omega)
   simp only[List.length_cons]
   omega
end
theorem jf{kk:Int}{R:V→V→Prop}:∀ {es:List iW} {ps qs:List (V×V)},cE R es ps→(∀q∈ps,q∈qs)→(∀e∈es,∀a,R e.1 a→same (bq e.1) (bq a)=true)→(∀e∈es,fh e.2.1∧lC e.2.1)→eD (aM (es.flatMap ke)) (aM (qs.flatMap fun p=>[p.1,p.2]))
 |[],ps,qs,_,_,_,_=>by rw[List.flatMap_nil,aM];exact nP _
 |e::es,ps,qs,h,hq,hR,hF=>by
  cases h with
  |cons h1 h2 h3=>
   rename_i k v c a b s
   obtain⟨j,e1,e2⟩:=lU qs (a,b) (hq _ (by simp))
   have hx:=hF _ (List.mem_cons_self ..)
   show eD (aM (k::v::es.flatMap ke)) _
   rw[aM,aM,eD]
   exact⟨⟨j,bq a,bq b,by rw[iF,e1];rfl,by rw[iF,e2];rfl,hR _ (List.mem_cons_self ..) a h1,iv h2 hx.1 hx.2⟩,jf (kk:=kk) h3 (fun q h=>hq q (by simp[h])) (fun e he=>hR e (by simp[he])) fun e he=>hF e (by simp[he])⟩
theorem cG.mem:∀ {l:List V},cG l→∀x∈l,fh x
 |[],_,x,hx=>by cases hx
 |a::r,h,x,hx=>by
  rw[cG]at h
  rcases List.mem_cons.1 hx with rfl|hx
  ·exact h.1
  ·exact cG.mem h.2 x hx
theorem sR{kk:Int}(h:gk kk l ys)(hA:fH l)(hT:fe l)(hk:∀x∈aP l,x.kind=kk)(hkk:kk=19∨kk=20):bG (bq (dP l)) (bq (dP ys)):=by
 obtain⟨es,rfl,ps,qs,hS,hq,rfl⟩:=h
 obtain⟨⟨hF,hM,_⟩,_,_⟩:=hA
 unfold dP
 rw[bM (by omega) (by omega),bM (by omega) (by omega),bG]
 refine .inr (.inr ⟨rfl,rfl,?_,rfl,rfl,?_⟩)
 ·simp only[V.kids]
  rw[aZ,aZ,eI,dE,hq.length_eq,hS.length]
 ·refine jf (kk:=kk) hS (fun q h=>hq.mem_iff.2 h) (fun e he a ha=>?_) fun e he=>⟨hF.mem _ (bX he).1,hT.mem _ (bX he).1⟩
  have hm:=(bX he).2
  have hke:=hk _ hm
  have hpl:=(hM.2.1 _ hm).2
  have hfe:=hF.mem _ (fj hm)
  have hte:=hT.mem _ (fj hm)
  subst ha
  obtain⟨⟨k,n,t,ks,o,d⟩,v,c⟩:=e
  simp only[V.kind,V.text]at hke⊢
  subst hke
  have hks:=hte.kids (by simp only[V.kind];omega)
  simp only[V.kids]at hks
  have hd:d=[]:=hpl.2.2.2.1
  have hn:n=0:=hpl.2.2.2.2.2 (.inr (by simp only[V.kind];omega))
  subst hks hd hn
  rcases hkk with rfl|rfl
  ·rw[ec _ _ _ _ (by omega) (by omega),ec _ _ _ _ (by omega) (by omega)]
   simp[same,fc,gr]
  ·rw[fq,fq];exact fp _
theorem Hd.len(h:Hd c8 c32 c hd n t):hd.length≤8:=by
 rcases h with⟨s,k,_,rfl,_⟩|⟨a,b,d,e,f,g,h,i,_,rfl,_⟩<;>simp
theorem zu{k:Int}{c:UInt8}(h:iS k=some (c,s)):s≤8:=by
 rcases iz h with h|h|h|h|h|h|h|h|h|h|h<;>omega
theorem Pc.vol1(h:Pc x c b)(hk:∀body,bw x.kids body→body.length≤bF x.kids)(he:∀c' body,bY c' x.kids body→body.length≤bF x.kids):b.length+24+bF x.desc≤vol x:=by
 cases h with
 |num hc=>have:=zu hc;simp only[V.desc];rw[vol,bh];omega
 |list hE hh=>
  have h1:=hk _ hE
  have h2:=hh.len
  simp only[V.kids]at h1
  simp only[V.desc];rw[vol,List.length_append];omega
 |map hE hh=>
  have h1:=hk _ hE
  have h2:=hh.len
  simp only[V.kids]at h1
  simp only[V.desc];rw[vol,List.length_append];omega
 |arr _ hE hh=>
  have h1:=he _ _ hE
  have h2:=hh.len
  simp only[V.kids]at h1
  simp only[V.desc];rw[vol,List.length_append,List.length_cons];omega
 |_=>simp only[V.desc];rw[vol];simp[txt,bh]<;>omega
mutual
theorem g8.vol:∀ {x:V} {bs:List UInt8},g8 x bs→bs.length≤vol x
 | .mk k n t ks o d,bs,h=>by
  have hk:∀body,bw ks body→body.length≤bF ks:=fun body h=>bw.vol h
  have he:∀c' body,bY c' ks body→body.length≤bF ks:=fun c' body h=>bY.vol h
  have hdv:∀body,bw d body→body.length≤bF d:=fun body h=>bw.vol h
  cases h with
  |plain hd hp=>
   have:=hp.vol1 hk he
   rw[List.length_cons];omega
  |desc hd hy hp=>
   have h1:=hp.vol1 hk he
   have h2:=hdv _ (by rw[show d=_ from hd];exact .cons hy .nil)
   simp only[V.desc]at h1
   simp only[List.length_cons,List.length_append,List.length_nil]at h2⊢
   omega
theorem bw.vol:∀ {l:List V} {bs:List UInt8},bw l bs→bs.length≤bF l
 |[],bs,h=>by cases h;simp
 |x::r,bs,h=>by
  cases h with
  |cons h1 h2=>
   have:=g8.vol h1
   have:=bw.vol h2
   rw[List.length_append,bF];omega
theorem bY.vol:∀ {l:List V} {c:UInt8} {bs:List UInt8},bY c l bs→bs.length≤bF l
 |[],c,bs,h=>by cases h;simp
 | .mk k n t ks o d::r,c,bs,h=>by
  have hk:∀body,bw ks body→body.length≤bF ks:=fun body h=>bw.vol h
  have he:∀c' body,bY c' ks body→body.length≤bF ks:=fun c' body h=>bY.vol h
  cases h with
  |cons h1 h2=>
   have:=h1.vol1 hk he
   have:=bY.vol h2
   rw[List.length_append,bF];omega
end
mutual
def Wt:V→Prop
 | .mk k n t ks _ d=>0≤k∧k≤23∧(k<12∨16≤k)∧de k n∧ks.length≤1000∧(d=[]∨∃c,c<18446744073709551616∧d=[uV c])∧(k=21∨k=22→g9 ks)∧(k=23→ks≠[]∧∃kk,dp kk∧∀x∈ks,x.kind=kk∧bI x)
def g9:List V→Prop
 |[]=>True
 |x::r=>Wt x∧g9 r
end
theorem g9.mem:∀ {l:List V},g9 l→∀x∈l,Wt x
 |[],_,x,hx=>by cases hx
 |a::r,h,x,hx=>by
  rw[g9]at h
  rcases List.mem_cons.1 hx with rfl|hx
  ·exact h.1
  ·exact g9.mem h.2 x hx
theorem g9.of:∀ {l:List V},(∀x∈l,Wt x)→g9 l
 |[],_=>by rw[g9];trivial
 |a::r,h=>by rw[g9];exact⟨h a (by simp),g9.of fun x hx=>h x (by simp[hx])⟩
mutual
theorem fh.wt:∀ {x:V},fh x→Wt x
 | .mk k n t ks o d,h=>by
  rw[fh]at h;rw[Wt]
  obtain⟨h1,h2,h3,h4,h5,h6,h7,h8⟩:=h
  refine⟨h2,h3,h4,h1.1,h5,.inl h1.2.2.2.1,fun hk=>?_,fun hk=>?_⟩
  ·rcases hk with hk|hk
   ·exact cG.wt (h6 hk)
   ·exact cG.wt (h7 hk).1
  ·obtain⟨g1,kk,g2,g3⟩:=h8 hk
   exact⟨g1,kk,g2,fun x hx=>⟨(g3 x hx).1,(g3 x hx).2.1⟩⟩
theorem cG.wt:∀ {l:List V},cG l→g9 l
 |[],_=>by rw[g9];trivial
 |x::r,h=>by rw[cG]at h;rw[g9];exact⟨fh.wt h.1,cG.wt h.2⟩
end
theorem jg{k:Int}(h1:k=1→n≤1)(h2:k=4→n<4294967296)(h3:k=2→n<256)(h5:n<18446744073709551616)(hk:k=0∨k=1∨k=2∨k=4∨k=5∨17≤k):de k n:=by
 refine⟨h1,h3,?_,h2,?_,?_,?_,?_,h5⟩<;>(intro h;omega)
theorem lA{k:Int}(hk:k=0∨k=1∨k=2∨k=4∨k=5∨17≤k∧k≤20)(h1:k=1→n≤1)(h2:k=4→n<4294967296)(h3:k=2→n<256)(h5:n<18446744073709551616):Wt (pv k n t):=by
 rw[pv,Wt]
 exact⟨by omega,by omega,by omega,jg h1 h2 h3 h5 (by omega),by simp,.inl rfl,fun h=>by omega,fun h=>by omega⟩
theorem m3:Wt aX:=lA (.inl rfl) (by omega) (by omega) (by omega) (by omega)
def tV(k:Int)(s:List UInt8):V:=if s=[]then aX else pv k 0 s
def mV(l:List V):V:=if l=[]then aX else dP l
def fw(v d y:V):Prop:=y=v∨(y=aX∧(v=aX∨(d.kind≠0∧same v d=true)))∨(v.kind=23∧∃s,v.kids=[s]∧s.kind=20∧y=s)
theorem fu:kp aX:=⟨rfl,rfl⟩
theorem s8{k:Int}(hk:k≠23)(h:fw (tV k s) aX y):wN k y s:=by
 unfold tV at h
 rcases h with h|⟨rfl,h|⟨h,_⟩⟩|⟨h,_⟩
 ·subst h
  split
  ·exact .inl ⟨fu,by assumption⟩
  ·exact .inr ⟨rfl,rfl,rfl⟩
 ·split at h
  ·exact .inl ⟨fu,by assumption⟩
  ·have h2:=congrArg V.text h
   exact .inl ⟨fu,h2⟩
 ·exact absurd rfl h
 ·split at h
  ·exact absurd h (by decide)
  ·exact absurd h hk
theorem s6(hA:ic l)(h:fw (mV l) aX y):ye y l:=by
 unfold mV at h
 rcases h with h|⟨rfl,h|⟨h,_⟩⟩|⟨h,_⟩
 ·subst h
  split
  ·exact .inl ⟨fu,by assumption⟩
  ·exact .inr ⟨rfl,rfl,rfl,hA⟩
 ·split at h
  ·exact .inl ⟨fu,by assumption⟩
  ·have h2:=congrArg V.kind h
   exact absurd h2 (by show¬(22:Int)=0;decide)
 ·exact absurd rfl h
 ·split at h
  ·exact absurd h (by decide)
  ·exact absurd h (by show(22:Int)≠23;decide)
def kf(c d:List UInt8)(i:List V):V:= .mk 21 0 [] [pv 20 0 c,tV 19 d,mV i] 0 [uV 29]
abbrev mH:=List UInt8×List UInt8×List V
def dg:List mH→V
 |[]=>aX
 |f::_=>kf f.1 f.2.1 f.2.2
theorem sy(hA:ic i):tP (kf c d i).kids c d i:=
 ⟨by simp[kf,V.kids],⟨rfl,rfl,rfl⟩,s8 (by decide) (.inl rfl),s6 hA (.inl rfl)⟩
theorem s0{l:List mH}(hl:l.length≤1)(hA:∀f∈l,ic f.2.2)(h:fw (dg l) aX y):yd y l:=by
 match l,hl,hA with
 |[],_,_=>
  rcases h with rfl|⟨rfl,_⟩|⟨h,_⟩
  ·exact .inl ⟨fu,rfl⟩
  ·exact .inl ⟨fu,rfl⟩
  ·exact absurd h (by decide)
 |[f],_,hA=>
  obtain⟨c,d,i⟩:=f
  rcases h with rfl|⟨rfl,h|⟨h,_⟩⟩|⟨h,_⟩
  ·exact .inr ⟨c,d,i,rfl,rfl,rfl,sy (hA (c,d,i) (by simp))⟩
  ·exact absurd (congrArg V.kind h) (by show(21:Int)≠0;decide)
  ·exact absurd rfl h
  ·exact absurd h (by show(21:Int)≠23;decide)
theorem aC.openV{k:Int}{o:Int}(h:aC A w (.mk k n t ks o d) cs):
  ∃pk ck pd cd,cs=[.int .i64 k,.int .u64 (n:Int),str t,.slice pk ks.length ck,.int .i64 o,.slice pd d.length cd]∧ks.length≤ck∧d.length≤cd∧cM A w ks.length (.slice pk ks.length ck) (ag A w ks)∧cM A w d.length (.slice pd d.length cd) (ag A w d):=by
 rw[aC]at h
 obtain⟨sk,sd,rfl,h1,h2⟩:=h
 have h1':=h1
 have h2':=h2
 obtain⟨p,c,cells,rfl,hc,_⟩:=h1
 obtain⟨p',c',cells',rfl,hc',_⟩:=h2
 exact⟨_,_,_,_,rfl,hc,hc',h1',h2'⟩
theorem cM.kid{l:List V}(h:cM A w l.length (.slice p l.length c) (ag A w l))(hi:i<l.length):
  ∃b o c',p=some ⟨b,o,none⟩∧A b∧At w b (o+i * 6) c'∧c'.length=6∧aC A w (bA l i) c':=by
 obtain⟨p',c0,cells,e,_,hL,hat⟩:=h
 injection e with e1 _ _
 subst e1
 rcases hat with h0|⟨b,o,rfl,hA,hat⟩
 ·omega
 ·obtain⟨pre,c',post,rfl,hpre,hr⟩:=ag.get hi hL
  rw[bW hi]at hr
  exact⟨b,o,c',rfl,hA,hpre▸At.mid hat,hr.len,hr⟩
theorem cM.kidP{b o:Nat}{l:List V}(h:cM A w l.length (.slice (some ⟨b,o,none⟩) l.length c) (ag A w l))(hi:i<l.length):
  ∃c',A b∧At w b (o+i * 6) c'∧c'.length=6∧aC A w (bA l i) c':=by
 obtain⟨b',o',c',e,h1,h2,h3,h4⟩:=h.kid hi
 injection e with e
 injection e with e1 e2
 subst e1 e2
 exact⟨c',h1,h2,h3,h4⟩
theorem cM.any(h:cM A w n v (ag A w l)):cM (fun _=>True) w n v (ag (fun _=>True) w l):=h.low fun _ _=>trivial
theorem aC.any(h:aC A w x cs):aC (fun _=>True) w x cs:=h.k fun _ _=>trivial
theorem tl:∀ {l l':List V},l.length=l'.length→(∀j,j<l.length→same (bA l j) (bA l' j)=true)→fc l l'=true
 |[],[],_,_=>rfl
 |a::r,b::s,h,hj=>by
  have h0:=hj 0 (by simp)
  rw[fc,show same a b=true from h0,tl (by simpa using h) fun j h=>hj (j+1) (by simpa using h)]
  rfl
 |[],_::_,h,_=>by cases h
 |_::_,[],h,_=>by cases h
theorem pH:∀ {l l':List V} {j:Nat},j<l.length→l.length=l'.length→same (bA l j) (bA l' j)=false→fc l l'=false
 |a::r,b::s,0,_,_,h=>by
  rw[fc,show same a b=false from h];rfl
 |a::r,b::s,j+1,hj,hl,h=>by
  rw[fc,pH (j:=j) (by simpa using hj) (by simpa using hl) h,Bool.and_false]
 |[],_,j,hj,_,_=>by simp at hj
 |_::_,[],_,_,h,_=>by cases h
theorem iy{l:List V}{x:V}(h:x∈l):∃j,j<l.length∧bA l j=x:=by
 obtain⟨j,hj,rfl⟩:=List.getElem_of_mem h
 exact⟨j,hj,(bW hj).symm⟩
theorem lc(k:Int)(n:Nat)(t:List UInt8):aC A w (pv k n t) (vc k n t):=aC.plain k n t
theorem dO:aC A w aX (vc 0 0 []):=aC.plain 0 0 []
theorem aC.mkK{k:Int}{ks:List V}(h:cM A w ks.length sk (ag A w ks)):aC A w (.mk k 0 [] ks 0 []) [.int .i64 k,.int .u64 0,str [],sk,.int .i64 0,.slice none 0 0]:=by
 rw[aC];exact⟨_,_,rfl,h,cM.nil⟩
end Go.Proofs.LL
