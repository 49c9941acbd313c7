/- Contracts of functions and own laws. Conditions: those that each theorem states. -/
import Derived.Test.YtdgbmbjkbmpcbaaGreatDoorW16
set_option linter.all false
set_option autoImplicit true
set_option relaxedAutoImplicit true
set_option maxRecDepth 20000
namespace Go.Proofs.LL
open Go Go.Proofs Go.RowKit
set_option maxHeartbeats 4000000
attribute [local irreducible] ar WL WC cq WT WX
def zt:List Nat:=[28,320,336,325,328,339,44,342,333,345,348,351,323,24,73,359,353,356,407,299,177]
theorem y7(hn:∀t,t∈zt→Nat.beq T t=false):
  ah TP 224 [.iface T v] w fun u w'=>u= .bool true∧ay w w':=by
 refine aR Tryz.func224 ?_
 refine q ?_
 refine Hq (ba Fb.h Fo.h rfl (hn _ (by decide)))<|q ?_
 refine Hq (ba Fb.h Fo.h rfl (hn _ (by decide)))<|q ?_
 refine Hq (ba Fb.h Fo.h rfl (hn _ (by decide)))<|q ?_
 refine Hq (ba Fb.h Fo.h rfl (hn _ (by decide)))<|q ?_
 refine Hq (ba Fb.h Fo.h rfl (hn _ (by decide)))<|q ?_
 refine Hq (ba Fb.h Fo.h rfl (hn _ (by decide)))<|q ?_
 refine Hq (ba Fb.h Fo.h rfl (hn _ (by decide)))<|q ?_
 refine Hq (ba Fb.h Fo.h rfl (hn _ (by decide)))<|q ?_
 refine Hq (ba Fb.h Fo.h rfl (hn _ (by decide)))<|q ?_
 refine Hq (ba Fb.h Fo.h rfl (hn _ (by decide)))<|q ?_
 refine Hq (ba Fb.h Fo.h rfl (hn _ (by decide)))<|q ?_
 refine Hq (ba Fb.h Fo.h rfl (hn _ (by decide)))<|q ?_
 refine Hq (ba Fb.h Fo.h rfl (hn _ (by decide)))<|q ?_
 refine Hq (ba Fb.h Fo.h rfl (hn _ (by decide)))<|q ?_
 refine Hq (ba Fb.h Fo.h rfl (hn _ (by decide)))<|q ?_
 refine Hq (ba Fb.h Fo.h rfl (hn _ (by decide)))<|q ?_
 refine Hq (ba Fb.h Fo.h rfl (hn _ (by decide)))<|q ?_
 refine Hq (ba Fb.h Fo.h rfl (hn _ (by decide)))<|q ?_
 refine Hq (ba Fb.h Fo.h rfl (hn _ (by decide)))<|q ?_
 refine Hq (ba Fb.h Fo.h rfl (hn _ (by decide)))<|q ?_
 refine Hq (ba Fb.h Fo.h rfl (hn _ (by decide)))<|q ?_
 exact aw rfl ⟨rfl,ch⟩
theorem xB{k:Int}(h:qY k):∀t,t∈zt→Nat.beq (gR k) t=false:=by
 rcases h with rfl|rfl|rfl|rfl|rfl|rfl|rfl|rfl|rfl|rfl|rfl|rfl<;>decide
theorem bJ.key(h:bJ A w x y)(hk:dV x.kind):y= .iface (gR (rk x.kind)) (jU (rk x.kind) x.num x.text):=by
 obtain⟨k,n,t,ks,o,d⟩:=x
 simp only[bJ,wU]at h
 simp only[V.kind,V.num,V.text]at hk⊢
 have hs:=n7 (n:=n) (t:=t) hk
 rcases h with h|⟨h1,_⟩|⟨h1,_⟩|⟨h1,_⟩|⟨h1,_⟩
 ·rw[hs]at h;exact(Option.some.inj h).symm
 all_goals (unfold dV at hk;omega)
theorem y6{x x':V}(hk:dV x.kind)(hk':dV x'.kind)(hp:bI x)(hp':bI x')(hne:eU x≠eU x'):
  kF TP 20 (.iface (gR (rk x.kind)) (jU (rk x.kind) x.num x.text)) (.iface (gR (rk x'.kind)) (jU (rk x'.kind) x'.num x'.text)):=by
 have hR:=fU hk
 have hR':=fU hk'
 by_cases h:rk x.kind=rk x'.kind
 ·rw[← h]
  have hnum:∀z:V,bI z→rk z.kind=rk x.kind→de (rk x.kind) z.num:=by
   intro z hz e
   by_cases h20:z.kind=20
   ·have e19:rk x.kind=19:=by rw[← e];simp[rk,h20]
    rw[e19]
    have:=hz.1.2.2.2.2.2.2.2.2
    exact⟨by omega,by omega,by omega,by omega,by omega,by omega,by omega,by omega,this⟩
   ·have:rk x.kind=z.kind:=by rw[← e];simp[rk,h20]
    rw[this];exact hz.1
  refine tQ hR (hnum x hp rfl) (hnum x' hp' h.symm) (fun e=>?_) (fun e=>?_) (fun e=>?_) (fun e=>hne ?_)
  ·have e1:x.kind=17:=by unfold rk at e;split at e<;>omega
   have e2:x'.kind=17:=by rw[h]at e;unfold rk at e;split at e<;>omega
   exact⟨hp.2.2.1 e1,hp'.2.2.1 e2⟩
  ·have e1:x.kind<17:=by unfold rk at e;split at e<;>omega
   have e2:x'.kind<17:=by rw[h]at e;unfold rk at e;split at e<;>omega
   rw[hp.2.2.2.2.1 e1,hp'.2.2.2.2.1 e2]
  ·have e1:17≤x.kind:=by unfold rk at e;split at e<;>omega
   have e2:17≤x'.kind:=by rw[h]at e;unfold rk at e;split at e<;>omega
   rw[hp.2.2.2.2.2 (.inr e1),hp'.2.2.2.2.2 (.inr e2)]
  ·unfold eU
   rw[e.1,e.2]
   have:(if x.kind=20 then(19:Int)else x.kind)=if x'.kind=20 then 19 else x'.kind:=h
   rw[this]
 ·refine yg fun e=>h ?_
  rw[← je hR,← je hR',e]
def iI(ks:List V):Prop:=ks.length%2=0∧(∀x∈aP ks,dV x.kind∧bI x)∧((aP ks).map eU).Nodup
theorem eK:∀(i:Nat) (ks:List V),aP (ks.take (2 * i))=(aP ks).take i
 |0,ks=>by simp[aP]
 |i+1,[]=>by simp[aP]
 |i+1,[x]=>by simp[aP,show 2 * (i+1)=(2 * i)+1+1 by omega]
 |i+1,k::v::r=>by
  rw[show 2 * (i+1)=(2 * i)+1+1 by omega]
  simp only[List.take_succ_cons,aP,eK i r]
theorem dD:∀(i:Nat) (ks:List V) (h:2 * i+1<ks.length),(aP ks)[i]?=some ks[2 * i]
 |0,k::v::r,_=>by simp[aP]
 |i+1,k::v::r,h=>by
  simp only[List.length_cons]at h
  have:=dD i r (by omega)
  simp only[aP,List.getElem?_cons_succ,this]
  congr 1
 |_,[],h=>by simp at h
 |_,[_],h=>by simp at h
theorem bB.keys:∀ {ks:List V} {l:List (Value×Value)},bB A w ks l→∀p∈l,∃x∈aP ks,bJ A w x p.1
 |[],l,h,p,hp=>by simp only[bB]at h;subst h;cases hp
 |[_],l,h,p,hp=>by simp only[bB]at h;subst h;cases hp
 |k::v::r,l,h,p,hp=>by
  simp only[bB]at h
  obtain⟨a,b,l',rfl,h1,h2,h3⟩:=h
  rcases List.mem_cons.1 hp with rfl|hp
  ·exact⟨k,by simp[aP],h1⟩
  ·obtain⟨x,hx,h4⟩:=bB.keys h3 p hp
   exact⟨x,by simp[aP,hx],h4⟩
theorem kr{l:List V}{i:Nat}{y:V}(hn:(l.map eU).Nodup)(hx:l[i]?=some x)(hy:y∈l.take i):eU x≠eU y:=by
 obtain⟨j,hj,hje⟩:=List.mem_iff_getElem.1 hy
 obtain⟨hi,hxe⟩:=List.getElem?_eq_some_iff.1 hx
 simp only[List.length_take]at hj
 rw[List.getElem_take]at hje
 intro e
 have h1:=(List.nodup_iff_pairwise_ne.1 hn)
 rw[List.pairwise_iff_getElem]at h1
 have:=h1 j i (by simp;omega) (by simpa using hi) (by omega)
 simp only[List.getElem_map]at this
 rw[hje,hxe]at this
 exact this e.symm
theorem sT{ks:List V}{r:List UInt8}{v0:Value}(hks:∀x∈ks,gl x)(hM:iI ks)(hle:ks.length≤65536)(hEn:bw ks body)(hab:aH w ab [v0])(hne:rb<ab)(hR:Rd w rb (body++r)):
  ah TP 204 [.pointer (some ⟨ab,0,none⟩),.pointer (some ⟨rb,0,none⟩),.int .u32 (ks.length:Int)] w fun u w'=>u= .nilIface∧(∃m l,aH w' ab [.map (some m)]∧w.heap.size≤m∧cT w' m l∧bB (fun b=>w.heap.size≤b) w' ks l)∧Rd w' rb r∧am (fun k=>k≠rb∧k≠ab) w w':=by
 obtain⟨hev,hkeys,hnd⟩:=hM
 have:=hab.lt
 refine aR Tryz.func204 ?_
 refine q ?_
 refine Hq (s9 (by decide) rfl rfl)<|WL.l rfl (d8 Fo.h (fun o h=>by cases h;exact⟨_,_,rfl⟩)) ?_
 rintro v1 w1 ⟨rfl,hMo,e1⟩
 have:=hMo.lt
 refine q ?_
 replace hR:=hR.m e1
 replace hab:=hab.m e1
 refine WC.loop2 (ι:=Nat) [(0,_),(1,_),(2,_),(6,_),(7,_)] (fun i=>[(8,.int .u32 ((2 * i:Nat):Int))]) (fun i wi=>(∃l bi,cT wi w.heap.size l∧2 * i≤ks.length∧bB (fun b=>w1.heap.size≤b) wi (ks.take (2 * i)) l∧bw (ks.drop (2 * i)) bi∧Rd wi rb (bi++r))∧am (fun k=>k<w1.heap.size∧k≠w.heap.size∧k≠rb) w1 wi) (fun i=>ks.length-2 * i) 0 sb sb (⟨⟨[],body,hMo,Nat.zero_le _,by simp[bB],hEn,hR⟩,am.refl _⟩) ?_
 intro i wi1 hh;obtain⟨⟨l,bi,hMo,hi2,hV,hB,hR⟩,hE⟩:=hh
 have hvl:=hV.length
 have:=hE.s
 rcases Nat.lt_or_ge (2 * i) ks.length with hi|hi
 ·have hi1:2 * i+1<ks.length:=by omega
  rw[List.drop_eq_getElem_cons hi,List.drop_eq_getElem_cons hi1]at hB
  cases hB with
  |cons hB1 hB2=>
  cases hB2 with
  |cons hB2 hB3=>
  rename_i b1 b2 b3
  rw[List.append_assoc,List.append_assoc]at hR
  have hw:IntKind.u32.wrap (((2 * i:Nat):Int)+2)=((2 * (i+1):Nat):Int):=by
   rw[mR (by omega) (by omega)];omega
  have htk:ks.take (2 * (i+1))=ks.take (2 * i)++[ks[2 * i],ks[2 * i+1]]:=by
   rw[show 2 * (i+1)=2 * i+1+1 by omega,List.take_add_one,List.take_add_one,List.getElem?_eq_getElem hi1,List.getElem?_eq_getElem hi,List.append_assoc];rfl
  have hdr:ks.drop (2 * (i+1))=ks.drop (2 * i+1+1):=by rw[show 2 * (i+1)=2 * i+1+1 by omega]
  have hkm:ks[2 * i]∈aP ks:=List.mem_of_getElem? (dD i ks hi1)
  have hkk:=hkeys _ hkm
  refine q ?_
  refine cl rfl (hks _ (List.getElem_mem hi) _ _ _ _ hB1 hR) ?_
  rintro v2 w2 ⟨yk,rfl,hZK,hR,e2⟩
  have:=e2.s
  have hZV:=bB.m hV e2 (by intro b h1 h2;dsimp only[Nb];omega)
  refine q ?_
  refine cl rfl (hks _ (List.getElem_mem hi1) _ _ _ _ hB2 hR) ?_
  rintro v3 w3 ⟨yv,rfl,hZW,hR,e3⟩
  have hy:=hZK.key hkk.1
  subst hy
  refine q ?_
  refine Hl rfl (y7 (xB (fU hkk.1))) fun w4 e4=>?_
  refine q ?_
  replace hMo:=((hMo.m e2).m e3).m e4
  refine WL.l0 (kY Fo.h rfl rfl rfl hMo (m6 (fU hkk.1) (fun e=>hkk.2.2.2.1 (by unfold rk at e;split at e<;>omega))) (nC Fb.h (fun e ch=>by obtain⟨j,hj,rfl⟩:=gU ch;obtain⟨x',hx',hr'⟩:=bB.keys hV _ (List.getElem_mem hj);rw[eK]at hx';have hx2:=hkeys _ (List.mem_of_mem_take hx');show kF _ _ _ l[j].1;rw[hr'.key hx2.1];exact y6 hkk.1 hx2.1 hkk.2 hx2.2 (kr hnd (dD i ks hi1) hx')))) ?_
  rintro v5 w5 ⟨hMo,e5⟩
  refine q ?_
  refine Hq (pD rfl rfl)<|q ?_
  replace hZK:=((hZK.m e3).m e4).m e5
  replace hZV:=((hZV.m e3).m e4).m e5
  replace hZW:=(hZW.m e4).m e5
  have hV2:=bB.snoc (by rw[List.length_take,Nat.min_eq_left (Nat.le_of_lt hi)];omega) hZV (hZK.k (B:=fun b=>w1.heap.size≤b) (fun b h=>by omega)) (hZW.k (B:=fun b=>w1.heap.size≤b) (fun b h=>by omega))
  rw[← htk]at hV2
  rw[← hdr]at hB3
  replace hR:=(hR.m e4).m e5
  exact⟨i+1,sb,sb,⟨⟨_,_,hMo,by omega,hV2,hB3,hR⟩,(((((hE.t e2).t e3).t e4).t e5))⟩,by omega⟩
 ·rw[List.drop_eq_nil_of_le hi]at hB
  cases hB
  rw[List.take_of_length_le hi]at hV
  refine q ?_
  replace hab:=hab.m hE
  refine Hp rfl rfl hab fun w2 hab e2 hz2=>?_
  refine q ?_
  replace hR:=hR.m e2
  replace hMo:=hMo.m e2
  replace hV:=hV.m e2
  exact aw rfl ⟨rfl,⟨_,l,hab,Nat.le_refl _,hMo,bB.k hV (fun b h=>by omega)⟩,by simpa using hR,ch⟩
theorem xH{ks:List V}{r:List UInt8}{v0:Value}(hks:∀x∈ks,gl x)(hM:iI ks)(hEn:bw ks body)(hh:Hd 0xc1 0xd1 c hd ks.length body)(hab:aH w ab [v0])(hne:rb<ab)(hR:Rd w rb (c::(hd++(body++r)))):
  ah TP 131 [.pointer (some ⟨ab,0,none⟩),.pointer (some ⟨rb,0,none⟩)] w fun u w'=>u= .nilIface∧(∃m l,aH w' ab [.map (some m)]∧w.heap.size≤m∧cT w' m l∧bB (fun b=>w.heap.size≤b) w' ks l)∧Rd w' rb r∧am (fun k=>k≠rb∧k≠ab) w w':=by
 have:=hab.lt
 refine aR Tryz.func131 ?_
 refine q ?_
 refine Hm rfl (fo hh hR) fun w1 hR e1=>?_
 refine q ?_
 replace hab:=hab.m e1
 refine cl rfl (sT hks hM hh.le.1 hEn hab hne hR) ?_
 rintro v2 w2 ⟨rfl,⟨m,l,hab,hm,hMo,hV⟩,hR,e2⟩
 have:=e1.s
 refine q ?_
 exact aw rfl ⟨rfl,⟨m,l,hab,by omega,hMo,hV.k (fun b h=>by omega)⟩,hR,ch⟩
def m8(l:List (Value×Value)):Prop:=
 (∀p∈l,∃k n t,qY k∧p.1= .iface (gR k) (jU k n t))∧
 ∀(i j:Nat) (hi:i<l.length) (hj:j<l.length),i≠j→∀t t':List UInt8,l[i].1= .iface 9 (str t)→l[j].1= .iface 9 (str t')→t≠t'
def tu:Value→List UInt8
 | .iface _ (.string s)=>s.data.toList
 |_=>[]
def mE(p:Value×Value):Value×Value:=(str (tu p.1),p.2)
theorem jP{seen:List Nat}(hn:seen.Nodup)(hlt:∀j∈seen,j<n)(hi:i<n)(hni:i ∉ seen):(seen++[i]).Nodup∧(∀j∈seen++[i],j<n)∧n-(seen++[i]).length<n-seen.length:=by
 have h1:(seen++[i]).Nodup:=by
  rw[List.nodup_append]
  exact⟨hn,by simp,fun a ha b hb=>by simp at hb;subst hb;exact fun e=>hni (e▸ha)⟩
 have h2:∀j∈seen++[i],j<n:=by
  intro j hj
  rcases List.mem_append.1 hj with hj|hj
  ·exact hlt j hj
  ·simp at hj;omega
 have h3:(seen++[i]).length≤n:=by
  have:=List.Nodup.length_le_of_subset (l₂:=List.range n) h1 (fun j hj=>List.mem_range.2 (h2 j hj))
  simpa using this
 refine⟨h1,h2,?_⟩
 simp at h3⊢;omega
theorem jO{seen:List Nat}(hn:seen.Nodup)(hlt:∀j∈seen,j<n)(hall:∀i,i<n→i∈seen):seen.Perm (List.range n):=
 (List.perm_ext_iff_of_nodup hn List.nodup_range).2 fun a=>⟨fun h=>List.mem_range.2 (hlt a h),fun h=>hall a (List.mem_range.1 h)⟩
theorem oI{α β:Type}[Inhabited α](l:List α)(f:α→β):(List.range l.length).map (fun i=>f (l[i]?.getD default))=l.map f:=by
 apply List.ext_getElem
 ·simp
 ·intro i h1 h2
  have:i<l.length:=by simpa using h2
  simp[this]
theorem oT(hk:m8 l)(hall:∀p∈l,∃t,p.1= .iface 9 (str t)){seen:List Nat}(hlt:∀i∈seen,i<l.length)(hj:j<l.length)(hnj:j ∉ seen){t:List UInt8}(hke:l[j].1= .iface 9 (str t)):
  ∀e∈dJ 0 (seen.map fun i=>mE (l[i]?.getD default)),∃s:ByteArray,e.key= .string s∧s≠⟨t.toArray⟩:=by
 intro e he
 obtain⟨i,hi,rfl⟩:=gU he
 simp only[List.length_map]at hi
 have hil:=hlt _ (List.getElem_mem hi)
 obtain⟨t',ht'⟩:=hall _ (List.getElem_mem hil)
 refine⟨⟨t'.toArray⟩,?_,fun e=>?_⟩
 ·simp[mE,hil,ht',tu,str]
 ·have hne:seen[i]≠j:=fun e=>hnj (e▸List.getElem_mem hi)
  refine hk.2 _ _ hil hj hne t' t ht' hke ?_
  simpa using e
theorem mN(hM:cT w m l)(hk:m8 l)(hle:l.length≤65536):
  ah TP 220 [.map (some m)] w fun u w'=>∃y,u= .tuple #[y,.nilIface]∧((y= .iface 299 (.map (some m)))∨(∃m',y= .iface 177 (.map (some m'))∧w.heap.size≤m'∧(∀p∈l,∃t,p.1= .iface 9 (str t))∧∃kvs,cT w' m' kvs∧kvs.Perm (l.map mE)))∧ay w w':=by
 have hm0:=hM.lt
 rcases Nat.eq_zero_or_pos l.length with h0|h0
 ·refine cN Tryz.func220 ?_
  refine q ?_
  refine WC.scope<|q ?_
  refine Hq (uQ Fo.h rfl Xr hM)<|q ?_
  exact bt rfl rfl ⟨_,rfl,.inl rfl,ch⟩
 ·refine cN Tryz.func220 ?_
  refine q ?_
  refine WC.scope<|q ?_
  refine Hq (uQ Fo.h rfl Xr hM)<|q ?_
  refine WL.l rfl (mW Fo.h rfl hM) ?_
  rintro v1 w1 ⟨rfl,hI,e1⟩
  have hx1:=hI.lt
  refine q ?_
  replace hM:=hM.m e1
  refine WC.loop2 (ι:=(List Nat)) [(0,_),(2,_),(3,_),(17,_)] (fun i=>[(4,.bool true)]) (fun i wi=>tK wi w.heap.size m l.length i∧i.Nodup∧(∀j∈i,j<l.length)∧(∀j (h:j<l.length),j∈i→∃t,l[j].1= .iface 9 (str t))∧am (fun k=>k≠w.heap.size) w1 wi) (fun i=>l.length-i.length) [] sb sb (⟨hI,.nil,by simp,by simp,am.refl _⟩) ?_
  intro i wi1 hh;obtain⟨hI,hnd,hlt,hstr,hE⟩:=hh
  have hwi:=hE.s
  replace hM:=hM.m hE
  rcases mX (P:=TP) hM hI with⟨hall,hN⟩|⟨j,hj,hnj,hN⟩
  ·have hper:=jO hnd hlt hall
   have hallS:∀p∈l,∃t,p.1= .iface 9 (str t):=by
    intro p hp
    obtain⟨j,hj,rfl⟩:=List.mem_iff_getElem.1 hp
    exact hstr j hj (hall j hj)
   refine q ?_
   refine WL.l rfl (hN rfl) ?_
   rintro v2 w2 ⟨rfl,e2⟩
   refine q ?_
   replace hM:=hM.m e2
   refine Hq (uQ Fo.h rfl Xr hM)<|WL.l rfl (d8 Fo.h (fun o h=>by cases h;exact⟨_,_,rfl⟩)) ?_
   rintro v3 w3 ⟨rfl,hM2,e3⟩
   have hx2:=hM2.lt
   refine q ?_
   replace hM:=hM.m e3
   refine WL.l rfl (mW Fo.h rfl hM) ?_
   rintro v4 w4 ⟨rfl,hI2,e4⟩
   have hx3:=hI2.lt
   refine q ?_
   have hq2:=e2.s
   replace hM:=hM.m e4
   replace hM2:=hM2.m e4
   refine WC.loop2 (ι:=(List Nat)) [(0,_),(2,_),(3,_),(4,_),(6,_),(17,_),(34,_)] (fun i=>[]) (fun i wi=>tK wi w3.heap.size m l.length i∧i.Nodup∧(∀j∈i,j<l.length)∧cT wi w2.heap.size (i.map fun j=>mE (l[j]?.getD default))∧am (fun k=>k≠w3.heap.size∧k≠w2.heap.size) w4 wi) (fun i=>l.length-i.length) [] sb .nil (⟨hI2,.nil,by simp,hM2,am.refl _⟩) ?_
   intro i wi2 hh;obtain⟨hI2,hnd',hlt',hM2,hE⟩:=hh
   replace hM:=hM.m hE
   rcases mX (P:=TP) hM hI2 with⟨hall',hN⟩|⟨j,hj,hnj,hN⟩
   ·have hper':=jO hnd' hlt' hall'
    refine q ?_
    refine WL.l rfl (hN rfl) ?_
    rintro v5 w5 ⟨rfl,e5⟩
    refine q ?_
    replace hM2:=hM2.m e5
    exact bt rfl rfl ⟨_,rfl,.inr ⟨_,rfl,by omega,hallS,_,hM2,by rw[← oI l mE];exact hper'.map _⟩,ch⟩
   ·obtain⟨hnd2,hlt2,hmu⟩:=jP hnd' hlt' hj hnj
    obtain⟨t,hke⟩:=hallS _ (List.getElem_mem hj)
    have hfr:=oT hk hallS hlt' hj hnj hke
    have hmap:((i++[j]).map fun j=>mE (l[j]?.getD default))=(i.map fun j=>mE (l[j]?.getD default))++[(str t,l[j].2)]:=by
     simp[mE,hj,hke,tu,str]
    refine q ?_
    refine WL.l rfl (hN rfl) ?_
    rintro v5 w5 ⟨rfl,hI2,e5⟩
    refine q ?_
    replace hM:=hM.m e5
    refine Hq (jl rfl hj hke rfl Xr hM hI2)<|q ?_
    replace hM2:=hM2.m e5
    refine WL.l0 (kY Fo.h rfl rfl rfl hM2 (iY.str Fb.h) (mm Fb.h hfr)) ?_
    rintro v6 w6 ⟨hM2,e6⟩
    refine q ?_
    have hM3:=(show cT _ _ (_++[(str t,l[j].2)])from hM2)
    rw[← hmap]at hM3
    replace hI2:=hI2.m e6
    exact⟨(i++[j]),sb,.nil,⟨hI2,hnd2,hlt2,hM3,(((hE.t e5).t e6))⟩,hmu⟩
  ·obtain⟨hnd2,hlt2,hmu⟩:=jP hnd hlt hj hnj
   obtain⟨k,n,t,hkr,hke⟩:=hk.1 _ (List.getElem_mem hj)
   by_cases hk19:k=19
   ·subst hk19
    have hke':l[j].1= .iface 9 (str t):=hke
    refine q ?_
    refine WL.l rfl (hN rfl) ?_
    rintro v2 w2 ⟨rfl,hI,e2⟩
    refine q ?_
    replace hM:=hM.m e2
    refine Hq (jl rfl hj hke' rfl Xr hM hI)<|q ?_
    have hstr2:∀j' (h:j'<l.length),j'∈i++[j]→∃t,l[j'].1= .iface 9 (str t):=by
     intro j' h' hm
     rcases List.mem_append.1 hm with hm|hm
     ·exact hstr j' h' hm
     ·have:j'=j:=by simpa using hm
      subst this;exact⟨t,hke'⟩
    exact⟨(i++[j]),sb,sb,⟨hI,hnd2,hlt2,hstr2,((hE.t e2))⟩,hmu⟩
   ·have hn:∀T,T∈[9,143]→Nat.beq (gR k) T=false:=by
     have:gR k≠9∧gR k≠143:=by
      rcases hkr with rfl|rfl|rfl|rfl|rfl|rfl|rfl|rfl|rfl|rfl|rfl|rfl<;>first|(exact absurd rfl hk19)|decide
     intro T hT
     have hT':T=9∨T=143:=by simpa using hT
     cases hq:Nat.beq (gR k) T with
     |false=>rfl
     |true=>
      have:=Nat.eq_of_beq_eq_true hq
      omega
    refine q ?_
    refine WL.l rfl (hN rfl) ?_
    rintro v2 w2 ⟨rfl,hI,e2⟩
    refine q ?_
    replace hM:=hM.m e2
    refine Hq (jl rfl hj hke rfl Xr hM hI)<|q ?_
    refine Hq (ba Fb.h Fo.h rfl (hn _ (by decide)))<|q ?_
    refine Hq (ba Fb.h Fo.h rfl (hn _ (by decide)))<|q ?_
    exact bt rfl rfl ⟨_,rfl,.inl rfl,ch⟩
theorem gb{ks:List V}{r:List UInt8}(hks:∀x∈ks,gl x)(hE:bw ks body)(hh:di hd ks.length body)(hR:Rd w rb (hd++(body++r))):
  ah TP 208 [.pointer (some ⟨rb,0,none⟩)] w fun u w'=>∃y,u= .tuple #[y,.nilIface]∧(∃p c cells,y= .iface 320 (.slice p ks.length c)∧ks.length≤c∧cU (fun b=>w.heap.size≤b) w' ks cells∧(ks=[]∨∃b,p=some ⟨b,0,none⟩∧w.heap.size≤b∧At w' b 0 cells))∧Rd w' rb r∧am (Nb rb) w w':=by
 have hr0:=hR.lt
 refine cN Tryz.func208 ?_
 have he:am (Nb rb) w w:=am.refl w
 refine q ?_
 have:=he.s
 refine Ha fun w1 hb1 e1=>?_
 refine q ?_
 replace hR:=hR.m e1
 refine cl rfl (BC hks hE hb1 hr0 hh hR) ?_
 rintro v2 w2 ⟨rfl,⟨p,c,cells,hb1,hc,hV,hat⟩,hR,e2⟩
 have:=e1.s
 refine q ?_
 replace he:=(he.t e1).t e2
 exact bt rfl rfl ⟨_,rfl,⟨p,c,cells,rfl,hc,hV.k (fun b h=>by omega),hat.imp id (fun⟨b,h1,h2,h3⟩=>⟨b,h1,by omega,h3⟩)⟩,hR,he⟩
theorem bB.get:∀ {ks:List V} {l:List (Value×Value)} {i:Nat} (hi:i<l.length),bB A w ks l→∃x,(aP ks)[i]?=some x∧bJ A w x l[i].1
 |[],l,i,hi,h=>by simp only[bB]at h;subst h;simp at hi
 |[_],l,i,hi,h=>by simp only[bB]at h;subst h;simp at hi
 |k::v::r,l,i,hi,h=>by
  simp only[bB]at h
  obtain⟨a,b,l',rfl,h1,h2,h3⟩:=h
  cases i with
  |zero=>exact⟨k,by simp[aP],h1⟩
  |succ i=>
   obtain⟨x,h4,h5⟩:=bB.get (by simpa using hi) h3
   exact⟨x,by simpa[aP]using h4,h5⟩
theorem B2(h:bB A w ks l)(hM:iI ks):m8 l:=by
 obtain⟨hev,hkeys,hnd⟩:=hM
 refine⟨fun p hp=>?_,fun i j hi hj hne t t' e1 e2=>?_⟩
 ·obtain⟨x,hx,h1⟩:=h.keys p hp
  have:=hkeys x hx
  exact⟨rk x.kind,x.num,x.text,fU this.1,h1.key this.1⟩
 ·obtain⟨x,hx,h1⟩:=h.get hi
  obtain⟨x',hx',h2⟩:=h.get hj
  have g1:=hkeys x (List.mem_of_getElem? hx)
  have g2:=hkeys x' (List.mem_of_getElem? hx')
  have k1:=h1.key g1.1
  have k2:=h2.key g2.1
  rw[e1]at k1
  rw[e2]at k2
  simp only[Value.iface.injEq]at k1 k2
  have r1:rk x.kind=19:=by rw[← je (fU g1.1),← k1.1];rfl
  have r2:rk x'.kind=19:=by rw[← je (fU g2.1),← k2.1];rfl
  have t1:t=x.text:=by
   have:=k1.2;rw[r1]at this
   simpa[jU,str]using this
  have t2:t'=x'.text:=by
   have:=k2.2;rw[r2]at this
   simpa[jU,str]using this
  intro e
  have hki:17≤x.kind:=by unfold rk at r1;split at r1<;>omega
  have hkj:17≤x'.kind:=by unfold rk at r2;split at r2<;>omega
  have ha:eU x=eU x':=by
   unfold eU
   rw[g1.2.2.2.2.2.2 (.inr hki),g2.2.2.2.2.2.2 (.inr hkj),← t1,← t2,e]
   have q1:(if x.kind=20 then(19:Int)else x.kind)=19:=r1
   have q2:(if x'.kind=20 then(19:Int)else x'.kind)=19:=r2
   rw[q1,q2]
  obtain⟨hi',hxe⟩:=List.getElem?_eq_some_iff.1 hx
  obtain⟨hj',hxe'⟩:=List.getElem?_eq_some_iff.1 hx'
  have hpw:=List.pairwise_iff_getElem.1 (List.nodup_iff_pairwise_ne.1 hnd)
  rcases Nat.lt_or_gt_of_ne hne with hlt|hlt
  ·have:=hpw i j (by simpa using hi') (by simpa using hj') hlt
   simp only[List.getElem_map,hxe,hxe']at this
   exact this ha
  ·have:=hpw j i (by simpa using hj') (by simpa using hi') hlt
   simp only[List.getElem_map,hxe,hxe']at this
   exact this ha.symm
theorem oL{ks:List V}{r:List UInt8}(hks:∀x∈ks,gl x)(hM:iI ks)(hE:bw ks body)(hh:Hd 0xc1 0xd1 c hd ks.length body)(hR:Rd w rb (c::(hd++(body++r)))):
  ah TP 209 [.pointer (some ⟨rb,0,none⟩)] w fun u w'=>∃y,u= .tuple #[y,.nilIface]∧(∃m kvs kvs0,w.heap.size≤m∧cT w' m kvs∧bB (fun b=>w.heap.size≤b) w' ks kvs0∧((y= .iface 299 (.map (some m))∧kvs=kvs0)∨
   (y= .iface 177 (.map (some m))∧∃ss:List (List UInt8×Value),kvs0=ss.map (fun p=>(.iface 9 (str p.1),p.2))∧kvs.Perm (ss.map fun p=>(str p.1,p.2)))))∧Rd w' rb r∧am (Nb rb) w w':=by
 have hr0:=hR.lt
 refine cN Tryz.func209 ?_
 have he:am (Nb rb) w w:=am.refl w
 refine q ?_
 have:=he.s
 refine Ha fun w1 hb1 e1=>?_
 refine q ?_
 replace hR:=hR.m e1
 refine cl rfl (xH hks hM hE hh hb1 hr0 hR) ?_
 rintro v2 w2 ⟨rfl,⟨m,l,hb1,hm,hMo,hV⟩,hR,e2⟩
 have:=e1.s
 refine q ?_
 refine cl rfl (mN hMo (B2 hV hM) (by rw[hV.length];have:=hh.le.1;omega)) ?_
 rintro v3 w3 ⟨y,rfl,hy,e3⟩
 have:=e2.s
 refine q ?_
 replace hV:=hV.m e3
 have hW:=hV.k (B:=fun b=>w.heap.size≤b) (fun b h=>by omega)
 replace hR:=hR.m e3
 replace he:=((he.t e1).t e2).t e3
 refine bt rfl rfl ⟨_,rfl,?_,hR,he⟩
 rcases hy with rfl|⟨m',rfl,hm',hall,kvs,hM',hp⟩
 replace hMo:=hMo.m e3
 ·exact⟨m,l,l,by omega,hMo,hW,.inl ⟨rfl,rfl⟩⟩
 ·refine⟨m',kvs,l,by omega,hM',hW,.inr ⟨rfl,l.map fun p=>(tu p.1,p.2),?_,?_⟩⟩
  ·rw[List.map_map]
   refine(List.map_id l).symm.trans (List.map_congr_left fun p hp=>?_)
   obtain⟨t,ht⟩:=hall p hp
   obtain⟨a,b⟩:=p
   simp only at ht
   subst ht
   simp[tu,str]
  ·rw[List.map_map]
   exact hp
end Go.Proofs.LL
namespace Go.Proofs.LL
open Go
def oC(c:UInt8):Option (Int×Nat):=
 if c=0x50 then some (2,1)else if c=0x60 then some (3,2)else if c=0x70 then some (4,4)else if c=0x80 then some (5,8)else
 if c=0x51 then some (6,1)else if c=0x61 then some (7,2)else if c=0x71 then some (8,4)else if c=0x81 then some (9,8)else
 if c=0x72 then some (10,4)else if c=0x82 then some (11,8)else if c=0x83 then some (16,8)else
 if c=0x52 then some (4,1)else if c=0x53 then some (5,1)else if c=0x54 then some (8,1)else if c=0x55 then some (9,1)else none
theorem lR{k:Int}{c:UInt8}(h:iS k=some (c,s)):oC c=some (k,s):=by
 unfold iS at h
 repeat' split at h
 all_goals first|(simp only[Option.some.injEq,Prod.mk.injEq]at h;obtain⟨rfl,rfl⟩:=h;subst_vars;rfl)|cases h
theorem Pc.fix{k:Int}(h:Pc x c b)(hf:oC c=some (k,s)):x.kind=k∧b=aI x.num s:=by
 cases h
 case num k' n t ks o d s' h1=>
  rw[lR h1]at hf
  simp only[Option.some.injEq,Prod.mk.injEq]at hf
  obtain⟨rfl,rfl⟩:=hf
  exact⟨rfl,rfl⟩
 case list h1 h2=>rcases h2 with⟨_,_,rfl,_⟩|⟨_,_,_,_,_,_,_,_,rfl,_⟩<;>simp[oC]at hf
 case map h1 h2=>rcases h2 with⟨_,_,rfl,_⟩|⟨_,_,_,_,_,_,_,_,rfl,_⟩<;>simp[oC]at hf
 case arr h1 h2=>rcases h2 with⟨_,_,rfl,_⟩|⟨_,_,_,_,_,_,_,_,rfl,_⟩<;>simp[oC]at hf
 all_goals (simp[oC]at hf;try(obtain⟨rfl,rfl⟩:=hf;exact⟨rfl,rfl⟩))
theorem Pc.b56(h:Pc x 0x56 b):x.kind=1∧b=aI x.num 1:=by
 generalize hc:(0x56:UInt8)=c at h
 cases h
 case num k' n t ks o d s' h1=>subst hc;have:=lR h1;simp[oC]at this
 case bool=>exact⟨rfl,by simp[aI,V.num]⟩
 case list h1 h2=>subst hc;rcases h2 with⟨_,_,h,_⟩|⟨_,_,_,_,_,_,_,_,h,_⟩<;>simp at h
 case map h1 h2=>subst hc;rcases h2 with⟨_,_,h,_⟩|⟨_,_,_,_,_,_,_,_,h,_⟩<;>simp at h
 case arr h1 h2=>subst hc;rcases h2 with⟨_,_,h,_⟩|⟨_,_,_,_,_,_,_,_,h,_⟩<;>simp at h
 all_goals simp at hc
def xX(c:UInt8):Option (Int×Nat):=
 if c=0xa0 then some (18,1)else if c=0xb0 then some (18,4)else if c=0xa1 then some (19,1)else if c=0xb1 then some (19,4)else
 if c=0xa3 then some (20,1)else if c=0xb3 then some (20,4)else none
theorem Pc.fixT{k:Int}(h:Pc x c b)(hf:xX c=some (k,s)):x.kind=k∧b=txt s x.text∧x.text.length<256^s:=by
 cases h
 case num k' n t ks o d s' h1=>
  unfold iS at h1
  repeat' split at h1
  all_goals first|(simp only[Option.some.injEq,Prod.mk.injEq]at h1;obtain⟨rfl,rfl⟩:=h1;simp[xX]at hf;done)|cases h1
 case list h1 h2=>rcases h2 with⟨_,_,rfl,_⟩|⟨_,_,_,_,_,_,_,_,rfl,_⟩<;>simp[xX]at hf
 case map h1 h2=>rcases h2 with⟨_,_,rfl,_⟩|⟨_,_,_,_,_,_,_,_,rfl,_⟩<;>simp[xX]at hf
 case arr h1 h2=>rcases h2 with⟨_,_,rfl,_⟩|⟨_,_,_,_,_,_,_,_,rfl,_⟩<;>simp[xX]at hf
 all_goals (simp[xX]at hf;try(obtain⟨rfl,rfl⟩:=hf;refine⟨rfl,rfl,?_⟩;simpa[V.text]using(by assumption)))
theorem Pc.uuidF(h:Pc x 0x98 b):x.kind=17∧b=x.text:=by
 generalize hc:(0x98:UInt8)=c at h
 cases h
 case num k' n t ks o d s' h1=>subst hc;have:=lR h1;simp[oC]at this
 case uuid=>exact⟨rfl,rfl⟩
 case list h1 h2=>subst hc;rcases h2 with⟨_,_,h,_⟩|⟨_,_,_,_,_,_,_,_,h,_⟩<;>simp at h
 case map h1 h2=>subst hc;rcases h2 with⟨_,_,h,_⟩|⟨_,_,_,_,_,_,_,_,h,_⟩<;>simp at h
 case arr h1 h2=>subst hc;rcases h2 with⟨_,_,h,_⟩|⟨_,_,_,_,_,_,_,_,h,_⟩<;>simp at h
 all_goals simp at hc
theorem bY.all{Q:V→List UInt8→Prop}(hq:∀x b,Pc x c b→Q x b):∀ {ks:List V} {body:List UInt8},bY c ks body→∃bs:List (List UInt8),bs.length=ks.length∧body=bs.flatten∧∀i (h:i<ks.length) (h':i<bs.length),Q ks[i] bs[i]
 |[],body,h=>by cases h;exact⟨[],rfl,rfl,by simp⟩
 |x::r,body,h=>by
  cases h with
  |cons h1 h2=>
   obtain⟨bs,e1,e2,e3⟩:=bY.all hq h2
   rename_i b d
   refine⟨b::bs,by simp[e1],by simp[e2],fun i h h'=>?_⟩
   cases i with
   |zero=>exact hq _ _ h1
   |succ i=>exact e3 i (by simpa using h) (by simpa using h')
theorem bY.flat{Q:V→Prop}{f:V→List UInt8}(hq:∀x b,Pc x c b→Q x∧b=f x):∀ {ks:List V} {body:List UInt8},bY c ks body→(∀x∈ks,Q x)∧body=ks.flatMap f
 |[],body,h=>by cases h;exact⟨by simp,rfl⟩
 |x::r,body,h=>by
  cases h with
  |cons h1 h2=>
   obtain⟨e1,e2⟩:=bY.flat hq h2
   obtain⟨e3,e4⟩:=hq _ _ h1
   refine⟨fun y hy=>?_,by simp[e2,e4]⟩
   rcases List.mem_cons.1 hy with rfl|hy
   ·exact e3
   ·exact e1 y hy
theorem bY.fix{k:Int}(h:bY c ks body)(hf:oC c=some (k,s)):(∀x∈ks,x.kind=k)∧body=(ks.map V.num).flatMap fun m=>aI m s:=by
 obtain⟨h1,h2⟩:=h.flat (fun x b hp=>hp.fix hf)
 exact⟨h1,by rw[h2,List.flatMap_map]⟩
theorem sC(l:List Nat):(l.flatMap fun m=>aI m 1)=l.map fun m=>UInt8.ofNat m:=by
 induction l with
 |nil=>rfl
 |cons a r ih=>rw[List.flatMap_cons,ih,List.map_cons];simp[aI]
theorem bY.fix1{k:Int}(h:bY c ks body)(hf:oC c=some (k,1)):(∀x∈ks,x.kind=k)∧body=ks.map fun x=>UInt8.ofNat x.num:=by
 obtain⟨h1,h2⟩:=h.fix hf
 exact⟨h1,by rw[h2,sC,List.map_map];rfl⟩
theorem Pc.sm(h:Pc x c b)(hc:c=0x54∨c=0x55):ln x.num:=by
 cases h
 case num k' n t ks o d s' h1=>
  unfold iS at h1
  repeat' split at h1
  all_goals first|(simp only[Option.some.injEq,Prod.mk.injEq]at h1;obtain⟨rfl,rfl⟩:=h1;simp at hc;done)|cases h1
 case int1 h=>exact h
 case long1 h=>exact h
 case list h1 h2=>rcases h2 with⟨_,_,rfl,_⟩|⟨_,_,_,_,_,_,_,_,rfl,_⟩<;>simp at hc
 case map h1 h2=>rcases h2 with⟨_,_,rfl,_⟩|⟨_,_,_,_,_,_,_,_,rfl,_⟩<;>simp at hc
 case arr h1 h2=>rcases h2 with⟨_,_,rfl,_⟩|⟨_,_,_,_,_,_,_,_,rfl,_⟩<;>simp at hc
 all_goals simp at hc
theorem Pc.sm1(h:Pc x c b)(hc:c=0x52∨c=0x53):x.num<256:=by
 cases h
 case num k' n t ks o d s' h1=>
  unfold iS at h1
  repeat' split at h1
  all_goals first|(simp only[Option.some.injEq,Prod.mk.injEq]at h1;obtain⟨rfl,rfl⟩:=h1;simp at hc;done)|cases h1
 case uint1 h=>exact h
 case ulong1 h=>exact h
 case list h1 h2=>rcases h2 with⟨_,_,rfl,_⟩|⟨_,_,_,_,_,_,_,_,rfl,_⟩<;>simp at hc
 case map h1 h2=>rcases h2 with⟨_,_,rfl,_⟩|⟨_,_,_,_,_,_,_,_,rfl,_⟩<;>simp at hc
 case arr h1 h2=>rcases h2 with⟨_,_,rfl,_⟩|⟨_,_,_,_,_,_,_,_,rfl,_⟩<;>simp at hc
 all_goals simp at hc
theorem Ej(h:mT 8 n):IntKind.i8.wrap ((UInt8.ofNat n).toNat:Int)=IntKind.i64.wrap (n:Int):=by
 unfold mT at h
 simp only[UInt8.toNat_ofNat',IntKind.wrap,IntKind.bits,IntKind.signed]
 simp at h⊢
 split<;>split<;>omega
theorem Cv(h:mT 16 n):IntKind.i16.wrap ((n%65536:Nat):Int)=IntKind.i64.wrap (n:Int):=by
 unfold mT at h
 simp only[IntKind.wrap,IntKind.bits,IntKind.signed]
 simp at h⊢
 split<;>split<;>omega
theorem Cw(h:mT 32 n):IntKind.i32.wrap ((n%4294967296:Nat):Int)=IntKind.i64.wrap (n:Int):=by
 unfold mT at h
 simp only[IntKind.wrap,IntKind.bits,IntKind.signed]
 simp at h⊢
 split<;>split<;>omega
theorem B7(h:ln n)(hn:n<18446744073709551616):IntKind.i8.wrap ((UInt8.ofNat n).toNat:Int)=IntKind.i64.wrap (n:Int):=Ej (by unfold ln at h;unfold mT;simp;omega)
theorem sI(n:Int): -128≤IntKind.i8.wrap n∧IntKind.i8.wrap n<128:=by
 simp only[IntKind.wrap,IntKind.bits,IntKind.signed]
 simp
 split<;>omega
theorem tG(n:Int):IntKind.i32.wrap (IntKind.i8.wrap n)=IntKind.i8.wrap n:=by
 have h:=sI n
 generalize IntKind.i8.wrap n=m at h
 simp only[IntKind.wrap,IntKind.bits,IntKind.signed]
 simp
 split<;>omega
theorem tH(n:Int):IntKind.i64.wrap (IntKind.i8.wrap n)=IntKind.i8.wrap n:=by
 have h:=sI n
 generalize IntKind.i8.wrap n=m at h
 simp only[IntKind.wrap,IntKind.bits,IntKind.signed]
 simp
 split<;>omega
theorem Cx(b:UInt8):IntKind.u32.wrap (b.toNat:Int)=(b.toNat:Int):=mR (by omega) (by have:=b.toNat_lt;omega)
theorem Cy(b:UInt8):IntKind.u64.wrap (b.toNat:Int)=(b.toNat:Int):=dZ (by omega) (by have:=b.toNat_lt;omega)
theorem jt{n:Nat}(h:n<256):((UInt8.ofNat n).toNat:Int)=n:=by simp only[UInt8.toNat_ofNat'];omega
end Go.Proofs.LL
