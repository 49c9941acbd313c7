/- Contracts of functions of impl, spec and laws. Conditions: those that each theorem states. -/
import Derived.Test.YtdgbmbjkbmpcbaaGreatDoorW16
set_option linter.all false
set_option maxRecDepth 20000
namespace Go.Proofs.LL
open Go Go.Proofs Go.RowKit
set_option maxHeartbeats 4000000
attribute [local irreducible] RunOp WL WC WDL WT WX
def noKeys:List Nat:=[28,320,336,325,328,339,44,342,333,345,348,351,323,24,73,359,353,356,407,299,177]
theorem keyed_ok{T:Nat}{v:Value}{w:World}(hn:∀t,t∈noKeys→Nat.beq T t=false):
  Does TP 224 [.iface T v] w fun u w'=>u= .bool true∧Ext w w':=by
 refine do1 Tryz.func224 ?_
 refine q ?_
 refine WL.q rfl (r_assertNo Fb.h Fo.h rfl (hn _ (by decide))) ?_
 refine q ?_
 refine WL.q rfl (r_assertNo Fb.h Fo.h rfl (hn _ (by decide))) ?_
 refine q ?_
 refine WL.q rfl (r_assertNo Fb.h Fo.h rfl (hn _ (by decide))) ?_
 refine q ?_
 refine WL.q rfl (r_assertNo Fb.h Fo.h rfl (hn _ (by decide))) ?_
 refine q ?_
 refine WL.q rfl (r_assertNo Fb.h Fo.h rfl (hn _ (by decide))) ?_
 refine q ?_
 refine WL.q rfl (r_assertNo Fb.h Fo.h rfl (hn _ (by decide))) ?_
 refine q ?_
 refine WL.q rfl (r_assertNo Fb.h Fo.h rfl (hn _ (by decide))) ?_
 refine q ?_
 refine WL.q rfl (r_assertNo Fb.h Fo.h rfl (hn _ (by decide))) ?_
 refine q ?_
 refine WL.q rfl (r_assertNo Fb.h Fo.h rfl (hn _ (by decide))) ?_
 refine q ?_
 refine WL.q rfl (r_assertNo Fb.h Fo.h rfl (hn _ (by decide))) ?_
 refine q ?_
 refine WL.q rfl (r_assertNo Fb.h Fo.h rfl (hn _ (by decide))) ?_
 refine q ?_
 refine WL.q rfl (r_assertNo Fb.h Fo.h rfl (hn _ (by decide))) ?_
 refine q ?_
 refine WL.q rfl (r_assertNo Fb.h Fo.h rfl (hn _ (by decide))) ?_
 refine q ?_
 refine WL.q rfl (r_assertNo Fb.h Fo.h rfl (hn _ (by decide))) ?_
 refine q ?_
 refine WL.q rfl (r_assertNo Fb.h Fo.h rfl (hn _ (by decide))) ?_
 refine q ?_
 refine WL.q rfl (r_assertNo Fb.h Fo.h rfl (hn _ (by decide))) ?_
 refine q ?_
 refine WL.q rfl (r_assertNo Fb.h Fo.h rfl (hn _ (by decide))) ?_
 refine q ?_
 refine WL.q rfl (r_assertNo Fb.h Fo.h rfl (hn _ (by decide))) ?_
 refine q ?_
 refine WL.q rfl (r_assertNo Fb.h Fo.h rfl (hn _ (by decide))) ?_
 refine q ?_
 refine WL.q rfl (r_assertNo Fb.h Fo.h rfl (hn _ (by decide))) ?_
 refine q ?_
 refine WL.q rfl (r_assertNo Fb.h Fo.h rfl (hn _ (by decide))) ?_
 refine q ?_
 exact fin1 rfl ⟨rfl,ch⟩
theorem keyed_kty{k:Int}(h:keyR k):∀t,t∈noKeys→Nat.beq (ktyK k) t=false:=by
 rcases h with rfl|rfl|rfl|rfl|rfl|rfl|rfl|rfl|rfl|rfl|rfl|rfl<;>decide
theorem RepA.key{A:Nat→Prop}{w:World}{x:V}{y:Value}(h:RepA A w x y)(hk:keyK x.kind):y= .iface (ktyK (rk x.kind)) (kval (rk x.kind) x.num x.text):=by
 obtain⟨k,n,t,ks,o,d⟩:=x
 simp only[RepA,RepX]at h
 simp only[V.kind,V.num,V.text]at hk⊢
 have hs:=scal_key (n:=n) (t:=t) hk
 rcases h with h|⟨h1,_⟩|⟨h1,_⟩|⟨h1,_⟩|⟨h1,_⟩
 ·rw[hs]at h;exact(Option.some.inj h).symm
 all_goals (unfold keyK at hk;omega)
theorem key_ne{x x':V}(hk:keyK x.kind)(hk':keyK x'.kind)(hp:plainOK x)(hp':plainOK x')(hne:asKey x≠asKey x'):
  KeyNe TP 20 (.iface (ktyK (rk x.kind)) (kval (rk x.kind) x.num x.text)) (.iface (ktyK (rk x'.kind)) (kval (rk x'.kind) x'.num x'.text)):=by
 have hR:=keyK_R hk
 have hR':=keyK_R hk'
 by_cases h:rk x.kind=rk x'.kind
 ·rw[← h]
  have hnum:∀z:V,plainOK z→rk z.kind=rk x.kind→NumOK (rk x.kind) z.num:=by
   intro z hz e
   by_cases h20:z.kind=20
   ·have e19:rk x.kind=19:=by rw[← e];simp[rk,h20]
    rw[e19]
    have:=hz.1.2.2.2.2.2.2.2.2
    exact⟨by omega,by omega,by omega,by omega,by omega,by omega,by omega,by omega,this⟩
   ·have:rk x.kind=z.kind:=by rw[← e];simp[rk,h20]
    rw[this];exact hz.1
  refine KeyNe_kind hR (hnum x hp rfl) (hnum x' hp' h.symm) (fun e=>?_) (fun e=>?_) (fun e=>?_) (fun e=>hne ?_)
  ·have e1:x.kind=17:=by unfold rk at e;split at e<;>omega
   have e2:x'.kind=17:=by rw[h]at e;unfold rk at e;split at e<;>omega
   exact⟨hp.2.2.1 e1,hp'.2.2.1 e2⟩
  ·have e1:x.kind<17:=by unfold rk at e;split at e<;>omega
   have e2:x'.kind<17:=by rw[h]at e;unfold rk at e;split at e<;>omega
   rw[hp.2.2.2.2.1 e1,hp'.2.2.2.2.1 e2]
  ·have e1:17≤x.kind:=by unfold rk at e;split at e<;>omega
   have e2:17≤x'.kind:=by rw[h]at e;unfold rk at e;split at e<;>omega
   rw[hp.2.2.2.2.2 (.inr e1),hp'.2.2.2.2.2 (.inr e2)]
  ·unfold asKey
   rw[e.1,e.2]
   have:(if x.kind=20 then(19:Int)else x.kind)=if x'.kind=20 then 19 else x'.kind:=h
   rw[this]
 ·refine KeyNe_ty fun e=>h ?_
  rw[← kndT_kty hR,← kndT_kty hR',e]
def MapOK(ks:List V):Prop:=ks.length%2=0∧(∀x∈keysOf ks,keyK x.kind∧plainOK x)∧((keysOf ks).map asKey).Nodup
theorem keysOf_take:∀(i:Nat) (ks:List V),keysOf (ks.take (2 * i))=(keysOf ks).take i
 |0,ks=>by simp[keysOf]
 |i+1,[]=>by simp[keysOf]
 |i+1,[x]=>by simp[keysOf,show 2 * (i+1)=(2 * i)+1+1 by omega]
 |i+1,k::v::r=>by
  rw[show 2 * (i+1)=(2 * i)+1+1 by omega]
  simp only[List.take_succ_cons,keysOf,keysOf_take i r]
theorem keysOf_get:∀(i:Nat) (ks:List V) (h:2 * i+1<ks.length),(keysOf ks)[i]?=some ks[2 * i]
 |0,k::v::r,_=>by simp[keysOf]
 |i+1,k::v::r,h=>by
  simp only[List.length_cons]at h
  have:=keysOf_get i r (by omega)
  simp only[keysOf,List.getElem?_cons_succ,this]
  congr 1
 |_,[],h=>by simp at h
 |_,[_],h=>by simp at h
theorem RepM.keys{A:Nat→Prop}{w:World}:∀ {ks:List V} {l:List (Value×Value)},RepM A w ks l→∀p∈l,∃x∈keysOf ks,RepA A w x p.1
 |[],l,h,p,hp=>by simp only[RepM]at h;subst h;cases hp
 |[_],l,h,p,hp=>by simp only[RepM]at h;subst h;cases hp
 |k::v::r,l,h,p,hp=>by
  simp only[RepM]at h
  obtain⟨a,b,l',rfl,h1,h2,h3⟩:=h
  rcases List.mem_cons.1 hp with rfl|hp
  ·exact⟨k,by simp[keysOf],h1⟩
  ·obtain⟨x,hx,h4⟩:=RepM.keys h3 p hp
   exact⟨x,by simp[keysOf,hx],h4⟩
theorem nodup_take{l:List V}{i:Nat}{x y:V}(hn:(l.map asKey).Nodup)(hx:l[i]?=some x)(hy:y∈l.take i):asKey x≠asKey y:=by
 obtain⟨j,hj,hje⟩:=List.mem_iff_getElem.1 hy
 obtain⟨hi,hxe⟩:=List.getElem?_eq_some_iff.1 hx
 simp only[List.length_take]at hj
 rw[List.getElem_take]at hje
 intro e
 have h1:=(List.nodup_iff_pairwise_ne.1 hn)
 rw[List.pairwise_iff_getElem]at h1
 have:=h1 j i (by simp;omega) (by simpa using hi) (by omega)
 simp only[List.getElem_map]at this
 rw[hje,hxe]at this
 exact this e.symm
theorem mapItems_ok{rb ab:Nat}{ks:List V}{body r:List UInt8}{w:World}{v0:Value}(hks:∀x∈ks,Reads x)(hM:MapOK ks)(hle:ks.length≤65536)(hEn:EncL ks body)(hab:Blk w ab [v0])(hne:rb<ab)(hR:Rd w rb (body++r)):
  Does TP 204 [.pointer (some ⟨ab,0,none⟩),.pointer (some ⟨rb,0,none⟩),.int .u32 (ks.length:Int)] w fun u w'=>u= .nilIface∧(∃m l,Blk w' ab [.map (some m)]∧w.heap.size≤m∧MapO w' m l∧RepM (fun b=>w.heap.size≤b) w' ks l)∧Rd w' rb r∧Evo (fun k=>k≠rb∧k≠ab) w w':=by
 obtain⟨hev,hkeys,hnd⟩:=hM
 have hr0:=hab.lt
 refine do1 Tryz.func204 ?_
 refine q ?_
 refine WL.q rfl (r_quo (by decide) rfl rfl) ?_
 refine WL.l rfl (l_mkMap Fo.h (fun o h=>by cases h;exact⟨_,_,rfl⟩)) ?_
 rintro v1 w1 ⟨rfl,hMo,e1⟩
 have hx1:=hMo.lt
 refine q ?_
 replace hR:=hR.mono e1
 replace hab:=hab.mono e1
 refine WC.loop2 (ι:=Nat) [(0,_),(1,_),(2,_),(6,_),(7,_)] (fun i=>[(8,.int .u32 ((2 * i:Nat):Int))]) (fun i wi=>(∃l bi,MapO wi w.heap.size l∧2 * i≤ks.length∧RepM (fun b=>w1.heap.size≤b) wi (ks.take (2 * i)) l∧EncL (ks.drop (2 * i)) bi∧Rd wi rb (bi++r))∧Evo (fun k=>k<w1.heap.size∧k≠w.heap.size∧k≠rb) w1 wi) (fun i=>ks.length-2 * i) 0 sb sb (⟨⟨[],body,hMo,Nat.zero_le _,by simp[RepM],hEn,hR⟩,Evo.refl _⟩) ?_
 intro i wi1 hh;obtain⟨⟨l,bi,hMo,hi2,hV,hB,hR⟩,hE⟩:=hh
 have hvl:=hV.length
 have hwi:=hE.size
 rcases Nat.lt_or_ge (2 * i) ks.length with hi|hi
 ·have hi1:2 * i+1<ks.length:=by omega
  rw[List.drop_eq_getElem_cons hi,List.drop_eq_getElem_cons hi1]at hB
  cases hB with
  |cons hB1 hB2=>
  cases hB2 with
  |cons hB2 hB3=>
  rename_i b1 b2 b3
  rw[List.append_assoc,List.append_assoc]at hR
  have hw:IntKind.u32.wrap (((2 * i:Nat):Int)+2)=((2 * (i+1):Nat):Int):=by
   rw[wu32 (by omega) (by omega)];omega
  have htk:ks.take (2 * (i+1))=ks.take (2 * i)++[ks[2 * i],ks[2 * i+1]]:=by
   rw[show 2 * (i+1)=2 * i+1+1 by omega,List.take_add_one,List.take_add_one,List.getElem?_eq_getElem hi1,List.getElem?_eq_getElem hi,List.append_assoc];rfl
  have hdr:ks.drop (2 * (i+1))=ks.drop (2 * i+1+1):=by rw[show 2 * (i+1)=2 * i+1+1 by omega]
  have hkm:ks[2 * i]∈keysOf ks:=List.mem_of_getElem? (keysOf_get i ks hi1)
  have hkk:=hkeys _ hkm
  refine q ?_
  refine cl rfl (hks _ (List.getElem_mem hi) _ _ _ _ hB1 hR) ?_
  rintro v2 w2 ⟨yk,rfl,hZK,hR,e2⟩
  have hq1:=e2.size
  have hZV:=RepM.mono hV e2 (by intro b h1 h2;dsimp only[Nb];omega)
  refine q ?_
  refine cl rfl (hks _ (List.getElem_mem hi1) _ _ _ _ hB2 hR) ?_
  rintro v3 w3 ⟨yv,rfl,hZW,hR,e3⟩
  have hy:=hZK.key hkk.1
  subst hy
  refine q ?_
  refine cl rfl (keyed_ok (keyed_kty (keyK_R hkk.1))) ?_
  rintro v4 w4 ⟨rfl,e4⟩
  refine q ?_
  replace hMo:=((hMo.mono e2).mono e3).mono e4
  refine WL.l0 (l_mapNew Fo.h rfl rfl rfl hMo (KeyOK_scal (keyK_R hkk.1) (fun e=>hkk.2.2.2.1 (by unfold rk at e;split at e<;>omega))) (findKey_if Fb.h (fun e ch=>by obtain⟨j,hj,rfl⟩:=mkEs_mem ch;obtain⟨x',hx',hr'⟩:=RepM.keys hV _ (List.getElem_mem hj);rw[keysOf_take]at hx';have hx2:=hkeys _ (List.mem_of_mem_take hx');show KeyNe _ _ _ l[j].1;rw[hr'.key hx2.1];exact key_ne hkk.1 hx2.1 hkk.2 hx2.2 (nodup_take hnd (keysOf_get i ks hi1) hx')))) ?_
  rintro v5 w5 ⟨hMo,e5⟩
  refine q ?_
  refine WL.q rfl (r_add rfl rfl) ?_
  refine q ?_
  replace hZK:=((hZK.mono e3).mono e4).mono e5
  replace hZV:=((hZV.mono e3).mono e4).mono e5
  replace hZW:=(hZW.mono e4).mono e5
  have hV2:=RepM.snoc (by rw[List.length_take,Nat.min_eq_left (Nat.le_of_lt hi)];omega) hZV (hZK.weaken (B:=fun b=>w1.heap.size≤b) (fun b h=>by omega)) (hZW.weaken (B:=fun b=>w1.heap.size≤b) (fun b h=>by omega))
  rw[← htk]at hV2
  rw[← hdr]at hB3
  replace hR:=(hR.mono e4).mono e5
  exact⟨i+1,sb,sb,⟨⟨_,_,hMo,by omega,hV2,hB3,hR⟩,(((((hE.then e2).then e3).then e4).then e5))⟩,by omega⟩
 ·rw[List.drop_eq_nil_of_le hi]at hB
  cases hB
  rw[List.take_of_length_le hi]at hV
  refine q ?_
  replace hab:=hab.mono hE
  refine WL.l0 (lst rfl rfl hab) ?_
  rintro _ w2 ⟨hab,e2,hz2⟩
  refine q ?_
  replace hR:=hR.mono e2
  replace hMo:=hMo.mono e2
  replace hV:=hV.mono e2
  exact fin1 rfl ⟨rfl,⟨_,l,hab,Nat.le_refl _,hMo,RepM.weaken hV (fun b h=>by omega)⟩,by simpa using hR,ch⟩
theorem mapAny_ok{rb ab:Nat}{ks:List V}{c:UInt8}{hd body r:List UInt8}{w:World}{v0:Value}(hks:∀x∈ks,Reads x)(hM:MapOK ks)(hEn:EncL ks body)(hh:Hd 0xc1 0xd1 c hd ks.length body)(hab:Blk w ab [v0])(hne:rb<ab)(hR:Rd w rb (c::(hd++(body++r)))):
  Does TP 131 [.pointer (some ⟨ab,0,none⟩),.pointer (some ⟨rb,0,none⟩)] w fun u w'=>u= .nilIface∧(∃m l,Blk w' ab [.map (some m)]∧w.heap.size≤m∧MapO w' m l∧RepM (fun b=>w.heap.size≤b) w' ks l)∧Rd w' rb r∧Evo (fun k=>k≠rb∧k≠ab) w w':=by
 have hr0:=hab.lt
 refine do1 Tryz.func131 ?_
 refine q ?_
 refine cl rfl (readMapHeader_ok hh hR) ?_
 rintro v1 w1 ⟨rfl,hR,e1⟩
 refine q ?_
 replace hab:=hab.mono e1
 refine cl rfl (mapItems_ok hks hM hh.le.1 hEn hab hne hR) ?_
 rintro v2 w2 ⟨rfl,⟨m,l,hab,hm,hMo,hV⟩,hR,e2⟩
 have hq:=e1.size
 refine q ?_
 exact fin1 rfl ⟨rfl,⟨m,l,hab,by omega,hMo,hV.weaken (fun b h=>by omega)⟩,hR,ch⟩
def KeysTold(l:List (Value×Value)):Prop:=
 (∀p∈l,∃k n t,keyR k∧p.1= .iface (ktyK k) (kval k n t))∧
 ∀(i j:Nat) (hi:i<l.length) (hj:j<l.length),i≠j→∀t t':List UInt8,l[i].1= .iface 9 (str t)→l[j].1= .iface 9 (str t')→t≠t'
def txtOf:Value→List UInt8
 | .iface _ (.string s)=>s.data.toList
 |_=>[]
def strKV(p:Value×Value):Value×Value:=(str (txtOf p.1),p.2)
theorem seen_snoc{seen:List Nat}{i n:Nat}(hn:seen.Nodup)(hlt:∀j∈seen,j<n)(hi:i<n)(hni:i ∉ seen):(seen++[i]).Nodup∧(∀j∈seen++[i],j<n)∧n-(seen++[i]).length<n-seen.length:=by
 have h1:(seen++[i]).Nodup:=by
  rw[List.nodup_append]
  exact⟨hn,by simp,fun a ha b hb=>by simp at hb;subst hb;exact fun e=>hni (e▸ha)⟩
 have h2:∀j∈seen++[i],j<n:=by
  intro j hj
  rcases List.mem_append.1 hj with hj|hj
  ·exact hlt j hj
  ·simp at hj;omega
 have h3:(seen++[i]).length≤n:=by
  have:=List.Nodup.length_le_of_subset (l₂:=List.range n) h1 (fun j hj=>List.mem_range.2 (h2 j hj))
  simpa using this
 refine⟨h1,h2,?_⟩
 simp at h3⊢;omega
theorem seen_perm{seen:List Nat}{n:Nat}(hn:seen.Nodup)(hlt:∀j∈seen,j<n)(hall:∀i,i<n→i∈seen):seen.Perm (List.range n):=
 (List.perm_ext_iff_of_nodup hn List.nodup_range).2 fun a=>⟨fun h=>List.mem_range.2 (hlt a h),fun h=>hall a (List.mem_range.1 h)⟩
theorem map_range_get{α β:Type}[Inhabited α](l:List α)(f:α→β):(List.range l.length).map (fun i=>f (l[i]?.getD default))=l.map f:=by
 apply List.ext_getElem
 ·simp
 ·intro i h1 h2
  have:i<l.length:=by simpa using h2
  simp[this]
theorem strKeys_fresh{l:List (Value×Value)}(hk:KeysTold l)(hall:∀p∈l,∃t,p.1= .iface 9 (str t)){seen:List Nat}(hlt:∀i∈seen,i<l.length){j:Nat}(hj:j<l.length)(hnj:j ∉ seen){t:List UInt8}(hke:l[j].1= .iface 9 (str t)):
  ∀e∈mkEs 0 (seen.map fun i=>strKV (l[i]?.getD default)),∃s:ByteArray,e.key= .string s∧s≠⟨t.toArray⟩:=by
 intro e he
 obtain⟨i,hi,rfl⟩:=mkEs_mem he
 simp only[List.length_map]at hi
 have hil:=hlt _ (List.getElem_mem hi)
 obtain⟨t',ht'⟩:=hall _ (List.getElem_mem hil)
 refine⟨⟨t'.toArray⟩,?_,fun e=>?_⟩
 ·simp[strKV,hil,ht',txtOf,str]
 ·have hne:seen[i]≠j:=fun e=>hnj (e▸List.getElem_mem hi)
  refine hk.2 _ _ hil hj hne t' t ht' hke ?_
  simpa using e
theorem readMapItems_ok{m:Nat}{l:List (Value×Value)}{w:World}(hM:MapO w m l)(hk:KeysTold l)(hle:l.length≤65536):
  Does TP 220 [.map (some m)] w fun u w'=>∃y,u= .tuple #[y,.nilIface]∧((y= .iface 299 (.map (some m)))∨(∃m',y= .iface 177 (.map (some m'))∧w.heap.size≤m'∧(∀p∈l,∃t,p.1= .iface 9 (str t))∧∃kvs,MapO w' m' kvs∧kvs.Perm (l.map strKV)))∧Ext w w':=by
 have hm0:=hM.lt
 rcases Nat.eq_zero_or_pos l.length with h0|h0
 ·refine do2 Tryz.func220 ?_
  refine q ?_
  refine WC.scope ?_
  refine q ?_
  refine WL.q rfl (r_lenm Fo.h rfl (Ext.refl _) hM) ?_
  refine q ?_
  exact fin2 rfl rfl ⟨_,rfl,.inl rfl,ch⟩
 ·refine do2 Tryz.func220 ?_
  refine q ?_
  refine WC.scope ?_
  refine q ?_
  refine WL.q rfl (r_lenm Fo.h rfl (Ext.refl _) hM) ?_
  refine q ?_
  refine WL.l rfl (l_range Fo.h rfl hM) ?_
  rintro v1 w1 ⟨rfl,hI,e1⟩
  have hx1:=hI.lt
  refine q ?_
  replace hM:=hM.mono e1
  refine WC.loop2 (ι:=(List Nat)) [(0,_),(2,_),(3,_),(17,_)] (fun i=>[(4,.bool true)]) (fun i wi=>ItO wi w.heap.size m l.length i∧i.Nodup∧(∀j∈i,j<l.length)∧(∀j (h:j<l.length),j∈i→∃t,l[j].1= .iface 9 (str t))∧Evo (fun k=>k≠w.heap.size) w1 wi) (fun i=>l.length-i.length) [] sb sb (⟨hI,.nil,by simp,by simp,Evo.refl _⟩) ?_
  intro i wi1 hh;obtain⟨hI,hnd,hlt,hstr,hE⟩:=hh
  have hwi:=hE.size
  replace hM:=hM.mono hE
  rcases next_or (P:=TP) hM hI with⟨hall,hN⟩|⟨j,hj,hnj,hN⟩
  ·have hper:=seen_perm hnd hlt hall
   have hallS:∀p∈l,∃t,p.1= .iface 9 (str t):=by
    intro p hp
    obtain⟨j,hj,rfl⟩:=List.mem_iff_getElem.1 hp
    exact hstr j hj (hall j hj)
   refine q ?_
   refine WL.l rfl (hN rfl) ?_
   rintro v2 w2 ⟨rfl,e2⟩
   refine q ?_
   replace hM:=hM.mono e2
   refine WL.q rfl (r_lenm Fo.h rfl (Ext.refl _) hM) ?_
   refine WL.l rfl (l_mkMap Fo.h (fun o h=>by cases h;exact⟨_,_,rfl⟩)) ?_
   rintro v3 w3 ⟨rfl,hM2,e3⟩
   have hx2:=hM2.lt
   refine q ?_
   replace hM:=hM.mono e3
   refine WL.l rfl (l_range Fo.h rfl hM) ?_
   rintro v4 w4 ⟨rfl,hI2,e4⟩
   have hx3:=hI2.lt
   refine q ?_
   have hq2:=e2.size
   replace hM:=hM.mono e4
   replace hM2:=hM2.mono e4
   refine WC.loop2 (ι:=(List Nat)) [(0,_),(2,_),(3,_),(4,_),(6,_),(17,_),(34,_)] (fun i=>[]) (fun i wi=>ItO wi w3.heap.size m l.length i∧i.Nodup∧(∀j∈i,j<l.length)∧MapO wi w2.heap.size (i.map fun j=>strKV (l[j]?.getD default))∧Evo (fun k=>k≠w3.heap.size∧k≠w2.heap.size) w4 wi) (fun i=>l.length-i.length) [] sb .nil (⟨hI2,.nil,by simp,hM2,Evo.refl _⟩) ?_
   intro i wi2 hh;obtain⟨hI2,hnd',hlt',hM2,hE⟩:=hh
   replace hM:=hM.mono hE
   rcases next_or (P:=TP) hM hI2 with⟨hall',hN⟩|⟨j,hj,hnj,hN⟩
   ·have hper':=seen_perm hnd' hlt' hall'
    refine q ?_
    refine WL.l rfl (hN rfl) ?_
    rintro v5 w5 ⟨rfl,e5⟩
    refine q ?_
    replace hM2:=hM2.mono e5
    exact fin2 rfl rfl ⟨_,rfl,.inr ⟨_,rfl,by omega,hallS,_,hM2,by rw[← map_range_get l strKV];exact hper'.map _⟩,ch⟩
   ·obtain⟨hnd2,hlt2,hmu⟩:=seen_snoc hnd' hlt' hj hnj
    obtain⟨t,hke⟩:=hallS _ (List.getElem_mem hj)
    have hfr:=strKeys_fresh hk hallS hlt' hj hnj hke
    have hmap:((i++[j]).map fun j=>strKV (l[j]?.getD default))=(i.map fun j=>strKV (l[j]?.getD default))++[(str t,l[j].2)]:=by
     simp[strKV,hj,hke,txtOf,str]
    refine q ?_
    refine WL.l rfl (hN rfl) ?_
    rintro v5 w5 ⟨rfl,hI2,e5⟩
    refine q ?_
    replace hM:=hM.mono e5
    refine WL.q rfl (r_entryE rfl hj hke rfl (Ext.refl _) hM hI2) ?_
    refine q ?_
    replace hM2:=hM2.mono e5
    refine WL.l0 (l_mapNew Fo.h rfl rfl rfl hM2 (KeyOK.str Fb.h) (findKey_str Fb.h hfr)) ?_
    rintro v6 w6 ⟨hM2,e6⟩
    refine q ?_
    have hM3:=(show MapO _ _ (_++[(str t,l[j].2)])from hM2)
    rw[← hmap]at hM3
    replace hI2:=hI2.mono e6
    exact⟨(i++[j]),sb,.nil,⟨hI2,hnd2,hlt2,hM3,(((hE.then e5).then e6))⟩,hmu⟩
  ·obtain⟨hnd2,hlt2,hmu⟩:=seen_snoc hnd hlt hj hnj
   obtain⟨k,n,t,hkr,hke⟩:=hk.1 _ (List.getElem_mem hj)
   by_cases hk19:k=19
   ·subst hk19
    have hke':l[j].1= .iface 9 (str t):=hke
    refine q ?_
    refine WL.l rfl (hN rfl) ?_
    rintro v2 w2 ⟨rfl,hI,e2⟩
    refine q ?_
    replace hM:=hM.mono e2
    refine WL.q rfl (r_entryE rfl hj hke' rfl (Ext.refl _) hM hI) ?_
    refine q ?_
    have hstr2:∀j' (h:j'<l.length),j'∈i++[j]→∃t,l[j'].1= .iface 9 (str t):=by
     intro j' h' hm
     rcases List.mem_append.1 hm with hm|hm
     ·exact hstr j' h' hm
     ·have:j'=j:=by simpa using hm
      subst this;exact⟨t,hke'⟩
    exact⟨(i++[j]),sb,sb,⟨hI,hnd2,hlt2,hstr2,((hE.then e2))⟩,hmu⟩
   ·have hn:∀T,T∈[9,143]→Nat.beq (ktyK k) T=false:=by
     have:ktyK k≠9∧ktyK k≠143:=by
      rcases hkr with rfl|rfl|rfl|rfl|rfl|rfl|rfl|rfl|rfl|rfl|rfl|rfl<;>first|(exact absurd rfl hk19)|decide
     intro T hT
     have hT':T=9∨T=143:=by simpa using hT
     cases hq:Nat.beq (ktyK k) T with
     |false=>rfl
     |true=>
      have:=Nat.eq_of_beq_eq_true hq
      omega
    refine q ?_
    refine WL.l rfl (hN rfl) ?_
    rintro v2 w2 ⟨rfl,hI,e2⟩
    refine q ?_
    replace hM:=hM.mono e2
    refine WL.q rfl (r_entryE rfl hj hke rfl (Ext.refl _) hM hI) ?_
    refine q ?_
    refine WL.q rfl (r_assertNo Fb.h Fo.h rfl (hn _ (by decide))) ?_
    refine q ?_
    refine WL.q rfl (r_assertNo Fb.h Fo.h rfl (hn _ (by decide))) ?_
    refine q ?_
    exact fin2 rfl rfl ⟨_,rfl,.inl rfl,ch⟩
theorem readAnyList_ok{rb:Nat}{ks:List V}{hd body r:List UInt8}{w:World}(hks:∀x∈ks,Reads x)(hE:EncL ks body)(hh:LstH hd ks.length body)(hR:Rd w rb (hd++(body++r))):
  Does TP 208 [.pointer (some ⟨rb,0,none⟩)] w fun u w'=>∃y,u= .tuple #[y,.nilIface]∧(∃p c cells,y= .iface 320 (.slice p ks.length c)∧ks.length≤c∧RepL (fun b=>w.heap.size≤b) w' ks cells∧(ks=[]∨∃b,p=some ⟨b,0,none⟩∧w.heap.size≤b∧At w' b 0 cells))∧Rd w' rb r∧Evo (Nb rb) w w':=by
 have hr0:=hR.lt
 refine do2 Tryz.func208 ?_
 have he:Evo (Nb rb) w w:=Evo.refl w
 refine q ?_
 have hs1:=he.size
 refine al ?_
 rintro _ w1 ⟨rfl,hb1,e1⟩
 refine q ?_
 replace hR:=hR.mono e1
 refine cl rfl (list_ok hks hE hb1 hr0 hh hR) ?_
 rintro v2 w2 ⟨rfl,⟨p,c,cells,hb1,hc,hV,hat⟩,hR,e2⟩
 have hq:=e1.size
 refine q ?_
 replace he:=(he.then e1).then e2
 exact fin2 rfl rfl ⟨_,rfl,⟨p,c,cells,rfl,hc,hV.weaken (fun b h=>by omega),hat.imp id (fun⟨b,h1,h2,h3⟩=>⟨b,h1,by omega,h3⟩)⟩,hR,he⟩
theorem RepM.get{A:Nat→Prop}{w:World}:∀ {ks:List V} {l:List (Value×Value)} {i:Nat} (hi:i<l.length),RepM A w ks l→∃x,(keysOf ks)[i]?=some x∧RepA A w x l[i].1
 |[],l,i,hi,h=>by simp only[RepM]at h;subst h;simp at hi
 |[_],l,i,hi,h=>by simp only[RepM]at h;subst h;simp at hi
 |k::v::r,l,i,hi,h=>by
  simp only[RepM]at h
  obtain⟨a,b,l',rfl,h1,h2,h3⟩:=h
  cases i with
  |zero=>exact⟨k,by simp[keysOf],h1⟩
  |succ i=>
   obtain⟨x,h4,h5⟩:=RepM.get (by simpa using hi) h3
   exact⟨x,by simpa[keysOf]using h4,h5⟩
theorem told_of{A:Nat→Prop}{w:World}{ks:List V}{l:List (Value×Value)}(h:RepM A w ks l)(hM:MapOK ks):KeysTold l:=by
 obtain⟨hev,hkeys,hnd⟩:=hM
 refine⟨fun p hp=>?_,fun i j hi hj hne t t' e1 e2=>?_⟩
 ·obtain⟨x,hx,h1⟩:=h.keys p hp
  have:=hkeys x hx
  exact⟨rk x.kind,x.num,x.text,keyK_R this.1,h1.key this.1⟩
 ·obtain⟨x,hx,h1⟩:=h.get hi
  obtain⟨x',hx',h2⟩:=h.get hj
  have g1:=hkeys x (List.mem_of_getElem? hx)
  have g2:=hkeys x' (List.mem_of_getElem? hx')
  have k1:=h1.key g1.1
  have k2:=h2.key g2.1
  rw[e1]at k1
  rw[e2]at k2
  simp only[Value.iface.injEq]at k1 k2
  have r1:rk x.kind=19:=by rw[← kndT_kty (keyK_R g1.1),← k1.1];rfl
  have r2:rk x'.kind=19:=by rw[← kndT_kty (keyK_R g2.1),← k2.1];rfl
  have t1:t=x.text:=by
   have:=k1.2;rw[r1]at this
   simpa[kval,str]using this
  have t2:t'=x'.text:=by
   have:=k2.2;rw[r2]at this
   simpa[kval,str]using this
  intro e
  have hki:17≤x.kind:=by unfold rk at r1;split at r1<;>omega
  have hkj:17≤x'.kind:=by unfold rk at r2;split at r2<;>omega
  have ha:asKey x=asKey x':=by
   unfold asKey
   rw[g1.2.2.2.2.2.2 (.inr hki),g2.2.2.2.2.2.2 (.inr hkj),← t1,← t2,e]
   have q1:(if x.kind=20 then(19:Int)else x.kind)=19:=r1
   have q2:(if x'.kind=20 then(19:Int)else x'.kind)=19:=r2
   rw[q1,q2]
  obtain⟨hi',hxe⟩:=List.getElem?_eq_some_iff.1 hx
  obtain⟨hj',hxe'⟩:=List.getElem?_eq_some_iff.1 hx'
  have hpw:=List.pairwise_iff_getElem.1 (List.nodup_iff_pairwise_ne.1 hnd)
  rcases Nat.lt_or_gt_of_ne hne with hlt|hlt
  ·have:=hpw i j (by simpa using hi') (by simpa using hj') hlt
   simp only[List.getElem_map,hxe,hxe']at this
   exact this ha
  ·have:=hpw j i (by simpa using hj') (by simpa using hi') hlt
   simp only[List.getElem_map,hxe,hxe']at this
   exact this ha.symm
theorem readAnyMap_ok{rb:Nat}{ks:List V}{c:UInt8}{hd body r:List UInt8}{w:World}(hks:∀x∈ks,Reads x)(hM:MapOK ks)(hE:EncL ks body)(hh:Hd 0xc1 0xd1 c hd ks.length body)(hR:Rd w rb (c::(hd++(body++r)))):
  Does TP 209 [.pointer (some ⟨rb,0,none⟩)] w fun u w'=>∃y,u= .tuple #[y,.nilIface]∧(∃m kvs kvs0,w.heap.size≤m∧MapO w' m kvs∧RepM (fun b=>w.heap.size≤b) w' ks kvs0∧((y= .iface 299 (.map (some m))∧kvs=kvs0)∨
   (y= .iface 177 (.map (some m))∧∃ss:List (List UInt8×Value),kvs0=ss.map (fun p=>(.iface 9 (str p.1),p.2))∧kvs.Perm (ss.map fun p=>(str p.1,p.2)))))∧Rd w' rb r∧Evo (Nb rb) w w':=by
 have hr0:=hR.lt
 refine do2 Tryz.func209 ?_
 have he:Evo (Nb rb) w w:=Evo.refl w
 refine q ?_
 have hs1:=he.size
 refine al ?_
 rintro _ w1 ⟨rfl,hb1,e1⟩
 refine q ?_
 replace hR:=hR.mono e1
 refine cl rfl (mapAny_ok hks hM hE hh hb1 hr0 hR) ?_
 rintro v2 w2 ⟨rfl,⟨m,l,hb1,hm,hMo,hV⟩,hR,e2⟩
 have hq:=e1.size
 refine q ?_
 refine cl rfl (readMapItems_ok hMo (told_of hV hM) (by rw[hV.length];have:=hh.le.1;omega)) ?_
 rintro v3 w3 ⟨y,rfl,hy,e3⟩
 have hq2:=e2.size
 refine q ?_
 replace hV:=hV.mono e3
 have hW:=hV.weaken (B:=fun b=>w.heap.size≤b) (fun b h=>by omega)
 replace hR:=hR.mono e3
 replace he:=((he.then e1).then e2).then e3
 refine fin2 rfl rfl ⟨_,rfl,?_,hR,he⟩
 rcases hy with rfl|⟨m',rfl,hm',hall,kvs,hM',hp⟩
 replace hMo:=hMo.mono e3
 ·exact⟨m,l,l,by omega,hMo,hW,.inl ⟨rfl,rfl⟩⟩
 ·refine⟨m',kvs,l,by omega,hM',hW,.inr ⟨rfl,l.map fun p=>(txtOf p.1,p.2),?_,?_⟩⟩
  ·rw[List.map_map]
   refine(List.map_id l).symm.trans (List.map_congr_left fun p hp=>?_)
   obtain⟨t,ht⟩:=hall p hp
   obtain⟨a,b⟩:=p
   simp only at ht
   subst ht
   simp[txtOf,str]
  ·rw[List.map_map]
   exact hp
end Go.Proofs.LL
