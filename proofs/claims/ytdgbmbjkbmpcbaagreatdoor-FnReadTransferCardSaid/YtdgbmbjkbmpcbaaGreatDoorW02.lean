/- Contracts of functions and own laws. Conditions: those that each theorem states. -/
import Derived.Test.YtdgbmbjkbmpcbaaGreatDoorW01
import Derived.Deep.RegionHeld3
set_option linter.all false
set_option autoImplicit true
set_option relaxedAutoImplicit true
namespace Go.Proofs.LL
open Go Go.RowKit
def ip(ops:Array Oper)(listed:Array Bool):Prop:=
 listed.size=ops.size∧∀j o,ops[j]?=some o→listed.getD j false=true→∀e∈o.after,Region.binds .any e=true→listed.getD e.on false=true
theorem fR{ops:Array Oper}{listed:Array Bool}{j:Nat}(h:ip ops listed)(hj:j∈Region.ready .any ops listed):ip ops (listed.setIfInBounds j true):=by
 refine⟨by simpa using h.1,fun k o hk hl e he hb=>?_⟩
 obtain⟨_,oj,hoj,hall⟩:=mem_ready.1 hj
 by_cases hjk:j=k
 ·subst hjk
  rw[hk]at hoj
  cases hoj
  exact getD_set_true (hall e he hb)
 ·rw[getD_set_ne false hjk]at hl
  exact getD_set_true (h.2 k o hk hl e he hb)
theorem kR(ops:Array Oper)(hn:n=ops.size):ip ops (Array.replicate n false):=by
 refine⟨by simpa using hn,fun j o _ hl=>?_⟩
 simp only[Array.getD_eq_getD_getElem?]at hl
 rcases Nat.lt_or_ge j n with h|h
 ·simp[h]at hl
 ·simp[Array.getElem?_eq_none,h]at hl
def Bn(ops:Array Oper):Nat→Nat→Nat→Bool
 |0,_,_=>false
 |f+1,i,L=>match ops[L]? with
  |some o=>o.after.any fun e=>Region.binds .any e&&(Nat.beq e.on i||Bn ops f i e.on)
  |none=>false
theorem oZ{ops:Array Oper}{listed:Array Bool}(hc:ip ops listed):∀(f i L:Nat),Bn ops f i L=true→listed.getD L false=true→listed.getD i false=true
 |0,_,_,h,_=>by cases h
 |f+1,i,L,h,hL=>by
  unfold Bn at h
  split at h
  ·rename_i o ho
   obtain⟨e,he,hb⟩:=Array.any_eq_true'.1 h
   simp only[Bool.and_eq_true,Bool.or_eq_true]at hb
   have h1:=hc.2 L o ho hL e he hb.1
   rcases hb.2 with h2|h2
   ·have:e.on=i:=Nat.eq_of_beq_eq_true h2
    rw[← this];exact h1
   ·exact oZ hc f i e.on h2 h1
  ·cases h
def gz(P:Program)(ops:Array Oper)(Q:Exit→Act→World→Prop)(S:World→Prop)(L:Nat):Nat→Array Bool→Act→World→Prop
 |0,listed,a,w=>Region.ready .any ops listed=[]∧Q .normal a w
 |fuel+1,listed,a,w=>
  (Region.ready .any ops listed=[]→Q .normal a w)∧
  ∀i∈Region.ready .any ops listed,wpOp P ops Q i (fun a' w'=>((listed.setIfInBounds i true).getD L false=false→S w')∧gz P ops Q S L fuel (listed.setIfInBounds i true) a' w') a w
theorem kD{ops:Array Oper}{Q:Exit→Act→World→Prop}:∀(fuel:Nat) (listed:Array Bool) (a:Act) (w:World),gz P ops Q S L fuel listed a w→wpAny P .any ops Q fuel listed a w
 |0,_,_,_,h=>h
 |fuel+1,_,_,_,h=>⟨h.1,fun i hi=>wpOp_mono (fun a' w' h'=>kD fuel _ a' w' h'.2) (h.2 i hi)⟩
theorem tw{listed:Array Bool}(h:listed.getD i true=false):listed.getD i false=false:=by
 rcases Nat.lt_or_ge i listed.size with h'|h'
 ·simp[h']at h⊢;exact h
 ·simp[Array.getElem?_eq_none h']at h
theorem lz{ops:Array Oper}{Q:Exit→Act→World→Prop}{i:Nat}(hi:ops[i]?=some oi)(hsel:∀(j:Nat) (o:Oper) cs b,ops[j]?=some o→o.op≠ .select cs b)
  (hQ:∀c a w,Q (.panic c) (a.put oi.dst v) w→Q (.panic c) a w) (hiL:i≠L) (hdep:∀listed,ip ops listed→listed.getD L false=true→listed.getD i false=true):
  ∀(fuel:Nat) (listed:Array Bool) (a:Act) (w:World),ip ops listed→
   (∀j oj,ops[j]?=some oj→j≠i→listed.getD j true=false→(∀e∈oj.after,Region.binds .any e=true→e.on≠i)→oi.apart ops oj=true)→
   i∈Region.ready .any ops listed→YieldsIf P ops S oi v a→(listed.getD L false=false→S w)→
   gz P ops Q S L fuel (listed.setIfInBounds i true) (a.put oi.dst v) w→gz P ops Q S L (fuel+1) listed a w:=by
 have hSi:∀(listed:Array Bool) (w:World),ip ops listed→i∈Region.ready .any ops listed→(listed.getD L false=false→S w)→S w:=by
  intro listed w hc hr hS
  refine hS ?_
  cases hq:listed.getD L false with
  |false=>rfl
  |true=>
   have h1:=hdep listed hc hq
   rw[tw (mem_ready.1 hr).1]at h1
   cases h1
 intro fuel
 induction fuel with
 |zero=>
  intro listed a w hc _ hr hy hS H
  refine⟨fun h=>(by rw[h]at hr;cases hr),fun j hj=>?_⟩
  by_cases hji:j=i
  ·subst hji;exact hy.wpOp hi (hSi _ _ hc hr hS) ⟨fun h=>hS (by rw[getD_set_ne false hiL]at h;exact h),H⟩
  ·have:=ready_mono hj hji
   rw[H.1]at this
   cases this
 |succ fuel ih=>
  intro listed a w hc hfree hr hy hS H
  refine⟨fun h=>(by rw[h]at hr;cases hr),fun j hj=>?_⟩
  by_cases hji:j=i
  ·subst hji;exact hy.wpOp hi (hSi _ _ hc hr hS) ⟨fun h=>hS (by rw[getD_set_ne false hiL]at h;exact h),H⟩
  ·have h1:=H.2 j (ready_mono hj hji)
   obtain⟨hjun,oj,hoj,hall⟩:=mem_ready.1 hj
   have hnot:∀e∈oj.after,Region.binds .any e=true→e.on≠i:=fun e he hb heq=>by
    have h1:=hall e he hb
    have h0:=(mem_ready.1 hr).1
    rw[heq]at h1
    rcases Nat.lt_or_ge i listed.size with h'|h'
    ·simp[h']at h0 h1;rw[h0]at h1;cases h1
    ·simp[Array.getElem?_eq_none h']at h1
   have h2:=wpOp_putIf hoj (hfree j oj hoj hji hjun hnot) (fun cs b=>hsel i oi cs b hi) (fun cs b=>hsel j oj cs b hoj) hQ hy h1
   have hfree':∀k ok,ops[k]?=some ok→k≠i→(listed.setIfInBounds j true).getD k true=false→
     (∀e∈ok.after,Region.binds .any e=true→e.on≠i)→oi.apart ops ok=true:=fun k ok hk hki hun hno=>by
    refine hfree k ok hk hki ?_ hno
    by_cases hjk:j=k
    ·subst hjk;exact hjun
    ·rw[getD_set_ne true hjk]at hun;exact hun
   have hcomm:((listed.setIfInBounds i true).setIfInBounds j true)=((listed.setIfInBounds j true).setIfInBounds i true):=Array.setIfInBounds_comm _ _ (Ne.symm hji)
   refine wpOp_mono (fun a' w' h3=>?_) h2
   have hS':(listed.setIfInBounds j true).getD L false=false→S w':=fun h=>h3.2.1 (by rw[hcomm,getD_set_ne false hiL];exact h)
   refine⟨hS',ih (listed.setIfInBounds j true) a' w' (fR hc hj) hfree' (ready_mono hr (Ne.symm hji)) h3.1 hS' ?_⟩
   rw[← hcomm]
   exact h3.2.2
def rK(P:Program)(ops:Array Oper)(Q:Exit→Act→World→Prop):List (Bool×Nat×Oper)→Act→World→Prop
 |[],a,w=>Q .normal a w
 |(_,i,_)::r,a,w=>wpOp P ops Q i (rK P ops Q r) a w
def j8(P:Program)(ops:Array Oper)(Q:Exit→Act→World→Prop)(S:World→Prop)(L:Nat):List (Bool×Nat×Oper)→Act→World→Prop
 |[],a,w=>Q .normal a w
 |(true,_,o)::r,a,w=>∃v,YieldsIf P ops S o v a∧j8 P ops Q S L r (a.put o.dst v) w
 |(false,i,_)::r,a,w=>bif Nat.beq i L then wpOp P ops Q i (rK P ops Q r) a w else wpOp P ops Q i (fun a' w'=>S w'∧j8 P ops Q S L r a' w') a w
def oa(ops:Array Oper):List (Bool×Nat)→Array Bool→Bool
 |[],listed=>(Region.ready .any ops listed).isEmpty
 |(_,i)::r,listed=>Nat.blt i ops.size&&(Region.ready .any ops listed==[i])&&oa ops r (listed.setIfInBounds i true)
def nL(ops:Array Oper)(L:Nat):List (Bool×Nat)→Array Bool→Bool
 |[],listed=>(Region.ready .any ops listed).isEmpty
 |(true,i)::r,listed=>Nat.blt i ops.size&&Region.free .any ops listed i&&(Region.ready .any ops listed).contains i&&(Nat.ble ops.size L||Bn ops 40 i L)&& !(Nat.beq i L)&&nL ops L r (listed.setIfInBounds i true)
 |(false,i)::r,listed=>Nat.blt i ops.size&&(Region.ready .any ops listed==[i])&&(bif Nat.beq i L then oa ops r (listed.setIfInBounds i true)else nL ops L r (listed.setIfInBounds i true))
def sP(ops:Array Oper)(p:Bool×Nat):Bool×Nat×Oper:=(p.1,p.2,ops.getD p.2 default)
theorem j7{ops:Array Oper}{Q:Exit→Act→World→Prop}:∀(order:List (Bool×Nat)) (listed:Array Bool) (a:Act) (w:World),
  oa ops order listed=true→listed.getD L false=true→rK P ops Q (order.map (sP ops)) a w→gz P ops Q S L order.length listed a w
 |[],listed,a,w,hB,_,h=>⟨by simpa[oa]using hB,h⟩
 |(q,i)::r,listed,a,w,hB,hL,h=>by
  simp only[oa,Bool.and_eq_true]at hB
  obtain⟨⟨hi,hr⟩,hB'⟩:=hB
  have hr':Region.ready .any ops listed=[i]:=by simpa using hr
  refine⟨fun h0=>(by rw[hr']at h0;cases h0),fun j hj=>?_⟩
  rw[hr']at hj
  obtain rfl:j=i:=by simpa using hj
  have hL':(listed.setIfInBounds j true).getD L false=true:=getD_set_true hL
  exact wpOp_mono (fun a' w' hh=>⟨fun h0=>(by rw[hL']at h0;cases h0),j7 r _ _ _ hB' hL' hh⟩) h
theorem gA{ops:Array Oper}{X:Exit→Act→World→Prop}{S:World→Prop}(hs:Region.noSelect ops=true):∀(order:List (Bool×Nat)) (listed:Array Bool) (a:Act) (w:World),
  nL ops L order listed=true→ip ops listed→S w→j8 P ops (NoPanic X) S L (order.map (sP ops)) a w→gz P ops (NoPanic X) S L order.length listed a w
 |[],listed,a,w,hB,_,_,h=>⟨by simpa[nL]using hB,h⟩
 |(true,i)::r,listed,a,w,hB,hc,hS,h=>by
  simp only[nL,Bool.and_eq_true]at hB
  obtain⟨⟨⟨⟨⟨hi,hf⟩,hr⟩,hd⟩,hne⟩,hB'⟩:=hB
  have hlt:i<ops.size:=by simpa[Nat.blt_eq]using hi
  have hoi:ops[i]?=some (ops.getD i default):=by simp[Array.getD,hlt]
  have hiL:i≠L:=fun e=>by subst e;simp at hne
  have hri:i∈Region.ready .any ops listed:=by simpa using hr
  obtain⟨v,hy,h'⟩:=h
  refine lz hoi (Region.noSelect_spec hs) (fun _ _ _ h=>h) hiL (fun l hcl hL=>?_) _ listed a w hc (Region.free_spec hoi hf) hri hy (fun _=>hS) (gA hs r _ _ _ hB' (fR hc hri) hS h')
  cases hd1:Nat.ble ops.size L with
  |true=>
   have h2:ops.size≤L:=Nat.le_of_ble_eq_true hd1
   have h3:=hcl.1
   simp[Array.getD_eq_getD_getElem?,Array.getElem?_eq_none (show l.size≤L by omega)]at hL
  |false=>
   rw[hd1,Bool.false_or]at hd
   exact oZ hcl _ _ _ hd hL
 |(false,i)::r,listed,a,w,hB,hc,hS,h=>by
  simp only[nL,Bool.and_eq_true]at hB
  obtain⟨⟨hi,hr⟩,hB'⟩:=hB
  have hlt:i<ops.size:=by simpa[Nat.blt_eq]using hi
  have hr':Region.ready .any ops listed=[i]:=by simpa using hr
  refine⟨fun h0=>(by rw[hr']at h0;cases h0),fun j hj=>?_⟩
  have hjr:=hj
  rw[hr']at hj
  obtain rfl:j=i:=by simpa using hj
  simp only[List.map_cons,sP,j8]at h
  cases hb:Nat.beq j L with
  |true=>
   have e:j=L:=Nat.eq_of_beq_eq_true hb
   rw[hb,cond_true]at h hB'
   subst e
   have hL:(listed.setIfInBounds j true).getD j false=true:=by
    have:=hc.1
    simp[Array.getD_eq_getD_getElem?,show j<listed.size by omega]
   exact wpOp_mono (fun a' w' hh=>⟨fun h0=>(by rw[hL]at h0;cases h0),j7 r _ _ _ hB' hL hh⟩) h
  |false=>
   rw[hb,cond_false]at h hB'
   exact wpOp_mono (fun a' w' hh=>⟨fun _=>hh.1,gA hs r _ _ _ hB' (fR hc hjr) hh.1 hh.2⟩) h
def lY(l:List Oper)(L:Nat)(order:List (Bool×Nat)):Bool:=
 Region.noSelect l.toArray&&Nat.beq order.length l.length&&nL l.toArray L order (Array.replicate l.length false)
abbrev zK(l:List Oper)(order:List (Bool×Nat)):Bool:=lY l l.length order
def cq(P:Program)(ops:Array Oper)(S:World→Prop)(L:Nat)(N:Nat)(D:List Deferred)(l:List (Bool×Nat×Oper))(ρ:Fr)(w:World)(next:Fr→World→Prop):Prop:=
 ∀a,gh N D a ρ→∀X:Exit→Act→World→Prop,(∀a' ρ' w',gh N D a' ρ'→next ρ' w'→X .normal a' w')→j8 P ops (NoPanic X) S L l a w
def WT(P:Program)(ops:Array Oper)(N:Nat)(D:List Deferred)(l:List (Bool×Nat×Oper))(ρ:Fr)(w:World)(next:Fr→World→Prop):Prop:=
 ∀a,gh N D a ρ→∀X:Exit→Act→World→Prop,(∀a' ρ' w',gh N D a' ρ'→next ρ' w'→X .normal a' w')→rK P ops (NoPanic X) l a w
theorem WC.regionDL{P:Program}{N:Nat}{D:List Deferred}{ρ:Fr}{w:World}{X:Exit→Fr→World→Prop}{id:Nat}{l:List Oper}(L:Nat)(order:List (Bool×Nat))(S:World→Prop)
  (hm:P.follows .mixedOrders=true) (hok:lY l L order=true) (hS:S w.drew) (h:cq P l.toArray S L N D (order.map (sP l.toArray)) ρ w.drew (X .normal)):WC P N D (.region id l.toArray true) ρ w X:=by
 intro a ha
 simp only[lY,Bool.and_eq_true]at hok
 obtain⟨⟨h1,h2⟩,h3⟩:=hok
 have hlen:order.length=l.toArray.size:=by simpa[Nat.beq_eq]using h2
 refine wp_region_noPanic (wp_region_any hm (kD (S:=S) (L:=L) _ _ _ _ ?_))
 have:=gA (P:=P) (X:=fun e a' w'=>∃ρ',gh N D a' ρ'∧X e ρ' w') (S:=S) (L:=L) h1 order _ a w.drew h3 (kR _ (by simp)) hS (h a ha _ fun a' ρ' w' ha' hx=>⟨ρ',ha',hx⟩)
 rw[hlen]at this
 simpa using this
theorem WC.regionD{P:Program}{N:Nat}{D:List Deferred}{ρ:Fr}{w:World}{X:Exit→Fr→World→Prop}{id:Nat}{l:List Oper}(order:List (Bool×Nat))(S:World→Prop)
  (hm:P.follows .mixedOrders=true) (hok:zK l order=true) (hS:S w.drew) (h:cq P l.toArray S l.length N D (order.map (sP l.toArray)) ρ w.drew (X .normal)):WC P N D (.region id l.toArray true) ρ w X:=
 WC.regionDL l.length order S hm hok hS h
section WD
variable {P:Program} {ops:Array Oper} {S:World→Prop} {L N:Nat} {D:List Deferred} {ρ:Fr} {w:World} {next:Fr→World→Prop} {rest:List (Bool×Nat×Oper)} {i:Nat}
theorem kZ{Q:Exit→Act→World→Prop}{o:Oper}{r:List (Bool×Nat×Oper)}(hL:Nat.beq i L=false)(h:wpOp P ops Q i (fun a' w'=>S w'∧j8 P ops Q S L r a' w') a w):j8 P ops Q S L ((false,i,o)::r) a w:=by
 simp only[j8,hL,cond_false]
 exact h
theorem WD.nil(h:next ρ w):cq P ops S L N D [] ρ w next:=fun _ ha _ hQ=>hQ _ _ _ ha h
theorem WD.q{pos:String}{af:Array Edge}(hN:Nat.blt d N=true)
  (hr:∀w',S w'→ar P op ty ρ w' v) (h:cq P ops S L N D rest ((d,v)::ρ) w next):cq P ops S L N D ((true,i,⟨some d,op,ty,pos,af,none⟩)::rest) ρ w next:=by
 intro a ha X hX
 exact⟨v,.inl ⟨by simp[Region.wanted],fun w' hw'=>hr w' hw' N D a _ pos af _ ha⟩,h _ (ha.put hN v) X hX⟩
theorem WD.qg{pos:String}{af:Array Edge}(hN:Nat.blt d N=true)(hj:gw ops j=some t)(ht:lk ρ t=some (.bool b))(hNt:Nat.blt t N=true)
  (hr:∀w',S w'→ar P op ty ρ w' v) (h:cq P ops S L N D rest ((d,v)::ρ) w next):cq P ops S L N D ((true,i,⟨some d,op,ty,pos,af,some (j,b)⟩)::rest) ρ w next:=by
 intro a ha X hX
 exact⟨v,.inl ⟨by simp[Region.wanted,eG ha hj ht hNt,Cl],fun w' hw'=>hr w' hw' N D a _ pos af _ ha⟩,h _ (ha.put hN v) X hX⟩
theorem WD.sk{op:Op}{ty:TypeId}{pos:String}{af:Array Edge}(hN:Nat.blt d N=true)(hj:gw ops j=some t)(ht:lk ρ t=some u)(hs:kB u b=false)(hNt:Nat.blt t N=true)
  (h:cq P ops S L N D rest ((d,undef)::ρ) w next):cq P ops S L N D ((true,i,⟨some d,op,ty,pos,af,some (j,b)⟩)::rest) ρ w next:=by
 intro a ha X hX
 have hy:=eG ha hj ht hNt
 exact⟨undef,.inr ⟨by simp only[Region.wanted,hy];cases u<;>simp_all [kB,Cl],rfl⟩,h _ (ha.put hN undef) X hX⟩
theorem WD.qc{b:Bool}{pos:String}{af:Array Edge}(hN:Nat.blt d N=true)(hj:gw ops j=some t)(ht:lk ρ t=some (.bool x))(hNt:Nat.blt t N=true)
  (hr:(x==b)=true→∀w',S w'→ar P op ty ρ w' v) (h:cq P ops S L N D rest ((d,lH (x==b) v)::ρ) w next):cq P ops S L N D ((true,i,⟨some d,op,ty,pos,af,some (j,b)⟩)::rest) ρ w next:=by
 by_cases hx:(x==b)=true
 ·have e:x=b:=by simpa using hx
  subst e
  refine WD.qg hN hj ht hNt (hr hx) ?_
  simpa[lH]using h
 ·refine WD.sk hN hj ht (by simpa[kB]using hx) hNt ?_
  simpa[lH,hx]using h
theorem WD.qcc{b:Bool}{pos:String}{af:Array Edge}(hN:Nat.blt d N=true)(hj:gw ops j=some t)(ht:lk ρ t=some (lH c (.bool x)))(hNt:Nat.blt t N=true)
  (hr:c=true→(x==b)=true→∀w',S w'→ar P op ty ρ w' v) (h:cq P ops S L N D rest ((d,lH (c&&(x==b)) v)::ρ) w next):cq P ops S L N D ((true,i,⟨some d,op,ty,pos,af,some (j,b)⟩)::rest) ρ w next:=by
 cases c with
 |true=>
  refine WD.qc hN hj (by simpa[lH]using ht) hNt (hr rfl) ?_
  simpa using h
 |false=>
  refine WD.sk hN hj ht (by simp[kB,lH,undef]) hNt ?_
  simpa[lH]using h
theorem WD.l{op:Op}{ty:TypeId}{pos:String}{af:Array Edge}(ho:ops[i]?=some ⟨some d,op,ty,pos,af,none⟩)(hN:Nat.blt d N=true)
  (hr:aA P op ty ρ w R) (h:∀v w',R v w'→S w'∧cq P ops S L N D rest ((d,v)::ρ) w' next) (hL:Nat.beq i L=false:=by rfl):cq P ops S L N D ((false,i,⟨some d,op,ty,pos,af,none⟩)::rest) ρ w next:=by
 intro a ha X hX
 refine kZ hL ?_
 unfold wpOp
 simp only[ho]
 rw[if_pos (by simp[Region.wanted])]
 exact .inl (hr N D a _ pos af _ ha _ _ fun v w' hv=>⟨(h v w' hv).1,(h v w' hv).2 _ (ha.put hN v) X hX⟩)
theorem WD.l0{op:Op}{ty:TypeId}{pos:String}{af:Array Edge}(ho:ops[i]?=some ⟨none,op,ty,pos,af,none⟩)
  (hr:aA P op ty ρ w R) (h:∀v w',R v w'→S w'∧cq P ops S L N D rest ρ w' next) (hL:Nat.beq i L=false:=by rfl):cq P ops S L N D ((false,i,⟨none,op,ty,pos,af,none⟩)::rest) ρ w next:=by
 intro a ha X hX
 refine kZ hL ?_
 unfold wpOp
 simp only[ho]
 rw[if_pos (by simp[Region.wanted])]
 exact .inl (hr N D a _ pos af _ ha _ _ fun v w' hv=>⟨(h v w' hv).1,(h v w' hv).2 _ (ha.putNone v) X hX⟩)
theorem WD.lg{op:Op}{ty:TypeId}{j:Nat}{b:Bool}{pos:String}{af:Array Edge}(ho:ops[i]?=some ⟨some d,op,ty,pos,af,some (j,b)⟩)(hN:Nat.blt d N=true)(hj:gw ops j=some t)(ht:lk ρ t=some (.bool b))(hNt:Nat.blt t N=true)
  (hr:aA P op ty ρ w R) (h:∀v w',R v w'→S w'∧cq P ops S L N D rest ((d,v)::ρ) w' next) (hL:Nat.beq i L=false:=by rfl):cq P ops S L N D ((false,i,⟨some d,op,ty,pos,af,some (j,b)⟩)::rest) ρ w next:=by
 intro a ha X hX
 refine kZ hL ?_
 unfold wpOp
 simp only[ho]
 rw[if_pos (by simp[Region.wanted,eG ha hj ht hNt,Cl])]
 exact .inl (hr N D a _ pos af _ ha _ _ fun v w' hv=>⟨(h v w' hv).1,(h v w' hv).2 _ (ha.put hN v) X hX⟩)
theorem WD.lsk{op:Op}{ty:TypeId}{j:Nat}{b:Bool}{pos:String}{af:Array Edge}(ho:ops[i]?=some ⟨some d,op,ty,pos,af,some (j,b)⟩)(hS:S w)(hN:Nat.blt d N=true)(hj:gw ops j=some t)(ht:lk ρ t=some u)(hs:kB u b=false)(hNt:Nat.blt t N=true)
  (h:cq P ops S L N D rest ((d,undef)::ρ) w next) (hL:Nat.beq i L=false:=by rfl):cq P ops S L N D ((false,i,⟨some d,op,ty,pos,af,some (j,b)⟩)::rest) ρ w next:=by
 intro a ha X hX
 have hy:=eG ha hj ht hNt
 refine kZ hL ?_
 unfold wpOp
 simp only[ho]
 rw[if_neg (by simp only[Region.wanted,hy];cases u<;>simp_all [kB,Cl])]
 exact⟨hS,h _ (ha.put hN undef) X hX⟩
theorem WD.lL{op:Op}{ty:TypeId}{pos:String}{af:Array Edge}(ho:ops[i]?=some ⟨some d,op,ty,pos,af,none⟩)(hN:Nat.blt d N=true)(hL:Nat.beq i L=true)
  (hr:aA P op ty ρ w R) (h:∀v w',R v w'→WT P ops N D rest ((d,v)::ρ) w' next):cq P ops S L N D ((false,i,⟨some d,op,ty,pos,af,none⟩)::rest) ρ w next:=by
 intro a ha X hX
 simp only[j8,hL,cond_true]
 unfold wpOp
 simp only[ho]
 rw[if_pos (by simp[Region.wanted])]
 exact .inl (hr N D a _ pos af _ ha _ _ fun v w' hv=>h v w' hv _ (ha.put hN v) X hX)
theorem WD.l0L{op:Op}{ty:TypeId}{pos:String}{af:Array Edge}(ho:ops[i]?=some ⟨none,op,ty,pos,af,none⟩)(hL:Nat.beq i L=true)
  (hr:aA P op ty ρ w R) (h:∀v w',R v w'→WT P ops N D rest ρ w' next):cq P ops S L N D ((false,i,⟨none,op,ty,pos,af,none⟩)::rest) ρ w next:=by
 intro a ha X hX
 simp only[j8,hL,cond_true]
 unfold wpOp
 simp only[ho]
 rw[if_pos (by simp[Region.wanted])]
 exact .inl (hr N D a _ pos af _ ha _ _ fun v w' hv=>h v w' hv _ (ha.putNone v) X hX)
theorem WT.nil(h:next ρ w):WT P ops N D [] ρ w next:=fun _ ha _ hQ=>hQ _ _ _ ha h
theorem WT.l{q:Bool}{op:Op}{ty:TypeId}{pos:String}{af:Array Edge}(ho:ops[i]?=some ⟨some d,op,ty,pos,af,none⟩)(hN:Nat.blt d N=true)
  (hr:aA P op ty ρ w R) (h:∀v w',R v w'→WT P ops N D rest ((d,v)::ρ) w' next):WT P ops N D ((q,i,⟨some d,op,ty,pos,af,none⟩)::rest) ρ w next:=by
 intro a ha X hX
 show wpOp _ _ _ _ _ _ _
 unfold wpOp
 simp only[ho]
 rw[if_pos (by simp[Region.wanted])]
 exact .inl (hr N D a _ pos af _ ha _ _ fun v w' hv=>h v w' hv _ (ha.put hN v) X hX)
theorem WT.l0{q:Bool}{op:Op}{ty:TypeId}{pos:String}{af:Array Edge}(ho:ops[i]?=some ⟨none,op,ty,pos,af,none⟩)
  (hr:aA P op ty ρ w R) (h:∀v w',R v w'→WT P ops N D rest ρ w' next):WT P ops N D ((q,i,⟨none,op,ty,pos,af,none⟩)::rest) ρ w next:=by
 intro a ha X hX
 show wpOp _ _ _ _ _ _ _
 unfold wpOp
 simp only[ho]
 rw[if_pos (by simp[Region.wanted])]
 exact .inl (hr N D a _ pos af _ ha _ _ fun v w' hv=>h v w' hv _ (ha.putNone v) X hX)
theorem WT.q{q:Bool}{op:Op}{ty:TypeId}{pos:String}{af:Array Edge}(ho:ops[i]?=some ⟨some d,op,ty,pos,af,none⟩)(hN:Nat.blt d N=true)
  (hr:ar P op ty ρ w v) (h:WT P ops N D rest ((d,v)::ρ) w next):WT P ops N D ((q,i,⟨some d,op,ty,pos,af,none⟩)::rest) ρ w next:=
 WT.l ho hN (aA.of_run hr) fun u w' hu=>by obtain⟨rfl,rfl⟩:=hu;exact h
theorem He{d:Nat}{pos:String}{af:Array Edge}(hr:∀w',S w'→ar P op ty ρ w' v)(h:cq P ops S L N D rest ((d,v)::ρ) w next)(hN:Nat.blt d N=true:=by exact rfl):cq P ops S L N D ((true,i,⟨some d,op,ty,pos,af,none⟩)::rest) ρ w next:=WD.q hN hr h
theorem Hf{d:Nat}{pos:String}{af:Array Edge}(hj:gw ops j=some t)(ht:lk ρ t=some (.bool b))(hr:∀w',S w'→ar P op ty ρ w' v)(h:cq P ops S L N D rest ((d,v)::ρ) w next)(hN:Nat.blt d N=true:=by exact rfl)(hNt:Nat.blt t N=true:=by exact rfl):cq P ops S L N D ((true,i,⟨some d,op,ty,pos,af,some (j,b)⟩)::rest) ρ w next:=WD.qg hN hj ht hNt hr h
end WD
def cn:Nat→List Value→Fr
 |_,[]=>[]
 |k,v::r=>(k,v)::cn (k+1) r
theorem pz:∀(l:List Value) (k:Nat),lk (cn k l) t=some v→k≤t∧l[t-k]?=some v
 |[],_,h=>by cases h
 |u::r,k,h=>by
  simp only[cn,lk]at h
  cases hb:Nat.beq k t with
  |true=>
   have e:k=t:=Nat.eq_of_beq_eq_true hb
   subst e
   rw[hb]at h
   simpa using h
  |false=>
   have ne:k≠t:=Nat.ne_of_beq_eq_false hb
   rw[hb]at h
   obtain⟨h1,h2⟩:=pz r (k+1) h
   refine⟨by omega,?_⟩
   rw[show t-k=(t-(k+1))+1 by omega]
   simpa using h2
theorem gQ{l:List Value}(h:l.length≤N):gh N [] {tmps:=l.toArray++Array.replicate (N-l.toArray.size) undef,defers:=[]} (cn 0 l):=by
 refine⟨by simp;omega,rfl,fun t v ht=>?_⟩
 obtain⟨_,h2⟩:=pz l 0 ht
 have hlt:t<l.length:=by
  have:=(List.getElem?_eq_some_iff.1 h2).1
  simpa using this
 simp only[Array.getD_eq_getD_getElem?]
 rw[Array.getElem?_append_left (by simpa using hlt)]
 have h3:l[t]?=some v:=by simpa using h2
 simp[h3]
def wW(R:Ending→World→Prop)(e:Exit)(_ρ:Fr)(w:World):Prop:=
 match e with
 | .normal| .ret=>R (.returned (.tuple #[])) w
 |_=>False
theorem Dp{P:Program}{f:FuncId}{l:List Value}{R:Ending→World→Prop}(hf:P.funcs[f]?=some fn)(hb:fn.body=some c)(hr:fn.results= #[])(hn:Nat.ble l.length fn.ntmps=true)
  (h:WC P fn.ntmps [] c (cn 0 l) w (wW R)):Calls P f l.toArray w R:=by
 refine calls_of_wp hf hb (Code.wp_mono (fun e a w' hq=>?_) (h _ (gQ (by simpa[Nat.ble_eq]using hn))))
 obtain⟨ρ,ha,hx⟩:=hq
 cases e<;>simp only[wW]at hx
 case normal=>exact⟨ha.defers,_,by simp[results,hr],hx⟩
 case ret=>exact⟨ha.defers,_,by simp[results,hr],hx⟩
def wX(t0:Nat)(R:Ending→World→Prop)(e:Exit)(ρ:Fr)(w:World):Prop:=
 match e with
 | .normal| .ret=>∃v0:Value,lk ρ t0=some v0∧R (.returned v0) w
 |_=>False
theorem Dq{P:Program}{f:FuncId}{l:List Value}{R:Ending→World→Prop}(hf:P.funcs[f]?=some fn)(hb:fn.body=some c)(hr:fn.results= #[.tmp t0])(hn:Nat.ble l.length fn.ntmps=true)
  (h:WC P fn.ntmps [] c (cn 0 l) w (wX t0 R)):Calls P f l.toArray w R:=by
 refine calls_of_wp hf hb (Code.wp_mono (fun e a w' hq=>?_) (h _ (gQ (by simpa[Nat.ble_eq]using hn))))
 obtain⟨ρ,ha,hx⟩:=hq
 have key:∀(a:Act) (w':World) (ρ:Fr),gh fn.ntmps [] a ρ→(∃v0:Value,lk ρ t0=some v0∧R (.returned v0) w')→a.defers=[]∧∃v,(results fn a.tmps).run P w'= .ok v w'∧R (.returned v) w':=by
  rintro a w' ρ ha ⟨v0,h0,hR⟩
  refine⟨ha.defers,_,?_,hR⟩
  unfold results
  rw[hr]
  simp[← ha.val t0 v0 h0]
 cases e<;>simp only[wX]at hx
 case normal=>exact key _ _ _ ha hx
 case ret=>exact key _ _ _ ha hx
def yi(t0 t1:Nat)(R:Ending→World→Prop)(e:Exit)(ρ:Fr)(w:World):Prop:=
 match e with
 | .normal| .ret=>∃v0 v1:Value,lk ρ t0=some v0∧lk ρ t1=some v1∧R (.returned (.tuple #[v0,v1])) w
 |_=>False
theorem Dr{P:Program}{f:FuncId}{l:List Value}{R:Ending→World→Prop}(hf:P.funcs[f]?=some fn)(hb:fn.body=some c)(hr:fn.results= #[.tmp t0,.tmp t1])(hn:Nat.ble l.length fn.ntmps=true)
  (h:WC P fn.ntmps [] c (cn 0 l) w (yi t0 t1 R)):Calls P f l.toArray w R:=by
 refine calls_of_wp hf hb (Code.wp_mono (fun e a w' hq=>?_) (h _ (gQ (by simpa[Nat.ble_eq]using hn))))
 obtain⟨ρ,ha,hx⟩:=hq
 have key:∀(a:Act) (w':World) (ρ:Fr),gh fn.ntmps [] a ρ→(∃v0 v1:Value,lk ρ t0=some v0∧lk ρ t1=some v1∧R (.returned (.tuple #[v0,v1])) w')→a.defers=[]∧∃v,(results fn a.tmps).run P w'= .ok v w'∧R (.returned v) w':=by
  rintro a w' ρ ha ⟨v0,v1,h0,h1,hR⟩
  refine⟨ha.defers,_,?_,hR⟩
  unfold results
  rw[hr]
  simp[← ha.val t0 v0 h0,← ha.val t1 v1 h1]
 cases e<;>simp only[yi]at hx
 case normal=>exact key _ _ _ ha hx
 case ret=>exact key _ _ _ ha hx
def yj(t0 t1 t2:Nat)(R:Ending→World→Prop)(e:Exit)(ρ:Fr)(w:World):Prop:=
 match e with
 | .normal| .ret=>∃v0 v1 v2:Value,lk ρ t0=some v0∧lk ρ t1=some v1∧lk ρ t2=some v2∧R (.returned (.tuple #[v0,v1,v2])) w
 |_=>False
theorem Ds{P:Program}{f:FuncId}{l:List Value}{R:Ending→World→Prop}(hf:P.funcs[f]?=some fn)(hb:fn.body=some c)(hr:fn.results= #[.tmp t0,.tmp t1,.tmp t2])(hn:Nat.ble l.length fn.ntmps=true)
  (h:WC P fn.ntmps [] c (cn 0 l) w (yj t0 t1 t2 R)):Calls P f l.toArray w R:=by
 refine calls_of_wp hf hb (Code.wp_mono (fun e a w' hq=>?_) (h _ (gQ (by simpa[Nat.ble_eq]using hn))))
 obtain⟨ρ,ha,hx⟩:=hq
 have key:∀(a:Act) (w':World) (ρ:Fr),gh fn.ntmps [] a ρ→(∃v0 v1 v2:Value,lk ρ t0=some v0∧lk ρ t1=some v1∧lk ρ t2=some v2∧R (.returned (.tuple #[v0,v1,v2])) w')→a.defers=[]∧∃v,(results fn a.tmps).run P w'= .ok v w'∧R (.returned v) w':=by
  rintro a w' ρ ha ⟨v0,v1,v2,h0,h1,h2,hR⟩
  refine⟨ha.defers,_,?_,hR⟩
  unfold results
  rw[hr]
  simp[← ha.val t0 v0 h0,← ha.val t1 v1 h1,← ha.val t2 v2 h2]
 cases e<;>simp only[yj]at hx
 case normal=>exact key _ _ _ ha hx
 case ret=>exact key _ _ _ ha hx
def gu(R:Value→World→Prop)(e:Ending)(w:World):Prop:=∃v,e= .returned v∧R v w
structure ah (P:Program) (f:FuncId) (args:List Value) (w:World) (R:Value→World→Prop):Prop where
 calls:Calls P f args.toArray w (gu R)
theorem ah.imp{R':Value→World→Prop}(h:ah P f args w R)(hr:∀v w',R v w'→R' v w'):ah P f args w R':=
 ⟨Calls.mono h.calls fun _ _ ⟨v,e,r⟩=>⟨v,e,hr _ _ r⟩⟩
theorem DF{R:Value→World→Prop}(hR:R (.tuple #[]) w):wW (gu R) .ret ρ w:=⟨_,rfl,hR⟩
theorem gO{R:Value→World→Prop}(hR:R (.tuple #[]) w):wW (gu R) .normal ρ w:=⟨_,rfl,hR⟩
theorem aw{R:Value→World→Prop}(h0:lk ρ t0=some v0)(hR:R v0 w):wX t0 (gu R) .ret ρ w:=⟨_,h0,_,rfl,hR⟩
theorem fE{R:Value→World→Prop}(h0:lk ρ t0=some v0)(hR:R v0 w):wX t0 (gu R) .normal ρ w:=⟨_,h0,_,rfl,hR⟩
theorem bt{R:Value→World→Prop}(h0:lk ρ t0=some v0)(h1:lk ρ t1=some v1)(hR:R (.tuple #[v0,v1]) w):yi t0 t1 (gu R) .ret ρ w:=⟨_,_,h0,h1,_,rfl,hR⟩
theorem DG{R:Value→World→Prop}(h0:lk ρ t0=some v0)(h1:lk ρ t1=some v1)(h2:lk ρ t2=some v2)(hR:R (.tuple #[v0,v1,v2]) w):yj t0 t1 t2 (gu R) .ret ρ w:=⟨_,_,_,h0,h1,h2,_,rfl,hR⟩
theorem ET{P:Program}{f:FuncId}{l:List Value}(hf:P.funcs[f]?=some fn)(hb:fn.body=some c)(hr:fn.results= #[])(hn:Nat.ble l.length fn.ntmps=true)
  (h:WC P fn.ntmps [] c (cn 0 l) w (wW (gu R))):ah P f l w R:=⟨Dp hf hb hr hn h⟩
theorem EU{P:Program}{f:FuncId}{l:List Value}(hf:P.funcs[f]?=some fn)(hb:fn.body=some c)(hr:fn.results= #[.tmp t0])(hn:Nat.ble l.length fn.ntmps=true)
  (h:WC P fn.ntmps [] c (cn 0 l) w (wX t0 (gu R))):ah P f l w R:=⟨Dq hf hb hr hn h⟩
theorem EV{P:Program}{f:FuncId}{l:List Value}(hf:P.funcs[f]?=some fn)(hb:fn.body=some c)(hr:fn.results= #[.tmp t0,.tmp t1])(hn:Nat.ble l.length fn.ntmps=true)
  (h:WC P fn.ntmps [] c (cn 0 l) w (yi t0 t1 (gu R))):ah P f l w R:=⟨Dr hf hb hr hn h⟩
theorem EW{P:Program}{f:FuncId}{l:List Value}(hf:P.funcs[f]?=some fn)(hb:fn.body=some c)(hr:fn.results= #[.tmp t0,.tmp t1,.tmp t2])(hn:Nat.ble l.length fn.ntmps=true)
  (h:WC P fn.ntmps [] c (cn 0 l) w (yj t0 t1 t2 (gu R))):ah P f l w R:=⟨Ds hf hb hr hn h⟩
end Go.Proofs.LL
