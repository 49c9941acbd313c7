/- Contracts of functions and own laws. Conditions: those that each theorem states. -/
import Derived.Test.YtbkhpjeaacoobaaGreatDoorA01
import Derived.Deep.RegionHeld3
set_option linter.all false
namespace Go.Proofs.LL
open Go Go.RowKit
def closed(ops:Array Oper)(listed:Array Bool):Prop:=
  listed.size=ops.size∧∀j o,ops[j]?=some o→listed.getD j false=true→∀e∈o.after,Region.binds .any e=true→listed.getD e.on false=true
theorem closed_set{ops:Array Oper}{listed:Array Bool}{j:Nat}(h:closed ops listed)(hj:j∈Region.ready .any ops listed):closed ops (listed.setIfInBounds j true):=by
  refine⟨by simpa using h.1,fun k o hk hl e he hb=>?_⟩
  obtain⟨_,oj,hoj,hall⟩:=mem_ready.1 hj
  by_cases hjk:j=k
  · subst hjk
    rw[hk]at hoj
    cases hoj
    exact getD_set_true (hall e he hb)
  · rw[getD_set_ne false hjk]at hl
    exact getD_set_true (h.2 k o hk hl e he hb)
theorem closed_start(ops:Array Oper){n:Nat}(hn:n=ops.size):closed ops (Array.replicate n false):=by
  refine⟨by simpa using hn,fun j o _ hl=>?_⟩
  simp only[Array.getD_eq_getD_getElem?]at hl
  rcases Nat.lt_or_ge j n with h|h
  · simp[h]at hl
  · simp[Array.getElem?_eq_none,h]at hl
def depB(ops:Array Oper):Nat→Nat→Nat→Bool
  |0,_,_=>false
  |f+1,i,L=>match ops[L]? with
    |some o=>o.after.any fun e=>Region.binds .any e&&(Nat.beq e.on i||depB ops f i e.on)
    |none=>false
theorem depB_spec{ops:Array Oper}{listed:Array Bool}(hc:closed ops listed):∀(f i L:Nat),depB ops f i L=true→listed.getD L false=true→listed.getD i false=true
  |0,_,_,h,_=>by cases h
  |f+1,i,L,h,hL=>by
    unfold depB at h
    split at h
    · rename_i o ho
      obtain⟨e,he,hb⟩:=Array.any_eq_true'.1 h
      simp only[Bool.and_eq_true,Bool.or_eq_true]at hb
      have h1:=hc.2 L o ho hL e he hb.1
      rcases hb.2 with h2|h2
      · have:e.on=i:=Nat.eq_of_beq_eq_true h2
        rw[← this];exact h1
      · exact depB_spec hc f i e.on h2 h1
    · cases h
def wpAnyK(P:Program)(ops:Array Oper)(Q:Exit→Act→World→Prop)(S:World→Prop)(L:Nat):Nat→Array Bool→Act→World→Prop
  |0,listed,a,w=>Region.ready .any ops listed=[]∧Q .normal a w
  |fuel+1,listed,a,w=>
    (Region.ready .any ops listed=[]→Q .normal a w)∧
    ∀i∈Region.ready .any ops listed,wpOp P ops Q i (fun a' w'=>((listed.setIfInBounds i true).getD L false=false→S w')∧wpAnyK P ops Q S L fuel (listed.setIfInBounds i true) a' w') a w
theorem wpAny_of_K{P:Program}{ops:Array Oper}{Q:Exit→Act→World→Prop}{S:World→Prop}{L:Nat}:∀(fuel:Nat) (listed:Array Bool) (a:Act) (w:World),wpAnyK P ops Q S L fuel listed a w→wpAny P .any ops Q fuel listed a w
  |0,_,_,_,h=>h
  |fuel+1,_,_,_,h=>⟨h.1,fun i hi=>wpOp_mono (fun a' w' h'=>wpAny_of_K fuel _ a' w' h'.2) (h.2 i hi)⟩
theorem unlisted{listed:Array Bool}{i:Nat}(h:listed.getD i true=false):listed.getD i false=false:=by
  rcases Nat.lt_or_ge i listed.size with h'|h'
  · simp[h']at h⊢;exact h
  · simp[Array.getElem?_eq_none h']at h
theorem wpAnyK_first{P:Program}{ops:Array Oper}{Q:Exit→Act→World→Prop}{S:World→Prop}{L i:Nat}{oi:Oper}{v:Value}(hi:ops[i]?=some oi)(hsel:∀(j:Nat) (o:Oper) cs b,ops[j]?=some o→o.op≠ .select cs b)
    (hQ:∀c a w,Q (.panic c) (a.put oi.dst v) w→Q (.panic c) a w) (hiL:i≠L) (hdep:∀listed,closed ops listed→listed.getD L false=true→listed.getD i false=true):
    ∀(fuel:Nat) (listed:Array Bool) (a:Act) (w:World),closed ops listed→
      (∀j oj,ops[j]?=some oj→j≠i→listed.getD j true=false→(∀e∈oj.after,Region.binds .any e=true→e.on≠i)→oi.apart ops oj=true)→
      i∈Region.ready .any ops listed→YieldsIf P ops S oi v a→(listed.getD L false=false→S w)→
      wpAnyK P ops Q S L fuel (listed.setIfInBounds i true) (a.put oi.dst v) w→wpAnyK P ops Q S L (fuel+1) listed a w:=by
  have hSi:∀(listed:Array Bool) (w:World),closed ops listed→i∈Region.ready .any ops listed→(listed.getD L false=false→S w)→S w:=by
    intro listed w hc hr hS
    refine hS ?_
    cases hq:listed.getD L false with
    |false=>rfl
    |true=>
      have h1:=hdep listed hc hq
      rw[unlisted (mem_ready.1 hr).1]at h1
      cases h1
  intro fuel
  induction fuel with
  |zero=>
    intro listed a w hc _ hr hy hS H
    refine⟨fun h=>(by rw[h]at hr;cases hr),fun j hj=>?_⟩
    by_cases hji:j=i
    · subst hji;exact hy.wpOp hi (hSi _ _ hc hr hS) ⟨fun h=>hS (by rw[getD_set_ne false hiL]at h;exact h),H⟩
    · have:=ready_mono hj hji
      rw[H.1]at this
      cases this
  |succ fuel ih=>
    intro listed a w hc hfree hr hy hS H
    refine⟨fun h=>(by rw[h]at hr;cases hr),fun j hj=>?_⟩
    by_cases hji:j=i
    · subst hji;exact hy.wpOp hi (hSi _ _ hc hr hS) ⟨fun h=>hS (by rw[getD_set_ne false hiL]at h;exact h),H⟩
    · have h1:=H.2 j (ready_mono hj hji)
      obtain⟨hjun,oj,hoj,hall⟩:=mem_ready.1 hj
      have hnot:∀e∈oj.after,Region.binds .any e=true→e.on≠i:=fun e he hb heq=>by
        have h1:=hall e he hb
        have h0:=(mem_ready.1 hr).1
        rw[heq]at h1
        rcases Nat.lt_or_ge i listed.size with h'|h'
        · simp[h']at h0 h1;rw[h0]at h1;cases h1
        · simp[Array.getElem?_eq_none h']at h1
      have h2:=wpOp_putIf hoj (hfree j oj hoj hji hjun hnot) (fun cs b=>hsel i oi cs b hi) (fun cs b=>hsel j oj cs b hoj) hQ hy h1
      have hfree':∀k ok,ops[k]?=some ok→k≠i→(listed.setIfInBounds j true).getD k true=false→
          (∀e∈ok.after,Region.binds .any e=true→e.on≠i)→oi.apart ops ok=true:=fun k ok hk hki hun hno=>by
        refine hfree k ok hk hki ?_ hno
        by_cases hjk:j=k
        · subst hjk;exact hjun
        · rw[getD_set_ne true hjk]at hun;exact hun
      have hcomm:((listed.setIfInBounds i true).setIfInBounds j true)=((listed.setIfInBounds j true).setIfInBounds i true):=Array.setIfInBounds_comm _ _ (Ne.symm hji)
      refine wpOp_mono (fun a' w' h3=>?_) h2
      have hS':(listed.setIfInBounds j true).getD L false=false→S w':=fun h=>h3.2.1 (by rw[hcomm,getD_set_ne false hiL];exact h)
      refine⟨hS',ih (listed.setIfInBounds j true) a' w' (closed_set hc hj) hfree' (ready_mono hr (Ne.symm hji)) h3.1 hS' ?_⟩
      rw[← hcomm]
      exact h3.2.2
def wpTail(P:Program)(ops:Array Oper)(Q:Exit→Act→World→Prop):List (Bool×Nat×Oper)→Act→World→Prop
  |[],a,w=>Q .normal a w
  |(_,i,_)::r,a,w=>wpOp P ops Q i (wpTail P ops Q r) a w
def wpLin(P:Program)(ops:Array Oper)(Q:Exit→Act→World→Prop)(S:World→Prop)(L:Nat):List (Bool×Nat×Oper)→Act→World→Prop
  |[],a,w=>Q .normal a w
  |(true,_,o)::r,a,w=>∃v,YieldsIf P ops S o v a∧wpLin P ops Q S L r (a.put o.dst v) w
  |(false,i,_)::r,a,w=>bif Nat.beq i L then wpOp P ops Q i (wpTail P ops Q r) a w else wpOp P ops Q i (fun a' w'=>S w'∧wpLin P ops Q S L r a' w') a w
def tailOK(ops:Array Oper):List (Bool×Nat)→Array Bool→Bool
  |[],listed=>(Region.ready .any ops listed).isEmpty
  |(_,i)::r,listed=>Nat.blt i ops.size&&(Region.ready .any ops listed==[i])&&tailOK ops r (listed.setIfInBounds i true)
def linOK(ops:Array Oper)(L:Nat):List (Bool×Nat)→Array Bool→Bool
  |[],listed=>(Region.ready .any ops listed).isEmpty
  |(true,i)::r,listed=>Nat.blt i ops.size&&Region.free .any ops listed i&&(Region.ready .any ops listed).contains i&&(Nat.ble ops.size L||depB ops 40 i L)&& !(Nat.beq i L)&&linOK ops L r (listed.setIfInBounds i true)
  |(false,i)::r,listed=>Nat.blt i ops.size&&(Region.ready .any ops listed==[i])&&(bif Nat.beq i L then tailOK ops r (listed.setIfInBounds i true)else linOK ops L r (listed.setIfInBounds i true))
def linAt(ops:Array Oper)(p:Bool×Nat):Bool×Nat×Oper:=(p.1,p.2,ops.getD p.2 default)
theorem wpAny_of_tail{P:Program}{ops:Array Oper}{Q:Exit→Act→World→Prop}{S:World→Prop}{L:Nat}:∀(order:List (Bool×Nat)) (listed:Array Bool) (a:Act) (w:World),
    tailOK ops order listed=true→listed.getD L false=true→wpTail P ops Q (order.map (linAt ops)) a w→wpAnyK P ops Q S L order.length listed a w
  |[],listed,a,w,hB,_,h=>⟨by simpa[tailOK]using hB,h⟩
  |(q,i)::r,listed,a,w,hB,hL,h=>by
    simp only[tailOK,Bool.and_eq_true]at hB
    obtain⟨⟨hi,hr⟩,hB'⟩:=hB
    have hr':Region.ready .any ops listed=[i]:=by simpa using hr
    refine⟨fun h0=>(by rw[hr']at h0;cases h0),fun j hj=>?_⟩
    rw[hr']at hj
    obtain rfl:j=i:=by simpa using hj
    have hL':(listed.setIfInBounds j true).getD L false=true:=getD_set_true hL
    exact wpOp_mono (fun a' w' hh=>⟨fun h0=>(by rw[hL']at h0;cases h0),wpAny_of_tail r _ _ _ hB' hL' hh⟩) h
theorem wpAnyK_of_lin{P:Program}{ops:Array Oper}{X:Exit→Act→World→Prop}{S:World→Prop}{L:Nat}(hs:Region.noSelect ops=true):∀(order:List (Bool×Nat)) (listed:Array Bool) (a:Act) (w:World),
    linOK ops L order listed=true→closed ops listed→S w→wpLin P ops (NoPanic X) S L (order.map (linAt ops)) a w→wpAnyK P ops (NoPanic X) S L order.length listed a w
  |[],listed,a,w,hB,_,_,h=>⟨by simpa[linOK]using hB,h⟩
  |(true,i)::r,listed,a,w,hB,hc,hS,h=>by
    simp only[linOK,Bool.and_eq_true]at hB
    obtain⟨⟨⟨⟨⟨hi,hf⟩,hr⟩,hd⟩,hne⟩,hB'⟩:=hB
    have hlt:i<ops.size:=by simpa[Nat.blt_eq]using hi
    have hoi:ops[i]?=some (ops.getD i default):=by simp[Array.getD,hlt]
    have hiL:i≠L:=fun e=>by subst e;simp at hne
    have hri:i∈Region.ready .any ops listed:=by simpa using hr
    obtain⟨v,hy,h'⟩:=h
    refine wpAnyK_first hoi (Region.noSelect_spec hs) (fun _ _ _ h=>h) hiL (fun l hcl hL=>?_) _ listed a w hc (Region.free_spec hoi hf) hri hy (fun _=>hS) (wpAnyK_of_lin hs r _ _ _ hB' (closed_set hc hri) hS h')
    cases hd1:Nat.ble ops.size L with
    |true=>
      have h2:ops.size≤L:=Nat.le_of_ble_eq_true hd1
      have h3:=hcl.1
      simp[Array.getD_eq_getD_getElem?,Array.getElem?_eq_none (show l.size≤L by omega)]at hL
    |false=>
      rw[hd1,Bool.false_or]at hd
      exact depB_spec hcl _ _ _ hd hL
  |(false,i)::r,listed,a,w,hB,hc,hS,h=>by
    simp only[linOK,Bool.and_eq_true]at hB
    obtain⟨⟨hi,hr⟩,hB'⟩:=hB
    have hlt:i<ops.size:=by simpa[Nat.blt_eq]using hi
    have hr':Region.ready .any ops listed=[i]:=by simpa using hr
    refine⟨fun h0=>(by rw[hr']at h0;cases h0),fun j hj=>?_⟩
    have hjr:=hj
    rw[hr']at hj
    obtain rfl:j=i:=by simpa using hj
    simp only[List.map_cons,linAt,wpLin]at h
    cases hb:Nat.beq j L with
    |true=>
      have e:j=L:=Nat.eq_of_beq_eq_true hb
      rw[hb,cond_true]at h hB'
      subst e
      have hL:(listed.setIfInBounds j true).getD j false=true:=by
        have:=hc.1
        simp[Array.getD_eq_getD_getElem?,show j<listed.size by omega]
      exact wpOp_mono (fun a' w' hh=>⟨fun h0=>(by rw[hL]at h0;cases h0),wpAny_of_tail r _ _ _ hB' hL hh⟩) h
    |false=>
      rw[hb,cond_false]at h hB'
      exact wpOp_mono (fun a' w' hh=>⟨fun _=>hh.1,wpAnyK_of_lin hs r _ _ _ hB' (closed_set hc hjr) hh.1 hh.2⟩) h
def regionOKL(l:List Oper)(L:Nat)(order:List (Bool×Nat)):Bool:=
  Region.noSelect l.toArray&&Nat.beq order.length l.length&&linOK l.toArray L order (Array.replicate l.length false)
abbrev regionOK(l:List Oper)(order:List (Bool×Nat)):Bool:=regionOKL l l.length order
def WDL(P:Program)(ops:Array Oper)(S:World→Prop)(L:Nat)(N:Nat)(D:List Deferred)(l:List (Bool×Nat×Oper))(ρ:Fr)(w:World)(next:Fr→World→Prop):Prop:=
  ∀a,Has N D a ρ→∀X:Exit→Act→World→Prop,(∀a' ρ' w',Has N D a' ρ'→next ρ' w'→X .normal a' w')→wpLin P ops (NoPanic X) S L l a w
def WT(P:Program)(ops:Array Oper)(N:Nat)(D:List Deferred)(l:List (Bool×Nat×Oper))(ρ:Fr)(w:World)(next:Fr→World→Prop):Prop:=
  ∀a,Has N D a ρ→∀X:Exit→Act→World→Prop,(∀a' ρ' w',Has N D a' ρ'→next ρ' w'→X .normal a' w')→wpTail P ops (NoPanic X) l a w
theorem WC.regionDL{P:Program}{N:Nat}{D:List Deferred}{ρ:Fr}{w:World}{X:Exit→Fr→World→Prop}{id:Nat}{l:List Oper}(L:Nat)(order:List (Bool×Nat))(S:World→Prop)
    (hm:P.follows .mixedOrders=true) (hok:regionOKL l L order=true) (hS:S w.drew) (h:WDL P l.toArray S L N D (order.map (linAt l.toArray)) ρ w.drew (X .normal)):WC P N D (.region id l.toArray true) ρ w X:=by
  intro a ha
  simp only[regionOKL,Bool.and_eq_true]at hok
  obtain⟨⟨h1,h2⟩,h3⟩:=hok
  have hlen:order.length=l.toArray.size:=by simpa[Nat.beq_eq]using h2
  refine wp_region_noPanic (wp_region_any hm (wpAny_of_K (S:=S) (L:=L) _ _ _ _ ?_))
  have:=wpAnyK_of_lin (P:=P) (X:=fun e a' w'=>∃ρ',Has N D a' ρ'∧X e ρ' w') (S:=S) (L:=L) h1 order _ a w.drew h3 (closed_start _ (by simp)) hS (h a ha _ fun a' ρ' w' ha' hx=>⟨ρ',ha',hx⟩)
  rw[hlen]at this
  simpa using this
theorem WC.regionD{P:Program}{N:Nat}{D:List Deferred}{ρ:Fr}{w:World}{X:Exit→Fr→World→Prop}{id:Nat}{l:List Oper}(order:List (Bool×Nat))(S:World→Prop)
    (hm:P.follows .mixedOrders=true) (hok:regionOK l order=true) (hS:S w.drew) (h:WDL P l.toArray S l.length N D (order.map (linAt l.toArray)) ρ w.drew (X .normal)):WC P N D (.region id l.toArray true) ρ w X:=
  WC.regionDL l.length order S hm hok hS h
section WD
variable {P:Program} {ops:Array Oper} {S:World→Prop} {L N:Nat} {D:List Deferred} {ρ:Fr} {w:World} {next:Fr→World→Prop} {rest:List (Bool×Nat×Oper)} {i:Nat}
theorem lin_loud{Q:Exit→Act→World→Prop}{o:Oper}{r:List (Bool×Nat×Oper)}{a:Act}(hL:Nat.beq i L=false)(h:wpOp P ops Q i (fun a' w'=>S w'∧wpLin P ops Q S L r a' w') a w):wpLin P ops Q S L ((false,i,o)::r) a w:=by
  simp only[wpLin,hL,cond_false]
  exact h
theorem WD.nil(h:next ρ w):WDL P ops S L N D [] ρ w next:=fun _ ha _ hQ=>hQ _ _ _ ha h
theorem WD.q{op:Op}{ty:TypeId}{d:Nat}{pos:String}{af:Array Edge}{v:Value}(hN:Nat.blt d N=true)
    (hr:∀w',S w'→RunOp P op ty ρ w' v) (h:WDL P ops S L N D rest ((d,v)::ρ) w next):WDL P ops S L N D ((true,i,⟨some d,op,ty,pos,af,none⟩)::rest) ρ w next:=by
  intro a ha X hX
  exact⟨v,.inl ⟨by simp[Region.wanted],fun w' hw'=>hr w' hw' N D a _ pos af _ ha⟩,h _ (ha.put hN v) X hX⟩
theorem WD.qg{op:Op}{ty:TypeId}{d j t:Nat}{b:Bool}{pos:String}{af:Array Edge}{v:Value}(hN:Nat.blt d N=true)(hj:gdst ops j=some t)(ht:lk ρ t=some (.bool b))(hNt:Nat.blt t N=true)
    (hr:∀w',S w'→RunOp P op ty ρ w' v) (h:WDL P ops S L N D rest ((d,v)::ρ) w next):WDL P ops S L N D ((true,i,⟨some d,op,ty,pos,af,some (j,b)⟩)::rest) ρ w next:=by
  intro a ha X hX
  exact⟨v,.inl ⟨by simp[Region.wanted,yielded_of ha hj ht hNt,asB],fun w' hw'=>hr w' hw' N D a _ pos af _ ha⟩,h _ (ha.put hN v) X hX⟩
theorem WD.sk{op:Op}{ty:TypeId}{d j t:Nat}{b:Bool}{u:Value}{pos:String}{af:Array Edge}(hN:Nat.blt d N=true)(hj:gdst ops j=some t)(ht:lk ρ t=some u)(hs:says u b=false)(hNt:Nat.blt t N=true)
    (h:WDL P ops S L N D rest ((d,undef)::ρ) w next):WDL P ops S L N D ((true,i,⟨some d,op,ty,pos,af,some (j,b)⟩)::rest) ρ w next:=by
  intro a ha X hX
  have hy:=yielded_of ha hj ht hNt
  exact⟨undef,.inr ⟨by simp only[Region.wanted,hy];cases u<;>simp_all [says,asB],rfl⟩,h _ (ha.put hN undef) X hX⟩
theorem WD.qc{op:Op}{ty:TypeId}{d j t:Nat}{b x:Bool}{pos:String}{af:Array Edge}{v:Value}(hN:Nat.blt d N=true)(hj:gdst ops j=some t)(ht:lk ρ t=some (.bool x))(hNt:Nat.blt t N=true)
    (hr:(x==b)=true→∀w',S w'→RunOp P op ty ρ w' v) (h:WDL P ops S L N D rest ((d,cnd (x==b) v)::ρ) w next):WDL P ops S L N D ((true,i,⟨some d,op,ty,pos,af,some (j,b)⟩)::rest) ρ w next:=by
  by_cases hx:(x==b)=true
  · have e:x=b:=by simpa using hx
    subst e
    refine WD.qg hN hj ht hNt (hr hx) ?_
    simpa[cnd]using h
  · refine WD.sk hN hj ht (by simpa[says]using hx) hNt ?_
    simpa[cnd,hx]using h
theorem WD.qcc{op:Op}{ty:TypeId}{d j t:Nat}{b x c:Bool}{pos:String}{af:Array Edge}{v:Value}(hN:Nat.blt d N=true)(hj:gdst ops j=some t)(ht:lk ρ t=some (cnd c (.bool x)))(hNt:Nat.blt t N=true)
    (hr:c=true→(x==b)=true→∀w',S w'→RunOp P op ty ρ w' v) (h:WDL P ops S L N D rest ((d,cnd (c&&(x==b)) v)::ρ) w next):WDL P ops S L N D ((true,i,⟨some d,op,ty,pos,af,some (j,b)⟩)::rest) ρ w next:=by
  cases c with
  |true=>
    refine WD.qc hN hj (by simpa[cnd]using ht) hNt (hr rfl) ?_
    simpa using h
  |false=>
    refine WD.sk hN hj ht (by simp[says,cnd,undef]) hNt ?_
    simpa[cnd]using h
theorem WD.l{op:Op}{ty:TypeId}{d:Nat}{pos:String}{af:Array Edge}{R:Value→World→Prop}(ho:ops[i]?=some ⟨some d,op,ty,pos,af,none⟩)(hN:Nat.blt d N=true)
    (hr:LoudOp P op ty ρ w R) (h:∀v w',R v w'→S w'∧WDL P ops S L N D rest ((d,v)::ρ) w' next) (hL:Nat.beq i L=false:=by rfl):WDL P ops S L N D ((false,i,⟨some d,op,ty,pos,af,none⟩)::rest) ρ w next:=by
  intro a ha X hX
  refine lin_loud hL ?_
  unfold wpOp
  simp only[ho]
  rw[if_pos (by simp[Region.wanted])]
  exact .inl (hr N D a _ pos af _ ha _ _ fun v w' hv=>⟨(h v w' hv).1,(h v w' hv).2 _ (ha.put hN v) X hX⟩)
theorem WD.l0{op:Op}{ty:TypeId}{pos:String}{af:Array Edge}{R:Value→World→Prop}(ho:ops[i]?=some ⟨none,op,ty,pos,af,none⟩)
    (hr:LoudOp P op ty ρ w R) (h:∀v w',R v w'→S w'∧WDL P ops S L N D rest ρ w' next) (hL:Nat.beq i L=false:=by rfl):WDL P ops S L N D ((false,i,⟨none,op,ty,pos,af,none⟩)::rest) ρ w next:=by
  intro a ha X hX
  refine lin_loud hL ?_
  unfold wpOp
  simp only[ho]
  rw[if_pos (by simp[Region.wanted])]
  exact .inl (hr N D a _ pos af _ ha _ _ fun v w' hv=>⟨(h v w' hv).1,(h v w' hv).2 _ (ha.putNone v) X hX⟩)
theorem WD.lg{op:Op}{ty:TypeId}{d j t:Nat}{b:Bool}{pos:String}{af:Array Edge}{R:Value→World→Prop}(ho:ops[i]?=some ⟨some d,op,ty,pos,af,some (j,b)⟩)(hN:Nat.blt d N=true)(hj:gdst ops j=some t)(ht:lk ρ t=some (.bool b))(hNt:Nat.blt t N=true)
    (hr:LoudOp P op ty ρ w R) (h:∀v w',R v w'→S w'∧WDL P ops S L N D rest ((d,v)::ρ) w' next) (hL:Nat.beq i L=false:=by rfl):WDL P ops S L N D ((false,i,⟨some d,op,ty,pos,af,some (j,b)⟩)::rest) ρ w next:=by
  intro a ha X hX
  refine lin_loud hL ?_
  unfold wpOp
  simp only[ho]
  rw[if_pos (by simp[Region.wanted,yielded_of ha hj ht hNt,asB])]
  exact .inl (hr N D a _ pos af _ ha _ _ fun v w' hv=>⟨(h v w' hv).1,(h v w' hv).2 _ (ha.put hN v) X hX⟩)
theorem WD.lsk{op:Op}{ty:TypeId}{d j t:Nat}{b:Bool}{u:Value}{pos:String}{af:Array Edge}(ho:ops[i]?=some ⟨some d,op,ty,pos,af,some (j,b)⟩)(hS:S w)(hN:Nat.blt d N=true)(hj:gdst ops j=some t)(ht:lk ρ t=some u)(hs:says u b=false)(hNt:Nat.blt t N=true)
    (h:WDL P ops S L N D rest ((d,undef)::ρ) w next) (hL:Nat.beq i L=false:=by rfl):WDL P ops S L N D ((false,i,⟨some d,op,ty,pos,af,some (j,b)⟩)::rest) ρ w next:=by
  intro a ha X hX
  have hy:=yielded_of ha hj ht hNt
  refine lin_loud hL ?_
  unfold wpOp
  simp only[ho]
  rw[if_neg (by simp only[Region.wanted,hy];cases u<;>simp_all [says,asB])]
  exact⟨hS,h _ (ha.put hN undef) X hX⟩
theorem WD.lL{op:Op}{ty:TypeId}{d:Nat}{pos:String}{af:Array Edge}{R:Value→World→Prop}(ho:ops[i]?=some ⟨some d,op,ty,pos,af,none⟩)(hN:Nat.blt d N=true)(hL:Nat.beq i L=true)
    (hr:LoudOp P op ty ρ w R) (h:∀v w',R v w'→WT P ops N D rest ((d,v)::ρ) w' next):WDL P ops S L N D ((false,i,⟨some d,op,ty,pos,af,none⟩)::rest) ρ w next:=by
  intro a ha X hX
  simp only[wpLin,hL,cond_true]
  unfold wpOp
  simp only[ho]
  rw[if_pos (by simp[Region.wanted])]
  exact .inl (hr N D a _ pos af _ ha _ _ fun v w' hv=>h v w' hv _ (ha.put hN v) X hX)
theorem WD.l0L{op:Op}{ty:TypeId}{pos:String}{af:Array Edge}{R:Value→World→Prop}(ho:ops[i]?=some ⟨none,op,ty,pos,af,none⟩)(hL:Nat.beq i L=true)
    (hr:LoudOp P op ty ρ w R) (h:∀v w',R v w'→WT P ops N D rest ρ w' next):WDL P ops S L N D ((false,i,⟨none,op,ty,pos,af,none⟩)::rest) ρ w next:=by
  intro a ha X hX
  simp only[wpLin,hL,cond_true]
  unfold wpOp
  simp only[ho]
  rw[if_pos (by simp[Region.wanted])]
  exact .inl (hr N D a _ pos af _ ha _ _ fun v w' hv=>h v w' hv _ (ha.putNone v) X hX)
theorem WT.nil(h:next ρ w):WT P ops N D [] ρ w next:=fun _ ha _ hQ=>hQ _ _ _ ha h
theorem WT.l{q:Bool}{op:Op}{ty:TypeId}{d:Nat}{pos:String}{af:Array Edge}{R:Value→World→Prop}(ho:ops[i]?=some ⟨some d,op,ty,pos,af,none⟩)(hN:Nat.blt d N=true)
    (hr:LoudOp P op ty ρ w R) (h:∀v w',R v w'→WT P ops N D rest ((d,v)::ρ) w' next):WT P ops N D ((q,i,⟨some d,op,ty,pos,af,none⟩)::rest) ρ w next:=by
  intro a ha X hX
  show wpOp _ _ _ _ _ _ _
  unfold wpOp
  simp only[ho]
  rw[if_pos (by simp[Region.wanted])]
  exact .inl (hr N D a _ pos af _ ha _ _ fun v w' hv=>h v w' hv _ (ha.put hN v) X hX)
theorem WT.l0{q:Bool}{op:Op}{ty:TypeId}{pos:String}{af:Array Edge}{R:Value→World→Prop}(ho:ops[i]?=some ⟨none,op,ty,pos,af,none⟩)
    (hr:LoudOp P op ty ρ w R) (h:∀v w',R v w'→WT P ops N D rest ρ w' next):WT P ops N D ((q,i,⟨none,op,ty,pos,af,none⟩)::rest) ρ w next:=by
  intro a ha X hX
  show wpOp _ _ _ _ _ _ _
  unfold wpOp
  simp only[ho]
  rw[if_pos (by simp[Region.wanted])]
  exact .inl (hr N D a _ pos af _ ha _ _ fun v w' hv=>h v w' hv _ (ha.putNone v) X hX)
theorem WT.q{q:Bool}{op:Op}{ty:TypeId}{d:Nat}{pos:String}{af:Array Edge}{v:Value}(ho:ops[i]?=some ⟨some d,op,ty,pos,af,none⟩)(hN:Nat.blt d N=true)
    (hr:RunOp P op ty ρ w v) (h:WT P ops N D rest ((d,v)::ρ) w next):WT P ops N D ((q,i,⟨some d,op,ty,pos,af,none⟩)::rest) ρ w next:=
  WT.l ho hN (LoudOp.of_run hr) fun u w' hu=>by obtain⟨rfl,rfl⟩:=hu;exact h
end WD
def argsFr:Nat→List Value→Fr
  |_,[]=>[]
  |k,v::r=>(k,v)::argsFr (k+1) r
theorem lk_argsFr{t:Nat}{v:Value}:∀(l:List Value) (k:Nat),lk (argsFr k l) t=some v→k≤t∧l[t-k]?=some v
  |[],_,h=>by cases h
  |u::r,k,h=>by
    simp only[argsFr,lk]at h
    cases hb:Nat.beq k t with
    |true=>
      have e:k=t:=Nat.eq_of_beq_eq_true hb
      subst e
      rw[hb]at h
      simpa using h
    |false=>
      have ne:k≠t:=Nat.ne_of_beq_eq_false hb
      rw[hb]at h
      obtain⟨h1,h2⟩:=lk_argsFr r (k+1) h
      refine⟨by omega,?_⟩
      rw[show t-k=(t-(k+1))+1 by omega]
      simpa using h2
theorem has_args{N:Nat}{l:List Value}(h:l.length≤N):Has N [] {tmps:=l.toArray++Array.replicate (N-l.toArray.size) undef,defers:=[]} (argsFr 0 l):=by
  refine⟨by simp;omega,rfl,fun t v ht=>?_⟩
  obtain⟨_,h2⟩:=lk_argsFr l 0 ht
  have hlt:t<l.length:=by
    have:=(List.getElem?_eq_some_iff.1 h2).1
    simpa using this
  simp only[Array.getD_eq_getD_getElem?]
  rw[Array.getElem?_append_left (by simpa using hlt)]
  have h3:l[t]?=some v:=by simpa using h2
  simp[h3]
def Ret0(R:Ending→World→Prop)(e:Exit)(_ρ:Fr)(w:World):Prop:=
  match e with
  | .normal| .ret=>R (.returned (.tuple #[])) w
  |_=>False
theorem calls0{P:Program}{f:FuncId}{fn:Func}{c:Code}{l:List Value}{w:World}{R:Ending→World→Prop}(hf:P.funcs[f]?=some fn)(hb:fn.body=some c)(hr:fn.results= #[])(hn:Nat.ble l.length fn.ntmps=true)
    (h:WC P fn.ntmps [] c (argsFr 0 l) w (Ret0 R)):Calls P f l.toArray w R:=by
  refine calls_of_wp hf hb (Code.wp_mono (fun e a w' hq=>?_) (h _ (has_args (by simpa[Nat.ble_eq]using hn))))
  obtain⟨ρ,ha,hx⟩:=hq
  cases e<;>simp only[Ret0]at hx
  case normal=>exact⟨ha.defers,_,by simp[results,hr],hx⟩
  case ret=>exact⟨ha.defers,_,by simp[results,hr],hx⟩
def Ret1(t0:Nat)(R:Ending→World→Prop)(e:Exit)(ρ:Fr)(w:World):Prop:=
  match e with
  | .normal| .ret=>∃v0:Value,lk ρ t0=some v0∧R (.returned v0) w
  |_=>False
theorem calls1{P:Program}{f:FuncId}{fn:Func}{c:Code}{l:List Value}{w:World}{R:Ending→World→Prop}{t0:Nat}(hf:P.funcs[f]?=some fn)(hb:fn.body=some c)(hr:fn.results= #[.tmp t0])(hn:Nat.ble l.length fn.ntmps=true)
    (h:WC P fn.ntmps [] c (argsFr 0 l) w (Ret1 t0 R)):Calls P f l.toArray w R:=by
  refine calls_of_wp hf hb (Code.wp_mono (fun e a w' hq=>?_) (h _ (has_args (by simpa[Nat.ble_eq]using hn))))
  obtain⟨ρ,ha,hx⟩:=hq
  have key:∀(a:Act) (w':World) (ρ:Fr),Has fn.ntmps [] a ρ→(∃v0:Value,lk ρ t0=some v0∧R (.returned v0) w')→a.defers=[]∧∃v,(results fn a.tmps).run P w'= .ok v w'∧R (.returned v) w':=by
    rintro a w' ρ ha ⟨v0,h0,hR⟩
    refine⟨ha.defers,_,?_,hR⟩
    unfold results
    rw[hr]
    simp[← ha.val t0 v0 h0]
  cases e<;>simp only[Ret1]at hx
  case normal=>exact key _ _ _ ha hx
  case ret=>exact key _ _ _ ha hx
def Ret2(t0 t1:Nat)(R:Ending→World→Prop)(e:Exit)(ρ:Fr)(w:World):Prop:=
  match e with
  | .normal| .ret=>∃v0 v1:Value,lk ρ t0=some v0∧lk ρ t1=some v1∧R (.returned (.tuple #[v0,v1])) w
  |_=>False
theorem calls2{P:Program}{f:FuncId}{fn:Func}{c:Code}{l:List Value}{w:World}{R:Ending→World→Prop}{t0 t1:Nat}(hf:P.funcs[f]?=some fn)(hb:fn.body=some c)(hr:fn.results= #[.tmp t0,.tmp t1])(hn:Nat.ble l.length fn.ntmps=true)
    (h:WC P fn.ntmps [] c (argsFr 0 l) w (Ret2 t0 t1 R)):Calls P f l.toArray w R:=by
  refine calls_of_wp hf hb (Code.wp_mono (fun e a w' hq=>?_) (h _ (has_args (by simpa[Nat.ble_eq]using hn))))
  obtain⟨ρ,ha,hx⟩:=hq
  have key:∀(a:Act) (w':World) (ρ:Fr),Has fn.ntmps [] a ρ→(∃v0 v1:Value,lk ρ t0=some v0∧lk ρ t1=some v1∧R (.returned (.tuple #[v0,v1])) w')→a.defers=[]∧∃v,(results fn a.tmps).run P w'= .ok v w'∧R (.returned v) w':=by
    rintro a w' ρ ha ⟨v0,v1,h0,h1,hR⟩
    refine⟨ha.defers,_,?_,hR⟩
    unfold results
    rw[hr]
    simp[← ha.val t0 v0 h0,← ha.val t1 v1 h1]
  cases e<;>simp only[Ret2]at hx
  case normal=>exact key _ _ _ ha hx
  case ret=>exact key _ _ _ ha hx
def Ret3(t0 t1 t2:Nat)(R:Ending→World→Prop)(e:Exit)(ρ:Fr)(w:World):Prop:=
  match e with
  | .normal| .ret=>∃v0 v1 v2:Value,lk ρ t0=some v0∧lk ρ t1=some v1∧lk ρ t2=some v2∧R (.returned (.tuple #[v0,v1,v2])) w
  |_=>False
theorem calls3{P:Program}{f:FuncId}{fn:Func}{c:Code}{l:List Value}{w:World}{R:Ending→World→Prop}{t0 t1 t2:Nat}(hf:P.funcs[f]?=some fn)(hb:fn.body=some c)(hr:fn.results= #[.tmp t0,.tmp t1,.tmp t2])(hn:Nat.ble l.length fn.ntmps=true)
    (h:WC P fn.ntmps [] c (argsFr 0 l) w (Ret3 t0 t1 t2 R)):Calls P f l.toArray w R:=by
  refine calls_of_wp hf hb (Code.wp_mono (fun e a w' hq=>?_) (h _ (has_args (by simpa[Nat.ble_eq]using hn))))
  obtain⟨ρ,ha,hx⟩:=hq
  have key:∀(a:Act) (w':World) (ρ:Fr),Has fn.ntmps [] a ρ→(∃v0 v1 v2:Value,lk ρ t0=some v0∧lk ρ t1=some v1∧lk ρ t2=some v2∧R (.returned (.tuple #[v0,v1,v2])) w')→a.defers=[]∧∃v,(results fn a.tmps).run P w'= .ok v w'∧R (.returned v) w':=by
    rintro a w' ρ ha ⟨v0,v1,v2,h0,h1,h2,hR⟩
    refine⟨ha.defers,_,?_,hR⟩
    unfold results
    rw[hr]
    simp[← ha.val t0 v0 h0,← ha.val t1 v1 h1,← ha.val t2 v2 h2]
  cases e<;>simp only[Ret3]at hx
  case normal=>exact key _ _ _ ha hx
  case ret=>exact key _ _ _ ha hx
def Ret4(t0 t1 t2 t3:Nat)(R:Ending→World→Prop)(e:Exit)(ρ:Fr)(w:World):Prop:=
  match e with
  | .normal| .ret=>∃v0 v1 v2 v3:Value,lk ρ t0=some v0∧lk ρ t1=some v1∧lk ρ t2=some v2∧lk ρ t3=some v3∧R (.returned (.tuple #[v0,v1,v2,v3])) w
  |_=>False
theorem calls4{P:Program}{f:FuncId}{fn:Func}{c:Code}{l:List Value}{w:World}{R:Ending→World→Prop}{t0 t1 t2 t3:Nat}(hf:P.funcs[f]?=some fn)(hb:fn.body=some c)(hr:fn.results= #[.tmp t0,.tmp t1,.tmp t2,.tmp t3])(hn:Nat.ble l.length fn.ntmps=true)
    (h:WC P fn.ntmps [] c (argsFr 0 l) w (Ret4 t0 t1 t2 t3 R)):Calls P f l.toArray w R:=by
  refine calls_of_wp hf hb (Code.wp_mono (fun e a w' hq=>?_) (h _ (has_args (by simpa[Nat.ble_eq]using hn))))
  obtain⟨ρ,ha,hx⟩:=hq
  have key:∀(a:Act) (w':World) (ρ:Fr),Has fn.ntmps [] a ρ→(∃v0 v1 v2 v3:Value,lk ρ t0=some v0∧lk ρ t1=some v1∧lk ρ t2=some v2∧lk ρ t3=some v3∧R (.returned (.tuple #[v0,v1,v2,v3])) w')→a.defers=[]∧∃v,(results fn a.tmps).run P w'= .ok v w'∧R (.returned v) w':=by
    rintro a w' ρ ha ⟨v0,v1,v2,v3,h0,h1,h2,h3,hR⟩
    refine⟨ha.defers,_,?_,hR⟩
    unfold results
    rw[hr]
    simp[← ha.val t0 v0 h0,← ha.val t1 v1 h1,← ha.val t2 v2 h2,← ha.val t3 v3 h3]
  cases e<;>simp only[Ret4]at hx
  case normal=>exact key _ _ _ ha hx
  case ret=>exact key _ _ _ ha hx
def Rets(R:Value→World→Prop)(e:Ending)(w:World):Prop:=∃v,e= .returned v∧R v w
structure Does (P:Program) (f:FuncId) (args:List Value) (w:World) (R:Value→World→Prop):Prop where
  calls:Calls P f args.toArray w (Rets R)
theorem Does.imp{P:Program}{f:FuncId}{args:List Value}{w:World}{R R':Value→World→Prop}(h:Does P f args w R)(hr:∀v w',R v w'→R' v w'):Does P f args w R':=
  ⟨Calls.mono h.calls fun _ _ ⟨v,e,r⟩=>⟨v,e,hr _ _ r⟩⟩
theorem fin0{R:Value→World→Prop}{ρ:Fr}{w:World}(hR:R (.tuple #[]) w):Ret0 (Rets R) .ret ρ w:=⟨_,rfl,hR⟩
theorem fin0n{R:Value→World→Prop}{ρ:Fr}{w:World}(hR:R (.tuple #[]) w):Ret0 (Rets R) .normal ρ w:=⟨_,rfl,hR⟩
theorem fin1{R:Value→World→Prop}{ρ:Fr}{w:World}{v0:Value}{t0:Nat}(h0:lk ρ t0=some v0)(hR:R v0 w):Ret1 t0 (Rets R) .ret ρ w:=⟨_,h0,_,rfl,hR⟩
theorem fin1n{R:Value→World→Prop}{ρ:Fr}{w:World}{v0:Value}{t0:Nat}(h0:lk ρ t0=some v0)(hR:R v0 w):Ret1 t0 (Rets R) .normal ρ w:=⟨_,h0,_,rfl,hR⟩
theorem fin2{R:Value→World→Prop}{ρ:Fr}{w:World}{v0 v1:Value}{t0 t1:Nat}(h0:lk ρ t0=some v0)(h1:lk ρ t1=some v1)(hR:R (.tuple #[v0,v1]) w):Ret2 t0 t1 (Rets R) .ret ρ w:=⟨_,_,h0,h1,_,rfl,hR⟩
theorem fin2n{R:Value→World→Prop}{ρ:Fr}{w:World}{v0 v1:Value}{t0 t1:Nat}(h0:lk ρ t0=some v0)(h1:lk ρ t1=some v1)(hR:R (.tuple #[v0,v1]) w):Ret2 t0 t1 (Rets R) .normal ρ w:=⟨_,_,h0,h1,_,rfl,hR⟩
theorem fin3{R:Value→World→Prop}{ρ:Fr}{w:World}{v0 v1 v2:Value}{t0 t1 t2:Nat}(h0:lk ρ t0=some v0)(h1:lk ρ t1=some v1)(h2:lk ρ t2=some v2)(hR:R (.tuple #[v0,v1,v2]) w):Ret3 t0 t1 t2 (Rets R) .ret ρ w:=⟨_,_,_,h0,h1,h2,_,rfl,hR⟩
theorem fin3n{R:Value→World→Prop}{ρ:Fr}{w:World}{v0 v1 v2:Value}{t0 t1 t2:Nat}(h0:lk ρ t0=some v0)(h1:lk ρ t1=some v1)(h2:lk ρ t2=some v2)(hR:R (.tuple #[v0,v1,v2]) w):Ret3 t0 t1 t2 (Rets R) .normal ρ w:=⟨_,_,_,h0,h1,h2,_,rfl,hR⟩
theorem fin4{R:Value→World→Prop}{ρ:Fr}{w:World}{v0 v1 v2 v3:Value}{t0 t1 t2 t3:Nat}(h0:lk ρ t0=some v0)(h1:lk ρ t1=some v1)(h2:lk ρ t2=some v2)(h3:lk ρ t3=some v3)(hR:R (.tuple #[v0,v1,v2,v3]) w):Ret4 t0 t1 t2 t3 (Rets R) .ret ρ w:=⟨_,_,_,_,h0,h1,h2,h3,_,rfl,hR⟩
theorem fin4n{R:Value→World→Prop}{ρ:Fr}{w:World}{v0 v1 v2 v3:Value}{t0 t1 t2 t3:Nat}(h0:lk ρ t0=some v0)(h1:lk ρ t1=some v1)(h2:lk ρ t2=some v2)(h3:lk ρ t3=some v3)(hR:R (.tuple #[v0,v1,v2,v3]) w):Ret4 t0 t1 t2 t3 (Rets R) .normal ρ w:=⟨_,_,_,_,h0,h1,h2,h3,_,rfl,hR⟩
theorem does0{P:Program}{f:FuncId}{fn:Func}{c:Code}{l:List Value}{w:World}{R:Value→World→Prop}(hf:P.funcs[f]?=some fn)(hb:fn.body=some c)(hr:fn.results= #[])(hn:Nat.ble l.length fn.ntmps=true)
    (h:WC P fn.ntmps [] c (argsFr 0 l) w (Ret0 (Rets R))):Does P f l w R:=⟨calls0 hf hb hr hn h⟩
theorem does1{P:Program}{f:FuncId}{fn:Func}{c:Code}{l:List Value}{w:World}{R:Value→World→Prop}{t0:Nat}(hf:P.funcs[f]?=some fn)(hb:fn.body=some c)(hr:fn.results= #[.tmp t0])(hn:Nat.ble l.length fn.ntmps=true)
    (h:WC P fn.ntmps [] c (argsFr 0 l) w (Ret1 t0 (Rets R))):Does P f l w R:=⟨calls1 hf hb hr hn h⟩
theorem does2{P:Program}{f:FuncId}{fn:Func}{c:Code}{l:List Value}{w:World}{R:Value→World→Prop}{t0 t1:Nat}(hf:P.funcs[f]?=some fn)(hb:fn.body=some c)(hr:fn.results= #[.tmp t0,.tmp t1])(hn:Nat.ble l.length fn.ntmps=true)
    (h:WC P fn.ntmps [] c (argsFr 0 l) w (Ret2 t0 t1 (Rets R))):Does P f l w R:=⟨calls2 hf hb hr hn h⟩
theorem does3{P:Program}{f:FuncId}{fn:Func}{c:Code}{l:List Value}{w:World}{R:Value→World→Prop}{t0 t1 t2:Nat}(hf:P.funcs[f]?=some fn)(hb:fn.body=some c)(hr:fn.results= #[.tmp t0,.tmp t1,.tmp t2])(hn:Nat.ble l.length fn.ntmps=true)
    (h:WC P fn.ntmps [] c (argsFr 0 l) w (Ret3 t0 t1 t2 (Rets R))):Does P f l w R:=⟨calls3 hf hb hr hn h⟩
theorem does4{P:Program}{f:FuncId}{fn:Func}{c:Code}{l:List Value}{w:World}{R:Value→World→Prop}{t0 t1 t2 t3:Nat}(hf:P.funcs[f]?=some fn)(hb:fn.body=some c)(hr:fn.results= #[.tmp t0,.tmp t1,.tmp t2,.tmp t3])(hn:Nat.ble l.length fn.ntmps=true)
    (h:WC P fn.ntmps [] c (argsFr 0 l) w (Ret4 t0 t1 t2 t3 (Rets R))):Does P f l w R:=⟨calls4 hf hb hr hn h⟩
end Go.Proofs.LL
