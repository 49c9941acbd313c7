/- Contracts of functions and own laws. Conditions: those that each theorem states. -/
import Derived.Test.YtbkhpjeaacoobaaGreatDoorA06
import Derived.Test.YtbkhpjeaacoobaaGreatDoorProg
import Derived.KernelRfl
set_option linter.all false
namespace Go.Proofs.LL
open Go Go.RowKit
def dagB(ops:Array Oper):Bool:=(List.range ops.size).all fun j=>match ops[j]? with
  |some o=>o.after.toList.all fun e=> !(Region.binds .any e)||Nat.blt e.on j
  |none=>true
def depsB(ops:Array Oper)(i:Nat):List Nat:=match ops[i]? with
  |some o=>(o.after.toList.filter fun e=>Region.binds .any e).map (·.on)
  |none=>[]
theorem all_listed{ops:Array Oper}{listed:Array Bool}(hd:dagB ops=true)(hr:Region.ready .any ops listed=[])(hs:listed.size=ops.size):∀j,j<ops.size→listed.getD j false=true:=by
  intro j
  induction j using Nat.strongRecOn with
  |_ j ih=>
    intro hj
    cases hq:listed.getD j false with
    |true=>rfl
    |false=>
      exfalso
      have ho:ops[j]?=some ops[j]:=by simp[hj]
      have hm:j∈Region.ready .any ops listed:=by
        refine mem_ready.2 ⟨?_,ops[j],ho,fun e he hb=>?_⟩
        · simp[Array.getD_eq_getD_getElem?,show j<listed.size by omega]at hq⊢
          exact hq
        · have h1:=List.all_eq_true.1 hd j (List.mem_range.2 hj)
          rw[ho]at h1
          have h2:=List.all_eq_true.1 h1 e (by simpa using he)
          rw[hb]at h2
          have h3:e.on<j:=by simpa[Nat.blt_eq]using h2
          exact ih _ h3 (by omega)
      rw[hr]at hm
      cases hm
def freeN(listed:Array Bool):Nat:=listed.toList.count false
theorem freeN_set{listed:Array Bool}{i:Nat}(h:listed.getD i true=false):freeN listed=freeN (listed.setIfInBounds i true)+1:=by
  have hi:i<listed.size:=by
    rcases Nat.lt_or_ge i listed.size with h1|h1
    · exact h1
    · simp[Array.getD_eq_getD_getElem?,Array.getElem?_eq_none h1]at h
  have h2:listed.toList[i]'(by simpa using hi)=false:=by
    simpa[Array.getD_eq_getD_getElem?,hi]using h
  unfold freeN
  have h3:0<List.count false listed.toList:=List.count_pos_iff.2 (h2▸List.getElem_mem _)
  rw[Array.toList_setIfInBounds,List.count_set (by simpa using hi),h2]
  have h4:(if(false==false)=true then 1 else 0:Nat)=1:=rfl
  have h5:(if(true==false)=true then 1 else 0:Nat)=0:=rfl
  rw[h4,h5];omega
theorem wpAny_inv{P:Program}{ops:Array Oper}{Q:Exit→Act→World→Prop}(I:Array Bool→Act→World→Prop)
    (step:∀listed i a w,i∈Region.ready .any ops listed→listed.size=ops.size→I listed a w→wpOp P ops Q i (fun a' w'=>I (listed.setIfInBounds i true) a' w') a w)
    (fin:∀listed a w,Region.ready .any ops listed=[]→listed.size=ops.size→I listed a w→Q .normal a w):
    ∀(fuel:Nat) (listed:Array Bool) (a:Act) (w:World),listed.size=ops.size→freeN listed≤fuel→I listed a w→wpAny P .any ops Q fuel listed a w
  |0,listed,a,w,hs,hf,hI=>by
    have h0:Region.ready .any ops listed=[]:=by
      rcases hr:Region.ready .any ops listed with _|⟨i,r⟩
      · rfl
      · have hm:i∈Region.ready .any ops listed:=by rw[hr];simp
        have:=freeN_set (mem_ready.1 hm).1
        omega
    exact⟨h0,fin _ _ _ h0 hs hI⟩
  |fuel+1,listed,a,w,hs,hf,hI=>⟨fun h0=>fin _ _ _ h0 hs hI,fun i hi=>
    wpOp_mono (fun a' w' h'=>wpAny_inv I step fin fuel _ a' w' (by simpa using hs) (by have:=freeN_set (mem_ready.1 hi).1;omega) h') (step _ _ _ _ hi hs hI)⟩
def StepOp(P:Program)(ops:Array Oper)(N:Nat)(D:List Deferred)(i:Nat)(ρ:Fr)(w:World)(nx:Fr→World→Prop):Prop:=
  ∀a,Has N D a ρ→∀(Q:Exit→Act→World→Prop) (K:Act→World→Prop),(∀a' ρ' w',Has N D a' ρ'→nx ρ' w'→K a' w')→wpOp P ops Q i K a w
section
variable {P:Program} {ops:Array Oper} {N:Nat} {D:List Deferred} {i:Nat} {ρ:Fr} {w:World} {nx:Fr→World→Prop}
theorem StepOp.l{op:Op}{ty:TypeId}{d:Nat}{pos:String}{af:Array Edge}{R:Value→World→Prop}(ho:ops[i]?=some ⟨some d,op,ty,pos,af,none⟩)(hN:Nat.blt d N=true)
    (hr:LoudOp P op ty ρ w R) (h:∀v w',R v w'→nx ((d,v)::ρ) w'):StepOp P ops N D i ρ w nx:=by
  intro a ha Q K hK
  unfold wpOp
  simp only[ho]
  rw[if_pos (by simp[Region.wanted])]
  exact .inl (hr N D a _ pos af _ ha _ _ fun v w' hv=>hK _ _ _ (ha.put hN v) (h v w' hv))
theorem StepOp.l0{op:Op}{ty:TypeId}{pos:String}{af:Array Edge}{R:Value→World→Prop}(ho:ops[i]?=some ⟨none,op,ty,pos,af,none⟩)
    (hr:LoudOp P op ty ρ w R) (h:∀v w',R v w'→nx ρ w'):StepOp P ops N D i ρ w nx:=by
  intro a ha Q K hK
  unfold wpOp
  simp only[ho]
  rw[if_pos (by simp[Region.wanted])]
  exact .inl (hr N D a _ pos af _ ha _ _ fun v w' hv=>hK _ _ _ (ha.putNone v) (h v w' hv))
theorem StepOp.q{op:Op}{ty:TypeId}{d:Nat}{pos:String}{af:Array Edge}{v:Value}(ho:ops[i]?=some ⟨some d,op,ty,pos,af,none⟩)(hN:Nat.blt d N=true)
    (hr:RunOp P op ty ρ w v) (h:nx ((d,v)::ρ) w):StepOp P ops N D i ρ w nx:=
  StepOp.l ho hN (LoudOp.of_run hr) fun u w' hu=>by obtain⟨rfl,rfl⟩:=hu;exact h
end
theorem WC.regionI{P:Program}{N:Nat}{D:List Deferred}{ρ:Fr}{w:World}{X:Exit→Fr→World→Prop}{id:Nat}{l:List Oper}(J:(Nat→Bool)→Fr→World→Prop)
    (hm:P.follows .mixedOrders=true) (hd:dagB l.toArray=true) (h0:J (fun _=>false) ρ w.drew)
    (step:∀(L:Nat→Bool) ρ' w' i,i<l.length→(∀j∈depsB l.toArray i,L j=true)→L i=false→J L ρ' w'→StepOp P l.toArray N D i ρ' w' (fun ρ'' w''=>J (fun j=>Nat.beq j i||L j) ρ'' w''))
    (fin:∀L ρ' w',(∀j,j<l.length→L j=true)→J L ρ' w'→X .normal ρ' w'):WC P N D (.region id l.toArray true) ρ w X:=by
  intro a ha
  refine wp_region_any hm (wpAny_inv (fun listed a w=>∃ρ',Has N D a ρ'∧J (fun j=>listed.getD j false) ρ' w) ?_ ?_ _ _ _ _ (by simp) ?_ ⟨ρ,ha,?_⟩)
  · rintro listed i a w hi hs ⟨ρ',ha',hJ⟩
    obtain⟨h1,o,ho,h2⟩:=mem_ready.1 hi
    have hil:i<l.toArray.size:=by
      rcases Nat.lt_or_ge i l.toArray.size with h3|h3
      · exact h3
      · rw[Array.getElem?_eq_none h3]at ho;cases ho
    refine step (fun j=>listed.getD j false) ρ' w i (by simpa using hil) (fun j hj=>?_) (unlisted h1) hJ a ha' _ _ (fun a' ρ'' w' ha'' hn=>⟨ρ'',ha'',?_⟩)
    · unfold depsB at hj
      rw[ho]at hj
      obtain⟨e,he,rfl⟩:=List.mem_map.1 hj
      obtain⟨he1,he2⟩:=List.mem_filter.1 he
      exact h2 e (by simpa using he1) he2
    · have e1:(fun j=>(listed.setIfInBounds i true).getD j false)=fun j=>Nat.beq j i||listed.getD j false:=by
        funext j
        rcases Decidable.em (i=j)with rfl|hne
        · have:i<listed.size:=by omega
          simp[Array.getD_eq_getD_getElem?,this]
        · have hb:Nat.beq j i=false:=by
            cases hq:Nat.beq j i with
            |false=>rfl
            |true=>exact absurd (Nat.eq_of_beq_eq_true hq).symm hne
          rw[getD_set_ne false hne,hb]
          rfl
      rw[e1];exact hn
  · rintro listed a w hr hs ⟨ρ',ha',hJ⟩
    exact⟨ρ',ha',fin _ _ _ (fun j hj=>all_listed hd hr hs j (by simpa using hj)) hJ⟩
  · unfold freeN
    simp
  · have e1:(fun j=>(Array.replicate l.toArray.size false).getD j false)=fun _=>false:=by
      funext j
      simp only[Array.getD_eq_getD_getElem?]
      rcases Nat.lt_or_ge j l.toArray.size with h|h
      · simp at h;simp[h]
      · simp at h;simp[h]
    rw[e1];exact h0
end Go.Proofs.LL
namespace Go.Proofs.LL
open Go Go.RowKit
inductive OT where
  |nil|q (i:Nat) (r:OT)|l (i:Nat) (r:OT)|alt (a b:OT)
def OT.firsts:OT→List Nat
  | .l i _=>[i]
  | .alt a b=>a.firsts++b.firsts
  |_=>[]
def OT.depth:OT→Nat
  | .nil=>0
  | .q _ r=>r.depth+1
  | .l _ r=>r.depth+1
  | .alt a b=>max a.depth b.depth
theorem OT.firsts_nil:∀t:OT,t.depth=0→t.firsts=[]
  | .nil,_=>rfl
  | .q i r,h=>by simp[OT.depth]at h
  | .l i r,h=>by simp[OT.depth]at h
  | .alt a b,h=>by
    have h1:max a.depth b.depth=0:=h
    show a.firsts++b.firsts=[]
    rw[OT.firsts_nil a (by omega),OT.firsts_nil b (by omega)];rfl
def treeOK(ops:Array Oper):Bool→OT→Array Bool→Bool
  |_,.nil,listed=>(Region.ready .any ops listed).isEmpty
  |_,.q i r,listed=>Nat.blt i ops.size&&Region.free .any ops listed i&&(Region.ready .any ops listed).contains i&&treeOK ops true r (listed.setIfInBounds i true)
  |top,.l i r,listed=>(!top||(Region.ready .any ops listed==[i]))&&Nat.blt i ops.size&&treeOK ops true r (listed.setIfInBounds i true)
  |top,.alt a b,listed=>(!top||(Region.ready .any ops listed==a.firsts++b.firsts))&& !a.firsts.isEmpty&&treeOK ops false a listed&&treeOK ops false b listed
def wpTree(P:Program)(ops:Array Oper)(Q:Exit→Act→World→Prop)(S:World→Prop):OT→Act→World→Prop
  | .nil,a,w=>Q .normal a w
  | .q i r,a,w=>∃v,YieldsIf P ops S (ops.getD i default) v a∧wpTree P ops Q S r (a.put (ops.getD i default).dst v) w
  | .l i r,a,w=>wpOp P ops Q i (fun a' w'=>S w'∧wpTree P ops Q S r a' w') a w
  | .alt s t,a,w=>wpTree P ops Q S s a w∧wpTree P ops Q S t a w
section
variable {P:Program} {ops:Array Oper} {X:Exit→Act→World→Prop} {S:World→Prop}
theorem wpAnyK_of_tree(hs:Region.noSelect ops=true):∀(t:OT) (listed:Array Bool) (a:Act) (w:World),
    closed ops listed→S w→wpTree P ops (NoPanic X) S t a w→
    (treeOK ops true t listed=true→∀fuel,t.depth≤fuel→wpAnyK P ops (NoPanic X) S ops.size fuel listed a w)∧
    (treeOK ops false t listed=true→∀fuel,t.depth≤fuel+1→∀i∈t.firsts,i∈Region.ready .any ops listed→wpOp P ops (NoPanic X) i (fun a' w'=>((listed.setIfInBounds i true).getD ops.size false=false→S w')∧wpAnyK P ops (NoPanic X) S ops.size fuel (listed.setIfInBounds i true) a' w') a w)
  | .nil,listed,a,w,hc,hS,h=>by
    refine⟨fun hB fuel _=>?_,fun _ _ _ i hi=>by cases hi⟩
    have h0:Region.ready .any ops listed=[]:=by simpa[treeOK]using hB
    cases fuel with
    |zero=>exact⟨h0,h⟩
    |succ f=>exact⟨fun _=>h,fun i hi=>by rw[h0]at hi;cases hi⟩
  | .q i r,listed,a,w,hc,hS,h=>by
    refine⟨fun hB fuel hf=>?_,fun _ _ _ i hi=>by cases hi⟩
    simp only[treeOK,Bool.and_eq_true]at hB
    obtain⟨⟨⟨hi,hfr⟩,hr⟩,hB'⟩:=hB
    have hlt:i<ops.size:=by simpa[Nat.blt_eq]using hi
    have hoi:ops[i]?=some (ops.getD i default):=by simp[Array.getD,hlt]
    have hri:i∈Region.ready .any ops listed:=by simpa using hr
    obtain⟨v,hy,h'⟩:=h
    cases fuel with
    |zero=>simp[OT.depth]at hf
    |succ f=>
      refine wpAnyK_first hoi (Region.noSelect_spec hs) (fun _ _ _ h=>h) (by omega) (fun l hcl hL=>?_) _ listed a w hc (Region.free_spec hoi hfr) hri hy (fun _=>hS)
        ((wpAnyK_of_tree hs r _ _ _ (closed_set hc hri) hS h').1 hB' f (by simp[OT.depth]at hf;omega))
      have h3:=hcl.1
      simp[Array.getD_eq_getD_getElem?,Array.getElem?_eq_none (show l.size≤ops.size by omega)]at hL
  | .l i r,listed,a,w,hc,hS,h=>by
    have key:Nat.blt i ops.size=true→treeOK ops true r (listed.setIfInBounds i true)=true→∀fuel,r.depth≤fuel→i∈Region.ready .any ops listed→wpOp P ops (NoPanic X) i (fun a' w'=>((listed.setIfInBounds i true).getD ops.size false=false→S w')∧wpAnyK P ops (NoPanic X) S ops.size fuel (listed.setIfInBounds i true) a' w') a w:=
      fun hi hB' fuel hf hri=>wpOp_mono (fun a' w' hh=>⟨fun _=>hh.1,(wpAnyK_of_tree hs r _ _ _ (closed_set hc hri) hh.1 hh.2).1 hB' fuel hf⟩) h
    refine⟨fun hB fuel hf=>?_,fun hB fuel hf j hj hr=>?_⟩
    · simp only[treeOK,Bool.and_eq_true,Bool.not_true,Bool.false_or]at hB
      have hr':Region.ready .any ops listed=[i]:=by simpa using hB.1.1
      cases fuel with
      |zero=>simp[OT.depth]at hf
      |succ f=>
        refine⟨fun h0=>(by rw[hr']at h0;cases h0),fun j hj=>?_⟩
        have hj2:=hj
        rw[hr']at hj
        obtain rfl:j=i:=by simpa using hj
        exact key hB.1.2 hB.2 f (by simp[OT.depth]at hf;omega) hj2
    · simp only[treeOK,Bool.and_eq_true]at hB
      obtain rfl:j=i:=by simpa[OT.firsts]using hj
      exact key hB.1.2 hB.2 fuel (by simp[OT.depth]at hf;omega) hr
  | .alt s t,listed,a,w,hc,hS,h=>by
    have hsub:=wpAnyK_of_tree hs s listed a w hc hS h.1
    have htub:=wpAnyK_of_tree hs t listed a w hc hS h.2
    have hB2:treeOK ops false s listed=true→treeOK ops false t listed=true→∀fuel,max s.depth t.depth≤fuel+1→∀i∈s.firsts++t.firsts,i∈Region.ready .any ops listed→wpOp P ops (NoPanic X) i (fun a' w'=>((listed.setIfInBounds i true).getD ops.size false=false→S w')∧wpAnyK P ops (NoPanic X) S ops.size fuel (listed.setIfInBounds i true) a' w') a w:=
      fun h1 h2 fuel hf i hi hr=>(List.mem_append.1 hi).elim (fun hi=>hsub.2 h1 fuel (by omega) i hi hr) (fun hi=>htub.2 h2 fuel (by omega) i hi hr)
    refine⟨fun hB fuel hf=>?_,fun hB fuel hf j hj hr=>?_⟩
    · simp only[treeOK,Bool.and_eq_true,Bool.not_true,Bool.false_or]at hB
      have hr':Region.ready .any ops listed=s.firsts++t.firsts:=by simpa using hB.1.1.1
      have hne:s.firsts≠[]:=by simpa using hB.1.1.2
      cases fuel with
      |zero=>
        have hf':max s.depth t.depth≤0:=hf
        exact absurd (OT.firsts_nil s (by omega)) hne
      |succ f=>
        exact⟨fun h0=>absurd (List.append_eq_nil_iff.1 (hr'.symm.trans h0)).1 hne,fun i hi=>hB2 hB.1.2 hB.2 f hf i (by rw[← hr'];exact hi) hi⟩
    · simp only[treeOK,Bool.and_eq_true]at hB
      exact hB2 hB.1.2 hB.2 fuel hf j hj hr
def regionOKT(l:List Oper)(t:OT):Bool:=Region.noSelect l.toArray&&Nat.ble t.depth l.length&&treeOK l.toArray true t (Array.replicate l.length false)
def WX(P:Program)(ops:Array Oper)(S:World→Prop)(N:Nat)(D:List Deferred)(t:OT)(ρ:Fr)(w:World)(next:Fr→World→Prop):Prop:=
  ∀a,Has N D a ρ→∀X:Exit→Act→World→Prop,(∀a' ρ' w',Has N D a' ρ'→next ρ' w'→X .normal a' w')→wpTree P ops (NoPanic X) S t a w
theorem WC.regionT{N:Nat}{D:List Deferred}{ρ:Fr}{w:World}{X:Exit→Fr→World→Prop}{id:Nat}{l:List Oper}(t:OT)(S:World→Prop)
    (hm:P.follows .mixedOrders=true) (hok:regionOKT l t=true) (hS:S w.drew) (h:WX P l.toArray S N D t ρ w.drew (X .normal)):WC P N D (.region id l.toArray true) ρ w X:=by
  intro a ha
  simp only[regionOKT,Bool.and_eq_true]at hok
  obtain⟨⟨h1,h2⟩,h3⟩:=hok
  have hd:t.depth≤l.toArray.size:=by simpa[Nat.ble_eq]using h2
  refine wp_region_noPanic (wp_region_any hm (wpAny_of_K (S:=S) (L:=l.toArray.size) _ _ _ _ ?_))
  have:=(wpAnyK_of_tree (P:=P) (X:=fun e a' w'=>∃ρ',Has N D a' ρ'∧X e ρ' w') (S:=S) h1 t _ a w.drew (closed_start l.toArray (n:=l.length) (by simp)) hS (h a ha _ fun a' ρ' w' ha' hx=>⟨ρ',ha',hx⟩)).1 h3 l.toArray.size hd
  simpa using this
variable {N:Nat} {D:List Deferred} {ρ:Fr} {w:World} {next:Fr→World→Prop} {i:Nat} {r s t:OT}
theorem WX.nil(h:next ρ w):WX P ops S N D .nil ρ w next:=fun _ ha _ hQ=>hQ _ _ _ ha h
theorem WX.alt(h1:WX P ops S N D s ρ w next)(h2:WX P ops S N D t ρ w next):WX P ops S N D (.alt s t) ρ w next:=fun a ha X hX=>⟨h1 a ha X hX,h2 a ha X hX⟩
theorem WX.q{op:Op}{ty:TypeId}{d:Nat}{pos:String}{af:Array Edge}{v:Value}(ho:ops[i]?=some ⟨some d,op,ty,pos,af,none⟩)(hN:Nat.blt d N=true)
    (hr:∀w',S w'→RunOp P op ty ρ w' v) (h:WX P ops S N D r ((d,v)::ρ) w next):WX P ops S N D (.q i r) ρ w next:=by
  intro a ha X hX
  have e:ops.getD i default=⟨some d,op,ty,pos,af,none⟩:=by rw[Array.getD_eq_getD_getElem?,ho];rfl
  show∃v,YieldsIf P ops S (ops.getD i default) v a∧_
  rw[e]
  exact⟨v,.inl ⟨by simp[Region.wanted],fun w' hw'=>hr w' hw' N D a _ pos af _ ha⟩,h _ (ha.put hN v) X hX⟩
theorem WX.rd{op:Op}{ty:TypeId}{d:Nat}{pos:String}{af:Array Edge}{v:Value}(ho:ops[i]?=some ⟨some d,op,ty,pos,af,none⟩)(hN:Nat.blt d N=true)
    (hr:RunOp P op ty ρ w v) (h:S w∧WX P ops S N D r ((d,v)::ρ) w next):WX P ops S N D (.l i r) ρ w next:=by
  intro a ha X hX
  show wpOp _ _ _ _ _ _ _
  unfold wpOp
  simp only[ho]
  rw[if_pos (by simp[Region.wanted])]
  exact .inl (LoudOp.of_run hr N D a _ pos af _ ha _ _ fun v' w' hv=>by obtain⟨rfl,rfl⟩:=hv;exact⟨h.1,h.2 _ (ha.put hN _) X hX⟩)
theorem WX.l{op:Op}{ty:TypeId}{d:Nat}{pos:String}{af:Array Edge}{R:Value→World→Prop}(ho:ops[i]?=some ⟨some d,op,ty,pos,af,none⟩)(hN:Nat.blt d N=true)
    (hr:LoudOp P op ty ρ w R) (h:∀v w',R v w'→S w'∧WX P ops S N D r ((d,v)::ρ) w' next):WX P ops S N D (.l i r) ρ w next:=by
  intro a ha X hX
  show wpOp _ _ _ _ _ _ _
  unfold wpOp
  simp only[ho]
  rw[if_pos (by simp[Region.wanted])]
  exact .inl (hr N D a _ pos af _ ha _ _ fun v w' hv=>⟨(h v w' hv).1,(h v w' hv).2 _ (ha.put hN v) X hX⟩)
theorem WX.l0{op:Op}{ty:TypeId}{pos:String}{af:Array Edge}{R:Value→World→Prop}(ho:ops[i]?=some ⟨none,op,ty,pos,af,none⟩)
    (hr:LoudOp P op ty ρ w R) (h:∀v w',R v w'→S w'∧WX P ops S N D r ρ w' next):WX P ops S N D (.l i r) ρ w next:=by
  intro a ha X hX
  show wpOp _ _ _ _ _ _ _
  unfold wpOp
  simp only[ho]
  rw[if_pos (by simp[Region.wanted])]
  exact .inl (hr N D a _ pos af _ ha _ _ fun v w' hv=>⟨(h v w' hv).1,(h v w' hv).2 _ (ha.putNone v) X hX⟩)
end
end Go.Proofs.LL
namespace Go.Proofs.LL
def bigB(n:Nat):Nat→List UInt8
  |0=>[]
  |k+1=>UInt8.ofNat (n>>>(8 * k))::bigB n k
theorem bigB_length(n:Nat):∀k,(bigB n k).length=k
  |0=>rfl
  |k+1=>by simp[bigB,bigB_length n k]
theorem be_from(l:List UInt8):∀a,l.foldl (fun a b=>a * 256+b.toNat) a=a * 256^l.length+l.foldl (fun a b=>a * 256+b.toNat) 0:=by
  induction l with
  |nil=>intro a;simp
  |cons x r ih=>
    intro a
    simp only[List.foldl_cons,List.length_cons]
    rw[ih,ih (0 * 256+x.toNat),Nat.pow_succ,Nat.add_mul,Nat.mul_assoc,Nat.mul_comm 256,Nat.zero_mul,Nat.zero_add,Nat.add_assoc]
theorem be_cons(a:UInt8)(l:List UInt8):be (a::l)=a.toNat * 256^l.length+be l:=by
  unfold be
  rw[List.foldl_cons,be_from]
  simp
theorem be_bigB(n:Nat):∀k,be (bigB n k)=n%256^k
  |0=>by simp[bigB,be,Nat.mod_one]
  |k+1=>by
    have e:2^(8 * k)=256^k:=by rw[Nat.pow_mul]
    have h2:(UInt8.ofNat (n>>>(8 * k))).toNat=n / 256^k%256:=by
      rw[UInt8.toNat_ofNat',Nat.shiftRight_eq_div_pow,e]
    rw[bigB,be_cons,be_bigB n k,bigB_length,h2,Nat.pow_succ,Nat.mod_mul,Nat.add_comm,Nat.mul_comm (n / 256^k%256)]
theorem drop_flat{α:Type}(f:α→List UInt8)(k:Nat)(hf:∀x,(f x).length=k):∀(l:List α) (i:Nat) (h:i<l.length),(l.flatMap f).drop (i * k)=f l[i]++(l.drop (i+1)).flatMap f
  |[],_,h=>absurd h (by simp)
  |a::l,0,_=>by simp
  |a::l,i+1,h=>by
    have e:(i+1) * k=(f a).length+i * k:=by rw[hf,Nat.add_mul,Nat.one_mul,Nat.add_comm]
    rw[List.flatMap_cons,e,← List.drop_drop,List.drop_left,drop_flat f k hf l i (by simpa using h)]
    simp
theorem flat_length{α:Type}(f:α→List UInt8)(k:Nat)(hf:∀x,(f x).length=k):∀(l:List α),(l.flatMap f).length=l.length * k
  |[]=>by simp
  |a::l=>by rw[List.flatMap_cons,List.length_append,flat_length f k hf l,hf,List.length_cons,Nat.add_mul,Nat.one_mul,Nat.add_comm]
def txt(k:Nat)(t:List UInt8):List UInt8:=bigB t.length k++t
end Go.Proofs.LL
namespace Go.Proofs.LL
open Go Go.RowKit
inductive Pk where
  |mk (kind:Int) (num:Nat) (text:List UInt8) (ext:Int) (kids:List Pk)
  deriving Inhabited
namespace Pk
def kind:Pk→Int|mk k _ _ _ _=>k
def num:Pk→Nat|mk _ n _ _ _=>n
def text:Pk→List UInt8|mk _ _ t _ _=>t
def ext:Pk→Int|mk _ _ _ e _=>e
def kids:Pk→List Pk|mk _ _ _ _ ks=>ks
end Pk
def SlX(A:Nat→Prop)(w:World)(n:Nat)(v:Value)(pl:List Value→Prop):Prop:=
  ∃p c cells,v= .slice p n c∧n≤c∧pl cells∧(n=0∨∃b o,p=some ⟨b,o,none⟩∧A b∧At w b o cells)
mutual
def RepP(A:Nat→Prop)(w:World):Pk→List Value→Prop
  | .mk k n t e ks,cs=>∃sk,cs=[.int .i64 k,.int .u64 (n:Int),str t,.int .i64 e,sk]∧SlX A w ks.length sk (RepPL A w ks)
def RepPL(A:Nat→Prop)(w:World):List Pk→List Value→Prop
  |[],cs=>cs=[]
  |x::r,cs=>∃c c',cs=c++c'∧RepP A w x c∧RepPL A w r c'
end
section
variable {A B:Nat→Prop} {w w':World}
theorem RepP.len:∀ {x:Pk} {cs:List Value},RepP A w x cs→cs.length=5
  | .mk k n t e ks,cs,h=>by
    rw[RepP]at h
    obtain⟨sk,rfl,_⟩:=h
    rfl
theorem RepPL.len:∀ {l:List Pk} {cs:List Value},RepPL A w l cs→cs.length=l.length * 5
  |[],cs,h=>by rw[RepPL]at h;simp[h]
  |x::r,cs,h=>by
    rw[RepPL]at h
    obtain⟨c,c',rfl,h1,h2⟩:=h
    simp[h1.len,RepPL.len h2,Nat.add_mul];omega
theorem At.growP{b o:Nat}{l:List Value}(h:At w b o l)(e:Evo B w w')(hAB:∀b,b<w.heap.size→A b→B b)(hA:A b):At w' b o l:=by
  rcases Nat.eq_zero_or_pos l.length with h0|h0
  · intro j hj;omega
  · have hlt:b<w.heap.size:=by
      have h1:=h 0 h0
      rw[List.getElem?_eq_getElem h0]at h1
      exact lt_of_cell h1
    exact h.mono e (hAB b hlt hA)
mutual
theorem RepP.mono':∀ {x:Pk} {cs:List Value},RepP A w x cs→Evo B w w'→(∀b,b<w.heap.size→A b→B b)→RepP A w' x cs
  | .mk k n t _ ks,cs,h,e,hAB=>by
    rw[RepP]at h⊢
    obtain⟨sk,h1,⟨p1,c1,l1,a1,a2,a3,a4⟩⟩:=h
    refine⟨sk,h1,⟨p1,c1,l1,a1,a2,RepPL.mono' a3 e hAB,?_⟩⟩
    exact a4.imp id fun⟨b,o,x1,x2,x3⟩=>⟨b,o,x1,x2,x3.growP e hAB x2⟩
theorem RepPL.mono':∀ {l:List Pk} {cs:List Value},RepPL A w l cs→Evo B w w'→(∀b,b<w.heap.size→A b→B b)→RepPL A w' l cs
  |[],cs,h,_,_=>by rw[RepPL]at h⊢;exact h
  |x::r,cs,h,e,hAB=>by
    rw[RepPL]at h⊢
    obtain⟨c,c',h1,h2,h3⟩:=h
    exact⟨c,c',h1,RepP.mono' h2 e hAB,RepPL.mono' h3 e hAB⟩
end
theorem RepP.mono{x:Pk}{y:List Value}(h:RepP A w x y)(e:Evo B w w')(hAB:∀b,b<w.heap.size→A b→B b:=by(intro b hb1 hb2;first|exact trivial|exact hb2|((try dsimp only[Nb]at hb2⊢);omega))):RepP A w' x y:=h.mono' e hAB
theorem RepPL.mono{x:List Pk}{y:List Value}(h:RepPL A w x y)(e:Evo B w w')(hAB:∀b,b<w.heap.size→A b→B b:=by(intro b hb1 hb2;first|exact trivial|exact hb2|((try dsimp only[Nb]at hb2⊢);omega))):RepPL A w' x y:=h.mono' e hAB
theorem SlX.mono{n:Nat}{v:Value}{l:List Pk}(h:SlX A w n v (RepPL A w l))(e:Evo B w w')(hAB:∀b,b<w.heap.size→A b→B b:=by(intro b hb1 hb2;first|exact trivial|exact hb2|((try dsimp only[Nb]at hb2⊢);omega))):SlX A w' n v (RepPL A w' l):=by
  obtain⟨p,c,cells,h1,h2,h3,h4⟩:=h
  exact⟨p,c,cells,h1,h2,h3.mono' e hAB,h4.imp id fun⟨b,o,x1,x2,x3⟩=>⟨b,o,x1,x2,x3.growP e hAB x2⟩⟩
mutual
theorem RepP.weakenW:∀ {x:Pk} {cs:List Value},RepP A w x cs→(∀b,b<w.heap.size→A b→B b)→RepP B w x cs
  | .mk k n t e ks,cs,h,hAB=>by
    rw[RepP]at h⊢
    obtain⟨sk,h1,⟨p1,c1,l1,a1,a2,a3,a4⟩⟩:=h
    refine⟨sk,h1,⟨p1,c1,l1,a1,a2,RepPL.weakenW a3 hAB,?_⟩⟩
    rcases Nat.eq_zero_or_pos ks.length with h0|h0
    · exact .inl h0
    · refine a4.imp id fun⟨b,o,x1,x2,x3⟩=>⟨b,o,x1,hAB b ?_ x2,x3⟩
      have hl:=RepPL.len a3
      have h2:=x3 0 (by omega)
      rw[List.getElem?_eq_getElem (by omega)]at h2
      exact lt_of_cell h2
theorem RepPL.weakenW:∀ {l:List Pk} {cs:List Value},RepPL A w l cs→(∀b,b<w.heap.size→A b→B b)→RepPL B w l cs
  |[],cs,h,_=>by rw[RepPL]at h⊢;exact h
  |x::r,cs,h,hAB=>by
    rw[RepPL]at h⊢
    obtain⟨c,c',h1,h2,h3⟩:=h
    exact⟨c,c',h1,RepP.weakenW h2 hAB,RepPL.weakenW h3 hAB⟩
end
theorem RepP.weaken{x:Pk}{cs:List Value}(h:RepP A w x cs)(hAB:∀b,A b→B b):RepP B w x cs:=h.weakenW fun b _=>hAB b
theorem RepPL.weaken{x:List Pk}{cs:List Value}(h:RepPL A w x cs)(hAB:∀b,A b→B b):RepPL B w x cs:=h.weakenW fun b _=>hAB b
theorem RepPL.append:∀ {l l':List Pk} {cs cs':List Value},RepPL A w l cs→RepPL A w l' cs'→RepPL A w (l++l') (cs++cs')
  |[],l',cs,cs',h,h'=>by
    rw[RepPL]at h
    subst h
    simpa using h'
  |x::r,l',cs,cs',h,h'=>by
    rw[RepPL]at h
    obtain⟨c,c',rfl,h1,h2⟩:=h
    rw[List.cons_append,List.append_assoc,RepPL]
    exact⟨c,c'++cs',rfl,h1,h2.append h'⟩
theorem RepPL.one{x:Pk}{c:List Value}(h:RepP A w x c):RepPL A w [x] c:=by
  rw[RepPL]
  exact⟨c,[],by simp,h,by rw[RepPL]⟩
theorem RepPL.snoc{l:List Pk}{cs:List Value}{x:Pk}{c:List Value}(h:RepPL A w l cs)(h':RepP A w x c):RepPL A w (l++[x]) (cs++c):=h.append (RepPL.one h')
theorem RepPL.get:∀ {l:List Pk} {cs:List Value} {i:Nat} (hi:i<l.length),RepPL A w l cs→∃pre c post,cs=pre++(c++post)∧pre.length=i * 5∧RepP A w l[i] c
  |[],_,i,hi,_=>absurd hi (by simp)
  |x::r,cs,0,hi,h=>by
    rw[RepPL]at h
    obtain⟨c,c',rfl,h1,h2⟩:=h
    exact⟨[],c,c',rfl,rfl,h1⟩
  |x::r,cs,i+1,hi,h=>by
    rw[RepPL]at h
    obtain⟨c,c',rfl,h1,h2⟩:=h
    obtain⟨pre,d,post,rfl,e2,h3⟩:=RepPL.get (by simpa using hi) h2
    exact⟨c++pre,d,post,by simp,by simp[h1.len,e2];omega,h3⟩
theorem At.mid{b o:Nat}{pre c post:List Value}(h:At w b o (pre++(c++post))):At w b (o+pre.length) c:=by
  intro j hj
  have:=h (pre.length+j) (by simp;omega)
  rw[← Nat.add_assoc]at this
  rw[this,List.getElem?_append_right (by omega),List.getElem?_append_left (by omega)]
  congr 1
  omega
theorem RepP.one:∀ {x:Pk} {cs:List Value},RepP A w x cs→cs.all (fun v=>v.oneCell')=true
  | .mk k n t e ks,cs,h=>by
    rw[RepP]at h
    obtain⟨sk,rfl,⟨p1,c1,l1,rfl,_⟩⟩:=h
    rfl
theorem RepPL.oneAll:∀ {l:List Pk} {cs:List Value},RepPL A w l cs→cs.all (fun v=>v.oneCell')=true
  |[],cs,h=>by rw[RepPL]at h;simp[h]
  |x::r,cs,h=>by
    rw[RepPL]at h
    obtain⟨c,c',rfl,h1,h2⟩:=h
    rw[List.all_append,h1.one,h2.oneAll];rfl
end
theorem SlX.nil{A:Nat→Prop}{w:World}:SlX A w 0 (.slice none 0 0) (RepPL A w []):=⟨none,0,[],rfl,Nat.le_refl _,by rw[RepPL],.inl rfl⟩
theorem SlX.own{A:Nat→Prop}{w:World}{B e n:Nat}{v:Value}{xs:List Value}{l:List Pk}(h:Own B e 5 w v n xs)(hl:l.length=n)(hv:RepPL A w l xs)(hA:∀b,B≤b→b<w.heap.size→A b):SlX A w l.length v (RepPL A w l):=by
  obtain⟨p,c,h1,h2,h3⟩:=h.form
  subst hl
  refine⟨p,c,xs,h1,h2,hv,?_⟩
  rcases Nat.eq_zero_or_pos l.length with h0|h0
  · exact .inl h0
  · obtain⟨b,h4,h5,h6,h7⟩:=h3 h0
    exact .inr ⟨b,0,h4,hA b h5 h6,h7⟩
theorem RepP.openP{A:Nat→Prop}{w:World}{k:Int}{n:Nat}{t:List UInt8}{e:Int}{ks:List Pk}{cs:List Value}(h:RepP A w (.mk k n t e ks) cs):
    ∃pk ck,cs=[.int .i64 k,.int .u64 (n:Int),str t,.int .i64 e,.slice pk ks.length ck]∧ks.length≤ck∧SlX A w ks.length (.slice pk ks.length ck) (RepPL A w ks):=by
  rw[RepP]at h
  obtain⟨sk,rfl,h1⟩:=h
  have h1':=h1
  obtain⟨p,c,cells,rfl,hc,_⟩:=h1
  exact⟨_,_,rfl,hc,h1'⟩
theorem SlX.kid{A:Nat→Prop}{w:World}{p:Option Addr}{c i:Nat}{l:List Pk}(h:SlX A w l.length (.slice p l.length c) (RepPL A w l))(hi:i<l.length):
    ∃b o c',p=some ⟨b,o,none⟩∧A b∧At w b (o+i * 5) c'∧c'.length=5∧RepP A w l[i] c':=by
  obtain⟨p',c0,cells,e,_,hL,hat⟩:=h
  injection e with e1 _ _
  subst e1
  rcases hat with h0|⟨b,o,rfl,hA,hat⟩
  · omega
  · obtain⟨pre,c',post,rfl,hpre,hr⟩:=RepPL.get hi hL
    exact⟨b,o,c',rfl,hA,hpre▸At.mid hat,hr.len,hr⟩
theorem SlX.low{A B:Nat→Prop}{w:World}{n:Nat}{v:Value}{l:List Pk}(h:SlX A w n v (RepPL A w l))(hAB:∀b,A b→B b):SlX B w n v (RepPL B w l):=by
  obtain⟨p,c,cells,h1,h2,h3,h4⟩:=h
  exact⟨p,c,cells,h1,h2,h3.weaken hAB,h4.imp id fun⟨b,o,x1,x2,x3⟩=>⟨b,o,x1,hAB b x2,x3⟩⟩
mutual
def pcount:Pk→Nat
  | .mk _ _ _ _ ks=>1+pcountL ks
def pcountL:List Pk→Nat
  |[]=>0
  |x::r=>pcount x+pcountL r
end
theorem pcountL_len:∀l:List Pk,l.length≤pcountL l
  |[]=>Nat.zero_le _
  | .mk k n t e ks::r=>by
    have:=pcountL_len r
    rw[pcountL,pcount,List.length_cons];omega
theorem pcountL_mem:∀ {l:List Pk} {x:Pk},x∈l→pcount x≤pcountL l
  |a::r,x,h=>by
    rw[pcountL]
    rcases List.mem_cons.1 h with h|h
    · subst h;omega
    · have:=pcountL_mem h;omega
mutual
theorem Pk.ind{P:Pk→Prop}(h:∀k n t e ks,(∀x∈ks,P x)→P (.mk k n t e ks)):∀x:Pk,P x
  | .mk k n t e ks=>h k n t e ks (Pk.indL h ks)
theorem Pk.indL{P:Pk→Prop}(h:∀k n t e ks,(∀x∈ks,P x)→P (.mk k n t e ks)):∀l:List Pk,∀x∈l,P x
  |[],_,hx=>by cases hx
  |a::r,x,hx=>by
    rcases List.mem_cons.1 hx with e|hx
    · exact e▸Pk.ind h a
    · exact Pk.indL h r x hx
end
end Go.Proofs.LL
set_option maxRecDepth 20000
namespace Go.Proofs.LL
open Go Go.Proofs Go.RowKit
theorem agg_25:aggT Tryz.prog 25=some 5:=by kernel_rfl
theorem body_14:bodyB Tryz.prog 14=true:=by kernel_rfl
theorem fo_25_4:fOff Tryz.prog 25 4=some 4:=by kernel_rfl
theorem one_23:oneT Tryz.prog 23=true:=by kernel_rfl
theorem one_3:oneT Tryz.prog 3=true:=by kernel_rfl
theorem sl_23:slT Tryz.prog 23=some (25,5,64):=by kernel_rfl
theorem sz_3:szT Tryz.prog 3=some 1:=by kernel_rfl
theorem mixed:Tryz.prog.follows .mixedOrders=true:=by kernel_rfl
def FewS(x:Pk):Prop:=∀(cx:List Value) (lb:Nat) (L:Int) (w:World),RepP (fun b=>b≠lb) w x cx→Blk w lb [.int .i64 L]→0≤L→L≤1000000→
  Does Tryz.prog 14 [.agg cx.toArray,.pointer (some ⟨lb,0,none⟩)] w fun r w'=>∃b L',r= .bool b∧Blk w' lb [.int .i64 L']∧(b=true→(pcount x:Int)+L'=L∧0≤L')∧Evo (fun k=>k≠lb) w w'
theorem pcountL_app:∀(l m:List Pk),pcountL (l++m)=pcountL l+pcountL m
  |[],m=>by rw[List.nil_append,pcountL,Nat.zero_add]
  |a::r,m=>by rw[List.cons_append,pcountL,pcountL,pcountL_app r m];omega
theorem pcountL_take{l:List Pk}{i:Nat}(h:i<l.length):pcountL (l.take (i+1))=pcountL (l.take i)+pcount l[i]:=by
  rw[← List.take_append_getElem h,pcountL_app]
  rw[pcountL,pcountL];omega
theorem few_one{k:Int}{n:Nat}{t:List UInt8}{o:Int}{ks:List Pk}(hks:∀x∈ks,FewS x):FewS (.mk k n t o ks):=by
  intro cx lb L w hx hB q0 q1
  obtain⟨pk,ck,rfl,_,hK⟩:=hx.openP
  have hbl:=hB.lt
  refine does1 Tryz.func14 rfl rfl rfl ?_
  have he:Evo (fun k=>k≠lb) w w:=Evo.refl w
  refine WC.seq<|WC.region ?_
  have hs1:=he.size
  refine WL.l rfl (l_boxAgg rfl) fun _ w1 hh=>?_
  obtain⟨rfl,hb1,e1⟩:=hh
  refine WL.q rfl (r_assign rfl) ?_
  refine WL.nil ?_
  refine WC.seq<|WC.seq<|WC.region ?_
  refine WL.q rfl (r_move rfl) ?_
  refine WL.q rfl (r_nilp rfl) ?_
  replace hB:=hB.mono e1
  refine WL.q rfl (r_load one_3 rfl (Ext.refl _) (hB.get rfl)) ?_
  refine WL.q rfl (r_subi rfl rfl rfl (by omega) (by omega)) ?_
  refine WL.q rfl (r_nilp rfl) ?_
  refine WL.l0 (l_store sz_3 rfl rfl (by first|rfl|assumption|exact Own.one (by assumption)) hB rfl) fun _ w2 hh=>?_
  obtain⟨hB,e2,hz2⟩:=hh
  refine WL.nil ?_
  refine WC.seq<|WC.region ?_
  refine WL.q rfl (r_move rfl) ?_
  refine WL.q rfl (r_nilp rfl) ?_
  refine WL.q rfl (r_load one_3 rfl (Ext.refl _) (hB.get rfl)) ?_
  refine WL.q rfl (r_lss rfl rfl) ?_
  refine WL.nil ?_
  refine WC.cond rfl ?_ ?_
  · intro hc
    refine WC.seq<|WC.region ?_
    refine WL.q rfl (r_assign rfl) ?_
    refine WL.nil ?_
    refine WC.ret ?_
    replace he:=(he.then e1).then e2
    exact fin1 rfl ⟨false,_,rfl,hB,fun h=>(by cases h),he⟩
  · intro hc
    have q2:¬L-1<0:=by simpa using hc
    refine WC.skip ?_
    refine WC.seq<|WC.seq<|WC.region ?_
    refine WL.q rfl (r_assign rfl) ?_
    refine WL.nil ?_
    refine WC.block ?_
    replace hK:=(hK.mono e1).mono e2
    replace hb1:=hb1.mono e2
    replace he:=(he.then e1).then e2
    refine WC.loop2 (ι:=(Nat×Int)) [(1,_),(2,_),(4,_)] (fun i=>[(5,.int .i64 (i.1:Int))]) (fun i wi=>Blk wi lb [.int .i64 i.2]∧0≤i.2∧(1+(pcountL (ks.take i.1):Int)+i.2=L)∧i.1≤ks.length∧Evo (fun k=>k≠lb) w2 wi) (fun i=>ks.length-i.1) (0,L-1) (.cons rfl (.cons rfl (.cons rfl .nil))) (.cons rfl .nil) (⟨hB,by omega,by simp[pcountL];omega,Nat.zero_le _,Evo.refl _⟩) ?_
    intro i wi1 hh;obtain⟨hB,n0,n1,n2,hE⟩:=hh
    obtain⟨i,M⟩:=i
    dsimp only at hB n0 n1 n2
    have hlt:=pcountL_len (ks.take i)
    rw[List.length_take,Nat.min_eq_left n2]at hlt
    rcases Nat.lt_or_ge i ks.length with qi|qi
    replace hK:=hK.mono hE
    · obtain⟨b,o1,c1,rfl,_,hA1,l1,hR1⟩:=hK.kid qi
      have hta:=pcountL_take qi
      have hone:=hR1.one
      refine WC.seq<|WC.seq<|WC.region ?_
      refine WL.q rfl (r_move rfl) ?_
      refine WL.q rfl (r_fieldAddr rfl fo_25_4) ?_
      replace hb1:=hb1.mono hE
      refine WL.q rfl (r_load one_23 rfl (Ext.refl _) (hb1.get rfl)) ?_
      refine WL.q rfl (r_len sl_23 rfl) ?_
      refine WL.q rfl (r_cmp (r_lss rfl rfl) (decide_eq_true (by omega))) ?_
      refine WL.nil ?_
      refine WC.condT rfl ?_
      refine WC.skip ?_
      refine WC.seq<|WC.block ?_
      refine WC.seq<|WC.region ?_
      refine WL.q rfl (r_fieldAddr rfl fo_25_4) ?_
      refine WL.q rfl (r_load one_23 rfl (Ext.refl _) (hb1.get rfl)) ?_
      refine WL.q rfl (r_move rfl) ?_
      refine WL.q rfl (r_idx sl_23 rfl rfl rfl (by first|omega|(simp;done)|(simp;omega))) ?_
      refine WL.q rfl (r_loadAgg agg_25 rfl (Ext.refl _) hA1 (hn:=l1)) ?_
      refine WL.q rfl (r_move rfl) ?_
      refine WL.l rfl (l_do body_14 rfl (hks _ (List.getElem_mem qi) _ _ _ _ hR1 hB n0 (by omega))) fun v3 w3 hh=>?_
      obtain⟨z,M',rfl,hB,n4,e3⟩:=hh
      refine WL.q rfl (r_not rfl) ?_
      refine WL.nil ?_
      refine WC.cond rfl ?_ ?_
      · intro h2
        refine WC.seq<|WC.region ?_
        refine WL.q rfl (r_assign rfl) ?_
        refine WL.nil ?_
        refine WC.ret ?_
        replace he:=(he.then hE).then e3
        exact fin1 rfl ⟨false,_,rfl,hB,fun h=>(by cases h),he⟩
      · intro h2
        obtain⟨n5,n6⟩:=n4 (by simpa using h2)
        refine WC.skip ?_
        refine WC.region ?_
        refine WL.q rfl (r_move rfl) ?_
        refine WL.q rfl (r_addi rfl rfl rfl (by omega) (by omega)) ?_
        refine WL.q rfl (r_assign rfl) ?_
        refine WL.nil ?_
        exact⟨(i+1,M'),(.cons rfl (.cons rfl (.cons rfl .nil))),(.cons (lk_int rfl (by omega)) .nil),⟨hB,n6,by dsimp only;omega,qi,((hE.then e3))⟩,(by show ks.length-(i+1)<ks.length-i;omega)⟩
    · have hin:i=ks.length:=by omega
      subst hin
      rw[List.take_length]at n1
      refine WC.seq<|WC.seq<|WC.region ?_
      refine WL.q rfl (r_move rfl) ?_
      refine WL.q rfl (r_fieldAddr rfl fo_25_4) ?_
      replace hb1:=hb1.mono hE
      refine WL.q rfl (r_load one_23 rfl (Ext.refl _) (hb1.get rfl)) ?_
      refine WL.q rfl (r_len sl_23 rfl) ?_
      refine WL.q rfl (r_cmp (r_lss rfl rfl) (decide_eq_false (by omega))) ?_
      refine WL.nil ?_
      refine WC.condF rfl ?_
      refine WC.exit ?_
      refine WC.seq<|WC.region ?_
      refine WL.q rfl (r_assign rfl) ?_
      refine WL.nil ?_
      refine WC.ret ?_
      replace he:=he.then hE
      exact fin1 rfl ⟨true,M,rfl,hB,fun _=>⟨by rw[pcount];omega,n0⟩,he⟩
theorem fews:∀x:Pk,FewS x:=Pk.ind fun _ _ _ _ _ h=>few_one h
end Go.Proofs.LL
