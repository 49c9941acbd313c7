/- Contracts of functions and own laws. Conditions: those that each theorem states. -/
import Derived.WalkKit
import Derived.OrdersHeld
import Derived.Below
set_option linter.all false
namespace Go.Proofs.LL
open Go Go.RowKit
abbrev Fr:=List (Nat×Value)
def lk:Fr→Nat→Option Value
  |[],_=>none
  |(s,v)::r,t=>bif Nat.beq s t then some v else lk r t
def ov(ρ:Fr):Operand→Option Value
  | .tmp t=>lk ρ t
  | .const v=>some v
  | .global g=>some (.pointer (some ⟨g,0,none⟩))
  | .func f=>some (.func (.func f) #[] #[])
structure Has (N:Nat) (D:List Deferred) (a:Act) (ρ:Fr):Prop where
  size:a.tmps.size=N
  defers:a.defers=D
  val:∀t v,lk ρ t=some v→a.tmps.getD t undef=v
theorem Has.ov{N:Nat}{D:List Deferred}{a:Act}{ρ:Fr}(h:Has N D a ρ){x:Operand}{v:Value}(hx:ov ρ x=some v):a.eval x=v:=by
  cases x with
  |tmp t=>exact h.val t v hx
  |const c=>simpa[LL.ov,Act.eval]using hx
  |global g=>simpa[LL.ov,Act.eval]using hx
  |func f=>simpa[LL.ov,Act.eval]using hx
theorem Has.put{N:Nat}{D:List Deferred}{a:Act}{ρ:Fr}(h:Has N D a ρ){d:Nat}(hd:Nat.blt d N=true)(v:Value):Has N D (a.put (some d) v) ((d,v)::ρ):=by
  have hdN:d<a.tmps.size:=by rw[h.size];simpa[Nat.blt_eq]using hd
  refine⟨by simp[Act.put,h.size],by simp[Act.put,h.defers],fun t u ht=>?_⟩
  simp only[lk]at ht
  cases hb:Nat.beq d t with
  |true=>
    rw[hb]at ht
    have e:d=t:=Nat.eq_of_beq_eq_true hb
    subst e
    have:v=u:=by simpa using ht
    subst this
    simp[Act.put,Array.getD,hdN]
  |false=>
    rw[hb]at ht
    have ne:d≠t:=Nat.ne_of_beq_eq_false hb
    have:=h.val t u (by simpa using ht)
    rw[← this]
    simp only[Act.put,Array.getD_eq_getD_getElem?]
    rw[Array.getElem?_setIfInBounds_ne ne]
theorem Has.putNone{N:Nat}{D:List Deferred}{a:Act}{ρ:Fr}(h:Has N D a ρ)(v:Value):Has N D (a.put none v) ρ:=h
def Sub:Fr→Fr→Prop
  |[],_=>True
  |(t,v)::r,ρ=>lk ρ t=some v∧Sub r ρ
theorem Sub.lk{ρ' ρ:Fr}(h:Sub ρ' ρ){t:Nat}{v:Value}(ht:lk ρ' t=some v):lk ρ t=some v:=by
  induction ρ' with
  |nil=>cases ht
  |cons p r ih=>
    obtain⟨s,u⟩:=p
    simp only[LL.lk]at ht
    cases hb:Nat.beq s t with
    |true=>
      rw[hb]at ht
      have e:s=t:=Nat.eq_of_beq_eq_true hb
      subst e
      have:u=v:=by simpa using ht
      subst this
      exact h.1
    |false=>rw[hb]at ht;exact ih h.2 (by simpa using ht)
theorem Has.sub{N:Nat}{D:List Deferred}{a:Act}{ρ ρ':Fr}(h:Has N D a ρ)(hs:Sub ρ' ρ):Has N D a ρ':=
  ⟨h.size,h.defers,fun t v ht=>h.val t v (hs.lk ht)⟩
def RunOp(P:Program)(op:Op)(ty:TypeId)(ρ:Fr)(w:World)(v:Value):Prop:=
  ∀(N:Nat) (D:List Deferred) (a:Act) (dst:Option Tmp) (pos:String) (af:Array Edge) (g:Option (Nat×Bool)),Has N D a ρ→
    (execOp a.eval ⟨dst,op,ty,pos,af,g⟩).run P w= .ok (.value v) w
def LoudOp(P:Program)(op:Op)(ty:TypeId)(ρ:Fr)(w:World)(R:Value→World→Prop):Prop:=
  ∀(N:Nat) (D:List Deferred) (a:Act) (dst:Option Tmp) (pos:String) (af:Array Edge) (g:Option (Nat×Bool)),Has N D a ρ→
    ∀(next:Act→World→Prop) (Q:Exit→Act→World→Prop),(∀v w',R v w'→next (a.put dst v) w')→Oper.wp P ⟨dst,op,ty,pos,af,g⟩ a w next Q
theorem LoudOp.of_run{P:Program}{op:Op}{ty:TypeId}{ρ:Fr}{w:World}{v:Value}(h:RunOp P op ty ρ w v):LoudOp P op ty ρ w (fun u w'=>u=v∧w'=w):=by
  intro N D a dst pos af g ha next Q hn
  unfold Oper.wp
  rw[h N D a dst pos af g ha]
  exact hn _ _ ⟨rfl,rfl⟩
theorem LoudOp.of_eq{P:Program}{op:Op}{ty:TypeId}{ρ:Fr}{w:World}{R:Value→World→Prop}
    (h:∀(N:Nat) (D:List Deferred) (a:Act) (dst:Option Tmp) (pos:String) (af:Array Edge) (g:Option (Nat×Bool)),Has N D a ρ→
      ∃v w',(execOp a.eval ⟨dst,op,ty,pos,af,g⟩).run P w= .ok (.value v) w'∧R v w'):LoudOp P op ty ρ w R:=by
  intro N D a dst pos af g ha next Q hn
  obtain⟨v,w',e,r⟩:=h N D a dst pos af g ha
  unfold Oper.wp
  rw[e]
  exact hn _ _ r
theorem LoudOp.of_skip{P:Program}{op:Op}{ty:TypeId}{ρ:Fr}{w:World}{R:Value→World→Prop}
    (h:∀(N:Nat) (D:List Deferred) (a:Act) (dst:Option Tmp) (pos:String) (af:Array Edge) (g:Option (Nat×Bool)),Has N D a ρ→
      ∃w',(execOp a.eval ⟨dst,op,ty,pos,af,g⟩).run P w= .ok .skip w'∧R undef w'):LoudOp P op ty ρ w R:=by
  intro N D a dst pos af g ha next Q hn
  obtain⟨w',e,r⟩:=h N D a dst pos af g ha
  unfold Oper.wp
  rw[e]
  exact hn _ _ r
def WL(P:Program)(ops:Array Oper)(N:Nat)(D:List Deferred)(l:List Oper)(ρ:Fr)(w:World)(next:Fr→World→Prop):Prop:=
  ∀a,Has N D a ρ→∀Q:Exit→Act→World→Prop,(∀a' ρ' w',Has N D a' ρ'→next ρ' w'→Q .normal a' w')→wpList P ops Q l a w
section WL
variable {P:Program} {ops:Array Oper} {N:Nat} {D:List Deferred} {ρ:Fr} {w:World} {next:Fr→World→Prop} {rest:List Oper}
theorem WL.nil(h:next ρ w):WL P ops N D [] ρ w next:=fun _ ha _ hQ=>wpList_nil (hQ _ _ _ ha h)
theorem WL.l{op:Op}{ty:TypeId}{d:Nat}{pos:String}{af:Array Edge}{R:Value→World→Prop}(hN:Nat.blt d N=true)
    (hr:LoudOp P op ty ρ w R) (h:∀v w',R v w'→WL P ops N D rest ((d,v)::ρ) w' next):WL P ops N D (⟨some d,op,ty,pos,af,none⟩::rest) ρ w next:=by
  intro a ha Q hQ
  refine wpList_plain rfl fun K hK=>?_
  exact hr N D a (some d) pos af none ha K Q fun v w' hv=>hK _ _ (h v w' hv _ (ha.put hN v) Q hQ)
theorem WL.l0{op:Op}{ty:TypeId}{pos:String}{af:Array Edge}{R:Value→World→Prop}
    (hr:LoudOp P op ty ρ w R) (h:∀v w',R v w'→WL P ops N D rest ρ w' next):WL P ops N D (⟨none,op,ty,pos,af,none⟩::rest) ρ w next:=by
  intro a ha Q hQ
  refine wpList_plain rfl fun K hK=>?_
  exact hr N D a none pos af none ha K Q fun v w' hv=>hK _ _ (h v w' hv _ (ha.putNone v) Q hQ)
theorem WL.q{op:Op}{ty:TypeId}{d:Nat}{pos:String}{af:Array Edge}{v:Value}(hN:Nat.blt d N=true)
    (hr:RunOp P op ty ρ w v) (h:WL P ops N D rest ((d,v)::ρ) w next):WL P ops N D (⟨some d,op,ty,pos,af,none⟩::rest) ρ w next:=
  WL.l hN (LoudOp.of_run hr) fun u w' hu=>by obtain⟨rfl,rfl⟩:=hu;exact h
def cnd(c:Bool)(v:Value):Value:=bif c then v else undef
theorem cnd_of{c:Bool}{v:Value}(h:c=true):some (cnd c v)=some v:=by simp[cnd,h]
def gdst(ops:Array Oper)(j:Nat):Option Tmp:=(ops[j]?).bind (·.dst)
def asB:Value→Option Bool
  | .bool b=>some b
  |_=>none
theorem yielded_of{a:Act}(ha:Has N D a ρ){j t:Nat}{v:Value}(hj:gdst ops j=some t)(ht:lk ρ t=some v)(hN:Nat.blt t N=true):
    yielded ops a.tmps j=asB v:=by
  have h1:=ha.val t v ht
  have hlt:t<a.tmps.size:=by rw[ha.size];simpa[Nat.blt_eq]using hN
  unfold yielded
  unfold gdst at hj
  rw[hj]
  have h2:a.tmps[t]?=some v:=by
    rw[Array.getElem?_eq_getElem hlt]
    simpa[Array.getD,hlt]using h1
  simp only[Option.bind_some,h2]
  cases v<;>rfl
theorem WL.lg{op:Op}{ty:TypeId}{d j t:Nat}{b:Bool}{pos:String}{af:Array Edge}{R:Value→World→Prop}(hN:Nat.blt d N=true)(hj:gdst ops j=some t)(ht:lk ρ t=some (.bool b))(hNt:Nat.blt t N=true)
    (hr:LoudOp P op ty ρ w R) (h:∀v w',R v w'→WL P ops N D rest ((d,v)::ρ) w' next):WL P ops N D (⟨some d,op,ty,pos,af,some (j,b)⟩::rest) ρ w next:=by
  intro a ha Q hQ
  refine wpList_step fun K hK=>?_
  rw[if_pos (by simp[Region.wanted,yielded_of ha hj ht hNt,asB])]
  exact hr N D a (some d) pos af _ ha K Q fun v w' hv=>hK _ _ (h v w' hv _ (ha.put hN v) Q hQ)
theorem WL.l0g{op:Op}{ty:TypeId}{j t:Nat}{b:Bool}{pos:String}{af:Array Edge}{R:Value→World→Prop}(hj:gdst ops j=some t)(ht:lk ρ t=some (.bool b))(hNt:Nat.blt t N=true)
    (hr:LoudOp P op ty ρ w R) (h:∀v w',R v w'→WL P ops N D rest ρ w' next):WL P ops N D (⟨none,op,ty,pos,af,some (j,b)⟩::rest) ρ w next:=by
  intro a ha Q hQ
  refine wpList_step fun K hK=>?_
  rw[if_pos (by simp[Region.wanted,yielded_of ha hj ht hNt,asB])]
  exact hr N D a none pos af _ ha K Q fun v w' hv=>hK _ _ (h v w' hv _ (ha.putNone v) Q hQ)
theorem WL.qg{op:Op}{ty:TypeId}{d j t:Nat}{b:Bool}{pos:String}{af:Array Edge}{v:Value}(hN:Nat.blt d N=true)(hj:gdst ops j=some t)(ht:lk ρ t=some (.bool b))(hNt:Nat.blt t N=true)
    (hr:RunOp P op ty ρ w v) (h:WL P ops N D rest ((d,v)::ρ) w next):WL P ops N D (⟨some d,op,ty,pos,af,some (j,b)⟩::rest) ρ w next:=
  WL.lg hN hj ht hNt (LoudOp.of_run hr) fun u w' hu=>by obtain⟨rfl,rfl⟩:=hu;exact h
def says(v:Value)(b:Bool):Bool:=match v with| .bool x=>x==b|_=>false
theorem WL.sk{op:Op}{ty:TypeId}{d j t:Nat}{b:Bool}{u:Value}{pos:String}{af:Array Edge}(hN:Nat.blt d N=true)(hj:gdst ops j=some t)(ht:lk ρ t=some u)(hs:says u b=false)(hNt:Nat.blt t N=true)
    (h:WL P ops N D rest ((d,undef)::ρ) w next):WL P ops N D (⟨some d,op,ty,pos,af,some (j,b)⟩::rest) ρ w next:=by
  intro a ha Q hQ
  refine wpList_step fun K hK=>?_
  have hy:=yielded_of ha hj ht hNt
  rw[if_neg (by
    simp only[Region.wanted,hy]
    cases u<;>simp_all [says,asB])]
  exact hK _ _ (h _ (ha.put hN undef) Q hQ)
theorem WL.sk0{op:Op}{ty:TypeId}{j t:Nat}{b:Bool}{u:Value}{pos:String}{af:Array Edge}(hj:gdst ops j=some t)(ht:lk ρ t=some u)(hs:says u b=false)(hNt:Nat.blt t N=true)
    (h:WL P ops N D rest ρ w next):WL P ops N D (⟨none,op,ty,pos,af,some (j,b)⟩::rest) ρ w next:=by
  intro a ha Q hQ
  refine wpList_step fun K hK=>?_
  have hy:=yielded_of ha hj ht hNt
  rw[if_neg (by
    simp only[Region.wanted,hy]
    cases u<;>simp_all [says,asB])]
  exact hK _ _ (h _ (ha.putNone undef) Q hQ)
theorem WL.qc{op:Op}{ty:TypeId}{d j t:Nat}{b x:Bool}{pos:String}{af:Array Edge}{v:Value}(hN:Nat.blt d N=true)(hj:gdst ops j=some t)(ht:lk ρ t=some (.bool x))(hNt:Nat.blt t N=true)
    (hr:(x==b)=true→RunOp P op ty ρ w v) (h:WL P ops N D rest ((d,cnd (x==b) v)::ρ) w next):WL P ops N D (⟨some d,op,ty,pos,af,some (j,b)⟩::rest) ρ w next:=by
  by_cases hx:(x==b)=true
  · have e:x=b:=by simpa using hx
    subst e
    refine WL.qg hN hj ht hNt (hr hx) ?_
    simpa[cnd]using h
  · refine WL.sk hN hj ht (by simpa[says]using hx) hNt ?_
    simpa[cnd,hx]using h
theorem WL.qcc{op:Op}{ty:TypeId}{d j t:Nat}{b x c:Bool}{pos:String}{af:Array Edge}{v:Value}(hN:Nat.blt d N=true)(hj:gdst ops j=some t)(ht:lk ρ t=some (cnd c (.bool x)))(hNt:Nat.blt t N=true)
    (hr:c=true→(x==b)=true→RunOp P op ty ρ w v) (h:WL P ops N D rest ((d,cnd (c&&(x==b)) v)::ρ) w next):WL P ops N D (⟨some d,op,ty,pos,af,some (j,b)⟩::rest) ρ w next:=by
  cases c with
  |true=>
    refine WL.qc hN hj (by simpa[cnd]using ht) hNt (hr rfl) ?_
    simpa using h
  |false=>
    refine WL.sk hN hj ht (by simp[says,cnd,undef]) hNt ?_
    simpa[cnd]using h
end WL
def WC(P:Program)(N:Nat)(D:List Deferred)(c:Code)(ρ:Fr)(w:World)(X:Exit→Fr→World→Prop):Prop:=
  ∀a,Has N D a ρ→c.wp P (fun e a' w'=>∃ρ',Has N D a' ρ'∧X e ρ' w') a w
def andThen(P:Program)(N:Nat)(D:List Deferred)(y:Code)(X:Exit→Fr→World→Prop):Exit→Fr→World→Prop
  | .normal,ρ,w=>WC P N D y ρ w X
  |e,ρ,w=>X e ρ w
def atBlock(id:Nat)(X:Exit→Fr→World→Prop):Exit→Fr→World→Prop
  | .exit i,ρ,w=>bif Nat.beq i id then X .normal ρ w else X (.exit i) ρ w
  |e,ρ,w=>X e ρ w
section WC
variable {P:Program} {N:Nat} {D:List Deferred} {ρ:Fr} {w:World} {X:Exit→Fr→World→Prop}
theorem WC.seq{x y:Code}(h:WC P N D x ρ w (andThen P N D y X)):WC P N D (.seq x y) ρ w X:=by
  intro a ha
  refine wp_seq (Code.wp_mono (fun e a' w' hq=>?_) (h a ha))
  obtain⟨ρ',ha',hx⟩:=hq
  cases e<;>simp only[Exit.then]
  case normal=>exact hx a' ha'
  all_goals exact⟨ρ',ha',hx⟩
theorem WC.ret(h:X .ret ρ w):WC P N D .ret ρ w X:=fun _ ha=>wp_ret ⟨ρ,ha,h⟩
theorem WC.skip(h:X .normal ρ w):WC P N D .skip ρ w X:=fun _ ha=>wp_skip ⟨ρ,ha,h⟩
theorem WC.exit{id:Nat}(h:X (.exit id) ρ w):WC P N D (.exit id) ρ w X:=fun _ ha=>wp_exit ⟨ρ,ha,h⟩
theorem WC.label{l:Nat}(h:X .normal ρ w):WC P N D (.label l) ρ w X:=fun _ ha=>wp_label ⟨ρ,ha,h⟩
theorem WC.sub{c:Code}{ρ':Fr}(hs:Sub ρ' ρ)(h:WC P N D c ρ' w X):WC P N D c ρ w X:=fun a ha=>h a (ha.sub hs)
theorem WC.block{id:Nat}{c:Code}(h:WC P N D c ρ w (atBlock id X)):WC P N D (.block id c) ρ w X:=by
  intro a ha
  refine wp_block (Code.wp_mono (fun e a' w' hq=>?_) (h a ha))
  obtain⟨ρ',ha',hx⟩:=hq
  cases e with
  |exit i=>
    simp only[atBlock]at hx
    simp only[Exit.inBlock]
    cases hb:Nat.beq i id with
    |true=>
      have e:i=id:=Nat.eq_of_beq_eq_true hb
      rw[if_pos e];rw[hb]at hx;exact⟨ρ',ha',hx⟩
    |false=>
      have ne:i≠id:=Nat.ne_of_beq_eq_false hb
      rw[if_neg ne];rw[hb]at hx;exact⟨ρ',ha',hx⟩
  |_=>exact⟨ρ',ha',hx⟩
theorem WC.condT{c:Operand}{x y:Code}(hc:ov ρ c=some (.bool true))(h:WC P N D x ρ w X):WC P N D (.cond c x y) ρ w X:=fun a ha=>wp_cond_true (ha.ov hc) (h a ha)
theorem WC.condF{c:Operand}{x y:Code}(hc:ov ρ c=some (.bool false))(h:WC P N D y ρ w X):WC P N D (.cond c x y) ρ w X:=fun a ha=>wp_cond_false (ha.ov hc) (h a ha)
theorem WC.cond{c:Operand}{x y:Code}{b:Bool}(hc:ov ρ c=some (.bool b))(ht:b=true→WC P N D x ρ w X)(hf:b=false→WC P N D y ρ w X):WC P N D (.cond c x y) ρ w X:=
  fun a ha=>wp_cond_split (ha.ov hc) (fun h=>ht h a ha) (fun h=>hf h a ha)
theorem WC.loop{c:Code}{ι:Type}(fr:ι→Fr)(at_:ι→World→Prop)(μ:ι→Nat)(i0:ι)(h0:Sub (fr i0) ρ)(hw0:at_ i0 w)
    (round:∀i w,at_ i w→WC P N D c (fr i) w (fun e ρ' w'=>match e with| .normal=>∃j,Sub (fr j) ρ'∧at_ j w'∧μ j<μ i|e=>X e ρ' w')):WC P N D (.loop c) ρ w X:=by
  intro a ha
  refine wp_mono (Q:=fun e a' w'=>∃ρ',Has N D a' ρ'∧X e ρ' w') ?_ (fun _ _ _ h=>h)
  intro b k cs
  have key:∀n i a w,μ i=n→Has N D a (fr i)→at_ i w→
      ∃e a' w',(∃ρ',Has N D a' ρ'∧X e ρ' w')∧Arrives P (lone (b.at a (.code c:: .inLoop c::k)) cs w) b k cs e a' w':=by
    intro n
    induction n using Nat.strongRecOn with
    |_ n ih=>
      intro i a w hn hI hw
      obtain⟨e,a₁,w₁,⟨ρ',ha',hq⟩,harr⟩:=round i w hw a hI b (.inLoop c::k) cs
      cases e with
      |normal=>
        obtain⟨j,hs,hwj,hlt⟩:=hq
        obtain⟨e₂,a₂,w₂,hq₂,harr₂⟩:=ih (μ j) (hn▸hlt) j a₁ w₁ rfl (ha'.sub hs) hwj
        exact⟨e₂,a₂,w₂,hq₂,.of_steps (Steps.trans harr (.one step_inLoop)) harr₂⟩
      |exit id=>exact⟨_,a₁,w₁,⟨ρ',ha',hq⟩,.pass (x:= .inLoop c) rfl (fun _ _=> .inl (by simp)) harr⟩
      |goto l=>exact⟨_,a₁,w₁,⟨ρ',ha',hq⟩,.pass (x:= .inLoop c) rfl (fun _ _=> .inl (by simp)) harr⟩
      |ret=>exact⟨_,a₁,w₁,⟨ρ',ha',hq⟩,.pass (x:= .inLoop c) rfl (fun _ _=> .inl (by simp)) harr⟩
      |panic ch=>exact⟨_,a₁,w₁,⟨ρ',ha',hq⟩,.pass (x:= .inLoop c) rfl (fun _ _=> .inl (by simp)) harr⟩
      |outgrown=>exact⟨_,a₁,w₁,⟨ρ',ha',hq⟩,.pass (x:= .inLoop c) rfl (fun _ _=> .inl (by simp)) harr⟩
  obtain⟨e,a',w',hq,harr⟩:=key _ i0 a w rfl (ha.sub h0) hw0
  exact⟨e,a',w',hq,.of_steps (.one step_loop) harr⟩
theorem WC.region{id:Nat}{l:List Oper}(h:WL P l.toArray N D l ρ w (X .normal)):WC P N D (.region id l.toArray false) ρ w X:=by
  intro a ha
  exact wp_region_lit (h a ha _ fun a' ρ' w' ha' hx=>⟨ρ',ha',hx⟩)
end WC
end Go.Proofs.LL
