/- Contracts of functions and own laws. Conditions: those that each theorem states. -/
import Derived.Test.YtdgbmbjkbmpcbaaGreatDoorV26
import Derived.Shelf.Sort.Plain
import Derived.Shelf.SlSortFuncK.WholeK
import Derived.Shelf.GgSortFunc.Tiny
import Derived.Ground.GgsProg
import Derived.Ground.NamesProg
import Derived.Shelf.Unicode.ValidAny
import Derived.Test.YtdgbmbjkbmpcbaaGreatDoorProg
import Derived.KernelRfl
set_option linter.all false
set_option autoImplicit true
set_option relaxedAutoImplicit true
set_option maxRecDepth 20000
namespace Go.Proofs.LL
open Go Go.RowKit
structure xZ where
  z:List (Nat×Value)
  f:List (Nat×Nat×Nat)
  s:List Nat
  i:List Nat
def E6:List (Nat×Nat×Nat)→Nat→Nat→Option Nat
  |[],_,_=>none
  |(a,b,k)::r,s,f=>bif Nat.beq a s&&Nat.beq b f then some k else E6 r s f
def sK:List Nat→Nat→Bool
  |[],_=>false
  |a::r,t=>Nat.beq a t||sK r t
structure TB (P:Program) (T:xZ):Prop where
  z:∀t z,DU T.z t=some z→iK P t=true∧bv P t=some z
  f:∀s f k,E6 T.f s f=some k→xr P s f=some k
  s:∀t,sK T.s t=true→∃e,u6 P t=some e
  i:∀t,sK T.i t=true→qW P t=true
def pQ(P:Program):List (Nat×Nat×Nat)→Prop
  |[]=>True
  |(s,f,k)::r=>xr P s f=some k∧pQ P r
def rV(P:Program):List Nat→Prop
  |[]=>True
  |t::r=>(∃e,u6 P t=some e)∧rV P r
def rU(P:Program):List Nat→Prop
  |[]=>True
  |t::r=>qW P t=true∧rU P r
theorem pQ.of:∀ {l:List (Nat×Nat×Nat)},pQ P l→∀s f k,E6 l s f=some k→xr P s f=some k
  |[],_,_,_,_,h=>by cases h
  |(a,b,c)::r,h,s,f,k,e=>by
    unfold E6 at e
    cases h1:Nat.beq a s with
    |false=>rw[h1]at e;exact pQ.of h.2 s f k e
    |true=>
      cases h2:Nat.beq b f with
      |false=>rw[h1,h2]at e;exact pQ.of h.2 s f k e
      |true=>
        rw[h1,h2]at e
        cases e
        rw[← Nat.eq_of_beq_eq_true h1,← Nat.eq_of_beq_eq_true h2]
        exact h.1
theorem rV.of:∀ {l:List Nat},rV P l→∀t,sK l t=true→∃e,u6 P t=some e
  |[],_,_,h=>by cases h
  |a::r,h,t,e=>by
    simp only[sK,Bool.or_eq_true]at e
    rcases e with e|e
    · rw[← Nat.eq_of_beq_eq_true e];exact h.1
    · exact rV.of h.2 t e
theorem rU.of:∀ {l:List Nat},rU P l→∀t,sK l t=true→qW P t=true
  |[],_,_,h=>by cases h
  |a::r,h,t,e=>by
    simp only[sK,Bool.or_eq_true]at e
    rcases e with e|e
    · rw[← Nat.eq_of_beq_eq_true e];exact h.1
    · exact rU.of h.2 t e
def FU(T:xZ)(ρ:Fr):Op→Option Value
  | .typeAssert x _ t true=>match ov ρ x,DU T.z t with
    |some (.iface u _),some z=>bif Nat.beq u t then none else some (.tuple #[z,.bool false])
    |some .nilIface,some z=>some (.tuple #[z,.bool false])
    |_,_=>none
  | .fieldAddr s x f=>match ov ρ x,E6 T.f s f with
    |some (.pointer (some ⟨b,o,none⟩)),some k=>some (.pointer (some ⟨b,o+k,none⟩))
    |_,_=>none
  | .pick c x y=>match ov ρ c,ov ρ x,ov ρ y with
    |some (.bool b),some v,some u=>some (bif b then v else u)
    |_,_,_=>none
  | .call ⟨.builtin .len,xs,ts⟩=>match xs.toList,ts.toList with
    |[x],[t]=>(match ov ρ x with
      |some (.slice _ n _)=>bif sK T.s t then some (.int .i64 n)else none
      |_=>none)
    |_,_=>none
  | .makeInterface t x=>match ov ρ x,DU T.z t with
    |some v,some _=>some (.iface t v)
    |_,_=>none
  |o=>FT ρ o
theorem mY(hT:TB P T)(h:FU T ρ op=some v):ar P op ty ρ w v:=by
  unfold FU at h
  split at h
  · split at h
    · rename_i hx hz
      obtain⟨h1,h2⟩:=hT.z _ _ hz
      rw[cond_eq_ite]at h
      split at h
      · cases h
      · rename_i hb
        cases h
        exact ba h1 h2 hx (Bool.eq_false_iff.2 hb)
    · rename_i hx hz
      obtain⟨h1,h2⟩:=hT.z _ _ hz
      cases h
      exact jk h1 h2 hx
    · cases h
  · split at h
    · rename_i hx hf
      cases h
      exact aa hx (hT.f _ _ _ hf)
    · cases h
  · split at h
    · rename_i h1 h2 h3
      cases h
      exact zH h1 h2 h3
    · cases h
  · rename_i xs ts
    split at h
    · rename_i x t e1 e2
      have e3:xs= #[x]:=Array.toList_inj.1 (by rw[e1])
      have e4:ts= #[t]:=Array.toList_inj.1 (by rw[e2])
      subst e3
      subst e4
      split at h
      · rename_i hx
        rw[cond_eq_ite]at h
        split at h
        · rename_i hs
          cases h
          obtain⟨⟨e,z,bs⟩,he⟩:=hT.s _ hs
          exact fy he hx
        · cases h
      · cases h
    · cases h
  · split at h
    · rename_i hx hz
      cases h
      exact lW (hT.z _ _ hz).1 hx
    · cases h
  · exact zI h
def En(T:xZ)(N:Nat)(l:Array Oper)(ρ:Fr)(op:Op):Option (Nat×Bool)→Option Value
  |none=>FU T ρ op
  |some (j,b)=>match gw l j with
    |none=>none
    |some t=>bif Nat.blt t N then(match lk ρ t with
      |none=>none
      |some u=>bif kB u b then(match u with
        | .bool _=>FU T ρ op
        |_=>none)else some undef)else none
def tp(T:xZ)(N:Nat)(ρ:Fr):St→List KI→Option (Fr×St×List KI)
  | .c (.seq x y),k=>some (ρ,.c x,.s y::k)
  | .c (.region _ l false),k=>some (ρ,.o l l.toList,k)
  | .c (.cond x a b),k=>match ov ρ x with
    |some (.bool true)=>some (ρ,.c a,k)
    |some (.bool false)=>some (ρ,.c b,k)
    |_=>none
  | .c .skip,k=>some (ρ,uO k)
  | .c (.block id c),k=>some (ρ,.c c,.b id::k)
  | .o _ [],k=>some (ρ,uO k)
  | .o l (⟨some d,op,_,_,_,g⟩::r),k=>bif Nat.blt d N then(match En T N l ρ op g with
    |some v=>some ((d,v)::ρ,.o l r,k)
    |none=>none)else none
  |_,_=>none
def kA(T:xZ)(N:Nat):Nat→Fr→St→List KI→Option (Fr×St×List KI)
  |0,ρ,s,k=>some (ρ,s,k)
  |n+1,ρ,s,k=>match tp T N ρ s k with
    |some (ρ',s',k')=>kA T N n ρ' s' k'
    |none=>none
section
variable {P:Program} {N:Nat} {D:List Deferred} {T:xZ}
theorem pI(h:kB u b=true):u= .bool b:=by
  unfold kB at h
  split at h
  · rename_i x;rw[show x=b by simpa using h]
  · cases h
theorem BY(hT:TB P T){l:Array Oper}{r:List Oper}{next:Fr→World→Prop}{ty:TypeId}{pos:String}{af:Array Edge}{g:Option (Nat×Bool)}(hb:Nat.blt d N=true)(hv:En T N l ρ op g=some v)(h:WL P l N D r ((d,v)::ρ) w next):
    WL P l N D (⟨some d,op,ty,pos,af,g⟩::r) ρ w next:=by
  unfold En at hv
  split at hv
  · exact WL.q hb (mY hT hv) h
  · split at hv
    · cases hv
    · rename_i t hj
      rw[cond_eq_ite]at hv
      split at hv
      · rename_i hN
        split at hv
        · cases hv
        · rename_i u hu
          rw[cond_eq_ite]at hv
          split at hv
          · rename_i hs
            split at hv
            · have e:=pI hs
              exact WL.qg hb hj (by rw[hu,e]) hN (mY hT hv) h
            · cases hv
          · rename_i hs
            cases hv
            exact WL.sk hb hj hu (Bool.eq_false_iff.2 hs) hN h
      · cases hv
theorem xy(hT:TB P T){ρ':Fr}{s':St}{k k':List KI}(h:tp T N ρ s k=some (ρ',s',k'))(hg:mL P N D X ρ' w s' k'):mL P N D X ρ w s k:=by
  unfold tp at h
  split at h
  · cases h;exact WC.seq hg
  · cases h
    have:=WC.region (id:= ‹_›) (X:=Cm P N D k X) (show WL P (List.toArray _) N D _ ρ w _ from hg)
    rw[Array.toArray_toList]at this
    exact this
  · split at h
    · cases h;rename_i hc;exact WC.condT hc hg
    · cases h;rename_i hc;exact WC.condF hc hg
    · cases h
  · simp only[Option.some.injEq,Prod.mk.injEq]at h
    obtain⟨rfl,h⟩:=h
    exact WC.skip (kW k (by rw[h];exact hg))
  · cases h;exact WC.block hg
  · simp only[Option.some.injEq,Prod.mk.injEq]at h
    obtain⟨rfl,h⟩:=h
    exact WL.nil (kW k (by rw[h];exact hg))
  · rename_i d op ty pos af g r
    cases hb:Nat.blt d N with
    |false=>rw[hb]at h;cases h
    |true=>
      rw[hb]at h
      simp only[cond_true]at h
      split at h
      · rename_i v hv
        cases h
        exact BY hT hb hv hg
      · cases h
  · cases h
theorem jc(hT:TB P T):∀(n:Nat) {ρ ρ':Fr} {s s':St} {k k':List KI},kA T N n ρ s k=some (ρ',s',k')→mL P N D X ρ' w s' k'→mL P N D X ρ w s k
  |0,_,_,_,_,_,_,h,hg=>by cases h;exact hg
  |n+1,_,_,_,_,_,_,h,hg=>by
    rw[kA]at h
    split at h
    · rename_i hs
      exact xy hT hs (jc hT n h hg)
    · cases h
theorem Gu(hT:TB P T)(n:Nat){ρ':Fr}{s':St}{k':List KI}(h:kA T N n ρ (.c x) []=some (ρ',s',k'))(hg:mL P N D X ρ' w s' k'):WC P N D x ρ w X:=jc hT (s:= .c x) (k:=[]) n h hg
theorem Gv(hT:TB P T)(n:Nat){ρ':Fr}{s':St}{k':List KI}(h:kA T N n ρ (.c x) [.s y]=some (ρ',s',k'))(hg:mL P N D X ρ' w s' k'):WC P N D x ρ w (andThen P N D y X):=jc hT (s:= .c x) (k:=[.s y]) n h hg
theorem Gw(hT:TB P T)(n:Nat){next:Fr→World→Prop}{ρ':Fr}{l:Array Oper}{r:List Oper}{s':St}{k':List KI}(h:kA T N n ρ (.o l r) []=some (ρ',s',k'))(hg:mL P N D (fun _=>next) ρ' w s' k'):WL P l N D r ρ w next:=jc (X:=fun _=>next) hT (s:= .o l r) (k:=[]) n h hg
theorem Gx(hT:TB P T)(n:Nat){ρ':Fr}{l:Array Oper}{r:List Oper}{s':St}{k':List KI}(h:kA T N n ρ (.o l r) [.s y]=some (ρ',s',k'))(hg:mL P N D X ρ' w s' k'):WL P l N D r ρ w (andThen P N D y X .normal):=jc hT (s:= .o l r) (k:=[.s y]) n h hg
end
def uk(T:xZ)(N:Nat)(l:Array Oper):Nat→Fr→List (Bool×Nat×Oper)→Option (Fr×List (Bool×Nat×Oper))
  |0,ρ,r=>some (ρ,r)
  |_+1,_,[]=>none
  |n+1,ρ,(q,_,o)::r=>match q,o.dst with
    |true,some d=>bif Nat.blt d N then(match En T N l ρ o.op o.guard with
      |some v=>uk T N l n ((d,v)::ρ) r
      |none=>none)else none
    |_,_=>none
theorem Bo{i:Nat}{D:List Deferred}(hT:TB P T){l:Array Oper}{next:Fr→World→Prop}{r:List (Bool×Nat×Oper)}{ty:TypeId}{pos:String}{af:Array Edge}{g:Option (Nat×Bool)}(hb:Nat.blt d N=true)(hv:En T N l ρ op g=some v)(hk:cq P l S L N D r ((d,v)::ρ) w next):cq P l S L N D ((true,i,⟨some d,op,ty,pos,af,g⟩)::r) ρ w next:=by
  unfold En at hv
  split at hv
  · exact WD.q hb (fun w' _=>mY hT hv) hk
  · split at hv
    · cases hv
    · rename_i t hj
      rw[cond_eq_ite]at hv
      split at hv
      · rename_i hN
        split at hv
        · cases hv
        · rename_i u hu
          rw[cond_eq_ite]at hv
          split at hv
          · rename_i hs
            split at hv
            · have e:=pI hs
              exact WD.qg hb hj (by rw[hu,e]) hN (fun w' _=>mY hT hv) hk
            · cases hv
          · rename_i hs
            cases hv
            exact WD.sk hb hj hu (Bool.eq_false_iff.2 hs) hN hk
      · cases hv
theorem gd{D:List Deferred}(hT:TB P T){l:Array Oper}{next:Fr→World→Prop}:∀(n:Nat) {ρ ρ':Fr} {r r':List (Bool×Nat×Oper)},uk T N l n ρ r=some (ρ',r')→cq P l S L N D r' ρ' w next→cq P l S L N D r ρ w next
  |0,_,_,_,_,h,hg=>by cases h;exact hg
  |n+1,_,_,[],_,h,_=>by cases h
  |n+1,ρ,ρ',(q,i,⟨dst,op,ty,pos,af,g⟩)::r,r',h,hg=>by
    cases q with
    |false=>simp[uk]at h
    |true=>
      cases dst with
      |none=>simp[uk]at h
      |some d=>
        simp only[uk]at h
        cases hb:Nat.blt d N with
        |false=>rw[hb]at h;cases h
        |true=>
          rw[hb]at h
          simp only[cond_true]at h
          split at h
          · rename_i v hv
            exact Bo hT hb hv (gd hT n h hg)
          · cases h
end Go.Proofs.LL
namespace Go.Proofs.LL
open Go Go.Proofs Go.RowKit
def mQ:xZ:=⟨Ep,[(128,0,0),(128,1,1),(135,0,0),(135,1,1),(122,0,0),(179,0,0),(179,1,1),(179,2,2),(201,0,0),(87,3,3),(251,0,0),(251,1,1),(423,0,0),(423,1,1),(423,2,7),(87,0,0),(87,1,1),(87,2,2),(87,5,5),(87,4,4),(39,0,0),(39,1,1),(370,0,0),(370,1,1),(152,0,0),(152,1,1),(34,0,0),(34,1,1),(89,0,0),(55,0,0),(55,1,1),(55,2,2),(89,1,6)],[28,389,390,392,393,394,395,397,398,399,400,404,411,401,402,403,412,140,24,323,328,333,336,339,342,345,348,351,353,356,359,44,73,320,420,23,154,371,149,32,199,53],[78,20]⟩
theorem Gp:pQ TP mQ.f:=by repeat (first|exact trivial|refine⟨Fo.h,?_⟩)
theorem Gq:rV TP mQ.s:=by repeat (first|exact trivial|refine⟨⟨_,Fo.h⟩,?_⟩)
theorem FB:rU TP mQ.i:=by repeat (first|exact trivial|refine⟨Fb.h,?_⟩)
theorem lr:TB TP mQ:=⟨TZ.ok,pQ.of Gp,rV.of Gq,rU.of FB⟩
section
variable {N L:Nat} {D:List Deferred} {X:Exit→Fr→World→Prop} {S:World→Prop} {next:Fr→World→Prop} {w:World} {ρ ρ':Fr} {x y:Code} {l:Array Oper} {r:List Oper} {s':St} {k':List KI} {d d':List (Bool×Nat×Oper)}
theorem jA(n:Nat)(h:kA mQ N n ρ (.c x) []=some (ρ',s',k'))(hg:mL TP N D X ρ' w s' k'):WC TP N D x ρ w X:=Gu lr n h hg
theorem jB(n:Nat)(h:kA mQ N n ρ (.c x) [.s y]=some (ρ',s',k'))(hg:mL TP N D X ρ' w s' k'):WC TP N D x ρ w (andThen TP N D y X):=Gv lr n h hg
theorem jC(n:Nat)(h:kA mQ N n ρ (.o l r) []=some (ρ',s',k'))(hg:mL TP N D (fun _=>next) ρ' w s' k'):WL TP l N D r ρ w next:=Gw lr n h hg
theorem jD(n:Nat)(h:kA mQ N n ρ (.o l r) [.s y]=some (ρ',s',k'))(hg:mL TP N D X ρ' w s' k'):WL TP l N D r ρ w (andThen TP N D y X .normal):=Gx lr n h hg
theorem jE(n:Nat)(h:uk mQ N l n ρ d=some (ρ',d'))(hg:cq TP l S L N D d' ρ' w next):cq TP l S L N D d ρ w next:=gd lr n h hg
end
section
variable {P:Program} {ops:Array Oper} {S:World→Prop} {A:Nat→Prop} {N L i d t e z bs n c b o j j' t':Nat} {D:List Deferred} {ρ:Fr} {w w0:World} {next:Fr→World→Prop} {rest:List Oper} {rd:List (Bool×Nat×Oper)} {ty xt yt:TypeId} {pos:String} {af:Array Edge} {x y:Operand} {cs l:List Value} {v:Value} {k k2:IntKind} {p q r:Int} {g:Bool}
theorem ld[Fb (ku P t)](hx:ov ρ x=some (.pointer (some ⟨b,j,none⟩)))(hB:aH w b cs)(hv:cs[j]?=some v)(h:WL P ops N D rest ((d,v)::ρ) w next)(hN:Nat.blt d N=true:=by exact rfl):WL P ops N D (⟨some d,.load t x,ty,pos,af,none⟩::rest) ρ w next:=WL.q hN (ao Fb.h hx Xr (hB.get hv)) h
theorem lg[Fb (ku P t)](hj:gw ops i=some t')(ht:lk ρ t'=some (.bool g))(hx:ov ρ x=some (.pointer (some ⟨b,j,none⟩)))(hB:aH w b cs)(hv:cs[j]?=some v)(h:WL P ops N D rest ((d,v)::ρ) w next)(hN:Nat.blt d N=true:=by exact rfl)(hN2:Nat.blt t' N=true:=by exact rfl):WL P ops N D (⟨some d,.load t x,ty,pos,af,some (i,g)⟩::rest) ρ w next:=WL.qg hN hj ht hN2 (ao Fb.h hx Xr (hB.get hv)) h
theorem dl[Fb (ku P t)](hx:ov ρ x=some (.pointer (some ⟨b,j,none⟩)))(hB:aH w0 b cs)(hv:cs[j]?=some v)(h:cq P ops S L N D rd ((d,v)::ρ) w next)(hE:∀w',S w'→am A w0 w':=by exact fun _ h=>h)(hA:A b:=by first|exact trivial|((try dsimp only[Nb]);omega)|assumption)(hN:Nat.blt d N=true:=by exact rfl):cq P ops S L N D ((true,i,⟨some d,.load t x,ty,pos,af,none⟩)::rd) ρ w next:=WD.q hN (fun _ hS=>ao Fb.h hx (hE _ hS) (hB.get hv) hA) h
theorem bl[Fb (ku P t)](hj:gw ops j'=some t')(ht:lk ρ t'=some (.bool g))(hx:ov ρ x=some (.pointer (some ⟨b,j,none⟩)))(hB:aH w0 b cs)(hv:cs[j]?=some v)(h:cq P ops S L N D rd ((d,v)::ρ) w next)(hE:∀w',S w'→am A w0 w':=by exact fun _ h=>h)(hA:A b:=by first|exact trivial|((try dsimp only[Nb]);omega)|assumption)(hN:Nat.blt d N=true:=by exact rfl)(hN2:Nat.blt t' N=true:=by exact rfl):cq P ops S L N D ((true,i,⟨some d,.load t x,ty,pos,af,some (j',g)⟩)::rd) ρ w next:=WD.qg hN hj ht hN2 (fun _ hS=>ao Fb.h hx (hE _ hS) (hB.get hv) hA) h
theorem la[Fo (eS P t) n](hx:ov ρ x=some (.pointer (some ⟨b,0,none⟩)))(hB:aH w b l)(h:WL P ops N D rest ((d,.agg l.toArray)::ρ) w next)(hn:l.length=n:=by first|rfl|assumption)(hN:Nat.blt d N=true:=by exact rfl):WL P ops N D (⟨some d,.load t x,ty,pos,af,none⟩::rest) ρ w next:=WL.q hN (ad Fo.h hx Xr hB.at hn) h
theorem ai(hx:ov ρ x=some (.int .i64 p))(hy:ov ρ y=some (.int .i64 q))(hc:p+q=r)(h:WL P ops N D rest ((d,.int .i64 r)::ρ) w next)(h1: -9223372036854775808≤r:=by omega)(h2:r≤9223372036854775807:=by omega)(hN:Nat.blt d N=true:=by exact rfl):WL P ops N D (⟨some d,.binOp .add xt x y yt,ty,pos,af,none⟩::rest) ρ w next:=WL.q hN (jj hx hy hc h1 h2) h
theorem ix[Fo (u6 P t) (e,z,bs)](hx:ov ρ x=some (.slice (some ⟨b,o,none⟩) n c))(hy:ov ρ y=some (.int k p))(hi:p=(j:Int))(h:WL P ops N D rest ((d,.pointer (some ⟨b,o+j * z,none⟩))::ρ) w next)(hj:j<n:=by first|omega|(simp;done)|(simp;omega))(hN:Nat.blt d N=true:=by exact rfl):WL P ops N D (⟨some d,.indexAddr t x y,ty,pos,af,none⟩::rest) ρ w next:=WL.q hN (bd Fo.h hx hy hi hj) h
theorem lT(hx:ov ρ x=some (.int k p))(hy:ov ρ y=some (.int k q))(h:WL P ops N D rest ((d,.bool true)::ρ) w next)(hc:p<q:=by omega)(hN:Nat.blt d N=true:=by exact rfl):WL P ops N D (⟨some d,.binOp .lss xt x y yt,ty,pos,af,none⟩::rest) ρ w next:=WL.q hN (ae (ef hx hy) (decide_eq_true hc)) h
theorem lF(hx:ov ρ x=some (.int k p))(hy:ov ρ y=some (.int k q))(h:WL P ops N D rest ((d,.bool false)::ρ) w next)(hc:¬p<q:=by omega)(hN:Nat.blt d N=true:=by exact rfl):WL P ops N D (⟨some d,.binOp .lss xt x y yt,ty,pos,af,none⟩::rest) ρ w next:=WL.q hN (ae (ef hx hy) (decide_eq_false hc)) h
theorem Hk{b0:Bool}[Fb (ku P t)](hj:gw ops j'=some t')(ht:lk ρ t'=some (.bool x0))(hx:ov ρ x=some (lH (x0==b0) (.pointer (some ⟨b,j,none⟩))))(hB:aH w b cs)(hv:cs[j]?=some v)(h:WL P ops N D rest ((d,lH (x0==b0) v)::ρ) w next)(hN:Nat.blt d N=true:=by exact rfl)(hN2:Nat.blt t' N=true:=by exact rfl):WL P ops N D (⟨some d,.load t x,ty,pos,af,some (j',b0)⟩::rest) ρ w next:=WL.qc hN hj ht hN2 (fun hc=>ao Fb.h (hx.trans (au hc)) Xr (hB.get hv)) h
end
end Go.Proofs.LL
namespace Go.Proofs
open Go.Shelf
theorem km{a b:Func}(h:a=b:=by kernel_rfl):some a=some b:=congrArg some h
def Tryz.lays192_ren:Go.Shelf.Ren:=⟨fun|192=>84|190=>136|125=>211|258=>210|128=>243|129=>244|302=>234|303=>235|304=>236|305=>237|306=>238|307=>239|308=>240|309=>241|310=>242|333=>253|329=>254|330=>255|334=>256|335=>257|336=>258|344=>306|n=>n,fun|31=>24|0=>0|9=>9|3=>3|46=>148|51=>22|53=>27|4=>4|183=>438|182=>437|131=>443|5=>5|218=>462|222=>158|228=>495|229=>496|n=>n,fun|n=>n⟩
theorem Tryz.lays192:Go.Proofs.Lays.n192 Tryz.prog Tryz.lays192_ren:= {
 mixed:=by kernel_rfl
 f125:=Tryz.func211.trans km
 f128:=Tryz.func243.trans km
 f129:=Tryz.func244.trans km
 f190:=Tryz.func136.trans km
 f192:=Tryz.func84.trans km
 f258:=Tryz.func210.trans km
 f302:=Tryz.func234.trans km
 f303:=Tryz.func235.trans km
 f304:=Tryz.func236.trans km
 f305:=Tryz.func237.trans km
 f306:=Tryz.func238.trans km
 f307:=Tryz.func239.trans km
 f308:=Tryz.func240.trans km
 f309:=Tryz.func241.trans km
 f310:=Tryz.func242.trans km
 f329:=Tryz.func254.trans km
 f330:=Tryz.func255.trans km
 f333:=Tryz.func253.trans km
 f334:=Tryz.func256.trans km
 f335:=Tryz.func257.trans km
 f336:=Tryz.func258.trans km
 f344:=Tryz.func306.trans km
 t0:=Tryz.underlying0
 a0:=Tryz.isAgg0
 z0:=Tryz.sizeOf0
 v0:=Tryz.zeroValue0
 t3:=Tryz.underlying3
 a3:=Tryz.isAgg3
 z3:=Tryz.sizeOf3
 v3:=Tryz.zeroValue3
 t4:=Tryz.underlying4
 a4:=Tryz.isAgg4
 z4:=Tryz.sizeOf4
 v4:=Tryz.zeroValue4
 t5:=Tryz.underlying5
 a5:=Tryz.isAgg5
 z5:=Tryz.sizeOf5
 v5:=Tryz.zeroValue5
 t9:=Tryz.underlying9
 a9:=Tryz.isAgg9
 z9:=Tryz.sizeOf9
 v9:=Tryz.zeroValue9
 t31:=Tryz.underlying24
 a31:=Tryz.isAgg24
 z31:=Tryz.sizeOf24
 v31:=Tryz.zeroValue24
 t46:=Tryz.underlying148
 a46:=Tryz.isAgg148
 z46:=Tryz.sizeOf148
 v46:=Tryz.zeroValue148
 t51:=Tryz.underlying22
 a51:=Tryz.isAgg22
 z51:=Tryz.sizeOf22
 v51:=Tryz.zeroValue22
 t53:=Tryz.underlying27
 a53:=Tryz.isAgg27
 z53:=Tryz.sizeOf27
 v53:=Tryz.zeroValue27
 t131:=Tryz.underlying443
 a131:=Tryz.isAgg443
 z131:=Tryz.sizeOf443
 v131:=Tryz.zeroValue443
 t182:=Tryz.underlying437
 a182:=Tryz.isAgg437
 z182:=Tryz.sizeOf437
 v182:=Tryz.zeroValue437
 t183:=Tryz.underlying438
 a183:=Tryz.isAgg438
 z183:=Tryz.sizeOf438
 v183:=Tryz.zeroValue438
 t218:=Tryz.underlying462
 a218:=Tryz.isAgg462
 z218:=Tryz.sizeOf462
 v218:=Tryz.zeroValue462
 t222:=Tryz.underlying158
 a222:=Tryz.isAgg158
 z222:=Tryz.sizeOf158
 v222:=Tryz.zeroValue158
 t228:=Tryz.underlying495
 a228:=Tryz.isAgg495
 z228:=Tryz.sizeOf495
 v228:=Tryz.zeroValue495
 t229:=Tryz.underlying496
 a229:=Tryz.isAgg496
 z229:=Tryz.sizeOf496
 v229:=Tryz.zeroValue496}
def Tryz.lays196_ren:Go.Shelf.Ren:=⟨fun|196=>183|259=>216|n=>n,fun|9=>9|4=>4|3=>3|5=>5|12=>12|119=>427|0=>0|46=>148|139=>430|138=>429|53=>27|n=>n,fun|3=>2|4=>3|n=>n⟩
theorem Tryz.lays196:Go.Proofs.Lays.n196 Tryz.prog Tryz.lays196_ren:= {
 mixed:=by kernel_rfl
 f196:=Tryz.func183.trans km
 f259:=Tryz.func216.trans km
 t0:=Tryz.underlying0
 a0:=Tryz.isAgg0
 z0:=Tryz.sizeOf0
 v0:=Tryz.zeroValue0
 t3:=Tryz.underlying3
 a3:=Tryz.isAgg3
 z3:=Tryz.sizeOf3
 v3:=Tryz.zeroValue3
 t4:=Tryz.underlying4
 a4:=Tryz.isAgg4
 z4:=Tryz.sizeOf4
 v4:=Tryz.zeroValue4
 t5:=Tryz.underlying5
 a5:=Tryz.isAgg5
 z5:=Tryz.sizeOf5
 v5:=Tryz.zeroValue5
 t9:=Tryz.underlying9
 a9:=Tryz.isAgg9
 z9:=Tryz.sizeOf9
 v9:=Tryz.zeroValue9
 t12:=Tryz.underlying12
 a12:=Tryz.isAgg12
 z12:=Tryz.sizeOf12
 v12:=Tryz.zeroValue12
 t46:=Tryz.underlying148
 a46:=Tryz.isAgg148
 z46:=Tryz.sizeOf148
 v46:=Tryz.zeroValue148
 t53:=Tryz.underlying27
 a53:=Tryz.isAgg27
 z53:=Tryz.sizeOf27
 v53:=Tryz.zeroValue27
 t119:=Tryz.underlying427
 a119:=Tryz.isAgg427
 z119:=Tryz.sizeOf427
 t138:=Tryz.underlying429
 a138:=Tryz.isAgg429
 z138:=Tryz.sizeOf429
 v138:=Tryz.zeroValue429
 t139:=Tryz.underlying430
 a139:=Tryz.isAgg430
 z139:=Tryz.sizeOf430
 v139:=Tryz.zeroValue430
 g3:=by kernel_rfl
 g4:=by kernel_rfl}
def Tryz.gl6_ren:Go.Shelf.Ren:=⟨fun|6=>213|10=>246|11=>247|12=>248|13=>211|14=>249|24=>243|25=>244|26=>298|27=>299|28=>300|29=>301|30=>302|31=>303|32=>304|33=>305|34=>315|35=>316|36=>317|37=>318|38=>319|39=>327|n=>n,fun|20=>20|26=>425|35=>450|0=>0|37=>452|3=>3|41=>148|44=>456|49=>22|51=>27|4=>4|54=>490|53=>489|58=>443|5=>5|9=>9|60=>503|64=>158|66=>513|67=>496|17=>17|32=>447|33=>448|82=>532|12=>12|75=>526|76=>527|77=>528|78=>231|79=>529|80=>530|n=>n,fun|n=>n⟩
theorem Tryz.gl6:Go.Proofs.LaysGg.n6 Tryz.prog Tryz.gl6_ren:= {
 mixed:=by kernel_rfl
 f6:=Tryz.func213.trans km
 f10:=Tryz.func246.trans km
 f11:=Tryz.func247.trans km
 f12:=Tryz.func248.trans km
 f13:=Tryz.func211.trans km
 f14:=Tryz.func249.trans km
 f24:=Tryz.func243.trans km
 f25:=Tryz.func244.trans km
 f26:=Tryz.func298.trans km
 f27:=Tryz.func299.trans km
 f28:=Tryz.func300.trans km
 f29:=Tryz.func301.trans km
 f30:=Tryz.func302.trans km
 f31:=Tryz.func303.trans km
 f32:=Tryz.func304.trans km
 f33:=Tryz.func305.trans km
 f34:=Tryz.func315.trans km
 f35:=Tryz.func316.trans km
 f36:=Tryz.func317.trans km
 f37:=Tryz.func318.trans km
 f38:=Tryz.func319.trans km
 f39:=Tryz.func327.trans km
 t0:=Tryz.underlying0
 a0:=Tryz.isAgg0
 z0:=Tryz.sizeOf0
 v0:=Tryz.zeroValue0
 i0:=by kernel_rfl
 t3:=Tryz.underlying3
 a3:=Tryz.isAgg3
 z3:=Tryz.sizeOf3
 v3:=Tryz.zeroValue3
 i3:=by kernel_rfl
 t4:=Tryz.underlying4
 a4:=Tryz.isAgg4
 z4:=Tryz.sizeOf4
 v4:=Tryz.zeroValue4
 i4:=by kernel_rfl
 t5:=Tryz.underlying5
 a5:=Tryz.isAgg5
 z5:=Tryz.sizeOf5
 v5:=Tryz.zeroValue5
 i5:=by kernel_rfl
 t9:=Tryz.underlying9
 a9:=Tryz.isAgg9
 z9:=Tryz.sizeOf9
 v9:=Tryz.zeroValue9
 i9:=by kernel_rfl
 t12:=Tryz.underlying12
 a12:=Tryz.isAgg12
 z12:=Tryz.sizeOf12
 v12:=Tryz.zeroValue12
 i12:=by kernel_rfl
 t17:=Tryz.underlying17
 a17:=Tryz.isAgg17
 z17:=Tryz.sizeOf17
 v17:=Tryz.zeroValue17
 i17:=by kernel_rfl
 t20:=Tryz.underlying20
 a20:=Tryz.isAgg20
 z20:=Tryz.sizeOf20
 v20:=Tryz.zeroValue20
 i20:=by kernel_rfl
 t26:=Tryz.underlying425
 a26:=Tryz.isAgg425
 z26:=Tryz.sizeOf425
 v26:=Tryz.zeroValue425
 i26:=by kernel_rfl
 t32:=Tryz.underlying447
 a32:=Tryz.isAgg447
 z32:=Tryz.sizeOf447
 v32:=Tryz.zeroValue447
 i32:=by kernel_rfl
 t33:=Tryz.underlying448
 a33:=Tryz.isAgg448
 z33:=Tryz.sizeOf448
 v33:=Tryz.zeroValue448
 i33:=by kernel_rfl
 t35:=Tryz.underlying450
 a35:=Tryz.isAgg450
 z35:=Tryz.sizeOf450
 v35:=Tryz.zeroValue450
 i35:=by kernel_rfl
 t37:=Tryz.underlying452
 a37:=Tryz.isAgg452
 z37:=Tryz.sizeOf452
 v37:=Tryz.zeroValue452
 i37:=by kernel_rfl
 t41:=Tryz.underlying148
 a41:=Tryz.isAgg148
 z41:=Tryz.sizeOf148
 v41:=Tryz.zeroValue148
 i41:=by kernel_rfl
 t44:=Tryz.underlying456
 a44:=Tryz.isAgg456
 z44:=Tryz.sizeOf456
 v44:=Tryz.zeroValue456
 i44:=by kernel_rfl
 t49:=Tryz.underlying22
 a49:=Tryz.isAgg22
 z49:=Tryz.sizeOf22
 v49:=Tryz.zeroValue22
 i49:=by kernel_rfl
 t51:=Tryz.underlying27
 a51:=Tryz.isAgg27
 z51:=Tryz.sizeOf27
 v51:=Tryz.zeroValue27
 i51:=by kernel_rfl
 t53:=Tryz.underlying489
 a53:=Tryz.isAgg489
 z53:=Tryz.sizeOf489
 v53:=Tryz.zeroValue489
 i53:=by kernel_rfl
 t54:=Tryz.underlying490
 a54:=Tryz.isAgg490
 z54:=Tryz.sizeOf490
 v54:=Tryz.zeroValue490
 i54:=by kernel_rfl
 t58:=Tryz.underlying443
 a58:=Tryz.isAgg443
 z58:=Tryz.sizeOf443
 v58:=Tryz.zeroValue443
 i58:=by kernel_rfl
 t60:=Tryz.underlying503
 a60:=Tryz.isAgg503
 z60:=Tryz.sizeOf503
 v60:=Tryz.zeroValue503
 i60:=by kernel_rfl
 t64:=Tryz.underlying158
 a64:=Tryz.isAgg158
 z64:=Tryz.sizeOf158
 v64:=Tryz.zeroValue158
 i64:=by kernel_rfl
 t66:=Tryz.underlying513
 a66:=Tryz.isAgg513
 z66:=Tryz.sizeOf513
 v66:=Tryz.zeroValue513
 i66:=by kernel_rfl
 t67:=Tryz.underlying496
 a67:=Tryz.isAgg496
 z67:=Tryz.sizeOf496
 v67:=Tryz.zeroValue496
 i67:=by kernel_rfl
 t75:=Tryz.underlying526
 a75:=Tryz.isAgg526
 z75:=Tryz.sizeOf526
 v75:=Tryz.zeroValue526
 i75:=by kernel_rfl
 t76:=Tryz.underlying527
 a76:=Tryz.isAgg527
 z76:=Tryz.sizeOf527
 v76:=Tryz.zeroValue527
 i76:=by kernel_rfl
 t77:=Tryz.underlying528
 a77:=Tryz.isAgg528
 z77:=Tryz.sizeOf528
 v77:=Tryz.zeroValue528
 i77:=by kernel_rfl
 t78:=Tryz.underlying231
 a78:=Tryz.isAgg231
 z78:=Tryz.sizeOf231
 v78:=Tryz.zeroValue231
 i78:=by kernel_rfl
 t79:=Tryz.underlying529
 a79:=Tryz.isAgg529
 z79:=Tryz.sizeOf529
 v79:=Tryz.zeroValue529
 i79:=by kernel_rfl
 t80:=Tryz.underlying530
 a80:=Tryz.isAgg530
 z80:=Tryz.sizeOf530
 v80:=Tryz.zeroValue530
 i80:=by kernel_rfl
 t82:=Tryz.underlying532
 a82:=Tryz.isAgg532
 z82:=Tryz.sizeOf532
 v82:=Tryz.zeroValue532
 i82:=by kernel_rfl}
end Go.Proofs
namespace Go.Proofs.LL
open Go Go.Proofs Go.RowKit
instance:Fo (eS TP 172) 7:=ko
theorem kL:eS TP 172=some 7:=Fo.h
instance:Fo (eS TP 26) 7:=ko
instance:Fo (eS TP 47) 12:=ko
theorem fP:eS TP 47=some 12:=Fo.h
instance:Fo (im TP 172) ([(0,1),(1,1),(2,1),(3,1),(4,1),(5,1),(6,1)],[.int .i64 0,.int .u32 0,.int .u64 0,.slice none 0 0,.bool false,.bool false,.slice none 0 0]):=ko
instance:Fo (im TP 196) ([(0,1)],[.pointer none]):=ko
instance:Fo (im TP 26) ([(0,1),(1,1),(2,1),(3,1),(4,1),(5,1),(6,1)],[.string ⟨#[]⟩,.int .u32 0,.string ⟨#[]⟩,.int .u32 0,.bool false,.slice none 0 0,.slice none 0 0]):=ko
instance:Fo (im TP 47) ([(0,1),(1,1),(2,1),(3,1),(4,1),(5,1),(6,1),(7,1),(8,1),(9,1),(10,1),(11,1)],[.int .u32 0,.slice none 0 0,.slice none 0 0,.slice none 0 0,.bool false,.bool false,.slice none 0 0,.slice none 0 0,.bool false,.bool false,.bool false,.slice none 0 0]):=ko
instance:Fo (im TP 85) ([(0,1),(1,1),(2,1),(3,1),(4,1),(5,1),(6,1),(7,1),(8,1),(9,1),(10,1)],[.string ⟨#[]⟩,.int .u32 0,.string ⟨#[]⟩,.int .u32 0,.bool false,.slice none 0 0,.string ⟨#[]⟩,.slice none 0 0,.slice none 0 0,.slice none 0 0,.slice none 0 0]):=ko
instance:Ia 11:=kb
instance:Ia 133:=kb
instance:Ia 134:=kb
instance:Ia 14:=kb
instance:Ia 15:=kb
instance:Ia 16:=kb
instance:Ia 17:=kb
instance:Ia 21:=kb
instance:Ia 228:=kb
instance:Ia 229:=kb
instance:Ia 230:=kb
instance:Ia 231:=kb
instance:Ia 232:=kb
instance:Ia 25:=kb
instance:Ia 26:=kb
instance:Ia 28:=kb
instance:Ia 29:=kb
instance:Ia 357:=kb
instance:Ia 36:=kb
instance:Ia 360:=kb
instance:Ia 361:=kb
instance:Ia 362:=kb
instance:Ia 363:=kb
instance:Ia 367:=kb
instance:Ia 38:=kb
instance:Ia 387:=kb
instance:Ia 42:=kb
instance:Ia 43:=kb
instance:Ia 45:=kb
instance:Ia 46:=kb
instance:Ia 47:=kb
instance:Ia 48:=kb
instance:Ia 49:=kb
instance:Ia 56:=kb
instance:Ia 57:=kb
instance:Ia 58:=kb
instance:Ia 6:=kb
instance:Ia 60:=kb
instance:Ia 7:=kb
instance:Ia 71:=kb
instance:Ia 72:=kb
instance:Ia 73:=kb
instance:Ia 74:=kb
instance:Ia 76:=kb
instance:Ia 77:=kb
instance:Ia 8:=kb
instance:Ia 94:=kb
instance:Ic 106:=kb
instance:Ic 136:=kb
instance:Ic 137:=kb
instance:Ic 139:=kb
instance:Ic 196:=kb
instance:Ic 295:=kb
instance:Ic 298:=kb
instance:Ic 303:=kb
instance:Ic 306:=kb
instance:Ic 308:=kb
instance:Ic 460:=kb
instance:Fo (Br TP 34 1) (1,false,1):=ko
instance:Ib 109 0 0:=ko
instance:Ib 109 1 1:=ko
instance:Ib 109 10 10:=ko
instance:Ib 109 11 11:=ko
instance:Ib 109 2 2:=ko
instance:Ib 109 3 3:=ko
instance:Ib 109 4 4:=ko
instance:Ib 109 5 5:=ko
instance:Ib 109 6 6:=ko
instance:Ib 109 7 7:=ko
instance:Ib 109 8 8:=ko
instance:Ib 109 9 9:=ko
instance:Ib 172 0 0:=ko
instance:Ib 172 1 1:=ko
instance:Ib 172 2 2:=ko
instance:Ib 172 3 3:=ko
instance:Ib 172 4 4:=ko
instance:Ib 172 5 5:=ko
instance:Ib 172 6 6:=ko
instance:Ib 196 0 0:=ko
instance:Ib 26 0 0:=ko
instance:Ib 26 1 1:=ko
instance:Ib 26 2 2:=ko
instance:Ib 26 3 3:=ko
instance:Ib 26 4 4:=ko
instance:Ib 26 5 5:=ko
instance:Ib 26 6 6:=ko
instance:Ib 302 0 0:=ko
instance:Ib 302 1 1:=ko
instance:Ib 302 2 2:=ko
instance:Ib 305 0 0:=ko
instance:Ib 305 1 1:=ko
instance:Ib 307 0 0:=ko
instance:Ib 47 0 0:=ko
instance:Ib 47 1 1:=ko
instance:Ib 47 10 10:=ko
instance:Ib 47 11 11:=ko
instance:Ib 47 2 2:=ko
instance:Ib 47 3 3:=ko
instance:Ib 47 4 4:=ko
instance:Ib 47 5 5:=ko
instance:Ib 47 6 6:=ko
instance:Ib 47 7 7:=ko
instance:Ib 47 8 8:=ko
instance:Ib 47 9 9:=ko
instance:Ib 76 0 0:=ko
instance:Ib 76 1 1:=ko
instance:Ib 76 2 2:=ko
instance:Ib 76 3 3:=ko
instance:Ib 76 4 4:=ko
instance:Ib 76 5 5:=ko
instance:Ib 76 6 6:=ko
instance:Ib 85 0 0:=ko
instance:Ib 85 1 1:=ko
instance:Ib 85 10 10:=ko
instance:Ib 85 2 2:=ko
instance:Ib 85 3 3:=ko
instance:Ib 85 4 4:=ko
instance:Ib 85 5 5:=ko
instance:Ib 85 6 6:=ko
instance:Ib 85 7 7:=ko
instance:Ib 85 9 9:=ko
instance:Fb (qW TP 107):=kb
instance:Fb (jd TP 314 106):=kb
instance:Fb (jd TP 314 136):=kb
instance:Fb (jd TP 314 137):=kb
instance:Fb (jd TP 314 139):=kb
instance:Fb (jd TP 314 196):=kb
instance:Fb (jd TP 314 295):=kb
instance:Fb (jd TP 314 298):=kb
instance:Fb (jd TP 314 303):=kb
instance:Fb (jd TP 314 306):=kb
instance:Fb (jd TP 314 308):=kb
instance:Fb (jd TP 314 460):=kb
instance:Fo (iQ TP 300) 20:=ko
instance:Fo (iQ TP 415) 143:=ko
instance:Fo (iQ TP 72) 143:=ko
instance : Fo (iR TP 106 "Unmarshal") 357 := ko
instance : Fo (iR TP 136 "Unmarshal") 360 := ko
instance : Fo (iR TP 137 "Unmarshal") 361 := ko
instance : Fo (iR TP 139 "Unmarshal") 363 := ko
instance : Fo (iR TP 196 "Unmarshal") 367 := ko
instance : Fo (iR TP 295 "Unmarshal") 228 := ko
instance : Fo (iR TP 298 "Unmarshal") 229 := ko
instance : Fo (iR TP 303 "Unmarshal") 230 := ko
instance : Fo (iR TP 306 "Unmarshal") 231 := ko
instance : Fo (iR TP 308 "Unmarshal") 232 := ko
instance : Fo (iR TP 460 "Unmarshal") 387 := ko
instance:Id 105:=kb
instance:Id 106:=kb
instance:Id 107:=kb
instance:Id 162:=kb
instance:Id 163:=kb
instance:Id 300:=kb
instance:Id 45:=kb
instance:Id 69:=kb
instance:Id 70:=kb
instance:Id 71:=kb
instance:Id 72:=kb
instance:Id 74:=kb
instance:Fb (ri TP 105):=kb
instance:Fb (ri TP 106):=kb
instance:Ih 156 (24,1,24):=ko
instance:Ih 45 (172,7,80):=ko
instance:Ih 74 (143,1,16):=ko
instance:Fb (x7 TP 32):=kb
instance:Fo (fG TP 156) (24,1,24,(.slice none 0 0)):=ko
instance:Fo (fG TP 45) (172,7,80,(.agg #[.int .i64 0,.int .u32 0,.int .u64 0,.slice none 0 0,.bool false,.bool false,.slice none 0 0])):=ko
instance:Fb (lq TP 143):=kb
instance:Ig 105 1:=ko
instance:Ig 106 1:=ko
instance:Ig 107 1:=ko
instance:Ig 162 1:=ko
instance:Ig 172 7:=ko
instance:Ig 26 7:=ko
instance:Ig 300 1:=ko
instance:Ig 32 1:=ko
instance:Ig 415 1:=ko
instance:Ig 47 12:=ko
instance:Ig 71 1:=ko
instance:Ig 74 1:=ko
instance:Fo (bv TP 109) (.agg #[.int .u32 0,.pointer none,.slice none 0 0,.pointer none,.bool false,.bool false,.pointer none,.nilIface,.bool false,.bool false,.bool false,.slice none 0 0]):=ko
instance:Fo (bv TP 162) (.int .u8 0):=ko
instance:Fo (bv TP 172) (.agg #[.int .i64 0,.int .u32 0,.int .u64 0,.slice none 0 0,.bool false,.bool false,.slice none 0 0]):=ko
instance:Fo (bv TP 26) (.agg #[.string ⟨#[]⟩,.int .u32 0,.string ⟨#[]⟩,.int .u32 0,.bool false,.slice none 0 0,.slice none 0 0]):=ko
instance:Ie 295:=ko
instance:Fo (bv TP 297) (.agg #[]):=ko
instance:Fo (bv TP 302) (.agg #[.bool false,.bool false,.map none]):=ko
instance:Ie 303:=ko
instance:Fo (bv TP 305) (.agg #[.int .u32 0,.int .u64 0]):=ko
instance:Ie 306:=ko
instance:Fo (bv TP 307) (.agg #[.pointer none]):=ko
instance:Ie 308:=ko
instance:Fo (bv TP 309) (.agg #[]):=ko
instance:Fo (bv TP 47) (.agg #[.int .u32 0,.slice none 0 0,.slice none 0 0,.slice none 0 0,.bool false,.bool false,.slice none 0 0,.slice none 0 0,.bool false,.bool false,.bool false,.slice none 0 0]):=ko
instance:Fo (bv TP 76) (.agg #[.string ⟨#[]⟩,.int .u32 0,.string ⟨#[]⟩,.int .u32 0,.bool false,.map none,.slice none 0 0]):=ko
instance:Ie 136:=ko
instance:Ie 460:=ko
instance:Ie 106:=ko
instance:Ie 139:=ko
instance:Ie 298:=ko
instance:Ie 137:=ko
def Gr:List (Nat×Value):=Ep++[(106,(.pointer none)),(136,(.pointer none)),(137,(.pointer none)),(139,(.pointer none)),(295,(.pointer none)),(298,(.pointer none)),(303,(.pointer none)),(306,(.pointer none)),(308,(.pointer none)),(460,(.pointer none))]
theorem Ec:FQ TP Gr:=by repeat (first|exact trivial|refine⟨⟨Fb.h,Fo.h⟩,?_⟩)
instance:TZ TP Gr:=TZ.of Ec
def rH:xZ:=⟨Gr,[(109,0,0),(109,1,1),(109,10,10),(109,11,11),(109,2,2),(109,3,3),(109,4,4),(109,5,5),(109,6,6),(109,7,7),(109,8,8),(109,9,9),(172,0,0),(172,1,1),(172,2,2),(172,3,3),(172,4,4),(172,5,5),(172,6,6),(196,0,0),(26,0,0),(26,1,1),(26,2,2),(26,3,3),(26,4,4),(26,5,5),(26,6,6),(302,0,0),(302,1,1),(302,2,2),(305,0,0),(305,1,1),(307,0,0),(47,0,0),(47,1,1),(47,10,10),(47,11,11),(47,2,2),(47,3,3),(47,4,4),(47,5,5),(47,6,6),(47,7,7),(47,8,8),(47,9,9),(76,0,0),(76,1,1),(76,2,2),(76,3,3),(76,4,4),(76,5,5),(76,6,6),(85,0,0),(85,1,1),(85,10,10),(85,2,2),(85,3,3),(85,4,4),(85,5,5),(85,6,6),(85,7,7),(85,9,9)]++mQ.f,[156,45,74]++mQ.s,[107]++mQ.i⟩
theorem FC:pQ TP rH.f:=by repeat (first|exact trivial|refine⟨Fo.h,?_⟩)
theorem FE:rV TP rH.s:=by repeat (first|exact trivial|refine⟨⟨_,Fo.h⟩,?_⟩)
theorem FD:rU TP rH.i:=by repeat (first|exact trivial|refine⟨Fb.h,?_⟩)
theorem lu:TB TP rH:=⟨TZ.ok,pQ.of FC,rV.of FE,rU.of FD⟩
section
variable {N L:Nat} {D:List Deferred} {X:Exit→Fr→World→Prop} {S:World→Prop} {next:Fr→World→Prop} {w:World} {ρ ρ':Fr} {x y:Code} {l:Array Oper} {r:List Oper} {s':St} {k':List KI} {d d':List (Bool×Nat×Oper)}
theorem uA(n:Nat)(h:kA rH N n ρ (.c x) []=some (ρ',s',k'))(hg:mL TP N D X ρ' w s' k'):WC TP N D x ρ w X:=Gu lu n h hg
theorem uB(n:Nat)(h:kA rH N n ρ (.c x) [.s y]=some (ρ',s',k'))(hg:mL TP N D X ρ' w s' k'):WC TP N D x ρ w (andThen TP N D y X):=Gv lu n h hg
theorem uC(n:Nat)(h:kA rH N n ρ (.o l r) []=some (ρ',s',k'))(hg:mL TP N D (fun _=>next) ρ' w s' k'):WL TP l N D r ρ w next:=Gw lu n h hg
theorem uD(n:Nat)(h:kA rH N n ρ (.o l r) [.s y]=some (ρ',s',k'))(hg:mL TP N D X ρ' w s' k'):WL TP l N D r ρ w (andThen TP N D y X .normal):=Gx lu n h hg
theorem uE(n:Nat)(h:uk rH N l n ρ d=some (ρ',d'))(hg:cq TP l S L N D d' ρ' w next):cq TP l S L N D d ρ w next:=gd lu n h hg
end
end Go.Proofs.LL
namespace Go.Proofs.LL
open Go Go.Proofs Go.RowKit
set_option maxHeartbeats 4000000
attribute [local irreducible] ar WL WC cq WT WX
section
variable {P:Program} {ρ:Fr} {w w0:World} {ty:TypeId} {x y:Operand} {xt yt:TypeId}
end
section
variable {P:Program} {ρ:Fr} {w w0:World} {ty:TypeId} {x y s:Operand}
theorem fY(ht:ri P xt=true)(hx:ov ρ x=some (.pointer none))(hy:ov ρ y=some (.pointer none)):ar P (.binOp .neq xt x y yt) ty ρ w (.bool false):=by
 unfold ar
 intro N D ac dst pos af g ha
 obtain⟨e,hu⟩:=jN ht
 have h:∀w:World,(Op.equal xt (.pointer none) (.pointer none)).run P w= .ok true w:=o7 hu _
 simp[execOp,ha.ov hx,ha.ov hy,binOp,h,eqGuard]
end
section
variable {P:Program} {ρ:Fr} {w w0:World} {ty:TypeId} {x y s:Operand}
theorem fZ(ht:ri P xt=true)(hx:ov ρ x=some (.pointer (some a)))(hy:ov ρ y=some (.pointer none)):ar P (.binOp .neq xt x y yt) ty ρ w (.bool true):=by
 unfold ar
 intro N D ac dst pos af g ha
 obtain⟨e,hu⟩:=jN ht
 have h:∀w:World,(Op.equal xt (.pointer (some a)) (.pointer none)).run P w= .ok false w:=o8 hu _ a
 simp[execOp,ha.ov hx,ha.ov hy,binOp,h,eqGuard]
end
theorem Bc{x:V}{r:List UInt8}(hk:x.kind=4)(hn:x.num<4294967296)(hP:Pc x c data)(hX:aH w xb cs)(ho:Nat.blt off cs.length=true)(hne:rb<xb)(hR:Rd w rb (c::(data++r))):
  ah TP 83 [.pointer (some ⟨rb,0,none⟩),.iface 105 (.pointer (some ⟨xb,off,none⟩))] w fun u w'=>u= .nilIface∧aH w' xb (cs.set off (.int .u32 (x.num:Int)))∧Rd w' rb r∧am (fun k=>k≠rb∧k≠xb) w w':=by
 have:=hX.lt
 have hne64:=hP.ne64 (by omega)
 refine aR Tryz.func83 ?_
 refine uA 8 rfl<|Hl rfl (an hR hne64) fun w1 e1=>?_
 refine uD 3 rfl<|uA 50 rfl<|Hq (aQ Fb.h rfl)<|uD 11 rfl ?_
 replace hR:=hR.m e1
 refine Hm rfl (jp hk hn hP hR) fun w2 hR e2=>?_
 have:=e1.s
 refine uD 10 rfl<|Hq (aB Fb.h rfl)<|uD 3 rfl<|uA 4 rfl ?_
 replace hX:=(hX.m e1).m e2
 refine WL.l0 (ce Fo.h rfl rfl rfl hX ho) ?_
 rintro _ w3 ⟨hX,e3,hz3⟩
 refine uD 5 rfl<|WC.ret ?_
 replace hR:=hR.m e3
 exact aw rfl ⟨rfl,hX,hR,ch⟩
theorem yp{x:V}{r:List UInt8}(hk:x.kind=5)(hn:x.num<18446744073709551616)(hP:Pc x c data)(hX:aH w xb cs)(ho:Nat.blt off cs.length=true)(hne:rb<xb)(hR:Rd w rb (c::(data++r))):
  ah TP 83 [.pointer (some ⟨rb,0,none⟩),.iface 224 (.pointer (some ⟨xb,off,none⟩))] w fun u w'=>u= .nilIface∧aH w' xb (cs.set off (.int .u64 (x.num:Int)))∧Rd w' rb r∧am (fun k=>k≠rb∧k≠xb) w w':=by
 have:=hX.lt
 have hne64:=hP.ne64 (by omega)
 refine aR Tryz.func83 ?_
 refine uA 8 rfl<|Hl rfl (an hR hne64) fun w1 e1=>?_
 refine uD 3 rfl<|uA 43 rfl<|Hq (aQ Fb.h rfl)<|uD 11 rfl ?_
 replace hR:=hR.m e1
 refine Hm rfl (iC hk hn hP hR) fun w2 hR e2=>?_
 have:=e1.s
 refine uD 10 rfl<|Hq (aB Fb.h rfl)<|uD 3 rfl<|uA 4 rfl ?_
 replace hX:=(hX.m e1).m e2
 refine WL.l0 (ce Fo.h rfl rfl rfl hX ho) ?_
 rintro _ w3 ⟨hX,e3,hz3⟩
 refine uD 5 rfl<|WC.ret ?_
 replace hR:=hR.m e3
 exact aw rfl ⟨rfl,hX,hR,ch⟩
theorem A7{x:V}{r:List UInt8}(hk:x.kind=1)(hP:Pc x c data)(hX:aH w xb cs)(ho:Nat.blt off cs.length=true)(hne:rb<xb)(hR:Rd w rb (c::(data++r))):
  ah TP 83 [.pointer (some ⟨rb,0,none⟩),.iface 65 (.pointer (some ⟨xb,off,none⟩))] w fun u w'=>u= .nilIface∧aH w' xb (cs.set off (.bool (x.num !=0)))∧Rd w' rb r∧am (fun k=>k≠rb∧k≠xb) w w':=by
 have:=hX.lt
 have hne64:=hP.ne64 (by omega)
 refine aR Tryz.func83 ?_
 refine uA 8 rfl<|Hl rfl (an hR hne64) fun w1 e1=>?_
 refine uD 3 rfl<|uA 113 rfl<|Hq (aQ Fb.h rfl)<|uD 11 rfl ?_
 replace hR:=hR.m e1
 refine Hm rfl (mA hk hP hR) fun w2 hR e2=>?_
 have:=e1.s
 refine uD 10 rfl<|Hq (aB Fb.h rfl)<|uD 3 rfl<|uA 4 rfl ?_
 replace hX:=(hX.m e1).m e2
 refine WL.l0 (ce Fo.h rfl rfl rfl hX ho) ?_
 rintro _ w3 ⟨hX,e3,hz3⟩
 refine uD 5 rfl<|WC.ret ?_
 replace hR:=hR.m e3
 exact aw rfl ⟨rfl,hX,hR,ch⟩
theorem ym{x:V}{r:List UInt8}(hk:x.kind=18)(hP:Pc x c data)(hX:aH w xb cs)(ho:Nat.blt off cs.length=true)(hne:rb<xb)(hR:Rd w rb (c::(data++r))):
  ah TP 83 [.pointer (some ⟨rb,0,none⟩),.iface 64 (.pointer (some ⟨xb,off,none⟩))] w fun u w'=>u= .nilIface∧(∃v,aH w' xb (cs.set off v)∧bT (fun b=>w.heap.size≤b) w' v x.text)∧Rd w' rb r∧am (fun k=>k≠rb∧k≠xb) w w':=by
 have:=hX.lt
 have hne64:=hP.ne64 (by omega)
 refine aR Tryz.func83 ?_
 refine uA 8 rfl<|Hl rfl (an hR hne64) fun w1 e1=>?_
 refine uD 3 rfl<|uA 106 rfl<|Hq (aQ Fb.h rfl)<|uD 11 rfl ?_
 replace hR:=hR.m e1
 refine cl rfl (j6 hk hP hR) ?_
 rintro v2 w2 ⟨v,rfl,hV,hR,e2⟩
 have:=e1.s
 refine uD 10 rfl<|Hq (aB Fb.h rfl)<|uD 3 rfl<|uA 4 rfl ?_
 replace hX:=(hX.m e1).m e2
 refine WL.l0 (ce Fo.h rfl rfl (by rcases hV with⟨p,c,rfl,_⟩;rfl) hX ho) ?_
 rintro _ w3 ⟨hX,e3,hz3⟩
 refine uD 5 rfl<|WC.ret ?_
 replace hR:=hR.m e3
 replace hV:=hV.m e3
 exact aw rfl ⟨rfl,⟨_,hX,hV.k (fun b _ h=>by have:=e1.s;omega)⟩,hR,ch⟩
theorem yo{x:V}{r:List UInt8}(hk:x.kind=4)(hn:x.num<4294967296)(hP:Pc x c data)(hX:aH w xb cs)(ho:Nat.blt off cs.length=true)(hne:rb<xb)(hR:Rd w rb (c::(data++r))):
  ah TP 83 [.pointer (some ⟨rb,0,none⟩),.iface 160 (.pointer (some ⟨xb,off,none⟩))] w fun u w'=>u= .nilIface∧(∃g,w.heap.size≤g∧aH w' xb (cs.set off (.pointer (some ⟨g,0,none⟩)))∧aH w' g [.int .u32 (x.num:Int)])∧Rd w' rb r∧am (fun k=>k≠rb∧k≠xb) w w':=by
 have:=hX.lt
 have hne64:=hP.ne64 (by omega)
 refine aR Tryz.func83 ?_
 have he:am (fun k=>k≠rb∧k≠xb) w w:=am.refl w
 refine uA 8 rfl<|Hl rfl (an hR hne64) fun w1 e1=>?_
 refine uD 3 rfl<|uA 57 rfl<|Hq (aQ Fb.h rfl)<|uD 11 rfl ?_
 replace hR:=hR.m e1
 refine Hm rfl (jp hk hn hP hR) fun w2 hR e2=>?_
 refine uC 3 rfl ?_
 replace he:=(he.t e1).t e2
 have hs3:=he.s
 refine Ha fun w3 hb3 e3=>?_
 refine Hp rfl rfl hb3 fun w4 hb3 e4 hz4=>?_
 refine uD 6 rfl<|Hq (aB Fb.h rfl)<|uD 3 rfl<|uA 3 rfl ?_
 replace hX:=((hX.m e1).m e2).m (e3.t e4)
 refine WL.l0 (ce Fo.h rfl rfl rfl hX ho) ?_
 rintro _ w5 ⟨hX,e5,hz5⟩
 refine uD 5 rfl<|WC.ret ?_
 replace hR:=(hR.m (e3.t e4)).m e5
 replace hb3:=hb3.m e5
 replace he:=(he.t (e3.t e4)).t e5
 exact aw rfl ⟨rfl,⟨_,hs3,hX,hb3⟩,hR,he⟩
end Go.Proofs.LL
