/- Own laws of frames, operations and loops, and contracts of functions of the program. Conditions: those that each theorem states. -/
import Derived.Test.YtdgbmbjkbmpcbaaGreatDoorV26
import Derived.Shelf.Sort.Plain
import Derived.Shelf.SlSortFuncK.WholeK
import Derived.Shelf.GgSortFunc.Tiny
import Derived.Ground.GgsProg
import Derived.Ground.NamesProg
import Derived.Shelf.Unicode.ValidAny
import Derived.Test.YtdgbmbjkbmpcbaaGreatDoorProg
import Derived.KernelRfl
set_option linter.all false
set_option maxRecDepth 20000
namespace Go.Proofs.LL
open Go Go.RowKit
structure kR where
  z:List (Nat×Value)
  f:List (Nat×Nat×Nat)
  s:List Nat
  i:List Nat
def rA:List (Nat×Nat×Nat)→Nat→Nat→Option Nat
  |[],_,_=>none
  |(a,b,k)::r,s,f=>bif Nat.beq a s&&Nat.beq b f then some k else rA r s f
def ip:List Nat→Nat→Bool
  |[],_=>false
  |a::r,t=>Nat.beq a t||ip r t
structure TB (P:Program) (T:kR):Prop where
  z:∀t z,lkz T.z t=some z→concT P t=true∧zeroT P t=some z
  f:∀s f k,rA T.f s f=some k→fOff P s f=some k
  s:∀t,ip T.s t=true→∃e,slT P t=some e
  i:∀t,ip T.i t=true→ifT P t=true
def ge(P:Program):List (Nat×Nat×Nat)→Prop
  |[]=>True
  |(s,f,k)::r=>fOff P s f=some k∧ge P r
def iq(P:Program):List Nat→Prop
  |[]=>True
  |t::r=>(∃e,slT P t=some e)∧iq P r
def g8(P:Program):List Nat→Prop
  |[]=>True
  |t::r=>ifT P t=true∧g8 P r
theorem ge.of{P:Program}:∀ {l:List (Nat×Nat×Nat)},ge P l→∀s f k,rA l s f=some k→fOff P s f=some k
  |[],_,_,_,_,h=>by cases h
  |(a,b,c)::r,h,s,f,k,e=>by
    unfold rA at e
    cases h1:Nat.beq a s with
    |false=>rw[h1]at e;exact ge.of h.2 s f k e
    |true=>
      cases h2:Nat.beq b f with
      |false=>rw[h1,h2]at e;exact ge.of h.2 s f k e
      |true=>
        rw[h1,h2]at e
        cases e
        rw[← Nat.eq_of_beq_eq_true h1,← Nat.eq_of_beq_eq_true h2]
        exact h.1
theorem iq.of{P:Program}:∀ {l:List Nat},iq P l→∀t,ip l t=true→∃e,slT P t=some e
  |[],_,_,h=>by cases h
  |a::r,h,t,e=>by
    simp only[ip,Bool.or_eq_true]at e
    rcases e with e|e
    · rw[← Nat.eq_of_beq_eq_true e];exact h.1
    · exact iq.of h.2 t e
theorem g8.of{P:Program}:∀ {l:List Nat},g8 P l→∀t,ip l t=true→ifT P t=true
  |[],_,_,h=>by cases h
  |a::r,h,t,e=>by
    simp only[ip,Bool.or_eq_true]at e
    rcases e with e|e
    · rw[← Nat.eq_of_beq_eq_true e];exact h.1
    · exact g8.of h.2 t e
def r4(T:kR)(ρ:Fr):Op→Option Value
  | .typeAssert x _ t true=>match ov ρ x,lkz T.z t with
    |some (.iface u _),some z=>bif Nat.beq u t then none else some (.tuple #[z,.bool false])
    |some .nilIface,some z=>some (.tuple #[z,.bool false])
    |_,_=>none
  | .fieldAddr s x f=>match ov ρ x,rA T.f s f with
    |some (.pointer (some ⟨b,o,none⟩)),some k=>some (.pointer (some ⟨b,o+k,none⟩))
    |_,_=>none
  | .pick c x y=>match ov ρ c,ov ρ x,ov ρ y with
    |some (.bool b),some v,some u=>some (bif b then v else u)
    |_,_,_=>none
  | .call ⟨.builtin .len,xs,ts⟩=>match xs.toList,ts.toList with
    |[x],[t]=>(match ov ρ x with
      |some (.slice _ n _)=>bif ip T.s t then some (.int .i64 n)else none
      |_=>none)
    |_,_=>none
  | .makeInterface t x=>match ov ρ x,lkz T.z t with
    |some v,some _=>some (.iface t v)
    |_,_=>none
  |o=>qev ρ o
theorem eO{P:Program}{T:kR}(hT:TB P T){ρ:Fr}{w:World}{op:Op}{ty:TypeId}{v:Value}(h:r4 T ρ op=some v):RunOp P op ty ρ w v:=by
  unfold r4 at h
  split at h
  · split at h
    · rename_i hx hz
      obtain⟨h1,h2⟩:=hT.z _ _ hz
      rw[cond_eq_ite]at h
      split at h
      · cases h
      · rename_i hb
        cases h
        exact r_assertNo h1 h2 hx (Bool.eq_false_iff.2 hb)
    · rename_i hx hz
      obtain⟨h1,h2⟩:=hT.z _ _ hz
      cases h
      exact r_assertNil h1 h2 hx
    · cases h
  · split at h
    · rename_i hx hf
      cases h
      exact r_fieldAddr hx (hT.f _ _ _ hf)
    · cases h
  · split at h
    · rename_i h1 h2 h3
      cases h
      exact r_pick h1 h2 h3
    · cases h
  · rename_i xs ts
    split at h
    · rename_i x t e1 e2
      have e3:xs= #[x]:=Array.toList_inj.1 (by rw[e1])
      have e4:ts= #[t]:=Array.toList_inj.1 (by rw[e2])
      subst e3
      subst e4
      split at h
      · rename_i hx
        rw[cond_eq_ite]at h
        split at h
        · rename_i hs
          cases h
          obtain⟨⟨e,z,bs⟩,he⟩:=hT.s _ hs
          exact r_len he hx
        · cases h
      · cases h
    · cases h
  · split at h
    · rename_i hx hz
      cases h
      exact r_mkIface (hT.z _ _ hz).1 hx
    · cases h
  · exact r_qev h
def pZ(T:kR)(N:Nat)(l:Array Oper)(ρ:Fr)(op:Op):Option (Nat×Bool)→Option Value
  |none=>r4 T ρ op
  |some (j,b)=>match gdst l j with
    |none=>none
    |some t=>bif Nat.blt t N then(match lk ρ t with
      |none=>none
      |some u=>bif says u b then(match u with
        | .bool _=>r4 T ρ op
        |_=>none)else some undef)else none
def gW(T:kR)(N:Nat)(ρ:Fr):St→List KI→Option (Fr×St×List KI)
  | .c (.seq x y),k=>some (ρ,.c x,.s y::k)
  | .c (.region _ l false),k=>some (ρ,.o l l.toList,k)
  | .c (.cond x a b),k=>match ov ρ x with
    |some (.bool true)=>some (ρ,.c a,k)
    |some (.bool false)=>some (ρ,.c b,k)
    |_=>none
  | .c .skip,k=>some (ρ,popK k)
  | .c (.block id c),k=>some (ρ,.c c,.b id::k)
  | .o _ [],k=>some (ρ,popK k)
  | .o l (⟨some d,op,_,_,_,g⟩::r),k=>bif Nat.blt d N then(match pZ T N l ρ op g with
    |some v=>some ((d,v)::ρ,.o l r,k)
    |none=>none)else none
  |_,_=>none
def dF(T:kR)(N:Nat):Nat→Fr→St→List KI→Option (Fr×St×List KI)
  |0,ρ,s,k=>some (ρ,s,k)
  |n+1,ρ,s,k=>match gW T N ρ s k with
    |some (ρ',s',k')=>dF T N n ρ' s' k'
    |none=>none
section
variable {P:Program} {N:Nat} {D:List Deferred} {T:kR}
theorem fR{u:Value}{b:Bool}(h:says u b=true):u= .bool b:=by
  unfold says at h
  split at h
  · rename_i x;rw[show x=b by simpa using h]
  · cases h
theorem nL(hT:TB P T){l:Array Oper}{r:List Oper}{next:Fr→World→Prop}{ρ:Fr}{w:World}{d:Nat}{op:Op}{ty:TypeId}{pos:String}{af:Array Edge}{g:Option (Nat×Bool)}{v:Value}(hb:Nat.blt d N=true)(hv:pZ T N l ρ op g=some v)(h:WL P l N D r ((d,v)::ρ) w next):
    WL P l N D (⟨some d,op,ty,pos,af,g⟩::r) ρ w next:=by
  unfold pZ at hv
  split at hv
  · exact WL.q hb (eO hT hv) h
  · split at hv
    · cases hv
    · rename_i t hj
      rw[cond_eq_ite]at hv
      split at hv
      · rename_i hN
        split at hv
        · cases hv
        · rename_i u hu
          rw[cond_eq_ite]at hv
          split at hv
          · rename_i hs
            split at hv
            · have e:=fR hs
              exact WL.qg hb hj (by rw[hu,e]) hN (eO hT hv) h
            · cases hv
          · rename_i hs
            cases hv
            exact WL.sk hb hj hu (Bool.eq_false_iff.2 hs) hN h
      · cases hv
theorem kx(hT:TB P T){X:Exit→Fr→World→Prop}{ρ ρ':Fr}{w:World}{s s':St}{k k':List KI}(h:gW T N ρ s k=some (ρ',s',k'))(hg:gol P N D X ρ' w s' k'):gol P N D X ρ w s k:=by
  unfold gW at h
  split at h
  · cases h;exact WC.seq hg
  · cases h
    have:=WC.region (id:= ‹_›) (X:=den P N D k X) (show WL P (List.toArray _) N D _ ρ w _ from hg)
    rw[Array.toArray_toList]at this
    exact this
  · split at h
    · cases h;rename_i hc;exact WC.condT hc hg
    · cases h;rename_i hc;exact WC.condF hc hg
    · cases h
  · simp only[Option.some.injEq,Prod.mk.injEq]at h
    obtain⟨rfl,h⟩:=h
    exact WC.skip (gol_pop k (by rw[h];exact hg))
  · cases h;exact WC.block hg
  · simp only[Option.some.injEq,Prod.mk.injEq]at h
    obtain⟨rfl,h⟩:=h
    exact WL.nil (gol_pop k (by rw[h];exact hg))
  · rename_i d op ty pos af g r
    cases hb:Nat.blt d N with
    |false=>rw[hb]at h;cases h
    |true=>
      rw[hb]at h
      simp only[cond_true]at h
      split at h
      · rename_i v hv
        cases h
        exact nL hT hb hv hg
      · cases h
  · cases h
theorem cF(hT:TB P T){X:Exit→Fr→World→Prop}{w:World}:∀(n:Nat) {ρ ρ':Fr} {s s':St} {k k':List KI},dF T N n ρ s k=some (ρ',s',k')→gol P N D X ρ' w s' k'→gol P N D X ρ w s k
  |0,_,_,_,_,_,_,h,hg=>by cases h;exact hg
  |n+1,_,_,_,_,_,_,h,hg=>by
    rw[dF]at h
    split at h
    · rename_i hs
      exact kx hT hs (cF hT n h hg)
    · cases h
theorem sH(hT:TB P T)(n:Nat){X:Exit→Fr→World→Prop}{w:World}{ρ ρ':Fr}{x:Code}{s':St}{k':List KI}(h:dF T N n ρ (.c x) []=some (ρ',s',k'))(hg:gol P N D X ρ' w s' k'):WC P N D x ρ w X:=cF hT (s:= .c x) (k:=[]) n h hg
theorem sL(hT:TB P T)(n:Nat){X:Exit→Fr→World→Prop}{w:World}{ρ ρ':Fr}{x y:Code}{s':St}{k':List KI}(h:dF T N n ρ (.c x) [.s y]=some (ρ',s',k'))(hg:gol P N D X ρ' w s' k'):WC P N D x ρ w (andThen P N D y X):=cF hT (s:= .c x) (k:=[.s y]) n h hg
theorem sF(hT:TB P T)(n:Nat){next:Fr→World→Prop}{w:World}{ρ ρ':Fr}{l:Array Oper}{r:List Oper}{s':St}{k':List KI}(h:dF T N n ρ (.o l r) []=some (ρ',s',k'))(hg:gol P N D (fun _=>next) ρ' w s' k'):WL P l N D r ρ w next:=cF (X:=fun _=>next) hT (s:= .o l r) (k:=[]) n h hg
theorem sE(hT:TB P T)(n:Nat){X:Exit→Fr→World→Prop}{w:World}{ρ ρ':Fr}{l:Array Oper}{r:List Oper}{y:Code}{s':St}{k':List KI}(h:dF T N n ρ (.o l r) [.s y]=some (ρ',s',k'))(hg:gol P N D X ρ' w s' k'):WL P l N D r ρ w (andThen P N D y X .normal):=cF hT (s:= .o l r) (k:=[.s y]) n h hg
end
def i7(T:kR)(N:Nat)(l:Array Oper):Nat→Fr→List (Bool×Nat×Oper)→Option (Fr×List (Bool×Nat×Oper))
  |0,ρ,r=>some (ρ,r)
  |_+1,_,[]=>none
  |n+1,ρ,(q,_,o)::r=>match q,o.dst with
    |true,some d=>bif Nat.blt d N then(match pZ T N l ρ o.op o.guard with
      |some v=>i7 T N l n ((d,v)::ρ) r
      |none=>none)else none
    |_,_=>none
theorem nt{P:Program}{N L i d:Nat}{D:List Deferred}{T:kR}(hT:TB P T){S:World→Prop}{l:Array Oper}{w:World}{next:Fr→World→Prop}{ρ:Fr}{r:List (Bool×Nat×Oper)}{op:Op}{ty:TypeId}{pos:String}{af:Array Edge}{g:Option (Nat×Bool)}{v:Value}(hb:Nat.blt d N=true)(hv:pZ T N l ρ op g=some v)(hk:WDL P l S L N D r ((d,v)::ρ) w next):WDL P l S L N D ((true,i,⟨some d,op,ty,pos,af,g⟩)::r) ρ w next:=by
  unfold pZ at hv
  split at hv
  · exact WD.q hb (fun w' _=>eO hT hv) hk
  · split at hv
    · cases hv
    · rename_i t hj
      rw[cond_eq_ite]at hv
      split at hv
      · rename_i hN
        split at hv
        · cases hv
        · rename_i u hu
          rw[cond_eq_ite]at hv
          split at hv
          · rename_i hs
            split at hv
            · have e:=fR hs
              exact WD.qg hb hj (by rw[hu,e]) hN (fun w' _=>eO hT hv) hk
            · cases hv
          · rename_i hs
            cases hv
            exact WD.sk hb hj hu (Bool.eq_false_iff.2 hs) hN hk
      · cases hv
theorem gd{P:Program}{N L:Nat}{D:List Deferred}{T:kR}(hT:TB P T){S:World→Prop}{l:Array Oper}{w:World}{next:Fr→World→Prop}:∀(n:Nat) {ρ ρ':Fr} {r r':List (Bool×Nat×Oper)},i7 T N l n ρ r=some (ρ',r')→WDL P l S L N D r' ρ' w next→WDL P l S L N D r ρ w next
  |0,_,_,_,_,h,hg=>by cases h;exact hg
  |n+1,_,_,[],_,h,_=>by cases h
  |n+1,ρ,ρ',(q,i,⟨dst,op,ty,pos,af,g⟩)::r,r',h,hg=>by
    cases q with
    |false=>simp[i7]at h
    |true=>
      cases dst with
      |none=>simp[i7]at h
      |some d=>
        simp only[i7]at h
        cases hb:Nat.blt d N with
        |false=>rw[hb]at h;cases h
        |true=>
          rw[hb]at h
          simp only[cond_true]at h
          split at h
          · rename_i v hv
            exact nt hT hb hv (gd hT n h hg)
          · cases h
end Go.Proofs.LL
namespace Go.Proofs.LL
open Go Go.Proofs Go.RowKit
def eE:kR:=⟨tzT,[(128,0,0),(128,1,1),(135,0,0),(135,1,1),(122,0,0),(179,0,0),(179,1,1),(179,2,2),(201,0,0),(87,3,3),(251,0,0),(251,1,1),(423,0,0),(423,1,1),(423,2,7),(87,0,0),(87,1,1),(87,2,2),(87,5,5),(87,4,4),(39,0,0),(39,1,1),(370,0,0),(370,1,1),(152,0,0),(152,1,1),(34,0,0),(34,1,1),(89,0,0),(55,0,0),(55,1,1),(55,2,2),(89,1,6)],[28,389,390,392,393,394,395,397,398,399,400,404,411,401,402,403,412,140,24,323,328,333,336,339,342,345,348,351,353,356,359,44,73,320,420,23,154,371,149,32,199,53],[78,20]⟩
theorem r8:ge TP eE.f:=by repeat (first|exact trivial|refine⟨Fo.h,?_⟩)
theorem sf:iq TP eE.s:=by repeat (first|exact trivial|refine⟨⟨_,Fo.h⟩,?_⟩)
theorem rg:g8 TP eE.i:=by repeat (first|exact trivial|refine⟨Fb.h,?_⟩)
theorem dH:TB TP eE:=⟨TZ.ok,ge.of r8,iq.of sf,g8.of rg⟩
section
variable {N L:Nat} {D:List Deferred} {X:Exit→Fr→World→Prop} {S:World→Prop} {next:Fr→World→Prop} {w:World} {ρ ρ':Fr} {x y:Code} {l:Array Oper} {r:List Oper} {s':St} {k':List KI} {d d':List (Bool×Nat×Oper)}
theorem jA(n:Nat)(h:dF eE N n ρ (.c x) []=some (ρ',s',k'))(hg:gol TP N D X ρ' w s' k'):WC TP N D x ρ w X:=sH dH n h hg
theorem jB(n:Nat)(h:dF eE N n ρ (.c x) [.s y]=some (ρ',s',k'))(hg:gol TP N D X ρ' w s' k'):WC TP N D x ρ w (andThen TP N D y X):=sL dH n h hg
theorem jC(n:Nat)(h:dF eE N n ρ (.o l r) []=some (ρ',s',k'))(hg:gol TP N D (fun _=>next) ρ' w s' k'):WL TP l N D r ρ w next:=sF dH n h hg
theorem jD(n:Nat)(h:dF eE N n ρ (.o l r) [.s y]=some (ρ',s',k'))(hg:gol TP N D X ρ' w s' k'):WL TP l N D r ρ w (andThen TP N D y X .normal):=sE dH n h hg
theorem jE(n:Nat)(h:i7 eE N l n ρ d=some (ρ',d'))(hg:WDL TP l S L N D d' ρ' w next):WDL TP l S L N D d ρ w next:=gd dH n h hg
end
section
variable {P:Program} {ops:Array Oper} {S:World→Prop} {A:Nat→Prop} {N L i d t e z bs n c b o j j' t':Nat} {D:List Deferred} {ρ:Fr} {w w0:World} {next:Fr→World→Prop} {rest:List Oper} {rd:List (Bool×Nat×Oper)} {ty xt yt:TypeId} {pos:String} {af:Array Edge} {x y:Operand} {cs l:List Value} {v:Value} {k k2:IntKind} {p q r:Int} {g:Bool}
theorem ld[Fb (oneT P t)](hx:ov ρ x=some (.pointer (some ⟨b,j,none⟩)))(hB:Blk w b cs)(hv:cs[j]?=some v)(h:WL P ops N D rest ((d,v)::ρ) w next)(hN:Nat.blt d N=true:=by exact rfl):WL P ops N D (⟨some d,.load t x,ty,pos,af,none⟩::rest) ρ w next:=WL.q hN (r_load Fb.h hx (Ext.refl _) (hB.get hv)) h
theorem lg[Fb (oneT P t)](hj:gdst ops i=some t')(ht:lk ρ t'=some (.bool g))(hx:ov ρ x=some (.pointer (some ⟨b,j,none⟩)))(hB:Blk w b cs)(hv:cs[j]?=some v)(h:WL P ops N D rest ((d,v)::ρ) w next)(hN:Nat.blt d N=true:=by exact rfl)(hN2:Nat.blt t' N=true:=by exact rfl):WL P ops N D (⟨some d,.load t x,ty,pos,af,some (i,g)⟩::rest) ρ w next:=WL.qg hN hj ht hN2 (r_load Fb.h hx (Ext.refl _) (hB.get hv)) h
theorem dl[Fb (oneT P t)](hx:ov ρ x=some (.pointer (some ⟨b,j,none⟩)))(hB:Blk w0 b cs)(hv:cs[j]?=some v)(h:WDL P ops S L N D rd ((d,v)::ρ) w next)(hE:∀w',S w'→Evo A w0 w':=by exact fun _ h=>h)(hA:A b:=by first|exact trivial|((try dsimp only[Nb]);omega)|assumption)(hN:Nat.blt d N=true:=by exact rfl):WDL P ops S L N D ((true,i,⟨some d,.load t x,ty,pos,af,none⟩)::rd) ρ w next:=WD.q hN (fun _ hS=>r_load Fb.h hx (hE _ hS) (hB.get hv) hA) h
theorem bl[Fb (oneT P t)](hj:gdst ops j'=some t')(ht:lk ρ t'=some (.bool g))(hx:ov ρ x=some (.pointer (some ⟨b,j,none⟩)))(hB:Blk w0 b cs)(hv:cs[j]?=some v)(h:WDL P ops S L N D rd ((d,v)::ρ) w next)(hE:∀w',S w'→Evo A w0 w':=by exact fun _ h=>h)(hA:A b:=by first|exact trivial|((try dsimp only[Nb]);omega)|assumption)(hN:Nat.blt d N=true:=by exact rfl)(hN2:Nat.blt t' N=true:=by exact rfl):WDL P ops S L N D ((true,i,⟨some d,.load t x,ty,pos,af,some (j',g)⟩)::rd) ρ w next:=WD.qg hN hj ht hN2 (fun _ hS=>r_load Fb.h hx (hE _ hS) (hB.get hv) hA) h
theorem la[Fo (aggT P t) n](hx:ov ρ x=some (.pointer (some ⟨b,0,none⟩)))(hB:Blk w b l)(h:WL P ops N D rest ((d,.agg l.toArray)::ρ) w next)(hn:l.length=n:=by first|rfl|assumption)(hN:Nat.blt d N=true:=by exact rfl):WL P ops N D (⟨some d,.load t x,ty,pos,af,none⟩::rest) ρ w next:=WL.q hN (r_loadAgg Fo.h hx (Ext.refl _) hB.at hn) h
theorem ai(hx:ov ρ x=some (.int .i64 p))(hy:ov ρ y=some (.int .i64 q))(hc:p+q=r)(h:WL P ops N D rest ((d,.int .i64 r)::ρ) w next)(h1: -9223372036854775808≤r:=by omega)(h2:r≤9223372036854775807:=by omega)(hN:Nat.blt d N=true:=by exact rfl):WL P ops N D (⟨some d,.binOp .add xt x y yt,ty,pos,af,none⟩::rest) ρ w next:=WL.q hN (r_addi hx hy hc h1 h2) h
theorem ix[Fo (slT P t) (e,z,bs)](hx:ov ρ x=some (.slice (some ⟨b,o,none⟩) n c))(hy:ov ρ y=some (.int k p))(hi:p=(j:Int))(h:WL P ops N D rest ((d,.pointer (some ⟨b,o+j * z,none⟩))::ρ) w next)(hj:j<n:=by first|omega|(simp;done)|(simp;omega))(hN:Nat.blt d N=true:=by exact rfl):WL P ops N D (⟨some d,.indexAddr t x y,ty,pos,af,none⟩::rest) ρ w next:=WL.q hN (r_idx Fo.h hx hy hi hj) h
theorem lT(hx:ov ρ x=some (.int k p))(hy:ov ρ y=some (.int k q))(h:WL P ops N D rest ((d,.bool true)::ρ) w next)(hc:p<q:=by omega)(hN:Nat.blt d N=true:=by exact rfl):WL P ops N D (⟨some d,.binOp .lss xt x y yt,ty,pos,af,none⟩::rest) ρ w next:=WL.q hN (r_cmp (r_lss hx hy) (decide_eq_true hc)) h
theorem lF(hx:ov ρ x=some (.int k p))(hy:ov ρ y=some (.int k q))(h:WL P ops N D rest ((d,.bool false)::ρ) w next)(hc:¬p<q:=by omega)(hN:Nat.blt d N=true:=by exact rfl):WL P ops N D (⟨some d,.binOp .lss xt x y yt,ty,pos,af,none⟩::rest) ρ w next:=WL.q hN (r_cmp (r_lss hx hy) (decide_eq_false hc)) h
end
end Go.Proofs.LL
namespace Go.Proofs
open Go.Shelf
theorem km{a b:Func}(h:a=b:=by kernel_rfl):some a=some b:=congrArg some h
def Tryz.lays192_ren:Go.Shelf.Ren:=⟨fun|192=>84|190=>136|125=>211|258=>210|128=>243|129=>244|302=>234|303=>235|304=>236|305=>237|306=>238|307=>239|308=>240|309=>241|310=>242|333=>253|329=>254|330=>255|334=>256|335=>257|336=>258|344=>306|n=>n,fun|31=>24|0=>0|9=>9|3=>3|46=>148|51=>22|53=>27|4=>4|183=>438|182=>437|131=>443|5=>5|218=>462|222=>158|228=>495|229=>496|n=>n,fun|n=>n⟩
theorem Tryz.lays192:Go.Proofs.Lays.n192 Tryz.prog Tryz.lays192_ren:= {
 mixed:=by kernel_rfl
 f125:=Tryz.func211.trans km
 f128:=Tryz.func243.trans km
 f129:=Tryz.func244.trans km
 f190:=Tryz.func136.trans km
 f192:=Tryz.func84.trans km
 f258:=Tryz.func210.trans km
 f302:=Tryz.func234.trans km
 f303:=Tryz.func235.trans km
 f304:=Tryz.func236.trans km
 f305:=Tryz.func237.trans km
 f306:=Tryz.func238.trans km
 f307:=Tryz.func239.trans km
 f308:=Tryz.func240.trans km
 f309:=Tryz.func241.trans km
 f310:=Tryz.func242.trans km
 f329:=Tryz.func254.trans km
 f330:=Tryz.func255.trans km
 f333:=Tryz.func253.trans km
 f334:=Tryz.func256.trans km
 f335:=Tryz.func257.trans km
 f336:=Tryz.func258.trans km
 f344:=Tryz.func306.trans km
 t0:=Tryz.underlying0
 a0:=Tryz.isAgg0
 z0:=Tryz.sizeOf0
 v0:=Tryz.zeroValue0
 t3:=Tryz.underlying3
 a3:=Tryz.isAgg3
 z3:=Tryz.sizeOf3
 v3:=Tryz.zeroValue3
 t4:=Tryz.underlying4
 a4:=Tryz.isAgg4
 z4:=Tryz.sizeOf4
 v4:=Tryz.zeroValue4
 t5:=Tryz.underlying5
 a5:=Tryz.isAgg5
 z5:=Tryz.sizeOf5
 v5:=Tryz.zeroValue5
 t9:=Tryz.underlying9
 a9:=Tryz.isAgg9
 z9:=Tryz.sizeOf9
 v9:=Tryz.zeroValue9
 t31:=Tryz.underlying24
 a31:=Tryz.isAgg24
 z31:=Tryz.sizeOf24
 v31:=Tryz.zeroValue24
 t46:=Tryz.underlying148
 a46:=Tryz.isAgg148
 z46:=Tryz.sizeOf148
 v46:=Tryz.zeroValue148
 t51:=Tryz.underlying22
 a51:=Tryz.isAgg22
 z51:=Tryz.sizeOf22
 v51:=Tryz.zeroValue22
 t53:=Tryz.underlying27
 a53:=Tryz.isAgg27
 z53:=Tryz.sizeOf27
 v53:=Tryz.zeroValue27
 t131:=Tryz.underlying443
 a131:=Tryz.isAgg443
 z131:=Tryz.sizeOf443
 v131:=Tryz.zeroValue443
 t182:=Tryz.underlying437
 a182:=Tryz.isAgg437
 z182:=Tryz.sizeOf437
 v182:=Tryz.zeroValue437
 t183:=Tryz.underlying438
 a183:=Tryz.isAgg438
 z183:=Tryz.sizeOf438
 v183:=Tryz.zeroValue438
 t218:=Tryz.underlying462
 a218:=Tryz.isAgg462
 z218:=Tryz.sizeOf462
 v218:=Tryz.zeroValue462
 t222:=Tryz.underlying158
 a222:=Tryz.isAgg158
 z222:=Tryz.sizeOf158
 v222:=Tryz.zeroValue158
 t228:=Tryz.underlying495
 a228:=Tryz.isAgg495
 z228:=Tryz.sizeOf495
 v228:=Tryz.zeroValue495
 t229:=Tryz.underlying496
 a229:=Tryz.isAgg496
 z229:=Tryz.sizeOf496
 v229:=Tryz.zeroValue496}
def Tryz.lays196_ren:Go.Shelf.Ren:=⟨fun|196=>183|259=>216|n=>n,fun|9=>9|4=>4|3=>3|5=>5|12=>12|119=>427|0=>0|46=>148|139=>430|138=>429|53=>27|n=>n,fun|3=>2|4=>3|n=>n⟩
theorem Tryz.lays196:Go.Proofs.Lays.n196 Tryz.prog Tryz.lays196_ren:= {
 mixed:=by kernel_rfl
 f196:=Tryz.func183.trans km
 f259:=Tryz.func216.trans km
 t0:=Tryz.underlying0
 a0:=Tryz.isAgg0
 z0:=Tryz.sizeOf0
 v0:=Tryz.zeroValue0
 t3:=Tryz.underlying3
 a3:=Tryz.isAgg3
 z3:=Tryz.sizeOf3
 v3:=Tryz.zeroValue3
 t4:=Tryz.underlying4
 a4:=Tryz.isAgg4
 z4:=Tryz.sizeOf4
 v4:=Tryz.zeroValue4
 t5:=Tryz.underlying5
 a5:=Tryz.isAgg5
 z5:=Tryz.sizeOf5
 v5:=Tryz.zeroValue5
 t9:=Tryz.underlying9
 a9:=Tryz.isAgg9
 z9:=Tryz.sizeOf9
 v9:=Tryz.zeroValue9
 t12:=Tryz.underlying12
 a12:=Tryz.isAgg12
 z12:=Tryz.sizeOf12
 v12:=Tryz.zeroValue12
 t46:=Tryz.underlying148
 a46:=Tryz.isAgg148
 z46:=Tryz.sizeOf148
 v46:=Tryz.zeroValue148
 t53:=Tryz.underlying27
 a53:=Tryz.isAgg27
 z53:=Tryz.sizeOf27
 v53:=Tryz.zeroValue27
 t119:=Tryz.underlying427
 a119:=Tryz.isAgg427
 z119:=Tryz.sizeOf427
 t138:=Tryz.underlying429
 a138:=Tryz.isAgg429
 z138:=Tryz.sizeOf429
 v138:=Tryz.zeroValue429
 t139:=Tryz.underlying430
 a139:=Tryz.isAgg430
 z139:=Tryz.sizeOf430
 v139:=Tryz.zeroValue430
 g3:=by kernel_rfl
 g4:=by kernel_rfl}
def Tryz.gl6_ren:Go.Shelf.Ren:=⟨fun|6=>213|10=>246|11=>247|12=>248|13=>211|14=>249|24=>243|25=>244|26=>298|27=>299|28=>300|29=>301|30=>302|31=>303|32=>304|33=>305|34=>315|35=>316|36=>317|37=>318|38=>319|39=>327|n=>n,fun|20=>20|26=>425|35=>450|0=>0|37=>452|3=>3|41=>148|44=>456|49=>22|51=>27|4=>4|54=>490|53=>489|58=>443|5=>5|9=>9|60=>503|64=>158|66=>513|67=>496|17=>17|32=>447|33=>448|82=>532|12=>12|75=>526|76=>527|77=>528|78=>231|79=>529|80=>530|n=>n,fun|n=>n⟩
theorem Tryz.gl6:Go.Proofs.LaysGg.n6 Tryz.prog Tryz.gl6_ren:= {
 mixed:=by kernel_rfl
 f6:=Tryz.func213.trans km
 f10:=Tryz.func246.trans km
 f11:=Tryz.func247.trans km
 f12:=Tryz.func248.trans km
 f13:=Tryz.func211.trans km
 f14:=Tryz.func249.trans km
 f24:=Tryz.func243.trans km
 f25:=Tryz.func244.trans km
 f26:=Tryz.func298.trans km
 f27:=Tryz.func299.trans km
 f28:=Tryz.func300.trans km
 f29:=Tryz.func301.trans km
 f30:=Tryz.func302.trans km
 f31:=Tryz.func303.trans km
 f32:=Tryz.func304.trans km
 f33:=Tryz.func305.trans km
 f34:=Tryz.func315.trans km
 f35:=Tryz.func316.trans km
 f36:=Tryz.func317.trans km
 f37:=Tryz.func318.trans km
 f38:=Tryz.func319.trans km
 f39:=Tryz.func327.trans km
 t0:=Tryz.underlying0
 a0:=Tryz.isAgg0
 z0:=Tryz.sizeOf0
 v0:=Tryz.zeroValue0
 i0:=by kernel_rfl
 t3:=Tryz.underlying3
 a3:=Tryz.isAgg3
 z3:=Tryz.sizeOf3
 v3:=Tryz.zeroValue3
 i3:=by kernel_rfl
 t4:=Tryz.underlying4
 a4:=Tryz.isAgg4
 z4:=Tryz.sizeOf4
 v4:=Tryz.zeroValue4
 i4:=by kernel_rfl
 t5:=Tryz.underlying5
 a5:=Tryz.isAgg5
 z5:=Tryz.sizeOf5
 v5:=Tryz.zeroValue5
 i5:=by kernel_rfl
 t9:=Tryz.underlying9
 a9:=Tryz.isAgg9
 z9:=Tryz.sizeOf9
 v9:=Tryz.zeroValue9
 i9:=by kernel_rfl
 t12:=Tryz.underlying12
 a12:=Tryz.isAgg12
 z12:=Tryz.sizeOf12
 v12:=Tryz.zeroValue12
 i12:=by kernel_rfl
 t17:=Tryz.underlying17
 a17:=Tryz.isAgg17
 z17:=Tryz.sizeOf17
 v17:=Tryz.zeroValue17
 i17:=by kernel_rfl
 t20:=Tryz.underlying20
 a20:=Tryz.isAgg20
 z20:=Tryz.sizeOf20
 v20:=Tryz.zeroValue20
 i20:=by kernel_rfl
 t26:=Tryz.underlying425
 a26:=Tryz.isAgg425
 z26:=Tryz.sizeOf425
 v26:=Tryz.zeroValue425
 i26:=by kernel_rfl
 t32:=Tryz.underlying447
 a32:=Tryz.isAgg447
 z32:=Tryz.sizeOf447
 v32:=Tryz.zeroValue447
 i32:=by kernel_rfl
 t33:=Tryz.underlying448
 a33:=Tryz.isAgg448
 z33:=Tryz.sizeOf448
 v33:=Tryz.zeroValue448
 i33:=by kernel_rfl
 t35:=Tryz.underlying450
 a35:=Tryz.isAgg450
 z35:=Tryz.sizeOf450
 v35:=Tryz.zeroValue450
 i35:=by kernel_rfl
 t37:=Tryz.underlying452
 a37:=Tryz.isAgg452
 z37:=Tryz.sizeOf452
 v37:=Tryz.zeroValue452
 i37:=by kernel_rfl
 t41:=Tryz.underlying148
 a41:=Tryz.isAgg148
 z41:=Tryz.sizeOf148
 v41:=Tryz.zeroValue148
 i41:=by kernel_rfl
 t44:=Tryz.underlying456
 a44:=Tryz.isAgg456
 z44:=Tryz.sizeOf456
 v44:=Tryz.zeroValue456
 i44:=by kernel_rfl
 t49:=Tryz.underlying22
 a49:=Tryz.isAgg22
 z49:=Tryz.sizeOf22
 v49:=Tryz.zeroValue22
 i49:=by kernel_rfl
 t51:=Tryz.underlying27
 a51:=Tryz.isAgg27
 z51:=Tryz.sizeOf27
 v51:=Tryz.zeroValue27
 i51:=by kernel_rfl
 t53:=Tryz.underlying489
 a53:=Tryz.isAgg489
 z53:=Tryz.sizeOf489
 v53:=Tryz.zeroValue489
 i53:=by kernel_rfl
 t54:=Tryz.underlying490
 a54:=Tryz.isAgg490
 z54:=Tryz.sizeOf490
 v54:=Tryz.zeroValue490
 i54:=by kernel_rfl
 t58:=Tryz.underlying443
 a58:=Tryz.isAgg443
 z58:=Tryz.sizeOf443
 v58:=Tryz.zeroValue443
 i58:=by kernel_rfl
 t60:=Tryz.underlying503
 a60:=Tryz.isAgg503
 z60:=Tryz.sizeOf503
 v60:=Tryz.zeroValue503
 i60:=by kernel_rfl
 t64:=Tryz.underlying158
 a64:=Tryz.isAgg158
 z64:=Tryz.sizeOf158
 v64:=Tryz.zeroValue158
 i64:=by kernel_rfl
 t66:=Tryz.underlying513
 a66:=Tryz.isAgg513
 z66:=Tryz.sizeOf513
 v66:=Tryz.zeroValue513
 i66:=by kernel_rfl
 t67:=Tryz.underlying496
 a67:=Tryz.isAgg496
 z67:=Tryz.sizeOf496
 v67:=Tryz.zeroValue496
 i67:=by kernel_rfl
 t75:=Tryz.underlying526
 a75:=Tryz.isAgg526
 z75:=Tryz.sizeOf526
 v75:=Tryz.zeroValue526
 i75:=by kernel_rfl
 t76:=Tryz.underlying527
 a76:=Tryz.isAgg527
 z76:=Tryz.sizeOf527
 v76:=Tryz.zeroValue527
 i76:=by kernel_rfl
 t77:=Tryz.underlying528
 a77:=Tryz.isAgg528
 z77:=Tryz.sizeOf528
 v77:=Tryz.zeroValue528
 i77:=by kernel_rfl
 t78:=Tryz.underlying231
 a78:=Tryz.isAgg231
 z78:=Tryz.sizeOf231
 v78:=Tryz.zeroValue231
 i78:=by kernel_rfl
 t79:=Tryz.underlying529
 a79:=Tryz.isAgg529
 z79:=Tryz.sizeOf529
 v79:=Tryz.zeroValue529
 i79:=by kernel_rfl
 t80:=Tryz.underlying530
 a80:=Tryz.isAgg530
 z80:=Tryz.sizeOf530
 v80:=Tryz.zeroValue530
 i80:=by kernel_rfl
 t82:=Tryz.underlying532
 a82:=Tryz.isAgg532
 z82:=Tryz.sizeOf532
 v82:=Tryz.zeroValue532
 i82:=by kernel_rfl}
end Go.Proofs
namespace Go.Proofs.LL
open Go Go.Proofs Go.RowKit
instance:Fo (aggT TP 26) 7:=ko
theorem mi:aggT TP 26=some 7:=Fo.h
instance:Fo (bldT TP 26) ([(0,1),(1,1),(2,1),(3,1),(4,1),(5,1),(6,1)],[.string ⟨#[]⟩,.int .u32 0,.string ⟨#[]⟩,.int .u32 0,.bool false,.slice none 0 0,.slice none 0 0]):=ko
instance:Fo (bldT TP 85) ([(0,1),(1,1),(2,1),(3,1),(4,1),(5,1),(6,1),(7,1),(8,1),(9,1),(10,1)],[.string ⟨#[]⟩,.int .u32 0,.string ⟨#[]⟩,.int .u32 0,.bool false,.slice none 0 0,.string ⟨#[]⟩,.slice none 0 0,.slice none 0 0,.slice none 0 0,.slice none 0 0]):=ko
instance:Fb (bodyB TP 11):=kb
instance:Fb (bodyB TP 133):=kb
instance:Fb (bodyB TP 21):=kb
instance:Fb (bodyB TP 25):=kb
instance:Fb (bodyB TP 26):=kb
instance:Fb (bodyB TP 28):=kb
instance:Fb (bodyB TP 29):=kb
instance:Fb (bodyB TP 36):=kb
instance:Fb (bodyB TP 360):=kb
instance:Fb (bodyB TP 361):=kb
instance:Fb (bodyB TP 362):=kb
instance:Fb (bodyB TP 363):=kb
instance:Fb (bodyB TP 38):=kb
instance:Fb (bodyB TP 46):=kb
instance:Fb (bodyB TP 56):=kb
instance:Fb (bodyB TP 57):=kb
instance:Fb (bodyB TP 58):=kb
instance:Fb (bodyB TP 6):=kb
instance:Fb (bodyB TP 60):=kb
instance:Fb (bodyB TP 7):=kb
instance:Fb (bodyB TP 74):=kb
instance:Fb (bodyB TP 8):=kb
instance:Fb (concT TP 136):=kb
instance:Fb (concT TP 137):=kb
instance:Fb (concT TP 139):=kb
instance:Fo (fldT TP 34 1) (1,false,1):=ko
instance:Fo (fOff TP 26 0) 0:=ko
instance:Fo (fOff TP 26 1) 1:=ko
instance:Fo (fOff TP 26 2) 2:=ko
instance:Fo (fOff TP 26 3) 3:=ko
instance:Fo (fOff TP 26 4) 4:=ko
instance:Fo (fOff TP 26 5) 5:=ko
instance:Fo (fOff TP 26 6) 6:=ko
instance:Fo (fOff TP 76 0) 0:=ko
instance:Fo (fOff TP 76 1) 1:=ko
instance:Fo (fOff TP 76 2) 2:=ko
instance:Fo (fOff TP 76 3) 3:=ko
instance:Fo (fOff TP 76 4) 4:=ko
instance:Fo (fOff TP 76 5) 5:=ko
instance:Fo (fOff TP 76 6) 6:=ko
instance:Fo (fOff TP 85 0) 0:=ko
instance:Fo (fOff TP 85 1) 1:=ko
instance:Fo (fOff TP 85 10) 10:=ko
instance:Fo (fOff TP 85 2) 2:=ko
instance:Fo (fOff TP 85 3) 3:=ko
instance:Fo (fOff TP 85 4) 4:=ko
instance:Fo (fOff TP 85 5) 5:=ko
instance:Fo (fOff TP 85 6) 6:=ko
instance:Fo (fOff TP 85 7) 7:=ko
instance:Fo (fOff TP 85 9) 9:=ko
instance:Fb (impT TP 314 136):=kb
instance:Fb (impT TP 314 137):=kb
instance:Fb (impT TP 314 139):=kb
instance:Fo (mapT TP 415) 143:=ko
instance:Fo (mapT TP 72) 143:=ko
instance : Fo (mthT TP 136 "Unmarshal") 360 := ko
instance : Fo (mthT TP 137 "Unmarshal") 361 := ko
instance : Fo (mthT TP 139 "Unmarshal") 363 := ko
instance:Fb (oneT TP 69):=kb
instance:Fb (oneT TP 70):=kb
instance:Fb (oneT TP 71):=kb
instance:Fb (oneT TP 72):=kb
instance:Fb (oneT TP 74):=kb
instance:Fo (slT TP 156) (24,1,24):=ko
instance:Fo (slT TP 74) (143,1,16):=ko
instance:Fb (slK TP 32):=kb
instance:Fo (slZ TP 156) (24,1,24,(.slice none 0 0)):=ko
instance:Fb (strT TP 143):=kb
instance:Fo (szT TP 26) 7:=ko
instance:Fo (szT TP 415) 1:=ko
instance:Fo (szT TP 71) 1:=ko
instance:Fo (szT TP 74) 1:=ko
instance:Fo (zeroT TP 26) (.agg #[.string ⟨#[]⟩,.int .u32 0,.string ⟨#[]⟩,.int .u32 0,.bool false,.slice none 0 0,.slice none 0 0]):=ko
instance:Fo (zeroT TP 76) (.agg #[.string ⟨#[]⟩,.int .u32 0,.string ⟨#[]⟩,.int .u32 0,.bool false,.map none,.slice none 0 0]):=ko
instance:Fo (zeroT TP 137) (.pointer none):=ko
instance:Fo (zeroT TP 139) (.pointer none):=ko
instance:Fo (zeroT TP 136) (.pointer none):=ko
def r7:List (Nat×Value):=tzT++[(136,(.pointer none)),(137,(.pointer none)),(139,(.pointer none))]
theorem oW:TZs TP r7:=by repeat (first|exact trivial|refine⟨⟨Fb.h,Fo.h⟩,?_⟩)
instance:TZ TP r7:=TZ.of oW
def gO:kR:=⟨r7,[(26,0,0),(26,1,1),(26,2,2),(26,3,3),(26,4,4),(26,5,5),(26,6,6),(76,0,0),(76,1,1),(76,2,2),(76,3,3),(76,4,4),(76,5,5),(76,6,6),(85,0,0),(85,1,1),(85,10,10),(85,2,2),(85,3,3),(85,4,4),(85,5,5),(85,6,6),(85,7,7),(85,9,9)]++eE.f,[156,74]++eE.s,[]++eE.i⟩
theorem rQ:ge TP gO.f:=by repeat (first|exact trivial|refine⟨Fo.h,?_⟩)
theorem rH:iq TP gO.s:=by repeat (first|exact trivial|refine⟨⟨_,Fo.h⟩,?_⟩)
theorem rG:g8 TP gO.i:=by repeat (first|exact trivial|refine⟨Fb.h,?_⟩)
theorem eN:TB TP gO:=⟨TZ.ok,ge.of rQ,iq.of rH,g8.of rG⟩
section
variable {N L:Nat} {D:List Deferred} {X:Exit→Fr→World→Prop} {S:World→Prop} {next:Fr→World→Prop} {w:World} {ρ ρ':Fr} {x y:Code} {l:Array Oper} {r:List Oper} {s':St} {k':List KI} {d d':List (Bool×Nat×Oper)}
theorem uA(n:Nat)(h:dF gO N n ρ (.c x) []=some (ρ',s',k'))(hg:gol TP N D X ρ' w s' k'):WC TP N D x ρ w X:=sH eN n h hg
theorem uC(n:Nat)(h:dF gO N n ρ (.o l r) []=some (ρ',s',k'))(hg:gol TP N D (fun _=>next) ρ' w s' k'):WL TP l N D r ρ w next:=sF eN n h hg
theorem uD(n:Nat)(h:dF gO N n ρ (.o l r) [.s y]=some (ρ',s',k'))(hg:gol TP N D X ρ' w s' k'):WL TP l N D r ρ w (andThen TP N D y X .normal):=sE eN n h hg
theorem uE(n:Nat)(h:i7 gO N l n ρ d=some (ρ',d'))(hg:WDL TP l S L N D d' ρ' w next):WDL TP l S L N D d ρ w next:=gd eN n h hg
end
end Go.Proofs.LL
namespace Go.Proofs.LL
open Go Go.Proofs Go.RowKit
set_option maxHeartbeats 4000000
attribute [local irreducible] RunOp WL WC WDL WT WX
section
variable {P:Program} {ρ:Fr} {w w0:World} {ty:TypeId} {x y:Operand} {xt yt:TypeId}
theorem pr{t:TypeId}{v:Value}(hx:ov ρ x=some v)(hv:v.cells= #[v]):LoudOp P (.box t x) ty ρ w (fun u w'=>u= .pointer (some ⟨w.heap.size,0,none⟩)∧Blk w' w.heap.size [v]∧Ext w w'):=by
 intro N D a dst pos af g ha next Q hn
 refine l_box (P:=P) (ty:=ty) (w:=w) (t:=t) hx N D a dst pos af g ha next Q fun u w' h=>hn u w' ?_
 obtain⟨h1,rfl⟩:=h
 rw[hv]
 exact⟨h1,Blk.new w [v] t,Ext.alloc _ _⟩
end
theorem kP{rb xb off:Nat}{ks:List V}{c:UInt8}{hd body r:List UInt8}{w:World}{cs:List Value}(hks:∀x∈ks,Reads x)(hM:MapOK ks)(hT:∀x∈keysOf ks,x.kind=19∨x.kind=20)(hEn:EncL ks body)(hh:Hd 0xc1 0xd1 c hd ks.length body)(hX:Blk w xb cs)(ho:Nat.blt off cs.length=true)(hne:rb<xb)(hR:Rd w rb (c::(hd++(body++r)))):
  Does TP 133 [.pointer (some ⟨xb,off,none⟩),.pointer (some ⟨rb,0,none⟩)] w fun u w'=>u= .nilIface∧(∃m ss,Blk w' xb (cs.set off (.map (some m)))∧w.heap.size≤m∧MapO w' m (ss.map jS)∧ay (fun b=>w.heap.size≤b) w' ks ss)∧Rd w' rb r∧Evo (fun k=>k≠rb∧k≠xb) w w':=by
 have hr0:=hX.lt
 have hle:=hh.le
 obtain⟨hev,hkeys,hnd⟩:=hM
 refine do1 Tryz.func133 ?_
 refine uA 7 rfl ?_
 refine cl rfl (readMapHeader_ok hh hR) ?_
 rintro v1 w1 ⟨rfl,hR,e1⟩
 refine uD 10 rfl<|WL.q rfl (r_ifneNil Fb.h rfl)<|uD 3 rfl<|uA 3 rfl ?_
 refine WL.q rfl (r_quo (by decide) rfl rfl) ?_
 refine WL.l rfl (l_mkMap Fo.h (fun o h=>by cases h;exact⟨_,_,rfl⟩)) ?_
 rintro v2 w2 ⟨rfl,hMo,e2⟩
 have hx1:=hMo.lt
 have hx2:=e1.size
 refine uD 8 rfl ?_
 replace hR:=hR.mono e2
 replace hX:=(hX.mono e1).mono e2
 refine WC.loop2 (ι:=Nat) [(0,_),(1,_),(4,_),(5,_),(7,_)] (fun i=>[(8,.int .u32 ((2 * i:Nat):Int))]) (fun i wi=>(∃ss bi,MapO wi w1.heap.size (ss.map jS)∧2 * i≤ks.length∧ay (fun b=>w2.heap.size≤b) wi (ks.take (2 * i)) ss∧EncL (ks.drop (2 * i)) bi∧Rd wi rb (bi++r))∧Evo (fun k=>k<w2.heap.size∧k≠w1.heap.size∧k≠rb) w2 wi) (fun i=>ks.length-2 * i) 0 sb sb (⟨⟨[],body,hMo,Nat.zero_le _,by simp[ay],hEn,hR⟩,Evo.refl _⟩) ?_
 intro i wi1 hh;obtain⟨⟨ss,bi,hMo,hi2,hV,hB,hR⟩,hE⟩:=hh
 have hvl:=hV.length
 have hwi:=hE.size
 rcases Nat.lt_or_ge (2 * i) ks.length with hi|hi
 ·have hi1:2 * i+1<ks.length:=by omega
  rw[List.drop_eq_getElem_cons hi,List.drop_eq_getElem_cons hi1]at hB
  cases hB with
  |cons hB1 hB2=>
  cases hB2 with
  |cons hB2 hB3=>
  rename_i b1 b2 b3
  rw[List.append_assoc,List.append_assoc]at hR
  have hw:IntKind.u32.wrap (((2 * i:Nat):Int)+2)=((2 * (i+1):Nat):Int):=by
   rw[wu32 (by omega) (by omega)];omega
  have htk:ks.take (2 * (i+1))=ks.take (2 * i)++[ks[2 * i],ks[2 * i+1]]:=by
   rw[show 2 * (i+1)=2 * i+1+1 by omega,List.take_add_one,List.take_add_one,List.getElem?_eq_getElem hi1,List.getElem?_eq_getElem hi,List.append_assoc];rfl
  have hdr:ks.drop (2 * (i+1))=ks.drop (2 * i+1+1):=by rw[show 2 * (i+1)=2 * i+1+1 by omega]
  have hkm:ks[2 * i]∈keysOf ks:=List.mem_of_getElem? (keysOf_get i ks hi1)
  have hkk:=hkeys _ hkm
  have hkT:=hT _ hkm
  have hdn:=hkk.2.2.2.2.1
  cases hB1 with
  |desc h _ _=>rw[hdn]at h;cases h
  |plain _ hP1=>
  rw[List.cons_append]at hR
  refine uA 5 rfl<|lT rfl rfl<|uD 3 rfl<|uA 5 rfl ?_
  refine cl rfl (readString_pc hkT hP1 hR) ?_
  rintro v3 w3 ⟨rfl,hR,e3⟩
  have hq1:=e3.size
  have hZV:=ay.mono hV e3 (by intro b h1 h2;dsimp only[Nb];omega)
  refine uD 10 rfl<|WL.q rfl (r_ifneNil Fb.h rfl)<|uD 3 rfl<|uA 3 rfl ?_
  refine cl rfl (hks _ (List.getElem_mem hi1) _ _ _ _ hB2 hR) ?_
  rintro v4 w4 ⟨yv,rfl,hZW,hR,e4⟩
  refine uD 10 rfl<|WL.q rfl (r_ifneNil Fb.h rfl)<|uD 3 rfl<|uA 4 rfl ?_
  replace hMo:=(hMo.mono e3).mono e4
  refine WL.l0 (l_mapNew Fo.h rfl rfl rfl hMo (KeyOK.str Fb.h) (findKey_str Fb.h (fun e ch=>by obtain⟨j,hj,rfl⟩:=mkEs_mem ch;rw[List.length_map]at hj;obtain⟨x',hx',hr'⟩:=ay.keys hV _ (List.getElem_mem hj);rw[keysOf_take]at hx';have hx2:=hkeys _ (List.mem_of_mem_take hx');refine⟨⟨(ss[j].1).toArray⟩,by simp[jS,str],?_⟩;rw[hr'];intro e;exact j2 hkT (hT _ (List.mem_of_mem_take hx')) hkk.2 hx2.2 (nodup_take hnd (keysOf_get i ks hi1) hx') (by simpa using e.symm)))) ?_
  rintro v5 w5 ⟨hMo,e5⟩
  refine uD 3 rfl<|WL.q rfl (r_add rfl rfl)<|uC 2 rfl ?_
  replace hZV:=(hZV.mono e4).mono e5
  replace hZW:=hZW.mono e5
  have hV2:=ay.snoc (x:=ks[2 * i]) (by rw[List.length_take,Nat.min_eq_left (Nat.le_of_lt hi)];omega) hZV (hZW.weaken (B:=fun b=>w2.heap.size≤b) (fun b h=>by omega))
  rw[← htk]at hV2
  rw[← hdr]at hB3
  have hMo2:=(show MapO _ _ (_++[jS (ks[2 * i].text,yv)])from hMo)
  rw[show ss.map jS++[jS (ks[2 * i].text,yv)]=(ss++[(ks[2 * i].text,yv)]).map jS by simp]at hMo2
  replace hR:=hR.mono e5
  exact⟨i+1,sb,sb,⟨⟨_,_,hMo2,by omega,hV2,hB3,hR⟩,((((hE.then e3).then e4).then e5))⟩,by omega⟩
 ·rw[List.drop_eq_nil_of_le hi]at hB
  cases hB
  rw[List.take_of_length_le hi]at hV
  refine uA 5 rfl<|lF rfl rfl<|uD 2 rfl<|WC.exit<|uA 5 rfl ?_
  replace hX:=hX.mono hE
  refine WL.l0 (l_store Fo.h rfl rfl rfl hX ho) ?_
  rintro _ w3 ⟨hX,e3,hz3⟩
  refine uD 5 rfl<|WC.ret ?_
  replace hR:=hR.mono e3
  replace hMo:=hMo.mono e3
  replace hV:=hV.mono e3
  exact fin1 rfl ⟨rfl,⟨_,ss,hX,by omega,hMo,ay.weaken hV (fun b h=>by omega)⟩,by simpa using hR,ch⟩
theorem jg{rb xb off:Nat}{hd r:List UInt8}{ts:List (List UInt8)}{w:World}{cs:List Value}(hts:∀t∈ts,t≠[]∧t.length<256)(hX:Blk w xb cs)(ho:Nat.blt off cs.length=true)(hcs:cs[off]?=some (.slice none 0 0))(hne:rb<xb)(hpos:0<ts.length)(hh:ArrH hd ts.length (0xa3::ts.flatMap (txt 1)))(hR:Rd w rb (hd++((0xa3::ts.flatMap (txt 1))++r))):
  Does TP 125 [.pointer (some ⟨xb,off,none⟩),.pointer (some ⟨rb,0,none⟩)] w fun u w'=>u= .nilIface∧(∃g,w.heap.size≤g∧Blk w' xb (cs.set off (.slice (some ⟨g,0,none⟩) ts.length ts.length))∧Blk w' g (ts.map str))∧Rd w' rb r∧Evo (fun k=>k≠rb∧k≠xb) w w':=by
 have hle:=hh.le
 have hr0:=hX.lt
 have hge:=flat_ge 1 (by decide) ts (fun t h=>(hts t h).1)
 have hlr:=hR.len
 have hln:((0xa3::ts.flatMap (txt 1))++r).length=(ts.flatMap (txt 1)).length+r.length+1:=by simp only[List.length_append,List.length_cons];omega
 rw[List.length_append]at hlr
 refine do1 Tryz.func125 ?_
 have he:Evo (fun k=>k≠rb∧k≠xb) w w:=Evo.refl w
 refine uA 7 rfl ?_
 refine cl rfl (readArrayHeader_ok hh hR) ?_
 rintro v1 w1 ⟨rfl,hR,e1⟩
 refine uD 10 rfl<|WL.q rfl (r_ifneNil Fb.h rfl)<|uD 3 rfl<|uA 4 rfl ?_
 refine WL.q rfl (r_muli rfl rfl rfl (by omega) (by omega)) ?_
 refine uC 1 rfl ?_
 refine cl rfl (LenR_ok hR) ?_
 rintro v2 w2 ⟨rfl,e2⟩
 refine WL.q rfl (r_cmp (r_gtr rfl rfl) (decide_eq_false (by omega))) ?_
 refine uD 3 rfl<|uA 4 rfl ?_
 replace hX:=(hX.mono e1).mono e2
 refine WL.q rfl (r_load Fb.h rfl (Ext.refl _) (hX.get hcs)) ?_
 refine WL.q rfl (r_sliceh Fo.h rfl rfl rfl (by first|omega|(simp;done)|(simp;omega))) ?_
 refine uD 6 rfl<|WL.q rfl (r_cap Fo.h rfl)<|uC 1 rfl<|lT rfl rfl<|uD 4 rfl ?_
 replace he:=(he.then e1).then e2
 have hs3:=he.size
 refine WL.l rfl (l_makeB (n:=ts.length) Fo.h rfl rfl rfl rfl rfl (by omega) (by simp only[maxLen];omega)) ?_
 rintro v3 w3 ⟨rfl,hK,e3⟩
 refine uD 5 rfl ?_
 replace hR:=(hR.mono e2).mono e3
 refine cl rfl (readType_ok hR) ?_
 rintro v4 w4 ⟨rfl,hR,e4⟩
 refine uD 10 rfl<|WL.q rfl (r_ifneNil Fb.h rfl)<|uD 3 rfl<|uA 19 rfl ?_
 replace hX:=(hX.mono e3).mono e4
 replace hK:=hK.mono e4
 replace he:=(he.then e3).then e4
 refine WC.loop2 (ι:=Nat) [(0,_),(1,_),(4,_),(7,_),(58,_)] (fun i=>[(59,.int .i64 (i:Int))]) (fun i wi=>Blk wi w2.heap.size (fillA (ts.map str) (.string ⟨#[]⟩) i)∧Rd wi rb ((ts.drop i).flatMap (txt 1)++r)∧Evo (fun k=>k≠w2.heap.size∧k≠rb) w4 wi) (fun i=>ts.length-i) 0 sb sb (⟨by rw[fillA_zero,List.length_map];exact hK,hR,Evo.refl _⟩) ?_
 intro i wi1 hh;obtain⟨hK,hR,hE⟩:=hh
 rcases Nat.lt_or_ge i ts.length with hi|hi
 ·rw[List.drop_eq_getElem_cons hi,List.flatMap_cons,List.append_assoc]at hR
  simp only[txt,bigB,List.cons_append,List.nil_append,List.append_assoc]at hR
  have hlt:=(hts _ (List.getElem_mem hi)).2
  refine uA 2 rfl<|lT rfl rfl<|uD 14 rfl ?_
  refine cl rfl (ReadByte_ok hR) ?_
  rintro v5 w5 ⟨rfl,hR,e5⟩
  refine uD 10 rfl<|WL.q rfl (r_ifneNil Fb.h rfl)<|uD 3 rfl<|uA 4 rfl<|WL.q rfl (r_cvInt Fo.h rfl) ?_
  refine cl rfl (Next_I hR (by rw[len1 hlt,cv_nat_i64 (by omega)])) ?_
  rintro v6 w6 ⟨v,rfl,hY,hR,e6⟩
  refine uD 18 rfl<|WL.q rfl (r_b2s Fb.h rfl (Ext.refl _) hY) ?_
  refine WL.q rfl (r_idx1 Fo.h rfl rfl rfl (by first|omega|(simp;done)|(simp;omega))) ?_
  replace hK:=(hK.mono e5).mono e6
  refine WL.l0 (l_fill Fo.h rfl (by omega) rfl rfl hK (by simp[hi])) ?_
  rintro _ w7 ⟨hK,e7⟩
  refine uD 2 rfl<|ai rfl rfl rfl<|uC 2 rfl ?_
  replace hR:=hR.mono e7
  exact⟨i+1,sb,sb,⟨hK,hR,((((hE.then e5).then e6).then e7))⟩,by omega⟩
 ·refine uA 2 rfl<|lF rfl rfl<|uD 3 rfl<|WC.exit<|uA 5 rfl ?_
  replace hX:=hX.mono hE
  refine WL.l0 (l_store Fo.h rfl rfl rfl hX ho) ?_
  rintro _ w5 ⟨hX,e5,hz5⟩
  refine uD 5 rfl<|WC.ret ?_
  replace hK:=hK.mono e5
  rw[fillA_all _ _ (by simpa using hi)]at hK
  replace hR:=hR.mono e5
  rw[List.drop_eq_nil_of_le hi]at hR
  replace he:=(he.then hE).then e5
  exact fin1 rfl ⟨rfl,⟨_,hs3,hX,hK⟩,by simpa using hR,he⟩
theorem jt{rb xb off:Nat}{hd r:List UInt8}{ts:List (List UInt8)}{w:World}{cs:List Value}(hts:∀t∈ts,t≠[]∧t.length<4294967296)(hX:Blk w xb cs)(ho:Nat.blt off cs.length=true)(hcs:cs[off]?=some (.slice none 0 0))(hne:rb<xb)(hpos:0<ts.length)(hh:ArrH hd ts.length (0xb3::ts.flatMap (txt 4)))(hR:Rd w rb (hd++((0xb3::ts.flatMap (txt 4))++r))):
  Does TP 125 [.pointer (some ⟨xb,off,none⟩),.pointer (some ⟨rb,0,none⟩)] w fun u w'=>u= .nilIface∧(∃g,w.heap.size≤g∧Blk w' xb (cs.set off (.slice (some ⟨g,0,none⟩) ts.length ts.length))∧Blk w' g (ts.map str))∧Rd w' rb r∧Evo (fun k=>k≠rb∧k≠xb) w w':=by
 have hle:=hh.le
 have hr0:=hX.lt
 have hge:=flat_ge 4 (by decide) ts (fun t h=>(hts t h).1)
 have hlr:=hR.len
 have hln:((0xb3::ts.flatMap (txt 4))++r).length=(ts.flatMap (txt 4)).length+r.length+1:=by simp only[List.length_append,List.length_cons];omega
 rw[List.length_append]at hlr
 refine do1 Tryz.func125 ?_
 have he:Evo (fun k=>k≠rb∧k≠xb) w w:=Evo.refl w
 refine uA 7 rfl ?_
 refine cl rfl (readArrayHeader_ok hh hR) ?_
 rintro v1 w1 ⟨rfl,hR,e1⟩
 refine uD 10 rfl<|WL.q rfl (r_ifneNil Fb.h rfl)<|uD 3 rfl<|uA 4 rfl ?_
 refine WL.q rfl (r_muli rfl rfl rfl (by omega) (by omega)) ?_
 refine uC 1 rfl ?_
 refine cl rfl (LenR_ok hR) ?_
 rintro v2 w2 ⟨rfl,e2⟩
 refine WL.q rfl (r_cmp (r_gtr rfl rfl) (decide_eq_false (by omega))) ?_
 refine uD 3 rfl<|uA 4 rfl ?_
 replace hX:=(hX.mono e1).mono e2
 refine WL.q rfl (r_load Fb.h rfl (Ext.refl _) (hX.get hcs)) ?_
 refine WL.q rfl (r_sliceh Fo.h rfl rfl rfl (by first|omega|(simp;done)|(simp;omega))) ?_
 refine uD 6 rfl<|WL.q rfl (r_cap Fo.h rfl)<|uC 1 rfl<|lT rfl rfl<|uD 4 rfl ?_
 replace he:=(he.then e1).then e2
 have hs3:=he.size
 refine WL.l rfl (l_makeB (n:=ts.length) Fo.h rfl rfl rfl rfl rfl (by omega) (by simp only[maxLen];omega)) ?_
 rintro v3 w3 ⟨rfl,hK,e3⟩
 refine uD 5 rfl ?_
 replace hR:=(hR.mono e2).mono e3
 refine cl rfl (readType_ok hR) ?_
 rintro v4 w4 ⟨rfl,hR,e4⟩
 refine uD 10 rfl<|WL.q rfl (r_ifneNil Fb.h rfl)<|uD 3 rfl<|uA 25 rfl ?_
 replace hX:=(hX.mono e3).mono e4
 replace hK:=hK.mono e4
 replace he:=(he.then e3).then e4
 refine WC.loop2 (ι:=Nat) [(0,_),(1,_),(4,_),(7,_),(89,_)] (fun i=>[(90,.int .i64 (i:Int))]) (fun i wi=>Blk wi w2.heap.size (fillA (ts.map str) (.string ⟨#[]⟩) i)∧Rd wi rb ((ts.drop i).flatMap (txt 4)++r)∧Evo (fun k=>k≠w2.heap.size∧k≠rb) w4 wi) (fun i=>ts.length-i) 0 sb sb (⟨by rw[fillA_zero,List.length_map];exact hK,hR,Evo.refl _⟩) ?_
 intro i wi1 hh;obtain⟨hK,hR,hE⟩:=hh
 rcases Nat.lt_or_ge i ts.length with hi|hi
 ·rw[List.drop_eq_getElem_cons hi,List.flatMap_cons,List.append_assoc]at hR
  simp only[txt,bigB,List.cons_append,List.nil_append,List.append_assoc]at hR
  have hlt:=(hts _ (List.getElem_mem hi)).2
  refine uA 2 rfl<|lT rfl rfl<|uD 14 rfl ?_
  refine cl rfl (Next_ok (l:=[_,_,_,_]) hR rfl) ?_
  rintro v5 w5 ⟨v,rfl,hX4,hR,e5⟩
  refine uD 16 rfl<|WL.q rfl (r_loadAgg Fo.h rfl (Ext.refl _) At.nil)<|uC 1 rfl ?_
  refine cl rfl (Uint32_ok (r:=[]) hX4) ?_
  rintro v6 w6 ⟨rfl,e6⟩
  refine WL.q rfl (r_cvInt Fo.h rfl)<|uD 6 rfl ?_
  replace hR:=hR.mono e6
  refine cl rfl (Next_I hR (by rw[len4 hlt,cv_nat_i64 (by omega)])) ?_
  rintro v7 w7 ⟨v,rfl,hY,hR,e7⟩
  refine uD 18 rfl<|WL.q rfl (r_b2s Fb.h rfl (Ext.refl _) hY) ?_
  refine WL.q rfl (r_idx1 Fo.h rfl rfl rfl (by first|omega|(simp;done)|(simp;omega))) ?_
  replace hK:=((hK.mono e5).mono e6).mono e7
  refine WL.l0 (l_fill Fo.h rfl (by omega) rfl rfl hK (by simp[hi])) ?_
  rintro _ w8 ⟨hK,e8⟩
  refine uD 2 rfl<|ai rfl rfl rfl<|uC 2 rfl ?_
  replace hR:=hR.mono e8
  exact⟨i+1,sb,sb,⟨hK,hR,(((((hE.then e5).then e6).then e7).then e8))⟩,by omega⟩
 ·refine uA 2 rfl<|lF rfl rfl<|uD 3 rfl<|WC.exit<|uA 5 rfl ?_
  replace hX:=hX.mono hE
  refine WL.l0 (l_store Fo.h rfl rfl rfl hX ho) ?_
  rintro _ w5 ⟨hX,e5,hz5⟩
  refine uD 5 rfl<|WC.ret ?_
  replace hK:=hK.mono e5
  rw[fillA_all _ _ (by simpa using hi)]at hK
  replace hR:=hR.mono e5
  rw[List.drop_eq_nil_of_le hi]at hR
  replace he:=(he.then hE).then e5
  exact fin1 rfl ⟨rfl,⟨_,hs3,hX,hK⟩,by simpa using hR,he⟩
theorem o6{rb xb off:Nat}{x:V}{c:UInt8}{data r:List UInt8}{w:World}{cs:List Value}(hk:x.kind=19∨x.kind=20)(hP:Pc x c data)(hX:Blk w xb cs)(ho:Nat.blt off cs.length=true)(hne:rb<xb)(hR:Rd w rb (c::(data++r))):
  Does TP 83 [.pointer (some ⟨rb,0,none⟩),.iface 244 (.pointer (some ⟨xb,off,none⟩))] w fun u w'=>u= .nilIface∧Blk w' xb (cs.set off (str x.text))∧Rd w' rb r∧Evo (fun k=>k≠rb∧k≠xb) w w':=by
 have hr0:=hX.lt
 have hne64:=hP.ne64 (by omega)
 refine do1 Tryz.func83 ?_
 refine uA 8 rfl ?_
 refine cl rfl (tryReadNull_no hR hne64) ?_
 rintro v1 w1 ⟨rfl,e1⟩
 refine uD 3 rfl<|uA 99 rfl<|WL.q rfl (r_assertIs Fb.h rfl)<|uD 11 rfl ?_
 replace hR:=hR.mono e1
 refine cl rfl (readString_pc hk hP hR) ?_
 rintro v2 w2 ⟨rfl,hR,e2⟩
 have hq:=e1.size
 refine uD 10 rfl<|WL.q rfl (r_ifneNil Fb.h rfl)<|uD 3 rfl<|uA 4 rfl ?_
 replace hX:=(hX.mono e1).mono e2
 refine WL.l0 (l_store Fo.h rfl rfl rfl hX ho) ?_
 rintro _ w3 ⟨hX,e3,hz3⟩
 refine uD 5 rfl<|WC.ret ?_
 replace hR:=hR.mono e3
 exact fin1 rfl ⟨rfl,hX,hR,ch⟩
theorem j6{rb xb off:Nat}{x:V}{c:UInt8}{data r:List UInt8}{w:World}{cs:List Value}(hk:x.kind=4)(hn:x.num<4294967296)(hP:Pc x c data)(hX:Blk w xb cs)(ho:Nat.blt off cs.length=true)(hne:rb<xb)(hR:Rd w rb (c::(data++r))):
  Does TP 83 [.pointer (some ⟨rb,0,none⟩),.iface 105 (.pointer (some ⟨xb,off,none⟩))] w fun u w'=>u= .nilIface∧Blk w' xb (cs.set off (.int .u32 (x.num:Int)))∧Rd w' rb r∧Evo (fun k=>k≠rb∧k≠xb) w w':=by
 have hr0:=hX.lt
 have hne64:=hP.ne64 (by omega)
 refine do1 Tryz.func83 ?_
 refine uA 8 rfl ?_
 refine cl rfl (tryReadNull_no hR hne64) ?_
 rintro v1 w1 ⟨rfl,e1⟩
 refine uD 3 rfl<|uA 50 rfl<|WL.q rfl (r_assertIs Fb.h rfl)<|uD 11 rfl ?_
 replace hR:=hR.mono e1
 refine cl rfl (readUint_pc hk hn hP hR) ?_
 rintro v2 w2 ⟨rfl,hR,e2⟩
 have hq:=e1.size
 refine uD 10 rfl<|WL.q rfl (r_ifneNil Fb.h rfl)<|uD 3 rfl<|uA 4 rfl ?_
 replace hX:=(hX.mono e1).mono e2
 refine WL.l0 (l_store Fo.h rfl rfl rfl hX ho) ?_
 rintro _ w3 ⟨hX,e3,hz3⟩
 refine uD 5 rfl<|WC.ret ?_
 replace hR:=hR.mono e3
 exact fin1 rfl ⟨rfl,hX,hR,ch⟩
theorem ng{rb xb off:Nat}{x:V}{c:UInt8}{data r:List UInt8}{w:World}{cs:List Value}(hk:x.kind=1)(hP:Pc x c data)(hX:Blk w xb cs)(ho:Nat.blt off cs.length=true)(hne:rb<xb)(hR:Rd w rb (c::(data++r))):
  Does TP 83 [.pointer (some ⟨rb,0,none⟩),.iface 65 (.pointer (some ⟨xb,off,none⟩))] w fun u w'=>u= .nilIface∧Blk w' xb (cs.set off (.bool (x.num !=0)))∧Rd w' rb r∧Evo (fun k=>k≠rb∧k≠xb) w w':=by
 have hr0:=hX.lt
 have hne64:=hP.ne64 (by omega)
 refine do1 Tryz.func83 ?_
 refine uA 8 rfl ?_
 refine cl rfl (tryReadNull_no hR hne64) ?_
 rintro v1 w1 ⟨rfl,e1⟩
 refine uD 3 rfl<|uA 113 rfl<|WL.q rfl (r_assertIs Fb.h rfl)<|uD 11 rfl ?_
 replace hR:=hR.mono e1
 refine cl rfl (readBool_pc hk hP hR) ?_
 rintro v2 w2 ⟨rfl,hR,e2⟩
 have hq:=e1.size
 refine uD 10 rfl<|WL.q rfl (r_ifneNil Fb.h rfl)<|uD 3 rfl<|uA 4 rfl ?_
 replace hX:=(hX.mono e1).mono e2
 refine WL.l0 (l_store Fo.h rfl rfl rfl hX ho) ?_
 rintro _ w3 ⟨hX,e3,hz3⟩
 refine uD 5 rfl<|WC.ret ?_
 replace hR:=hR.mono e3
 exact fin1 rfl ⟨rfl,hX,hR,ch⟩
theorem kz{rb xb off:Nat}{ks:List V}{c:UInt8}{hd body r:List UInt8}{w:World}{cs:List Value}(hks:∀x∈ks,Reads x)(hM:MapOK ks)(hT:∀x∈keysOf ks,x.kind=19∨x.kind=20)(hEn:EncL ks body)(hh:Hd 0xc1 0xd1 c hd ks.length body)(hX:Blk w xb cs)(ho:Nat.blt off cs.length=true)(hne:rb<xb)(hR:Rd w rb (c::(hd++(body++r)))):
  Does TP 83 [.pointer (some ⟨rb,0,none⟩),.iface 138 (.pointer (some ⟨xb,off,none⟩))] w fun u w'=>u= .nilIface∧(∃m ss,Blk w' xb (cs.set off (.map (some m)))∧w.heap.size≤m∧MapO w' m (ss.map jS)∧ay (fun b=>w.heap.size≤b) w' ks ss)∧Rd w' rb r∧Evo (fun k=>k≠rb∧k≠xb) w w':=by
 have hr0:=hX.lt
 have hne64:c≠64:=by rcases hh with⟨_,_,rfl,_⟩|⟨_,_,_,_,_,_,_,_,rfl,_⟩<;>decide
 refine do1 Tryz.func83 ?_
 refine uA 8 rfl ?_
 refine cl rfl (tryReadNull_no hR hne64) ?_
 rintro v1 w1 ⟨rfl,e1⟩
 refine uD 3 rfl<|uA 260 rfl<|WL.q rfl (r_assertIs Fb.h rfl)<|uD 12 rfl ?_
 replace hR:=hR.mono e1
 replace hX:=hX.mono e1
 refine cl rfl (kP hks hM hT hEn hh hX ho hne hR) ?_
 rintro v2 w2 ⟨rfl,⟨m,ss,hX,hm,hMo,hV⟩,hR,e2⟩
 refine uC 2 rfl<|WC.ret ?_
 exact fin1 rfl ⟨rfl,⟨m,ss,hX,by have:=e1.size;omega,hMo,hV.weaken (fun b h=>by have:=e1.size;omega)⟩,hR,ch⟩
theorem mm{rb xb off:Nat}{c:UInt8}{hd r:List UInt8}{ts:List (List UInt8)}{w:World}{cs:List Value}(hts:∀t∈ts,t≠[]∧t.length<256)(hX:Blk w xb cs)(ho:Nat.blt off cs.length=true)(hcs:cs[off]?=some (.slice none 0 0))(hne:rb<xb)(hpos:0<ts.length)(hh:Hd 0xe0 0xf0 c hd ts.length (0xa3::ts.flatMap (txt 1)))(hR:Rd w rb (c::(hd++((0xa3::ts.flatMap (txt 1))++r)))):
  Does TP 83 [.pointer (some ⟨rb,0,none⟩),.iface 276 (.pointer (some ⟨xb,off,none⟩))] w fun u w'=>u= .nilIface∧(∃g,w.heap.size≤g∧Blk w' xb (cs.set off (.slice (some ⟨g,0,none⟩) ts.length ts.length))∧Blk w' g (ts.map str))∧Rd w' rb r∧Evo (fun k=>k≠rb∧k≠xb) w w':=by
 have hr0:=hX.lt
 have hne64:c≠64:=by rcases hh with⟨_,_,rfl,_⟩|⟨_,_,_,_,_,_,_,_,rfl,_⟩<;>decide
 refine do1 Tryz.func83 ?_
 refine uA 8 rfl ?_
 refine cl rfl (tryReadNull_no hR hne64) ?_
 rintro v1 w1 ⟨rfl,e1⟩
 refine uD 3 rfl<|uA 204 rfl<|WL.q rfl (r_assertIs Fb.h rfl)<|uD 12 rfl ?_
 replace hR:=hR.mono e1
 replace hX:=hX.mono e1
 refine cl rfl (jg hts hX ho hcs hne hpos hh.arr hR) ?_
 rintro v2 w2 ⟨rfl,⟨g,hg,hX,hG⟩,hR,e2⟩
 refine uC 2 rfl<|WC.ret ?_
 exact fin1 rfl ⟨rfl,⟨g,by have:=e1.size;omega,hX,hG⟩,hR,ch⟩
theorem lP{rb xb off:Nat}{c:UInt8}{hd r:List UInt8}{ts:List (List UInt8)}{w:World}{cs:List Value}(hts:∀t∈ts,t≠[]∧t.length<4294967296)(hX:Blk w xb cs)(ho:Nat.blt off cs.length=true)(hcs:cs[off]?=some (.slice none 0 0))(hne:rb<xb)(hpos:0<ts.length)(hh:Hd 0xe0 0xf0 c hd ts.length (0xb3::ts.flatMap (txt 4)))(hR:Rd w rb (c::(hd++((0xb3::ts.flatMap (txt 4))++r)))):
  Does TP 83 [.pointer (some ⟨rb,0,none⟩),.iface 276 (.pointer (some ⟨xb,off,none⟩))] w fun u w'=>u= .nilIface∧(∃g,w.heap.size≤g∧Blk w' xb (cs.set off (.slice (some ⟨g,0,none⟩) ts.length ts.length))∧Blk w' g (ts.map str))∧Rd w' rb r∧Evo (fun k=>k≠rb∧k≠xb) w w':=by
 have hr0:=hX.lt
 have hne64:c≠64:=by rcases hh with⟨_,_,rfl,_⟩|⟨_,_,_,_,_,_,_,_,rfl,_⟩<;>decide
 refine do1 Tryz.func83 ?_
 refine uA 8 rfl ?_
 refine cl rfl (tryReadNull_no hR hne64) ?_
 rintro v1 w1 ⟨rfl,e1⟩
 refine uD 3 rfl<|uA 204 rfl<|WL.q rfl (r_assertIs Fb.h rfl)<|uD 12 rfl ?_
 replace hR:=hR.mono e1
 replace hX:=hX.mono e1
 refine cl rfl (jt hts hX ho hcs hne hpos hh.arr hR) ?_
 rintro v2 w2 ⟨rfl,⟨g,hg,hX,hG⟩,hR,e2⟩
 refine uC 2 rfl<|WC.ret ?_
 exact fin1 rfl ⟨rfl,⟨g,by have:=e1.size;omega,hX,hG⟩,hR,ch⟩
end Go.Proofs.LL
