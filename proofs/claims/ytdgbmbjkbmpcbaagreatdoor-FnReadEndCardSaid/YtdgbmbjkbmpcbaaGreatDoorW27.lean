/- Own laws of frames, operations, regions and loops. Closed facts of the program. The library contracts laid at this program. Conditions: those that each theorem states. -/
import Derived.Test.YtdgbmbjkbmpcbaaGreatDoorW26
import Derived.Shelf.Sort.Plain
import Derived.Shelf.SlSortFuncK.WholeK
import Derived.Shelf.GgSortFunc.Tiny
import Derived.Ground.GgsProg
import Derived.Ground.NamesProg
import Derived.Shelf.Unicode.ValidAny
import Derived.Test.YtdgbmbjkbmpcbaaGreatDoorProg
set_option linter.all false
set_option maxRecDepth 20000
namespace Go.Proofs.LL
open Go Go.RowKit
structure Tab where
  z:List (Nat×Value)
  f:List (Nat×Nat×Nat)
  s:List Nat
  i:List Nat
def lkf:List (Nat×Nat×Nat)→Nat→Nat→Option Nat
  |[],_,_=>none
  |(a,b,k)::r,s,f=>bif Nat.beq a s&&Nat.beq b f then some k else lkf r s f
def isin:List Nat→Nat→Bool
  |[],_=>false
  |a::r,t=>Nat.beq a t||isin r t
structure TB (P:Program) (T:Tab):Prop where
  z:∀t z,lkz T.z t=some z→concT P t=true∧zeroT P t=some z
  f:∀s f k,lkf T.f s f=some k→fOff P s f=some k
  s:∀t,isin T.s t=true→∃e,slT P t=some e
  i:∀t,isin T.i t=true→ifT P t=true
def AllF(P:Program):List (Nat×Nat×Nat)→Prop
  |[]=>True
  |(s,f,k)::r=>fOff P s f=some k∧AllF P r
def AllS(P:Program):List Nat→Prop
  |[]=>True
  |t::r=>(∃e,slT P t=some e)∧AllS P r
def AllI(P:Program):List Nat→Prop
  |[]=>True
  |t::r=>ifT P t=true∧AllI P r
theorem AllF.of{P:Program}:∀ {l:List (Nat×Nat×Nat)},AllF P l→∀s f k,lkf l s f=some k→fOff P s f=some k
  |[],_,_,_,_,h=>by cases h
  |(a,b,c)::r,h,s,f,k,e=>by
    unfold lkf at e
    cases h1:Nat.beq a s with
    |false=>rw[h1]at e;exact AllF.of h.2 s f k e
    |true=>
      cases h2:Nat.beq b f with
      |false=>rw[h1,h2]at e;exact AllF.of h.2 s f k e
      |true=>
        rw[h1,h2]at e
        cases e
        rw[← Nat.eq_of_beq_eq_true h1,← Nat.eq_of_beq_eq_true h2]
        exact h.1
theorem AllS.of{P:Program}:∀ {l:List Nat},AllS P l→∀t,isin l t=true→∃e,slT P t=some e
  |[],_,_,h=>by cases h
  |a::r,h,t,e=>by
    simp only[isin,Bool.or_eq_true]at e
    rcases e with e|e
    · rw[← Nat.eq_of_beq_eq_true e];exact h.1
    · exact AllS.of h.2 t e
theorem AllI.of{P:Program}:∀ {l:List Nat},AllI P l→∀t,isin l t=true→ifT P t=true
  |[],_,_,h=>by cases h
  |a::r,h,t,e=>by
    simp only[isin,Bool.or_eq_true]at e
    rcases e with e|e
    · rw[← Nat.eq_of_beq_eq_true e];exact h.1
    · exact AllI.of h.2 t e
def qex(T:Tab)(ρ:Fr):Op→Option Value
  | .typeAssert x _ t true=>match ov ρ x,lkz T.z t with
    |some (.iface u _),some z=>bif Nat.beq u t then none else some (.tuple #[z,.bool false])
    |some .nilIface,some z=>some (.tuple #[z,.bool false])
    |_,_=>none
  | .fieldAddr s x f=>match ov ρ x,lkf T.f s f with
    |some (.pointer (some ⟨b,o,none⟩)),some k=>some (.pointer (some ⟨b,o+k,none⟩))
    |_,_=>none
  | .pick c x y=>match ov ρ c,ov ρ x,ov ρ y with
    |some (.bool b),some v,some u=>some (bif b then v else u)
    |_,_,_=>none
  | .call ⟨.builtin .len,xs,ts⟩=>match xs.toList,ts.toList with
    |[x],[t]=>(match ov ρ x with
      |some (.slice _ n _)=>bif isin T.s t then some (.int .i64 n)else none
      |_=>none)
    |_,_=>none
  | .makeInterface t x=>match ov ρ x,lkz T.z t with
    |some v,some _=>some (.iface t v)
    |_,_=>none
  |o=>qev ρ o
theorem qex_run{P:Program}{T:Tab}(hT:TB P T){ρ:Fr}{w:World}{op:Op}{ty:TypeId}{v:Value}(h:qex T ρ op=some v):RunOp P op ty ρ w v:=by
  unfold qex at h
  split at h
  · split at h
    · rename_i hx hz
      obtain⟨h1,h2⟩:=hT.z _ _ hz
      rw[cond_eq_ite]at h
      split at h
      · cases h
      · rename_i hb
        cases h
        exact r_assertNo h1 h2 hx (Bool.eq_false_iff.2 hb)
    · rename_i hx hz
      obtain⟨h1,h2⟩:=hT.z _ _ hz
      cases h
      exact r_assertNil h1 h2 hx
    · cases h
  · split at h
    · rename_i hx hf
      cases h
      exact r_fieldAddr hx (hT.f _ _ _ hf)
    · cases h
  · split at h
    · rename_i h1 h2 h3
      cases h
      exact r_pick h1 h2 h3
    · cases h
  · rename_i xs ts
    split at h
    · rename_i x t e1 e2
      have e3:xs= #[x]:=Array.toList_inj.1 (by rw[e1])
      have e4:ts= #[t]:=Array.toList_inj.1 (by rw[e2])
      subst e3
      subst e4
      split at h
      · rename_i hx
        rw[cond_eq_ite]at h
        split at h
        · rename_i hs
          cases h
          obtain⟨⟨e,z,bs⟩,he⟩:=hT.s _ hs
          exact r_len he hx
        · cases h
      · cases h
    · cases h
  · split at h
    · rename_i hx hz
      cases h
      exact r_mkIface (hT.z _ _ hz).1 hx
    · cases h
  · exact r_qev h
def qgd(T:Tab)(N:Nat)(l:Array Oper)(ρ:Fr)(op:Op):Option (Nat×Bool)→Option Value
  |none=>qex T ρ op
  |some (j,b)=>match gdst l j with
    |none=>none
    |some t=>bif Nat.blt t N then(match lk ρ t with
      |none=>none
      |some u=>bif says u b then(match u with
        | .bool _=>qex T ρ op
        |_=>none)else some undef)else none
def step(T:Tab)(N:Nat)(ρ:Fr):St→List KI→Option (Fr×St×List KI)
  | .c (.seq x y),k=>some (ρ,.c x,.s y::k)
  | .c (.region _ l false),k=>some (ρ,.o l l.toList,k)
  | .c (.cond x a b),k=>match ov ρ x with
    |some (.bool true)=>some (ρ,.c a,k)
    |some (.bool false)=>some (ρ,.c b,k)
    |_=>none
  | .c .skip,k=>some (ρ,popK k)
  | .c (.block id c),k=>some (ρ,.c c,.b id::k)
  | .o _ [],k=>some (ρ,popK k)
  | .o l (⟨some d,op,_,_,_,g⟩::r),k=>bif Nat.blt d N then(match qgd T N l ρ op g with
    |some v=>some ((d,v)::ρ,.o l r,k)
    |none=>none)else none
  |_,_=>none
def rrun(T:Tab)(N:Nat):Nat→Fr→St→List KI→Option (Fr×St×List KI)
  |0,ρ,s,k=>some (ρ,s,k)
  |n+1,ρ,s,k=>match step T N ρ s k with
    |some (ρ',s',k')=>rrun T N n ρ' s' k'
    |none=>none
section
variable {P:Program} {N:Nat} {D:List Deferred} {T:Tab}
theorem says_bool{u:Value}{b:Bool}(h:says u b=true):u= .bool b:=by
  unfold says at h
  split at h
  · rename_i x;rw[show x=b by simpa using h]
  · cases h
theorem step_op(hT:TB P T){l:Array Oper}{r:List Oper}{next:Fr→World→Prop}{ρ:Fr}{w:World}{d:Nat}{op:Op}{ty:TypeId}{pos:String}{af:Array Edge}{g:Option (Nat×Bool)}{v:Value}(hb:Nat.blt d N=true)(hv:qgd T N l ρ op g=some v)(h:WL P l N D r ((d,v)::ρ) w next):
    WL P l N D (⟨some d,op,ty,pos,af,g⟩::r) ρ w next:=by
  unfold qgd at hv
  split at hv
  · exact WL.q hb (qex_run hT hv) h
  · split at hv
    · cases hv
    · rename_i t hj
      rw[cond_eq_ite]at hv
      split at hv
      · rename_i hN
        split at hv
        · cases hv
        · rename_i u hu
          rw[cond_eq_ite]at hv
          split at hv
          · rename_i hs
            split at hv
            · have e:=says_bool hs
              exact WL.qg hb hj (by rw[hu,e]) hN (qex_run hT hv) h
            · cases hv
          · rename_i hs
            cases hv
            exact WL.sk hb hj hu (Bool.eq_false_iff.2 hs) hN h
      · cases hv
theorem gol_step2(hT:TB P T){X:Exit→Fr→World→Prop}{ρ ρ':Fr}{w:World}{s s':St}{k k':List KI}(h:step T N ρ s k=some (ρ',s',k'))(hg:gol P N D X ρ' w s' k'):gol P N D X ρ w s k:=by
  unfold step at h
  split at h
  · cases h;exact WC.seq hg
  · cases h
    have:=WC.region (id:= ‹_›) (X:=den P N D k X) (show WL P (List.toArray _) N D _ ρ w _ from hg)
    rw[Array.toArray_toList]at this
    exact this
  · split at h
    · cases h;rename_i hc;exact WC.condT hc hg
    · cases h;rename_i hc;exact WC.condF hc hg
    · cases h
  · simp only[Option.some.injEq,Prod.mk.injEq]at h
    obtain⟨rfl,h⟩:=h
    exact WC.skip (gol_pop k (by rw[h];exact hg))
  · cases h;exact WC.block hg
  · simp only[Option.some.injEq,Prod.mk.injEq]at h
    obtain⟨rfl,h⟩:=h
    exact WL.nil (gol_pop k (by rw[h];exact hg))
  · rename_i d op ty pos af g r
    cases hb:Nat.blt d N with
    |false=>rw[hb]at h;cases h
    |true=>
      rw[hb]at h
      simp only[cond_true]at h
      split at h
      · rename_i v hv
        cases h
        exact step_op hT hb hv hg
      · cases h
  · cases h
theorem gol_run2(hT:TB P T){X:Exit→Fr→World→Prop}{w:World}:∀(n:Nat) {ρ ρ':Fr} {s s':St} {k k':List KI},rrun T N n ρ s k=some (ρ',s',k')→gol P N D X ρ' w s' k'→gol P N D X ρ w s k
  |0,_,_,_,_,_,_,h,hg=>by cases h;exact hg
  |n+1,_,_,_,_,_,_,h,hg=>by
    rw[rrun]at h
    split at h
    · rename_i hs
      exact gol_step2 hT hs (gol_run2 hT n h hg)
    · cases h
theorem ga0(hT:TB P T)(n:Nat){X:Exit→Fr→World→Prop}{w:World}{ρ ρ':Fr}{x:Code}{s':St}{k':List KI}(h:rrun T N n ρ (.c x) []=some (ρ',s',k'))(hg:gol P N D X ρ' w s' k'):WC P N D x ρ w X:=gol_run2 hT (s:= .c x) (k:=[]) n h hg
theorem ga1(hT:TB P T)(n:Nat){X:Exit→Fr→World→Prop}{w:World}{ρ ρ':Fr}{x y:Code}{s':St}{k':List KI}(h:rrun T N n ρ (.c x) [.s y]=some (ρ',s',k'))(hg:gol P N D X ρ' w s' k'):WC P N D x ρ w (andThen P N D y X):=gol_run2 hT (s:= .c x) (k:=[.s y]) n h hg
theorem gb0(hT:TB P T)(n:Nat){next:Fr→World→Prop}{w:World}{ρ ρ':Fr}{l:Array Oper}{r:List Oper}{s':St}{k':List KI}(h:rrun T N n ρ (.o l r) []=some (ρ',s',k'))(hg:gol P N D (fun _=>next) ρ' w s' k'):WL P l N D r ρ w next:=gol_run2 (X:=fun _=>next) hT (s:= .o l r) (k:=[]) n h hg
theorem gb1(hT:TB P T)(n:Nat){X:Exit→Fr→World→Prop}{w:World}{ρ ρ':Fr}{l:Array Oper}{r:List Oper}{y:Code}{s':St}{k':List KI}(h:rrun T N n ρ (.o l r) [.s y]=some (ρ',s',k'))(hg:gol P N D X ρ' w s' k'):WL P l N D r ρ w (andThen P N D y X .normal):=gol_run2 hT (s:= .o l r) (k:=[.s y]) n h hg
theorem gb2(hT:TB P T)(n:Nat){X:Exit→Fr→World→Prop}{w:World}{ρ ρ':Fr}{l:Array Oper}{r:List Oper}{y z:Code}{s':St}{k':List KI}(h:rrun T N n ρ (.o l r) [.s y,.s z]=some (ρ',s',k'))(hg:gol P N D X ρ' w s' k'):WL P l N D r ρ w (andThen P N D y (andThen P N D z X) .normal):=gol_run2 hT (s:= .o l r) (k:=[.s y,.s z]) n h hg
end
def drun(T:Tab)(N:Nat)(l:Array Oper):Nat→Fr→List (Bool×Nat×Oper)→Option (Fr×List (Bool×Nat×Oper))
  |0,ρ,r=>some (ρ,r)
  |_+1,_,[]=>none
  |n+1,ρ,(q,_,o)::r=>match q,o.dst with
    |true,some d=>bif Nat.blt d N then(match qgd T N l ρ o.op o.guard with
      |some v=>drun T N l n ((d,v)::ρ) r
      |none=>none)else none
    |_,_=>none
theorem drun_op{P:Program}{N L i d:Nat}{D:List Deferred}{T:Tab}(hT:TB P T){S:World→Prop}{l:Array Oper}{w:World}{next:Fr→World→Prop}{ρ:Fr}{r:List (Bool×Nat×Oper)}{op:Op}{ty:TypeId}{pos:String}{af:Array Edge}{g:Option (Nat×Bool)}{v:Value}(hb:Nat.blt d N=true)(hv:qgd T N l ρ op g=some v)(hk:WDL P l S L N D r ((d,v)::ρ) w next):WDL P l S L N D ((true,i,⟨some d,op,ty,pos,af,g⟩)::r) ρ w next:=by
  unfold qgd at hv
  split at hv
  · exact WD.q hb (fun w' _=>qex_run hT hv) hk
  · split at hv
    · cases hv
    · rename_i t hj
      rw[cond_eq_ite]at hv
      split at hv
      · rename_i hN
        split at hv
        · cases hv
        · rename_i u hu
          rw[cond_eq_ite]at hv
          split at hv
          · rename_i hs
            split at hv
            · have e:=says_bool hs
              exact WD.qg hb hj (by rw[hu,e]) hN (fun w' _=>qex_run hT hv) hk
            · cases hv
          · rename_i hs
            cases hv
            exact WD.sk hb hj hu (Bool.eq_false_iff.2 hs) hN hk
      · cases hv
theorem gd{P:Program}{N L:Nat}{D:List Deferred}{T:Tab}(hT:TB P T){S:World→Prop}{l:Array Oper}{w:World}{next:Fr→World→Prop}:∀(n:Nat) {ρ ρ':Fr} {r r':List (Bool×Nat×Oper)},drun T N l n ρ r=some (ρ',r')→WDL P l S L N D r' ρ' w next→WDL P l S L N D r ρ w next
  |0,_,_,_,_,h,hg=>by cases h;exact hg
  |n+1,_,_,[],_,h,_=>by cases h
  |n+1,ρ,ρ',(q,i,⟨dst,op,ty,pos,af,g⟩)::r,r',h,hg=>by
    cases q with
    |false=>simp[drun]at h
    |true=>
      cases dst with
      |none=>simp[drun]at h
      |some d=>
        simp only[drun]at h
        cases hb:Nat.blt d N with
        |false=>rw[hb]at h;cases h
        |true=>
          rw[hb]at h
          simp only[cond_true]at h
          split at h
          · rename_i v hv
            exact drun_op hT hb hv (gd hT n h hg)
          · cases h
end Go.Proofs.LL
namespace Go.Proofs.LL
open Go Go.Proofs Go.RowKit
def tabT:Tab:=⟨tzT,[(128,0,0),(128,1,1),(135,0,0),(135,1,1),(122,0,0),(179,0,0),(179,1,1),(179,2,2),(201,0,0),(87,3,3),(251,0,0),(251,1,1),(423,0,0),(423,1,1),(423,2,7),(87,0,0),(87,1,1),(87,2,2),(87,5,5),(87,4,4),(39,0,0),(39,1,1),(370,0,0),(370,1,1),(152,0,0),(152,1,1),(34,0,0),(34,1,1),(89,0,0),(55,0,0),(55,1,1),(55,2,2),(89,1,6)],[28,389,390,392,393,394,395,397,398,399,400,404,411,401,402,403,412,140,24,323,328,333,336,339,342,345,348,351,353,356,359,44,73,320,420,23,154,371,149,32,199,53],[78,20]⟩
theorem tabF:AllF TP tabT.f:=by repeat (first|exact trivial|refine⟨Fo.h,?_⟩)
theorem tabS:AllS TP tabT.s:=by repeat (first|exact trivial|refine⟨⟨_,Fo.h⟩,?_⟩)
theorem tabIf:AllI TP tabT.i:=by repeat (first|exact trivial|refine⟨Fb.h,?_⟩)
theorem tabT_ok:TB TP tabT:=⟨TZ.ok,AllF.of tabF,AllS.of tabS,AllI.of tabIf⟩
section
variable {N L:Nat} {D:List Deferred} {X:Exit→Fr→World→Prop} {S:World→Prop} {next:Fr→World→Prop} {w:World} {ρ ρ':Fr} {x y:Code} {l:Array Oper} {r:List Oper} {s':St} {k':List KI} {d d':List (Bool×Nat×Oper)}
theorem jA(n:Nat)(h:rrun tabT N n ρ (.c x) []=some (ρ',s',k'))(hg:gol TP N D X ρ' w s' k'):WC TP N D x ρ w X:=ga0 tabT_ok n h hg
theorem jB(n:Nat)(h:rrun tabT N n ρ (.c x) [.s y]=some (ρ',s',k'))(hg:gol TP N D X ρ' w s' k'):WC TP N D x ρ w (andThen TP N D y X):=ga1 tabT_ok n h hg
theorem jC(n:Nat)(h:rrun tabT N n ρ (.o l r) []=some (ρ',s',k'))(hg:gol TP N D (fun _=>next) ρ' w s' k'):WL TP l N D r ρ w next:=gb0 tabT_ok n h hg
theorem jD(n:Nat)(h:rrun tabT N n ρ (.o l r) [.s y]=some (ρ',s',k'))(hg:gol TP N D X ρ' w s' k'):WL TP l N D r ρ w (andThen TP N D y X .normal):=gb1 tabT_ok n h hg
theorem jE(n:Nat)(h:drun tabT N l n ρ d=some (ρ',d'))(hg:WDL TP l S L N D d' ρ' w next):WDL TP l S L N D d ρ w next:=gd tabT_ok n h hg
end
section
variable {P:Program} {ops:Array Oper} {S:World→Prop} {A:Nat→Prop} {N L i d t e z bs n c b o j j' t':Nat} {D:List Deferred} {ρ:Fr} {w w0:World} {next:Fr→World→Prop} {rest:List Oper} {rd:List (Bool×Nat×Oper)} {ty xt yt:TypeId} {pos:String} {af:Array Edge} {x y:Operand} {cs l:List Value} {v:Value} {k k2:IntKind} {p q r:Int} {g:Bool}
theorem ld[Fb (oneT P t)](hx:ov ρ x=some (.pointer (some ⟨b,j,none⟩)))(hB:Blk w b cs)(hv:cs[j]?=some v)(h:WL P ops N D rest ((d,v)::ρ) w next)(hN:Nat.blt d N=true:=by exact rfl):WL P ops N D (⟨some d,.load t x,ty,pos,af,none⟩::rest) ρ w next:=WL.q hN (r_load Fb.h hx (Ext.refl _) (hB.get hv)) h
theorem lg[Fb (oneT P t)](hj:gdst ops i=some t')(ht:lk ρ t'=some (.bool g))(hx:ov ρ x=some (.pointer (some ⟨b,j,none⟩)))(hB:Blk w b cs)(hv:cs[j]?=some v)(h:WL P ops N D rest ((d,v)::ρ) w next)(hN:Nat.blt d N=true:=by exact rfl)(hN2:Nat.blt t' N=true:=by exact rfl):WL P ops N D (⟨some d,.load t x,ty,pos,af,some (i,g)⟩::rest) ρ w next:=WL.qg hN hj ht hN2 (r_load Fb.h hx (Ext.refl _) (hB.get hv)) h
theorem dl[Fb (oneT P t)](hx:ov ρ x=some (.pointer (some ⟨b,j,none⟩)))(hB:Blk w0 b cs)(hv:cs[j]?=some v)(h:WDL P ops S L N D rd ((d,v)::ρ) w next)(hE:∀w',S w'→Evo A w0 w':=by exact fun _ h=>h)(hA:A b:=by first|exact trivial|((try dsimp only[Nb]);omega)|assumption)(hN:Nat.blt d N=true:=by exact rfl):WDL P ops S L N D ((true,i,⟨some d,.load t x,ty,pos,af,none⟩)::rd) ρ w next:=WD.q hN (fun _ hS=>r_load Fb.h hx (hE _ hS) (hB.get hv) hA) h
theorem bl[Fb (oneT P t)](hj:gdst ops j'=some t')(ht:lk ρ t'=some (.bool g))(hx:ov ρ x=some (.pointer (some ⟨b,j,none⟩)))(hB:Blk w0 b cs)(hv:cs[j]?=some v)(h:WDL P ops S L N D rd ((d,v)::ρ) w next)(hE:∀w',S w'→Evo A w0 w':=by exact fun _ h=>h)(hA:A b:=by first|exact trivial|((try dsimp only[Nb]);omega)|assumption)(hN:Nat.blt d N=true:=by exact rfl)(hN2:Nat.blt t' N=true:=by exact rfl):WDL P ops S L N D ((true,i,⟨some d,.load t x,ty,pos,af,some (j',g)⟩)::rd) ρ w next:=WD.qg hN hj ht hN2 (fun _ hS=>r_load Fb.h hx (hE _ hS) (hB.get hv) hA) h
theorem la[Fo (aggT P t) n](hx:ov ρ x=some (.pointer (some ⟨b,0,none⟩)))(hB:Blk w b l)(h:WL P ops N D rest ((d,.agg l.toArray)::ρ) w next)(hn:l.length=n:=by first|rfl|assumption)(hN:Nat.blt d N=true:=by exact rfl):WL P ops N D (⟨some d,.load t x,ty,pos,af,none⟩::rest) ρ w next:=WL.q hN (r_loadAgg Fo.h hx (Ext.refl _) hB.at hn) h
theorem ai(hx:ov ρ x=some (.int .i64 p))(hy:ov ρ y=some (.int .i64 q))(hc:p+q=r)(h:WL P ops N D rest ((d,.int .i64 r)::ρ) w next)(h1: -9223372036854775808≤r:=by omega)(h2:r≤9223372036854775807:=by omega)(hN:Nat.blt d N=true:=by exact rfl):WL P ops N D (⟨some d,.binOp .add xt x y yt,ty,pos,af,none⟩::rest) ρ w next:=WL.q hN (r_addi hx hy hc h1 h2) h
theorem ix[Fo (slT P t) (e,z,bs)](hx:ov ρ x=some (.slice (some ⟨b,o,none⟩) n c))(hy:ov ρ y=some (.int k p))(hi:p=(j:Int))(h:WL P ops N D rest ((d,.pointer (some ⟨b,o+j * z,none⟩))::ρ) w next)(hj:j<n:=by first|omega|(simp;done)|(simp;omega))(hN:Nat.blt d N=true:=by exact rfl):WL P ops N D (⟨some d,.indexAddr t x y,ty,pos,af,none⟩::rest) ρ w next:=WL.q hN (r_idx Fo.h hx hy hi hj) h
theorem lT(hx:ov ρ x=some (.int k p))(hy:ov ρ y=some (.int k q))(h:WL P ops N D rest ((d,.bool true)::ρ) w next)(hc:p<q:=by omega)(hN:Nat.blt d N=true:=by exact rfl):WL P ops N D (⟨some d,.binOp .lss xt x y yt,ty,pos,af,none⟩::rest) ρ w next:=WL.q hN (r_cmp (r_lss hx hy) (decide_eq_true hc)) h
theorem lF(hx:ov ρ x=some (.int k p))(hy:ov ρ y=some (.int k q))(h:WL P ops N D rest ((d,.bool false)::ρ) w next)(hc:¬p<q:=by omega)(hN:Nat.blt d N=true:=by exact rfl):WL P ops N D (⟨some d,.binOp .lss xt x y yt,ty,pos,af,none⟩::rest) ρ w next:=WL.q hN (r_cmp (r_lss hx hy) (decide_eq_false hc)) h
end
end Go.Proofs.LL
namespace Go.Proofs
open Go.Shelf
theorem km{a b:Func}(h:a=b:=by kernel_rfl):some a=some b:=congrArg some h
def Tryz.lays192_ren:Go.Shelf.Ren:=⟨fun|192=>84|190=>136|125=>211|258=>210|128=>243|129=>244|302=>234|303=>235|304=>236|305=>237|306=>238|307=>239|308=>240|309=>241|310=>242|333=>253|329=>254|330=>255|334=>256|335=>257|336=>258|344=>306|n=>n,fun|31=>24|0=>0|9=>9|3=>3|46=>148|51=>22|53=>27|4=>4|183=>438|182=>437|131=>443|5=>5|218=>462|222=>158|228=>495|229=>496|n=>n,fun|n=>n⟩
theorem Tryz.lays192:Go.Proofs.Lays.n192 Tryz.prog Tryz.lays192_ren:= {
 mixed:=by kernel_rfl
 f125:=Tryz.func211.trans km
 f128:=Tryz.func243.trans km
 f129:=Tryz.func244.trans km
 f190:=Tryz.func136.trans km
 f192:=Tryz.func84.trans km
 f258:=Tryz.func210.trans km
 f302:=Tryz.func234.trans km
 f303:=Tryz.func235.trans km
 f304:=Tryz.func236.trans km
 f305:=Tryz.func237.trans km
 f306:=Tryz.func238.trans km
 f307:=Tryz.func239.trans km
 f308:=Tryz.func240.trans km
 f309:=Tryz.func241.trans km
 f310:=Tryz.func242.trans km
 f329:=Tryz.func254.trans km
 f330:=Tryz.func255.trans km
 f333:=Tryz.func253.trans km
 f334:=Tryz.func256.trans km
 f335:=Tryz.func257.trans km
 f336:=Tryz.func258.trans km
 f344:=Tryz.func306.trans km
 t0:=Tryz.underlying0
 a0:=Tryz.isAgg0
 z0:=Tryz.sizeOf0
 v0:=Tryz.zeroValue0
 t3:=Tryz.underlying3
 a3:=Tryz.isAgg3
 z3:=Tryz.sizeOf3
 v3:=Tryz.zeroValue3
 t4:=Tryz.underlying4
 a4:=Tryz.isAgg4
 z4:=Tryz.sizeOf4
 v4:=Tryz.zeroValue4
 t5:=Tryz.underlying5
 a5:=Tryz.isAgg5
 z5:=Tryz.sizeOf5
 v5:=Tryz.zeroValue5
 t9:=Tryz.underlying9
 a9:=Tryz.isAgg9
 z9:=Tryz.sizeOf9
 v9:=Tryz.zeroValue9
 t31:=Tryz.underlying24
 a31:=Tryz.isAgg24
 z31:=Tryz.sizeOf24
 v31:=Tryz.zeroValue24
 t46:=Tryz.underlying148
 a46:=Tryz.isAgg148
 z46:=Tryz.sizeOf148
 v46:=Tryz.zeroValue148
 t51:=Tryz.underlying22
 a51:=Tryz.isAgg22
 z51:=Tryz.sizeOf22
 v51:=Tryz.zeroValue22
 t53:=Tryz.underlying27
 a53:=Tryz.isAgg27
 z53:=Tryz.sizeOf27
 v53:=Tryz.zeroValue27
 t131:=Tryz.underlying443
 a131:=Tryz.isAgg443
 z131:=Tryz.sizeOf443
 v131:=Tryz.zeroValue443
 t182:=Tryz.underlying437
 a182:=Tryz.isAgg437
 z182:=Tryz.sizeOf437
 v182:=Tryz.zeroValue437
 t183:=Tryz.underlying438
 a183:=Tryz.isAgg438
 z183:=Tryz.sizeOf438
 v183:=Tryz.zeroValue438
 t218:=Tryz.underlying462
 a218:=Tryz.isAgg462
 z218:=Tryz.sizeOf462
 v218:=Tryz.zeroValue462
 t222:=Tryz.underlying158
 a222:=Tryz.isAgg158
 z222:=Tryz.sizeOf158
 v222:=Tryz.zeroValue158
 t228:=Tryz.underlying495
 a228:=Tryz.isAgg495
 z228:=Tryz.sizeOf495
 v228:=Tryz.zeroValue495
 t229:=Tryz.underlying496
 a229:=Tryz.isAgg496
 z229:=Tryz.sizeOf496
 v229:=Tryz.zeroValue496}
def Tryz.lays196_ren:Go.Shelf.Ren:=⟨fun|196=>183|259=>216|n=>n,fun|9=>9|4=>4|3=>3|5=>5|12=>12|119=>427|0=>0|46=>148|139=>430|138=>429|53=>27|n=>n,fun|3=>2|4=>3|n=>n⟩
theorem Tryz.lays196:Go.Proofs.Lays.n196 Tryz.prog Tryz.lays196_ren:= {
 mixed:=by kernel_rfl
 f196:=Tryz.func183.trans km
 f259:=Tryz.func216.trans km
 t0:=Tryz.underlying0
 a0:=Tryz.isAgg0
 z0:=Tryz.sizeOf0
 v0:=Tryz.zeroValue0
 t3:=Tryz.underlying3
 a3:=Tryz.isAgg3
 z3:=Tryz.sizeOf3
 v3:=Tryz.zeroValue3
 t4:=Tryz.underlying4
 a4:=Tryz.isAgg4
 z4:=Tryz.sizeOf4
 v4:=Tryz.zeroValue4
 t5:=Tryz.underlying5
 a5:=Tryz.isAgg5
 z5:=Tryz.sizeOf5
 v5:=Tryz.zeroValue5
 t9:=Tryz.underlying9
 a9:=Tryz.isAgg9
 z9:=Tryz.sizeOf9
 v9:=Tryz.zeroValue9
 t12:=Tryz.underlying12
 a12:=Tryz.isAgg12
 z12:=Tryz.sizeOf12
 v12:=Tryz.zeroValue12
 t46:=Tryz.underlying148
 a46:=Tryz.isAgg148
 z46:=Tryz.sizeOf148
 v46:=Tryz.zeroValue148
 t53:=Tryz.underlying27
 a53:=Tryz.isAgg27
 z53:=Tryz.sizeOf27
 v53:=Tryz.zeroValue27
 t119:=Tryz.underlying427
 a119:=Tryz.isAgg427
 z119:=Tryz.sizeOf427
 t138:=Tryz.underlying429
 a138:=Tryz.isAgg429
 z138:=Tryz.sizeOf429
 v138:=Tryz.zeroValue429
 t139:=Tryz.underlying430
 a139:=Tryz.isAgg430
 z139:=Tryz.sizeOf430
 v139:=Tryz.zeroValue430
 g3:=by kernel_rfl
 g4:=by kernel_rfl}
def Tryz.gl6_ren:Go.Shelf.Ren:=⟨fun|6=>213|10=>246|11=>247|12=>248|13=>211|14=>249|24=>243|25=>244|26=>298|27=>299|28=>300|29=>301|30=>302|31=>303|32=>304|33=>305|34=>315|35=>316|36=>317|37=>318|38=>319|39=>327|n=>n,fun|20=>20|26=>425|35=>450|0=>0|37=>452|3=>3|41=>148|44=>456|49=>22|51=>27|4=>4|54=>490|53=>489|58=>443|5=>5|9=>9|60=>503|64=>158|66=>513|67=>496|17=>17|32=>447|33=>448|82=>532|12=>12|75=>526|76=>527|77=>528|78=>231|79=>529|80=>530|n=>n,fun|n=>n⟩
theorem Tryz.gl6:Go.Proofs.LaysGg.n6 Tryz.prog Tryz.gl6_ren:= {
 mixed:=by kernel_rfl
 f6:=Tryz.func213.trans km
 f10:=Tryz.func246.trans km
 f11:=Tryz.func247.trans km
 f12:=Tryz.func248.trans km
 f13:=Tryz.func211.trans km
 f14:=Tryz.func249.trans km
 f24:=Tryz.func243.trans km
 f25:=Tryz.func244.trans km
 f26:=Tryz.func298.trans km
 f27:=Tryz.func299.trans km
 f28:=Tryz.func300.trans km
 f29:=Tryz.func301.trans km
 f30:=Tryz.func302.trans km
 f31:=Tryz.func303.trans km
 f32:=Tryz.func304.trans km
 f33:=Tryz.func305.trans km
 f34:=Tryz.func315.trans km
 f35:=Tryz.func316.trans km
 f36:=Tryz.func317.trans km
 f37:=Tryz.func318.trans km
 f38:=Tryz.func319.trans km
 f39:=Tryz.func327.trans km
 t0:=Tryz.underlying0
 a0:=Tryz.isAgg0
 z0:=Tryz.sizeOf0
 v0:=Tryz.zeroValue0
 i0:=by kernel_rfl
 t3:=Tryz.underlying3
 a3:=Tryz.isAgg3
 z3:=Tryz.sizeOf3
 v3:=Tryz.zeroValue3
 i3:=by kernel_rfl
 t4:=Tryz.underlying4
 a4:=Tryz.isAgg4
 z4:=Tryz.sizeOf4
 v4:=Tryz.zeroValue4
 i4:=by kernel_rfl
 t5:=Tryz.underlying5
 a5:=Tryz.isAgg5
 z5:=Tryz.sizeOf5
 v5:=Tryz.zeroValue5
 i5:=by kernel_rfl
 t9:=Tryz.underlying9
 a9:=Tryz.isAgg9
 z9:=Tryz.sizeOf9
 v9:=Tryz.zeroValue9
 i9:=by kernel_rfl
 t12:=Tryz.underlying12
 a12:=Tryz.isAgg12
 z12:=Tryz.sizeOf12
 v12:=Tryz.zeroValue12
 i12:=by kernel_rfl
 t17:=Tryz.underlying17
 a17:=Tryz.isAgg17
 z17:=Tryz.sizeOf17
 v17:=Tryz.zeroValue17
 i17:=by kernel_rfl
 t20:=Tryz.underlying20
 a20:=Tryz.isAgg20
 z20:=Tryz.sizeOf20
 v20:=Tryz.zeroValue20
 i20:=by kernel_rfl
 t26:=Tryz.underlying425
 a26:=Tryz.isAgg425
 z26:=Tryz.sizeOf425
 v26:=Tryz.zeroValue425
 i26:=by kernel_rfl
 t32:=Tryz.underlying447
 a32:=Tryz.isAgg447
 z32:=Tryz.sizeOf447
 v32:=Tryz.zeroValue447
 i32:=by kernel_rfl
 t33:=Tryz.underlying448
 a33:=Tryz.isAgg448
 z33:=Tryz.sizeOf448
 v33:=Tryz.zeroValue448
 i33:=by kernel_rfl
 t35:=Tryz.underlying450
 a35:=Tryz.isAgg450
 z35:=Tryz.sizeOf450
 v35:=Tryz.zeroValue450
 i35:=by kernel_rfl
 t37:=Tryz.underlying452
 a37:=Tryz.isAgg452
 z37:=Tryz.sizeOf452
 v37:=Tryz.zeroValue452
 i37:=by kernel_rfl
 t41:=Tryz.underlying148
 a41:=Tryz.isAgg148
 z41:=Tryz.sizeOf148
 v41:=Tryz.zeroValue148
 i41:=by kernel_rfl
 t44:=Tryz.underlying456
 a44:=Tryz.isAgg456
 z44:=Tryz.sizeOf456
 v44:=Tryz.zeroValue456
 i44:=by kernel_rfl
 t49:=Tryz.underlying22
 a49:=Tryz.isAgg22
 z49:=Tryz.sizeOf22
 v49:=Tryz.zeroValue22
 i49:=by kernel_rfl
 t51:=Tryz.underlying27
 a51:=Tryz.isAgg27
 z51:=Tryz.sizeOf27
 v51:=Tryz.zeroValue27
 i51:=by kernel_rfl
 t53:=Tryz.underlying489
 a53:=Tryz.isAgg489
 z53:=Tryz.sizeOf489
 v53:=Tryz.zeroValue489
 i53:=by kernel_rfl
 t54:=Tryz.underlying490
 a54:=Tryz.isAgg490
 z54:=Tryz.sizeOf490
 v54:=Tryz.zeroValue490
 i54:=by kernel_rfl
 t58:=Tryz.underlying443
 a58:=Tryz.isAgg443
 z58:=Tryz.sizeOf443
 v58:=Tryz.zeroValue443
 i58:=by kernel_rfl
 t60:=Tryz.underlying503
 a60:=Tryz.isAgg503
 z60:=Tryz.sizeOf503
 v60:=Tryz.zeroValue503
 i60:=by kernel_rfl
 t64:=Tryz.underlying158
 a64:=Tryz.isAgg158
 z64:=Tryz.sizeOf158
 v64:=Tryz.zeroValue158
 i64:=by kernel_rfl
 t66:=Tryz.underlying513
 a66:=Tryz.isAgg513
 z66:=Tryz.sizeOf513
 v66:=Tryz.zeroValue513
 i66:=by kernel_rfl
 t67:=Tryz.underlying496
 a67:=Tryz.isAgg496
 z67:=Tryz.sizeOf496
 v67:=Tryz.zeroValue496
 i67:=by kernel_rfl
 t75:=Tryz.underlying526
 a75:=Tryz.isAgg526
 z75:=Tryz.sizeOf526
 v75:=Tryz.zeroValue526
 i75:=by kernel_rfl
 t76:=Tryz.underlying527
 a76:=Tryz.isAgg527
 z76:=Tryz.sizeOf527
 v76:=Tryz.zeroValue527
 i76:=by kernel_rfl
 t77:=Tryz.underlying528
 a77:=Tryz.isAgg528
 z77:=Tryz.sizeOf528
 v77:=Tryz.zeroValue528
 i77:=by kernel_rfl
 t78:=Tryz.underlying231
 a78:=Tryz.isAgg231
 z78:=Tryz.sizeOf231
 v78:=Tryz.zeroValue231
 i78:=by kernel_rfl
 t79:=Tryz.underlying529
 a79:=Tryz.isAgg529
 z79:=Tryz.sizeOf529
 v79:=Tryz.zeroValue529
 i79:=by kernel_rfl
 t80:=Tryz.underlying530
 a80:=Tryz.isAgg530
 z80:=Tryz.sizeOf530
 v80:=Tryz.zeroValue530
 i80:=by kernel_rfl
 t82:=Tryz.underlying532
 a82:=Tryz.isAgg532
 z82:=Tryz.sizeOf532
 v82:=Tryz.zeroValue532
 i82:=by kernel_rfl}
end Go.Proofs
