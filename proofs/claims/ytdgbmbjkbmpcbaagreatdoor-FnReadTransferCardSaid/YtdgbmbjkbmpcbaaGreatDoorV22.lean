/- Contracts of functions and own laws. Conditions: those that each theorem states. -/
import Derived.Test.YtdgbmbjkbmpcbaaGreatDoorV21
set_option linter.all false
set_option autoImplicit true
set_option relaxedAutoImplicit true
set_option maxRecDepth 20000
namespace Go.Proofs.LL
open Go Go.Proofs Go.RowKit
set_option maxHeartbeats 4000000
attribute [local irreducible] ar WL WC cq WT WX
theorem Pc.ne64(h:Pc x c b)(hk:x.kind≠0):c≠64:=by
 cases h
 case null=>exact absurd rfl hk
 case num s hc=>rcases iz hc with⟨_,rfl,_⟩|⟨_,rfl,_⟩|⟨_,rfl,_⟩|⟨_,rfl,_⟩|⟨_,rfl,_⟩|⟨_,rfl,_⟩|⟨_,rfl,_⟩|⟨_,rfl,_⟩|⟨_,rfl,_⟩|⟨_,rfl,_⟩|⟨_,rfl,_⟩<;>decide
 case list h1 h2=>rcases h2 with⟨_,_,rfl,_⟩|⟨_,_,_,_,_,_,_,_,rfl,_⟩<;>decide
 case map h1 h2=>rcases h2 with⟨_,_,rfl,_⟩|⟨_,_,_,_,_,_,_,_,rfl,_⟩<;>decide
 case arr h0 h1 h2=>rcases h2 with⟨_,_,rfl,_⟩|⟨_,_,_,_,_,_,_,_,rfl,_⟩<;>decide
 all_goals decide
theorem Dk{x:V}{r:List UInt8}(hk:x.kind=19∨x.kind=20)(hP:Pc x c data)(hX:aH w xb cs)(ho:Nat.blt off cs.length=true)(hne:rb<xb)(hR:Rd w rb (c::(data++r))):
  ah TP 83 [.pointer (some ⟨rb,0,none⟩),.iface 131 (.pointer (some ⟨xb,off,none⟩))] w fun u w'=>u= .nilIface∧aH w' xb (cs.set off (str x.text))∧Rd w' rb r∧am (fun k=>k≠rb∧k≠xb) w w':=by
 have:=hX.lt
 have hne64:=hP.ne64 (by omega)
 refine aR Tryz.func83 ?_
 refine q ?_
 refine Hl rfl (an hR hne64) fun w1 e1=>?_
 refine WL.nil<|WC.condF rfl<|WC.skip<|gq 92 rfl<|q ?_
 replace hR:=hR.m e1
 refine Hm rfl (eu hk hP hR) fun w2 hR e2=>?_
 have:=e1.s
 refine q ?_
 replace hX:=(hX.m e1).m e2
 refine WL.l0 (ce Fo.h rfl rfl rfl hX ho) ?_
 rintro _ w3 ⟨hX,e3,hz3⟩
 refine q ?_
 replace hR:=hR.m e3
 exact aw rfl ⟨rfl,hX,hR,ch⟩
theorem wY{ks:List V}{r:List UInt8}(hks:∀x∈ks,gl x)(hM:iI ks)(hT:∀x∈aP ks,x.kind=19∨x.kind=20)(hEn:bw ks body)(hh:Hd 0xc1 0xd1 c hd ks.length body)(hX:aH w xb cs)(ho:Nat.blt off cs.length=true)(hne:rb<xb)(hR:Rd w rb (c::(hd++(body++r)))):
  ah TP 83 [.pointer (some ⟨rb,0,none⟩),.iface 290 (.pointer (some ⟨xb,off,none⟩))] w fun u w'=>u= .nilIface∧(∃m ss,aH w' xb (cs.set off (.map (some m)))∧w.heap.size≤m∧cT w' m (ss.map xP)∧cC (fun b=>w.heap.size≤b) w' ks ss)∧Rd w' rb r∧am (fun k=>k≠rb∧k≠xb) w w':=by
 have:=hX.lt
 have hne64:c≠64:=by rcases hh with⟨_,_,rfl,_⟩|⟨_,_,_,_,_,_,_,_,rfl,_⟩<;>decide
 refine aR Tryz.func83 ?_
 refine q ?_
 refine Hl rfl (an hR hne64) fun w1 e1=>?_
 refine WL.nil<|WC.condF rfl<|WC.skip<|gq 253 rfl<|q ?_
 replace hR:=hR.m e1
 replace hX:=hX.m e1
 refine cl rfl (xI hks hM hT hEn hh hX ho hne hR) ?_
 rintro v2 w2 ⟨rfl,⟨m,ss,hX,hm,hMo,hV⟩,hR,e2⟩
 refine q ?_
 exact aw rfl ⟨rfl,⟨m,ss,hX,by have:=e1.s;omega,hMo,hV.k (fun b h=>by have:=e1.s;omega)⟩,hR,ch⟩
theorem An{A:Prop}(h:A:=by
 exact⟨i+1,sb,sb,⟨⟨⟨hI _,hI5⟩,by omega,b2,hB2,hR⟩,((((hE.t (e2.t e3)).t e4).t e5))⟩,by omega⟩):A:=h
theorem Ao{A:Prop}(h:A:=by
 unfold ar
 intro N D ac dst pos af g ha
 simp[execOp,ha.ov hx,ha.ov hy,binOp,ht,eqGuard]):A:=h
section
variable {P:Program} {ρ:Fr} {w w0:World} {ty:TypeId} {x y s:Operand}
theorem xN{e z b o:Nat}{i1:Int}{l:Nat}(ht:u6 P t=some (e,z,bs))(hx:ov ρ x=some (.slice (some ⟨b,o,none⟩) n c))(h1:ov ρ lo=some (.int k1 i1))(e1:i1=(l:Int))(hl:l≤n)(hc:l<c):
  ar P (.slice t x (some lo) none none) ty ρ w (.slice (some ⟨b,o+l * z,none⟩) (n-l) (c-l)):=by
 have h:=cK (P:=P) (w:=w) (ty:=ty) ht hx h1 e1 hl
 rw[if_neg (by omega)]at h
 simpa[bV]using h
theorem my(hx:ov ρ x=some .nilFunc)(hy:ov ρ y=some .nilFunc)(ht:∀w:World,(Op.equal xt .nilFunc .nilFunc).run P w= .ok true w):ar P (.binOp .neq xt x y yt) ty ρ w (.bool false):=by
 exact Ao
theorem mz(hx:ov ρ x=some (.func f a b))(hy:ov ρ y=some .nilFunc)(ht:∀w:World,(Op.equal xt (.func f a b) .nilFunc).run P w= .ok false w):ar P (.binOp .neq xt x y yt) ty ρ w (.bool true):=by
 exact Ao
end
theorem yK{P:Program}{a b:Array TypeId}(hu:P.underlying t=some (.func a b c))(d:Nat)(w:World):(Op.equalIn (d+1) t .nilFunc .nilFunc).run P w= .ok true w:=by
 simp[Op.equalIn,underlying,hu]
theorem yL{P:Program}{a b:Array TypeId}(hu:P.underlying t=some (.func a b c))(d:Nat)(f:Fn)(x y:Array Value)(w:World):(Op.equalIn (d+1) t (.func f x y) .nilFunc).run P w= .ok false w:=by
 simp[Op.equalIn,underlying,hu]
theorem FH:TP.underlying 133=some (.func #[] #[78] false):=by kernel_rfl
theorem yI(w:World):(Op.equal 133 .nilFunc .nilFunc).run TP w= .ok true w:=yK FH _ w
theorem yJ(f:Fn)(a b:Array Value)(w:World):(Op.equal 133 (.func f a b) .nilFunc).run TP w= .ok false w:=yL FH _ f a b w
theorem eZ{x:V}{r:List UInt8}(hk:x.kind=5)(hn:x.num<256)(hP:Pc x cu du)(hh:di hd n body)(hR:Rd w rb (0::((cu::du)++(hd++(body++r))))):
  ah TP 81 [.pointer (some ⟨rb,0,none⟩)] w fun u w'=>u= .tuple #[.int .u8 (x.num:Int),.int .i64 (n:Int),.nilIface]∧Rd w' rb (body++r)∧am (Nb rb) w w':=by
 have hw:IntKind.u8.wrap (x.num:Int)=(x.num:Int):=by
  simp only[IntKind.wrap,IntKind.bits,IntKind.signed]
  simp;omega
 refine F9 Tryz.func81 ?_
 have he:am (Nb rb) w w:=am.refl w
 refine WC.seq<|WC.region<|Hq (ap rfl)<|Hq (ap rfl)<|Hq (ap rfl)<|WL.nil<|WC.seq<|WC.region<|Hq (aq rfl)<|Hm rfl (aD hR) fun w1 hR e1=>?_
 refine Hq (aq rfl)<|Hq (aK rfl rfl)<|Hq (aK rfl rfl)<|Hq (ap rfl)<|Hq (ap rfl)<|WL.nil<|WC.seq<|WC.seq<|WC.region<|Hq (aq rfl)<|Hq (aB Fb.h rfl)<|WL.nil<|WC.condF rfl<|WC.skip<|WC.seq<|WC.seq<|WC.region<|Hq (aq rfl)<|Hq (bn rfl rfl)<|WL.nil<|WC.condF rfl<|WC.skip<|WC.seq<|WC.region<|Hq (aq rfl)<|Hm rfl (iC hk (by omega) hP hR) fun w2 hR e2=>?_
 refine Hq (aq rfl)<|Hq (aK rfl rfl)<|Hq (aK rfl rfl)<|Hq (ap rfl)<|Hq (ap rfl)<|WL.nil<|WC.seq<|WC.seq<|WC.region<|Hq (aq rfl)<|Hq (aB Fb.h rfl)<|WL.nil<|WC.condF rfl<|WC.skip<|WC.seq<|WC.region<|Hq (aq rfl)<|Hm rfl (fa hh hR) fun w3 hR e3=>?_
 refine Hq (aq rfl)<|Hq (aK rfl rfl)<|Hq (aK rfl rfl)<|Hq (ap rfl)<|Hq (ap rfl)<|WL.nil<|WC.seq<|WC.region<|Hq (aq rfl)<|Hq (aL Fo.h rfl)<|Hq (aq rfl)<|Hq (aq rfl)<|Hq (ap rfl)<|Hq (ap rfl)<|Hq (ap rfl)<|WL.nil<|WC.ret ?_
 replace he:=((he.t e1).t e2).t e3
 exact DG rfl rfl rfl ⟨by rw[hw];rfl,hR,he⟩
def eV(fs:List (Value×Value)):List Value:=fs.flatMap fun p=>[p.1,p.2]
theorem Ey{a b:Value}(ha:a.oneCell'=true)(hb:b.oneCell'=true):([a,b]:List Value).all (fun v=>v.oneCell')=true:=by simp[ha,hb]
theorem o9:∀ {fs:List (Value×Value)} {i:Nat} (hi:i<fs.length),At w b o (eV fs)→At w b (o+i * 2) [fs[i].1,fs[i].2]:=by
 intro fs i hi h
 have hl:∀(l:List (Value×Value)) (i:Nat) (hi:i<l.length) (j:Nat) (hj:j<2),(eV l)[i * 2+j]?=[l[i].1,l[i].2][j]?:=by
  intro l
  induction l with
  |nil=>intro i hi;simp at hi
  |cons a r ih=>
   intro i hi j hj
   cases i with
   |zero=>match j,hj with
    |0,_=>rfl
    |1,_=>rfl
   |succ i=>
    have:=ih i (by simpa using hi) j hj
    rw[show(i+1) * 2+j=(i * 2+j)+2 by omega]
    simpa[eV]using this
 have hlen:(eV fs).length=fs.length * 2:=by
  unfold eV
  clear h hi
  induction fs with
  |nil=>rfl
  |cons a r ih=>simp only[List.flatMap_cons,List.length_append,List.length_cons,List.length_nil,ih];omega
 intro j hj
 have hj2:j<2:=by simpa using hj
 have:=h (i * 2+j) (by omega)
 rw[← Nat.add_assoc]at this
 rw[this,hl fs i hi j hj2]
theorem g8.first(h:g8 x bs)(hk:x.kind≠0):∃b t,bs=b::t∧b≠64:=by
 cases h with
 |plain h1 h2=>exact⟨_,_,rfl,h2.ne64 hk⟩
 |desc h1 h2 h3=>exact⟨_,_,rfl,by decide⟩
theorem g8.null(h:g8 x bs)(hk:x.kind=0)(hd:x.desc=[]):bs=[64]:=by
 cases h with
 |desc h1 h2 h3=>rw[hd]at h1;cases h1
 |plain h1 h2=>
  obtain⟨k,n,t,ks,o,d⟩:=x
  simp only[V.kind]at hk
  subst hk
  cases h2
  case null=>rfl
  case num s hc=>simp[iS]at hc
structure oz (I:World→Prop) (rb:Nat) (w:World):Prop where
 st:∀w w',I w→am (Nb rb) w w'→I w'
 now:I w
theorem oz.m(h:oz I rb w)(e:am A w w')(hA:∀k,k<w.heap.size→k≠rb→A k:=by(intro k hk1 hk2;first|exact trivial|exact hk2|((try dsimp only[Nb]at hk2⊢);omega))):oz I rb w':=
 ⟨h.st,h.st _ _ h.now (e.k hA)⟩
theorem kT{fs:List (Value×Value)}{ks:List V}{x:V}{T:Nat→Prop}{r:List UInt8}{I:Nat→World→Prop}
  (hfs:fs.length=n) (hsz:n≤1000) (hone:∀p∈fs,p.1.oneCell'=true∧p.2.oneCell'=true) (hle:ks.length≤n) (hk:x.kind=5) (hn:x.num<256) (hP:Pc x cu du) (hh:di hd ks.length body) (hEn:bw ks body)
  (hF:aH w fb (eV fs)) (hTrb:∀k,T k→rb<k) (hTfb:¬T fb) (hrf:rb<fb)
  (hI:∀i w w',I i w→am (Nb rb) w w'→I i w') (hI0:I 0 w)
  (hds:∀y∈ks,y.kind=0→y.desc=[])
  (hstep:∀i (hi:i<ks.length) (hi2:i<fs.length) (wi:World) (bs rest:List UInt8),w.heap.size≤wi.heap.size→I i wi→g8 ks[i] bs→ks[i].kind≠0→Rd wi rb (bs++rest)→
   ah TP 83 [.pointer (some ⟨rb,0,none⟩),fs[i].1] wi fun u w'=>u= .nilIface∧I (i+1) w'∧Rd w' rb rest∧am (fun k=>k≠rb∧¬T k) wi w')
  (hnull:∀i (hi2:i<fs.length),(∀hi:i<ks.length,ks[i].kind=0)→
   (fs[i].2= .nilFunc∧∀wi:World,w.heap.size≤wi.heap.size→I i wi→I (i+1) wi)∨
   (∃f cap,fs[i].2= .func (.func f) #[] (List.toArray cap)∧cH TP f=true∧∀wi:World,w.heap.size≤wi.heap.size→I i wi→ah TP f cap wi fun u w'=>u= .nilIface∧I (i+1) w'∧am (fun k=>¬T k) wi w'))
  (hR:Rd w rb (0::((cu::du)++(hd++(body++r))))):
  ah TP 55 [.pointer (some ⟨rb,0,none⟩),.int .u8 (x.num:Int),.slice (some ⟨fb,0,none⟩) n n] w fun u w'=>u= .nilIface∧I n w'∧Rd w' rb r∧am (fun k=>k≠rb∧¬T k) w w':=by
 have:=hR.lt
 have:=hF.lt
 have hle65:=hh.le
 have hTr:¬T rb:=fun h=>Nat.lt_irrefl _ (hTrb rb h)
 have hTle:∀b,b≤rb→¬T b:=fun b hb h=>by have:=hTrb b h;omega
 have hAfb:fb≠rb∧¬T fb:=⟨by omega,hTfb⟩
 subst hfs
 have hH:oz (I 0) rb w:=⟨hI 0,hI0⟩
 refine aR Tryz.func55 ?_
 have he:am (fun k=>k≠rb∧¬T k) w w:=am.refl w
 refine q ?_
 refine Hm rfl (eZ hk hn hP hh hR) fun w1 hR e1=>?_
 refine q ?_
 try refine Hq (ae (bn rfl rfl) (fI (rfl))) ?_
 refine q ?_
 refine Hq (bu (h:=ks.length) Fo.h rfl rfl rfl hle)<|q ?_
 have:=e1.s
 replace hF:=hF.m e1
 replace hH:=hH.m e1
 replace he:=he.t e1
 refine WC.loop2 (ι:=Nat) [(0,_),(2,_),(6,_),(8,_),(34,_),(35,_)] (fun i=>[(9,.nilIface),(36,.int .i64 (i:Int))]) (fun i wi=>(oz (I i) rb wi∧i≤ks.length∧∃bi,bw (ks.drop i) bi∧Rd wi rb (bi++r))∧am (fun k=>k≠rb∧¬T k) w1 wi) (fun i=>ks.length-i) 0 sb sb (⟨⟨hH,Nat.zero_le _,body,hEn,hR⟩,am.refl _⟩) ?_
 intro i wi1 hh;obtain⟨⟨hH,hik,bi,hB,hR⟩,hE⟩:=hh
 replace hF:=hF.m hE
 replace he:=he.t hE
 have:=hE.s
 rcases Nat.lt_or_ge i ks.length with hi|hi
 ·rw[List.drop_eq_getElem_cons hi]at hB
  cases hB with
  |cons hB1 hB2=>
  rename_i b1 b2
  rw[List.append_assoc]at hR
  have hi2:i<fs.length:=by omega
  have hAt:=o9 hi2 hF.at
  have ho1:=Ey (hone _ (List.getElem_mem hi2)).1 (hone _ (List.getElem_mem hi2)).2
  by_cases hk0:ks[i].kind=0
  ·have hb64:=hB1.null hk0 (hds _ (List.getElem_mem hi) hk0)
   subst hb64
   rcases hnull i hi2 (fun _=>hk0)with⟨hfn,hnx⟩|⟨f,cap,hfn,hbf,hcall⟩
   ·rw[hfn]at hAt ho1
    refine q ?_
    refine Hq (ad Fo.h rfl Xr hAt) ?_
    have hs2:=he.s
    refine Ha fun w2 hb2 e2=>?_
    refine Ho rfl rfl hb2 fun w3 hb2 e3 hz3=>?_
    refine q ?_
    replace hR:=hR.m (e2.t e3)
    refine Hm rfl (fC hR) fun w4 hR e4=>?_
    replace hb2:=hb2.m e4
    refine q ?_
    refine Hq (my rfl rfl yI)<|q ?_
    replace hF:=(hF.m (e2.t e3)).m e4
    replace he:=(he.t (e2.t e3)).t e4
    have hH1:=hH.m ((((am.refl (A:=Nb rb) wi1).t e2).t e3).t e4)
    have hH2:oz (I (i+1)) rb _:=⟨hI _,hnx _ (by have h2:=e2.s;have h3:=e3.s;have h4:=e4.s;omega) hH1.now⟩
    exact⟨i+1,sb,sb,⟨⟨hH2,by omega,b2,hB2,hR⟩,(((hE.t (e2.t e3)).t e4))⟩,by omega⟩
   ·rw[hfn]at hAt ho1
    refine q ?_
    refine Hq (ad Fo.h rfl Xr hAt) ?_
    have hs2:=he.s
    refine Ha fun w2 hb2 e2=>?_
    refine Ho rfl rfl hb2 fun w3 hb2 e3 hz3=>?_
    refine q ?_
    replace hR:=hR.m (e2.t e3)
    refine Hm rfl (fC hR) fun w4 hR e4=>?_
    replace hb2:=hb2.m e4
    refine q ?_
    refine Hq (mz rfl rfl (yJ _ _ _))<|q ?_
    refine WL.l rfl (jL hbf rfl rfl (by rw[List.nil_append];exact hcall _ (by have h2:=e2.s;have h3:=e3.s;have h4:=e4.s;omega) (hH.m ((((am.refl (A:=Nb rb) wi1).t e2).t e3).t e4)).now)) ?_
    rintro v5 w5 ⟨rfl,hI5,e5⟩
    refine q ?_
    replace hR:=hR.m e5
    replace hF:=((hF.m (e2.t e3)).m e4).m e5
    replace he:=((he.t (e2.t e3)).t e4).t e5
    exact An
  ·obtain⟨b0,t0,hbt,hne64⟩:=hB1.first hk0
   have hR0:=hR
   rw[hbt,List.cons_append]at hR
   refine q ?_
   refine Hq (ad Fo.h rfl Xr hAt) ?_
   have hs2:=he.s
   refine Ha fun w2 hb2 e2=>?_
   refine Ho rfl rfl hb2 fun w3 hb2 e3 hz3=>?_
   refine q ?_
   replace hR:=hR.m (e2.t e3)
   refine Hl rfl (an hR hne64) fun w4 e4=>?_
   replace hb2:=hb2.m e4
   refine q ?_
   replace hR:=hR.m e4
   refine cl rfl (hstep i hi hi2 _ _ _ (by have h2:=e2.s;have h3:=e3.s;have h4:=e4.s;omega) (hH.m ((((am.refl (A:=Nb rb) wi1).t e2).t e3).t e4)).now hB1 hk0 (by rw[hbt,List.cons_append];exact hR)) ?_
   rintro v5 w5 ⟨rfl,hI5,hR,e5⟩
   refine q ?_
   exact An
 ·have hil:i=ks.length:=by omega
  subst hil
  rw[List.drop_eq_nil_of_le (Nat.le_refl _)]at hB
  cases hB
  rw[List.nil_append]at hR
  rcases Nat.lt_or_ge ks.length fs.length with hlt|hge
  ·refine q ?_
   refine Hq (xN (l:=ks.length) Fo.h rfl rfl rfl hle hlt)<|q ?_
   refine WC.loop2 (ι:=Nat) [(0,_),(2,_),(6,_),(8,_),(34,_),(35,_),(36,_),(61,_),(62,_)] (fun i=>[(9,.nilIface),(63,.int .i64 (i:Int))]) (fun i wi=>(oz (I (ks.length+i)) rb wi∧i≤fs.length-ks.length)∧am (fun k=>¬T k) wi1 wi) (fun i=>fs.length-ks.length-i) 0 sb sb (⟨⟨hH,Nat.zero_le _⟩,am.refl _⟩) ?_
   intro i wi2 hh;obtain⟨⟨hH,hik2⟩,hE⟩:=hh
   replace hF:=hF.m hE
   replace he:=he.t hE
   have:=hE.s
   rcases Nat.lt_or_ge i (fs.length-ks.length)with hi|hi
   ·have hi2:ks.length+i<fs.length:=by omega
    have hAt:=o9 hi2 hF.at
    rw[show 0+(ks.length+i) * 2=0+ks.length * 2+i * 2 by omega]at hAt
    have ho1:=Ey (hone _ (List.getElem_mem hi2)).1 (hone _ (List.getElem_mem hi2)).2
    rcases hnull (ks.length+i) hi2 (fun h=>absurd h (by omega))with⟨hfn,hnx⟩|⟨f,cap,hfn,hbf,hcall⟩
    ·rw[hfn]at hAt ho1
     refine q ?_
     refine Hq (ad Fo.h rfl Xr hAt) ?_
     have hs2:=he.s
     refine Ha fun w2 hb2 e2=>?_
     refine Ho rfl rfl hb2 fun w3 hb2 e3 hz3=>?_
     refine q ?_
     refine Hq (my rfl rfl yI)<|q ?_
     replace hR:=(hR.m hE).m (e2.t e3)
     replace hF:=hF.m (e2.t e3)
     replace he:=he.t (e2.t e3)
     have hH1:=hH.m (((am.refl (A:=Nb rb) wi2).t e2).t e3)
     have hH2:oz (I (ks.length+(i+1))) rb _:=⟨hI _,hnx _ (by have h2:=e2.s;have h3:=e3.s;omega) hH1.now⟩
     exact⟨i+1,sb,sb,⟨⟨hH2,by omega⟩,((hE.t (e2.t e3)))⟩,by omega⟩
    ·rw[hfn]at hAt ho1
     refine q ?_
     refine Hq (ad Fo.h rfl Xr hAt) ?_
     have hs2:=he.s
     refine Ha fun w2 hb2 e2=>?_
     refine Ho rfl rfl hb2 fun w3 hb2 e3 hz3=>?_
     refine q ?_
     refine Hq (mz rfl rfl (yJ _ _ _))<|q ?_
     refine WL.l rfl (jL hbf rfl rfl (by rw[List.nil_append];exact hcall _ (by have h2:=e2.s;have h3:=e3.s;omega) (hH.m (((am.refl (A:=Nb rb) wi2).t e2).t e3)).now)) ?_
     rintro v4 w4 ⟨rfl,hI5,e4⟩
     refine q ?_
     replace hR:=((hR.m hE).m (e2.t e3)).m e4
     replace hF:=(hF.m (e2.t e3)).m e4
     replace he:=(he.t (e2.t e3)).t e4
     have hH2:oz (I (ks.length+(i+1))) rb _:=⟨hI _,hI5⟩
     exact⟨i+1,sb,sb,⟨⟨hH2,by omega⟩,(((hE.t (e2.t e3)).t e4))⟩,by omega⟩
   ·have hin:ks.length+i=fs.length:=by omega
    refine q ?_
    rw[hin]at hH
    replace hR:=hR.m hE
    exact aw rfl ⟨rfl,hH.now,hR,he⟩
  ·have hee:ks.length=fs.length:=by omega
   refine q ?_
   refine Hq (cK (l:=ks.length) Fo.h rfl rfl rfl hle)<|q ?_
   refine WC.loop2 (ι:=Nat) [(0,_),(2,_),(6,_),(8,_),(34,_),(35,_),(36,_),(61,_),(62,_)] (fun i=>[(9,.nilIface),(63,.int .i64 (i:Int))]) (fun i wi=>(oz (I ks.length) rb wi∧i=0)∧am (fun k=>¬T k) wi1 wi) (fun i=>0) 0 sb sb (⟨⟨hH,rfl⟩,am.refl _⟩) ?_
   intro i wi2 hh;obtain⟨⟨hH,hi0⟩,hE⟩:=hh
   refine q ?_
   rw[hee]at hH
   replace hR:=hR.m hE
   replace he:=he.t hE
   exact aw rfl ⟨rfl,hH.now,hR,he⟩
end Go.Proofs.LL
namespace Go.Proofs.LL
open Go Go.Proofs Go.RowKit
theorem vh{rb:Nat}{fs:List (Value×Value)}{ks:List V}{x:V}{r:List UInt8}{G:Nat→World→Value→Prop}{J:World→Prop}(hJ0:J w)(hJ:∀w1 w2:World,J w1→am (fun k=>k≠rb∧k≠xb) w1 w2→J w2)
  (hfs:fs.length=n) (hsz:n≤1000) (hone:∀p∈fs,p.1.oneCell'=true∧p.2.oneCell'=true) (hle:ks.length≤n) (hk:x.kind=5) (hn:x.num<256) (hP:Pc x cu du) (hh:di hd ks.length body) (hEn:bw ks body)
  (hF:aH w fb (eV fs)) (hrx:rb<xb) (hxf:fb≠xb) (hrf:rb<fb) (hX:aH w xb zs) (hzs:zs.length=n)
  (hds:∀y∈ks,y.kind=0→y.desc=[])
  (hG:∀j v (w1 w2:World),w.heap.size≤w1.heap.size→G j w1 v→am (fun k=>k≠rb∧k≠xb) w1 w2→G j w2 v)
  (hstep:∀j (hj:j<ks.length) (hj2:j<fs.length) (wi:World) (cs:List Value) (bs rest:List UInt8),w.heap.size≤wi.heap.size→aH wi xb cs→cs.length=n→cs[j]?=zs[j]?→g8 ks[j] bs→ks[j].kind≠0→Rd wi rb (bs++rest)→
   ah TP 83 [.pointer (some ⟨rb,0,none⟩),fs[j].1] wi fun u w'=>u= .nilIface∧(∃v,aH w' xb (cs.set j v)∧G j w' v)∧Rd w' rb rest∧am (fun k=>k≠rb∧k≠xb) wi w')
  (hnull:∀j (hj2:j<fs.length),(∀hj:j<ks.length,ks[j].kind=0)→
   (fs[j].2= .nilFunc∧∀(wi:World) (v:Value),w.heap.size≤wi.heap.size→zs[j]?=some v→G j wi v)∨
   (∃f cap,fs[j].2= .func (.func f) #[] (List.toArray cap)∧cH TP f=true∧∀(wi:World) (cs:List Value),w.heap.size≤wi.heap.size→J wi→aH wi xb cs→cs.length=n→ah TP f cap wi fun u w'=>u= .nilIface∧(∃v,aH w' xb (cs.set j v)∧G j w' v)∧am (fun k=>k≠xb) wi w'))
  (hR:Rd w rb (0::((cu::du)++(hd++(body++r))))):
  ah TP 55 [.pointer (some ⟨rb,0,none⟩),.int .u8 (x.num:Int),.slice (some ⟨fb,0,none⟩) n n] w fun u w'=>u= .nilIface∧(∃vs,vs.length=n∧aH w' xb vs∧∀j v,vs[j]?=some v→G j w' v)∧Rd w' rb r∧am (fun k=>k≠rb∧k≠xb) w w':=by
 have key:∀(i:Nat) (wi w':World) (cs:List Value) (v:Value),i<n→(w.heap.size≤wi.heap.size∧J wi)→cs.length=n→(∀j v,j<i→cs[j]?=some v→G j wi v)→(∀j,i≤j→cs[j]?=zs[j]?)→am (fun k=>k≠rb∧k≠xb) wi w'→aH w' xb (cs.set i v)→G i w' v→
   (w.heap.size≤w'.heap.size∧J w')∧∃cs,cs.length=n∧aH w' xb cs∧(∀j v,j<i+1→cs[j]?=some v→G j w' v)∧(∀j,i+1≤j→cs[j]?=zs[j]?):=by
  intro i wi w' cs v hin hwi hl h1 h2 hev hb hg
  refine⟨⟨Nat.le_trans hwi.1 hev.s,hJ _ _ hwi.2 hev⟩,cs.set i v,by simp[hl],hb,fun j u hj hu=>?_,fun j hj=>?_⟩
  ·rw[List.getElem?_set]at hu
   split at hu
   ·rename_i hij
    subst hij
    split at hu
    ·cases hu;exact hg
    ·cases hu
   ·exact hG j u wi w' hwi.1 (h1 j u (by omega) hu) hev
  ·rw[List.getElem?_set_ne (by omega)]
   exact h2 j (by omega)
 have hmain:=kT (T:=fun k=>k=xb) (I:=fun i wi=>(w.heap.size≤wi.heap.size∧J wi)∧∃cs,cs.length=n∧aH wi xb cs∧(∀j v,j<i→cs[j]?=some v→G j wi v)∧(∀j,i≤j→cs[j]?=zs[j]?))
  hfs hsz hone hle hk hn hP hh hEn hF (fun k hk=>by omega) hxf hrf
  (fun i w1 w2 hi he=>by
   obtain⟨h1,cs,h2,h3,h4,h5⟩:=hi
   exact⟨⟨Nat.le_trans h1.1 he.s,hJ _ _ h1.2 (he.k fun k _ h=>h.1)⟩,cs,h2,h3.m he,fun j v hj hv=>hG j v w1 w2 h1.1 (h4 j v hj hv) (he.k fun k _ h=>h.1),h5⟩)
  ⟨⟨Nat.le_refl _,hJ0⟩,zs,hzs,hX,fun j v hj=>absurd hj (by omega),fun j _=>rfl⟩ hds
  (fun i hi hi2 wi bs rest hwi hI hEn hne hRd=>by
   obtain⟨h1,cs,h2,h3,h4,h5⟩:=hI
   refine(hstep i hi hi2 wi cs bs rest hwi h3 h2 (h5 i (Nat.le_refl _)) hEn hne hRd).imp ?_
   rintro u w' ⟨rfl,⟨v,hb,hg⟩,hr,hev⟩
   exact⟨rfl,key i wi w' cs v (by omega) h1 h2 h4 h5 hev hb hg,hr,hev⟩)
  (fun i hi2 hz=>by
   rcases hnull i hi2 hz with⟨h1,h2⟩|⟨f,cap,h1,h2,h3⟩
   ·refine .inl ⟨h1,fun wi hwi hI=>?_⟩
    obtain⟨h4,cs,h5,h6,h7,h8⟩:=hI
    refine⟨h4,cs,h5,h6,fun j v hj hv=>?_,fun j hj=>h8 j (by omega)⟩
    rcases Nat.lt_or_ge j i with hji|hji
    ·exact h7 j v hji hv
    ·have:j=i:=by omega
     subst this
     rw[h8 j (Nat.le_refl _)]at hv
     exact h2 wi v h4.1 hv
   ·refine .inr ⟨f,cap,h1,h2,fun wi hwi hI=>?_⟩
    obtain⟨h4,cs,h5,h6,h7,h8⟩:=hI
    refine(h3 wi cs hwi h4.2 h6 h5).imp ?_
    rintro u w' ⟨rfl,⟨v,hb,hg⟩,hev⟩
    exact⟨rfl,key i wi w' cs v (by omega) h4 h5 h7 h8 (hev.k fun k _ h=>h.2) hb hg,hev⟩)
  hR
 refine hmain.imp ?_
 rintro u w' ⟨h1,⟨h2,cs,h3,h4,h5,h6⟩,h7,h8⟩
 exact⟨h1,⟨cs,h3,h4,fun j v hv=>h5 j v (by have:=(List.getElem?_eq_some_iff.1 hv).1;omega) hv⟩,h7,h8⟩
theorem jQ{fs:List (Value×Value)}{ks:List V}{x:V}{r:List UInt8}{G:Nat→World→Value→Prop}
  (hfs:fs.length=n) (hsz:n≤1000) (hone:∀p∈fs,p.1.oneCell'=true∧p.2.oneCell'=true) (hle:ks.length≤n) (hk:x.kind=5) (hn:x.num<256) (hP:Pc x cu du) (hh:di hd ks.length body) (hEn:bw ks body)
  (hF:aH w fb (eV fs)) (hrx:rb<xb) (hxf:fb≠xb) (hrf:rb<fb) (hX:aH w xb zs) (hzs:zs.length=n)
  (hds:∀y∈ks,y.kind=0→y.desc=[])
  (hG:∀j v (w1 w2:World),w.heap.size≤w1.heap.size→G j w1 v→am (fun k=>k≠rb∧k≠xb) w1 w2→G j w2 v)
  (hstep:∀j (hj:j<ks.length) (hj2:j<fs.length) (wi:World) (cs:List Value) (bs rest:List UInt8),w.heap.size≤wi.heap.size→aH wi xb cs→cs.length=n→cs[j]?=zs[j]?→g8 ks[j] bs→ks[j].kind≠0→Rd wi rb (bs++rest)→
   ah TP 83 [.pointer (some ⟨rb,0,none⟩),fs[j].1] wi fun u w'=>u= .nilIface∧(∃v,aH w' xb (cs.set j v)∧G j w' v)∧Rd w' rb rest∧am (fun k=>k≠rb∧k≠xb) wi w')
  (hnull:∀j (hj2:j<fs.length),(∀hj:j<ks.length,ks[j].kind=0)→
   (fs[j].2= .nilFunc∧∀(wi:World) (v:Value),w.heap.size≤wi.heap.size→zs[j]?=some v→G j wi v)∨
   (∃f cap,fs[j].2= .func (.func f) #[] (List.toArray cap)∧cH TP f=true∧∀(wi:World) (cs:List Value),w.heap.size≤wi.heap.size→aH wi xb cs→cs.length=n→ah TP f cap wi fun u w'=>u= .nilIface∧(∃v,aH w' xb (cs.set j v)∧G j w' v)∧am (fun k=>k≠xb) wi w'))
  (hR:Rd w rb (0::((cu::du)++(hd++(body++r))))):
  ah TP 55 [.pointer (some ⟨rb,0,none⟩),.int .u8 (x.num:Int),.slice (some ⟨fb,0,none⟩) n n] w fun u w'=>u= .nilIface∧(∃vs,vs.length=n∧aH w' xb vs∧∀j v,vs[j]?=some v→G j w' v)∧Rd w' rb r∧am (fun k=>k≠rb∧k≠xb) w w':=
 vh (J:=fun _=>True) trivial (fun _ _ _ _=>trivial) hfs hsz hone hle hk hn hP hh hEn hF hrx hxf hrf hX hzs hds hG hstep (fun j hj2 h0=>(hnull j hj2 h0).imp id fun⟨f,cap,h1,h2,h3⟩=>⟨f,cap,h1,h2,fun wi cs a _ b c=>h3 wi cs a b c⟩) hR
end Go.Proofs.LL
namespace Go.Proofs.LL
open Go Go.Proofs Go.RowKit
set_option maxHeartbeats 4000000
attribute [local irreducible] ar WL WC cq WT WX
theorem iD{cs:List Value}(ho:Nat.blt off cs.length=true):(cs.set off v)[off]?=some v:=by
 have:off<cs.length:=by simpa[Nat.blt_eq]using ho
 simp[this]
theorem AX{x:V}{r:List UInt8}(hk:x.kind=20)(hP:Pc x c data)(hX:aH w xb cs)(ho:Nat.blt off cs.length=true)(hne:rb<xb)(hR:Rd w rb (c::(data++r))):
  ah TP 386 [.pointer (some ⟨xb,off,none⟩),.pointer (some ⟨rb,0,none⟩)] w fun u w'=>u= .nilIface∧aH w' xb (cs.set off (str x.text))∧Rd w' rb r∧am (fun k=>k≠rb∧k≠xb) w w':=by
 have:=hX.lt
 refine aR Tryz.func386 ?_
 refine q ?_
 refine Hm rfl (eu (.inr hk) hP hR) fun w1 hR e1=>?_
 refine q ?_
 replace hX:=hX.m e1
 refine WL.l0 (ce Fo.h rfl rfl rfl hX ho) ?_
 rintro _ w2 ⟨hX,e2,hz2⟩
 refine q ?_
 replace hR:=hR.m e2
 exact aw rfl ⟨rfl,hX,hR,ch⟩
theorem A8{x:V}{r:List UInt8}(hk:x.kind=20)(hP:Pc x c data)(hX:aH w xb cs)(ho:Nat.blt off cs.length=true)(hne:rb<xb)(hR:Rd w rb (c::(data++r))):
  ah TP 83 [.pointer (some ⟨rb,0,none⟩),.iface 458 (.pointer (some ⟨xb,off,none⟩))] w fun u w'=>u= .nilIface∧aH w' xb (cs.set off (str x.text))∧Rd w' rb r∧am (fun k=>k≠rb∧k≠xb) w w':=by
 have:=hX.lt
 have hne64:=hP.ne64 (by omega)
 refine aR Tryz.func83 ?_
 refine q ?_
 refine Hl rfl (an hR hne64) fun w1 e1=>?_
 refine WL.nil<|WC.condF rfl<|WC.skip<|gq 281 rfl<|q ?_
 replace hR:=hR.m e1
 replace hX:=hX.m e1
 refine WL.l rfl (dI Fo.h Fb.h rfl rfl (AX hk hP hX ho hne hR)) ?_
 rintro v2 w2 ⟨rfl,hX,hR,e2⟩
 refine q ?_
 exact aw rfl ⟨rfl,hX,hR,ch⟩
end Go.Proofs.LL
