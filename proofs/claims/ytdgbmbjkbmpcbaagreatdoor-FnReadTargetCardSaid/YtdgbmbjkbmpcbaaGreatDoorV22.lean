/- Own laws of frames, operations and loops, and contracts of functions of the program. Conditions: those that each theorem states. -/
import Derived.Test.YtdgbmbjkbmpcbaaGreatDoorV21
set_option linter.all false
set_option maxRecDepth 20000
namespace Go.Proofs.LL
open Go Go.Proofs Go.RowKit
set_option maxHeartbeats 4000000
attribute [local irreducible] RunOp WL WC WDL WT WX
theorem Pc.ne64{x:V}{c:UInt8}{b:List UInt8}(h:Pc x c b)(hk:x.kind≠0):c≠64:=by
 cases h
 case null=>exact absurd rfl hk
 case num s hc=>rcases cn hc with⟨_,rfl,_⟩|⟨_,rfl,_⟩|⟨_,rfl,_⟩|⟨_,rfl,_⟩|⟨_,rfl,_⟩|⟨_,rfl,_⟩|⟨_,rfl,_⟩|⟨_,rfl,_⟩|⟨_,rfl,_⟩|⟨_,rfl,_⟩|⟨_,rfl,_⟩<;>decide
 case list h1 h2=>rcases h2 with⟨_,_,rfl,_⟩|⟨_,_,_,_,_,_,_,_,rfl,_⟩<;>decide
 case map h1 h2=>rcases h2 with⟨_,_,rfl,_⟩|⟨_,_,_,_,_,_,_,_,rfl,_⟩<;>decide
 case arr h0 h1 h2=>rcases h2 with⟨_,_,rfl,_⟩|⟨_,_,_,_,_,_,_,_,rfl,_⟩<;>decide
 all_goals decide
theorem o9{rb xb off:Nat}{x:V}{c:UInt8}{data r:List UInt8}{w:World}{cs:List Value}(hk:x.kind=19∨x.kind=20)(hP:Pc x c data)(hX:Blk w xb cs)(ho:Nat.blt off cs.length=true)(hne:rb<xb)(hR:Rd w rb (c::(data++r))):
  Does TP 83 [.pointer (some ⟨rb,0,none⟩),.iface 131 (.pointer (some ⟨xb,off,none⟩))] w fun u w'=>u= .nilIface∧Blk w' xb (cs.set off (str x.text))∧Rd w' rb r∧Evo (fun k=>k≠rb∧k≠xb) w w':=by
 have hr0:=hX.lt
 have hne64:=hP.ne64 (by omega)
 refine do1 Tryz.func83 ?_
 refine q ?_
 refine cl rfl (tryReadNull_no hR hne64) ?_
 rintro v1 w1 ⟨rfl,e1⟩
 refine WL.nil ?_
 refine WC.condF rfl ?_
 refine WC.skip ?_
 refine gq 92 rfl ?_
 refine q ?_
 replace hR:=hR.mono e1
 refine cl rfl (readString_pc hk hP hR) ?_
 rintro v2 w2 ⟨rfl,hR,e2⟩
 have hq:=e1.size
 refine q ?_
 replace hX:=(hX.mono e1).mono e2
 refine WL.l0 (l_store Fo.h rfl rfl rfl hX ho) ?_
 rintro _ w3 ⟨hX,e3,hz3⟩
 refine q ?_
 replace hR:=hR.mono e3
 exact fin1 rfl ⟨rfl,hX,hR,ch⟩
theorem l6{A:Prop}(h:A:=by
 exact⟨i+1,sb,sb,⟨⟨⟨hI _,hI5⟩,by omega,b2,hB2,hR⟩,((((hE.then (e2.then e3)).then e4).then e5))⟩,by omega⟩):A:=h
theorem mP{A:Prop}(h:A:=by
 unfold RunOp
 intro N D ac dst pos af g ha
 simp[execOp,ha.ov hx,ha.ov hy,binOp,ht,eqGuard]):A:=h
section
variable {P:Program} {ρ:Fr} {w w0:World} {ty:TypeId} {x y s:Operand}
theorem kF{t e z bs n c b o:Nat}{lo:Operand}{k1:IntKind}{i1:Int}{l:Nat}(ht:slT P t=some (e,z,bs))(hx:ov ρ x=some (.slice (some ⟨b,o,none⟩) n c))(h1:ov ρ lo=some (.int k1 i1))(e1:i1=(l:Int))(hl:l≤n)(hc:l<c):
  RunOp P (.slice t x (some lo) none none) ty ρ w (.slice (some ⟨b,o+l * z,none⟩) (n-l) (c-l)):=by
 have h:=r_slicel (P:=P) (w:=w) (ty:=ty) ht hx h1 e1 hl
 rw[if_neg (by omega)]at h
 simpa[Addr_add]using h
theorem dZ{xt yt:TypeId}(hx:ov ρ x=some .nilFunc)(hy:ov ρ y=some .nilFunc)(ht:∀w:World,(Op.equal xt .nilFunc .nilFunc).run P w= .ok true w):RunOp P (.binOp .neq xt x y yt) ty ρ w (.bool false):=by
 exact mP
theorem ez{xt yt:TypeId}{f:Fn}{a b:Array Value}(hx:ov ρ x=some (.func f a b))(hy:ov ρ y=some .nilFunc)(ht:∀w:World,(Op.equal xt (.func f a b) .nilFunc).run P w= .ok false w):RunOp P (.binOp .neq xt x y yt) ty ρ w (.bool true):=by
 exact mP
end
theorem mr{P:Program}{t:TypeId}{a b:Array TypeId}{c:Bool}(hu:P.underlying t=some (.func a b c))(d:Nat)(w:World):(Op.equalIn (d+1) t .nilFunc .nilFunc).run P w= .ok true w:=by
 simp[Op.equalIn,underlying,hu]
theorem kS{P:Program}{t:TypeId}{a b:Array TypeId}{c:Bool}(hu:P.underlying t=some (.func a b c))(d:Nat)(f:Fn)(x y:Array Value)(w:World):(Op.equalIn (d+1) t (.func f x y) .nilFunc).run P w= .ok false w:=by
 simp[Op.equalIn,underlying,hu]
theorem ro:TP.underlying 133=some (.func #[] #[78] false):=by kernel_rfl
theorem mx(w:World):(Op.equal 133 .nilFunc .nilFunc).run TP w= .ok true w:=mr ro _ w
theorem k7(f:Fn)(a b:Array Value)(w:World):(Op.equal 133 (.func f a b) .nilFunc).run TP w= .ok false w:=kS ro _ f a b w
theorem bY{rb n:Nat}{x:V}{cu:UInt8}{du hd body r:List UInt8}{w:World}(hk:x.kind=5)(hn:x.num<256)(hP:Pc x cu du)(hh:LstH hd n body)(hR:Rd w rb (0::((cu::du)++(hd++(body++r))))):
  Does TP 81 [.pointer (some ⟨rb,0,none⟩)] w fun u w'=>u= .tuple #[.int .u8 (x.num:Int),.int .i64 (n:Int),.nilIface]∧Rd w' rb (body++r)∧Evo (Nb rb) w w':=by
 have hw:IntKind.u8.wrap (x.num:Int)=(x.num:Int):=by
  simp only[IntKind.wrap,IntKind.bits,IntKind.signed]
  simp;omega
 refine do3 Tryz.func81 ?_
 have he:Evo (Nb rb) w w:=Evo.refl w
 refine WC.seq<|WC.region ?_
 refine WL.q rfl (r_assign rfl) ?_
 refine WL.q rfl (r_assign rfl) ?_
 refine WL.q rfl (r_assign rfl) ?_
 refine WL.nil ?_
 refine WC.seq<|WC.region ?_
 refine WL.q rfl (r_move rfl) ?_
 refine cl rfl (readType_ok hR) ?_
 rintro v1 w1 ⟨rfl,hR,e1⟩
 refine WL.q rfl (r_move rfl) ?_
 refine WL.q rfl (r_extract rfl rfl) ?_
 refine WL.q rfl (r_extract rfl rfl) ?_
 refine WL.q rfl (r_assign rfl) ?_
 refine WL.q rfl (r_assign rfl) ?_
 refine WL.nil ?_
 refine WC.seq<|WC.seq<|WC.region ?_
 refine WL.q rfl (r_move rfl) ?_
 refine WL.q rfl (r_ifneNil Fb.h rfl) ?_
 refine WL.nil ?_
 refine WC.condF rfl ?_
 refine WC.skip ?_
 refine WC.seq<|WC.seq<|WC.region ?_
 refine WL.q rfl (r_move rfl) ?_
 refine WL.q rfl (r_neq rfl rfl) ?_
 refine WL.nil ?_
 refine WC.condF rfl ?_
 refine WC.skip ?_
 refine WC.seq<|WC.region ?_
 refine WL.q rfl (r_move rfl) ?_
 refine cl rfl (readUlong_pc hk (by omega) hP hR) ?_
 rintro v2 w2 ⟨rfl,hR,e2⟩
 refine WL.q rfl (r_move rfl) ?_
 refine WL.q rfl (r_extract rfl rfl) ?_
 refine WL.q rfl (r_extract rfl rfl) ?_
 refine WL.q rfl (r_assign rfl) ?_
 refine WL.q rfl (r_assign rfl) ?_
 refine WL.nil ?_
 refine WC.seq<|WC.seq<|WC.region ?_
 refine WL.q rfl (r_move rfl) ?_
 refine WL.q rfl (r_ifneNil Fb.h rfl) ?_
 refine WL.nil ?_
 refine WC.condF rfl ?_
 refine WC.skip ?_
 refine WC.seq<|WC.region ?_
 refine WL.q rfl (r_move rfl) ?_
 refine cl rfl (readListHeader_ok hh hR) ?_
 rintro v3 w3 ⟨rfl,hR,e3⟩
 refine WL.q rfl (r_move rfl) ?_
 refine WL.q rfl (r_extract rfl rfl) ?_
 refine WL.q rfl (r_extract rfl rfl) ?_
 refine WL.q rfl (r_assign rfl) ?_
 refine WL.q rfl (r_assign rfl) ?_
 refine WL.nil ?_
 refine WC.seq<|WC.region ?_
 refine WL.q rfl (r_move rfl) ?_
 refine WL.q rfl (r_cvInt Fo.h rfl) ?_
 refine WL.q rfl (r_move rfl) ?_
 refine WL.q rfl (r_move rfl) ?_
 refine WL.q rfl (r_assign rfl) ?_
 refine WL.q rfl (r_assign rfl) ?_
 refine WL.q rfl (r_assign rfl) ?_
 refine WL.nil ?_
 refine WC.ret ?_
 replace he:=((he.then e1).then e2).then e3
 exact fin3 rfl rfl rfl ⟨by rw[hw];rfl,hR,he⟩
def cM(fs:List (Value×Value)):List Value:=fs.flatMap fun p=>[p.1,p.2]
theorem rt{a b:Value}(ha:a.oneCell'=true)(hb:b.oneCell'=true):([a,b]:List Value).all (fun v=>v.oneCell')=true:=by simp[ha,hb]
theorem fP{w:World}{b o:Nat}:∀ {fs:List (Value×Value)} {i:Nat} (hi:i<fs.length),At w b o (cM fs)→At w b (o+i * 2) [fs[i].1,fs[i].2]:=by
 intro fs i hi h
 have hl:∀(l:List (Value×Value)) (i:Nat) (hi:i<l.length) (j:Nat) (hj:j<2),(cM l)[i * 2+j]?=[l[i].1,l[i].2][j]?:=by
  intro l
  induction l with
  |nil=>intro i hi;simp at hi
  |cons a r ih=>
   intro i hi j hj
   cases i with
   |zero=>match j,hj with
    |0,_=>rfl
    |1,_=>rfl
   |succ i=>
    have:=ih i (by simpa using hi) j hj
    rw[show(i+1) * 2+j=(i * 2+j)+2 by omega]
    simpa[cM]using this
 have hlen:(cM fs).length=fs.length * 2:=by
  unfold cM
  clear h hi
  induction fs with
  |nil=>rfl
  |cons a r ih=>simp only[List.flatMap_cons,List.length_append,List.length_cons,List.length_nil,ih];omega
 intro j hj
 have hj2:j<2:=by simpa using hj
 have:=h (i * 2+j) (by omega)
 rw[← Nat.add_assoc]at this
 rw[this,hl fs i hi j hj2]
theorem Enc.first{x:V}{bs:List UInt8}(h:Enc x bs)(hk:x.kind≠0):∃b t,bs=b::t∧b≠64:=by
 cases h with
 |plain h1 h2=>exact⟨_,_,rfl,h2.ne64 hk⟩
 |desc h1 h2 h3=>exact⟨_,_,rfl,by decide⟩
theorem Enc.null{x:V}{bs:List UInt8}(h:Enc x bs)(hk:x.kind=0)(hd:x.desc=[]):bs=[64]:=by
 cases h with
 |desc h1 h2 h3=>rw[hd]at h1;cases h1
 |plain h1 h2=>
  obtain⟨k,n,t,ks,o,d⟩:=x
  simp only[V.kind]at hk
  subst hk
  cases h2
  case null=>rfl
  case num s hc=>simp[numC]at hc
structure fz (I:World→Prop) (rb:Nat) (w:World):Prop where
 st:∀w w',I w→Evo (Nb rb) w w'→I w'
 now:I w
theorem fz.mono{I:World→Prop}{rb:Nat}{w w':World}{A:Nat→Prop}(h:fz I rb w)(e:Evo A w w')(hA:∀k,k<w.heap.size→k≠rb→A k:=by(intro k hk1 hk2;first|exact trivial|exact hk2|((try dsimp only[Nb]at hk2⊢);omega))):fz I rb w':=
 ⟨h.st,h.st _ _ h.now (e.weaken hA)⟩
theorem gb{rb fb n:Nat}{fs:List (Value×Value)}{ks:List V}{x:V}{T:Nat→Prop}{cu:UInt8}{du hd body r:List UInt8}{w:World}{I:Nat→World→Prop}
  (hfs:fs.length=n) (hsz:n≤1000) (hone:∀p∈fs,p.1.oneCell'=true∧p.2.oneCell'=true) (hle:ks.length≤n) (hk:x.kind=5) (hn:x.num<256) (hP:Pc x cu du) (hh:LstH hd ks.length body) (hEn:EncL ks body)
  (hF:Blk w fb (cM fs)) (hTrb:∀k,T k→rb<k) (hTfb:¬T fb) (hrf:rb<fb)
  (hI:∀i w w',I i w→Evo (Nb rb) w w'→I i w') (hI0:I 0 w)
  (hds:∀y∈ks,y.kind=0→y.desc=[])
  (hstep:∀i (hi:i<ks.length) (hi2:i<fs.length) (wi:World) (bs rest:List UInt8),w.heap.size≤wi.heap.size→I i wi→Enc ks[i] bs→ks[i].kind≠0→Rd wi rb (bs++rest)→
   Does TP 83 [.pointer (some ⟨rb,0,none⟩),fs[i].1] wi fun u w'=>u= .nilIface∧I (i+1) w'∧Rd w' rb rest∧Evo (fun k=>k≠rb∧¬T k) wi w')
  (hnull:∀i (hi2:i<fs.length),(∀hi:i<ks.length,ks[i].kind=0)→
   (fs[i].2= .nilFunc∧∀wi:World,w.heap.size≤wi.heap.size→I i wi→I (i+1) wi)∨
   (∃f cap,fs[i].2= .func (.func f) #[] (List.toArray cap)∧bodyB TP f=true∧∀wi:World,w.heap.size≤wi.heap.size→I i wi→Does TP f cap wi fun u w'=>u= .nilIface∧I (i+1) w'∧Evo (fun k=>¬T k) wi w'))
  (hR:Rd w rb (0::((cu::du)++(hd++(body++r))))):
  Does TP 55 [.pointer (some ⟨rb,0,none⟩),.int .u8 (x.num:Int),.slice (some ⟨fb,0,none⟩) n n] w fun u w'=>u= .nilIface∧I n w'∧Rd w' rb r∧Evo (fun k=>k≠rb∧¬T k) w w':=by
 have hr0:=hR.lt
 have hf0:=hF.lt
 have hle65:=hh.le
 have hTr:¬T rb:=fun h=>Nat.lt_irrefl _ (hTrb rb h)
 have hTle:∀b,b≤rb→¬T b:=fun b hb h=>by have:=hTrb b h;omega
 have hAfb:fb≠rb∧¬T fb:=⟨by omega,hTfb⟩
 subst hfs
 have hH:fz (I 0) rb w:=⟨hI 0,hI0⟩
 refine do1 Tryz.func55 ?_
 have he:Evo (fun k=>k≠rb∧¬T k) w w:=Evo.refl w
 refine q ?_
 refine cl rfl (bY hk hn hP hh hR) ?_
 rintro v1 w1 ⟨rfl,hR,e1⟩
 refine q ?_
 try refine WL.q rfl (r_cmp (r_neq rfl rfl) (bneF (rfl))) ?_
 refine q ?_
 refine WL.q rfl (r_sliceh (h:=ks.length) Fo.h rfl rfl rfl hle) ?_
 refine q ?_
 have hq1:=e1.size
 replace hF:=hF.mono e1
 replace hH:=hH.mono e1
 replace he:=he.then e1
 refine WC.loop2 (ι:=Nat) [(0,_),(2,_),(6,_),(8,_),(34,_),(35,_)] (fun i=>[(9,.nilIface),(36,.int .i64 (i:Int))]) (fun i wi=>(fz (I i) rb wi∧i≤ks.length∧∃bi,EncL (ks.drop i) bi∧Rd wi rb (bi++r))∧Evo (fun k=>k≠rb∧¬T k) w1 wi) (fun i=>ks.length-i) 0 sb sb (⟨⟨hH,Nat.zero_le _,body,hEn,hR⟩,Evo.refl _⟩) ?_
 intro i wi1 hh;obtain⟨⟨hH,hik,bi,hB,hR⟩,hE⟩:=hh
 replace hF:=hF.mono hE
 replace he:=he.then hE
 have hwi:=hE.size
 rcases Nat.lt_or_ge i ks.length with hi|hi
 ·rw[List.drop_eq_getElem_cons hi]at hB
  cases hB with
  |cons hB1 hB2=>
  rename_i b1 b2
  rw[List.append_assoc]at hR
  have hi2:i<fs.length:=by omega
  have hAt:=fP hi2 hF.at
  have ho1:=rt (hone _ (List.getElem_mem hi2)).1 (hone _ (List.getElem_mem hi2)).2
  by_cases hk0:ks[i].kind=0
  ·have hb64:=hB1.null hk0 (hds _ (List.getElem_mem hi) hk0)
   subst hb64
   rcases hnull i hi2 (fun _=>hk0)with⟨hfn,hnx⟩|⟨f,cap,hfn,hbf,hcall⟩
   ·rw[hfn]at hAt ho1
    refine q ?_
    refine WL.q rfl (r_loadAgg Fo.h rfl (Ext.refl _) hAt) ?_
    have hs2:=he.size
    refine al ?_
    rintro _ w2 ⟨rfl,hb2,e2⟩
    refine WL.l0 (lsw rfl rfl hb2) ?_
    rintro _ w3 ⟨hb2,e3,hz3⟩
    refine q ?_
    replace hR:=hR.mono (e2.then e3)
    refine cl rfl (tryReadNull_yes hR) ?_
    rintro v4 w4 ⟨rfl,hR,e4⟩
    replace hb2:=hb2.mono e4
    refine q ?_
    refine WL.q rfl (dZ rfl rfl mx) ?_
    refine q ?_
    replace hF:=(hF.mono (e2.then e3)).mono e4
    replace he:=(he.then (e2.then e3)).then e4
    have hH1:=hH.mono ((((Evo.refl (A:=Nb rb) wi1).then e2).then e3).then e4)
    have hH2:fz (I (i+1)) rb _:=⟨hI _,hnx _ (by have h2:=e2.size;have h3:=e3.size;have h4:=e4.size;omega) hH1.now⟩
    exact⟨i+1,sb,sb,⟨⟨hH2,by omega,b2,hB2,hR⟩,(((hE.then (e2.then e3)).then e4))⟩,by omega⟩
   ·rw[hfn]at hAt ho1
    refine q ?_
    refine WL.q rfl (r_loadAgg Fo.h rfl (Ext.refl _) hAt) ?_
    have hs2:=he.size
    refine al ?_
    rintro _ w2 ⟨rfl,hb2,e2⟩
    refine WL.l0 (lsw rfl rfl hb2) ?_
    rintro _ w3 ⟨hb2,e3,hz3⟩
    refine q ?_
    replace hR:=hR.mono (e2.then e3)
    refine cl rfl (tryReadNull_yes hR) ?_
    rintro v4 w4 ⟨rfl,hR,e4⟩
    replace hb2:=hb2.mono e4
    refine q ?_
    refine WL.q rfl (ez rfl rfl (k7 _ _ _)) ?_
    refine q ?_
    refine WL.l rfl (l_callv hbf rfl rfl (by rw[List.nil_append];exact hcall _ (by have h2:=e2.size;have h3:=e3.size;have h4:=e4.size;omega) (hH.mono ((((Evo.refl (A:=Nb rb) wi1).then e2).then e3).then e4)).now)) ?_
    rintro v5 w5 ⟨rfl,hI5,e5⟩
    refine q ?_
    replace hR:=hR.mono e5
    replace hF:=((hF.mono (e2.then e3)).mono e4).mono e5
    replace he:=((he.then (e2.then e3)).then e4).then e5
    exact l6
  ·obtain⟨b0,t0,hbt,hne64⟩:=hB1.first hk0
   have hR0:=hR
   rw[hbt,List.cons_append]at hR
   refine q ?_
   refine WL.q rfl (r_loadAgg Fo.h rfl (Ext.refl _) hAt) ?_
   have hs2:=he.size
   refine al ?_
   rintro _ w2 ⟨rfl,hb2,e2⟩
   refine WL.l0 (lsw rfl rfl hb2) ?_
   rintro _ w3 ⟨hb2,e3,hz3⟩
   refine q ?_
   replace hR:=hR.mono (e2.then e3)
   refine cl rfl (tryReadNull_no hR hne64) ?_
   rintro v4 w4 ⟨rfl,e4⟩
   replace hb2:=hb2.mono e4
   refine q ?_
   replace hR:=hR.mono e4
   refine cl rfl (hstep i hi hi2 _ _ _ (by have h2:=e2.size;have h3:=e3.size;have h4:=e4.size;omega) (hH.mono ((((Evo.refl (A:=Nb rb) wi1).then e2).then e3).then e4)).now hB1 hk0 (by rw[hbt,List.cons_append];exact hR)) ?_
   rintro v5 w5 ⟨rfl,hI5,hR,e5⟩
   refine q ?_
   exact l6
 ·have hil:i=ks.length:=by omega
  subst hil
  rw[List.drop_eq_nil_of_le (Nat.le_refl _)]at hB
  cases hB
  rw[List.nil_append]at hR
  rcases Nat.lt_or_ge ks.length fs.length with hlt|hge
  ·refine q ?_
   refine WL.q rfl (kF (l:=ks.length) Fo.h rfl rfl rfl hle hlt) ?_
   refine q ?_
   refine WC.loop2 (ι:=Nat) [(0,_),(2,_),(6,_),(8,_),(34,_),(35,_),(36,_),(61,_),(62,_)] (fun i=>[(9,.nilIface),(63,.int .i64 (i:Int))]) (fun i wi=>(fz (I (ks.length+i)) rb wi∧i≤fs.length-ks.length)∧Evo (fun k=>¬T k) wi1 wi) (fun i=>fs.length-ks.length-i) 0 sb sb (⟨⟨hH,Nat.zero_le _⟩,Evo.refl _⟩) ?_
   intro i wi2 hh;obtain⟨⟨hH,hik2⟩,hE⟩:=hh
   replace hF:=hF.mono hE
   replace he:=he.then hE
   have hwi2:=hE.size
   rcases Nat.lt_or_ge i (fs.length-ks.length)with hi|hi
   ·have hi2:ks.length+i<fs.length:=by omega
    have hAt:=fP hi2 hF.at
    rw[show 0+(ks.length+i) * 2=0+ks.length * 2+i * 2 by omega]at hAt
    have ho1:=rt (hone _ (List.getElem_mem hi2)).1 (hone _ (List.getElem_mem hi2)).2
    rcases hnull (ks.length+i) hi2 (fun h=>absurd h (by omega))with⟨hfn,hnx⟩|⟨f,cap,hfn,hbf,hcall⟩
    ·rw[hfn]at hAt ho1
     refine q ?_
     refine WL.q rfl (r_loadAgg Fo.h rfl (Ext.refl _) hAt) ?_
     have hs2:=he.size
     refine al ?_
     rintro _ w2 ⟨rfl,hb2,e2⟩
     refine WL.l0 (lsw rfl rfl hb2) ?_
     rintro _ w3 ⟨hb2,e3,hz3⟩
     refine q ?_
     refine WL.q rfl (dZ rfl rfl mx) ?_
     refine q ?_
     replace hR:=(hR.mono hE).mono (e2.then e3)
     replace hF:=hF.mono (e2.then e3)
     replace he:=he.then (e2.then e3)
     have hH1:=hH.mono (((Evo.refl (A:=Nb rb) wi2).then e2).then e3)
     have hH2:fz (I (ks.length+(i+1))) rb _:=⟨hI _,hnx _ (by have h2:=e2.size;have h3:=e3.size;omega) hH1.now⟩
     exact⟨i+1,sb,sb,⟨⟨hH2,by omega⟩,((hE.then (e2.then e3)))⟩,by omega⟩
    ·rw[hfn]at hAt ho1
     refine q ?_
     refine WL.q rfl (r_loadAgg Fo.h rfl (Ext.refl _) hAt) ?_
     have hs2:=he.size
     refine al ?_
     rintro _ w2 ⟨rfl,hb2,e2⟩
     refine WL.l0 (lsw rfl rfl hb2) ?_
     rintro _ w3 ⟨hb2,e3,hz3⟩
     refine q ?_
     refine WL.q rfl (ez rfl rfl (k7 _ _ _)) ?_
     refine q ?_
     refine WL.l rfl (l_callv hbf rfl rfl (by rw[List.nil_append];exact hcall _ (by have h2:=e2.size;have h3:=e3.size;omega) (hH.mono (((Evo.refl (A:=Nb rb) wi2).then e2).then e3)).now)) ?_
     rintro v4 w4 ⟨rfl,hI5,e4⟩
     refine q ?_
     replace hR:=((hR.mono hE).mono (e2.then e3)).mono e4
     replace hF:=(hF.mono (e2.then e3)).mono e4
     replace he:=(he.then (e2.then e3)).then e4
     have hH2:fz (I (ks.length+(i+1))) rb _:=⟨hI _,hI5⟩
     exact⟨i+1,sb,sb,⟨⟨hH2,by omega⟩,(((hE.then (e2.then e3)).then e4))⟩,by omega⟩
   ·have hin:ks.length+i=fs.length:=by omega
    refine q ?_
    rw[hin]at hH
    replace hR:=hR.mono hE
    exact fin1 rfl ⟨rfl,hH.now,hR,he⟩
  ·have hee:ks.length=fs.length:=by omega
   refine q ?_
   refine WL.q rfl (r_slicel (l:=ks.length) Fo.h rfl rfl rfl hle) ?_
   refine q ?_
   refine WC.loop2 (ι:=Nat) [(0,_),(2,_),(6,_),(8,_),(34,_),(35,_),(36,_),(61,_),(62,_)] (fun i=>[(9,.nilIface),(63,.int .i64 (i:Int))]) (fun i wi=>(fz (I ks.length) rb wi∧i=0)∧Evo (fun k=>¬T k) wi1 wi) (fun i=>0) 0 sb sb (⟨⟨hH,rfl⟩,Evo.refl _⟩) ?_
   intro i wi2 hh;obtain⟨⟨hH,hi0⟩,hE⟩:=hh
   refine q ?_
   rw[hee]at hH
   replace hR:=hR.mono hE
   replace he:=he.then hE
   exact fin1 rfl ⟨rfl,hH.now,hR,he⟩
end Go.Proofs.LL
namespace Go.Proofs.LL
open Go Go.Proofs Go.RowKit
theorem jn{rb xb fb n:Nat}{fs:List (Value×Value)}{ks:List V}{x:V}{cu:UInt8}{du hd body r:List UInt8}{w:World}{zs:List Value}{G:Nat→World→Value→Prop}{J:World→Prop}(hJ0:J w)(hJ:∀w1 w2:World,J w1→Evo (fun k=>k≠rb∧k≠xb) w1 w2→J w2)
  (hfs:fs.length=n) (hsz:n≤1000) (hone:∀p∈fs,p.1.oneCell'=true∧p.2.oneCell'=true) (hle:ks.length≤n) (hk:x.kind=5) (hn:x.num<256) (hP:Pc x cu du) (hh:LstH hd ks.length body) (hEn:EncL ks body)
  (hF:Blk w fb (cM fs)) (hrx:rb<xb) (hxf:fb≠xb) (hrf:rb<fb) (hX:Blk w xb zs) (hzs:zs.length=n)
  (hds:∀y∈ks,y.kind=0→y.desc=[])
  (hG:∀j v (w1 w2:World),w.heap.size≤w1.heap.size→G j w1 v→Evo (fun k=>k≠rb∧k≠xb) w1 w2→G j w2 v)
  (hstep:∀j (hj:j<ks.length) (hj2:j<fs.length) (wi:World) (cs:List Value) (bs rest:List UInt8),w.heap.size≤wi.heap.size→Blk wi xb cs→cs.length=n→cs[j]?=zs[j]?→Enc ks[j] bs→ks[j].kind≠0→Rd wi rb (bs++rest)→
   Does TP 83 [.pointer (some ⟨rb,0,none⟩),fs[j].1] wi fun u w'=>u= .nilIface∧(∃v,Blk w' xb (cs.set j v)∧G j w' v)∧Rd w' rb rest∧Evo (fun k=>k≠rb∧k≠xb) wi w')
  (hnull:∀j (hj2:j<fs.length),(∀hj:j<ks.length,ks[j].kind=0)→
   (fs[j].2= .nilFunc∧∀(wi:World) (v:Value),w.heap.size≤wi.heap.size→zs[j]?=some v→G j wi v)∨
   (∃f cap,fs[j].2= .func (.func f) #[] (List.toArray cap)∧bodyB TP f=true∧∀(wi:World) (cs:List Value),w.heap.size≤wi.heap.size→J wi→Blk wi xb cs→cs.length=n→Does TP f cap wi fun u w'=>u= .nilIface∧(∃v,Blk w' xb (cs.set j v)∧G j w' v)∧Evo (fun k=>k≠xb) wi w'))
  (hR:Rd w rb (0::((cu::du)++(hd++(body++r))))):
  Does TP 55 [.pointer (some ⟨rb,0,none⟩),.int .u8 (x.num:Int),.slice (some ⟨fb,0,none⟩) n n] w fun u w'=>u= .nilIface∧(∃vs,vs.length=n∧Blk w' xb vs∧∀j v,vs[j]?=some v→G j w' v)∧Rd w' rb r∧Evo (fun k=>k≠rb∧k≠xb) w w':=by
 have key:∀(i:Nat) (wi w':World) (cs:List Value) (v:Value),i<n→(w.heap.size≤wi.heap.size∧J wi)→cs.length=n→(∀j v,j<i→cs[j]?=some v→G j wi v)→(∀j,i≤j→cs[j]?=zs[j]?)→Evo (fun k=>k≠rb∧k≠xb) wi w'→Blk w' xb (cs.set i v)→G i w' v→
   (w.heap.size≤w'.heap.size∧J w')∧∃cs,cs.length=n∧Blk w' xb cs∧(∀j v,j<i+1→cs[j]?=some v→G j w' v)∧(∀j,i+1≤j→cs[j]?=zs[j]?):=by
  intro i wi w' cs v hin hwi hl h1 h2 hev hb hg
  refine⟨⟨Nat.le_trans hwi.1 hev.size,hJ _ _ hwi.2 hev⟩,cs.set i v,by simp[hl],hb,fun j u hj hu=>?_,fun j hj=>?_⟩
  ·rw[List.getElem?_set]at hu
   split at hu
   ·rename_i hij
    subst hij
    split at hu
    ·cases hu;exact hg
    ·cases hu
   ·exact hG j u wi w' hwi.1 (h1 j u (by omega) hu) hev
  ·rw[List.getElem?_set_ne (by omega)]
   exact h2 j (by omega)
 have hmain:=gb (T:=fun k=>k=xb) (I:=fun i wi=>(w.heap.size≤wi.heap.size∧J wi)∧∃cs,cs.length=n∧Blk wi xb cs∧(∀j v,j<i→cs[j]?=some v→G j wi v)∧(∀j,i≤j→cs[j]?=zs[j]?))
  hfs hsz hone hle hk hn hP hh hEn hF (fun k hk=>by omega) hxf hrf
  (fun i w1 w2 hi he=>by
   obtain⟨h1,cs,h2,h3,h4,h5⟩:=hi
   exact⟨⟨Nat.le_trans h1.1 he.size,hJ _ _ h1.2 (he.weaken fun k _ h=>h.1)⟩,cs,h2,h3.mono he,fun j v hj hv=>hG j v w1 w2 h1.1 (h4 j v hj hv) (he.weaken fun k _ h=>h.1),h5⟩)
  ⟨⟨Nat.le_refl _,hJ0⟩,zs,hzs,hX,fun j v hj=>absurd hj (by omega),fun j _=>rfl⟩ hds
  (fun i hi hi2 wi bs rest hwi hI hEn hne hRd=>by
   obtain⟨h1,cs,h2,h3,h4,h5⟩:=hI
   refine(hstep i hi hi2 wi cs bs rest hwi h3 h2 (h5 i (Nat.le_refl _)) hEn hne hRd).imp ?_
   rintro u w' ⟨rfl,⟨v,hb,hg⟩,hr,hev⟩
   exact⟨rfl,key i wi w' cs v (by omega) h1 h2 h4 h5 hev hb hg,hr,hev⟩)
  (fun i hi2 hz=>by
   rcases hnull i hi2 hz with⟨h1,h2⟩|⟨f,cap,h1,h2,h3⟩
   ·refine .inl ⟨h1,fun wi hwi hI=>?_⟩
    obtain⟨h4,cs,h5,h6,h7,h8⟩:=hI
    refine⟨h4,cs,h5,h6,fun j v hj hv=>?_,fun j hj=>h8 j (by omega)⟩
    rcases Nat.lt_or_ge j i with hji|hji
    ·exact h7 j v hji hv
    ·have:j=i:=by omega
     subst this
     rw[h8 j (Nat.le_refl _)]at hv
     exact h2 wi v h4.1 hv
   ·refine .inr ⟨f,cap,h1,h2,fun wi hwi hI=>?_⟩
    obtain⟨h4,cs,h5,h6,h7,h8⟩:=hI
    refine(h3 wi cs hwi h4.2 h6 h5).imp ?_
    rintro u w' ⟨rfl,⟨v,hb,hg⟩,hev⟩
    exact⟨rfl,key i wi w' cs v (by omega) h4 h5 h7 h8 (hev.weaken fun k _ h=>h.2) hb hg,hev⟩)
  hR
 refine hmain.imp ?_
 rintro u w' ⟨h1,⟨h2,cs,h3,h4,h5,h6⟩,h7,h8⟩
 exact⟨h1,⟨cs,h3,h4,fun j v hv=>h5 j v (by have:=(List.getElem?_eq_some_iff.1 hv).1;omega) hv⟩,h7,h8⟩
end Go.Proofs.LL
namespace Go.Proofs.LL
open Go Go.Proofs Go.RowKit
set_option maxHeartbeats 4000000
attribute [local irreducible] RunOp WL WC WDL WT WX
theorem nO{cs:List Value}{off:Nat}{v:Value}(ho:Nat.blt off cs.length=true):(cs.set off v)[off]?=some v:=by
 have:off<cs.length:=by simpa[Nat.blt_eq]using ho
 simp[this]
def aY(t:List UInt8):Prop:=t=[108,105,110,107,45,100,101,116,97,99,104]∨t=[115,101,115,115,105,111,110,45,101,110,100]∨t=[99,111,110,110,101,99,116,105,111,110,45,99,108,111,115,101]∨t=[110,101,118,101,114]
def iZ(y:V)(ts:List (List UInt8)):Prop:=
 (y.kind=20∧y.desc=[]∧ts=[y.text])∨(y.kind=23∧y.desc=[]∧y.kids≠[]∧(∀z∈y.kids,z.kind=20∧z.text≠[])∧ts=y.kids.map V.text)
end Go.Proofs.LL
