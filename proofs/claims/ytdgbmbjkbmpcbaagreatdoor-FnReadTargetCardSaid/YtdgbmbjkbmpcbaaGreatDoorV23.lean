/- Own laws of frames, operations and loops, and contracts of functions of the program. Conditions: those that each theorem states. -/
import Derived.Test.YtdgbmbjkbmpcbaaGreatDoorV22
set_option linter.all false
set_option maxRecDepth 20000
namespace Go.Proofs.LL
open Go Go.Proofs Go.RowKit
set_option maxHeartbeats 4000000
attribute [local irreducible] RunOp WL WC WDL WT WX
def ap:V:= .mk 0 0 [] [] 0 []
def aq(ks:List V)(j:Nat):V:=ks[j]?.getD ap
theorem az{ks:List V}{j:Nat}(h:j<ks.length):ks[j]=aq ks j:=by simp[aq,h]
def cI(y:V):Prop:=y.kind=0∧y.desc=[]
def pe(k:Int)(y:V)(t:List UInt8):Prop:=(cI y∧t=[])∨(y.kind=k∧y.desc=[]∧y.text=t)
def iS(k:Int)(y:V)(n d:Nat):Prop:=(cI y∧n=d)∨(y.kind=k∧y.desc=[]∧y.num=n)
def gp(l:List V):Prop:=FineL l∧MapOK l∧∀x∈keysOf l,x.kind=19∨x.kind=20
def pM(y:V)(l:List V):Prop:=(cI y∧l=[])∨(y.kind=22∧y.desc=[]∧y.kids=l∧gp l)
def mg(y:V)(ts:List (List UInt8)):Prop:=(cI y∧ts=[])∨iZ y ts
def cP(N0:Nat)(l:List V)(w:World)(v:Value):Prop:=
 (l=[]∧v= .map none)∨(∃m ss,v= .map (some m)∧N0≤m∧MapO w m (ss.map jS)∧ay (fun b=>N0≤b) w l ss)
def br(N0:Nat)(ts:List (List UInt8))(w:World)(v:Value):Prop:=
 (ts=[]∧v= .slice none 0 0)∨(∃g,v= .slice (some ⟨g,0,none⟩) ts.length ts.length∧N0≤g∧Blk w g (ts.map str))
theorem cP.mono{N0 rb xb:Nat}{l:List V}{w w':World}{v:Value}(h:cP N0 l w v)(h1:rb<N0)(h2:xb<N0)(e:Evo (fun k=>k≠rb∧k≠xb) w w'):cP N0 l w' v:=by
 rcases h with h|⟨m,ss,h3,h4,h5,h6⟩
 ·exact .inl h
 ·exact .inr ⟨m,ss,h3,h4,h5.mono e (by show m≠rb∧m≠xb;omega),h6.mono e (fun b _ hb=>by show b≠rb∧b≠xb;omega)⟩
theorem cP.low{N0 N1:Nat}{l:List V}{w:World}{v:Value}(h:cP N1 l w v)(hN:N0≤N1):cP N0 l w v:=by
 rcases h with h|⟨m,ss,h3,h4,h5,h6⟩
 ·exact .inl h
 ·exact .inr ⟨m,ss,h3,Nat.le_trans hN h4,h5,h6.weaken fun b h=>Nat.le_trans hN h⟩
theorem br.low{N0 N1:Nat}{ts:List (List UInt8)}{w:World}{v:Value}(h:br N1 ts w v)(hN:N0≤N1):br N0 ts w v:=by
 rcases h with h|⟨g,h3,h4,h5⟩
 ·exact .inl h
 ·exact .inr ⟨g,h3,Nat.le_trans hN h4,h5⟩
theorem br.mono{N0 rb xb:Nat}{ts:List (List UInt8)}{w w':World}{v:Value}(h:br N0 ts w v)(h1:rb<N0)(h2:xb<N0)(e:Evo (fun k=>k≠rb∧k≠xb) w w'):br N0 ts w' v:=by
 rcases h with h|⟨g,h3,h4,h5⟩
 ·exact .inl h
 ·exact .inr ⟨g,h3,h4,h5.mono e (by show g≠rb∧g≠xb;omega)⟩
theorem Enc.pc{y:V}{bs:List UInt8}(h:Enc y bs)(hd:y.desc=[]):∃c data,bs=c::data∧Pc y c data:=by
 cases h with
 |desc h _ _=>rw[hd]at h;cases h
 |plain _ hP=>exact⟨_,_,rfl,hP⟩
theorem Pc.mapI{y:V}{c:UInt8}{data:List UInt8}(h:Pc y c data)(hk:y.kind=22):∃hd body,data=hd++body∧EncL y.kids body∧Hd 0xc1 0xd1 c hd y.kids.length body:=by
 obtain⟨k,n,t,ks,o,d⟩:=y
 simp only[V.kind]at hk
 subst hk
 cases h
 case num s hc=>simp[numC]at hc
 case map h1 h2=>exact⟨_,_,rfl,h1,h2⟩
theorem Pc.listI{y:V}{c:UInt8}{data:List UInt8}(h:Pc y c data)(hk:y.kind=21):∃hd body,c::data=hd++body∧EncL y.kids body∧LstH hd y.kids.length body:=by
 obtain⟨k,n,t,ks,o,d⟩:=y
 simp only[V.kind]at hk
 subst hk
 cases h
 case num s hc=>simp[numC]at hc
 case list0=>exact⟨[0x45],[],rfl,.nil,.inl ⟨rfl,rfl,rfl⟩⟩
 case list hd body h1 h2=>exact⟨c::hd,body,rfl,h1,h2.lst⟩
theorem Enc.comp{y z:V}{bs:List UInt8}(h:Enc y bs)(hk:y.kind=21)(hd:y.desc=[z])(hz:z.desc=[]):∃cu du hd body,bs=0::((cu::du)++(hd++body))∧Pc z cu du∧EncL y.kids body∧LstH hd y.kids.length body:=by
 cases h with
 |plain h _=>rw[hd]at h;cases h
 |desc h1 h2 h3=>
  rw[hd]at h1
  cases h1
  obtain⟨cu,du,rfl,hP⟩:=h2.pc hz
  obtain⟨hd',body,hb,hE,hL⟩:=h3.listI hk
  exact⟨cu,du,hd',body,by rw[hb],hP,hE,hL⟩
theorem oT{l:List V}(h:gp l):∀x∈l,Reads x:=gB l h.1
abbrev iN(rb xb j:Nat)(wi:World)(cs:List Value)(rest:List UInt8)(f:Value)(G:World→Value→Prop):Prop:=
 Does TP 83 [.pointer (some ⟨rb,0,none⟩),f] wi fun u w'=>u= .nilIface∧(∃v,Blk w' xb (cs.set j v)∧G w' v)∧Rd w' rb rest∧Evo (fun k=>k≠rb∧k≠xb) wi w'
section
variable {rb xb j:Nat} {wi:World} {cs:List Value} {y:V} {bs rest:List UInt8}
theorem o8{t:List UInt8}{k:Int}(hk:k=19∨k=20)(hf:pe k y t)(hE:Enc y bs)(hne:y.kind≠0)(hB:Blk wi xb cs)(hl:j<cs.length)(hrx:rb<xb)(hR:Rd wi rb (bs++rest)):iN rb xb j wi cs rest (.iface 131 (.pointer (some ⟨xb,j,none⟩))) (fun _ v=>v=str t):=by
 rcases hf with⟨h,_⟩|⟨h1,h2,rfl⟩
 ·exact absurd h.1 hne
 ·obtain⟨c,data,rfl,hP⟩:=hE.pc h2
  exact(o9 (by omega) hP hB (by simpa[Nat.blt_eq]using hl) hrx hR).imp fun u w' ⟨a,b,c,d⟩=>⟨a,⟨_,b,rfl⟩,c,d⟩
end
def uV(c:Nat):V:= .mk 5 c [] [] 0 []
theorem nF{ks:List V}{j:Nat}(h:∀hj:j<ks.length,ks[j].kind=0):(aq ks j).kind=0:=by
 rcases Nat.lt_or_ge j ks.length with hj|hj
 ·rw[← az hj];exact h hj
 ·simp[aq,hj,ap,V.kind]
def kB(N0:Nat)(l:List (List UInt8×List UInt8×List V))(w:World)(v:Value):Prop:=(l=[]∧v= .pointer none)∨∃c d i g vm,l=[(c,d,i)]∧v= .pointer (some ⟨g,0,none⟩)∧N0≤g∧Blk w g [str c,str d,vm]∧cP N0 i w vm
theorem kB.mono{N0 rb xb:Nat}{l:List (List UInt8×List UInt8×List V)}{w w':World}{v:Value}(h:kB N0 l w v)(h1:rb<N0)(h2:xb<N0)(e:Evo (fun k=>k≠rb∧k≠xb) w w'):kB N0 l w' v:=by
 rcases h with h|⟨c,d,i,g,vm,h3,h4,h5,h6,h7⟩
 ·exact .inl h
 ·exact .inr ⟨c,d,i,g,vm,h3,h4,h5,h6.mono e (by show g≠rb∧g≠xb;omega),h7.mono h1 h2 e⟩
theorem kB.low{N0 N1:Nat}{l:List (List UInt8×List UInt8×List V)}{w:World}{v:Value}(h:kB N1 l w v)(hN:N0≤N1):kB N0 l w v:=by
 rcases h with h|⟨c,d,i,g,vm,h3,h4,h5,h6,h7⟩
 ·exact .inl h
 ·exact .inr ⟨c,d,i,g,vm,h3,h4,Nat.le_trans hN h5,h6,h7.low hN⟩
end Go.Proofs.LL
namespace Go.Proofs.LL
open Go Go.Proofs Go.RowKit
def aH:List UInt8:=[115,101,115,115,105,111,110,45,101,110,100]
structure oa (ks:List V) (addr:List UInt8) (dur:Nat) (exp:List UInt8) (tmo dyn:Nat) (node:List V) (caps:List (List UInt8)):Prop where
 len:ks.length≤7
 f0:pe 19 (aq ks 0) addr
 f1:iS 4 (aq ks 1) dur 0
 f2:(cI (aq ks 2)∧exp=aH)∨((aq ks 2).kind=20∧(aq ks 2).desc=[]∧(aq ks 2).text=exp)
 f3:iS 4 (aq ks 3) tmo 0
 f4:iS 1 (aq ks 4) dyn 0
 f5:pM (aq ks 5) node
 f6:mg (aq ks 6) caps
 hdur:dur<4294967296
 htmo:tmo<4294967296
 hexp:aY exp
def j3(xb tb:Nat):List (Value×Value):=[(.iface 131 (.pointer (some ⟨xb,0,none⟩)),.nilFunc),(.iface 136 (.pointer (some ⟨xb,1,none⟩)),.nilFunc),(.iface 137 (.pointer (some ⟨xb,2,none⟩)),.func (.func 56) #[] #[.pointer (some ⟨tb,0,none⟩)]),(.iface 105 (.pointer (some ⟨xb,3,none⟩)),.nilFunc),(.iface 65 (.pointer (some ⟨xb,4,none⟩)),.nilFunc),(.iface 138 (.pointer (some ⟨xb,5,none⟩)),.nilFunc),(.iface 139 (.pointer (some ⟨xb,6,none⟩)),.nilFunc)]
def sr(N0:Nat)(addr:List UInt8)(dur:Nat)(exp:List UInt8)(tmo dyn:Nat)(node:List V)(caps:List (List UInt8)):Nat→World→Value→Prop
 |0,_,v=>v=str addr
 |1,_,v=>v= .int .u32 (dur:Int)
 |2,_,v=>v=str exp
 |3,_,v=>v= .int .u32 (tmo:Int)
 |4,_,v=>v= .bool (dyn !=0)
 |5,w,v=>cP N0 node w v
 |_+6,w,v=>br N0 caps w v
def gm:List Value:=[str [],.int .u32 0,str [],.int .u32 0,.bool false,.map none,.slice none 0 0]
end Go.Proofs.LL
namespace Go.Proofs.LL
open Go Go.RowKit
def aD(A:Nat→Prop)(w:World)(n:Nat)(v:Value)(pl:List Value→Prop):Prop:=
 ∃p c cells,v= .slice p n c∧n≤c∧pl cells∧(n=0∨∃b o,p=some ⟨b,o,none⟩∧A b∧At w b o cells)
mutual
def ag(A:Nat→Prop)(w:World):V→List Value→Prop
 | .mk k n t ks o d,cs=>∃sk sd,cs=[.int .i64 k,.int .u64 (n:Int),str t,sk,.int .i64 o,sd]∧aD A w ks.length sk (aa A w ks)∧aD A w d.length sd (aa A w d)
def aa(A:Nat→Prop)(w:World):List V→List Value→Prop
 |[],cs=>cs=[]
 |x::r,cs=>∃c c',cs=c++c'∧ag A w x c∧aa A w r c'
end
section
variable {A B:Nat→Prop} {w w':World}
theorem ag.len:∀ {x:V} {cs:List Value},ag A w x cs→cs.length=6
 | .mk k n t ks o d,cs,h=>by
  rw[ag]at h
  obtain⟨sk,sd,rfl,_⟩:=h
  rfl
theorem aa.len:∀ {l:List V} {cs:List Value},aa A w l cs→cs.length=l.length * 6
 |[],cs,h=>by rw[aa]at h;simp[h]
 |x::r,cs,h=>by
  rw[aa]at h
  obtain⟨c,c',rfl,h1,h2⟩:=h
  simp[h1.len,aa.len h2,Nat.add_mul];omega
theorem At.growP{b o:Nat}{l:List Value}(h:At w b o l)(e:Evo B w w')(hAB:∀b,b<w.heap.size→A b→B b)(hA:A b):At w' b o l:=by
 rcases Nat.eq_zero_or_pos l.length with h0|h0
 ·intro j hj;omega
 ·have hlt:b<w.heap.size:=by
   have h1:=h 0 h0
   rw[List.getElem?_eq_getElem h0]at h1
   exact lt_of_cell h1
  exact h.mono e (hAB b hlt hA)
mutual
theorem ag.mono':∀ {x:V} {cs:List Value},ag A w x cs→Evo B w w'→(∀b,b<w.heap.size→A b→B b)→ag A w' x cs
 | .mk k n t ks o d,cs,h,e,hAB=>by
  rw[ag]at h⊢
  obtain⟨sk,sd,h1,⟨p1,c1,l1,a1,a2,a3,a4⟩,⟨p2,c2,l2,b1,b2,b3,b4⟩⟩:=h
  refine⟨sk,sd,h1,⟨p1,c1,l1,a1,a2,aa.mono' a3 e hAB,?_⟩,⟨p2,c2,l2,b1,b2,aa.mono' b3 e hAB,?_⟩⟩
  ·exact a4.imp id fun⟨b,o,x1,x2,x3⟩=>⟨b,o,x1,x2,x3.growP e hAB x2⟩
  ·exact b4.imp id fun⟨b,o,x1,x2,x3⟩=>⟨b,o,x1,x2,x3.growP e hAB x2⟩
theorem aa.mono':∀ {l:List V} {cs:List Value},aa A w l cs→Evo B w w'→(∀b,b<w.heap.size→A b→B b)→aa A w' l cs
 |[],cs,h,_,_=>by rw[aa]at h⊢;exact h
 |x::r,cs,h,e,hAB=>by
  rw[aa]at h⊢
  obtain⟨c,c',h1,h2,h3⟩:=h
  exact⟨c,c',h1,ag.mono' h2 e hAB,aa.mono' h3 e hAB⟩
end
theorem ag.mono{x:V}{y:List Value}(h:ag A w x y)(e:Evo B w w')(hAB:∀b,b<w.heap.size→A b→B b:=by(intro b hb1 hb2;first|exact trivial|exact hb2|((try dsimp only[Nb]at hb2⊢);omega))):ag A w' x y:=h.mono' e hAB
theorem aa.mono{x:List V}{y:List Value}(h:aa A w x y)(e:Evo B w w')(hAB:∀b,b<w.heap.size→A b→B b:=by(intro b hb1 hb2;first|exact trivial|exact hb2|((try dsimp only[Nb]at hb2⊢);omega))):aa A w' x y:=h.mono' e hAB
mutual
theorem ag.weaken:∀ {x:V} {cs:List Value},ag A w x cs→(∀b,A b→B b)→ag B w x cs
 | .mk k n t ks o d,cs,h,hAB=>by
  rw[ag]at h⊢
  obtain⟨sk,sd,h1,⟨p1,c1,l1,a1,a2,a3,a4⟩,⟨p2,c2,l2,b1,b2,b3,b4⟩⟩:=h
  refine⟨sk,sd,h1,⟨p1,c1,l1,a1,a2,aa.weaken a3 hAB,?_⟩,⟨p2,c2,l2,b1,b2,aa.weaken b3 hAB,?_⟩⟩
  ·exact a4.imp id fun⟨b,o,x1,x2,x3⟩=>⟨b,o,x1,hAB b x2,x3⟩
  ·exact b4.imp id fun⟨b,o,x1,x2,x3⟩=>⟨b,o,x1,hAB b x2,x3⟩
theorem aa.weaken:∀ {l:List V} {cs:List Value},aa A w l cs→(∀b,A b→B b)→aa B w l cs
 |[],cs,h,_=>by rw[aa]at h⊢;exact h
 |x::r,cs,h,hAB=>by
  rw[aa]at h⊢
  obtain⟨c,c',h1,h2,h3⟩:=h
  exact⟨c,c',h1,ag.weaken h2 hAB,aa.weaken h3 hAB⟩
end
theorem aa.append:∀ {l l':List V} {cs cs':List Value},aa A w l cs→aa A w l' cs'→aa A w (l++l') (cs++cs')
 |[],l',cs,cs',h,h'=>by
  rw[aa]at h
  subst h
  simpa using h'
 |x::r,l',cs,cs',h,h'=>by
  rw[aa]at h
  obtain⟨c,c',rfl,h1,h2⟩:=h
  rw[List.cons_append,List.append_assoc,aa]
  exact⟨c,c'++cs',rfl,h1,h2.append h'⟩
theorem aa.one{x:V}{c:List Value}(h:ag A w x c):aa A w [x] c:=by
 rw[aa]
 exact⟨c,[],by simp,h,by rw[aa]⟩
theorem aa.snoc{l:List V}{cs:List Value}{x:V}{c:List Value}(h:aa A w l cs)(h':ag A w x c):aa A w (l++[x]) (cs++c):=h.append (aa.one h')
theorem aa.get:∀ {l:List V} {cs:List Value} {i:Nat} (hi:i<l.length),aa A w l cs→∃pre c post,cs=pre++(c++post)∧pre.length=i * 6∧ag A w l[i] c
 |[],_,i,hi,_=>absurd hi (by simp)
 |x::r,cs,0,hi,h=>by
  rw[aa]at h
  obtain⟨c,c',rfl,h1,h2⟩:=h
  exact⟨[],c,c',rfl,rfl,h1⟩
 |x::r,cs,i+1,hi,h=>by
  rw[aa]at h
  obtain⟨c,c',rfl,h1,h2⟩:=h
  obtain⟨pre,d,post,rfl,e2,h3⟩:=aa.get (by simpa using hi) h2
  exact⟨c++pre,d,post,by simp,by simp[h1.len,e2];omega,h3⟩
theorem At.mid{b o:Nat}{pre c post:List Value}(h:At w b o (pre++(c++post))):At w b (o+pre.length) c:=by
 intro j hj
 have:=h (pre.length+j) (by simp;omega)
 rw[← Nat.add_assoc]at this
 rw[this,List.getElem?_append_right (by omega),List.getElem?_append_left (by omega)]
 congr 1
 omega
theorem ag.one:∀ {x:V} {cs:List Value},ag A w x cs→cs.all (fun v=>v.oneCell')=true
 | .mk k n t ks o d,cs,h=>by
  rw[ag]at h
  obtain⟨sk,sd,rfl,⟨p1,c1,l1,rfl,_⟩,⟨p2,c2,l2,rfl,_⟩⟩:=h
  rfl
theorem aa.oneAll:∀ {l:List V} {cs:List Value},aa A w l cs→cs.all (fun v=>v.oneCell')=true
 |[],cs,h=>by rw[aa]at h;simp[h]
 |x::r,cs,h=>by
  rw[aa]at h
  obtain⟨c,c',rfl,h1,h2⟩:=h
  rw[List.all_append,h1.one,h2.oneAll];rfl
end
def vc(k:Int)(n:Nat)(t:List UInt8):List Value:=[.int .i64 k,.int .u64 (n:Int),str t,.slice none 0 0,.int .i64 0,.slice none 0 0]
abbrev pv(k:Int)(n:Nat)(t:List UInt8):V:= .mk k n t [] 0 []
theorem aD.nil{A:Nat→Prop}{w:World}:aD A w 0 (.slice none 0 0) (aa A w []):=⟨none,0,[],rfl,Nat.le_refl _,by rw[aa],.inl rfl⟩
theorem ag.plain{A:Nat→Prop}{w:World}(k:Int)(n:Nat)(t:List UInt8):ag A w (pv k n t) (vc k n t):=by
 rw[ag]
 exact⟨_,_,rfl,aD.nil,aD.nil⟩
theorem aa.flat{A:Nat→Prop}{w:World}{α:Type}(f:α→V)(g:α→List Value)(h:∀a,ag A w (f a) (g a)):∀l:List α,aa A w (l.map f) (l.flatMap g)
 |[]=>by rw[List.map_nil,List.flatMap_nil,aa]
 |a::r=>by
  rw[List.map_cons,List.flatMap_cons,aa]
  exact⟨_,_,rfl,h a,aa.flat f g h r⟩
theorem aD.own{A:Nat→Prop}{w:World}{B e n:Nat}{v:Value}{xs:List Value}{l:List V}(h:Own B e 6 w v n xs)(hl:l.length=n)(hv:aa A w l xs)(hA:∀b,B≤b→b<w.heap.size→A b):aD A w l.length v (aa A w l):=by
 obtain⟨p,c,h1,h2,h3⟩:=h.form
 subst hl
 refine⟨p,c,xs,h1,h2,hv,?_⟩
 rcases Nat.eq_zero_or_pos l.length with h0|h0
 ·exact .inl h0
 ·obtain⟨b,h4,h5,h6,h7⟩:=h3 h0
  exact .inr ⟨b,0,h4,hA b h5 h6,h7⟩
def eH(k:Int):Int:=if k=20 then 19 else k
mutual
inductive cG:V→V→Prop
 |scal {k n t ks o d}:k≠21→k≠22→k≠23→cG (.mk k n t ks o d) (pv (eH k) n t)
 |list {n t ks o d ls}:bH ks ls→cG (.mk 21 n t ks o d) (.mk 21 0 [] ls 0 [])
 |map {n t ks o d} {ps qs:List (V×V)}:ew ks ps→qs.Perm ps→cG (.mk 22 n t ks o d) (.mk 22 0 [] (qs.flatMap fun p=>[p.1,p.2]) 0 [])
 |arr {n t ks o d kk}:cG (.mk 23 n t ks o d) (.mk 23 0 [] (ks.map fun x=>pv x.kind x.num x.text) kk [])
inductive bH:List V→List V→Prop
 |nil:bH [] []
 |cons {x y r s}:cG x y→bH r s→bH (x::r) (y::s)
inductive ew:List V→List (V×V)→Prop
 |nil:ew [] []
 |cons {k v r a b s}:cG k a→cG v b→ew r s→ew (k::v::r) ((a,b)::s)
end
theorem bH.snoc:∀ {r s:List V} {x y:V},bH r s→cG x y→bH (r++[x]) (s++[y])
 |[],_,_,_,h,h'=>by cases h;exact .cons h' .nil
 |a::r,_,_,_,h,h'=>by
  cases h with
  |cons h1 h2=>exact .cons h1 (h2.snoc h')
theorem bH.length:∀ {r s:List V},bH r s→s.length=r.length
 |[],_,h=>by cases h;rfl
 |a::r,_,h=>by
  cases h with
  |cons h1 h2=>simp[h2.length]
end Go.Proofs.LL
