/- Contracts of functions and own laws. Conditions: those that each theorem states. -/
import Derived.Test.YtdgbmbjkbmpcbaaGreatDoorV41
set_option linter.all false
set_option autoImplicit true
set_option relaxedAutoImplicit true
set_option maxRecDepth 20000
namespace Go.Proofs.LL
open Go Go.Proofs Go.RowKit
set_option maxHeartbeats 4000000
attribute [local irreducible] ar WL WC cq WT WX
theorem aA.imp{R':Value→World→Prop}(h:aA P op ty ρ w R)(hi:∀v w',R v w'→R' v w'):aA P op ty ρ w R':=
 fun N D a dst pos af g ha next Q hn=>h N D a dst pos af g ha next Q fun v w' hr=>hn v w' (hi v w' hr)
theorem DO{pv:Value}{e z bs:Nat}{zv v:Value}(hX:ei A w ps pv)(hA:∀b,A b→v.ownBlock≠some b)(ht:fG P t=some (e,z,bs,zv))(hs:ov ρ s=some v)(hx:ov ρ x=some u)(hown:aT B e z w v n xs)(hsrc:Src P z tx u m news w)(hB:B≤w.heap.size)(h63:n+m≤maxLen)(hbytes:(n+m) * bs≤140737488355328):
  aA P (.call ⟨.builtin .append, #[s,x], #[t,tx]⟩) ty ρ w (fun v' w'=>aT B e z w' v' (n+m) (xs++news)∧ei A w' ps pv∧am (fun k=>k<B) w w'):=
 (eF ht hs hx hown hsrc hB h63 hbytes).imp fun v' w' ⟨h1,h2,_⟩=>⟨h1,hX.m h2 (fun b _ h=>hA b h),hown.evo (w0:=w) h2⟩
theorem DM{N0 bs:Nat}{zv:Value}(ht:fG P t=some (152,2,bs,zv))(hs:ov ρ s=some v)(hx:ov ρ x=some u)(hown:aT B 152 2 w v n cs)(hV:bg (fun b=>N0≤b∧v.ownBlock≠some b) w ps cs)(hy:bg (fun b=>N0≤b∧v.ownBlock≠some b) w ps' news)(hsrc:Src P 2 tx u m news w)(hB:B≤w.heap.size)(h63:n+m≤maxLen)(hbytes:(n+m) * bs≤140737488355328):
  aA P (.call ⟨.builtin .append, #[s,x], #[t,tx]⟩) ty ρ w (fun v' w'=>aT B 152 2 w' v' (n+m) (cs++news)∧bg (fun b=>N0≤b∧v'.ownBlock≠some b) w' (ps++ps') (cs++news)∧am (fun k=>k<B) w w'):=
 (eF ht hs hx hown hsrc hB h63 hbytes).imp fun v' w' ⟨h1,h2,h3⟩=>⟨h1,bg.push hV (am.refl w) hy h2 h3,hown.evo (w0:=w) h2⟩
theorem ei.kid(h:ei A w ps (.slice p ps.length c))(hi:i<ps.length):
  ∃b o dv,p=some ⟨b,o,none⟩∧A b∧At w b (o+i * 2) [.int .i64 ps[i].1,dv]∧bT A w dv ps[i].2∧([.int .i64 ps[i].1,dv]:List Value).all (fun v=>v.oneCell')=true:=by
 obtain⟨p',c',cells,e,_,hV,hat⟩:=h
 injection e with e1 _ _
 subst e1
 rcases hat with h0|⟨b,o,rfl,hA,hat⟩
 ·subst h0;simp at hi
 ·obtain⟨pre,dv,post,rfl,hpre,hI⟩:=hV.get hi
  have hI0:=hI
  obtain⟨q,cc,rfl,_,_⟩:=hI0
  exact⟨b,o,_,rfl,hA,hpre▸At.mid hat,hI,rfl⟩
theorem mS.vol(h:mS x p):p.2.length≤vol x:=by
 obtain⟨u,_,h⟩:=h
 have:=h.vol1 (fun body h=>bw.vol h) (fun c' body h=>bY.vol h)
 omega
def GF:List (Int×Int):=[(4,82),(5,83),(8,84),(9,85),(18,160),(19,161),(20,163)]
def Gy(k:Int):Int:=(dz GF k).getD 0
def vK(kk code:Int):Prop:=code=0∨∃u:UInt8,u∈fQ∧code=(u.toNat:Int)
theorem uh{kk:Int}(h:dp kk):vK kk (Gy kk):=by
 unfold dp at h
 rcases(show kk=1∨kk=2∨kk=3∨kk=4∨kk=5∨kk=6∨kk=7∨kk=8∨kk=9∨kk=10∨kk=11∨kk=16∨kk=17∨kk=18∨kk=19∨kk=20 by omega)with rfl|rfl|rfl|rfl|rfl|rfl|rfl|rfl|rfl|rfl|rfl|rfl|rfl|rfl|rfl|rfl
 ·exact .inl (by decide)
 ·exact .inl (by decide)
 ·exact .inl (by decide)
 ·exact .inr ⟨82,by decide,by decide⟩
 ·exact .inr ⟨83,by decide,by decide⟩
 ·exact .inl (by decide)
 ·exact .inl (by decide)
 ·exact .inr ⟨84,by decide,by decide⟩
 ·exact .inr ⟨85,by decide,by decide⟩
 ·exact .inl (by decide)
 ·exact .inl (by decide)
 ·exact .inl (by decide)
 ·exact .inl (by decide)
 ·exact .inr ⟨160,by decide,by decide⟩
 ·exact .inr ⟨161,by decide,by decide⟩
 ·exact .inr ⟨163,by decide,by decide⟩
theorem xh{kk:Int}(h:dp kk):vK kk (gJ kk)∧gJ kk≠0:=by
 unfold dp at h
 rcases(show kk=1∨kk=2∨kk=3∨kk=4∨kk=5∨kk=6∨kk=7∨kk=8∨kk=9∨kk=10∨kk=11∨kk=16∨kk=17∨kk=18∨kk=19∨kk=20 by omega)with rfl|rfl|rfl|rfl|rfl|rfl|rfl|rfl|rfl|rfl|rfl|rfl|rfl|rfl|rfl|rfl
 ·exact⟨.inr ⟨86,by decide,by decide⟩,by decide⟩
 ·exact⟨.inr ⟨80,by decide,by decide⟩,by decide⟩
 ·exact⟨.inr ⟨96,by decide,by decide⟩,by decide⟩
 ·exact⟨.inr ⟨112,by decide,by decide⟩,by decide⟩
 ·exact⟨.inr ⟨128,by decide,by decide⟩,by decide⟩
 ·exact⟨.inr ⟨81,by decide,by decide⟩,by decide⟩
 ·exact⟨.inr ⟨97,by decide,by decide⟩,by decide⟩
 ·exact⟨.inr ⟨113,by decide,by decide⟩,by decide⟩
 ·exact⟨.inr ⟨129,by decide,by decide⟩,by decide⟩
 ·exact⟨.inr ⟨114,by decide,by decide⟩,by decide⟩
 ·exact⟨.inr ⟨130,by decide,by decide⟩,by decide⟩
 ·exact⟨.inr ⟨131,by decide,by decide⟩,by decide⟩
 ·exact⟨.inr ⟨152,by decide,by decide⟩,by decide⟩
 ·exact⟨.inr ⟨176,by decide,by decide⟩,by decide⟩
 ·exact⟨.inr ⟨177,by decide,by decide⟩,by decide⟩
 ·exact⟨.inr ⟨179,by decide,by decide⟩,by decide⟩
def yb(code:Int)(l:List V)(dat:List UInt8):Prop:=∃u:UInt8,u∈fQ∧code=(u.toNat:Int)∧bY u l dat
theorem bY.snoc:∀ {l:List V} {dat:List UInt8} {x:V} {b:List UInt8},bY u l dat→Pc x u b→bY u (l++[x]) (dat++b)
 |[],dat,x,b,h,hp=>by cases h;have:=bY.cons hp (bY.nil (c:=u));simpa using this
 |y::r,dat,x,b,h,hp=>by
  cases h with
  |cons h1 h2=>
   have:=bY.cons h1 (bY.snoc h2 hp)
   rw[List.append_assoc];exact this
theorem yb.nil{code kk:Int}(h:vK kk code)(h0:code≠0):yb code [] []:=by
 rcases h with h|⟨u,h1,h2⟩
 ·exact absurd h h0
 ·exact⟨u,h1,h2,.nil⟩
theorem yb.snoc{code:Int}{l:List V}(h:yb code (l.take i) dat)(hi:i<l.length)(hp:mS (bA l i) p)(hc:p.1=code):yb code (l.take (i+1)) (dat++p.2):=by
 obtain⟨u,h1,h2,h3⟩:=h
 obtain⟨u',h4,h5⟩:=hp
 have:u'=u:=by
  have h6:(u'.toNat:Int)=u.toNat:=by rw[← h4,hc,h2]
  exact UInt8.toNat_inj.1 (by omega)
 subst this
 refine⟨u',h1,h2,?_⟩
 rw[← List.take_append_getElem hi,bW hi]
 exact h3.snoc h5
theorem pM{l:List V}(h:i<l.length):bF (l.take (i+1))=bF (l.take i)+vol (bA l i):=by
 rw[← List.take_append_getElem h,og,bW h]
 rw[bF,bF];omega
theorem dG(l:List V)(i:Nat):bF (l.take i)≤bF l:=by
 have:=og (l.take i) (l.drop i)
 rw[List.take_append_drop]at this;omega
theorem sx{kk:Int}{l:List V}{fb:Nat}(hK:cM A w l.length (.slice p l.length c) (ag A w l))(hl:l.length≤1000)(hkk:dp kk)(hall:∀x∈l,x.kind=kk∧bI x)(hv:bF l≤1000000000):
  ah TP 174 [.pointer (some ⟨fb,0,none⟩),.int .i64 kk,.slice p l.length c] w fun r w'=>∃ps,ps≠[]∧ps.length≤2∧(∀q∈ps,yb q.1 l q.2)∧ei (fun b=>w.heap.size≤b) w' ps r∧ay w w':=by
 replace hK:=hK.weakW (B:=fun b=>b<w.heap.size) (fun b hb _=>hb)
 have hcf:=xh hkk
 have hcs:=uh hkk
 refine aR Tryz.func174 ?_
 have he:=Hi w
 refine jA 6 rfl ?_
 have hs1:=he.s
 refine WL.l rfl (d8 Fo.h (fun o h=>by cases h)) ?_
 rintro _ w1 ⟨rfl,hm1,e1⟩
 have nx1:=hm1.lt
 have ns1:=e1.s
 refine WL.l0 (aV (l:=[]) Fo.h Fo.h rfl rfl rfl hm1 rfl) ?_
 rintro _ w2 ⟨hm1,e2⟩
 have ns2:=e2.s
 refine WL.l0 (aV (l:=[(4,82)]) Fo.h Fo.h rfl rfl rfl hm1 rfl) ?_
 rintro _ w3 ⟨hm1,e3⟩
 have ns3:=e3.s
 refine WL.l0 (aV (l:=[(4,82),(5,83)]) Fo.h Fo.h rfl rfl rfl hm1 rfl) ?_
 rintro _ w4 ⟨hm1,e4⟩
 have ns4:=e4.s
 refine WL.l0 (aV (l:=[(4,82),(5,83),(8,84)]) Fo.h Fo.h rfl rfl rfl hm1 rfl) ?_
 rintro _ w5 ⟨hm1,e5⟩
 have ns5:=e5.s
 refine WL.l0 (aV (l:=[(4,82),(5,83),(8,84),(9,85)]) Fo.h Fo.h rfl rfl rfl hm1 rfl) ?_
 rintro _ w6 ⟨hm1,e6⟩
 have ns6:=e6.s
 refine WL.l0 (aV (l:=[(4,82),(5,83),(8,84),(9,85),(18,160)]) Fo.h Fo.h rfl rfl rfl hm1 rfl) ?_
 rintro _ w7 ⟨hm1,e7⟩
 have ns7:=e7.s
 refine WL.l0 (aV (l:=[(4,82),(5,83),(8,84),(9,85),(18,160),(19,161)]) Fo.h Fo.h rfl rfl rfl hm1 rfl) ?_
 rintro _ w8 ⟨hm1,e8⟩
 have ns8:=e8.s
 refine jC 3 rfl<|jA 4 rfl ?_
 replace hK:=((((hK.m (((e1.t e2).t e3).t e4)).m e5).m e6).m e7).m e8
 refine WC.seq<|WC.seq<|WC.regionD (tt [0,1,2,3,7]++ff [4,5]++tt [6]) (ay _) mixed (by kernel_rfl) Xd ?_
 have nd1w8:w8.drew.heap.size=w8.heap.size:=rfl
 refine jE 2 rfl<|He (fun _ hS=>cz (l:=[(4,82),(5,83),(8,84),(9,85),(18,160),(19,161),(20,163)]) Fo.h Fo.h eo rfl rfl hS hm1)<|jE 2 rfl<|cd rfl (su) ?_
 rintro v9 w9 ⟨rfl,e9⟩
 have ns9:=e9.s
 refine⟨(Vd.t e9),?_⟩
 replace he:=((((((he.t (((e1.t e2).t e3).t e4)).t e5).t e6).t e7).t e8).t Xd).t e9
 have hs10:=he.s
 refine WD.l rfl rfl (ll [_,_]) ?_
 rintro _ w10 ⟨rfl,hb10,e10⟩
 have ns10:=e10.s
 refine⟨((Vd.t e9).t e10),?_⟩
 refine jE 1 rfl<|WD.nil<|jA 1 rfl ?_
 have hbx:=(show aH _ _ [.int .i64 (Gy kk),.int .i64 (gJ kk)]from hb10).at
 replace hK:=((hK.m Xd).m e9).m e10
 replace hm1:=((hm1.m Xd).m e9).m e10
 replace he:=he.t e10
 have nN1:w.heap.size≤w10.heap.size:=he.s
 have nbx:=hb10.lt
 refine WC.loop2 (ι:=(Nat×Value)) [(0,_),(2,_),(6,_),(25,_),(26,_)] (fun a=>[(8,a.2),(27,.int .i64 (a.1:Int))]) (fun a wi=>(∃ps cs,aT w10.heap.size 152 2 wi a.2 ps.length cs∧bg (fun b=>w.heap.size≤b∧a.2.ownBlock≠some b) wi ps cs∧(∀q∈ps,yb q.1 l q.2)∧ps.length≤a.1∧(2≤a.1→ps≠[]))∧a.1≤2∧am (fun b=>b<w10.heap.size) w10 wi) (fun a=>2-a.1) (0,.slice none 0 0) sb sb (⟨⟨[],[],aT.nil _ _ _ _,rfl,by simp,Nat.le_refl _,by omega⟩,by omega,am.refl _⟩) ?_
 intro a wi1 hh;obtain⟨⟨ps,cs,hO,hV,qE,nps,qne⟩,na,hE⟩:=hh
 obtain⟨a,ov⟩:=a
 dsimp only at hO hV nps qne na
 have nwi:=hE.s
 rcases Nat.lt_or_ge a 2 with qa|qa
 ·replace hbx:=hbx.m hE
  replace he:=he.t hE
  have hcode:∃code,wi1.cell? ⟨w9.heap.size,0+a,none⟩=some (.int .i64 code)∧vK kk code∧(a=1→code=gJ kk):=by
   rcases(show a=0∨a=1 by omega)with rfl|rfl
   ·exact⟨_,hbx.get (j:=0) rfl,hcs,by omega⟩
   ·exact⟨_,hbx.get (j:=1) rfl,hcf.1,fun _=>rfl⟩
  obtain⟨code,hcell,qcode,qca⟩:=hcode
  refine jA 2 rfl<|lT rfl rfl<|WL.nil<|jA 7 rfl<|Hq (dX Fo.h rfl rfl rfl)<|Hq (ao Fb.h rfl Xr hcell)<|jC 2 rfl<|jA 7 rfl<|Hq (bn rfl rfl)<|jC 2 rfl<|jA 8 rfl ?_
  obtain⟨M0,eM0⟩:∃M,M=wi1.heap.size:=⟨_,rfl⟩
  have nMN:wi1.heap.size≤M0:=by omega
  have hVw:=hV.weakenW (B:=fun b=>(w.heap.size≤b∧ov.ownBlock≠some b)∧b<M0) (fun b hb h=>⟨h,by omega⟩)
  have hOl:=hO.lt
  have hOw:=i7.mk (am.refl (A:=fun b=>b<M0) wi1)
  have hTo:=i7.mk hE
  replace hK:=hK.m hE
  replace hm1:=hm1.m hE
  replace hb10:=hb10.m hE
  refine WC.loop2 (ι:=(Nat×Value×Bool)) [(0,_),(2,_),(6,_),(8,_),(10,_),(25,_),(26,_),(27,_),(33,_),(34,_)] (fun m=>[(11,m.2.1),(12,.bool m.2.2),(35,.int .i64 (m.1:Int))]) (fun m wi=>(∃dat,aT M0 5 1 wi m.2.1 dat.length (bc dat)∧(m.2.2=true→code≠0∧yb code (l.take m.1) dat)∧dat.length≤bF (l.take m.1)∧(a=1→m.2.2=true))∧m.1≤l.length∧am (fun b=>b<M0) wi1 wi) (fun m=>l.length-m.1) (0,.slice none 0 0,code !=0) sb sb (⟨⟨[],aT.nil _ _ _ _,fun h=>by have h0:code≠0:=bne_iff_ne.1 h;exact⟨h0,yb.nil qcode h0⟩,by simp,fun h=>by rw[qca h];exact bne_iff_ne.2 hcf.2⟩,Nat.zero_le _,am.refl _⟩) ?_
  intro m wi2 hh;obtain⟨⟨dat,hD,qEl,qvl,qal⟩,nm,hE⟩:=hh
  obtain⟨i,dv,al⟩:=m
  dsimp only at hD qEl qvl qal nm
  have nwm:=hE.s
  have htm:=dG l i
  rcases Nat.lt_or_ge i l.length with qi|qi
  replace hK:=hK.m hE
  ·obtain⟨b1,o1,c1,rfl,_,hA1,l1,hR1⟩:=hK.kid qi
   obtain⟨qk,qp⟩:=hall _ (bf qi)
   have hta:=pM qi
   have htl:=dG l (i+1)
   rcases hf1:bA l i with⟨k1,n1,t1,ks1,oo1,d1⟩
   rw[hf1]at hR1 qk qp hta
   have hd1:d1=[]:=qp.2.2.2.1
   subst hd1
   simp only[V.kind]at qk
   have hkr:(0≤k1∧k1≤11)∨(16≤k1∧k1≤20):=by unfold dp at hkk;omega
   obtain⟨pk1,ck1,pd1,cd1,rfl,_,_,hK1,_⟩:=hR1.openV
   have hRx:aC (fun b=>b<w.heap.size) wi2 (.mk k1 n1 t1 ks1 oo1 []) [.int .i64 k1,.int .u64 (n1:Int),str t1,.slice pk1 ks1.length ck1,.int .i64 oo1,.slice none 0 0]:=by rw[aC];exact⟨_,_,rfl,hK1,cM.nil⟩
   have hDl:=hD.lt
   have hTm:=i7.mk hE
   refine jA 2 rfl<|lT rfl rfl<|WL.nil<|jA 7 rfl<|ix rfl rfl rfl<|Hq (ad Fo.h rfl Xr hA1 (hn:=rfl)) ?_
   replace he:=he.t hE
   have hs11:=he.s
   replace hb10:=hb10.m hE
   have hx11b10:=hb10.lt
   refine LL.al ?_
   rintro _ w11 ⟨rfl,hb11,e11⟩
   have nx11:=hb11.lt
   have ns11:=e11.s
   refine Ho rfl rfl hb11 fun w12 hb11 e12 hz12=>?_
   have ns12:=e12.s
   refine WL.nil<|jA 3 rfl<|Hp rfl rfl hb11 fun w13 hb11 e13 hz13=>?_
   have ns13:=e13.s
   refine WL.nil<|jA 8 rfl<|la rfl hb11 ?_
   replace hRx:=hRx.m ((e11.t e12).t e13)
   refine cl rfl ((mx hkr) _ n1 t1 ks1 oo1 [] _ fb _ hRx qp.1.2.2.2.2.2.2.2.2 qp.1.1 (by have:=qp.2.1;simp only[V.text]at this;omega)) ?_
   rintro v14 w14 ⟨⟨ps2,qG2,hX2⟩,e14⟩
   have hX20:=hX2
   obtain⟨pp,pc,pcs,hpv,_⟩:=hX20
   subst hpv
   have ns14:=e14.s
   refine jC 3 rfl<|jA 1 rfl ?_
   have hX2:=hX2.low (B:=fun b=>dv.ownBlock≠some b) (fun b hb e=>by have:=hDl b e;omega)
   replace hK:=(hK.m ((e11.t e12).t e13)).m e14
   replace hm1:=((hm1.m hE).m ((e11.t e12).t e13)).m e14
   replace hb10:=(hb10.m ((e11.t e12).t e13)).m e14
   replace hbx:=((hbx.m hE).m ((e11.t e12).t e13)).m e14
   replace hVw:=((hVw.m hE).m ((e11.t e12).t e13)).m e14
   replace hOw:=((hOw.m hE).m ((e11.t e12).t e13)).m e14
   replace hTo:=((hTo.m hE).m ((e11.t e12).t e13)).m e14
   replace hD:=(hD.m ((e11.t e12).t e13)).m e14
   replace hA1:=(hA1.m ((e11.t e12).t e13)).m e14
   replace hRx:=hRx.m e14
   replace hTm:=(hTm.m ((e11.t e12).t e13)).m e14
   replace he:=(he.t ((e11.t e12).t e13)).t e14
   refine WC.loop2 (ι:=(Nat×Value×Bool)) [(0,_),(2,_),(6,_),(8,_),(10,_),(12,_),(25,_),(26,_),(27,_),(33,_),(34,_),(35,_),(42,_),(43,_)] (fun j=>[(11,j.2.1),(15,.bool j.2.2),(44,.int .i64 (j.1:Int))]) (fun j wi=>ei (fun b=>dv.ownBlock≠some b) wi ps2 (.slice pp ps2.length pc)∧(∃dat',aT M0 5 1 wi j.2.1 dat'.length (bc dat')∧(j.2.2=false→dat'=dat∧j.2.1=dv∧∀q (hq:q<ps2.length),q<j.1→ps2[q].1≠code)∧(j.2.2=true→∃p∈ps2,p.1=code∧dat'=dat++p.2))∧j.1≤ps2.length∧am (fun b=>b<M0) w14 wi) (fun j=>ps2.length-j.1) (0,dv,false) sb sb (⟨hX2,⟨dat,hD,fun _=>⟨rfl,rfl,fun q _ h=>absurd h (by omega)⟩,fun h=>by cases h⟩,Nat.zero_le _,am.refl _⟩) ?_
   intro j wi3 hh;obtain⟨hX2,⟨dat',hDj,qF,qT⟩,nj,hE⟩:=hh
   obtain⟨j,dv',fd⟩:=j
   dsimp only at hDj qF qT nj
   have nwj:=hE.s
   have nlp:=qG2.len
   rcases Nat.lt_or_ge j ps2.length with qj|qj
   ·obtain⟨b2,o2,pv,rfl,_,hA2,hI2,qov⟩:=hX2.kid qj
    have nlen:=(qG2.all _ (List.getElem_mem qj)).vol
    rcases Decidable.em (ps2[j].1=code)with qe|qe
    ·rcases fd with _|_
     ·obtain⟨qd,qv,qn⟩:=qF rfl
      subst qd qv
      refine jA 2 rfl<|lT rfl rfl<|WL.nil<|jA 7 rfl<|ix rfl rfl rfl<|Hq (ad Fo.h rfl Xr hA2 (hn:=rfl)) ?_
      replace he:=he.t hE
      have hs15:=he.s
      replace hb10:=hb10.m hE
      have hx15b10:=hb10.lt
      refine LL.al ?_
      rintro _ w15 ⟨rfl,hb15,e15⟩
      have nx15:=hb15.lt
      have ns15:=e15.s
      refine Ho rfl rfl hb15 fun w16 hb15 e16 hz16=>?_
      have ns16:=e16.s
      refine WL.nil<|jA 3 rfl<|ld rfl hb15 rfl<|jC 1 rfl<|Hq (ae (ak rfl rfl) (br (qe)))<|jC 5 rfl<|jA 4 rfl<|ld rfl hb15 rfl ?_
      replace hX2:=hX2.m (e15.t e16)
      replace hDj:=hDj.m (e15.t e16)
      replace hI2:=hI2.m (e15.t e16)
      refine WL.l rfl (DO hX2 (fun b h=>h) Fo.h rfl rfl hDj (Src.isB Fb.h hI2) (by omega) (by simp only[maxLen];omega) (by omega)) ?_
      rintro v17 w17 ⟨hDj,hX2,e17⟩
      have ns17:=e17.s
      refine jC 3 rfl<|jA 1 rfl<|ai rfl rfl rfl<|jC 2 rfl ?_
      have qD2:aT M0 5 1 w17 v17 (dat'++ps2[j].2).length (bc (dat'++ps2[j].2)):=by rw[bC,List.length_append];exact hDj
      exact⟨(j+1,_,true),sb,sb,⟨hX2,⟨_,qD2,fun h=>(by cases h),fun _=>⟨_,List.getElem_mem qj,qe,rfl⟩⟩,qj,(((hE.t (e15.t e16)).t e17))⟩,(by show ps2.length-(j+1)<ps2.length-j;omega)⟩
     ·refine jA 2 rfl<|lT rfl rfl<|WL.nil<|jA 7 rfl<|ix rfl rfl rfl<|Hq (ad Fo.h rfl Xr hA2 (hn:=rfl)) ?_
      replace he:=he.t hE
      have hs15:=he.s
      replace hb10:=hb10.m hE
      have hx15b10:=hb10.lt
      refine LL.al ?_
      rintro _ w15 ⟨rfl,hb15,e15⟩
      have nx15:=hb15.lt
      have ns15:=e15.s
      refine Ho rfl rfl hb15 fun w16 hb15 e16 hz16=>?_
      have ns16:=e16.s
      refine WL.nil<|jA 3 rfl<|ld rfl hb15 rfl<|jC 1 rfl<|Hq (ae (ak rfl rfl) (br (qe)))<|jC 5 rfl<|jA 2 rfl<|jA 1 rfl<|ai rfl rfl rfl<|jC 2 rfl ?_
      replace hX2:=hX2.m (e15.t e16)
      replace hDj:=hDj.m (e15.t e16)
      exact⟨(j+1,dv',true),sb,sb,⟨hX2,⟨dat',hDj,fun h=>(by cases h),fun _=>qT rfl⟩,qj,((hE.t (e15.t e16)))⟩,(by show ps2.length-(j+1)<ps2.length-j;omega)⟩
    ·refine jA 2 rfl<|lT rfl rfl<|WL.nil<|jA 7 rfl<|ix rfl rfl rfl<|Hq (ad Fo.h rfl Xr hA2 (hn:=rfl)) ?_
     replace he:=he.t hE
     have hs15:=he.s
     replace hb10:=hb10.m hE
     have hx15b10:=hb10.lt
     refine LL.al ?_
     rintro _ w15 ⟨rfl,hb15,e15⟩
     have nx15:=hb15.lt
     have ns15:=e15.s
     refine Ho rfl rfl hb15 fun w16 hb15 e16 hz16=>?_
     have ns16:=e16.s
     refine WL.nil<|jA 3 rfl<|ld rfl hb15 rfl<|jC 1 rfl<|Hq (ae (ak rfl rfl) (bk (qe)))<|jC 5 rfl<|jA 2 rfl<|jA 1 rfl<|ai rfl rfl rfl<|jC 2 rfl ?_
     replace hX2:=hX2.m (e15.t e16)
     replace hDj:=hDj.m (e15.t e16)
     exact⟨(j+1,dv',fd),sb,sb,⟨hX2,⟨dat',hDj,fun h=>⟨(qF h).1,(qF h).2.1,fun q hq hlt=>by rcases Nat.lt_or_ge q j with h1|h1;exact(qF h).2.2 q hq h1;obtain rfl:q=j:=(by omega);exact qe⟩,qT⟩,qj,((hE.t (e15.t e16)))⟩,(by show ps2.length-(j+1)<ps2.length-j;omega)⟩
   ·have qcl:∀(x:V),x=bA l i→wS x ps2→al=true→fd=true→yb code (l.take (i+1)) dat':=fun x hx hG h1 h2=>by
     obtain⟨p,hp,e1,e2⟩:=qT h2
     rw[e2]
     exact((qEl h1).2).snoc qi (hx▸hG.all p hp) e1
    have qbl:dat'.length≤bF (l.take (i+1)):=by
     cases fd with
     |false=>rw[(qF rfl).1];omega
     |true=>
      obtain⟨p,hp,e1,e2⟩:=qT rfl
      have:=(qG2.all p hp).vol
      rw[e2,List.length_append];omega
    have qfd:a=1→fd=true:=fun ha=>by
     cases fd with
     |true=>rfl
     |false=>
      exfalso
      obtain⟨p,hp,e1⟩:=qG2.full (by simp only[V.kind];rw[qk];exact hkk)
      obtain⟨q,hq,rfl⟩:=List.getElem_of_mem hp
      refine(qF rfl).2.2 q hq (by omega) ?_
      rw[e1,qca ha];simp only[V.kind];rw[qk]
    refine jA 2 rfl<|lF rfl rfl<|WL.nil<|jA 2 rfl<|WC.exit<|jA 3 rfl<|Hc rfl rfl (fun hc=>aq rfl)<|Hq (bU rfl rfl (fun h=>beq_iff_eq.2 h))<|jC 2 rfl<|jA 1 rfl<|ai rfl rfl rfl<|jC 2 rfl ?_
    replace hTm:=hTm.m hE
    exact⟨(i+1,dv',al&&fd),sb,sb,⟨⟨dat',hDj,fun h=>(by simp only[Bool.and_eq_true]at h;exact⟨(qEl h.1).1,qcl _ hf1.symm qG2 h.1 h.2⟩),qbl,fun ha=>(by rw[qal ha,qfd ha];rfl)⟩,qi,hTm.evo⟩,(by show l.length-(i+1)<l.length-i;omega)⟩
  ·have hil:i=l.length:=by omega
   have htk:l.take i=l:=by rw[hil,List.take_length]
   rw[htk]at qEl qvl
   rcases al with _|_
   ·refine jA 2 rfl<|lF rfl rfl<|WL.nil<|jA 2 rfl<|WC.exit<|jA 6 rfl<|jA 1 rfl<|ai rfl rfl rfl<|jC 2 rfl ?_
    replace hVw:=hVw.m hE
    replace hOw:=hOw.m hE
    replace hTo:=hTo.m hE
    exact⟨(a+1,ov),sb,sb,⟨⟨ps,cs,hO.m hOw.evo,hVw.k fun b h=>h.1,qE,by omega,fun h2=>(by have:=qal (by omega);cases this)⟩,by omega,hTo.evo⟩,(by show 2-(a+1)<2-a;omega)⟩
   ·have hDI:∀ {W:World} {A:Nat→Prop},aT M0 5 1 W dv dat.length (bc dat)→bT (fun b=>w.heap.size≤b∧ov.ownBlock≠some b) W dv dat:=fun h=>h.toB (fun b hb _=>⟨by omega,fun e=>by have:=hOl b e;omega⟩)
    have hD0:=hD
    obtain⟨q8,c8,hq8,_,_⟩:=hD0.form
    subst hq8
    refine jA 2 rfl<|lF rfl rfl<|WL.nil<|jA 2 rfl<|WC.exit<|jA 9 rfl<|Hq (az (cs:=[_,_]) Fo.h rfl rfl) ?_
    replace he:=he.t hE
    have hs11:=he.s
    replace hb10:=hb10.m hE
    have hx11b10:=hb10.lt
    refine WL.l rfl (ll [_]) ?_
    rintro _ w11 ⟨rfl,hb11,e11⟩
    have ns11:=e11.s
    replace hVw:=(hVw.m hE).m e11
    replace hOw:=(hOw.m hE).m e11
    replace hD:=hD.m e11
    refine WL.l rfl (DM Fo.h rfl rfl (hO.m hOw.evo) (hVw.k fun b h=>h.1) (bg.one (p:=(code,dat)) (hDI (A:=fun _=>True) hD)) (Src.at Fb.h (iN hb11) rfl rfl) (by omega) (by simp only[maxLen];omega) (by omega)) ?_
    rintro v12 w12 ⟨hO,hV,e12⟩
    have ns12:=e12.s
    refine jC 2 rfl<|jA 1 rfl<|ai rfl rfl rfl<|jC 2 rfl ?_
    have qEn:∀q∈ps++[(code,dat)],yb q.1 l q.2:=fun q hq=>by
     rcases List.mem_append.1 hq with h|h
     ·exact qE q h
     ·rw[List.mem_singleton.1 h];exact(qEl rfl).2
    replace hTo:=((hTo.m hE).m e11).m e12
    exact⟨(a+1,_),sb,sb,⟨⟨ps++[(code,dat)],_,by rw[List.length_append];exact hO,hV,qEn,by simp;omega,fun _=>by simp⟩,by omega,hTo.evo⟩,(by show 2-(a+1)<2-a;omega)⟩
 ·obtain rfl:a=2:=by omega
  refine jA 2 rfl<|lF rfl rfl<|WL.nil<|jA 2 rfl<|WC.exit<|jA 5 rfl<|WC.ret ?_
  replace he:=he.t hE
  exact aw rfl ⟨ps,qne (by omega),nps,qE,ei.own hO rfl (hV.k fun b h=>h.1) (fun b hb=>by show w.heap.size≤b;omega),he.k fun b hb _=>hb⟩
theorem jh(h:n<256):(UInt8.ofNat n).toNat=n:=by
 rw[UInt8.toNat_ofNat'];exact Nat.mod_eq_of_lt h
theorem ra{s l:Int}{c8 c32:UInt8}(hs:s=(c8.toNat:Int))(hl:l=(c32.toNat:Int)){d:List UInt8}{c:Nat}(hc:c≤d.length)(hc2:c≤65536)(hd:d.length≤1000000000){p:ie}(h:p∈gi s l d (some c)):
  ∃(u:UInt8) (hd:List UInt8),p.1=(u.toNat:Int)∧p.2=hd++d∧Hd c8 c32 u hd c d:=by
 simp only[gi,fx]at h
 rcases List.mem_append.1 h with h|h
 ·split at h
  ·cases h
  ·rename_i q1
   split at h
   ·cases h
   ·rename_i q2
    have e:=List.mem_singleton.1 h
    subst e
    simp at q1 q2
    refine⟨c8,_,hs,(List.append_assoc _ _ _).symm,.inl ⟨UInt8.ofNat (d.length+1),UInt8.ofNat c,rfl,?_,?_,?_,hc⟩⟩
    ·simp[aI]
    ·rw[jh (by omega)]
    ·rw[jh (by omega)]
 ·split at h
  ·cases h
  ·split at h
   ·cases h
   ·have e:=List.mem_singleton.1 h
    subst e
    have b1:=ew (d.length+4) 4
    have b2:=ew c 4
    have p4:(256:Nat)^4=4294967296:=by decide
    rw[p4,Nat.mod_eq_of_lt (by omega)]at b1 b2
    refine⟨c32,_,hl,(List.append_assoc _ _ _).symm,.inr ⟨_,_,_,_,_,_,_,_,rfl,rfl,?_,?_,hc2,hc⟩⟩
    ·exact b1.symm
    ·exact b2
theorem rc{s l:Int}{c:Option Nat}:gi s l d c≠[]:=by
 cases c with
 |none=>exact fun h=>by have:=fk (s:=s) (l:=l) (d:=d);rw[h]at this;cases this
 |some c=>
  simp only[gi,fx]
  rw[if_neg (show¬(4=1∧255<c) by omega),if_neg (show¬(4=1∧255<d.length+4) by omega)]
  simp
theorem Pc.pos(h:Pc x u b)(hu:u∈fQ)(h17:x.kind=17→x.text.length=16):1≤b.length:=by
 cases h with
 |null=>exact absurd hu (by decide)
 |tt=>exact absurd hu (by decide)
 |ff=>exact absurd hu (by decide)
 |uint0=>exact absurd hu (by decide)
 |ulong0=>exact absurd hu (by decide)
 |list0=>exact absurd hu (by decide)
 |num hc=>rw[bh];rcases iz hc with h|h|h|h|h|h|h|h|h|h|h<;>omega
 |uuid=>have:=h17 rfl;simp only[V.text]at this;omega
 |list _ hh=>rcases hh with⟨_,_,e,_⟩|⟨_,_,_,_,_,_,_,_,e,_⟩<;>(subst e;exact absurd hu (by decide))
 |map _ hh=>rcases hh with⟨_,_,e,_⟩|⟨_,_,_,_,_,_,_,_,e,_⟩<;>(subst e;exact absurd hu (by decide))
 |arr _ _ hh=>rcases hh with⟨_,_,e,_⟩|⟨_,_,_,_,_,_,_,_,e,_⟩<;>(subst e;exact absurd hu (by decide))
 |_=>simp[txt,bh];try omega
theorem bY.len{u:UInt8}:∀ {l:List V} {bs:List UInt8},u∈fQ→(∀x∈l,x.kind=17→x.text.length=16)→bY u l bs→l.length≤bs.length
 |[],bs,_,_,h=>by simp
 |x::r,bs,hu,hq,h=>by
  cases h with
  |cons h1 h2=>
   have:=bY.len hu (fun y hy=>hq y (by simp[hy])) h2
   have:=h1.pos hu (hq x (by simp))
   simp;omega
def A2(x:V):Prop:=∀(cx:List Value) (fb:Nat) (w:World),aC (fun b=>b≠fb) w x cx→Fm w fb→vol x≤1000000000→Wt x→
 ah TP 62 [.pointer (some ⟨fb,0,none⟩),.agg cx.toArray] w fun r w'=>iZ w.heap.size x r w'∧Fm w' fb∧am (fun k=>k≠fb) w w'
def pV(x:V):Prop:=∀(cx:List Value) (fb:Nat) (w:World),aC (fun b=>b≠fb) w x cx→Fm w fb→vol x≤1000000000→Wt x→
 ah TP 34 [.agg cx.toArray,.pointer (some ⟨fb,0,none⟩)] w fun r w'=>∃bs,g8 x bs∧aT w.heap.size 5 1 w' r bs.length (bc bs)∧Fm w' fb∧am (fun k=>k≠fb) w w'
theorem El(u:UInt8):IntKind.u8.wrap (u.toNat:Int)=(u.toNat:Int):=by
 have h1:IntKind.u8.wrap (u.toNat:Int)=(u.toNat:Int)%256:=rfl
 have:=u.toNat_lt
 omega
theorem yx{o:Int}{cx:List Value}{kk:Int}(hx:aC (fun b=>b≠fb) w (.mk 23 n t ks o d) cx)(hF:Fm w fb)(hv:vol (.mk 23 n t ks o d)≤1000000000)(hne:0<ks.length)(hl:ks.length≤1000)(hkk:dp kk)(hall:∀x∈ks,x.kind=kk∧bI x):
  ah TP 88 [.pointer (some ⟨fb,0,none⟩),.agg cx.toArray] w fun r w'=>iZ w.heap.size (.mk 23 n t ks o d) r w'∧Fm w' fb∧am (fun k=>k≠fb) w w':=by
 obtain⟨pk,ck,pd,cd,rfl,_,_,hK,_⟩:=hx.openV
 have:=hF.lt
 rw[vol]at hv
 have hvk:=jx ks
 obtain⟨b0,o0,c0,rfl,_,hA0,l0,hR0⟩:=hK.kid hne
 rcases hf0:bA ks 0 with⟨k0,n0,t0,ks0,oo0,d0⟩
 obtain⟨qk0,qp0⟩:=hall _ (bf hne)
 rw[hf0]at hR0 qk0 qp0
 have hd0:d0=[]:=qp0.2.2.2.1
 subst hd0
 simp only[V.kind]at qk0
 obtain⟨pk0,ck0,pd0,cd0,rfl,_,_,_,_⟩:=hR0.openV
 rw[← qk0]at hkk hall
 replace hK:=hK.weakW (B:=fun b=>b<w.heap.size∧b≠fb) (fun b hb h=>⟨hb,h⟩)
 have q0l:b0<w.heap.size:=bD (hA0.get (j:=0) rfl)
 refine aR Tryz.func88 ?_
 have he:am (fun b=>b<w.heap.size∧b≠fb) w w:=am.refl w
 refine jA 2 rfl ?_
 have:=he.s
 refine Hb rfl fun w1 hb1 e1=>?_
 have:=hb1.lt
 have:=e1.s
 refine jD 5 rfl<|ld rfl hb1 rfl<|jD 6 rfl<|ld rfl hb1 rfl<|jC 1 rfl<|Hq (ae (aS rfl rfl) (decide_eq_true (by(omega))))<|jD 4 rfl<|ld rfl hb1 rfl<|ix rfl rfl rfl<|jC 1 rfl ?_
 replace hA0:=hA0.m e1
 refine Hq (ao Fb.h rfl Xr (hA0.get (j:=0) rfl))<|jD 7 rfl<|ld rfl hb1 rfl ?_
 replace hK:=hK.m e1
 refine cl rfl (sx hK hl hkk hall (by omega)) ?_
 rintro v2 w2 ⟨ps,qne,qln,qEl,hX,e2⟩
 have hX0:=hX
 obtain⟨pp,pc,pcs,hpv,_⟩:=hX0
 subst hpv
 have qpos:0<ps.length:=List.length_pos_iff.2 qne
 have:=e2.s
 refine jD 8 rfl ?_
 replace hF:=(hF.m e1).m e2
 refine cl rfl (jM hF (by omega) (by omega)) ?_
 rintro v3 w3 ⟨⟨ki,qki,rfl⟩,hF,e3⟩
 have hX2:=hX.m e3 (fun b _ hb2=>by have:_≤b:=hb2;show b≠fb;omega)
 obtain⟨b2,o2,pv,hpe,qb2,hZA,hZI,qov⟩:=hX2.kid qki
 subst hpe
 obtain⟨u,qu,quc,quE⟩:=qEl _ (List.getElem_mem qki)
 have nuE:=quE.vol
 have:=e3.s
 refine ix rfl rfl rfl<|Hq (ad Fo.h rfl Xr hZA (hn:=rfl)) ?_
 replace he:=((he.t e1).t e2).t e3
 have:=he.s
 replace hb1:=(hb1.m e2).m e3
 have:=hb1.lt
 refine Ha fun w4 hb4 e4=>?_
 have:=hb4.lt
 have:=e4.s
 refine Ho rfl rfl hb4 fun w5 hb4 e5 hz5=>?_
 have:=e5.s
 refine jD 4 rfl<|ld rfl hb4 rfl<|Hq (bp (m:=(u.toNat:Int)) Fo.h rfl (by rw[quc];exact El u))<|WL.l rfl (cZ (vs:=[_]) Fo.h rfl rfl rfl rfl rfl) ?_
 rintro v6 w6 ⟨rfl,hOl,e6⟩
 have:=e6.s
 refine jC 1 rfl ?_
 replace hb4:=hb4.m e6
 refine ld rfl hb4 rfl ?_
 replace hZI:=(hZI.m (e4.t e5)).m e6
 refine WL.l rfl (bz Fo.h rfl rfl hOl (Src.isB Fb.h hZI) (by omega) (by simp only[maxLen];omega) (by omega)) ?_
 rintro v7 w7 ⟨hO,e7⟩
 have hZB:=hO.toB (l:=u::ps[ki].2) (A:=fun b=>w.heap.size≤b) (fun b hb _=>by show w.heap.size≤b;omega)
 obtain⟨q7,c7,hq7,_,_⟩:=hO.form
 subst hq7
 have:=e7.s
 refine jD 6 rfl ?_
 replace hb1:=((hb1.m (e4.t e5)).m e6).m e7
 refine ld rfl hb1 rfl<|jC 1 rfl<|Hq (ae (aS rfl rfl) (decide_eq_true (by(omega))))<|jC 2 rfl<|lg rfl rfl rfl hb1 rfl<|Hg rfl rfl (bd Fo.h rfl rfl rfl)<|jC 1 rfl ?_
 replace hA0:=((((hA0.m e2).m e3).m (e4.t e5)).m e6).m e7
 refine Hg rfl rfl (ao Fb.h rfl Xr (hA0.get (j:=5) rfl))<|jC 1 rfl<|Hg rfl rfl (ae (aS rfl rfl) (decide_eq_false (by(decide))))<|jD 4 rfl<|jA 4 rfl<|ld rfl hb1 rfl<|jC 1 rfl<|cl rfl (dW (c:=some ks.length) hZB (by simp;omega) (fun n h=>by cases h;omega)) ?_
 rintro v8 w8 ⟨hL,e8⟩
 have:=e8.s
 refine jC 2 rfl<|WC.ret ?_
 have hX3:=hL.toX
 have qG:wS (.mk 23 n t ks o d) (gi 224 240 (u::ps[ki].2) (some ks.length)):=by
  refine⟨fun p hp=>?_,Nat.le_trans fX (by omega),rc,fun h=>absurd h (by show¬dp 23;unfold dp;omega)⟩
  obtain⟨u',hd,e1,e2,hH⟩:=ra (c8:=0xe0) (c32:=0xf0) rfl rfl (by have:=bY.len qu (fun x hx=>(hall x hx).2.2.2.1) quE;simp;omega) (by omega) (by simp;omega) hp
  exact⟨u',e1,by rw[e2];exact .arr qu quE hH⟩
 replace hF:=(((hF.m (e4.t e5)).m e6).m e7).m e8
 replace he:=(((he.t (e4.t e5)).t e6).t e7).t e8
 exact aw rfl ⟨⟨_,qG,hX3.low fun b h=>by show w.heap.size≤b;omega⟩,hF,he.k fun b hb h=>⟨hb,h⟩⟩
end Go.Proofs.LL
