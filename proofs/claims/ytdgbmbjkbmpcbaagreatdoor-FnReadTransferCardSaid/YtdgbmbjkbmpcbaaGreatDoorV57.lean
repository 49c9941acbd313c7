/- Contracts of functions and own laws. Conditions: those that each theorem states. -/
import Derived.Test.YtdgbmbjkbmpcbaaGreatDoorV56
set_option linter.all false
set_option autoImplicit true
set_option relaxedAutoImplicit true
set_option maxRecDepth 20000
namespace Go.Proofs.LL
open Go Go.Proofs Go.RowKit
set_option maxHeartbeats 4000000
attribute [local irreducible] ar WL WC cq WT WX
theorem DJ{args:Array Value}(h:args.size≤16):wO TP 41 args:=wO.of Tryz.func41 rfl rfl rfl rfl qX rfl h
theorem Rd.keepM{v:Value}{vs:List Value}(h:Rd w rb l)(e:am (fun k=>k≠b) w w')(hb:aH w b (v::vs))(hv:∀z,v≠ .int .u8 z)(hne:rb≠b):Rd w' rb l:=by
 obtain⟨bs,i,⟨db,c,h1,h2,h3,h4,h5,h6⟩,h7⟩:=h
 refine⟨bs,i,⟨db,c,h1.m e hne,?_,h3,h4,h5,h6⟩,h7⟩
 by_cases hbe:db=b
 ·intro j hj
  have h8:=h2 0 (by omega)
  rw[hbe,Nat.zero_add]at h8
  have h9:=hb.get (j:=0) (v:=v) rfl
  rw[h9]at h8
  exact absurd (Option.some.inj h8) (hv _)
 ·exact h2.m e hbe
theorem oW.one(h:oW A w x cs):cs.all (fun v=>v.oneCell')=true:=by
 obtain⟨dv,tv,fv,rv,sv,pv',rfl,hD,hI,hM,hU,hS,hP⟩:=h.ex
 obtain⟨pd,cd,rfl,_⟩:=hD.ex
 obtain⟨pm,cm,rfl,_⟩:=hM.ex
 obtain⟨pu,cu,rfl,_⟩:=hU.ex
 obtain⟨ps,cs,rfl,_⟩:=hS.ex
 obtain⟨pt,ct,rfl,_⟩:=hI
 obtain⟨pp,cp,rfl,_⟩:=hP
 rfl
theorem mO{cu:UInt8}{du hd body r:List UInt8}(hok:kK x)(hA:∀s∈x.st,ia s)(htl:x.tag.length≤1000000000)(hI:bT A w data (0::((cu::du)++(hd++(body++r)))))(hbl:(0::((cu::du)++(hd++(body++r)))).length≤1000000000)
  (hK:FR ks x) (hP:Pc (uV 20) cu du) (hh:di hd ks.length body) (hEn:bw ks body) (hUT:UT w):
  ah TP 15 [data] w fun rr w'=>∃x' cells rest,rr= .tuple #[.agg cells.toArray,rest,.bool true]∧oW (fun b=>w.heap.size≤b) w' x' cells∧Ew x x'∧x'.pay=r∧kK x'∧bT (fun b=>w.heap.size≤b) w' rest r∧ay w w':=by
 have:=hUT.lt
 have hrl:r.length≤1000000000:=by simp only[List.length_cons,List.length_append]at hbl;omega
 refine uj (rs:=[.cell 2 47,.cell 3 28,.cell 4 4]) Tryz.func15 rfl rfl rfl ?_
 have he:=XI w
 refine uA 1 rfl ?_
 have:=he.s
 refine Ha fun w1 hb1 e1=>?_
 replace he:=he.t e1
 have:=he.s
 have:=hb1.lt
 refine Ha fun w2 hb2 e2=>?_
 replace he:=he.t e2
 have:=he.s
 replace hb1:=hb1.m e2
 have:=hb1.lt
 have:=hb2.lt
 refine Ha fun w3 hb3 e3=>?_
 refine WL.nil ?_
 refine⟨rfl,_,rfl,DJ (Nat.le_of_ble_eq_true rfl),?_⟩
 refine uA 3 rfl<|cl rfl (bH (hI.m ((e1.t e2).t e3) (fun _ _ _=>trivial)) hbl) ?_
 rintro v4 w4 ⟨⟨N,nN,qO⟩,e4⟩
 have:=e4.s
 have:=hb3.lt
 obtain⟨pb,cb,hrv,hcb,hfb⟩:=qO.form
 obtain⟨db,rfl,hdb,hdl,hat⟩:=hfb (by simp)
 subst hrv
 refine cl rfl (C0 (A:=A) hat.bytes hcb (by omega) hdl) ?_
 rintro v5 w5 ⟨rfl,qR0,nrl,e5⟩
 refine uD 4 rfl ?_
 replace he:=((he.t e3).t e4).t e5
 have:=he.s
 replace hb1:=((hb1.m e3).m e4).m e5
 have:=hb1.lt
 replace hb2:=((hb2.m e3).m e4).m e5
 have:=hb2.lt
 replace hb3:=(hb3.m e4).m e5
 have:=hb3.lt
 refine Ha fun w6 hb6 e6=>?_
 refine uD 7 rfl<|cl rfl (Ex hok hA hK hP hh hEn (by omega) hb6 hrl (qR0.m e6)) ?_
 rintro v7 w7 ⟨rfl,⟨v1,v2,v3,v6',v7',v11,hb6,qP1,qI2,qP3,qP6,qS7,qI11⟩,qR,e7⟩
 refine Hq (aB Fb.h rfl)<|uD 3 rfl<|uA 3 rfl ?_
 replace hUT:=((((((hUT.m e1).m e2).m e3).m e4).m e5).m e6).m e7
 refine cl rfl (oJ hok hA hUT hb6 qP1 qI2 htl qP3 qP6 qS7 qI11 hrl) ?_
 rintro v8 w8 ⟨x',cells,rfl,hXR,qB,qpay,qok,e8⟩
 have:=e7.s
 have:=e6.s
 have:=e8.s
 have qb1:=((hb1.m e6).m e7).m e8
 have qb3:=((hb3.m e6).m e7).m e8
 have hX0:=hXR.ex
 obtain⟨dv,tv,fv,rv,sv,pv',rfl,_⟩:=hX0
 have q1:=hXR.one
 refine uC 3 rfl ?_
 replace hb1:=((hb1.m e6).m e7).m e8
 refine Ho rfl rfl hb1 fun w9 hb1 e9 hz9=>?_
 replace hb3:=(((hb3.m e6).m e7).m e8).m e9
 refine Hp rfl rfl hb3 fun w10 hb3 e10 hz10=>?_
 refine uD 4 rfl<|ld rfl hb3 rfl<|uD 4 rfl ?_
 replace hUT:=((hUT.m e8).m e9).m e10
 replace hb1:=hb1.m e10
 replace hb2:=((((hb2.m e6).m e7).m e8).m e9).m e10
 replace hb6:=((hb6.m e8).m e9).m e10
 replace hXR:=(hXR.m e9).m e10
 refine WC.seq<|WC.regionDL 4 (tt [0,1]++ff [2,3,4,5,6]) (ay _) mixed (by kernel_rfl) Xd<|He (fun _ hS=>ad Fo.h rfl hS hb1.at (hn:=by first|rfl|assumption))<|uE 1 rfl<|cd rfl (dN ((((qR.m e8).keepM e9 qb1 (fun z h=>by cases h) (by omega)).keep e10 (qb3.m e9) rfl (by omega)).m Xd)) ?_
 rintro v11 w11 ⟨qBy,e11⟩
 refine⟨(Vd.t e11),?_⟩
 refine cd rfl (bH qBy (by simp only[List.length_cons,List.length_append]at hbl;omega)) ?_
 rintro v12 w12 ⟨⟨N2,nN2,hO2⟩,e12⟩
 have hro:=hO2.one
 have:=e9.s
 have:=e10.s
 have nq11:w10.heap.size≤w11.heap.size:=e11.s
 refine⟨((Vd.t e11).t e12),?_⟩
 replace hb1:=((hb1.m Xd).m e11).m e12
 refine WD.l0L rfl rfl (bj rfl rfl hb1) ?_
 rintro _ w13 ⟨hb1,e13,hz13⟩
 replace hb2:=(((hb2.m Xd).m e11).m e12).m e13
 refine WT.l0 rfl (lst rfl rfl hb2) ?_
 rintro _ w14 ⟨hb2,e14,hz14⟩
 replace hb3:=((((hb3.m Xd).m e11).m e12).m e13).m e14
 refine WT.l0 rfl (lst rfl rfl hb3) ?_
 rintro _ w15 ⟨hb3,e15,hz15⟩
 refine WT.nil<|WC.ret ?_
 replace hb1:=(hb1.m e14).m e15
 replace hb2:=hb2.m e15
 replace hXR:=(((((hXR.m Xd).m e11).m e12).m e13).m e14).m e15
 replace hO2:=((hO2.m e13).m e14).m e15
 replace he:=((((((((((he.t e6).t e7).t e8).t e9).t e10).t Xd).t e11).t e12).t e13).t e14).t e15
 exact DH (vs:=[.agg _,_,.bool true]) ⟨.inl ⟨_,0,[_,_,_,_,_,_,_,_,_,_,_,_],rfl,fP,hb1.at,rfl⟩,.inr ⟨_,rfl,DX,hb2.get rfl⟩,.inr ⟨_,rfl,Fd,hb3.get rfl⟩,trivial⟩ ⟨x',_,_,rfl,hXR.lowW (fun b _ h=>by omega),qB,qpay,qok,hO2.toB (fun b h _=>by show w.heap.size≤b;omega),he⟩
end Go.Proofs.LL
namespace Go.Proofs.LL
open Go Go.Proofs Go.RowKit
set_option maxHeartbeats 4000000
attribute [local irreducible] ar WL WC cq WT WX
theorem gY{v:V}(hv:v.kind≠23)(h:fw v aX y):y=v:=by
 rcases h with rfl|⟨rfl,h|⟨h,_⟩⟩|⟨h,_⟩
 ·rfl
 ·exact h.symm
 ·exact absurd rfl h
 ·exact absurd h hv
theorem nT{k:Int}(hk:k≠23){l:List Nat}(hl:l.length≤1)(h:fw (nv k l) aX y):wM k y l:=by
 match l,hl,h with
 |[],_,h=>
  obtain rfl:=gY (by show¬((0:Int)=23);decide) h
  exact .inl ⟨fu,rfl⟩
 |[n],_,h=>
  obtain rfl:=gY (v:=nv k [n]) hk h
  exact .inr ⟨n,rfl,rfl,rfl,rfl⟩
theorem s7{l:List gF}(hl:l.length≤1)(h:fw (dF l) aX y):CV y l:=by
 match l,hl,h with
 |[],_,h=>
  obtain rfl:=gY (by show¬((0:Int)=23);decide) h
  exact .inl ⟨fu,rfl⟩
 |[s],_,h=>
  obtain rfl:=gY (v:=dF [s]) (by show¬((21:Int)=23);decide) h
  exact .inr ⟨s,rfl,rfl,rfl,rfl⟩
theorem Em{ks:List V}(hok:kK x)(hk:ks.length≤11)(hp:∀i (h:i<(jy x).length),fw (jy x)[i].1 (jy x)[i].2 (bA ks i)):FR ks x where
 len:=hk
 f0:=by
  have h:=gY (v:=pv 4 x.hdl []) (by show¬((4:Int)=23);decide) (hp 0 (by rw[dS];omega))
  rw[h]
  exact⟨rfl,rfl,rfl⟩
 f1:=nT (by decide) hok.did.1 (hp 1 (by rw[dS];omega))
 f2:=s8 (by decide) (hp 2 (by rw[dS];omega))
 f3:=nT (by decide) hok.fmt.1 (hp 3 (by rw[dS];omega))
 f4:=ji (by decide) (by decide) (hp 4 (by rw[dS];omega))
 f5:=ji (by decide) (by decide) (hp 5 (by rw[dS];omega))
 f6:=nT (by decide) hok.rm.1 (hp 6 (by rw[dS];omega))
 f7:=s7 hok.st.1 (hp 7 (by rw[dS];omega))
 f8:=ji (by decide) (by decide) (hp 8 (by rw[dS];omega))
 f9:=ji (by decide) (by decide) (hp 9 (by rw[dS];omega))
 f10:=ji (by decide) (by decide) (hp 10 (by rw[dS];omega))
theorem bm{ks:List V}{r:List UInt8}(hok:kK x)(hA:∀s∈x.st,ia s)(htl:x.tag.length≤1000000000)(hk:ks.length≤11)(hp:∀i (h:i<(jy x).length),fw (jy x)[i].1 (jy x)[i].2 (bA ks i))(hE:g8 (.mk 21 0 [] ks 0 [uV 20]) bs)(hI:bT A w data (bs++r))(hbl:(bs++r).length≤1000000000)(hUT:UT w):
  ah TP 15 [data] w fun rr w'=>∃x' cells rest,rr= .tuple #[.agg cells.toArray,rest,.bool true]∧oW (fun b=>w.heap.size≤b) w' x' cells∧Ew x x'∧x'.pay=r∧kK x'∧bT (fun b=>w.heap.size≤b) w' rest r∧ay w w':=by
 obtain⟨cu,du,hd',body,rfl,hP,hEn,hh⟩:=hE.comp rfl rfl rfl
 have e:0::((cu::du)++(hd'++body))++r=0::((cu::du)++(hd'++(body++r))):=by simp
 rw[e]at hI hbl
 exact mO hok hA htl hI hbl (Em hok hk hp) hP hh hEn hUT
theorem fB(h:bF ((jy x).map (·.1))≤900000000):x.tag.length≤1000000000:=by
 rcases Decidable.em (x.tag=[])with h0|h0
 ·rw[h0];exact Nat.zero_le _
 ·have e:tV 18 x.tag=pv 18 0 x.tag:=if_neg h0
  simp only[jy,List.map_cons,bF,e,pv,vol]at h
  omega
end Go.Proofs.LL
namespace Go.Proofs.LL
open Go Go.Proofs Go.RowKit
set_option maxHeartbeats 4000000
attribute [local irreducible] ar WL WC cq WT WX
def CB:Xf:=⟨1,[],[],[],false,false,[],[],false,false,false,[120]⟩
theorem rM:kK CB:=⟨by decide,⟨by decide,fun n h=>by cases h⟩,⟨by decide,fun n h=>by cases h⟩,⟨by decide,fun n h=>by cases h⟩,⟨by decide,fun n h=>by cases h⟩⟩
theorem rL:∀s∈CB.st,ia s:=fun s h=>by cases h
theorem Ch:bF ((jy CB).map (·.1))≤900000000:=by
 simp[CB,jy,tV,nv,dF,pv,aX,bF,vol]
theorem Cg:aE (dF CB.st)≤999999999:=by
 simp[CB,dF,aX,aE,aj]
theorem CC(h:bT A w v [120]):oW A w CB [.int .u32 1,.slice none 0 0,.slice none 0 0,.slice none 0 0,.bool false,.bool false,.slice none 0 0,.slice none 0 0,.bool false,.bool false,.bool false,v]:=
 ⟨_,_,_,_,_,_,rfl,dT.nil,bT.nil,dT.nil,dT.nil,⟨none,0,rfl,Nat.le_refl _,fun h=>by cases h⟩,h⟩
theorem DR{b:Nat}(ht:xg P t d=true)(hx:ov ρ x=some (.slice (some ⟨b,0,none⟩) n c))(hB:aH w b cs):
  aA P (.convert t t x) ty ρ w (fun v w'=>v= .slice (some ⟨b,0,none⟩) n c∧At w' b 0 cs∧am (fun k=>k≠b) w w'):=by
 simp only[xg,Bool.and_eq_true]at ht
 obtain⟨e,i,hu,he,hi,hsz⟩:=ju ht.1
 obtain⟨T,h⟩:=hB
 have hsh:w.shape? b=some (T,cs.length):=by
  unfold World.shape?
  rw[h]
  simp
 have hfz:∀k,(w.freeze ⟨b,cs.length,none⟩ 1).heap[k]?=if b=k then some (.cells cs.toArray T (cs.length,cs.length+1))else w.heap[k]?:=by
  intro k
  unfold World.freeze
  rw[if_neg (by decide)]
  show(w.heap.modify b _)[k]?=_
  rw[Array.getElem?_modify]
  split
  ·rename_i hk
   subst hk
   rw[h]
   rfl
  ·rfl
 refine aA.of_eq fun N D a dst pos af g ha=>⟨.slice (some ⟨b,0,none⟩) n c,w.freeze ⟨b,cs.length,none⟩ 1,?_,rfl,?_,?_⟩
 ·simp[execOp,ha.ov hx,convert,run_underlying hu,run_underlying he,markStringish,hsh]
 ·intro j _
  have h0:=hfz b
  rw[if_pos rfl]at h0
  simp[World.cell?,h0]
 ·refine⟨?_,?_,?_,?_,fun k _ hk=>?_⟩
  ·unfold World.freeze;rw[if_neg (by decide)]
  ·unfold World.freeze;rw[if_neg (by decide)]
  ·unfold World.freeze;rw[if_neg (by decide)]
  ·unfold World.freeze;rw[if_neg (by decide)];simp
  ·rw[hfz k,if_neg fun e=>hk e.symm]
theorem bT.one8(h:At w b 0 [.int .u8 120]):bT (fun k=>k<w.heap.size) w (.slice (some ⟨b,0,none⟩) 1 1) [120]:=by
 have h0:=h 0 (by simp)
 refine⟨_,_,rfl,Nat.le_refl _,fun _=>⟨b,0,rfl,bD h0,fun j hj=>?_⟩⟩
 have hj0:j=0:=by simp at hj;omega
 subst hj0
 exact h0
theorem oW.len(h:oW A w x cs):cs.length=12:=by
 obtain⟨_,_,_,_,_,_,rfl,_⟩:=h.ex
 rfl
theorem aT.ob(h:aT B e z w v n xs):∀k,v.ownBlock=some k→B≤k∧k<w.heap.size:=by
 intro k hk
 obtain⟨_,h2⟩:=h.row
 rcases h2 with⟨rfl,_⟩|⟨g,cap,cur,rfl,h4,h5,_⟩
 ·simp[Value.ownBlock]at hk
 ·simp[Value.ownBlock]at hk
  subst hk
  exact⟨h4,(Array.getElem?_eq_some_iff.1 h5).1⟩
theorem er{e z bs:Nat}{zv v:Value}(hob:∀k,v.ownBlock=some k→B≤k∧k<N)(ht:fG P t=some (e,z,bs,zv))(hs:ov ρ s=some v)(hx:ov ρ x=some u)(hown:aT B e z w v n xs)(hsrc:Src P z tx u m news w)(hB:B≤w.heap.size)(h63:n+m≤maxLen)(hbytes:(n+m) * bs≤140737488355328):
  aA P (.call ⟨.builtin .append, #[s,x], #[t,tx]⟩) ty ρ w (fun v' w'=>aT B e z w' v' (n+m) (xs++news)∧am (fun k=>k<B∨N≤k) w w'):=
 (eF ht hs hx hown hsrc hB h63 hbytes).imp fun v' w' ⟨h1,h2,_⟩=>⟨h1,h2.k fun k _ h hk=>by have h3:=hob k hk;omega⟩
theorem DS{z:Int}(hX:oW A w x cs)(hhd:x.hdl<4294967296)(hdi:∀n∈x.did,n<4294967296)(hfm:∀n∈x.fmt,n<4294967296)(hrm:∀n∈x.rm,n<256)(hst:∀s∈x.st,s.num<4294967296∧s.off<18446744073709551616)(hz:0≤z∧z<18446744073709551616)(hUT:UT w):
  ah TP 4 [.agg cs.toArray,.int .u64 z] w fun r w'=>r= .bool true∧ay w w':=by
 have:=hUT.lt
 replace hX:=hX.lowW (B:=fun b=>b<w.heap.size) (fun b hb _=>hb)
 have hX0:=hX.ex
 obtain⟨dv,tv,fv,rv,sv,pv',rfl,hD,hI,hM,hU,hS,hP⟩:=hX0
 obtain⟨pd,cd,rfl,_⟩:=hD.ex
 obtain⟨pm,cm,rfl,_⟩:=hM.ex
 obtain⟨pu,cu,rfl,_⟩:=hU.ex
 obtain⟨ps,cs,rfl,_⟩:=hS.ex
 have hI0:=hI
 obtain⟨pt,ct,rfl,_⟩:=hI0
 have hP0:=hP
 obtain⟨pp,cp,rfl,_⟩:=hP0
 refine aR Tryz.func4 ?_
 have he:=Hi w
 refine uA 2 rfl ?_
 have hs1:=he.s
 refine Hb rfl fun w1 hb1 e1=>?_
 have:=hb1.lt
 have:=e1.s
 refine uD 5 rfl<|la rfl hb1 ?_
 replace hX:=hX.m e1
 refine cl rfl (tJ hX) ?_
 rintro v2 w2 ⟨z0,rfl,e2⟩
 have:=e2.s
 cases z0
 ·refine uD 7 rfl<|WC.ret ?_
  replace he:=(he.t e1).t e2
  exact aw rfl ⟨rfl,he.k fun k hk _=>hk⟩
 ·refine uD 4 rfl<|uA 2 rfl ?_
  replace he:=(he.t e1).t e2
  have hs3:=he.s
  replace hb1:=hb1.m e2
  have:=hb1.lt
  refine WL.l rfl (ll [_]) ?_
  rintro _ w3 ⟨rfl,hb3,e3⟩
  have:=e3.s
  refine WL.l rfl (DR (d:=9) Fb.h rfl hb3) ?_
  rintro v4 w4 ⟨rfl,hA4,e4⟩
  have hZS:=bT.one8 hA4
  have:=e4.s
  refine Hq (az (cs:=[_,_,_,_,_,_,_,_,_,_,_,_]) Fo.h rfl rfl) ?_
  replace he:=(he.t e3).t e4
  have:=he.s
  replace hb1:=(hb1.m e3).m e4
  have:=hb1.lt
  refine Ha fun w5 hb5 e5=>?_
  have:=hb5.lt
  have:=e5.s
  refine Ho rfl rfl hb5 fun w6 hb5 e6 hz6=>?_
  have:=e6.s
  refine uD 3 rfl<|la rfl hb5 ?_
  replace hZS:=hZS.m (e5.t e6)
  refine cl rfl (bO (CC hZS) rM) ?_
  rintro v7 w7 ⟨a,b,rfl,hC,e7⟩
  have hZC:=hC.lowW (B:=fun b=>b<w7.heap.size) (fun b hb _=>hb)
  have:=e7.s
  refine Hq (az (cs:=[_,_]) Fo.h rfl rfl) ?_
  replace he:=(he.t (e5.t e6)).t e7
  have:=he.s
  replace hb1:=(hb1.m (e5.t e6)).m e7
  have:=hb1.lt
  replace hb5:=hb5.m e7
  have:=hb5.lt
  refine Hb rfl fun w8 hb8 e8=>?_
  have:=hb8.lt
  have:=e8.s
  replace hZC:=hZC.m e8
  refine cl rfl (iA hZC ⟨0,true,by omega,by omega,hb8⟩ (fun b h=>by omega) (eW rM rL) Ch) ?_
  rintro v9 w9 ⟨ks,bs,qk,qp,qE,qbl,hO,e9⟩
  have:=e9.s
  replace hUT:=(((((((hUT.m e1).m e2).m e3).m e4).m (e5.t e6)).m e7).m e8).m e9
  refine cl rfl (bm (x:=CB) (r:=[]) rM rL (by decide) qk qp qE (by rw[List.append_nil];exact hO.toB (A:=fun _=>True) (fun _ _ _=>trivial)) (by rw[List.append_nil];omega) hUT) ?_
  rintro v10 w10 ⟨x1,c1,rest,rfl,hZR1,qB1,_,qok1,_,e10⟩
  obtain⟨dv1,tv1,fv1,rv1,sv1,pv1,rfl,hd1,hi1,hm1,hu1,hs1,hZP1⟩:=hZR1.ex
  obtain⟨_,_,rfl,_⟩:=hd1.ex
  obtain⟨_,_,rfl,_⟩:=hm1.ex
  obtain⟨_,_,rfl,_⟩:=hu1.ex
  obtain⟨_,_,rfl,_⟩:=hs1.ex
  obtain⟨_,_,rfl,_⟩:=hi1
  have hp1:=hZP1
  obtain⟨_,_,rfl,_⟩:=hp1
  have:=e10.s
  refine uC 4 rfl ?_
  replace he:=((he.t e8).t e9).t e10
  have:=he.s
  replace hb1:=((hb1.m e8).m e9).m e10
  have:=hb1.lt
  replace hb5:=((hb5.m e8).m e9).m e10
  have:=hb5.lt
  refine Ha fun w11 hb11 e11=>?_
  have:=hb11.lt
  have:=e11.s
  refine Ho rfl rfl hb11 fun w12 hb11 e12 hz12=>?_
  have:=e12.s
  refine uC 3 rfl ?_
  replace hX:=((((((((hX.m e2).m e3).m e4).m (e5.t e6)).m e7).m e8).m e9).m e10).m (e11.t e12)
  replace hUT:=(hUT.m e10).m (e11.t e12)
  replace hP:=(((((((((hP.m e1).m e2).m e3).m e4).m (e5.t e6)).m e7).m e8).m e9).m e10).m (e11.t e12)
  replace hb1:=hb1.m (e11.t e12)
  replace hZS:=((((hZS.m e7).m e8).m e9).m e10).m (e11.t e12)
  replace hb5:=hb5.m (e11.t e12)
  replace hZR1:=hZR1.m (e11.t e12)
  replace hZP1:=hZP1.m (e11.t e12)
  refine WC.seq<|WC.regionD (tt [0,1,2,4]++ff [3,5,6]++tt [7,8]) (ay _) mixed (by kernel_rfl) Xd ?_
  have nd1w12:w12.drew.heap.size=w12.heap.size:=rfl
  refine uE 2 rfl<|Hf rfl rfl (fun _ hS=>ad Fo.h rfl hS hb5.at (hn:=by first|rfl|assumption))<|Hf rfl rfl (fun _ hS=>ad Fo.h rfl hS hb11.at (hn:=by first|rfl|assumption))<|WD.lg rfl rfl rfl rfl rfl (cD Fb.h rfl (bO (CC (hZS.m Xd)) rM)) ?_
  rintro v13 w13 ⟨a1,b1,rfl,hCa,e13⟩
  have:=e13.s
  refine⟨(Vd.t e13),?_⟩
  refine WD.lg rfl rfl rfl rfl rfl (cD Fb.h rfl (bO ((hZR1.m Xd).m e13) qok1)) ?_
  rintro v14 w14 ⟨a2,b2,rfl,hCb,e14⟩
  have:=e14.s
  refine⟨((Vd.t e13).t e14),?_⟩
  refine WD.lg rfl rfl rfl rfl rfl (cD Fb.h rfl (wu (hCa.m e14) hCb qB1 rL Cg)) ?_
  rintro v15 w15 ⟨rfl,e15⟩
  have:=e15.s
  refine⟨(((Vd.t e13).t e14).t e15),?_⟩
  refine uE 2 rfl<|WD.nil<|uA 3 rfl ?_
  replace hb1:=(((hb1.m Xd).m e13).m e14).m e15
  refine la rfl hb1 ?_
  replace hX:=(((hX.m Xd).m e13).m e14).m e15
  replace hUT:=(((hUT.m Xd).m e13).m e14).m e15
  refine cl rfl (lG hX hrm hUT) ?_
  rintro v16 w16 ⟨z1,rfl,qz,e16⟩
  have:=e16.s
  cases z1
  ·refine uD 14 rfl<|WC.ret ?_
   replace he:=(((((he.t (e11.t e12)).t Xd).t e13).t e14).t e15).t e16
   exact aw rfl ⟨rfl,he.k fun k hk _=>hk⟩
  ·obtain⟨qd,qf,qr,⟨qs,qA⟩,qp⟩:=qz rfl
   have hok:kK x:=⟨hhd,⟨qd,hdi⟩,⟨qf,hfm⟩,⟨qr,hrm⟩,⟨qs,fun s hs=>⟨(qA s hs).code,(hst s hs).1,(hst s hs).2,(qA s hs).flt⟩⟩⟩
   refine uC 2 rfl ?_
   replace hb1:=hb1.m e16
   refine Hg rfl rfl (ad Fo.h rfl Xr hb1.at (hn:=by first|rfl|assumption)) ?_
   replace hX:=hX.m e16
   refine WL.lg rfl rfl rfl rfl (cD Fb.h rfl (bO hX hok)) ?_
   rintro v17 w17 ⟨a3,b3,rfl,hCf,e17⟩
   have:=e17.s
   replace hUT:=(hUT.m e16).m e17
   refine WL.lg rfl rfl rfl rfl (cD Fb.h rfl (AY hCf (by rw[dS];omega) hUT)) ?_
   rintro v18 w18 ⟨z2,rfl,qfit,e18⟩
   have:=e18.s
   cases z2
   ·refine uD 9 rfl<|WC.ret ?_
    replace he:=(((((((he.t (e11.t e12)).t Xd).t e13).t e14).t e15).t e16).t e17).t e18
    exact aw rfl ⟨rfl,he.k fun k hk _=>hk⟩
   ·obtain⟨qV,qc⟩:=qfit rfl
    obtain⟨nvol,ncs⟩:=Ad qV qc
    refine uD 5 rfl ?_
    replace hX:=(hX.m e17).m e18
    replace hUT:=hUT.m e18
    replace hP:=((((((hP.m Xd).m e13).m e14).m e15).m e16).m e17).m e18
    replace hb1:=(hb1.m e17).m e18
    replace hZS:=((((((hZS.m Xd).m e13).m e14).m e15).m e16).m e17).m e18
    replace hb5:=((((((hb5.m Xd).m e13).m e14).m e15).m e16).m e17).m e18
    replace hZP1:=((((((hZP1.m Xd).m e13).m e14).m e15).m e16).m e17).m e18
    replace hb11:=((((((hb11.m Xd).m e13).m e14).m e15).m e16).m e17).m e18
    replace hCf:=hCf.m e18
    replace he:=(((((((he.t (e11.t e12)).t Xd).t e13).t e14).t e15).t e16).t e17).t e18
    refine WC.seqJ (ι:=Nat×Value) [(2,_),(4,_),(9,_)] (fun i=>[(10,.pointer (some ⟨i.1,0,none⟩)),(11,i.2),(12,.bool true)]) (fun i wi=>∃x3 cells,aH wi i.1 cells∧oW (fun b=>w.heap.size≤b) wi x3 cells∧Ew x x3∧x3.pay=x.pay∧kK x3∧bT (fun b=>w.heap.size≤b) wi i.2 x.pay∧ay w18 wi) sb ?_ ?_
    ·refine WC.regionT (.q 0 (.q 2 (.q 3 (.q 6 (.q 7 (.alt (.l 1 (.alt (.l 4 (.alt (.l 5 (.alt (.l 8 (.alt (.l 9 (.q 10 (.q 11 (.q 12 (.q 13 (.l 14 (.l 15 (.q 16 (.q 17 (.nil)))))))))) (.l 14 (.l 9 (.q 10 (.q 11 (.q 12 (.q 13 (.l 15 (.q 16 (.q 17 (.nil)))))))))))) (.l 14 (.l 8 (.l 9 (.q 10 (.q 11 (.q 12 (.q 13 (.l 15 (.q 16 (.q 17 (.nil))))))))))))) (.l 14 (.l 5 (.l 8 (.l 9 (.q 10 (.q 11 (.q 12 (.q 13 (.l 15 (.q 16 (.q 17 (.nil)))))))))))))) (.l 14 (.l 4 (.l 5 (.l 8 (.l 9 (.q 10 (.q 11 (.q 12 (.q 13 (.l 15 (.q 16 (.q 17 (.nil))))))))))))))) (.alt (.l 4 (.alt (.l 1 (.alt (.l 5 (.alt (.l 8 (.alt (.l 9 (.q 10 (.q 11 (.q 12 (.q 13 (.l 14 (.l 15 (.q 16 (.q 17 (.nil)))))))))) (.l 14 (.l 9 (.q 10 (.q 11 (.q 12 (.q 13 (.l 15 (.q 16 (.q 17 (.nil)))))))))))) (.l 14 (.l 8 (.l 9 (.q 10 (.q 11 (.q 12 (.q 13 (.l 15 (.q 16 (.q 17 (.nil))))))))))))) (.l 14 (.l 5 (.l 8 (.l 9 (.q 10 (.q 11 (.q 12 (.q 13 (.l 15 (.q 16 (.q 17 (.nil)))))))))))))) (.l 14 (.l 1 (.l 5 (.l 8 (.l 9 (.q 10 (.q 11 (.q 12 (.q 13 (.l 15 (.q 16 (.q 17 (.nil))))))))))))))) (.l 14 (.alt (.l 1 (.l 4 (.l 5 (.l 8 (.l 9 (.q 10 (.q 11 (.q 12 (.q 13 (.l 15 (.q 16 (.q 17 (.nil))))))))))))) (.l 4 (.l 1 (.l 5 (.l 8 (.l 9 (.q 10 (.q 11 (.q 12 (.q 13 (.l 15 (.q 16 (.q 17 (.nil)))))))))))))))))))))) (ay _) mixed (by kernel_rfl) Xd ?_
     have nd1w18:w18.drew.heap.size=w18.heap.size:=rfl
     refine Hx rfl (fun _ hS=>ad Fo.h rfl hS hb1.at (hn:=by first|rfl|assumption))<|Hy rfl (aq rfl)<|Hy rfl (az (cs:=[_,_]) Fo.h rfl rfl)<|Hy rfl (aa rfl Fo.h)<|Hx rfl (fun _ hS=>ao Fb.h rfl hS (hb1.get rfl))<|WX.alt ?_ ?_
     ·refine cx rfl rfl (bO (hX.m Xd) hok) ?_
      rintro v19 w19 ⟨a4,b4,rfl,hC4,e19⟩
      have hZC4:=hC4.lowW (B:=fun b=>(b<w.heap.size∨w18.heap.size≤b)∧b<w19.heap.size) (fun b hb h=>by(try dsimp only at h);omega)
      have ns19:=e19.s
      refine⟨(Vd.t e19),?_⟩
      refine WX.alt ?_ ?_
      ·replace he:=(he.t Xd).t e19
       have hs20:=he.s
       replace hb1:=(hb1.m Xd).m e19
       have hx20b1:=hb1.lt
       replace hb11:=(hb11.m Xd).m e19
       have hx20b11:=hb11.lt
       replace hb5:=(hb5.m Xd).m e19
       have hx20b5:=hb5.lt
       refine WX.l rfl rfl (gS rfl) ?_
       rintro _ w20 ⟨rfl,hb20,e20⟩
       have nx20:=hb20.lt
       have ns20:=e20.s
       refine⟨((Vd.t e19).t e20),?_⟩
       refine WX.alt ?_ ?_
       ·refine cx rfl rfl (iA (hZC4.m e20) ⟨z,false,hz.1,hz.2,hb20⟩ (fun b h=>by(try dsimp only at h);omega) (eW hok qA) nvol) ?_
        rintro v21 w21 ⟨ks2,bs2,qk2,qp2,qE2,qbl2,hO2,e21⟩
        have qob:=hO2.ob
        obtain⟨q21,c21,hq21,_,_⟩:=hO2.form
        subst hq21
        have ns21:=e21.s
        refine⟨(((Vd.t e19).t e20).t e21),?_⟩
        refine WX.alt ?_ ?_
        ·refine WX.l rfl rfl (er qob Fo.h rfl rfl hO2 (Src.isB Fb.h ((((hP.m Xd).m e19).m e20).m e21)) (by omega) (by simp only[maxLen];omega) (by omega)) ?_
         rintro v22 w22 ⟨hO3,e22⟩
         have hZB:=((hO3.low (B':=w.heap.size) (by omega)).cast rfl (bC bs2 x.pay).symm).toB (A:=fun b=>w.heap.size≤b) (fun b hb _=>hb)
         have ns22:=e22.s
         refine⟨((((Vd.t e19).t e20).t e21).t e22),?_⟩
         refine WX.alt ?_ ?_
         ·refine cx rfl rfl (bm hok qA (fB nvol) qk2 qp2 qE2 hZB (by rw[List.length_append];omega) (((((hUT.m Xd).m e19).m e20).m e21).m e22)) ?_
          rintro v23 w23 ⟨x3,c3,rest3,rfl,hZR3,qB3,qpay3,qok3,hI3,e23⟩
          have q23:=hZR3.one
          have qn23:=hZR3.len
          have ns23:=e23.s
          refine⟨(((((Vd.t e19).t e20).t e21).t e22).t e23),?_⟩
          refine Hy rfl (aq rfl)<|Hy rfl (aK rfl rfl)<|Hy rfl (aK rfl rfl)<|Hy rfl (aK rfl rfl) ?_
          replace he:=(((he.t e20).t e21).t e22).t e23
          have hs24:=he.s
          replace hb1:=(((hb1.m e20).m e21).m e22).m e23
          have hx24b1:=hb1.lt
          replace hb11:=(((hb11.m e20).m e21).m e22).m e23
          have hx24b11:=hb11.lt
          replace hb5:=(((hb5.m e20).m e21).m e22).m e23
          have hx24b5:=hb5.lt
          refine ax rfl ?_
          rintro _ w24 ⟨rfl,hb24,e24⟩
          have nx24:=hb24.lt
          have ns24:=e24.s
          refine⟨((((((Vd.t e19).t e20).t e21).t e22).t e23).t e24),?_⟩
          refine WX.l0 rfl (bj rfl rfl hb24) ?_
          rintro _ w25 ⟨hb24,e25,hz25⟩
          have ns25:=e25.s
          refine⟨(((((((Vd.t e19).t e20).t e21).t e22).t e23).t e24).t e25),?_⟩
          refine Hy rfl (ap rfl)<|Hy rfl (ap rfl)<|WX.nil ?_
          replace hZR3:=hZR3.m (e24.t e25)
          replace hI3:=hI3.m (e24.t e25)
          exact⟨(_,_),sb,sb,⟨x3,_,hb24,hZR3.lowW (fun b _ h=>by omega),qB3,qpay3,qok3,hI3.k (fun b _ h=>by omega),(((((((Xd.t e19).t e20).t e21).t e22).t e23).t e24).t e25)⟩⟩
         ·replace he:=((he.t e20).t e21).t e22
          have hs23:=he.s
          replace hb1:=((hb1.m e20).m e21).m e22
          have hx23b1:=hb1.lt
          replace hb11:=((hb11.m e20).m e21).m e22
          have hx23b11:=hb11.lt
          replace hb5:=((hb5.m e20).m e21).m e22
          have hx23b5:=hb5.lt
          refine ax rfl ?_
          rintro _ w23 ⟨rfl,hb23,e23⟩
          have nx23:=hb23.lt
          have ns23:=e23.s
          refine⟨(((((Vd.t e19).t e20).t e21).t e22).t e23),?_⟩
          refine cx rfl rfl (bm hok qA (fB nvol) qk2 qp2 qE2 (hZB.m e23) (by rw[List.length_append];omega) ((((((hUT.m Xd).m e19).m e20).m e21).m e22).m e23)) ?_
          rintro v24 w24 ⟨x3,c3,rest3,rfl,hZR3,qB3,qpay3,qok3,hI3,e24⟩
          have q24:=hZR3.one
          have qn24:=hZR3.len
          have ns24:=e24.s
          refine⟨((((((Vd.t e19).t e20).t e21).t e22).t e23).t e24),?_⟩
          refine Hy rfl (aq rfl)<|Hy rfl (aK rfl rfl)<|Hy rfl (aK rfl rfl)<|Hy rfl (aK rfl rfl) ?_
          replace hb23:=hb23.m e24
          refine WX.l0 rfl (bj rfl rfl hb23) ?_
          rintro _ w25 ⟨hb23,e25,hz25⟩
          have ns25:=e25.s
          refine⟨(((((((Vd.t e19).t e20).t e21).t e22).t e23).t e24).t e25),?_⟩
          refine Hy rfl (ap rfl)<|Hy rfl (ap rfl)<|WX.nil ?_
          replace hZR3:=hZR3.m e25
          replace hI3:=hI3.m e25
          exact⟨(_,_),sb,sb,⟨x3,_,hb23,hZR3.lowW (fun b _ h=>by omega),qB3,qpay3,qok3,hI3.k (fun b _ h=>by omega),(((((((Xd.t e19).t e20).t e21).t e22).t e23).t e24).t e25)⟩⟩
        ·replace he:=(he.t e20).t e21
         have hs22:=he.s
         replace hb1:=(hb1.m e20).m e21
         have hx22b1:=hb1.lt
         replace hb11:=(hb11.m e20).m e21
         have hx22b11:=hb11.lt
         replace hb5:=(hb5.m e20).m e21
         have hx22b5:=hb5.lt
         refine ax rfl ?_
         rintro _ w22 ⟨rfl,hb22,e22⟩
         have nx22:=hb22.lt
         have ns22:=e22.s
         refine⟨((((Vd.t e19).t e20).t e21).t e22),?_⟩
         refine WX.l rfl rfl (er qob Fo.h rfl rfl (hO2.m e22) (Src.isB Fb.h (((((hP.m Xd).m e19).m e20).m e21).m e22)) (by omega) (by simp only[maxLen];omega) (by omega)) ?_
         rintro v23 w23 ⟨hO3,e23⟩
         have hZB:=((hO3.low (B':=w.heap.size) (by omega)).cast rfl (bC bs2 x.pay).symm).toB (A:=fun b=>w.heap.size≤b) (fun b hb _=>hb)
         have ns23:=e23.s
         refine⟨(((((Vd.t e19).t e20).t e21).t e22).t e23),?_⟩
         refine cx rfl rfl (bm hok qA (fB nvol) qk2 qp2 qE2 hZB (by rw[List.length_append];omega) ((((((hUT.m Xd).m e19).m e20).m e21).m e22).m e23)) ?_
         rintro v24 w24 ⟨x3,c3,rest3,rfl,hZR3,qB3,qpay3,qok3,hI3,e24⟩
         have q24:=hZR3.one
         have qn24:=hZR3.len
         have ns24:=e24.s
         refine⟨((((((Vd.t e19).t e20).t e21).t e22).t e23).t e24),?_⟩
         refine Hy rfl (aq rfl)<|Hy rfl (aK rfl rfl)<|Hy rfl (aK rfl rfl)<|Hy rfl (aK rfl rfl) ?_
         replace hb22:=(hb22.m e23).m e24
         refine WX.l0 rfl (bj rfl rfl hb22) ?_
         rintro _ w25 ⟨hb22,e25,hz25⟩
         have ns25:=e25.s
         refine⟨(((((((Vd.t e19).t e20).t e21).t e22).t e23).t e24).t e25),?_⟩
         refine Hy rfl (ap rfl)<|Hy rfl (ap rfl)<|WX.nil ?_
         replace hZR3:=hZR3.m e25
         replace hI3:=hI3.m e25
         exact⟨(_,_),sb,sb,⟨x3,_,hb22,hZR3.lowW (fun b _ h=>by omega),qB3,qpay3,qok3,hI3.k (fun b _ h=>by omega),(((((((Xd.t e19).t e20).t e21).t e22).t e23).t e24).t e25)⟩⟩
       ·replace he:=he.t e20
        have hs21:=he.s
        replace hb1:=hb1.m e20
        have hx21b1:=hb1.lt
        replace hb11:=hb11.m e20
        have hx21b11:=hb11.lt
        have hx21b20:=hb20.lt
        replace hb5:=hb5.m e20
        have hx21b5:=hb5.lt
        refine ax rfl ?_
        rintro _ w21 ⟨rfl,hb21,e21⟩
        have nx21:=hb21.lt
        have ns21:=e21.s
        refine⟨(((Vd.t e19).t e20).t e21),?_⟩
        refine cx rfl rfl (iA ((hZC4.m e20).m e21) ⟨z,false,hz.1,hz.2,(hb20.m e21)⟩ (fun b h=>by(try dsimp only at h);omega) (eW hok qA) nvol) ?_
        rintro v22 w22 ⟨ks2,bs2,qk2,qp2,qE2,qbl2,hO2,e22⟩
        have qob:=hO2.ob
        obtain⟨q22,c22,hq22,_,_⟩:=hO2.form
        subst hq22
        have ns22:=e22.s
        refine⟨((((Vd.t e19).t e20).t e21).t e22),?_⟩
        refine WX.l rfl rfl (er qob Fo.h rfl rfl hO2 (Src.isB Fb.h (((((hP.m Xd).m e19).m e20).m e21).m e22)) (by omega) (by simp only[maxLen];omega) (by omega)) ?_
        rintro v23 w23 ⟨hO3,e23⟩
        have hZB:=((hO3.low (B':=w.heap.size) (by omega)).cast rfl (bC bs2 x.pay).symm).toB (A:=fun b=>w.heap.size≤b) (fun b hb _=>hb)
        have ns23:=e23.s
        refine⟨(((((Vd.t e19).t e20).t e21).t e22).t e23),?_⟩
        refine cx rfl rfl (bm hok qA (fB nvol) qk2 qp2 qE2 hZB (by rw[List.length_append];omega) ((((((hUT.m Xd).m e19).m e20).m e21).m e22).m e23)) ?_
        rintro v24 w24 ⟨x3,c3,rest3,rfl,hZR3,qB3,qpay3,qok3,hI3,e24⟩
        have q24:=hZR3.one
        have qn24:=hZR3.len
        have ns24:=e24.s
        refine⟨((((((Vd.t e19).t e20).t e21).t e22).t e23).t e24),?_⟩
        refine Hy rfl (aq rfl)<|Hy rfl (aK rfl rfl)<|Hy rfl (aK rfl rfl)<|Hy rfl (aK rfl rfl) ?_
        replace hb21:=((hb21.m e22).m e23).m e24
        refine WX.l0 rfl (bj rfl rfl hb21) ?_
        rintro _ w25 ⟨hb21,e25,hz25⟩
        have ns25:=e25.s
        refine⟨(((((((Vd.t e19).t e20).t e21).t e22).t e23).t e24).t e25),?_⟩
        refine Hy rfl (ap rfl)<|Hy rfl (ap rfl)<|WX.nil ?_
        replace hZR3:=hZR3.m e25
        replace hI3:=hI3.m e25
        exact⟨(_,_),sb,sb,⟨x3,_,hb21,hZR3.lowW (fun b _ h=>by omega),qB3,qpay3,qok3,hI3.k (fun b _ h=>by omega),(((((((Xd.t e19).t e20).t e21).t e22).t e23).t e24).t e25)⟩⟩
      ·replace he:=(he.t Xd).t e19
       have hs20:=he.s
       replace hb1:=(hb1.m Xd).m e19
       have hx20b1:=hb1.lt
       replace hb11:=(hb11.m Xd).m e19
       have hx20b11:=hb11.lt
       replace hb5:=(hb5.m Xd).m e19
       have hx20b5:=hb5.lt
       refine ax rfl ?_
       rintro _ w20 ⟨rfl,hb20,e20⟩
       have nx20:=hb20.lt
       have ns20:=e20.s
       refine⟨((Vd.t e19).t e20),?_⟩
       replace he:=he.t e20
       have hs21:=he.s
       replace hb1:=hb1.m e20
       have hx21b1:=hb1.lt
       replace hb11:=hb11.m e20
       have hx21b11:=hb11.lt
       have hx21b20:=hb20.lt
       replace hb5:=hb5.m e20
       have hx21b5:=hb5.lt
       refine WX.l rfl rfl (gS rfl) ?_
       rintro _ w21 ⟨rfl,hb21,e21⟩
       have nx21:=hb21.lt
       have ns21:=e21.s
       refine⟨(((Vd.t e19).t e20).t e21),?_⟩
       refine cx rfl rfl (iA ((hZC4.m e20).m e21) ⟨z,false,hz.1,hz.2,hb21⟩ (fun b h=>by(try dsimp only at h);omega) (eW hok qA) nvol) ?_
       rintro v22 w22 ⟨ks2,bs2,qk2,qp2,qE2,qbl2,hO2,e22⟩
       have qob:=hO2.ob
       obtain⟨q22,c22,hq22,_,_⟩:=hO2.form
       subst hq22
       have ns22:=e22.s
       refine⟨((((Vd.t e19).t e20).t e21).t e22),?_⟩
       refine WX.l rfl rfl (er qob Fo.h rfl rfl hO2 (Src.isB Fb.h (((((hP.m Xd).m e19).m e20).m e21).m e22)) (by omega) (by simp only[maxLen];omega) (by omega)) ?_
       rintro v23 w23 ⟨hO3,e23⟩
       have hZB:=((hO3.low (B':=w.heap.size) (by omega)).cast rfl (bC bs2 x.pay).symm).toB (A:=fun b=>w.heap.size≤b) (fun b hb _=>hb)
       have ns23:=e23.s
       refine⟨(((((Vd.t e19).t e20).t e21).t e22).t e23),?_⟩
       refine cx rfl rfl (bm hok qA (fB nvol) qk2 qp2 qE2 hZB (by rw[List.length_append];omega) ((((((hUT.m Xd).m e19).m e20).m e21).m e22).m e23)) ?_
       rintro v24 w24 ⟨x3,c3,rest3,rfl,hZR3,qB3,qpay3,qok3,hI3,e24⟩
       have q24:=hZR3.one
       have qn24:=hZR3.len
       have ns24:=e24.s
       refine⟨((((((Vd.t e19).t e20).t e21).t e22).t e23).t e24),?_⟩
       refine Hy rfl (aq rfl)<|Hy rfl (aK rfl rfl)<|Hy rfl (aK rfl rfl)<|Hy rfl (aK rfl rfl) ?_
       replace hb20:=(((hb20.m e21).m e22).m e23).m e24
       refine WX.l0 rfl (bj rfl rfl hb20) ?_
       rintro _ w25 ⟨hb20,e25,hz25⟩
       have ns25:=e25.s
       refine⟨(((((((Vd.t e19).t e20).t e21).t e22).t e23).t e24).t e25),?_⟩
       refine Hy rfl (ap rfl)<|Hy rfl (ap rfl)<|WX.nil ?_
       replace hZR3:=hZR3.m e25
       replace hI3:=hI3.m e25
       exact⟨(_,_),sb,sb,⟨x3,_,hb20,hZR3.lowW (fun b _ h=>by omega),qB3,qpay3,qok3,hI3.k (fun b _ h=>by omega),(((((((Xd.t e19).t e20).t e21).t e22).t e23).t e24).t e25)⟩⟩
     ·refine WX.alt ?_ ?_
      ·replace he:=he.t Xd
       have hs19:=he.s
       replace hb1:=hb1.m Xd
       have hx19b1:=hb1.lt
       replace hb11:=hb11.m Xd
       have hx19b11:=hb11.lt
       replace hb5:=hb5.m Xd
       have hx19b5:=hb5.lt
       refine WX.l rfl rfl (gS rfl) ?_
       rintro _ w19 ⟨rfl,hb19,e19⟩
       have nx19:=hb19.lt
       have ns19:=e19.s
       refine⟨(Vd.t e19),?_⟩
       refine WX.alt ?_ ?_
       ·refine cx rfl rfl (bO ((hX.m Xd).m e19) hok) ?_
        rintro v20 w20 ⟨a4,b4,rfl,hC4,e20⟩
        have hZC4:=hC4.lowW (B:=fun b=>(b<w.heap.size∨w19.heap.size≤b)∧b<w20.heap.size) (fun b hb h=>by(try dsimp only at h);omega)
        have ns20:=e20.s
        refine⟨((Vd.t e19).t e20),?_⟩
        refine WX.alt ?_ ?_
        ·refine cx rfl rfl (iA hZC4 ⟨z,false,hz.1,hz.2,(hb19.m e20)⟩ (fun b h=>by(try dsimp only at h);omega) (eW hok qA) nvol) ?_
         rintro v21 w21 ⟨ks2,bs2,qk2,qp2,qE2,qbl2,hO2,e21⟩
         have qob:=hO2.ob
         obtain⟨q21,c21,hq21,_,_⟩:=hO2.form
         subst hq21
         have ns21:=e21.s
         refine⟨(((Vd.t e19).t e20).t e21),?_⟩
         refine WX.alt ?_ ?_
         ·refine WX.l rfl rfl (er qob Fo.h rfl rfl hO2 (Src.isB Fb.h ((((hP.m Xd).m e19).m e20).m e21)) (by omega) (by simp only[maxLen];omega) (by omega)) ?_
          rintro v22 w22 ⟨hO3,e22⟩
          have hZB:=((hO3.low (B':=w.heap.size) (by omega)).cast rfl (bC bs2 x.pay).symm).toB (A:=fun b=>w.heap.size≤b) (fun b hb _=>hb)
          have ns22:=e22.s
          refine⟨((((Vd.t e19).t e20).t e21).t e22),?_⟩
          refine WX.alt ?_ ?_
          ·refine cx rfl rfl (bm hok qA (fB nvol) qk2 qp2 qE2 hZB (by rw[List.length_append];omega) (((((hUT.m Xd).m e19).m e20).m e21).m e22)) ?_
           rintro v23 w23 ⟨x3,c3,rest3,rfl,hZR3,qB3,qpay3,qok3,hI3,e23⟩
           have q23:=hZR3.one
           have qn23:=hZR3.len
           have ns23:=e23.s
           refine⟨(((((Vd.t e19).t e20).t e21).t e22).t e23),?_⟩
           refine Hy rfl (aq rfl)<|Hy rfl (aK rfl rfl)<|Hy rfl (aK rfl rfl)<|Hy rfl (aK rfl rfl) ?_
           replace he:=((((he.t e19).t e20).t e21).t e22).t e23
           have hs24:=he.s
           replace hb1:=((((hb1.m e19).m e20).m e21).m e22).m e23
           have hx24b1:=hb1.lt
           replace hb11:=((((hb11.m e19).m e20).m e21).m e22).m e23
           have hx24b11:=hb11.lt
           replace hb5:=((((hb5.m e19).m e20).m e21).m e22).m e23
           have hx24b5:=hb5.lt
           refine ax rfl ?_
           rintro _ w24 ⟨rfl,hb24,e24⟩
           have nx24:=hb24.lt
           have ns24:=e24.s
           refine⟨((((((Vd.t e19).t e20).t e21).t e22).t e23).t e24),?_⟩
           refine WX.l0 rfl (bj rfl rfl hb24) ?_
           rintro _ w25 ⟨hb24,e25,hz25⟩
           have ns25:=e25.s
           refine⟨(((((((Vd.t e19).t e20).t e21).t e22).t e23).t e24).t e25),?_⟩
           refine Hy rfl (ap rfl)<|Hy rfl (ap rfl)<|WX.nil ?_
           replace hZR3:=hZR3.m (e24.t e25)
           replace hI3:=hI3.m (e24.t e25)
           exact⟨(_,_),sb,sb,⟨x3,_,hb24,hZR3.lowW (fun b _ h=>by omega),qB3,qpay3,qok3,hI3.k (fun b _ h=>by omega),(((((((Xd.t e19).t e20).t e21).t e22).t e23).t e24).t e25)⟩⟩
          ·replace he:=(((he.t e19).t e20).t e21).t e22
           have hs23:=he.s
           replace hb1:=(((hb1.m e19).m e20).m e21).m e22
           have hx23b1:=hb1.lt
           replace hb11:=(((hb11.m e19).m e20).m e21).m e22
           have hx23b11:=hb11.lt
           replace hb5:=(((hb5.m e19).m e20).m e21).m e22
           have hx23b5:=hb5.lt
           refine ax rfl ?_
           rintro _ w23 ⟨rfl,hb23,e23⟩
           have nx23:=hb23.lt
           have ns23:=e23.s
           refine⟨(((((Vd.t e19).t e20).t e21).t e22).t e23),?_⟩
           refine cx rfl rfl (bm hok qA (fB nvol) qk2 qp2 qE2 (hZB.m e23) (by rw[List.length_append];omega) ((((((hUT.m Xd).m e19).m e20).m e21).m e22).m e23)) ?_
           rintro v24 w24 ⟨x3,c3,rest3,rfl,hZR3,qB3,qpay3,qok3,hI3,e24⟩
           have q24:=hZR3.one
           have qn24:=hZR3.len
           have ns24:=e24.s
           refine⟨((((((Vd.t e19).t e20).t e21).t e22).t e23).t e24),?_⟩
           refine Hy rfl (aq rfl)<|Hy rfl (aK rfl rfl)<|Hy rfl (aK rfl rfl)<|Hy rfl (aK rfl rfl) ?_
           replace hb23:=hb23.m e24
           refine WX.l0 rfl (bj rfl rfl hb23) ?_
           rintro _ w25 ⟨hb23,e25,hz25⟩
           have ns25:=e25.s
           refine⟨(((((((Vd.t e19).t e20).t e21).t e22).t e23).t e24).t e25),?_⟩
           refine Hy rfl (ap rfl)<|Hy rfl (ap rfl)<|WX.nil ?_
           replace hZR3:=hZR3.m e25
           replace hI3:=hI3.m e25
           exact⟨(_,_),sb,sb,⟨x3,_,hb23,hZR3.lowW (fun b _ h=>by omega),qB3,qpay3,qok3,hI3.k (fun b _ h=>by omega),(((((((Xd.t e19).t e20).t e21).t e22).t e23).t e24).t e25)⟩⟩
         ·replace he:=((he.t e19).t e20).t e21
          have hs22:=he.s
          replace hb1:=((hb1.m e19).m e20).m e21
          have hx22b1:=hb1.lt
          replace hb11:=((hb11.m e19).m e20).m e21
          have hx22b11:=hb11.lt
          replace hb5:=((hb5.m e19).m e20).m e21
          have hx22b5:=hb5.lt
          refine ax rfl ?_
          rintro _ w22 ⟨rfl,hb22,e22⟩
          have nx22:=hb22.lt
          have ns22:=e22.s
          refine⟨((((Vd.t e19).t e20).t e21).t e22),?_⟩
          refine WX.l rfl rfl (er qob Fo.h rfl rfl (hO2.m e22) (Src.isB Fb.h (((((hP.m Xd).m e19).m e20).m e21).m e22)) (by omega) (by simp only[maxLen];omega) (by omega)) ?_
          rintro v23 w23 ⟨hO3,e23⟩
          have hZB:=((hO3.low (B':=w.heap.size) (by omega)).cast rfl (bC bs2 x.pay).symm).toB (A:=fun b=>w.heap.size≤b) (fun b hb _=>hb)
          have ns23:=e23.s
          refine⟨(((((Vd.t e19).t e20).t e21).t e22).t e23),?_⟩
          refine cx rfl rfl (bm hok qA (fB nvol) qk2 qp2 qE2 hZB (by rw[List.length_append];omega) ((((((hUT.m Xd).m e19).m e20).m e21).m e22).m e23)) ?_
          rintro v24 w24 ⟨x3,c3,rest3,rfl,hZR3,qB3,qpay3,qok3,hI3,e24⟩
          have q24:=hZR3.one
          have qn24:=hZR3.len
          have ns24:=e24.s
          refine⟨((((((Vd.t e19).t e20).t e21).t e22).t e23).t e24),?_⟩
          refine Hy rfl (aq rfl)<|Hy rfl (aK rfl rfl)<|Hy rfl (aK rfl rfl)<|Hy rfl (aK rfl rfl) ?_
          replace hb22:=(hb22.m e23).m e24
          refine WX.l0 rfl (bj rfl rfl hb22) ?_
          rintro _ w25 ⟨hb22,e25,hz25⟩
          have ns25:=e25.s
          refine⟨(((((((Vd.t e19).t e20).t e21).t e22).t e23).t e24).t e25),?_⟩
          refine Hy rfl (ap rfl)<|Hy rfl (ap rfl)<|WX.nil ?_
          replace hZR3:=hZR3.m e25
          replace hI3:=hI3.m e25
          exact⟨(_,_),sb,sb,⟨x3,_,hb22,hZR3.lowW (fun b _ h=>by omega),qB3,qpay3,qok3,hI3.k (fun b _ h=>by omega),(((((((Xd.t e19).t e20).t e21).t e22).t e23).t e24).t e25)⟩⟩
        ·replace he:=(he.t e19).t e20
         have hs21:=he.s
         replace hb1:=(hb1.m e19).m e20
         have hx21b1:=hb1.lt
         replace hb11:=(hb11.m e19).m e20
         have hx21b11:=hb11.lt
         replace hb19:=hb19.m e20
         have hx21b19:=hb19.lt
         replace hb5:=(hb5.m e19).m e20
         have hx21b5:=hb5.lt
         refine ax rfl ?_
         rintro _ w21 ⟨rfl,hb21,e21⟩
         have nx21:=hb21.lt
         have ns21:=e21.s
         refine⟨(((Vd.t e19).t e20).t e21),?_⟩
         refine cx rfl rfl (iA (hZC4.m e21) ⟨z,false,hz.1,hz.2,(hb19.m e21)⟩ (fun b h=>by(try dsimp only at h);omega) (eW hok qA) nvol) ?_
         rintro v22 w22 ⟨ks2,bs2,qk2,qp2,qE2,qbl2,hO2,e22⟩
         have qob:=hO2.ob
         obtain⟨q22,c22,hq22,_,_⟩:=hO2.form
         subst hq22
         have ns22:=e22.s
         refine⟨((((Vd.t e19).t e20).t e21).t e22),?_⟩
         refine WX.l rfl rfl (er qob Fo.h rfl rfl hO2 (Src.isB Fb.h (((((hP.m Xd).m e19).m e20).m e21).m e22)) (by omega) (by simp only[maxLen];omega) (by omega)) ?_
         rintro v23 w23 ⟨hO3,e23⟩
         have hZB:=((hO3.low (B':=w.heap.size) (by omega)).cast rfl (bC bs2 x.pay).symm).toB (A:=fun b=>w.heap.size≤b) (fun b hb _=>hb)
         have ns23:=e23.s
         refine⟨(((((Vd.t e19).t e20).t e21).t e22).t e23),?_⟩
         refine cx rfl rfl (bm hok qA (fB nvol) qk2 qp2 qE2 hZB (by rw[List.length_append];omega) ((((((hUT.m Xd).m e19).m e20).m e21).m e22).m e23)) ?_
         rintro v24 w24 ⟨x3,c3,rest3,rfl,hZR3,qB3,qpay3,qok3,hI3,e24⟩
         have q24:=hZR3.one
         have qn24:=hZR3.len
         have ns24:=e24.s
         refine⟨((((((Vd.t e19).t e20).t e21).t e22).t e23).t e24),?_⟩
         refine Hy rfl (aq rfl)<|Hy rfl (aK rfl rfl)<|Hy rfl (aK rfl rfl)<|Hy rfl (aK rfl rfl) ?_
         replace hb21:=((hb21.m e22).m e23).m e24
         refine WX.l0 rfl (bj rfl rfl hb21) ?_
         rintro _ w25 ⟨hb21,e25,hz25⟩
         have ns25:=e25.s
         refine⟨(((((((Vd.t e19).t e20).t e21).t e22).t e23).t e24).t e25),?_⟩
         refine Hy rfl (ap rfl)<|Hy rfl (ap rfl)<|WX.nil ?_
         replace hZR3:=hZR3.m e25
         replace hI3:=hI3.m e25
         exact⟨(_,_),sb,sb,⟨x3,_,hb21,hZR3.lowW (fun b _ h=>by omega),qB3,qpay3,qok3,hI3.k (fun b _ h=>by omega),(((((((Xd.t e19).t e20).t e21).t e22).t e23).t e24).t e25)⟩⟩
       ·replace he:=he.t e19
        have hs20:=he.s
        replace hb1:=hb1.m e19
        have hx20b1:=hb1.lt
        replace hb11:=hb11.m e19
        have hx20b11:=hb11.lt
        have hx20b19:=hb19.lt
        replace hb5:=hb5.m e19
        have hx20b5:=hb5.lt
        refine ax rfl ?_
        rintro _ w20 ⟨rfl,hb20,e20⟩
        have nx20:=hb20.lt
        have ns20:=e20.s
        refine⟨((Vd.t e19).t e20),?_⟩
        refine cx rfl rfl (bO (((hX.m Xd).m e19).m e20) hok) ?_
        rintro v21 w21 ⟨a4,b4,rfl,hC4,e21⟩
        have hZC4:=hC4.lowW (B:=fun b=>(b<w.heap.size∨w20.heap.size≤b)∧b<w21.heap.size) (fun b hb h=>by(try dsimp only at h);omega)
        have ns21:=e21.s
        refine⟨(((Vd.t e19).t e20).t e21),?_⟩
        refine cx rfl rfl (iA hZC4 ⟨z,false,hz.1,hz.2,((hb19.m e20).m e21)⟩ (fun b h=>by(try dsimp only at h);omega) (eW hok qA) nvol) ?_
        rintro v22 w22 ⟨ks2,bs2,qk2,qp2,qE2,qbl2,hO2,e22⟩
        have qob:=hO2.ob
        obtain⟨q22,c22,hq22,_,_⟩:=hO2.form
        subst hq22
        have ns22:=e22.s
        refine⟨((((Vd.t e19).t e20).t e21).t e22),?_⟩
        refine WX.l rfl rfl (er qob Fo.h rfl rfl hO2 (Src.isB Fb.h (((((hP.m Xd).m e19).m e20).m e21).m e22)) (by omega) (by simp only[maxLen];omega) (by omega)) ?_
        rintro v23 w23 ⟨hO3,e23⟩
        have hZB:=((hO3.low (B':=w.heap.size) (by omega)).cast rfl (bC bs2 x.pay).symm).toB (A:=fun b=>w.heap.size≤b) (fun b hb _=>hb)
        have ns23:=e23.s
        refine⟨(((((Vd.t e19).t e20).t e21).t e22).t e23),?_⟩
        refine cx rfl rfl (bm hok qA (fB nvol) qk2 qp2 qE2 hZB (by rw[List.length_append];omega) ((((((hUT.m Xd).m e19).m e20).m e21).m e22).m e23)) ?_
        rintro v24 w24 ⟨x3,c3,rest3,rfl,hZR3,qB3,qpay3,qok3,hI3,e24⟩
        have q24:=hZR3.one
        have qn24:=hZR3.len
        have ns24:=e24.s
        refine⟨((((((Vd.t e19).t e20).t e21).t e22).t e23).t e24),?_⟩
        refine Hy rfl (aq rfl)<|Hy rfl (aK rfl rfl)<|Hy rfl (aK rfl rfl)<|Hy rfl (aK rfl rfl) ?_
        replace hb20:=(((hb20.m e21).m e22).m e23).m e24
        refine WX.l0 rfl (bj rfl rfl hb20) ?_
        rintro _ w25 ⟨hb20,e25,hz25⟩
        have ns25:=e25.s
        refine⟨(((((((Vd.t e19).t e20).t e21).t e22).t e23).t e24).t e25),?_⟩
        refine Hy rfl (ap rfl)<|Hy rfl (ap rfl)<|WX.nil ?_
        replace hZR3:=hZR3.m e25
        replace hI3:=hI3.m e25
        exact⟨(_,_),sb,sb,⟨x3,_,hb20,hZR3.lowW (fun b _ h=>by omega),qB3,qpay3,qok3,hI3.k (fun b _ h=>by omega),(((((((Xd.t e19).t e20).t e21).t e22).t e23).t e24).t e25)⟩⟩
      ·replace he:=he.t Xd
       have hs19:=he.s
       replace hb1:=hb1.m Xd
       have hx19b1:=hb1.lt
       replace hb11:=hb11.m Xd
       have hx19b11:=hb11.lt
       replace hb5:=hb5.m Xd
       have hx19b5:=hb5.lt
       refine ax rfl ?_
       rintro _ w19 ⟨rfl,hb19,e19⟩
       have nx19:=hb19.lt
       have ns19:=e19.s
       refine⟨(Vd.t e19),?_⟩
       refine WX.alt ?_ ?_
       ·refine cx rfl rfl (bO ((hX.m Xd).m e19) hok) ?_
        rintro v20 w20 ⟨a4,b4,rfl,hC4,e20⟩
        have hZC4:=hC4.lowW (B:=fun b=>(b<w.heap.size∨w19.heap.size≤b)∧b<w20.heap.size) (fun b hb h=>by(try dsimp only at h);omega)
        have ns20:=e20.s
        refine⟨((Vd.t e19).t e20),?_⟩
        replace he:=(he.t e19).t e20
        have hs21:=he.s
        replace hb1:=(hb1.m e19).m e20
        have hx21b1:=hb1.lt
        replace hb11:=(hb11.m e19).m e20
        have hx21b11:=hb11.lt
        replace hb19:=hb19.m e20
        have hx21b19:=hb19.lt
        replace hb5:=(hb5.m e19).m e20
        have hx21b5:=hb5.lt
        refine WX.l rfl rfl (gS rfl) ?_
        rintro _ w21 ⟨rfl,hb21,e21⟩
        have nx21:=hb21.lt
        have ns21:=e21.s
        refine⟨(((Vd.t e19).t e20).t e21),?_⟩
        refine cx rfl rfl (iA (hZC4.m e21) ⟨z,false,hz.1,hz.2,hb21⟩ (fun b h=>by(try dsimp only at h);omega) (eW hok qA) nvol) ?_
        rintro v22 w22 ⟨ks2,bs2,qk2,qp2,qE2,qbl2,hO2,e22⟩
        have qob:=hO2.ob
        obtain⟨q22,c22,hq22,_,_⟩:=hO2.form
        subst hq22
        have ns22:=e22.s
        refine⟨((((Vd.t e19).t e20).t e21).t e22),?_⟩
        refine WX.l rfl rfl (er qob Fo.h rfl rfl hO2 (Src.isB Fb.h (((((hP.m Xd).m e19).m e20).m e21).m e22)) (by omega) (by simp only[maxLen];omega) (by omega)) ?_
        rintro v23 w23 ⟨hO3,e23⟩
        have hZB:=((hO3.low (B':=w.heap.size) (by omega)).cast rfl (bC bs2 x.pay).symm).toB (A:=fun b=>w.heap.size≤b) (fun b hb _=>hb)
        have ns23:=e23.s
        refine⟨(((((Vd.t e19).t e20).t e21).t e22).t e23),?_⟩
        refine cx rfl rfl (bm hok qA (fB nvol) qk2 qp2 qE2 hZB (by rw[List.length_append];omega) ((((((hUT.m Xd).m e19).m e20).m e21).m e22).m e23)) ?_
        rintro v24 w24 ⟨x3,c3,rest3,rfl,hZR3,qB3,qpay3,qok3,hI3,e24⟩
        have q24:=hZR3.one
        have qn24:=hZR3.len
        have ns24:=e24.s
        refine⟨((((((Vd.t e19).t e20).t e21).t e22).t e23).t e24),?_⟩
        refine Hy rfl (aq rfl)<|Hy rfl (aK rfl rfl)<|Hy rfl (aK rfl rfl)<|Hy rfl (aK rfl rfl) ?_
        replace hb19:=(((hb19.m e21).m e22).m e23).m e24
        refine WX.l0 rfl (bj rfl rfl hb19) ?_
        rintro _ w25 ⟨hb19,e25,hz25⟩
        have ns25:=e25.s
        refine⟨(((((((Vd.t e19).t e20).t e21).t e22).t e23).t e24).t e25),?_⟩
        refine Hy rfl (ap rfl)<|Hy rfl (ap rfl)<|WX.nil ?_
        replace hZR3:=hZR3.m e25
        replace hI3:=hI3.m e25
        exact⟨(_,_),sb,sb,⟨x3,_,hb19,hZR3.lowW (fun b _ h=>by omega),qB3,qpay3,qok3,hI3.k (fun b _ h=>by omega),(((((((Xd.t e19).t e20).t e21).t e22).t e23).t e24).t e25)⟩⟩
       ·replace he:=he.t e19
        have hs20:=he.s
        replace hb1:=hb1.m e19
        have hx20b1:=hb1.lt
        replace hb11:=hb11.m e19
        have hx20b11:=hb11.lt
        have hx20b19:=hb19.lt
        replace hb5:=hb5.m e19
        have hx20b5:=hb5.lt
        refine WX.l rfl rfl (gS rfl) ?_
        rintro _ w20 ⟨rfl,hb20,e20⟩
        have nx20:=hb20.lt
        have ns20:=e20.s
        refine⟨((Vd.t e19).t e20),?_⟩
        refine cx rfl rfl (bO (((hX.m Xd).m e19).m e20) hok) ?_
        rintro v21 w21 ⟨a4,b4,rfl,hC4,e21⟩
        have hZC4:=hC4.lowW (B:=fun b=>(b<w.heap.size∨w20.heap.size≤b)∧b<w21.heap.size) (fun b hb h=>by(try dsimp only at h);omega)
        have ns21:=e21.s
        refine⟨(((Vd.t e19).t e20).t e21),?_⟩
        refine cx rfl rfl (iA hZC4 ⟨z,false,hz.1,hz.2,(hb20.m e21)⟩ (fun b h=>by(try dsimp only at h);omega) (eW hok qA) nvol) ?_
        rintro v22 w22 ⟨ks2,bs2,qk2,qp2,qE2,qbl2,hO2,e22⟩
        have qob:=hO2.ob
        obtain⟨q22,c22,hq22,_,_⟩:=hO2.form
        subst hq22
        have ns22:=e22.s
        refine⟨((((Vd.t e19).t e20).t e21).t e22),?_⟩
        refine WX.l rfl rfl (er qob Fo.h rfl rfl hO2 (Src.isB Fb.h (((((hP.m Xd).m e19).m e20).m e21).m e22)) (by omega) (by simp only[maxLen];omega) (by omega)) ?_
        rintro v23 w23 ⟨hO3,e23⟩
        have hZB:=((hO3.low (B':=w.heap.size) (by omega)).cast rfl (bC bs2 x.pay).symm).toB (A:=fun b=>w.heap.size≤b) (fun b hb _=>hb)
        have ns23:=e23.s
        refine⟨(((((Vd.t e19).t e20).t e21).t e22).t e23),?_⟩
        refine cx rfl rfl (bm hok qA (fB nvol) qk2 qp2 qE2 hZB (by rw[List.length_append];omega) ((((((hUT.m Xd).m e19).m e20).m e21).m e22).m e23)) ?_
        rintro v24 w24 ⟨x3,c3,rest3,rfl,hZR3,qB3,qpay3,qok3,hI3,e24⟩
        have q24:=hZR3.one
        have qn24:=hZR3.len
        have ns24:=e24.s
        refine⟨((((((Vd.t e19).t e20).t e21).t e22).t e23).t e24),?_⟩
        refine Hy rfl (aq rfl)<|Hy rfl (aK rfl rfl)<|Hy rfl (aK rfl rfl)<|Hy rfl (aK rfl rfl) ?_
        replace hb19:=((((hb19.m e20).m e21).m e22).m e23).m e24
        refine WX.l0 rfl (bj rfl rfl hb19) ?_
        rintro _ w25 ⟨hb19,e25,hz25⟩
        have ns25:=e25.s
        refine⟨(((((((Vd.t e19).t e20).t e21).t e22).t e23).t e24).t e25),?_⟩
        refine Hy rfl (ap rfl)<|Hy rfl (ap rfl)<|WX.nil ?_
        replace hZR3:=hZR3.m e25
        replace hI3:=hI3.m e25
        exact⟨(_,_),sb,sb,⟨x3,_,hb19,hZR3.lowW (fun b _ h=>by omega),qB3,qpay3,qok3,hI3.k (fun b _ h=>by omega),(((((((Xd.t e19).t e20).t e21).t e22).t e23).t e24).t e25)⟩⟩
    ·intro i wj hh;obtain⟨x3,c3,hB3,hZR3,qB3,qpay3,qok3,hI3,hE⟩:=hh
     obtain⟨dv3,tv3,fv3,rv3,sv3,pv3,rfl,hd3,hi3,hm3,hu3,hs3,hZP3⟩:=hZR3.ex
     obtain⟨_,_,rfl,_⟩:=hd3.ex
     obtain⟨_,_,rfl,_⟩:=hm3.ex
     obtain⟨_,_,rfl,_⟩:=hu3.ex
     obtain⟨_,_,rfl,_⟩:=hs3.ex
     obtain⟨_,_,rfl,_⟩:=hi3
     have hp3:=hZP3
     obtain⟨_,_,rfl,_⟩:=hp3
     replace hX:=hX.m hE
     replace hUT:=hUT.m hE
     replace hP:=hP.m hE
     replace hb1:=hb1.m hE
     replace hZS:=hZS.m hE
     replace hb5:=hb5.m hE
     replace hZP1:=hZP1.m hE
     replace hb11:=hb11.m hE
     replace hCf:=hCf.m hE
     refine WC.seq<|WC.regionD (tt [0,1,2,4]++ff [3,5,6]++tt [7,8,9,10,11]++ff [12]++tt [13,14,15,16,17,18,19,20,21,22,23,24,25,26]) (ay _) mixed (by kernel_rfl) Xd ?_
     have nd1wj:wj.drew.heap.size=wj.heap.size:=rfl
     refine uE 2 rfl<|Hf rfl rfl (fun _ hS=>ad Fo.h rfl hS hb1.at (hn:=by first|rfl|assumption))<|Hf rfl rfl (fun _ hS=>ad Fo.h rfl hS hB3.at (hn:=by first|rfl|assumption))<|WD.lg rfl rfl rfl rfl rfl (cD Fb.h rfl (bO (hX.m Xd) hok)) ?_
     rintro v19 w19 ⟨a5,b5,rfl,hC5,e19⟩
     have ns19:=e19.s
     refine⟨(Vd.t e19),?_⟩
     refine WD.lg rfl rfl rfl rfl rfl (cD Fb.h rfl (bO ((hZR3.m Xd).m e19) qok3)) ?_
     rintro v20 w20 ⟨a6,b6,rfl,hC6,e20⟩
     have ns20:=e20.s
     refine⟨((Vd.t e19).t e20),?_⟩
     refine WD.lg rfl rfl rfl rfl rfl (cD Fb.h rfl (wu (hC5.m e20) hC6 qB3 qA ncs)) ?_
     rintro v21 w21 ⟨rfl,e21⟩
     have ns21:=e21.s
     refine⟨(((Vd.t e19).t e20).t e21),?_⟩
     refine uE 4 rfl<|bl rfl rfl rfl hb1 rfl<|WD.lg rfl rfl rfl rfl rfl (cD Fb.h rfl (By ((((hI3.m Xd).m e19).m e20).m e21) ((((hP.m Xd).m e19).m e20).m e21))) ?_
     rintro v22 w22 ⟨rfl,e22⟩
     have ns22:=e22.s
     refine⟨((((Vd.t e19).t e20).t e21).t e22),?_⟩
     refine uE 3 rfl<|bl rfl rfl rfl hB3 rfl<|Hf rfl rfl (fun _ hS=>gp Fb.h rfl hS hZP3)<|uE 1 rfl<|bl rfl rfl rfl hb1 rfl<|Hf rfl rfl (fun _ hS=>gp Fb.h rfl hS hP)<|Hf rfl rfl (fun _ hS=>k7 rfl rfl (by(rw[qpay3])))<|uE 5 rfl<|WD.nil<|WC.ret ?_
     replace he:=(((((he.t hE).t Xd).t e19).t e20).t e21).t e22
     exact aw rfl ⟨rfl,he.k fun k hk _=>hk⟩
end Go.Proofs.LL
