/- Contracts of functions of impl, spec and laws. Conditions: those that each theorem states. -/
import Derived.Test.YtdgbmbjkbmpcbaaGreatDoorW30
set_option linter.all false
set_option maxRecDepth 20000
namespace Go.Proofs.LL
open Go Go.Proofs Go.RowKit
set_option maxHeartbeats 4000000
attribute [local irreducible] RunOp WL WC WDL WT WX
def BackP(kk:Int)(l ys:List V):Prop:=∃es:List Ent,l=es.flatMap entF∧∃ps qs:List (V×V),Shown (fun k a=>a=pv kk 0 k.text) es ps∧qs.Perm ps∧ys=qs.flatMap pairF
def MapAsk2(l:List V):Prop:=MapAsk l∧ToldL l∧l.length≤1000
theorem tp177_ok{N0:Nat}{l:List V}{v:Value}{kk:Int}{w:World}(hA:MapAsk2 l)(hUT:UT w)(h:MapG N0 l w v):
  Does TP 79 [.int .i64 kk,v] w fun r w'=>∃sv ys,r= .tuple #[sv,.bool true]∧SlX (fun b=>w.heap.size≤b) w' ys.length sv (RepVL (fun b=>w.heap.size≤b) w' ys)∧BackP kk l ys∧Ext w w':=by
 obtain⟨⟨hF,⟨hM1,hM2,hM3⟩,hK⟩,hT,hle⟩:=hA
 rcases h with⟨rfl,rfl⟩|⟨m,ss,rfl,_,hM,hS⟩
 ·exact textPairs177_none.imp fun r w' ⟨h1,h2⟩=>⟨_,[],h1,SlX.nil,⟨[],rfl,[],[],.nil,.refl _,rfl⟩,h2⟩
 ·obtain⟨es,rfl,rfl,hRE⟩:=hS.ents hM1
  rw[ents_length]at hle
  rw[keysOf_ents]at hM3
  have hVe:∀e∈es,Valued e.2.1:=fun e he=>valuedL _ hF hT _ (ents_vals he).1
  have hnd:=ents_nodup (fun e he=>(hM2 _ (ents_vals he).2).2) (fun e he=>hK _ (ents_vals he).2) hM3
  refine(textPairs177_ok (kk:=kk) (w:=w) hVe hUT hRE hnd (by omega) hM (by rw[List.map_map];exact .refl _)).imp fun r w' ⟨sv,qs,h1,h2,⟨es',h3,h4⟩,h5⟩=>?_
  obtain⟨ps,h6,h7⟩:=h4.perm h3
  exact⟨sv,_,h1,h2,⟨es,rfl,ps,qs,h6,h7,rfl⟩,h5⟩
theorem faulted_nil{w:World}:Does TP 52 [.pointer none] w fun r w'=>r= .tuple #[.slice none 0 0,.bool true]∧Ext w w':=by
 refine do2 Tryz.func52 ?_
 refine jA 9 rfl<|WL.q rfl (r_eql_ptrN Fb.h rfl rfl)<|jD 7 rfl<|WC.ret ?_
 exact fin2 rfl rfl ⟨rfl,ch⟩
theorem faulted_ok{N0 g:Nat}{c d:List UInt8}{l:List V}{vm:Value}{w:World}(hA:MapAsk2 l)(hUT:UT w)(hB:Blk w g [str c,str d,vm])(h:MapG N0 l w vm):
  Does TP 52 [.pointer (some ⟨g,0,none⟩)] w fun r w'=>∃b sv ys,r= .tuple #[.slice (some ⟨b,0,none⟩) 1 1,.bool true]∧w.heap.size≤b∧Blk w' b [str c,str d,sv]∧SlX (fun b=>w.heap.size≤b) w' ys.length sv (RepVL (fun b=>w.heap.size≤b) w' ys)∧BackP 19 l ys∧Ext w w':=by
 refine do2 Tryz.func52 ?_
 have he:Evo (fun _=>True) w w:=Evo.refl w
 refine jA 9 rfl<|WL.q rfl (r_eql_ptrS Fb.h rfl rfl)<|jD 3 rfl<|jA 5 rfl<|ld rfl hB rfl ?_
 refine cl rfl (tp177_ok hA hUT h) ?_
 rintro v1 w1 ⟨sv,ys,rfl,hX,hBk,e1⟩
 have hX0:=hX
 obtain⟨p2,c2,_,hsv,_⟩:=hX0
 subst hsv
 refine jC 6 rfl ?_
 replace hB:=hB.mono e1
 refine WC.seq<|WC.regionD (tt [0,1,2,3,4,5,6,7,8,9,11]++ff [10]++tt [12,13]) (Ext _) mixed (by kernel_rfl) (Ext.drew _) ?_
 refine jE 3 rfl<|dl rfl hB rfl<|jE 3 rfl<|dl rfl hB rfl<|jE 1 rfl ?_
 refine WD.q rfl (fun _ hS=>r_bld (cs:=[_,_,_]) Fo.h rfl rfl) ?_
 refine jE 1 rfl ?_
 replace he:=(he.then e1).then (Ext.drew _)
 have hs2:=he.size
 refine WD.l rfl rfl (ll [_]) ?_
 rintro _ w2 ⟨rfl,hb2,e2⟩
 refine⟨((Evo.drew _).then e2),?_⟩
 refine jE 2 rfl<|WD.nil<|WC.ret ?_
 replace hX:=(hX.mono (Ext.drew _)).mono e2
 replace he:=he.then e2
 exact fin2 rfl rfl ⟨_,_,ys,rfl,by omega,hb2,hX,hBk,he⟩
theorem idle_f{args:Array Value}(h:args.size≤16):Idle TP 50 args:=Idle.of Tryz.func50 rfl rfl rfl rfl ift_20 rfl h
theorem At.bytes{w:World}{b o:Nat}{l:List UInt8}(h:At w b o (bc l)):BytesAt w b o l:=fun j hj=>by
 have h1:=h j (by simpa using hj)
 rw[h1];simp[hj]
def FaultsR(N0:Nat)(w:World)(l:List (List UInt8×List UInt8×List V))(v:Value):Prop:=
 (l=[]∧v= .slice none 0 0)∨∃c d i b sv ys,l=[(c,d,i)]∧v= .slice (some ⟨b,0,none⟩) 1 1∧N0≤b∧Blk w b [str c,str d,sv]∧SlX (fun b=>N0≤b) w ys.length sv (RepVL (fun b=>N0≤b) w ys)∧BackP 19 i ys
theorem FaultsR.mono{A:Nat→Prop}{N0:Nat}{w w':World}{l:List (List UInt8×List UInt8×List V)}{v:Value}(h:FaultsR N0 w l v)(e:Evo A w w')(hA:∀b,b<w.heap.size→N0≤b→A b:=by(intro b hb1 hb2;first|exact trivial|exact hb2|((try dsimp only[Nb]at hb2⊢);omega))):FaultsR N0 w' l v:=by
 rcases h with h|⟨c,d,i,b,sv,ys,h1,h2,h3,h4,h5,h6⟩
 ·exact .inl h
 ·exact .inr ⟨c,d,i,b,sv,ys,h1,h2,h3,h4.mono e (hA b h4.lt h3),h5.mono e hA,h6⟩
theorem FaultsR.one{N0:Nat}{w:World}{l:List (List UInt8×List UInt8×List V)}{v:Value}(h:FaultsR N0 w l v):v.oneCell'=true:=by
 rcases h with⟨_,rfl⟩|⟨c,d,i,b,sv,ys,h1,rfl,_⟩<;>rfl
theorem FaultsR.low{N0 N1:Nat}{w:World}{l:List (List UInt8×List UInt8×List V)}{v:Value}(h:FaultsR N0 w l v)(hN:N1≤N0):FaultsR N1 w l v:=by
 rcases h with h|⟨c,d,i,b,sv,ys,h1,h2,h3,h4,h5,h6⟩
 ·exact .inl h
 ·exact .inr ⟨c,d,i,b,sv,ys,h1,h2,Nat.le_trans hN h3,h4,h5.low (fun b h=>Nat.le_trans hN h),h6⟩
theorem faults_ok{N0:Nat}{l:List (List UInt8×List UInt8×List V)}{v:Value}{w:World}(hA:∀f∈l,MapAsk2 f.2.2)(hUT:UT w)(h:ErrP N0 l w v):
  Does TP 52 [v] w fun r w'=>∃fv,r= .tuple #[fv,.bool true]∧FaultsR w.heap.size w' l fv∧Ext w w':=by
 rcases h with⟨rfl,rfl⟩|⟨c,d,i,g,vm,rfl,rfl,_,hB,hM⟩
 ·exact faulted_nil.imp fun r w' ⟨h1,h2⟩=>⟨_,h1,.inl ⟨rfl,rfl⟩,h2⟩
 ·exact(faulted_ok (hA (c,d,i) (by simp)) hUT hB hM).imp fun r w' ⟨b,sv,ys,h1,h2,h3,h4,h5,h6⟩=>⟨_,h1,.inr ⟨c,d,i,b,sv,ys,rfl,rfl,h2,h3,h4,h5⟩,h6⟩
theorem Rd.keep{w w':World}{rb b:Nat}{l:List UInt8}{v:Value}(h:Rd w rb l)(e:Evo (fun k=>k≠b) w w')(hb:Blk w b [v])(hv:(match v with| .int .. =>false|_=>true)=true)(hne:rb≠b):Rd w' rb l:=by
 obtain⟨bs,i,⟨db,c,h1,h2,h3,h4,h5,h6⟩,h7⟩:=h
 refine⟨bs,i,⟨db,c,h1.mono e hne,?_,h3,h4,h5,h6⟩,h7⟩
 by_cases hbe:db=b
 ·intro j hj
  have h8:=h2 0 (by omega)
  rw[hbe,Nat.zero_add]at h8
  have h9:=hb.get (j:=0) (v:=v) rfl
  rw[h9]at h8
  have h10:=Option.some.inj h8
  subst h10
  cases hv
 ·exact h2.mono e hbe
theorem readEnd_ok{A:Nat→Prop}{data:Value}{ks:List V}{l:List (List UInt8×List UInt8×List V)}{cu:UInt8}{du hd body r:List UInt8}{w:World}(hI:IsB A w data (0::((cu::du)++(hd++(body++r)))))(hbl:(0::((cu::du)++(hd++(body++r)))).length≤1000000000)
  (hlen:ks.length≤1) (hK:FErr (fld ks 0) l) (hP:Pc (uV 23) cu du) (hh:LstH hd ks.length body) (hEn:EncL ks body) (hAsk:∀f∈l,MapAsk2 f.2.2) (hUT:UT w):
  Does TP 18 [data] w fun rr w'=>∃fv rest,rr= .tuple #[fv,rest,.bool true]∧FaultsR w.heap.size w' l fv∧IsB (fun b=>w.heap.size≤b) w' rest r∧Ext w w':=by
 have hUTl:=hUT.lt
 refine does_defer (rs:=[.cell 2 53,.cell 3 28,.cell 4 4]) Tryz.func18 rfl rfl rfl ?_
 have he:Evo (fun _=>True) w w:=Evo.refl w
 refine jA 1 rfl ?_
 have hs1:=he.size
 refine al ?_
 rintro _ w1 ⟨rfl,hb1,e1⟩
 replace he:=he.then e1
 have hs2:=he.size
 have hx2b1:=hb1.lt
 refine al ?_
 rintro _ w2 ⟨rfl,hb2,e2⟩
 replace he:=he.then e2
 have hs3:=he.size
 replace hb1:=hb1.mono e2
 have hx3b1:=hb1.lt
 have hx3b2:=hb2.lt
 refine al ?_
 rintro _ w3 ⟨rfl,hb3,e3⟩
 refine WL.nil ?_
 refine⟨rfl,_,rfl,idle_f (Nat.le_of_ble_eq_true rfl),?_⟩
 refine jA 3 rfl ?_
 refine cl rfl (copied_ok (hI.mono ((e1.then e2).then e3) (fun _ _ _=>trivial)) hbl) ?_
 rintro v4 w4 ⟨⟨N,nN,qO⟩,e4⟩
 have nq4:=e4.size
 have ny3:=hb3.lt
 obtain⟨pb,cb,hrv,hcb,hfb⟩:=qO.form
 obtain⟨db,rfl,hdb,hdl,hat⟩:=hfb (by simp)
 subst hrv
 refine cl rfl (New_ok (A:=A) hat.bytes hcb (by omega) hdl) ?_
 rintro v5 w5 ⟨rfl,qR0,nrl,e5⟩
 refine jD 4 rfl ?_
 replace he:=((he.then e3).then e4).then e5
 have hs6:=he.size
 replace hb1:=((hb1.mono e3).mono e4).mono e5
 have hx6b1:=hb1.lt
 replace hb2:=((hb2.mono e3).mono e4).mono e5
 have hx6b2:=hb2.lt
 replace hb3:=(hb3.mono e4).mono e5
 have hx6b3:=hb3.lt
 refine al ?_
 rintro _ w6 ⟨rfl,hb6,e6⟩
 refine jD 5 rfl ?_
 refine cl rfl (End_ok hlen hK hP hh hEn (by omega) hb6 (qR0.mono e6)) ?_
 rintro v7 w7 ⟨rfl,⟨ev,hb6,qEr⟩,qR,e7⟩
 refine WL.q rfl (r_ifneNil Fb.h rfl)<|jD 3 rfl<|jA 3 rfl<|ld rfl hb6 rfl ?_
 replace hUT:=((((((hUT.mono e1).mono e2).mono e3).mono e4).mono e5).mono e6).mono e7
 refine cl rfl (faults_ok hAsk hUT qEr) ?_
 rintro v8 w8 ⟨fv,rfl,hF,e8⟩
 have hfo:=hF.one
 have nq7:=e7.size
 have nq6:=e6.size
 have nq8:=e8.size
 have qb1:=((hb1.mono e6).mono e7).mono e8
 have qb3:=((hb3.mono e6).mono e7).mono e8
 refine jC 3 rfl ?_
 replace hb1:=((hb1.mono e6).mono e7).mono e8
 refine WL.l0 (lst rfl rfl hb1) ?_
 rintro _ w9 ⟨hb1,e9,hz9⟩
 replace hb3:=(((hb3.mono e6).mono e7).mono e8).mono e9
 refine WL.l0 (lst rfl rfl hb3) ?_
 rintro _ w10 ⟨hb3,e10,hz10⟩
 refine jD 4 rfl<|ld rfl hb3 rfl<|jD 4 rfl ?_
 replace hUT:=((hUT.mono e8).mono e9).mono e10
 replace hb1:=hb1.mono e10
 replace hb2:=((((hb2.mono e6).mono e7).mono e8).mono e9).mono e10
 replace hb6:=((hb6.mono e8).mono e9).mono e10
 replace hF:=(hF.mono e9).mono e10
 refine WC.seq<|WC.regionDL 4 (tt [0,1]++ff [2,3,4,5,6]) (Ext _) mixed (by kernel_rfl) (Ext.drew _) ?_
 refine dl rfl hb1 rfl<|jE 1 rfl ?_
 refine cd rfl (BytesR_ok ((((qR.mono e8).keep e9 qb1 rfl (by omega)).keep e10 (qb3.mono e9) rfl (by omega)).mono (Ext.drew _))) ?_
 rintro v11 w11 ⟨qBy,e11⟩
 refine⟨((Evo.drew _).then e11),?_⟩
 refine cd rfl (copied_ok qBy (by simp only[List.length_cons,List.length_append]at hbl;omega)) ?_
 rintro v12 w12 ⟨⟨N2,nN2,hO2⟩,e12⟩
 have hro:=hO2.one
 have nq9:=e9.size
 have nq10:=e10.size
 have nq11:w10.heap.size≤w11.heap.size:=e11.size
 refine⟨(((Evo.drew _).then e11).then e12),?_⟩
 replace hb1:=((hb1.mono (Ext.drew _)).mono e11).mono e12
 refine WD.l0L rfl rfl (lst rfl rfl hb1) ?_
 rintro _ w13 ⟨hb1,e13,hz13⟩
 replace hb2:=(((hb2.mono (Ext.drew _)).mono e11).mono e12).mono e13
 refine WT.l0 rfl (lst rfl rfl hb2) ?_
 rintro _ w14 ⟨hb2,e14,hz14⟩
 replace hb3:=((((hb3.mono (Ext.drew _)).mono e11).mono e12).mono e13).mono e14
 refine WT.l0 rfl (lst rfl rfl hb3) ?_
 rintro _ w15 ⟨hb3,e15,hz15⟩
 refine WT.nil<|WC.ret ?_
 replace hb1:=(hb1.mono e14).mono e15
 replace hb2:=hb2.mono e15
 replace hF:=(((((hF.mono (Ext.drew _)).mono e11).mono e12).mono e13).mono e14).mono e15
 replace hO2:=((hO2.mono e13).mono e14).mono e15
 replace he:=((((((((((he.then e6).then e7).then e8).then e9).then e10).then (Ext.drew _)).then e11).then e12).then e13).then e14).then e15
 exact finR (vs:=[fv,_,.bool true]) ⟨.inr ⟨_,rfl,one_53,hb1.get rfl⟩,.inr ⟨_,rfl,one_28,hb2.get rfl⟩,.inr ⟨_,rfl,one_4,hb3.get rfl⟩,trivial⟩ ⟨fv,_,rfl,hF.low (by omega),hO2.toB (fun b h _=>by show w.heap.size≤b;omega),he⟩
end Go.Proofs.LL
namespace Go.Proofs.LL
open Go Go.Proofs Go.RowKit
theorem MapG.ext{N0:Nat}{l:List V}{w w':World}{v:Value}(h:MapG N0 l w v)(e:Ext w w'):MapG N0 l w' v:=by
 rcases h with h|⟨m,ss,h3,h4,h5,h6⟩
 ·exact .inl h
 ·exact .inr ⟨m,ss,h3,h4,h5.mono e,h6.mono e⟩
theorem SymsG.ext{N0:Nat}{ts:List (List UInt8)}{w w':World}{v:Value}(h:SymsG N0 ts w v)(e:Ext w w'):SymsG N0 ts w' v:=by
 rcases h with h|⟨g,h3,h4,h5⟩
 ·exact .inl h
 ·exact .inr ⟨g,h3,h4,h5.mono e⟩
def TgtR(N0:Nat)(w:World)(addr:List UInt8)(dur:Nat)(exp:List UInt8)(tmo dyn:Nat)(node:List V)(caps:List (List UInt8))(cells:List Value):Prop:=
 ∃sv ys cv,cells=[str addr,.int .u32 (dur:Int),str exp,.int .u32 (tmo:Int),.bool (dyn !=0),sv,cv]∧SlX (fun b=>N0≤b) w ys.length sv (RepVL (fun b=>N0≤b) w ys)∧BackP 20 node ys∧Own N0 9 1 w cv caps.length (caps.map str)
end Go.Proofs.LL
