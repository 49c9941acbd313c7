/- Contracts of functions and own laws. Conditions: those that each theorem states. -/
import Derived.Test.YtdgbmbjkbmpcbaaGreatDoorV30
set_option linter.all false
set_option autoImplicit true
set_option relaxedAutoImplicit true
set_option maxRecDepth 20000
namespace Go.Proofs.LL
open Go Go.Proofs Go.RowKit
set_option maxHeartbeats 4000000
attribute [local irreducible] ar WL WC cq WT WX
def gk(kk:Int)(l ys:List V):Prop:=∃es:List iW,l=es.flatMap ke∧∃ps qs:List (V×V),cE (fun k a=>a=pv kk 0 k.text) es ps∧qs.Perm ps∧ys=qs.flatMap eX
def fH(l:List V):Prop:=ic l∧gm l∧l.length≤1000
theorem zT{kk:Int}(hA:fH l)(hUT:UT w)(h:gH N0 l w v):
  ah TP 79 [.int .i64 kk,v] w fun r w'=>∃sv ys,r= .tuple #[sv,.bool true]∧cM (fun b=>w.heap.size≤b) w' ys.length sv (ag (fun b=>w.heap.size≤b) w' ys)∧gk kk l ys∧ay w w':=by
 obtain⟨⟨hF,⟨hM1,hM2,hM3⟩,hK⟩,hT,hle⟩:=hA
 rcases h with⟨rfl,rfl⟩|⟨m,ss,rfl,_,hM,hS⟩
 ·exact lv.imp fun r w' ⟨h1,h2⟩=>⟨_,[],h1,cM.nil,⟨[],rfl,[],[],.nil,.refl _,rfl⟩,h2⟩
 ·obtain⟨es,rfl,rfl,hRE⟩:=hS.ents hM1
  rw[eI]at hle
  rw[gn]at hM3
  have hVe:∀e∈es,fO e.2.1:=fun e he=>m0 _ hF hT _ (bX he).1
  have hnd:=nr (fun e he=>(hM2 _ (bX he).2).2) (fun e he=>hK _ (bX he).2) hM3
  refine(iO (kk:=kk) (w:=w) hVe hUT hRE hnd (by omega) hM (by rw[List.map_map];exact .refl _)).imp fun r w' ⟨sv,qs,h1,h2,⟨es',h3,h4⟩,h5⟩=>?_
  obtain⟨ps,h6,h7⟩:=h4.perm h3
  exact⟨sv,_,h1,h2,⟨es,rfl,ps,qs,h6,h7,rfl⟩,h5⟩
theorem sz:ah TP 52 [.pointer none] w fun r w'=>r= .tuple #[.slice none 0 0,.bool true]∧ay w w':=by
 refine cN Tryz.func52 ?_
 refine jA 9 rfl<|Hq (iB Fb.h rfl rfl)<|jD 7 rfl<|WC.ret ?_
 exact bt rfl rfl ⟨rfl,ch⟩
theorem ul{vm:Value}(hA:fH l)(hUT:UT w)(hB:aH w g [str c,str d,vm])(h:gH N0 l w vm):
  ah TP 52 [.pointer (some ⟨g,0,none⟩)] w fun r w'=>∃b sv ys,r= .tuple #[.slice (some ⟨b,0,none⟩) 1 1,.bool true]∧w.heap.size≤b∧aH w' b [str c,str d,sv]∧cM (fun b=>w.heap.size≤b) w' ys.length sv (ag (fun b=>w.heap.size≤b) w' ys)∧gk 19 l ys∧ay w w':=by
 refine cN Tryz.func52 ?_
 have he:=XI w
 refine jA 9 rfl<|Hq (nU Fb.h rfl rfl)<|jD 3 rfl<|jA 5 rfl<|ld rfl hB rfl<|cl rfl (zT hA hUT h) ?_
 rintro v1 w1 ⟨sv,ys,rfl,hX,hBk,e1⟩
 have hX0:=hX
 obtain⟨p2,c2,_,hsv,_⟩:=hX0
 subst hsv
 refine jC 6 rfl ?_
 replace hB:=hB.m e1
 refine WC.seq<|WC.regionD (tt [0,1,2,3,4,5,6,7,8,9,11]++ff [10]++tt [12,13]) (ay _) mixed (by kernel_rfl) Xd<|jE 3 rfl<|dl rfl hB rfl<|jE 3 rfl<|dl rfl hB rfl<|jE 1 rfl<|He (fun _ hS=>az (cs:=[_,_,_]) Fo.h rfl rfl)<|jE 1 rfl ?_
 replace he:=(he.t e1).t Xd
 have:=he.s
 refine WD.l rfl rfl (ll [_]) ?_
 rintro _ w2 ⟨rfl,hb2,e2⟩
 refine⟨(Vd.t e2),?_⟩
 refine jE 2 rfl<|WD.nil<|WC.ret ?_
 replace hX:=(hX.m Xd).m e2
 replace he:=he.t e2
 exact bt rfl rfl ⟨_,_,ys,rfl,by omega,hb2,hX,hBk,he⟩
theorem At.bytes(h:At w b o (bc l)):cR w b o l:=fun j hj=>by
 have h1:=h j (by simpa using hj)
 rw[h1];simp[hj]
def eP(N0:Nat)(w:World)(l:List (List UInt8×List UInt8×List V))(v:Value):Prop:=
 (l=[]∧v= .slice none 0 0)∨∃c d i b sv ys,l=[(c,d,i)]∧v= .slice (some ⟨b,0,none⟩) 1 1∧N0≤b∧aH w b [str c,str d,sv]∧cM (fun b=>N0≤b) w ys.length sv (ag (fun b=>N0≤b) w ys)∧gk 19 i ys
theorem eP.m{l:List (List UInt8×List UInt8×List V)}(h:eP N0 w l v)(e:am A w w')(hA:∀b,b<w.heap.size→N0≤b→A b:=by(intro b hb1 hb2;first|exact trivial|exact hb2|((try dsimp only[Nb]at hb2⊢);omega))):eP N0 w' l v:=by
 rcases h with h|⟨c,d,i,b,sv,ys,h1,h2,h3,h4,h5,h6⟩
 ·exact .inl h
 ·exact .inr ⟨c,d,i,b,sv,ys,h1,h2,h3,h4.m e (hA b h4.lt h3),h5.m e hA,h6⟩
theorem eP.one{l:List (List UInt8×List UInt8×List V)}(h:eP N0 w l v):v.oneCell'=true:=by
 rcases h with⟨_,rfl⟩|⟨c,d,i,b,sv,ys,h1,rfl,_⟩<;>rfl
theorem eP.low{l:List (List UInt8×List UInt8×List V)}(h:eP N0 w l v)(hN:N1≤N0):eP N1 w l v:=by
 rcases h with h|⟨c,d,i,b,sv,ys,h1,h2,h3,h4,h5,h6⟩
 ·exact .inl h
 ·exact .inr ⟨c,d,i,b,sv,ys,h1,h2,Nat.le_trans hN h3,h4,h5.low (fun b h=>Nat.le_trans hN h),h6⟩
theorem xu{l:List (List UInt8×List UInt8×List V)}(hA:∀f∈l,fH f.2.2)(hUT:UT w)(h:iX N0 l w v):
  ah TP 52 [v] w fun r w'=>∃fv,r= .tuple #[fv,.bool true]∧eP w.heap.size w' l fv∧ay w w':=by
 rcases h with⟨rfl,rfl⟩|⟨c,d,i,g,vm,rfl,rfl,_,hB,hM⟩
 ·exact sz.imp fun r w' ⟨h1,h2⟩=>⟨_,h1,.inl ⟨rfl,rfl⟩,h2⟩
 ·exact(ul (hA (c,d,i) (by simp)) hUT hB hM).imp fun r w' ⟨b,sv,ys,h1,h2,h3,h4,h5,h6⟩=>⟨_,h1,.inr ⟨c,d,i,b,sv,ys,rfl,rfl,h2,h3,h4,h5⟩,h6⟩
theorem Rd.keep{v:Value}(h:Rd w rb l)(e:am (fun k=>k≠b) w w')(hb:aH w b [v])(hv:(match v with| .int .. =>false|_=>true)=true)(hne:rb≠b):Rd w' rb l:=by
 obtain⟨bs,i,⟨db,c,h1,h2,h3,h4,h5,h6⟩,h7⟩:=h
 refine⟨bs,i,⟨db,c,h1.m e hne,?_,h3,h4,h5,h6⟩,h7⟩
 by_cases hbe:db=b
 ·intro j hj
  have h8:=h2 0 (by omega)
  rw[hbe,Nat.zero_add]at h8
  have h9:=hb.get (j:=0) (v:=v) rfl
  rw[h9]at h8
  have h10:=Option.some.inj h8
  subst h10
  cases hv
 ·exact h2.m e hbe
end Go.Proofs.LL
namespace Go.Proofs.LL
open Go Go.Proofs Go.RowKit
theorem gH.ext(h:gH N0 l w v)(e:ay w w'):gH N0 l w' v:=by
 rcases h with h|⟨m,ss,h3,h4,h5,h6⟩
 ·exact .inl h
 ·exact .inr ⟨m,ss,h3,h4,h5.m e,h6.m e⟩
theorem kI.ext(h:kI N0 ts w v)(e:ay w w'):kI N0 ts w' v:=by
 rcases h with h|⟨g,h3,h4,h5⟩
 ·exact .inl h
 ·exact .inr ⟨g,h3,h4,h5.m e⟩
def Eu(N0:Nat)(w:World)(addr:List UInt8)(dur:Nat)(exp:List UInt8)(tmo dyn:Nat)(node:List V)(caps:List (List UInt8))(cells:List Value):Prop:=
 ∃sv ys cv,cells=[str addr,.int .u32 (dur:Int),str exp,.int .u32 (tmo:Int),.bool (dyn !=0),sv,cv]∧cM (fun b=>N0≤b) w ys.length sv (ag (fun b=>N0≤b) w ys)∧gk 20 node ys∧aT N0 9 1 w cv caps.length (caps.map str)
end Go.Proofs.LL
namespace Go.Proofs.LL
open Go Go.Proofs Go.RowKit
set_option maxHeartbeats 4000000
attribute [local irreducible] ar WL WC cq WT WX
theorem C4{x:V}{r:List UInt8}(hk:x.kind=2)(hn:x.num<256)(hP:Pc x c data)(hX:aH w xb cs)(ho:Nat.blt off cs.length=true)(hne:rb<xb)(hR:Rd w rb (c::(data++r))):
  ah TP 357 [.pointer (some ⟨xb,off,none⟩),.pointer (some ⟨rb,0,none⟩)] w fun u w'=>u= .nilIface∧aH w' xb (cs.set off (.int .u8 (x.num:Int)))∧Rd w' rb r∧am (fun k=>k≠rb∧k≠xb) w w':=by
 have:=hX.lt
 refine aR Tryz.func357 ?_
 refine uA 7 rfl<|Hm rfl (k9 hk hn hP hR) fun w1 hR e1=>?_
 refine uD 11 rfl ?_
 replace hX:=hX.m e1
 refine WL.l0 (ce Fo.h rfl rfl rfl hX ho) ?_
 rintro _ w2 ⟨hX,e2,hz2⟩
 refine uD 6 rfl<|WC.ret ?_
 replace hR:=hR.m e2
 exact aw rfl ⟨rfl,hX,hR,ch⟩
theorem De{x:V}{r:List UInt8}(hk:x.kind=2)(hn:x.num<256)(hP:Pc x c data)(hX:aH w xb cs)(ho:Nat.blt off cs.length=true)(hne:rb<xb)(hR:Rd w rb (c::(data++r))):
  ah TP 83 [.pointer (some ⟨rb,0,none⟩),.iface 106 (.pointer (some ⟨xb,off,none⟩))] w fun u w'=>u= .nilIface∧aH w' xb (cs.set off (.int .u8 (x.num:Int)))∧Rd w' rb r∧am (fun k=>k≠rb∧k≠xb) w w':=by
 have:=hX.lt
 have hne64:=hP.ne64 (by omega)
 refine aR Tryz.func83 ?_
 refine uA 8 rfl<|Hl rfl (an hR hne64) fun w1 e1=>?_
 refine uD 3 rfl<|uA 281 rfl<|Hq (dc Fb.h rfl)<|uD 12 rfl ?_
 replace hR:=hR.m e1
 replace hX:=hX.m e1
 refine WL.l rfl (dI Fo.h Fb.h rfl rfl (C4 hk hn hP hX ho hne hR)) ?_
 rintro v2 w2 ⟨rfl,hX,hR,e2⟩
 refine uC 2 rfl<|WC.ret ?_
 exact aw rfl ⟨rfl,hX,hR,ch⟩
theorem A0{x:V}{r:List UInt8}(hk:x.kind=2)(hn:x.num<256)(hP:Pc x c data)(hX:aH w xb cs)(ho:Nat.blt off cs.length=true)(hcs:cs[off]?=some (.pointer none))(hne:rb<xb)(hR:Rd w rb (c::(data++r))):
  ah TP 367 [.agg #[.pointer (some ⟨xb,off,none⟩)],.pointer (some ⟨rb,0,none⟩)] w fun u w'=>u= .nilIface∧(∃g,w.heap.size≤g∧aH w' xb (cs.set off (.pointer (some ⟨g,0,none⟩)))∧aH w' g [.int .u8 (x.num:Int)])∧Rd w' rb r∧am (fun k=>k≠rb∧k≠xb) w w':=by
 have:=hX.lt
 refine aR Tryz.func367 ?_
 have he:am (fun k=>k≠rb∧k≠xb) w w:=am.refl w
 refine uA 2 rfl ?_
 have:=he.s
 refine Hb rfl fun w1 hb1 e1=>?_
 refine uD 6 rfl<|ld rfl hb1 rfl<|uC 1 rfl ?_
 replace hX:=hX.m e1
 refine Hq (ao Fb.h rfl Xr (hX.get hcs))<|Hq (iB Fb.h rfl rfl)<|uD 4 rfl<|ld rfl hb1 rfl ?_
 replace he:=he.t e1
 have hs2:=he.s
 have:=hb1.lt
 refine Ha fun w2 hb2 e2=>?_
 refine uC 1 rfl ?_
 replace hX:=hX.m e2
 refine WL.l0 (ce Fo.h rfl rfl rfl hX ho) ?_
 rintro _ w3 ⟨hX,e3,hz3⟩
 refine uD 5 rfl ?_
 replace hb1:=(hb1.m e2).m e3
 refine ld rfl hb1 rfl<|uC 1 rfl<|Hq (ao Fb.h rfl Xr (hX.get (iD ho)))<|uC 1 rfl ?_
 replace hR:=((hR.m e1).m e2).m e3
 replace hb2:=hb2.m e3
 refine cl rfl (De hk hn hP hb2 rfl (by omega) hR) ?_
 rintro v4 w4 ⟨rfl,hb2,hR,e4⟩
 refine uC 2 rfl<|WC.ret ?_
 replace hX:=hX.m e4
 replace he:=((he.t e2).t e3).t e4
 exact aw rfl ⟨rfl,⟨_,hs2,hX,hb2⟩,hR,he⟩
theorem Ba{x:V}{r:List UInt8}(hk:x.kind=2)(hn:x.num<256)(hP:Pc x c data)(hX:aH w xb cs)(ho:Nat.blt off cs.length=true)(hcs:cs[off]?=some (.pointer none))(hne:rb<xb)(hR:Rd w rb (c::(data++r))):
  ah TP 83 [.pointer (some ⟨rb,0,none⟩),.iface 196 (.agg #[.pointer (some ⟨xb,off,none⟩)])] w fun u w'=>u= .nilIface∧(∃g,w.heap.size≤g∧aH w' xb (cs.set off (.pointer (some ⟨g,0,none⟩)))∧aH w' g [.int .u8 (x.num:Int)])∧Rd w' rb r∧am (fun k=>k≠rb∧k≠xb) w w':=by
 have:=hX.lt
 have hne64:=hP.ne64 (by omega)
 refine aR Tryz.func83 ?_
 refine uA 8 rfl<|Hl rfl (an hR hne64) fun w1 e1=>?_
 refine uD 3 rfl<|uA 281 rfl<|Hq (dc Fb.h rfl)<|uD 12 rfl ?_
 replace hR:=hR.m e1
 replace hX:=hX.m e1
 refine WL.l rfl (dI Fo.h Fb.h rfl rfl (A0 hk hn hP hX ho hcs hne hR)) ?_
 rintro v2 w2 ⟨rfl,⟨g,hg,hX,hG⟩,hR,e2⟩
 refine uC 2 rfl<|WC.ret ?_
 exact aw rfl ⟨rfl,⟨g,by have:=e1.s;omega,hX,hG⟩,hR,ch⟩
section
variable {rb xb j:Nat} {wi:World} {cs:List Value} {y:V} {bs rest:List UInt8}
theorem ww(hf:pS 4 y n d)(hn:n<4294967296)(hE:g8 y bs)(hne:y.kind≠0)(hB:aH wi xb cs)(hl:j<cs.length)(hrx:rb<xb)(hR:Rd wi rb (bs++rest)):mI rb xb j wi cs rest (.iface 105 (.pointer (some ⟨xb,j,none⟩))) (fun _ v=>v= .int .u32 (n:Int)):=by
 rcases hf with⟨h,_⟩|⟨h1,h2,rfl⟩
 ·exact absurd h.1 hne
 ·obtain⟨c,data,rfl,hP⟩:=hE.pc h2
  exact(Bc h1 hn hP hB (by simpa[Nat.blt_eq]using hl) hrx hR).imp fun u w' ⟨a,b,c,d⟩=>⟨a,⟨_,b,rfl⟩,c,d⟩
end
section
variable {rb xb j:Nat} {wi:World} {cs:List Value} {y:V} {bs rest:List UInt8}
end
section
variable {rb xb j:Nat} {wi:World} {cs:List Value} {y:V} {bs rest:List UInt8}
theorem zQ(hf:pS 5 y n d)(hn:n<18446744073709551616)(hE:g8 y bs)(hne:y.kind≠0)(hB:aH wi xb cs)(hl:j<cs.length)(hrx:rb<xb)(hR:Rd wi rb (bs++rest)):mI rb xb j wi cs rest (.iface 224 (.pointer (some ⟨xb,j,none⟩))) (fun _ v=>v= .int .u64 (n:Int)):=by
 rcases hf with⟨h,_⟩|⟨h1,h2,rfl⟩
 ·exact absurd h.1 hne
 ·obtain⟨c,data,rfl,hP⟩:=hE.pc h2
  exact(yp h1 hn hP hB (by simpa[Nat.blt_eq]using hl) hrx hR).imp fun u w' ⟨a,b,c,d⟩=>⟨a,⟨_,b,rfl⟩,c,d⟩
end
section
variable {rb xb j:Nat} {wi:World} {cs:List Value} {y:V} {bs rest:List UInt8}
theorem iE(hf:pS 1 y n d)(hE:g8 y bs)(hne:y.kind≠0)(hB:aH wi xb cs)(hl:j<cs.length)(hrx:rb<xb)(hR:Rd wi rb (bs++rest)):mI rb xb j wi cs rest (.iface 65 (.pointer (some ⟨xb,j,none⟩))) (fun _ v=>v= .bool (n !=0)):=by
 rcases hf with⟨h,_⟩|⟨h1,h2,rfl⟩
 ·exact absurd h.1 hne
 ·obtain⟨c,data,rfl,hP⟩:=hE.pc h2
  exact(A7 h1 hP hB (by simpa[Nat.blt_eq]using hl) hrx hR).imp fun u w' ⟨a,b,c,d⟩=>⟨a,⟨_,b,rfl⟩,c,d⟩
end
section
variable {rb xb j:Nat} {wi:World} {cs:List Value} {y:V} {bs rest:List UInt8}
end
section
variable {rb xb j:Nat} {wi:World} {cs:List Value} {y:V} {bs rest:List UInt8}
end
section
variable {rb xb j:Nat} {wi:World} {cs:List Value} {y:V} {bs rest:List UInt8}
end
end Go.Proofs.LL
