/- Own laws of frames, operations and loops, and contracts of functions of the program. Conditions: those that each theorem states. -/
import Derived.Test.YtdgbmbjkbmpcbaaGreatDoorV30
set_option linter.all false
set_option maxRecDepth 20000
namespace Go.Proofs.LL
open Go Go.Proofs Go.RowKit
set_option maxHeartbeats 4000000
attribute [local irreducible] RunOp WL WC WDL WT WX
def dw(kk:Int)(l ys:List V):Prop:=∃es:List cN,l=es.flatMap de∧∃ps qs:List (V×V),aB (fun k a=>a=pv kk 0 k.text) es ps∧qs.Perm ps∧ys=qs.flatMap aS
def b7(l:List V):Prop:=gp l∧bJ l∧l.length≤1000
theorem At.bytes{w:World}{b o:Nat}{l:List UInt8}(h:At w b o (bc l)):BytesAt w b o l:=fun j hj=>by
 have h1:=h j (by simpa using hj)
 rw[h1];simp[hj]
def bG(N0:Nat)(w:World)(l:List (List UInt8×List UInt8×List V))(v:Value):Prop:=
 (l=[]∧v= .slice none 0 0)∨∃c d i b sv ys,l=[(c,d,i)]∧v= .slice (some ⟨b,0,none⟩) 1 1∧N0≤b∧Blk w b [str c,str d,sv]∧aD (fun b=>N0≤b) w ys.length sv (aa (fun b=>N0≤b) w ys)∧dw 19 i ys
theorem bG.mono{A:Nat→Prop}{N0:Nat}{w w':World}{l:List (List UInt8×List UInt8×List V)}{v:Value}(h:bG N0 w l v)(e:Evo A w w')(hA:∀b,b<w.heap.size→N0≤b→A b:=by(intro b hb1 hb2;first|exact trivial|exact hb2|((try dsimp only[Nb]at hb2⊢);omega))):bG N0 w' l v:=by
 rcases h with h|⟨c,d,i,b,sv,ys,h1,h2,h3,h4,h5,h6⟩
 ·exact .inl h
 ·exact .inr ⟨c,d,i,b,sv,ys,h1,h2,h3,h4.mono e (hA b h4.lt h3),h5.mono e hA,h6⟩
theorem bG.one{N0:Nat}{w:World}{l:List (List UInt8×List UInt8×List V)}{v:Value}(h:bG N0 w l v):v.oneCell'=true:=by
 rcases h with⟨_,rfl⟩|⟨c,d,i,b,sv,ys,h1,rfl,_⟩<;>rfl
theorem bG.low{N0 N1:Nat}{w:World}{l:List (List UInt8×List UInt8×List V)}{v:Value}(h:bG N0 w l v)(hN:N1≤N0):bG N1 w l v:=by
 rcases h with h|⟨c,d,i,b,sv,ys,h1,h2,h3,h4,h5,h6⟩
 ·exact .inl h
 ·exact .inr ⟨c,d,i,b,sv,ys,h1,h2,Nat.le_trans hN h3,h4,h5.low (fun b h=>Nat.le_trans hN h),h6⟩
theorem Rd.keep{w w':World}{rb b:Nat}{l:List UInt8}{v:Value}(h:Rd w rb l)(e:Evo (fun k=>k≠b) w w')(hb:Blk w b [v])(hv:(match v with| .int .. =>false|_=>true)=true)(hne:rb≠b):Rd w' rb l:=by
 obtain⟨bs,i,⟨db,c,h1,h2,h3,h4,h5,h6⟩,h7⟩:=h
 refine⟨bs,i,⟨db,c,h1.mono e hne,?_,h3,h4,h5,h6⟩,h7⟩
 by_cases hbe:db=b
 ·intro j hj
  have h8:=h2 0 (by omega)
  rw[hbe,Nat.zero_add]at h8
  have h9:=hb.get (j:=0) (v:=v) rfl
  rw[h9]at h8
  have h10:=Option.some.inj h8
  subst h10
  cases hv
 ·exact h2.mono e hbe
end Go.Proofs.LL
namespace Go.Proofs.LL
open Go Go.Proofs Go.RowKit
theorem cP.ext{N0:Nat}{l:List V}{w w':World}{v:Value}(h:cP N0 l w v)(e:Ext w w'):cP N0 l w' v:=by
 rcases h with h|⟨m,ss,h3,h4,h5,h6⟩
 ·exact .inl h
 ·exact .inr ⟨m,ss,h3,h4,h5.mono e,h6.mono e⟩
theorem br.ext{N0:Nat}{ts:List (List UInt8)}{w w':World}{v:Value}(h:br N0 ts w v)(e:Ext w w'):br N0 ts w' v:=by
 rcases h with h|⟨g,h3,h4,h5⟩
 ·exact .inl h
 ·exact .inr ⟨g,h3,h4,h5.mono e⟩
def nV(N0:Nat)(w:World)(addr:List UInt8)(dur:Nat)(exp:List UInt8)(tmo dyn:Nat)(node:List V)(caps:List (List UInt8))(cells:List Value):Prop:=
 ∃sv ys cv,cells=[str addr,.int .u32 (dur:Int),str exp,.int .u32 (tmo:Int),.bool (dyn !=0),sv,cv]∧aD (fun b=>N0≤b) w ys.length sv (aa (fun b=>N0≤b) w ys)∧dw 20 node ys∧Own N0 9 1 w cv caps.length (caps.map str)
end Go.Proofs.LL
namespace Go.Proofs.LL
open Go Go.Proofs Go.RowKit
set_option maxHeartbeats 4000000
attribute [local irreducible] RunOp WL WC WDL WT WX
theorem pF{rb xb off:Nat}{x:V}{c:UInt8}{data r:List UInt8}{w:World}{cs:List Value}(hk:x.kind=4)(hn:x.num<4294967296)(hP:Pc x c data)(hX:Blk w xb cs)(ho:Nat.blt off cs.length=true)(hne:rb<xb)(hR:Rd w rb (c::(data++r))):
  Does TP 360 [.pointer (some ⟨xb,off,none⟩),.pointer (some ⟨rb,0,none⟩)] w fun u w'=>u= .nilIface∧Blk w' xb (cs.set off (.int .u32 (x.num:Int)))∧Rd w' rb r∧Evo (fun k=>k≠rb∧k≠xb) w w':=by
 have hr0:=hX.lt
 refine do1 Tryz.func360 ?_
 refine uA 9 rfl ?_
 refine cl rfl (j6 hk hn hP hX ho hne hR) ?_
 rintro v1 w1 ⟨rfl,hX,hR,e1⟩
 refine uC 2 rfl<|WC.ret ?_
 exact fin1 rfl ⟨rfl,hX,hR,ch⟩
theorem pq{rb xb off:Nat}{x:V}{c:UInt8}{data r:List UInt8}{w:World}{cs:List Value}(hk:x.kind=4)(hn:x.num<4294967296)(hP:Pc x c data)(hX:Blk w xb cs)(ho:Nat.blt off cs.length=true)(hne:rb<xb)(hR:Rd w rb (c::(data++r))):
  Does TP 83 [.pointer (some ⟨rb,0,none⟩),.iface 136 (.pointer (some ⟨xb,off,none⟩))] w fun u w'=>u= .nilIface∧Blk w' xb (cs.set off (.int .u32 (x.num:Int)))∧Rd w' rb r∧Evo (fun k=>k≠rb∧k≠xb) w w':=by
 have hr0:=hX.lt
 have hne64:=hP.ne64 (by omega)
 refine do1 Tryz.func83 ?_
 refine uA 8 rfl ?_
 refine cl rfl (tryReadNull_no hR hne64) ?_
 rintro v1 w1 ⟨rfl,e1⟩
 refine uD 3 rfl<|uA 281 rfl<|WL.q rfl (r_assertIf Fb.h rfl)<|uD 12 rfl ?_
 replace hR:=hR.mono e1
 replace hX:=hX.mono e1
 refine WL.l rfl (l_invoke Fo.h Fb.h rfl rfl (pF hk hn hP hX ho hne hR)) ?_
 rintro v2 w2 ⟨rfl,hX,hR,e2⟩
 refine uC 2 rfl<|WC.ret ?_
 exact fin1 rfl ⟨rfl,hX,hR,ch⟩
theorem kj{t:List UInt8}{w:World}(h:aY t):Does TP 362 [str t] w fun u w'=>u= .nilIface∧Ext w w':=by
 rcases h with rfl|rfl|rfl|rfl
 ·refine do1 Tryz.func362 ?_
  refine uA 12 rfl ?_
  refine WL.q rfl (r_steqlT rfl rfl (by decide)) ?_
  refine uD 4 rfl<|uA 5 rfl<|WC.ret ?_
  exact fin1 rfl ⟨rfl,ch⟩
 ·refine do1 Tryz.func362 ?_
  refine uA 12 rfl ?_
  refine WL.q rfl (r_steqlF rfl rfl (by decide)) ?_
  refine uD 5 rfl ?_
  refine WL.q rfl (r_steqlT rfl rfl (by decide)) ?_
  refine uD 4 rfl<|uA 5 rfl<|WC.ret ?_
  exact fin1 rfl ⟨rfl,ch⟩
 ·refine do1 Tryz.func362 ?_
  refine uA 12 rfl ?_
  refine WL.q rfl (r_steqlF rfl rfl (by decide)) ?_
  refine uD 5 rfl ?_
  refine WL.q rfl (r_steqlF rfl rfl (by decide)) ?_
  refine uD 5 rfl ?_
  refine WL.q rfl (r_steqlT rfl rfl (by decide)) ?_
  refine uD 4 rfl<|uA 5 rfl<|WC.ret ?_
  exact fin1 rfl ⟨rfl,ch⟩
 ·refine do1 Tryz.func362 ?_
  refine uA 12 rfl ?_
  refine WL.q rfl (r_steqlF rfl rfl (by decide)) ?_
  refine uD 5 rfl ?_
  refine WL.q rfl (r_steqlF rfl rfl (by decide)) ?_
  refine uD 5 rfl ?_
  refine WL.q rfl (r_steqlF rfl rfl (by decide)) ?_
  refine uD 4 rfl ?_
  refine WL.q rfl (r_steqlT rfl rfl (by decide)) ?_
  refine uD 7 rfl<|WC.ret ?_
  exact fin1 rfl ⟨rfl,ch⟩
theorem oQ{rb xb off:Nat}{x:V}{c:UInt8}{data r:List UInt8}{w:World}{cs:List Value}(hk:x.kind=20)(hp:aY x.text)(hP:Pc x c data)(hX:Blk w xb cs)(ho:Nat.blt off cs.length=true)(hne:rb<xb)(hR:Rd w rb (c::(data++r))):
  Does TP 361 [.pointer (some ⟨xb,off,none⟩),.pointer (some ⟨rb,0,none⟩)] w fun u w'=>u= .nilIface∧Blk w' xb (cs.set off (str x.text))∧Rd w' rb r∧Evo (fun k=>k≠rb∧k≠xb) w w':=by
 have hr0:=hX.lt
 refine do1 Tryz.func361 ?_
 refine uA 9 rfl ?_
 refine cl rfl (o6 (.inr hk) hP hX ho hne hR) ?_
 rintro v1 w1 ⟨rfl,hX,hR,e1⟩
 refine uD 6 rfl<|WL.q rfl (r_ifneNil Fb.h rfl)<|uD 3 rfl<|uA 4 rfl ?_
 refine WL.q rfl (r_load Fb.h rfl (Ext.refl _) (hX.get (nO ho))) ?_
 refine cl rfl (kj hp) ?_
 rintro v2 w2 ⟨rfl,e2⟩
 refine uC 2 rfl<|WC.ret ?_
 replace hR:=hR.mono e2
 replace hX:=hX.mono e2
 exact fin1 rfl ⟨rfl,hX,hR,ch⟩
theorem pH{rb xb off:Nat}{x:V}{c:UInt8}{data r:List UInt8}{w:World}{cs:List Value}(hk:x.kind=20)(hp:aY x.text)(hP:Pc x c data)(hX:Blk w xb cs)(ho:Nat.blt off cs.length=true)(hne:rb<xb)(hR:Rd w rb (c::(data++r))):
  Does TP 83 [.pointer (some ⟨rb,0,none⟩),.iface 137 (.pointer (some ⟨xb,off,none⟩))] w fun u w'=>u= .nilIface∧Blk w' xb (cs.set off (str x.text))∧Rd w' rb r∧Evo (fun k=>k≠rb∧k≠xb) w w':=by
 have hr0:=hX.lt
 have hne64:=hP.ne64 (by omega)
 refine do1 Tryz.func83 ?_
 refine uA 8 rfl ?_
 refine cl rfl (tryReadNull_no hR hne64) ?_
 rintro v1 w1 ⟨rfl,e1⟩
 refine uD 3 rfl<|uA 281 rfl<|WL.q rfl (r_assertIf Fb.h rfl)<|uD 12 rfl ?_
 replace hR:=hR.mono e1
 replace hX:=hX.mono e1
 refine WL.l rfl (l_invoke Fo.h Fb.h rfl rfl (oQ hk hp hP hX ho hne hR)) ?_
 rintro v2 w2 ⟨rfl,hX,hR,e2⟩
 refine uC 2 rfl<|WC.ret ?_
 exact fin1 rfl ⟨rfl,hX,hR,ch⟩
theorem Pc.symc{x:V}{c:UInt8}{b:List UInt8}(h:Pc x c b)(hk:x.kind=20):c=0xa3∨c=0xb3:=by
 obtain⟨k,n,t,ks,o,d⟩:=x
 simp only[V.kind]at hk
 subst hk
 cases h
 case num s hc=>simp[numC]at hc
 case sym1 h=>exact .inl rfl
 case sym4 h=>exact .inr rfl
theorem oP{rb xb off:Nat}{x:V}{c:UInt8}{data r:List UInt8}{w:World}{cs:List Value}(hk:x.kind=20)(hP:Pc x c data)(hX:Blk w xb cs)(ho:Nat.blt off cs.length=true)(hne:rb<xb)(hR:Rd w rb (c::(data++r))):
  Does TP 363 [.pointer (some ⟨xb,off,none⟩),.pointer (some ⟨rb,0,none⟩)] w fun u w'=>u= .nilIface∧(∃g,w.heap.size≤g∧Blk w' xb (cs.set off (.slice (some ⟨g,0,none⟩) 1 1))∧Blk w' g [str x.text])∧Rd w' rb r∧Evo (fun k=>k≠rb∧k≠xb) w w':=by
 have hr0:=hX.lt
 have hP0:=hP
 rcases hP.symc hk with rfl|rfl
 ·refine do1 Tryz.func363 ?_
  have he:Evo (fun k=>k≠rb∧k≠xb) w w:=Evo.refl w
  refine uA 7 rfl ?_
  refine cl rfl (peekType_ok hR) ?_
  rintro v1 w1 ⟨rfl,e1⟩
  refine uD 10 rfl<|WL.q rfl (r_ifneNil Fb.h rfl)<|uD 3 rfl<|uA 14 rfl ?_
  replace hR:=hR.mono e1
  refine cl rfl (readString_pc (.inr hk) hP hR) ?_
  rintro v2 w2 ⟨rfl,hR,e2⟩
  refine uD 10 rfl<|WL.q rfl (r_ifneNil Fb.h rfl)<|uD 3 rfl<|uA 4 rfl ?_
  replace he:=(he.then e1).then e2
  have hs3:=he.size
  refine WL.l rfl (ll [_]) ?_
  rintro _ w3 ⟨rfl,hb3,e3⟩
  refine uC 1 rfl ?_
  replace hX:=((hX.mono e1).mono e2).mono e3
  refine WL.l0 (l_store Fo.h rfl rfl rfl hX ho) ?_
  rintro _ w4 ⟨hX,e4,hz4⟩
  refine uD 5 rfl<|WC.ret ?_
  replace hR:=(hR.mono e3).mono e4
  replace hb3:=hb3.mono e4
  replace he:=(he.then e3).then e4
  exact fin1 rfl ⟨rfl,⟨_,hs3,hX,hb3⟩,hR,he⟩
 ·refine do1 Tryz.func363 ?_
  have he:Evo (fun k=>k≠rb∧k≠xb) w w:=Evo.refl w
  refine uA 7 rfl ?_
  refine cl rfl (peekType_ok hR) ?_
  rintro v1 w1 ⟨rfl,e1⟩
  refine uD 10 rfl<|WL.q rfl (r_ifneNil Fb.h rfl)<|uD 3 rfl<|uA 14 rfl ?_
  replace hR:=hR.mono e1
  refine cl rfl (readString_pc (.inr hk) hP hR) ?_
  rintro v2 w2 ⟨rfl,hR,e2⟩
  refine uD 10 rfl<|WL.q rfl (r_ifneNil Fb.h rfl)<|uD 3 rfl<|uA 4 rfl ?_
  replace he:=(he.then e1).then e2
  have hs3:=he.size
  refine WL.l rfl (ll [_]) ?_
  rintro _ w3 ⟨rfl,hb3,e3⟩
  refine uC 1 rfl ?_
  replace hX:=((hX.mono e1).mono e2).mono e3
  refine WL.l0 (l_store Fo.h rfl rfl rfl hX ho) ?_
  rintro _ w4 ⟨hX,e4,hz4⟩
  refine uD 5 rfl<|WC.ret ?_
  replace hR:=(hR.mono e3).mono e4
  replace hb3:=hb3.mono e4
  replace he:=(he.then e3).then e4
  exact fin1 rfl ⟨rfl,⟨_,hs3,hX,hb3⟩,hR,he⟩
theorem iI{rb xb off:Nat}{ks:List V}{c c':UInt8}{hd body r:List UInt8}{w:World}{cs:List Value}(hne0:ks≠[])(hks:∀z∈ks,z.kind=20∧z.text≠[])(hEl:Elems c' ks body)(hh:Hd 0xe0 0xf0 c hd ks.length (c'::body))(hX:Blk w xb cs)(ho:Nat.blt off cs.length=true)(hcs:cs[off]?=some (.slice none 0 0))(hne:rb<xb)(hR:Rd w rb (c::(hd++((c'::body)++r)))):
  Does TP 83 [.pointer (some ⟨rb,0,none⟩),.iface 276 (.pointer (some ⟨xb,off,none⟩))] w fun u w'=>u= .nilIface∧(∃g,w.heap.size≤g∧Blk w' xb (cs.set off (.slice (some ⟨g,0,none⟩) (ks.map V.text).length (ks.map V.text).length))∧Blk w' g ((ks.map V.text).map str))∧Rd w' rb r∧Evo (fun k=>k≠rb∧k≠xb) w w':=by
 have hpos:0<(ks.map V.text).length:=by rw[List.length_map];exact List.length_pos_iff.2 hne0
 have hc':c'=0xa3∨c'=0xb3:=by
  cases hEl with
  |nil=>exact absurd rfl hne0
  |cons h1 h2=>exact h1.symc (hks _ (by simp)).1
 rcases hc' with rfl|rfl
 ·obtain⟨h1,h2⟩:=hEl.flat (Q:=fun x=>x.kind=20∧x.text.length<256^1) (f:=fun x=>txt 1 x.text) (fun x b hp=>by obtain⟨h1,h2,h3⟩:=hp.fixT (k:=20) (s:=1) rfl;exact⟨⟨h1,h3⟩,h2⟩)
  have hb:body=(ks.map V.text).flatMap (txt 1):=by rw[h2,List.flatMap_map]
  subst hb
  exact mm (fun t ht=>by obtain⟨x,hx,rfl⟩:=List.mem_map.1 ht;exact⟨(hks x hx).2,by simpa using(h1 x hx).2⟩) hX ho hcs hne hpos (by rw[List.length_map];exact hh) hR
 ·obtain⟨h1,h2⟩:=hEl.flat (Q:=fun x=>x.kind=20∧x.text.length<256^4) (f:=fun x=>txt 4 x.text) (fun x b hp=>by obtain⟨h1,h2,h3⟩:=hp.fixT (k:=20) (s:=4) rfl;exact⟨⟨h1,h3⟩,h2⟩)
  have hb:body=(ks.map V.text).flatMap (txt 4):=by rw[h2,List.flatMap_map]
  subst hb
  exact lP (fun t ht=>by obtain⟨x,hx,rfl⟩:=List.mem_map.1 ht;exact⟨(hks x hx).2,by simpa using(h1 x hx).2⟩) hX ho hcs hne hpos (by rw[List.length_map];exact hh) hR
theorem pP{rb xb off:Nat}{ks:List V}{c c':UInt8}{hd body r:List UInt8}{w:World}{cs:List Value}(hne0:ks≠[])(hks:∀z∈ks,z.kind=20∧z.text≠[])(hEl:Elems c' ks body)(hh:Hd 0xe0 0xf0 c hd ks.length (c'::body))(hX:Blk w xb cs)(ho:Nat.blt off cs.length=true)(hcs:cs[off]?=some (.slice none 0 0))(hne:rb<xb)(hR:Rd w rb (c::(hd++((c'::body)++r)))):
  Does TP 363 [.pointer (some ⟨xb,off,none⟩),.pointer (some ⟨rb,0,none⟩)] w fun u w'=>u= .nilIface∧(∃g,w.heap.size≤g∧Blk w' xb (cs.set off (.slice (some ⟨g,0,none⟩) (ks.map V.text).length (ks.map V.text).length))∧Blk w' g ((ks.map V.text).map str))∧Rd w' rb r∧Evo (fun k=>k≠rb∧k≠xb) w w':=by
 have hr0:=hX.lt
 have hh0:=hh
 rcases hh with⟨s,k,rfl,hrest⟩|⟨a,b,d,e,f,g,h,i,rfl,hrest⟩
 ·refine do1 Tryz.func363 ?_
  refine uA 7 rfl ?_
  refine cl rfl (peekType_ok hR) ?_
  rintro v1 w1 ⟨rfl,e1⟩
  refine uD 10 rfl<|WL.q rfl (r_ifneNil Fb.h rfl)<|uD 3 rfl<|uA 17 rfl ?_
  replace hR:=hR.mono e1
  replace hX:=hX.mono e1
  refine cl rfl (iI hne0 hks hEl hh0 hX ho hcs hne hR) ?_
  rintro v2 w2 ⟨rfl,⟨g,hg,hX,hG⟩,hR,e2⟩
  refine uC 2 rfl<|WC.ret ?_
  exact fin1 rfl ⟨rfl,⟨g,by have:=e1.size;omega,hX,hG⟩,hR,ch⟩
 ·refine do1 Tryz.func363 ?_
  refine uA 7 rfl ?_
  refine cl rfl (peekType_ok hR) ?_
  rintro v1 w1 ⟨rfl,e1⟩
  refine uD 10 rfl<|WL.q rfl (r_ifneNil Fb.h rfl)<|uD 3 rfl<|uA 17 rfl ?_
  replace hR:=hR.mono e1
  replace hX:=hX.mono e1
  refine cl rfl (iI hne0 hks hEl hh0 hX ho hcs hne hR) ?_
  rintro v2 w2 ⟨rfl,⟨g,hg,hX,hG⟩,hR,e2⟩
  refine uC 2 rfl<|WC.ret ?_
  exact fin1 rfl ⟨rfl,⟨g,by have:=e1.size;omega,hX,hG⟩,hR,ch⟩
theorem qr{rb xb off:Nat}{y:V}{ts:List (List UInt8)}{bs r:List UInt8}{w:World}{cs:List Value}(hy:iZ y ts)(hE:Enc y bs)(hX:Blk w xb cs)(ho:Nat.blt off cs.length=true)(hcs:cs[off]?=some (.slice none 0 0))(hne:rb<xb)(hR:Rd w rb (bs++r)):
  Does TP 363 [.pointer (some ⟨xb,off,none⟩),.pointer (some ⟨rb,0,none⟩)] w fun u w'=>u= .nilIface∧(∃g,w.heap.size≤g∧Blk w' xb (cs.set off (.slice (some ⟨g,0,none⟩) ts.length ts.length))∧Blk w' g (ts.map str))∧Rd w' rb r∧Evo (fun k=>k≠rb∧k≠xb) w w':=by
 rcases hy with⟨hk,hd,rfl⟩|⟨hk,hd,hne0,hz,rfl⟩
 ·cases hE with
  |desc h _ _=>rw[hd]at h;cases h
  |plain _ hP=>exact oP hk hP hX ho hne (by rw[← List.cons_append];exact hR)
 ·cases hE with
  |desc h _ _=>rw[hd]at h;cases h
  |plain _ hP=>
   obtain⟨k,n,t,ks,o,d⟩:=y
   simp only[V.kind,V.kids]at *
   subst hk
   cases hP
   case num s hc=>simp[numC]at hc
   case arr h0 h1 h2=>
    refine pP hne0 hz h1 h2 hX ho hcs hne ?_
    simpa[List.append_assoc]using hR
theorem qZ{rb xb off:Nat}{y:V}{ts:List (List UInt8)}{bs r:List UInt8}{w:World}{cs:List Value}(hy:iZ y ts)(hE:Enc y bs)(hX:Blk w xb cs)(ho:Nat.blt off cs.length=true)(hcs:cs[off]?=some (.slice none 0 0))(hne:rb<xb)(hR:Rd w rb (bs++r)):
  Does TP 83 [.pointer (some ⟨rb,0,none⟩),.iface 139 (.pointer (some ⟨xb,off,none⟩))] w fun u w'=>u= .nilIface∧(∃g,w.heap.size≤g∧Blk w' xb (cs.set off (.slice (some ⟨g,0,none⟩) ts.length ts.length))∧Blk w' g (ts.map str))∧Rd w' rb r∧Evo (fun k=>k≠rb∧k≠xb) w w':=by
 have hr0:=hX.lt
 obtain⟨b0,t0,hbt,hne64⟩:=hE.first (by rcases hy with⟨h,_⟩|⟨h,_⟩<;>omega)
 subst hbt
 rw[List.cons_append]at hR
 refine do1 Tryz.func83 ?_
 refine uA 8 rfl ?_
 refine cl rfl (tryReadNull_no hR hne64) ?_
 rintro v1 w1 ⟨rfl,e1⟩
 refine uD 3 rfl<|uA 281 rfl<|WL.q rfl (r_assertIf Fb.h rfl)<|uD 12 rfl ?_
 replace hR:=hR.mono e1
 replace hX:=hX.mono e1
 refine WL.l rfl (l_invoke Fo.h Fb.h rfl rfl (qr hy hE hX ho hcs hne hR)) ?_
 rintro v2 w2 ⟨rfl,⟨g,hg,hX,hG⟩,hR,e2⟩
 refine uC 2 rfl<|WC.ret ?_
 exact fin1 rfl ⟨rfl,⟨g,by have:=e1.size;omega,hX,hG⟩,hR,ch⟩
section
variable {rb xb j:Nat} {wi:World} {cs:List Value} {y:V} {bs rest:List UInt8}
theorem nI{n d:Nat}(hf:iS 4 y n d)(hn:n<4294967296)(hE:Enc y bs)(hne:y.kind≠0)(hB:Blk wi xb cs)(hl:j<cs.length)(hrx:rb<xb)(hR:Rd wi rb (bs++rest)):iN rb xb j wi cs rest (.iface 105 (.pointer (some ⟨xb,j,none⟩))) (fun _ v=>v= .int .u32 (n:Int)):=by
 rcases hf with⟨h,_⟩|⟨h1,h2,rfl⟩
 ·exact absurd h.1 hne
 ·obtain⟨c,data,rfl,hP⟩:=hE.pc h2
  exact(j6 h1 hn hP hB (by simpa[Nat.blt_eq]using hl) hrx hR).imp fun u w' ⟨a,b,c,d⟩=>⟨a,⟨_,b,rfl⟩,c,d⟩
end
section
variable {rb xb j:Nat} {wi:World} {cs:List Value} {y:V} {bs rest:List UInt8}
theorem pL{n d:Nat}(hf:iS 4 y n d)(hn:n<4294967296)(hE:Enc y bs)(hne:y.kind≠0)(hB:Blk wi xb cs)(hl:j<cs.length)(hrx:rb<xb)(hR:Rd wi rb (bs++rest)):iN rb xb j wi cs rest (.iface 136 (.pointer (some ⟨xb,j,none⟩))) (fun _ v=>v= .int .u32 (n:Int)):=by
 rcases hf with⟨h,_⟩|⟨h1,h2,rfl⟩
 ·exact absurd h.1 hne
 ·obtain⟨c,data,rfl,hP⟩:=hE.pc h2
  exact(pq h1 hn hP hB (by simpa[Nat.blt_eq]using hl) hrx hR).imp fun u w' ⟨a,b,c,d⟩=>⟨a,⟨_,b,rfl⟩,c,d⟩
end
section
variable {rb xb j:Nat} {wi:World} {cs:List Value} {y:V} {bs rest:List UInt8}
theorem m7{n d:Nat}(hf:iS 1 y n d)(hE:Enc y bs)(hne:y.kind≠0)(hB:Blk wi xb cs)(hl:j<cs.length)(hrx:rb<xb)(hR:Rd wi rb (bs++rest)):iN rb xb j wi cs rest (.iface 65 (.pointer (some ⟨xb,j,none⟩))) (fun _ v=>v= .bool (n !=0)):=by
 rcases hf with⟨h,_⟩|⟨h1,h2,rfl⟩
 ·exact absurd h.1 hne
 ·obtain⟨c,data,rfl,hP⟩:=hE.pc h2
  exact(ng h1 hP hB (by simpa[Nat.blt_eq]using hl) hrx hR).imp fun u w' ⟨a,b,c,d⟩=>⟨a,⟨_,b,rfl⟩,c,d⟩
end
section
variable {rb xb j:Nat} {wi:World} {cs:List Value} {y:V} {bs rest:List UInt8}
theorem oL{t:List UInt8}(hf:cI y∨(y.kind=20∧y.desc=[]∧y.text=t))(hp:aY t)(hE:Enc y bs)(hne:y.kind≠0)(hB:Blk wi xb cs)(hl:j<cs.length)(hrx:rb<xb)(hR:Rd wi rb (bs++rest)):iN rb xb j wi cs rest (.iface 137 (.pointer (some ⟨xb,j,none⟩))) (fun _ v=>v=str t):=by
 rcases hf with h|⟨h1,h2,rfl⟩
 ·exact absurd h.1 hne
 ·obtain⟨c,data,rfl,hP⟩:=hE.pc h2
  exact(pH h1 hp hP hB (by simpa[Nat.blt_eq]using hl) hrx hR).imp fun u w' ⟨a,b,c,d⟩=>⟨a,⟨_,b,rfl⟩,c,d⟩
end
section
variable {rb xb j:Nat} {wi:World} {cs:List Value} {y:V} {bs rest:List UInt8}
theorem kG{N0:Nat}{l:List V}(hN:N0≤wi.heap.size)(hf:pM y l)(hE:Enc y bs)(hne:y.kind≠0)(hB:Blk wi xb cs)(hl:j<cs.length)(hrx:rb<xb)(hR:Rd wi rb (bs++rest)):iN rb xb j wi cs rest (.iface 138 (.pointer (some ⟨xb,j,none⟩))) (cP N0 l):=by
 rcases hf with⟨h,_⟩|⟨h1,h2,rfl,h3⟩
 ·exact absurd h.1 hne
 ·obtain⟨c,data,rfl,hP⟩:=hE.pc h2
  obtain⟨hd,body,rfl,hEl,hh⟩:=hP.mapI h1
  rw[List.cons_append,List.append_assoc]at hR
  exact(kz (oT h3) h3.2.1 h3.2.2 hEl hh hB (by simpa[Nat.blt_eq]using hl) hrx hR).imp fun u w' ⟨a,⟨m,ss,b1,b2,b3,b4⟩,c,d⟩=>⟨a,⟨_,b1,.inr ⟨m,ss,rfl,Nat.le_trans hN b2,b3,b4.weaken fun b h=>Nat.le_trans hN h⟩⟩,c,d⟩
end
section
variable {rb xb j:Nat} {wi:World} {cs:List Value} {y:V} {bs rest:List UInt8}
theorem og{N0:Nat}{ts:List (List UInt8)}(hN:N0≤wi.heap.size)(hf:mg y ts)(hE:Enc y bs)(hne:y.kind≠0)(hB:Blk wi xb cs)(hl:j<cs.length)(hcs:cs[j]?=some (.slice none 0 0))(hrx:rb<xb)(hR:Rd wi rb (bs++rest)):iN rb xb j wi cs rest (.iface 139 (.pointer (some ⟨xb,j,none⟩))) (br N0 ts):=by
 rcases hf with⟨h,_⟩|h
 ·exact absurd h.1 hne
 ·exact(qZ h hE hB (by simpa[Nat.blt_eq]using hl) hcs hrx hR).imp fun u w' ⟨a,⟨g,b1,b2,b3⟩,c,d⟩=>⟨a,⟨_,b2,.inr ⟨g,rfl,Nat.le_trans hN b1,b3⟩⟩,c,d⟩
end
theorem iQ{tb xb:Nat}{cs:List Value}{w:World}(hT:Blk w tb [.pointer (some ⟨xb,0,none⟩)])(hX:Blk w xb cs)(hl:cs.length=7):Does TP 56 [.pointer (some ⟨tb,0,none⟩)] w fun u w'=>u= .nilIface∧Blk w' xb (cs.set 2 (str aH))∧Evo (fun k=>k≠xb) w w':=by
 have ho:Nat.blt 2 cs.length=true:=by rw[hl];rfl
 refine do1 Tryz.func56 ?_
 refine uA 6 rfl<|ld rfl hT rfl<|uC 2 rfl ?_
 refine WL.l0 (l_store Fo.h rfl rfl rfl hX ho) ?_
 rintro _ w1 ⟨hX,e1,hz1⟩
 refine uD 5 rfl<|WC.ret ?_
 exact fin1 rfl ⟨rfl,hX,ch⟩
theorem jF{rb xb fb tb:Nat}{ks:List V}{addr:List UInt8}{dur:Nat}{exp:List UInt8}{tmo dyn:Nat}{node:List V}{caps:List (List UInt8)}{cu:UInt8}{du hd body r:List UInt8}{w:World}(hK:oa ks addr dur exp tmo dyn node caps)(hP:Pc (uV 41) cu du)(hh:LstH hd ks.length body)(hEn:EncL ks body)(hF:Blk w fb (cM (j3 xb tb)))(hT:Blk w tb [.pointer (some ⟨xb,0,none⟩)])(htb:rb<tb∧tb≠xb)(hre:rb<xb)(hef:fb≠xb)(hrf:rb<fb)(hX:Blk w xb gm)(hR:Rd w rb (0::((cu::du)++(hd++(body++r))))):
  Does TP 55 [.pointer (some ⟨rb,0,none⟩),.int .u8 41,.slice (some ⟨fb,0,none⟩) 7 7] w fun u w'=>u= .nilIface∧(∃vm vc,Blk w' xb [str addr,.int .u32 (dur:Int),str exp,.int .u32 (tmo:Int),.bool (dyn !=0),vm,vc]∧cP w.heap.size node w' vm∧br w.heap.size caps w' vc)∧Rd w' rb r∧Evo (fun k=>k≠rb∧k≠xb) w w':=by
 have hr0:=hR.lt
 have he0:=hX.lt
 have h:=jn (J:=fun w=>Blk w tb [.pointer (some ⟨xb,0,none⟩)]) hT (fun w1 w2 h1 he=>h1.mono he (by show tb≠rb∧tb≠xb;omega)) (fs:=j3 xb tb) (n:=7) (zs:=gm) (G:=sr w.heap.size addr dur exp tmo dyn node caps) rfl (by decide) (by intro p hp;simp[j3]at hp;rcases hp with rfl|rfl|rfl|rfl|rfl|rfl|rfl<;>exact⟨rfl,rfl⟩) hK.len (x:=uV 41) rfl (by decide) hP hh hEn hF hre hef hrf hX rfl
  (fun y hy h0=>by
   obtain⟨j,hj,rfl⟩:=List.mem_iff_getElem.1 hy
   have hj3:=hK.len
   rw[az hj]at h0⊢
   match j,hj with
   |0,_=>rcases hK.f0 with h|h;exact h.1.2;exact h.2.1
   |1,_=>rcases hK.f1 with h|h;exact h.1.2;exact h.2.1
   |2,_=>rcases hK.f2 with h|h;exact h.1.2;exact h.2.1
   |3,_=>rcases hK.f3 with h|h;exact h.1.2;exact h.2.1
   |4,_=>rcases hK.f4 with h|h;exact h.1.2;exact h.2.1
   |5,_=>rcases hK.f5 with h|h;exact h.1.2;exact h.2.1
   |6,_=>
    rcases hK.f6 with h|h|h
    ·exact h.1.2
    ·exact h.2.1
    ·exact h.2.1
   |j+7,hj=>omega)
  (fun j v w1 w2 hw hg he=>by
   match j with
   |0=>exact hg
   |1=>exact hg
   |2=>exact hg
   |3=>exact hg
   |4=>exact hg
   |5=>exact cP.mono hg hr0 he0 he
   |j+6=>exact br.mono hg hr0 he0 he)
  (fun j hj hj2 wi cs bs rest hwi hB hl hz hE hne hRd=>by
   have hj3:=hK.len
   rw[az hj]at hE hne
   match j,hj,hj2 with
   |0,_,_=>exact o8 (.inl rfl) hK.f0 hE hne hB (by omega) hre hRd
   |1,_,_=>exact pL hK.f1 hK.hdur hE hne hB (by omega) hre hRd
   |2,_,_=>exact oL (hK.f2.imp (fun h=>h.1) id) hK.hexp hE hne hB (by omega) hre hRd
   |3,_,_=>exact nI hK.f3 hK.htmo hE hne hB (by omega) hre hRd
   |4,_,_=>exact m7 hK.f4 hE hne hB (by omega) hre hRd
   |5,_,_=>exact kG hwi hK.f5 hE hne hB (by omega) hre hRd
   |6,_,_=>exact og hwi hK.f6 hE hne hB (by omega) hz hre hRd
   |j+7,hj,_=>omega)
  (fun j hj2 h0=>by
   have hn:=nF h0
   match j,hj2 with
   |0,_=>
    refine .inl ⟨rfl,fun wi v _ hv=>?_⟩
    rcases hK.f0 with h|h
    ·have:v=str []:=by simpa[gm]using hv.symm
     show v=str addr
     rw[this,h.2]
    ·rw[h.1]at hn;exact absurd hn (by decide)
   |1,_=>
    refine .inl ⟨rfl,fun wi v _ hv=>?_⟩
    rcases hK.f1 with h|h
    ·have:v= .int .u32 0:=by simpa[gm]using hv.symm
     show v= .int .u32 (dur:Int)
     rw[this,h.2];rfl
    ·rw[h.1]at hn;exact absurd hn (by decide)
   |2,_=>
    refine .inr ⟨56,[.pointer (some ⟨tb,0,none⟩)],rfl,Fb.h,fun wi cs _ hJ hB hl=>?_⟩
    refine(iQ hJ hB hl).imp ?_
    rintro u w' ⟨h1,h2,h3⟩
    refine⟨h1,⟨_,h2,?_⟩,h3⟩
    rcases hK.f2 with h|h
    ·show str aH=str exp
     rw[h.2]
    ·rw[h.1]at hn;exact absurd hn (by decide)
   |3,_=>
    refine .inl ⟨rfl,fun wi v _ hv=>?_⟩
    rcases hK.f3 with h|h
    ·have:v= .int .u32 0:=by simpa[gm]using hv.symm
     show v= .int .u32 (tmo:Int)
     rw[this,h.2];rfl
    ·rw[h.1]at hn;exact absurd hn (by decide)
   |4,_=>
    refine .inl ⟨rfl,fun wi v _ hv=>?_⟩
    rcases hK.f4 with h|h
    ·have:v= .bool false:=by simpa[gm]using hv.symm
     show v= .bool (dyn !=0)
     rw[this,h.2];rfl
    ·rw[h.1]at hn;exact absurd hn (by decide)
   |5,_=>
    refine .inl ⟨rfl,fun wi v _ hv=>?_⟩
    rcases hK.f5 with h|h
    ·have:v= .map none:=by simpa[gm]using hv.symm
     exact .inl ⟨h.2,this⟩
    ·rw[h.1]at hn;exact absurd hn (by decide)
   |6,_=>
    refine .inl ⟨rfl,fun wi v _ hv=>?_⟩
    rcases hK.f6 with h|h|h
    ·have:v= .slice none 0 0:=by simpa[gm]using hv.symm
     exact .inl ⟨h.2,this⟩
    ·rw[h.1]at hn;exact absurd hn (by decide)
    ·rw[h.1]at hn;exact absurd hn (by decide)
   |j+7,hj=>exact absurd hj (by simp[j3]))
  hR
 refine h.imp ?_
 rintro u w' ⟨h1,⟨vs,hl,hB,hg⟩,h3,h4⟩
 match vs,hl with
 |[v0,v1,v2,v3,v4,v5,v6],_=>
  have e0:v0=str addr:=hg 0 v0 rfl
  have e1:v1= .int .u32 (dur:Int):=hg 1 v1 rfl
  have e2:v2=str exp:=hg 2 v2 rfl
  have e3:v3= .int .u32 (tmo:Int):=hg 3 v3 rfl
  have e4:v4= .bool (dyn !=0):=hg 4 v4 rfl
  subst e0 e1 e2 e3 e4
  exact⟨h1,⟨v5,v6,hB,hg 5 v5 rfl,hg 6 v6 rfl⟩,h3,h4⟩
theorem oO{rb xb:Nat}{ks:List V}{addr:List UInt8}{dur:Nat}{exp:List UInt8}{tmo dyn:Nat}{node:List V}{caps:List (List UInt8)}{cu:UInt8}{du hd body r:List UInt8}{w:World}(hK:oa ks addr dur exp tmo dyn node caps)(hP:Pc (uV 41) cu du)(hh:LstH hd ks.length body)(hEn:EncL ks body)(hre:rb<xb)(hX:Blk w xb gm)(hR:Rd w rb (0::((cu::du)++(hd++(body++r))))):
  Does TP 25 [.pointer (some ⟨xb,0,none⟩),.pointer (some ⟨rb,0,none⟩)] w fun u w'=>u= .nilIface∧(∃vm vc,Blk w' xb [str addr,.int .u32 (dur:Int),str exp,.int .u32 (tmo:Int),.bool (dyn !=0),vm,vc]∧cP w.heap.size node w' vm∧br w.heap.size caps w' vc)∧Rd w' rb r∧Evo (fun k=>k≠rb∧k≠xb) w w':=by
 have hr0:=hR.lt
 have he0:=hX.lt
 refine do1 Tryz.func25 ?_
 have he:Evo (fun k=>k≠rb∧k≠xb) w w:=Evo.refl w
 refine uA 2 rfl ?_
 have hs1:=he.size
 refine WL.l rfl (pr rfl rfl) ?_
 rintro _ w1 ⟨rfl,hb1,e1⟩
 refine uC 2 rfl ?_
 replace hR:=hR.mono e1
 replace hX:=hX.mono e1
 refine WC.seq<|WC.regionD (tt [0,1,2,3,4,5,6,7,8,9,10,11,12,13,14,15,16,17,18,19,20,21,22,23,24,25,26,27,28,29,30,31,32,33,34,35,36]++ff [37,38]++tt [39]) (Evo (fun k=>k≠rb∧k≠xb) _) mixed (by kernel_rfl) (Evo.drew _) ?_
 refine uE 1 rfl<|dl rfl hb1 rfl<|uE 3 rfl ?_
 refine WD.q rfl (fun _ hS=>r_bld (cs:=[_,_]) Fo.h rfl rfl) ?_
 refine dl rfl hb1 rfl<|uE 3 rfl ?_
 refine WD.q rfl (fun _ hS=>r_bld (cs:=[_,_]) Fo.h rfl rfl) ?_
 refine dl rfl hb1 rfl<|uE 3 rfl ?_
 refine WD.q rfl (fun _ hS=>r_makeFunc rfl rfl) ?_
 refine WD.q rfl (fun _ hS=>r_bld (cs:=[_,_]) Fo.h rfl rfl) ?_
 refine dl rfl hb1 rfl<|uE 3 rfl ?_
 refine WD.q rfl (fun _ hS=>r_bld (cs:=[_,_]) Fo.h rfl rfl) ?_
 refine dl rfl hb1 rfl<|uE 3 rfl ?_
 refine WD.q rfl (fun _ hS=>r_bld (cs:=[_,_]) Fo.h rfl rfl) ?_
 refine dl rfl hb1 rfl<|uE 3 rfl ?_
 refine WD.q rfl (fun _ hS=>r_bld (cs:=[_,_]) Fo.h rfl rfl) ?_
 refine dl rfl hb1 rfl<|uE 3 rfl ?_
 refine WD.q rfl (fun _ hS=>r_bld (cs:=[_,_]) Fo.h rfl rfl) ?_
 replace he:=(he.then e1).then (Ext.drew _)
 have hs2:=he.size
 replace hb1:=hb1.mono (Ext.drew _)
 have hx2b1:=hb1.lt
 refine WD.l rfl rfl (ll [_,_,_,_,_,_,_]) ?_
 rintro _ w2 ⟨rfl,hb2,e2⟩
 refine⟨((Evo.drew _).then e2),?_⟩
 refine cd rfl (jF hK hP hh hEn hb2 (hb1.mono e2) (by omega) hre (by have:=e1.size;omega) (by have:=e1.size;omega) ((hX.mono (Ext.drew _)).mono e2) ((hR.mono (Ext.drew _)).mono e2)) ?_
 rintro v3 w3 ⟨rfl,⟨vm,vc,hX,hG,hC⟩,hR,e3⟩
 refine⟨(((Evo.drew _).then e2).then e3),?_⟩
 refine uE 1 rfl<|WD.nil<|WC.ret ?_
 replace he:=(he.then e2).then e3
 exact fin1 rfl ⟨rfl,⟨vm,vc,hX,hG.low (by have:=e1.size;have:=e2.size;omega),hC.low (by have:=e1.size;have:=e2.size;omega)⟩,hR,he⟩
theorem fh{A:Nat→Prop}{m:Nat}{es:List cN}{kvs:List (Value×Value)}{kk:Int}{w:World}(hV:∀e∈es,bB e.2.1)(hUT:UT w)(hRE:jq A w es)(hnd:(es.map (·.1.text)).Nodup)(hle:es.length≤65536)(hM:MapO w m kvs)(hp:kvs.Perm (es.map gG)):
  Does TP 57 [.int .i64 kk,.map (some m)] w fun r w'=>∃sv qs,r= .tuple #[sv,.bool true]∧aD (fun b=>w.heap.size≤b) w' (qs.flatMap aS).length sv (aa (fun b=>w.heap.size≤b) w' (qs.flatMap aS))∧(∃es',es'.Perm es∧aB (fun k a=>a=pv kk 0 k.text) es' qs)∧Ext w w':=by
 obtain⟨es1,hp1,rfl⟩:=bP hp
 have hm0:=hM.lt
 have hnd1:(es1.map (·.1.text)).Nodup:=(hp1.map _).nodup_iff.2 hnd
 have hl1:es1.length=es.length:=hp1.length_eq
 have hkl:(es1.map gG).length=es1.length:=List.length_map ..
 refine do2 Tryz.func57 ?_
 have he:Evo (fun b=>b<w.heap.size) w w:=Evo.refl w
 refine uA 13 rfl ?_
 refine WL.l rfl (l_range Fo.h rfl hM) ?_
 rintro v1 w1 ⟨rfl,hI,e1⟩
 have hx1:=hI.lt
 have hq1:=e1.size
 refine uD 2 rfl ?_
 replace hM:=hM.mono e1
 replace he:=he.then e1
 refine WC.loop2 (ι:=(List Nat×Value)) [(0,_),(1,_),(4,_),(5,_),(14,_)] (fun i=>[(6,i.2)]) (fun i wi=>ItO wi w.heap.size m (es1.map gG).length i.1∧i.1.Nodup∧(∀j∈i.1,j<(es1.map gG).length)∧Own w1.heap.size 9 1 wi i.2 i.1.length ((i.1.map (ir es1)).map str)∧Evo (fun k=>k<w1.heap.size∧k≠w.heap.size) w1 wi) (fun i=>(es1.map gG).length-i.1.length) ([],.slice none 0 0) sb sb (⟨hI,.nil,by simp,Own.nil _ _ _ _,Evo.refl _⟩) ?_
 intro i wi1 hh;obtain⟨hI,hnd2,hlt2,hO,hE⟩:=hh
 obtain⟨i,sv⟩:=i
 dsimp only at hI hnd2 hlt2 hO
 have hwi:=hE.size
 have hil:i.length≤65536:=by
  have:=List.Nodup.length_le_of_subset (l₂:=List.range (es1.map gG).length) hnd2 (fun j hj=>List.mem_range.2 (hlt2 j hj))
  simp at this;omega
 replace hM:=hM.mono hE
 rcases next_or (P:=TP) hM hI with⟨hall,hN⟩|⟨j,hj,hnj,hN⟩
 ·have hper:=seen_perm hnd2 hlt2 hall
  have hpt:(i.map (ir es1)).Perm (es1.map (·.1.text)):=by
   rw[← fN,← hkl];exact hper.map _
  obtain⟨es2,hp2,hst⟩:=bP ((List.mergeSort_perm (i.map (ir es1)) (fun x y=>decide (x≤y))).trans hpt)
  have hl2:es2.length=es1.length:=hp2.length_eq
  have hilen:i.length=es1.length:=by have:=hpt.length_eq;simpa using this
  refine uA 2 rfl ?_
  refine WL.l rfl (hN rfl) ?_
  rintro v2 w2 ⟨rfl,e2⟩
  have hq2:=e2.size
  refine uD 4 rfl<|WC.exit<|uA 3 rfl ?_
  replace hO:=hO.mono e2
  refine cl rfl (fM (ss:=i.map (ir es1)) (by rw[List.length_map];exact hO) (by simpa using hil)) ?_
  rintro v3 w3 ⟨rfl,hS,e3⟩
  have hqs:=e3.size
  rw[hst,List.length_map]at hS
  obtain⟨p,c,hsv,hpc,hAt⟩:=hS.form
  subst hsv
  refine uD 13 rfl ?_
  replace hM:=(hM.mono e2).mono e3
  replace he:=((he.then hE).then e2).then e3
  refine WC.loop2 (ι:=(Nat×Value)) [(0,_),(1,_),(4,_),(5,_),(6,_),(14,_),(25,_),(26,_)] (fun i=>[(8,i.2),(27,.int .i64 (i.1:Int))]) (fun i wi=>(∃cs qs,Own w3.heap.size 87 6 wi i.2 (2 * i.1) cs∧aa (fun b=>w.heap.size≤b∧i.2.ownBlock≠some b) wi (qs.flatMap aS) cs∧aB (fun k a=>a=pv kk 0 k.text) (es2.take i.1) qs)∧i.1≤es2.length∧Evo (fun b=>b<w3.heap.size) w3 wi) (fun i=>es2.length-i.1) (0,.slice none 0 0) sb sb (⟨⟨[],[],Own.nil _ _ _ _,by rw[List.flatMap_nil,aa],by simpa using aB.nil⟩,Nat.zero_le _,Evo.refl _⟩) ?_
  intro i wi2 hh;obtain⟨⟨cs,qs,hP,hV2,hSh⟩,hil2,hE⟩:=hh
  obtain⟨i2,so⟩:=i
  dsimp only at hP hV2 hSh hil2
  have hwi2:=hE.size
  rcases Nat.lt_or_ge i2 es2.length with hi|hi
  ·obtain⟨b,rfl,hBb,hbl,hAt⟩:=hAt (by omega)
   have hAti:=(hAt.mono hE hbl).get (j:=i2) (v:=str es2[i2].1.text) (by simp[hi])
   have hmem1:es2[i2]∈es1:=hp2.mem_iff.1 (List.getElem_mem hi)
   have hmem:es2[i2]∈es:=hp1.mem_iff.1 hmem1
   obtain⟨j,hj,hje,hjn⟩:=gV hnd1 hmem1
   replace he:=he.then hE
   have hra:=RepA.mono' (hRE _ hmem) he (fun b hb _=>hb)
   have hU1:=hUT.ext he
   refine uA 2 rfl<|lT rfl rfl<|uD 8 rfl ?_
   refine WL.q rfl (r_idx1 Fo.h rfl rfl rfl (by first|omega|(simp;done)|(simp;omega))) ?_
   refine WL.q rfl (r_load Fb.h rfl (Ext.refl _) hAti)<|uD 6 rfl ?_
   replace hM:=hM.mono hE
   refine WL.q rfl (r_lookS Fo.h Fb.h rfl rfl (Ext.refl _) hM hj hje hjn) ?_
   refine cl rfl (hV _ hmem _ _ _ hU1 hra) ?_
   rintro v4 w4 ⟨c6,y,rfl,hVy,hBy,e4⟩
   have hone:=hVy.one
   have hlen:=hVy.len
   refine uC 3 rfl ?_
   replace he:=he.then e4
   have hs5:=he.size
   refine al ?_
   rintro _ w5 ⟨rfl,hb5,e5⟩
   refine WL.l0 (lsw rfl rfl hb5) ?_
   rintro _ w6 ⟨hb5,e6,hz6⟩
   refine uD 14 rfl<|WL.q rfl (r_bld (cs:=[_,_,_,_,_,_]) Fo.h rfl rfl)<|la rfl hb5 ?_
   replace he:=he.then (e5.then e6)
   have hs7:=he.size
   have hx7b5:=hb5.lt
   refine WL.l rfl (ll [_,_]) ?_
   rintro _ w7 ⟨rfl,hb7,e7⟩
   refine WL.l rfl (l_appO (n:=2 * i2) Fo.h rfl rfl (hP.mono (((e4.then (e5.then e6)).then e7):Ext wi2 w7)) (Src.at Fb.h (io hb7) (by simp[hlen]) (by rw[List.all_append,hone];rfl)) (by have:=e4.size;have:=e5.size;have:=e6.size;have:=e7.size;omega) (by simp only[maxLen];omega) (by omega)) ?_
   rintro v8 w8 ⟨hO8,e8,hob⟩
   have e8o:=e8
   have e8:=Own.evo (w0:=w) (hP.mono (((e4.then (e5.then e6)).then e7):Ext wi2 w7)) e8o
   refine uD 3 rfl<|ai rfl rfl rfl<|uC 2 rfl ?_
   have hV3:=aa.push hP hV2 (by omega) (((e4.then (e5.then e6)).then e7):Ext wi2 w7) ((aa.one (ag.plain kk 0 es2[i2].1.text)).append (aa.one (hVy.mono ((e5.then e6).then e7)))) e8o hob
   have hSh2:=hSh.snoc (e:=es2[i2]) (q:=(pv kk 0 es2[i2].1.text,y)) rfl hBy
   rw[List.take_append_getElem hi]at hSh2
   exact⟨(i2+1,v8),sb,sb,⟨⟨_,_,hO8,by rw[List.flatMap_append];exact hV3,hSh2⟩,hi,(((((hE.then e4).then (e5.then e6)).then e7).then e8))⟩,(by show es2.length-(i2+1)<es2.length-i2;omega)⟩
  ·have hin:i2=es2.length:=by omega
   subst hin
   rw[List.take_length]at hSh
   refine uA 2 rfl<|lF rfl rfl<|uD 3 rfl<|WC.exit<|uA 6 rfl<|WC.ret ?_
   replace he:=he.then hE
   exact fin2 rfl rfl ⟨so,qs,rfl,by exact(aD.own hP (by rw[aK,hSh.length]) (hV2.weaken fun b h=>h.1) (fun b h _=>by show w.heap.size≤b;omega)),⟨es2,hp2.trans hp1,hSh⟩,he.weaken fun k hk _=>hk⟩
 ·obtain⟨hnd3,hlt3,hmu⟩:=seen_snoc hnd2 hlt2 hj hnj
  have hj1:j<es1.length:=by omega
  have hmap:(((i++[j]).map (ir es1)).map str)=((i.map (ir es1)).map str)++[str es1[j].1.text]:=by
   simp[gj hj1]
  have hgk:((es1.map gG)[j]).1=str es1[j].1.text:=by simp[jS,ja]
  refine uA 2 rfl ?_
  refine WL.l rfl (hN rfl) ?_
  rintro v2 w2 ⟨rfl,hI,e2⟩
  refine uD 8 rfl ?_
  replace hM:=hM.mono e2
  refine WL.q rfl (r_entryE rfl hj hgk rfl (Ext.refl _) hM hI)<|uD 6 rfl ?_
  replace he:=(he.then hE).then e2
  have hs3:=he.size
  refine WL.l rfl (ll [_]) ?_
  rintro _ w3 ⟨rfl,hb3,e3⟩
  replace hO:=(hO.mono e2).mono e3
  refine WL.l rfl (l_app Fo.h rfl rfl hO (Src.at Fb.h hb3.at rfl rfl) (by have:=e2.size;have:=e3.size;omega) (by simp only[maxLen];omega) (by omega)) ?_
  rintro v4 w4 ⟨hO,e4⟩
  refine uC 2 rfl ?_
  have hO2:Own w1.heap.size 9 1 w4 v4 (i.length+1) ((i.map (ir es1)).map str++[str es1[j].1.text]):=hO
  rw[← hmap]at hO2
  replace hI:=(hI.mono e3).mono e4
  exact⟨(i++[j],v4),sb,sb,⟨hI,hnd3,hlt3,(by rw[List.length_append];exact hO2),((((hE.then e2).then e3).then e4))⟩,hmu⟩
theorem dW{kk:Int}{w:World}:
  Does TP 57 [.int .i64 kk,.map none] w fun r w'=>r= .tuple #[.slice none 0 0,.bool true]∧Ext w w':=by
 refine do2 Tryz.func57 ?_
 refine uA 13 rfl ?_
 refine WL.l rfl (l_range0 Fo.h rfl) ?_
 rintro v1 w1 ⟨rfl,hI,e1⟩
 refine uD 2 rfl ?_
 refine WC.loop2 (ι:=Nat) [(0,_),(1,_),(4,_),(5,_),(14,_)] (fun i=>[(6,.slice none 0 0)]) (fun i wi=>ItN wi w.heap.size∧Evo (fun _=>True) w1 wi) (fun i=>0) 0 sb sb (⟨hI,Evo.refl _⟩) ?_
 intro i wi1 hh;obtain⟨hI,hE⟩:=hh
 refine uA 2 rfl ?_
 refine WL.l rfl (l_next0 rfl hI) ?_
 rintro v2 w2 ⟨rfl,e2⟩
 refine uD 4 rfl<|WC.exit<|uA 3 rfl ?_
 refine cl rfl (fT) ?_
 rintro v3 w3 ⟨rfl,e3⟩
 refine uD 13 rfl ?_
 refine WC.loop2 (ι:=Nat) [(0,_),(1,_),(4,_),(5,_),(6,_),(14,_),(25,_),(26,_)] (fun i=>[(8,.slice none 0 0),(27,.int .i64 0)]) (fun i wi=>Evo (fun _=>True) w3 wi) (fun i=>0) 0 sb sb (Evo.refl _) ?_
 intro i wi2 hh;have hE:=hh
 refine uA 2 rfl<|lF rfl rfl<|uD 3 rfl<|WC.exit<|uA 6 rfl<|WC.ret ?_
 exact fin2 rfl rfl ⟨rfl,ch⟩
theorem mY{N0:Nat}{l:List V}{v:Value}{kk:Int}{w:World}(hA:b7 l)(hUT:UT w)(h:cP N0 l w v):
  Does TP 57 [.int .i64 kk,v] w fun r w'=>∃sv ys,r= .tuple #[sv,.bool true]∧aD (fun b=>w.heap.size≤b) w' ys.length sv (aa (fun b=>w.heap.size≤b) w' ys)∧dw kk l ys∧Ext w w':=by
 obtain⟨⟨hF,⟨hM1,hM2,hM3⟩,hK⟩,hT,hle⟩:=hA
 rcases h with⟨rfl,rfl⟩|⟨m,ss,rfl,_,hM,hS⟩
 ·exact dW.imp fun r w' ⟨h1,h2⟩=>⟨_,[],h1,aD.nil,⟨[],rfl,[],[],.nil,.refl _,rfl⟩,h2⟩
 ·obtain⟨es,rfl,rfl,hRE⟩:=hS.ents hM1
  rw[bI]at hle
  rw[bL]at hM3
  have hVe:∀e∈es,bB e.2.1:=fun e he=>gA _ hF hT _ (aO he).1
  have hnd:=fm (fun e he=>(hM2 _ (aO he).2).2) (fun e he=>hK _ (aO he).2) hM3
  refine(fh (kk:=kk) (w:=w) hVe hUT hRE hnd (by omega) hM (by rw[List.map_map];exact .refl _)).imp fun r w' ⟨sv,qs,h1,h2,⟨es',h3,h4⟩,h5⟩=>?_
  obtain⟨ps,h6,h7⟩:=h4.perm h3
  exact⟨sv,_,h1,h2,⟨es,rfl,ps,qs,h6,h7,rfl⟩,h5⟩
theorem o4{args:Array Value}(h:args.size≤16):Idle TP 22 args:=Idle.of Tryz.func22 rfl rfl rfl rfl ift_20 rfl h
theorem Rd.keepL{w w':World}{rb b:Nat}{l:List UInt8}{v:Value}{vs:List Value}(h:Rd w rb l)(e:Evo (fun k=>k≠b) w w')(hb:Blk w b (v::vs))(hv:(match v with| .int .. =>false|_=>true)=true)(hne:rb≠b):Rd w' rb l:=by
 obtain⟨bs,i,⟨db,c,h1,h2,h3,h4,h5,h6⟩,h7⟩:=h
 refine⟨bs,i,⟨db,c,h1.mono e hne,?_,h3,h4,h5,h6⟩,h7⟩
 by_cases hbe:db=b
 ·intro j hj
  have h8:=h2 0 (by omega)
  rw[hbe,Nat.zero_add]at h8
  have h9:=hb.get (j:=0) (v:=v) rfl
  rw[h9]at h8
  have h10:=Option.some.inj h8
  subst h10
  cases hv
 ·exact h2.mono e hbe
theorem fl{N0:Nat}{ts:List (List UInt8)}{v:Value}{w:World}(h:br N0 ts w v)(hle:ts.length≤65536):
  Does TP 58 [v] w fun r w'=>Own w.heap.size 9 1 w' r ts.length (ts.map str)∧Ext w w':=by
 have hsl:∃p c,v= .slice p ts.length c∧(0<ts.length→∃g,p=some ⟨g,0,none⟩∧Blk w g (ts.map str)):=by
  rcases h with⟨rfl,rfl⟩|⟨g,rfl,_,hB⟩
  ·exact⟨none,0,rfl,fun h=>by simp at h⟩
  ·exact⟨_,_,rfl,fun _=>⟨g,rfl,hB⟩⟩
 obtain⟨p,c,rfl,hp⟩:=hsl
 refine do1 Tryz.func58 ?_
 have he:Evo (fun b=>b<w.heap.size) w w:=Evo.refl w
 refine uA 16 rfl ?_
 refine WC.loop2 (ι:=(Nat×Value)) [(2,_),(6,_),(7,_)] (fun i=>[(3,i.2),(8,.int .i64 (i.1:Int))]) (fun i wi=>Own w.heap.size 9 1 wi i.2 i.1 ((ts.take i.1).map str)∧i.1≤ts.length∧Evo (fun b=>b<w.heap.size) w wi) (fun i=>ts.length-i.1) (0,.slice none 0 0) sb sb (⟨by simpa using Own.nil _ _ _ _,Nat.zero_le _,Evo.refl _⟩) ?_
 intro i wi1 hh;obtain⟨hO,nil2,hE⟩:=hh
 obtain⟨i,sv⟩:=i
 dsimp only at hO nil2
 have hwi:=hE.size
 rcases Nat.lt_or_ge i ts.length with hi|hi
 ·obtain⟨g,rfl,hB⟩:=hp (by omega)
  have hB2:=(hB.mono hE hB.lt).at.get (j:=i) (v:=str ts[i]) (by simp[hi])
  have htk:(ts.take (i+1)).map str=(ts.take i).map str++[str ts[i]]:=by rw[← List.take_append_getElem hi,List.map_append];rfl
  refine uA 2 rfl<|lT rfl rfl<|uD 8 rfl ?_
  refine WL.q rfl (r_idx1 Fo.h rfl rfl rfl (by first|omega|(simp;done)|(simp;omega))) ?_
  refine WL.q rfl (r_load Fb.h rfl (Ext.refl _) hB2)<|uD 5 rfl ?_
  replace he:=he.then hE
  have hs1:=he.size
  refine WL.l rfl (ll [_]) ?_
  rintro _ w1 ⟨rfl,hb1,e1⟩
  replace hO:=hO.mono e1
  refine WL.l rfl (l_app Fo.h rfl rfl hO (Src.at Fb.h hb1.at rfl rfl) (by have:=e1.size;omega) (by simp only[maxLen];omega) (by omega)) ?_
  rintro v2 w2 ⟨hO,e2⟩
  refine uD 3 rfl<|ai rfl rfl rfl<|uC 2 rfl ?_
  have hO2:Own w.heap.size 9 1 w2 v2 (i+1) ((ts.take i).map str++[str ts[i]]):=hO
  rw[← htk]at hO2
  exact⟨(i+1,v2),sb,sb,⟨hO2,hi,(((hE.then e1).then e2))⟩,(by show ts.length-(i+1)<ts.length-i;omega)⟩
 ·have hin:i=ts.length:=by omega
  subst hin
  rw[List.take_length]at hO
  refine uA 2 rfl<|lF rfl rfl<|uD 3 rfl<|WC.exit<|uA 5 rfl<|WC.ret ?_
  replace he:=he.then hE
  exact fin1 rfl ⟨hO,he.weaken fun k hk _=>hk⟩
theorem gR{N0 xb:Nat}{addr:List UInt8}{dur:Nat}{exp:List UInt8}{tmo dyn:Nat}{node:List V}{caps:List (List UInt8)}{vm vc:Value}{w:World}(hA:b7 node)(hcl:caps.length≤65536)(hUT:UT w)(hX:Blk w xb [str addr,.int .u32 (dur:Int),str exp,.int .u32 (tmo:Int),.bool (dyn !=0),vm,vc])(hM:cP N0 node w vm)(hS:br N0 caps w vc):
  Does TP 26 [.pointer (some ⟨xb,0,none⟩)] w fun r w'=>∃cells,r= .tuple #[.agg cells.toArray,.bool true]∧nV w.heap.size w' addr dur exp tmo dyn node caps cells∧Ext w w':=by
 have hUTl:=hUT.lt
 have hxl:=hX.lt
 refine doR Tryz.func26 ?_
 have he:Evo (fun _=>True) w w:=Evo.refl w
 refine uA 2 rfl ?_
 have hs1:=he.size
 refine al ?_
 rintro _ w1 ⟨rfl,hb1,e1⟩
 refine uD 7 rfl ?_
 replace hX:=hX.mono e1
 refine ld rfl hX rfl ?_
 replace hUT:=hUT.mono e1
 refine cl rfl (mY hA hUT (hM.ext e1)) ?_
 rintro v2 w2 ⟨sv,ys,rfl,hV,qBk,e2⟩
 have nx1:=hb1.lt
 have nq2:=e2.size
 have hX0:=hV
 obtain⟨p2,c2,_,hsv,_⟩:=hX0
 subst hsv
 refine uC 6 rfl ?_
 replace hX:=hX.mono e2
 replace hUT:=hUT.mono e2
 replace hb1:=hb1.mono e2
 refine WC.seq<|WC.regionD (tt [0,1,2,3,4,5,6,7,8,9,10,11,12,13,14,15,16,17,18,19,20,21,22,23,24,27]++ff [25]++tt [26]++ff [28]++tt [29]) (Evo (fun k=>k≠w.heap.size) _) mixed (by kernel_rfl) (Evo.drew _) ?_
 refine uE 3 rfl<|dl rfl hX rfl<|uE 3 rfl<|dl rfl hX rfl<|uE 3 rfl<|dl rfl hX rfl<|uE 3 rfl<|dl rfl hX rfl<|uE 3 rfl<|dl rfl hX rfl<|uE 4 rfl<|dl rfl hX rfl<|uE 1 rfl ?_
 refine cd rfl (fl (hS.ext (e1.then (e2.then (Ext.drew _)))) hcl) ?_
 rintro v3 w3 ⟨hO,e3⟩
 have nd:w2.drew.heap.size=w2.heap.size:=rfl
 obtain⟨p3,c3,hcv,_⟩:=hO.form
 subst hcv
 refine⟨((Evo.drew _).then e3),?_⟩
 refine WD.q rfl (fun _ hS=>r_bld (cs:=[_,_,_,_,_,_,_]) Fo.h rfl rfl) ?_
 replace hb1:=(hb1.mono (Ext.drew _)).mono e3
 refine WD.l0 rfl (lsw rfl rfl hb1) ?_
 rintro _ w4 ⟨hb1,e4,hz4⟩
 refine⟨(((Evo.drew _).then e3).then e4),?_⟩
 refine uE 1 rfl<|WD.nil<|WC.ret ?_
 replace hV:=((hV.mono (Ext.drew _)).mono e3).mono e4
 replace hO:=hO.mono e4
 replace he:=((((he.then e1).then e2).then (Ext.drew _)).then e3).then e4
 exact finCt rfl hb1 mi rfl ⟨_,rfl,⟨_,ys,_,rfl,hV.low (fun b h=>by omega),qBk,hO.low (by show w.heap.size≤w2.heap.size;omega)⟩,he⟩
end Go.Proofs.LL
