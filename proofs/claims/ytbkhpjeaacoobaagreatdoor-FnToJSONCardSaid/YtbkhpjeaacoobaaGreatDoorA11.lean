/- Contracts of functions and own laws. Conditions: those that each theorem states. -/
import Derived.Test.YtbkhpjeaacoobaaGreatDoorA10
set_option linter.all false
set_option maxRecDepth 20000
namespace Go.Proofs.LL
open Go Go.Proofs Go.RowKit
theorem bld_25:bldT Tryz.prog 25=some ([(0,1),(1,1),(2,1),(3,1),(4,1)],[.int .i64 0,.int .u64 0,.string ⟨#[]⟩,.int .i64 0,.slice none 0 0]):=by kernel_rfl
theorem body_16:bodyB Tryz.prog 16=true:=by kernel_rfl
theorem body_17:bodyB Tryz.prog 17=true:=by kernel_rfl
theorem body_8:bodyB Tryz.prog 8=true:=by kernel_rfl
theorem slk_23:slK Tryz.prog 23=true:=by kernel_rfl
theorem slz_23:slZ Tryz.prog 23=some (25,5,64,(.agg #[.int .i64 0,.int .u64 0,.string ⟨#[]⟩,.int .i64 0,.slice none 0 0])):=by kernel_rfl
theorem sz_23:szT Tryz.prog 23=some 1:=by kernel_rfl
def UT(w:World):Prop:=Lib.Utf8Tabs 0 1 w
theorem UT.lt{w:World}(h:UT w):1<w.heap.size:=lt_of_cell (h.2 0 (by omega)).1
theorem UT.mono{A:Nat→Prop}{w w':World}(h:UT w)(e:Evo A w w')(hA:A 0∧A 1:=by first|exact⟨trivial,trivial⟩|((try dsimp only[Nb]);omega)):UT w':=
  ⟨fun c hc=>e.cell (h.1 c hc) hA.1,fun i hi=>⟨e.cell (h.2 i hi).1 hA.2,e.cell (h.2 i hi).2 hA.2⟩⟩
theorem ext_of_below{w w':World}(h:Below w.heap.size w w'):Ext w w':=⟨h.os,h.tape,h.output,h.size,fun k hk _=>h.block k hk⟩
theorem valid_ok{t:List UInt8}{w:World}(hT:UT w)(hl:t.length≤9223372036854775807):
    Does Tryz.prog 16 [str t] w fun r w'=>r= .bool (Lib.validD t)∧Ext w w':=by
  refine⟨Calls.mono (Any.utf8_ValidString Tryz.lays196 ⟨t.toArray⟩ w hl hT) fun e w' hr=>?_⟩
  obtain⟨rfl,hb⟩:=hr
  exact⟨_,rfl,rfl,ext_of_below hb⟩
theorem flat1{w:World}{b:Nat}{l:List Value}(h:Blk w b (([.agg l.toArray]:List Value).flatMap (fun v=>v.cells.toList))):At w b 0 l:=by
  simpa[Value.cells]using h.at
theorem SlX.zero{A:Nat→Prop}{w:World}{p:Option Addr}{c:Nat}:SlX A w 0 (.slice p 0 c) (RepPL A w []):=⟨p,c,[],rfl,Nat.zero_le _,by rw[RepPL],.inl rfl⟩
theorem finCT{P:Program}{R:Value→World→Prop}{ρ:Fr}{w:World}{t b t1:Nat}{v1:Value}{ty:TypeId}{cs:List Value}(h:lk ρ t=some (.pointer (some ⟨b,0,none⟩)))(hB:Blk w b cs)(ht:aggT P ty=some cs.length)(h1:lk ρ t1=some v1)(hR:R (.tuple #[.agg cs.toArray,v1]) w):RetR P [.cell t ty,.tmp t1] (Rets R) .ret ρ w:=
  finR (vs:=[_,v1]) ⟨.inl ⟨b,0,cs,h,ht,hB.at,rfl⟩,h1,trivial⟩ hR
mutual
def JOK:Pk→Prop
  | .mk k _ t _ ks=>k≠4∧k≠5∧k≠10∧(k=6→Lib.validD t=true)∧(k=8∨k=9→JOKL ks)∧(k=9→∀i (h:i<ks.length),i%2=0→ks[i].kind=6)
def JOKL:List Pk→Prop
  |[]=>True
  |x::r=>JOK x∧JOKL r
end
mutual
def asJ:Pk→Pk
  | .mk k n t e ks=>if k=7 then .mk 6 0 (b64 t) 0 []else if k=8∨k=9 then .mk k 0 [] 0 (asJL ks)else .mk k n t e ks
def asJL:List Pk→List Pk
  |[]=>[]
  |x::r=>asJ x::asJL r
end
theorem asJL_map:∀l:List Pk,asJL l=l.map asJ
  |[]=>by rw[asJL];rfl
  |a::r=>by rw[asJL,asJL_map r];rfl
theorem JOKL.of:∀ {l:List Pk},(∀x∈l,JOK x)→JOKL l
  |[],_=>by rw[JOKL];trivial
  |a::r,h=>by rw[JOKL];exact⟨h a (by simp),JOKL.of fun x hx=>h x (by simp[hx])⟩
theorem JOKL.mem:∀ {l:List Pk},JOKL l→∀x∈l,JOK x
  |[],_,x,hx=>by cases hx
  |a::r,h,x,hx=>by
    rw[JOKL]at h
    rcases List.mem_cons.1 hx with e|hx
    · exact e▸h.1
    · exact h.2.mem x hx
def AsS(x:Pk):Prop:=∀(A:Nat→Prop) (L:Int) (cx:List Value) (w:World),RepP A w x cx→Fits L x→UT w→
  Does Tryz.prog 8 [.agg cx.toArray] w fun r w'=>∃c b,r= .tuple #[.agg c.toArray,.bool b]∧c.length=5∧c.all (fun v=>v.oneCell')=true∧(b=true→JOK x∧RepP (fun b=>w.heap.size≤b) w' (asJ x) c)∧Ext w w'
theorem as_one{k:Int}{n:Nat}{t:List UInt8}{o:Int}{ks:List Pk}(hks:∀x∈ks,AsS x):AsS (.mk k n t o ks):=by
  intro A L cx w hx hF hUT
  replace hx:=hx.weakenW (B:=fun b=>b<w.heap.size) (fun b h _=>h)
  obtain⟨pk,ck,rfl,_,hK⟩:=hx.openP
  rw[Fits]at hF
  obtain⟨p0,p1,p2,p3,p4,p5,p6,p7,p8,p9,p10,pL⟩:=hF
  rcases Decidable.em (k=10)with q|q10
  · skip
    refine doesR Tryz.func8 rfl rfl rfl ?_
    have he:Evo (fun _=>True) w w:=Evo.refl w
    refine WC.seq<|WC.region ?_
    have hs1:=he.size
    refine WL.l rfl (l_boxAgg rfl) fun _ w1 hh=>?_
    obtain⟨rfl,hb1,e1⟩:=hh
    replace he:=he.then e1
    have hs2:=he.size
    have hx2b1:=hb1.lt
    refine WL.l rfl (l_alloc zt_25 rfl) fun _ w2 hh=>?_
    obtain⟨rfl,hb2,e2⟩:=hh
    refine WL.q rfl (r_assign rfl) ?_
    refine WL.nil ?_
    refine WC.seq<|WC.seq<|WC.region ?_
    refine WL.q rfl (r_fieldAddr rfl fo_25_0) ?_
    replace hb1:=hb1.mono e2
    refine WL.q rfl (r_load one_3 rfl (Ext.refl _) (hb1.get rfl)) ?_
    refine WL.nil ?_
    refine WC.block ?_
    refine WC.seq<|WC.seq<|WC.region ?_
    refine WL.q rfl (r_cmp (r_eql rfl rfl) (beqT (q))) ?_
    refine WL.q rfl (r_assign rfl) ?_
    refine WL.nil ?_
    refine WC.condT rfl ?_
    refine WC.skip ?_
    refine WC.condT rfl ?_
    refine WC.seq<|WC.region ?_
    refine WL.q rfl (r_loadAgg agg_25 rfl (Ext.refl _) hb1.at (hn:=by first|rfl|assumption)) ?_
    refine WL.l0 (l_storeW sz_25 rfl rfl (by first|rfl|assumption|(simp[*];done)|simp[Value.oneCell', *]) (by first|rfl|simp[*]) hb2 (by first|rfl|simp[*])) fun _ w3 hh=>?_
    obtain⟨hb2,e3,hz3⟩:=hh
    refine WL.q rfl (r_assign rfl) ?_
    refine WL.nil ?_
    refine WC.ret ?_
    replace he:=he.then (e2.then e3)
    exact finCT rfl hb2 agg_25 rfl ⟨_,_,rfl,rfl,rfl,fun h=>(by cases h),he⟩
  rcases Decidable.em (k=4)with q|q4
  · skip
    refine doesR Tryz.func8 rfl rfl rfl ?_
    have he:Evo (fun _=>True) w w:=Evo.refl w
    refine WC.seq<|WC.region ?_
    have hs1:=he.size
    refine WL.l rfl (l_boxAgg rfl) fun _ w1 hh=>?_
    obtain⟨rfl,hb1,e1⟩:=hh
    replace he:=he.then e1
    have hs2:=he.size
    have hx2b1:=hb1.lt
    refine WL.l rfl (l_alloc zt_25 rfl) fun _ w2 hh=>?_
    obtain⟨rfl,hb2,e2⟩:=hh
    refine WL.q rfl (r_assign rfl) ?_
    refine WL.nil ?_
    refine WC.seq<|WC.seq<|WC.region ?_
    refine WL.q rfl (r_fieldAddr rfl fo_25_0) ?_
    replace hb1:=hb1.mono e2
    refine WL.q rfl (r_load one_3 rfl (Ext.refl _) (hb1.get rfl)) ?_
    refine WL.nil ?_
    refine WC.block ?_
    refine WC.seq<|WC.seq<|WC.region ?_
    refine WL.q rfl (r_cmp (r_eql rfl rfl) (beqF (q10))) ?_
    refine WL.q rfl (r_assign rfl) ?_
    refine WL.nil ?_
    refine WC.condF rfl ?_
    refine WC.seq<|WC.region ?_
    refine WL.q rfl (r_cmp (r_eql rfl rfl) (beqT (q))) ?_
    refine WL.q rfl (r_assign rfl) ?_
    refine WL.nil ?_
    refine WC.condT rfl ?_
    refine WC.skip ?_
    refine WC.condT rfl ?_
    refine WC.seq<|WC.region ?_
    refine WL.q rfl (r_loadAgg agg_25 rfl (Ext.refl _) hb1.at (hn:=by first|rfl|assumption)) ?_
    refine WL.l0 (l_storeW sz_25 rfl rfl (by first|rfl|assumption|(simp[*];done)|simp[Value.oneCell', *]) (by first|rfl|simp[*]) hb2 (by first|rfl|simp[*])) fun _ w3 hh=>?_
    obtain⟨hb2,e3,hz3⟩:=hh
    refine WL.q rfl (r_assign rfl) ?_
    refine WL.nil ?_
    refine WC.ret ?_
    replace he:=he.then (e2.then e3)
    exact finCT rfl hb2 agg_25 rfl ⟨_,_,rfl,rfl,rfl,fun h=>(by cases h),he⟩
  rcases Decidable.em (k=5)with q|q5
  · skip
    refine doesR Tryz.func8 rfl rfl rfl ?_
    have he:Evo (fun _=>True) w w:=Evo.refl w
    refine WC.seq<|WC.region ?_
    have hs1:=he.size
    refine WL.l rfl (l_boxAgg rfl) fun _ w1 hh=>?_
    obtain⟨rfl,hb1,e1⟩:=hh
    replace he:=he.then e1
    have hs2:=he.size
    have hx2b1:=hb1.lt
    refine WL.l rfl (l_alloc zt_25 rfl) fun _ w2 hh=>?_
    obtain⟨rfl,hb2,e2⟩:=hh
    refine WL.q rfl (r_assign rfl) ?_
    refine WL.nil ?_
    refine WC.seq<|WC.seq<|WC.region ?_
    refine WL.q rfl (r_fieldAddr rfl fo_25_0) ?_
    replace hb1:=hb1.mono e2
    refine WL.q rfl (r_load one_3 rfl (Ext.refl _) (hb1.get rfl)) ?_
    refine WL.nil ?_
    refine WC.block ?_
    refine WC.seq<|WC.seq<|WC.region ?_
    refine WL.q rfl (r_cmp (r_eql rfl rfl) (beqF (q10))) ?_
    refine WL.q rfl (r_assign rfl) ?_
    refine WL.nil ?_
    refine WC.condF rfl ?_
    refine WC.seq<|WC.region ?_
    refine WL.q rfl (r_cmp (r_eql rfl rfl) (beqF (q4))) ?_
    refine WL.q rfl (r_assign rfl) ?_
    refine WL.nil ?_
    refine WC.condF rfl ?_
    refine WC.region ?_
    refine WL.q rfl (r_cmp (r_eql rfl rfl) (beqT (by omega))) ?_
    refine WL.q rfl (r_assign rfl) ?_
    refine WL.nil ?_
    refine WC.condT rfl ?_
    refine WC.seq<|WC.region ?_
    refine WL.q rfl (r_loadAgg agg_25 rfl (Ext.refl _) hb1.at (hn:=by first|rfl|assumption)) ?_
    refine WL.l0 (l_storeW sz_25 rfl rfl (by first|rfl|assumption|(simp[*];done)|simp[Value.oneCell', *]) (by first|rfl|simp[*]) hb2 (by first|rfl|simp[*])) fun _ w3 hh=>?_
    obtain⟨hb2,e3,hz3⟩:=hh
    refine WL.q rfl (r_assign rfl) ?_
    refine WL.nil ?_
    refine WC.ret ?_
    replace he:=he.then (e2.then e3)
    exact finCT rfl hb2 agg_25 rfl ⟨_,_,rfl,rfl,rfl,fun h=>(by cases h),he⟩
  rcases Decidable.em (k=6)with q6|q6
  · have hk0:=p2 (by omega)
    subst hk0
    refine doesR Tryz.func8 rfl rfl rfl ?_
    have he:Evo (fun b=>b<w.heap.size) w w:=Evo.refl w
    refine WC.seq<|WC.region ?_
    have hs1:=he.size
    refine WL.l rfl (l_boxAgg rfl) fun _ w1 hh=>?_
    obtain⟨rfl,hb1,e1⟩:=hh
    have nx1:=hb1.lt
    have ns1:w.heap.size≤w1.heap.size:=e1.size
    replace he:=he.then e1
    have hs2:=he.size
    have hx2b1:=hb1.lt
    refine WL.l rfl (l_alloc zt_25 rfl) fun _ w2 hh=>?_
    obtain⟨rfl,hb2,e2⟩:=hh
    have nx2:=hb2.lt
    have ns2:w1.heap.size≤w2.heap.size:=e2.size
    refine WL.q rfl (r_assign rfl) ?_
    refine WL.nil ?_
    refine WC.seq<|WC.seq<|WC.region ?_
    refine WL.q rfl (r_fieldAddr rfl fo_25_0) ?_
    replace hb1:=hb1.mono e2
    refine WL.q rfl (r_load one_3 rfl (Ext.refl _) (hb1.get rfl)) ?_
    refine WL.nil ?_
    refine WC.block ?_
    refine WC.seq<|WC.seq<|WC.region ?_
    refine WL.q rfl (r_cmp (r_eql rfl rfl) (beqF (q10))) ?_
    refine WL.q rfl (r_assign rfl) ?_
    refine WL.nil ?_
    refine WC.condF rfl ?_
    refine WC.seq<|WC.region ?_
    refine WL.q rfl (r_cmp (r_eql rfl rfl) (beqF (q4))) ?_
    refine WL.q rfl (r_assign rfl) ?_
    refine WL.nil ?_
    refine WC.condF rfl ?_
    refine WC.region ?_
    refine WL.q rfl (r_cmp (r_eql rfl rfl) (beqF (by omega))) ?_
    refine WL.q rfl (r_assign rfl) ?_
    refine WL.nil ?_
    refine WC.condF rfl ?_
    refine WC.seq<|WC.region ?_
    refine WL.q rfl (r_cmp (r_eql rfl rfl) (beqT (q6))) ?_
    refine WL.q rfl (r_assign rfl) ?_
    refine WL.nil ?_
    refine WC.condT rfl ?_
    replace hK:=(hK.mono e1).mono e2
    replace hUT:=(hUT.mono e1).mono e2
    refine WC.seq<|WC.regionD [(true,0),(true,1),(true,2),(false,3),(false,4),(true,5)] (Evo (fun b=>b≠w1.heap.size) _) mixed (by kernel_rfl) (Evo.drew _) ?_
    have nd1w2:w2.drew.heap.size=w2.heap.size:=rfl
    refine WD.q rfl (fun _ hS=>r_loadAgg agg_25 rfl hS hb1.at (hn:=by first|rfl|assumption)) ?_
    refine WD.q rfl (fun _ hS=>r_fieldAddr rfl fo_25_2) ?_
    refine WD.q rfl (fun _ hS=>r_load one_9 rfl hS (hb1.get rfl)) ?_
    refine WD.l rfl rfl (l_do body_16 rfl (valid_ok (hUT.mono (Ext.drew _)) (by omega))) fun v3 w3 hh=>?_
    obtain⟨rfl,e3⟩:=hh
    have ns3:w2.heap.size≤w3.heap.size:=e3.size
    refine⟨((Evo.drew _).then e3),?_⟩
    replace hb2:=(hb2.mono (Ext.drew _)).mono e3
    refine WD.l0 rfl (l_storeW sz_25 rfl rfl (by first|rfl|assumption|(simp[*];done)|simp[Value.oneCell', *]) (by first|rfl|simp[*]) hb2 (by first|rfl|simp[*])) fun _ w4 hh=>?_
    obtain⟨hb2,e4,hz4⟩:=hh
    have ns4:w3.heap.size≤w4.heap.size:=e4.size
    refine⟨(((Evo.drew _).then e3).then e4),?_⟩
    refine WD.q rfl (fun _ hS=>r_assign rfl) ?_
    refine WD.nil ?_
    refine WC.ret ?_
    replace he:=(((he.then e2).then (Ext.drew _)).then e3).then e4
    exact finCT rfl hb2 agg_25 rfl ⟨_,_,rfl,rfl,rfl,fun h=>⟨by rw[JOK];exact⟨q4,q5,q10,fun _=>h,fun h=>by omega,fun h=>by omega⟩,by rw[asJ,if_neg (by omega),if_neg (by omega),RepP];exact⟨_,rfl,SlX.zero⟩⟩,he.weaken fun b hb _=>hb⟩
  rcases Decidable.em (k=7)with q7|q7
  · skip
    refine doesR Tryz.func8 rfl rfl rfl ?_
    have he:Evo (fun _=>True) w w:=Evo.refl w
    refine WC.seq<|WC.region ?_
    have hs1:=he.size
    refine WL.l rfl (l_boxAgg rfl) fun _ w1 hh=>?_
    obtain⟨rfl,hb1,e1⟩:=hh
    replace he:=he.then e1
    have hs2:=he.size
    have hx2b1:=hb1.lt
    refine WL.l rfl (l_alloc zt_25 rfl) fun _ w2 hh=>?_
    obtain⟨rfl,hb2,e2⟩:=hh
    refine WL.q rfl (r_assign rfl) ?_
    refine WL.nil ?_
    refine WC.seq<|WC.seq<|WC.region ?_
    refine WL.q rfl (r_fieldAddr rfl fo_25_0) ?_
    replace hb1:=hb1.mono e2
    refine WL.q rfl (r_load one_3 rfl (Ext.refl _) (hb1.get rfl)) ?_
    refine WL.nil ?_
    refine WC.block ?_
    refine WC.seq<|WC.seq<|WC.region ?_
    refine WL.q rfl (r_cmp (r_eql rfl rfl) (beqF (q10))) ?_
    refine WL.q rfl (r_assign rfl) ?_
    refine WL.nil ?_
    refine WC.condF rfl ?_
    refine WC.seq<|WC.region ?_
    refine WL.q rfl (r_cmp (r_eql rfl rfl) (beqF (q4))) ?_
    refine WL.q rfl (r_assign rfl) ?_
    refine WL.nil ?_
    refine WC.condF rfl ?_
    refine WC.region ?_
    refine WL.q rfl (r_cmp (r_eql rfl rfl) (beqF (by omega))) ?_
    refine WL.q rfl (r_assign rfl) ?_
    refine WL.nil ?_
    refine WC.condF rfl ?_
    refine WC.seq<|WC.region ?_
    refine WL.q rfl (r_cmp (r_eql rfl rfl) (beqF (q6))) ?_
    refine WL.q rfl (r_assign rfl) ?_
    refine WL.nil ?_
    refine WC.condF rfl ?_
    refine WC.seq<|WC.region ?_
    refine WL.q rfl (r_cmp (r_eql rfl rfl) (beqT (q7))) ?_
    refine WL.q rfl (r_assign rfl) ?_
    refine WL.nil ?_
    refine WC.condT rfl ?_
    refine WC.seq<|WC.region ?_
    refine WL.q rfl (r_fieldAddr rfl fo_25_2) ?_
    refine WL.q rfl (r_load one_9 rfl (Ext.refl _) (hb1.get rfl)) ?_
    refine WL.l rfl (l_do body_17 rfl (Base64_ok p9)) fun v3 w3 hh=>?_
    obtain⟨rfl,e3⟩:=hh
    refine WL.q rfl (r_bld (cs:=[_,_,_,_,_]) bld_25 rfl rfl) ?_
    replace hb2:=hb2.mono e3
    refine WL.l0 (l_storeW sz_25 rfl rfl (by first|rfl|assumption|(simp[*];done)|simp[Value.oneCell', *]) (by first|rfl|simp[*]) hb2 (by first|rfl|simp[*])) fun _ w4 hh=>?_
    obtain⟨hb2,e4,hz4⟩:=hh
    refine WL.q rfl (r_assign rfl) ?_
    refine WL.nil ?_
    refine WC.ret ?_
    replace he:=((he.then e2).then e3).then e4
    exact finCT rfl hb2 agg_25 rfl ⟨_,_,rfl,rfl,rfl,fun h=>⟨by rw[JOK];exact⟨q4,q5,q10,fun h=>by omega,fun h=>by omega,fun h=>by omega⟩,by rw[asJ,if_pos q7,RepP];exact⟨_,rfl,SlX.nil⟩⟩,he⟩
  rcases Decidable.em (k=8∨k=9)with q8|q8
  · rcases q8 with q8|q8
    · skip
      refine doesR Tryz.func8 rfl rfl rfl ?_
      have he:Evo (fun b=>b<w.heap.size) w w:=Evo.refl w
      refine WC.seq<|WC.region ?_
      have hs1:=he.size
      refine WL.l rfl (l_boxAgg rfl) fun _ w1 hh=>?_
      obtain⟨rfl,hb1,e1⟩:=hh
      have nx1:=hb1.lt
      have ns1:w.heap.size≤w1.heap.size:=e1.size
      replace he:=he.then e1
      have hs2:=he.size
      have hx2b1:=hb1.lt
      refine WL.l rfl (l_alloc zt_25 rfl) fun _ w2 hh=>?_
      obtain⟨rfl,hb2,e2⟩:=hh
      have nx2:=hb2.lt
      have ns2:w1.heap.size≤w2.heap.size:=e2.size
      refine WL.q rfl (r_assign rfl) ?_
      refine WL.nil ?_
      refine WC.seq<|WC.seq<|WC.region ?_
      refine WL.q rfl (r_fieldAddr rfl fo_25_0) ?_
      replace hb1:=hb1.mono e2
      refine WL.q rfl (r_load one_3 rfl (Ext.refl _) (hb1.get rfl)) ?_
      refine WL.nil ?_
      refine WC.block ?_
      refine WC.seq<|WC.seq<|WC.region ?_
      refine WL.q rfl (r_cmp (r_eql rfl rfl) (beqF (q10))) ?_
      refine WL.q rfl (r_assign rfl) ?_
      refine WL.nil ?_
      refine WC.condF rfl ?_
      refine WC.seq<|WC.region ?_
      refine WL.q rfl (r_cmp (r_eql rfl rfl) (beqF (q4))) ?_
      refine WL.q rfl (r_assign rfl) ?_
      refine WL.nil ?_
      refine WC.condF rfl ?_
      refine WC.region ?_
      refine WL.q rfl (r_cmp (r_eql rfl rfl) (beqF (by omega))) ?_
      refine WL.q rfl (r_assign rfl) ?_
      refine WL.nil ?_
      refine WC.condF rfl ?_
      refine WC.seq<|WC.region ?_
      refine WL.q rfl (r_cmp (r_eql rfl rfl) (beqF (q6))) ?_
      refine WL.q rfl (r_assign rfl) ?_
      refine WL.nil ?_
      refine WC.condF rfl ?_
      refine WC.seq<|WC.region ?_
      refine WL.q rfl (r_cmp (r_eql rfl rfl) (beqF (q7))) ?_
      refine WL.q rfl (r_assign rfl) ?_
      refine WL.nil ?_
      refine WC.condF rfl ?_
      refine WC.seq<|WC.seq<|WC.region ?_
      refine WL.q rfl (r_cmp (r_eql rfl rfl) (beqT (q8))) ?_
      refine WL.q rfl (r_assign rfl) ?_
      refine WL.nil ?_
      refine WC.condT rfl ?_
      refine WC.skip ?_
      refine WC.condT rfl ?_
      refine WC.seq<|WC.region ?_
      refine WL.q rfl (r_fieldAddr rfl fo_25_0) ?_
      refine WL.q rfl (r_load one_3 rfl (Ext.refl _) (hb1.get rfl)) ?_
      refine WL.q rfl (r_bld (cs:=[_,_,_,_,_]) bld_25 rfl rfl) ?_
      replace he:=he.then e2
      have hs3:=he.size
      have hx3b1:=hb1.lt
      have hx3b2:=hb2.lt
      refine WL.l rfl (l_alloc zt_25 rfl) fun _ w3 hh=>?_
      obtain⟨rfl,hb3,e3⟩:=hh
      have nx3:=hb3.lt
      have ns3:w2.heap.size≤w3.heap.size:=e3.size
      refine WL.l0 (l_storeW sz_25 rfl rfl (by first|rfl|assumption|(simp[*];done)|simp[Value.oneCell', *]) (by first|rfl|simp[*]) hb3 (by first|rfl|simp[*])) fun _ w4 hh=>?_
      obtain⟨hb3,e4,hz4⟩:=hh
      have ns4:w3.heap.size≤w4.heap.size:=e4.size
      refine WL.nil ?_
      refine WC.seq<|WC.seq<|WC.region ?_
      refine WL.q rfl (r_fieldAddr rfl fo_25_4) ?_
      replace hb1:=hb1.mono (e3.then e4)
      refine WL.q rfl (r_load one_23 rfl (Ext.refl _) (hb1.get rfl)) ?_
      refine WL.q rfl (r_len sl_23 rfl) ?_
      refine WL.q rfl (r_move rfl) ?_
      refine WL.nil ?_
      refine WC.block ?_
      obtain⟨N1,eN1⟩:∃M,M=w4.heap.size:=⟨_,rfl⟩
      replace hK:=((hK.mono e1).mono e2).mono (e3.then e4)
      replace hUT:=((hUT.mono e1).mono e2).mono (e3.then e4)
      replace hb2:=hb2.mono (e3.then e4)
      replace he:=he.then (e3.then e4)
      refine WC.loop2 (ι:=Nat) [(1,_),(2,_),(3,_),(4,_),(35,_),(36,_)] (fun i=>[(37,.int .i64 (i:Int))]) (fun i wi=>(∃sv cs,Blk wi w2.heap.size [.int .i64 k,.int .u64 0,str [],.int .i64 0,sv]∧Own N1 25 5 wi sv i cs∧RepPL (fun b=>N1≤b∧sv.ownBlock≠some b) wi (asJL (ks.take i)) cs)∧(∀j (h:j<ks.length),j<i→JOK ks[j]∧(k=9→j%2=0→ks[j].kind=6))∧i≤ks.length∧Evo (fun b=>b<N1∧b≠w2.heap.size) w4 wi) (fun i=>ks.length-i) 0 (.cons rfl (.cons rfl (.cons rfl (.cons rfl (.cons rfl (.cons rfl .nil)))))) (.cons rfl .nil) (⟨⟨_,_,hb3,Own.nil _ _ _ _,by rw[List.take_zero,asJL,RepPL]⟩,fun j _ hj=>absurd hj (by omega),Nat.zero_le _,Evo.refl _⟩) ?_
      intro i wi1 hh;obtain⟨⟨sv,cs,hb3,hO,hV⟩,qS,ni,hE⟩:=hh
      have nwi:=hE.size
      have hOl:=hO.lt
      rcases Nat.lt_or_ge i ks.length with qi|qi
      replace hK:=hK.mono hE
      · obtain⟨b,o1,c1,rfl,_,hA1,l2,hR1⟩:=hK.kid qi
        have hFk:=pL.mem _ (List.getElem_mem qi)
        have hS1:=hks _ (List.getElem_mem qi)
        rcases hf:ks[i]with⟨k1,n1,t1,x1,ks1⟩
        rw[hf]at hR1 hFk hS1
        have hR2:=hR1
        obtain⟨pk1,ck1,rfl,_,_⟩:=hR1.openP
        refine WC.seq<|WC.region ?_
        refine WL.q rfl (r_cmp (r_lss rfl rfl) (decide_eq_true (by omega))) ?_
        refine WL.nil ?_
        refine WC.seq<|WC.condT rfl ?_
        refine WC.skip ?_
        refine WC.seq<|WC.block ?_
        refine WC.seq<|WC.region ?_
        refine WL.q rfl (r_move rfl) ?_
        refine WL.q rfl (r_idx sl_23 rfl rfl rfl (by first|omega|(simp;done)|(simp;omega))) ?_
        refine WL.q rfl (r_loadAgg agg_25 rfl (Ext.refl _) hA1 (hn:=rfl)) ?_
        replace he:=he.then hE
        have hs5:=he.size
        replace hb1:=hb1.mono hE
        have hx5b1:=hb1.lt
        replace hb2:=hb2.mono hE
        have hx5b2:=hb2.lt
        have hx5b3:=hb3.lt
        refine WL.l rfl (l_alloc zt_25 rfl) fun _ w5 hh=>?_
        obtain⟨rfl,hb5,e5⟩:=hh
        have nx5:=hb5.lt
        have ns5:wi1.heap.size≤w5.heap.size:=e5.size
        refine WL.q rfl (r_assign rfl) ?_
        refine WL.l0 (l_storeW sz_25 rfl rfl (by first|rfl|assumption|(simp[*];done)|simp[Value.oneCell', *]) (by first|rfl|simp[*]) hb5 (by first|rfl|simp[*])) fun _ w6 hh=>?_
        obtain⟨hb5,e6,hz6⟩:=hh
        have ns6:w5.heap.size≤w6.heap.size:=e6.size
        refine WL.nil ?_
        refine WC.seq<|WC.region ?_
        refine WL.q rfl (r_loadAgg agg_25 rfl (Ext.refl _) hb5.at (hn:=by first|rfl|assumption)) ?_
        replace hUT:=(hUT.mono hE).mono (e5.then e6)
        replace hR2:=hR2.mono (e5.then e6)
        refine WL.l rfl (l_do body_8 rfl (hS1 _ _ _ _ hR2 hFk hUT)) fun v7 w7 hh=>?_
        obtain⟨ca,za,rfl,lca,oca,nza,e7⟩:=hh
        have ns7:w6.heap.size≤w7.heap.size:=e7.size
        refine WL.q rfl (r_move rfl) ?_
        refine WL.q rfl (r_extract rfl rfl) ?_
        refine WL.q rfl (r_extract rfl rfl) ?_
        replace he:=(he.then (e5.then e6)).then e7
        have hs8:=he.size
        replace hb1:=(hb1.mono (e5.then e6)).mono e7
        have hx8b1:=hb1.lt
        replace hb2:=(hb2.mono (e5.then e6)).mono e7
        have hx8b2:=hb2.lt
        replace hb3:=(hb3.mono (e5.then e6)).mono e7
        have hx8b3:=hb3.lt
        replace hb5:=hb5.mono e7
        have hx8b5:=hb5.lt
        refine WL.l rfl (l_alloc zt_25 rfl) fun _ w8 hh=>?_
        obtain⟨rfl,hb8,e8⟩:=hh
        have nx8:=hb8.lt
        have ns8:w7.heap.size≤w8.heap.size:=e8.size
        refine WL.l0 (l_storeW sz_25 rfl rfl (by first|rfl|assumption|(simp[*];done)|simp[Value.oneCell', *]) (by first|rfl|simp[*]) hb8 (by first|rfl|simp[*])) fun _ w9 hh=>?_
        obtain⟨hb8,e9,hz9⟩:=hh
        have ns9:w8.heap.size≤w9.heap.size:=e9.size
        refine WL.q rfl (r_assign rfl) ?_
        refine WL.nil ?_
        refine WC.seq<|WC.seq<|WC.region ?_
        refine WL.q rfl (r_move rfl) ?_
        refine WL.q rfl (r_not rfl) ?_
        refine WL.q rfl (r_move rfl) ?_
        refine WL.qc rfl rfl rfl rfl (fun hc=>r_fieldAddr rfl fo_25_0) ?_
        replace hb1:=hb1.mono (e8.then e9)
        refine WL.qc rfl rfl rfl rfl (fun hc=>r_load one_3 (cnd_of hc) (Ext.refl _) (hb1.get rfl)) ?_
        refine WL.qc rfl rfl rfl rfl (fun hc=>r_eql (cnd_of hc) rfl) ?_
        refine WL.qc rfl rfl rfl rfl (fun hc=>r_move (cnd_of hc)) ?_
        refine WL.qcc rfl rfl rfl rfl (fun hc hx=>r_move rfl) ?_
        refine WL.qcc rfl rfl rfl rfl (fun hc hx=>r_rem (by decide) (cnd_and hc hx) rfl) ?_
        refine WL.qcc rfl rfl rfl rfl (fun hc hx=>r_eql (cnd_and hc hx) rfl) ?_
        refine WL.qc rfl rfl rfl rfl (fun hc=>r_and (cnd_of hc) rfl (fun h=>by first|(simp[*];done)|(exfalso;simp at h;done)|(simp_all;done))) ?_
        refine WL.qc rfl rfl rfl rfl (fun hc=>r_move (cnd_of hc)) ?_
        refine WL.qcc rfl rfl rfl rfl (fun hc hx=>r_fieldAddr rfl fo_25_0) ?_
        replace hb5:=hb5.mono (e8.then e9)
        refine WL.qcc rfl rfl rfl rfl (fun hc hx=>r_load one_3 (cnd_and hc hx) (Ext.refl _) (hb5.get rfl)) ?_
        refine WL.qcc rfl rfl rfl rfl (fun hc hx=>r_neq (cnd_and hc hx) rfl) ?_
        refine WL.qc rfl rfl rfl rfl (fun hc=>r_and (cnd_of hc) rfl (fun h=>by first|(simp[*];done)|(exfalso;simp at h;done)|(simp_all;done))) ?_
        refine WL.q rfl (r_or rfl rfl (fun h=>beq_iff_eq.2 h)) ?_
        refine WL.nil ?_
        refine WC.cond rfl ?_ ?_
        · intro hc
          refine WC.seq<|WC.region ?_
          refine WL.q rfl (r_loadAgg agg_25 rfl (Ext.refl _) hb1.at (hn:=by first|rfl|assumption)) ?_
          replace hb2:=hb2.mono (e8.then e9)
          refine WL.l0 (l_storeW sz_25 rfl rfl (by first|rfl|assumption|(simp[*];done)|simp[Value.oneCell', *]) (by first|rfl|simp[*]) hb2 (by first|rfl|simp[*])) fun _ w10 hh=>?_
          obtain⟨hb2,e10,hz10⟩:=hh
          have ns10:w9.heap.size≤w10.heap.size:=e10.size
          refine WL.q rfl (r_assign rfl) ?_
          refine WL.nil ?_
          refine WC.ret ?_
          replace he:=(he.then (e8.then e9)).then e10
          exact finCT rfl hb2 agg_25 rfl ⟨_,_,rfl,rfl,rfl,fun h=>(by cases h),he.weaken fun b hb _=>hb⟩
        · intro hc
          simp only[Bool.or_eq_false_iff,Bool.not_eq_false',Bool.and_eq_false_iff,beq_eq_false_iff_ne,bne_eq_false_iff_eq,ne_eq]at hc
          obtain⟨hza,hc2⟩:=hc
          obtain⟨hJ,hRc⟩:=nza hza
          have hRc:=((hRc.weakenW (B:=fun b=>(N1≤b∧sv.ownBlock≠some b)∧b<w7.heap.size) (fun b hb h=>⟨⟨by omega,fun e=>by have:=hOl b e;omega⟩,hb⟩)).mono e8).mono e9
          have hRc:=hRc.weaken (B:=fun b=>N1≤b∧sv.ownBlock≠some b) fun b h=>h.1
          have q1:=hRc.one
          refine WC.skip ?_
          refine WC.region ?_
          refine WL.q rfl (r_fieldAddr rfl fo_25_4) ?_
          replace hb3:=hb3.mono (e8.then e9)
          refine WL.q rfl (r_load one_23 rfl (Ext.refl _) (hb3.get rfl)) ?_
          refine WL.q rfl (r_loadAgg agg_25 rfl (Ext.refl _) hb8.at (hn:=lca)) ?_
          replace he:=he.then (e8.then e9)
          have hs10:=he.size
          have hx10b1:=hb1.lt
          replace hb2:=hb2.mono (e8.then e9)
          have hx10b2:=hb2.lt
          have hx10b3:=hb3.lt
          have hx10b5:=hb5.lt
          have hx10b8:=hb8.lt
          refine WL.l rfl (l_lit (vs:=[_]) slz_23 rfl (by first|rfl|(simp[Value.cells,Nat.beq_eq, *];done)) rfl rfl rfl) fun _ w10 hh=>?_
          obtain⟨rfl,hb10,e10⟩:=hh
          have ns10:w9.heap.size≤w10.heap.size:=e10.size
          replace hO:=(((hO.mono (e5.then e6)).mono e7).mono (e8.then e9)).mono e10
          replace hV:=(((hV.mono (e5.then e6)).mono e7).mono (e8.then e9)).mono e10
          replace hRc:=hRc.mono e10
          refine WL.l rfl (l_appQ slz_23 rfl rfl hO hV (RepPL.one hRc) (Src.at slk_23 (flat1 hb10) lca q1) (by omega) (by simp only[maxLen];omega) (by omega)) fun v11 w11 hh=>?_
          obtain⟨hO,hV,e11⟩:=hh
          obtain⟨q11,c11,hq11,_,_⟩:=hO.form
          subst hq11
          have ns11:w10.heap.size≤w11.heap.size:=e11.size
          refine WL.q rfl (r_fieldAddr rfl fo_25_4) ?_
          replace hb3:=(hb3.mono e10).mono e11
          refine WL.l0 (l_store sz_23 rfl rfl (by first|rfl|assumption|exact Own.one (by assumption)) hb3 rfl) fun _ w12 hh=>?_
          obtain⟨hb3,e12,hz12⟩:=hh
          have ns12:w11.heap.size≤w12.heap.size:=e12.size
          refine WL.nil ?_
          refine WC.region ?_
          refine WL.q rfl (r_addi rfl rfl rfl (by omega) (by omega)) ?_
          refine WL.q rfl (r_move rfl) ?_
          refine WL.nil ?_
          have hsn:asJL (ks.take (i+1))=asJL (ks.take i)++[asJ (.mk k1 n1 t1 x1 ks1)]:=by
            rw[asJL_map,asJL_map,← List.take_append_getElem qi,List.map_append,hf];rfl
          replace hV:=hV.mono e12
          rw[← hsn]at hV
          have qJ:∀j (h:j<ks.length),j<i+1→JOK ks[j]∧(k=9→j%2=0→ks[j].kind=6):=fun j h hj=>by
            rcases Nat.lt_or_ge j i with h1|h1
            · exact qS j h h1
            · obtain rfl:j=i:=by omega
              rw[hf]
              refine⟨hJ,fun h9 he2=>?_⟩
              rcases hc2 with(h3|h3)|h3
              · exact absurd h9 h3
              · rw[Int.tmod_eq_emod_of_nonneg (by omega)]at h3;omega
              · exact h3
          replace hO:=hO.mono e12
          exact⟨i+1,(.cons rfl (.cons rfl (.cons rfl (.cons rfl (.cons rfl (.cons rfl .nil)))))),(.cons (lk_int rfl (by omega)) .nil),⟨⟨_,_,hb3,hO,hV⟩,qJ,qi,(((((((hE.then (e5.then e6)).then e7).then (e8.then e9)).then e10).then e11).then e12))⟩,by omega⟩
      · have hil:i=ks.length:=by omega
        obtain⟨q0,c0,hq0,_,_⟩:=hO.form
        subst hq0
        have hVl:=hV.weaken (B:=fun b=>w.heap.size≤b∧N1≤b) fun b h=>⟨by omega,h.1⟩
        have hSl:SlX (fun b=>w.heap.size≤b∧N1≤b) wi1 (asJL ks).length (.slice q0 i c0) (RepPL (fun b=>w.heap.size≤b∧N1≤b) wi1 (asJL ks)):=by
          have e1:(asJL ks).length=ks.length:=by rw[asJL_map,List.length_map]
          rw[hil,List.take_length]at hVl
          exact SlX.own hO (by rw[e1,hil]) hVl fun b h1 h2=>⟨by omega,h1⟩
        refine WC.seq<|WC.region ?_
        refine WL.q rfl (r_cmp (r_lss rfl rfl) (decide_eq_false (by omega))) ?_
        refine WL.nil ?_
        refine WC.seq<|WC.condF rfl ?_
        refine WC.exit ?_
        refine WC.seq<|WC.region ?_
        refine WL.q rfl (r_loadAgg agg_25 rfl (Ext.refl _) hb3.at (hn:=by first|rfl|assumption)) ?_
        replace hb2:=hb2.mono hE
        refine WL.l0 (l_storeW sz_25 rfl rfl (by first|rfl|assumption|(simp[*];done)|simp[Value.oneCell', *]) (by first|rfl|simp[*]) hb2 (by first|rfl|simp[*])) fun _ w5 hh=>?_
        obtain⟨hb2,e5,hz5⟩:=hh
        have ns5:wi1.heap.size≤w5.heap.size:=e5.size
        refine WL.q rfl (r_assign rfl) ?_
        refine WL.nil ?_
        refine WC.ret ?_
        replace he:=(he.then hE).then e5
        refine finCT rfl hb2 agg_25 rfl ⟨_,_,rfl,rfl,rfl,fun _=>⟨?_,?_⟩,he.weaken fun b hb _=>hb⟩
        · rw[JOK]
          exact⟨q4,q5,q10,fun h=>by omega,fun _=>JOKL.of fun x hx=>by obtain⟨j,hj,rfl⟩:=List.getElem_of_mem hx;exact(qS j hj (by omega)).1,fun h9 j hj he2=>(qS j hj (by omega)).2 h9 he2⟩
        · rw[asJ,if_neg q7,if_pos (by omega),RepP]
          replace hSl:=hSl.mono e5
          have hSl:=hSl.low (B:=fun b=>w.heap.size≤b) fun b h=>h.1
          exact⟨_,rfl,hSl⟩
    · skip
      refine doesR Tryz.func8 rfl rfl rfl ?_
      have he:Evo (fun b=>b<w.heap.size) w w:=Evo.refl w
      refine WC.seq<|WC.region ?_
      have hs1:=he.size
      refine WL.l rfl (l_boxAgg rfl) fun _ w1 hh=>?_
      obtain⟨rfl,hb1,e1⟩:=hh
      have nx1:=hb1.lt
      have ns1:w.heap.size≤w1.heap.size:=e1.size
      replace he:=he.then e1
      have hs2:=he.size
      have hx2b1:=hb1.lt
      refine WL.l rfl (l_alloc zt_25 rfl) fun _ w2 hh=>?_
      obtain⟨rfl,hb2,e2⟩:=hh
      have nx2:=hb2.lt
      have ns2:w1.heap.size≤w2.heap.size:=e2.size
      refine WL.q rfl (r_assign rfl) ?_
      refine WL.nil ?_
      refine WC.seq<|WC.seq<|WC.region ?_
      refine WL.q rfl (r_fieldAddr rfl fo_25_0) ?_
      replace hb1:=hb1.mono e2
      refine WL.q rfl (r_load one_3 rfl (Ext.refl _) (hb1.get rfl)) ?_
      refine WL.nil ?_
      refine WC.block ?_
      refine WC.seq<|WC.seq<|WC.region ?_
      refine WL.q rfl (r_cmp (r_eql rfl rfl) (beqF (q10))) ?_
      refine WL.q rfl (r_assign rfl) ?_
      refine WL.nil ?_
      refine WC.condF rfl ?_
      refine WC.seq<|WC.region ?_
      refine WL.q rfl (r_cmp (r_eql rfl rfl) (beqF (q4))) ?_
      refine WL.q rfl (r_assign rfl) ?_
      refine WL.nil ?_
      refine WC.condF rfl ?_
      refine WC.region ?_
      refine WL.q rfl (r_cmp (r_eql rfl rfl) (beqF (by omega))) ?_
      refine WL.q rfl (r_assign rfl) ?_
      refine WL.nil ?_
      refine WC.condF rfl ?_
      refine WC.seq<|WC.region ?_
      refine WL.q rfl (r_cmp (r_eql rfl rfl) (beqF (q6))) ?_
      refine WL.q rfl (r_assign rfl) ?_
      refine WL.nil ?_
      refine WC.condF rfl ?_
      refine WC.seq<|WC.region ?_
      refine WL.q rfl (r_cmp (r_eql rfl rfl) (beqF (q7))) ?_
      refine WL.q rfl (r_assign rfl) ?_
      refine WL.nil ?_
      refine WC.condF rfl ?_
      refine WC.seq<|WC.seq<|WC.region ?_
      refine WL.q rfl (r_cmp (r_eql rfl rfl) (beqF (by omega))) ?_
      refine WL.q rfl (r_assign rfl) ?_
      refine WL.nil ?_
      refine WC.condF rfl ?_
      refine WC.region ?_
      refine WL.q rfl (r_cmp (r_eql rfl rfl) (beqT (q8))) ?_
      refine WL.q rfl (r_assign rfl) ?_
      refine WL.nil ?_
      refine WC.condT rfl ?_
      refine WC.seq<|WC.region ?_
      refine WL.q rfl (r_fieldAddr rfl fo_25_0) ?_
      refine WL.q rfl (r_load one_3 rfl (Ext.refl _) (hb1.get rfl)) ?_
      refine WL.q rfl (r_bld (cs:=[_,_,_,_,_]) bld_25 rfl rfl) ?_
      replace he:=he.then e2
      have hs3:=he.size
      have hx3b1:=hb1.lt
      have hx3b2:=hb2.lt
      refine WL.l rfl (l_alloc zt_25 rfl) fun _ w3 hh=>?_
      obtain⟨rfl,hb3,e3⟩:=hh
      have nx3:=hb3.lt
      have ns3:w2.heap.size≤w3.heap.size:=e3.size
      refine WL.l0 (l_storeW sz_25 rfl rfl (by first|rfl|assumption|(simp[*];done)|simp[Value.oneCell', *]) (by first|rfl|simp[*]) hb3 (by first|rfl|simp[*])) fun _ w4 hh=>?_
      obtain⟨hb3,e4,hz4⟩:=hh
      have ns4:w3.heap.size≤w4.heap.size:=e4.size
      refine WL.nil ?_
      refine WC.seq<|WC.seq<|WC.region ?_
      refine WL.q rfl (r_fieldAddr rfl fo_25_4) ?_
      replace hb1:=hb1.mono (e3.then e4)
      refine WL.q rfl (r_load one_23 rfl (Ext.refl _) (hb1.get rfl)) ?_
      refine WL.q rfl (r_len sl_23 rfl) ?_
      refine WL.q rfl (r_move rfl) ?_
      refine WL.nil ?_
      refine WC.block ?_
      obtain⟨N1,eN1⟩:∃M,M=w4.heap.size:=⟨_,rfl⟩
      replace hK:=((hK.mono e1).mono e2).mono (e3.then e4)
      replace hUT:=((hUT.mono e1).mono e2).mono (e3.then e4)
      replace hb2:=hb2.mono (e3.then e4)
      replace he:=he.then (e3.then e4)
      refine WC.loop2 (ι:=Nat) [(1,_),(2,_),(3,_),(4,_),(35,_),(36,_)] (fun i=>[(37,.int .i64 (i:Int))]) (fun i wi=>(∃sv cs,Blk wi w2.heap.size [.int .i64 k,.int .u64 0,str [],.int .i64 0,sv]∧Own N1 25 5 wi sv i cs∧RepPL (fun b=>N1≤b∧sv.ownBlock≠some b) wi (asJL (ks.take i)) cs)∧(∀j (h:j<ks.length),j<i→JOK ks[j]∧(k=9→j%2=0→ks[j].kind=6))∧i≤ks.length∧Evo (fun b=>b<N1∧b≠w2.heap.size) w4 wi) (fun i=>ks.length-i) 0 (.cons rfl (.cons rfl (.cons rfl (.cons rfl (.cons rfl (.cons rfl .nil)))))) (.cons rfl .nil) (⟨⟨_,_,hb3,Own.nil _ _ _ _,by rw[List.take_zero,asJL,RepPL]⟩,fun j _ hj=>absurd hj (by omega),Nat.zero_le _,Evo.refl _⟩) ?_
      intro i wi1 hh;obtain⟨⟨sv,cs,hb3,hO,hV⟩,qS,ni,hE⟩:=hh
      have nwi:=hE.size
      have hOl:=hO.lt
      rcases Nat.lt_or_ge i ks.length with qi|qi
      replace hK:=hK.mono hE
      · obtain⟨b,o1,c1,rfl,_,hA1,l2,hR1⟩:=hK.kid qi
        have hFk:=pL.mem _ (List.getElem_mem qi)
        have hS1:=hks _ (List.getElem_mem qi)
        rcases hf:ks[i]with⟨k1,n1,t1,x1,ks1⟩
        rw[hf]at hR1 hFk hS1
        have hR2:=hR1
        obtain⟨pk1,ck1,rfl,_,_⟩:=hR1.openP
        refine WC.seq<|WC.region ?_
        refine WL.q rfl (r_cmp (r_lss rfl rfl) (decide_eq_true (by omega))) ?_
        refine WL.nil ?_
        refine WC.seq<|WC.condT rfl ?_
        refine WC.skip ?_
        refine WC.seq<|WC.block ?_
        refine WC.seq<|WC.region ?_
        refine WL.q rfl (r_move rfl) ?_
        refine WL.q rfl (r_idx sl_23 rfl rfl rfl (by first|omega|(simp;done)|(simp;omega))) ?_
        refine WL.q rfl (r_loadAgg agg_25 rfl (Ext.refl _) hA1 (hn:=rfl)) ?_
        replace he:=he.then hE
        have hs5:=he.size
        replace hb1:=hb1.mono hE
        have hx5b1:=hb1.lt
        replace hb2:=hb2.mono hE
        have hx5b2:=hb2.lt
        have hx5b3:=hb3.lt
        refine WL.l rfl (l_alloc zt_25 rfl) fun _ w5 hh=>?_
        obtain⟨rfl,hb5,e5⟩:=hh
        have nx5:=hb5.lt
        have ns5:wi1.heap.size≤w5.heap.size:=e5.size
        refine WL.q rfl (r_assign rfl) ?_
        refine WL.l0 (l_storeW sz_25 rfl rfl (by first|rfl|assumption|(simp[*];done)|simp[Value.oneCell', *]) (by first|rfl|simp[*]) hb5 (by first|rfl|simp[*])) fun _ w6 hh=>?_
        obtain⟨hb5,e6,hz6⟩:=hh
        have ns6:w5.heap.size≤w6.heap.size:=e6.size
        refine WL.nil ?_
        refine WC.seq<|WC.region ?_
        refine WL.q rfl (r_loadAgg agg_25 rfl (Ext.refl _) hb5.at (hn:=by first|rfl|assumption)) ?_
        replace hUT:=(hUT.mono hE).mono (e5.then e6)
        replace hR2:=hR2.mono (e5.then e6)
        refine WL.l rfl (l_do body_8 rfl (hS1 _ _ _ _ hR2 hFk hUT)) fun v7 w7 hh=>?_
        obtain⟨ca,za,rfl,lca,oca,nza,e7⟩:=hh
        have ns7:w6.heap.size≤w7.heap.size:=e7.size
        refine WL.q rfl (r_move rfl) ?_
        refine WL.q rfl (r_extract rfl rfl) ?_
        refine WL.q rfl (r_extract rfl rfl) ?_
        replace he:=(he.then (e5.then e6)).then e7
        have hs8:=he.size
        replace hb1:=(hb1.mono (e5.then e6)).mono e7
        have hx8b1:=hb1.lt
        replace hb2:=(hb2.mono (e5.then e6)).mono e7
        have hx8b2:=hb2.lt
        replace hb3:=(hb3.mono (e5.then e6)).mono e7
        have hx8b3:=hb3.lt
        replace hb5:=hb5.mono e7
        have hx8b5:=hb5.lt
        refine WL.l rfl (l_alloc zt_25 rfl) fun _ w8 hh=>?_
        obtain⟨rfl,hb8,e8⟩:=hh
        have nx8:=hb8.lt
        have ns8:w7.heap.size≤w8.heap.size:=e8.size
        refine WL.l0 (l_storeW sz_25 rfl rfl (by first|rfl|assumption|(simp[*];done)|simp[Value.oneCell', *]) (by first|rfl|simp[*]) hb8 (by first|rfl|simp[*])) fun _ w9 hh=>?_
        obtain⟨hb8,e9,hz9⟩:=hh
        have ns9:w8.heap.size≤w9.heap.size:=e9.size
        refine WL.q rfl (r_assign rfl) ?_
        refine WL.nil ?_
        refine WC.seq<|WC.seq<|WC.region ?_
        refine WL.q rfl (r_move rfl) ?_
        refine WL.q rfl (r_not rfl) ?_
        refine WL.q rfl (r_move rfl) ?_
        refine WL.qc rfl rfl rfl rfl (fun hc=>r_fieldAddr rfl fo_25_0) ?_
        replace hb1:=hb1.mono (e8.then e9)
        refine WL.qc rfl rfl rfl rfl (fun hc=>r_load one_3 (cnd_of hc) (Ext.refl _) (hb1.get rfl)) ?_
        refine WL.qc rfl rfl rfl rfl (fun hc=>r_eql (cnd_of hc) rfl) ?_
        refine WL.qc rfl rfl rfl rfl (fun hc=>r_move (cnd_of hc)) ?_
        refine WL.qcc rfl rfl rfl rfl (fun hc hx=>r_move rfl) ?_
        refine WL.qcc rfl rfl rfl rfl (fun hc hx=>r_rem (by decide) (cnd_and hc hx) rfl) ?_
        refine WL.qcc rfl rfl rfl rfl (fun hc hx=>r_eql (cnd_and hc hx) rfl) ?_
        refine WL.qc rfl rfl rfl rfl (fun hc=>r_and (cnd_of hc) rfl (fun h=>by first|(simp[*];done)|(exfalso;simp at h;done)|(simp_all;done))) ?_
        refine WL.qc rfl rfl rfl rfl (fun hc=>r_move (cnd_of hc)) ?_
        refine WL.qcc rfl rfl rfl rfl (fun hc hx=>r_fieldAddr rfl fo_25_0) ?_
        replace hb5:=hb5.mono (e8.then e9)
        refine WL.qcc rfl rfl rfl rfl (fun hc hx=>r_load one_3 (cnd_and hc hx) (Ext.refl _) (hb5.get rfl)) ?_
        refine WL.qcc rfl rfl rfl rfl (fun hc hx=>r_neq (cnd_and hc hx) rfl) ?_
        refine WL.qc rfl rfl rfl rfl (fun hc=>r_and (cnd_of hc) rfl (fun h=>by first|(simp[*];done)|(exfalso;simp at h;done)|(simp_all;done))) ?_
        refine WL.q rfl (r_or rfl rfl (fun h=>beq_iff_eq.2 h)) ?_
        refine WL.nil ?_
        refine WC.cond rfl ?_ ?_
        · intro hc
          refine WC.seq<|WC.region ?_
          refine WL.q rfl (r_loadAgg agg_25 rfl (Ext.refl _) hb1.at (hn:=by first|rfl|assumption)) ?_
          replace hb2:=hb2.mono (e8.then e9)
          refine WL.l0 (l_storeW sz_25 rfl rfl (by first|rfl|assumption|(simp[*];done)|simp[Value.oneCell', *]) (by first|rfl|simp[*]) hb2 (by first|rfl|simp[*])) fun _ w10 hh=>?_
          obtain⟨hb2,e10,hz10⟩:=hh
          have ns10:w9.heap.size≤w10.heap.size:=e10.size
          refine WL.q rfl (r_assign rfl) ?_
          refine WL.nil ?_
          refine WC.ret ?_
          replace he:=(he.then (e8.then e9)).then e10
          exact finCT rfl hb2 agg_25 rfl ⟨_,_,rfl,rfl,rfl,fun h=>(by cases h),he.weaken fun b hb _=>hb⟩
        · intro hc
          simp only[Bool.or_eq_false_iff,Bool.not_eq_false',Bool.and_eq_false_iff,beq_eq_false_iff_ne,bne_eq_false_iff_eq,ne_eq]at hc
          obtain⟨hza,hc2⟩:=hc
          obtain⟨hJ,hRc⟩:=nza hza
          have hRc:=((hRc.weakenW (B:=fun b=>(N1≤b∧sv.ownBlock≠some b)∧b<w7.heap.size) (fun b hb h=>⟨⟨by omega,fun e=>by have:=hOl b e;omega⟩,hb⟩)).mono e8).mono e9
          have hRc:=hRc.weaken (B:=fun b=>N1≤b∧sv.ownBlock≠some b) fun b h=>h.1
          have q1:=hRc.one
          refine WC.skip ?_
          refine WC.region ?_
          refine WL.q rfl (r_fieldAddr rfl fo_25_4) ?_
          replace hb3:=hb3.mono (e8.then e9)
          refine WL.q rfl (r_load one_23 rfl (Ext.refl _) (hb3.get rfl)) ?_
          refine WL.q rfl (r_loadAgg agg_25 rfl (Ext.refl _) hb8.at (hn:=lca)) ?_
          replace he:=he.then (e8.then e9)
          have hs10:=he.size
          have hx10b1:=hb1.lt
          replace hb2:=hb2.mono (e8.then e9)
          have hx10b2:=hb2.lt
          have hx10b3:=hb3.lt
          have hx10b5:=hb5.lt
          have hx10b8:=hb8.lt
          refine WL.l rfl (l_lit (vs:=[_]) slz_23 rfl (by first|rfl|(simp[Value.cells,Nat.beq_eq, *];done)) rfl rfl rfl) fun _ w10 hh=>?_
          obtain⟨rfl,hb10,e10⟩:=hh
          have ns10:w9.heap.size≤w10.heap.size:=e10.size
          replace hO:=(((hO.mono (e5.then e6)).mono e7).mono (e8.then e9)).mono e10
          replace hV:=(((hV.mono (e5.then e6)).mono e7).mono (e8.then e9)).mono e10
          replace hRc:=hRc.mono e10
          refine WL.l rfl (l_appQ slz_23 rfl rfl hO hV (RepPL.one hRc) (Src.at slk_23 (flat1 hb10) lca q1) (by omega) (by simp only[maxLen];omega) (by omega)) fun v11 w11 hh=>?_
          obtain⟨hO,hV,e11⟩:=hh
          obtain⟨q11,c11,hq11,_,_⟩:=hO.form
          subst hq11
          have ns11:w10.heap.size≤w11.heap.size:=e11.size
          refine WL.q rfl (r_fieldAddr rfl fo_25_4) ?_
          replace hb3:=(hb3.mono e10).mono e11
          refine WL.l0 (l_store sz_23 rfl rfl (by first|rfl|assumption|exact Own.one (by assumption)) hb3 rfl) fun _ w12 hh=>?_
          obtain⟨hb3,e12,hz12⟩:=hh
          have ns12:w11.heap.size≤w12.heap.size:=e12.size
          refine WL.nil ?_
          refine WC.region ?_
          refine WL.q rfl (r_addi rfl rfl rfl (by omega) (by omega)) ?_
          refine WL.q rfl (r_move rfl) ?_
          refine WL.nil ?_
          have hsn:asJL (ks.take (i+1))=asJL (ks.take i)++[asJ (.mk k1 n1 t1 x1 ks1)]:=by
            rw[asJL_map,asJL_map,← List.take_append_getElem qi,List.map_append,hf];rfl
          replace hV:=hV.mono e12
          rw[← hsn]at hV
          have qJ:∀j (h:j<ks.length),j<i+1→JOK ks[j]∧(k=9→j%2=0→ks[j].kind=6):=fun j h hj=>by
            rcases Nat.lt_or_ge j i with h1|h1
            · exact qS j h h1
            · obtain rfl:j=i:=by omega
              rw[hf]
              refine⟨hJ,fun h9 he2=>?_⟩
              rcases hc2 with(h3|h3)|h3
              · exact absurd h9 h3
              · rw[Int.tmod_eq_emod_of_nonneg (by omega)]at h3;omega
              · exact h3
          replace hO:=hO.mono e12
          exact⟨i+1,(.cons rfl (.cons rfl (.cons rfl (.cons rfl (.cons rfl (.cons rfl .nil)))))),(.cons (lk_int rfl (by omega)) .nil),⟨⟨_,_,hb3,hO,hV⟩,qJ,qi,(((((((hE.then (e5.then e6)).then e7).then (e8.then e9)).then e10).then e11).then e12))⟩,by omega⟩
      · have hil:i=ks.length:=by omega
        obtain⟨q0,c0,hq0,_,_⟩:=hO.form
        subst hq0
        have hVl:=hV.weaken (B:=fun b=>w.heap.size≤b∧N1≤b) fun b h=>⟨by omega,h.1⟩
        have hSl:SlX (fun b=>w.heap.size≤b∧N1≤b) wi1 (asJL ks).length (.slice q0 i c0) (RepPL (fun b=>w.heap.size≤b∧N1≤b) wi1 (asJL ks)):=by
          have e1:(asJL ks).length=ks.length:=by rw[asJL_map,List.length_map]
          rw[hil,List.take_length]at hVl
          exact SlX.own hO (by rw[e1,hil]) hVl fun b h1 h2=>⟨by omega,h1⟩
        refine WC.seq<|WC.region ?_
        refine WL.q rfl (r_cmp (r_lss rfl rfl) (decide_eq_false (by omega))) ?_
        refine WL.nil ?_
        refine WC.seq<|WC.condF rfl ?_
        refine WC.exit ?_
        refine WC.seq<|WC.region ?_
        refine WL.q rfl (r_loadAgg agg_25 rfl (Ext.refl _) hb3.at (hn:=by first|rfl|assumption)) ?_
        replace hb2:=hb2.mono hE
        refine WL.l0 (l_storeW sz_25 rfl rfl (by first|rfl|assumption|(simp[*];done)|simp[Value.oneCell', *]) (by first|rfl|simp[*]) hb2 (by first|rfl|simp[*])) fun _ w5 hh=>?_
        obtain⟨hb2,e5,hz5⟩:=hh
        have ns5:wi1.heap.size≤w5.heap.size:=e5.size
        refine WL.q rfl (r_assign rfl) ?_
        refine WL.nil ?_
        refine WC.ret ?_
        replace he:=(he.then hE).then e5
        refine finCT rfl hb2 agg_25 rfl ⟨_,_,rfl,rfl,rfl,fun _=>⟨?_,?_⟩,he.weaken fun b hb _=>hb⟩
        · rw[JOK]
          exact⟨q4,q5,q10,fun h=>by omega,fun _=>JOKL.of fun x hx=>by obtain⟨j,hj,rfl⟩:=List.getElem_of_mem hx;exact(qS j hj (by omega)).1,fun h9 j hj he2=>(qS j hj (by omega)).2 h9 he2⟩
        · rw[asJ,if_neg q7,if_pos (by omega),RepP]
          replace hSl:=hSl.mono e5
          have hSl:=hSl.low (B:=fun b=>w.heap.size≤b) fun b h=>h.1
          exact⟨_,rfl,hSl⟩
  · have hk0:=p2 (by omega)
    subst hk0
    refine doesR Tryz.func8 rfl rfl rfl ?_
    have he:Evo (fun _=>True) w w:=Evo.refl w
    refine WC.seq<|WC.region ?_
    have hs1:=he.size
    refine WL.l rfl (l_boxAgg rfl) fun _ w1 hh=>?_
    obtain⟨rfl,hb1,e1⟩:=hh
    replace he:=he.then e1
    have hs2:=he.size
    have hx2b1:=hb1.lt
    refine WL.l rfl (l_alloc zt_25 rfl) fun _ w2 hh=>?_
    obtain⟨rfl,hb2,e2⟩:=hh
    refine WL.q rfl (r_assign rfl) ?_
    refine WL.nil ?_
    refine WC.seq<|WC.seq<|WC.region ?_
    refine WL.q rfl (r_fieldAddr rfl fo_25_0) ?_
    replace hb1:=hb1.mono e2
    refine WL.q rfl (r_load one_3 rfl (Ext.refl _) (hb1.get rfl)) ?_
    refine WL.nil ?_
    refine WC.block ?_
    refine WC.seq<|WC.seq<|WC.region ?_
    refine WL.q rfl (r_cmp (r_eql rfl rfl) (beqF (q10))) ?_
    refine WL.q rfl (r_assign rfl) ?_
    refine WL.nil ?_
    refine WC.condF rfl ?_
    refine WC.seq<|WC.region ?_
    refine WL.q rfl (r_cmp (r_eql rfl rfl) (beqF (q4))) ?_
    refine WL.q rfl (r_assign rfl) ?_
    refine WL.nil ?_
    refine WC.condF rfl ?_
    refine WC.region ?_
    refine WL.q rfl (r_cmp (r_eql rfl rfl) (beqF (by omega))) ?_
    refine WL.q rfl (r_assign rfl) ?_
    refine WL.nil ?_
    refine WC.condF rfl ?_
    refine WC.seq<|WC.region ?_
    refine WL.q rfl (r_cmp (r_eql rfl rfl) (beqF (q6))) ?_
    refine WL.q rfl (r_assign rfl) ?_
    refine WL.nil ?_
    refine WC.condF rfl ?_
    refine WC.seq<|WC.region ?_
    refine WL.q rfl (r_cmp (r_eql rfl rfl) (beqF (q7))) ?_
    refine WL.q rfl (r_assign rfl) ?_
    refine WL.nil ?_
    refine WC.condF rfl ?_
    refine WC.seq<|WC.seq<|WC.region ?_
    refine WL.q rfl (r_cmp (r_eql rfl rfl) (beqF (by omega))) ?_
    refine WL.q rfl (r_assign rfl) ?_
    refine WL.nil ?_
    refine WC.condF rfl ?_
    refine WC.region ?_
    refine WL.q rfl (r_cmp (r_eql rfl rfl) (beqF (by omega))) ?_
    refine WL.q rfl (r_assign rfl) ?_
    refine WL.nil ?_
    refine WC.condF rfl ?_
    refine WC.skip ?_
    refine WC.seq<|WC.region ?_
    refine WL.q rfl (r_loadAgg agg_25 rfl (Ext.refl _) hb1.at (hn:=by first|rfl|assumption)) ?_
    refine WL.l0 (l_storeW sz_25 rfl rfl (by first|rfl|assumption|(simp[*];done)|simp[Value.oneCell', *]) (by first|rfl|simp[*]) hb2 (by first|rfl|simp[*])) fun _ w3 hh=>?_
    obtain⟨hb2,e3,hz3⟩:=hh
    refine WL.q rfl (r_assign rfl) ?_
    refine WL.nil ?_
    refine WC.ret ?_
    replace he:=he.then (e2.then e3)
    exact finCT rfl hb2 agg_25 rfl ⟨_,_,rfl,rfl,rfl,fun h=>⟨by rw[JOK];exact⟨q4,q5,q10,fun h=>by omega,fun h=>by omega,fun h=>by omega⟩,by rw[asJ,if_neg q7,if_neg q8,RepP];exact⟨_,rfl,SlX.zero⟩⟩,he⟩
theorem ass:∀x:Pk,AsS x:=Pk.ind fun _ _ _ _ _ h=>as_one h
end Go.Proofs.LL
