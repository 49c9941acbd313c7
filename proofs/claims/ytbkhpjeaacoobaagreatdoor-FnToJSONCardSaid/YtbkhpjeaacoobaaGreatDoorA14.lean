/- Contracts of functions and own laws. Conditions: those that each theorem states. -/
import Derived.Test.YtbkhpjeaacoobaaGreatDoorA13
set_option linter.all false
set_option maxRecDepth 20000
namespace Go.Proofs.LL
open Go Go.Proofs Go.RowKit
theorem cv_2_5:cvInt Tryz.prog 2 5=some .u8:=by kernel_rfl
theorem one_27:oneT Tryz.prog 27=true:=by kernel_rfl
theorem sl_75:slT Tryz.prog 75=some (27,1,24):=by kernel_rfl
theorem sl_76:slT Tryz.prog 76=some (3,1,8):=by kernel_rfl
theorem slk_75:slK Tryz.prog 75=true:=by kernel_rfl
theorem slz_75:slZ Tryz.prog 75=some (27,1,24,(.slice none 0 0)):=by kernel_rfl
theorem slz_76:slZ Tryz.prog 76=some (3,1,8,(.int .i64 0)):=by kernel_rfl
def NegE(u:Nat)(bs:List UInt8):Prop:=
  (18446744073709551584≤u∧bs=[UInt8.ofNat (u.mod 256)])∨∃i:Nat,i<4∧18446744073709551616≤u+2^(8 * 2^i-1)∧bs=UInt8.ofNat (208+i)::bigB u (2^i)
def PosE(u:Nat)(bs:List UInt8):Prop:=
  (u<128∧bs=[UInt8.ofNat u])∨(∃i:Nat,i<4∧u<256^(2^i)∧bs=UInt8.ofNat (204+i)::bigB u (2^i))∨∃i:Nat,i<4∧u<2^(8 * 2^i-1)∧bs=UInt8.ofNat (208+i)::bigB u (2^i)
theorem pow2_4{w:World}{b:Nat}(h:Blk w b [.int .i64 1,.int .i64 2,.int .i64 4,.int .i64 8]){i:Nat}(hi:i<4):w.cell? ⟨b,0+i,none⟩=some (.int .i64 ((2^i:Nat):Int)):=by
  rcases(show i=0∨i=1∨i=2∨i=3 by omega)with rfl|rfl|rfl|rfl
  · exact h.get (j:=0) rfl
  · exact h.get (j:=1) rfl
  · exact h.get (j:=2) rfl
  · exact h.get (j:=3) rfl
theorem pow2_le{i:Nat}(hi:i<4):1≤2^i∧2^i≤8:=by
  rcases(show i=0∨i=1∨i=2∨i=3 by omega)with rfl|rfl|rfl|rfl<;>decide
theorem wrap_byte{x:Nat}(h:x<256):IntKind.u8.wrap (x:Int)=((UInt8.ofNat x).toNat:Int):=by
  rw[IntKind.wrap_u8,UInt8.toNat_ofNat'];omega
theorem neg_lim{i:Nat}(hi:i<4):IntKind.i64.wrap (-1 * 2^(min (8 * ((2^i:Nat):Int)-1).toNat IntKind.i64.bits))= -((2^(8 * 2^i-1):Nat):Int):=by
  rcases(show i=0∨i=1∨i=2∨i=3 by omega)with rfl|rfl|rfl|rfl<;>decide
theorem pos_lim{i:Nat}(hi:i<4):IntKind.u64.wrap (1 * 2^(min (8 * ((2^i:Nat):Int)-1).toNat IntKind.u64.bits))=((2^(8 * 2^i-1):Nat):Int):=by
  rcases(show i=0∨i=1∨i=2∨i=3 by omega)with rfl|rfl|rfl|rfl<;>decide
theorem i64_neg{u:Nat}(h1:9223372036854775808≤u)(h2:u<18446744073709551616):IntKind.i64.wrap (u:Int)=(u:Int)-18446744073709551616:=by
  rw[IntKind.wrap_i64];omega
theorem neg_byte{u:Nat}(h2:u<18446744073709551616):IntKind.u8.wrap ((u:Int)-18446744073709551616)=((UInt8.ofNat (u.mod 256)).toNat:Int):=by
  show _=((UInt8.ofNat (u%256)).toNat:Int)
  rw[IntKind.wrap_u8,UInt8.toNat_ofNat'];omega
theorem flatc{w:World}{b:Nat}{v:Value}(hv:v.oneCell'=true)(h:Blk w b (([v]:List Value).flatMap (fun v=>v.cells.toList))):At w b 0 [v]:=by
  have e:([v]:List Value).flatMap (fun v=>v.cells.toList)=[v]:=by
    cases v<;>first|rfl|simp[Value.oneCell']at hv
  rw[e]at h;exact h.at
theorem putNeg_ok{fb u:Nat}{w:World}(hF:Fm w fb)(hu1:9223372036854775808≤u)(hu:u<18446744073709551616):
    Does Tryz.prog 18 [.pointer (some ⟨fb,0,none⟩),.int .u64 (u:Int),.bool true] w fun r w'=>∃bs,NegE u bs∧IsB (fun b=>w.heap.size≤b) w' r bs∧Fm w' fb∧Evo (fun k=>k≠fb) w w':=by
  have hFl:=hF.lt
  have hi:=i64_neg hu1 hu
  refine does1 Tryz.func18 rfl rfl rfl ?_
  have he:Evo (fun k=>k≠fb) w w:=Evo.refl w
  refine WC.seq<|WC.region ?_
  refine WL.q rfl (r_assign rfl) ?_
  refine WL.nil ?_
  refine WC.seq<|WC.region ?_
  refine WL.q rfl (r_move rfl) ?_
  refine WL.q rfl (r_cvIntE cv_22_2 rfl hi) ?_
  refine WL.q rfl (r_assign rfl) ?_
  refine WL.nil ?_
  refine WC.seq<|WC.seq<|WC.region ?_
  refine WL.q rfl (r_move rfl) ?_
  refine WL.q rfl (r_move rfl) ?_
  refine WL.qg rfl rfl rfl rfl (r_move rfl) ?_
  refine WL.qg rfl rfl rfl rfl (r_cmp (r_lss rfl rfl) (decide_eq_true (by(omega)))) ?_
  refine WL.q rfl (r_pick rfl rfl rfl) ?_
  refine WL.nil ?_
  refine WC.condT rfl ?_
  refine WC.seq<|WC.region ?_
  refine WL.q rfl (r_assign rfl) ?_
  refine WL.nil ?_
  refine WC.seq<|WC.seq<|WC.region ?_
  refine WL.q rfl (r_move rfl) ?_
  refine WL.q rfl (r_geq rfl rfl) ?_
  refine WL.nil ?_
  refine WC.cond rfl ?_ ?_
  · intro hc
    have hc1:18446744073709551584≤u:=by simp at hc;omega
    refine WC.region ?_
    refine WL.q rfl (r_move rfl) ?_
    refine WL.q rfl (r_move rfl) ?_
    refine WL.q rfl (r_cvIntE cv_2_5 rfl (neg_byte hu)) ?_
    refine WL.l rfl (l_litO (vs:=[_]) slz_27 rfl rfl rfl rfl rfl) fun v1 w1 hh=>?_
    obtain⟨rfl,hOl,e1⟩:=hh
    have ns1:w.heap.size≤w1.heap.size:=e1.size
    replace he:=he.then e1
    have hs2:=he.size
    refine WL.l rfl (l_lit (vs:=[_]) slz_75 rfl (by first|rfl|(simp[Value.cells,Nat.beq_eq, *];done)) rfl rfl rfl) fun _ w2 hh=>?_
    obtain⟨rfl,hb2,e2⟩:=hh
    have ns2:w1.heap.size≤w2.heap.size:=e2.size
    replace hOl:=hOl.mono e2
    refine WL.l rfl (l_appBC (fun _=>True) (R:=fun b=>w.heap.size≤b) (ts:=[]) (fun k _=>by simp[Value.ownBlock]) slz_75 rfl rfl (Own.nil w.heap.size 27 1 _) trivial (hOl.toB (l:=[UInt8.ofNat (u.mod 256)]) (A:=fun b=>w.heap.size≤b∧(Value.slice none 0 0).ownBlock≠some b) (fun b h1 h2=>⟨by omega,by simp[Value.ownBlock]⟩)) (Src.at slk_75 (flatc rfl hb2) rfl rfl) (by omega) (by simp[maxLen]) (by omega)) fun v3 w3 hh=>?_
    obtain⟨hO,hV,qnk,e3⟩:=hh
    have qol:=hO.lt
    have ns3:w2.heap.size≤w3.heap.size:=e3.size
    refine WL.q rfl (r_assign rfl) ?_
    refine WL.nil ?_
    refine WC.seq<|WC.seq<|WC.region ?_
    replace he:=(he.then e2).then e3
    have hs4:=he.size
    replace hb2:=hb2.mono e3
    have hx4b2:=hb2.lt
    refine WL.l rfl (l_lit (vs:=[_,_,_,_]) slz_76 rfl (by first|rfl|(simp[Value.cells,Nat.beq_eq, *];done)) rfl rfl rfl) fun _ w4 hh=>?_
    obtain⟨rfl,hb4,e4⟩:=hh
    have ns4:w3.heap.size≤w4.heap.size:=e4.size
    refine WL.q rfl (r_len sl_76 rfl) ?_
    refine WL.q rfl (r_move rfl) ?_
    refine WL.nil ?_
    refine WC.block ?_
    obtain⟨sb,esb⟩:∃m,m=w3.heap.size:=⟨_,rfl⟩
    have hsl:=hb4.lt
    replace hF:=(((hF.mono e1).mono e2).mono e3).mono e4
    replace hO:=hO.mono e4
    replace hV:=hV.mono e4
    replace he:=he.then e4
    refine WC.loop2 (ι:=(Nat×Value)) [(0,_),(1,_),(6,_),(7,_),(31,_),(32,_)] (fun i=>[(8,i.2),(33,.int .i64 (i.1:Int))]) (fun i wi=>(∃ts vs,Own w.heap.size 27 1 wi i.2 ts.length vs∧Bs (fun b=>w.heap.size≤b∧i.2.ownBlock≠some b) wi vs ts∧vs.length=ts.length∧ts.length≤i.1+1∧(∀t∈ts,NegE u t)∧(i.1=4→0<ts.length)∧i.2.ownBlock≠some sb)∧i.1≤4∧Fm wi fb∧Evo (fun b=>b<w.heap.size∨b=sb) w4 wi) (fun i=>4-i.1) (0,v3) (.cons rfl (.cons rfl (.cons rfl (.cons rfl (.cons rfl (.cons rfl .nil)))))) (.cons rfl (.cons rfl .nil)) (⟨⟨[[UInt8.ofNat (u.mod 256)]],_,hO,hV,rfl,by simp,fun t ht=> .inl ⟨hc1,by simpa using ht⟩,fun _=>by simp,fun e=>by have:=qol _ e;omega⟩,by omega,hF,Evo.refl _⟩) ?_
    intro i wi1 hh;obtain⟨⟨ts,vs,hO,hV,vl,tl,qP,q4,qne⟩,ni,hF,hE⟩:=hh
    obtain⟨i,sv⟩:=i
    dsimp only at hO hV tl q4 ni qne
    have nwi:=hE.size
    have hOl2:=hO.low'
    rcases Nat.lt_or_ge i 4 with qi|qi
    · have hpw:=pow2_le qi
      have hlm:=neg_lim qi
      have hbb:=bigB_length u (2^i)
      rcases Decidable.em (18446744073709551616≤u+2^(8 * 2^i-1))with qx|qx
      · have hOw:=Since.mk (Evo.refl (A:=fun b=>b<wi1.heap.size) wi1)
        refine WC.seq<|WC.region ?_
        refine WL.q rfl (r_cmp (r_lss rfl rfl) (decide_eq_true (by(omega)))) ?_
        refine WL.nil ?_
        refine WC.seq<|WC.condT rfl ?_
        refine WC.skip ?_
        refine WC.seq<|WC.block ?_
        refine WC.seq<|WC.region ?_
        refine WL.q rfl (r_move rfl) ?_
        refine WL.q rfl (r_idx1 sl_76 rfl rfl rfl (by first|omega|(simp;done)|(simp;omega))) ?_
        replace hb4:=hb4.mono hE
        refine WL.q rfl (r_load one_3 rfl (Ext.refl _) (pow2_4 hb4 qi)) ?_
        refine WL.q rfl (r_assign rfl) ?_
        refine WL.q rfl (r_assign rfl) ?_
        refine WL.nil ?_
        refine WC.seq<|WC.region ?_
        refine WL.q rfl (r_move rfl) ?_
        refine WL.q rfl (r_move rfl) ?_
        refine WL.q rfl (r_muli (c:=8 * ((2^i:Nat):Int)) rfl rfl rfl (by omega) (by omega)) ?_
        refine WL.q rfl (r_subi rfl rfl rfl (by omega) (by omega)) ?_
        refine WL.q rfl (r_as (r_shl rfl rfl (by omega)) hlm) ?_
        refine WL.q rfl (r_cmp (r_geq rfl rfl) (decide_eq_true (by(omega)))) ?_
        refine WL.nil ?_
        refine WC.condT rfl ?_
        refine WC.region ?_
        refine WL.q rfl (r_move rfl) ?_
        refine WL.q rfl (r_move rfl) ?_
        refine WL.q rfl (r_addi rfl rfl (show(208:Int)+(i:Int)=((208+i:Nat):Int) by omega) (by omega) (by omega)) ?_
        refine WL.q rfl (r_cvIntE cv_3_5 rfl (wrap_byte (by omega))) ?_
        refine WL.l rfl (l_litO (vs:=[_]) slz_27 rfl rfl rfl rfl rfl) fun v5 w5 hh=>?_
        obtain⟨rfl,hOl,e5⟩:=hh
        have ns5:wi1.heap.size≤w5.heap.size:=e5.size
        refine WL.q rfl (r_move rfl) ?_
        refine WL.q rfl (r_move rfl) ?_
        refine WL.l rfl (l_do body_26 rfl (bigN_ok (k:=2^i) (by omega))) fun v6 w6 hh=>?_
        obtain⟨hOb,e6⟩:=hh
        obtain⟨q0,c0,hq0,_,_⟩:=hOb.form
        subst hq0
        have ns6:w5.heap.size≤w6.heap.size:=e6.size
        replace hOl:=hOl.mono e6
        refine WL.l rfl (l_app slz_27 rfl rfl hOl (Src.isB slk_27 (hOb.toB (A:=fun _=>True))) (by omega) (by simp only[maxLen];omega) (by omega)) fun v7 w7 hh=>?_
        obtain⟨hOx,e7⟩:=hh
        obtain⟨q7,c7,hq7,_,_⟩:=hOx.form
        subst hq7
        have ns7:w6.heap.size≤w7.heap.size:=e7.size
        replace he:=(((he.then hE).then e5).then e6).then e7
        have hs8:=he.size
        replace hb4:=((hb4.mono e5).mono e6).mono e7
        have hx8b4:=hb4.lt
        refine WL.l rfl (l_lit (vs:=[_]) slz_75 rfl (by first|rfl|(simp[Value.cells,Nat.beq_eq, *];done)) rfl rfl rfl) fun _ w8 hh=>?_
        obtain⟨rfl,hb8,e8⟩:=hh
        have ns8:w7.heap.size≤w8.heap.size:=e8.size
        replace hOw:=(((hOw.mono e5).mono e6).mono e7).mono e8
        replace hOx:=hOx.mono e8
        refine WL.l rfl (l_appBC (fun k=>k<w.heap.size∨k=sb) (R:=fun b=>w.heap.size≤b) (l:=UInt8.ofNat (208+i)::bigB u (2^i)) (fun k hk e=>by rcases hk with hk|hk;have:=hOl2 k e;omega;exact qne (hk▸e)) slz_75 rfl rfl (hO.mono hOw.evo) (hV.mono hOw.evo (fun b hb _=>hb)) (hOx.toB (l:=UInt8.ofNat (208+i)::bigB u (2^i)) (fun b h1 h2=>⟨by omega,fun e=>by have:=hOl2 b e;omega⟩)) (Src.at slk_75 (flatc hOx.one hb8) rfl (by simp[hOx.one])) (by omega) (by simp only[maxLen];omega) (by omega)) fun v9 w9 hh=>?_
        obtain⟨hO,hV,qnk,e9⟩:=hh
        have ns9:w8.heap.size≤w9.heap.size:=e9.size
        refine WL.q rfl (r_assign rfl) ?_
        refine WL.nil ?_
        refine WC.region ?_
        refine WL.q rfl (r_addi rfl rfl rfl (by omega) (by omega)) ?_
        refine WL.q rfl (r_move rfl) ?_
        refine WL.nil ?_
        replace hF:=((((hF.mono e5).mono e6).mono e7).mono e8).mono e9
        exact⟨(i+1,v9),(.cons rfl (.cons rfl (.cons rfl (.cons rfl (.cons rfl (.cons rfl .nil)))))),(.cons rfl (.cons (lk_int rfl (by omega)) .nil)),⟨⟨_,_,hO.cast (by simp) rfl,hV,by simp[vl],by simp;omega,fun t ht=>by rcases List.mem_append.1 ht with h|h;exact qP t h;rw[List.mem_singleton.1 h];exact .inr ⟨i,qi,qx,rfl⟩,fun _=>by simp,qnk _ (by omega) qne⟩,qi,hF,((((((hE.then e5).then e6).then e7).then e8).then e9))⟩,(by dsimp only;omega)⟩
      · skip
        refine WC.seq<|WC.region ?_
        refine WL.q rfl (r_cmp (r_lss rfl rfl) (decide_eq_true (by(omega)))) ?_
        refine WL.nil ?_
        refine WC.seq<|WC.condT rfl ?_
        refine WC.skip ?_
        refine WC.seq<|WC.block ?_
        refine WC.seq<|WC.region ?_
        refine WL.q rfl (r_move rfl) ?_
        refine WL.q rfl (r_idx1 sl_76 rfl rfl rfl (by first|omega|(simp;done)|(simp;omega))) ?_
        replace hb4:=hb4.mono hE
        refine WL.q rfl (r_load one_3 rfl (Ext.refl _) (pow2_4 hb4 qi)) ?_
        refine WL.q rfl (r_assign rfl) ?_
        refine WL.q rfl (r_assign rfl) ?_
        refine WL.nil ?_
        refine WC.seq<|WC.region ?_
        refine WL.q rfl (r_move rfl) ?_
        refine WL.q rfl (r_move rfl) ?_
        refine WL.q rfl (r_muli (c:=8 * ((2^i:Nat):Int)) rfl rfl rfl (by omega) (by omega)) ?_
        refine WL.q rfl (r_subi rfl rfl rfl (by omega) (by omega)) ?_
        refine WL.q rfl (r_as (r_shl rfl rfl (by omega)) hlm) ?_
        refine WL.q rfl (r_cmp (r_geq rfl rfl) (decide_eq_false (by(omega)))) ?_
        refine WL.nil ?_
        refine WC.condF rfl ?_
        refine WC.skip ?_
        refine WC.region ?_
        refine WL.q rfl (r_addi rfl rfl rfl (by omega) (by omega)) ?_
        refine WL.q rfl (r_move rfl) ?_
        refine WL.nil ?_
        exact⟨(i+1,sv),(.cons rfl (.cons rfl (.cons rfl (.cons rfl (.cons rfl (.cons rfl .nil)))))),(.cons rfl (.cons (lk_int rfl (by omega)) .nil)),⟨⟨ts,vs,hO,hV,vl,by dsimp only;omega,qP,fun h4=>by exfalso;dsimp only at h4;obtain rfl:i=3:=(by omega);omega,qne⟩,qi,hF,(hE)⟩,(by dsimp only;omega)⟩
    · have hi4:i=4:=by omega
      have q5:=q4 hi4
      obtain⟨bq,cq,rfl,nbq,nbq2,hAt⟩:=own_pick hO hV vl q5
      have hVV:=fun(j:Nat) (hj:j<ts.length)=>Bs.get hj hV
      refine WC.seq<|WC.region ?_
      refine WL.q rfl (r_cmp (r_lss rfl rfl) (decide_eq_false (by(omega)))) ?_
      refine WL.nil ?_
      refine WC.seq<|WC.condF rfl ?_
      refine WC.exit ?_
      refine WC.seq<|WC.region ?_
      refine WL.q rfl (r_move rfl) ?_
      refine WL.q rfl (r_move rfl) ?_
      refine WL.q rfl (r_move rfl) ?_
      refine WL.q rfl (r_len sl_75 rfl) ?_
      refine WL.l rfl (l_do body_27 rfl (pick_ok (n:=ts.length) hF (by omega) (by omega))) fun v5 w5 hh=>?_
      obtain⟨⟨ki,qki,rfl⟩,hF,e5⟩:=hh
      obtain⟨xv,qxv,qxI⟩:=hVV ki qki
      have hxJ:=(qxI.weaken (B:=fun b=>w.heap.size≤b) fun b _ h=>h.1).mono e5
      have ns5:wi1.heap.size≤w5.heap.size:=e5.size
      refine WL.q rfl (r_idx1 sl_75 rfl rfl rfl (by first|omega|(simp;done)|(simp;omega))) ?_
      replace hAt:=hAt.mono e5
      refine WL.q rfl (r_load one_27 rfl (Ext.refl _) ((hAt ki (by omega)).trans qxv)) ?_
      refine WL.q rfl (r_assign rfl) ?_
      refine WL.nil ?_
      refine WC.ret ?_
      replace he:=(he.then hE).then e5
      exact fin1 rfl ⟨_,qP _ (List.getElem_mem qki),hxJ,hF,he⟩
  · intro hc
    refine WC.skip ?_
    refine WC.seq<|WC.seq<|WC.region ?_
    have hs1:=he.size
    refine WL.l rfl (l_lit (vs:=[_,_,_,_]) slz_76 rfl (by first|rfl|(simp[Value.cells,Nat.beq_eq, *];done)) rfl rfl rfl) fun _ w1 hh=>?_
    obtain⟨rfl,hb1,e1⟩:=hh
    have ns1:w.heap.size≤w1.heap.size:=e1.size
    refine WL.q rfl (r_len sl_76 rfl) ?_
    refine WL.q rfl (r_move rfl) ?_
    refine WL.nil ?_
    refine WC.block ?_
    obtain⟨sb,esb⟩:∃m,m=w.heap.size:=⟨_,rfl⟩
    have hsl:=hb1.lt
    replace hF:=hF.mono e1
    replace he:=he.then e1
    refine WC.loop2 (ι:=(Nat×Value)) [(0,_),(1,_),(6,_),(7,_),(31,_),(32,_)] (fun i=>[(8,i.2),(33,.int .i64 (i.1:Int))]) (fun i wi=>(∃ts vs,Own w.heap.size 27 1 wi i.2 ts.length vs∧Bs (fun b=>w.heap.size≤b∧i.2.ownBlock≠some b) wi vs ts∧vs.length=ts.length∧ts.length≤i.1+1∧(∀t∈ts,NegE u t)∧(i.1=4→0<ts.length)∧i.2.ownBlock≠some sb)∧i.1≤4∧Fm wi fb∧Evo (fun b=>b<w.heap.size∨b=sb) w1 wi) (fun i=>4-i.1) (0,.slice none 0 0) (.cons rfl (.cons rfl (.cons rfl (.cons rfl (.cons rfl (.cons rfl .nil)))))) (.cons rfl (.cons rfl .nil)) (⟨⟨[],[],Own.nil _ _ _ _,trivial,rfl,by simp,fun t ht=>(by cases ht),fun h=>(by cases h),by simp[Value.ownBlock]⟩,by omega,hF,Evo.refl _⟩) ?_
    intro i wi1 hh;obtain⟨⟨ts,vs,hO,hV,vl,tl,qP,q4,qne⟩,ni,hF,hE⟩:=hh
    obtain⟨i,sv⟩:=i
    dsimp only at hO hV tl q4 ni qne
    have nwi:=hE.size
    have hOl2:=hO.low'
    rcases Nat.lt_or_ge i 4 with qi|qi
    · have hpw:=pow2_le qi
      have hlm:=neg_lim qi
      have hbb:=bigB_length u (2^i)
      rcases Decidable.em (18446744073709551616≤u+2^(8 * 2^i-1))with qx|qx
      · have hOw:=Since.mk (Evo.refl (A:=fun b=>b<wi1.heap.size) wi1)
        refine WC.seq<|WC.region ?_
        refine WL.q rfl (r_cmp (r_lss rfl rfl) (decide_eq_true (by(omega)))) ?_
        refine WL.nil ?_
        refine WC.seq<|WC.condT rfl ?_
        refine WC.skip ?_
        refine WC.seq<|WC.block ?_
        refine WC.seq<|WC.region ?_
        refine WL.q rfl (r_move rfl) ?_
        refine WL.q rfl (r_idx1 sl_76 rfl rfl rfl (by first|omega|(simp;done)|(simp;omega))) ?_
        replace hb1:=hb1.mono hE
        refine WL.q rfl (r_load one_3 rfl (Ext.refl _) (pow2_4 hb1 qi)) ?_
        refine WL.q rfl (r_assign rfl) ?_
        refine WL.q rfl (r_assign rfl) ?_
        refine WL.nil ?_
        refine WC.seq<|WC.region ?_
        refine WL.q rfl (r_move rfl) ?_
        refine WL.q rfl (r_move rfl) ?_
        refine WL.q rfl (r_muli (c:=8 * ((2^i:Nat):Int)) rfl rfl rfl (by omega) (by omega)) ?_
        refine WL.q rfl (r_subi rfl rfl rfl (by omega) (by omega)) ?_
        refine WL.q rfl (r_as (r_shl rfl rfl (by omega)) hlm) ?_
        refine WL.q rfl (r_cmp (r_geq rfl rfl) (decide_eq_true (by(omega)))) ?_
        refine WL.nil ?_
        refine WC.condT rfl ?_
        refine WC.region ?_
        refine WL.q rfl (r_move rfl) ?_
        refine WL.q rfl (r_move rfl) ?_
        refine WL.q rfl (r_addi rfl rfl (show(208:Int)+(i:Int)=((208+i:Nat):Int) by omega) (by omega) (by omega)) ?_
        refine WL.q rfl (r_cvIntE cv_3_5 rfl (wrap_byte (by omega))) ?_
        refine WL.l rfl (l_litO (vs:=[_]) slz_27 rfl rfl rfl rfl rfl) fun v2 w2 hh=>?_
        obtain⟨rfl,hOl,e2⟩:=hh
        have ns2:wi1.heap.size≤w2.heap.size:=e2.size
        refine WL.q rfl (r_move rfl) ?_
        refine WL.q rfl (r_move rfl) ?_
        refine WL.l rfl (l_do body_26 rfl (bigN_ok (k:=2^i) (by omega))) fun v3 w3 hh=>?_
        obtain⟨hOb,e3⟩:=hh
        obtain⟨q0,c0,hq0,_,_⟩:=hOb.form
        subst hq0
        have ns3:w2.heap.size≤w3.heap.size:=e3.size
        replace hOl:=hOl.mono e3
        refine WL.l rfl (l_app slz_27 rfl rfl hOl (Src.isB slk_27 (hOb.toB (A:=fun _=>True))) (by omega) (by simp only[maxLen];omega) (by omega)) fun v4 w4 hh=>?_
        obtain⟨hOx,e4⟩:=hh
        obtain⟨q4,c4,hq4,_,_⟩:=hOx.form
        subst hq4
        have ns4:w3.heap.size≤w4.heap.size:=e4.size
        replace he:=(((he.then hE).then e2).then e3).then e4
        have hs5:=he.size
        replace hb1:=((hb1.mono e2).mono e3).mono e4
        have hx5b1:=hb1.lt
        refine WL.l rfl (l_lit (vs:=[_]) slz_75 rfl (by first|rfl|(simp[Value.cells,Nat.beq_eq, *];done)) rfl rfl rfl) fun _ w5 hh=>?_
        obtain⟨rfl,hb5,e5⟩:=hh
        have ns5:w4.heap.size≤w5.heap.size:=e5.size
        replace hOw:=(((hOw.mono e2).mono e3).mono e4).mono e5
        replace hOx:=hOx.mono e5
        refine WL.l rfl (l_appBC (fun k=>k<w.heap.size∨k=sb) (R:=fun b=>w.heap.size≤b) (l:=UInt8.ofNat (208+i)::bigB u (2^i)) (fun k hk e=>by rcases hk with hk|hk;have:=hOl2 k e;omega;exact qne (hk▸e)) slz_75 rfl rfl (hO.mono hOw.evo) (hV.mono hOw.evo (fun b hb _=>hb)) (hOx.toB (l:=UInt8.ofNat (208+i)::bigB u (2^i)) (fun b h1 h2=>⟨by omega,fun e=>by have:=hOl2 b e;omega⟩)) (Src.at slk_75 (flatc hOx.one hb5) rfl (by simp[hOx.one])) (by omega) (by simp only[maxLen];omega) (by omega)) fun v6 w6 hh=>?_
        obtain⟨hO,hV,qnk,e6⟩:=hh
        have ns6:w5.heap.size≤w6.heap.size:=e6.size
        refine WL.q rfl (r_assign rfl) ?_
        refine WL.nil ?_
        refine WC.region ?_
        refine WL.q rfl (r_addi rfl rfl rfl (by omega) (by omega)) ?_
        refine WL.q rfl (r_move rfl) ?_
        refine WL.nil ?_
        replace hF:=((((hF.mono e2).mono e3).mono e4).mono e5).mono e6
        exact⟨(i+1,v6),(.cons rfl (.cons rfl (.cons rfl (.cons rfl (.cons rfl (.cons rfl .nil)))))),(.cons rfl (.cons (lk_int rfl (by omega)) .nil)),⟨⟨_,_,hO.cast (by simp) rfl,hV,by simp[vl],by simp;omega,fun t ht=>by rcases List.mem_append.1 ht with h|h;exact qP t h;rw[List.mem_singleton.1 h];exact .inr ⟨i,qi,qx,rfl⟩,fun _=>by simp,qnk _ (by omega) qne⟩,qi,hF,((((((hE.then e2).then e3).then e4).then e5).then e6))⟩,(by dsimp only;omega)⟩
      · skip
        refine WC.seq<|WC.region ?_
        refine WL.q rfl (r_cmp (r_lss rfl rfl) (decide_eq_true (by(omega)))) ?_
        refine WL.nil ?_
        refine WC.seq<|WC.condT rfl ?_
        refine WC.skip ?_
        refine WC.seq<|WC.block ?_
        refine WC.seq<|WC.region ?_
        refine WL.q rfl (r_move rfl) ?_
        refine WL.q rfl (r_idx1 sl_76 rfl rfl rfl (by first|omega|(simp;done)|(simp;omega))) ?_
        replace hb1:=hb1.mono hE
        refine WL.q rfl (r_load one_3 rfl (Ext.refl _) (pow2_4 hb1 qi)) ?_
        refine WL.q rfl (r_assign rfl) ?_
        refine WL.q rfl (r_assign rfl) ?_
        refine WL.nil ?_
        refine WC.seq<|WC.region ?_
        refine WL.q rfl (r_move rfl) ?_
        refine WL.q rfl (r_move rfl) ?_
        refine WL.q rfl (r_muli (c:=8 * ((2^i:Nat):Int)) rfl rfl rfl (by omega) (by omega)) ?_
        refine WL.q rfl (r_subi rfl rfl rfl (by omega) (by omega)) ?_
        refine WL.q rfl (r_as (r_shl rfl rfl (by omega)) hlm) ?_
        refine WL.q rfl (r_cmp (r_geq rfl rfl) (decide_eq_false (by(omega)))) ?_
        refine WL.nil ?_
        refine WC.condF rfl ?_
        refine WC.skip ?_
        refine WC.region ?_
        refine WL.q rfl (r_addi rfl rfl rfl (by omega) (by omega)) ?_
        refine WL.q rfl (r_move rfl) ?_
        refine WL.nil ?_
        exact⟨(i+1,sv),(.cons rfl (.cons rfl (.cons rfl (.cons rfl (.cons rfl (.cons rfl .nil)))))),(.cons rfl (.cons (lk_int rfl (by omega)) .nil)),⟨⟨ts,vs,hO,hV,vl,by dsimp only;omega,qP,fun h4=>by exfalso;dsimp only at h4;obtain rfl:i=3:=(by omega);omega,qne⟩,qi,hF,(hE)⟩,(by dsimp only;omega)⟩
    · have hi4:i=4:=by omega
      have q5:=q4 hi4
      obtain⟨bq,cq,rfl,nbq,nbq2,hAt⟩:=own_pick hO hV vl q5
      have hVV:=fun(j:Nat) (hj:j<ts.length)=>Bs.get hj hV
      refine WC.seq<|WC.region ?_
      refine WL.q rfl (r_cmp (r_lss rfl rfl) (decide_eq_false (by(omega)))) ?_
      refine WL.nil ?_
      refine WC.seq<|WC.condF rfl ?_
      refine WC.exit ?_
      refine WC.seq<|WC.region ?_
      refine WL.q rfl (r_move rfl) ?_
      refine WL.q rfl (r_move rfl) ?_
      refine WL.q rfl (r_move rfl) ?_
      refine WL.q rfl (r_len sl_75 rfl) ?_
      refine WL.l rfl (l_do body_27 rfl (pick_ok (n:=ts.length) hF (by omega) (by omega))) fun v2 w2 hh=>?_
      obtain⟨⟨ki,qki,rfl⟩,hF,e2⟩:=hh
      obtain⟨xv,qxv,qxI⟩:=hVV ki qki
      have hxJ:=(qxI.weaken (B:=fun b=>w.heap.size≤b) fun b _ h=>h.1).mono e2
      have ns2:wi1.heap.size≤w2.heap.size:=e2.size
      refine WL.q rfl (r_idx1 sl_75 rfl rfl rfl (by first|omega|(simp;done)|(simp;omega))) ?_
      replace hAt:=hAt.mono e2
      refine WL.q rfl (r_load one_27 rfl (Ext.refl _) ((hAt ki (by omega)).trans qxv)) ?_
      refine WL.q rfl (r_assign rfl) ?_
      refine WL.nil ?_
      refine WC.ret ?_
      replace he:=(he.then hE).then e2
      exact fin1 rfl ⟨_,qP _ (List.getElem_mem qki),hxJ,hF,he⟩
end Go.Proofs.LL
