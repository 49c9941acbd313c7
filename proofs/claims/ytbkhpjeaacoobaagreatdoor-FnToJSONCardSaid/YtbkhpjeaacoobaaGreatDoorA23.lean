/- Contracts of functions and own laws. Conditions: those that each theorem states. -/
import Derived.Test.YtbkhpjeaacoobaaGreatDoorA22
set_option linter.all false
set_option maxRecDepth 20000
namespace Go.Proofs.LL
open Go Go.Proofs Go.RowKit
theorem body_101:bodyB Tryz.prog 101=true:=by kernel_rfl
theorem body_88:bodyB Tryz.prog 88=true:=by kernel_rfl
theorem body_97:bodyB Tryz.prog 97=true:=by kernel_rfl
theorem cv_112_22:cvInt Tryz.prog 112 22=some .u64:=by kernel_rfl
theorem cv_143_22:cvInt Tryz.prog 143 22=some .u64:=by kernel_rfl
theorem RBytes_ok{A:Nat→Prop}{v:Value}{hd t r:List UInt8}{w:World}(hh:HeadP (-1) 0 binF t.length hd)(ht:t.length≤131072)(hI:IsB A w v (hd++(t++r))):
    Does Tryz.prog 60 [v] w fun u w'=>(∃vt v',u= .tuple #[vt,v',.nilIface]∧IsB A w' vt t∧IsB A w' v' r)∧Ext w w':=by
  refine does3 Tryz.func60 rfl rfl rfl ?_
  have he:Evo (fun _=>True) w w:=Evo.refl w
  refine WC.seq<|WC.region ?_
  refine WL.q rfl (r_assign rfl) ?_
  refine WL.q rfl (r_assign rfl) ?_
  refine WL.q rfl (r_assign rfl) ?_
  refine WL.nil ?_
  refine WC.seq<|WC.region ?_
  refine WL.q rfl (r_move rfl) ?_
  refine WL.l rfl (l_do body_88 rfl (rBB_ok hh ht hI)) fun v1 w1 hh=>?_
  obtain⟨⟨vt,v',rfl,hT,hR⟩,e1⟩:=hh
  refine WL.q rfl (r_extract rfl rfl) ?_
  refine WL.q rfl (r_extract rfl rfl) ?_
  refine WL.q rfl (r_extract rfl rfl) ?_
  refine WL.q rfl (r_assign rfl) ?_
  refine WL.q rfl (r_assign rfl) ?_
  refine WL.q rfl (r_assign rfl) ?_
  refine WL.nil ?_
  refine WC.ret ?_
  replace he:=he.then e1
  exact fin3 rfl rfl rfl ⟨⟨_,_,rfl,hT,hR⟩,he⟩
theorem be_big8{n:Nat}(h:n<18446744073709551616):∃a b c d e f g i:UInt8,bigB n 8=[a,b,c,d,e,f,g,i]∧be [a,b,c,d,e,f,g,i]=n:=by
  have e:=be_bigB n 8
  exact⟨_,_,_,_,_,_,_,_,rfl,e.trans (Nat.mod_eq_of_lt (by simpa using h))⟩
theorem RU204_ok{A:Nat→Prop}{v:Value}{n:Nat}{r:List UInt8}{w:World}(hn:n<256)(hI:IsB A w v (204::(bigB n 1++r))):
    Does Tryz.prog 73 [v] w fun u w'=>(∃v',u= .tuple #[.int .u64 (n:Int),v',.nilIface]∧IsB A w' v' r)∧Ext w w':=by
  rw[be_big1 hn]at hI
  simp only[List.cons_append,List.nil_append]at hI
  obtain⟨b,o,c,rfl,hc,hA,hB⟩:=hI.open (by simp)
  have hDy:IsB A w _ (UInt8.ofNat n::r):=hI.dropS (k:=1) (by simp)
  have q64:IntKind.u64.wrap ((UInt8.ofNat n).toNat:Int)=(n:Int):=by rw[UInt8.toNat_ofNat',IntKind.wrap_u64];omega
  obtain⟨b1,o1,c1,ed,hc1,hA1,hB1⟩:=hDy.open (by simp)
  rw[ed]at hDy
  have hRz:IsB A w _ r:=hDy.dropS (k:=1) (by simp)
  simp only[List.length_cons]at hc
  refine does3 Tryz.func73 rfl rfl rfl ?_
  have he:Evo (fun _=>True) w w:=Evo.refl w
  refine WC.seq<|WC.region ?_
  refine WL.q rfl (r_assign rfl) ?_
  refine WL.q rfl (r_assign rfl) ?_
  refine WL.q rfl (r_assign rfl) ?_
  refine WL.nil ?_
  refine WC.seq<|WC.seq<|WC.region ?_
  refine WL.q rfl (r_move rfl) ?_
  refine WL.q rfl (r_len sl_27 rfl) ?_
  refine WL.q rfl (r_cmp (r_lss rfl rfl) (decide_eq_false (by(simp only[List.length_cons];omega)))) ?_
  refine WL.nil ?_
  refine WC.condF rfl ?_
  refine WC.skip ?_
  refine WC.seq<|WC.region ?_
  refine WL.q rfl (r_move rfl) ?_
  refine WL.q rfl (r_idx sl_27 rfl rfl (show(0:Int)=((0:Nat):Int)from rfl) (by simp only[List.length_cons];omega)) ?_
  refine WL.q rfl (r_load one_5 rfl (Ext.refl _) hB.c0) ?_
  refine WL.q rfl (r_assign rfl) ?_
  refine WL.nil ?_
  refine WC.seq<|WC.region ?_
  refine WL.q rfl (r_move rfl) ?_
  refine WL.q rfl ((ed▸r_slicel sl_27 rfl rfl (show(1:Int)=((1:Nat):Int)from rfl) (by simp only[List.length_cons];omega))) ?_
  refine WL.q rfl (r_assign rfl) ?_
  refine WL.nil ?_
  refine WC.seq<|WC.seq<|WC.region ?_
  refine WL.q rfl (r_move rfl) ?_
  refine WL.l rfl (l_do body_97 rfl (boolF (isfixint_ok (by decide) (by decide)) (by decide))) fun v1 w1 hh=>?_
  obtain⟨rfl,e1⟩:=hh
  refine WL.nil ?_
  refine WC.condF rfl ?_
  refine WC.skip ?_
  refine WC.seq<|WC.region ?_
  refine WL.q rfl (r_move rfl) ?_
  refine WL.nil ?_
  refine WC.block ?_
  refine WC.seq<|WC.region ?_
  refine WL.q rfl (r_cmp (r_eql rfl rfl) (beqF (by(decide)))) ?_
  refine WL.q rfl (r_assign rfl) ?_
  refine WL.nil ?_
  refine WC.condF rfl ?_
  refine WC.seq<|WC.region ?_
  refine WL.q rfl (r_cmp (r_eql rfl rfl) (beqT (rfl))) ?_
  refine WL.q rfl (r_assign rfl) ?_
  refine WL.nil ?_
  refine WC.condT rfl ?_
  refine WC.seq<|WC.seq<|WC.region ?_
  refine WL.q rfl (r_move rfl) ?_
  refine WL.q rfl (r_len sl_27 rfl) ?_
  refine WL.q rfl (r_cmp (r_lss rfl rfl) (decide_eq_false (by(simp only[List.length_cons];omega)))) ?_
  refine WL.nil ?_
  refine WC.condF rfl ?_
  refine WC.skip ?_
  refine WC.seq<|WC.region ?_
  refine WL.q rfl (r_move rfl) ?_
  refine WL.q rfl (r_idx sl_27 rfl rfl (show(0:Int)=((0:Nat):Int)from rfl) (by simp only[List.length_cons];omega)) ?_
  replace hB1:=hB1.mono e1
  refine WL.q rfl (r_load one_5 rfl (Ext.refl _) hB1.c0) ?_
  refine WL.q rfl (r_cvIntE cv_5_22 rfl q64) ?_
  refine WL.q rfl (r_assign rfl) ?_
  refine WL.nil ?_
  refine WC.seq<|WC.region ?_
  refine WL.q rfl (r_move rfl) ?_
  refine WL.q rfl (r_slicel sl_27 rfl rfl (show(1:Int)=((1:Nat):Int)from rfl) (by simp only[List.length_cons];omega)) ?_
  refine WL.q rfl (r_assign rfl) ?_
  refine WL.nil ?_
  refine WC.ret ?_
  replace hRz:=hRz.mono e1
  replace he:=he.then e1
  exact fin3 rfl rfl rfl ⟨⟨_,rfl,hRz⟩,he⟩
theorem RU205_ok{A:Nat→Prop}{v:Value}{n:Nat}{r:List UInt8}{w:World}(hn:n<65536)(hI:IsB A w v (205::(bigB n 2++r))):
    Does Tryz.prog 73 [v] w fun u w'=>(∃v',u= .tuple #[.int .u64 (n:Int),v',.nilIface]∧IsB A w' v' r)∧Ext w w':=by
  obtain⟨a0,a1,eb,ev⟩:=be_big2 hn
  rw[eb]at hI
  simp only[List.cons_append,List.nil_append]at hI
  obtain⟨b,o,c,rfl,hc,hA,hB⟩:=hI.open (by simp)
  have hDy:IsB A w _ (a0::a1::r):=hI.dropS (k:=1) (by simp)
  have q64:IntKind.u64.wrap ((be [a0,a1]:Nat):Int)=(n:Int):=by rw[ev,IntKind.wrap_u64];omega
  have hRz:IsB A w _ r:=hDy.dropS (k:=2) (by simp)
  simp only[List.length_cons]at hc
  refine does3 Tryz.func73 rfl rfl rfl ?_
  have he:Evo (fun _=>True) w w:=Evo.refl w
  refine WC.seq<|WC.region ?_
  refine WL.q rfl (r_assign rfl) ?_
  refine WL.q rfl (r_assign rfl) ?_
  refine WL.q rfl (r_assign rfl) ?_
  refine WL.nil ?_
  refine WC.seq<|WC.seq<|WC.region ?_
  refine WL.q rfl (r_move rfl) ?_
  refine WL.q rfl (r_len sl_27 rfl) ?_
  refine WL.q rfl (r_cmp (r_lss rfl rfl) (decide_eq_false (by(simp only[List.length_cons];omega)))) ?_
  refine WL.nil ?_
  refine WC.condF rfl ?_
  refine WC.skip ?_
  refine WC.seq<|WC.region ?_
  refine WL.q rfl (r_move rfl) ?_
  refine WL.q rfl (r_idx sl_27 rfl rfl (show(0:Int)=((0:Nat):Int)from rfl) (by simp only[List.length_cons];omega)) ?_
  refine WL.q rfl (r_load one_5 rfl (Ext.refl _) hB.c0) ?_
  refine WL.q rfl (r_assign rfl) ?_
  refine WL.nil ?_
  refine WC.seq<|WC.region ?_
  refine WL.q rfl (r_move rfl) ?_
  refine WL.q rfl (r_slicel sl_27 rfl rfl (show(1:Int)=((1:Nat):Int)from rfl) (by simp only[List.length_cons];omega)) ?_
  refine WL.q rfl (r_assign rfl) ?_
  refine WL.nil ?_
  refine WC.seq<|WC.seq<|WC.region ?_
  refine WL.q rfl (r_move rfl) ?_
  refine WL.l rfl (l_do body_97 rfl (boolF (isfixint_ok (by decide) (by decide)) (by decide))) fun v1 w1 hh=>?_
  obtain⟨rfl,e1⟩:=hh
  refine WL.nil ?_
  refine WC.condF rfl ?_
  refine WC.skip ?_
  refine WC.seq<|WC.region ?_
  refine WL.q rfl (r_move rfl) ?_
  refine WL.nil ?_
  refine WC.block ?_
  refine WC.seq<|WC.region ?_
  refine WL.q rfl (r_cmp (r_eql rfl rfl) (beqF (by(decide)))) ?_
  refine WL.q rfl (r_assign rfl) ?_
  refine WL.nil ?_
  refine WC.condF rfl ?_
  refine WC.seq<|WC.region ?_
  refine WL.q rfl (r_cmp (r_eql rfl rfl) (beqF (by(decide)))) ?_
  refine WL.q rfl (r_assign rfl) ?_
  refine WL.nil ?_
  refine WC.condF rfl ?_
  refine WC.seq<|WC.region ?_
  refine WL.q rfl (r_cmp (r_eql rfl rfl) (beqF (by(decide)))) ?_
  refine WL.q rfl (r_assign rfl) ?_
  refine WL.nil ?_
  refine WC.condF rfl ?_
  refine WC.seq<|WC.region ?_
  refine WL.q rfl (r_cmp (r_eql rfl rfl) (beqT (rfl))) ?_
  refine WL.q rfl (r_assign rfl) ?_
  refine WL.nil ?_
  refine WC.condT rfl ?_
  refine WC.seq<|WC.seq<|WC.region ?_
  refine WL.q rfl (r_move rfl) ?_
  refine WL.q rfl (r_len sl_27 rfl) ?_
  refine WL.q rfl (r_cmp (r_lss rfl rfl) (decide_eq_false (by(simp only[List.length_cons];omega)))) ?_
  refine WL.nil ?_
  refine WC.condF rfl ?_
  refine WC.skip ?_
  refine WC.seq<|WC.region ?_
  refine WL.q rfl (r_loadAgg agg_145 rfl (Ext.refl _) At.nil) ?_
  refine WL.q rfl (r_move rfl) ?_
  replace hDy:=hDy.mono e1
  refine WL.l rfl (l_do body_85 rfl (Uint16_ok hDy)) fun v2 w2 hh=>?_
  obtain⟨rfl,e2⟩:=hh
  refine WL.q rfl (r_cvIntE cv_143_22 rfl q64) ?_
  refine WL.q rfl (r_assign rfl) ?_
  refine WL.nil ?_
  refine WC.seq<|WC.region ?_
  refine WL.q rfl (r_move rfl) ?_
  refine WL.q rfl (r_slicel sl_27 rfl rfl (show(2:Int)=((2:Nat):Int)from rfl) (by simp only[List.length_cons];omega)) ?_
  refine WL.q rfl (r_assign rfl) ?_
  refine WL.nil ?_
  refine WC.ret ?_
  replace hRz:=(hRz.mono e1).mono e2
  replace he:=(he.then e1).then e2
  exact fin3 rfl rfl rfl ⟨⟨_,rfl,hRz⟩,he⟩
theorem RU206_ok{A:Nat→Prop}{v:Value}{n:Nat}{r:List UInt8}{w:World}(hn:n<4294967296)(hI:IsB A w v (206::(bigB n 4++r))):
    Does Tryz.prog 73 [v] w fun u w'=>(∃v',u= .tuple #[.int .u64 (n:Int),v',.nilIface]∧IsB A w' v' r)∧Ext w w':=by
  obtain⟨a0,a1,a2,a3,eb,ev⟩:=be_big4 hn
  rw[eb]at hI
  simp only[List.cons_append,List.nil_append]at hI
  obtain⟨b,o,c,rfl,hc,hA,hB⟩:=hI.open (by simp)
  have hDy:IsB A w _ (a0::a1::a2::a3::r):=hI.dropS (k:=1) (by simp)
  have q64:IntKind.u64.wrap ((be [a0,a1,a2,a3]:Nat):Int)=(n:Int):=by rw[ev,IntKind.wrap_u64];omega
  have hRz:IsB A w _ r:=hDy.dropS (k:=4) (by simp)
  simp only[List.length_cons]at hc
  refine does3 Tryz.func73 rfl rfl rfl ?_
  have he:Evo (fun _=>True) w w:=Evo.refl w
  refine WC.seq<|WC.region ?_
  refine WL.q rfl (r_assign rfl) ?_
  refine WL.q rfl (r_assign rfl) ?_
  refine WL.q rfl (r_assign rfl) ?_
  refine WL.nil ?_
  refine WC.seq<|WC.seq<|WC.region ?_
  refine WL.q rfl (r_move rfl) ?_
  refine WL.q rfl (r_len sl_27 rfl) ?_
  refine WL.q rfl (r_cmp (r_lss rfl rfl) (decide_eq_false (by(simp only[List.length_cons];omega)))) ?_
  refine WL.nil ?_
  refine WC.condF rfl ?_
  refine WC.skip ?_
  refine WC.seq<|WC.region ?_
  refine WL.q rfl (r_move rfl) ?_
  refine WL.q rfl (r_idx sl_27 rfl rfl (show(0:Int)=((0:Nat):Int)from rfl) (by simp only[List.length_cons];omega)) ?_
  refine WL.q rfl (r_load one_5 rfl (Ext.refl _) hB.c0) ?_
  refine WL.q rfl (r_assign rfl) ?_
  refine WL.nil ?_
  refine WC.seq<|WC.region ?_
  refine WL.q rfl (r_move rfl) ?_
  refine WL.q rfl (r_slicel sl_27 rfl rfl (show(1:Int)=((1:Nat):Int)from rfl) (by simp only[List.length_cons];omega)) ?_
  refine WL.q rfl (r_assign rfl) ?_
  refine WL.nil ?_
  refine WC.seq<|WC.seq<|WC.region ?_
  refine WL.q rfl (r_move rfl) ?_
  refine WL.l rfl (l_do body_97 rfl (boolF (isfixint_ok (by decide) (by decide)) (by decide))) fun v1 w1 hh=>?_
  obtain⟨rfl,e1⟩:=hh
  refine WL.nil ?_
  refine WC.condF rfl ?_
  refine WC.skip ?_
  refine WC.seq<|WC.region ?_
  refine WL.q rfl (r_move rfl) ?_
  refine WL.nil ?_
  refine WC.block ?_
  refine WC.seq<|WC.region ?_
  refine WL.q rfl (r_cmp (r_eql rfl rfl) (beqF (by(decide)))) ?_
  refine WL.q rfl (r_assign rfl) ?_
  refine WL.nil ?_
  refine WC.condF rfl ?_
  refine WC.seq<|WC.region ?_
  refine WL.q rfl (r_cmp (r_eql rfl rfl) (beqF (by(decide)))) ?_
  refine WL.q rfl (r_assign rfl) ?_
  refine WL.nil ?_
  refine WC.condF rfl ?_
  refine WC.seq<|WC.region ?_
  refine WL.q rfl (r_cmp (r_eql rfl rfl) (beqF (by(decide)))) ?_
  refine WL.q rfl (r_assign rfl) ?_
  refine WL.nil ?_
  refine WC.condF rfl ?_
  refine WC.seq<|WC.region ?_
  refine WL.q rfl (r_cmp (r_eql rfl rfl) (beqF (by(decide)))) ?_
  refine WL.q rfl (r_assign rfl) ?_
  refine WL.nil ?_
  refine WC.condF rfl ?_
  refine WC.seq<|WC.region ?_
  refine WL.q rfl (r_cmp (r_eql rfl rfl) (beqF (by(decide)))) ?_
  refine WL.q rfl (r_assign rfl) ?_
  refine WL.nil ?_
  refine WC.condF rfl ?_
  refine WC.seq<|WC.region ?_
  refine WL.q rfl (r_cmp (r_eql rfl rfl) (beqT (rfl))) ?_
  refine WL.q rfl (r_assign rfl) ?_
  refine WL.nil ?_
  refine WC.condT rfl ?_
  refine WC.seq<|WC.seq<|WC.region ?_
  refine WL.q rfl (r_move rfl) ?_
  refine WL.q rfl (r_len sl_27 rfl) ?_
  refine WL.q rfl (r_cmp (r_lss rfl rfl) (decide_eq_false (by(simp only[List.length_cons];omega)))) ?_
  refine WL.nil ?_
  refine WC.condF rfl ?_
  refine WC.skip ?_
  refine WC.seq<|WC.region ?_
  refine WL.q rfl (r_loadAgg agg_145 rfl (Ext.refl _) At.nil) ?_
  refine WL.q rfl (r_move rfl) ?_
  replace hDy:=hDy.mono e1
  refine WL.l rfl (l_do body_86 rfl (Uint32_ok hDy)) fun v2 w2 hh=>?_
  obtain⟨rfl,e2⟩:=hh
  refine WL.q rfl (r_cvIntE cv_112_22 rfl q64) ?_
  refine WL.q rfl (r_assign rfl) ?_
  refine WL.nil ?_
  refine WC.seq<|WC.region ?_
  refine WL.q rfl (r_move rfl) ?_
  refine WL.q rfl (r_slicel sl_27 rfl rfl (show(4:Int)=((4:Nat):Int)from rfl) (by simp only[List.length_cons];omega)) ?_
  refine WL.q rfl (r_assign rfl) ?_
  refine WL.nil ?_
  refine WC.ret ?_
  replace hRz:=(hRz.mono e1).mono e2
  replace he:=(he.then e1).then e2
  exact fin3 rfl rfl rfl ⟨⟨_,rfl,hRz⟩,he⟩
theorem RU207_ok{A:Nat→Prop}{v:Value}{n:Nat}{r:List UInt8}{w:World}(hn:n<18446744073709551616)(hI:IsB A w v (207::(bigB n 8++r))):
    Does Tryz.prog 73 [v] w fun u w'=>(∃v',u= .tuple #[.int .u64 (n:Int),v',.nilIface]∧IsB A w' v' r)∧Ext w w':=by
  obtain⟨a0,a1,a2,a3,a4,a5,a6,a7,eb,ev⟩:=be_big8 hn
  rw[eb]at hI
  simp only[List.cons_append,List.nil_append]at hI
  obtain⟨b,o,c,rfl,hc,hA,hB⟩:=hI.open (by simp)
  have hDy:IsB A w _ (a0::a1::a2::a3::a4::a5::a6::a7::r):=hI.dropS (k:=1) (by simp)
  have q64:IntKind.u64.wrap ((be [a0,a1,a2,a3,a4,a5,a6,a7]:Nat):Int)=(n:Int):=by rw[ev,IntKind.wrap_u64];omega
  have hRz:IsB A w _ r:=hDy.dropS (k:=8) (by simp)
  simp only[List.length_cons]at hc
  refine does3 Tryz.func73 rfl rfl rfl ?_
  have he:Evo (fun _=>True) w w:=Evo.refl w
  refine WC.seq<|WC.region ?_
  refine WL.q rfl (r_assign rfl) ?_
  refine WL.q rfl (r_assign rfl) ?_
  refine WL.q rfl (r_assign rfl) ?_
  refine WL.nil ?_
  refine WC.seq<|WC.seq<|WC.region ?_
  refine WL.q rfl (r_move rfl) ?_
  refine WL.q rfl (r_len sl_27 rfl) ?_
  refine WL.q rfl (r_cmp (r_lss rfl rfl) (decide_eq_false (by(simp only[List.length_cons];omega)))) ?_
  refine WL.nil ?_
  refine WC.condF rfl ?_
  refine WC.skip ?_
  refine WC.seq<|WC.region ?_
  refine WL.q rfl (r_move rfl) ?_
  refine WL.q rfl (r_idx sl_27 rfl rfl (show(0:Int)=((0:Nat):Int)from rfl) (by simp only[List.length_cons];omega)) ?_
  refine WL.q rfl (r_load one_5 rfl (Ext.refl _) hB.c0) ?_
  refine WL.q rfl (r_assign rfl) ?_
  refine WL.nil ?_
  refine WC.seq<|WC.region ?_
  refine WL.q rfl (r_move rfl) ?_
  refine WL.q rfl (r_slicel sl_27 rfl rfl (show(1:Int)=((1:Nat):Int)from rfl) (by simp only[List.length_cons];omega)) ?_
  refine WL.q rfl (r_assign rfl) ?_
  refine WL.nil ?_
  refine WC.seq<|WC.seq<|WC.region ?_
  refine WL.q rfl (r_move rfl) ?_
  refine WL.l rfl (l_do body_97 rfl (boolF (isfixint_ok (by decide) (by decide)) (by decide))) fun v1 w1 hh=>?_
  obtain⟨rfl,e1⟩:=hh
  refine WL.nil ?_
  refine WC.condF rfl ?_
  refine WC.skip ?_
  refine WC.seq<|WC.region ?_
  refine WL.q rfl (r_move rfl) ?_
  refine WL.nil ?_
  refine WC.block ?_
  refine WC.seq<|WC.region ?_
  refine WL.q rfl (r_cmp (r_eql rfl rfl) (beqF (by(decide)))) ?_
  refine WL.q rfl (r_assign rfl) ?_
  refine WL.nil ?_
  refine WC.condF rfl ?_
  refine WC.seq<|WC.region ?_
  refine WL.q rfl (r_cmp (r_eql rfl rfl) (beqF (by(decide)))) ?_
  refine WL.q rfl (r_assign rfl) ?_
  refine WL.nil ?_
  refine WC.condF rfl ?_
  refine WC.seq<|WC.region ?_
  refine WL.q rfl (r_cmp (r_eql rfl rfl) (beqF (by(decide)))) ?_
  refine WL.q rfl (r_assign rfl) ?_
  refine WL.nil ?_
  refine WC.condF rfl ?_
  refine WC.seq<|WC.region ?_
  refine WL.q rfl (r_cmp (r_eql rfl rfl) (beqF (by(decide)))) ?_
  refine WL.q rfl (r_assign rfl) ?_
  refine WL.nil ?_
  refine WC.condF rfl ?_
  refine WC.seq<|WC.region ?_
  refine WL.q rfl (r_cmp (r_eql rfl rfl) (beqF (by(decide)))) ?_
  refine WL.q rfl (r_assign rfl) ?_
  refine WL.nil ?_
  refine WC.condF rfl ?_
  refine WC.seq<|WC.region ?_
  refine WL.q rfl (r_cmp (r_eql rfl rfl) (beqF (by(decide)))) ?_
  refine WL.q rfl (r_assign rfl) ?_
  refine WL.nil ?_
  refine WC.condF rfl ?_
  refine WC.seq<|WC.region ?_
  refine WL.q rfl (r_cmp (r_eql rfl rfl) (beqF (by(decide)))) ?_
  refine WL.q rfl (r_assign rfl) ?_
  refine WL.nil ?_
  refine WC.condF rfl ?_
  refine WC.seq<|WC.region ?_
  refine WL.q rfl (r_cmp (r_eql rfl rfl) (beqT (rfl))) ?_
  refine WL.q rfl (r_assign rfl) ?_
  refine WL.nil ?_
  refine WC.condT rfl ?_
  refine WC.seq<|WC.seq<|WC.region ?_
  refine WL.q rfl (r_move rfl) ?_
  refine WL.q rfl (r_len sl_27 rfl) ?_
  refine WL.q rfl (r_cmp (r_lss rfl rfl) (decide_eq_false (by(simp only[List.length_cons];omega)))) ?_
  refine WL.nil ?_
  refine WC.condF rfl ?_
  refine WC.skip ?_
  refine WC.seq<|WC.region ?_
  refine WL.q rfl (r_loadAgg agg_145 rfl (Ext.refl _) At.nil) ?_
  refine WL.q rfl (r_move rfl) ?_
  replace hDy:=hDy.mono e1
  refine WL.l rfl (l_do body_101 rfl (Uint64_ok hDy)) fun v2 w2 hh=>?_
  obtain⟨rfl,e2⟩:=hh
  refine WL.q rfl (r_assign rfl) ?_
  refine WL.nil ?_
  refine WC.seq<|WC.region ?_
  refine WL.q rfl (r_move rfl) ?_
  refine WL.q rfl (r_slicel sl_27 rfl rfl (show(8:Int)=((8:Nat):Int)from rfl) (by simp only[List.length_cons];omega)) ?_
  refine WL.q rfl (r_assign rfl) ?_
  refine WL.nil ?_
  refine WC.ret ?_
  replace hRz:=(hRz.mono e1).mono e2
  replace he:=(he.then e1).then e2
  exact fin3 rfl rfl rfl ⟨⟨_,by rw[ev],hRz⟩,he⟩
end Go.Proofs.LL
