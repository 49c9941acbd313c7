/- Contracts of functions and own laws. Conditions: those that each theorem states. -/
import Derived.Test.YtbkhpjeaacoobaaGreatDoorA23
import Derived.Lib.ItoaMem
set_option linter.all false
set_option maxRecDepth 20000
namespace Go.Proofs.LL
open Go Go.Proofs Go.RowKit
theorem body_100:bodyB Tryz.prog 100=true:=by kernel_rfl
theorem body_98:bodyB Tryz.prog 98=true:=by kernel_rfl
theorem body_99:bodyB Tryz.prog 99=true:=by kernel_rfl
theorem cv_112_21:cvInt Tryz.prog 112 21=some .i32:=by kernel_rfl
theorem cv_143_160:cvInt Tryz.prog 143 160=some .i16:=by kernel_rfl
theorem cv_160_2:cvInt Tryz.prog 160 2=some .i64:=by kernel_rfl
theorem cv_21_2:cvInt Tryz.prog 21 2=some .i64:=by kernel_rfl
theorem cv_5_2:cvInt Tryz.prog 5 2=some .i64:=by kernel_rfl
theorem cv_5_87:cvInt Tryz.prog 5 87=some .i8:=by kernel_rfl
theorem cv_87_2:cvInt Tryz.prog 87 2=some .i64:=by kernel_rfl
theorem rfixint_ok{z:Int}{w:World}:Does Tryz.prog 98 [.int .u8 z] w fun r w'=>r= .int .u8 z∧Ext w w':=by
  refine does1 Tryz.func98 rfl rfl rfl ?_
  have he:Evo (fun _=>True) w w:=Evo.refl w
  refine WC.seq<|WC.region ?_
  refine WL.q rfl (r_assign rfl) ?_
  refine WL.nil ?_
  refine WC.seq<|WC.region ?_
  refine WL.q rfl (r_move rfl) ?_
  refine WL.q rfl (r_assign rfl) ?_
  refine WL.nil ?_
  refine WC.ret ?_
  exact fin1 rfl ⟨rfl,he⟩
theorem rnfixint_ok{z:Int}{w:World}:Does Tryz.prog 100 [.int .u8 z] w fun r w'=>r= .int .i8 (IntKind.i8.wrap z)∧Ext w w':=by
  refine does1 Tryz.func100 rfl rfl rfl ?_
  have he:Evo (fun _=>True) w w:=Evo.refl w
  refine WC.seq<|WC.region ?_
  refine WL.q rfl (r_assign rfl) ?_
  refine WL.nil ?_
  refine WC.seq<|WC.region ?_
  refine WL.q rfl (r_move rfl) ?_
  refine WL.q rfl (r_cvInt cv_5_87 rfl) ?_
  refine WL.q rfl (r_assign rfl) ?_
  refine WL.nil ?_
  refine WC.ret ?_
  exact fin1 rfl ⟨rfl,he⟩
theorem RIp_ok{A:Nat→Prop}{v:Value}{x:UInt8}{r:List UInt8}{w:World}(hx:x.toNat<128)(hI:IsB A w v (x::r)):
    Does Tryz.prog 71 [v] w fun u w'=>(∃v',u= .tuple #[.int .i64 ((x.toNat:Int)),v',.nilIface]∧IsB A w' v' r)∧Ext w w':=by
  have hx8:=UInt8.toNat_lt x
  obtain⟨b,o,c,rfl,hc,hA,hB⟩:=hI.open (by simp)
  have hRz:IsB A w _ r:=hI.dropS (k:=1) (by simp)
  simp only[List.length_cons]at hc
  have q64:IntKind.i64.wrap (x.toNat:Int)=(x.toNat:Int):=wrap_i64 (by omega) (by omega)
  refine does3 Tryz.func71 rfl rfl rfl ?_
  have he:Evo (fun _=>True) w w:=Evo.refl w
  refine WC.seq<|WC.region ?_
  refine WL.q rfl (r_assign rfl) ?_
  refine WL.q rfl (r_assign rfl) ?_
  refine WL.q rfl (r_assign rfl) ?_
  refine WL.nil ?_
  refine WC.seq<|WC.seq<|WC.region ?_
  refine WL.q rfl (r_move rfl) ?_
  refine WL.q rfl (r_len sl_27 rfl) ?_
  refine WL.q rfl (r_cmp (r_lss rfl rfl) (decide_eq_false (by(simp only[List.length_cons];omega)))) ?_
  refine WL.nil ?_
  refine WC.condF rfl ?_
  refine WC.skip ?_
  refine WC.seq<|WC.region ?_
  refine WL.q rfl (r_move rfl) ?_
  refine WL.q rfl (r_idx sl_27 rfl rfl (show(0:Int)=((0:Nat):Int)from rfl) (by simp only[List.length_cons];omega)) ?_
  refine WL.q rfl (r_load one_5 rfl (Ext.refl _) hB.c0) ?_
  refine WL.q rfl (r_assign rfl) ?_
  refine WL.nil ?_
  refine WC.seq<|WC.region ?_
  refine WL.q rfl (r_move rfl) ?_
  refine WL.q rfl (r_slicel sl_27 rfl rfl (show(1:Int)=((1:Nat):Int)from rfl) (by simp only[List.length_cons];omega)) ?_
  refine WL.q rfl (r_assign rfl) ?_
  refine WL.nil ?_
  refine WC.seq<|WC.seq<|WC.region ?_
  refine WL.q rfl (r_move rfl) ?_
  refine WL.l rfl (l_do body_97 rfl (boolT (isfixint_ok (by omega) (by omega)) (by omega))) fun v1 w1 hh=>?_
  obtain⟨rfl,e1⟩:=hh
  refine WL.nil ?_
  refine WC.condT rfl ?_
  refine WC.seq<|WC.region ?_
  refine WL.q rfl (r_move rfl) ?_
  refine WL.l rfl (l_do body_98 rfl (rfixint_ok)) fun v2 w2 hh=>?_
  obtain⟨rfl,e2⟩:=hh
  refine WL.q rfl (r_cvIntE cv_5_2 rfl q64) ?_
  refine WL.q rfl (r_assign rfl) ?_
  refine WL.nil ?_
  refine WC.seq<|WC.region ?_
  refine WL.q rfl (r_move rfl) ?_
  refine WL.q rfl (r_assign rfl) ?_
  refine WL.nil ?_
  refine WC.ret ?_
  replace hRz:=(hRz.mono e1).mono e2
  replace he:=(he.then e1).then e2
  exact fin3 rfl rfl rfl ⟨⟨_,rfl,hRz⟩,he⟩
theorem RIn_ok{A:Nat→Prop}{v:Value}{x:UInt8}{r:List UInt8}{w:World}(hx:224≤x.toNat)(hI:IsB A w v (x::r)):
    Does Tryz.prog 71 [v] w fun u w'=>(∃v',u= .tuple #[.int .i64 ((x.toNat:Int)-256),v',.nilIface]∧IsB A w' v' r)∧Ext w w':=by
  have hx8:=UInt8.toNat_lt x
  obtain⟨b,o,c,rfl,hc,hA,hB⟩:=hI.open (by simp)
  have hRz:IsB A w _ r:=hI.dropS (k:=1) (by simp)
  simp only[List.length_cons]at hc
  have q64:IntKind.i64.wrap (IntKind.i8.wrap (x.toNat:Int))=(x.toNat:Int)-256:=by
    have h8:IntKind.i8.wrap (x.toNat:Int)=(x.toNat:Int)-256:=by
      have hm:(x.toNat:Int)%256=(x.toNat:Int):=by omega
      show(if(true&&decide ((x.toNat:Int)%256≥128))=true then(x.toNat:Int)%256-256 else(x.toNat:Int)%256)=_
      rw[hm,if_pos (by simp;omega)]
    rw[h8,wrap_i64 (by omega) (by omega)]
  refine does3 Tryz.func71 rfl rfl rfl ?_
  have he:Evo (fun _=>True) w w:=Evo.refl w
  refine WC.seq<|WC.region ?_
  refine WL.q rfl (r_assign rfl) ?_
  refine WL.q rfl (r_assign rfl) ?_
  refine WL.q rfl (r_assign rfl) ?_
  refine WL.nil ?_
  refine WC.seq<|WC.seq<|WC.region ?_
  refine WL.q rfl (r_move rfl) ?_
  refine WL.q rfl (r_len sl_27 rfl) ?_
  refine WL.q rfl (r_cmp (r_lss rfl rfl) (decide_eq_false (by(simp only[List.length_cons];omega)))) ?_
  refine WL.nil ?_
  refine WC.condF rfl ?_
  refine WC.skip ?_
  refine WC.seq<|WC.region ?_
  refine WL.q rfl (r_move rfl) ?_
  refine WL.q rfl (r_idx sl_27 rfl rfl (show(0:Int)=((0:Nat):Int)from rfl) (by simp only[List.length_cons];omega)) ?_
  refine WL.q rfl (r_load one_5 rfl (Ext.refl _) hB.c0) ?_
  refine WL.q rfl (r_assign rfl) ?_
  refine WL.nil ?_
  refine WC.seq<|WC.region ?_
  refine WL.q rfl (r_move rfl) ?_
  refine WL.q rfl (r_slicel sl_27 rfl rfl (show(1:Int)=((1:Nat):Int)from rfl) (by simp only[List.length_cons];omega)) ?_
  refine WL.q rfl (r_assign rfl) ?_
  refine WL.nil ?_
  refine WC.seq<|WC.seq<|WC.region ?_
  refine WL.q rfl (r_move rfl) ?_
  refine WL.l rfl (l_do body_97 rfl (boolF (isfixint_ok (by omega) (by omega)) (by omega))) fun v1 w1 hh=>?_
  obtain⟨rfl,e1⟩:=hh
  refine WL.nil ?_
  refine WC.condF rfl ?_
  refine WC.skip ?_
  refine WC.seq<|WC.seq<|WC.region ?_
  refine WL.q rfl (r_move rfl) ?_
  refine WL.l rfl (l_do body_99 rfl (boolT (isnfixint_ok (by omega) (by omega)) (by omega))) fun v2 w2 hh=>?_
  obtain⟨rfl,e2⟩:=hh
  refine WL.nil ?_
  refine WC.condT rfl ?_
  refine WC.seq<|WC.region ?_
  refine WL.q rfl (r_move rfl) ?_
  refine WL.l rfl (l_do body_100 rfl (rnfixint_ok)) fun v3 w3 hh=>?_
  obtain⟨rfl,e3⟩:=hh
  refine WL.q rfl (r_cvIntE cv_87_2 rfl q64) ?_
  refine WL.q rfl (r_assign rfl) ?_
  refine WL.nil ?_
  refine WC.seq<|WC.region ?_
  refine WL.q rfl (r_move rfl) ?_
  refine WL.q rfl (r_assign rfl) ?_
  refine WL.nil ?_
  refine WC.ret ?_
  replace hRz:=((hRz.mono e1).mono e2).mono e3
  replace he:=((he.then e1).then e2).then e3
  exact fin3 rfl rfl rfl ⟨⟨_,rfl,hRz⟩,he⟩
theorem RI208_ok{A:Nat→Prop}{v:Value}{n:Nat}{val:Int}{r:List UInt8}{w:World}(hv:IntKind.i8.wrap ((n.mod (256^1):Nat):Int)=val)(h0: -9223372036854775808≤val)(h1:val≤9223372036854775807)(hI:IsB A w v (208::(bigB n 1++r))):
    Does Tryz.prog 71 [v] w fun u w'=>(∃v',u= .tuple #[.int .i64 val,v',.nilIface]∧IsB A w' v' r)∧Ext w w':=by
  obtain⟨a0,eb,ev⟩:∃a0:UInt8,bigB n 1=[a0]∧be [a0]=n.mod (256^1):=by
    have e:=be_bigB n 1
    exact⟨_,rfl,e⟩
  rw[eb]at hI
  simp only[List.cons_append,List.nil_append]at hI
  have q2:IntKind.i64.wrap val=val:=wrap_i64 h0 h1
  obtain⟨b,o,c,rfl,hc,hA,hB⟩:=hI.open (by simp)
  have hDy:IsB A w _ (a0::r):=hI.dropS (k:=1) (by simp)
  have q1:IntKind.i8.wrap (a0.toNat:Int)=val:=by rw[← hv,← ev];simp[be]
  obtain⟨b1,o1,c1,ed,hc1,hA1,hB1⟩:=hDy.open (by simp)
  rw[ed]at hDy
  have hRz:IsB A w _ r:=hDy.dropS (k:=1) (by simp)
  simp only[List.length_cons]at hc
  refine does3 Tryz.func71 rfl rfl rfl ?_
  have he:Evo (fun _=>True) w w:=Evo.refl w
  refine WC.seq<|WC.region ?_
  refine WL.q rfl (r_assign rfl) ?_
  refine WL.q rfl (r_assign rfl) ?_
  refine WL.q rfl (r_assign rfl) ?_
  refine WL.nil ?_
  refine WC.seq<|WC.seq<|WC.region ?_
  refine WL.q rfl (r_move rfl) ?_
  refine WL.q rfl (r_len sl_27 rfl) ?_
  refine WL.q rfl (r_cmp (r_lss rfl rfl) (decide_eq_false (by(simp only[List.length_cons];omega)))) ?_
  refine WL.nil ?_
  refine WC.condF rfl ?_
  refine WC.skip ?_
  refine WC.seq<|WC.region ?_
  refine WL.q rfl (r_move rfl) ?_
  refine WL.q rfl (r_idx sl_27 rfl rfl (show(0:Int)=((0:Nat):Int)from rfl) (by simp only[List.length_cons];omega)) ?_
  refine WL.q rfl (r_load one_5 rfl (Ext.refl _) hB.c0) ?_
  refine WL.q rfl (r_assign rfl) ?_
  refine WL.nil ?_
  refine WC.seq<|WC.region ?_
  refine WL.q rfl (r_move rfl) ?_
  refine WL.q rfl ((ed▸r_slicel sl_27 rfl rfl (show(1:Int)=((1:Nat):Int)from rfl) (by simp only[List.length_cons];omega))) ?_
  refine WL.q rfl (r_assign rfl) ?_
  refine WL.nil ?_
  refine WC.seq<|WC.seq<|WC.region ?_
  refine WL.q rfl (r_move rfl) ?_
  refine WL.l rfl (l_do body_97 rfl (boolF (isfixint_ok (by decide) (by decide)) (by decide))) fun v1 w1 hh=>?_
  obtain⟨rfl,e1⟩:=hh
  refine WL.nil ?_
  refine WC.condF rfl ?_
  refine WC.skip ?_
  refine WC.seq<|WC.seq<|WC.region ?_
  refine WL.q rfl (r_move rfl) ?_
  refine WL.l rfl (l_do body_99 rfl (boolF (isnfixint_ok (by decide) (by decide)) (by decide))) fun v2 w2 hh=>?_
  obtain⟨rfl,e2⟩:=hh
  refine WL.nil ?_
  refine WC.condF rfl ?_
  refine WC.skip ?_
  refine WC.seq<|WC.region ?_
  refine WL.q rfl (r_move rfl) ?_
  refine WL.nil ?_
  refine WC.block ?_
  refine WC.seq<|WC.region ?_
  refine WL.q rfl (r_cmp (r_eql rfl rfl) (beqT (rfl))) ?_
  refine WL.q rfl (r_assign rfl) ?_
  refine WL.nil ?_
  refine WC.condT rfl ?_
  refine WC.seq<|WC.seq<|WC.region ?_
  refine WL.q rfl (r_move rfl) ?_
  refine WL.q rfl (r_len sl_27 rfl) ?_
  refine WL.q rfl (r_cmp (r_lss rfl rfl) (decide_eq_false (by(simp only[List.length_cons];omega)))) ?_
  refine WL.nil ?_
  refine WC.condF rfl ?_
  refine WC.skip ?_
  refine WC.seq<|WC.region ?_
  refine WL.q rfl (r_move rfl) ?_
  refine WL.q rfl (r_idx sl_27 rfl rfl (show(0:Int)=((0:Nat):Int)from rfl) (by simp only[List.length_cons];omega)) ?_
  replace hB1:=(hB1.mono e1).mono e2
  refine WL.q rfl (r_load one_5 rfl (Ext.refl _) hB1.c0) ?_
  refine WL.q rfl (r_cvIntE cv_5_87 rfl q1) ?_
  refine WL.q rfl (r_cvIntE cv_87_2 rfl q2) ?_
  refine WL.q rfl (r_assign rfl) ?_
  refine WL.nil ?_
  refine WC.seq<|WC.region ?_
  refine WL.q rfl (r_move rfl) ?_
  refine WL.q rfl (r_slicel sl_27 rfl rfl (show(1:Int)=((1:Nat):Int)from rfl) (by simp only[List.length_cons];omega)) ?_
  refine WL.q rfl (r_assign rfl) ?_
  refine WL.nil ?_
  refine WC.ret ?_
  replace hRz:=(hRz.mono e1).mono e2
  replace he:=(he.then e1).then e2
  exact fin3 rfl rfl rfl ⟨⟨_,rfl,hRz⟩,he⟩
theorem RI209_ok{A:Nat→Prop}{v:Value}{n:Nat}{val:Int}{r:List UInt8}{w:World}(hv:IntKind.i16.wrap ((n.mod (256^2):Nat):Int)=val)(h0: -9223372036854775808≤val)(h1:val≤9223372036854775807)(hI:IsB A w v (209::(bigB n 2++r))):
    Does Tryz.prog 71 [v] w fun u w'=>(∃v',u= .tuple #[.int .i64 val,v',.nilIface]∧IsB A w' v' r)∧Ext w w':=by
  obtain⟨a0,a1,eb,ev⟩:∃a0 a1:UInt8,bigB n 2=[a0,a1]∧be [a0,a1]=n.mod (256^2):=by
    have e:=be_bigB n 2
    exact⟨_,_,rfl,e⟩
  rw[eb]at hI
  simp only[List.cons_append,List.nil_append]at hI
  have q2:IntKind.i64.wrap val=val:=wrap_i64 h0 h1
  obtain⟨b,o,c,rfl,hc,hA,hB⟩:=hI.open (by simp)
  have hDy:IsB A w _ (a0::a1::r):=hI.dropS (k:=1) (by simp)
  have q1:IntKind.i16.wrap ((be [a0,a1]:Nat):Int)=val:=by rw[ev];exact hv
  have hRz:IsB A w _ r:=hDy.dropS (k:=2) (by simp)
  simp only[List.length_cons]at hc
  refine does3 Tryz.func71 rfl rfl rfl ?_
  have he:Evo (fun _=>True) w w:=Evo.refl w
  refine WC.seq<|WC.region ?_
  refine WL.q rfl (r_assign rfl) ?_
  refine WL.q rfl (r_assign rfl) ?_
  refine WL.q rfl (r_assign rfl) ?_
  refine WL.nil ?_
  refine WC.seq<|WC.seq<|WC.region ?_
  refine WL.q rfl (r_move rfl) ?_
  refine WL.q rfl (r_len sl_27 rfl) ?_
  refine WL.q rfl (r_cmp (r_lss rfl rfl) (decide_eq_false (by(simp only[List.length_cons];omega)))) ?_
  refine WL.nil ?_
  refine WC.condF rfl ?_
  refine WC.skip ?_
  refine WC.seq<|WC.region ?_
  refine WL.q rfl (r_move rfl) ?_
  refine WL.q rfl (r_idx sl_27 rfl rfl (show(0:Int)=((0:Nat):Int)from rfl) (by simp only[List.length_cons];omega)) ?_
  refine WL.q rfl (r_load one_5 rfl (Ext.refl _) hB.c0) ?_
  refine WL.q rfl (r_assign rfl) ?_
  refine WL.nil ?_
  refine WC.seq<|WC.region ?_
  refine WL.q rfl (r_move rfl) ?_
  refine WL.q rfl (r_slicel sl_27 rfl rfl (show(1:Int)=((1:Nat):Int)from rfl) (by simp only[List.length_cons];omega)) ?_
  refine WL.q rfl (r_assign rfl) ?_
  refine WL.nil ?_
  refine WC.seq<|WC.seq<|WC.region ?_
  refine WL.q rfl (r_move rfl) ?_
  refine WL.l rfl (l_do body_97 rfl (boolF (isfixint_ok (by decide) (by decide)) (by decide))) fun v1 w1 hh=>?_
  obtain⟨rfl,e1⟩:=hh
  refine WL.nil ?_
  refine WC.condF rfl ?_
  refine WC.skip ?_
  refine WC.seq<|WC.seq<|WC.region ?_
  refine WL.q rfl (r_move rfl) ?_
  refine WL.l rfl (l_do body_99 rfl (boolF (isnfixint_ok (by decide) (by decide)) (by decide))) fun v2 w2 hh=>?_
  obtain⟨rfl,e2⟩:=hh
  refine WL.nil ?_
  refine WC.condF rfl ?_
  refine WC.skip ?_
  refine WC.seq<|WC.region ?_
  refine WL.q rfl (r_move rfl) ?_
  refine WL.nil ?_
  refine WC.block ?_
  refine WC.seq<|WC.region ?_
  refine WL.q rfl (r_cmp (r_eql rfl rfl) (beqF (by(decide)))) ?_
  refine WL.q rfl (r_assign rfl) ?_
  refine WL.nil ?_
  refine WC.condF rfl ?_
  refine WC.seq<|WC.region ?_
  refine WL.q rfl (r_cmp (r_eql rfl rfl) (beqF (by(decide)))) ?_
  refine WL.q rfl (r_assign rfl) ?_
  refine WL.nil ?_
  refine WC.condF rfl ?_
  refine WC.seq<|WC.region ?_
  refine WL.q rfl (r_cmp (r_eql rfl rfl) (beqT (rfl))) ?_
  refine WL.q rfl (r_assign rfl) ?_
  refine WL.nil ?_
  refine WC.condT rfl ?_
  refine WC.seq<|WC.seq<|WC.region ?_
  refine WL.q rfl (r_move rfl) ?_
  refine WL.q rfl (r_len sl_27 rfl) ?_
  refine WL.q rfl (r_cmp (r_lss rfl rfl) (decide_eq_false (by(simp only[List.length_cons];omega)))) ?_
  refine WL.nil ?_
  refine WC.condF rfl ?_
  refine WC.skip ?_
  refine WC.seq<|WC.region ?_
  refine WL.q rfl (r_loadAgg agg_145 rfl (Ext.refl _) At.nil) ?_
  refine WL.q rfl (r_move rfl) ?_
  replace hDy:=(hDy.mono e1).mono e2
  refine WL.l rfl (l_do body_85 rfl (Uint16_ok hDy)) fun v3 w3 hh=>?_
  obtain⟨rfl,e3⟩:=hh
  refine WL.q rfl (r_cvIntE cv_143_160 rfl q1) ?_
  refine WL.q rfl (r_cvIntE cv_160_2 rfl q2) ?_
  refine WL.q rfl (r_assign rfl) ?_
  refine WL.nil ?_
  refine WC.seq<|WC.region ?_
  refine WL.q rfl (r_move rfl) ?_
  refine WL.q rfl (r_slicel sl_27 rfl rfl (show(2:Int)=((2:Nat):Int)from rfl) (by simp only[List.length_cons];omega)) ?_
  refine WL.q rfl (r_assign rfl) ?_
  refine WL.nil ?_
  refine WC.ret ?_
  replace hRz:=((hRz.mono e1).mono e2).mono e3
  replace he:=((he.then e1).then e2).then e3
  exact fin3 rfl rfl rfl ⟨⟨_,rfl,hRz⟩,he⟩
theorem RI210_ok{A:Nat→Prop}{v:Value}{n:Nat}{val:Int}{r:List UInt8}{w:World}(hv:IntKind.i32.wrap ((n.mod (256^4):Nat):Int)=val)(h0: -9223372036854775808≤val)(h1:val≤9223372036854775807)(hI:IsB A w v (210::(bigB n 4++r))):
    Does Tryz.prog 71 [v] w fun u w'=>(∃v',u= .tuple #[.int .i64 val,v',.nilIface]∧IsB A w' v' r)∧Ext w w':=by
  obtain⟨a0,a1,a2,a3,eb,ev⟩:∃a0 a1 a2 a3:UInt8,bigB n 4=[a0,a1,a2,a3]∧be [a0,a1,a2,a3]=n.mod (256^4):=by
    have e:=be_bigB n 4
    exact⟨_,_,_,_,rfl,e⟩
  rw[eb]at hI
  simp only[List.cons_append,List.nil_append]at hI
  have q2:IntKind.i64.wrap val=val:=wrap_i64 h0 h1
  obtain⟨b,o,c,rfl,hc,hA,hB⟩:=hI.open (by simp)
  have hDy:IsB A w _ (a0::a1::a2::a3::r):=hI.dropS (k:=1) (by simp)
  have q1:IntKind.i32.wrap ((be [a0,a1,a2,a3]:Nat):Int)=val:=by rw[ev];exact hv
  have hRz:IsB A w _ r:=hDy.dropS (k:=4) (by simp)
  simp only[List.length_cons]at hc
  refine does3 Tryz.func71 rfl rfl rfl ?_
  have he:Evo (fun _=>True) w w:=Evo.refl w
  refine WC.seq<|WC.region ?_
  refine WL.q rfl (r_assign rfl) ?_
  refine WL.q rfl (r_assign rfl) ?_
  refine WL.q rfl (r_assign rfl) ?_
  refine WL.nil ?_
  refine WC.seq<|WC.seq<|WC.region ?_
  refine WL.q rfl (r_move rfl) ?_
  refine WL.q rfl (r_len sl_27 rfl) ?_
  refine WL.q rfl (r_cmp (r_lss rfl rfl) (decide_eq_false (by(simp only[List.length_cons];omega)))) ?_
  refine WL.nil ?_
  refine WC.condF rfl ?_
  refine WC.skip ?_
  refine WC.seq<|WC.region ?_
  refine WL.q rfl (r_move rfl) ?_
  refine WL.q rfl (r_idx sl_27 rfl rfl (show(0:Int)=((0:Nat):Int)from rfl) (by simp only[List.length_cons];omega)) ?_
  refine WL.q rfl (r_load one_5 rfl (Ext.refl _) hB.c0) ?_
  refine WL.q rfl (r_assign rfl) ?_
  refine WL.nil ?_
  refine WC.seq<|WC.region ?_
  refine WL.q rfl (r_move rfl) ?_
  refine WL.q rfl (r_slicel sl_27 rfl rfl (show(1:Int)=((1:Nat):Int)from rfl) (by simp only[List.length_cons];omega)) ?_
  refine WL.q rfl (r_assign rfl) ?_
  refine WL.nil ?_
  refine WC.seq<|WC.seq<|WC.region ?_
  refine WL.q rfl (r_move rfl) ?_
  refine WL.l rfl (l_do body_97 rfl (boolF (isfixint_ok (by decide) (by decide)) (by decide))) fun v1 w1 hh=>?_
  obtain⟨rfl,e1⟩:=hh
  refine WL.nil ?_
  refine WC.condF rfl ?_
  refine WC.skip ?_
  refine WC.seq<|WC.seq<|WC.region ?_
  refine WL.q rfl (r_move rfl) ?_
  refine WL.l rfl (l_do body_99 rfl (boolF (isnfixint_ok (by decide) (by decide)) (by decide))) fun v2 w2 hh=>?_
  obtain⟨rfl,e2⟩:=hh
  refine WL.nil ?_
  refine WC.condF rfl ?_
  refine WC.skip ?_
  refine WC.seq<|WC.region ?_
  refine WL.q rfl (r_move rfl) ?_
  refine WL.nil ?_
  refine WC.block ?_
  refine WC.seq<|WC.region ?_
  refine WL.q rfl (r_cmp (r_eql rfl rfl) (beqF (by(decide)))) ?_
  refine WL.q rfl (r_assign rfl) ?_
  refine WL.nil ?_
  refine WC.condF rfl ?_
  refine WC.seq<|WC.region ?_
  refine WL.q rfl (r_cmp (r_eql rfl rfl) (beqF (by(decide)))) ?_
  refine WL.q rfl (r_assign rfl) ?_
  refine WL.nil ?_
  refine WC.condF rfl ?_
  refine WC.seq<|WC.region ?_
  refine WL.q rfl (r_cmp (r_eql rfl rfl) (beqF (by(decide)))) ?_
  refine WL.q rfl (r_assign rfl) ?_
  refine WL.nil ?_
  refine WC.condF rfl ?_
  refine WC.seq<|WC.region ?_
  refine WL.q rfl (r_cmp (r_eql rfl rfl) (beqF (by(decide)))) ?_
  refine WL.q rfl (r_assign rfl) ?_
  refine WL.nil ?_
  refine WC.condF rfl ?_
  refine WC.seq<|WC.region ?_
  refine WL.q rfl (r_cmp (r_eql rfl rfl) (beqT (rfl))) ?_
  refine WL.q rfl (r_assign rfl) ?_
  refine WL.nil ?_
  refine WC.condT rfl ?_
  refine WC.seq<|WC.seq<|WC.region ?_
  refine WL.q rfl (r_move rfl) ?_
  refine WL.q rfl (r_len sl_27 rfl) ?_
  refine WL.q rfl (r_cmp (r_lss rfl rfl) (decide_eq_false (by(simp only[List.length_cons];omega)))) ?_
  refine WL.nil ?_
  refine WC.condF rfl ?_
  refine WC.skip ?_
  refine WC.seq<|WC.region ?_
  refine WL.q rfl (r_loadAgg agg_145 rfl (Ext.refl _) At.nil) ?_
  refine WL.q rfl (r_move rfl) ?_
  replace hDy:=(hDy.mono e1).mono e2
  refine WL.l rfl (l_do body_86 rfl (Uint32_ok hDy)) fun v3 w3 hh=>?_
  obtain⟨rfl,e3⟩:=hh
  refine WL.q rfl (r_cvIntE cv_112_21 rfl q1) ?_
  refine WL.q rfl (r_cvIntE cv_21_2 rfl q2) ?_
  refine WL.q rfl (r_assign rfl) ?_
  refine WL.nil ?_
  refine WC.seq<|WC.region ?_
  refine WL.q rfl (r_move rfl) ?_
  refine WL.q rfl (r_slicel sl_27 rfl rfl (show(4:Int)=((4:Nat):Int)from rfl) (by simp only[List.length_cons];omega)) ?_
  refine WL.q rfl (r_assign rfl) ?_
  refine WL.nil ?_
  refine WC.ret ?_
  replace hRz:=((hRz.mono e1).mono e2).mono e3
  replace he:=((he.then e1).then e2).then e3
  exact fin3 rfl rfl rfl ⟨⟨_,rfl,hRz⟩,he⟩
theorem RI211_ok{A:Nat→Prop}{v:Value}{n:Nat}{val:Int}{r:List UInt8}{w:World}(hv:IntKind.i64.wrap ((n.mod (256^8):Nat):Int)=val)(h0: -9223372036854775808≤val)(h1:val≤9223372036854775807)(hI:IsB A w v (211::(bigB n 8++r))):
    Does Tryz.prog 71 [v] w fun u w'=>(∃v',u= .tuple #[.int .i64 val,v',.nilIface]∧IsB A w' v' r)∧Ext w w':=by
  obtain⟨a0,a1,a2,a3,a4,a5,a6,a7,eb,ev⟩:∃a0 a1 a2 a3 a4 a5 a6 a7:UInt8,bigB n 8=[a0,a1,a2,a3,a4,a5,a6,a7]∧be [a0,a1,a2,a3,a4,a5,a6,a7]=n.mod (256^8):=by
    have e:=be_bigB n 8
    exact⟨_,_,_,_,_,_,_,_,rfl,e⟩
  rw[eb]at hI
  simp only[List.cons_append,List.nil_append]at hI
  have q2:IntKind.i64.wrap val=val:=wrap_i64 h0 h1
  obtain⟨b,o,c,rfl,hc,hA,hB⟩:=hI.open (by simp)
  have hDy:IsB A w _ (a0::a1::a2::a3::a4::a5::a6::a7::r):=hI.dropS (k:=1) (by simp)
  have q1:IntKind.i64.wrap ((be [a0,a1,a2,a3,a4,a5,a6,a7]:Nat):Int)=val:=by rw[ev];exact hv
  have hRz:IsB A w _ r:=hDy.dropS (k:=8) (by simp)
  simp only[List.length_cons]at hc
  refine does3 Tryz.func71 rfl rfl rfl ?_
  have he:Evo (fun _=>True) w w:=Evo.refl w
  refine WC.seq<|WC.region ?_
  refine WL.q rfl (r_assign rfl) ?_
  refine WL.q rfl (r_assign rfl) ?_
  refine WL.q rfl (r_assign rfl) ?_
  refine WL.nil ?_
  refine WC.seq<|WC.seq<|WC.region ?_
  refine WL.q rfl (r_move rfl) ?_
  refine WL.q rfl (r_len sl_27 rfl) ?_
  refine WL.q rfl (r_cmp (r_lss rfl rfl) (decide_eq_false (by(simp only[List.length_cons];omega)))) ?_
  refine WL.nil ?_
  refine WC.condF rfl ?_
  refine WC.skip ?_
  refine WC.seq<|WC.region ?_
  refine WL.q rfl (r_move rfl) ?_
  refine WL.q rfl (r_idx sl_27 rfl rfl (show(0:Int)=((0:Nat):Int)from rfl) (by simp only[List.length_cons];omega)) ?_
  refine WL.q rfl (r_load one_5 rfl (Ext.refl _) hB.c0) ?_
  refine WL.q rfl (r_assign rfl) ?_
  refine WL.nil ?_
  refine WC.seq<|WC.region ?_
  refine WL.q rfl (r_move rfl) ?_
  refine WL.q rfl (r_slicel sl_27 rfl rfl (show(1:Int)=((1:Nat):Int)from rfl) (by simp only[List.length_cons];omega)) ?_
  refine WL.q rfl (r_assign rfl) ?_
  refine WL.nil ?_
  refine WC.seq<|WC.seq<|WC.region ?_
  refine WL.q rfl (r_move rfl) ?_
  refine WL.l rfl (l_do body_97 rfl (boolF (isfixint_ok (by decide) (by decide)) (by decide))) fun v1 w1 hh=>?_
  obtain⟨rfl,e1⟩:=hh
  refine WL.nil ?_
  refine WC.condF rfl ?_
  refine WC.skip ?_
  refine WC.seq<|WC.seq<|WC.region ?_
  refine WL.q rfl (r_move rfl) ?_
  refine WL.l rfl (l_do body_99 rfl (boolF (isnfixint_ok (by decide) (by decide)) (by decide))) fun v2 w2 hh=>?_
  obtain⟨rfl,e2⟩:=hh
  refine WL.nil ?_
  refine WC.condF rfl ?_
  refine WC.skip ?_
  refine WC.seq<|WC.region ?_
  refine WL.q rfl (r_move rfl) ?_
  refine WL.nil ?_
  refine WC.block ?_
  refine WC.seq<|WC.region ?_
  refine WL.q rfl (r_cmp (r_eql rfl rfl) (beqF (by(decide)))) ?_
  refine WL.q rfl (r_assign rfl) ?_
  refine WL.nil ?_
  refine WC.condF rfl ?_
  refine WC.seq<|WC.region ?_
  refine WL.q rfl (r_cmp (r_eql rfl rfl) (beqF (by(decide)))) ?_
  refine WL.q rfl (r_assign rfl) ?_
  refine WL.nil ?_
  refine WC.condF rfl ?_
  refine WC.seq<|WC.region ?_
  refine WL.q rfl (r_cmp (r_eql rfl rfl) (beqF (by(decide)))) ?_
  refine WL.q rfl (r_assign rfl) ?_
  refine WL.nil ?_
  refine WC.condF rfl ?_
  refine WC.seq<|WC.region ?_
  refine WL.q rfl (r_cmp (r_eql rfl rfl) (beqF (by(decide)))) ?_
  refine WL.q rfl (r_assign rfl) ?_
  refine WL.nil ?_
  refine WC.condF rfl ?_
  refine WC.seq<|WC.region ?_
  refine WL.q rfl (r_cmp (r_eql rfl rfl) (beqF (by(decide)))) ?_
  refine WL.q rfl (r_assign rfl) ?_
  refine WL.nil ?_
  refine WC.condF rfl ?_
  refine WC.seq<|WC.region ?_
  refine WL.q rfl (r_cmp (r_eql rfl rfl) (beqF (by(decide)))) ?_
  refine WL.q rfl (r_assign rfl) ?_
  refine WL.nil ?_
  refine WC.condF rfl ?_
  refine WC.seq<|WC.region ?_
  refine WL.q rfl (r_cmp (r_eql rfl rfl) (beqT (rfl))) ?_
  refine WL.q rfl (r_assign rfl) ?_
  refine WL.nil ?_
  refine WC.condT rfl ?_
  refine WC.seq<|WC.seq<|WC.region ?_
  refine WL.q rfl (r_move rfl) ?_
  refine WL.q rfl (r_len sl_27 rfl) ?_
  refine WL.q rfl (r_cmp (r_lss rfl rfl) (decide_eq_false (by(simp only[List.length_cons];omega)))) ?_
  refine WL.nil ?_
  refine WC.condF rfl ?_
  refine WC.skip ?_
  refine WC.seq<|WC.region ?_
  refine WL.q rfl (r_loadAgg agg_145 rfl (Ext.refl _) At.nil) ?_
  refine WL.q rfl (r_move rfl) ?_
  replace hDy:=(hDy.mono e1).mono e2
  refine WL.l rfl (l_do body_101 rfl (Uint64_ok hDy)) fun v3 w3 hh=>?_
  obtain⟨rfl,e3⟩:=hh
  refine WL.q rfl (r_cvIntE cv_22_2 rfl q1) ?_
  refine WL.q rfl (r_assign rfl) ?_
  refine WL.nil ?_
  refine WC.seq<|WC.region ?_
  refine WL.q rfl (r_move rfl) ?_
  refine WL.q rfl (r_slicel sl_27 rfl rfl (show(8:Int)=((8:Nat):Int)from rfl) (by simp only[List.length_cons];omega)) ?_
  refine WL.q rfl (r_assign rfl) ?_
  refine WL.nil ?_
  refine WC.ret ?_
  replace hRz:=((hRz.mono e1).mono e2).mono e3
  replace he:=((he.then e1).then e2).then e3
  exact fin3 rfl rfl rfl ⟨⟨_,rfl,hRz⟩,he⟩
end Go.Proofs.LL
set_option maxRecDepth 20000
namespace Go.Proofs.LL
open Go Go.Proofs Go.RowKit Go.Sort
def PT(w:World):Prop:=∃T f,w.heap[7]?=some (.cells (Lib.pow10Tab.map fun z=>Value.int .u64 z).toArray T f)
theorem PT.lt{w:World}(h:PT w):7<w.heap.size:=by
  obtain⟨T,f,h⟩:=h
  exact(Array.getElem?_eq_some_iff.1 h).1
theorem PT.mono{A:Nat→Prop}{w w':World}(h:PT w)(e:Evo A w w')(hA:A 7:=by first|exact trivial|((try dsimp only[Nb]);omega)):PT w':=by
  obtain⟨T,f,h⟩:=h
  exact⟨T,f,e.obj h hA⟩
theorem PT.tab {w : World} (h : PT w) : Lib.TabIs Tryz.prog w "internal/strconv.uint64pow10" .u64 Lib.pow10Tab := by
  obtain⟨T,f,h⟩:=h
  have hg : Tryz.prog.globalNamed "internal/strconv.uint64pow10" = some 7 := by kernel_rfl
  unfold Lib.TabIs World.var?
  rw[hg,Option.bind_some,h]
theorem small_ok{i:Nat}{w:World}(h:i<100):
    Does Tryz.prog 113 [.int .i64 i] w fun r w'=>r=str (Lib.decDigits i)∧Ext w w':=by
  refine⟨Calls.mono (Any.internal_strconv_small Tryz.lays283 i h w) fun e w' hr=>?_⟩
  obtain⟨rfl,rfl⟩:=hr
  exact⟨_,rfl,rfl,Evo.refl _⟩
theorem nd_ok{u:Nat}{w:World}(h1:1≤u)(h2:u<18446744073709551616)(hT:PT w):
    Does Tryz.prog 114 [.int .u64 u] w fun r w'=>r= .int .i64 (Lib.nDigits u)∧Ext w w':=by
  refine⟨Calls.mono (Any.internal_strconv_numDigits Tryz.lays284 u h1 h2 w hT.tab) fun e w' hr=>?_⟩
  obtain⟨rfl,rfl⟩:=hr
  exact⟨_,rfl,rfl,Evo.refl _⟩
theorem fb10_ok{u b cap:Nat}{w:World}(hB:Blk w b (List.replicate 24 (.int .u8 0)))(h2:u<18446744073709551616)(hn:Lib.nDigits u≤24):
    Does Tryz.prog 115 [.slice (some ⟨b,0,none⟩) (Lib.nDigits u) cap,.int .u64 u] w fun r w'=>r= .tuple #[]∧BytesAt w' b 0 (Lib.decDigits u)∧Evo (fun k=>k≠b) w w':=by
  have hH:Holds (fun(b:UInt8)=>Value.int .u8 (b.toNat:Int)) w b 0 (Array.replicate (Lib.nDigits u) (0:UInt8)):=fun j hj=>by
    rw[Array.size_replicate]at hj
    refine⟨?_,hB.frozen _⟩
    rw[hB.cell,Nat.zero_add,List.getElem?_replicate,if_pos (by omega),getElem!_pos _ j (by simpa using hj)]
    simp
  have hk:=Any.internal_strconv_formatBase10 Tryz.lays285 b 0 cap u (Array.replicate (Lib.nDigits u) 0) w hH (by rw[Array.size_replicate];exact Lib.lt_pow_nDigits u) h2 (by rw[Array.size_replicate];omega)
  rw[Array.size_replicate]at hk
  refine⟨Calls.mono hk fun e w' hr=>?_⟩
  obtain⟨rfl,n,v',dk,rfl,hF⟩:=hr
  refine⟨_,rfl,rfl,fun j hj=>?_,⟨rfl,rfl,rfl,?_,fun k hk hkb=>?_⟩⟩
  · have e:=cell?_putRow (fun(b:UInt8)=>Value.int .u8 (b.toNat:Int)) w b 0 _ dk hH (by rw[hF.size];simp) j (by rw[hF.size];rw[Lib.decDigits_length]at hj;exact hj)
    rw[World.cell?_drewN,Lib.row_is_numeral hF j hj]
    exact e
  · simp[putRow,mapBlock]
  · simp[putRow,mapBlock,Array.getElem?_modify,Ne.symm hkb]
end Go.Proofs.LL
set_option maxRecDepth 20000
namespace Go.Proofs.LL
open Go Go.Proofs Go.RowKit
theorem body_113:bodyB Tryz.prog 113=true:=by kernel_rfl
theorem body_114:bodyB Tryz.prog 114=true:=by kernel_rfl
theorem body_115:bodyB Tryz.prog 115=true:=by kernel_rfl
theorem zt_182:zeroT Tryz.prog 182=some (.agg #[.int .u8 0,.int .u8 0,.int .u8 0,.int .u8 0,.int .u8 0,.int .u8 0,.int .u8 0,.int .u8 0,.int .u8 0,.int .u8 0,.int .u8 0,.int .u8 0,.int .u8 0,.int .u8 0,.int .u8 0,.int .u8 0,.int .u8 0,.int .u8 0,.int .u8 0,.int .u8 0,.int .u8 0,.int .u8 0,.int .u8 0,.int .u8 0]):=by kernel_rfl
theorem r_sliceArrH{P:Program}{ρ:Fr}{t ty:TypeId}{x hi:Operand}{w:World}{k2:IntKind}{i2:Int}{n z b o h:Nat}(ht:arrT P t=some (n,z))(hx:ov ρ x=some (.pointer (some ⟨b,o,none⟩)))(h2:ov ρ hi=some (.int k2 i2))(e2:i2=(h:Int))(hh:h≤n):RunOp P (.slice t x none (some hi) none) ty ρ w (.slice (some ⟨b,o,none⟩) h n):=by
  intro N D a dst pos af g ha
  unfold arrT at ht
  split at ht
  · rename_i n' e hu
    obtain⟨i,hi,he⟩:=Option.map_eq_some_iff.1 ht
    simp only[Prod.mk.injEq]at he
    obtain⟨rfl,rfl⟩:=he
    subst e2
    simp[execOp,ha.ov hx,ha.ov h2,Instr.sliceAt,Instr.sureAddr,Instr.sliceBounds,Instr.sliceBound,underlying,hu,sizeOf,typeInfo,hi,asIntOf,hh]
    intro _
    exact Addr_add
  · cases ht
theorem AppU_ok{u n:Nat}{xs:List Value}{v:Value}{w:World}(hO:Own 0 5 1 w v n xs)(hn:n≤1000000000000)(hu:u<18446744073709551616)(hT:PT w):
    Does Tryz.prog 103 [v,.int .u64 u,.int .i64 10] w fun r w'=>Own 0 5 1 w' r (n+(Lib.decDigits u).length) (xs++bc (Lib.decDigits u))∧(∀k,k<w.heap.size→v.ownBlock≠some k→r.ownBlock≠some k)∧Evo (fun k=>v.ownBlock≠some k) w w':=by
  have hol:=hO.lt
  have hnd:u<100∨(100≤u∧1≤Lib.nDigits u∧Lib.nDigits u≤20):=by
    rcases Nat.lt_or_ge u 100 with h|h
    · exact .inl h
    · have:=Lib.numDigits_eq u (by omega) hu
      refine .inr ⟨h,?_,?_⟩
      · rw[Lib.nDigits_big (by omega)];omega
      · split at this<;>omega
  have hdl:=Lib.decDigits_length u
  rcases hnd with hs|⟨hb,hn1,hn2⟩
  · have hd2:(Lib.decDigits u).length≤20:=by rw[hdl,Lib.nDigits];split;omega;rw[Lib.nDigits_small (by omega)];omega
    refine does1 Tryz.func103 rfl rfl rfl ?_
    refine WC.seq<|WC.region ?_
    refine WL.q rfl (r_assign rfl) ?_
    refine WL.nil ?_
    refine WC.seq<|WC.seq<|WC.region ?_
    refine WL.q rfl (r_move rfl) ?_
    refine WL.q rfl (r_cmp (r_eql rfl rfl) (beqT (by omega))) ?_
    refine WL.nil ?_
    refine WC.condT rfl ?_
    refine WC.seq<|WC.seq<|WC.region ?_
    refine WL.q rfl (r_move rfl) ?_
    refine WL.q rfl (r_cmp (r_lss rfl rfl) (decide_eq_true (by omega))) ?_
    refine WL.nil ?_
    refine WC.condT rfl ?_
    refine WC.seq<|WC.region ?_
    refine WL.q rfl (r_move rfl) ?_
    refine WL.q rfl (r_move rfl) ?_
    refine WL.q rfl (r_cvInt cv_22_3 rfl) ?_
    refine WL.l rfl (l_do body_113 rfl ((by rw[wrap_i64 (by omega) (by omega)];exact small_ok hs))) fun v1 w1 hh=>?_
    obtain⟨rfl,e1⟩:=hh
    have ns1:w.heap.size≤w1.heap.size:=e1.size
    replace hO:=hO.mono e1
    refine WL.l rfl (l_appT slz_27 rfl rfl hO (Src.str str_9) (by omega) (by simp only[maxLen];omega) (by omega)) fun v2 w2 hh=>?_
    obtain⟨hO,q1,qob,e2⟩:=hh
    have qO:=hO
    have ns2:w1.heap.size≤w2.heap.size:=e2.size
    refine WL.q rfl (r_assign rfl) ?_
    refine WL.nil ?_
    refine WC.ret ?_
    exact fin1 rfl ⟨qO,fun k hk=>qob k (by omega),((Evo.refl (A:=fun k=>v.ownBlock≠some k) w).then e1 fun _ _ _=>trivial).then e2 fun k _ h=>h⟩
  · skip
    refine does1 Tryz.func103 rfl rfl rfl ?_
    refine WC.seq<|WC.region ?_
    refine WL.q rfl (r_assign rfl) ?_
    refine WL.nil ?_
    refine WC.seq<|WC.seq<|WC.region ?_
    refine WL.q rfl (r_move rfl) ?_
    refine WL.q rfl (r_cmp (r_eql rfl rfl) (beqT (by omega))) ?_
    refine WL.nil ?_
    refine WC.condT rfl ?_
    refine WC.seq<|WC.seq<|WC.region ?_
    refine WL.q rfl (r_move rfl) ?_
    refine WL.q rfl (r_cmp (r_lss rfl rfl) (decide_eq_false (by omega))) ?_
    refine WL.nil ?_
    refine WC.condF rfl ?_
    refine WC.skip ?_
    refine WC.seq<|WC.region ?_
    refine WL.l rfl (l_alloc zt_182 rfl) fun _ w1 hh=>?_
    obtain⟨rfl,hb1,e1⟩:=hh
    have nx1:=hb1.lt
    have ns1:w.heap.size≤w1.heap.size:=e1.size
    refine WL.nil ?_
    refine WC.seq<|WC.region ?_
    refine WL.q rfl (r_move rfl) ?_
    replace hT:=hT.mono e1
    refine WL.l rfl (l_do body_114 rfl (nd_ok (by omega) hu hT)) fun v2 w2 hh=>?_
    obtain⟨rfl,e2⟩:=hh
    have ns2:w1.heap.size≤w2.heap.size:=e2.size
    refine WL.q rfl (r_assign rfl) ?_
    refine WL.nil ?_
    refine WC.seq<|WC.region ?_
    refine WL.q rfl (r_move rfl) ?_
    refine WL.q rfl (r_sliceArrH (show arrT Tryz.prog 182=some (24,1)from by kernel_rfl) rfl rfl rfl (by omega)) ?_
    refine WL.q rfl (r_move rfl) ?_
    replace hb1:=hb1.mono e2
    refine WL.l rfl (l_do body_115 rfl (fb10_ok (by simpa using hb1) hu (by omega))) fun v3 w3 hh=>?_
    obtain⟨rfl,hD,e3⟩:=hh
    have ns3:w2.heap.size≤w3.heap.size:=e3.size
    refine WL.nil ?_
    refine WC.seq<|WC.region ?_
    refine WL.q rfl (r_move rfl) ?_
    refine WL.q rfl (r_move rfl) ?_
    refine WL.q rfl (r_sliceArrH (show arrT Tryz.prog 182=some (24,1)from by kernel_rfl) rfl rfl rfl (by omega)) ?_
    refine WL.l rfl (l_appT slz_27 rfl rfl (hO.monoB (((Evo.refl (A:=fun k=>k<w.heap.size) w).then e1 fun _ _ _=>trivial).then e2 (fun _ _ _=>trivial)|>.then e3 fun k _ h=>by omega) hol) (Src.isB slk_27 (A:=fun _=>True) (l:=Lib.decDigits u) ⟨some ⟨_,0,none⟩,24,by rw[hdl],by omega,fun _=>⟨_,_,rfl,trivial,hD⟩⟩) (by omega) (by simp only[maxLen];omega) (by omega)) fun v4 w4 hh=>?_
    obtain⟨hO,q1,qob,e4⟩:=hh
    have qO:=hO
    have ns4:w3.heap.size≤w4.heap.size:=e4.size
    refine WL.q rfl (r_assign rfl) ?_
    refine WL.nil ?_
    refine WC.ret ?_
    exact fin1 rfl ⟨qO,fun k hk=>qob k (by omega),(((Evo.refl (A:=fun k=>v.ownBlock≠some k) w).then e1 fun _ _ _=>trivial).then e2 (fun _ _ _=>trivial)|>.then e3 fun k _ h=>by omega).then e4 fun k _ h=>h⟩
end Go.Proofs.LL
set_option maxRecDepth 20000
namespace Go.Proofs.LL
open Go Go.Proofs Go.RowKit
theorem body_103:bodyB Tryz.prog 103=true:=by kernel_rfl
theorem AppU2_ok{u n:Nat}{xs:List Value}{v:Value}{w:World}(hO:Own 0 5 1 w v n xs)(hn:n≤1000000000000)(hu:u<18446744073709551616)(hT:PT w):
    Does Tryz.prog 74 [v,.int .u64 u,.int .i64 10] w fun r w'=>Own 0 5 1 w' r (n+(Lib.decDigits u).length) (xs++bc (Lib.decDigits u))∧(∀k,k<w.heap.size→v.ownBlock≠some k→r.ownBlock≠some k)∧Evo (fun k=>v.ownBlock≠some k) w w':=by
  refine does1 Tryz.func74 rfl rfl rfl ?_
  refine WC.seq<|WC.region ?_
  refine WL.q rfl (r_assign rfl) ?_
  refine WL.nil ?_
  refine WC.seq<|WC.region ?_
  refine WL.q rfl (r_move rfl) ?_
  refine WL.q rfl (r_move rfl) ?_
  refine WL.q rfl (r_move rfl) ?_
  refine WL.l rfl (l_do body_103 rfl (AppU_ok hO hn hu hT)) fun v1 w1 hh=>?_
  obtain⟨q1,q2,e1⟩:=hh
  have ns1:w.heap.size≤w1.heap.size:=e1.size
  refine WL.q rfl (r_assign rfl) ?_
  refine WL.nil ?_
  refine WC.ret ?_
  exact fin1 rfl ⟨q1,q2,e1⟩
end Go.Proofs.LL
