/- Contracts of functions and own laws. Conditions: those that each theorem states. -/
import Derived.Test.YtbkhpjeaacoobaaGreatDoorA21
set_option linter.all false
set_option maxRecDepth 20000
namespace Go.Proofs.LL
open Go Go.Proofs Go.RowKit
theorem body_84:bodyB Tryz.prog 84=true:=by kernel_rfl
theorem cv_112_3:cvInt Tryz.prog 112 3=some .i64:=by kernel_rfl
theorem cv_143_3:cvInt Tryz.prog 143 3=some .i64:=by kernel_rfl
theorem IsB.takeS{A:Nat→Prop}{w:World}{p:Option Addr}{n c k:Nat}{bs:List UInt8}(h:IsB A w (.slice p n c) bs)(hk:k≤bs.length):IsB A w (.slice (if c=0 then p else p.map (·.add (0 * 1))) (k-0) (c-0)) (bs.take k):=by
  obtain⟨p',c',e,hc,hb⟩:=h
  injection e with e1 e2 e3
  subst e1 e2 e3
  have hl:(bs.take k).length=k:=by simp;omega
  refine⟨_,_,by rw[hl,Nat.sub_zero],by omega,fun hne=>?_⟩
  have hpos:0<(bs.take k).length:=List.length_pos_iff.2 hne
  obtain⟨b,o,rfl,hA,hB⟩:=hb (List.length_pos_iff.1 (by omega))
  rw[if_neg (by omega)]
  refine⟨b,o,by rw[Option.map_some,Addr_add,Nat.zero_mul,Nat.add_zero],hA,fun j hj=>?_⟩
  rw[hB j (by omega)]
  simp
theorem IsB.capS{A:Nat→Prop}{w:World}{p:Option Addr}{n c:Nat}{bs:List UInt8}(h:IsB A w (.slice p n c) bs):n=bs.length∧n≤c:=by
  obtain⟨p',c',e,hc,hb⟩:=h
  injection e with e1 e2 e3
  subst e1 e2 e3
  exact⟨rfl,hc⟩
theorem i64_len{n:Nat}(h:n≤131072):IntKind.i64.wrap (n:Int)=(n:Int):=wrap_i64 (by omega) (by omega)
theorem RStr_ok{A:Nat→Prop}{v:Value}{hd t r:List UInt8}{w:World}(hh:HeadP 160 32 strF t.length hd)(ht:t.length≤131072)(hI:IsB A w v (hd++(t++r))):
    Does Tryz.prog 58 [v] w fun u w'=>(∃vt v',u= .tuple #[vt,v',.nilIface]∧IsB A w' vt t∧IsB A w' v' r)∧Ext w w':=by
  rcases hh with⟨fx,hfx,hlt,rfl⟩|⟨p,hp,hf,rfl⟩
  · have hz:((UInt8.ofNat (fx+t.length)).toNat:Int)=160+t.length:=by rw[UInt8.toNat_ofNat'];omega
    rw[List.singleton_append]at hI
    have q64:IntKind.i64.wrap ((160+(t.length:Int))%32)=(t.length:Int):=by rw[wrap_i64 (by omega) (by omega)];omega
    obtain⟨b,o,c,rfl,hc,hA,hB⟩:=hI.open (by simp)
    have hDz:IsB A w _ (t++r):=hI.dropS (k:=1) (by simp)
    have hc0:=hB.c0
    rw[hz]at hc0
    have hcap:=hDz.capS
    have hcap0:=hI.capS
    simp only[List.length_cons,List.length_append]at hcap hcap0 hc
    have hT0z:=hDz.takeS (k:=t.length) (by simp)
    have hR0z:=hDz.dropS (k:=t.length) (by simp)
    rw[List.take_left]at hT0z
    rw[List.drop_left]at hR0z
    refine does3 Tryz.func58 rfl rfl rfl ?_
    have he:Evo (fun _=>True) w w:=Evo.refl w
    refine WC.seq<|WC.region ?_
    refine WL.q rfl (r_assign rfl) ?_
    refine WL.q rfl (r_assign rfl) ?_
    refine WL.q rfl (r_assign rfl) ?_
    refine WL.nil ?_
    refine WC.seq<|WC.seq<|WC.region ?_
    refine WL.q rfl (r_move rfl) ?_
    refine WL.q rfl (r_len sl_27 rfl) ?_
    refine WL.q rfl (r_cmp (r_lss rfl rfl) (decide_eq_false (by(simp only[List.length_cons,List.length_append];omega)))) ?_
    refine WL.nil ?_
    refine WC.condF rfl ?_
    refine WC.skip ?_
    refine WC.seq<|WC.region ?_
    refine WL.q rfl (r_move rfl) ?_
    refine WL.q rfl (r_idx sl_27 rfl rfl (show(0:Int)=((0:Nat):Int)from rfl) (by simp only[List.length_cons,List.length_append];omega)) ?_
    refine WL.q rfl (r_load one_5 rfl (Ext.refl _) hc0) ?_
    refine WL.q rfl (r_assign rfl) ?_
    refine WL.nil ?_
    refine WC.seq<|WC.region ?_
    refine WL.q rfl (r_assign rfl) ?_
    refine WL.nil ?_
    refine WC.seq<|WC.region ?_
    refine WL.q rfl (r_move rfl) ?_
    refine WL.q rfl (r_slicel sl_27 rfl rfl (show(1:Int)=((1:Nat):Int)from rfl) (by simp only[List.length_cons,List.length_append];omega)) ?_
    refine WL.q rfl (r_assign rfl) ?_
    refine WL.nil ?_
    refine WC.seq<|WC.seq<|WC.region ?_
    refine WL.q rfl (r_move rfl) ?_
    refine WL.l rfl (l_do body_84 rfl (boolT (isfixstr_ok (by omega) (by omega)) (by omega))) fun v1 w1 hh=>?_
    obtain⟨rfl,e1⟩:=hh
    refine WL.nil ?_
    refine WC.condT rfl ?_
    refine WC.region ?_
    refine WL.q rfl (r_move rfl) ?_
    refine WL.l rfl (l_do body_81 rfl (rfixstr_ok (by omega) (by omega))) fun v2 w2 hh=>?_
    obtain⟨rfl,e2⟩:=hh
    refine WL.q rfl (r_cvIntE cv_5_3 rfl q64) ?_
    refine WL.q rfl (r_assign rfl) ?_
    refine WL.nil ?_
    refine WC.seq<|WC.seq<|WC.region ?_
    refine WL.q rfl (r_move rfl) ?_
    refine WL.q rfl (r_len sl_27 rfl) ?_
    refine WL.q rfl (r_move rfl) ?_
    refine WL.q rfl (r_cmp (r_lss rfl rfl) (decide_eq_false (by(simp only[List.length_cons,List.length_append];omega)))) ?_
    refine WL.nil ?_
    refine WC.condF rfl ?_
    refine WC.skip ?_
    refine WC.seq<|WC.region ?_
    refine WL.q rfl (r_move rfl) ?_
    refine WL.q rfl (r_move rfl) ?_
    refine WL.q rfl (r_slice sl_27 rfl rfl rfl (show(0:Int)=((0:Nat):Int)from rfl) rfl (Nat.zero_le _) (by omega)) ?_
    refine WL.q rfl (r_assign rfl) ?_
    refine WL.nil ?_
    refine WC.seq<|WC.region ?_
    refine WL.q rfl (r_move rfl) ?_
    refine WL.q rfl (r_move rfl) ?_
    refine WL.q rfl (r_slicel sl_27 rfl rfl rfl (by simp only[List.length_cons,List.length_append];omega)) ?_
    refine WL.q rfl (r_assign rfl) ?_
    refine WL.nil ?_
    refine WC.ret ?_
    replace hT0z:=(hT0z.mono e1).mono e2
    replace hR0z:=(hR0z.mono e1).mono e2
    replace he:=(he.then e1).then e2
    exact fin3 rfl rfl rfl ⟨⟨_,_,rfl,hT0z,hR0z⟩,he⟩
  simp only[strF,List.mem_cons,List.not_mem_nil,or_false]at hp
  rcases hp with rfl|rfl|rfl
  · have hf2:t.length<256:=by have:=fitb_lt hf (by decide);simpa using this
    rw[be_big1 hf2]at hI
    simp only[List.cons_append,List.nil_append]at hI
    obtain⟨b,o,c,rfl,hc,hA,hB⟩:=hI.open (by simp)
    have hD1y:IsB A w _ (UInt8.ofNat t.length::(t++r)):=hI.dropS (k:=1) (by simp)
    have q64:IntKind.i64.wrap ((UInt8.ofNat t.length).toNat:Int)=(t.length:Int):=by rw[UInt8.toNat_ofNat',wrap_i64 (by omega) (by omega)];omega
    obtain⟨b1,o1,c1,ed,hc1,hA1,hB1x⟩:=hD1y.open (by simp)
    rw[ed]at hD1y
    have hDz:IsB A w _ (t++r):=hD1y.dropS (k:=1) (by simp)
    have hcap:=hDz.capS
    have hcap0:=hI.capS
    simp only[List.length_cons,List.length_append]at hcap hcap0 hc
    have hT1z:=hDz.takeS (k:=t.length) (by simp)
    have hR1z:=hDz.dropS (k:=t.length) (by simp)
    rw[List.take_left]at hT1z
    rw[List.drop_left]at hR1z
    refine does3 Tryz.func58 rfl rfl rfl ?_
    have he:Evo (fun _=>True) w w:=Evo.refl w
    refine WC.seq<|WC.region ?_
    refine WL.q rfl (r_assign rfl) ?_
    refine WL.q rfl (r_assign rfl) ?_
    refine WL.q rfl (r_assign rfl) ?_
    refine WL.nil ?_
    refine WC.seq<|WC.seq<|WC.region ?_
    refine WL.q rfl (r_move rfl) ?_
    refine WL.q rfl (r_len sl_27 rfl) ?_
    refine WL.q rfl (r_cmp (r_lss rfl rfl) (decide_eq_false (by(simp only[List.length_cons,List.length_append];omega)))) ?_
    refine WL.nil ?_
    refine WC.condF rfl ?_
    refine WC.skip ?_
    refine WC.seq<|WC.region ?_
    refine WL.q rfl (r_move rfl) ?_
    refine WL.q rfl (r_idx sl_27 rfl rfl (show(0:Int)=((0:Nat):Int)from rfl) (by simp only[List.length_cons,List.length_append];omega)) ?_
    refine WL.q rfl (r_load one_5 rfl (Ext.refl _) hB.c0) ?_
    refine WL.q rfl (r_assign rfl) ?_
    refine WL.nil ?_
    refine WC.seq<|WC.region ?_
    refine WL.q rfl (r_assign rfl) ?_
    refine WL.nil ?_
    refine WC.seq<|WC.region ?_
    refine WL.q rfl (r_move rfl) ?_
    refine WL.q rfl ((ed▸r_slicel sl_27 rfl rfl (show(1:Int)=((1:Nat):Int)from rfl) (by simp only[List.length_cons,List.length_append];omega))) ?_
    refine WL.q rfl (r_assign rfl) ?_
    refine WL.nil ?_
    refine WC.seq<|WC.seq<|WC.region ?_
    refine WL.q rfl (r_move rfl) ?_
    refine WL.l rfl (l_do body_84 rfl (boolF (isfixstr_ok (by decide) (by decide)) (by decide))) fun v1 w1 hh=>?_
    obtain⟨rfl,e1⟩:=hh
    refine WL.nil ?_
    refine WC.condF rfl ?_
    refine WC.seq<|WC.region ?_
    refine WL.q rfl (r_move rfl) ?_
    refine WL.nil ?_
    refine WC.block ?_
    refine WC.seq<|WC.region ?_
    refine WL.q rfl (r_cmp (r_eql rfl rfl) (beqT (rfl))) ?_
    refine WL.q rfl (r_assign rfl) ?_
    refine WL.nil ?_
    refine WC.condT rfl ?_
    refine WC.seq<|WC.seq<|WC.region ?_
    refine WL.q rfl (r_move rfl) ?_
    refine WL.q rfl (r_len sl_27 rfl) ?_
    refine WL.q rfl (r_cmp (r_lss rfl rfl) (decide_eq_false (by(simp only[List.length_cons,List.length_append];omega)))) ?_
    refine WL.nil ?_
    refine WC.condF rfl ?_
    refine WC.skip ?_
    refine WC.seq<|WC.region ?_
    refine WL.q rfl (r_move rfl) ?_
    refine WL.q rfl (r_idx sl_27 rfl rfl (show(0:Int)=((0:Nat):Int)from rfl) (by simp only[List.length_cons,List.length_append];omega)) ?_
    replace hB1x:=hB1x.mono e1
    refine WL.q rfl (r_load one_5 rfl (Ext.refl _) hB1x.c0) ?_
    refine WL.q rfl (r_cvIntE cv_5_3 rfl q64) ?_
    refine WL.q rfl (r_assign rfl) ?_
    refine WL.nil ?_
    refine WC.region ?_
    refine WL.q rfl (r_move rfl) ?_
    refine WL.q rfl (r_slicel sl_27 rfl rfl (show(1:Int)=((1:Nat):Int)from rfl) (by simp only[List.length_cons,List.length_append];omega)) ?_
    refine WL.q rfl (r_assign rfl) ?_
    refine WL.nil ?_
    refine WC.seq<|WC.seq<|WC.region ?_
    refine WL.q rfl (r_move rfl) ?_
    refine WL.q rfl (r_len sl_27 rfl) ?_
    refine WL.q rfl (r_move rfl) ?_
    refine WL.q rfl (r_cmp (r_lss rfl rfl) (decide_eq_false (by(simp only[List.length_cons,List.length_append];omega)))) ?_
    refine WL.nil ?_
    refine WC.condF rfl ?_
    refine WC.skip ?_
    refine WC.seq<|WC.region ?_
    refine WL.q rfl (r_move rfl) ?_
    refine WL.q rfl (r_move rfl) ?_
    refine WL.q rfl (r_slice sl_27 rfl rfl rfl (show(0:Int)=((0:Nat):Int)from rfl) rfl (Nat.zero_le _) (by omega)) ?_
    refine WL.q rfl (r_assign rfl) ?_
    refine WL.nil ?_
    refine WC.seq<|WC.region ?_
    refine WL.q rfl (r_move rfl) ?_
    refine WL.q rfl (r_move rfl) ?_
    refine WL.q rfl (r_slicel sl_27 rfl rfl rfl (by simp only[List.length_cons,List.length_append];omega)) ?_
    refine WL.q rfl (r_assign rfl) ?_
    refine WL.nil ?_
    refine WC.ret ?_
    replace hT1z:=hT1z.mono e1
    replace hR1z:=hR1z.mono e1
    replace he:=he.then e1
    exact fin3 rfl rfl rfl ⟨⟨_,_,rfl,hT1z,hR1z⟩,he⟩
  · have hf2:t.length<65536:=by have:=fitb_lt hf (by decide);simpa using this
    obtain⟨a1,a2,eb,ev⟩:=be_big2 hf2
    rw[eb]at hI
    simp only[List.cons_append,List.nil_append]at hI
    obtain⟨b,o,c,rfl,hc,hA,hB⟩:=hI.open (by simp)
    have hD2y:IsB A w _ (a1::a2::(t++r)):=hI.dropS (k:=1) (by simp)
    have q64:IntKind.i64.wrap ((be [a1,a2]:Nat):Int)=(t.length:Int):=by rw[ev];exact i64_len ht
    have hDz:IsB A w _ (t++r):=hD2y.dropS (k:=2) (by simp)
    have hcap:=hDz.capS
    have hcap0:=hI.capS
    simp only[List.length_cons,List.length_append]at hcap hcap0 hc
    have hT2z:=hDz.takeS (k:=t.length) (by simp)
    have hR2z:=hDz.dropS (k:=t.length) (by simp)
    rw[List.take_left]at hT2z
    rw[List.drop_left]at hR2z
    refine does3 Tryz.func58 rfl rfl rfl ?_
    have he:Evo (fun _=>True) w w:=Evo.refl w
    refine WC.seq<|WC.region ?_
    refine WL.q rfl (r_assign rfl) ?_
    refine WL.q rfl (r_assign rfl) ?_
    refine WL.q rfl (r_assign rfl) ?_
    refine WL.nil ?_
    refine WC.seq<|WC.seq<|WC.region ?_
    refine WL.q rfl (r_move rfl) ?_
    refine WL.q rfl (r_len sl_27 rfl) ?_
    refine WL.q rfl (r_cmp (r_lss rfl rfl) (decide_eq_false (by(simp only[List.length_cons,List.length_append];omega)))) ?_
    refine WL.nil ?_
    refine WC.condF rfl ?_
    refine WC.skip ?_
    refine WC.seq<|WC.region ?_
    refine WL.q rfl (r_move rfl) ?_
    refine WL.q rfl (r_idx sl_27 rfl rfl (show(0:Int)=((0:Nat):Int)from rfl) (by simp only[List.length_cons,List.length_append];omega)) ?_
    refine WL.q rfl (r_load one_5 rfl (Ext.refl _) hB.c0) ?_
    refine WL.q rfl (r_assign rfl) ?_
    refine WL.nil ?_
    refine WC.seq<|WC.region ?_
    refine WL.q rfl (r_assign rfl) ?_
    refine WL.nil ?_
    refine WC.seq<|WC.region ?_
    refine WL.q rfl (r_move rfl) ?_
    refine WL.q rfl (r_slicel sl_27 rfl rfl (show(1:Int)=((1:Nat):Int)from rfl) (by simp only[List.length_cons,List.length_append];omega)) ?_
    refine WL.q rfl (r_assign rfl) ?_
    refine WL.nil ?_
    refine WC.seq<|WC.seq<|WC.region ?_
    refine WL.q rfl (r_move rfl) ?_
    refine WL.l rfl (l_do body_84 rfl (boolF (isfixstr_ok (by decide) (by decide)) (by decide))) fun v1 w1 hh=>?_
    obtain⟨rfl,e1⟩:=hh
    refine WL.nil ?_
    refine WC.condF rfl ?_
    refine WC.seq<|WC.region ?_
    refine WL.q rfl (r_move rfl) ?_
    refine WL.nil ?_
    refine WC.block ?_
    refine WC.seq<|WC.region ?_
    refine WL.q rfl (r_cmp (r_eql rfl rfl) (beqF (by(decide)))) ?_
    refine WL.q rfl (r_assign rfl) ?_
    refine WL.nil ?_
    refine WC.condF rfl ?_
    refine WC.seq<|WC.region ?_
    refine WL.q rfl (r_cmp (r_eql rfl rfl) (beqT (rfl))) ?_
    refine WL.q rfl (r_assign rfl) ?_
    refine WL.nil ?_
    refine WC.condT rfl ?_
    refine WC.seq<|WC.seq<|WC.region ?_
    refine WL.q rfl (r_move rfl) ?_
    refine WL.q rfl (r_len sl_27 rfl) ?_
    refine WL.q rfl (r_cmp (r_lss rfl rfl) (decide_eq_false (by(simp only[List.length_cons,List.length_append];omega)))) ?_
    refine WL.nil ?_
    refine WC.condF rfl ?_
    refine WC.skip ?_
    refine WC.seq<|WC.region ?_
    refine WL.q rfl (r_loadAgg agg_145 rfl (Ext.refl _) At.nil) ?_
    refine WL.q rfl (r_move rfl) ?_
    replace hD2y:=hD2y.mono e1
    refine WL.l rfl (l_do body_85 rfl (Uint16_ok hD2y)) fun v2 w2 hh=>?_
    obtain⟨rfl,e2⟩:=hh
    refine WL.q rfl (r_cvIntE cv_143_3 rfl q64) ?_
    refine WL.q rfl (r_assign rfl) ?_
    refine WL.nil ?_
    refine WC.region ?_
    refine WL.q rfl (r_move rfl) ?_
    refine WL.q rfl (r_slicel sl_27 rfl rfl (show(2:Int)=((2:Nat):Int)from rfl) (by simp only[List.length_cons,List.length_append];omega)) ?_
    refine WL.q rfl (r_assign rfl) ?_
    refine WL.nil ?_
    refine WC.seq<|WC.seq<|WC.region ?_
    refine WL.q rfl (r_move rfl) ?_
    refine WL.q rfl (r_len sl_27 rfl) ?_
    refine WL.q rfl (r_move rfl) ?_
    refine WL.q rfl (r_cmp (r_lss rfl rfl) (decide_eq_false (by(simp only[List.length_cons,List.length_append];omega)))) ?_
    refine WL.nil ?_
    refine WC.condF rfl ?_
    refine WC.skip ?_
    refine WC.seq<|WC.region ?_
    refine WL.q rfl (r_move rfl) ?_
    refine WL.q rfl (r_move rfl) ?_
    refine WL.q rfl (r_slice sl_27 rfl rfl rfl (show(0:Int)=((0:Nat):Int)from rfl) rfl (Nat.zero_le _) (by omega)) ?_
    refine WL.q rfl (r_assign rfl) ?_
    refine WL.nil ?_
    refine WC.seq<|WC.region ?_
    refine WL.q rfl (r_move rfl) ?_
    refine WL.q rfl (r_move rfl) ?_
    refine WL.q rfl (r_slicel sl_27 rfl rfl rfl (by simp only[List.length_cons,List.length_append];omega)) ?_
    refine WL.q rfl (r_assign rfl) ?_
    refine WL.nil ?_
    refine WC.ret ?_
    replace hT2z:=(hT2z.mono e1).mono e2
    replace hR2z:=(hR2z.mono e1).mono e2
    replace he:=(he.then e1).then e2
    exact fin3 rfl rfl rfl ⟨⟨_,_,rfl,hT2z,hR2z⟩,he⟩
  · have hf2:t.length<4294967296:=by have:=fitb_lt hf (by decide);simpa using this
    obtain⟨a1,a2,a3,a4,eb,ev⟩:=be_big4 hf2
    rw[eb]at hI
    simp only[List.cons_append,List.nil_append]at hI
    obtain⟨b,o,c,rfl,hc,hA,hB⟩:=hI.open (by simp)
    have hD4y:IsB A w _ (a1::a2::a3::a4::(t++r)):=hI.dropS (k:=1) (by simp)
    have q64:IntKind.i64.wrap ((be [a1,a2,a3,a4]:Nat):Int)=(t.length:Int):=by rw[ev];exact i64_len ht
    have hDz:IsB A w _ (t++r):=hD4y.dropS (k:=4) (by simp)
    have hcap:=hDz.capS
    have hcap0:=hI.capS
    simp only[List.length_cons,List.length_append]at hcap hcap0 hc
    have hT4z:=hDz.takeS (k:=t.length) (by simp)
    have hR4z:=hDz.dropS (k:=t.length) (by simp)
    rw[List.take_left]at hT4z
    rw[List.drop_left]at hR4z
    refine does3 Tryz.func58 rfl rfl rfl ?_
    have he:Evo (fun _=>True) w w:=Evo.refl w
    refine WC.seq<|WC.region ?_
    refine WL.q rfl (r_assign rfl) ?_
    refine WL.q rfl (r_assign rfl) ?_
    refine WL.q rfl (r_assign rfl) ?_
    refine WL.nil ?_
    refine WC.seq<|WC.seq<|WC.region ?_
    refine WL.q rfl (r_move rfl) ?_
    refine WL.q rfl (r_len sl_27 rfl) ?_
    refine WL.q rfl (r_cmp (r_lss rfl rfl) (decide_eq_false (by(simp only[List.length_cons,List.length_append];omega)))) ?_
    refine WL.nil ?_
    refine WC.condF rfl ?_
    refine WC.skip ?_
    refine WC.seq<|WC.region ?_
    refine WL.q rfl (r_move rfl) ?_
    refine WL.q rfl (r_idx sl_27 rfl rfl (show(0:Int)=((0:Nat):Int)from rfl) (by simp only[List.length_cons,List.length_append];omega)) ?_
    refine WL.q rfl (r_load one_5 rfl (Ext.refl _) hB.c0) ?_
    refine WL.q rfl (r_assign rfl) ?_
    refine WL.nil ?_
    refine WC.seq<|WC.region ?_
    refine WL.q rfl (r_assign rfl) ?_
    refine WL.nil ?_
    refine WC.seq<|WC.region ?_
    refine WL.q rfl (r_move rfl) ?_
    refine WL.q rfl (r_slicel sl_27 rfl rfl (show(1:Int)=((1:Nat):Int)from rfl) (by simp only[List.length_cons,List.length_append];omega)) ?_
    refine WL.q rfl (r_assign rfl) ?_
    refine WL.nil ?_
    refine WC.seq<|WC.seq<|WC.region ?_
    refine WL.q rfl (r_move rfl) ?_
    refine WL.l rfl (l_do body_84 rfl (boolF (isfixstr_ok (by decide) (by decide)) (by decide))) fun v1 w1 hh=>?_
    obtain⟨rfl,e1⟩:=hh
    refine WL.nil ?_
    refine WC.condF rfl ?_
    refine WC.seq<|WC.region ?_
    refine WL.q rfl (r_move rfl) ?_
    refine WL.nil ?_
    refine WC.block ?_
    refine WC.seq<|WC.region ?_
    refine WL.q rfl (r_cmp (r_eql rfl rfl) (beqF (by(decide)))) ?_
    refine WL.q rfl (r_assign rfl) ?_
    refine WL.nil ?_
    refine WC.condF rfl ?_
    refine WC.seq<|WC.region ?_
    refine WL.q rfl (r_cmp (r_eql rfl rfl) (beqF (by(decide)))) ?_
    refine WL.q rfl (r_assign rfl) ?_
    refine WL.nil ?_
    refine WC.condF rfl ?_
    refine WC.seq<|WC.region ?_
    refine WL.q rfl (r_cmp (r_eql rfl rfl) (beqT (rfl))) ?_
    refine WL.q rfl (r_assign rfl) ?_
    refine WL.nil ?_
    refine WC.condT rfl ?_
    refine WC.seq<|WC.seq<|WC.region ?_
    refine WL.q rfl (r_move rfl) ?_
    refine WL.q rfl (r_len sl_27 rfl) ?_
    refine WL.q rfl (r_cmp (r_lss rfl rfl) (decide_eq_false (by(simp only[List.length_cons,List.length_append];omega)))) ?_
    refine WL.nil ?_
    refine WC.condF rfl ?_
    refine WC.skip ?_
    refine WC.seq<|WC.region ?_
    refine WL.q rfl (r_loadAgg agg_145 rfl (Ext.refl _) At.nil) ?_
    refine WL.q rfl (r_move rfl) ?_
    replace hD4y:=hD4y.mono e1
    refine WL.l rfl (l_do body_86 rfl (Uint32_ok hD4y)) fun v2 w2 hh=>?_
    obtain⟨rfl,e2⟩:=hh
    refine WL.q rfl (r_cvIntE cv_112_3 rfl q64) ?_
    refine WL.q rfl (r_assign rfl) ?_
    refine WL.nil ?_
    refine WC.region ?_
    refine WL.q rfl (r_move rfl) ?_
    refine WL.q rfl (r_slicel sl_27 rfl rfl (show(4:Int)=((4:Nat):Int)from rfl) (by simp only[List.length_cons,List.length_append];omega)) ?_
    refine WL.q rfl (r_assign rfl) ?_
    refine WL.nil ?_
    refine WC.seq<|WC.seq<|WC.region ?_
    refine WL.q rfl (r_move rfl) ?_
    refine WL.q rfl (r_len sl_27 rfl) ?_
    refine WL.q rfl (r_move rfl) ?_
    refine WL.q rfl (r_cmp (r_lss rfl rfl) (decide_eq_false (by(simp only[List.length_cons,List.length_append];omega)))) ?_
    refine WL.nil ?_
    refine WC.condF rfl ?_
    refine WC.skip ?_
    refine WC.seq<|WC.region ?_
    refine WL.q rfl (r_move rfl) ?_
    refine WL.q rfl (r_move rfl) ?_
    refine WL.q rfl (r_slice sl_27 rfl rfl rfl (show(0:Int)=((0:Nat):Int)from rfl) rfl (Nat.zero_le _) (by omega)) ?_
    refine WL.q rfl (r_assign rfl) ?_
    refine WL.nil ?_
    refine WC.seq<|WC.region ?_
    refine WL.q rfl (r_move rfl) ?_
    refine WL.q rfl (r_move rfl) ?_
    refine WL.q rfl (r_slicel sl_27 rfl rfl rfl (by simp only[List.length_cons,List.length_append];omega)) ?_
    refine WL.q rfl (r_assign rfl) ?_
    refine WL.nil ?_
    refine WC.ret ?_
    replace hT4z:=(hT4z.mono e1).mono e2
    replace hR4z:=(hR4z.mono e1).mono e2
    replace he:=(he.then e1).then e2
    exact fin3 rfl rfl rfl ⟨⟨_,_,rfl,hT4z,hR4z⟩,he⟩
theorem rBB_ok{A:Nat→Prop}{v:Value}{hd t r:List UInt8}{w:World}(hh:HeadP (-1) 0 binF t.length hd)(ht:t.length≤131072)(hI:IsB A w v (hd++(t++r))):
    Does Tryz.prog 88 [v,.slice none 0 0,.bool true] w fun u w'=>(∃vt v',u= .tuple #[vt,v',.nilIface]∧IsB A w' vt t∧IsB A w' v' r)∧Ext w w':=by
  rcases hh with⟨fx,hfx,hlt,rfl⟩|⟨p,hp,hf,rfl⟩
  · omega
  simp only[binF,List.mem_cons,List.not_mem_nil,or_false]at hp
  rcases hp with rfl|rfl|rfl
  · have hf2:t.length<256:=by have:=fitb_lt hf (by decide);simpa using this
    rw[be_big1 hf2]at hI
    simp only[List.cons_append,List.nil_append]at hI
    obtain⟨b,o,c,rfl,hc,hA,hB⟩:=hI.open (by simp)
    have hD1y:IsB A w _ (UInt8.ofNat t.length::(t++r)):=hI.dropS (k:=1) (by simp)
    have q64:IntKind.i64.wrap ((UInt8.ofNat t.length).toNat:Int)=(t.length:Int):=by rw[UInt8.toNat_ofNat',wrap_i64 (by omega) (by omega)];omega
    obtain⟨b1,o1,c1,ed,hc1,hA1,hB1x⟩:=hD1y.open (by simp)
    rw[ed]at hD1y
    have hDz:IsB A w _ (t++r):=hD1y.dropS (k:=1) (by simp)
    have hcap:=hDz.capS
    have hcap0:=hI.capS
    simp only[List.length_cons,List.length_append]at hcap hcap0 hc
    have hT1z:=hDz.takeS (k:=t.length) (by simp)
    have hR1z:=hDz.dropS (k:=t.length) (by simp)
    rw[List.take_left]at hT1z
    rw[List.drop_left]at hR1z
    refine does3 Tryz.func88 rfl rfl rfl ?_
    have he:Evo (fun _=>True) w w:=Evo.refl w
    refine WC.seq<|WC.region ?_
    refine WL.q rfl (r_assign rfl) ?_
    refine WL.q rfl (r_assign rfl) ?_
    refine WL.q rfl (r_assign rfl) ?_
    refine WL.nil ?_
    refine WC.seq<|WC.region ?_
    refine WL.q rfl (r_move rfl) ?_
    refine WL.q rfl (r_len sl_27 rfl) ?_
    refine WL.q rfl (r_assign rfl) ?_
    refine WL.nil ?_
    refine WC.seq<|WC.seq<|WC.region ?_
    refine WL.q rfl (r_move rfl) ?_
    refine WL.q rfl (r_cmp (r_lss rfl rfl) (decide_eq_false (by(simp only[List.length_cons,List.length_append];omega)))) ?_
    refine WL.nil ?_
    refine WC.condF rfl ?_
    refine WC.skip ?_
    refine WC.seq<|WC.region ?_
    refine WL.q rfl (r_move rfl) ?_
    refine WL.q rfl (r_idx sl_27 rfl rfl (show(0:Int)=((0:Nat):Int)from rfl) (by simp only[List.length_cons,List.length_append];omega)) ?_
    refine WL.q rfl (r_load one_5 rfl (Ext.refl _) hB.c0) ?_
    refine WL.q rfl (r_assign rfl) ?_
    refine WL.nil ?_
    refine WC.seq<|WC.region ?_
    refine WL.q rfl (r_move rfl) ?_
    refine WL.q rfl ((ed▸r_slicel sl_27 rfl rfl (show(1:Int)=((1:Nat):Int)from rfl) (by simp only[List.length_cons,List.length_append];omega))) ?_
    refine WL.q rfl (r_assign rfl) ?_
    refine WL.nil ?_
    refine WC.seq<|WC.region ?_
    refine WL.q rfl (r_assign rfl) ?_
    refine WL.nil ?_
    refine WC.seq<|WC.seq<|WC.region ?_
    refine WL.q rfl (r_move rfl) ?_
    refine WL.nil ?_
    refine WC.block ?_
    refine WC.seq<|WC.region ?_
    refine WL.q rfl (r_cmp (r_eql rfl rfl) (beqT (rfl))) ?_
    refine WL.q rfl (r_assign rfl) ?_
    refine WL.nil ?_
    refine WC.condT rfl ?_
    refine WC.seq<|WC.seq<|WC.region ?_
    refine WL.q rfl (r_move rfl) ?_
    refine WL.q rfl (r_len sl_27 rfl) ?_
    refine WL.q rfl (r_cmp (r_lss rfl rfl) (decide_eq_false (by(simp only[List.length_cons,List.length_append];omega)))) ?_
    refine WL.nil ?_
    refine WC.condF rfl ?_
    refine WC.skip ?_
    refine WC.seq<|WC.region ?_
    refine WL.q rfl (r_move rfl) ?_
    refine WL.q rfl (r_idx sl_27 rfl rfl (show(0:Int)=((0:Nat):Int)from rfl) (by simp only[List.length_cons,List.length_append];omega)) ?_
    refine WL.q rfl (r_load one_5 rfl (Ext.refl _) hB1x.c0) ?_
    refine WL.q rfl (r_cvIntE cv_5_3 rfl q64) ?_
    refine WL.q rfl (r_assign rfl) ?_
    refine WL.nil ?_
    refine WC.region ?_
    refine WL.q rfl (r_move rfl) ?_
    refine WL.q rfl (r_slicel sl_27 rfl rfl (show(1:Int)=((1:Nat):Int)from rfl) (by simp only[List.length_cons,List.length_append];omega)) ?_
    refine WL.q rfl (r_assign rfl) ?_
    refine WL.nil ?_
    refine WC.seq<|WC.seq<|WC.region ?_
    refine WL.q rfl (r_move rfl) ?_
    refine WL.q rfl (r_len sl_27 rfl) ?_
    refine WL.q rfl (r_move rfl) ?_
    refine WL.q rfl (r_cmp (r_lss rfl rfl) (decide_eq_false (by(simp only[List.length_cons,List.length_append];omega)))) ?_
    refine WL.nil ?_
    refine WC.condF rfl ?_
    refine WC.skip ?_
    refine WC.seq<|WC.seq<|WC.region ?_
    refine WL.q rfl (r_move rfl) ?_
    refine WL.nil ?_
    refine WC.condT rfl ?_
    refine WC.seq<|WC.region ?_
    refine WL.q rfl (r_move rfl) ?_
    refine WL.q rfl (r_move rfl) ?_
    refine WL.q rfl (r_slice sl_27 rfl rfl rfl (show(0:Int)=((0:Nat):Int)from rfl) rfl (Nat.zero_le _) (by omega)) ?_
    refine WL.q rfl (r_assign rfl) ?_
    refine WL.nil ?_
    refine WC.seq<|WC.region ?_
    refine WL.q rfl (r_move rfl) ?_
    refine WL.q rfl (r_move rfl) ?_
    refine WL.q rfl (r_slicel sl_27 rfl rfl rfl (by simp only[List.length_cons,List.length_append];omega)) ?_
    refine WL.q rfl (r_assign rfl) ?_
    refine WL.nil ?_
    refine WC.ret ?_
    exact fin3 rfl rfl rfl ⟨⟨_,_,rfl,hT1z,hR1z⟩,he⟩
  · have hf2:t.length<65536:=by have:=fitb_lt hf (by decide);simpa using this
    obtain⟨a1,a2,eb,ev⟩:=be_big2 hf2
    rw[eb]at hI
    simp only[List.cons_append,List.nil_append]at hI
    obtain⟨b,o,c,rfl,hc,hA,hB⟩:=hI.open (by simp)
    have hD2y:IsB A w _ (a1::a2::(t++r)):=hI.dropS (k:=1) (by simp)
    have q64:IntKind.i64.wrap ((be [a1,a2]:Nat):Int)=(t.length:Int):=by rw[ev];exact i64_len ht
    have hDz:IsB A w _ (t++r):=hD2y.dropS (k:=2) (by simp)
    have hcap:=hDz.capS
    have hcap0:=hI.capS
    simp only[List.length_cons,List.length_append]at hcap hcap0 hc
    have hT2z:=hDz.takeS (k:=t.length) (by simp)
    have hR2z:=hDz.dropS (k:=t.length) (by simp)
    rw[List.take_left]at hT2z
    rw[List.drop_left]at hR2z
    refine does3 Tryz.func88 rfl rfl rfl ?_
    have he:Evo (fun _=>True) w w:=Evo.refl w
    refine WC.seq<|WC.region ?_
    refine WL.q rfl (r_assign rfl) ?_
    refine WL.q rfl (r_assign rfl) ?_
    refine WL.q rfl (r_assign rfl) ?_
    refine WL.nil ?_
    refine WC.seq<|WC.region ?_
    refine WL.q rfl (r_move rfl) ?_
    refine WL.q rfl (r_len sl_27 rfl) ?_
    refine WL.q rfl (r_assign rfl) ?_
    refine WL.nil ?_
    refine WC.seq<|WC.seq<|WC.region ?_
    refine WL.q rfl (r_move rfl) ?_
    refine WL.q rfl (r_cmp (r_lss rfl rfl) (decide_eq_false (by(simp only[List.length_cons,List.length_append];omega)))) ?_
    refine WL.nil ?_
    refine WC.condF rfl ?_
    refine WC.skip ?_
    refine WC.seq<|WC.region ?_
    refine WL.q rfl (r_move rfl) ?_
    refine WL.q rfl (r_idx sl_27 rfl rfl (show(0:Int)=((0:Nat):Int)from rfl) (by simp only[List.length_cons,List.length_append];omega)) ?_
    refine WL.q rfl (r_load one_5 rfl (Ext.refl _) hB.c0) ?_
    refine WL.q rfl (r_assign rfl) ?_
    refine WL.nil ?_
    refine WC.seq<|WC.region ?_
    refine WL.q rfl (r_move rfl) ?_
    refine WL.q rfl (r_slicel sl_27 rfl rfl (show(1:Int)=((1:Nat):Int)from rfl) (by simp only[List.length_cons,List.length_append];omega)) ?_
    refine WL.q rfl (r_assign rfl) ?_
    refine WL.nil ?_
    refine WC.seq<|WC.region ?_
    refine WL.q rfl (r_assign rfl) ?_
    refine WL.nil ?_
    refine WC.seq<|WC.seq<|WC.region ?_
    refine WL.q rfl (r_move rfl) ?_
    refine WL.nil ?_
    refine WC.block ?_
    refine WC.seq<|WC.region ?_
    refine WL.q rfl (r_cmp (r_eql rfl rfl) (beqF (by(decide)))) ?_
    refine WL.q rfl (r_assign rfl) ?_
    refine WL.nil ?_
    refine WC.condF rfl ?_
    refine WC.seq<|WC.region ?_
    refine WL.q rfl (r_cmp (r_eql rfl rfl) (beqT (rfl))) ?_
    refine WL.q rfl (r_assign rfl) ?_
    refine WL.nil ?_
    refine WC.condT rfl ?_
    refine WC.seq<|WC.seq<|WC.region ?_
    refine WL.q rfl (r_move rfl) ?_
    refine WL.q rfl (r_len sl_27 rfl) ?_
    refine WL.q rfl (r_cmp (r_lss rfl rfl) (decide_eq_false (by(simp only[List.length_cons,List.length_append];omega)))) ?_
    refine WL.nil ?_
    refine WC.condF rfl ?_
    refine WC.skip ?_
    refine WC.seq<|WC.region ?_
    refine WL.q rfl (r_loadAgg agg_145 rfl (Ext.refl _) At.nil) ?_
    refine WL.q rfl (r_move rfl) ?_
    refine WL.l rfl (l_do body_85 rfl (Uint16_ok hD2y)) fun v1 w1 hh=>?_
    obtain⟨rfl,e1⟩:=hh
    refine WL.q rfl (r_cvIntE cv_143_3 rfl q64) ?_
    refine WL.q rfl (r_assign rfl) ?_
    refine WL.nil ?_
    refine WC.region ?_
    refine WL.q rfl (r_move rfl) ?_
    refine WL.q rfl (r_slicel sl_27 rfl rfl (show(2:Int)=((2:Nat):Int)from rfl) (by simp only[List.length_cons,List.length_append];omega)) ?_
    refine WL.q rfl (r_assign rfl) ?_
    refine WL.nil ?_
    refine WC.seq<|WC.seq<|WC.region ?_
    refine WL.q rfl (r_move rfl) ?_
    refine WL.q rfl (r_len sl_27 rfl) ?_
    refine WL.q rfl (r_move rfl) ?_
    refine WL.q rfl (r_cmp (r_lss rfl rfl) (decide_eq_false (by(simp only[List.length_cons,List.length_append];omega)))) ?_
    refine WL.nil ?_
    refine WC.condF rfl ?_
    refine WC.skip ?_
    refine WC.seq<|WC.seq<|WC.region ?_
    refine WL.q rfl (r_move rfl) ?_
    refine WL.nil ?_
    refine WC.condT rfl ?_
    refine WC.seq<|WC.region ?_
    refine WL.q rfl (r_move rfl) ?_
    refine WL.q rfl (r_move rfl) ?_
    refine WL.q rfl (r_slice sl_27 rfl rfl rfl (show(0:Int)=((0:Nat):Int)from rfl) rfl (Nat.zero_le _) (by omega)) ?_
    refine WL.q rfl (r_assign rfl) ?_
    refine WL.nil ?_
    refine WC.seq<|WC.region ?_
    refine WL.q rfl (r_move rfl) ?_
    refine WL.q rfl (r_move rfl) ?_
    refine WL.q rfl (r_slicel sl_27 rfl rfl rfl (by simp only[List.length_cons,List.length_append];omega)) ?_
    refine WL.q rfl (r_assign rfl) ?_
    refine WL.nil ?_
    refine WC.ret ?_
    replace hT2z:=hT2z.mono e1
    replace hR2z:=hR2z.mono e1
    replace he:=he.then e1
    exact fin3 rfl rfl rfl ⟨⟨_,_,rfl,hT2z,hR2z⟩,he⟩
  · have hf2:t.length<4294967296:=by have:=fitb_lt hf (by decide);simpa using this
    obtain⟨a1,a2,a3,a4,eb,ev⟩:=be_big4 hf2
    rw[eb]at hI
    simp only[List.cons_append,List.nil_append]at hI
    obtain⟨b,o,c,rfl,hc,hA,hB⟩:=hI.open (by simp)
    have hD4y:IsB A w _ (a1::a2::a3::a4::(t++r)):=hI.dropS (k:=1) (by simp)
    have q64:IntKind.i64.wrap ((be [a1,a2,a3,a4]:Nat):Int)=(t.length:Int):=by rw[ev];exact i64_len ht
    have hDz:IsB A w _ (t++r):=hD4y.dropS (k:=4) (by simp)
    have hcap:=hDz.capS
    have hcap0:=hI.capS
    simp only[List.length_cons,List.length_append]at hcap hcap0 hc
    have hT4z:=hDz.takeS (k:=t.length) (by simp)
    have hR4z:=hDz.dropS (k:=t.length) (by simp)
    rw[List.take_left]at hT4z
    rw[List.drop_left]at hR4z
    refine does3 Tryz.func88 rfl rfl rfl ?_
    have he:Evo (fun _=>True) w w:=Evo.refl w
    refine WC.seq<|WC.region ?_
    refine WL.q rfl (r_assign rfl) ?_
    refine WL.q rfl (r_assign rfl) ?_
    refine WL.q rfl (r_assign rfl) ?_
    refine WL.nil ?_
    refine WC.seq<|WC.region ?_
    refine WL.q rfl (r_move rfl) ?_
    refine WL.q rfl (r_len sl_27 rfl) ?_
    refine WL.q rfl (r_assign rfl) ?_
    refine WL.nil ?_
    refine WC.seq<|WC.seq<|WC.region ?_
    refine WL.q rfl (r_move rfl) ?_
    refine WL.q rfl (r_cmp (r_lss rfl rfl) (decide_eq_false (by(simp only[List.length_cons,List.length_append];omega)))) ?_
    refine WL.nil ?_
    refine WC.condF rfl ?_
    refine WC.skip ?_
    refine WC.seq<|WC.region ?_
    refine WL.q rfl (r_move rfl) ?_
    refine WL.q rfl (r_idx sl_27 rfl rfl (show(0:Int)=((0:Nat):Int)from rfl) (by simp only[List.length_cons,List.length_append];omega)) ?_
    refine WL.q rfl (r_load one_5 rfl (Ext.refl _) hB.c0) ?_
    refine WL.q rfl (r_assign rfl) ?_
    refine WL.nil ?_
    refine WC.seq<|WC.region ?_
    refine WL.q rfl (r_move rfl) ?_
    refine WL.q rfl (r_slicel sl_27 rfl rfl (show(1:Int)=((1:Nat):Int)from rfl) (by simp only[List.length_cons,List.length_append];omega)) ?_
    refine WL.q rfl (r_assign rfl) ?_
    refine WL.nil ?_
    refine WC.seq<|WC.region ?_
    refine WL.q rfl (r_assign rfl) ?_
    refine WL.nil ?_
    refine WC.seq<|WC.seq<|WC.region ?_
    refine WL.q rfl (r_move rfl) ?_
    refine WL.nil ?_
    refine WC.block ?_
    refine WC.seq<|WC.region ?_
    refine WL.q rfl (r_cmp (r_eql rfl rfl) (beqF (by(decide)))) ?_
    refine WL.q rfl (r_assign rfl) ?_
    refine WL.nil ?_
    refine WC.condF rfl ?_
    refine WC.seq<|WC.region ?_
    refine WL.q rfl (r_cmp (r_eql rfl rfl) (beqF (by(decide)))) ?_
    refine WL.q rfl (r_assign rfl) ?_
    refine WL.nil ?_
    refine WC.condF rfl ?_
    refine WC.seq<|WC.region ?_
    refine WL.q rfl (r_cmp (r_eql rfl rfl) (beqT (rfl))) ?_
    refine WL.q rfl (r_assign rfl) ?_
    refine WL.nil ?_
    refine WC.condT rfl ?_
    refine WC.seq<|WC.seq<|WC.region ?_
    refine WL.q rfl (r_move rfl) ?_
    refine WL.q rfl (r_len sl_27 rfl) ?_
    refine WL.q rfl (r_cmp (r_lss rfl rfl) (decide_eq_false (by(simp only[List.length_cons,List.length_append];omega)))) ?_
    refine WL.nil ?_
    refine WC.condF rfl ?_
    refine WC.skip ?_
    refine WC.seq<|WC.region ?_
    refine WL.q rfl (r_loadAgg agg_145 rfl (Ext.refl _) At.nil) ?_
    refine WL.q rfl (r_move rfl) ?_
    refine WL.l rfl (l_do body_86 rfl (Uint32_ok hD4y)) fun v1 w1 hh=>?_
    obtain⟨rfl,e1⟩:=hh
    refine WL.q rfl (r_cvIntE cv_112_3 rfl q64) ?_
    refine WL.q rfl (r_assign rfl) ?_
    refine WL.nil ?_
    refine WC.region ?_
    refine WL.q rfl (r_move rfl) ?_
    refine WL.q rfl (r_slicel sl_27 rfl rfl (show(4:Int)=((4:Nat):Int)from rfl) (by simp only[List.length_cons,List.length_append];omega)) ?_
    refine WL.q rfl (r_assign rfl) ?_
    refine WL.nil ?_
    refine WC.seq<|WC.seq<|WC.region ?_
    refine WL.q rfl (r_move rfl) ?_
    refine WL.q rfl (r_len sl_27 rfl) ?_
    refine WL.q rfl (r_move rfl) ?_
    refine WL.q rfl (r_cmp (r_lss rfl rfl) (decide_eq_false (by(simp only[List.length_cons,List.length_append];omega)))) ?_
    refine WL.nil ?_
    refine WC.condF rfl ?_
    refine WC.skip ?_
    refine WC.seq<|WC.seq<|WC.region ?_
    refine WL.q rfl (r_move rfl) ?_
    refine WL.nil ?_
    refine WC.condT rfl ?_
    refine WC.seq<|WC.region ?_
    refine WL.q rfl (r_move rfl) ?_
    refine WL.q rfl (r_move rfl) ?_
    refine WL.q rfl (r_slice sl_27 rfl rfl rfl (show(0:Int)=((0:Nat):Int)from rfl) rfl (Nat.zero_le _) (by omega)) ?_
    refine WL.q rfl (r_assign rfl) ?_
    refine WL.nil ?_
    refine WC.seq<|WC.region ?_
    refine WL.q rfl (r_move rfl) ?_
    refine WL.q rfl (r_move rfl) ?_
    refine WL.q rfl (r_slicel sl_27 rfl rfl rfl (by simp only[List.length_cons,List.length_append];omega)) ?_
    refine WL.q rfl (r_assign rfl) ?_
    refine WL.nil ?_
    refine WC.ret ?_
    replace hT4z:=hT4z.mono e1
    replace hR4z:=hR4z.mono e1
    replace he:=he.then e1
    exact fin3 rfl rfl rfl ⟨⟨_,_,rfl,hT4z,hR4z⟩,he⟩
end Go.Proofs.LL
