/- Contracts of functions and own laws. Conditions: those that each theorem states. -/
import Derived.Test.YtbkhpjeaacoobaaGreatDoorA19
set_option linter.all false
set_option maxRecDepth 20000
namespace Go.Proofs.LL
open Go Go.Proofs Go.RowKit
theorem agg_145:aggT Tryz.prog 145=some 0:=by kernel_rfl
theorem body_85:bodyB Tryz.prog 85=true:=by kernel_rfl
theorem body_86:bodyB Tryz.prog 86=true:=by kernel_rfl
theorem body_90:bodyB Tryz.prog 90=true:=by kernel_rfl
theorem body_91:bodyB Tryz.prog 91=true:=by kernel_rfl
theorem cv_143_112:cvInt Tryz.prog 143 112=some .u32:=by kernel_rfl
theorem boolT{P:Program}{f:FuncId}{args:List Value}{w:World}{p:Prop}[Decidable p](h:Does P f args w fun r w'=>r= .bool (decide p)∧Ext w w')(hp:p):Does P f args w fun r w'=>r= .bool true∧Ext w w':=
  h.imp fun r w' ⟨h1,h2⟩=>⟨by rw[h1,decide_eq_true hp],h2⟩
theorem boolF{P:Program}{f:FuncId}{args:List Value}{w:World}{p:Prop}[Decidable p](h:Does P f args w fun r w'=>r= .bool (decide p)∧Ext w w')(hp:¬p):Does P f args w fun r w'=>r= .bool false∧Ext w w':=
  h.imp fun r w' ⟨h1,h2⟩=>⟨by rw[h1,decide_eq_false hp],h2⟩
theorem IsB.dropS{A:Nat→Prop}{w:World}{p:Option Addr}{n c k:Nat}{bs:List UInt8}(h:IsB A w (.slice p n c) bs)(hk:k≤bs.length):IsB A w (.slice (if c=k then p else p.map (·.add (k * 1))) (n-k) (c-k)) (bs.drop k):=by
  obtain⟨p',c',e,hc,hb⟩:=h
  injection e with e1 e2 e3
  subst e1 e2 e3
  have hl:(bs.drop k).length=bs.length-k:=by simp
  refine⟨_,_,by rw[hl],by omega,fun hne=>?_⟩
  have hpos:0<(bs.drop k).length:=List.length_pos_iff.2 hne
  obtain⟨b,o,rfl,hA,hB⟩:=hb (List.length_pos_iff.1 (by omega))
  rw[if_neg (by omega)]
  refine⟨b,o+k * 1,by rw[Option.map_some,Addr_add],hA,fun j hj=>?_⟩
  have h1:=hB (k+j) (by simp at hj;omega)
  rw[show o+k * 1+j=o+(k+j) by omega,h1]
  simp[List.getElem_drop]
theorem be_big2{n:Nat}(h:n<65536):∃a b:UInt8,bigB n 2=[a,b]∧be [a,b]=n:=by
  have e:=be_bigB n 2
  exact⟨_,_,rfl,e.trans (Nat.mod_eq_of_lt (by simpa using h))⟩
theorem be_big4{n:Nat}(h:n<4294967296):∃a b c d:UInt8,bigB n 4=[a,b,c,d]∧be [a,b,c,d]=n:=by
  have e:=be_bigB n 4
  exact⟨_,_,_,_,rfl,e.trans (Nat.mod_eq_of_lt (by simpa using h))⟩
theorem be_big1{n:Nat}(h:n<256):bigB n 1=[UInt8.ofNat n]:=by
  simp[bigB]
theorem fitb_lt{n s:Nat}{c:UInt8}(h:fitb n (c,s)=true)(hs:s<8):n<256^s:=by
  unfold fitb at h
  simp only[Bool.or_eq_true,decide_eq_true_eq]at h
  rcases h with h|h
  · exact absurd h (by show¬8≤s;omega)
  · exact h
theorem RAH_ok{A:Nat→Prop}{v:Value}{n:Nat}{hd r:List UInt8}{w:World}(hh:HeadP 144 16 arrF n hd)(hn:n≤131072)(hI:IsB A w v (hd++r)):
    Does Tryz.prog 66 [v] w fun u w'=>(∃v',u= .tuple #[.int .u32 (n:Int),v',.nilIface]∧IsB A w' v' r)∧Ext w w':=by
  rcases hh with⟨fx,hfx,hlt,rfl⟩|⟨p,hp,hf,rfl⟩
  · have hz:((UInt8.ofNat (fx+n)).toNat:Int)=144+n:=by rw[UInt8.toNat_ofNat'];omega
    rw[List.singleton_append]at hI
    have q32:IntKind.u32.wrap ((144+(n:Int))%16)=(n:Int):=by rw[IntKind.wrap_u32];omega
    obtain⟨b,o,c,rfl,hc,hA,hB⟩:=hI.open (by simp)
    have hl:(UInt8.ofNat (fx+n)::r:List UInt8).length=r.length+1:=rfl
    have hD:=IsB.dropI (k:=1) hc hA hB (by omega)
    rw[List.drop_one,List.tail_cons]at hD
    have hc0:=hB.c0
    rw[hz]at hc0
    refine does3 Tryz.func66 rfl rfl rfl ?_
    have he:Evo (fun _=>True) w w:=Evo.refl w
    refine WC.seq<|WC.region ?_
    refine WL.q rfl (r_assign rfl) ?_
    refine WL.q rfl (r_assign rfl) ?_
    refine WL.q rfl (r_assign rfl) ?_
    refine WL.nil ?_
    refine WC.seq<|WC.seq<|WC.region ?_
    refine WL.q rfl (r_move rfl) ?_
    refine WL.q rfl (r_len sl_27 rfl) ?_
    refine WL.q rfl (r_cmp (r_lss rfl rfl) (decide_eq_false (by(omega)))) ?_
    refine WL.nil ?_
    refine WC.condF rfl ?_
    refine WC.skip ?_
    refine WC.seq<|WC.region ?_
    refine WL.q rfl (r_move rfl) ?_
    refine WL.q rfl (r_idx sl_27 rfl rfl (show(0:Int)=((0:Nat):Int)from rfl) (by omega)) ?_
    refine WL.q rfl (r_load one_5 rfl (Ext.refl _) hc0) ?_
    refine WL.q rfl (r_assign rfl) ?_
    refine WL.nil ?_
    refine WC.seq<|WC.region ?_
    refine WL.q rfl (r_move rfl) ?_
    refine WL.q rfl (r_slicel sl_27 rfl rfl (show(1:Int)=((1:Nat):Int)from rfl) (by omega)) ?_
    refine WL.q rfl (r_assign rfl) ?_
    refine WL.nil ?_
    refine WC.seq<|WC.seq<|WC.region ?_
    refine WL.q rfl (r_move rfl) ?_
    refine WL.l rfl (l_do body_91 rfl (boolT (isfixarray_ok (by omega) (by omega)) (by omega))) fun v1 w1 hh=>?_
    obtain⟨rfl,e1⟩:=hh
    refine WL.nil ?_
    refine WC.condT rfl ?_
    refine WC.seq<|WC.region ?_
    refine WL.q rfl (r_move rfl) ?_
    refine WL.l rfl (l_do body_83 rfl (rfixarray_ok (by omega) (by omega))) fun v2 w2 hh=>?_
    obtain⟨rfl,e2⟩:=hh
    refine WL.q rfl (r_cvIntE cv_5_112 rfl q32) ?_
    refine WL.q rfl (r_assign rfl) ?_
    refine WL.nil ?_
    refine WC.seq<|WC.region ?_
    refine WL.q rfl (r_move rfl) ?_
    refine WL.q rfl (r_assign rfl) ?_
    refine WL.nil ?_
    refine WC.ret ?_
    replace hD:=(hD.mono e1).mono e2
    replace he:=(he.then e1).then e2
    exact fin3 rfl rfl rfl ⟨⟨_,rfl,hD⟩,he⟩
  · simp only[arrF,List.mem_cons,List.not_mem_nil,or_false]at hp
    rcases hp with rfl|rfl
    · have hf2:n<65536:=by have:=fitb_lt hf (by decide);simpa using this
      obtain⟨a1,a2,eb,ev⟩:=be_big2 hf2
      rw[eb]at hI
      simp only[List.cons_append,List.nil_append]at hI
      obtain⟨b,o,c,rfl,hc,hA,hB⟩:=hI.open (by simp)
      have q32:IntKind.u32.wrap ((be [a1,a2]:Nat):Int)=(n:Int):=by rw[ev,IntKind.wrap_u32];omega
      have hl:(220::a1::a2::r:List UInt8).length=r.length+3:=rfl
      have hD2:IsB A w _ (a1::a2::r):=hI.dropS (k:=1) (by omega)
      have hE2:IsB A w _ r:=hD2.dropS (k:=2) (by simp)
      refine does3 Tryz.func66 rfl rfl rfl ?_
      have he:Evo (fun _=>True) w w:=Evo.refl w
      refine WC.seq<|WC.region ?_
      refine WL.q rfl (r_assign rfl) ?_
      refine WL.q rfl (r_assign rfl) ?_
      refine WL.q rfl (r_assign rfl) ?_
      refine WL.nil ?_
      refine WC.seq<|WC.seq<|WC.region ?_
      refine WL.q rfl (r_move rfl) ?_
      refine WL.q rfl (r_len sl_27 rfl) ?_
      refine WL.q rfl (r_cmp (r_lss rfl rfl) (decide_eq_false (by(omega)))) ?_
      refine WL.nil ?_
      refine WC.condF rfl ?_
      refine WC.skip ?_
      refine WC.seq<|WC.region ?_
      refine WL.q rfl (r_move rfl) ?_
      refine WL.q rfl (r_idx sl_27 rfl rfl (show(0:Int)=((0:Nat):Int)from rfl) (by omega)) ?_
      refine WL.q rfl (r_load one_5 rfl (Ext.refl _) hB.c0) ?_
      refine WL.q rfl (r_assign rfl) ?_
      refine WL.nil ?_
      refine WC.seq<|WC.region ?_
      refine WL.q rfl (r_move rfl) ?_
      refine WL.q rfl (r_slicel sl_27 rfl rfl (show(1:Int)=((1:Nat):Int)from rfl) (by omega)) ?_
      refine WL.q rfl (r_assign rfl) ?_
      refine WL.nil ?_
      refine WC.seq<|WC.seq<|WC.region ?_
      refine WL.q rfl (r_move rfl) ?_
      refine WL.l rfl (l_do body_91 rfl (boolF (isfixarray_ok (by decide) (by decide)) (by decide))) fun v1 w1 hh=>?_
      obtain⟨rfl,e1⟩:=hh
      refine WL.nil ?_
      refine WC.condF rfl ?_
      refine WC.skip ?_
      refine WC.seq<|WC.region ?_
      refine WL.q rfl (r_move rfl) ?_
      refine WL.nil ?_
      refine WC.block ?_
      refine WC.seq<|WC.region ?_
      refine WL.q rfl (r_cmp (r_eql rfl rfl) (beqT (rfl))) ?_
      refine WL.q rfl (r_assign rfl) ?_
      refine WL.nil ?_
      refine WC.condT rfl ?_
      refine WC.seq<|WC.seq<|WC.region ?_
      refine WL.q rfl (r_move rfl) ?_
      refine WL.q rfl (r_len sl_27 rfl) ?_
      refine WL.q rfl (r_cmp (r_lss rfl rfl) (decide_eq_false (by(omega)))) ?_
      refine WL.nil ?_
      refine WC.condF rfl ?_
      refine WC.skip ?_
      refine WC.seq<|WC.region ?_
      refine WL.q rfl (r_loadAgg agg_145 rfl (Ext.refl _) At.nil) ?_
      refine WL.q rfl (r_move rfl) ?_
      replace hD2:=hD2.mono e1
      refine WL.l rfl (l_do body_85 rfl (Uint16_ok hD2)) fun v2 w2 hh=>?_
      obtain⟨rfl,e2⟩:=hh
      refine WL.q rfl (r_cvIntE cv_143_112 rfl q32) ?_
      refine WL.q rfl (r_assign rfl) ?_
      refine WL.nil ?_
      refine WC.seq<|WC.region ?_
      refine WL.q rfl (r_move rfl) ?_
      refine WL.q rfl (r_slicel sl_27 rfl rfl rfl (by first|omega|(simp;done)|(simp;omega))) ?_
      refine WL.q rfl (r_assign rfl) ?_
      refine WL.nil ?_
      refine WC.ret ?_
      replace hE2:=(hE2.mono e1).mono e2
      replace he:=(he.then e1).then e2
      exact fin3 rfl rfl rfl ⟨⟨_,rfl,hE2⟩,he⟩
    · have hf2:n<4294967296:=by have:=fitb_lt hf (by decide);simpa using this
      obtain⟨a1,a2,a3,a4,eb,ev⟩:=be_big4 hf2
      rw[eb]at hI
      simp only[List.cons_append,List.nil_append]at hI
      obtain⟨b,o,c,rfl,hc,hA,hB⟩:=hI.open (by simp)
      have q32:IntKind.u32.wrap ((be [a1,a2,a3,a4]:Nat):Int)=(n:Int):=by rw[ev,IntKind.wrap_u32];omega
      have hl:(221::a1::a2::a3::a4::r:List UInt8).length=r.length+5:=rfl
      have hD4:IsB A w _ (a1::a2::a3::a4::r):=hI.dropS (k:=1) (by omega)
      have hE4:IsB A w _ r:=hD4.dropS (k:=4) (by simp)
      refine does3 Tryz.func66 rfl rfl rfl ?_
      have he:Evo (fun _=>True) w w:=Evo.refl w
      refine WC.seq<|WC.region ?_
      refine WL.q rfl (r_assign rfl) ?_
      refine WL.q rfl (r_assign rfl) ?_
      refine WL.q rfl (r_assign rfl) ?_
      refine WL.nil ?_
      refine WC.seq<|WC.seq<|WC.region ?_
      refine WL.q rfl (r_move rfl) ?_
      refine WL.q rfl (r_len sl_27 rfl) ?_
      refine WL.q rfl (r_cmp (r_lss rfl rfl) (decide_eq_false (by(omega)))) ?_
      refine WL.nil ?_
      refine WC.condF rfl ?_
      refine WC.skip ?_
      refine WC.seq<|WC.region ?_
      refine WL.q rfl (r_move rfl) ?_
      refine WL.q rfl (r_idx sl_27 rfl rfl (show(0:Int)=((0:Nat):Int)from rfl) (by omega)) ?_
      refine WL.q rfl (r_load one_5 rfl (Ext.refl _) hB.c0) ?_
      refine WL.q rfl (r_assign rfl) ?_
      refine WL.nil ?_
      refine WC.seq<|WC.region ?_
      refine WL.q rfl (r_move rfl) ?_
      refine WL.q rfl (r_slicel sl_27 rfl rfl (show(1:Int)=((1:Nat):Int)from rfl) (by omega)) ?_
      refine WL.q rfl (r_assign rfl) ?_
      refine WL.nil ?_
      refine WC.seq<|WC.seq<|WC.region ?_
      refine WL.q rfl (r_move rfl) ?_
      refine WL.l rfl (l_do body_91 rfl (boolF (isfixarray_ok (by decide) (by decide)) (by decide))) fun v1 w1 hh=>?_
      obtain⟨rfl,e1⟩:=hh
      refine WL.nil ?_
      refine WC.condF rfl ?_
      refine WC.skip ?_
      refine WC.seq<|WC.region ?_
      refine WL.q rfl (r_move rfl) ?_
      refine WL.nil ?_
      refine WC.block ?_
      refine WC.seq<|WC.region ?_
      refine WL.q rfl (r_cmp (r_eql rfl rfl) (beqF (by(decide)))) ?_
      refine WL.q rfl (r_assign rfl) ?_
      refine WL.nil ?_
      refine WC.condF rfl ?_
      refine WC.seq<|WC.region ?_
      refine WL.q rfl (r_cmp (r_eql rfl rfl) (beqT (rfl))) ?_
      refine WL.q rfl (r_assign rfl) ?_
      refine WL.nil ?_
      refine WC.condT rfl ?_
      refine WC.seq<|WC.seq<|WC.region ?_
      refine WL.q rfl (r_move rfl) ?_
      refine WL.q rfl (r_len sl_27 rfl) ?_
      refine WL.q rfl (r_cmp (r_lss rfl rfl) (decide_eq_false (by(omega)))) ?_
      refine WL.nil ?_
      refine WC.condF rfl ?_
      refine WC.skip ?_
      refine WC.seq<|WC.region ?_
      refine WL.q rfl (r_loadAgg agg_145 rfl (Ext.refl _) At.nil) ?_
      refine WL.q rfl (r_move rfl) ?_
      replace hD4:=hD4.mono e1
      refine WL.l rfl (l_do body_86 rfl (Uint32_ok hD4)) fun v2 w2 hh=>?_
      obtain⟨rfl,e2⟩:=hh
      refine WL.q rfl (r_assign rfl) ?_
      refine WL.nil ?_
      refine WC.seq<|WC.region ?_
      refine WL.q rfl (r_move rfl) ?_
      refine WL.q rfl (r_slicel sl_27 rfl rfl rfl (by first|omega|(simp;done)|(simp;omega))) ?_
      refine WL.q rfl (r_assign rfl) ?_
      refine WL.nil ?_
      refine WC.ret ?_
      replace hE4:=(hE4.mono e1).mono e2
      replace he:=(he.then e1).then e2
      exact fin3 rfl rfl rfl ⟨⟨_,by rw[ev],hE4⟩,he⟩
theorem RMH_ok{A:Nat→Prop}{v:Value}{n:Nat}{hd r:List UInt8}{w:World}(hh:HeadP 128 16 mapF n hd)(hn:n≤131072)(hI:IsB A w v (hd++r)):
    Does Tryz.prog 64 [v] w fun u w'=>(∃v',u= .tuple #[.int .u32 (n:Int),v',.nilIface]∧IsB A w' v' r)∧Ext w w':=by
  rcases hh with⟨fx,hfx,hlt,rfl⟩|⟨p,hp,hf,rfl⟩
  · have hz:((UInt8.ofNat (fx+n)).toNat:Int)=128+n:=by rw[UInt8.toNat_ofNat'];omega
    rw[List.singleton_append]at hI
    have q32:IntKind.u32.wrap ((128+(n:Int))%16)=(n:Int):=by rw[IntKind.wrap_u32];omega
    obtain⟨b,o,c,rfl,hc,hA,hB⟩:=hI.open (by simp)
    have hl:(UInt8.ofNat (fx+n)::r:List UInt8).length=r.length+1:=rfl
    have hD:=IsB.dropI (k:=1) hc hA hB (by omega)
    rw[List.drop_one,List.tail_cons]at hD
    have hc0:=hB.c0
    rw[hz]at hc0
    refine does3 Tryz.func64 rfl rfl rfl ?_
    have he:Evo (fun _=>True) w w:=Evo.refl w
    refine WC.seq<|WC.region ?_
    refine WL.q rfl (r_assign rfl) ?_
    refine WL.q rfl (r_assign rfl) ?_
    refine WL.q rfl (r_assign rfl) ?_
    refine WL.nil ?_
    refine WC.seq<|WC.region ?_
    refine WL.q rfl (r_move rfl) ?_
    refine WL.q rfl (r_len sl_27 rfl) ?_
    refine WL.q rfl (r_assign rfl) ?_
    refine WL.nil ?_
    refine WC.seq<|WC.seq<|WC.region ?_
    refine WL.q rfl (r_move rfl) ?_
    refine WL.q rfl (r_cmp (r_lss rfl rfl) (decide_eq_false (by(omega)))) ?_
    refine WL.nil ?_
    refine WC.condF rfl ?_
    refine WC.skip ?_
    refine WC.seq<|WC.region ?_
    refine WL.q rfl (r_move rfl) ?_
    refine WL.q rfl (r_idx sl_27 rfl rfl (show(0:Int)=((0:Nat):Int)from rfl) (by omega)) ?_
    refine WL.q rfl (r_load one_5 rfl (Ext.refl _) hc0) ?_
    refine WL.q rfl (r_assign rfl) ?_
    refine WL.nil ?_
    refine WC.seq<|WC.region ?_
    refine WL.q rfl (r_move rfl) ?_
    refine WL.q rfl (r_slicel sl_27 rfl rfl (show(1:Int)=((1:Nat):Int)from rfl) (by omega)) ?_
    refine WL.q rfl (r_assign rfl) ?_
    refine WL.nil ?_
    refine WC.seq<|WC.seq<|WC.region ?_
    refine WL.q rfl (r_move rfl) ?_
    refine WL.l rfl (l_do body_90 rfl (boolT (isfixmap_ok (by omega) (by omega)) (by omega))) fun v1 w1 hh=>?_
    obtain⟨rfl,e1⟩:=hh
    refine WL.nil ?_
    refine WC.condT rfl ?_
    refine WC.seq<|WC.region ?_
    refine WL.q rfl (r_move rfl) ?_
    refine WL.l rfl (l_do body_82 rfl (rfixmap_ok (by omega) (by omega))) fun v2 w2 hh=>?_
    obtain⟨rfl,e2⟩:=hh
    refine WL.q rfl (r_cvIntE cv_5_112 rfl q32) ?_
    refine WL.q rfl (r_assign rfl) ?_
    refine WL.nil ?_
    refine WC.seq<|WC.region ?_
    refine WL.q rfl (r_move rfl) ?_
    refine WL.q rfl (r_assign rfl) ?_
    refine WL.nil ?_
    refine WC.ret ?_
    replace hD:=(hD.mono e1).mono e2
    replace he:=(he.then e1).then e2
    exact fin3 rfl rfl rfl ⟨⟨_,rfl,hD⟩,he⟩
  · simp only[mapF,List.mem_cons,List.not_mem_nil,or_false]at hp
    rcases hp with rfl|rfl
    · have hf2:n<65536:=by have:=fitb_lt hf (by decide);simpa using this
      obtain⟨a1,a2,eb,ev⟩:=be_big2 hf2
      rw[eb]at hI
      simp only[List.cons_append,List.nil_append]at hI
      obtain⟨b,o,c,rfl,hc,hA,hB⟩:=hI.open (by simp)
      have q32:IntKind.u32.wrap ((be [a1,a2]:Nat):Int)=(n:Int):=by rw[ev,IntKind.wrap_u32];omega
      have hl:(222::a1::a2::r:List UInt8).length=r.length+3:=rfl
      have hD2:IsB A w _ (a1::a2::r):=hI.dropS (k:=1) (by omega)
      have hE2:IsB A w _ r:=hD2.dropS (k:=2) (by simp)
      refine does3 Tryz.func64 rfl rfl rfl ?_
      have he:Evo (fun _=>True) w w:=Evo.refl w
      refine WC.seq<|WC.region ?_
      refine WL.q rfl (r_assign rfl) ?_
      refine WL.q rfl (r_assign rfl) ?_
      refine WL.q rfl (r_assign rfl) ?_
      refine WL.nil ?_
      refine WC.seq<|WC.region ?_
      refine WL.q rfl (r_move rfl) ?_
      refine WL.q rfl (r_len sl_27 rfl) ?_
      refine WL.q rfl (r_assign rfl) ?_
      refine WL.nil ?_
      refine WC.seq<|WC.seq<|WC.region ?_
      refine WL.q rfl (r_move rfl) ?_
      refine WL.q rfl (r_cmp (r_lss rfl rfl) (decide_eq_false (by(omega)))) ?_
      refine WL.nil ?_
      refine WC.condF rfl ?_
      refine WC.skip ?_
      refine WC.seq<|WC.region ?_
      refine WL.q rfl (r_move rfl) ?_
      refine WL.q rfl (r_idx sl_27 rfl rfl (show(0:Int)=((0:Nat):Int)from rfl) (by omega)) ?_
      refine WL.q rfl (r_load one_5 rfl (Ext.refl _) hB.c0) ?_
      refine WL.q rfl (r_assign rfl) ?_
      refine WL.nil ?_
      refine WC.seq<|WC.region ?_
      refine WL.q rfl (r_move rfl) ?_
      refine WL.q rfl (r_slicel sl_27 rfl rfl (show(1:Int)=((1:Nat):Int)from rfl) (by omega)) ?_
      refine WL.q rfl (r_assign rfl) ?_
      refine WL.nil ?_
      refine WC.seq<|WC.seq<|WC.region ?_
      refine WL.q rfl (r_move rfl) ?_
      refine WL.l rfl (l_do body_90 rfl (boolF (isfixmap_ok (by decide) (by decide)) (by decide))) fun v1 w1 hh=>?_
      obtain⟨rfl,e1⟩:=hh
      refine WL.nil ?_
      refine WC.condF rfl ?_
      refine WC.skip ?_
      refine WC.seq<|WC.region ?_
      refine WL.q rfl (r_move rfl) ?_
      refine WL.nil ?_
      refine WC.block ?_
      refine WC.seq<|WC.region ?_
      refine WL.q rfl (r_cmp (r_eql rfl rfl) (beqT (rfl))) ?_
      refine WL.q rfl (r_assign rfl) ?_
      refine WL.nil ?_
      refine WC.condT rfl ?_
      refine WC.seq<|WC.seq<|WC.region ?_
      refine WL.q rfl (r_move rfl) ?_
      refine WL.q rfl (r_len sl_27 rfl) ?_
      refine WL.q rfl (r_cmp (r_lss rfl rfl) (decide_eq_false (by(omega)))) ?_
      refine WL.nil ?_
      refine WC.condF rfl ?_
      refine WC.skip ?_
      refine WC.seq<|WC.region ?_
      refine WL.q rfl (r_loadAgg agg_145 rfl (Ext.refl _) At.nil) ?_
      refine WL.q rfl (r_move rfl) ?_
      replace hD2:=hD2.mono e1
      refine WL.l rfl (l_do body_85 rfl (Uint16_ok hD2)) fun v2 w2 hh=>?_
      obtain⟨rfl,e2⟩:=hh
      refine WL.q rfl (r_cvIntE cv_143_112 rfl q32) ?_
      refine WL.q rfl (r_assign rfl) ?_
      refine WL.nil ?_
      refine WC.seq<|WC.region ?_
      refine WL.q rfl (r_move rfl) ?_
      refine WL.q rfl (r_slicel sl_27 rfl rfl rfl (by first|omega|(simp;done)|(simp;omega))) ?_
      refine WL.q rfl (r_assign rfl) ?_
      refine WL.nil ?_
      refine WC.ret ?_
      replace hE2:=(hE2.mono e1).mono e2
      replace he:=(he.then e1).then e2
      exact fin3 rfl rfl rfl ⟨⟨_,rfl,hE2⟩,he⟩
    · have hf2:n<4294967296:=by have:=fitb_lt hf (by decide);simpa using this
      obtain⟨a1,a2,a3,a4,eb,ev⟩:=be_big4 hf2
      rw[eb]at hI
      simp only[List.cons_append,List.nil_append]at hI
      obtain⟨b,o,c,rfl,hc,hA,hB⟩:=hI.open (by simp)
      have q32:IntKind.u32.wrap ((be [a1,a2,a3,a4]:Nat):Int)=(n:Int):=by rw[ev,IntKind.wrap_u32];omega
      have hl:(223::a1::a2::a3::a4::r:List UInt8).length=r.length+5:=rfl
      have hD4:IsB A w _ (a1::a2::a3::a4::r):=hI.dropS (k:=1) (by omega)
      have hE4:IsB A w _ r:=hD4.dropS (k:=4) (by simp)
      refine does3 Tryz.func64 rfl rfl rfl ?_
      have he:Evo (fun _=>True) w w:=Evo.refl w
      refine WC.seq<|WC.region ?_
      refine WL.q rfl (r_assign rfl) ?_
      refine WL.q rfl (r_assign rfl) ?_
      refine WL.q rfl (r_assign rfl) ?_
      refine WL.nil ?_
      refine WC.seq<|WC.region ?_
      refine WL.q rfl (r_move rfl) ?_
      refine WL.q rfl (r_len sl_27 rfl) ?_
      refine WL.q rfl (r_assign rfl) ?_
      refine WL.nil ?_
      refine WC.seq<|WC.seq<|WC.region ?_
      refine WL.q rfl (r_move rfl) ?_
      refine WL.q rfl (r_cmp (r_lss rfl rfl) (decide_eq_false (by(omega)))) ?_
      refine WL.nil ?_
      refine WC.condF rfl ?_
      refine WC.skip ?_
      refine WC.seq<|WC.region ?_
      refine WL.q rfl (r_move rfl) ?_
      refine WL.q rfl (r_idx sl_27 rfl rfl (show(0:Int)=((0:Nat):Int)from rfl) (by omega)) ?_
      refine WL.q rfl (r_load one_5 rfl (Ext.refl _) hB.c0) ?_
      refine WL.q rfl (r_assign rfl) ?_
      refine WL.nil ?_
      refine WC.seq<|WC.region ?_
      refine WL.q rfl (r_move rfl) ?_
      refine WL.q rfl (r_slicel sl_27 rfl rfl (show(1:Int)=((1:Nat):Int)from rfl) (by omega)) ?_
      refine WL.q rfl (r_assign rfl) ?_
      refine WL.nil ?_
      refine WC.seq<|WC.seq<|WC.region ?_
      refine WL.q rfl (r_move rfl) ?_
      refine WL.l rfl (l_do body_90 rfl (boolF (isfixmap_ok (by decide) (by decide)) (by decide))) fun v1 w1 hh=>?_
      obtain⟨rfl,e1⟩:=hh
      refine WL.nil ?_
      refine WC.condF rfl ?_
      refine WC.skip ?_
      refine WC.seq<|WC.region ?_
      refine WL.q rfl (r_move rfl) ?_
      refine WL.nil ?_
      refine WC.block ?_
      refine WC.seq<|WC.region ?_
      refine WL.q rfl (r_cmp (r_eql rfl rfl) (beqF (by(decide)))) ?_
      refine WL.q rfl (r_assign rfl) ?_
      refine WL.nil ?_
      refine WC.condF rfl ?_
      refine WC.seq<|WC.region ?_
      refine WL.q rfl (r_cmp (r_eql rfl rfl) (beqT (rfl))) ?_
      refine WL.q rfl (r_assign rfl) ?_
      refine WL.nil ?_
      refine WC.condT rfl ?_
      refine WC.seq<|WC.seq<|WC.region ?_
      refine WL.q rfl (r_move rfl) ?_
      refine WL.q rfl (r_len sl_27 rfl) ?_
      refine WL.q rfl (r_cmp (r_lss rfl rfl) (decide_eq_false (by(omega)))) ?_
      refine WL.nil ?_
      refine WC.condF rfl ?_
      refine WC.skip ?_
      refine WC.seq<|WC.region ?_
      refine WL.q rfl (r_loadAgg agg_145 rfl (Ext.refl _) At.nil) ?_
      refine WL.q rfl (r_move rfl) ?_
      replace hD4:=hD4.mono e1
      refine WL.l rfl (l_do body_86 rfl (Uint32_ok hD4)) fun v2 w2 hh=>?_
      obtain⟨rfl,e2⟩:=hh
      refine WL.q rfl (r_assign rfl) ?_
      refine WL.nil ?_
      refine WC.seq<|WC.region ?_
      refine WL.q rfl (r_move rfl) ?_
      refine WL.q rfl (r_slicel sl_27 rfl rfl rfl (by first|omega|(simp;done)|(simp;omega))) ?_
      refine WL.q rfl (r_assign rfl) ?_
      refine WL.nil ?_
      refine WC.ret ?_
      replace hE4:=(hE4.mono e1).mono e2
      replace he:=(he.then e1).then e2
      exact fin3 rfl rfl rfl ⟨⟨_,by rw[ev],hE4⟩,he⟩
end Go.Proofs.LL
set_option maxRecDepth 20000
namespace Go.Proofs.LL
open Go Go.Proofs Go.RowKit
theorem body_89:bodyB Tryz.prog 89=true:=by kernel_rfl
theorem one_21:oneT Tryz.prog 21=true:=by kernel_rfl
theorem b64_len:∀t:List UInt8,(b64 t).length=(t.length+2) / 3 * 4
  |a::b::c::r=>by simp[b64,grp,b64_len r];omega
  |[a,b]=>by simp[b64,grp]
  |[a]=>by simp[b64,grp]
  |[]=>rfl
theorem EncLen_ok{eb n:Nat}{w:World}(hE:EncB w eb)(hn:n≤1000000000):
    Does Tryz.prog 62 [.pointer (some ⟨eb,0,none⟩),.int .i64 (n:Int)] w fun r w'=>r= .int .i64 (((n+2) / 3 * 4:Nat):Int)∧Ext w w':=by
  obtain⟨dm,hd,hK⟩:=hE
  have hlt:=hK.lt
  refine does1 Tryz.func62 rfl rfl rfl ?_
  refine WC.seq<|WC.region ?_
  refine WL.q rfl (r_assign rfl) ?_
  refine WL.nil ?_
  refine WC.seq<|WC.seq<|WC.region ?_
  refine WL.q rfl (r_move rfl) ?_
  refine WL.q rfl (r_nilp rfl) ?_
  refine WL.q rfl (r_fieldAddr rfl fo_154_2) ?_
  refine WL.q rfl (r_load one_21 rfl (Ext.refl _) (hK.get (j:=320) (encC_pad hd))) ?_
  refine WL.q rfl (r_cmp (r_eql rfl rfl) (beqF (by(decide)))) ?_
  refine WL.nil ?_
  refine WC.condF rfl ?_
  refine WC.skip ?_
  refine WC.seq<|WC.region ?_
  refine WL.q rfl (r_move rfl) ?_
  refine WL.q rfl (r_addi rfl rfl rfl (by omega) (by omega)) ?_
  refine WL.q rfl (r_quoE (by decide) rfl rfl (show IntKind.i64.wrap (((n:Int)+2).tdiv 3)=(((n+2) / 3:Nat):Int) by rw[Int.tdiv_eq_ediv_of_nonneg (by omega),wrap_i64 (by omega) (by omega)];omega)) ?_
  refine WL.q rfl (r_muli rfl rfl (show(((n+2) / 3:Nat):Int) * 4=(((n+2) / 3 * 4:Nat):Int) by omega) (by omega) (by omega)) ?_
  refine WL.q rfl (r_assign rfl) ?_
  refine WL.nil ?_
  refine WC.ret ?_
  exact fin1 rfl ⟨rfl,Ext.refl _⟩
theorem std_ok{w:World}:Does Tryz.prog 61 [] w fun r w'=>∃eb,r= .pointer (some ⟨eb,0,none⟩)∧w.heap.size≤eb∧EncB w' eb∧Ext w w':=by
  refine does1 Tryz.func61 rfl rfl rfl ?_
  refine WC.seq<|WC.region ?_
  refine WL.q rfl (r_assign rfl) ?_
  refine WL.nil ?_
  refine WC.seq<|WC.region ?_
  refine WL.l rfl (l_do body_89 rfl (NewEnc_ok)) fun v1 w1 hh=>?_
  obtain⟨eb,rfl,qeb,hE,e1⟩:=hh
  refine WL.q rfl (r_assign rfl) ?_
  refine WL.nil ?_
  refine WC.ret ?_
  exact fin1 rfl ⟨eb,rfl,qeb,hE,e1⟩
theorem wu{n:Int}(h0:0≤n)(h1:n<18446744073709551616):IntKind.u64.wrap n=n:=by rw[IntKind.wrap_u64];omega
theorem uor{a b:Nat}(i:Nat)(hi:i≤40)(ha:a<2^40)(hb:b<2^i)(h:a%2^i=0):bits .or .u64 (a:Int) (b:Int)=((a+b:Nat):Int):=by
  have h2:(2:Nat)^i≤2^40:=Nat.pow_le_pow_right (by decide) hi
  rw[bits_join .u64 40 (by decide) (fun n h0 h1=>wu (by omega) (by omega)) i _ _ (by omega) (by exact_mod_cast h) (by exact_mod_cast ha) (by omega) (by exact_mod_cast hb) (by exact_mod_cast (Nat.lt_of_lt_of_le hb h2))]
  omega
theorem val3(a b c:UInt8):bits .or .u64 (bits .or .u64 (IntKind.u64.wrap (IntKind.u64.wrap (a.toNat:Int) * 2^(min (16:Int).toNat IntKind.u64.bits))) (IntKind.u64.wrap (IntKind.u64.wrap (b.toNat:Int) * 2^(min (8:Int).toNat IntKind.u64.bits)))) (IntKind.u64.wrap (c.toNat:Int))=((a.toNat * 65536+b.toNat * 256+c.toNat:Nat):Int):=by
  have ha:=UInt8.toNat_lt a;have hb:=UInt8.toNat_lt b;have hc:=UInt8.toNat_lt c
  rw[show(2:Int)^(min (16:Int).toNat IntKind.u64.bits)=65536 by decide,show(2:Int)^(min (8:Int).toNat IntKind.u64.bits)=256 by decide]
  rw[wu (n:=(a.toNat:Int)) (by omega) (by omega),wu (n:=(b.toNat:Int)) (by omega) (by omega),wu (n:=(c.toNat:Int)) (by omega) (by omega),wu (by omega) (by omega),wu (by omega) (by omega)]
  rw[show(a.toNat:Int) * 65536=((a.toNat * 65536:Nat):Int) by omega,show(b.toNat:Int) * 256=((b.toNat * 256:Nat):Int) by omega]
  rw[uor 16 (by decide) (by omega) (by omega) (by omega),uor 8 (by decide) (by omega) (by omega) (by omega)]
theorem val2(a b:UInt8):bits .or .u64 (IntKind.u64.wrap (IntKind.u64.wrap (a.toNat:Int) * 2^(min (16:Int).toNat IntKind.u64.bits))) (IntKind.u64.wrap (IntKind.u64.wrap (b.toNat:Int) * 2^(min (8:Int).toNat IntKind.u64.bits)))=((a.toNat * 65536+b.toNat * 256:Nat):Int):=by
  have ha:=UInt8.toNat_lt a;have hb:=UInt8.toNat_lt b
  rw[show(2:Int)^(min (16:Int).toNat IntKind.u64.bits)=65536 by decide,show(2:Int)^(min (8:Int).toNat IntKind.u64.bits)=256 by decide]
  rw[wu (n:=(a.toNat:Int)) (by omega) (by omega),wu (n:=(b.toNat:Int)) (by omega) (by omega),wu (by omega) (by omega),wu (by omega) (by omega)]
  rw[show(a.toNat:Int) * 65536=((a.toNat * 65536:Nat):Int) by omega,show(b.toNat:Int) * 256=((b.toNat * 256:Nat):Int) by omega]
  rw[uor 16 (by decide) (by omega) (by omega) (by omega)]
theorem val1(a:UInt8):IntKind.u64.wrap (IntKind.u64.wrap (a.toNat:Int) * 2^(min (16:Int).toNat IntKind.u64.bits))=((a.toNat * 65536:Nat):Int):=by
  have ha:=UInt8.toNat_lt a
  rw[show(2:Int)^(min (16:Int).toNat IntKind.u64.bits)=65536 by decide]
  rw[wu (n:=(a.toNat:Int)) (by omega) (by omega),wu (by omega) (by omega)]
  omega
theorem sgu{n:Nat}(q:Nat)(hq:q≤40)(hn:n<16777216):bits .and .u64 ((n:Int).fdiv (2^(min (q:Int).toNat IntKind.u64.bits))) 63=((n / 2^q%64:Nat):Int):=by
  have e0:min (q:Int).toNat IntKind.u64.bits=q:=by
    have:IntKind.u64.bits=64:=rfl
    rw[this];omega
  rw[e0]
  have e1:((n:Int)).fdiv (2^q)=((n / 2^q:Nat):Int):=by
    rw[Int.fdiv_eq_ediv_of_nonneg _ (by exact_mod_cast Nat.zero_le (2^q))]
    push_cast;rfl
  have h2:n / 2^q≤n:=Nat.div_le_self _ _
  rw[e1]
  generalize n / 2^q=m at h2
  rw[show(63:Int)=2^6-1 from rfl,bits_mask .u64 40 (by decide) (fun n h0 h1=>wu (by omega) (by omega)) 6 (by decide) _ (by omega) (by omega)]
  push_cast;rfl
theorem sgu0{n:Nat}(hn:n<16777216):bits .and .u64 (n:Int) 63=((n%64:Nat):Int):=by
  rw[show(63:Int)=2^6-1 from rfl,bits_mask .u64 40 (by decide) (fun n h0 h1=>wu (by omega) (by omega)) 6 (by decide) _ (by omega) (by omega)]
  push_cast;rfl
def BlkT(T:TypeId)(w:World)(b:Nat)(cs:List Value):Prop:=w.heap[b]?=some (.cells cs.toArray T (0,0))
theorem BlkT.blk{T:TypeId}{w:World}{b:Nat}{cs:List Value}(h:BlkT T w b cs):Blk w b cs:=⟨T,h⟩
theorem BlkT.mono{A:Nat→Prop}{T:TypeId}{w w':World}{b:Nat}{cs:List Value}(h:BlkT T w b cs)(e:Evo A w w')(hA:A b:=by first|exact trivial|((try dsimp only[Nb]);omega)|assumption):BlkT T w' b cs:=e.obj h hA
theorem l_storeT{P:Program}{ρ:Fr}{w:World}{ty T:TypeId}{t b j:Nat}{x y:Operand}{v:Value}{cs:List Value}(ht:szT P t=some 1)(hx:ov ρ x=some (.pointer (some ⟨b,j,none⟩)))(hy:ov ρ y=some v)(hv:v.oneCell'=true)(hB:BlkT T w b cs)(hj:Nat.blt j cs.length=true):
    LoudOp P (.store t x y) ty ρ w (fun _ w'=>BlkT T w' b (cs.set j v)∧Evo (fun k=>k≠b) w w'∧w'.heap.size=w.heap.size):=by
  refine LoudOp.of_skip fun N D a dst pos af g ha=>⟨w.setCell ⟨b,j,none⟩ v,?_,?_,Evo.setCell _ _ _ (fun h=>h rfl),by simp[World.setCell]⟩
  · obtain⟨i,hi,hs⟩:=Option.map_eq_some_iff.1 ht
    have hjl:j<cs.length:=by simpa[Nat.blt_eq]using hj
    have hc:w.cell? ⟨b,j,none⟩=some cs[j]:=hB.blk.get (List.getElem?_eq_getElem hjl)
    have hcs:v.cells= #[v]:=by cases v<;>simp_all [Value.cells,Value.oneCell']
    have hst:=run_store P w ⟨b,j,none⟩ v .plain hv
    simp[hc,hB.blk.frozen]at hst
    simp[execOp,ha.ov hx,ha.ov hy,Instr.storeAt,Instr.sureAddr,storeVar,sizeOf,typeInfo,hi,hs,hcs,storeCells,Addr_add,hst]
  · unfold BlkT at hB⊢
    rw[setCell_eq_setRow w b j cs.toArray T (0,0) v hB,setRow_heap w b cs.toArray _ T (0,0) hB]
    simp
def DV(g n c k:Nat)(v:Value):Prop:=∃p,v= .slice p (n-k) (c-k)∧(k<n→p=some ⟨g,k,none⟩)
theorem DV.next{g n c k:Nat}(hc:n≤c)(hk:k+4≤n):DV g n c (k+4) (.slice (if c-k=4 then(some ⟨g,k,none⟩:Option Addr)else(some (⟨g,k,none⟩:Addr)).map (·.add (4 * 1))) (n-k-4) (c-k-4)):=by
  refine⟨_,by rw[show n-(k+4)=n-k-4 by omega,show c-(k+4)=c-k-4 by omega],fun h=>?_⟩
  rw[if_neg (by omega)]
  simp[Addr_add]
theorem set4{l:List Value}{k:Nat}{a b c d:Value}(h:k+4≤l.length):(((l.set k a).set (k+1) b).set (k+2) c).set (k+3) d=l.take k++[a,b,c,d]++l.drop (k+4):=by
  apply List.ext_getElem?
  intro j
  simp only[List.getElem?_set,List.getElem?_append,List.length_take,List.length_append,List.length_cons,List.length_nil,List.getElem?_drop,List.length_set]
  rcases Nat.lt_or_ge j k with h1|h1
  · rw[if_neg (by omega),if_neg (by omega),if_neg (by omega),if_neg (by omega),if_pos (by omega),if_pos (by omega),List.getElem?_take_of_lt h1]
  · rcases Nat.lt_or_ge j (k+4)with h2|h2
    · rcases(show j=k∨j=k+1∨j=k+2∨j=k+3 by omega)with rfl|rfl|rfl|rfl
      · rw[if_neg (by omega),if_neg (by omega),if_neg (by omega),if_pos rfl,if_pos (by omega),if_pos (by omega),if_neg (by omega),Nat.min_eq_left (by omega),Nat.sub_self];rfl
      · rw[if_neg (by omega),if_neg (by omega),if_pos rfl,if_pos (by omega),if_pos (by omega),if_neg (by omega),Nat.min_eq_left (by omega),show k+1-k=1 by omega];rfl
      · rw[if_neg (by omega),if_pos rfl,if_pos (by omega),if_pos (by omega),if_neg (by omega),Nat.min_eq_left (by omega),show k+2-k=2 by omega];rfl
      · rw[if_pos rfl,if_pos (by omega),if_pos (by omega),if_neg (by omega),Nat.min_eq_left (by omega),show k+3-k=3 by omega];rfl
    · rw[if_neg (by omega),if_neg (by omega),if_neg (by omega),if_neg (by omega),if_neg (by omega)]
      congr 1
      omega
def SB(w:World)(g:Nat)(s:List UInt8)(cs:List Value):Prop:=BlkT 5 w g (bc s++cs.drop s.length)
theorem SB.put{w:World}{g:Nat}{s:List UInt8}{cs:List Value}{x1 x2 x3 x4:UInt8}(hl:s.length+4≤cs.length)
    (h:BlkT 5 w g (((((bc s++cs.drop s.length).set (s.length+0) (.int .u8 (x1.toNat:Int))).set (s.length+1) (.int .u8 (x2.toNat:Int))).set (s.length+2) (.int .u8 (x3.toNat:Int))).set (s.length+3) (.int .u8 (x4.toNat:Int)))):SB w g (s++[x1,x2,x3,x4]) cs:=by
  have hlen:(bc s).length=s.length:=by simp
  rw[Nat.add_zero,set4 (by simp;omega)]at h
  rw[List.take_left' hlen,List.drop_append,hlen,List.drop_eq_nil_of_le (by rw[hlen];omega),List.nil_append,List.drop_drop]at h
  unfold SB
  have e:bc (s++[x1,x2,x3,x4])++cs.drop (s++[x1,x2,x3,x4]).length=bc s++[.int .u8 (x1.toNat:Int),.int .u8 (x2.toNat:Int),.int .u8 (x3.toNat:Int),.int .u8 (x4.toNat:Int)]++List.drop (s.length+(s.length+4-s.length)) cs:=by
    rw[bc_append]
    simp[show s.length+(s.length+4-s.length)=s.length+4 by omega]
  rw[e]
  exact h
end Go.Proofs.LL
