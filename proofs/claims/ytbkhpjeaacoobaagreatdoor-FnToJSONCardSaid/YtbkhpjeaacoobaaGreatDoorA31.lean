/- Contracts of functions and own laws. Conditions: those that each theorem states. -/
import Derived.Test.YtbkhpjeaacoobaaGreatDoorA30
set_option linter.all false
set_option maxRecDepth 20000
namespace Go.Proofs.LL
open Go Go.Proofs Go.RowKit
def hv(l:List Nat):Nat:=l.foldl (fun a d=>a * 16+d) 0
theorem hv_snoc(l:List Nat)(d:Nat):hv (l++[d])=hv l * 16+d:=by simp[hv]
theorem hv_lt:∀(l:List Nat),(∀d∈l,d<16)→l.length≤3→hv l<4096
  |[],_,_=>by decide
  |[a],h,_=>by have:=h a (by simp);simp[hv];omega
  |[a,b],h,_=>by have:=h a (by simp);have:=h b (by simp);simp[hv];omega
  |[a,b,c],h,_=>by have:=h a (by simp);have:=h b (by simp);have:=h c (by simp);simp[hv];omega
  |_::_::_::_::_,_,h=>by simp at h
theorem hx_lo{d:Nat}(h:d<10):(hx d).toNat=48+d:=by
  unfold hx;rw[if_pos h,UInt8.toNat_ofNat'];omega
theorem hx_hi{d:Nat}(h:10≤d)(h2:d<16):(hx d).toNat=87+d:=by
  unfold hx;rw[if_neg (by omega),UInt8.toNat_ofNat'];omega
theorem or32{d:Nat}(h:10≤d)(h2:d<16):bits .or .i64 ((87+d:Nat):Int) 32=((87+d:Nat):Int):=by
  have:∀n:Fin 16,10≤n.val→bits .or .i64 ((87+n.val:Nat):Int) 32=((87+n.val:Nat):Int):=by decide
  exact this ⟨d,h2⟩ h
theorem hor{n d:Nat}(hn:n<4096)(hd:d<16):bits .or .i64 (IntKind.i64.wrap ((n:Int) * 2^(min (4:Int).toNat IntKind.i64.bits))) (d:Int)=((n * 16+d:Nat):Int):=by
  rw[show(2:Int)^(min (4:Int).toNat IntKind.i64.bits)=16 by decide,wrap_i64 (by omega) (by omega)]
  rw[bits_join .i64 40 (by decide) (fun n h0 h1=>wrap_i64 (by omega) (by omega)) 4 _ _ (by omega) (by omega) (by omega) (by omega) (by omega) (by omega)]
  omega
theorem hex_ok{jb p:Nat}{s r:List UInt8}{ds:List Nat}{w:World}(hK:Jt w jb s p)(hl:ds.length=4)(hd:s.drop p=ds.map hx++r)(hds:∀d∈ds,d<16)(hs:s.length≤1000000000000):
    Does Tryz.prog 55 [.pointer (some ⟨jb,0,none⟩)] w fun u w'=>u= .int .i64 (hv ds:Int)∧Jt w' jb s (p+4)∧Evo (fun k=>k≠jb) w w':=by
  have hsz:({data:=s.toArray}:ByteArray).size=s.length:=rfl
  have hsl:=congrArg List.length hd
  simp only[List.length_drop,List.length_append,List.length_map,hl]at hsl
  unfold Jt at hK⊢
  refine does1 Tryz.func55 rfl rfl rfl ?_
  have he:Evo (fun k=>k≠jb) w w:=Evo.refl w
  refine WC.seq<|WC.region ?_
  refine WL.q rfl (r_assign rfl) ?_
  refine WL.nil ?_
  refine WC.seq<|WC.region ?_
  refine WL.q rfl (r_assign rfl) ?_
  refine WL.nil ?_
  refine WC.seq<|WC.seq<|WC.region ?_
  refine WL.q rfl (r_assign rfl) ?_
  refine WL.nil ?_
  refine WC.block ?_
  refine WC.loop2 (ι:=Nat) [(0,_),(2,_)] (fun i=>[(3,.int .i64 (hv (ds.take i):Int)),(4,.int .i64 (i:Int))]) (fun i wi=>Blk wi jb [str s,.int .i64 ((p+i:Nat):Int),.bool false]∧i≤4∧Evo (fun k=>k≠jb) w wi) (fun i=>4-i) 0 (.cons rfl (.cons rfl .nil)) (.cons rfl (.cons rfl .nil)) (⟨hK,by omega,Evo.refl _⟩) ?_
  intro i wi1 hh;obtain⟨hK,ni,hE⟩:=hh
  rcases Nat.lt_or_ge i 4 with qi|qi
  · have qil:i<ds.length:=by omega
    have qd:=hds _ (List.getElem_mem qil)
    have qdr:s.drop (p+i)=hx ds[i]::((ds.drop (i+1)).map hx++r):=by
      rw[← List.drop_drop,hd,List.drop_append_of_le_length (by simp;omega),← List.map_drop,List.drop_eq_getElem_cons qil];rfl
    obtain⟨qp,hb1,_⟩:=drop_c qdr
    have qt:hv (ds.take (i+1))=hv (ds.take i) * 16+ds[i]:=by rw[← List.take_append_getElem qil,hv_snoc]
    have qh:=hv_lt (ds.take i) (fun d hd=>hds d (List.mem_of_mem_take hd)) (by rw[List.length_take];omega)
    rcases Nat.lt_or_ge ds[i] 10 with q10|q10
    · have qx:=hx_lo q10
      have qw:IntKind.i64.wrap ((hx ds[i]).toNat:Int)=((48+ds[i]:Nat):Int):=by rw[wrap_i64 (by omega) (by omega),qx]
      refine WC.seq<|WC.seq<|WC.region ?_
      refine WL.q rfl (r_move rfl) ?_
      refine WL.q rfl (r_cmp (r_lss rfl rfl) (decide_eq_true (by(omega)))) ?_
      refine WL.nil ?_
      refine WC.condT rfl ?_
      refine WC.skip ?_
      refine WC.seq<|WC.block ?_
      refine WC.seq<|WC.seq<|WC.regionD [(true,0),(true,1),(true,2),(true,3),(true,4),(true,5),(true,6),(true,7),(true,8),(true,9)] (Ext _) mixed (by kernel_rfl) (Ext.drew _) ?_
      refine WD.q rfl (fun _ hS=>r_move rfl) ?_
      refine WD.q rfl (fun _ hS=>r_nilp rfl) ?_
      refine WD.q rfl (fun _ hS=>r_fieldAddr rfl fo_61_1) ?_
      refine WD.q rfl (fun _ hS=>r_load one_3 rfl hS (hK.get rfl)) ?_
      refine WD.q rfl (fun _ hS=>r_move rfl) ?_
      refine WD.q rfl (fun _ hS=>r_nilp rfl) ?_
      refine WD.q rfl (fun _ hS=>r_fieldAddr rfl fo_61_0) ?_
      refine WD.q rfl (fun _ hS=>r_load one_9 rfl hS (hK.get rfl)) ?_
      refine WD.q rfl (fun _ hS=>r_lens str_9 rfl) ?_
      refine WD.q rfl (fun _ hS=>r_cmp (r_geq rfl rfl) (decide_eq_false (by(omega)))) ?_
      refine WD.nil ?_
      refine WC.condF rfl ?_
      refine WC.skip ?_
      replace hK:=hK.mono (Ext.drew _)
      refine WC.seq<|WC.regionD [(true,0),(true,1),(true,2),(true,3),(true,4),(true,5),(true,6),(true,7),(true,8),(true,9),(true,10)] (Ext _) mixed (by kernel_rfl) (Ext.drew _) ?_
      refine WD.q rfl (fun _ hS=>r_move rfl) ?_
      refine WD.q rfl (fun _ hS=>r_nilp rfl) ?_
      refine WD.q rfl (fun _ hS=>r_fieldAddr rfl fo_61_0) ?_
      refine WD.q rfl (fun _ hS=>r_load one_9 rfl hS (hK.get rfl)) ?_
      refine WD.q rfl (fun _ hS=>r_move rfl) ?_
      refine WD.q rfl (fun _ hS=>r_nilp rfl) ?_
      refine WD.q rfl (fun _ hS=>r_fieldAddr rfl fo_61_1) ?_
      refine WD.q rfl (fun _ hS=>r_load one_3 rfl hS (hK.get rfl)) ?_
      refine WD.q rfl (fun _ hS=>r_idxs str_9 rfl rfl rfl (by assumption)) ?_
      refine WD.q rfl (fun _ hS=>r_cvIntE cv_5_3 rfl qw) ?_
      refine WD.q rfl (fun _ hS=>r_assign rfl) ?_
      refine WD.nil ?_
      refine WC.seq<|WC.region ?_
      refine WL.q rfl (r_move rfl) ?_
      refine WL.q rfl (r_nilp rfl) ?_
      refine WL.q rfl (r_fieldAddr rfl fo_61_1) ?_
      replace hK:=hK.mono (Ext.drew _)
      refine WL.q rfl (r_load one_3 rfl (Ext.refl _) (hK.get rfl)) ?_
      refine WL.q rfl (r_addi rfl rfl rfl (by omega) (by omega)) ?_
      refine WL.q rfl (r_nilp rfl) ?_
      refine WL.q rfl (r_fieldAddr rfl fo_61_1) ?_
      refine WL.l0 (l_store sz_3 rfl rfl (by first|rfl|assumption|exact Own.one (by assumption)) hK rfl) fun _ w1 hh=>?_
      obtain⟨hK,e1,hz1⟩:=hh
      refine WL.nil ?_
      refine WC.block ?_
      refine WC.seq<|WC.region ?_
      refine WL.q rfl (r_move rfl) ?_
      refine WL.q rfl (r_cmp (r_geq rfl rfl) (decide_eq_true (by(omega)))) ?_
      refine WL.q rfl (r_move rfl) ?_
      refine WL.qg rfl rfl rfl rfl (r_move rfl) ?_
      refine WL.qg rfl rfl rfl rfl (r_cmp (r_leq rfl rfl) (decide_eq_true (by(omega)))) ?_
      refine WL.q rfl (r_pick rfl rfl rfl) ?_
      refine WL.q rfl (r_assign rfl) ?_
      refine WL.nil ?_
      refine WC.condT rfl ?_
      refine WC.region ?_
      refine WL.q rfl (r_move rfl) ?_
      refine WL.q rfl (r_shl rfl rfl (by decide)) ?_
      refine WL.q rfl (r_move rfl) ?_
      refine WL.q rfl (r_subi rfl rfl (show((48+ds[i]:Nat):Int)-48=(ds[i]:Int) by omega) (by omega) (by omega)) ?_
      refine WL.q rfl (r_as (r_bitor rfl rfl) (hor qh qd)) ?_
      refine WL.q rfl (r_assign rfl) ?_
      refine WL.nil ?_
      refine WC.region ?_
      refine WL.q rfl (r_move rfl) ?_
      refine WL.q rfl (r_addi rfl rfl rfl (by omega) (by omega)) ?_
      refine WL.q rfl (r_assign rfl) ?_
      refine WL.nil ?_
      exact⟨i+1,(.cons rfl (.cons rfl .nil)),(.cons (lk_int rfl (by first|omega|(dsimp only;omega)|(dsimp only;done))) (.cons (lk_int rfl (by first|omega|(dsimp only;omega)|(dsimp only;done))) .nil)),⟨hK,qi,((((hE.then (Ext.drew _)).then (Ext.drew _)).then e1))⟩,by omega⟩
    · have qx:=hx_hi q10 qd
      have qw:IntKind.i64.wrap ((hx ds[i]).toNat:Int)=((87+ds[i]:Nat):Int):=by rw[wrap_i64 (by omega) (by omega),qx]
      refine WC.seq<|WC.seq<|WC.region ?_
      refine WL.q rfl (r_move rfl) ?_
      refine WL.q rfl (r_cmp (r_lss rfl rfl) (decide_eq_true (by(omega)))) ?_
      refine WL.nil ?_
      refine WC.condT rfl ?_
      refine WC.skip ?_
      refine WC.seq<|WC.block ?_
      refine WC.seq<|WC.seq<|WC.regionD [(true,0),(true,1),(true,2),(true,3),(true,4),(true,5),(true,6),(true,7),(true,8),(true,9)] (Ext _) mixed (by kernel_rfl) (Ext.drew _) ?_
      refine WD.q rfl (fun _ hS=>r_move rfl) ?_
      refine WD.q rfl (fun _ hS=>r_nilp rfl) ?_
      refine WD.q rfl (fun _ hS=>r_fieldAddr rfl fo_61_1) ?_
      refine WD.q rfl (fun _ hS=>r_load one_3 rfl hS (hK.get rfl)) ?_
      refine WD.q rfl (fun _ hS=>r_move rfl) ?_
      refine WD.q rfl (fun _ hS=>r_nilp rfl) ?_
      refine WD.q rfl (fun _ hS=>r_fieldAddr rfl fo_61_0) ?_
      refine WD.q rfl (fun _ hS=>r_load one_9 rfl hS (hK.get rfl)) ?_
      refine WD.q rfl (fun _ hS=>r_lens str_9 rfl) ?_
      refine WD.q rfl (fun _ hS=>r_cmp (r_geq rfl rfl) (decide_eq_false (by(omega)))) ?_
      refine WD.nil ?_
      refine WC.condF rfl ?_
      refine WC.skip ?_
      replace hK:=hK.mono (Ext.drew _)
      refine WC.seq<|WC.regionD [(true,0),(true,1),(true,2),(true,3),(true,4),(true,5),(true,6),(true,7),(true,8),(true,9),(true,10)] (Ext _) mixed (by kernel_rfl) (Ext.drew _) ?_
      refine WD.q rfl (fun _ hS=>r_move rfl) ?_
      refine WD.q rfl (fun _ hS=>r_nilp rfl) ?_
      refine WD.q rfl (fun _ hS=>r_fieldAddr rfl fo_61_0) ?_
      refine WD.q rfl (fun _ hS=>r_load one_9 rfl hS (hK.get rfl)) ?_
      refine WD.q rfl (fun _ hS=>r_move rfl) ?_
      refine WD.q rfl (fun _ hS=>r_nilp rfl) ?_
      refine WD.q rfl (fun _ hS=>r_fieldAddr rfl fo_61_1) ?_
      refine WD.q rfl (fun _ hS=>r_load one_3 rfl hS (hK.get rfl)) ?_
      refine WD.q rfl (fun _ hS=>r_idxs str_9 rfl rfl rfl (by assumption)) ?_
      refine WD.q rfl (fun _ hS=>r_cvIntE cv_5_3 rfl qw) ?_
      refine WD.q rfl (fun _ hS=>r_assign rfl) ?_
      refine WD.nil ?_
      refine WC.seq<|WC.region ?_
      refine WL.q rfl (r_move rfl) ?_
      refine WL.q rfl (r_nilp rfl) ?_
      refine WL.q rfl (r_fieldAddr rfl fo_61_1) ?_
      replace hK:=hK.mono (Ext.drew _)
      refine WL.q rfl (r_load one_3 rfl (Ext.refl _) (hK.get rfl)) ?_
      refine WL.q rfl (r_addi rfl rfl rfl (by omega) (by omega)) ?_
      refine WL.q rfl (r_nilp rfl) ?_
      refine WL.q rfl (r_fieldAddr rfl fo_61_1) ?_
      refine WL.l0 (l_store sz_3 rfl rfl (by first|rfl|assumption|exact Own.one (by assumption)) hK rfl) fun _ w1 hh=>?_
      obtain⟨hK,e1,hz1⟩:=hh
      refine WL.nil ?_
      refine WC.block ?_
      refine WC.seq<|WC.region ?_
      refine WL.q rfl (r_move rfl) ?_
      refine WL.q rfl (r_cmp (r_geq rfl rfl) (decide_eq_true (by(omega)))) ?_
      refine WL.q rfl (r_move rfl) ?_
      refine WL.qg rfl rfl rfl rfl (r_move rfl) ?_
      refine WL.qg rfl rfl rfl rfl (r_cmp (r_leq rfl rfl) (decide_eq_false (by(omega)))) ?_
      refine WL.q rfl (r_pick rfl rfl rfl) ?_
      refine WL.q rfl (r_assign rfl) ?_
      refine WL.nil ?_
      refine WC.condF rfl ?_
      refine WC.seq<|WC.region ?_
      refine WL.q rfl (r_move rfl) ?_
      refine WL.q rfl (r_as (r_bitor rfl rfl) (or32 q10 qd)) ?_
      refine WL.q rfl (r_cmp (r_geq rfl rfl) (decide_eq_true (by(omega)))) ?_
      refine WL.q rfl (r_move rfl) ?_
      refine WL.qg rfl rfl rfl rfl (r_move rfl) ?_
      refine WL.qg rfl rfl rfl rfl (r_as (r_bitor rfl rfl) (or32 q10 qd)) ?_
      refine WL.qg rfl rfl rfl rfl (r_cmp (r_leq rfl rfl) (decide_eq_true (by(omega)))) ?_
      refine WL.q rfl (r_pick rfl rfl rfl) ?_
      refine WL.q rfl (r_assign rfl) ?_
      refine WL.nil ?_
      refine WC.condT rfl ?_
      refine WC.region ?_
      refine WL.q rfl (r_move rfl) ?_
      refine WL.q rfl (r_shl rfl rfl (by decide)) ?_
      refine WL.q rfl (r_move rfl) ?_
      refine WL.q rfl (r_as (r_bitor rfl rfl) (or32 q10 qd)) ?_
      refine WL.q rfl (r_subi rfl rfl rfl (by omega) (by omega)) ?_
      refine WL.q rfl (r_addi rfl rfl (show((87+ds[i]:Nat):Int)-97+10=(ds[i]:Int) by omega) (by omega) (by omega)) ?_
      refine WL.q rfl (r_as (r_bitor rfl rfl) (hor qh qd)) ?_
      refine WL.q rfl (r_assign rfl) ?_
      refine WL.nil ?_
      refine WC.region ?_
      refine WL.q rfl (r_move rfl) ?_
      refine WL.q rfl (r_addi rfl rfl rfl (by omega) (by omega)) ?_
      refine WL.q rfl (r_assign rfl) ?_
      refine WL.nil ?_
      exact⟨i+1,(.cons rfl (.cons rfl .nil)),(.cons (lk_int rfl (by first|omega|(dsimp only;omega)|(dsimp only;done))) (.cons (lk_int rfl (by first|omega|(dsimp only;omega)|(dsimp only;done))) .nil)),⟨hK,qi,((((hE.then (Ext.drew _)).then (Ext.drew _)).then e1))⟩,by omega⟩
  · have qin:i=4:=by omega
    subst qin
    refine WC.seq<|WC.seq<|WC.region ?_
    refine WL.q rfl (r_move rfl) ?_
    refine WL.q rfl (r_cmp (r_lss rfl rfl) (decide_eq_false (by(omega)))) ?_
    refine WL.nil ?_
    refine WC.condF rfl ?_
    refine WC.exit ?_
    refine WC.seq<|WC.region ?_
    refine WL.q rfl (r_move rfl) ?_
    refine WL.q rfl (r_assign rfl) ?_
    refine WL.nil ?_
    refine WC.ret ?_
    replace he:=he.then hE
    exact fin1 rfl ⟨by rw[List.take_of_length_le (by omega)],hK,he⟩
end Go.Proofs.LL
