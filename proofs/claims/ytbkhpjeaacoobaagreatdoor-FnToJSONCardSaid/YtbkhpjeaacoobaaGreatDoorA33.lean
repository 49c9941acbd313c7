/- Contracts of functions and own laws. Conditions: those that each theorem states. -/
import Derived.Test.YtbkhpjeaacoobaaGreatDoorA32
set_option linter.all false
set_option maxRecDepth 20000
namespace Go.Proofs.LL
open Go Go.Proofs Go.RowKit
theorem be_le(a b c d e f g h:UInt8):be [h,g,f,e,d,c,b,a]=Lib.leNat [a,b,c,d,e,f,g,h]:=by
  rw[be8]
  simp only[Lib.leNat]
  omega
theorem word_ok{A:Nat→Prop}{v:Value}{a b c d e f g h:UInt8}{r:List UInt8}{w:World}(hv:IsB A w v (a::b::c::d::e::f::g::h::r)):
    Does Tryz.prog 54 [v] w fun u w'=>u= .int .u64 ((Lib.leNat [a,b,c,d,e,f,g,h]:Nat):Int)∧Ext w w':=by
  obtain⟨pb,po,cp,rfl,hc,hA,hD⟩:=hv.open (by simp)
  simp only[List.length_cons]at hc
  have d0:=hD.get 0 (by simp)
  have d1:=hD.get 1 (by simp)
  have d2:=hD.get 2 (by simp)
  have d3:=hD.get 3 (by simp)
  have d4:=hD.get 4 (by simp)
  have d5:=hD.get 5 (by simp)
  have d6:=hD.get 6 (by simp)
  have d7:=hD.get 7 (by simp)
  simp only[List.getElem_cons_zero,List.getElem_cons_succ]at d0 d1 d2 d3 d4 d5 d6 d7
  refine does1 Tryz.func54 rfl rfl rfl ?_
  have he:Evo (fun _=>True) w w:=Evo.refl w
  refine WC.seq<|WC.region ?_
  refine WL.q rfl (r_assign rfl) ?_
  refine WL.nil ?_
  refine WC.seq<|WC.condF rfl ?_
  refine WC.skip ?_
  refine WC.seq<|WC.regionD [(true,0),(true,1),(true,2),(true,3),(true,4),(true,5),(true,6),(true,7),(true,8),(true,9),(true,10),(true,11),(true,12),(true,13),(true,14),(true,15),(true,16),(true,17),(true,18),(true,19),(true,20),(true,21),(true,22),(true,23),(true,24),(true,25),(true,26),(true,27),(true,28),(true,29),(true,30),(true,31),(true,32),(true,33),(true,34),(true,35),(true,36),(true,37),(true,38),(true,39),(true,40),(true,41),(true,42),(true,43),(true,44),(true,45),(true,46)] (Ext _) mixed (by kernel_rfl) (Ext.drew _) ?_
  refine WD.q rfl (fun _ hS=>r_move rfl) ?_
  refine WD.q rfl (fun _ hS=>r_idx1 sl_27 rfl rfl rfl (by first|omega|(simp;done)|(simp;omega))) ?_
  refine WD.q rfl (fun _ hS=>r_load one_5 rfl hS d0) ?_
  refine WD.q rfl (fun _ hS=>r_cvInt cv_5_22 rfl) ?_
  refine WD.q rfl (fun _ hS=>r_move rfl) ?_
  refine WD.q rfl (fun _ hS=>r_idx1 sl_27 rfl rfl rfl (by first|omega|(simp;done)|(simp;omega))) ?_
  refine WD.q rfl (fun _ hS=>r_load one_5 rfl hS d1) ?_
  refine WD.q rfl (fun _ hS=>r_cvInt cv_5_22 rfl) ?_
  refine WD.q rfl (fun _ hS=>r_shl rfl rfl (by decide)) ?_
  refine WD.q rfl (fun _ hS=>r_bitor rfl rfl) ?_
  refine WD.q rfl (fun _ hS=>r_move rfl) ?_
  refine WD.q rfl (fun _ hS=>r_idx1 sl_27 rfl rfl rfl (by first|omega|(simp;done)|(simp;omega))) ?_
  refine WD.q rfl (fun _ hS=>r_load one_5 rfl hS d2) ?_
  refine WD.q rfl (fun _ hS=>r_cvInt cv_5_22 rfl) ?_
  refine WD.q rfl (fun _ hS=>r_shl rfl rfl (by decide)) ?_
  refine WD.q rfl (fun _ hS=>r_bitor rfl rfl) ?_
  refine WD.q rfl (fun _ hS=>r_move rfl) ?_
  refine WD.q rfl (fun _ hS=>r_idx1 sl_27 rfl rfl rfl (by first|omega|(simp;done)|(simp;omega))) ?_
  refine WD.q rfl (fun _ hS=>r_load one_5 rfl hS d3) ?_
  refine WD.q rfl (fun _ hS=>r_cvInt cv_5_22 rfl) ?_
  refine WD.q rfl (fun _ hS=>r_shl rfl rfl (by decide)) ?_
  refine WD.q rfl (fun _ hS=>r_bitor rfl rfl) ?_
  refine WD.q rfl (fun _ hS=>r_move rfl) ?_
  refine WD.q rfl (fun _ hS=>r_idx1 sl_27 rfl rfl rfl (by first|omega|(simp;done)|(simp;omega))) ?_
  refine WD.q rfl (fun _ hS=>r_load one_5 rfl hS d4) ?_
  refine WD.q rfl (fun _ hS=>r_cvInt cv_5_22 rfl) ?_
  refine WD.q rfl (fun _ hS=>r_shl rfl rfl (by decide)) ?_
  refine WD.q rfl (fun _ hS=>r_bitor rfl rfl) ?_
  refine WD.q rfl (fun _ hS=>r_move rfl) ?_
  refine WD.q rfl (fun _ hS=>r_idx1 sl_27 rfl rfl rfl (by first|omega|(simp;done)|(simp;omega))) ?_
  refine WD.q rfl (fun _ hS=>r_load one_5 rfl hS d5) ?_
  refine WD.q rfl (fun _ hS=>r_cvInt cv_5_22 rfl) ?_
  refine WD.q rfl (fun _ hS=>r_shl rfl rfl (by decide)) ?_
  refine WD.q rfl (fun _ hS=>r_bitor rfl rfl) ?_
  refine WD.q rfl (fun _ hS=>r_move rfl) ?_
  refine WD.q rfl (fun _ hS=>r_idx1 sl_27 rfl rfl rfl (by first|omega|(simp;done)|(simp;omega))) ?_
  refine WD.q rfl (fun _ hS=>r_load one_5 rfl hS d6) ?_
  refine WD.q rfl (fun _ hS=>r_cvInt cv_5_22 rfl) ?_
  refine WD.q rfl (fun _ hS=>r_shl rfl rfl (by decide)) ?_
  refine WD.q rfl (fun _ hS=>r_bitor rfl rfl) ?_
  refine WD.q rfl (fun _ hS=>r_move rfl) ?_
  refine WD.q rfl (fun _ hS=>r_idx1 sl_27 rfl rfl rfl (by first|omega|(simp;done)|(simp;omega))) ?_
  refine WD.q rfl (fun _ hS=>r_load one_5 rfl hS d7) ?_
  refine WD.q rfl (fun _ hS=>r_cvInt cv_5_22 rfl) ?_
  refine WD.q rfl (fun _ hS=>r_shl rfl rfl (by decide)) ?_
  refine WD.q rfl (fun _ hS=>r_as (r_bitor rfl rfl) ((beu64 h g f e d c b a).trans (congrArg Nat.cast (be_le a b c d e f g h)))) ?_
  refine WD.q rfl (fun _ hS=>r_assign rfl) ?_
  refine WD.nil ?_
  refine WC.ret ?_
  replace he:=he.then (Ext.drew _)
  exact fin1 rfl ⟨rfl,he⟩
theorem r_slice3{P:Program}{ρ:Fr}{w:World}{ty:TypeId}{x hi mx:Operand}{t e z bs n c:Nat}{p:Option Addr}{k2 k3:IntKind}{i2 i3:Int}{h m:Nat}(ht:slT P t=some (e,z,bs))(hx:ov ρ x=some (.slice p n c))(h2:ov ρ hi=some (.int k2 i2))(h3:ov ρ mx=some (.int k3 i3))(e2:i2=(h:Int))(e3:i3=(m:Int))(hl:h≤m)(hh:m≤c):
    RunOp P (.slice t x none (some hi) (some mx)) ty ρ w (.slice (if m=0 then p else p.map (·.add (0 * z))) h m):=by
  intro N D ac dst pos af g ha
  obtain⟨i',hu,he,hz,_⟩:=slT_some ht
  subst e2 e3
  simp[execOp,ha.ov hx,ha.ov h2,ha.ov h3,Instr.sliceAt,Instr.slice,Instr.sliceBounds,Instr.sliceBound,underlying,hu,asIntOf,hl,hh,sizeOf,typeInfo,he,hz]
theorem IsB.cap3{A:Nat→Prop}{w:World}{p:Option Addr}{n c:Nat}{l:List UInt8}(h:IsB A w (.slice p n c) l):IsB A w (.slice (if n=0 then p else p.map (·.add (0 * 1))) n n) l:=by
  obtain⟨p',c',e,hc,h2⟩:=h
  simp only[Value.slice.injEq]at e
  obtain⟨rfl,rfl,rfl⟩:=e
  refine⟨_,_,rfl,Nat.le_refl _,fun hne=>?_⟩
  obtain⟨b,o,rfl,h3,h4⟩:=h2 hne
  refine⟨b,o,?_,h3,h4⟩
  split
  · rfl
  · simp[Addr_add]
theorem asc8{a b c d e f g h:UInt8}{r:List UInt8}(h0:Lib.leNat [a,b,c,d,e,f,g,h]&&&9259542123273814144=0):Lib.validD (a::b::c::d::e::f::g::h::r)=Lib.validD r:=by
  have:=(Lib.leNat_mask [a,b,c,d,e,f,g,h]).1 (by show Lib.leNat _&&&Lib.maskN 8=0;rw[Lib.maskN8];exact h0)
  exact Lib.validD_ascii 8 _ (by simpa using this)
theorem leN_lt:∀l:List UInt8,Lib.leNat l<256^l.length
  |[]=>by decide
  |b::r=>by
    have h1:=leN_lt r
    have h2:=UInt8.toNat_lt b
    rw[Lib.leNat,List.length_cons,Nat.pow_succ]
    omega
theorem leN_lt8{l:List UInt8}(h:l.length=8):Lib.leNat l<18446744073709551616:=by
  have h1:=leN_lt l
  rw[h]at h1
  exact Nat.lt_of_lt_of_eq h1 (by decide)
theorem leN8_lt(a b c d e f g h:UInt8):Lib.leNat [a,b,c,d,e,f,g,h]<18446744073709551616:=leN_lt8 rfl
theorem and_z{m:Nat}(hm:m<18446744073709551616)(h:(bits .and .u64 (m:Int) 9259542123273814144==0)=true):m&&&9259542123273814144=0:=by
  rw[show(9259542123273814144:Int)=((9259542123273814144:Nat):Int)from rfl,u64_and_nat m _ hm (by decide)]at h
  simpa using h
theorem or_zz{a b:Nat}(ha:a<18446744073709551616)(hb:b<18446744073709551616)(h:(bits .and .u64 (bits .or .u64 (a:Int) (b:Int)) 9259542123273814144==0)=true):a&&&9259542123273814144=0∧b&&&9259542123273814144=0:=by
  rw[u64_or_nat a b ha hb]at h
  exact(Lib.or_mask _ _ _).1 (and_z (Nat.or_lt_two_pow (n:=64) ha hb) h)
theorem ex8{l:List UInt8}(h:8≤l.length):∃a b c d e f g i,l=a::b::c::d::e::f::g::i::l.drop 8:=by
  match l,h with
  |a::b::c::d::e::f::g::i::r,_=>exact⟨a,b,c,d,e,f,g,i,rfl⟩
theorem skip8{l:List UInt8}{a b c d e f g i:UInt8}(h:l=a::b::c::d::e::f::g::i::l.drop 8)(h0:Lib.leNat [a,b,c,d,e,f,g,i]&&&9259542123273814144=0)(hv:Lib.validD l=true):Lib.validD (l.drop 8)=true:=by
  rw[h,asc8 h0]at hv
  exact hv
end Go.Proofs.LL
