/- Contracts of functions and own laws. Conditions: those that each theorem states. -/
import Derived.Test.YtbkhpjeaacoobaaGreatDoorA28
set_option linter.all false
set_option maxRecDepth 20000
namespace Go.Proofs.LL
open Go Go.Proofs Go.RowKit
theorem body_36:bodyB Tryz.prog 36=true:=by kernel_rfl
def unT:List (Int×Nat):=[(1,42),(2,43),(3,44),(4,45),(7,48),(8,49),(9,50),(10,51)]
theorem unf_ok{z:Int}{f:Nat}{w:World}(h:(z,f)∈unT):Does Tryz.prog 36 [.int .u8 z] w fun r w'=>r= .func (.func f) #[] #[]∧Ext w w':=by
  simp only[unT,List.mem_cons,Prod.mk.injEq,List.not_mem_nil,or_false]at h
  rcases h with⟨rfl,rfl⟩|⟨rfl,rfl⟩|⟨rfl,rfl⟩|⟨rfl,rfl⟩|⟨rfl,rfl⟩|⟨rfl,rfl⟩|⟨rfl,rfl⟩|⟨rfl,rfl⟩
  · skip
    refine does1 Tryz.func36 rfl rfl rfl ?_
    refine WC.seq<|WC.region ?_
    refine WL.q rfl (r_assign rfl) ?_
    refine WL.nil ?_
    refine WC.seq<|WC.seq<|WC.region ?_
    refine WL.q rfl (r_move rfl) ?_
    refine WL.nil ?_
    refine WC.block ?_
    refine WC.seq<|WC.region ?_
    refine WL.q rfl (r_eql rfl rfl) ?_ --K
    refine WL.q rfl (r_assign rfl) ?_
    refine WL.nil ?_
    refine WC.condT rfl ?_
    refine WC.seq<|WC.region ?_
    refine WL.q rfl (r_assign rfl) ?_
    refine WL.nil ?_
    refine WC.ret ?_
    exact fin1 rfl ⟨rfl,Ext.refl _⟩
  · skip
    refine does1 Tryz.func36 rfl rfl rfl ?_
    refine WC.seq<|WC.region ?_
    refine WL.q rfl (r_assign rfl) ?_
    refine WL.nil ?_
    refine WC.seq<|WC.seq<|WC.region ?_
    refine WL.q rfl (r_move rfl) ?_
    refine WL.nil ?_
    refine WC.block ?_
    refine WC.seq<|WC.region ?_
    refine WL.q rfl (r_eql rfl rfl) ?_ --K
    refine WL.q rfl (r_assign rfl) ?_
    refine WL.nil ?_
    refine WC.condF rfl ?_
    refine WC.seq<|WC.region ?_
    refine WL.q rfl (r_eql rfl rfl) ?_ --K
    refine WL.q rfl (r_assign rfl) ?_
    refine WL.nil ?_
    refine WC.condT rfl ?_
    refine WC.seq<|WC.region ?_
    refine WL.q rfl (r_assign rfl) ?_
    refine WL.nil ?_
    refine WC.ret ?_
    exact fin1 rfl ⟨rfl,Ext.refl _⟩
  · skip
    refine does1 Tryz.func36 rfl rfl rfl ?_
    refine WC.seq<|WC.region ?_
    refine WL.q rfl (r_assign rfl) ?_
    refine WL.nil ?_
    refine WC.seq<|WC.seq<|WC.region ?_
    refine WL.q rfl (r_move rfl) ?_
    refine WL.nil ?_
    refine WC.block ?_
    refine WC.seq<|WC.region ?_
    refine WL.q rfl (r_eql rfl rfl) ?_ --K
    refine WL.q rfl (r_assign rfl) ?_
    refine WL.nil ?_
    refine WC.condF rfl ?_
    refine WC.seq<|WC.region ?_
    refine WL.q rfl (r_eql rfl rfl) ?_ --K
    refine WL.q rfl (r_assign rfl) ?_
    refine WL.nil ?_
    refine WC.condF rfl ?_
    refine WC.seq<|WC.region ?_
    refine WL.q rfl (r_eql rfl rfl) ?_ --K
    refine WL.q rfl (r_assign rfl) ?_
    refine WL.nil ?_
    refine WC.condT rfl ?_
    refine WC.seq<|WC.region ?_
    refine WL.q rfl (r_assign rfl) ?_
    refine WL.nil ?_
    refine WC.ret ?_
    exact fin1 rfl ⟨rfl,Ext.refl _⟩
  · skip
    refine does1 Tryz.func36 rfl rfl rfl ?_
    refine WC.seq<|WC.region ?_
    refine WL.q rfl (r_assign rfl) ?_
    refine WL.nil ?_
    refine WC.seq<|WC.seq<|WC.region ?_
    refine WL.q rfl (r_move rfl) ?_
    refine WL.nil ?_
    refine WC.block ?_
    refine WC.seq<|WC.region ?_
    refine WL.q rfl (r_eql rfl rfl) ?_ --K
    refine WL.q rfl (r_assign rfl) ?_
    refine WL.nil ?_
    refine WC.condF rfl ?_
    refine WC.seq<|WC.region ?_
    refine WL.q rfl (r_eql rfl rfl) ?_ --K
    refine WL.q rfl (r_assign rfl) ?_
    refine WL.nil ?_
    refine WC.condF rfl ?_
    refine WC.seq<|WC.region ?_
    refine WL.q rfl (r_eql rfl rfl) ?_ --K
    refine WL.q rfl (r_assign rfl) ?_
    refine WL.nil ?_
    refine WC.condF rfl ?_
    refine WC.seq<|WC.region ?_
    refine WL.q rfl (r_eql rfl rfl) ?_ --K
    refine WL.q rfl (r_assign rfl) ?_
    refine WL.nil ?_
    refine WC.condT rfl ?_
    refine WC.seq<|WC.region ?_
    refine WL.q rfl (r_assign rfl) ?_
    refine WL.nil ?_
    refine WC.ret ?_
    exact fin1 rfl ⟨rfl,Ext.refl _⟩
  · skip
    refine does1 Tryz.func36 rfl rfl rfl ?_
    refine WC.seq<|WC.region ?_
    refine WL.q rfl (r_assign rfl) ?_
    refine WL.nil ?_
    refine WC.seq<|WC.seq<|WC.region ?_
    refine WL.q rfl (r_move rfl) ?_
    refine WL.nil ?_
    refine WC.block ?_
    refine WC.seq<|WC.region ?_
    refine WL.q rfl (r_eql rfl rfl) ?_ --K
    refine WL.q rfl (r_assign rfl) ?_
    refine WL.nil ?_
    refine WC.condF rfl ?_
    refine WC.seq<|WC.region ?_
    refine WL.q rfl (r_eql rfl rfl) ?_ --K
    refine WL.q rfl (r_assign rfl) ?_
    refine WL.nil ?_
    refine WC.condF rfl ?_
    refine WC.seq<|WC.region ?_
    refine WL.q rfl (r_eql rfl rfl) ?_ --K
    refine WL.q rfl (r_assign rfl) ?_
    refine WL.nil ?_
    refine WC.condF rfl ?_
    refine WC.seq<|WC.region ?_
    refine WL.q rfl (r_eql rfl rfl) ?_ --K
    refine WL.q rfl (r_assign rfl) ?_
    refine WL.nil ?_
    refine WC.condF rfl ?_
    refine WC.seq<|WC.region ?_
    refine WL.q rfl (r_eql rfl rfl) ?_ --K
    refine WL.q rfl (r_assign rfl) ?_
    refine WL.nil ?_
    refine WC.condF rfl ?_
    refine WC.seq<|WC.region ?_
    refine WL.q rfl (r_eql rfl rfl) ?_ --K
    refine WL.q rfl (r_assign rfl) ?_
    refine WL.nil ?_
    refine WC.condF rfl ?_
    refine WC.seq<|WC.region ?_
    refine WL.q rfl (r_eql rfl rfl) ?_ --K
    refine WL.q rfl (r_assign rfl) ?_
    refine WL.nil ?_
    refine WC.condT rfl ?_
    refine WC.seq<|WC.region ?_
    refine WL.q rfl (r_assign rfl) ?_
    refine WL.nil ?_
    refine WC.ret ?_
    exact fin1 rfl ⟨rfl,Ext.refl _⟩
  · skip
    refine does1 Tryz.func36 rfl rfl rfl ?_
    refine WC.seq<|WC.region ?_
    refine WL.q rfl (r_assign rfl) ?_
    refine WL.nil ?_
    refine WC.seq<|WC.seq<|WC.region ?_
    refine WL.q rfl (r_move rfl) ?_
    refine WL.nil ?_
    refine WC.block ?_
    refine WC.seq<|WC.region ?_
    refine WL.q rfl (r_eql rfl rfl) ?_ --K
    refine WL.q rfl (r_assign rfl) ?_
    refine WL.nil ?_
    refine WC.condF rfl ?_
    refine WC.seq<|WC.region ?_
    refine WL.q rfl (r_eql rfl rfl) ?_ --K
    refine WL.q rfl (r_assign rfl) ?_
    refine WL.nil ?_
    refine WC.condF rfl ?_
    refine WC.seq<|WC.region ?_
    refine WL.q rfl (r_eql rfl rfl) ?_ --K
    refine WL.q rfl (r_assign rfl) ?_
    refine WL.nil ?_
    refine WC.condF rfl ?_
    refine WC.seq<|WC.region ?_
    refine WL.q rfl (r_eql rfl rfl) ?_ --K
    refine WL.q rfl (r_assign rfl) ?_
    refine WL.nil ?_
    refine WC.condF rfl ?_
    refine WC.seq<|WC.region ?_
    refine WL.q rfl (r_eql rfl rfl) ?_ --K
    refine WL.q rfl (r_assign rfl) ?_
    refine WL.nil ?_
    refine WC.condF rfl ?_
    refine WC.seq<|WC.region ?_
    refine WL.q rfl (r_eql rfl rfl) ?_ --K
    refine WL.q rfl (r_assign rfl) ?_
    refine WL.nil ?_
    refine WC.condF rfl ?_
    refine WC.seq<|WC.region ?_
    refine WL.q rfl (r_eql rfl rfl) ?_ --K
    refine WL.q rfl (r_assign rfl) ?_
    refine WL.nil ?_
    refine WC.condF rfl ?_
    refine WC.seq<|WC.region ?_
    refine WL.q rfl (r_eql rfl rfl) ?_ --K
    refine WL.q rfl (r_assign rfl) ?_
    refine WL.nil ?_
    refine WC.condT rfl ?_
    refine WC.seq<|WC.region ?_
    refine WL.q rfl (r_assign rfl) ?_
    refine WL.nil ?_
    refine WC.ret ?_
    exact fin1 rfl ⟨rfl,Ext.refl _⟩
  · skip
    refine does1 Tryz.func36 rfl rfl rfl ?_
    refine WC.seq<|WC.region ?_
    refine WL.q rfl (r_assign rfl) ?_
    refine WL.nil ?_
    refine WC.seq<|WC.seq<|WC.region ?_
    refine WL.q rfl (r_move rfl) ?_
    refine WL.nil ?_
    refine WC.block ?_
    refine WC.seq<|WC.region ?_
    refine WL.q rfl (r_eql rfl rfl) ?_ --K
    refine WL.q rfl (r_assign rfl) ?_
    refine WL.nil ?_
    refine WC.condF rfl ?_
    refine WC.seq<|WC.region ?_
    refine WL.q rfl (r_eql rfl rfl) ?_ --K
    refine WL.q rfl (r_assign rfl) ?_
    refine WL.nil ?_
    refine WC.condF rfl ?_
    refine WC.seq<|WC.region ?_
    refine WL.q rfl (r_eql rfl rfl) ?_ --K
    refine WL.q rfl (r_assign rfl) ?_
    refine WL.nil ?_
    refine WC.condF rfl ?_
    refine WC.seq<|WC.region ?_
    refine WL.q rfl (r_eql rfl rfl) ?_ --K
    refine WL.q rfl (r_assign rfl) ?_
    refine WL.nil ?_
    refine WC.condF rfl ?_
    refine WC.seq<|WC.region ?_
    refine WL.q rfl (r_eql rfl rfl) ?_ --K
    refine WL.q rfl (r_assign rfl) ?_
    refine WL.nil ?_
    refine WC.condF rfl ?_
    refine WC.seq<|WC.region ?_
    refine WL.q rfl (r_eql rfl rfl) ?_ --K
    refine WL.q rfl (r_assign rfl) ?_
    refine WL.nil ?_
    refine WC.condF rfl ?_
    refine WC.seq<|WC.region ?_
    refine WL.q rfl (r_eql rfl rfl) ?_ --K
    refine WL.q rfl (r_assign rfl) ?_
    refine WL.nil ?_
    refine WC.condF rfl ?_
    refine WC.seq<|WC.region ?_
    refine WL.q rfl (r_eql rfl rfl) ?_ --K
    refine WL.q rfl (r_assign rfl) ?_
    refine WL.nil ?_
    refine WC.condF rfl ?_
    refine WC.seq<|WC.region ?_
    refine WL.q rfl (r_eql rfl rfl) ?_ --K
    refine WL.q rfl (r_assign rfl) ?_
    refine WL.nil ?_
    refine WC.condT rfl ?_
    refine WC.seq<|WC.region ?_
    refine WL.q rfl (r_assign rfl) ?_
    refine WL.nil ?_
    refine WC.ret ?_
    exact fin1 rfl ⟨rfl,Ext.refl _⟩
  · skip
    refine does1 Tryz.func36 rfl rfl rfl ?_
    refine WC.seq<|WC.region ?_
    refine WL.q rfl (r_assign rfl) ?_
    refine WL.nil ?_
    refine WC.seq<|WC.seq<|WC.region ?_
    refine WL.q rfl (r_move rfl) ?_
    refine WL.nil ?_
    refine WC.block ?_
    refine WC.seq<|WC.region ?_
    refine WL.q rfl (r_eql rfl rfl) ?_ --K
    refine WL.q rfl (r_assign rfl) ?_
    refine WL.nil ?_
    refine WC.condF rfl ?_
    refine WC.seq<|WC.region ?_
    refine WL.q rfl (r_eql rfl rfl) ?_ --K
    refine WL.q rfl (r_assign rfl) ?_
    refine WL.nil ?_
    refine WC.condF rfl ?_
    refine WC.seq<|WC.region ?_
    refine WL.q rfl (r_eql rfl rfl) ?_ --K
    refine WL.q rfl (r_assign rfl) ?_
    refine WL.nil ?_
    refine WC.condF rfl ?_
    refine WC.seq<|WC.region ?_
    refine WL.q rfl (r_eql rfl rfl) ?_ --K
    refine WL.q rfl (r_assign rfl) ?_
    refine WL.nil ?_
    refine WC.condF rfl ?_
    refine WC.seq<|WC.region ?_
    refine WL.q rfl (r_eql rfl rfl) ?_ --K
    refine WL.q rfl (r_assign rfl) ?_
    refine WL.nil ?_
    refine WC.condF rfl ?_
    refine WC.seq<|WC.region ?_
    refine WL.q rfl (r_eql rfl rfl) ?_ --K
    refine WL.q rfl (r_assign rfl) ?_
    refine WL.nil ?_
    refine WC.condF rfl ?_
    refine WC.seq<|WC.region ?_
    refine WL.q rfl (r_eql rfl rfl) ?_ --K
    refine WL.q rfl (r_assign rfl) ?_
    refine WL.nil ?_
    refine WC.condF rfl ?_
    refine WC.seq<|WC.region ?_
    refine WL.q rfl (r_eql rfl rfl) ?_ --K
    refine WL.q rfl (r_assign rfl) ?_
    refine WL.nil ?_
    refine WC.condF rfl ?_
    refine WC.seq<|WC.region ?_
    refine WL.q rfl (r_eql rfl rfl) ?_ --K
    refine WL.q rfl (r_assign rfl) ?_
    refine WL.nil ?_
    refine WC.condF rfl ?_
    refine WC.seq<|WC.region ?_
    refine WL.q rfl (r_eql rfl rfl) ?_ --K
    refine WL.q rfl (r_assign rfl) ?_
    refine WL.nil ?_
    refine WC.condT rfl ?_
    refine WC.seq<|WC.region ?_
    refine WL.q rfl (r_assign rfl) ?_
    refine WL.nil ?_
    refine WC.ret ?_
    exact fin1 rfl ⟨rfl,Ext.refl _⟩
theorem unT_body{z:Int}{f:Nat}(h:(z,f)∈unT):bodyB Tryz.prog f=true∧z≠0∧z≠12:=by
  simp only[unT,List.mem_cons,Prod.mk.injEq,List.not_mem_nil,or_false]at h
  rcases h with⟨rfl,rfl⟩|⟨rfl,rfl⟩|⟨rfl,rfl⟩|⟨rfl,rfl⟩|⟨rfl,rfl⟩|⟨rfl,rfl⟩|⟨rfl,rfl⟩|⟨rfl,rfl⟩<;>exact⟨by kernel_rfl,by decide,by decide⟩
theorem wn_ok{f vol:Nat}{z dep:Int}{x:UInt8}{bs:List UInt8}{J:List UInt8→Prop}(hz:tyI (x.toNat:Int)=z)(hf:(z,f)∈unT)(hR:RW f (x::bs) dep vol J):RW 24 (x::bs) dep vol J:=by
  intro M w tb l tv sv msg r hS hI hl
  have hI2:=hI
  obtain⟨b0,o0,c0,rfl,qc0,qA0,hD0⟩:=hI2.open (by simp)
  have d0:=hD0.get 0 (by simp)
  simp only[List.cons_append,List.getElem_cons_zero]at d0
  have ql:0<((x::bs)++r).length:=by simp
  have qxl:=UInt8.toNat_lt x
  obtain⟨qb,qz0,qz12⟩:=unT_body hf
  refine does3 Tryz.func24 rfl rfl rfl ?_
  have he:Evo (M) w w:=Evo.refl w
  refine WC.seq<|WC.region ?_
  refine WL.q rfl (r_assign rfl) ?_
  refine WL.q rfl (r_assign rfl) ?_
  refine WL.q rfl (r_assign rfl) ?_
  refine WL.nil ?_
  refine WC.seq<|WC.seq<|WC.region ?_
  refine WL.q rfl (r_move rfl) ?_
  refine WL.q rfl (r_len sl_27 rfl) ?_
  refine WL.q rfl (r_cmp (r_lss rfl rfl) (decide_eq_false (by(omega)))) ?_
  refine WL.nil ?_
  refine WC.condF rfl ?_
  refine WC.skip ?_
  refine WC.seq<|WC.region ?_
  refine WL.q rfl (r_move rfl) ?_
  refine WL.q rfl (r_idx1 sl_27 rfl rfl rfl (by first|omega|(simp;done)|(simp;omega))) ?_
  refine WL.q rfl (r_load one_5 rfl (Ext.refl _) d0) ?_
  refine WL.l rfl (l_do body_34 rfl (getType_ok (by omega) (by omega))) fun v1 w1 hh=>?_
  obtain⟨rfl,e1⟩:=hh
  refine WL.q rfl (r_assign rfl) ?_
  refine WL.nil ?_
  refine WC.seq<|WC.seq<|WC.region ?_
  refine WL.q rfl (r_move rfl) ?_
  refine WL.q rfl (r_cmp (r_eql rfl rfl) (beqF (by(rw[hz];exact qz0)))) ?_
  refine WL.nil ?_
  refine WC.condF rfl ?_
  refine WC.skip ?_
  refine WC.seq<|WC.seq<|WC.region ?_
  refine WL.q rfl (r_move rfl) ?_
  refine WL.q rfl (r_cmp (r_eql rfl rfl) (beqF (by(rw[hz];exact qz12)))) ?_
  refine WL.nil ?_
  refine WC.condF rfl ?_
  refine WC.skip ?_
  refine WC.seq<|WC.region ?_
  refine WL.q rfl (r_move rfl) ?_
  refine WL.l rfl (l_do body_36 rfl (unf_ok (by rw[hz];exact hf))) fun v2 w2 hh=>?_
  obtain⟨rfl,e2⟩:=hh
  refine WL.q rfl (r_move rfl) ?_
  refine WL.q rfl (r_move rfl) ?_
  refine WL.q rfl (r_move rfl) ?_
  refine WL.q rfl (r_move rfl) ?_
  replace hS:=(hS.mono e1).mono e2
  replace hI:=(hI.mono e1).mono e2
  refine WL.l rfl (l_callv (cap:=[]) qb rfl rfl (hR _ _ _ _ _ _ _ _ hS hI hl)) fun v3 w3 hh=>?_
  obtain⟨m1,tv1,sv1,o1,rfl,qo,hI,hS,e3⟩:=hh
  refine WL.q rfl (r_extract rfl rfl) ?_
  refine WL.q rfl (r_extract rfl rfl) ?_
  refine WL.q rfl (r_extract rfl rfl) ?_
  refine WL.q rfl (r_assign rfl) ?_
  refine WL.q rfl (r_assign rfl) ?_
  refine WL.q rfl (r_assign rfl) ?_
  refine WL.nil ?_
  refine WC.ret ?_
  replace he:=((he.then e1).then e2).then e3
  exact fin3 rfl rfl rfl ⟨_,_,_,_,rfl,qo,hI,hS,he⟩
theorem RW.weaken{f v v':Nat}{bs:List UInt8}{dep:Int}{J J':List UInt8→Prop}(h:RW f bs dep v J)(hv:v≤v')(hJ:∀o,J o→J' o):RW f bs dep v' J':=
  fun M w tb l tv sv msg r hS hI hl=>(h M w tb l tv sv msg r hS hI (by omega)).imp fun u w' ⟨m1,tv1,sv1,o1,h1,h2,h3⟩=>⟨m1,tv1,sv1,o1,h1,hJ _ h2,h3⟩
theorem dd_len{n:Nat}(h:n<18446744073709551616):(Lib.decDigits n).length≤20:=by
  rw[Lib.decDigits_length]
  rcases Nat.eq_zero_or_pos n with rfl|h1
  · rw[Lib.nDigits_small (by omega)];omega
  · have:=Lib.numDigits_eq n h1 h
    split at this<;>omega
mutual
theorem jb_len:∀ {x:Pk} {o:List UInt8},JB x o→N64 x→o.length+10≤200 * pvol x
  | .mk k n t e ks,o,h,hN=>by
    rw[JB]at h
    rw[N64]at hN
    rw[pvol]
    rcases h with⟨_,rfl⟩|⟨_,_,rfl⟩|⟨_,_,rfl⟩|⟨_,_,rfl⟩|⟨_,rfl⟩|⟨_,q,h,rfl⟩|⟨_,rfl⟩|⟨_,ps,h,rfl⟩|⟨_,ps,h,rfl⟩
    · simp;omega
    · simp;omega
    · simp;omega
    · have:=dd_len (n:=18446744073709551616-n) (by omega)
      rw[List.length_cons];omega
    · have:=dd_len hN.1;omega
    · have:=h.len
      simp[qt];omega
    · have:=b64_len t
      simp[qt];omega
    · have:=(jbl_len h hN.2.2).1
      simp;omega
    · have:=(jbl_len h hN.2.2).2
      simp;omega
theorem jbl_len:∀ {l:List Pk} {ps:List (List UInt8)},JBL l ps→N64L l→(cA ps).length≤200 * pvolL l∧(cM ps).length≤200 * pvolL l
  |[],ps,h,_=>by rw[JBL]at h;subst h;simp[cA,cM]
  |[x],ps,h,hN=>by
    rw[JBL]at h
    rw[N64L]at hN
    obtain⟨a,b,h1,h2,rfl⟩:=h
    rw[JBL]at h2
    subst h2
    have:=jb_len h1 hN.1
    rw[pvolL]
    simp[cA,cM];omega
  |x::y::r,ps,h,hN=>by
    rw[JBL]at h
    rw[N64L,N64L]at hN
    obtain⟨a,b,h1,h2,rfl⟩:=h
    rw[JBL]at h2
    obtain⟨c,d,h3,h4,rfl⟩:=h2
    have e1:=jb_len h1 hN.1
    have e2:=jb_len h3 hN.2.1
    have e3:=jbl_len h4 hN.2.2
    rw[pvolL,pvolL]
    simp[cA,cM];omega
end
end Go.Proofs.LL
set_option maxRecDepth 20000
namespace Go.Proofs.LL
open Go Go.Proofs Go.RowKit
theorem body_24:bodyB Tryz.prog 24=true:=by kernel_rfl
theorem body_66:bodyB Tryz.prog 66=true:=by kernel_rfl
def WNS(x:Pk):Prop:=∀(L dep:Int) (bs:List UInt8),Fits L x→JOK x→N64 x→EncP x bs→0≤dep→dep+L≤1000→RW 24 bs dep (200 * pvol x) (JB x)
theorem EncPL.at:∀ {l:List Pk} {rest:List UInt8} {i:Nat} (_:EncPL (l.drop i) rest) (hi:i<l.length),∃a b,rest=a++b∧EncP l[i] a∧EncPL (l.drop (i+1)) b:=by
  intro l rest i h hi
  rw[List.drop_eq_getElem_cons hi,EncPL]at h
  obtain⟨a,b,h1,h2,h3⟩:=h
  exact⟨a,b,h3,h1,h2⟩
theorem EncPL.done{l:List Pk}{rest:List UInt8}(h:EncPL (l.drop l.length) rest):rest=[]:=by
  rw[List.drop_length,EncPL]at h
  exact h
theorem N64L.take{l:List Pk}(h:N64L l)(i:Nat):N64L (l.take i):=N64L.of fun x hx=>h.mem x (List.mem_of_mem_take hx)
def preA(i:Nat)(s:List UInt8):List UInt8:=if i=0 then[]else s++[44]
theorem preA_cA{ps:List (List UInt8)}{o:List UInt8}{i:Nat}(h:ps.length=i):preA i (cA ps).tail++o=(cA (ps++[o])).tail:=by
  rw[cA_snoc]
  unfold preA
  rcases Nat.eq_zero_or_pos i with h0|h0
  · have:ps=[]:=List.eq_nil_of_length_eq_zero (by omega)
    rw[if_pos h0,if_pos this,List.nil_append]
  · have:ps≠[]:=fun e=>by rw[e]at h;simp at h;omega
    rw[if_neg (by omega),if_neg this];simp
theorem preA_cM{ps:List (List UInt8)}{o o':List UInt8}{i:Nat}(h:ps.length=2 * i):preA i (cM ps).tail++(o++58::o')=(cM (ps++[o,o'])).tail:=by
  rw[cM_snoc (by omega)]
  unfold preA
  rcases Nat.eq_zero_or_pos i with h0|h0
  · have:ps=[]:=List.eq_nil_of_length_eq_zero (by omega)
    rw[if_pos h0,if_pos this,List.nil_append]
  · have:ps≠[]:=fun e=>by rw[e]at h;simp at h;omega
    rw[if_neg (by omega),if_neg this];simp
theorem rwArr_ok{hd body:List UInt8}{ks:List Pk}{L dep:Int}(hh:HeadP 144 16 arrF ks.length hd)(hb:EncPL ks body)(hks:∀x∈ks,WNS x)(hF:FitsL (L-1) ks)(hJ:JOKL ks)(hN:N64L ks)(hlen:ks.length≤2000)(h0:0≤dep)(hL:0<L)(h1:dep+L≤1000):
    RW 45 (hd++body) dep (200 * pvolL ks+100) (fun o=>∃ps,JBL ks ps∧o=91::((cA ps).tail++[93])):=by
  intro M w tb l tv sv msg r hS hI hl
  rw[List.append_assoc]at hI
  refine does3 Tryz.func45 rfl rfl rfl ?_
  have he:Evo (M) w w:=Evo.refl w
  refine WC.seq<|WC.region ?_
  refine WL.q rfl (r_assign rfl) ?_
  refine WL.q rfl (r_assign rfl) ?_
  refine WL.q rfl (r_assign rfl) ?_
  refine WL.nil ?_
  refine WC.seq<|WC.seq<|WC.region ?_
  refine WL.q rfl (r_move rfl) ?_
  refine WL.q rfl (r_cmp (r_geq rfl rfl) (decide_eq_false (by(omega)))) ?_
  refine WL.nil ?_
  refine WC.condF rfl ?_
  refine WC.skip ?_
  refine WC.seq<|WC.region ?_
  refine WL.q rfl (r_move rfl) ?_
  refine WL.l rfl (l_do body_66 rfl (RAH_ok hh (by omega) hI)) fun v1 w1 hh=>?_
  obtain⟨⟨m1,rfl,hI⟩,e1⟩:=hh
  have ns1:w.heap.size≤w1.heap.size:=e1.size
  refine WL.q rfl (r_move rfl) ?_
  refine WL.q rfl (r_extract rfl rfl) ?_
  refine WL.q rfl (r_extract rfl rfl) ?_
  refine WL.q rfl (r_extract rfl rfl) ?_
  refine WL.q rfl (r_assign rfl) ?_
  refine WL.q rfl (r_assign rfl) ?_
  refine WL.q rfl (r_assign rfl) ?_
  refine WL.nil ?_
  refine WC.seq<|WC.seq<|WC.region ?_
  refine WL.q rfl (r_move rfl) ?_
  refine WL.q rfl (r_ifneNil ift_44 rfl) ?_
  refine WL.nil ?_
  refine WC.condF rfl ?_
  refine WC.skip ?_
  refine WC.seq<|WC.region ?_
  refine WL.q rfl (r_move rfl) ?_
  replace hS:=hS.mono e1
  refine WL.l rfl (l_invoke mWB body_173 rfl rfl (SByte_ok (c:=91) hS (by omega))) fun v2 w2 hh=>?_
  obtain⟨rfl,tv1,hS,e2⟩:=hh
  have ns2:w1.heap.size≤w2.heap.size:=e2.size
  refine WL.q rfl (r_assign rfl) ?_
  refine WL.nil ?_
  refine WC.seq<|WC.seq<|WC.region ?_
  refine WL.q rfl (r_move rfl) ?_
  refine WL.q rfl (r_ifneNil ift_44 rfl) ?_
  refine WL.nil ?_
  refine WC.condF rfl ?_
  refine WC.skip ?_
  refine WC.seq<|WC.seq<|WC.region ?_
  refine WL.q rfl (r_move rfl) ?_
  refine WL.q rfl (r_move rfl) ?_
  refine WL.nil ?_
  refine WC.block ?_
  replace hI:=hI.mono e2
  replace he:=(he.then e1).then e2
  refine WC.loop2 (ι:=(Nat×Value×Value)) [(0,_),(3,_),(8,_),(9,_),(10,_),(37,_)] (fun a=>[(1,a.2.1),(2,a.2.2),(12,.nilIface),(38,.int .u32 (a.1:Int))]) (fun a wi=>(∃tv rest ps,EncPL (ks.drop a.1) rest∧JBL (ks.take a.1) ps∧IsB M wi a.2.1 (rest++r)∧St M wi tb (l++91::(cA ps).tail) tv a.2.2)∧a.1≤ks.length∧Evo M w2 wi) (fun a=>ks.length-a.1) (0,m1,sv) (.cons rfl (.cons rfl (.cons rfl (.cons rfl (.cons rfl (.cons rfl .nil)))))) (.cons rfl (.cons rfl (.cons rfl (.cons rfl .nil)))) (⟨⟨_,body,[],by rw[List.drop_zero];exact hb,by rw[List.take_zero,JBL],hI,hS⟩,Nat.zero_le _,Evo.refl _⟩) ?_
  intro a wi1 hh;obtain⟨hQ,q1,hE⟩:=hh
  obtain⟨k,mv,sv2⟩:=a
  dsimp only at hQ q1⊢
  obtain⟨tv2,rest,ps,qR,qP,hI,hS⟩:=hQ
  have hT:=Since.mk hE
  have qpl:=qP.len
  rw[List.length_take,Nat.min_eq_left q1]at qpl
  have qcl:=(jbl_len qP (hN.take k)).1
  rcases Nat.lt_or_ge k ks.length with qi|qi
  · obtain⟨b1,b2,rfl,qa,qb⟩:=qR.at qi
    have qmem:=List.getElem_mem qi
    have qv:=pvolL_take qi
    have qv2:=pvolL_le (l:=ks) (k+1)
    rw[List.append_assoc]at hI
    have hU:=Since.mk (Evo.refl (A:=M) wi1)
    refine WC.seq<|WC.region ?_
    refine WL.q rfl (r_cmp (r_lss rfl rfl) (decide_eq_true (by(omega)))) ?_
    refine WL.nil ?_
    refine WC.seq<|WC.condT rfl ?_
    refine WC.skip ?_
    refine WC.seq<|WC.block ?_
    refine WC.seq<|WC.region ?_
    refine WL.q rfl (r_move rfl) ?_
    refine WL.q rfl (r_assign rfl) ?_
    refine WL.nil ?_
    refine WC.seq<|WC.seq<|WC.region ?_
    refine WL.q rfl (r_move rfl) ?_
    refine WL.q rfl (r_neq rfl rfl) ?_
    refine WL.nil ?_
    replace he:=he.then hE
    refine WC.thenJ (ι:=Nat) [(0,_),(1,_),(2,_),(3,_),(8,_),(9,_),(10,_),(37,_),(38,_)] (fun i=>[(12,.nilIface)]) (fun i wi=>(∃tv,St M wi tb (l++91::preA k (cA ps).tail) tv sv2)∧Evo M wi1 wi) (.cons rfl (.cons rfl (.cons rfl (.cons rfl (.cons rfl (.cons rfl (.cons rfl (.cons rfl (.cons rfl .nil))))))))) ?_ ?_
    · rcases Nat.eq_zero_or_pos k with qz|qz
      · skip
        refine WC.condF (congrArg (fun b=>some (Value.bool b)) (show((k:Int) !=0)=false by simp;omega)) ?_
        refine WC.skip ?_
        have qU:=hU.evo
        have qS:=hS
        have qe:ps=[]:=List.eq_nil_of_length_eq_zero (by omega)
        exact⟨0,(.cons rfl (.cons rfl (.cons rfl (.cons rfl (.cons rfl (.cons rfl (.cons rfl (.cons rfl (.cons rfl .nil))))))))),(.cons rfl .nil),⟨⟨_,by unfold preA;rw[if_pos qz];rw[qe]at qS;exact qS⟩,qU⟩⟩
      · skip
        refine WC.condT (congrArg (fun b=>some (Value.bool b)) (show((k:Int) !=0)=true by simp;omega)) ?_
        refine WC.seq<|WC.region ?_
        refine WL.q rfl (r_move rfl) ?_
        refine WL.l rfl (l_invoke mWB body_173 rfl rfl (SByte_ok (c:=44) hS (by simp;omega))) fun v3 w3 hh=>?_
        obtain⟨rfl,tv3,hS,e3⟩:=hh
        have ns3:wi1.heap.size≤w3.heap.size:=e3.size
        refine WL.q rfl (r_assign rfl) ?_
        refine WL.nil ?_
        refine WC.seq<|WC.region ?_
        refine WL.q rfl (r_move rfl) ?_
        refine WL.q rfl (r_ifneNil ift_44 rfl) ?_
        refine WL.nil ?_
        refine WC.condF rfl ?_
        refine WC.skip ?_
        replace hU:=hU.mono e3
        have qU:=hU.evo
        have qS:=hS
        exact⟨0,(.cons rfl (.cons rfl (.cons rfl (.cons rfl (.cons rfl (.cons rfl (.cons rfl (.cons rfl (.cons rfl .nil))))))))),(.cons rfl .nil),⟨⟨_,by unfold preA;rw[if_neg (by omega)];simpa using qS⟩,qU⟩⟩
    · skip
      intro i wj hh;obtain⟨⟨tv4,hS⟩,hE⟩:=hh
      have qprl:(preA k (cA ps).tail).length≤(cA ps).length+1:=by unfold preA;split<;>simp<;>omega
      refine WC.seq<|WC.region ?_
      refine WL.q rfl (r_move rfl) ?_
      refine WL.q rfl (r_move rfl) ?_
      refine WL.q rfl (r_move rfl) ?_
      refine WL.q rfl (r_move rfl) ?_
      refine WL.q rfl (r_addi rfl rfl rfl (by omega) (by omega)) ?_
      replace hI:=hI.mono hE
      refine WL.l rfl (l_do body_24 rfl ((hks _ qmem (L-1) (dep+1) b1 (hF.mem _ qmem) (hJ.mem _ qmem) (hN.mem _ qmem) qa (by omega) (by omega)) _ _ _ _ _ _ _ _ hS hI (by simp;omega))) fun v3 w3 hh=>?_
      obtain⟨m2,tv5,sv5,o5,rfl,qo,hI,hS,e3⟩:=hh
      have ns3:wj.heap.size≤w3.heap.size:=e3.size
      refine WL.q rfl (r_move rfl) ?_
      refine WL.q rfl (r_extract rfl rfl) ?_
      refine WL.q rfl (r_extract rfl rfl) ?_
      refine WL.q rfl (r_extract rfl rfl) ?_
      refine WL.q rfl (r_assign rfl) ?_
      refine WL.q rfl (r_assign rfl) ?_
      refine WL.q rfl (r_assign rfl) ?_
      refine WL.nil ?_
      refine WC.seq<|WC.region ?_
      refine WL.q rfl (r_move rfl) ?_
      refine WL.q rfl (r_ifneNil ift_44 rfl) ?_
      refine WL.nil ?_
      refine WC.condF rfl ?_
      refine WC.skip ?_
      refine WC.region ?_
      refine WL.q rfl (r_as (r_add rfl rfl) (wu32 (by omega) (by omega))) ?_
      refine WL.q rfl (r_move rfl) ?_
      refine WL.nil ?_
      have qt5:ks.take (k+1)=ks.take k++[ks[k]]:=(List.take_append_getElem qi).symm
      replace hT:=(hT.mono hE).mono e3
      exact⟨(k+1,m2,sv5),(.cons rfl (.cons rfl (.cons rfl (.cons rfl (.cons rfl (.cons rfl .nil)))))),(.cons rfl (.cons rfl (.cons rfl (.cons (lk_int rfl (by first|omega|(dsimp only;omega)|(dsimp only;done))) .nil)))),⟨⟨_,b2,ps++[o5],qb,by dsimp only;rw[qt5];exact qP.snoc qo,hI,by rw[← preA_cA qpl];simpa using hS⟩,qi,hT.evo⟩,(by dsimp only;omega)⟩
  · have qin:k=ks.length:=by omega
    subst qin
    have qn:=qR.done
    subst qn
    rw[List.take_length]at qP
    have qpv:=pvolL_le (l:=ks) ks.length
    refine WC.seq<|WC.region ?_
    refine WL.q rfl (r_cmp (r_lss rfl rfl) (decide_eq_false (by(omega)))) ?_
    refine WL.nil ?_
    refine WC.seq<|WC.condF rfl ?_
    refine WC.exit ?_
    refine WC.seq<|WC.region ?_
    refine WL.q rfl (r_move rfl) ?_
    refine WL.l rfl (l_invoke mWB body_173 rfl rfl (SByte_ok (c:=93) hS (by simp;omega))) fun v3 w3 hh=>?_
    obtain⟨rfl,tv3,hS,e3⟩:=hh
    have ns3:wi1.heap.size≤w3.heap.size:=e3.size
    refine WL.q rfl (r_assign rfl) ?_
    refine WL.nil ?_
    refine WC.seq<|WC.region ?_
    refine WL.q rfl (r_move rfl) ?_
    refine WL.q rfl (r_move rfl) ?_
    refine WL.q rfl (r_move rfl) ?_
    refine WL.q rfl (r_assign rfl) ?_
    refine WL.q rfl (r_assign rfl) ?_
    refine WL.q rfl (r_assign rfl) ?_
    refine WL.nil ?_
    refine WC.ret ?_
    replace hI:=hI.mono e3
    replace he:=(he.then hE).then e3
    exact fin3 rfl rfl rfl ⟨_,_,_,_,rfl,⟨ps,qP,rfl⟩,hI,(by simpa using hS),he⟩
end Go.Proofs.LL
