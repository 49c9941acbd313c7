/- Contracts of functions and own laws. Conditions: those that each theorem states. -/
import Derived.Test.YtbkhpjeaacoobaaGreatDoorA27
set_option linter.all false
set_option maxRecDepth 20000
namespace Go.Proofs.LL
open Go Go.Proofs Go.RowKit
theorem body_34:bodyB Tryz.prog 34=true:=by kernel_rfl
theorem body_42:bodyB Tryz.prog 42=true:=by kernel_rfl
theorem body_58:bodyB Tryz.prog 58=true:=by kernel_rfl
theorem body_59:bodyB Tryz.prog 59=true:=by kernel_rfl
theorem body_71:bodyB Tryz.prog 71=true:=by kernel_rfl
theorem body_72:bodyB Tryz.prog 72=true:=by kernel_rfl
theorem body_73:bodyB Tryz.prog 73=true:=by kernel_rfl
theorem body_74:bodyB Tryz.prog 74=true:=by kernel_rfl
theorem rwStr_ok{dep:Int}{hd t:List UInt8}(hh:HeadP 160 32 strF t.length hd)(ht:t.length≤131072)(hv:Lib.validD t=true):RW 42 (hd++t) dep (6 * t.length+20) (fun o=>∃q,Qt t q∧o=qt q):=by
  intro M w tb l tv sv msg r hS hI hl
  rw[List.append_assoc]at hI
  refine does3 Tryz.func42 rfl rfl rfl ?_
  have he:Evo (M) w w:=Evo.refl w
  refine WC.seq<|WC.region ?_
  refine WL.q rfl (r_assign rfl) ?_
  refine WL.q rfl (r_assign rfl) ?_
  refine WL.q rfl (r_assign rfl) ?_
  refine WL.nil ?_
  refine WC.seq<|WC.region ?_
  refine WL.q rfl (r_move rfl) ?_
  refine WL.l rfl (l_do body_58 rfl (RStr_ok hh ht hI)) fun v1 w1 hh=>?_
  obtain⟨⟨vt,m1,rfl,hV,hI⟩,e1⟩:=hh
  refine WL.q rfl (r_move rfl) ?_
  refine WL.q rfl (r_extract rfl rfl) ?_
  refine WL.q rfl (r_extract rfl rfl) ?_
  refine WL.q rfl (r_extract rfl rfl) ?_
  refine WL.q rfl (r_assign rfl) ?_
  refine WL.q rfl (r_assign rfl) ?_
  refine WL.q rfl (r_assign rfl) ?_
  refine WL.nil ?_
  refine WC.seq<|WC.seq<|WC.region ?_
  refine WL.q rfl (r_move rfl) ?_
  refine WL.q rfl (r_ifneNil ift_44 rfl) ?_
  refine WL.nil ?_
  refine WC.condF rfl ?_
  refine WC.skip ?_
  refine WC.seq<|WC.region ?_
  refine WL.q rfl (r_move rfl) ?_
  refine WL.q rfl (r_move rfl) ?_
  replace hS:=hS.mono e1
  refine WL.l rfl (l_do body_59 rfl (rwq_ok hS hV hv (by omega) (by omega))) fun v2 w2 hh=>?_
  obtain⟨n1,q,tv1,rfl,qQ,hS,e2⟩:=hh
  refine WL.q rfl (r_move rfl) ?_
  refine WL.q rfl (r_extract rfl rfl) ?_
  refine WL.q rfl (r_extract rfl rfl) ?_
  refine WL.q rfl (r_assign rfl) ?_
  refine WL.nil ?_
  refine WC.seq<|WC.region ?_
  refine WL.q rfl (r_move rfl) ?_
  refine WL.q rfl (r_move rfl) ?_
  refine WL.q rfl (r_move rfl) ?_
  refine WL.q rfl (r_assign rfl) ?_
  refine WL.q rfl (r_assign rfl) ?_
  refine WL.q rfl (r_assign rfl) ?_
  refine WL.nil ?_
  refine WC.ret ?_
  replace hI:=hI.mono e2
  replace he:=(he.then e1).then e2
  exact fin3 rfl rfl rfl ⟨_,_,_,_,rfl,⟨q,qQ,rfl⟩,hI,hS,he⟩
theorem strTy{n:Nat}{hd:List UInt8}(hh:HeadP 160 32 strF n hd):∃x r,hd=x::r∧tyI (x.toNat:Int)=1:=by
  rcases hh with⟨fx,h1,h2,rfl⟩|⟨p,hp,_,rfl⟩
  · obtain rfl:fx=160:=by omega
    have hf:∀n:Fin 32,tyI ((UInt8.ofNat (160+n.val)).toNat:Int)=1:=by decide
    exact⟨_,_,rfl,hf ⟨n,h2⟩⟩
  · refine⟨_,_,rfl,?_⟩
    simp only[strF,List.mem_cons,List.not_mem_nil,or_false]at hp
    rcases hp with rfl|rfl|rfl<;>decide
theorem rwKey_ok{dep:Int}{hd t:List UInt8}(hh:HeadP 160 32 strF t.length hd)(ht:t.length≤131072)(hv:Lib.validD t=true):RW 65 (hd++t) dep (6 * t.length+20) (fun o=>∃q,Qt t q∧o=qt q):=by
  intro M w tb l tv sv msg r hS hI hl
  obtain⟨x,r0,rfl,qty⟩:=strTy hh
  have hI2:=hI
  obtain⟨b0,o0,c0,rfl,qc0,qA0,hD0⟩:=hI2.open (by simp)
  have d0:=hD0.get 0 (by simp)
  simp only[List.cons_append,List.getElem_cons_zero]at d0
  have ql:0<((x::r0++t)++r).length:=by simp
  have qxl:=UInt8.toNat_lt x
  refine does3 Tryz.func65 rfl rfl rfl ?_
  have he:Evo (M) w w:=Evo.refl w
  refine WC.seq<|WC.region ?_
  refine WL.q rfl (r_assign rfl) ?_
  refine WL.q rfl (r_assign rfl) ?_
  refine WL.q rfl (r_assign rfl) ?_
  refine WL.nil ?_
  refine WC.seq<|WC.seq<|WC.region ?_
  refine WL.q rfl (r_move rfl) ?_
  refine WL.q rfl (r_len sl_27 rfl) ?_
  refine WL.q rfl (r_cmp (r_lss rfl rfl) (decide_eq_false (by(omega)))) ?_
  refine WL.nil ?_
  refine WC.condF rfl ?_
  refine WC.skip ?_
  refine WC.seq<|WC.seq<|WC.region ?_
  refine WL.q rfl (r_move rfl) ?_
  refine WL.q rfl (r_idx1 sl_27 rfl rfl rfl (by first|omega|(simp;done)|(simp;omega))) ?_
  refine WL.q rfl (r_load one_5 rfl (Ext.refl _) d0) ?_
  refine WL.l rfl (l_do body_34 rfl (getType_ok (by omega) (by omega))) fun v1 w1 hh=>?_
  obtain⟨rfl,e1⟩:=hh
  refine WL.nil ?_
  refine WC.block ?_
  refine WC.seq<|WC.region ?_
  refine WL.q rfl (r_cmp (r_eql rfl rfl) (beqF (by(rw[qty];decide)))) ?_
  refine WL.q rfl (r_assign rfl) ?_
  refine WL.nil ?_
  refine WC.condF rfl ?_
  refine WC.seq<|WC.region ?_
  refine WL.q rfl (r_cmp (r_eql rfl rfl) (beqF (by(rw[qty];decide)))) ?_
  refine WL.q rfl (r_assign rfl) ?_
  refine WL.nil ?_
  refine WC.condF rfl ?_
  refine WC.skip ?_
  refine WC.seq<|WC.region ?_
  refine WL.q rfl (r_move rfl) ?_
  refine WL.q rfl (r_move rfl) ?_
  refine WL.q rfl (r_move rfl) ?_
  refine WL.q rfl (r_move rfl) ?_
  replace hS:=hS.mono e1
  replace hI:=hI.mono e1
  refine WL.l rfl (l_do body_42 rfl (rwStr_ok hh ht hv _ _ _ _ _ _ _ _ hS hI hl)) fun v2 w2 hh=>?_
  obtain⟨m1,tv1,sv1,o1,rfl,qo,hI,hS,e2⟩:=hh
  refine WL.q rfl (r_move rfl) ?_
  refine WL.q rfl (r_extract rfl rfl) ?_
  refine WL.q rfl (r_extract rfl rfl) ?_
  refine WL.q rfl (r_extract rfl rfl) ?_
  refine WL.q rfl (r_assign rfl) ?_
  refine WL.q rfl (r_assign rfl) ?_
  refine WL.q rfl (r_assign rfl) ?_
  refine WL.nil ?_
  refine WC.seq<|WC.seq<|WC.region ?_
  refine WL.q rfl (r_move rfl) ?_
  refine WL.q rfl (r_ifneNil ift_44 rfl) ?_
  refine WL.nil ?_
  refine WC.condF rfl ?_
  refine WC.skip ?_
  refine WC.seq<|WC.region ?_
  refine WL.q rfl (r_move rfl) ?_
  refine WL.q rfl (r_move rfl) ?_
  refine WL.q rfl (r_move rfl) ?_
  refine WL.q rfl (r_assign rfl) ?_
  refine WL.q rfl (r_assign rfl) ?_
  refine WL.q rfl (r_assign rfl) ?_
  refine WL.nil ?_
  refine WC.ret ?_
  replace he:=(he.then e1).then e2
  exact fin3 rfl rfl rfl ⟨_,_,_,_,rfl,qo,hI,hS,he⟩
theorem own_cut{B e k n c:Nat}{w:World}{p:Option Addr}{xs:List Value}(h:Own B e 1 w (.slice p n c) n xs)(hk:k≤c):
    (∃ys,Own B e 1 w (.slice (if c=0 then p else p.map (·.add (0 * 1))) (k-0) (c-0)) k ys)∧(Value.slice (if c=0 then p else p.map (·.add (0 * 1))) (k-0) (c-0)).ownBlock=(Value.slice p n c).ownBlock:=by
  obtain⟨h1,h2⟩:=h.row
  rcases h2 with⟨h3,h4⟩|⟨g,cap,cur,h3,h4,h5,h6,h7,h8,h9⟩
  · cases h3
    have:k=0:=by omega
    subst this
    exact⟨⟨[],⟨by simp,.inl ⟨rfl,rfl⟩⟩⟩,rfl⟩
  · cases h3
    have e1:(if c=0 then some (⟨g,0,none⟩:Addr)else(some (⟨g,0,none⟩:Addr)).map (·.add (0 * 1)))=some ⟨g,0,none⟩:=by
      split
      · rfl
      · simp[Addr_add]
    rw[e1,Nat.sub_zero,Nat.sub_zero]
    exact⟨⟨cur.toList.take (k * 1),⟨by rw[List.length_take,Array.length_toList,h8];omega,.inr ⟨g,c,cur,rfl,h4,h5,hk,h7,h8,rfl⟩⟩⟩,rfl⟩
theorem own_cut0{B e n c:Nat}{w:World}{p:Option Addr}{xs:List Value}(h:Own B e 1 w (.slice p n c) n xs):
    Own B e 1 w (.slice (if c=0 then p else p.map (·.add (0 * 1))) (0-0) (c-0)) 0 []:=by
  obtain⟨⟨ys,hy⟩,_⟩:=own_cut h (Nat.zero_le c)
  have:=hy.length
  rw[Nat.zero_mul]at this
  rw[List.eq_nil_of_length_eq_zero this]at hy
  exact hy
section
variable {M:Nat→Prop} {w:World} {tb:Nat} {l:List UInt8} {tv sv sv0:Value}
theorem SAppI_ok{i:Int}(h:St M w tb l tv sv)(hO:Own 0 5 1 w sv0 0 [])(hob:sv0.ownBlock=sv.ownBlock)(h0: -9223372036854775808≤i)(h1:i≤9223372036854775807):
    Does Tryz.prog 72 [sv0,.int .i64 i,.int .i64 10] w fun r w'=>St M w' tb l tv r∧IsB (fun _=>True) w' r (Lib.itoa i)∧Evo M w w':=
  (AppI2_ok hO (by omega) h0 h1 h.pt (by rw[hob];exact(h.out 7 h.m7).2.2)).imp fun r w' ⟨h2,h3,h4⟩=>by
    rw[hob]at h3 h4
    have h5:=h.scr h2 h3 h4
    exact⟨h5.1,Own.toB (h2.cast (m:=(Lib.itoa i).length) (by omega) (by simp)),h5.2⟩
theorem SAppU_ok{u:Nat}(h:St M w tb l tv sv)(hO:Own 0 5 1 w sv0 0 [])(hob:sv0.ownBlock=sv.ownBlock)(hu:u<18446744073709551616):
    Does Tryz.prog 74 [sv0,.int .u64 u,.int .i64 10] w fun r w'=>St M w' tb l tv r∧IsB (fun _=>True) w' r (Lib.decDigits u)∧Evo M w w':=
  (AppU2_ok hO (by omega) hu h.pt).imp fun r w' ⟨h2,h3,h4⟩=>by
    rw[hob]at h3 h4
    have h5:=h.scr h2 h3 h4
    exact⟨h5.1,Own.toB (h2.cast (m:=(Lib.decDigits u).length) (by omega) (by simp)),h5.2⟩
end
theorem rwInt_ok{dep:Int}{bs:List UInt8}{i:Int}(hR:∀(A:Nat→Prop) (v:Value) (r:List UInt8) (w:World),IsB A w v (bs++r)→Does Tryz.prog 71 [v] w fun u w'=>(∃v',u= .tuple #[.int .i64 i,v',.nilIface]∧IsB A w' v' r)∧Ext w w')
    (h0: -9223372036854775808≤i) (h1:i≤9223372036854775807) (hlen:(Lib.itoa i).length≤1000):RW 49 bs dep 1000 (· =Lib.itoa i):=by
  intro M w tb l tv sv msg r hS hI hl
  obtain⟨n0,xs0,hO⟩:=hS.sc
  obtain⟨ps,cs,rfl,_,_⟩:=hO.form
  refine does3 Tryz.func49 rfl rfl rfl ?_
  have he:Evo (M) w w:=Evo.refl w
  refine WC.seq<|WC.region ?_
  refine WL.q rfl (r_assign rfl) ?_
  refine WL.q rfl (r_assign rfl) ?_
  refine WL.q rfl (r_assign rfl) ?_
  refine WL.nil ?_
  refine WC.seq<|WC.region ?_
  refine WL.q rfl (r_move rfl) ?_
  refine WL.l rfl (l_do body_71 rfl (hR _ _ _ _ hI)) fun v1 w1 hh=>?_
  obtain⟨⟨m1,rfl,hI⟩,e1⟩:=hh
  refine WL.q rfl (r_move rfl) ?_
  refine WL.q rfl (r_extract rfl rfl) ?_
  refine WL.q rfl (r_extract rfl rfl) ?_
  refine WL.q rfl (r_extract rfl rfl) ?_
  refine WL.q rfl (r_assign rfl) ?_
  refine WL.q rfl (r_assign rfl) ?_
  refine WL.q rfl (r_assign rfl) ?_
  refine WL.nil ?_
  refine WC.seq<|WC.seq<|WC.region ?_
  refine WL.q rfl (r_move rfl) ?_
  refine WL.q rfl (r_ifneNil ift_44 rfl) ?_
  refine WL.nil ?_
  refine WC.condF rfl ?_
  refine WC.skip ?_
  refine WC.seq<|WC.region ?_
  refine WL.q rfl (r_move rfl) ?_
  refine WL.q rfl (r_slice sl_27 rfl rfl rfl rfl rfl (Nat.zero_le _) (Nat.zero_le _)) ?_
  refine WL.q rfl (r_move rfl) ?_
  replace hS:=hS.mono e1
  replace hO:=hO.mono e1
  refine WL.l rfl (l_do body_72 rfl (SAppI_ok hS (own_cut0 hO) (own_cut hO (Nat.zero_le _)).2 h0 h1)) fun v2 w2 hh=>?_
  obtain⟨hS,hB,e2⟩:=hh
  refine WL.q rfl (r_assign rfl) ?_
  refine WL.nil ?_
  refine WC.seq<|WC.region ?_
  refine WL.q rfl (r_move rfl) ?_
  refine WL.q rfl (r_move rfl) ?_
  refine WL.l rfl (l_invoke mW body_172 rfl rfl (SWrite_ok hS (by omega) (by omega) hB)) fun v3 w3 hh=>?_
  obtain⟨rfl,tv',hS,e3⟩:=hh
  refine WL.q rfl (r_move rfl) ?_
  refine WL.q rfl (r_extract rfl rfl) ?_
  refine WL.q rfl (r_extract rfl rfl) ?_
  refine WL.q rfl (r_assign rfl) ?_
  refine WL.nil ?_
  refine WC.seq<|WC.region ?_
  refine WL.q rfl (r_move rfl) ?_
  refine WL.q rfl (r_move rfl) ?_
  refine WL.q rfl (r_move rfl) ?_
  refine WL.q rfl (r_assign rfl) ?_
  refine WL.q rfl (r_assign rfl) ?_
  refine WL.q rfl (r_assign rfl) ?_
  refine WL.nil ?_
  refine WC.ret ?_
  replace hI:=(hI.mono e2).mono e3
  replace he:=((he.then e1).then e2).then e3
  exact fin3 rfl rfl rfl ⟨_,_,_,_,rfl,rfl,hI,hS,he⟩
theorem rwUint_ok{dep:Int}{bs:List UInt8}{i:Nat}(hR:∀(A:Nat→Prop) (v:Value) (r:List UInt8) (w:World),IsB A w v (bs++r)→Does Tryz.prog 73 [v] w fun u w'=>(∃v',u= .tuple #[.int .u64 (i:Int),v',.nilIface]∧IsB A w' v' r)∧Ext w w')
    (h1:i<18446744073709551616) (hlen:(Lib.decDigits i).length≤1000):RW 50 bs dep 1000 (· =Lib.decDigits i):=by
  intro M w tb l tv sv msg r hS hI hl
  obtain⟨n0,xs0,hO⟩:=hS.sc
  obtain⟨ps,cs,rfl,_,_⟩:=hO.form
  refine does3 Tryz.func50 rfl rfl rfl ?_
  have he:Evo (M) w w:=Evo.refl w
  refine WC.seq<|WC.region ?_
  refine WL.q rfl (r_assign rfl) ?_
  refine WL.q rfl (r_assign rfl) ?_
  refine WL.q rfl (r_assign rfl) ?_
  refine WL.nil ?_
  refine WC.seq<|WC.region ?_
  refine WL.q rfl (r_move rfl) ?_
  refine WL.l rfl (l_do body_73 rfl (hR _ _ _ _ hI)) fun v1 w1 hh=>?_
  obtain⟨⟨m1,rfl,hI⟩,e1⟩:=hh
  refine WL.q rfl (r_move rfl) ?_
  refine WL.q rfl (r_extract rfl rfl) ?_
  refine WL.q rfl (r_extract rfl rfl) ?_
  refine WL.q rfl (r_extract rfl rfl) ?_
  refine WL.q rfl (r_assign rfl) ?_
  refine WL.q rfl (r_assign rfl) ?_
  refine WL.q rfl (r_assign rfl) ?_
  refine WL.nil ?_
  refine WC.seq<|WC.seq<|WC.region ?_
  refine WL.q rfl (r_move rfl) ?_
  refine WL.q rfl (r_ifneNil ift_44 rfl) ?_
  refine WL.nil ?_
  refine WC.condF rfl ?_
  refine WC.skip ?_
  refine WC.seq<|WC.region ?_
  refine WL.q rfl (r_move rfl) ?_
  refine WL.q rfl (r_slice sl_27 rfl rfl rfl rfl rfl (Nat.zero_le _) (Nat.zero_le _)) ?_
  refine WL.q rfl (r_move rfl) ?_
  replace hS:=hS.mono e1
  replace hO:=hO.mono e1
  refine WL.l rfl (l_do body_74 rfl (SAppU_ok hS (own_cut0 hO) (own_cut hO (Nat.zero_le _)).2 h1)) fun v2 w2 hh=>?_
  obtain⟨hS,hB,e2⟩:=hh
  refine WL.q rfl (r_assign rfl) ?_
  refine WL.nil ?_
  refine WC.seq<|WC.region ?_
  refine WL.q rfl (r_move rfl) ?_
  refine WL.q rfl (r_move rfl) ?_
  refine WL.l rfl (l_invoke mW body_172 rfl rfl (SWrite_ok hS (by omega) (by omega) hB)) fun v3 w3 hh=>?_
  obtain⟨rfl,tv',hS,e3⟩:=hh
  refine WL.q rfl (r_move rfl) ?_
  refine WL.q rfl (r_extract rfl rfl) ?_
  refine WL.q rfl (r_extract rfl rfl) ?_
  refine WL.q rfl (r_assign rfl) ?_
  refine WL.nil ?_
  refine WC.seq<|WC.region ?_
  refine WL.q rfl (r_move rfl) ?_
  refine WL.q rfl (r_move rfl) ?_
  refine WL.q rfl (r_move rfl) ?_
  refine WL.q rfl (r_assign rfl) ?_
  refine WL.q rfl (r_assign rfl) ?_
  refine WL.q rfl (r_assign rfl) ?_
  refine WL.nil ?_
  refine WC.ret ?_
  replace hI:=(hI.mono e2).mono e3
  replace he:=((he.then e1).then e2).then e3
  exact fin3 rfl rfl rfl ⟨_,_,_,_,rfl,rfl,hI,hS,he⟩
end Go.Proofs.LL
set_option maxRecDepth 20000
namespace Go.Proofs.LL
open Go Go.Proofs Go.RowKit
theorem body_60:bodyB Tryz.prog 60=true:=by kernel_rfl
theorem body_61:bodyB Tryz.prog 61=true:=by kernel_rfl
theorem body_62:bodyB Tryz.prog 62=true:=by kernel_rfl
theorem body_63:bodyB Tryz.prog 63=true:=by kernel_rfl
section
variable {M:Nat→Prop} {w w':World} {tb eb n:Nat} {l t:List UInt8} {xs:List Value} {tv sv sv' v:Value}
theorem St.recut(h:St M w tb l tv sv)(hO:∃n xs,Own 0 5 1 w sv' n xs)(hob:sv'.ownBlock=sv.ownBlock):St M w tb l tv sv':=
  ⟨h.tx,hO,by rw[hob];exact h.st,fun k hk=>by rw[hob];exact h.sx k hk,fun b hb=>by rw[hob];exact h.out b hb,h.bnd,h.m0,h.m1,h.m7,h.ut,h.pt⟩
theorem SByteO_ok{c:UInt8}(h:St M w tb l tv sv)(hO:Own 0 5 1 w sv n xs)(hl:l.length≤1000000000000):
    Does Tryz.prog 173 [.pointer (some ⟨tb,0,none⟩),.int .u8 (c.toNat:Int)] w fun r w'=>r= .nilIface∧∃tv',St M w' tb (l++[c]) tv' sv∧Own 0 5 1 w' sv n xs∧Evo M w w':=
  (WByte_ok h.tx hl).imp fun r w' ⟨h1,v',h2,h3⟩=>⟨h1,v',(h.write h2 h3).1,hO.monoB h3.evo fun k hk=>⟨fun e=>h.st (by rw[hk,e]),fun e=>h.sx k e hk⟩,(h.write h2 h3).2⟩
theorem SEnc_ok(h:St M w tb l tv sv)(hO:Own 0 5 1 w sv ((t.length+2) / 3 * 4) xs)(hE:EncB w eb)(hne:sv.ownBlock≠some eb)(hV:IsB M w v t)(ht:t.length≤1000000):
    Does Tryz.prog 63 [.pointer (some ⟨eb,0,none⟩),sv,v] w fun r w'=>r= .tuple #[]∧St M w' tb l tv sv∧Own 0 5 1 w' sv (b64 t).length (bc (b64 t))∧Evo M w w':=by
  rcases List.eq_nil_or_concat t with rfl|hc
  · refine(Encode_nil hV).imp fun r w' ⟨h1,h2⟩=>⟨h1,h.ext h2,?_,h2.weaken fun _ _ _=>trivial⟩
    have hl:=hO.length
    have hx:xs=[]:=List.eq_nil_of_length_eq_zero (by simpa using hl)
    subst hx
    exact hO.mono h2
  · have hpos:0<t.length:=by obtain⟨a,b,rfl⟩:=hc;simp
    have hbl:=b64_len t
    rw[← hbl]at hO
    obtain⟨h1,h2⟩:=hO.row
    rcases h2 with⟨_,h3⟩|⟨g,cap,cur,rfl,h4,h5,h6,h7,h8,h9⟩
    · omega
    · have hK:BlkT 5 w g cur.toList:=by unfold BlkT;rw[Array.toArray_toList];exact h5
      have hA:∀b,M b→b≠g:=fun b hb e=>(h.out b hb).2.2 (by rw[e];rfl)
      have hcl:cur.toList.length=cap:=by simp[h8]
      have hgl:(b64 t).length≤cur.toList.length:=by rw[hcl];exact h6
      refine(Encode_ok hE hV hA (fun e=>hne (by rw[e];rfl)) hK rfl h6 hgl hpos ht).imp fun r w' ⟨q1,q2,q3⟩=>?_
      have hO':Own 0 5 1 w' (.slice (some ⟨g,0,none⟩) (b64 t).length cap) (b64 t).length (bc (b64 t)):=by
        refine⟨⟨by simp,.inr ⟨g,cap,_,rfl,h4,q2,h6,h7,?_,?_⟩⟩⟩
        · simp;omega
        · simp
      have q4:=h.scr (w':=w') hO' (fun k _ h=>h) (q3.weaken fun k _ hk e=>hk (by rw[e];rfl))
      exact⟨q1,q4.1,hO',q4.2⟩
end
theorem rwBin_ok{dep:Int}{hd t:List UInt8}(hh:HeadP (-1) 0 binF t.length hd)(ht:t.length≤131072):RW 43 (hd++t) dep (2 * t.length+20) (· =qt (b64 t)):=by
  intro M w tb l tv sv msg r hS hI hl
  rw[List.append_assoc]at hI
  obtain⟨n0,xs0,hO⟩:=hS.sc
  obtain⟨ps,cs,rfl,_,_⟩:=hO.form
  have hbl:=b64_len t
  refine does3 Tryz.func43 rfl rfl rfl ?_
  have he:Evo (M) w w:=Evo.refl w
  refine WC.seq<|WC.region ?_
  refine WL.q rfl (r_assign rfl) ?_
  refine WL.q rfl (r_assign rfl) ?_
  refine WL.q rfl (r_assign rfl) ?_
  refine WL.nil ?_
  refine WC.seq<|WC.region ?_
  refine WL.q rfl (r_move rfl) ?_
  refine WL.l rfl (l_do body_60 rfl (RBytes_ok hh ht hI)) fun v1 w1 hh=>?_
  obtain⟨⟨vt,m1,rfl,hV,hI⟩,e1⟩:=hh
  obtain⟨pv,cv,rfl,_,_⟩:=id hV
  have ns1:w.heap.size≤w1.heap.size:=e1.size
  refine WL.q rfl (r_move rfl) ?_
  refine WL.q rfl (r_extract rfl rfl) ?_
  refine WL.q rfl (r_extract rfl rfl) ?_
  refine WL.q rfl (r_extract rfl rfl) ?_
  refine WL.q rfl (r_assign rfl) ?_
  refine WL.q rfl (r_assign rfl) ?_
  refine WL.q rfl (r_assign rfl) ?_
  refine WL.nil ?_
  refine WC.seq<|WC.seq<|WC.region ?_
  refine WL.q rfl (r_move rfl) ?_
  refine WL.q rfl (r_ifneNil ift_44 rfl) ?_
  refine WL.nil ?_
  refine WC.condF rfl ?_
  refine WC.skip ?_
  refine WC.seq<|WC.region ?_
  refine WL.l rfl (l_do body_61 rfl (std_ok)) fun v2 w2 hh=>?_
  obtain⟨eb,rfl,qeb,hE0,e2⟩:=hh
  have ns2:w1.heap.size≤w2.heap.size:=e2.size
  refine WL.q rfl (r_move rfl) ?_
  refine WL.q rfl (r_len sl_27 rfl) ?_
  refine WL.l rfl (l_do body_62 rfl (EncLen_ok (n:=t.length) hE0 (by omega))) fun v3 w3 hh=>?_
  obtain⟨rfl,e3⟩:=hh
  have ns3:w2.heap.size≤w3.heap.size:=e3.size
  refine WL.q rfl (r_assign rfl) ?_
  refine WL.nil ?_
  refine WC.seq<|WC.seq<|WC.region ?_
  refine WL.q rfl (r_move rfl) ?_
  refine WL.q rfl (r_cap sl_27 rfl) ?_
  refine WL.q rfl (r_move rfl) ?_
  refine WL.q rfl (r_geq rfl rfl) ?_
  refine WL.nil ?_
  replace hS:=((hS.mono e1).mono e2).mono e3
  have qS:=hS
  have hU:=Since.mk (Evo.refl (A:=M) w3)
  replace hI:=(hI.mono e2).mono e3
  replace hO:=((hO.mono e1).mono e2).mono e3
  replace hV:=(hV.mono e2).mono e3
  replace he:=((he.then e1).then e2).then e3
  refine WC.thenJ (ι:=Value) [(0,_),(1,_),(8,_),(9,_),(10,_),(11,_),(12,_)] (fun i=>[(2,i)]) (fun i wi=>(∃xs,Own 0 5 1 wi i ((t.length+2) / 3 * 4) xs)∧St M wi tb l tv i∧Evo M w3 wi) (.cons rfl (.cons rfl (.cons rfl (.cons rfl (.cons rfl (.cons rfl (.cons rfl .nil))))))) ?_ ?_
  · rcases Nat.lt_or_ge cs ((t.length+2) / 3 * 4)with qc|qc
    · skip
      refine WC.condF (congrArg (fun b=>some (Value.bool b)) (decide_eq_false (show¬(cs:Int)≥(((t.length+2) / 3 * 4:Nat):Int) by omega))) ?_
      refine WC.region ?_
      refine WL.q rfl (r_move rfl) ?_
      have hs4:=he.size
      refine WL.l rfl (l_make slz_27 rfl rfl rfl rfl (by omega) (by simp only[maxLen];omega)) fun v4 w4 hh=>?_
      obtain⟨rfl,hW,e4⟩:=hh
      have ns4:w3.heap.size≤w4.heap.size:=e4.size
      refine WL.q rfl (r_assign rfl) ?_
      refine WL.nil ?_
      replace hU:=hU.mono e4
      have qU:=hU.evo
      have qO:=Own.low ⟨hW⟩ (Nat.zero_le _)
      exact⟨_,(.cons rfl (.cons rfl (.cons rfl (.cons rfl (.cons rfl (.cons rfl (.cons rfl .nil))))))),(.cons rfl .nil),⟨⟨_,qO⟩,(St.scr qS qO (fun k hk _ e=>by simp only[Value.ownBlock,Option.some.injEq]at e;omega) (Evo.weaken (A:=fun _=>True) (by assumption) fun _ _ _=>trivial)).1,qU⟩⟩
    · skip
      refine WC.condT (congrArg (fun b=>some (Value.bool b)) (decide_eq_true (show(cs:Int)≥(((t.length+2) / 3 * 4:Nat):Int) by omega))) ?_
      refine WC.region ?_
      refine WL.q rfl (r_move rfl) ?_
      refine WL.q rfl (r_move rfl) ?_
      refine WL.q rfl (r_slice sl_27 rfl rfl rfl rfl rfl (Nat.zero_le _) qc) ?_
      refine WL.q rfl (r_assign rfl) ?_
      refine WL.nil ?_
      have qU:=hU.evo
      have qO:=hO
      exact⟨_,(.cons rfl (.cons rfl (.cons rfl (.cons rfl (.cons rfl (.cons rfl (.cons rfl .nil))))))),(.cons rfl .nil),⟨(own_cut qO qc).1,qS.recut ⟨_,(own_cut qO qc).1⟩ (own_cut qO qc).2,qU⟩⟩
  · skip
    intro i wj hh;obtain⟨⟨xs,hO⟩,hS,hE⟩:=hh
    have qol:=hO.lt
    refine WC.seq<|WC.region ?_
    refine WL.l rfl (l_do body_61 rfl (std_ok)) fun v4 w4 hh=>?_
    obtain⟨eb2,rfl,qeb2,hE1,e4⟩:=hh
    have ns4:wj.heap.size≤w4.heap.size:=e4.size
    refine WL.q rfl (r_move rfl) ?_
    refine WL.q rfl (r_move rfl) ?_
    replace hS:=hS.mono e4
    replace hO:=hO.mono e4
    replace hV:=(hV.mono hE).mono e4
    refine WL.l rfl (l_do body_63 rfl (SEnc_ok hS hO hE1 (fun e=>by have:=qol _ e;omega) hV (by omega))) fun v5 w5 hh=>?_
    obtain⟨rfl,hS,hO,e5⟩:=hh
    have ns5:w4.heap.size≤w5.heap.size:=e5.size
    refine WL.nil ?_
    refine WC.seq<|WC.region ?_
    refine WL.q rfl (r_move rfl) ?_
    refine WL.l rfl (l_invoke mWB body_173 rfl rfl (SByteO_ok (c:=34) hS hO (by omega))) fun v6 w6 hh=>?_
    obtain⟨rfl,tv1,hS,hO,e6⟩:=hh
    have ns6:w5.heap.size≤w6.heap.size:=e6.size
    refine WL.q rfl (r_assign rfl) ?_
    refine WL.nil ?_
    refine WC.seq<|WC.seq<|WC.region ?_
    refine WL.q rfl (r_move rfl) ?_
    refine WL.q rfl (r_ifneNil ift_44 rfl) ?_
    refine WL.nil ?_
    refine WC.condF rfl ?_
    refine WC.skip ?_
    refine WC.seq<|WC.region ?_
    refine WL.q rfl (r_move rfl) ?_
    refine WL.q rfl (r_move rfl) ?_
    refine WL.l rfl (l_invoke mW body_172 rfl rfl (SWrite_ok hS (by simp;omega) (by omega) (Own.toB (A:=fun _=>True) hO))) fun v7 w7 hh=>?_
    obtain⟨rfl,tv2,hS,e7⟩:=hh
    have ns7:w6.heap.size≤w7.heap.size:=e7.size
    refine WL.q rfl (r_move rfl) ?_
    refine WL.q rfl (r_extract rfl rfl) ?_
    refine WL.q rfl (r_extract rfl rfl) ?_
    refine WL.q rfl (r_assign rfl) ?_
    refine WL.nil ?_
    refine WC.seq<|WC.seq<|WC.region ?_
    refine WL.q rfl (r_move rfl) ?_
    refine WL.q rfl (r_ifneNil ift_44 rfl) ?_
    refine WL.nil ?_
    refine WC.condF rfl ?_
    refine WC.skip ?_
    refine WC.seq<|WC.region ?_
    refine WL.q rfl (r_move rfl) ?_
    refine WL.l rfl (l_invoke mWB body_173 rfl rfl (SByte_ok (c:=34) hS (by simp;omega))) fun v8 w8 hh=>?_
    obtain⟨rfl,tv3,hS,e8⟩:=hh
    have ns8:w7.heap.size≤w8.heap.size:=e8.size
    refine WL.q rfl (r_assign rfl) ?_
    refine WL.nil ?_
    refine WC.seq<|WC.region ?_
    refine WL.q rfl (r_move rfl) ?_
    refine WL.q rfl (r_move rfl) ?_
    refine WL.q rfl (r_move rfl) ?_
    refine WL.q rfl (r_assign rfl) ?_
    refine WL.q rfl (r_assign rfl) ?_
    refine WL.q rfl (r_assign rfl) ?_
    refine WL.nil ?_
    refine WC.ret ?_
    replace hI:=(((((hI.mono hE).mono e4).mono e5).mono e6).mono e7).mono e8
    replace he:=(((((he.then hE).then e4).then e5).then e6).then e7).then e8
    exact fin3 rfl rfl rfl ⟨_,_,_,_,rfl,rfl,hI,(by simpa[qt]using hS),he⟩
end Go.Proofs.LL
