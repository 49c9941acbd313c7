/- Contracts of functions and own laws. Conditions: those that each theorem states. -/
import Derived.Test.YtbkhpjeaacoobaaGreatDoorA18
set_option linter.all false
set_option maxRecDepth 20000
namespace Go.Proofs.LL
open Go Go.Proofs Go.RowKit
theorem IsB.dropI{A:Nat→Prop}{w:World}{b o c k:Nat}{bs:List UInt8}(hc:bs.length≤c)(hA:A b)(hB:BytesAt w b o bs)(hk:k≤bs.length):IsB A w (.slice (if c=k then some ⟨b,o,none⟩else(some (⟨b,o,none⟩:Addr)).map (·.add (k * 1))) (bs.length-k) (c-k)) (bs.drop k):=by
  have hl:(bs.drop k).length=bs.length-k:=by simp
  refine⟨_,_,by rw[hl],by omega,fun hne=>?_⟩
  have hpos:0<(bs.drop k).length:=List.length_pos_iff.2 hne
  rw[if_neg (by omega)]
  refine⟨b,o+k * 1,by rw[Option.map_some,Addr_add],hA,fun j hj=>?_⟩
  have h1:=hB (k+j) (by simp at hj;omega)
  rw[show o+k * 1+j=o+(k+j) by omega,h1]
  simp[List.getElem_drop]
theorem BytesAt.c0{w:World}{b o:Nat}{x:UInt8}{r:List UInt8}(h:BytesAt w b o (x::r)):w.cell? ⟨b,o+0 * 1,none⟩=some (.int .u8 (x.toNat:Int)):=h 0 (by simp)
theorem ReadNil_ok{A:Nat→Prop}{v:Value}{r:List UInt8}{w:World}(hI:IsB A w v (192::r)):
    Does Tryz.prog 75 [v] w fun u w'=>(∃v',u= .tuple #[v',.nilIface]∧IsB A w' v' r)∧Ext w w':=by
  obtain⟨b,o,c,rfl,hc,hA,hB⟩:=hI.open (by simp)
  have hl:(192::r:List UInt8).length=r.length+1:=rfl
  refine does2 Tryz.func75 rfl rfl rfl ?_
  have he:Evo (fun _=>True) w w:=Evo.refl w
  refine WC.seq<|WC.region ?_
  refine WL.q rfl (r_assign rfl) ?_
  refine WL.q rfl (r_assign rfl) ?_
  refine WL.nil ?_
  refine WC.seq<|WC.seq<|WC.region ?_
  refine WL.q rfl (r_move rfl) ?_
  refine WL.q rfl (r_len sl_27 rfl) ?_
  refine WL.q rfl (r_cmp (r_lss rfl rfl) (decide_eq_false (by(rw[hl];omega)))) ?_
  refine WL.nil ?_
  refine WC.condF rfl ?_
  refine WC.skip ?_
  refine WC.seq<|WC.seq<|WC.region ?_
  refine WL.q rfl (r_move rfl) ?_
  refine WL.q rfl (r_idx sl_27 rfl rfl (show(0:Int)=((0:Nat):Int)from rfl) (by omega)) ?_
  refine WL.q rfl (r_load one_5 rfl (Ext.refl _) hB.c0) ?_
  refine WL.q rfl (r_cmp (r_neq rfl rfl) (bneF (rfl))) ?_
  refine WL.nil ?_
  refine WC.condF rfl ?_
  refine WC.skip ?_
  refine WC.seq<|WC.region ?_
  refine WL.q rfl (r_move rfl) ?_
  refine WL.q rfl (r_slicel sl_27 rfl rfl (show(1:Int)=((1:Nat):Int)from rfl) (by omega)) ?_
  refine WL.q rfl (r_assign rfl) ?_
  refine WL.q rfl (r_assign rfl) ?_
  refine WL.nil ?_
  refine WC.ret ?_
  exact fin2 rfl rfl ⟨⟨_,rfl,IsB.dropI (k:=1) hc hA hB (by omega)⟩,he⟩
theorem ReadBool195_ok{A:Nat→Prop}{v:Value}{r:List UInt8}{w:World}(hI:IsB A w v (195::r)):
    Does Tryz.prog 70 [v] w fun u w'=>(∃v',u= .tuple #[.bool true,v',.nilIface]∧IsB A w' v' r)∧Ext w w':=by
  obtain⟨b,o,c,rfl,hc,hA,hB⟩:=hI.open (by simp)
  have hl:(195::r:List UInt8).length=r.length+1:=rfl
  refine does3 Tryz.func70 rfl rfl rfl ?_
  have he:Evo (fun _=>True) w w:=Evo.refl w
  refine WC.seq<|WC.region ?_
  refine WL.q rfl (r_assign rfl) ?_
  refine WL.q rfl (r_assign rfl) ?_
  refine WL.q rfl (r_assign rfl) ?_
  refine WL.nil ?_
  refine WC.seq<|WC.seq<|WC.region ?_
  refine WL.q rfl (r_move rfl) ?_
  refine WL.q rfl (r_len sl_27 rfl) ?_
  refine WL.q rfl (r_cmp (r_lss rfl rfl) (decide_eq_false (by(rw[hl];omega)))) ?_
  refine WL.nil ?_
  refine WC.condF rfl ?_
  refine WC.skip ?_
  refine WC.seq<|WC.region ?_
  refine WL.q rfl (r_move rfl) ?_
  refine WL.q rfl (r_idx sl_27 rfl rfl (show(0:Int)=((0:Nat):Int)from rfl) (by omega)) ?_
  refine WL.q rfl (r_load one_5 rfl (Ext.refl _) hB.c0) ?_
  refine WL.nil ?_
  refine WC.block ?_
  refine WC.seq<|WC.region ?_
  refine WL.q rfl (r_cmp (r_eql rfl rfl) (beqT (rfl))) ?_
  refine WL.q rfl (r_assign rfl) ?_
  refine WL.nil ?_
  refine WC.condT rfl ?_
  refine WC.seq<|WC.regionD [(true,0),(true,1),(true,2),(true,3),(true,4)] (Ext _) mixed (by kernel_rfl) (Ext.drew _) ?_
  refine WD.q rfl (fun _ hS=>r_move rfl) ?_
  refine WD.q rfl (fun _ hS=>r_slicel sl_27 rfl rfl (show(1:Int)=((1:Nat):Int)from rfl) (by omega)) ?_
  refine WD.q rfl (fun _ hS=>r_assign rfl) ?_
  refine WD.q rfl (fun _ hS=>r_assign rfl) ?_
  refine WD.q rfl (fun _ hS=>r_assign rfl) ?_
  refine WD.nil ?_
  refine WC.ret ?_
  replace hB:=hB.mono (Ext.drew _)
  replace he:=he.then (Ext.drew _)
  exact fin3 rfl rfl rfl ⟨⟨_,rfl,IsB.dropI (k:=1) hc hA hB (by omega)⟩,he⟩
theorem ReadBool194_ok{A:Nat→Prop}{v:Value}{r:List UInt8}{w:World}(hI:IsB A w v (194::r)):
    Does Tryz.prog 70 [v] w fun u w'=>(∃v',u= .tuple #[.bool false,v',.nilIface]∧IsB A w' v' r)∧Ext w w':=by
  obtain⟨b,o,c,rfl,hc,hA,hB⟩:=hI.open (by simp)
  have hl:(194::r:List UInt8).length=r.length+1:=rfl
  refine does3 Tryz.func70 rfl rfl rfl ?_
  have he:Evo (fun _=>True) w w:=Evo.refl w
  refine WC.seq<|WC.region ?_
  refine WL.q rfl (r_assign rfl) ?_
  refine WL.q rfl (r_assign rfl) ?_
  refine WL.q rfl (r_assign rfl) ?_
  refine WL.nil ?_
  refine WC.seq<|WC.seq<|WC.region ?_
  refine WL.q rfl (r_move rfl) ?_
  refine WL.q rfl (r_len sl_27 rfl) ?_
  refine WL.q rfl (r_cmp (r_lss rfl rfl) (decide_eq_false (by(rw[hl];omega)))) ?_
  refine WL.nil ?_
  refine WC.condF rfl ?_
  refine WC.skip ?_
  refine WC.seq<|WC.region ?_
  refine WL.q rfl (r_move rfl) ?_
  refine WL.q rfl (r_idx sl_27 rfl rfl (show(0:Int)=((0:Nat):Int)from rfl) (by omega)) ?_
  refine WL.q rfl (r_load one_5 rfl (Ext.refl _) hB.c0) ?_
  refine WL.nil ?_
  refine WC.block ?_
  refine WC.seq<|WC.region ?_
  refine WL.q rfl (r_cmp (r_eql rfl rfl) (beqF (by(decide)))) ?_
  refine WL.q rfl (r_assign rfl) ?_
  refine WL.nil ?_
  refine WC.condF rfl ?_
  refine WC.seq<|WC.region ?_
  refine WL.q rfl (r_cmp (r_eql rfl rfl) (beqT (rfl))) ?_
  refine WL.q rfl (r_assign rfl) ?_
  refine WL.nil ?_
  refine WC.condT rfl ?_
  refine WC.seq<|WC.regionD [(true,0),(true,1),(true,2),(true,3),(true,4)] (Ext _) mixed (by kernel_rfl) (Ext.drew _) ?_
  refine WD.q rfl (fun _ hS=>r_move rfl) ?_
  refine WD.q rfl (fun _ hS=>r_slicel sl_27 rfl rfl (show(1:Int)=((1:Nat):Int)from rfl) (by omega)) ?_
  refine WD.q rfl (fun _ hS=>r_assign rfl) ?_
  refine WD.q rfl (fun _ hS=>r_assign rfl) ?_
  refine WD.q rfl (fun _ hS=>r_assign rfl) ?_
  refine WD.nil ?_
  refine WC.ret ?_
  replace hB:=hB.mono (Ext.drew _)
  replace he:=he.then (Ext.drew _)
  exact fin3 rfl rfl rfl ⟨⟨_,rfl,IsB.dropI (k:=1) hc hA hB (by omega)⟩,he⟩
theorem isfixint_ok{z:Int}{w:World}(h0:0≤z)(h1:z<256):
    Does Tryz.prog 97 [.int .u8 z] w fun r w'=>r= .bool (decide (z<128))∧Ext w w':=by
  have e:(z.fdiv (2^(min (7:Int).toNat IntKind.u8.bits))==0)=decide (z<128):=by
    have e1:(2:Int)^(min (7:Int).toNat IntKind.u8.bits)=128:=by decide
    rw[e1,Int.fdiv_eq_ediv_of_nonneg _ (by omega)]
    rcases Int.lt_or_le z 128 with h|h
    · rw[decide_eq_true h,beqT (by omega)]
    · rw[decide_eq_false (by omega),beqF (by omega)]
  refine does1 Tryz.func97 rfl rfl rfl ?_
  have he:Evo (fun _=>True) w w:=Evo.refl w
  refine WC.seq<|WC.region ?_
  refine WL.q rfl (r_assign rfl) ?_
  refine WL.nil ?_
  refine WC.seq<|WC.region ?_
  refine WL.q rfl (r_move rfl) ?_
  refine WL.q rfl (r_shr rfl rfl (by decide)) ?_
  refine WL.q rfl (r_eql rfl rfl) ?_
  refine WL.q rfl (r_assign rfl) ?_
  refine WL.nil ?_
  refine WC.ret ?_
  exact fin1 rfl ⟨congrArg Value.bool e,he⟩
theorem masks_u8(m c:Nat)(hm:m<256){z:Int}(h0:0≤z)(h1:z<256):bits .and .u8 z (m:Int)=((z.toNat&&&m:Nat):Int):=by
  obtain⟨n,rfl⟩:=Int.eq_ofNat_of_zero_le h0
  exact(bits_nat .u8 8 (by decide) (fun n h0 h1=>wraps_u8 n h0 h1) n m (by omega) (by simpa using hm)).1
theorem and224:∀n:Fin 256,(n.val&&&224==224)=decide (224≤n.val)∧(n.val&&&224==160)=decide (160≤n.val∧n.val<192)∧(n.val&&&240==128)=decide (128≤n.val∧n.val<144)∧(n.val&&&240==144)=decide (144≤n.val∧n.val<160):=by decide
theorem isnfixint_ok{z:Int}{w:World}(h0:0≤z)(h1:z<256):
    Does Tryz.prog 99 [.int .u8 z] w fun r w'=>r= .bool (decide (224≤z))∧Ext w w':=by
  have e:(bits .and .u8 z 224==224)=decide (224≤z):=by
    have e1:=masks_u8 224 0 (by decide) h0 h1
    have e2:=(and224 ⟨z.toNat,by omega⟩).1
    rw[show((224:Nat):Int)=224 from rfl]at e1
    rw[e1]
    rw[Bool.eq_iff_iff]at e2⊢
    simp only[beq_iff_eq,decide_eq_true_eq]at e2⊢
    omega
  refine does1 Tryz.func99 rfl rfl rfl ?_
  have he:Evo (fun _=>True) w w:=Evo.refl w
  refine WC.seq<|WC.region ?_
  refine WL.q rfl (r_assign rfl) ?_
  refine WL.nil ?_
  refine WC.seq<|WC.region ?_
  refine WL.q rfl (r_move rfl) ?_
  refine WL.q rfl (r_bitand rfl rfl) ?_
  refine WL.q rfl (r_eql rfl rfl) ?_
  refine WL.q rfl (r_assign rfl) ?_
  refine WL.nil ?_
  refine WC.ret ?_
  exact fin1 rfl ⟨congrArg Value.bool e,he⟩
theorem isfixstr_ok{z:Int}{w:World}(h0:0≤z)(h1:z<256):
    Does Tryz.prog 84 [.int .u8 z] w fun r w'=>r= .bool (decide (160≤z∧z<192))∧Ext w w':=by
  have e:(bits .and .u8 z 224==160)=decide (160≤z∧z<192):=by
    have e1:=masks_u8 224 0 (by decide) h0 h1
    have e2:=(and224 ⟨z.toNat,by omega⟩).2.1
    rw[show((224:Nat):Int)=224 from rfl]at e1
    rw[e1]
    rw[Bool.eq_iff_iff]at e2⊢
    simp only[beq_iff_eq,decide_eq_true_eq]at e2⊢
    omega
  refine does1 Tryz.func84 rfl rfl rfl ?_
  have he:Evo (fun _=>True) w w:=Evo.refl w
  refine WC.seq<|WC.region ?_
  refine WL.q rfl (r_assign rfl) ?_
  refine WL.nil ?_
  refine WC.seq<|WC.region ?_
  refine WL.q rfl (r_move rfl) ?_
  refine WL.q rfl (r_bitand rfl rfl) ?_
  refine WL.q rfl (r_eql rfl rfl) ?_
  refine WL.q rfl (r_assign rfl) ?_
  refine WL.nil ?_
  refine WC.ret ?_
  exact fin1 rfl ⟨congrArg Value.bool e,he⟩
theorem isfixmap_ok{z:Int}{w:World}(h0:0≤z)(h1:z<256):
    Does Tryz.prog 90 [.int .u8 z] w fun r w'=>r= .bool (decide (128≤z∧z<144))∧Ext w w':=by
  have e:(bits .and .u8 z 240==128)=decide (128≤z∧z<144):=by
    have e1:=masks_u8 240 0 (by decide) h0 h1
    have e2:=(and224 ⟨z.toNat,by omega⟩).2.2.1
    rw[show((240:Nat):Int)=240 from rfl]at e1
    rw[e1]
    rw[Bool.eq_iff_iff]at e2⊢
    simp only[beq_iff_eq,decide_eq_true_eq]at e2⊢
    omega
  refine does1 Tryz.func90 rfl rfl rfl ?_
  have he:Evo (fun _=>True) w w:=Evo.refl w
  refine WC.seq<|WC.region ?_
  refine WL.q rfl (r_assign rfl) ?_
  refine WL.nil ?_
  refine WC.seq<|WC.region ?_
  refine WL.q rfl (r_move rfl) ?_
  refine WL.q rfl (r_bitand rfl rfl) ?_
  refine WL.q rfl (r_eql rfl rfl) ?_
  refine WL.q rfl (r_assign rfl) ?_
  refine WL.nil ?_
  refine WC.ret ?_
  exact fin1 rfl ⟨congrArg Value.bool e,he⟩
theorem isfixarray_ok{z:Int}{w:World}(h0:0≤z)(h1:z<256):
    Does Tryz.prog 91 [.int .u8 z] w fun r w'=>r= .bool (decide (144≤z∧z<160))∧Ext w w':=by
  have e:(bits .and .u8 z 240==144)=decide (144≤z∧z<160):=by
    have e1:=masks_u8 240 0 (by decide) h0 h1
    have e2:=(and224 ⟨z.toNat,by omega⟩).2.2.2
    rw[show((240:Nat):Int)=240 from rfl]at e1
    rw[e1]
    rw[Bool.eq_iff_iff]at e2⊢
    simp only[beq_iff_eq,decide_eq_true_eq]at e2⊢
    omega
  refine does1 Tryz.func91 rfl rfl rfl ?_
  have he:Evo (fun _=>True) w w:=Evo.refl w
  refine WC.seq<|WC.region ?_
  refine WL.q rfl (r_assign rfl) ?_
  refine WL.nil ?_
  refine WC.seq<|WC.region ?_
  refine WL.q rfl (r_move rfl) ?_
  refine WL.q rfl (r_bitand rfl rfl) ?_
  refine WL.q rfl (r_eql rfl rfl) ?_
  refine WL.q rfl (r_assign rfl) ?_
  refine WL.nil ?_
  refine WC.ret ?_
  exact fin1 rfl ⟨congrArg Value.bool e,he⟩
end Go.Proofs.LL
set_option maxRecDepth 20000
namespace Go.Proofs.LL
open Go Go.Proofs Go.RowKit
theorem cv_5_112:cvInt Tryz.prog 5 112=some .u32:=by kernel_rfl
theorem cv_5_22:cvInt Tryz.prog 5 22=some .u64:=by kernel_rfl
theorem be2(a b:UInt8):be [a,b]=a.toNat * 256+b.toNat:=by simp[be]
theorem be4(a b c d:UInt8):be [a,b,c,d]=((a.toNat * 256+b.toNat) * 256+c.toNat) * 256+d.toNat:=by simp[be]
theorem be8(a b c d e f g h:UInt8):be [a,b,c,d,e,f,g,h]=((((((a.toNat * 256+b.toNat) * 256+c.toNat) * 256+d.toNat) * 256+e.toNat) * 256+f.toNat) * 256+g.toNat) * 256+h.toNat:=by simp[be]
theorem u8_lt(a:UInt8):(a.toNat:Int)<256:=by have:=a.toNat_lt;omega
theorem wu16{n:Int}(h0:0≤n)(h1:n<65536):IntKind.u16.wrap n=n:=u16_wrap_id n h0 h1
theorem wu32{n:Int}(h0:0≤n)(h1:n<4294967296):IntKind.u32.wrap n=n:=u32_wrap_id n h0 h1
theorem wu64{n:Int}(h0:0≤n)(h1:n<18446744073709551616):IntKind.u64.wrap n=n:=u64_wrap_id n h0 h1
theorem beu16(a b:UInt8):(bits .or .u16 (IntKind.u16.wrap (b.toNat:Int)) (IntKind.u16.wrap (IntKind.u16.wrap (a.toNat:Int) * 2^(min (8:Int).toNat IntKind.u16.bits))))=((be [a,b]:Nat):Int):=by
  have ha:=u8_lt a;have hb:=u8_lt b
  have e1:(2:Int)^(min (8:Int).toNat IntKind.u16.bits)=256:=by decide
  have wa:IntKind.u16.wrap (a.toNat:Int)=a.toNat:=wu16 (by omega) (by omega)
  have wb:IntKind.u16.wrap (b.toNat:Int)=b.toNat:=wu16 (by omega) (by omega)
  have va:IntKind.u16.wrap ((a.toNat:Int) * 256)=a.toNat * 256:=wu16 (by omega) (by omega)
  rw[e1,wa,wb,va]
  rw[u16_or8 ((b.toNat:Int)) ((a.toNat:Int) * 256) (by omega) (by omega) (by omega) (by omega) (by omega)]
  rw[be2]
  push_cast;omega
theorem beu32(a b c d:UInt8):(bits .or .u32 (bits .or .u32 (bits .or .u32 (IntKind.u32.wrap (d.toNat:Int)) (IntKind.u32.wrap (IntKind.u32.wrap (c.toNat:Int) * 2^(min (8:Int).toNat IntKind.u32.bits)))) (IntKind.u32.wrap (IntKind.u32.wrap (b.toNat:Int) * 2^(min (16:Int).toNat IntKind.u32.bits)))) (IntKind.u32.wrap (IntKind.u32.wrap (a.toNat:Int) * 2^(min (24:Int).toNat IntKind.u32.bits))))=((be [a,b,c,d]:Nat):Int):=by
  have ha:=u8_lt a;have hb:=u8_lt b;have hc:=u8_lt c;have hd:=u8_lt d
  have e1:(2:Int)^(min (8:Int).toNat IntKind.u32.bits)=256:=by decide
  have e2:(2:Int)^(min (16:Int).toNat IntKind.u32.bits)=65536:=by decide
  have e3:(2:Int)^(min (24:Int).toNat IntKind.u32.bits)=16777216:=by decide
  have wa:IntKind.u32.wrap (a.toNat:Int)=a.toNat:=wu32 (by omega) (by omega)
  have wb:IntKind.u32.wrap (b.toNat:Int)=b.toNat:=wu32 (by omega) (by omega)
  have wc:IntKind.u32.wrap (c.toNat:Int)=c.toNat:=wu32 (by omega) (by omega)
  have wd:IntKind.u32.wrap (d.toNat:Int)=d.toNat:=wu32 (by omega) (by omega)
  have vc:IntKind.u32.wrap ((c.toNat:Int) * 256)=c.toNat * 256:=wu32 (by omega) (by omega)
  have vb:IntKind.u32.wrap ((b.toNat:Int) * 65536)=b.toNat * 65536:=wu32 (by omega) (by omega)
  have va:IntKind.u32.wrap ((a.toNat:Int) * 16777216)=a.toNat * 16777216:=wu32 (by omega) (by omega)
  rw[e1,e2,e3,wa,wb,wc,wd,va,vb,vc]
  rw[u32_or8 ((d.toNat:Int)) ((c.toNat:Int) * 256) (by omega) (by omega) (by omega) (by omega) (by omega)]
  rw[u32_or16 (((d.toNat:Int)+(c.toNat:Int) * 256)) ((b.toNat:Int) * 65536) (by omega) (by omega) (by omega) (by omega) (by omega)]
  rw[u32_or24 ((((d.toNat:Int)+(c.toNat:Int) * 256)+(b.toNat:Int) * 65536)) ((a.toNat:Int) * 16777216) (by omega) (by omega) (by omega) (by omega) (by omega)]
  rw[be4]
  push_cast;omega
theorem beu64(a b c d e f g h:UInt8):(bits .or .u64 (bits .or .u64 (bits .or .u64 (bits .or .u64 (bits .or .u64 (bits .or .u64 (bits .or .u64 (IntKind.u64.wrap (h.toNat:Int)) (IntKind.u64.wrap (IntKind.u64.wrap (g.toNat:Int) * 2^(min (8:Int).toNat IntKind.u64.bits)))) (IntKind.u64.wrap (IntKind.u64.wrap (f.toNat:Int) * 2^(min (16:Int).toNat IntKind.u64.bits)))) (IntKind.u64.wrap (IntKind.u64.wrap (e.toNat:Int) * 2^(min (24:Int).toNat IntKind.u64.bits)))) (IntKind.u64.wrap (IntKind.u64.wrap (d.toNat:Int) * 2^(min (32:Int).toNat IntKind.u64.bits)))) (IntKind.u64.wrap (IntKind.u64.wrap (c.toNat:Int) * 2^(min (40:Int).toNat IntKind.u64.bits)))) (IntKind.u64.wrap (IntKind.u64.wrap (b.toNat:Int) * 2^(min (48:Int).toNat IntKind.u64.bits)))) (IntKind.u64.wrap (IntKind.u64.wrap (a.toNat:Int) * 2^(min (56:Int).toNat IntKind.u64.bits))))=((be [a,b,c,d,e,f,g,h]:Nat):Int):=by
  have ha:=u8_lt a;have hb:=u8_lt b;have hc:=u8_lt c;have hd:=u8_lt d;have he:=u8_lt e;have hf:=u8_lt f;have hg:=u8_lt g;have hh:=u8_lt h
  have e1:(2:Int)^(min (8:Int).toNat IntKind.u64.bits)=256:=by decide
  have e2:(2:Int)^(min (16:Int).toNat IntKind.u64.bits)=65536:=by decide
  have e3:(2:Int)^(min (24:Int).toNat IntKind.u64.bits)=16777216:=by decide
  have e4:(2:Int)^(min (32:Int).toNat IntKind.u64.bits)=4294967296:=by decide
  have e5:(2:Int)^(min (40:Int).toNat IntKind.u64.bits)=1099511627776:=by decide
  have e6:(2:Int)^(min (48:Int).toNat IntKind.u64.bits)=281474976710656:=by decide
  have e7:(2:Int)^(min (56:Int).toNat IntKind.u64.bits)=72057594037927936:=by decide
  have wa:IntKind.u64.wrap (a.toNat:Int)=a.toNat:=wu64 (by omega) (by omega)
  have wb:IntKind.u64.wrap (b.toNat:Int)=b.toNat:=wu64 (by omega) (by omega)
  have wc:IntKind.u64.wrap (c.toNat:Int)=c.toNat:=wu64 (by omega) (by omega)
  have wd:IntKind.u64.wrap (d.toNat:Int)=d.toNat:=wu64 (by omega) (by omega)
  have we:IntKind.u64.wrap (e.toNat:Int)=e.toNat:=wu64 (by omega) (by omega)
  have wf:IntKind.u64.wrap (f.toNat:Int)=f.toNat:=wu64 (by omega) (by omega)
  have wg:IntKind.u64.wrap (g.toNat:Int)=g.toNat:=wu64 (by omega) (by omega)
  have wh:IntKind.u64.wrap (h.toNat:Int)=h.toNat:=wu64 (by omega) (by omega)
  have vg:IntKind.u64.wrap ((g.toNat:Int) * 256)=g.toNat * 256:=wu64 (by omega) (by omega)
  have vf:IntKind.u64.wrap ((f.toNat:Int) * 65536)=f.toNat * 65536:=wu64 (by omega) (by omega)
  have ve:IntKind.u64.wrap ((e.toNat:Int) * 16777216)=e.toNat * 16777216:=wu64 (by omega) (by omega)
  have vd:IntKind.u64.wrap ((d.toNat:Int) * 4294967296)=d.toNat * 4294967296:=wu64 (by omega) (by omega)
  have vc:IntKind.u64.wrap ((c.toNat:Int) * 1099511627776)=c.toNat * 1099511627776:=wu64 (by omega) (by omega)
  have vb:IntKind.u64.wrap ((b.toNat:Int) * 281474976710656)=b.toNat * 281474976710656:=wu64 (by omega) (by omega)
  have va:IntKind.u64.wrap ((a.toNat:Int) * 72057594037927936)=a.toNat * 72057594037927936:=wu64 (by omega) (by omega)
  rw[e1,e2,e3,e4,e5,e6,e7,wa,wb,wc,wd,we,wf,wg,wh,va,vb,vc,vd,ve,vf,vg]
  rw[u64_or8 ((h.toNat:Int)) ((g.toNat:Int) * 256) (by omega) (by omega) (by omega) (by omega) (by omega)]
  rw[u64_or16 (((h.toNat:Int)+(g.toNat:Int) * 256)) ((f.toNat:Int) * 65536) (by omega) (by omega) (by omega) (by omega) (by omega)]
  rw[u64_or24 ((((h.toNat:Int)+(g.toNat:Int) * 256)+(f.toNat:Int) * 65536)) ((e.toNat:Int) * 16777216) (by omega) (by omega) (by omega) (by omega) (by omega)]
  rw[u64_or32 (((((h.toNat:Int)+(g.toNat:Int) * 256)+(f.toNat:Int) * 65536)+(e.toNat:Int) * 16777216)) ((d.toNat:Int) * 4294967296) (by omega) (by omega) (by omega) (by omega) (by omega)]
  rw[u64_or40 ((((((h.toNat:Int)+(g.toNat:Int) * 256)+(f.toNat:Int) * 65536)+(e.toNat:Int) * 16777216)+(d.toNat:Int) * 4294967296)) ((c.toNat:Int) * 1099511627776) (by omega) (by omega) (by omega) (by omega) (by omega)]
  rw[u64_or48 (((((((h.toNat:Int)+(g.toNat:Int) * 256)+(f.toNat:Int) * 65536)+(e.toNat:Int) * 16777216)+(d.toNat:Int) * 4294967296)+(c.toNat:Int) * 1099511627776)) ((b.toNat:Int) * 281474976710656) (by omega) (by omega) (by omega) (by omega) (by omega)]
  rw[u64_or56 ((((((((h.toNat:Int)+(g.toNat:Int) * 256)+(f.toNat:Int) * 65536)+(e.toNat:Int) * 16777216)+(d.toNat:Int) * 4294967296)+(c.toNat:Int) * 1099511627776)+(b.toNat:Int) * 281474976710656)) ((a.toNat:Int) * 72057594037927936) (by omega) (by omega) (by omega) (by omega) (by omega)]
  rw[be8]
  push_cast;omega
theorem Uint16_ok{A:Nat→Prop}{v:Value}{a b:UInt8}{r:List UInt8}{w:World}(hv:IsB A w v (a::b::r)):
    Does Tryz.prog 85 [.agg #[],v] w fun u w'=>u= .int .u16 ((be [a,b]:Nat):Int)∧Ext w w':=by
  obtain⟨pb,po,cp,rfl,hc,hA,hD⟩:=hv.open (by simp)
  simp only[List.length_cons]at hc
  have d0:=hD.get 0 (by simp)
  have d1:=hD.get 1 (by simp)
  simp only[List.getElem_cons_zero,List.getElem_cons_succ]at d0 d1
  refine does1 Tryz.func85 rfl rfl rfl ?_
  refine WC.seq<|WC.region ?_
  refine WL.l rfl (l_boxAgg rfl) fun _ w1 hh=>?_
  obtain⟨rfl,hb1,e1⟩:=hh
  refine WL.q rfl (r_assign rfl) ?_
  refine WL.nil ?_
  refine WC.seq<|WC.region ?_
  refine WL.q rfl (r_move rfl) ?_
  refine WL.q rfl (r_idx1 sl_27 rfl rfl rfl (by first|omega|(simp;done)|(simp;omega))) ?_
  refine WL.q rfl (r_load one_5 rfl e1 (by first|exact d0|exact d1)) ?_
  refine WL.nil ?_
  refine WC.seq<|WC.regionD [(true,0),(true,1),(true,2),(true,3),(true,4),(true,5),(true,6),(true,7),(true,8),(true,9),(true,10)] (Ext w1) mixed (by kernel_rfl) (Ext.drew _) ?_
  refine WD.q rfl (fun _ hS=>r_move rfl) ?_
  refine WD.q rfl (fun _ hS=>r_idx1 sl_27 rfl rfl rfl (by first|omega|(simp;done)|(simp;omega))) ?_
  refine WD.q rfl (fun _ hS=>r_load one_5 rfl (e1.trans hS) (by first|exact d0|exact d1)) ?_
  refine WD.q rfl (fun _ hS=>r_cvInt cv_5_143 rfl) ?_
  refine WD.q rfl (fun _ hS=>r_move rfl) ?_
  refine WD.q rfl (fun _ hS=>r_idx1 sl_27 rfl rfl rfl (by first|omega|(simp;done)|(simp;omega))) ?_
  refine WD.q rfl (fun _ hS=>r_load one_5 rfl (e1.trans hS) (by first|exact d0|exact d1)) ?_
  refine WD.q rfl (fun _ hS=>r_cvInt cv_5_143 rfl) ?_
  refine WD.q rfl (fun _ hS=>r_shl rfl rfl (by decide)) ?_
  refine WD.q rfl (fun _ hS=>r_bitor rfl rfl) ?_
  refine WD.q rfl (fun _ hS=>r_as (r_assign rfl) (beu16 a b)) ?_
  refine WD.nil ?_
  refine WC.ret ?_
  exact fin1 rfl ⟨rfl,e1.trans (Ext.drew _)⟩
theorem Uint32_ok{A:Nat→Prop}{v:Value}{a b c d:UInt8}{r:List UInt8}{w:World}(hv:IsB A w v (a::b::c::d::r)):
    Does Tryz.prog 86 [.agg #[],v] w fun u w'=>u= .int .u32 ((be [a,b,c,d]:Nat):Int)∧Ext w w':=by
  obtain⟨pb,po,cp,rfl,hc,hA,hD⟩:=hv.open (by simp)
  simp only[List.length_cons]at hc
  have d0:=hD.get 0 (by simp)
  have d1:=hD.get 1 (by simp)
  have d2:=hD.get 2 (by simp)
  have d3:=hD.get 3 (by simp)
  simp only[List.getElem_cons_zero,List.getElem_cons_succ]at d0 d1 d2 d3
  refine does1 Tryz.func86 rfl rfl rfl ?_
  refine WC.seq<|WC.region ?_
  refine WL.l rfl (l_boxAgg rfl) fun _ w1 hh=>?_
  obtain⟨rfl,hb1,e1⟩:=hh
  refine WL.q rfl (r_assign rfl) ?_
  refine WL.nil ?_
  refine WC.seq<|WC.region ?_
  refine WL.q rfl (r_move rfl) ?_
  refine WL.q rfl (r_idx1 sl_27 rfl rfl rfl (by first|omega|(simp;done)|(simp;omega))) ?_
  refine WL.q rfl (r_load one_5 rfl e1 (by first|exact d0|exact d1|exact d2|exact d3)) ?_
  refine WL.nil ?_
  refine WC.seq<|WC.regionD [(true,0),(true,1),(true,2),(true,3),(true,4),(true,5),(true,6),(true,7),(true,8),(true,9),(true,10),(true,11),(true,12),(true,13),(true,14),(true,15),(true,16),(true,17),(true,18),(true,19),(true,20),(true,21),(true,22)] (Ext w1) mixed (by kernel_rfl) (Ext.drew _) ?_
  refine WD.q rfl (fun _ hS=>r_move rfl) ?_
  refine WD.q rfl (fun _ hS=>r_idx1 sl_27 rfl rfl rfl (by first|omega|(simp;done)|(simp;omega))) ?_
  refine WD.q rfl (fun _ hS=>r_load one_5 rfl (e1.trans hS) (by first|exact d0|exact d1|exact d2|exact d3)) ?_
  refine WD.q rfl (fun _ hS=>r_cvInt cv_5_112 rfl) ?_
  refine WD.q rfl (fun _ hS=>r_move rfl) ?_
  refine WD.q rfl (fun _ hS=>r_idx1 sl_27 rfl rfl rfl (by first|omega|(simp;done)|(simp;omega))) ?_
  refine WD.q rfl (fun _ hS=>r_load one_5 rfl (e1.trans hS) (by first|exact d0|exact d1|exact d2|exact d3)) ?_
  refine WD.q rfl (fun _ hS=>r_cvInt cv_5_112 rfl) ?_
  refine WD.q rfl (fun _ hS=>r_shl rfl rfl (by decide)) ?_
  refine WD.q rfl (fun _ hS=>r_bitor rfl rfl) ?_
  refine WD.q rfl (fun _ hS=>r_move rfl) ?_
  refine WD.q rfl (fun _ hS=>r_idx1 sl_27 rfl rfl rfl (by first|omega|(simp;done)|(simp;omega))) ?_
  refine WD.q rfl (fun _ hS=>r_load one_5 rfl (e1.trans hS) (by first|exact d0|exact d1|exact d2|exact d3)) ?_
  refine WD.q rfl (fun _ hS=>r_cvInt cv_5_112 rfl) ?_
  refine WD.q rfl (fun _ hS=>r_shl rfl rfl (by decide)) ?_
  refine WD.q rfl (fun _ hS=>r_bitor rfl rfl) ?_
  refine WD.q rfl (fun _ hS=>r_move rfl) ?_
  refine WD.q rfl (fun _ hS=>r_idx1 sl_27 rfl rfl rfl (by first|omega|(simp;done)|(simp;omega))) ?_
  refine WD.q rfl (fun _ hS=>r_load one_5 rfl (e1.trans hS) (by first|exact d0|exact d1|exact d2|exact d3)) ?_
  refine WD.q rfl (fun _ hS=>r_cvInt cv_5_112 rfl) ?_
  refine WD.q rfl (fun _ hS=>r_shl rfl rfl (by decide)) ?_
  refine WD.q rfl (fun _ hS=>r_bitor rfl rfl) ?_
  refine WD.q rfl (fun _ hS=>r_as (r_assign rfl) (beu32 a b c d)) ?_
  refine WD.nil ?_
  refine WC.ret ?_
  exact fin1 rfl ⟨rfl,e1.trans (Ext.drew _)⟩
theorem Uint64_ok{A:Nat→Prop}{v:Value}{a b c d e f g h:UInt8}{r:List UInt8}{w:World}(hv:IsB A w v (a::b::c::d::e::f::g::h::r)):
    Does Tryz.prog 101 [.agg #[],v] w fun u w'=>u= .int .u64 ((be [a,b,c,d,e,f,g,h]:Nat):Int)∧Ext w w':=by
  obtain⟨pb,po,cp,rfl,hc,hA,hD⟩:=hv.open (by simp)
  simp only[List.length_cons]at hc
  have d0:=hD.get 0 (by simp)
  have d1:=hD.get 1 (by simp)
  have d2:=hD.get 2 (by simp)
  have d3:=hD.get 3 (by simp)
  have d4:=hD.get 4 (by simp)
  have d5:=hD.get 5 (by simp)
  have d6:=hD.get 6 (by simp)
  have d7:=hD.get 7 (by simp)
  simp only[List.getElem_cons_zero,List.getElem_cons_succ]at d0 d1 d2 d3 d4 d5 d6 d7
  refine does1 Tryz.func101 rfl rfl rfl ?_
  refine WC.seq<|WC.region ?_
  refine WL.l rfl (l_boxAgg rfl) fun _ w1 hh=>?_
  obtain⟨rfl,hb1,e1⟩:=hh
  refine WL.q rfl (r_assign rfl) ?_
  refine WL.nil ?_
  refine WC.seq<|WC.region ?_
  refine WL.q rfl (r_move rfl) ?_
  refine WL.q rfl (r_idx1 sl_27 rfl rfl rfl (by first|omega|(simp;done)|(simp;omega))) ?_
  refine WL.q rfl (r_load one_5 rfl e1 (by first|exact d0|exact d1|exact d2|exact d3|exact d4|exact d5|exact d6|exact d7)) ?_
  refine WL.nil ?_
  refine WC.seq<|WC.regionD [(true,0),(true,1),(true,2),(true,3),(true,4),(true,5),(true,6),(true,7),(true,8),(true,9),(true,10),(true,11),(true,12),(true,13),(true,14),(true,15),(true,16),(true,17),(true,18),(true,19),(true,20),(true,21),(true,22),(true,23),(true,24),(true,25),(true,26),(true,27),(true,28),(true,29),(true,30),(true,31),(true,32),(true,33),(true,34),(true,35),(true,36),(true,37),(true,38),(true,39),(true,40),(true,41),(true,42),(true,43),(true,44),(true,45),(true,46)] (Ext w1) mixed (by kernel_rfl) (Ext.drew _) ?_
  refine WD.q rfl (fun _ hS=>r_move rfl) ?_
  refine WD.q rfl (fun _ hS=>r_idx1 sl_27 rfl rfl rfl (by first|omega|(simp;done)|(simp;omega))) ?_
  refine WD.q rfl (fun _ hS=>r_load one_5 rfl (e1.trans hS) (by first|exact d0|exact d1|exact d2|exact d3|exact d4|exact d5|exact d6|exact d7)) ?_
  refine WD.q rfl (fun _ hS=>r_cvInt cv_5_22 rfl) ?_
  refine WD.q rfl (fun _ hS=>r_move rfl) ?_
  refine WD.q rfl (fun _ hS=>r_idx1 sl_27 rfl rfl rfl (by first|omega|(simp;done)|(simp;omega))) ?_
  refine WD.q rfl (fun _ hS=>r_load one_5 rfl (e1.trans hS) (by first|exact d0|exact d1|exact d2|exact d3|exact d4|exact d5|exact d6|exact d7)) ?_
  refine WD.q rfl (fun _ hS=>r_cvInt cv_5_22 rfl) ?_
  refine WD.q rfl (fun _ hS=>r_shl rfl rfl (by decide)) ?_
  refine WD.q rfl (fun _ hS=>r_bitor rfl rfl) ?_
  refine WD.q rfl (fun _ hS=>r_move rfl) ?_
  refine WD.q rfl (fun _ hS=>r_idx1 sl_27 rfl rfl rfl (by first|omega|(simp;done)|(simp;omega))) ?_
  refine WD.q rfl (fun _ hS=>r_load one_5 rfl (e1.trans hS) (by first|exact d0|exact d1|exact d2|exact d3|exact d4|exact d5|exact d6|exact d7)) ?_
  refine WD.q rfl (fun _ hS=>r_cvInt cv_5_22 rfl) ?_
  refine WD.q rfl (fun _ hS=>r_shl rfl rfl (by decide)) ?_
  refine WD.q rfl (fun _ hS=>r_bitor rfl rfl) ?_
  refine WD.q rfl (fun _ hS=>r_move rfl) ?_
  refine WD.q rfl (fun _ hS=>r_idx1 sl_27 rfl rfl rfl (by first|omega|(simp;done)|(simp;omega))) ?_
  refine WD.q rfl (fun _ hS=>r_load one_5 rfl (e1.trans hS) (by first|exact d0|exact d1|exact d2|exact d3|exact d4|exact d5|exact d6|exact d7)) ?_
  refine WD.q rfl (fun _ hS=>r_cvInt cv_5_22 rfl) ?_
  refine WD.q rfl (fun _ hS=>r_shl rfl rfl (by decide)) ?_
  refine WD.q rfl (fun _ hS=>r_bitor rfl rfl) ?_
  refine WD.q rfl (fun _ hS=>r_move rfl) ?_
  refine WD.q rfl (fun _ hS=>r_idx1 sl_27 rfl rfl rfl (by first|omega|(simp;done)|(simp;omega))) ?_
  refine WD.q rfl (fun _ hS=>r_load one_5 rfl (e1.trans hS) (by first|exact d0|exact d1|exact d2|exact d3|exact d4|exact d5|exact d6|exact d7)) ?_
  refine WD.q rfl (fun _ hS=>r_cvInt cv_5_22 rfl) ?_
  refine WD.q rfl (fun _ hS=>r_shl rfl rfl (by decide)) ?_
  refine WD.q rfl (fun _ hS=>r_bitor rfl rfl) ?_
  refine WD.q rfl (fun _ hS=>r_move rfl) ?_
  refine WD.q rfl (fun _ hS=>r_idx1 sl_27 rfl rfl rfl (by first|omega|(simp;done)|(simp;omega))) ?_
  refine WD.q rfl (fun _ hS=>r_load one_5 rfl (e1.trans hS) (by first|exact d0|exact d1|exact d2|exact d3|exact d4|exact d5|exact d6|exact d7)) ?_
  refine WD.q rfl (fun _ hS=>r_cvInt cv_5_22 rfl) ?_
  refine WD.q rfl (fun _ hS=>r_shl rfl rfl (by decide)) ?_
  refine WD.q rfl (fun _ hS=>r_bitor rfl rfl) ?_
  refine WD.q rfl (fun _ hS=>r_move rfl) ?_
  refine WD.q rfl (fun _ hS=>r_idx1 sl_27 rfl rfl rfl (by first|omega|(simp;done)|(simp;omega))) ?_
  refine WD.q rfl (fun _ hS=>r_load one_5 rfl (e1.trans hS) (by first|exact d0|exact d1|exact d2|exact d3|exact d4|exact d5|exact d6|exact d7)) ?_
  refine WD.q rfl (fun _ hS=>r_cvInt cv_5_22 rfl) ?_
  refine WD.q rfl (fun _ hS=>r_shl rfl rfl (by decide)) ?_
  refine WD.q rfl (fun _ hS=>r_bitor rfl rfl) ?_
  refine WD.q rfl (fun _ hS=>r_move rfl) ?_
  refine WD.q rfl (fun _ hS=>r_idx1 sl_27 rfl rfl rfl (by first|omega|(simp;done)|(simp;omega))) ?_
  refine WD.q rfl (fun _ hS=>r_load one_5 rfl (e1.trans hS) (by first|exact d0|exact d1|exact d2|exact d3|exact d4|exact d5|exact d6|exact d7)) ?_
  refine WD.q rfl (fun _ hS=>r_cvInt cv_5_22 rfl) ?_
  refine WD.q rfl (fun _ hS=>r_shl rfl rfl (by decide)) ?_
  refine WD.q rfl (fun _ hS=>r_bitor rfl rfl) ?_
  refine WD.q rfl (fun _ hS=>r_as (r_assign rfl) (beu64 a b c d e f g h)) ?_
  refine WD.nil ?_
  refine WC.ret ?_
  exact fin1 rfl ⟨rfl,e1.trans (Ext.drew _)⟩
end Go.Proofs.LL
