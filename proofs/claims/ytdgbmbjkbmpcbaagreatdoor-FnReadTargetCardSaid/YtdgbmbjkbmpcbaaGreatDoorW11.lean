/- The read buffer: what its methods do. Contracts of functions of impl, spec and laws. Conditions: those that each theorem states. -/
import Derived.Test.YtdgbmbjkbmpcbaaGreatDoorW10
set_option linter.all false
set_option maxRecDepth 20000
namespace Go.Proofs.LL
open Go Go.Proofs Go.RowKit
set_option maxHeartbeats 4000000
attribute [local irreducible] RunOp WL WC WDL WT WX
def Rd(w:World)(rb:Nat)(l:List UInt8):Prop:=∃bs i,Buf w rb bs i∧bs.drop i=l
theorem Rd.mono{A:Nat→Prop}{w w':World}{rb:Nat}{l:List UInt8}(h:Rd w rb l)(e:Evo A w w')(hA:∀b,b≤rb→A b:=by first|assumption|(intro b hb1;first|exact trivial|((try dsimp only[Nb]);omega))):Rd w' rb l:=by
 obtain⟨bs,i,h1,h2⟩:=h
 exact⟨bs,i,h1.mono e hA,h2⟩
theorem Rd.lt{w:World}{rb:Nat}{l:List UInt8}(h:Rd w rb l):rb<w.heap.size:=by
 obtain⟨bs,i,h1,h2⟩:=h
 exact h1.lt
theorem Rd.len{w:World}{rb:Nat}{l:List UInt8}(h:Rd w rb l):l.length≤1099511627776:=by
 obtain⟨bs,i,h1,h2⟩:=h
 have:=h1.le
 rw[← h2,List.length_drop]
 omega
theorem be2(a b:UInt8):be [a,b]=a.toNat * 256+b.toNat:=by simp[be]
theorem be4(a b c d:UInt8):be [a,b,c,d]=((a.toNat * 256+b.toNat) * 256+c.toNat) * 256+d.toNat:=by simp[be]
theorem be8(a b c d e f g h:UInt8):be [a,b,c,d,e,f,g,h]=((((((a.toNat * 256+b.toNat) * 256+c.toNat) * 256+d.toNat) * 256+e.toNat) * 256+f.toNat) * 256+g.toNat) * 256+h.toNat:=by simp[be]
theorem u8_lt(a:UInt8):(a.toNat:Int)<256:=by have:=a.toNat_lt;omega
theorem wu16{n:Int}(h0:0≤n)(h1:n<65536):IntKind.u16.wrap n=n:=u16_wrap_id n h0 h1
theorem wu32{n:Int}(h0:0≤n)(h1:n<4294967296):IntKind.u32.wrap n=n:=u32_wrap_id n h0 h1
theorem wu64{n:Int}(h0:0≤n)(h1:n<18446744073709551616):IntKind.u64.wrap n=n:=u64_wrap_id n h0 h1
theorem beu16(a b:UInt8):(bits .or .u16 (IntKind.u16.wrap (b.toNat:Int)) (IntKind.u16.wrap (IntKind.u16.wrap (a.toNat:Int) * 2^(min (8:Int).toNat IntKind.u16.bits))))=((be [a,b]:Nat):Int):=by
 have ha:=u8_lt a;have hb:=u8_lt b
 have e1:(2:Int)^(min (8:Int).toNat IntKind.u16.bits)=256:=by decide
 have wa:IntKind.u16.wrap (a.toNat:Int)=a.toNat:=wu16 (by omega) (by omega)
 have wb:IntKind.u16.wrap (b.toNat:Int)=b.toNat:=wu16 (by omega) (by omega)
 have va:IntKind.u16.wrap ((a.toNat:Int) * 256)=a.toNat * 256:=wu16 (by omega) (by omega)
 rw[e1,wa,wb,va]
 rw[u16_or8 ((b.toNat:Int)) ((a.toNat:Int) * 256) (by omega) (by omega) (by omega) (by omega) (by omega)]
 rw[be2]
 push_cast;omega
theorem beu32(a b c d:UInt8):(bits .or .u32 (bits .or .u32 (bits .or .u32 (IntKind.u32.wrap (d.toNat:Int)) (IntKind.u32.wrap (IntKind.u32.wrap (c.toNat:Int) * 2^(min (8:Int).toNat IntKind.u32.bits)))) (IntKind.u32.wrap (IntKind.u32.wrap (b.toNat:Int) * 2^(min (16:Int).toNat IntKind.u32.bits)))) (IntKind.u32.wrap (IntKind.u32.wrap (a.toNat:Int) * 2^(min (24:Int).toNat IntKind.u32.bits))))=((be [a,b,c,d]:Nat):Int):=by
 have ha:=u8_lt a;have hb:=u8_lt b;have hc:=u8_lt c;have hd:=u8_lt d
 have e1:(2:Int)^(min (8:Int).toNat IntKind.u32.bits)=256:=by decide
 have e2:(2:Int)^(min (16:Int).toNat IntKind.u32.bits)=65536:=by decide
 have e3:(2:Int)^(min (24:Int).toNat IntKind.u32.bits)=16777216:=by decide
 have wa:IntKind.u32.wrap (a.toNat:Int)=a.toNat:=wu32 (by omega) (by omega)
 have wb:IntKind.u32.wrap (b.toNat:Int)=b.toNat:=wu32 (by omega) (by omega)
 have wc:IntKind.u32.wrap (c.toNat:Int)=c.toNat:=wu32 (by omega) (by omega)
 have wd:IntKind.u32.wrap (d.toNat:Int)=d.toNat:=wu32 (by omega) (by omega)
 have vc:IntKind.u32.wrap ((c.toNat:Int) * 256)=c.toNat * 256:=wu32 (by omega) (by omega)
 have vb:IntKind.u32.wrap ((b.toNat:Int) * 65536)=b.toNat * 65536:=wu32 (by omega) (by omega)
 have va:IntKind.u32.wrap ((a.toNat:Int) * 16777216)=a.toNat * 16777216:=wu32 (by omega) (by omega)
 rw[e1,e2,e3,wa,wb,wc,wd,va,vb,vc]
 rw[u32_or8 ((d.toNat:Int)) ((c.toNat:Int) * 256) (by omega) (by omega) (by omega) (by omega) (by omega)]
 rw[u32_or16 (((d.toNat:Int)+(c.toNat:Int) * 256)) ((b.toNat:Int) * 65536) (by omega) (by omega) (by omega) (by omega) (by omega)]
 rw[u32_or24 ((((d.toNat:Int)+(c.toNat:Int) * 256)+(b.toNat:Int) * 65536)) ((a.toNat:Int) * 16777216) (by omega) (by omega) (by omega) (by omega) (by omega)]
 rw[be4]
 push_cast;omega
theorem beu64(a b c d e f g h:UInt8):(bits .or .u64 (bits .or .u64 (bits .or .u64 (bits .or .u64 (bits .or .u64 (bits .or .u64 (bits .or .u64 (IntKind.u64.wrap (h.toNat:Int)) (IntKind.u64.wrap (IntKind.u64.wrap (g.toNat:Int) * 2^(min (8:Int).toNat IntKind.u64.bits)))) (IntKind.u64.wrap (IntKind.u64.wrap (f.toNat:Int) * 2^(min (16:Int).toNat IntKind.u64.bits)))) (IntKind.u64.wrap (IntKind.u64.wrap (e.toNat:Int) * 2^(min (24:Int).toNat IntKind.u64.bits)))) (IntKind.u64.wrap (IntKind.u64.wrap (d.toNat:Int) * 2^(min (32:Int).toNat IntKind.u64.bits)))) (IntKind.u64.wrap (IntKind.u64.wrap (c.toNat:Int) * 2^(min (40:Int).toNat IntKind.u64.bits)))) (IntKind.u64.wrap (IntKind.u64.wrap (b.toNat:Int) * 2^(min (48:Int).toNat IntKind.u64.bits)))) (IntKind.u64.wrap (IntKind.u64.wrap (a.toNat:Int) * 2^(min (56:Int).toNat IntKind.u64.bits))))=((be [a,b,c,d,e,f,g,h]:Nat):Int):=by
 have ha:=u8_lt a;have hb:=u8_lt b;have hc:=u8_lt c;have hd:=u8_lt d;have he:=u8_lt e;have hf:=u8_lt f;have hg:=u8_lt g;have hh:=u8_lt h
 have e1:(2:Int)^(min (8:Int).toNat IntKind.u64.bits)=256:=by decide
 have e2:(2:Int)^(min (16:Int).toNat IntKind.u64.bits)=65536:=by decide
 have e3:(2:Int)^(min (24:Int).toNat IntKind.u64.bits)=16777216:=by decide
 have e4:(2:Int)^(min (32:Int).toNat IntKind.u64.bits)=4294967296:=by decide
 have e5:(2:Int)^(min (40:Int).toNat IntKind.u64.bits)=1099511627776:=by decide
 have e6:(2:Int)^(min (48:Int).toNat IntKind.u64.bits)=281474976710656:=by decide
 have e7:(2:Int)^(min (56:Int).toNat IntKind.u64.bits)=72057594037927936:=by decide
 have wa:IntKind.u64.wrap (a.toNat:Int)=a.toNat:=wu64 (by omega) (by omega)
 have wb:IntKind.u64.wrap (b.toNat:Int)=b.toNat:=wu64 (by omega) (by omega)
 have wc:IntKind.u64.wrap (c.toNat:Int)=c.toNat:=wu64 (by omega) (by omega)
 have wd:IntKind.u64.wrap (d.toNat:Int)=d.toNat:=wu64 (by omega) (by omega)
 have we:IntKind.u64.wrap (e.toNat:Int)=e.toNat:=wu64 (by omega) (by omega)
 have wf:IntKind.u64.wrap (f.toNat:Int)=f.toNat:=wu64 (by omega) (by omega)
 have wg:IntKind.u64.wrap (g.toNat:Int)=g.toNat:=wu64 (by omega) (by omega)
 have wh:IntKind.u64.wrap (h.toNat:Int)=h.toNat:=wu64 (by omega) (by omega)
 have vg:IntKind.u64.wrap ((g.toNat:Int) * 256)=g.toNat * 256:=wu64 (by omega) (by omega)
 have vf:IntKind.u64.wrap ((f.toNat:Int) * 65536)=f.toNat * 65536:=wu64 (by omega) (by omega)
 have ve:IntKind.u64.wrap ((e.toNat:Int) * 16777216)=e.toNat * 16777216:=wu64 (by omega) (by omega)
 have vd:IntKind.u64.wrap ((d.toNat:Int) * 4294967296)=d.toNat * 4294967296:=wu64 (by omega) (by omega)
 have vc:IntKind.u64.wrap ((c.toNat:Int) * 1099511627776)=c.toNat * 1099511627776:=wu64 (by omega) (by omega)
 have vb:IntKind.u64.wrap ((b.toNat:Int) * 281474976710656)=b.toNat * 281474976710656:=wu64 (by omega) (by omega)
 have va:IntKind.u64.wrap ((a.toNat:Int) * 72057594037927936)=a.toNat * 72057594037927936:=wu64 (by omega) (by omega)
 rw[e1,e2,e3,e4,e5,e6,e7,wa,wb,wc,wd,we,wf,wg,wh,va,vb,vc,vd,ve,vf,vg]
 rw[u64_or8 ((h.toNat:Int)) ((g.toNat:Int) * 256) (by omega) (by omega) (by omega) (by omega) (by omega)]
 rw[u64_or16 (((h.toNat:Int)+(g.toNat:Int) * 256)) ((f.toNat:Int) * 65536) (by omega) (by omega) (by omega) (by omega) (by omega)]
 rw[u64_or24 ((((h.toNat:Int)+(g.toNat:Int) * 256)+(f.toNat:Int) * 65536)) ((e.toNat:Int) * 16777216) (by omega) (by omega) (by omega) (by omega) (by omega)]
 rw[u64_or32 (((((h.toNat:Int)+(g.toNat:Int) * 256)+(f.toNat:Int) * 65536)+(e.toNat:Int) * 16777216)) ((d.toNat:Int) * 4294967296) (by omega) (by omega) (by omega) (by omega) (by omega)]
 rw[u64_or40 ((((((h.toNat:Int)+(g.toNat:Int) * 256)+(f.toNat:Int) * 65536)+(e.toNat:Int) * 16777216)+(d.toNat:Int) * 4294967296)) ((c.toNat:Int) * 1099511627776) (by omega) (by omega) (by omega) (by omega) (by omega)]
 rw[u64_or48 (((((((h.toNat:Int)+(g.toNat:Int) * 256)+(f.toNat:Int) * 65536)+(e.toNat:Int) * 16777216)+(d.toNat:Int) * 4294967296)+(c.toNat:Int) * 1099511627776)) ((b.toNat:Int) * 281474976710656) (by omega) (by omega) (by omega) (by omega) (by omega)]
 rw[u64_or56 ((((((((h.toNat:Int)+(g.toNat:Int) * 256)+(f.toNat:Int) * 65536)+(e.toNat:Int) * 16777216)+(d.toNat:Int) * 4294967296)+(c.toNat:Int) * 1099511627776)+(b.toNat:Int) * 281474976710656)) ((a.toNat:Int) * 72057594037927936) (by omega) (by omega) (by omega) (by omega) (by omega)]
 rw[be8]
 push_cast;omega
theorem Uint16_ok{A:Nat→Prop}{v:Value}{a b:UInt8}{r:List UInt8}{w:World}(hv:IsB A w v (a::b::r)):
  Does TP 197 [.agg #[],v] w fun u w'=>u= .int .u16 ((be [a,b]:Nat):Int)∧Ext w w':=by
 obtain⟨pb,po,cp,rfl,hc,hA,hD⟩:=hv.open (by simp)
 simp only[List.length_cons]at hc
 have d0:=hD.get 0 (by simp)
 have d1:=hD.get 1 (by simp)
 simp only[List.getElem_cons_zero,List.getElem_cons_succ]at d0 d1
 refine do1 Tryz.func197 ?_
 refine q ?_
 refine bx rfl ?_
 rintro _ w1 ⟨rfl,hb1,e1⟩
 refine q ?_
 try refine WL.q rfl (r_load Fb.h rfl e1 (by first|exact d0|exact d1)) ?_
 refine q ?_
 refine WC.regionD (tt [0,1,2,3,4,5,6,7,8,9,10]) (Ext w1) mixed (by kernel_rfl) (Ext.drew _) ?_
 refine q ?_
 try refine WD.q rfl (fun _ hS=>r_load Fb.h rfl (e1.trans hS) (by first|exact d0|exact d1)) ?_
 refine q ?_
 try refine WD.q rfl (fun _ hS=>r_load Fb.h rfl (e1.trans hS) (by first|exact d0|exact d1)) ?_
 refine q ?_
 refine WD.q rfl (fun _ hS=>r_shl rfl rfl (by decide)) ?_
 refine WD.q rfl (fun _ hS=>r_bitor rfl rfl) ?_
 refine WD.q rfl (fun _ hS=>r_as (r_assign rfl) (beu16 a b)) ?_
 refine q ?_
 exact fin1 rfl ⟨rfl,e1.trans (Ext.drew _)⟩
theorem Uint32_ok{A:Nat→Prop}{v:Value}{a b c d:UInt8}{r:List UInt8}{w:World}(hv:IsB A w v (a::b::c::d::r)):
  Does TP 189 [.agg #[],v] w fun u w'=>u= .int .u32 ((be [a,b,c,d]:Nat):Int)∧Ext w w':=by
 obtain⟨pb,po,cp,rfl,hc,hA,hD⟩:=hv.open (by simp)
 simp only[List.length_cons]at hc
 have d0:=hD.get 0 (by simp)
 have d1:=hD.get 1 (by simp)
 have d2:=hD.get 2 (by simp)
 have d3:=hD.get 3 (by simp)
 simp only[List.getElem_cons_zero,List.getElem_cons_succ]at d0 d1 d2 d3
 refine do1 Tryz.func189 ?_
 refine q ?_
 refine bx rfl ?_
 rintro _ w1 ⟨rfl,hb1,e1⟩
 refine q ?_
 try refine WL.q rfl (r_load Fb.h rfl e1 (by first|exact d0|exact d1|exact d2|exact d3)) ?_
 refine q ?_
 refine WC.regionD (tt [0,1,2,3,4,5,6,7,8,9,10,11,12,13,14,15,16,17,18,19,20,21,22]) (Ext w1) mixed (by kernel_rfl) (Ext.drew _) ?_
 refine q ?_
 try refine WD.q rfl (fun _ hS=>r_load Fb.h rfl (e1.trans hS) (by first|exact d0|exact d1|exact d2|exact d3)) ?_
 refine q ?_
 try refine WD.q rfl (fun _ hS=>r_load Fb.h rfl (e1.trans hS) (by first|exact d0|exact d1|exact d2|exact d3)) ?_
 refine q ?_
 refine WD.q rfl (fun _ hS=>r_shl rfl rfl (by decide)) ?_
 refine WD.q rfl (fun _ hS=>r_bitor rfl rfl) ?_
 refine q ?_
 try refine WD.q rfl (fun _ hS=>r_load Fb.h rfl (e1.trans hS) (by first|exact d0|exact d1|exact d2|exact d3)) ?_
 refine q ?_
 refine WD.q rfl (fun _ hS=>r_shl rfl rfl (by decide)) ?_
 refine WD.q rfl (fun _ hS=>r_bitor rfl rfl) ?_
 refine q ?_
 try refine WD.q rfl (fun _ hS=>r_load Fb.h rfl (e1.trans hS) (by first|exact d0|exact d1|exact d2|exact d3)) ?_
 refine q ?_
 refine WD.q rfl (fun _ hS=>r_shl rfl rfl (by decide)) ?_
 refine WD.q rfl (fun _ hS=>r_bitor rfl rfl) ?_
 refine WD.q rfl (fun _ hS=>r_as (r_assign rfl) (beu32 a b c d)) ?_
 refine q ?_
 exact fin1 rfl ⟨rfl,e1.trans (Ext.drew _)⟩
theorem Uint64_ok{A:Nat→Prop}{v:Value}{a b c d e f g h:UInt8}{r:List UInt8}{w:World}(hv:IsB A w v (a::b::c::d::e::f::g::h::r)):
  Does TP 198 [.agg #[],v] w fun u w'=>u= .int .u64 ((be [a,b,c,d,e,f,g,h]:Nat):Int)∧Ext w w':=by
 obtain⟨pb,po,cp,rfl,hc,hA,hD⟩:=hv.open (by simp)
 simp only[List.length_cons]at hc
 have d0:=hD.get 0 (by simp)
 have d1:=hD.get 1 (by simp)
 have d2:=hD.get 2 (by simp)
 have d3:=hD.get 3 (by simp)
 have d4:=hD.get 4 (by simp)
 have d5:=hD.get 5 (by simp)
 have d6:=hD.get 6 (by simp)
 have d7:=hD.get 7 (by simp)
 simp only[List.getElem_cons_zero,List.getElem_cons_succ]at d0 d1 d2 d3 d4 d5 d6 d7
 refine do1 Tryz.func198 ?_
 refine q ?_
 refine bx rfl ?_
 rintro _ w1 ⟨rfl,hb1,e1⟩
 refine q ?_
 try refine WL.q rfl (r_load Fb.h rfl e1 (by first|exact d0|exact d1|exact d2|exact d3|exact d4|exact d5|exact d6|exact d7)) ?_
 refine q ?_
 refine WC.regionD (tt [0,1,2,3,4,5,6,7,8,9,10,11,12,13,14,15,16,17,18,19,20,21,22,23,24,25,26,27,28,29,30,31,32,33,34,35,36,37,38,39,40,41,42,43,44,45,46]) (Ext w1) mixed (by kernel_rfl) (Ext.drew _) ?_
 refine q ?_
 try refine WD.q rfl (fun _ hS=>r_load Fb.h rfl (e1.trans hS) (by first|exact d0|exact d1|exact d2|exact d3|exact d4|exact d5|exact d6|exact d7)) ?_
 refine q ?_
 try refine WD.q rfl (fun _ hS=>r_load Fb.h rfl (e1.trans hS) (by first|exact d0|exact d1|exact d2|exact d3|exact d4|exact d5|exact d6|exact d7)) ?_
 refine q ?_
 refine WD.q rfl (fun _ hS=>r_shl rfl rfl (by decide)) ?_
 refine WD.q rfl (fun _ hS=>r_bitor rfl rfl) ?_
 refine q ?_
 try refine WD.q rfl (fun _ hS=>r_load Fb.h rfl (e1.trans hS) (by first|exact d0|exact d1|exact d2|exact d3|exact d4|exact d5|exact d6|exact d7)) ?_
 refine q ?_
 refine WD.q rfl (fun _ hS=>r_shl rfl rfl (by decide)) ?_
 refine WD.q rfl (fun _ hS=>r_bitor rfl rfl) ?_
 refine q ?_
 try refine WD.q rfl (fun _ hS=>r_load Fb.h rfl (e1.trans hS) (by first|exact d0|exact d1|exact d2|exact d3|exact d4|exact d5|exact d6|exact d7)) ?_
 refine q ?_
 refine WD.q rfl (fun _ hS=>r_shl rfl rfl (by decide)) ?_
 refine WD.q rfl (fun _ hS=>r_bitor rfl rfl) ?_
 refine q ?_
 try refine WD.q rfl (fun _ hS=>r_load Fb.h rfl (e1.trans hS) (by first|exact d0|exact d1|exact d2|exact d3|exact d4|exact d5|exact d6|exact d7)) ?_
 refine q ?_
 refine WD.q rfl (fun _ hS=>r_shl rfl rfl (by decide)) ?_
 refine WD.q rfl (fun _ hS=>r_bitor rfl rfl) ?_
 refine q ?_
 try refine WD.q rfl (fun _ hS=>r_load Fb.h rfl (e1.trans hS) (by first|exact d0|exact d1|exact d2|exact d3|exact d4|exact d5|exact d6|exact d7)) ?_
 refine q ?_
 refine WD.q rfl (fun _ hS=>r_shl rfl rfl (by decide)) ?_
 refine WD.q rfl (fun _ hS=>r_bitor rfl rfl) ?_
 refine q ?_
 try refine WD.q rfl (fun _ hS=>r_load Fb.h rfl (e1.trans hS) (by first|exact d0|exact d1|exact d2|exact d3|exact d4|exact d5|exact d6|exact d7)) ?_
 refine q ?_
 refine WD.q rfl (fun _ hS=>r_shl rfl rfl (by decide)) ?_
 refine WD.q rfl (fun _ hS=>r_bitor rfl rfl) ?_
 refine q ?_
 try refine WD.q rfl (fun _ hS=>r_load Fb.h rfl (e1.trans hS) (by first|exact d0|exact d1|exact d2|exact d3|exact d4|exact d5|exact d6|exact d7)) ?_
 refine q ?_
 refine WD.q rfl (fun _ hS=>r_shl rfl rfl (by decide)) ?_
 refine WD.q rfl (fun _ hS=>r_bitor rfl rfl) ?_
 refine WD.q rfl (fun _ hS=>r_as (r_assign rfl) (beu64 a b c d e f g h)) ?_
 refine q ?_
 exact fin1 rfl ⟨rfl,e1.trans (Ext.drew _)⟩
theorem New_ok{A:Nat→Prop}{db c:Nat}{bs:List UInt8}{w:World}(hD:BytesAt w db 0 bs)(hc:bs.length≤c)(hl:bs.length≤1099511627776)(hdb:db<w.heap.size):
  Does TP 23 [.slice (some ⟨db,0,none⟩) bs.length c] w fun u w'=>u= .pointer (some ⟨w.heap.size,0,none⟩)∧Rd w' w.heap.size bs∧w.heap.size<w'.heap.size∧Ext w w':=by
 refine do1 Tryz.func23 ?_
 refine q ?_
 refine WL.q rfl (r_build rfl (cs:= #[.slice (some ⟨db,0,none⟩) bs.length c,.int .i64 0]) (by kernel_rfl)) ?_
 refine bx rfl ?_
 rintro _ w1 ⟨rfl,hb1,e1⟩
 refine q ?_
 exact fin1 rfl ⟨rfl,⟨bs,0,⟨db,c,hb1,hD.mono e1,hdb,hc,Nat.zero_le _,hl⟩,rfl⟩,hb1.lt,e1⟩
theorem ReadUint16_ok{rb:Nat}{a b:UInt8}{r:List UInt8}{w:World}(hR:Rd w rb (a::b::r)):
  Does TP 191 [.pointer (some ⟨rb,0,none⟩)] w fun u w'=>u= .tuple #[.int .u16 ((be [a,b]:Nat):Int),.nilIface]∧Rd w' rb r∧Evo (Nb rb) w w':=by
 obtain⟨bs,i,hB,hdrop⟩:=hR
 have hB0:=hB
 obtain⟨db,c0,hK,hD,hne,hc,h5,h6⟩:=hB
 have hlen:i+2≤bs.length:=by have:=congrArg List.length hdrop;simp at this;omega
 have hI:IsB (fun k=>k=db) w (.slice (some ⟨db,0,none⟩) bs.length c0) bs:=⟨_,c0,rfl,hc,fun _=>⟨db,0,rfl,rfl,hD⟩⟩
 have h7:=hI.cut i (bs.length-i) (by omega)
 rw[List.take_of_length_le (by simp),hdrop]at h7
 refine do2 Tryz.func191 ?_
 refine q ?_
 refine cl rfl (readCheck_in hB0 (by omega) (by omega)) ?_
 rintro _ w1 ⟨rfl,e1⟩
 refine q ?_
 refine WC.regionD (tt [0,1,2,3,4,5,6,7,8,9]++ff [10]++tt [11]) (Ext w) mixed (by kernel_rfl) (e1.trans (Ext.drew _)) ?_
 refine q ?_
 refine WD.q rfl (fun _ hS=>r_slicel Fo.h rfl rfl rfl (by first|omega|(simp;done)|(simp;omega))) ?_
 refine cd rfl (Uint16_ok (h7.mono (e1.trans (Ext.drew _)))) ?_
 rintro _ w2 ⟨rfl,e2⟩
 refine⟨(e1.trans (Ext.drew _)).trans e2,?_⟩
 replace hK:=hK.mono ((e1.trans (Ext.drew _)).trans e2)
 replace hD:=hD.mono ((e1.trans (Ext.drew _)).trans e2)
 refine q ?_
 refine WL.l0 (lst rfl rfl hK) ?_
 rintro _ w3 ⟨hK,e3,hz3⟩
 refine q ?_
 refine fin2 rfl rfl ⟨rfl,⟨bs,i+2,⟨db,c0,hK,hD.mono e3 (Nat.ne_of_lt hne),hne,hc,hlen,h6⟩,?_⟩,(Evo.of ((e1.trans (Ext.drew _)).trans e2)).trans e3⟩
 rw[← List.drop_drop,hdrop];rfl
theorem ReadUint32_ok{rb:Nat}{a b c d:UInt8}{r:List UInt8}{w:World}(hR:Rd w rb (a::b::c::d::r)):
  Does TP 192 [.pointer (some ⟨rb,0,none⟩)] w fun u w'=>u= .tuple #[.int .u32 ((be [a,b,c,d]:Nat):Int),.nilIface]∧Rd w' rb r∧Evo (Nb rb) w w':=by
 obtain⟨bs,i,hB,hdrop⟩:=hR
 have hB0:=hB
 obtain⟨db,c0,hK,hD,hne,hc,h5,h6⟩:=hB
 have hlen:i+4≤bs.length:=by have:=congrArg List.length hdrop;simp at this;omega
 have hI:IsB (fun k=>k=db) w (.slice (some ⟨db,0,none⟩) bs.length c0) bs:=⟨_,c0,rfl,hc,fun _=>⟨db,0,rfl,rfl,hD⟩⟩
 have h7:=hI.cut i (bs.length-i) (by omega)
 rw[List.take_of_length_le (by simp),hdrop]at h7
 refine do2 Tryz.func192 ?_
 refine q ?_
 refine cl rfl (readCheck_in hB0 (by omega) (by omega)) ?_
 rintro _ w1 ⟨rfl,e1⟩
 refine q ?_
 refine WC.regionD (tt [0,1,2,3,4,5,6,7,8,9]++ff [10]++tt [11]) (Ext w) mixed (by kernel_rfl) (e1.trans (Ext.drew _)) ?_
 refine q ?_
 refine WD.q rfl (fun _ hS=>r_slicel Fo.h rfl rfl rfl (by first|omega|(simp;done)|(simp;omega))) ?_
 refine cd rfl (Uint32_ok (h7.mono (e1.trans (Ext.drew _)))) ?_
 rintro _ w2 ⟨rfl,e2⟩
 refine⟨(e1.trans (Ext.drew _)).trans e2,?_⟩
 replace hK:=hK.mono ((e1.trans (Ext.drew _)).trans e2)
 replace hD:=hD.mono ((e1.trans (Ext.drew _)).trans e2)
 refine q ?_
 refine WL.l0 (lst rfl rfl hK) ?_
 rintro _ w3 ⟨hK,e3,hz3⟩
 refine q ?_
 refine fin2 rfl rfl ⟨rfl,⟨bs,i+4,⟨db,c0,hK,hD.mono e3 (Nat.ne_of_lt hne),hne,hc,hlen,h6⟩,?_⟩,(Evo.of ((e1.trans (Ext.drew _)).trans e2)).trans e3⟩
 rw[← List.drop_drop,hdrop];rfl
theorem ReadUint64_ok{rb:Nat}{a b c d e f g h:UInt8}{r:List UInt8}{w:World}(hR:Rd w rb (a::b::c::d::e::f::g::h::r)):
  Does TP 187 [.pointer (some ⟨rb,0,none⟩)] w fun u w'=>u= .tuple #[.int .u64 ((be [a,b,c,d,e,f,g,h]:Nat):Int),.nilIface]∧Rd w' rb r∧Evo (Nb rb) w w':=by
 obtain⟨bs,i,hB,hdrop⟩:=hR
 have hB0:=hB
 obtain⟨db,c0,hK,hD,hne,hc,h5,h6⟩:=hB
 have hlen:i+8≤bs.length:=by have:=congrArg List.length hdrop;simp at this;omega
 have hI:IsB (fun k=>k=db) w (.slice (some ⟨db,0,none⟩) bs.length c0) bs:=⟨_,c0,rfl,hc,fun _=>⟨db,0,rfl,rfl,hD⟩⟩
 have h7:=hI.cut i (i+8-i) (by omega)
 rw[hdrop,show i+8-i=8 by omega]at h7;simp only[List.take_succ_cons]at h7
 rw[show 8=i+8-i by omega]at h7
 refine do2 Tryz.func187 ?_
 refine q ?_
 refine cl rfl (readCheck_in hB0 (by omega) (by omega)) ?_
 rintro _ w1 ⟨rfl,e1⟩
 refine q ?_
 refine WC.regionD (tt [0,1,2,3,4,5,6,7,8,9,10,11,12,13,14]++ff [15]++tt [16]) (Ext w) mixed (by kernel_rfl) (e1.trans (Ext.drew _)) ?_
 refine q ?_
 refine WD.q rfl (fun _ hS=>r_slice Fo.h rfl rfl rfl rfl (show _=((i+8:Nat):Int) by omega) (by omega) (by omega)) ?_
 refine cd rfl (Uint64_ok (h7.mono (e1.trans (Ext.drew _)))) ?_
 rintro _ w2 ⟨rfl,e2⟩
 refine⟨(e1.trans (Ext.drew _)).trans e2,?_⟩
 replace hK:=hK.mono ((e1.trans (Ext.drew _)).trans e2)
 replace hD:=hD.mono ((e1.trans (Ext.drew _)).trans e2)
 refine q ?_
 refine WL.l0 (lst rfl rfl hK) ?_
 rintro _ w3 ⟨hK,e3,hz3⟩
 refine q ?_
 refine fin2 rfl rfl ⟨rfl,⟨bs,i+8,⟨db,c0,hK,hD.mono e3 (Nat.ne_of_lt hne),hne,hc,hlen,h6⟩,?_⟩,(Evo.of ((e1.trans (Ext.drew _)).trans e2)).trans e3⟩
 rw[← List.drop_drop,hdrop];rfl
theorem ReadByte_ok{rb:Nat}{b:UInt8}{r:List UInt8}{w:World}(hR:Rd w rb (b::r)):
  Does TP 186 [.pointer (some ⟨rb,0,none⟩)] w fun u w'=>u= .tuple #[.int .u8 (b.toNat:Int),.nilIface]∧Rd w' rb r∧Evo (Nb rb) w w':=by
 obtain⟨bs,i,hB,hdrop⟩:=hR
 have hB0:=hB
 obtain⟨db,c0,hK,hD,hne,hc,h5,h6⟩:=hB
 have hlen:i+1≤bs.length:=by have:=congrArg List.length hdrop;simp at this;omega
 have hb:bs[i]=b:=by
  have h0:bs[i]?=some b:=by
   have:=congrArg (fun l:List UInt8=>l[0]?) hdrop
   simpa using this
  exact(List.getElem?_eq_some_iff.1 h0).2
 have hlt:i<bs.length:=hlen
 refine do2 Tryz.func186 ?_
 refine q ?_
 refine cl rfl (readCheck_in hB0 (by omega) (by omega)) ?_
 rintro _ w1 ⟨rfl,e1⟩
 refine q ?_
 refine WC.regionD (tt [0,1,2,3,4,5,6,7,8,9,10]) (Ext w) mixed (by kernel_rfl) (e1.trans (Ext.drew _)) ?_
 refine q ?_
 try refine WD.q rfl (fun _ hS=>r_load Fb.h rfl (id hS) (by first|exact hK.get rfl|exact hD.get i hlt)) ?_
 refine q ?_
 try refine WD.q rfl (fun _ hS=>r_load Fb.h rfl (id hS) (by first|exact hK.get rfl|exact hD.get i hlt)) ?_
 refine q ?_
 try refine WD.q rfl (fun _ hS=>r_load Fb.h rfl (id hS) (by first|exact hK.get rfl|exact hD.get i hlt)) ?_
 replace hK:=hK.mono (e1.trans (Ext.drew _))
 replace hD:=hD.mono (e1.trans (Ext.drew _))
 refine q ?_
 try refine WL.q rfl (r_load Fb.h rfl (Evo.refl _) (by first|exact hK.get rfl|exact hD.get i hlt)) ?_
 refine q ?_
 refine WL.l0 (lst rfl rfl hK) ?_
 rintro _ w3 ⟨hK,e3,hz3⟩
 refine q ?_
 refine fin2 rfl rfl ⟨by rw[hb],⟨bs,i+1,⟨db,c0,hK,hD.mono e3 (Nat.ne_of_lt hne),hne,hc,hlen,h6⟩,?_⟩,(Evo.of (e1.trans (Ext.drew _))).trans e3⟩
 rw[← List.drop_drop,hdrop];rfl
theorem Next_ok{rb n:Nat}{l r:List UInt8}{w:World}(hR:Rd w rb (l++r))(hn:l.length=n):
  Does TP 188 [.pointer (some ⟨rb,0,none⟩),.int .i64 (n:Int)] w fun u w'=>∃v,u= .tuple #[v,.bool true]∧IsB (fun k=>k<rb) w' v l∧Rd w' rb r∧Evo (Nb rb) w w':=by
 obtain⟨bs,i,hB,hdrop⟩:=hR
 have hB0:=hB
 obtain⟨db,c0,hK,hD,hne,hc,h5,h6⟩:=hB
 have hlen:i+n≤bs.length:=by have:=congrArg List.length hdrop;simp at this;omega
 have hI:IsB (fun k=>k<rb) w (.slice (some ⟨db,0,none⟩) bs.length c0) bs:=⟨_,c0,rfl,hc,fun _=>⟨db,0,rfl,hne,hD⟩⟩
 have h7:=hI.cut i n hlen
 rw[hdrop,List.take_append_of_le_length (by omega),List.take_of_length_le (by omega)]at h7
 refine do2 Tryz.func188 ?_
 refine q ?_
 refine cl rfl (readCheck_in hB0 (by omega) (by omega)) ?_
 rintro _ w1 ⟨rfl,e1⟩
 refine q ?_
 refine WC.regionD (tt [0,1,2,3,4,5,6,7,8,9,10,11,12,13,14,15]) (Ext w) mixed (by kernel_rfl) (e1.trans (Ext.drew _)) ?_
 refine q ?_
 refine WD.q rfl (fun _ hS=>r_slice Fo.h rfl rfl rfl rfl (show _=((i+n:Nat):Int) by omega) (by omega) (by omega)) ?_
 replace hK:=hK.mono (e1.trans (Ext.drew _))
 replace hD:=hD.mono (e1.trans (Ext.drew _))
 refine q ?_
 refine WL.l0 (lst rfl rfl hK) ?_
 rintro _ w3 ⟨hK,e3,hz3⟩
 refine q ?_
 refine fin2 rfl rfl ⟨_,rfl,?_,⟨bs,i+n,⟨db,c0,hK,hD.mono e3 (Nat.ne_of_lt hne),hne,hc,hlen,h6⟩,?_⟩,(Evo.of (e1.trans (Ext.drew _))).trans e3⟩
 ·rw[show i+n-i=n by omega]
  exact(h7.mono (e1.trans (Ext.drew _))).mono e3
 ·rw[← List.drop_drop,hdrop,← hn];simp
theorem PeekByteR_ok{rb:Nat}{b:UInt8}{r:List UInt8}{w:World}(hR:Rd w rb (b::r)):
  Does TP 218 [.pointer (some ⟨rb,0,none⟩)] w fun v w'=>v= .tuple #[.int .u8 (b.toNat:Int),.nilIface]∧Ext w w':=by
 obtain⟨bs,i,hB,hdrop⟩:=hR
 refine PeekByte_ok hB ?_
 have:=congrArg (fun l:List UInt8=>l[0]?) hdrop
 simpa using this
theorem LenR_ok{rb:Nat}{l:List UInt8}{w:World}(hR:Rd w rb l):
  Does TP 98 [.pointer (some ⟨rb,0,none⟩)] w fun v w'=>v= .int .i64 (l.length:Int)∧Ext w w':=by
 obtain⟨bs,i,hB,hdrop⟩:=hR
 refine(Len_ok hB).imp fun v w' h=>⟨by rw[h.1,← hdrop,List.length_drop],h.2⟩
theorem BytesR_ok{rb:Nat}{l:List UInt8}{w:World}(hR:Rd w rb l):
  Does TP 27 [.pointer (some ⟨rb,0,none⟩)] w fun v w'=>IsB (fun k=>k<rb) w' v l∧Ext w w':=by
 obtain⟨bs,i,hB,hdrop⟩:=hR
 rw[← hdrop]
 exact Bytes_ok hB
theorem SkipR_ok{rb n:Nat}{l r:List UInt8}{w:World}(hR:Rd w rb (l++r))(hn:l.length=n):
  Does TP 99 [.pointer (some ⟨rb,0,none⟩),.int .i64 (n:Int)] w fun v w'=>v= .tuple #[]∧Rd w' rb r∧Evo (Nb rb) w w':=by
 obtain⟨bs,i,hB,hdrop⟩:=hR
 have hlen:i+n≤bs.length:=by
  have h1:=congrArg List.length hdrop
  have h2:=hB.le
  simp at h1;omega
 refine(Skip_ok hB hlen).imp fun v w' h=>⟨h.1,⟨bs,i+n,h.2.1,?_⟩,h.2.2⟩
 rw[← List.drop_drop,hdrop,← hn];simp
theorem u8ne{b c:UInt8}(h:b≠c):(b.toNat:Int)≠(c.toNat:Int):=fun e=>h (UInt8.toNat_inj.1 (by omega))
theorem readType_ok{rb:Nat}{b:UInt8}{r:List UInt8}{w:World}(hR:Rd w rb (b::r)):
  Does TP 95 [.pointer (some ⟨rb,0,none⟩)] w fun u w'=>u= .tuple #[.int .u8 (b.toNat:Int),.nilIface]∧Rd w' rb r∧Evo (Nb rb) w w':=by
 refine do2 Tryz.func95 ?_
 refine q ?_
 refine cl rfl (ReadByte_ok hR) ?_
 rintro v1 w1 ⟨rfl,hR,e1⟩
 refine q ?_
 exact fin2 rfl rfl ⟨rfl,hR,ch⟩
theorem peekType_ok{rb:Nat}{b:UInt8}{r:List UInt8}{w:World}(hR:Rd w rb (b::r)):
  Does TP 190 [.pointer (some ⟨rb,0,none⟩)] w fun u w'=>u= .tuple #[.int .u8 (b.toNat:Int),.nilIface]∧Ext w w':=by
 refine do2 Tryz.func190 ?_
 refine q ?_
 refine cl rfl (PeekByteR_ok hR) ?_
 rintro v1 w1 ⟨rfl,e1⟩
 refine q ?_
 exact fin2 rfl rfl ⟨rfl,ch⟩
theorem tryReadNull_no{rb:Nat}{b:UInt8}{r:List UInt8}{w:World}(hR:Rd w rb (b::r))(hb:b≠64):
  Does TP 82 [.pointer (some ⟨rb,0,none⟩)] w fun u w'=>u= .bool false∧Ext w w':=by
 have hb':(b.toNat:Int)≠64:=u8ne hb
 have hlen:=hR.len
 simp only[List.length_cons]at hlen
 refine do1 Tryz.func82 ?_
 refine q ?_
 refine cl rfl (LenR_ok hR) ?_
 rintro v1 w1 ⟨rfl,e1⟩
 try refine WL.q rfl (r_cmp (r_gtr rfl rfl) (decide_eq_true (by(simp only[List.length_cons];omega)))) ?_
 refine q ?_
 replace hR:=hR.mono e1
 refine WL.lg rfl rfl rfl rfl (l_do Fb.h rfl (BytesR_ok hR)) ?_
 rintro v2 w2 ⟨hY,e2⟩
 obtain⟨pb,po,cp,rfl,hc,hA,hD⟩:=hY.open (by simp)
 have hD0:=hD.get 0 (by simp)
 simp only[List.getElem_cons_zero]at hD0
 refine q ?_
 refine WL.qg rfl rfl rfl rfl (r_load Fb.h rfl (Ext.refl _) (hD0)) ?_
 refine q ?_
 exact fin1 rfl ⟨rfl,ch⟩
theorem tryReadNull_yes{rb:Nat}{r:List UInt8}{w:World}(hR:Rd w rb (64::r)):
  Does TP 82 [.pointer (some ⟨rb,0,none⟩)] w fun u w'=>u= .bool true∧Rd w' rb r∧Evo (Nb rb) w w':=by
 have hlen:=hR.len
 simp only[List.length_cons]at hlen
 refine do1 Tryz.func82 ?_
 refine q ?_
 refine cl rfl (LenR_ok hR) ?_
 rintro v1 w1 ⟨rfl,e1⟩
 try refine WL.q rfl (r_cmp (r_gtr rfl rfl) (decide_eq_true (by(simp only[List.length_cons];omega)))) ?_
 refine q ?_
 replace hR:=hR.mono e1
 refine WL.lg rfl rfl rfl rfl (l_do Fb.h rfl (BytesR_ok hR)) ?_
 rintro v2 w2 ⟨hY,e2⟩
 obtain⟨pb,po,cp,rfl,hc,hA,hD⟩:=hY.open (by simp)
 have hD0:=hD.get 0 (by simp)
 simp only[List.getElem_cons_zero]at hD0
 refine q ?_
 refine WL.qg rfl rfl rfl rfl (r_load Fb.h rfl (Ext.refl _) (hD0)) ?_
 try refine WL.qg rfl rfl rfl rfl (r_cmp (r_eql rfl rfl) (beqT (by(rfl)))) ?_
 refine q ?_
 replace hR:=hR.mono e2
 refine cl rfl (SkipR_ok (l:=[64]) hR rfl) ?_
 rintro v3 w3 ⟨rfl,hR,e3⟩
 refine q ?_
 exact fin1 rfl ⟨rfl,hR,ch⟩
end Go.Proofs.LL
