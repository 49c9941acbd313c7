/- Contracts of functions and own laws. Conditions: those that each theorem states. -/
import Derived.Test.YtdgbmbjkbmpcbaaGreatDoorW10
set_option linter.all false
set_option autoImplicit true
set_option relaxedAutoImplicit true
set_option maxRecDepth 20000
namespace Go.Proofs.LL
open Go Go.Proofs Go.RowKit
set_option maxHeartbeats 4000000
attribute [local irreducible] ar WL WC cq WT WX
def Rd(w:World)(rb:Nat)(l:List UInt8):Prop:=∃bs i,tO w rb bs i∧bs.drop i=l
theorem Rd.m(h:Rd w rb l)(e:am A w w')(hA:∀b,b≤rb→A b:=by first|assumption|(intro b hb1;first|exact trivial|((try dsimp only[Nb]);omega))):Rd w' rb l:=by
 obtain⟨bs,i,h1,h2⟩:=h
 exact⟨bs,i,h1.m e hA,h2⟩
theorem Rd.lt(h:Rd w rb l):rb<w.heap.size:=by
 obtain⟨bs,i,h1,h2⟩:=h
 exact h1.lt
theorem Rd.len(h:Rd w rb l):l.length≤1099511627776:=by
 obtain⟨bs,i,h1,h2⟩:=h
 have:=h1.le
 rw[← h2,List.length_drop]
 omega
theorem GC(a b:UInt8):be [a,b]=a.toNat * 256+b.toNat:=by simp[be]
theorem Gt(a b c d:UInt8):be [a,b,c,d]=((a.toNat * 256+b.toNat) * 256+c.toNat) * 256+d.toNat:=by simp[be]
theorem GD(a b c d e f g h:UInt8):be [a,b,c,d,e,f,g,h]=((((((a.toNat * 256+b.toNat) * 256+c.toNat) * 256+d.toNat) * 256+e.toNat) * 256+f.toNat) * 256+g.toNat) * 256+h.toNat:=by simp[be]
theorem dR(a:UInt8):(a.toNat:Int)<256:=by have:=a.toNat_lt;omega
theorem Ek{n:Int}(h0:0≤n)(h1:n<65536):IntKind.u16.wrap n=n:=u16_wrap_id n h0 h1
theorem mR{n:Int}(h0:0≤n)(h1:n<4294967296):IntKind.u32.wrap n=n:=u32_wrap_id n h0 h1
theorem dZ{n:Int}(h0:0≤n)(h1:n<18446744073709551616):IntKind.u64.wrap n=n:=u64_wrap_id n h0 h1
theorem Ez(a b:UInt8):(bits .or .u16 (IntKind.u16.wrap (b.toNat:Int)) (IntKind.u16.wrap (IntKind.u16.wrap (a.toNat:Int) * 2^(min (8:Int).toNat IntKind.u16.bits))))=((be [a,b]:Nat):Int):=by
 have ha:=dR a;have hb:=dR b
 have e1:(2:Int)^(min (8:Int).toNat IntKind.u16.bits)=256:=by decide
 have wa:IntKind.u16.wrap (a.toNat:Int)=a.toNat:=Ek (by omega) (by omega)
 have wb:IntKind.u16.wrap (b.toNat:Int)=b.toNat:=Ek (by omega) (by omega)
 have va:IntKind.u16.wrap ((a.toNat:Int) * 256)=a.toNat * 256:=Ek (by omega) (by omega)
 rw[e1,wa,wb,va]
 rw[u16_or8 ((b.toNat:Int)) ((a.toNat:Int) * 256) (by omega) (by omega) (by omega) (by omega) (by omega)]
 rw[GC]
 push_cast;omega
theorem EA(a b c d:UInt8):(bits .or .u32 (bits .or .u32 (bits .or .u32 (IntKind.u32.wrap (d.toNat:Int)) (IntKind.u32.wrap (IntKind.u32.wrap (c.toNat:Int) * 2^(min (8:Int).toNat IntKind.u32.bits)))) (IntKind.u32.wrap (IntKind.u32.wrap (b.toNat:Int) * 2^(min (16:Int).toNat IntKind.u32.bits)))) (IntKind.u32.wrap (IntKind.u32.wrap (a.toNat:Int) * 2^(min (24:Int).toNat IntKind.u32.bits))))=((be [a,b,c,d]:Nat):Int):=by
 have ha:=dR a;have hb:=dR b;have hc:=dR c;have hd:=dR d
 have e1:(2:Int)^(min (8:Int).toNat IntKind.u32.bits)=256:=by decide
 have e2:(2:Int)^(min (16:Int).toNat IntKind.u32.bits)=65536:=by decide
 have e3:(2:Int)^(min (24:Int).toNat IntKind.u32.bits)=16777216:=by decide
 have wa:IntKind.u32.wrap (a.toNat:Int)=a.toNat:=mR (by omega) (by omega)
 have wb:IntKind.u32.wrap (b.toNat:Int)=b.toNat:=mR (by omega) (by omega)
 have wc:IntKind.u32.wrap (c.toNat:Int)=c.toNat:=mR (by omega) (by omega)
 have wd:IntKind.u32.wrap (d.toNat:Int)=d.toNat:=mR (by omega) (by omega)
 have vc:IntKind.u32.wrap ((c.toNat:Int) * 256)=c.toNat * 256:=mR (by omega) (by omega)
 have vb:IntKind.u32.wrap ((b.toNat:Int) * 65536)=b.toNat * 65536:=mR (by omega) (by omega)
 have va:IntKind.u32.wrap ((a.toNat:Int) * 16777216)=a.toNat * 16777216:=mR (by omega) (by omega)
 rw[e1,e2,e3,wa,wb,wc,wd,va,vb,vc]
 rw[u32_or8 ((d.toNat:Int)) ((c.toNat:Int) * 256) (by omega) (by omega) (by omega) (by omega) (by omega)]
 rw[u32_or16 (((d.toNat:Int)+(c.toNat:Int) * 256)) ((b.toNat:Int) * 65536) (by omega) (by omega) (by omega) (by omega) (by omega)]
 rw[u32_or24 ((((d.toNat:Int)+(c.toNat:Int) * 256)+(b.toNat:Int) * 65536)) ((a.toNat:Int) * 16777216) (by omega) (by omega) (by omega) (by omega) (by omega)]
 rw[Gt]
 push_cast;omega
theorem EB(a b c d e f g h:UInt8):(bits .or .u64 (bits .or .u64 (bits .or .u64 (bits .or .u64 (bits .or .u64 (bits .or .u64 (bits .or .u64 (IntKind.u64.wrap (h.toNat:Int)) (IntKind.u64.wrap (IntKind.u64.wrap (g.toNat:Int) * 2^(min (8:Int).toNat IntKind.u64.bits)))) (IntKind.u64.wrap (IntKind.u64.wrap (f.toNat:Int) * 2^(min (16:Int).toNat IntKind.u64.bits)))) (IntKind.u64.wrap (IntKind.u64.wrap (e.toNat:Int) * 2^(min (24:Int).toNat IntKind.u64.bits)))) (IntKind.u64.wrap (IntKind.u64.wrap (d.toNat:Int) * 2^(min (32:Int).toNat IntKind.u64.bits)))) (IntKind.u64.wrap (IntKind.u64.wrap (c.toNat:Int) * 2^(min (40:Int).toNat IntKind.u64.bits)))) (IntKind.u64.wrap (IntKind.u64.wrap (b.toNat:Int) * 2^(min (48:Int).toNat IntKind.u64.bits)))) (IntKind.u64.wrap (IntKind.u64.wrap (a.toNat:Int) * 2^(min (56:Int).toNat IntKind.u64.bits))))=((be [a,b,c,d,e,f,g,h]:Nat):Int):=by
 have ha:=dR a;have hb:=dR b;have hc:=dR c;have hd:=dR d;have he:=dR e;have hf:=dR f;have hg:=dR g;have hh:=dR h
 have e1:(2:Int)^(min (8:Int).toNat IntKind.u64.bits)=256:=by decide
 have e2:(2:Int)^(min (16:Int).toNat IntKind.u64.bits)=65536:=by decide
 have e3:(2:Int)^(min (24:Int).toNat IntKind.u64.bits)=16777216:=by decide
 have e4:(2:Int)^(min (32:Int).toNat IntKind.u64.bits)=4294967296:=by decide
 have e5:(2:Int)^(min (40:Int).toNat IntKind.u64.bits)=1099511627776:=by decide
 have e6:(2:Int)^(min (48:Int).toNat IntKind.u64.bits)=281474976710656:=by decide
 have e7:(2:Int)^(min (56:Int).toNat IntKind.u64.bits)=72057594037927936:=by decide
 have wa:IntKind.u64.wrap (a.toNat:Int)=a.toNat:=dZ (by omega) (by omega)
 have wb:IntKind.u64.wrap (b.toNat:Int)=b.toNat:=dZ (by omega) (by omega)
 have wc:IntKind.u64.wrap (c.toNat:Int)=c.toNat:=dZ (by omega) (by omega)
 have wd:IntKind.u64.wrap (d.toNat:Int)=d.toNat:=dZ (by omega) (by omega)
 have we:IntKind.u64.wrap (e.toNat:Int)=e.toNat:=dZ (by omega) (by omega)
 have wf:IntKind.u64.wrap (f.toNat:Int)=f.toNat:=dZ (by omega) (by omega)
 have wg:IntKind.u64.wrap (g.toNat:Int)=g.toNat:=dZ (by omega) (by omega)
 have wh:IntKind.u64.wrap (h.toNat:Int)=h.toNat:=dZ (by omega) (by omega)
 have vg:IntKind.u64.wrap ((g.toNat:Int) * 256)=g.toNat * 256:=dZ (by omega) (by omega)
 have vf:IntKind.u64.wrap ((f.toNat:Int) * 65536)=f.toNat * 65536:=dZ (by omega) (by omega)
 have ve:IntKind.u64.wrap ((e.toNat:Int) * 16777216)=e.toNat * 16777216:=dZ (by omega) (by omega)
 have vd:IntKind.u64.wrap ((d.toNat:Int) * 4294967296)=d.toNat * 4294967296:=dZ (by omega) (by omega)
 have vc:IntKind.u64.wrap ((c.toNat:Int) * 1099511627776)=c.toNat * 1099511627776:=dZ (by omega) (by omega)
 have vb:IntKind.u64.wrap ((b.toNat:Int) * 281474976710656)=b.toNat * 281474976710656:=dZ (by omega) (by omega)
 have va:IntKind.u64.wrap ((a.toNat:Int) * 72057594037927936)=a.toNat * 72057594037927936:=dZ (by omega) (by omega)
 rw[e1,e2,e3,e4,e5,e6,e7,wa,wb,wc,wd,we,wf,wg,wh,va,vb,vc,vd,ve,vf,vg]
 rw[u64_or8 ((h.toNat:Int)) ((g.toNat:Int) * 256) (by omega) (by omega) (by omega) (by omega) (by omega)]
 rw[u64_or16 (((h.toNat:Int)+(g.toNat:Int) * 256)) ((f.toNat:Int) * 65536) (by omega) (by omega) (by omega) (by omega) (by omega)]
 rw[u64_or24 ((((h.toNat:Int)+(g.toNat:Int) * 256)+(f.toNat:Int) * 65536)) ((e.toNat:Int) * 16777216) (by omega) (by omega) (by omega) (by omega) (by omega)]
 rw[u64_or32 (((((h.toNat:Int)+(g.toNat:Int) * 256)+(f.toNat:Int) * 65536)+(e.toNat:Int) * 16777216)) ((d.toNat:Int) * 4294967296) (by omega) (by omega) (by omega) (by omega) (by omega)]
 rw[u64_or40 ((((((h.toNat:Int)+(g.toNat:Int) * 256)+(f.toNat:Int) * 65536)+(e.toNat:Int) * 16777216)+(d.toNat:Int) * 4294967296)) ((c.toNat:Int) * 1099511627776) (by omega) (by omega) (by omega) (by omega) (by omega)]
 rw[u64_or48 (((((((h.toNat:Int)+(g.toNat:Int) * 256)+(f.toNat:Int) * 65536)+(e.toNat:Int) * 16777216)+(d.toNat:Int) * 4294967296)+(c.toNat:Int) * 1099511627776)) ((b.toNat:Int) * 281474976710656) (by omega) (by omega) (by omega) (by omega) (by omega)]
 rw[u64_or56 ((((((((h.toNat:Int)+(g.toNat:Int) * 256)+(f.toNat:Int) * 65536)+(e.toNat:Int) * 16777216)+(d.toNat:Int) * 4294967296)+(c.toNat:Int) * 1099511627776)+(b.toNat:Int) * 281474976710656)) ((a.toNat:Int) * 72057594037927936) (by omega) (by omega) (by omega) (by omega) (by omega)]
 rw[GD]
 push_cast;omega
theorem oV{a b:UInt8}{r:List UInt8}(hv:bT A w v (a::b::r)):
  ah TP 197 [.agg #[],v] w fun u w'=>u= .int .u16 ((be [a,b]:Nat):Int)∧ay w w':=by
 obtain⟨pb,po,cp,rfl,hc,hA,hD⟩:=hv.open (by simp)
 simp only[List.length_cons]at hc
 have d0:=hD.get 0 (by simp)
 have d1:=hD.get 1 (by simp)
 simp only[List.getElem_cons_zero,List.getElem_cons_succ]at d0 d1
 refine aR Tryz.func197 ?_
 refine q ?_
 refine Hb rfl fun w1 hb1 e1=>?_
 refine q ?_
 try refine Hq (ao Fb.h rfl e1 (by first|exact d0|exact d1)) ?_
 refine q ?_
 refine WC.regionD (tt [0,1,2,3,4,5,6,7,8,9,10]) (ay w1) mixed (by kernel_rfl) Xd<|q ?_
 try refine He (fun _ hS=>ao Fb.h rfl (e1.trans hS) (by first|exact d0|exact d1)) ?_
 refine q ?_
 try refine He (fun _ hS=>ao Fb.h rfl (e1.trans hS) (by first|exact d0|exact d1)) ?_
 refine q ?_
 refine He (fun _ hS=>dA rfl rfl (by decide))<|He (fun _ hS=>eY rfl rfl)<|He (fun _ hS=>gy (ap rfl) (Ez a b))<|q ?_
 exact aw rfl ⟨rfl,e1.trans Xd⟩
theorem dj{a b c d:UInt8}{r:List UInt8}(hv:bT A w v (a::b::c::d::r)):
  ah TP 189 [.agg #[],v] w fun u w'=>u= .int .u32 ((be [a,b,c,d]:Nat):Int)∧ay w w':=by
 obtain⟨pb,po,cp,rfl,hc,hA,hD⟩:=hv.open (by simp)
 simp only[List.length_cons]at hc
 have d0:=hD.get 0 (by simp)
 have d1:=hD.get 1 (by simp)
 have d2:=hD.get 2 (by simp)
 have d3:=hD.get 3 (by simp)
 simp only[List.getElem_cons_zero,List.getElem_cons_succ]at d0 d1 d2 d3
 refine aR Tryz.func189 ?_
 refine q ?_
 refine Hb rfl fun w1 hb1 e1=>?_
 refine q ?_
 try refine Hq (ao Fb.h rfl e1 (by first|exact d0|exact d1|exact d2|exact d3)) ?_
 refine q ?_
 refine WC.regionD (tt [0,1,2,3,4,5,6,7,8,9,10,11,12,13,14,15,16,17,18,19,20,21,22]) (ay w1) mixed (by kernel_rfl) Xd<|q ?_
 try refine He (fun _ hS=>ao Fb.h rfl (e1.trans hS) (by first|exact d0|exact d1|exact d2|exact d3)) ?_
 refine q ?_
 try refine He (fun _ hS=>ao Fb.h rfl (e1.trans hS) (by first|exact d0|exact d1|exact d2|exact d3)) ?_
 refine q ?_
 refine He (fun _ hS=>dA rfl rfl (by decide))<|He (fun _ hS=>eY rfl rfl)<|q ?_
 try refine He (fun _ hS=>ao Fb.h rfl (e1.trans hS) (by first|exact d0|exact d1|exact d2|exact d3)) ?_
 refine q ?_
 refine He (fun _ hS=>dA rfl rfl (by decide))<|He (fun _ hS=>eY rfl rfl)<|q ?_
 try refine He (fun _ hS=>ao Fb.h rfl (e1.trans hS) (by first|exact d0|exact d1|exact d2|exact d3)) ?_
 refine q ?_
 refine He (fun _ hS=>dA rfl rfl (by decide))<|He (fun _ hS=>eY rfl rfl)<|He (fun _ hS=>gy (ap rfl) (EA a b c d))<|q ?_
 exact aw rfl ⟨rfl,e1.trans Xd⟩
theorem lD{a b c d e f g h:UInt8}{r:List UInt8}(hv:bT A w v (a::b::c::d::e::f::g::h::r)):
  ah TP 198 [.agg #[],v] w fun u w'=>u= .int .u64 ((be [a,b,c,d,e,f,g,h]:Nat):Int)∧ay w w':=by
 obtain⟨pb,po,cp,rfl,hc,hA,hD⟩:=hv.open (by simp)
 simp only[List.length_cons]at hc
 have d0:=hD.get 0 (by simp)
 have d1:=hD.get 1 (by simp)
 have d2:=hD.get 2 (by simp)
 have d3:=hD.get 3 (by simp)
 have d4:=hD.get 4 (by simp)
 have d5:=hD.get 5 (by simp)
 have d6:=hD.get 6 (by simp)
 have d7:=hD.get 7 (by simp)
 simp only[List.getElem_cons_zero,List.getElem_cons_succ]at d0 d1 d2 d3 d4 d5 d6 d7
 refine aR Tryz.func198 ?_
 refine q ?_
 refine Hb rfl fun w1 hb1 e1=>?_
 refine q ?_
 try refine Hq (ao Fb.h rfl e1 (by first|exact d0|exact d1|exact d2|exact d3|exact d4|exact d5|exact d6|exact d7)) ?_
 refine q ?_
 refine WC.regionD (tt [0,1,2,3,4,5,6,7,8,9,10,11,12,13,14,15,16,17,18,19,20,21,22,23,24,25,26,27,28,29,30,31,32,33,34,35,36,37,38,39,40,41,42,43,44,45,46]) (ay w1) mixed (by kernel_rfl) Xd<|q ?_
 try refine He (fun _ hS=>ao Fb.h rfl (e1.trans hS) (by first|exact d0|exact d1|exact d2|exact d3|exact d4|exact d5|exact d6|exact d7)) ?_
 refine q ?_
 try refine He (fun _ hS=>ao Fb.h rfl (e1.trans hS) (by first|exact d0|exact d1|exact d2|exact d3|exact d4|exact d5|exact d6|exact d7)) ?_
 refine q ?_
 refine He (fun _ hS=>dA rfl rfl (by decide))<|He (fun _ hS=>eY rfl rfl)<|q ?_
 try refine He (fun _ hS=>ao Fb.h rfl (e1.trans hS) (by first|exact d0|exact d1|exact d2|exact d3|exact d4|exact d5|exact d6|exact d7)) ?_
 refine q ?_
 refine He (fun _ hS=>dA rfl rfl (by decide))<|He (fun _ hS=>eY rfl rfl)<|q ?_
 try refine He (fun _ hS=>ao Fb.h rfl (e1.trans hS) (by first|exact d0|exact d1|exact d2|exact d3|exact d4|exact d5|exact d6|exact d7)) ?_
 refine q ?_
 refine He (fun _ hS=>dA rfl rfl (by decide))<|He (fun _ hS=>eY rfl rfl)<|q ?_
 try refine He (fun _ hS=>ao Fb.h rfl (e1.trans hS) (by first|exact d0|exact d1|exact d2|exact d3|exact d4|exact d5|exact d6|exact d7)) ?_
 refine q ?_
 refine He (fun _ hS=>dA rfl rfl (by decide))<|He (fun _ hS=>eY rfl rfl)<|q ?_
 try refine He (fun _ hS=>ao Fb.h rfl (e1.trans hS) (by first|exact d0|exact d1|exact d2|exact d3|exact d4|exact d5|exact d6|exact d7)) ?_
 refine q ?_
 refine He (fun _ hS=>dA rfl rfl (by decide))<|He (fun _ hS=>eY rfl rfl)<|q ?_
 try refine He (fun _ hS=>ao Fb.h rfl (e1.trans hS) (by first|exact d0|exact d1|exact d2|exact d3|exact d4|exact d5|exact d6|exact d7)) ?_
 refine q ?_
 refine He (fun _ hS=>dA rfl rfl (by decide))<|He (fun _ hS=>eY rfl rfl)<|q ?_
 try refine He (fun _ hS=>ao Fb.h rfl (e1.trans hS) (by first|exact d0|exact d1|exact d2|exact d3|exact d4|exact d5|exact d6|exact d7)) ?_
 refine q ?_
 refine He (fun _ hS=>dA rfl rfl (by decide))<|He (fun _ hS=>eY rfl rfl)<|He (fun _ hS=>gy (ap rfl) (EB a b c d e f g h))<|q ?_
 exact aw rfl ⟨rfl,e1.trans Xd⟩
theorem C0{A:Nat→Prop}(hD:cR w db 0 bs)(hc:bs.length≤c)(hl:bs.length≤1099511627776)(hdb:db<w.heap.size):
  ah TP 23 [.slice (some ⟨db,0,none⟩) bs.length c] w fun u w'=>u= .pointer (some ⟨w.heap.size,0,none⟩)∧Rd w' w.heap.size bs∧w.heap.size<w'.heap.size∧ay w w':=by
 refine aR Tryz.func23 ?_
 refine q ?_
 refine Hq (wq rfl (cs:= #[.slice (some ⟨db,0,none⟩) bs.length c,.int .i64 0]) (by kernel_rfl))<|Hb rfl fun w1 hb1 e1=>?_
 refine q ?_
 exact aw rfl ⟨rfl,⟨bs,0,⟨db,c,hb1,hD.m e1,hdb,hc,Nat.zero_le _,hl⟩,rfl⟩,hb1.lt,e1⟩
theorem oB{a b:UInt8}{r:List UInt8}(hR:Rd w rb (a::b::r)):
  ah TP 191 [.pointer (some ⟨rb,0,none⟩)] w fun u w'=>u= .tuple #[.int .u16 ((be [a,b]:Nat):Int),.nilIface]∧Rd w' rb r∧am (Nb rb) w w':=by
 obtain⟨bs,i,hB,hdrop⟩:=hR
 have hB0:=hB
 obtain⟨db,c0,hK,hD,hne,hc,h5,h6⟩:=hB
 have hlen:i+2≤bs.length:=by have:=congrArg List.length hdrop;simp at this;omega
 have hI:bT (fun k=>k=db) w (.slice (some ⟨db,0,none⟩) bs.length c0) bs:=⟨_,c0,rfl,hc,fun _=>⟨db,0,rfl,rfl,hD⟩⟩
 have h7:=hI.cut i (bs.length-i) (by omega)
 rw[List.take_of_length_le (by simp),hdrop]at h7
 refine cN Tryz.func191 ?_
 refine q ?_
 refine Hl rfl (d9 hB0 (by omega) (by omega)) fun w1 e1=>?_
 refine q ?_
 refine WC.regionD (tt [0,1,2,3,4,5,6,7,8,9]++ff [10]++tt [11]) (ay w) mixed (by kernel_rfl) (e1.trans Xd)<|q ?_
 refine He (fun _ hS=>cK Fo.h rfl rfl rfl)<|cd rfl (oV (h7.m (e1.trans Xd))) ?_
 rintro _ w2 ⟨rfl,e2⟩
 refine⟨(e1.trans Xd).trans e2,?_⟩
 replace hK:=hK.m ((e1.trans Xd).trans e2)
 replace hD:=hD.m ((e1.trans Xd).trans e2)
 refine q ?_
 refine Hp rfl rfl hK fun w3 hK e3 hz3=>?_
 refine q ?_
 refine bt rfl rfl ⟨rfl,⟨bs,i+2,⟨db,c0,hK,hD.m e3 (Nat.ne_of_lt hne),hne,hc,hlen,h6⟩,?_⟩,(am.of ((e1.trans Xd).trans e2)).trans e3⟩
 rw[← List.drop_drop,hdrop];rfl
theorem jY{a b c d:UInt8}{r:List UInt8}(hR:Rd w rb (a::b::c::d::r)):
  ah TP 192 [.pointer (some ⟨rb,0,none⟩)] w fun u w'=>u= .tuple #[.int .u32 ((be [a,b,c,d]:Nat):Int),.nilIface]∧Rd w' rb r∧am (Nb rb) w w':=by
 obtain⟨bs,i,hB,hdrop⟩:=hR
 have hB0:=hB
 obtain⟨db,c0,hK,hD,hne,hc,h5,h6⟩:=hB
 have hlen:i+4≤bs.length:=by have:=congrArg List.length hdrop;simp at this;omega
 have hI:bT (fun k=>k=db) w (.slice (some ⟨db,0,none⟩) bs.length c0) bs:=⟨_,c0,rfl,hc,fun _=>⟨db,0,rfl,rfl,hD⟩⟩
 have h7:=hI.cut i (bs.length-i) (by omega)
 rw[List.take_of_length_le (by simp),hdrop]at h7
 refine cN Tryz.func192 ?_
 refine q ?_
 refine Hl rfl (d9 hB0 (by omega) (by omega)) fun w1 e1=>?_
 refine q ?_
 refine WC.regionD (tt [0,1,2,3,4,5,6,7,8,9]++ff [10]++tt [11]) (ay w) mixed (by kernel_rfl) (e1.trans Xd)<|q ?_
 refine He (fun _ hS=>cK Fo.h rfl rfl rfl)<|cd rfl (dj (h7.m (e1.trans Xd))) ?_
 rintro _ w2 ⟨rfl,e2⟩
 refine⟨(e1.trans Xd).trans e2,?_⟩
 replace hK:=hK.m ((e1.trans Xd).trans e2)
 replace hD:=hD.m ((e1.trans Xd).trans e2)
 refine q ?_
 refine Hp rfl rfl hK fun w3 hK e3 hz3=>?_
 refine q ?_
 refine bt rfl rfl ⟨rfl,⟨bs,i+4,⟨db,c0,hK,hD.m e3 (Nat.ne_of_lt hne),hne,hc,hlen,h6⟩,?_⟩,(am.of ((e1.trans Xd).trans e2)).trans e3⟩
 rw[← List.drop_drop,hdrop];rfl
theorem gt{a b c d e f g h:UInt8}{r:List UInt8}(hR:Rd w rb (a::b::c::d::e::f::g::h::r)):
  ah TP 187 [.pointer (some ⟨rb,0,none⟩)] w fun u w'=>u= .tuple #[.int .u64 ((be [a,b,c,d,e,f,g,h]:Nat):Int),.nilIface]∧Rd w' rb r∧am (Nb rb) w w':=by
 obtain⟨bs,i,hB,hdrop⟩:=hR
 have hB0:=hB
 obtain⟨db,c0,hK,hD,hne,hc,h5,h6⟩:=hB
 have hlen:i+8≤bs.length:=by have:=congrArg List.length hdrop;simp at this;omega
 have hI:bT (fun k=>k=db) w (.slice (some ⟨db,0,none⟩) bs.length c0) bs:=⟨_,c0,rfl,hc,fun _=>⟨db,0,rfl,rfl,hD⟩⟩
 have h7:=hI.cut i (i+8-i) (by omega)
 rw[hdrop,show i+8-i=8 by omega]at h7;simp only[List.take_succ_cons]at h7
 rw[show 8=i+8-i by omega]at h7
 refine cN Tryz.func187 ?_
 refine q ?_
 refine Hl rfl (d9 hB0 (by omega) (by omega)) fun w1 e1=>?_
 refine q ?_
 refine WC.regionD (tt [0,1,2,3,4,5,6,7,8,9,10,11,12,13,14]++ff [15]++tt [16]) (ay w) mixed (by kernel_rfl) (e1.trans Xd)<|q ?_
 refine He (fun _ hS=>fJ Fo.h rfl rfl rfl rfl (show _=((i+8:Nat):Int) by omega) (by omega) (by omega))<|cd rfl (lD (h7.m (e1.trans Xd))) ?_
 rintro _ w2 ⟨rfl,e2⟩
 refine⟨(e1.trans Xd).trans e2,?_⟩
 replace hK:=hK.m ((e1.trans Xd).trans e2)
 replace hD:=hD.m ((e1.trans Xd).trans e2)
 refine q ?_
 refine Hp rfl rfl hK fun w3 hK e3 hz3=>?_
 refine q ?_
 refine bt rfl rfl ⟨rfl,⟨bs,i+8,⟨db,c0,hK,hD.m e3 (Nat.ne_of_lt hne),hne,hc,hlen,h6⟩,?_⟩,(am.of ((e1.trans Xd).trans e2)).trans e3⟩
 rw[← List.drop_drop,hdrop];rfl
theorem cB{b:UInt8}{r:List UInt8}(hR:Rd w rb (b::r)):
  ah TP 186 [.pointer (some ⟨rb,0,none⟩)] w fun u w'=>u= .tuple #[.int .u8 (b.toNat:Int),.nilIface]∧Rd w' rb r∧am (Nb rb) w w':=by
 obtain⟨bs,i,hB,hdrop⟩:=hR
 have hB0:=hB
 obtain⟨db,c0,hK,hD,hne,hc,h5,h6⟩:=hB
 have hlen:i+1≤bs.length:=by have:=congrArg List.length hdrop;simp at this;omega
 have hb:bs[i]=b:=by
  have h0:bs[i]?=some b:=by
   have:=congrArg (fun l:List UInt8=>l[0]?) hdrop
   simpa using this
  exact(List.getElem?_eq_some_iff.1 h0).2
 have hlt:i<bs.length:=hlen
 refine cN Tryz.func186 ?_
 refine q ?_
 refine Hl rfl (d9 hB0 (by omega) (by omega)) fun w1 e1=>?_
 refine q ?_
 refine WC.regionD (tt [0,1,2,3,4,5,6,7,8,9,10]) (ay w) mixed (by kernel_rfl) (e1.trans Xd)<|q ?_
 try refine He (fun _ hS=>ao Fb.h rfl (id hS) (by first|exact hK.get rfl|exact hD.get i hlt)) ?_
 refine q ?_
 try refine He (fun _ hS=>ao Fb.h rfl (id hS) (by first|exact hK.get rfl|exact hD.get i hlt)) ?_
 refine q ?_
 try refine He (fun _ hS=>ao Fb.h rfl (id hS) (by first|exact hK.get rfl|exact hD.get i hlt)) ?_
 replace hK:=hK.m (e1.trans Xd)
 replace hD:=hD.m (e1.trans Xd)
 refine q ?_
 try refine Hq (ao Fb.h rfl Vr (by first|exact hK.get rfl|exact hD.get i hlt)) ?_
 refine q ?_
 refine Hp rfl rfl hK fun w3 hK e3 hz3=>?_
 refine q ?_
 refine bt rfl rfl ⟨by rw[hb],⟨bs,i+1,⟨db,c0,hK,hD.m e3 (Nat.ne_of_lt hne),hne,hc,hlen,h6⟩,?_⟩,(am.of (e1.trans Xd)).trans e3⟩
 rw[← List.drop_drop,hdrop];rfl
theorem cL{n:Nat}{l r:List UInt8}(hR:Rd w rb (l++r))(hn:l.length=n):
  ah TP 188 [.pointer (some ⟨rb,0,none⟩),.int .i64 (n:Int)] w fun u w'=>∃v,u= .tuple #[v,.bool true]∧bT (fun k=>k<rb) w' v l∧Rd w' rb r∧am (Nb rb) w w':=by
 obtain⟨bs,i,hB,hdrop⟩:=hR
 have hB0:=hB
 obtain⟨db,c0,hK,hD,hne,hc,h5,h6⟩:=hB
 have hlen:i+n≤bs.length:=by have:=congrArg List.length hdrop;simp at this;omega
 have hI:bT (fun k=>k<rb) w (.slice (some ⟨db,0,none⟩) bs.length c0) bs:=⟨_,c0,rfl,hc,fun _=>⟨db,0,rfl,hne,hD⟩⟩
 have h7:=hI.cut i n hlen
 rw[hdrop,List.take_append_of_le_length (by omega),List.take_of_length_le (by omega)]at h7
 refine cN Tryz.func188 ?_
 refine q ?_
 refine Hl rfl (d9 hB0 (by omega) (by omega)) fun w1 e1=>?_
 refine q ?_
 refine WC.regionD (tt [0,1,2,3,4,5,6,7,8,9,10,11,12,13,14,15]) (ay w) mixed (by kernel_rfl) (e1.trans Xd)<|q ?_
 refine He (fun _ hS=>fJ Fo.h rfl rfl rfl rfl (show _=((i+n:Nat):Int) by omega) (by omega) (by omega)) ?_
 replace hK:=hK.m (e1.trans Xd)
 replace hD:=hD.m (e1.trans Xd)
 refine q ?_
 refine Hp rfl rfl hK fun w3 hK e3 hz3=>?_
 refine q ?_
 refine bt rfl rfl ⟨_,rfl,?_,⟨bs,i+n,⟨db,c0,hK,hD.m e3 (Nat.ne_of_lt hne),hne,hc,hlen,h6⟩,?_⟩,(am.of (e1.trans Xd)).trans e3⟩
 ·rw[show i+n-i=n by omega]
  exact(h7.m (e1.trans Xd)).m e3
 ·rw[← List.drop_drop,hdrop,← hn];simp
theorem pU{b:UInt8}{r:List UInt8}(hR:Rd w rb (b::r)):
  ah TP 218 [.pointer (some ⟨rb,0,none⟩)] w fun v w'=>v= .tuple #[.int .u8 (b.toNat:Int),.nilIface]∧ay w w':=by
 obtain⟨bs,i,hB,hdrop⟩:=hR
 refine rX hB ?_
 have:=congrArg (fun l:List UInt8=>l[0]?) hdrop
 simpa using this
theorem cS(hR:Rd w rb l):
  ah TP 98 [.pointer (some ⟨rb,0,none⟩)] w fun v w'=>v= .int .i64 (l.length:Int)∧ay w w':=by
 obtain⟨bs,i,hB,hdrop⟩:=hR
 refine(CY hB).imp fun v w' h=>⟨by rw[h.1,← hdrop,List.length_drop],h.2⟩
theorem dN(hR:Rd w rb l):
  ah TP 27 [.pointer (some ⟨rb,0,none⟩)] w fun v w'=>bT (fun k=>k<rb) w' v l∧ay w w':=by
 obtain⟨bs,i,hB,hdrop⟩:=hR
 rw[← hdrop]
 exact ya hB
theorem yl{n:Nat}{l r:List UInt8}(hR:Rd w rb (l++r))(hn:l.length=n):
  ah TP 99 [.pointer (some ⟨rb,0,none⟩),.int .i64 (n:Int)] w fun v w'=>v= .tuple #[]∧Rd w' rb r∧am (Nb rb) w w':=by
 obtain⟨bs,i,hB,hdrop⟩:=hR
 have hlen:i+n≤bs.length:=by
  have h1:=congrArg List.length hdrop
  have h2:=hB.le
  simp at h1;omega
 refine(A5 hB hlen).imp fun v w' h=>⟨h.1,⟨bs,i+n,h.2.1,?_⟩,h.2.2⟩
 rw[← List.drop_drop,hdrop,← hn];simp
theorem Gs{b c:UInt8}(h:b≠c):(b.toNat:Int)≠(c.toNat:Int):=fun e=>h (UInt8.toNat_inj.1 (by omega))
theorem aD{b:UInt8}{r:List UInt8}(hR:Rd w rb (b::r)):
  ah TP 95 [.pointer (some ⟨rb,0,none⟩)] w fun u w'=>u= .tuple #[.int .u8 (b.toNat:Int),.nilIface]∧Rd w' rb r∧am (Nb rb) w w':=by
 refine cN Tryz.func95 ?_
 refine q ?_
 refine Hm rfl (cB hR) fun w1 hR e1=>?_
 refine q ?_
 exact bt rfl rfl ⟨rfl,hR,ch⟩
theorem aJ{b:UInt8}{r:List UInt8}(hR:Rd w rb (b::r)):
  ah TP 190 [.pointer (some ⟨rb,0,none⟩)] w fun u w'=>u= .tuple #[.int .u8 (b.toNat:Int),.nilIface]∧ay w w':=by
 refine cN Tryz.func190 ?_
 refine q ?_
 refine Hl rfl (pU hR) fun w1 e1=>?_
 refine q ?_
 exact bt rfl rfl ⟨rfl,ch⟩
theorem an{b:UInt8}{r:List UInt8}(hR:Rd w rb (b::r))(hb:b≠64):
  ah TP 82 [.pointer (some ⟨rb,0,none⟩)] w fun u w'=>u= .bool false∧ay w w':=by
 have hb':(b.toNat:Int)≠64:=Gs hb
 have hlen:=hR.len
 simp only[List.length_cons]at hlen
 refine aR Tryz.func82 ?_
 refine q ?_
 refine Hl rfl (cS hR) fun w1 e1=>?_
 try refine Hq (ae (aS rfl rfl) (decide_eq_true (by(simp only[List.length_cons];omega)))) ?_
 refine q ?_
 replace hR:=hR.m e1
 refine WL.lg rfl rfl rfl rfl (cD Fb.h rfl (dN hR)) ?_
 rintro v2 w2 ⟨hY,e2⟩
 obtain⟨pb,po,cp,rfl,hc,hA,hD⟩:=hY.open (by simp)
 have hD0:=hD.get 0 (by simp)
 simp only[List.getElem_cons_zero]at hD0
 refine q ?_
 refine Hg rfl rfl (ao Fb.h rfl Xr (hD0))<|q ?_
 exact aw rfl ⟨rfl,ch⟩
theorem fC{r:List UInt8}(hR:Rd w rb (64::r)):
  ah TP 82 [.pointer (some ⟨rb,0,none⟩)] w fun u w'=>u= .bool true∧Rd w' rb r∧am (Nb rb) w w':=by
 have hlen:=hR.len
 simp only[List.length_cons]at hlen
 refine aR Tryz.func82 ?_
 refine q ?_
 refine Hl rfl (cS hR) fun w1 e1=>?_
 try refine Hq (ae (aS rfl rfl) (decide_eq_true (by(simp only[List.length_cons];omega)))) ?_
 refine q ?_
 replace hR:=hR.m e1
 refine WL.lg rfl rfl rfl rfl (cD Fb.h rfl (dN hR)) ?_
 rintro v2 w2 ⟨hY,e2⟩
 obtain⟨pb,po,cp,rfl,hc,hA,hD⟩:=hY.open (by simp)
 have hD0:=hD.get 0 (by simp)
 simp only[List.getElem_cons_zero]at hD0
 refine q ?_
 refine Hg rfl rfl (ao Fb.h rfl Xr (hD0)) ?_
 try refine Hg rfl rfl (ae (ak rfl rfl) (br (by(rfl)))) ?_
 refine q ?_
 replace hR:=hR.m e2
 refine Hm rfl (yl (l:=[64]) hR rfl) fun w3 hR e3=>?_
 refine q ?_
 exact aw rfl ⟨rfl,hR,ch⟩
end Go.Proofs.LL
