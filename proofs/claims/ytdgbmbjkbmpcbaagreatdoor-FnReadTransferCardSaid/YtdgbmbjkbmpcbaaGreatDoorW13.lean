/- Contracts of functions and own laws. Conditions: those that each theorem states. -/
import Derived.Test.YtdgbmbjkbmpcbaaGreatDoorW12
set_option linter.all false
set_option autoImplicit true
set_option relaxedAutoImplicit true
set_option maxRecDepth 20000
namespace Go.Proofs.LL
open Go Go.Proofs Go.RowKit
set_option maxHeartbeats 4000000
attribute [local irreducible] ar WL WC cq WT WX
theorem jz{A:Prop}(h:A:=by
 refine q ?_
 replace hab:=hab.m hE
 refine Hp rfl rfl hab fun w5 hab e5 hz5=>?_
 refine q ?_
 replace hK:=hK.m e5
 rw[fK _ _ (by simpa using hi)]at hK
 replace hR:=(hR.m hE).m e5
 replace he:=(he.t hE).t e5
 exact aw rfl ⟨rfl,⟨_,hs4,hab,hK⟩,hR,he⟩):A:=h
theorem pP{A:Prop}(h:A:=by
 rintro v5 w5 ⟨rfl,e5⟩
 refine⟨(Vd.t e5),?_⟩
 refine q ?_
 replace hK:=(hK.m Xd).m e5
 refine WD.l0 rfl (lO Fo.h rfl (by omega) rfl rfl hK (by simp[hi])) ?_
 rintro _ w6 ⟨hK,e6⟩
 refine⟨((Vd.t e5).t e6),?_⟩
 refine q ?_
 exact⟨i+1,sb,sb,⟨hK,((((hE.t Xd).t e5).t e6))⟩,by omega⟩):A:=h
theorem tI{A:Prop}(h:A:=by
 refine q ?_
 replace hD:=hD.m hE
 refine Hq (ao Fb.h rfl Xr (hD.get i hi))<|q ?_
 refine WL.l0 (lO Fo.h rfl (by omega) rfl rfl hK (by simp[hi])) ?_
 rintro _ w5 ⟨hK,e5⟩
 refine q ?_
 exact⟨i+1,sb,sb,⟨hK,(hE.t e5)⟩,by omega⟩):A:=h
theorem vO{r:List UInt8}(hv:bT A w v (aI n 2++r)):
  ah TP 197 [.agg #[],v] w fun u w'=>u= .int .u16 ((n%65536:Nat):Int)∧ay w w':=by
 have h:=oV hv
 have e:be (aI n 2)=n%65536:=ew n 2
 exact h.imp fun u w' hh=>⟨by rw[hh.1,← e];rfl,hh.2⟩
theorem pX{r:List UInt8}(hv:bT A w v (aI n 4++r)):
  ah TP 189 [.agg #[],v] w fun u w'=>u= .int .u32 ((n%4294967296:Nat):Int)∧ay w w':=by
 have h:=dj hv
 have e:be (aI n 4)=n%4294967296:=ew n 4
 exact h.imp fun u w' hh=>⟨by rw[hh.1,← e];rfl,hh.2⟩
theorem mU{r:List UInt8}(hv:bT A w v (aI n 8++r)):
  ah TP 198 [.agg #[],v] w fun u w'=>u= .int .u64 ((n%18446744073709551616:Nat):Int)∧ay w w':=by
 have h:=lD hv
 have e:be (aI n 8)=n%18446744073709551616:=ew n 8
 exact h.imp fun u w' hh=>⟨by rw[hh.1,← e];rfl,hh.2⟩
theorem nq{ns:List Nat}(h:bT A w (.slice p n c) (ns.flatMap fun m=>aI m k))(hi:i<ns.length):
  bT A w (.slice (if c=i * k then p else p.map (·.add (i * k * 1))) (i * k+k-i * k) (c-i * k)) (aI ns[i] k++[]):=by
 have hl:=bZ (fun m=>aI m k) k (fun m=>bh m k) ns
 have h2:i * k+k≤ns.length * k:=by rw[← Nat.succ_mul];exact Nat.mul_le_mul_right _ hi
 have:=h.cut (i * k) (i * k+k-i * k) (by omega)
 rw[lI (fun m=>aI m k) k (fun m=>bh m k) ns i hi,Nat.add_sub_cancel_left]at this
 rw[Nat.add_sub_cancel_left]
 have e:List.take k (aI ns[i] k++(ns.drop (i+1)).flatMap fun m=>aI m k)=aI ns[i] k:=by
  have e0:=bh ns[i] k
  rw[List.take_append_of_le_length (by omega),List.take_of_length_le (by omega)]
 rw[e]at this
 rwa [List.append_nil]
theorem gK{ns:List Nat}(h:bT A w (.slice p n c) (ns.flatMap fun m=>aI m k))(hi:i<ns.length):
  bT A w (.slice (if c=i * k then p else p.map (·.add (i * k * 1))) (n-i * k) (c-i * k)) (aI ns[i] k++(ns.drop (i+1)).flatMap fun m=>aI m k):=by
 have hl:=bZ (fun m=>aI m k) k (fun m=>bh m k) ns
 have hn:n=(ns.flatMap fun m=>aI m k).length:=by obtain⟨p',c',h1,_⟩:=h;cases h1;rfl
 have h2:i * k≤ns.length * k:=Nat.mul_le_mul_right _ (Nat.le_of_lt hi)
 have:=h.cut (i * k) (n-i * k) (by omega)
 rw[List.take_of_length_le (by rw[List.length_drop];omega),lI (fun m=>aI m k) k (fun m=>bh m k) ns i hi]at this
 exact this
theorem r8{bs r:List UInt8}(hab:aH w ab [.slice none 0 0])(hne:rb<ab)(hpos:0<bs.length)(hh:fg hd bs.length (0x51::bs))(hR:Rd w rb (hd++((0x51::bs)++r))):
  ah TP 114 [.pointer (some ⟨ab,0,none⟩),.pointer (some ⟨rb,0,none⟩)] w fun u w'=>u= .nilIface∧(∃g,w.heap.size≤g∧aH w' ab [.slice (some ⟨g,0,none⟩) bs.length bs.length]∧aH w' g (bs.map fun b=> .int .i8 (IntKind.i8.wrap (b.toNat:Int))))∧Rd w' rb r∧am (fun k=>k≠rb∧k≠ab) w w':=by
 have hle:=hh.le
 have hr0:=hab.lt
 refine aR Tryz.func114 ?_
 have he:am (fun k=>k≠rb∧k≠ab) w w:=am.refl w
 refine q ?_
 refine Hm rfl (aG hh hR) fun w1 hR e1=>?_
 refine q ?_
 refine Hm rfl (aD hR) fun w2 hR e2=>?_
 refine q ?_
 refine cl rfl (cL (l:=bs) hR rfl) ?_
 rintro v3 w3 ⟨v,rfl,hY,hR,e3⟩
 obtain⟨pb,po,cp,rfl,hcp,hA,hD⟩:=hY.open hpos
 replace hab:=((hab.m e1).m e2).m e3
 refine q ?_
 refine Hq (bu Fo.h rfl rfl rfl)<|q ?_
 replace he:=((he.t e1).t e2).t e3
 have hs4:=he.s
 refine WL.l rfl (cF (n:=bs.length) Fo.h rfl rfl rfl rfl rfl (by omega) (by simp only[maxLen];omega)) ?_
 rintro v4 w4 ⟨rfl,hK,e4⟩
 refine q ?_
 replace hR:=hR.m e4
 replace hab:=hab.m e4
 replace hY:=hY.m e4
 replace hD:=hD.m e4
 replace he:=he.t e4
 refine WC.loop2 (ι:=Nat) [(0,_),(4,_),(10,_),(54,_),(55,_)] (fun i=>[(56,.int .i64 (i:Int))]) (fun i wi=>aH wi w3.heap.size (dr (bs.map fun b=> .int .i8 (IntKind.i8.wrap (b.toNat:Int))) (.int .i8 0) i)∧am (fun k=>k≠w3.heap.size) w4 wi) (fun i=>bs.length-i) 0 sb sb (⟨by rw[bL,List.length_map];exact hK,am.refl _⟩) ?_
 intro i wi1 hh;obtain⟨hK,hE⟩:=hh
 rcases Nat.lt_or_ge i bs.length with hi|hi
 ·exact tI
 ·exact jz
theorem sg{bs r:List UInt8}(hab:aH w ab [.slice none 0 0])(hne:rb<ab)(hpos:0<bs.length)(hh:fg hd bs.length (0x52::bs))(hR:Rd w rb (hd++((0x52::bs)++r))):
  ah TP 117 [.pointer (some ⟨ab,0,none⟩),.pointer (some ⟨rb,0,none⟩)] w fun u w'=>u= .nilIface∧(∃g,w.heap.size≤g∧aH w' ab [.slice (some ⟨g,0,none⟩) bs.length bs.length]∧aH w' g (bs.map fun b=> .int .u32 (IntKind.u32.wrap (b.toNat:Int))))∧Rd w' rb r∧am (fun k=>k≠rb∧k≠ab) w w':=by
 have hle:=hh.le
 have hr0:=hab.lt
 refine aR Tryz.func117 ?_
 have he:am (fun k=>k≠rb∧k≠ab) w w:=am.refl w
 refine q ?_
 refine Hm rfl (aG hh hR) fun w1 hR e1=>?_
 replace hab:=hab.m e1
 refine q ?_
 refine Hq (bu Fo.h rfl rfl rfl)<|q ?_
 refine Hm rfl (aD hR) fun w2 hR e2=>?_
 refine q ?_
 refine cl rfl (cL (l:=bs) hR rfl) ?_
 rintro v3 w3 ⟨v,rfl,hY,hR,e3⟩
 obtain⟨pb,po,cp,rfl,hcp,hA,hD⟩:=hY.open hpos
 refine q ?_
 replace he:=((he.t e1).t e2).t e3
 have hs4:=he.s
 refine WL.l rfl (cF (n:=bs.length) Fo.h rfl rfl rfl rfl rfl (by omega) (by simp only[maxLen];omega)) ?_
 rintro v4 w4 ⟨rfl,hK,e4⟩
 refine q ?_
 replace hR:=hR.m e4
 replace hab:=((hab.m e2).m e3).m e4
 replace hY:=hY.m e4
 replace hD:=hD.m e4
 replace he:=he.t e4
 refine WC.loop2 (ι:=Nat) [(0,_),(4,_),(7,_),(80,_),(81,_)] (fun i=>[(82,.int .i64 (i:Int))]) (fun i wi=>aH wi w3.heap.size (dr (bs.map fun b=> .int .u32 (IntKind.u32.wrap (b.toNat:Int))) (.int .u32 0) i)∧am (fun k=>k≠w3.heap.size) w4 wi) (fun i=>bs.length-i) 0 sb sb (⟨by rw[bL,List.length_map];exact hK,am.refl _⟩) ?_
 intro i wi1 hh;obtain⟨hK,hE⟩:=hh
 rcases Nat.lt_or_ge i bs.length with hi|hi
 ·exact tI
 ·exact jz
theorem t6{bs r:List UInt8}(hab:aH w ab [.slice none 0 0])(hne:rb<ab)(hpos:0<bs.length)(hh:fg hd bs.length (0x54::bs))(hR:Rd w rb (hd++((0x54::bs)++r))):
  ah TP 118 [.pointer (some ⟨ab,0,none⟩),.pointer (some ⟨rb,0,none⟩)] w fun u w'=>u= .nilIface∧(∃g,w.heap.size≤g∧aH w' ab [.slice (some ⟨g,0,none⟩) bs.length bs.length]∧aH w' g (bs.map fun b=> .int .i32 (IntKind.i32.wrap (IntKind.i8.wrap (b.toNat:Int)))))∧Rd w' rb r∧am (fun k=>k≠rb∧k≠ab) w w':=by
 have hle:=hh.le
 have hr0:=hab.lt
 refine aR Tryz.func118 ?_
 have he:am (fun k=>k≠rb∧k≠ab) w w:=am.refl w
 refine q ?_
 refine Hm rfl (aG hh hR) fun w1 hR e1=>?_
 replace hab:=hab.m e1
 refine q ?_
 refine Hq (bu Fo.h rfl rfl rfl)<|q ?_
 refine Hm rfl (aD hR) fun w2 hR e2=>?_
 refine q ?_
 refine cl rfl (cL (l:=bs) hR rfl) ?_
 rintro v3 w3 ⟨v,rfl,hY,hR,e3⟩
 obtain⟨pb,po,cp,rfl,hcp,hA,hD⟩:=hY.open hpos
 refine q ?_
 replace he:=((he.t e1).t e2).t e3
 have hs4:=he.s
 refine WL.l rfl (cF (n:=bs.length) Fo.h rfl rfl rfl rfl rfl (by omega) (by simp only[maxLen];omega)) ?_
 rintro v4 w4 ⟨rfl,hK,e4⟩
 refine q ?_
 replace hR:=hR.m e4
 replace hab:=((hab.m e2).m e3).m e4
 replace hY:=hY.m e4
 replace hD:=hD.m e4
 replace he:=he.t e4
 refine WC.loop2 (ι:=Nat) [(0,_),(4,_),(7,_),(59,_),(60,_)] (fun i=>[(61,.int .i64 (i:Int))]) (fun i wi=>aH wi w3.heap.size (dr (bs.map fun b=> .int .i32 (IntKind.i32.wrap (IntKind.i8.wrap (b.toNat:Int)))) (.int .i32 0) i)∧am (fun k=>k≠w3.heap.size) w4 wi) (fun i=>bs.length-i) 0 sb sb (⟨by rw[bL,List.length_map];exact hK,am.refl _⟩) ?_
 intro i wi1 hh;obtain⟨hK,hE⟩:=hh
 rcases Nat.lt_or_ge i bs.length with hi|hi
 ·exact tI
 ·exact jz
theorem p9{bs r:List UInt8}(hab:aH w ab [.slice none 0 0])(hne:rb<ab)(hpos:0<bs.length)(hh:fg hd bs.length (0x53::bs))(hR:Rd w rb (hd++((0x53::bs)++r))):
  ah TP 119 [.pointer (some ⟨ab,0,none⟩),.pointer (some ⟨rb,0,none⟩)] w fun u w'=>u= .nilIface∧(∃g,w.heap.size≤g∧aH w' ab [.slice (some ⟨g,0,none⟩) bs.length bs.length]∧aH w' g (bs.map fun b=> .int .u64 (IntKind.u64.wrap (b.toNat:Int))))∧Rd w' rb r∧am (fun k=>k≠rb∧k≠ab) w w':=by
 have hle:=hh.le
 have hr0:=hab.lt
 refine aR Tryz.func119 ?_
 have he:am (fun k=>k≠rb∧k≠ab) w w:=am.refl w
 refine q ?_
 refine Hm rfl (aG hh hR) fun w1 hR e1=>?_
 replace hab:=hab.m e1
 refine q ?_
 refine Hq (bu Fo.h rfl rfl rfl)<|q ?_
 refine Hm rfl (aD hR) fun w2 hR e2=>?_
 refine q ?_
 refine cl rfl (cL (l:=bs) hR rfl) ?_
 rintro v3 w3 ⟨v,rfl,hY,hR,e3⟩
 obtain⟨pb,po,cp,rfl,hcp,hA,hD⟩:=hY.open hpos
 refine q ?_
 replace he:=((he.t e1).t e2).t e3
 have hs4:=he.s
 refine WL.l rfl (cF (n:=bs.length) Fo.h rfl rfl rfl rfl rfl (by omega) (by simp only[maxLen];omega)) ?_
 rintro v4 w4 ⟨rfl,hK,e4⟩
 refine q ?_
 replace hR:=hR.m e4
 replace hab:=((hab.m e2).m e3).m e4
 replace hY:=hY.m e4
 replace hD:=hD.m e4
 replace he:=he.t e4
 refine WC.loop2 (ι:=Nat) [(0,_),(4,_),(7,_),(80,_),(81,_)] (fun i=>[(82,.int .i64 (i:Int))]) (fun i wi=>aH wi w3.heap.size (dr (bs.map fun b=> .int .u64 (IntKind.u64.wrap (b.toNat:Int))) (.int .u64 0) i)∧am (fun k=>k≠w3.heap.size) w4 wi) (fun i=>bs.length-i) 0 sb sb (⟨by rw[bL,List.length_map];exact hK,am.refl _⟩) ?_
 intro i wi1 hh;obtain⟨hK,hE⟩:=hh
 rcases Nat.lt_or_ge i bs.length with hi|hi
 ·exact tI
 ·exact jz
theorem r9{bs r:List UInt8}(hab:aH w ab [.slice none 0 0])(hne:rb<ab)(hpos:0<bs.length)(hh:fg hd bs.length (0x55::bs))(hR:Rd w rb (hd++((0x55::bs)++r))):
  ah TP 120 [.pointer (some ⟨ab,0,none⟩),.pointer (some ⟨rb,0,none⟩)] w fun u w'=>u= .nilIface∧(∃g,w.heap.size≤g∧aH w' ab [.slice (some ⟨g,0,none⟩) bs.length bs.length]∧aH w' g (bs.map fun b=> .int .i64 (IntKind.i64.wrap (IntKind.i8.wrap (b.toNat:Int)))))∧Rd w' rb r∧am (fun k=>k≠rb∧k≠ab) w w':=by
 have hle:=hh.le
 have hr0:=hab.lt
 refine aR Tryz.func120 ?_
 have he:am (fun k=>k≠rb∧k≠ab) w w:=am.refl w
 refine q ?_
 refine Hm rfl (aG hh hR) fun w1 hR e1=>?_
 replace hab:=hab.m e1
 refine q ?_
 refine Hq (bu Fo.h rfl rfl rfl)<|q ?_
 refine Hm rfl (aD hR) fun w2 hR e2=>?_
 refine q ?_
 refine cl rfl (cL (l:=bs) hR rfl) ?_
 rintro v3 w3 ⟨v,rfl,hY,hR,e3⟩
 obtain⟨pb,po,cp,rfl,hcp,hA,hD⟩:=hY.open hpos
 refine q ?_
 replace he:=((he.t e1).t e2).t e3
 have hs4:=he.s
 refine WL.l rfl (cF (n:=bs.length) Fo.h rfl rfl rfl rfl rfl (by omega) (by simp only[maxLen];omega)) ?_
 rintro v4 w4 ⟨rfl,hK,e4⟩
 refine q ?_
 replace hR:=hR.m e4
 replace hab:=((hab.m e2).m e3).m e4
 replace hY:=hY.m e4
 replace hD:=hD.m e4
 replace he:=he.t e4
 refine WC.loop2 (ι:=Nat) [(0,_),(4,_),(7,_),(59,_),(60,_)] (fun i=>[(61,.int .i64 (i:Int))]) (fun i wi=>aH wi w3.heap.size (dr (bs.map fun b=> .int .i64 (IntKind.i64.wrap (IntKind.i8.wrap (b.toNat:Int)))) (.int .i64 0) i)∧am (fun k=>k≠w3.heap.size) w4 wi) (fun i=>bs.length-i) 0 sb sb (⟨by rw[bL,List.length_map];exact hK,am.refl _⟩) ?_
 intro i wi1 hh;obtain⟨hK,hE⟩:=hh
 rcases Nat.lt_or_ge i bs.length with hi|hi
 ·exact tI
 ·exact jz
theorem pZ{r:List UInt8}{ns:List Nat}(hab:aH w ab [.slice none 0 0])(hne:rb<ab)(hpos:0<ns.length)(hh:fg hd ns.length (0x60::(ns.flatMap fun m=>aI m 2)))(hR:Rd w rb (hd++((0x60::(ns.flatMap fun m=>aI m 2))++r))):
  ah TP 115 [.pointer (some ⟨ab,0,none⟩),.pointer (some ⟨rb,0,none⟩)] w fun u w'=>u= .nilIface∧(∃g,w.heap.size≤g∧aH w' ab [.slice (some ⟨g,0,none⟩) ns.length ns.length]∧aH w' g (ns.map fun m=> .int .u16 ((m%65536:Nat):Int)))∧Rd w' rb r∧am (fun k=>k≠rb∧k≠ab) w w':=by
 have hle:=hh.le
 have hr0:=hab.lt
 have hl:=bZ (fun m=>aI m 2) 2 (fun m=>bh m 2) ns
 refine aR Tryz.func115 ?_
 have he:am (fun k=>k≠rb∧k≠ab) w w:=am.refl w
 refine q ?_
 refine Hm rfl (aG hh hR) fun w1 hR e1=>?_
 refine q ?_
 refine Hm rfl (aD hR) fun w2 hR e2=>?_
 refine q ?_
 refine cl rfl (dC (l:=(ns.flatMap fun m=>aI m 2)) hR (by rw[hl];push_cast;rfl)) ?_
 rintro v3 w3 ⟨v,rfl,hY,hR,e3⟩
 obtain⟨pb,po,cp,rfl,hcp,hA,hD⟩:=hY.open (by omega)
 replace hab:=((hab.m e1).m e2).m e3
 refine q ?_
 refine Hq (bu Fo.h rfl rfl rfl)<|q ?_
 replace he:=((he.t e1).t e2).t e3
 have hs4:=he.s
 refine WL.l rfl (cF (n:=ns.length) Fo.h rfl rfl rfl rfl rfl (by omega) (by simp only[maxLen];omega)) ?_
 rintro v4 w4 ⟨rfl,hK,e4⟩
 refine q ?_
 replace hR:=hR.m e4
 replace hab:=hab.m e4
 replace hY:=hY.m e4
 replace hD:=hD.m e4
 replace he:=he.t e4
 refine WC.loop2 (ι:=Nat) [(0,_),(4,_),(8,_),(10,_),(56,_)] (fun i=>[(11,.int .i64 ((i * 2:Nat):Int)),(57,.int .i64 (i:Int))]) (fun i wi=>aH wi w3.heap.size (dr (ns.map fun m=> .int .u16 ((m%65536:Nat):Int)) (.int .u16 0) i)∧am (fun k=>k≠w3.heap.size) w4 wi) (fun i=>ns.length-i) 0 sb sb (⟨by rw[bL,List.length_map];exact hK,am.refl _⟩) ?_
 intro i wi1 hh;obtain⟨hK,hE⟩:=hh
 rcases Nat.lt_or_ge i ns.length with hi|hi
 ·have hik:i * 2+2≤ns.length * 2:=by rw[← Nat.succ_mul];exact Nat.mul_le_mul_right _ hi
  replace hY:=hY.m hE
  have hZ:=gK hY hi
  refine q ?_
  replace hR:=hR.m hE
  replace hab:=hab.m hE
  replace hD:=hD.m hE
  refine WC.regionD (tt [0,1,2,3,4,5]++ff [6]++tt [7]++ff [8]) (am (fun k=>k≠w3.heap.size) _) mixed (by kernel_rfl) Vd<|q ?_
  refine He (fun _ hS=>cK Fo.h rfl rfl (l:=i * 2) rfl (by omega))<|cd rfl (vO (hZ.m Xd)) ?_
  exact pP
 ·exact jz
theorem r7{r:List UInt8}{ns:List Nat}(hab:aH w ab [.slice none 0 0])(hne:rb<ab)(hpos:0<ns.length)(hh:fg hd ns.length (0x61::(ns.flatMap fun m=>aI m 2)))(hR:Rd w rb (hd++((0x61::(ns.flatMap fun m=>aI m 2))++r))):
  ah TP 116 [.pointer (some ⟨ab,0,none⟩),.pointer (some ⟨rb,0,none⟩)] w fun u w'=>u= .nilIface∧(∃g,w.heap.size≤g∧aH w' ab [.slice (some ⟨g,0,none⟩) ns.length ns.length]∧aH w' g (ns.map fun m=> .int .i16 (IntKind.i16.wrap ((m%65536:Nat):Int))))∧Rd w' rb r∧am (fun k=>k≠rb∧k≠ab) w w':=by
 have hle:=hh.le
 have hr0:=hab.lt
 have hl:=bZ (fun m=>aI m 2) 2 (fun m=>bh m 2) ns
 refine aR Tryz.func116 ?_
 have he:am (fun k=>k≠rb∧k≠ab) w w:=am.refl w
 refine q ?_
 refine Hm rfl (aG hh hR) fun w1 hR e1=>?_
 refine q ?_
 refine Hm rfl (aD hR) fun w2 hR e2=>?_
 refine q ?_
 refine cl rfl (dC (l:=(ns.flatMap fun m=>aI m 2)) hR (by rw[hl];push_cast;rfl)) ?_
 rintro v3 w3 ⟨v,rfl,hY,hR,e3⟩
 obtain⟨pb,po,cp,rfl,hcp,hA,hD⟩:=hY.open (by omega)
 replace hab:=((hab.m e1).m e2).m e3
 refine q ?_
 refine Hq (bu Fo.h rfl rfl rfl)<|q ?_
 replace he:=((he.t e1).t e2).t e3
 have hs4:=he.s
 refine WL.l rfl (cF (n:=ns.length) Fo.h rfl rfl rfl rfl rfl (by omega) (by simp only[maxLen];omega)) ?_
 rintro v4 w4 ⟨rfl,hK,e4⟩
 refine q ?_
 replace hR:=hR.m e4
 replace hab:=hab.m e4
 replace hY:=hY.m e4
 replace hD:=hD.m e4
 replace he:=he.t e4
 refine WC.loop2 (ι:=Nat) [(0,_),(4,_),(8,_),(10,_),(56,_)] (fun i=>[(11,.int .i64 ((i * 2:Nat):Int)),(57,.int .i64 (i:Int))]) (fun i wi=>aH wi w3.heap.size (dr (ns.map fun m=> .int .i16 (IntKind.i16.wrap ((m%65536:Nat):Int))) (.int .i16 0) i)∧am (fun k=>k≠w3.heap.size) w4 wi) (fun i=>ns.length-i) 0 sb sb (⟨by rw[bL,List.length_map];exact hK,am.refl _⟩) ?_
 intro i wi1 hh;obtain⟨hK,hE⟩:=hh
 rcases Nat.lt_or_ge i ns.length with hi|hi
 ·have hik:i * 2+2≤ns.length * 2:=by rw[← Nat.succ_mul];exact Nat.mul_le_mul_right _ hi
  replace hY:=hY.m hE
  have hZ:=nq hY hi
  refine q ?_
  replace hR:=hR.m hE
  replace hab:=hab.m hE
  replace hD:=hD.m hE
  refine WC.regionD (tt [0,1,2,3,4,5,6,7]++ff [8]++tt [9,10]++ff [11]) (am (fun k=>k≠w3.heap.size) _) mixed (by kernel_rfl) Vd<|q ?_
  refine He (fun _ hS=>fJ Fo.h rfl rfl rfl (l:=i * 2) (h:=i * 2+2) rfl (by push_cast;rfl) (by omega) (by omega))<|cd rfl (vO (hZ.m Xd)) ?_
  exact pP
 ·exact jz
theorem sh{r:List UInt8}{ns:List Nat}(hab:aH w ab [.slice none 0 0])(hne:rb<ab)(hpos:0<ns.length)(hh:fg hd ns.length (0x70::(ns.flatMap fun m=>aI m 4)))(hR:Rd w rb (hd++((0x70::(ns.flatMap fun m=>aI m 4))++r))):
  ah TP 117 [.pointer (some ⟨ab,0,none⟩),.pointer (some ⟨rb,0,none⟩)] w fun u w'=>u= .nilIface∧(∃g,w.heap.size≤g∧aH w' ab [.slice (some ⟨g,0,none⟩) ns.length ns.length]∧aH w' g (ns.map fun m=> .int .u32 ((m%4294967296:Nat):Int)))∧Rd w' rb r∧am (fun k=>k≠rb∧k≠ab) w w':=by
 have hle:=hh.le
 have hr0:=hab.lt
 have hl:=bZ (fun m=>aI m 4) 4 (fun m=>bh m 4) ns
 refine aR Tryz.func117 ?_
 have he:am (fun k=>k≠rb∧k≠ab) w w:=am.refl w
 refine q ?_
 refine Hm rfl (aG hh hR) fun w1 hR e1=>?_
 replace hab:=hab.m e1
 refine q ?_
 refine Hq (bu Fo.h rfl rfl rfl)<|q ?_
 refine Hm rfl (aD hR) fun w2 hR e2=>?_
 refine gx 6 rfl<|gq 4 rfl<|Hq (aB Fb.h rfl)<|WL.nil<|WC.condF rfl<|WC.skip<|gq 28 rfl<|q ?_
 refine cl rfl (dC (l:=(ns.flatMap fun m=>aI m 4)) hR (by rw[hl];push_cast;rfl)) ?_
 rintro v3 w3 ⟨v,rfl,hY,hR,e3⟩
 obtain⟨pb,po,cp,rfl,hcp,hA,hD⟩:=hY.open (by omega)
 refine q ?_
 replace he:=((he.t e1).t e2).t e3
 have hs4:=he.s
 refine WL.l rfl (cF (n:=ns.length) Fo.h rfl rfl rfl rfl rfl (by omega) (by simp only[maxLen];omega)) ?_
 rintro v4 w4 ⟨rfl,hK,e4⟩
 refine q ?_
 replace hR:=hR.m e4
 replace hab:=((hab.m e2).m e3).m e4
 replace hY:=hY.m e4
 replace hD:=hD.m e4
 replace he:=he.t e4
 refine WC.loop2 (ι:=Nat) [(0,_),(4,_),(7,_),(14,_),(115,_)] (fun i=>[(16,.int .i64 ((i * 4:Nat):Int)),(116,.int .i64 (i:Int))]) (fun i wi=>aH wi w3.heap.size (dr (ns.map fun m=> .int .u32 ((m%4294967296:Nat):Int)) (.int .u32 0) i)∧am (fun k=>k≠w3.heap.size) w4 wi) (fun i=>ns.length-i) 0 sb sb (⟨by rw[bL,List.length_map];exact hK,am.refl _⟩) ?_
 intro i wi1 hh;obtain⟨hK,hE⟩:=hh
 rcases Nat.lt_or_ge i ns.length with hi|hi
 ·have hik:i * 4+4≤ns.length * 4:=by rw[← Nat.succ_mul];exact Nat.mul_le_mul_right _ hi
  replace hY:=hY.m hE
  have hZ:=nq hY hi
  refine q ?_
  replace hR:=hR.m hE
  replace hab:=hab.m hE
  replace hD:=hD.m hE
  refine WC.regionD (tt [0,1,2,3,4,5,6,7]++ff [8]++tt [9]++ff [10]) (am (fun k=>k≠w3.heap.size) _) mixed (by kernel_rfl) Vd<|q ?_
  refine He (fun _ hS=>fJ Fo.h rfl rfl rfl (l:=i * 4) (h:=i * 4+4) rfl (by push_cast;rfl) (by omega) (by omega))<|cd rfl (pX (hZ.m Xd)) ?_
  exact pP
 ·exact jz
theorem t7{r:List UInt8}{ns:List Nat}(hab:aH w ab [.slice none 0 0])(hne:rb<ab)(hpos:0<ns.length)(hh:fg hd ns.length (0x71::(ns.flatMap fun m=>aI m 4)))(hR:Rd w rb (hd++((0x71::(ns.flatMap fun m=>aI m 4))++r))):
  ah TP 118 [.pointer (some ⟨ab,0,none⟩),.pointer (some ⟨rb,0,none⟩)] w fun u w'=>u= .nilIface∧(∃g,w.heap.size≤g∧aH w' ab [.slice (some ⟨g,0,none⟩) ns.length ns.length]∧aH w' g (ns.map fun m=> .int .i32 (IntKind.i32.wrap ((m%4294967296:Nat):Int))))∧Rd w' rb r∧am (fun k=>k≠rb∧k≠ab) w w':=by
 have hle:=hh.le
 have hr0:=hab.lt
 have hl:=bZ (fun m=>aI m 4) 4 (fun m=>bh m 4) ns
 refine aR Tryz.func118 ?_
 have he:am (fun k=>k≠rb∧k≠ab) w w:=am.refl w
 refine q ?_
 refine Hm rfl (aG hh hR) fun w1 hR e1=>?_
 replace hab:=hab.m e1
 refine q ?_
 refine Hq (bu Fo.h rfl rfl rfl)<|q ?_
 refine Hm rfl (aD hR) fun w2 hR e2=>?_
 refine q ?_
 refine cl rfl (dC (l:=(ns.flatMap fun m=>aI m 4)) hR (by rw[hl];push_cast;rfl)) ?_
 rintro v3 w3 ⟨v,rfl,hY,hR,e3⟩
 obtain⟨pb,po,cp,rfl,hcp,hA,hD⟩:=hY.open (by omega)
 refine q ?_
 replace he:=((he.t e1).t e2).t e3
 have hs4:=he.s
 refine WL.l rfl (cF (n:=ns.length) Fo.h rfl rfl rfl rfl rfl (by omega) (by simp only[maxLen];omega)) ?_
 rintro v4 w4 ⟨rfl,hK,e4⟩
 refine q ?_
 replace hR:=hR.m e4
 replace hab:=((hab.m e2).m e3).m e4
 replace hY:=hY.m e4
 replace hD:=hD.m e4
 replace he:=he.t e4
 refine WC.loop2 (ι:=Nat) [(0,_),(4,_),(7,_),(13,_),(95,_)] (fun i=>[(15,.int .i64 ((i * 4:Nat):Int)),(96,.int .i64 (i:Int))]) (fun i wi=>aH wi w3.heap.size (dr (ns.map fun m=> .int .i32 (IntKind.i32.wrap ((m%4294967296:Nat):Int))) (.int .i32 0) i)∧am (fun k=>k≠w3.heap.size) w4 wi) (fun i=>ns.length-i) 0 sb sb (⟨by rw[bL,List.length_map];exact hK,am.refl _⟩) ?_
 intro i wi1 hh;obtain⟨hK,hE⟩:=hh
 rcases Nat.lt_or_ge i ns.length with hi|hi
 ·have hik:i * 4+4≤ns.length * 4:=by rw[← Nat.succ_mul];exact Nat.mul_le_mul_right _ hi
  replace hY:=hY.m hE
  have hZ:=gK hY hi
  refine q ?_
  replace hR:=hR.m hE
  replace hab:=hab.m hE
  replace hD:=hD.m hE
  refine WC.regionD (tt [0,1,2,3,4,5]++ff [6]++tt [7,8]++ff [9]) (am (fun k=>k≠w3.heap.size) _) mixed (by kernel_rfl) Vd<|q ?_
  refine He (fun _ hS=>cK Fo.h rfl rfl (l:=i * 4) rfl (by omega))<|cd rfl (pX (hZ.m Xd)) ?_
  exact pP
 ·exact jz
theorem qh{r:List UInt8}{ns:List Nat}(hab:aH w ab [.slice none 0 0])(hne:rb<ab)(hpos:0<ns.length)(hh:fg hd ns.length (0x80::(ns.flatMap fun m=>aI m 8)))(hR:Rd w rb (hd++((0x80::(ns.flatMap fun m=>aI m 8))++r))):
  ah TP 119 [.pointer (some ⟨ab,0,none⟩),.pointer (some ⟨rb,0,none⟩)] w fun u w'=>u= .nilIface∧(∃g,w.heap.size≤g∧aH w' ab [.slice (some ⟨g,0,none⟩) ns.length ns.length]∧aH w' g (ns.map fun m=> .int .u64 ((m%18446744073709551616:Nat):Int)))∧Rd w' rb r∧am (fun k=>k≠rb∧k≠ab) w w':=by
 have hle:=hh.le
 have hr0:=hab.lt
 have hl:=bZ (fun m=>aI m 8) 8 (fun m=>bh m 8) ns
 refine aR Tryz.func119 ?_
 have he:am (fun k=>k≠rb∧k≠ab) w w:=am.refl w
 refine q ?_
 refine Hm rfl (aG hh hR) fun w1 hR e1=>?_
 replace hab:=hab.m e1
 refine q ?_
 refine Hq (bu Fo.h rfl rfl rfl)<|q ?_
 refine Hm rfl (aD hR) fun w2 hR e2=>?_
 refine gx 6 rfl<|gq 4 rfl<|Hq (aB Fb.h rfl)<|WL.nil<|WC.condF rfl<|WC.skip<|gq 28 rfl<|q ?_
 refine cl rfl (dC (l:=(ns.flatMap fun m=>aI m 8)) hR (by rw[hl];push_cast;rfl)) ?_
 rintro v3 w3 ⟨v,rfl,hY,hR,e3⟩
 obtain⟨pb,po,cp,rfl,hcp,hA,hD⟩:=hY.open (by omega)
 refine q ?_
 replace he:=((he.t e1).t e2).t e3
 have hs4:=he.s
 refine WL.l rfl (cF (n:=ns.length) Fo.h rfl rfl rfl rfl rfl (by omega) (by simp only[maxLen];omega)) ?_
 rintro v4 w4 ⟨rfl,hK,e4⟩
 refine q ?_
 replace hR:=hR.m e4
 replace hab:=((hab.m e2).m e3).m e4
 replace hY:=hY.m e4
 replace hD:=hD.m e4
 replace he:=he.t e4
 refine WC.loop2 (ι:=Nat) [(0,_),(4,_),(7,_),(14,_),(115,_)] (fun i=>[(16,.int .i64 ((i * 8:Nat):Int)),(116,.int .i64 (i:Int))]) (fun i wi=>aH wi w3.heap.size (dr (ns.map fun m=> .int .u64 ((m%18446744073709551616:Nat):Int)) (.int .u64 0) i)∧am (fun k=>k≠w3.heap.size) w4 wi) (fun i=>ns.length-i) 0 sb sb (⟨by rw[bL,List.length_map];exact hK,am.refl _⟩) ?_
 intro i wi1 hh;obtain⟨hK,hE⟩:=hh
 rcases Nat.lt_or_ge i ns.length with hi|hi
 ·have hik:i * 8+8≤ns.length * 8:=by rw[← Nat.succ_mul];exact Nat.mul_le_mul_right _ hi
  replace hY:=hY.m hE
  have hZ:=nq hY hi
  refine q ?_
  replace hR:=hR.m hE
  replace hab:=hab.m hE
  replace hD:=hD.m hE
  refine WC.regionD (tt [0,1,2,3,4,5,6,7]++ff [8]++tt [9]++ff [10]) (am (fun k=>k≠w3.heap.size) _) mixed (by kernel_rfl) Vd<|q ?_
  refine He (fun _ hS=>fJ Fo.h rfl rfl rfl (l:=i * 8) (h:=i * 8+8) rfl (by push_cast;rfl) (by omega) (by omega))<|cd rfl (mU (hZ.m Xd)) ?_
  exact pP
 ·exact jz
theorem se{r:List UInt8}{ns:List Nat}(hab:aH w ab [.slice none 0 0])(hne:rb<ab)(hpos:0<ns.length)(hh:fg hd ns.length (0x81::(ns.flatMap fun m=>aI m 8)))(hR:Rd w rb (hd++((0x81::(ns.flatMap fun m=>aI m 8))++r))):
  ah TP 120 [.pointer (some ⟨ab,0,none⟩),.pointer (some ⟨rb,0,none⟩)] w fun u w'=>u= .nilIface∧(∃g,w.heap.size≤g∧aH w' ab [.slice (some ⟨g,0,none⟩) ns.length ns.length]∧aH w' g (ns.map fun m=> .int .i64 (IntKind.i64.wrap ((m%18446744073709551616:Nat):Int))))∧Rd w' rb r∧am (fun k=>k≠rb∧k≠ab) w w':=by
 have hle:=hh.le
 have hr0:=hab.lt
 have hl:=bZ (fun m=>aI m 8) 8 (fun m=>bh m 8) ns
 refine aR Tryz.func120 ?_
 have he:am (fun k=>k≠rb∧k≠ab) w w:=am.refl w
 refine q ?_
 refine Hm rfl (aG hh hR) fun w1 hR e1=>?_
 replace hab:=hab.m e1
 refine q ?_
 refine Hq (bu Fo.h rfl rfl rfl)<|q ?_
 refine Hm rfl (aD hR) fun w2 hR e2=>?_
 refine q ?_
 refine cl rfl (dC (l:=(ns.flatMap fun m=>aI m 8)) hR (by rw[hl];push_cast;rfl)) ?_
 rintro v3 w3 ⟨v,rfl,hY,hR,e3⟩
 obtain⟨pb,po,cp,rfl,hcp,hA,hD⟩:=hY.open (by omega)
 refine q ?_
 replace he:=((he.t e1).t e2).t e3
 have hs4:=he.s
 refine WL.l rfl (cF (n:=ns.length) Fo.h rfl rfl rfl rfl rfl (by omega) (by simp only[maxLen];omega)) ?_
 rintro v4 w4 ⟨rfl,hK,e4⟩
 refine q ?_
 replace hR:=hR.m e4
 replace hab:=((hab.m e2).m e3).m e4
 replace hY:=hY.m e4
 replace hD:=hD.m e4
 replace he:=he.t e4
 refine WC.loop2 (ι:=Nat) [(0,_),(4,_),(7,_),(13,_),(95,_)] (fun i=>[(15,.int .i64 ((i * 8:Nat):Int)),(96,.int .i64 (i:Int))]) (fun i wi=>aH wi w3.heap.size (dr (ns.map fun m=> .int .i64 (IntKind.i64.wrap ((m%18446744073709551616:Nat):Int))) (.int .i64 0) i)∧am (fun k=>k≠w3.heap.size) w4 wi) (fun i=>ns.length-i) 0 sb sb (⟨by rw[bL,List.length_map];exact hK,am.refl _⟩) ?_
 intro i wi1 hh;obtain⟨hK,hE⟩:=hh
 rcases Nat.lt_or_ge i ns.length with hi|hi
 ·have hik:i * 8+8≤ns.length * 8:=by rw[← Nat.succ_mul];exact Nat.mul_le_mul_right _ hi
  replace hY:=hY.m hE
  have hZ:=gK hY hi
  refine q ?_
  replace hR:=hR.m hE
  replace hab:=hab.m hE
  replace hD:=hD.m hE
  refine WC.regionD (tt [0,1,2,3,4,5]++ff [6]++tt [7,8]++ff [9]) (am (fun k=>k≠w3.heap.size) _) mixed (by kernel_rfl) Vd<|q ?_
  refine He (fun _ hS=>cK Fo.h rfl rfl (l:=i * 8) rfl (by omega))<|cd rfl (mU (hZ.m Xd)) ?_
  exact pP
 ·exact jz
end Go.Proofs.LL
