/- Contracts of functions of impl, spec and laws. Conditions: those that each theorem states. -/
import Derived.Test.YtdgbmbjkbmpcbaaGreatDoorW12
set_option linter.all false
set_option maxRecDepth 20000
namespace Go.Proofs.LL
open Go Go.Proofs Go.RowKit
set_option maxHeartbeats 4000000
attribute [local irreducible] RunOp WL WC WDL WT WX
theorem zR7_1{A:Prop}(h:A:=by
 refine q ?_
 replace hab:=hab.mono hE
 refine WL.l0 (lst rfl rfl hab) ?_
 rintro _ w5 ⟨hab,e5,hz5⟩
 refine q ?_
 replace hK:=hK.mono e5
 rw[fillA_all _ _ (by simpa using hi)]at hK
 replace hR:=(hR.mono hE).mono e5
 replace he:=(he.then hE).then e5
 exact fin1 rfl ⟨rfl,⟨_,hs4,hab,hK⟩,hR,he⟩):A:=h
theorem zR7_2{A:Prop}(h:A:=by
 rintro v5 w5 ⟨rfl,e5⟩
 refine⟨((Evo.drew _).then e5),?_⟩
 refine q ?_
 replace hK:=(hK.mono (Ext.drew _)).mono e5
 refine WD.l0 rfl (l_fill Fo.h rfl (by omega) rfl rfl hK (by simp[hi])) ?_
 rintro _ w6 ⟨hK,e6⟩
 refine⟨(((Evo.drew _).then e5).then e6),?_⟩
 refine q ?_
 exact⟨i+1,sb,sb,⟨hK,((((hE.then (Ext.drew _)).then e5).then e6))⟩,by omega⟩):A:=h
theorem zR7_3{A:Prop}(h:A:=by
 refine q ?_
 replace hD:=hD.mono hE
 refine WL.q rfl (r_load Fb.h rfl (Ext.refl _) (hD.get i hi)) ?_
 refine q ?_
 refine WL.l0 (l_fill Fo.h rfl (by omega) rfl rfl hK (by simp[hi])) ?_
 rintro _ w5 ⟨hK,e5⟩
 refine q ?_
 exact⟨i+1,sb,sb,⟨hK,(hE.then e5)⟩,by omega⟩):A:=h
theorem U16_big{A:Nat→Prop}{v:Value}{n:Nat}{r:List UInt8}{w:World}(hv:IsB A w v (bigB n 2++r)):
  Does TP 197 [.agg #[],v] w fun u w'=>u= .int .u16 ((n%65536:Nat):Int)∧Ext w w':=by
 have h:=Uint16_ok hv
 have e:be (bigB n 2)=n%65536:=be_bigB n 2
 exact h.imp fun u w' hh=>⟨by rw[hh.1,← e];rfl,hh.2⟩
theorem U32_big{A:Nat→Prop}{v:Value}{n:Nat}{r:List UInt8}{w:World}(hv:IsB A w v (bigB n 4++r)):
  Does TP 189 [.agg #[],v] w fun u w'=>u= .int .u32 ((n%4294967296:Nat):Int)∧Ext w w':=by
 have h:=Uint32_ok hv
 have e:be (bigB n 4)=n%4294967296:=be_bigB n 4
 exact h.imp fun u w' hh=>⟨by rw[hh.1,← e];rfl,hh.2⟩
theorem U64_big{A:Nat→Prop}{v:Value}{n:Nat}{r:List UInt8}{w:World}(hv:IsB A w v (bigB n 8++r)):
  Does TP 198 [.agg #[],v] w fun u w'=>u= .int .u64 ((n%18446744073709551616:Nat):Int)∧Ext w w':=by
 have h:=Uint64_ok hv
 have e:be (bigB n 8)=n%18446744073709551616:=be_bigB n 8
 exact h.imp fun u w' hh=>⟨by rw[hh.1,← e];rfl,hh.2⟩
theorem cut_elem{A:Nat→Prop}{w:World}{p:Option Addr}{n c k i:Nat}{ns:List Nat}(h:IsB A w (.slice p n c) (ns.flatMap fun m=>bigB m k))(hi:i<ns.length):
  IsB A w (.slice (if c=i * k then p else p.map (·.add (i * k * 1))) (i * k+k-i * k) (c-i * k)) (bigB ns[i] k++[]):=by
 have hl:=flat_length (fun m=>bigB m k) k (fun m=>bigB_length m k) ns
 have h2:i * k+k≤ns.length * k:=by rw[← Nat.succ_mul];exact Nat.mul_le_mul_right _ hi
 have:=h.cut (i * k) (i * k+k-i * k) (by omega)
 rw[drop_flat (fun m=>bigB m k) k (fun m=>bigB_length m k) ns i hi,Nat.add_sub_cancel_left]at this
 rw[Nat.add_sub_cancel_left]
 have e:List.take k (bigB ns[i] k++(ns.drop (i+1)).flatMap fun m=>bigB m k)=bigB ns[i] k:=by
  have e0:=bigB_length ns[i] k
  rw[List.take_append_of_le_length (by omega),List.take_of_length_le (by omega)]
 rw[e]at this
 rwa [List.append_nil]
theorem cut_tail{A:Nat→Prop}{w:World}{p:Option Addr}{n c k i:Nat}{ns:List Nat}(h:IsB A w (.slice p n c) (ns.flatMap fun m=>bigB m k))(hi:i<ns.length):
  IsB A w (.slice (if c=i * k then p else p.map (·.add (i * k * 1))) (n-i * k) (c-i * k)) (bigB ns[i] k++(ns.drop (i+1)).flatMap fun m=>bigB m k):=by
 have hl:=flat_length (fun m=>bigB m k) k (fun m=>bigB_length m k) ns
 have hn:n=(ns.flatMap fun m=>bigB m k).length:=by obtain⟨p',c',h1,_⟩:=h;cases h1;rfl
 have h2:i * k≤ns.length * k:=Nat.mul_le_mul_right _ (Nat.le_of_lt hi)
 have:=h.cut (i * k) (n-i * k) (by omega)
 rw[List.take_of_length_le (by rw[List.length_drop];omega),drop_flat (fun m=>bigB m k) k (fun m=>bigB_length m k) ns i hi]at this
 exact this
theorem arrInt8_ok2{rb ab:Nat}{hd bs r:List UInt8}{w:World}(hab:Blk w ab [.slice none 0 0])(hne:rb<ab)(hpos:0<bs.length)(hh:ArrH hd bs.length (0x51::bs))(hR:Rd w rb (hd++((0x51::bs)++r))):
  Does TP 114 [.pointer (some ⟨ab,0,none⟩),.pointer (some ⟨rb,0,none⟩)] w fun u w'=>u= .nilIface∧(∃g,w.heap.size≤g∧Blk w' ab [.slice (some ⟨g,0,none⟩) bs.length bs.length]∧Blk w' g (bs.map fun b=> .int .i8 (IntKind.i8.wrap (b.toNat:Int))))∧Rd w' rb r∧Evo (fun k=>k≠rb∧k≠ab) w w':=by
 have hle:=hh.le
 have hr0:=hab.lt
 refine do1 Tryz.func114 ?_
 have he:Evo (fun k=>k≠rb∧k≠ab) w w:=Evo.refl w
 refine q ?_
 refine cl rfl (readArrayHeader_ok hh hR) ?_
 rintro v1 w1 ⟨rfl,hR,e1⟩
 refine q ?_
 refine cl rfl (readType_ok hR) ?_
 rintro v2 w2 ⟨rfl,hR,e2⟩
 refine q ?_
 refine cl rfl (Next_ok (l:=bs) hR rfl) ?_
 rintro v3 w3 ⟨v,rfl,hY,hR,e3⟩
 obtain⟨pb,po,cp,rfl,hcp,hA,hD⟩:=hY.open hpos
 replace hab:=((hab.mono e1).mono e2).mono e3
 refine q ?_
 refine WL.q rfl (r_sliceh Fo.h rfl rfl rfl (by first|omega|(simp;done)|(simp;omega))) ?_
 refine q ?_
 replace he:=((he.then e1).then e2).then e3
 have hs4:=he.size
 refine WL.l rfl (l_makeB (n:=bs.length) Fo.h rfl rfl rfl rfl rfl (by omega) (by simp only[maxLen];omega)) ?_
 rintro v4 w4 ⟨rfl,hK,e4⟩
 refine q ?_
 replace hR:=hR.mono e4
 replace hab:=hab.mono e4
 replace hY:=hY.mono e4
 replace hD:=hD.mono e4
 replace he:=he.then e4
 refine WC.loop2 (ι:=Nat) [(0,_),(4,_),(10,_),(54,_),(55,_)] (fun i=>[(56,.int .i64 (i:Int))]) (fun i wi=>Blk wi w3.heap.size (fillA (bs.map fun b=> .int .i8 (IntKind.i8.wrap (b.toNat:Int))) (.int .i8 0) i)∧Evo (fun k=>k≠w3.heap.size) w4 wi) (fun i=>bs.length-i) 0 sb sb (⟨by rw[fillA_zero,List.length_map];exact hK,Evo.refl _⟩) ?_
 intro i wi1 hh;obtain⟨hK,hE⟩:=hh
 rcases Nat.lt_or_ge i bs.length with hi|hi
 ·exact zR7_3
 ·exact zR7_1
theorem arrUint1_ok{rb ab:Nat}{hd bs r:List UInt8}{w:World}(hab:Blk w ab [.slice none 0 0])(hne:rb<ab)(hpos:0<bs.length)(hh:ArrH hd bs.length (0x52::bs))(hR:Rd w rb (hd++((0x52::bs)++r))):
  Does TP 117 [.pointer (some ⟨ab,0,none⟩),.pointer (some ⟨rb,0,none⟩)] w fun u w'=>u= .nilIface∧(∃g,w.heap.size≤g∧Blk w' ab [.slice (some ⟨g,0,none⟩) bs.length bs.length]∧Blk w' g (bs.map fun b=> .int .u32 (IntKind.u32.wrap (b.toNat:Int))))∧Rd w' rb r∧Evo (fun k=>k≠rb∧k≠ab) w w':=by
 have hle:=hh.le
 have hr0:=hab.lt
 refine do1 Tryz.func117 ?_
 have he:Evo (fun k=>k≠rb∧k≠ab) w w:=Evo.refl w
 refine q ?_
 refine cl rfl (readArrayHeader_ok hh hR) ?_
 rintro v1 w1 ⟨rfl,hR,e1⟩
 replace hab:=hab.mono e1
 refine q ?_
 refine WL.q rfl (r_sliceh Fo.h rfl rfl rfl (by first|omega|(simp;done)|(simp;omega))) ?_
 refine q ?_
 refine cl rfl (readType_ok hR) ?_
 rintro v2 w2 ⟨rfl,hR,e2⟩
 refine q ?_
 refine cl rfl (Next_ok (l:=bs) hR rfl) ?_
 rintro v3 w3 ⟨v,rfl,hY,hR,e3⟩
 obtain⟨pb,po,cp,rfl,hcp,hA,hD⟩:=hY.open hpos
 refine q ?_
 replace he:=((he.then e1).then e2).then e3
 have hs4:=he.size
 refine WL.l rfl (l_makeB (n:=bs.length) Fo.h rfl rfl rfl rfl rfl (by omega) (by simp only[maxLen];omega)) ?_
 rintro v4 w4 ⟨rfl,hK,e4⟩
 refine q ?_
 replace hR:=hR.mono e4
 replace hab:=((hab.mono e2).mono e3).mono e4
 replace hY:=hY.mono e4
 replace hD:=hD.mono e4
 replace he:=he.then e4
 refine WC.loop2 (ι:=Nat) [(0,_),(4,_),(7,_),(80,_),(81,_)] (fun i=>[(82,.int .i64 (i:Int))]) (fun i wi=>Blk wi w3.heap.size (fillA (bs.map fun b=> .int .u32 (IntKind.u32.wrap (b.toNat:Int))) (.int .u32 0) i)∧Evo (fun k=>k≠w3.heap.size) w4 wi) (fun i=>bs.length-i) 0 sb sb (⟨by rw[fillA_zero,List.length_map];exact hK,Evo.refl _⟩) ?_
 intro i wi1 hh;obtain⟨hK,hE⟩:=hh
 rcases Nat.lt_or_ge i bs.length with hi|hi
 ·exact zR7_3
 ·exact zR7_1
theorem arrInt1_ok{rb ab:Nat}{hd bs r:List UInt8}{w:World}(hab:Blk w ab [.slice none 0 0])(hne:rb<ab)(hpos:0<bs.length)(hh:ArrH hd bs.length (0x54::bs))(hR:Rd w rb (hd++((0x54::bs)++r))):
  Does TP 118 [.pointer (some ⟨ab,0,none⟩),.pointer (some ⟨rb,0,none⟩)] w fun u w'=>u= .nilIface∧(∃g,w.heap.size≤g∧Blk w' ab [.slice (some ⟨g,0,none⟩) bs.length bs.length]∧Blk w' g (bs.map fun b=> .int .i32 (IntKind.i32.wrap (IntKind.i8.wrap (b.toNat:Int)))))∧Rd w' rb r∧Evo (fun k=>k≠rb∧k≠ab) w w':=by
 have hle:=hh.le
 have hr0:=hab.lt
 refine do1 Tryz.func118 ?_
 have he:Evo (fun k=>k≠rb∧k≠ab) w w:=Evo.refl w
 refine q ?_
 refine cl rfl (readArrayHeader_ok hh hR) ?_
 rintro v1 w1 ⟨rfl,hR,e1⟩
 replace hab:=hab.mono e1
 refine q ?_
 refine WL.q rfl (r_sliceh Fo.h rfl rfl rfl (by first|omega|(simp;done)|(simp;omega))) ?_
 refine q ?_
 refine cl rfl (readType_ok hR) ?_
 rintro v2 w2 ⟨rfl,hR,e2⟩
 refine q ?_
 refine cl rfl (Next_ok (l:=bs) hR rfl) ?_
 rintro v3 w3 ⟨v,rfl,hY,hR,e3⟩
 obtain⟨pb,po,cp,rfl,hcp,hA,hD⟩:=hY.open hpos
 refine q ?_
 replace he:=((he.then e1).then e2).then e3
 have hs4:=he.size
 refine WL.l rfl (l_makeB (n:=bs.length) Fo.h rfl rfl rfl rfl rfl (by omega) (by simp only[maxLen];omega)) ?_
 rintro v4 w4 ⟨rfl,hK,e4⟩
 refine q ?_
 replace hR:=hR.mono e4
 replace hab:=((hab.mono e2).mono e3).mono e4
 replace hY:=hY.mono e4
 replace hD:=hD.mono e4
 replace he:=he.then e4
 refine WC.loop2 (ι:=Nat) [(0,_),(4,_),(7,_),(59,_),(60,_)] (fun i=>[(61,.int .i64 (i:Int))]) (fun i wi=>Blk wi w3.heap.size (fillA (bs.map fun b=> .int .i32 (IntKind.i32.wrap (IntKind.i8.wrap (b.toNat:Int)))) (.int .i32 0) i)∧Evo (fun k=>k≠w3.heap.size) w4 wi) (fun i=>bs.length-i) 0 sb sb (⟨by rw[fillA_zero,List.length_map];exact hK,Evo.refl _⟩) ?_
 intro i wi1 hh;obtain⟨hK,hE⟩:=hh
 rcases Nat.lt_or_ge i bs.length with hi|hi
 ·exact zR7_3
 ·exact zR7_1
theorem arrUlong1_ok{rb ab:Nat}{hd bs r:List UInt8}{w:World}(hab:Blk w ab [.slice none 0 0])(hne:rb<ab)(hpos:0<bs.length)(hh:ArrH hd bs.length (0x53::bs))(hR:Rd w rb (hd++((0x53::bs)++r))):
  Does TP 119 [.pointer (some ⟨ab,0,none⟩),.pointer (some ⟨rb,0,none⟩)] w fun u w'=>u= .nilIface∧(∃g,w.heap.size≤g∧Blk w' ab [.slice (some ⟨g,0,none⟩) bs.length bs.length]∧Blk w' g (bs.map fun b=> .int .u64 (IntKind.u64.wrap (b.toNat:Int))))∧Rd w' rb r∧Evo (fun k=>k≠rb∧k≠ab) w w':=by
 have hle:=hh.le
 have hr0:=hab.lt
 refine do1 Tryz.func119 ?_
 have he:Evo (fun k=>k≠rb∧k≠ab) w w:=Evo.refl w
 refine q ?_
 refine cl rfl (readArrayHeader_ok hh hR) ?_
 rintro v1 w1 ⟨rfl,hR,e1⟩
 replace hab:=hab.mono e1
 refine q ?_
 refine WL.q rfl (r_sliceh Fo.h rfl rfl rfl (by first|omega|(simp;done)|(simp;omega))) ?_
 refine q ?_
 refine cl rfl (readType_ok hR) ?_
 rintro v2 w2 ⟨rfl,hR,e2⟩
 refine q ?_
 refine cl rfl (Next_ok (l:=bs) hR rfl) ?_
 rintro v3 w3 ⟨v,rfl,hY,hR,e3⟩
 obtain⟨pb,po,cp,rfl,hcp,hA,hD⟩:=hY.open hpos
 refine q ?_
 replace he:=((he.then e1).then e2).then e3
 have hs4:=he.size
 refine WL.l rfl (l_makeB (n:=bs.length) Fo.h rfl rfl rfl rfl rfl (by omega) (by simp only[maxLen];omega)) ?_
 rintro v4 w4 ⟨rfl,hK,e4⟩
 refine q ?_
 replace hR:=hR.mono e4
 replace hab:=((hab.mono e2).mono e3).mono e4
 replace hY:=hY.mono e4
 replace hD:=hD.mono e4
 replace he:=he.then e4
 refine WC.loop2 (ι:=Nat) [(0,_),(4,_),(7,_),(80,_),(81,_)] (fun i=>[(82,.int .i64 (i:Int))]) (fun i wi=>Blk wi w3.heap.size (fillA (bs.map fun b=> .int .u64 (IntKind.u64.wrap (b.toNat:Int))) (.int .u64 0) i)∧Evo (fun k=>k≠w3.heap.size) w4 wi) (fun i=>bs.length-i) 0 sb sb (⟨by rw[fillA_zero,List.length_map];exact hK,Evo.refl _⟩) ?_
 intro i wi1 hh;obtain⟨hK,hE⟩:=hh
 rcases Nat.lt_or_ge i bs.length with hi|hi
 ·exact zR7_3
 ·exact zR7_1
theorem arrLong1_ok{rb ab:Nat}{hd bs r:List UInt8}{w:World}(hab:Blk w ab [.slice none 0 0])(hne:rb<ab)(hpos:0<bs.length)(hh:ArrH hd bs.length (0x55::bs))(hR:Rd w rb (hd++((0x55::bs)++r))):
  Does TP 120 [.pointer (some ⟨ab,0,none⟩),.pointer (some ⟨rb,0,none⟩)] w fun u w'=>u= .nilIface∧(∃g,w.heap.size≤g∧Blk w' ab [.slice (some ⟨g,0,none⟩) bs.length bs.length]∧Blk w' g (bs.map fun b=> .int .i64 (IntKind.i64.wrap (IntKind.i8.wrap (b.toNat:Int)))))∧Rd w' rb r∧Evo (fun k=>k≠rb∧k≠ab) w w':=by
 have hle:=hh.le
 have hr0:=hab.lt
 refine do1 Tryz.func120 ?_
 have he:Evo (fun k=>k≠rb∧k≠ab) w w:=Evo.refl w
 refine q ?_
 refine cl rfl (readArrayHeader_ok hh hR) ?_
 rintro v1 w1 ⟨rfl,hR,e1⟩
 replace hab:=hab.mono e1
 refine q ?_
 refine WL.q rfl (r_sliceh Fo.h rfl rfl rfl (by first|omega|(simp;done)|(simp;omega))) ?_
 refine q ?_
 refine cl rfl (readType_ok hR) ?_
 rintro v2 w2 ⟨rfl,hR,e2⟩
 refine q ?_
 refine cl rfl (Next_ok (l:=bs) hR rfl) ?_
 rintro v3 w3 ⟨v,rfl,hY,hR,e3⟩
 obtain⟨pb,po,cp,rfl,hcp,hA,hD⟩:=hY.open hpos
 refine q ?_
 replace he:=((he.then e1).then e2).then e3
 have hs4:=he.size
 refine WL.l rfl (l_makeB (n:=bs.length) Fo.h rfl rfl rfl rfl rfl (by omega) (by simp only[maxLen];omega)) ?_
 rintro v4 w4 ⟨rfl,hK,e4⟩
 refine q ?_
 replace hR:=hR.mono e4
 replace hab:=((hab.mono e2).mono e3).mono e4
 replace hY:=hY.mono e4
 replace hD:=hD.mono e4
 replace he:=he.then e4
 refine WC.loop2 (ι:=Nat) [(0,_),(4,_),(7,_),(59,_),(60,_)] (fun i=>[(61,.int .i64 (i:Int))]) (fun i wi=>Blk wi w3.heap.size (fillA (bs.map fun b=> .int .i64 (IntKind.i64.wrap (IntKind.i8.wrap (b.toNat:Int)))) (.int .i64 0) i)∧Evo (fun k=>k≠w3.heap.size) w4 wi) (fun i=>bs.length-i) 0 sb sb (⟨by rw[fillA_zero,List.length_map];exact hK,Evo.refl _⟩) ?_
 intro i wi1 hh;obtain⟨hK,hE⟩:=hh
 rcases Nat.lt_or_ge i bs.length with hi|hi
 ·exact zR7_3
 ·exact zR7_1
theorem arrUint16_ok{rb ab:Nat}{hd r:List UInt8}{ns:List Nat}{w:World}(hab:Blk w ab [.slice none 0 0])(hne:rb<ab)(hpos:0<ns.length)(hh:ArrH hd ns.length (0x60::(ns.flatMap fun m=>bigB m 2)))(hR:Rd w rb (hd++((0x60::(ns.flatMap fun m=>bigB m 2))++r))):
  Does TP 115 [.pointer (some ⟨ab,0,none⟩),.pointer (some ⟨rb,0,none⟩)] w fun u w'=>u= .nilIface∧(∃g,w.heap.size≤g∧Blk w' ab [.slice (some ⟨g,0,none⟩) ns.length ns.length]∧Blk w' g (ns.map fun m=> .int .u16 ((m%65536:Nat):Int)))∧Rd w' rb r∧Evo (fun k=>k≠rb∧k≠ab) w w':=by
 have hle:=hh.le
 have hr0:=hab.lt
 have hl:=flat_length (fun m=>bigB m 2) 2 (fun m=>bigB_length m 2) ns
 refine do1 Tryz.func115 ?_
 have he:Evo (fun k=>k≠rb∧k≠ab) w w:=Evo.refl w
 refine q ?_
 refine cl rfl (readArrayHeader_ok hh hR) ?_
 rintro v1 w1 ⟨rfl,hR,e1⟩
 refine q ?_
 refine cl rfl (readType_ok hR) ?_
 rintro v2 w2 ⟨rfl,hR,e2⟩
 refine q ?_
 refine cl rfl (Next_I (l:=(ns.flatMap fun m=>bigB m 2)) hR (by rw[hl];push_cast;rfl)) ?_
 rintro v3 w3 ⟨v,rfl,hY,hR,e3⟩
 obtain⟨pb,po,cp,rfl,hcp,hA,hD⟩:=hY.open (by omega)
 replace hab:=((hab.mono e1).mono e2).mono e3
 refine q ?_
 refine WL.q rfl (r_sliceh Fo.h rfl rfl rfl (by first|omega|(simp;done)|(simp;omega))) ?_
 refine q ?_
 replace he:=((he.then e1).then e2).then e3
 have hs4:=he.size
 refine WL.l rfl (l_makeB (n:=ns.length) Fo.h rfl rfl rfl rfl rfl (by omega) (by simp only[maxLen];omega)) ?_
 rintro v4 w4 ⟨rfl,hK,e4⟩
 refine q ?_
 replace hR:=hR.mono e4
 replace hab:=hab.mono e4
 replace hY:=hY.mono e4
 replace hD:=hD.mono e4
 replace he:=he.then e4
 refine WC.loop2 (ι:=Nat) [(0,_),(4,_),(8,_),(10,_),(56,_)] (fun i=>[(11,.int .i64 ((i * 2:Nat):Int)),(57,.int .i64 (i:Int))]) (fun i wi=>Blk wi w3.heap.size (fillA (ns.map fun m=> .int .u16 ((m%65536:Nat):Int)) (.int .u16 0) i)∧Evo (fun k=>k≠w3.heap.size) w4 wi) (fun i=>ns.length-i) 0 sb sb (⟨by rw[fillA_zero,List.length_map];exact hK,Evo.refl _⟩) ?_
 intro i wi1 hh;obtain⟨hK,hE⟩:=hh
 rcases Nat.lt_or_ge i ns.length with hi|hi
 ·have hik:i * 2+2≤ns.length * 2:=by rw[← Nat.succ_mul];exact Nat.mul_le_mul_right _ hi
  replace hY:=hY.mono hE
  have hZ:=cut_tail hY hi
  refine q ?_
  replace hR:=hR.mono hE
  replace hab:=hab.mono hE
  replace hD:=hD.mono hE
  refine WC.regionD (tt [0,1,2,3,4,5]++ff [6]++tt [7]++ff [8]) (Evo (fun k=>k≠w3.heap.size) _) mixed (by kernel_rfl) (Evo.drew _) ?_
  refine q ?_
  refine WD.q rfl (fun _ hS=>r_slicel Fo.h rfl rfl (l:=i * 2) rfl (by omega)) ?_
  refine cd rfl (U16_big (hZ.mono (Ext.drew _))) ?_
  exact zR7_2
 ·exact zR7_1
theorem arrInt16_ok{rb ab:Nat}{hd r:List UInt8}{ns:List Nat}{w:World}(hab:Blk w ab [.slice none 0 0])(hne:rb<ab)(hpos:0<ns.length)(hh:ArrH hd ns.length (0x61::(ns.flatMap fun m=>bigB m 2)))(hR:Rd w rb (hd++((0x61::(ns.flatMap fun m=>bigB m 2))++r))):
  Does TP 116 [.pointer (some ⟨ab,0,none⟩),.pointer (some ⟨rb,0,none⟩)] w fun u w'=>u= .nilIface∧(∃g,w.heap.size≤g∧Blk w' ab [.slice (some ⟨g,0,none⟩) ns.length ns.length]∧Blk w' g (ns.map fun m=> .int .i16 (IntKind.i16.wrap ((m%65536:Nat):Int))))∧Rd w' rb r∧Evo (fun k=>k≠rb∧k≠ab) w w':=by
 have hle:=hh.le
 have hr0:=hab.lt
 have hl:=flat_length (fun m=>bigB m 2) 2 (fun m=>bigB_length m 2) ns
 refine do1 Tryz.func116 ?_
 have he:Evo (fun k=>k≠rb∧k≠ab) w w:=Evo.refl w
 refine q ?_
 refine cl rfl (readArrayHeader_ok hh hR) ?_
 rintro v1 w1 ⟨rfl,hR,e1⟩
 refine q ?_
 refine cl rfl (readType_ok hR) ?_
 rintro v2 w2 ⟨rfl,hR,e2⟩
 refine q ?_
 refine cl rfl (Next_I (l:=(ns.flatMap fun m=>bigB m 2)) hR (by rw[hl];push_cast;rfl)) ?_
 rintro v3 w3 ⟨v,rfl,hY,hR,e3⟩
 obtain⟨pb,po,cp,rfl,hcp,hA,hD⟩:=hY.open (by omega)
 replace hab:=((hab.mono e1).mono e2).mono e3
 refine q ?_
 refine WL.q rfl (r_sliceh Fo.h rfl rfl rfl (by first|omega|(simp;done)|(simp;omega))) ?_
 refine q ?_
 replace he:=((he.then e1).then e2).then e3
 have hs4:=he.size
 refine WL.l rfl (l_makeB (n:=ns.length) Fo.h rfl rfl rfl rfl rfl (by omega) (by simp only[maxLen];omega)) ?_
 rintro v4 w4 ⟨rfl,hK,e4⟩
 refine q ?_
 replace hR:=hR.mono e4
 replace hab:=hab.mono e4
 replace hY:=hY.mono e4
 replace hD:=hD.mono e4
 replace he:=he.then e4
 refine WC.loop2 (ι:=Nat) [(0,_),(4,_),(8,_),(10,_),(56,_)] (fun i=>[(11,.int .i64 ((i * 2:Nat):Int)),(57,.int .i64 (i:Int))]) (fun i wi=>Blk wi w3.heap.size (fillA (ns.map fun m=> .int .i16 (IntKind.i16.wrap ((m%65536:Nat):Int))) (.int .i16 0) i)∧Evo (fun k=>k≠w3.heap.size) w4 wi) (fun i=>ns.length-i) 0 sb sb (⟨by rw[fillA_zero,List.length_map];exact hK,Evo.refl _⟩) ?_
 intro i wi1 hh;obtain⟨hK,hE⟩:=hh
 rcases Nat.lt_or_ge i ns.length with hi|hi
 ·have hik:i * 2+2≤ns.length * 2:=by rw[← Nat.succ_mul];exact Nat.mul_le_mul_right _ hi
  replace hY:=hY.mono hE
  have hZ:=cut_elem hY hi
  refine q ?_
  replace hR:=hR.mono hE
  replace hab:=hab.mono hE
  replace hD:=hD.mono hE
  refine WC.regionD (tt [0,1,2,3,4,5,6,7]++ff [8]++tt [9,10]++ff [11]) (Evo (fun k=>k≠w3.heap.size) _) mixed (by kernel_rfl) (Evo.drew _) ?_
  refine q ?_
  refine WD.q rfl (fun _ hS=>r_slice Fo.h rfl rfl rfl (l:=i * 2) (h:=i * 2+2) rfl (by push_cast;rfl) (by omega) (by omega)) ?_
  refine cd rfl (U16_big (hZ.mono (Ext.drew _))) ?_
  exact zR7_2
 ·exact zR7_1
theorem arrUint4_ok{rb ab:Nat}{hd r:List UInt8}{ns:List Nat}{w:World}(hab:Blk w ab [.slice none 0 0])(hne:rb<ab)(hpos:0<ns.length)(hh:ArrH hd ns.length (0x70::(ns.flatMap fun m=>bigB m 4)))(hR:Rd w rb (hd++((0x70::(ns.flatMap fun m=>bigB m 4))++r))):
  Does TP 117 [.pointer (some ⟨ab,0,none⟩),.pointer (some ⟨rb,0,none⟩)] w fun u w'=>u= .nilIface∧(∃g,w.heap.size≤g∧Blk w' ab [.slice (some ⟨g,0,none⟩) ns.length ns.length]∧Blk w' g (ns.map fun m=> .int .u32 ((m%4294967296:Nat):Int)))∧Rd w' rb r∧Evo (fun k=>k≠rb∧k≠ab) w w':=by
 have hle:=hh.le
 have hr0:=hab.lt
 have hl:=flat_length (fun m=>bigB m 4) 4 (fun m=>bigB_length m 4) ns
 refine do1 Tryz.func117 ?_
 have he:Evo (fun k=>k≠rb∧k≠ab) w w:=Evo.refl w
 refine q ?_
 refine cl rfl (readArrayHeader_ok hh hR) ?_
 rintro v1 w1 ⟨rfl,hR,e1⟩
 replace hab:=hab.mono e1
 refine q ?_
 refine WL.q rfl (r_sliceh Fo.h rfl rfl rfl (by first|omega|(simp;done)|(simp;omega))) ?_
 refine q ?_
 refine cl rfl (readType_ok hR) ?_
 rintro v2 w2 ⟨rfl,hR,e2⟩
 refine gqo 6 rfl ?_
 refine gq 4 rfl ?_
 refine WL.q rfl (r_ifneNil Fb.h rfl) ?_
 refine WL.nil ?_
 refine WC.condF rfl ?_
 refine WC.skip ?_
 refine gq 28 rfl ?_
 refine q ?_
 refine cl rfl (Next_I (l:=(ns.flatMap fun m=>bigB m 4)) hR (by rw[hl];push_cast;rfl)) ?_
 rintro v3 w3 ⟨v,rfl,hY,hR,e3⟩
 obtain⟨pb,po,cp,rfl,hcp,hA,hD⟩:=hY.open (by omega)
 refine q ?_
 replace he:=((he.then e1).then e2).then e3
 have hs4:=he.size
 refine WL.l rfl (l_makeB (n:=ns.length) Fo.h rfl rfl rfl rfl rfl (by omega) (by simp only[maxLen];omega)) ?_
 rintro v4 w4 ⟨rfl,hK,e4⟩
 refine q ?_
 replace hR:=hR.mono e4
 replace hab:=((hab.mono e2).mono e3).mono e4
 replace hY:=hY.mono e4
 replace hD:=hD.mono e4
 replace he:=he.then e4
 refine WC.loop2 (ι:=Nat) [(0,_),(4,_),(7,_),(14,_),(115,_)] (fun i=>[(16,.int .i64 ((i * 4:Nat):Int)),(116,.int .i64 (i:Int))]) (fun i wi=>Blk wi w3.heap.size (fillA (ns.map fun m=> .int .u32 ((m%4294967296:Nat):Int)) (.int .u32 0) i)∧Evo (fun k=>k≠w3.heap.size) w4 wi) (fun i=>ns.length-i) 0 sb sb (⟨by rw[fillA_zero,List.length_map];exact hK,Evo.refl _⟩) ?_
 intro i wi1 hh;obtain⟨hK,hE⟩:=hh
 rcases Nat.lt_or_ge i ns.length with hi|hi
 ·have hik:i * 4+4≤ns.length * 4:=by rw[← Nat.succ_mul];exact Nat.mul_le_mul_right _ hi
  replace hY:=hY.mono hE
  have hZ:=cut_elem hY hi
  refine q ?_
  replace hR:=hR.mono hE
  replace hab:=hab.mono hE
  replace hD:=hD.mono hE
  refine WC.regionD (tt [0,1,2,3,4,5,6,7]++ff [8]++tt [9]++ff [10]) (Evo (fun k=>k≠w3.heap.size) _) mixed (by kernel_rfl) (Evo.drew _) ?_
  refine q ?_
  refine WD.q rfl (fun _ hS=>r_slice Fo.h rfl rfl rfl (l:=i * 4) (h:=i * 4+4) rfl (by push_cast;rfl) (by omega) (by omega)) ?_
  refine cd rfl (U32_big (hZ.mono (Ext.drew _))) ?_
  exact zR7_2
 ·exact zR7_1
theorem arrInt4_ok{rb ab:Nat}{hd r:List UInt8}{ns:List Nat}{w:World}(hab:Blk w ab [.slice none 0 0])(hne:rb<ab)(hpos:0<ns.length)(hh:ArrH hd ns.length (0x71::(ns.flatMap fun m=>bigB m 4)))(hR:Rd w rb (hd++((0x71::(ns.flatMap fun m=>bigB m 4))++r))):
  Does TP 118 [.pointer (some ⟨ab,0,none⟩),.pointer (some ⟨rb,0,none⟩)] w fun u w'=>u= .nilIface∧(∃g,w.heap.size≤g∧Blk w' ab [.slice (some ⟨g,0,none⟩) ns.length ns.length]∧Blk w' g (ns.map fun m=> .int .i32 (IntKind.i32.wrap ((m%4294967296:Nat):Int))))∧Rd w' rb r∧Evo (fun k=>k≠rb∧k≠ab) w w':=by
 have hle:=hh.le
 have hr0:=hab.lt
 have hl:=flat_length (fun m=>bigB m 4) 4 (fun m=>bigB_length m 4) ns
 refine do1 Tryz.func118 ?_
 have he:Evo (fun k=>k≠rb∧k≠ab) w w:=Evo.refl w
 refine q ?_
 refine cl rfl (readArrayHeader_ok hh hR) ?_
 rintro v1 w1 ⟨rfl,hR,e1⟩
 replace hab:=hab.mono e1
 refine q ?_
 refine WL.q rfl (r_sliceh Fo.h rfl rfl rfl (by first|omega|(simp;done)|(simp;omega))) ?_
 refine q ?_
 refine cl rfl (readType_ok hR) ?_
 rintro v2 w2 ⟨rfl,hR,e2⟩
 refine q ?_
 refine cl rfl (Next_I (l:=(ns.flatMap fun m=>bigB m 4)) hR (by rw[hl];push_cast;rfl)) ?_
 rintro v3 w3 ⟨v,rfl,hY,hR,e3⟩
 obtain⟨pb,po,cp,rfl,hcp,hA,hD⟩:=hY.open (by omega)
 refine q ?_
 replace he:=((he.then e1).then e2).then e3
 have hs4:=he.size
 refine WL.l rfl (l_makeB (n:=ns.length) Fo.h rfl rfl rfl rfl rfl (by omega) (by simp only[maxLen];omega)) ?_
 rintro v4 w4 ⟨rfl,hK,e4⟩
 refine q ?_
 replace hR:=hR.mono e4
 replace hab:=((hab.mono e2).mono e3).mono e4
 replace hY:=hY.mono e4
 replace hD:=hD.mono e4
 replace he:=he.then e4
 refine WC.loop2 (ι:=Nat) [(0,_),(4,_),(7,_),(13,_),(95,_)] (fun i=>[(15,.int .i64 ((i * 4:Nat):Int)),(96,.int .i64 (i:Int))]) (fun i wi=>Blk wi w3.heap.size (fillA (ns.map fun m=> .int .i32 (IntKind.i32.wrap ((m%4294967296:Nat):Int))) (.int .i32 0) i)∧Evo (fun k=>k≠w3.heap.size) w4 wi) (fun i=>ns.length-i) 0 sb sb (⟨by rw[fillA_zero,List.length_map];exact hK,Evo.refl _⟩) ?_
 intro i wi1 hh;obtain⟨hK,hE⟩:=hh
 rcases Nat.lt_or_ge i ns.length with hi|hi
 ·have hik:i * 4+4≤ns.length * 4:=by rw[← Nat.succ_mul];exact Nat.mul_le_mul_right _ hi
  replace hY:=hY.mono hE
  have hZ:=cut_tail hY hi
  refine q ?_
  replace hR:=hR.mono hE
  replace hab:=hab.mono hE
  replace hD:=hD.mono hE
  refine WC.regionD (tt [0,1,2,3,4,5]++ff [6]++tt [7,8]++ff [9]) (Evo (fun k=>k≠w3.heap.size) _) mixed (by kernel_rfl) (Evo.drew _) ?_
  refine q ?_
  refine WD.q rfl (fun _ hS=>r_slicel Fo.h rfl rfl (l:=i * 4) rfl (by omega)) ?_
  refine cd rfl (U32_big (hZ.mono (Ext.drew _))) ?_
  exact zR7_2
 ·exact zR7_1
theorem arrUlong8_ok{rb ab:Nat}{hd r:List UInt8}{ns:List Nat}{w:World}(hab:Blk w ab [.slice none 0 0])(hne:rb<ab)(hpos:0<ns.length)(hh:ArrH hd ns.length (0x80::(ns.flatMap fun m=>bigB m 8)))(hR:Rd w rb (hd++((0x80::(ns.flatMap fun m=>bigB m 8))++r))):
  Does TP 119 [.pointer (some ⟨ab,0,none⟩),.pointer (some ⟨rb,0,none⟩)] w fun u w'=>u= .nilIface∧(∃g,w.heap.size≤g∧Blk w' ab [.slice (some ⟨g,0,none⟩) ns.length ns.length]∧Blk w' g (ns.map fun m=> .int .u64 ((m%18446744073709551616:Nat):Int)))∧Rd w' rb r∧Evo (fun k=>k≠rb∧k≠ab) w w':=by
 have hle:=hh.le
 have hr0:=hab.lt
 have hl:=flat_length (fun m=>bigB m 8) 8 (fun m=>bigB_length m 8) ns
 refine do1 Tryz.func119 ?_
 have he:Evo (fun k=>k≠rb∧k≠ab) w w:=Evo.refl w
 refine q ?_
 refine cl rfl (readArrayHeader_ok hh hR) ?_
 rintro v1 w1 ⟨rfl,hR,e1⟩
 replace hab:=hab.mono e1
 refine q ?_
 refine WL.q rfl (r_sliceh Fo.h rfl rfl rfl (by first|omega|(simp;done)|(simp;omega))) ?_
 refine q ?_
 refine cl rfl (readType_ok hR) ?_
 rintro v2 w2 ⟨rfl,hR,e2⟩
 refine gqo 6 rfl ?_
 refine gq 4 rfl ?_
 refine WL.q rfl (r_ifneNil Fb.h rfl) ?_
 refine WL.nil ?_
 refine WC.condF rfl ?_
 refine WC.skip ?_
 refine gq 28 rfl ?_
 refine q ?_
 refine cl rfl (Next_I (l:=(ns.flatMap fun m=>bigB m 8)) hR (by rw[hl];push_cast;rfl)) ?_
 rintro v3 w3 ⟨v,rfl,hY,hR,e3⟩
 obtain⟨pb,po,cp,rfl,hcp,hA,hD⟩:=hY.open (by omega)
 refine q ?_
 replace he:=((he.then e1).then e2).then e3
 have hs4:=he.size
 refine WL.l rfl (l_makeB (n:=ns.length) Fo.h rfl rfl rfl rfl rfl (by omega) (by simp only[maxLen];omega)) ?_
 rintro v4 w4 ⟨rfl,hK,e4⟩
 refine q ?_
 replace hR:=hR.mono e4
 replace hab:=((hab.mono e2).mono e3).mono e4
 replace hY:=hY.mono e4
 replace hD:=hD.mono e4
 replace he:=he.then e4
 refine WC.loop2 (ι:=Nat) [(0,_),(4,_),(7,_),(14,_),(115,_)] (fun i=>[(16,.int .i64 ((i * 8:Nat):Int)),(116,.int .i64 (i:Int))]) (fun i wi=>Blk wi w3.heap.size (fillA (ns.map fun m=> .int .u64 ((m%18446744073709551616:Nat):Int)) (.int .u64 0) i)∧Evo (fun k=>k≠w3.heap.size) w4 wi) (fun i=>ns.length-i) 0 sb sb (⟨by rw[fillA_zero,List.length_map];exact hK,Evo.refl _⟩) ?_
 intro i wi1 hh;obtain⟨hK,hE⟩:=hh
 rcases Nat.lt_or_ge i ns.length with hi|hi
 ·have hik:i * 8+8≤ns.length * 8:=by rw[← Nat.succ_mul];exact Nat.mul_le_mul_right _ hi
  replace hY:=hY.mono hE
  have hZ:=cut_elem hY hi
  refine q ?_
  replace hR:=hR.mono hE
  replace hab:=hab.mono hE
  replace hD:=hD.mono hE
  refine WC.regionD (tt [0,1,2,3,4,5,6,7]++ff [8]++tt [9]++ff [10]) (Evo (fun k=>k≠w3.heap.size) _) mixed (by kernel_rfl) (Evo.drew _) ?_
  refine q ?_
  refine WD.q rfl (fun _ hS=>r_slice Fo.h rfl rfl rfl (l:=i * 8) (h:=i * 8+8) rfl (by push_cast;rfl) (by omega) (by omega)) ?_
  refine cd rfl (U64_big (hZ.mono (Ext.drew _))) ?_
  exact zR7_2
 ·exact zR7_1
theorem arrLong8_ok{rb ab:Nat}{hd r:List UInt8}{ns:List Nat}{w:World}(hab:Blk w ab [.slice none 0 0])(hne:rb<ab)(hpos:0<ns.length)(hh:ArrH hd ns.length (0x81::(ns.flatMap fun m=>bigB m 8)))(hR:Rd w rb (hd++((0x81::(ns.flatMap fun m=>bigB m 8))++r))):
  Does TP 120 [.pointer (some ⟨ab,0,none⟩),.pointer (some ⟨rb,0,none⟩)] w fun u w'=>u= .nilIface∧(∃g,w.heap.size≤g∧Blk w' ab [.slice (some ⟨g,0,none⟩) ns.length ns.length]∧Blk w' g (ns.map fun m=> .int .i64 (IntKind.i64.wrap ((m%18446744073709551616:Nat):Int))))∧Rd w' rb r∧Evo (fun k=>k≠rb∧k≠ab) w w':=by
 have hle:=hh.le
 have hr0:=hab.lt
 have hl:=flat_length (fun m=>bigB m 8) 8 (fun m=>bigB_length m 8) ns
 refine do1 Tryz.func120 ?_
 have he:Evo (fun k=>k≠rb∧k≠ab) w w:=Evo.refl w
 refine q ?_
 refine cl rfl (readArrayHeader_ok hh hR) ?_
 rintro v1 w1 ⟨rfl,hR,e1⟩
 replace hab:=hab.mono e1
 refine q ?_
 refine WL.q rfl (r_sliceh Fo.h rfl rfl rfl (by first|omega|(simp;done)|(simp;omega))) ?_
 refine q ?_
 refine cl rfl (readType_ok hR) ?_
 rintro v2 w2 ⟨rfl,hR,e2⟩
 refine q ?_
 refine cl rfl (Next_I (l:=(ns.flatMap fun m=>bigB m 8)) hR (by rw[hl];push_cast;rfl)) ?_
 rintro v3 w3 ⟨v,rfl,hY,hR,e3⟩
 obtain⟨pb,po,cp,rfl,hcp,hA,hD⟩:=hY.open (by omega)
 refine q ?_
 replace he:=((he.then e1).then e2).then e3
 have hs4:=he.size
 refine WL.l rfl (l_makeB (n:=ns.length) Fo.h rfl rfl rfl rfl rfl (by omega) (by simp only[maxLen];omega)) ?_
 rintro v4 w4 ⟨rfl,hK,e4⟩
 refine q ?_
 replace hR:=hR.mono e4
 replace hab:=((hab.mono e2).mono e3).mono e4
 replace hY:=hY.mono e4
 replace hD:=hD.mono e4
 replace he:=he.then e4
 refine WC.loop2 (ι:=Nat) [(0,_),(4,_),(7,_),(13,_),(95,_)] (fun i=>[(15,.int .i64 ((i * 8:Nat):Int)),(96,.int .i64 (i:Int))]) (fun i wi=>Blk wi w3.heap.size (fillA (ns.map fun m=> .int .i64 (IntKind.i64.wrap ((m%18446744073709551616:Nat):Int))) (.int .i64 0) i)∧Evo (fun k=>k≠w3.heap.size) w4 wi) (fun i=>ns.length-i) 0 sb sb (⟨by rw[fillA_zero,List.length_map];exact hK,Evo.refl _⟩) ?_
 intro i wi1 hh;obtain⟨hK,hE⟩:=hh
 rcases Nat.lt_or_ge i ns.length with hi|hi
 ·have hik:i * 8+8≤ns.length * 8:=by rw[← Nat.succ_mul];exact Nat.mul_le_mul_right _ hi
  replace hY:=hY.mono hE
  have hZ:=cut_tail hY hi
  refine q ?_
  replace hR:=hR.mono hE
  replace hab:=hab.mono hE
  replace hD:=hD.mono hE
  refine WC.regionD (tt [0,1,2,3,4,5]++ff [6]++tt [7,8]++ff [9]) (Evo (fun k=>k≠w3.heap.size) _) mixed (by kernel_rfl) (Evo.drew _) ?_
  refine q ?_
  refine WD.q rfl (fun _ hS=>r_slicel Fo.h rfl rfl (l:=i * 8) rfl (by omega)) ?_
  refine cd rfl (U64_big (hZ.mono (Ext.drew _))) ?_
  exact zR7_2
 ·exact zR7_1
end Go.Proofs.LL
