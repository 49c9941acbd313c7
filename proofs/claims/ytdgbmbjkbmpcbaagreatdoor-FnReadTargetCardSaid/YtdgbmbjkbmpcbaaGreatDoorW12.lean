/- Contracts of functions of impl, spec and laws. Conditions: those that each theorem states. -/
import Derived.Test.YtdgbmbjkbmpcbaaGreatDoorW11
set_option linter.all false
set_option maxRecDepth 20000
namespace Go.Proofs.LL
open Go Go.Proofs Go.RowKit
set_option maxHeartbeats 4000000
attribute [local irreducible] RunOp WL WC WDL WT WX
theorem zR2_1{A:Prop}(h:A:=by
 refine q ?_
 refine cl rfl (readType_ok hR) ?_
 rintro v1 w1 ⟨rfl,hR,e1⟩
 refine q ?_
 refine cl rfl (ReadByte_ok hR) ?_
 rintro v2 w2 ⟨rfl,hR,e2⟩
 refine q ?_
 exact fin2 rfl rfl ⟨rfl,hR,ch⟩):A:=h
theorem zR2_2{A:Prop}(h:A:=by
 refine q ?_
 refine cl rfl (readType_ok hR) ?_
 rintro v1 w1 ⟨rfl,hR,e1⟩
 refine q ?_
 exact fin2 rfl rfl ⟨rfl,hR,ch⟩):A:=h
theorem zR2_3{A:Prop}(h:A:=by
 refine q ?_
 refine cl rfl (readType_ok hR) ?_
 rintro v1 w1 ⟨rfl,hR,e1⟩
 refine q ?_
 refine cl rfl (ReadUint16_ok hR) ?_
 rintro v2 w2 ⟨rfl,hR,e2⟩
 refine q ?_
 exact fin2 rfl rfl ⟨rfl,hR,ch⟩):A:=h
theorem zR2_4{A:Prop}(h:A:=by
 refine cl rfl (ReadUint32_ok hR) ?_
 rintro v2 w2 ⟨rfl,hR,e2⟩
 refine q ?_
 exact fin2 rfl rfl ⟨rfl,hR,ch⟩):A:=h
theorem zR2_5{A:Prop}(h:A:=by
 refine cl rfl (ReadUint64_ok hR) ?_
 rintro v2 w2 ⟨rfl,hR,e2⟩
 refine q ?_
 exact fin2 rfl rfl ⟨rfl,hR,ch⟩):A:=h
theorem readUbyte_ok{rb:Nat}{b:UInt8}{r:List UInt8}{w:World}(hR:Rd w rb (0x50::b::r)):
  Does TP 107 [.pointer (some ⟨rb,0,none⟩)] w fun u w'=>u= .tuple #[.int .u8 (b.toNat:Int),.nilIface]∧Rd w' rb r∧Evo (Nb rb) w w':=by
 refine do2 Tryz.func107 ?_
 exact zR2_1
theorem readUshort_ok{rb:Nat}{a b:UInt8}{r:List UInt8}{w:World}(hR:Rd w rb (0x60::a::b::r)):
  Does TP 106 [.pointer (some ⟨rb,0,none⟩)] w fun u w'=>u= .tuple #[.int .u16 ((be [a,b]:Nat):Int),.nilIface]∧Rd w' rb r∧Evo (Nb rb) w w':=by
 refine do2 Tryz.func106 ?_
 exact zR2_3
theorem readUint0_ok{rb:Nat}{r:List UInt8}{w:World}(hR:Rd w rb (0x43::r)):
  Does TP 105 [.pointer (some ⟨rb,0,none⟩)] w fun u w'=>u= .tuple #[.int .u32 0,.nilIface]∧Rd w' rb r∧Evo (Nb rb) w w':=by
 refine do2 Tryz.func105 ?_
 exact zR2_2
theorem readUint1_ok{rb:Nat}{b:UInt8}{r:List UInt8}{w:World}(hR:Rd w rb (0x52::b::r)):
  Does TP 105 [.pointer (some ⟨rb,0,none⟩)] w fun u w'=>u= .tuple #[.int .u32 (IntKind.u32.wrap (b.toNat:Int)),.nilIface]∧Rd w' rb r∧Evo (Nb rb) w w':=by
 refine do2 Tryz.func105 ?_
 exact zR2_1
theorem readUint4_ok{rb:Nat}{a b c d:UInt8}{r:List UInt8}{w:World}(hR:Rd w rb (0x70::a::b::c::d::r)):
  Does TP 105 [.pointer (some ⟨rb,0,none⟩)] w fun u w'=>u= .tuple #[.int .u32 ((be [a,b,c,d]:Nat):Int),.nilIface]∧Rd w' rb r∧Evo (Nb rb) w w':=by
 refine do2 Tryz.func105 ?_
 refine q ?_
 refine cl rfl (readType_ok hR) ?_
 rintro v1 w1 ⟨rfl,hR,e1⟩
 refine gqo 6 rfl ?_
 refine gq 4 rfl ?_
 refine WL.q rfl (r_ifneNil Fb.h rfl) ?_
 refine WL.nil ?_
 refine WC.condF rfl ?_
 refine WC.skip ?_
 refine gq 26 rfl ?_
 exact zR2_4
theorem readUlong0_ok{rb:Nat}{r:List UInt8}{w:World}(hR:Rd w rb (0x44::r)):
  Does TP 96 [.pointer (some ⟨rb,0,none⟩)] w fun u w'=>u= .tuple #[.int .u64 0,.nilIface]∧Rd w' rb r∧Evo (Nb rb) w w':=by
 refine do2 Tryz.func96 ?_
 exact zR2_2
theorem readUlong1_ok{rb:Nat}{b:UInt8}{r:List UInt8}{w:World}(hR:Rd w rb (0x53::b::r)):
  Does TP 96 [.pointer (some ⟨rb,0,none⟩)] w fun u w'=>u= .tuple #[.int .u64 (IntKind.u64.wrap (b.toNat:Int)),.nilIface]∧Rd w' rb r∧Evo (Nb rb) w w':=by
 refine do2 Tryz.func96 ?_
 exact zR2_1
theorem readUlong8_ok{rb:Nat}{a b c d e f g h:UInt8}{r:List UInt8}{w:World}(hR:Rd w rb (0x80::a::b::c::d::e::f::g::h::r)):
  Does TP 96 [.pointer (some ⟨rb,0,none⟩)] w fun u w'=>u= .tuple #[.int .u64 ((be [a,b,c,d,e,f,g,h]:Nat):Int),.nilIface]∧Rd w' rb r∧Evo (Nb rb) w w':=by
 refine do2 Tryz.func96 ?_
 refine q ?_
 refine cl rfl (readType_ok hR) ?_
 rintro v1 w1 ⟨rfl,hR,e1⟩
 refine gqo 6 rfl ?_
 refine gq 4 rfl ?_
 refine WL.q rfl (r_ifneNil Fb.h rfl) ?_
 refine WL.nil ?_
 refine WC.condF rfl ?_
 refine WC.skip ?_
 refine gq 26 rfl ?_
 exact zR2_5
theorem readSbyte_ok{rb:Nat}{b:UInt8}{r:List UInt8}{w:World}(hR:Rd w rb (0x51::b::r)):
  Does TP 101 [.pointer (some ⟨rb,0,none⟩)] w fun u w'=>u= .tuple #[.int .i8 (IntKind.i8.wrap (b.toNat:Int)),.nilIface]∧Rd w' rb r∧Evo (Nb rb) w w':=by
 refine do2 Tryz.func101 ?_
 exact zR2_1
theorem readShort_ok{rb:Nat}{a b:UInt8}{r:List UInt8}{w:World}(hR:Rd w rb (0x61::a::b::r)):
  Does TP 102 [.pointer (some ⟨rb,0,none⟩)] w fun u w'=>u= .tuple #[.int .i16 (IntKind.i16.wrap ((be [a,b]:Nat):Int)),.nilIface]∧Rd w' rb r∧Evo (Nb rb) w w':=by
 refine do2 Tryz.func102 ?_
 exact zR2_3
theorem readInt1_ok{rb:Nat}{b:UInt8}{r:List UInt8}{w:World}(hR:Rd w rb (0x54::b::r)):
  Does TP 103 [.pointer (some ⟨rb,0,none⟩)] w fun u w'=>u= .tuple #[.int .i32 (IntKind.i32.wrap (IntKind.i8.wrap (b.toNat:Int))),.nilIface]∧Rd w' rb r∧Evo (Nb rb) w w':=by
 refine do2 Tryz.func103 ?_
 exact zR2_1
theorem readInt4_ok{rb:Nat}{a b c d:UInt8}{r:List UInt8}{w:World}(hR:Rd w rb (0x71::a::b::c::d::r)):
  Does TP 103 [.pointer (some ⟨rb,0,none⟩)] w fun u w'=>u= .tuple #[.int .i32 (IntKind.i32.wrap ((be [a,b,c,d]:Nat):Int)),.nilIface]∧Rd w' rb r∧Evo (Nb rb) w w':=by
 refine do2 Tryz.func103 ?_
 refine q ?_
 refine cl rfl (readType_ok hR) ?_
 rintro v1 w1 ⟨rfl,hR,e1⟩
 refine q ?_
 exact zR2_4
theorem readLong1_ok{rb:Nat}{b:UInt8}{r:List UInt8}{w:World}(hR:Rd w rb (0x55::b::r)):
  Does TP 104 [.pointer (some ⟨rb,0,none⟩)] w fun u w'=>u= .tuple #[.int .i64 (IntKind.i64.wrap (IntKind.i8.wrap (b.toNat:Int))),.nilIface]∧Rd w' rb r∧Evo (Nb rb) w w':=by
 refine do2 Tryz.func104 ?_
 exact zR2_1
theorem readLong8_ok{rb:Nat}{a b c d e f g h:UInt8}{r:List UInt8}{w:World}(hR:Rd w rb (0x81::a::b::c::d::e::f::g::h::r)):
  Does TP 104 [.pointer (some ⟨rb,0,none⟩)] w fun u w'=>u= .tuple #[.int .i64 (IntKind.i64.wrap ((be [a,b,c,d,e,f,g,h]:Nat):Int)),.nilIface]∧Rd w' rb r∧Evo (Nb rb) w w':=by
 refine do2 Tryz.func104 ?_
 refine q ?_
 refine cl rfl (readType_ok hR) ?_
 rintro v1 w1 ⟨rfl,hR,e1⟩
 refine q ?_
 exact zR2_5
theorem readBoolT_ok{rb:Nat}{r:List UInt8}{w:World}(hR:Rd w rb (0x41::r)):
  Does TP 112 [.pointer (some ⟨rb,0,none⟩)] w fun u w'=>u= .tuple #[.bool true,.nilIface]∧Rd w' rb r∧Evo (Nb rb) w w':=by
 refine do2 Tryz.func112 ?_
 exact zR2_2
theorem readBoolF_ok{rb:Nat}{r:List UInt8}{w:World}(hR:Rd w rb (0x42::r)):
  Does TP 112 [.pointer (some ⟨rb,0,none⟩)] w fun u w'=>u= .tuple #[.bool false,.nilIface]∧Rd w' rb r∧Evo (Nb rb) w w':=by
 refine do2 Tryz.func112 ?_
 refine q ?_
 refine cl rfl (readType_ok hR) ?_
 rintro v1 w1 ⟨rfl,hR,e1⟩
 refine gqo 6 rfl ?_
 refine gq 4 rfl ?_
 refine WL.q rfl (r_ifneNil Fb.h rfl) ?_
 refine WL.nil ?_
 refine WC.condF rfl ?_
 refine WC.skip ?_
 refine gq 28 rfl ?_
 refine q ?_
 exact fin2 rfl rfl ⟨rfl,hR,ch⟩
theorem readBool1_ok{rb:Nat}{b:UInt8}{r:List UInt8}{w:World}(hR:Rd w rb (0x56::b::r)):
  Does TP 112 [.pointer (some ⟨rb,0,none⟩)] w fun u w'=>u= .tuple #[.bool ((b.toNat:Int) !=0),.nilIface]∧Rd w' rb r∧Evo (Nb rb) w w':=by
 refine do2 Tryz.func112 ?_
 refine q ?_
 refine cl rfl (readType_ok hR) ?_
 rintro v1 w1 ⟨rfl,hR,e1⟩
 refine q ?_
 refine cl rfl (ReadByte_ok hR) ?_
 rintro v2 w2 ⟨rfl,hR,e2⟩
 refine q ?_
 refine WL.q rfl (r_neq rfl rfl) ?_
 refine q ?_
 exact fin2 rfl rfl ⟨rfl,hR,ch⟩
theorem zR3_1{A:Prop}(h:A:=by
 refine cl rfl (Next_ok (l:=[a,b,c,d]) hR rfl) ?_
 rintro v2 w2 ⟨v,rfl,hX,hR,e2⟩
 refine q ?_
 refine cl rfl (Uint32_ok (r:=[]) hX) ?_
 rintro v3 w3 ⟨rfl,e3⟩
 refine q ?_
 replace hR:=hR.mono e3
 refine cl rfl (Next_I hR (by rw[hn,cv_be4_i64])) ?_
 rintro v4 w4 ⟨v,rfl,hY,hR,e4⟩
 refine q ?_
 refine WL.q rfl (r_b2s Fb.h rfl (Ext.refl _) hY) ?_
 refine q ?_
 exact fin2 rfl rfl ⟨rfl,hR,ch⟩):A:=h
theorem zR3_2{A:Prop}(h:A:=by
 refine q ?_
 refine WL.q rfl (r_b2s Fb.h rfl (Ext.refl _) hY) ?_
 refine q ?_
 exact fin2 rfl rfl ⟨rfl,hR,ch⟩):A:=h
theorem Next_I{rb:Nat}{N:Int}{l r:List UInt8}{w:World}(hR:Rd w rb (l++r))(hN:N=(l.length:Int)):
  Does TP 188 [.pointer (some ⟨rb,0,none⟩),.int .i64 N] w fun u w'=>∃v,u= .tuple #[v,.bool true]∧IsB (fun k=>k<rb) w' v l∧Rd w' rb r∧Evo (Nb rb) w w':=by
 subst hN
 exact Next_ok hR rfl
theorem be4_lt(a b c d:UInt8):be [a,b,c,d]<4294967296:=by
 rw[be4];have:=u8_lt a;have:=u8_lt b;have:=u8_lt c;have:=u8_lt d;omega
theorem cv_u8_i64(b:UInt8):IntKind.i64.wrap (b.toNat:Int)=(b.toNat:Int):=wrap_i64 (by omega) (by have:=u8_lt b;omega)
theorem cv_be4_i64(a b c d:UInt8):IntKind.i64.wrap ((be [a,b,c,d]:Nat):Int)=((be [a,b,c,d]:Nat):Int):=wrap_i64 (by omega) (by have:=be4_lt a b c d;omega)
theorem readString1_ok{rb:Nat}{k n:UInt8}{t r:List UInt8}{w:World}(hk:k=0xa1∨k=0xa3)(hn:t.length=n.toNat)(hR:Rd w rb (k::n::(t++r))):
  Does TP 110 [.pointer (some ⟨rb,0,none⟩)] w fun u w'=>u= .tuple #[str t,.nilIface]∧Rd w' rb r∧Evo (Nb rb) w w':=by
 rcases hk with rfl|rfl
 ·refine do2 Tryz.func110 ?_
  refine q ?_
  refine cl rfl (readType_ok hR) ?_
  rintro v1 w1 ⟨rfl,hR,e1⟩
  refine q ?_
  refine cl rfl (ReadByte_ok hR) ?_
  rintro v2 w2 ⟨rfl,hR,e2⟩
  refine q ?_
  refine cl rfl (Next_I hR (by rw[hn,cv_u8_i64])) ?_
  rintro v3 w3 ⟨v,rfl,hY,hR,e3⟩
  exact zR3_2
 ·refine do2 Tryz.func110 ?_
  refine q ?_
  refine cl rfl (readType_ok hR) ?_
  rintro v1 w1 ⟨rfl,hR,e1⟩
  refine gqo 6 rfl ?_
  refine gq 4 rfl ?_
  refine WL.q rfl (r_ifneNil Fb.h rfl) ?_
  refine WL.nil ?_
  refine WC.condF rfl ?_
  refine WC.skip ?_
  refine gq 25 rfl ?_
  refine cl rfl (ReadByte_ok hR) ?_
  rintro v2 w2 ⟨rfl,hR,e2⟩
  refine q ?_
  refine cl rfl (Next_I hR (by rw[hn,cv_u8_i64])) ?_
  rintro v3 w3 ⟨v,rfl,hY,hR,e3⟩
  exact zR3_2
theorem readString4_ok{rb:Nat}{k a b c d:UInt8}{t r:List UInt8}{w:World}(hk:k=0xb1∨k=0xb3)(hn:t.length=be [a,b,c,d])(hR:Rd w rb (k::a::b::c::d::(t++r))):
  Does TP 110 [.pointer (some ⟨rb,0,none⟩)] w fun u w'=>u= .tuple #[str t,.nilIface]∧Rd w' rb r∧Evo (Nb rb) w w':=by
 rcases hk with rfl|rfl
 ·refine do2 Tryz.func110 ?_
  refine q ?_
  refine cl rfl (readType_ok hR) ?_
  rintro v1 w1 ⟨rfl,hR,e1⟩
  refine gqo 6 rfl ?_
  refine gq 4 rfl ?_
  refine WL.q rfl (r_ifneNil Fb.h rfl) ?_
  refine WL.nil ?_
  refine WC.condF rfl ?_
  refine WC.skip ?_
  refine gq 34 rfl ?_
  exact zR3_1
 ·refine do2 Tryz.func110 ?_
  refine q ?_
  refine cl rfl (readType_ok hR) ?_
  rintro v1 w1 ⟨rfl,hR,e1⟩
  refine gqo 6 rfl ?_
  refine gq 4 rfl ?_
  refine WL.q rfl (r_ifneNil Fb.h rfl) ?_
  refine WL.nil ?_
  refine WC.condF rfl ?_
  refine WC.skip ?_
  refine gq 37 rfl ?_
  exact zR3_1
theorem zR4_1{A:Prop}(h:A:=by
 exact fin2 rfl rfl ⟨_,rfl,⟨_,_,rfl,Nat.le_refl _,fun h=>absurd rfl h⟩,by simpa using hR,he⟩):A:=h
def NewB(lo:Nat)(w:World)(v:Value)(l:List UInt8):Prop:=IsB (fun b=>lo≤b) w v l
theorem readBinary1_ok{rb:Nat}{n:UInt8}{t r:List UInt8}{w:World}(hn:t.length=n.toNat)(hR:Rd w rb (0xa0::n::(t++r))):
  Does TP 111 [.pointer (some ⟨rb,0,none⟩)] w fun u w'=>∃v,u= .tuple #[v,.nilIface]∧IsB (fun b=>w.heap.size≤b) w' v t∧Rd w' rb r∧Evo (Nb rb) w w':=by
 have hr0:=hR.lt
 rcases Nat.eq_zero_or_pos t.length with h0|h0
 ·have ht:t=[]:=List.eq_nil_of_length_eq_zero h0
  subst ht
  have hz:IntKind.i64.wrap (n.toNat:Int)=0:=by rw[cv_u8_i64,← hn];rfl
  refine do2 Tryz.func111 ?_
  have he:Evo (Nb rb) w w:=Evo.refl w
  refine q ?_
  refine cl rfl (readType_ok hR) ?_
  rintro v1 w1 ⟨rfl,hR,e1⟩
  refine q ?_
  refine cl rfl (ReadByte_ok hR) ?_
  rintro v2 w2 ⟨rfl,hR,e2⟩
  refine q ?_
  try refine WL.q rfl (r_cmp (r_eql rfl rfl) (beqT (by(exact hz)))) ?_
  refine q ?_
  replace he:=(he.then e1).then e2
  have hs3:=he.size
  refine WL.l rfl (l_make0 (n:=0) Fo.h rfl rfl rfl (by decide) (by decide)) ?_
  rintro v3 w3 ⟨rfl,hO,e3⟩
  refine q ?_
  replace hR:=hR.mono e3
  replace he:=he.then e3
  exact zR4_1
 ·have hz:IntKind.i64.wrap (n.toNat:Int)≠0:=by rw[cv_u8_i64,← hn];omega
  have hlen:t.length<256:=by have:=n.toNat_lt;omega
  refine do2 Tryz.func111 ?_
  have he:Evo (Nb rb) w w:=Evo.refl w
  refine q ?_
  refine cl rfl (readType_ok hR) ?_
  rintro v1 w1 ⟨rfl,hR,e1⟩
  refine q ?_
  refine cl rfl (ReadByte_ok hR) ?_
  rintro v2 w2 ⟨rfl,hR,e2⟩
  refine q ?_
  try refine WL.q rfl (r_cmp (r_eql rfl rfl) (beqF (by(exact hz)))) ?_
  refine q ?_
  refine cl rfl (Next_I hR (by rw[hn,cv_u8_i64])) ?_
  rintro v3 w3 ⟨v,rfl,hY,hR,e3⟩
  have hB0:w.heap.size≤w3.heap.size:=Nat.le_trans (Nat.le_trans e1.size e2.size) e3.size
  refine q ?_
  refine WL.l rfl (l_app Fo.h rfl rfl (Own.nil w.heap.size 5 1 _) (Src.isB Fb.h hY) hB0 (by simp only[maxLen];omega) (by omega)) ?_
  rintro v4 w4 ⟨hO,e4⟩
  refine q ?_
  replace hR:=hR.mono e4
  replace he:=(((he.then e1).then e2).then e3).then e4
  exact fin2 rfl rfl ⟨_,rfl,Own.toB hO (fun b h _=>h),hR,he⟩
theorem readBinary4_ok{rb:Nat}{a b c d:UInt8}{t r:List UInt8}{w:World}(hn:t.length=be [a,b,c,d])(hR:Rd w rb (0xb0::a::b::c::d::(t++r))):
  Does TP 111 [.pointer (some ⟨rb,0,none⟩)] w fun u w'=>∃v,u= .tuple #[v,.nilIface]∧IsB (fun b=>w.heap.size≤b) w' v t∧Rd w' rb r∧Evo (Nb rb) w w':=by
 have hr0:=hR.lt
 rcases Nat.eq_zero_or_pos t.length with h0|h0
 ·have ht:t=[]:=List.eq_nil_of_length_eq_zero h0
  subst ht
  have hz:IntKind.i64.wrap ((be [a,b,c,d]:Nat):Int)=0:=by rw[cv_be4_i64,← hn];rfl
  refine do2 Tryz.func111 ?_
  have he:Evo (Nb rb) w w:=Evo.refl w
  refine q ?_
  refine cl rfl (readType_ok hR) ?_
  rintro v1 w1 ⟨rfl,hR,e1⟩
  refine gqo 6 rfl ?_
  refine gq 4 rfl ?_
  refine WL.q rfl (r_ifneNil Fb.h rfl) ?_
  refine WL.nil ?_
  refine WC.condF rfl ?_
  refine WC.skip ?_
  refine gq 25 rfl ?_
  refine cl rfl (Next_ok (l:=[a,b,c,d]) hR rfl) ?_
  rintro v2 w2 ⟨v,rfl,hX,hR,e2⟩
  refine q ?_
  refine cl rfl (Uint32_ok (r:=[]) hX) ?_
  rintro v3 w3 ⟨rfl,e3⟩
  refine q ?_
  try refine WL.q rfl (r_cmp (r_eql rfl rfl) (beqT (by(exact hz)))) ?_
  refine q ?_
  replace he:=((he.then e1).then e2).then e3
  have hs4:=he.size
  refine WL.l rfl (l_make0 (n:=0) Fo.h rfl rfl rfl (by decide) (by decide)) ?_
  rintro v4 w4 ⟨rfl,hO,e4⟩
  refine q ?_
  replace hR:=(hR.mono e3).mono e4
  replace he:=he.then e4
  exact zR4_1
 ·have hz:IntKind.i64.wrap ((be [a,b,c,d]:Nat):Int)≠0:=by rw[cv_be4_i64,← hn];omega
  have hlen:t.length<4294967296:=by have:=be4_lt a b c d;omega
  refine do2 Tryz.func111 ?_
  have he:Evo (Nb rb) w w:=Evo.refl w
  refine q ?_
  refine cl rfl (readType_ok hR) ?_
  rintro v1 w1 ⟨rfl,hR,e1⟩
  refine gqo 6 rfl ?_
  refine gq 4 rfl ?_
  refine WL.q rfl (r_ifneNil Fb.h rfl) ?_
  refine WL.nil ?_
  refine WC.condF rfl ?_
  refine WC.skip ?_
  refine gq 25 rfl ?_
  refine cl rfl (Next_ok (l:=[a,b,c,d]) hR rfl) ?_
  rintro v2 w2 ⟨v,rfl,hX,hR,e2⟩
  refine q ?_
  refine cl rfl (Uint32_ok (r:=[]) hX) ?_
  rintro v3 w3 ⟨rfl,e3⟩
  refine q ?_
  try refine WL.q rfl (r_cmp (r_eql rfl rfl) (beqF (by(exact hz)))) ?_
  refine q ?_
  replace hR:=hR.mono e3
  refine cl rfl (Next_I hR (by rw[hn,cv_be4_i64])) ?_
  rintro v4 w4 ⟨v,rfl,hY,hR,e4⟩
  have hB0:w.heap.size≤w4.heap.size:=Nat.le_trans (Nat.le_trans (Nat.le_trans e1.size e2.size) e3.size) e4.size
  refine q ?_
  refine WL.l rfl (l_app Fo.h rfl rfl (Own.nil w.heap.size 5 1 _) (Src.isB Fb.h hY) hB0 (by simp only[maxLen];omega) (by omega)) ?_
  rintro v5 w5 ⟨hO,e5⟩
  refine q ?_
  replace hR:=hR.mono e5
  replace he:=((((he.then e1).then e2).then e3).then e4).then e5
  exact fin2 rfl rfl ⟨_,rfl,Own.toB hO (fun b h _=>h),hR,he⟩
theorem readUUID_ok{rb:Nat}{t r:List UInt8}{w:World}(hn:t.length=16)(hR:Rd w rb (0x98::(t++r))):
  Does TP 206 [.pointer (some ⟨rb,0,none⟩)] w fun u w'=>u= .tuple #[.agg (bc t).toArray,.nilIface]∧Rd w' rb r∧Evo (Nb rb) w w':=by
 have hr0:=hR.lt
 refine doR Tryz.func206 ?_
 have he:Evo (Nb rb) w w:=Evo.refl w
 refine q ?_
 have hs1:=he.size
 refine al ?_
 rintro _ w1 ⟨rfl,hb1,e1⟩
 refine q ?_
 replace he:=he.then e1
 have hs2:=he.size
 have hx2b1:=hb1.lt
 refine al ?_
 rintro _ w2 ⟨rfl,hb2,e2⟩
 refine q ?_
 replace hR:=(hR.mono e1).mono e2
 refine cl rfl (readType_ok hR) ?_
 rintro v3 w3 ⟨rfl,hR,e3⟩
 refine q ?_
 refine cl rfl (Next_ok hR hn) ?_
 rintro v4 w4 ⟨v,rfl,hY,hR,e4⟩
 refine q ?_
 refine WL.q rfl (r_sliceArr Fo.h rfl) ?_
 refine q ?_
 replace hb2:=(hb2.mono e3).mono e4
 refine WL.l rfl (l_copyB Fb.h rfl rfl hb2 rfl hY hn (by decide)) ?_
 rintro v5 w5 ⟨rfl,hb2,e5⟩
 refine q ?_
 refine WL.q rfl (r_loadAgg Fo.h rfl (Ext.refl _) hb2.at (by simp[hn])) ?_
 replace hb1:=(((hb1.mono e2).mono e3).mono e4).mono e5
 refine WL.l0 (lsw rfl rfl hb1) ?_
 rintro _ w6 ⟨hb1,e6,hz6⟩
 refine q ?_
 replace hR:=(hR.mono e5).mono e6
 replace he:=((((he.then e2).then e3).then e4).then e5).then e6
 exact finCt rfl hb1 (by simp[hn,agg_319]) rfl ⟨rfl,hR,he⟩
theorem zR5_1{A:Prop}(h:A:=by
 replace hR:=hR.mono e2
 refine cl rfl (Next_ok (l:=[a,b,c,d,e,f,g,h]) hR rfl) ?_
 rintro v3 w3 ⟨v,rfl,hY,hR,e3⟩
 obtain⟨pb,po,cp,rfl,hcp,hA,hD⟩:=hY.open (by simp)
 have hD7:=hD.get 7 (by simp)
 simp only[List.getElem_cons_zero,List.getElem_cons_succ]at hD7
 have hZ1:=hY.cut 0 4 (by simp)
 have hZ2:=hY.cut 4 4 (by simp)
 simp only[List.drop_zero,List.take_succ_cons,List.take_zero,List.drop_succ_cons]at hZ1 hZ2
 rw[show(if cp=0 then some (⟨pb,po,none⟩:Addr)else Option.map (fun x=>x.add (0 * 1)) (some (⟨pb,po,none⟩:Addr)))=some ⟨pb,po,none⟩ by split<;>simp[Addr_add]]at hZ1
 refine q ?_
 refine WL.q rfl (r_load Fb.h rfl (Ext.refl _) hD7) ?_
 refine q ?_
 refine WC.regionD (tt [0,1,2]++ff [3]++tt [4,5]) (Ext _) mixed (by kernel_rfl) (Ext.drew _) ?_
 refine q ?_
 refine WD.q rfl (fun _ hS=>r_sliceh Fo.h rfl rfl rfl (by simp at hcp⊢;omega)) ?_
 refine cd rfl (Uint32_ok (r:=[]) (hZ1.mono (Ext.drew _))) ?_
 rintro v4 w4 ⟨rfl,e4⟩
 refine⟨ch,?_⟩
 refine q ?_
 replace hR:=(hR.mono (Ext.drew _)).mono e4
 replace hY:=(hY.mono (Ext.drew _)).mono e4
 replace hZ1:=(hZ1.mono (Ext.drew _)).mono e4
 replace hZ2:=(hZ2.mono (Ext.drew _)).mono e4
 replace hD:=(hD.mono (Ext.drew _)).mono e4
 refine WC.regionD (tt [0,1,2]++ff [3]++tt [4,5]) (Ext _) mixed (by kernel_rfl) (Ext.drew _) ?_
 refine q ?_
 refine WD.q rfl (fun _ hS=>r_slice Fo.h rfl rfl rfl (l:=4) (h:=8) rfl rfl (by omega) (by simp at hcp⊢;omega)) ?_
 refine cd rfl (Uint32_ok (r:=[]) (hZ2.mono (Ext.drew _))) ?_
 rintro v5 w5 ⟨rfl,e5⟩
 refine⟨ch,?_⟩
 refine q ?_
 replace hR:=(hR.mono (Ext.drew _)).mono e5
 exact fin2 rfl rfl ⟨by rw[hw2],hR,ch⟩):A:=h
theorem zR5_2{A:Prop}(h:A:=by
 replace hR:=hR.mono e2
 refine cl rfl (Next_ok (l:=[s,n]) hR rfl) ?_
 rintro v3 w3 ⟨v,rfl,hY,hR,e3⟩
 obtain⟨pb,po,cp,rfl,hcp,hA,hD⟩:=hY.open (by simp)
 have hD0:=hD.get 0 (by simp)
 have hD1:=hD.get 1 (by simp)
 simp only[List.getElem_cons_zero,List.getElem_cons_succ]at hD0 hD1
 refine q ?_
 try refine WL.q rfl (r_load Fb.h rfl (Ext.refl _) (by first|exact hD0|exact hD1)) ?_
 refine q ?_
 try refine WL.q rfl (r_load Fb.h rfl (Ext.refl _) (by first|exact hD0|exact hD1)) ?_
 refine q ?_
 try refine WL.q rfl (r_load Fb.h rfl (Ext.refl _) (by first|exact hD0|exact hD1)) ?_
 refine q ?_
 exact fin2 rfl rfl ⟨by rw[hw2],hR,ch⟩):A:=h
theorem zR5_3{A:Prop}(h:A:=by
 rintro v2 w2 ⟨rfl,e2⟩
 replace hb1:=hb1.mono e2
 refine WL.l0 (lsw rfl rfl hb1) ?_
 rintro _ w3 ⟨hb1,e3,hz3⟩
 refine q ?_
 replace he:=((he.then e1).then e2).then e3
 exact finC rfl hb1 agg_251 ⟨tm_eq (by omega) (by omega),he⟩):A:=h
theorem agg2{k l:IntKind}{a b c d:Int}(h1:a=c)(h2:b=d):(.agg #[.int k a,.int l b]:Value)= .agg #[.int k c,.int l d]:=by subst h1 h2;rfl
theorem At_pos{s n:Int}{w:World}(h0:0≤n)(h1:n<1000000000):
  Does TP 199 [.int .i64 s,.int .i64 n] w fun u w'=>u= .agg #[.int .i64 s,.int .i64 n]∧Ext w w':=by
 refine doR Tryz.func199 ?_
 have he:Evo (fun _=>True) w w:=Evo.refl w
 refine q ?_
 have hs1:=he.size
 refine al ?_
 rintro _ w1 ⟨rfl,hb1,e1⟩
 refine q ?_
 refine WL.q rfl (r_bld (cs:=[_,_]) Fo.h rfl rfl) ?_
 refine WL.l0 (lsw rfl rfl hb1) ?_
 rintro _ w2 ⟨hb1,e2,hz2⟩
 refine q ?_
 replace he:=he.then (e1.then e2)
 exact finC rfl hb1 agg_251 ⟨rfl,he⟩
theorem At_neg{s n:Int}{w:World}(h0: -1000000000<n)(h1:n<0)(h2: -9223372036854775808<s)(h3:s≤9223372036854775807):
  Does TP 199 [.int .i64 s,.int .i64 n] w fun u w'=>u= .agg #[.int .i64 (s-1),.int .i64 (n+1000000000)]∧Ext w w':=by
 have e0:IntKind.i64.wrap (n.tdiv 1000000000)=0:=by
  have:n.tdiv 1000000000=0:=by
   have h:n= -(-n):=by omega
   rw[h,Int.neg_tdiv,Int.tdiv_eq_zero_of_lt (by omega) (by omega)];rfl
  rw[this];rfl
 refine doR Tryz.func199 ?_
 have he:Evo (fun _=>True) w w:=Evo.refl w
 refine q ?_
 have hs1:=he.size
 refine al ?_
 rintro _ w1 ⟨rfl,hb1,e1⟩
 refine q ?_
 refine WL.q rfl (r_quoE (by decide) rfl rfl e0) ?_
 refine q ?_
 refine WL.q rfl (r_bld (cs:=[_,_]) Fo.h rfl rfl) ?_
 refine WL.l0 (lsw rfl rfl hb1) ?_
 rintro _ w2 ⟨hb1,e2,hz2⟩
 refine q ?_
 replace he:=he.then (e1.then e2)
 exact finC rfl hb1 agg_251 ⟨agg2 (by omega) (by omega),he⟩
def tm(ms:Int):List Value:=[.int .i64 (ms / 1000),.int .i64 ((ms%1000) * 1000000)]
theorem tm_eq{a b ms:Int}(h1:a=ms / 1000)(h2:b=(ms%1000) * 1000000):(.agg #[.int .i64 a,.int .i64 b]:Value)= .agg (tm ms).toArray:=by subst h1 h2;rfl
theorem AtMilli_ok{ms:Int}{w:World}(h1: -9223372036854775808≤ms)(h2:ms≤9223372036854775807):
  Does TP 195 [.int .i64 ms] w fun u w'=>u= .agg (tm ms).toArray∧Ext w w':=by
 rcases Int.lt_or_le ms 0 with h|h
 ·have hd:ms.tdiv 1000= -((-ms) / 1000):=by
   have h':ms= -(-ms):=by omega
   rw[h',Int.neg_tdiv,Int.tdiv_eq_ediv_of_nonneg (by omega),← h']
  have hm:ms.tmod 1000= -((-ms)%1000):=by
   have h':ms= -(-ms):=by omega
   rw[h',Int.neg_tmod,Int.tmod_eq_emod_of_nonneg (by omega),← h']
  have hw:IntKind.i64.wrap (ms.tdiv 1000)= -((-ms) / 1000):=by rw[hd];exact wrap_i64 (by omega) (by omega)
  rcases Int.lt_or_le 0 ((-ms)%1000)with h3|h3
  ·refine doR Tryz.func195 ?_
   have he:Evo (fun _=>True) w w:=Evo.refl w
   refine q ?_
   have hs1:=he.size
   refine al ?_
   rintro _ w1 ⟨rfl,hb1,e1⟩
   refine q ?_
   refine WL.q rfl (r_quoE (by decide) rfl rfl hw) ?_
   refine q ?_
   refine WL.q rfl (r_remE (by decide) rfl rfl hm) ?_
   refine q ?_
   refine cl rfl (At_neg (by omega) (by omega) (by omega) (by omega)) ?_
   exact zR5_3
  ·refine doR Tryz.func195 ?_
   have he:Evo (fun _=>True) w w:=Evo.refl w
   refine q ?_
   have hs1:=he.size
   refine al ?_
   rintro _ w1 ⟨rfl,hb1,e1⟩
   refine q ?_
   refine WL.q rfl (r_quoE (by decide) rfl rfl hw) ?_
   refine q ?_
   refine WL.q rfl (r_remE (by decide) rfl rfl hm) ?_
   refine q ?_
   refine cl rfl (At_pos (by omega) (by omega)) ?_
   exact zR5_3
 ·have hw:IntKind.i64.wrap (ms.tdiv 1000)=ms / 1000:=by rw[Int.tdiv_eq_ediv_of_nonneg h];exact wrap_i64 (by omega) (by omega)
  have hm:ms.tmod 1000=ms%1000:=Int.tmod_eq_emod_of_nonneg h
  refine doR Tryz.func195 ?_
  have he:Evo (fun _=>True) w w:=Evo.refl w
  refine q ?_
  have hs1:=he.size
  refine al ?_
  rintro _ w1 ⟨rfl,hb1,e1⟩
  refine q ?_
  refine WL.q rfl (r_quoE (by decide) rfl rfl hw) ?_
  refine q ?_
  refine WL.q rfl (r_remE (by decide) rfl rfl hm) ?_
  refine q ?_
  refine cl rfl (At_pos (by omega) (by omega)) ?_
  rintro v2 w2 ⟨rfl,e2⟩
  replace hb1:=hb1.mono e2
  refine WL.l0 (lsw rfl rfl hb1) ?_
  rintro _ w3 ⟨hb1,e3,hz3⟩
  refine q ?_
  replace he:=((he.then e1).then e2).then e3
  exact finC rfl hb1 agg_251 ⟨tm_eq rfl rfl,he⟩
theorem i64_range(n:Int): -9223372036854775808≤IntKind.i64.wrap n∧IntKind.i64.wrap n≤9223372036854775807:=by
 unfold IntKind.wrap
 have e1:(2:Int)^IntKind.i64.bits=18446744073709551616:=by decide
 have e2:(2:Int)^(IntKind.i64.bits-1)=9223372036854775808:=by decide
 simp only[e1,e2]
 split<;>rename_i h<;>simp[IntKind.signed]at h<;>omega
theorem readTimestamp_ok{rb:Nat}{a b c d e f g h:UInt8}{r:List UInt8}{w:World}(hR:Rd w rb (0x83::a::b::c::d::e::f::g::h::r)):
  Does TP 113 [.pointer (some ⟨rb,0,none⟩)] w fun u w'=>u= .tuple #[.agg (tm (IntKind.i64.wrap ((be [a,b,c,d,e,f,g,h]:Nat):Int))).toArray,.nilIface]∧Rd w' rb r∧Evo (Nb rb) w w':=by
 have hr0:=hR.lt
 have hwr:=i64_range (((be [a,b,c,d,e,f,g,h]:Nat):Int))
 refine doR Tryz.func113 ?_
 have he:Evo (Nb rb) w w:=Evo.refl w
 refine q ?_
 have hs1:=he.size
 refine al ?_
 rintro _ w1 ⟨rfl,hb1,e1⟩
 refine q ?_
 replace hR:=hR.mono e1
 refine cl rfl (readType_ok hR) ?_
 rintro v2 w2 ⟨rfl,hR,e2⟩
 refine q ?_
 refine cl rfl (ReadUint64_ok hR) ?_
 rintro v3 w3 ⟨rfl,hR,e3⟩
 refine q ?_
 refine cl rfl (AtMilli_ok hwr.1 hwr.2) ?_
 rintro v4 w4 ⟨rfl,e4⟩
 refine q ?_
 replace hb1:=((hb1.mono e2).mono e3).mono e4
 refine WL.l0 (lsw rfl rfl hb1) ?_
 rintro _ w5 ⟨hb1,e5,hz5⟩
 refine q ?_
 replace hR:=(hR.mono e4).mono e5
 replace he:=((((he.then e1).then e2).then e3).then e4).then e5
 exact finCt rfl hb1 agg_251 rfl ⟨rfl,hR,he⟩
theorem readListHeader0_ok{rb:Nat}{r:List UInt8}{w:World}(hR:Rd w rb (0x45::r)):
  Does TP 97 [.pointer (some ⟨rb,0,none⟩)] w fun u w'=>u= .tuple #[.int .i64 0,.nilIface]∧Rd w' rb r∧Evo (Nb rb) w w':=by
 refine do2 Tryz.func97 ?_
 refine q ?_
 refine cl rfl (readType_ok hR) ?_
 rintro v1 w1 ⟨rfl,hR,e1⟩
 refine q ?_
 refine cl rfl (LenR_ok hR) ?_
 rintro v2 w2 ⟨rfl,e2⟩
 refine q ?_
 replace hR:=hR.mono e2
 exact fin2 rfl rfl ⟨rfl,hR,ch⟩
theorem readListHeader1_ok{rb:Nat}{s n:UInt8}{t r:List UInt8}{w:World}(hn:t.length+1=s.toNat)(hc:n.toNat≤t.length)(hR:Rd w rb (0xc0::s::n::(t++r))):
  Does TP 97 [.pointer (some ⟨rb,0,none⟩)] w fun u w'=>u= .tuple #[.int .i64 (n.toNat:Int),.nilIface]∧Rd w' rb (t++r)∧Evo (Nb rb) w w':=by
 have hs:=u8_lt s
 have hlen:=hR.len
 simp only[List.length_cons,List.length_append]at hlen
 have hl:(s::n::(t++r)).length=t.length+r.length+2:=by simp only[List.length_cons,List.length_append]
 have hw1:=cv_u8_i64 s
 have hw2:=cv_u8_i64 n
 refine do2 Tryz.func97 ?_
 refine q ?_
 refine cl rfl (readType_ok hR) ?_
 rintro v1 w1 ⟨rfl,hR,e1⟩
 refine q ?_
 refine cl rfl (LenR_ok hR) ?_
 rintro v2 w2 ⟨rfl,e2⟩
 refine WL.q rfl (r_assign rfl) ?_
 refine WL.nil ?_
 refine gq 26 rfl ?_
 exact zR5_2
theorem readListHeader4_ok{rb:Nat}{a b c d e f g h:UInt8}{t r:List UInt8}{w:World}(hn:t.length+4=be [a,b,c,d])(hc:be [e,f,g,h]≤t.length)(hm:be [e,f,g,h]≤65536)(hR:Rd w rb (0xd0::a::b::c::d::e::f::g::h::(t++r))):
  Does TP 97 [.pointer (some ⟨rb,0,none⟩)] w fun u w'=>u= .tuple #[.int .i64 ((be [e,f,g,h]:Nat):Int),.nilIface]∧Rd w' rb (t++r)∧Evo (Nb rb) w w':=by
 have hs:=be4_lt a b c d
 have hlen:=hR.len
 simp only[List.length_cons,List.length_append]at hlen
 have hl:(a::b::c::d::e::f::g::h::(t++r)).length=t.length+r.length+8:=by simp only[List.length_cons,List.length_append]
 have hw1:=cv_be4_i64 a b c d
 have hw2:=cv_be4_i64 e f g h
 refine do2 Tryz.func97 ?_
 refine q ?_
 refine cl rfl (readType_ok hR) ?_
 rintro v1 w1 ⟨rfl,hR,e1⟩
 refine q ?_
 refine cl rfl (LenR_ok hR) ?_
 rintro v2 w2 ⟨rfl,e2⟩
 refine WL.q rfl (r_assign rfl) ?_
 refine WL.nil ?_
 refine gq 32 rfl ?_
 exact zR5_1
theorem readArrayHeader1_ok{rb:Nat}{s n:UInt8}{t r:List UInt8}{w:World}(hn:t.length+1=s.toNat)(hc:n.toNat≤t.length)(hR:Rd w rb (0xe0::s::n::(t++r))):
  Does TP 196 [.pointer (some ⟨rb,0,none⟩)] w fun u w'=>u= .tuple #[.int .i64 (n.toNat:Int),.nilIface]∧Rd w' rb (t++r)∧Evo (Nb rb) w w':=by
 have hs:=u8_lt s
 have hlen:=hR.len
 simp only[List.length_cons,List.length_append]at hlen
 have hl:(s::n::(t++r)).length=t.length+r.length+2:=by simp only[List.length_cons,List.length_append]
 have hw1:=cv_u8_i64 s
 have hw2:=cv_u8_i64 n
 refine do2 Tryz.func196 ?_
 refine q ?_
 refine cl rfl (readType_ok hR) ?_
 rintro v1 w1 ⟨rfl,hR,e1⟩
 refine q ?_
 refine cl rfl (LenR_ok hR) ?_
 rintro v2 w2 ⟨rfl,e2⟩
 refine q ?_
 exact zR5_2
theorem readArrayHeader4_ok{rb:Nat}{a b c d e f g h:UInt8}{t r:List UInt8}{w:World}(hn:t.length+4=be [a,b,c,d])(hc:be [e,f,g,h]≤t.length)(hm:be [e,f,g,h]≤65536)(hR:Rd w rb (0xf0::a::b::c::d::e::f::g::h::(t++r))):
  Does TP 196 [.pointer (some ⟨rb,0,none⟩)] w fun u w'=>u= .tuple #[.int .i64 ((be [e,f,g,h]:Nat):Int),.nilIface]∧Rd w' rb (t++r)∧Evo (Nb rb) w w':=by
 have hs:=be4_lt a b c d
 have hlen:=hR.len
 simp only[List.length_cons,List.length_append]at hlen
 have hl:(a::b::c::d::e::f::g::h::(t++r)).length=t.length+r.length+8:=by simp only[List.length_cons,List.length_append]
 have hw1:=cv_be4_i64 a b c d
 have hw2:=cv_be4_i64 e f g h
 refine do2 Tryz.func196 ?_
 refine q ?_
 refine cl rfl (readType_ok hR) ?_
 rintro v1 w1 ⟨rfl,hR,e1⟩
 refine q ?_
 refine cl rfl (LenR_ok hR) ?_
 rintro v2 w2 ⟨rfl,e2⟩
 refine WL.q rfl (r_assign rfl) ?_
 refine WL.nil ?_
 refine gq 26 rfl ?_
 exact zR5_1
end Go.Proofs.LL
namespace Go.Proofs.LL
open Go Go.Proofs Go.RowKit
def ArrH(hd:List UInt8)(n:Nat)(t:List UInt8):Prop:=
 (∃s k,hd=[0xe0,s,k]∧t.length+1=s.toNat∧k.toNat=n∧n≤t.length)∨
 (∃a b c d e f g h,hd=[0xf0,a,b,c,d,e,f,g,h]∧t.length+4=be [a,b,c,d]∧be [e,f,g,h]=n∧n≤65536∧n≤t.length)
theorem readArrayHeader_ok{rb n:Nat}{hd t r:List UInt8}{w:World}(hh:ArrH hd n t)(hR:Rd w rb (hd++(t++r))):
  Does TP 196 [.pointer (some ⟨rb,0,none⟩)] w fun u w'=>u= .tuple #[.int .i64 (n:Int),.nilIface]∧Rd w' rb (t++r)∧Evo (Nb rb) w w':=by
 rcases hh with⟨s,k,rfl,h1,rfl,h3⟩|⟨a,b,c,d,e,f,g,h,rfl,h1,rfl,h3,h4⟩
 ·exact readArrayHeader1_ok h1 h3 hR
 ·exact readArrayHeader4_ok h1 h4 h3 hR
theorem ArrH.le{hd t:List UInt8}{n:Nat}(h:ArrH hd n t):n≤65536∧n≤t.length:=by
 rcases h with⟨s,k,rfl,h1,rfl,h3⟩|⟨a,b,c,d,e,f,g,h,rfl,h1,rfl,h3,h4⟩
 ·exact⟨by have:=k.toNat_lt;omega,h3⟩
 ·exact⟨h3,h4⟩
def LstH(hd:List UInt8)(n:Nat)(t:List UInt8):Prop:=
 (hd=[0x45]∧n=0∧t=[])∨
 (∃s k,hd=[0xc0,s,k]∧t.length+1=s.toNat∧k.toNat=n∧n≤t.length)∨
 (∃a b c d e f g h,hd=[0xd0,a,b,c,d,e,f,g,h]∧t.length+4=be [a,b,c,d]∧be [e,f,g,h]=n∧n≤65536∧n≤t.length)
theorem readListHeader_ok{rb n:Nat}{hd t r:List UInt8}{w:World}(hh:LstH hd n t)(hR:Rd w rb (hd++(t++r))):
  Does TP 97 [.pointer (some ⟨rb,0,none⟩)] w fun u w'=>u= .tuple #[.int .i64 (n:Int),.nilIface]∧Rd w' rb (t++r)∧Evo (Nb rb) w w':=by
 rcases hh with⟨rfl,rfl,rfl⟩|⟨s,k,rfl,h1,rfl,h3⟩|⟨a,b,c,d,e,f,g,h,rfl,h1,rfl,h3,h4⟩
 ·exact readListHeader0_ok hR
 ·exact readListHeader1_ok h1 h3 hR
 ·exact readListHeader4_ok h1 h4 h3 hR
theorem LstH.le{hd t:List UInt8}{n:Nat}(h:LstH hd n t):n≤65536∧n≤t.length:=by
 rcases h with⟨rfl,rfl,rfl⟩|⟨s,k,rfl,h1,rfl,h3⟩|⟨a,b,c,d,e,f,g,h,rfl,h1,rfl,h3,h4⟩
 ·simp
 ·exact⟨by have:=k.toNat_lt;omega,h3⟩
 ·exact⟨h3,h4⟩
end Go.Proofs.LL
