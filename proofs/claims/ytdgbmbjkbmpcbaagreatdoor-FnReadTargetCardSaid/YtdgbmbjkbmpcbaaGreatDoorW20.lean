/- Contracts of functions of impl, spec and laws. Conditions: those that each theorem states. -/
import Derived.Test.YtdgbmbjkbmpcbaaGreatDoorW19
set_option linter.all false
set_option maxRecDepth 20000
namespace Go.Proofs.LL
open Go Go.Proofs Go.RowKit
theorem len2{n:Nat}(h:n<65536):be [UInt8.ofNat (n>>>(8 * 1)),UInt8.ofNat (n>>>(8 * 0))]=n:=(be_bigB n 2).trans (Nat.mod_eq_of_lt h)
theorem len8{n:Nat}(h:n<18446744073709551616):be [UInt8.ofNat (n>>>(8 * 7)),UInt8.ofNat (n>>>(8 * 6)),UInt8.ofNat (n>>>(8 * 5)),UInt8.ofNat (n>>>(8 * 4)),UInt8.ofNat (n>>>(8 * 3)),UInt8.ofNat (n>>>(8 * 2)),UInt8.ofNat (n>>>(8 * 1)),UInt8.ofNat (n>>>(8 * 0))]=n:=(be_bigB n 8).trans (Nat.mod_eq_of_lt h)
theorem low1{n:Nat}(h:n<256):(UInt8.ofNat (n>>>(8 * 0))).toNat=n:=by simp only[Nat.mul_zero,Nat.shiftRight_zero,UInt8.toNat_ofNat'];exact Nat.mod_eq_of_lt h
theorem mod2(n:Nat):be [UInt8.ofNat (n>>>(8 * 1)),UInt8.ofNat (n>>>(8 * 0))]=n%65536:=be_bigB n 2
theorem mod4(n:Nat):be [UInt8.ofNat (n>>>(8 * 3)),UInt8.ofNat (n>>>(8 * 2)),UInt8.ofNat (n>>>(8 * 1)),UInt8.ofNat (n>>>(8 * 0))]=n%4294967296:=be_bigB n 4
theorem sh0(n:Nat):UInt8.ofNat (n>>>(8 * 0))=UInt8.ofNat n:=by simp
theorem numC_of{k:Int}{c:UInt8}{s:Nat}{c':UInt8}{s':Nat}(h:numC k=some (c,s))(h':numC k=some (c',s')):c=c'∧s=s':=by
 rw[h]at h'
 simpa using h'
theorem readUbyte_pc{x:V}{c:UInt8}{data r:List UInt8}{rb:Nat}{w:World}(hk:x.kind=2)(hn:x.num<256)(h:Pc x c data)(hR:Rd w rb (c::(data++r))):
  Does TP 107 [.pointer (some ⟨rb,0,none⟩)] w fun u w'=>u= .tuple #[.int .u8 (x.num:Int),.nilIface]∧Rd w' rb r∧Evo (Nb rb) w w':=by
 obtain⟨k,n,t,ks,o,d⟩:=x
 simp only[V.kind,V.num,V.text]at *
 cases h
 case null=>omega
 case tt=>omega
 case ff=>omega
 case bool=>omega
 case num s hc=>
  subst hk
  obtain⟨rfl,rfl⟩:=numC_of hc (c':=0x50) (s':=1) rfl
  exact(readUbyte_ok (show Rd w rb (0x50::UInt8.ofNat (n>>>(8 * 0))::r)from hR)).imp fun v w' ⟨h1,h2,h3⟩=>⟨by rw[h1,low1 hn],h2,h3⟩
 case uint0=>omega
 case uint1=>omega
 case ulong0=>omega
 case ulong1=>omega
 case int1=>omega
 case long1=>omega
 case uuid=>omega
 case bin1=>omega
 case bin4=>omega
 case str1=>omega
 case str4=>omega
 case sym1=>omega
 case sym4=>omega
 case list0=>omega
 case list=>omega
 case map=>omega
 case arr=>omega
theorem readUshort_pc{x:V}{c:UInt8}{data r:List UInt8}{rb:Nat}{w:World}(hk:x.kind=3)(hn:x.num<65536)(h:Pc x c data)(hR:Rd w rb (c::(data++r))):
  Does TP 106 [.pointer (some ⟨rb,0,none⟩)] w fun u w'=>u= .tuple #[.int .u16 (x.num:Int),.nilIface]∧Rd w' rb r∧Evo (Nb rb) w w':=by
 obtain⟨k,n,t,ks,o,d⟩:=x
 simp only[V.kind,V.num,V.text]at *
 cases h
 case null=>omega
 case tt=>omega
 case ff=>omega
 case bool=>omega
 case num s hc=>
  subst hk
  obtain⟨rfl,rfl⟩:=numC_of hc (c':=0x60) (s':=2) rfl
  exact(readUshort_ok (show Rd w rb (0x60::UInt8.ofNat (n>>>(8 * 1))::UInt8.ofNat (n>>>(8 * 0))::r)from hR)).imp fun v w' ⟨h1,h2,h3⟩=>⟨by rw[h1,len2 hn],h2,h3⟩
 case uint0=>omega
 case uint1=>omega
 case ulong0=>omega
 case ulong1=>omega
 case int1=>omega
 case long1=>omega
 case uuid=>omega
 case bin1=>omega
 case bin4=>omega
 case str1=>omega
 case str4=>omega
 case sym1=>omega
 case sym4=>omega
 case list0=>omega
 case list=>omega
 case map=>omega
 case arr=>omega
theorem readUint_pc{x:V}{c:UInt8}{data r:List UInt8}{rb:Nat}{w:World}(hk:x.kind=4)(hn:x.num<4294967296)(h:Pc x c data)(hR:Rd w rb (c::(data++r))):
  Does TP 105 [.pointer (some ⟨rb,0,none⟩)] w fun u w'=>u= .tuple #[.int .u32 (x.num:Int),.nilIface]∧Rd w' rb r∧Evo (Nb rb) w w':=by
 obtain⟨k,n,t,ks,o,d⟩:=x
 simp only[V.kind,V.num,V.text]at *
 cases h
 case null=>omega
 case tt=>omega
 case ff=>omega
 case bool=>omega
 case num s hc=>
  subst hk
  obtain⟨rfl,rfl⟩:=numC_of hc (c':=0x70) (s':=4) rfl
  exact(readUint4_ok (show Rd w rb (0x70::UInt8.ofNat (n>>>(8 * 3))::UInt8.ofNat (n>>>(8 * 2))::UInt8.ofNat (n>>>(8 * 1))::UInt8.ofNat (n>>>(8 * 0))::r)from hR)).imp fun v w' ⟨h1,h2,h3⟩=>⟨by rw[h1,len4 hn],h2,h3⟩
 case uint0=>exact(readUint0_ok hR).imp fun v w' ⟨h1,h2,h3⟩=>⟨by rw[h1];rfl,h2,h3⟩
 case uint1 h=>exact(readUint1_ok (show Rd w rb (0x52::UInt8.ofNat (n>>>(8 * 0))::r)from hR)).imp fun v w' ⟨h1,h2,h3⟩=>⟨by rw[h1,w_u32,low1 h],h2,h3⟩
 case ulong0=>omega
 case ulong1=>omega
 case int1=>omega
 case long1=>omega
 case uuid=>omega
 case bin1=>omega
 case bin4=>omega
 case str1=>omega
 case str4=>omega
 case sym1=>omega
 case sym4=>omega
 case list0=>omega
 case list=>omega
 case map=>omega
 case arr=>omega
theorem readUlong_pc{x:V}{c:UInt8}{data r:List UInt8}{rb:Nat}{w:World}(hk:x.kind=5)(hn:x.num<18446744073709551616)(h:Pc x c data)(hR:Rd w rb (c::(data++r))):
  Does TP 96 [.pointer (some ⟨rb,0,none⟩)] w fun u w'=>u= .tuple #[.int .u64 (x.num:Int),.nilIface]∧Rd w' rb r∧Evo (Nb rb) w w':=by
 obtain⟨k,n,t,ks,o,d⟩:=x
 simp only[V.kind,V.num,V.text]at *
 cases h
 case null=>omega
 case tt=>omega
 case ff=>omega
 case bool=>omega
 case num s hc=>
  subst hk
  obtain⟨rfl,rfl⟩:=numC_of hc (c':=0x80) (s':=8) rfl
  exact(readUlong8_ok (show Rd w rb (0x80::UInt8.ofNat (n>>>(8 * 7))::UInt8.ofNat (n>>>(8 * 6))::UInt8.ofNat (n>>>(8 * 5))::UInt8.ofNat (n>>>(8 * 4))::UInt8.ofNat (n>>>(8 * 3))::UInt8.ofNat (n>>>(8 * 2))::UInt8.ofNat (n>>>(8 * 1))::UInt8.ofNat (n>>>(8 * 0))::r)from hR)).imp fun v w' ⟨h1,h2,h3⟩=>⟨by rw[h1,len8 hn],h2,h3⟩
 case uint0=>omega
 case uint1=>omega
 case ulong0=>exact(readUlong0_ok hR).imp fun v w' ⟨h1,h2,h3⟩=>⟨by rw[h1];rfl,h2,h3⟩
 case ulong1 h=>exact(readUlong1_ok (show Rd w rb (0x53::UInt8.ofNat (n>>>(8 * 0))::r)from hR)).imp fun v w' ⟨h1,h2,h3⟩=>⟨by rw[h1,w_u64,low1 h],h2,h3⟩
 case int1=>omega
 case long1=>omega
 case uuid=>omega
 case bin1=>omega
 case bin4=>omega
 case str1=>omega
 case str4=>omega
 case sym1=>omega
 case sym4=>omega
 case list0=>omega
 case list=>omega
 case map=>omega
 case arr=>omega
theorem readSbyte_pc{x:V}{c:UInt8}{data r:List UInt8}{rb:Nat}{w:World}(hk:x.kind=6)(hn:SOK 8 x.num)(h:Pc x c data)(hR:Rd w rb (c::(data++r))):
  Does TP 101 [.pointer (some ⟨rb,0,none⟩)] w fun u w'=>u= .tuple #[.int .i8 (IntKind.i64.wrap (x.num:Int)),.nilIface]∧Rd w' rb r∧Evo (Nb rb) w w':=by
 obtain⟨k,n,t,ks,o,d⟩:=x
 simp only[V.kind,V.num,V.text]at *
 cases h
 case null=>omega
 case tt=>omega
 case ff=>omega
 case bool=>omega
 case num s hc=>
  subst hk
  obtain⟨rfl,rfl⟩:=numC_of hc (c':=0x51) (s':=1) rfl
  exact(readSbyte_ok (show Rd w rb (0x51::UInt8.ofNat (n>>>(8 * 0))::r)from hR)).imp fun v w' ⟨h1,h2,h3⟩=>⟨by rw[h1,sh0,w_i8 hn],h2,h3⟩
 case uint0=>omega
 case uint1=>omega
 case ulong0=>omega
 case ulong1=>omega
 case int1=>omega
 case long1=>omega
 case uuid=>omega
 case bin1=>omega
 case bin4=>omega
 case str1=>omega
 case str4=>omega
 case sym1=>omega
 case sym4=>omega
 case list0=>omega
 case list=>omega
 case map=>omega
 case arr=>omega
theorem readShort_pc{x:V}{c:UInt8}{data r:List UInt8}{rb:Nat}{w:World}(hk:x.kind=7)(hn:SOK 16 x.num)(h:Pc x c data)(hR:Rd w rb (c::(data++r))):
  Does TP 102 [.pointer (some ⟨rb,0,none⟩)] w fun u w'=>u= .tuple #[.int .i16 (IntKind.i64.wrap (x.num:Int)),.nilIface]∧Rd w' rb r∧Evo (Nb rb) w w':=by
 obtain⟨k,n,t,ks,o,d⟩:=x
 simp only[V.kind,V.num,V.text]at *
 cases h
 case null=>omega
 case tt=>omega
 case ff=>omega
 case bool=>omega
 case num s hc=>
  subst hk
  obtain⟨rfl,rfl⟩:=numC_of hc (c':=0x61) (s':=2) rfl
  exact(readShort_ok (show Rd w rb (0x61::UInt8.ofNat (n>>>(8 * 1))::UInt8.ofNat (n>>>(8 * 0))::r)from hR)).imp fun v w' ⟨h1,h2,h3⟩=>⟨by rw[h1,mod2,w_i16 hn],h2,h3⟩
 case uint0=>omega
 case uint1=>omega
 case ulong0=>omega
 case ulong1=>omega
 case int1=>omega
 case long1=>omega
 case uuid=>omega
 case bin1=>omega
 case bin4=>omega
 case str1=>omega
 case str4=>omega
 case sym1=>omega
 case sym4=>omega
 case list0=>omega
 case list=>omega
 case map=>omega
 case arr=>omega
theorem readInt_pc{x:V}{c:UInt8}{data r:List UInt8}{rb:Nat}{w:World}(hk:x.kind=8)(hn:SOK 32 x.num)(hb:x.num<18446744073709551616)(h:Pc x c data)(hR:Rd w rb (c::(data++r))):
  Does TP 103 [.pointer (some ⟨rb,0,none⟩)] w fun u w'=>u= .tuple #[.int .i32 (IntKind.i64.wrap (x.num:Int)),.nilIface]∧Rd w' rb r∧Evo (Nb rb) w w':=by
 obtain⟨k,n,t,ks,o,d⟩:=x
 simp only[V.kind,V.num,V.text]at *
 cases h
 case null=>omega
 case tt=>omega
 case ff=>omega
 case bool=>omega
 case num s hc=>
  subst hk
  obtain⟨rfl,rfl⟩:=numC_of hc (c':=0x71) (s':=4) rfl
  exact(readInt4_ok (show Rd w rb (0x71::UInt8.ofNat (n>>>(8 * 3))::UInt8.ofNat (n>>>(8 * 2))::UInt8.ofNat (n>>>(8 * 1))::UInt8.ofNat (n>>>(8 * 0))::r)from hR)).imp fun v w' ⟨h1,h2,h3⟩=>⟨by rw[h1,mod4,w_i32 hn],h2,h3⟩
 case uint0=>omega
 case uint1=>omega
 case ulong0=>omega
 case ulong1=>omega
 case int1 h=>exact(readInt1_ok (show Rd w rb (0x54::UInt8.ofNat (n>>>(8 * 0))::r)from hR)).imp fun v w' ⟨h1,h2,h3⟩=>⟨by rw[h1,w_i32_i8,sh0,w_sm h hb],h2,h3⟩
 case long1=>omega
 case uuid=>omega
 case bin1=>omega
 case bin4=>omega
 case str1=>omega
 case str4=>omega
 case sym1=>omega
 case sym4=>omega
 case list0=>omega
 case list=>omega
 case map=>omega
 case arr=>omega
theorem readLong_pc{x:V}{c:UInt8}{data r:List UInt8}{rb:Nat}{w:World}(hk:x.kind=9)(hb:x.num<18446744073709551616)(h:Pc x c data)(hR:Rd w rb (c::(data++r))):
  Does TP 104 [.pointer (some ⟨rb,0,none⟩)] w fun u w'=>u= .tuple #[.int .i64 (IntKind.i64.wrap (x.num:Int)),.nilIface]∧Rd w' rb r∧Evo (Nb rb) w w':=by
 obtain⟨k,n,t,ks,o,d⟩:=x
 simp only[V.kind,V.num,V.text]at *
 cases h
 case null=>omega
 case tt=>omega
 case ff=>omega
 case bool=>omega
 case num s hc=>
  subst hk
  obtain⟨rfl,rfl⟩:=numC_of hc (c':=0x81) (s':=8) rfl
  exact(readLong8_ok (show Rd w rb (0x81::UInt8.ofNat (n>>>(8 * 7))::UInt8.ofNat (n>>>(8 * 6))::UInt8.ofNat (n>>>(8 * 5))::UInt8.ofNat (n>>>(8 * 4))::UInt8.ofNat (n>>>(8 * 3))::UInt8.ofNat (n>>>(8 * 2))::UInt8.ofNat (n>>>(8 * 1))::UInt8.ofNat (n>>>(8 * 0))::r)from hR)).imp fun v w' ⟨h1,h2,h3⟩=>⟨by rw[h1,len8 hb],h2,h3⟩
 case uint0=>omega
 case uint1=>omega
 case ulong0=>omega
 case ulong1=>omega
 case int1=>omega
 case long1 h=>exact(readLong1_ok (show Rd w rb (0x55::UInt8.ofNat (n>>>(8 * 0))::r)from hR)).imp fun v w' ⟨h1,h2,h3⟩=>⟨by rw[h1,w_i64_i8,sh0,w_sm h hb],h2,h3⟩
 case uuid=>omega
 case bin1=>omega
 case bin4=>omega
 case str1=>omega
 case str4=>omega
 case sym1=>omega
 case sym4=>omega
 case list0=>omega
 case list=>omega
 case map=>omega
 case arr=>omega
theorem readFloat_pc{x:V}{c:UInt8}{data r:List UInt8}{rb:Nat}{w:World}(hk:x.kind=10)(hn:x.num<4294967296)(h:Pc x c data)(hR:Rd w rb (c::(data++r))):
  Does TP 108 [.pointer (some ⟨rb,0,none⟩)] w fun u w'=>u= .tuple #[.float .f32 x.num,.nilIface]∧Rd w' rb r∧Evo (Nb rb) w w':=by
 obtain⟨k,n,t,ks,o,d⟩:=x
 simp only[V.kind,V.num,V.text]at *
 cases h
 case null=>omega
 case tt=>omega
 case ff=>omega
 case bool=>omega
 case num s hc=>
  subst hk
  obtain⟨rfl,rfl⟩:=numC_of hc (c':=0x72) (s':=4) rfl
  exact(readFloat_ok (show Rd w rb (0x72::UInt8.ofNat (n>>>(8 * 3))::UInt8.ofNat (n>>>(8 * 2))::UInt8.ofNat (n>>>(8 * 1))::UInt8.ofNat (n>>>(8 * 0))::r)from hR)).imp fun v w' ⟨h1,h2,h3⟩=>⟨by rw[h1,len4 hn],h2,h3⟩
 case uint0=>omega
 case uint1=>omega
 case ulong0=>omega
 case ulong1=>omega
 case int1=>omega
 case long1=>omega
 case uuid=>omega
 case bin1=>omega
 case bin4=>omega
 case str1=>omega
 case str4=>omega
 case sym1=>omega
 case sym4=>omega
 case list0=>omega
 case list=>omega
 case map=>omega
 case arr=>omega
theorem readDouble_pc{x:V}{c:UInt8}{data r:List UInt8}{rb:Nat}{w:World}(hk:x.kind=11)(hn:x.num<18446744073709551616)(h:Pc x c data)(hR:Rd w rb (c::(data++r))):
  Does TP 109 [.pointer (some ⟨rb,0,none⟩)] w fun u w'=>u= .tuple #[.float .f64 x.num,.nilIface]∧Rd w' rb r∧Evo (Nb rb) w w':=by
 obtain⟨k,n,t,ks,o,d⟩:=x
 simp only[V.kind,V.num,V.text]at *
 cases h
 case null=>omega
 case tt=>omega
 case ff=>omega
 case bool=>omega
 case num s hc=>
  subst hk
  obtain⟨rfl,rfl⟩:=numC_of hc (c':=0x82) (s':=8) rfl
  exact(readDouble_ok (show Rd w rb (0x82::UInt8.ofNat (n>>>(8 * 7))::UInt8.ofNat (n>>>(8 * 6))::UInt8.ofNat (n>>>(8 * 5))::UInt8.ofNat (n>>>(8 * 4))::UInt8.ofNat (n>>>(8 * 3))::UInt8.ofNat (n>>>(8 * 2))::UInt8.ofNat (n>>>(8 * 1))::UInt8.ofNat (n>>>(8 * 0))::r)from hR)).imp fun v w' ⟨h1,h2,h3⟩=>⟨by rw[h1,len8 hn],h2,h3⟩
 case uint0=>omega
 case uint1=>omega
 case ulong0=>omega
 case ulong1=>omega
 case int1=>omega
 case long1=>omega
 case uuid=>omega
 case bin1=>omega
 case bin4=>omega
 case str1=>omega
 case str4=>omega
 case sym1=>omega
 case sym4=>omega
 case list0=>omega
 case list=>omega
 case map=>omega
 case arr=>omega
theorem readTime_pc{x:V}{c:UInt8}{data r:List UInt8}{rb:Nat}{w:World}(hk:x.kind=16)(hn:x.num<18446744073709551616)(h:Pc x c data)(hR:Rd w rb (c::(data++r))):
  Does TP 113 [.pointer (some ⟨rb,0,none⟩)] w fun u w'=>u= .tuple #[.agg (tm (IntKind.i64.wrap (x.num:Int))).toArray,.nilIface]∧Rd w' rb r∧Evo (Nb rb) w w':=by
 obtain⟨k,n,t,ks,o,d⟩:=x
 simp only[V.kind,V.num,V.text]at *
 cases h
 case null=>omega
 case tt=>omega
 case ff=>omega
 case bool=>omega
 case num s hc=>
  subst hk
  obtain⟨rfl,rfl⟩:=numC_of hc (c':=0x83) (s':=8) rfl
  exact(readTimestamp_ok (show Rd w rb (0x83::UInt8.ofNat (n>>>(8 * 7))::UInt8.ofNat (n>>>(8 * 6))::UInt8.ofNat (n>>>(8 * 5))::UInt8.ofNat (n>>>(8 * 4))::UInt8.ofNat (n>>>(8 * 3))::UInt8.ofNat (n>>>(8 * 2))::UInt8.ofNat (n>>>(8 * 1))::UInt8.ofNat (n>>>(8 * 0))::r)from hR)).imp fun v w' ⟨h1,h2,h3⟩=>⟨by rw[h1,len8 hn],h2,h3⟩
 case uint0=>omega
 case uint1=>omega
 case ulong0=>omega
 case ulong1=>omega
 case int1=>omega
 case long1=>omega
 case uuid=>omega
 case bin1=>omega
 case bin4=>omega
 case str1=>omega
 case str4=>omega
 case sym1=>omega
 case sym4=>omega
 case list0=>omega
 case list=>omega
 case map=>omega
 case arr=>omega
theorem readBool_pc{x:V}{c:UInt8}{data r:List UInt8}{rb:Nat}{w:World}(hk:x.kind=1)(h:Pc x c data)(hR:Rd w rb (c::(data++r))):
  Does TP 112 [.pointer (some ⟨rb,0,none⟩)] w fun u w'=>u= .tuple #[.bool (x.num !=0),.nilIface]∧Rd w' rb r∧Evo (Nb rb) w w':=by
 obtain⟨k,n,t,ks,o,d⟩:=x
 simp only[V.kind,V.num,V.text]at *
 cases h
 case null=>omega
 case tt=>exact(readBoolT_ok hR).imp fun v w' ⟨h1,h2,h3⟩=>⟨by rw[h1];rfl,h2,h3⟩
 case ff=>exact(readBoolF_ok hR).imp fun v w' ⟨h1,h2,h3⟩=>⟨by rw[h1];rfl,h2,h3⟩
 case bool h=>exact(readBool1_ok (show Rd w rb (0x56::UInt8.ofNat n::r)from hR)).imp fun v w' ⟨h1,h2,h3⟩=>⟨by rw[h1,small_of (by omega),nz_iff],h2,h3⟩
 case num s hc=>subst hk;simp[numC]at hc
 case uint0=>omega
 case uint1=>omega
 case ulong0=>omega
 case ulong1=>omega
 case int1=>omega
 case long1=>omega
 case uuid=>omega
 case bin1=>omega
 case bin4=>omega
 case str1=>omega
 case str4=>omega
 case sym1=>omega
 case sym4=>omega
 case list0=>omega
 case list=>omega
 case map=>omega
 case arr=>omega
theorem readUUID_pc{x:V}{c:UInt8}{data r:List UInt8}{rb:Nat}{w:World}(hk:x.kind=17)(hn:x.text.length=16)(h:Pc x c data)(hR:Rd w rb (c::(data++r))):
  Does TP 206 [.pointer (some ⟨rb,0,none⟩)] w fun u w'=>u= .tuple #[.agg (bc x.text).toArray,.nilIface]∧Rd w' rb r∧Evo (Nb rb) w w':=by
 obtain⟨k,n,t,ks,o,d⟩:=x
 simp only[V.kind,V.num,V.text]at *
 cases h
 case null=>omega
 case tt=>omega
 case ff=>omega
 case bool=>omega
 case num s hc=>subst hk;simp[numC]at hc
 case uint0=>omega
 case uint1=>omega
 case ulong0=>omega
 case ulong1=>omega
 case int1=>omega
 case long1=>omega
 case uuid=>exact readUUID_ok hn hR
 case bin1=>omega
 case bin4=>omega
 case str1=>omega
 case str4=>omega
 case sym1=>omega
 case sym4=>omega
 case list0=>omega
 case list=>omega
 case map=>omega
 case arr=>omega
theorem readString_pc{x:V}{c:UInt8}{data r:List UInt8}{rb:Nat}{w:World}(hk:x.kind=19∨x.kind=20)(h:Pc x c data)(hR:Rd w rb (c::(data++r))):
  Does TP 110 [.pointer (some ⟨rb,0,none⟩)] w fun u w'=>u= .tuple #[str x.text,.nilIface]∧Rd w' rb r∧Evo (Nb rb) w w':=by
 obtain⟨k,n,t,ks,o,d⟩:=x
 simp only[V.kind,V.num,V.text]at *
 cases h
 case null=>omega
 case tt=>omega
 case ff=>omega
 case bool=>omega
 case num s hc=>rcases hk with rfl|rfl<;>simp[numC]at hc
 case uint0=>omega
 case uint1=>omega
 case ulong0=>omega
 case ulong1=>omega
 case int1=>omega
 case long1=>omega
 case uuid=>omega
 case bin1=>omega
 case bin4=>omega
 case str1 h=>exact readString1_ok (.inl rfl) (low1 h).symm (show Rd w rb (0xa1::UInt8.ofNat (t.length>>>(8 * 0))::(t++r))from hR)
 case str4 h=>exact readString4_ok (.inl rfl) (len4 h).symm (show Rd w rb (0xb1::UInt8.ofNat (t.length>>>(8 * 3))::UInt8.ofNat (t.length>>>(8 * 2))::UInt8.ofNat (t.length>>>(8 * 1))::UInt8.ofNat (t.length>>>(8 * 0))::(t++r))from hR)
 case sym1 h=>exact readString1_ok (.inr rfl) (low1 h).symm (show Rd w rb (0xa3::UInt8.ofNat (t.length>>>(8 * 0))::(t++r))from hR)
 case sym4 h=>exact readString4_ok (.inr rfl) (len4 h).symm (show Rd w rb (0xb3::UInt8.ofNat (t.length>>>(8 * 3))::UInt8.ofNat (t.length>>>(8 * 2))::UInt8.ofNat (t.length>>>(8 * 1))::UInt8.ofNat (t.length>>>(8 * 0))::(t++r))from hR)
 case list0=>omega
 case list=>omega
 case map=>omega
 case arr=>omega
theorem readBinary_pc{x:V}{c:UInt8}{data r:List UInt8}{rb:Nat}{w:World}(hk:x.kind=18)(h:Pc x c data)(hR:Rd w rb (c::(data++r))):
  Does TP 111 [.pointer (some ⟨rb,0,none⟩)] w fun u w'=>∃v,u= .tuple #[v,.nilIface]∧IsB (fun b=>w.heap.size≤b) w' v x.text∧Rd w' rb r∧Evo (Nb rb) w w':=by
 obtain⟨k,n,t,ks,o,d⟩:=x
 simp only[V.kind,V.num,V.text]at *
 cases h
 case null=>omega
 case tt=>omega
 case ff=>omega
 case bool=>omega
 case num s hc=>subst hk;simp[numC]at hc
 case uint0=>omega
 case uint1=>omega
 case ulong0=>omega
 case ulong1=>omega
 case int1=>omega
 case long1=>omega
 case uuid=>omega
 case bin1 h=>exact readBinary1_ok (low1 h).symm (show Rd w rb (0xa0::UInt8.ofNat (t.length>>>(8 * 0))::(t++r))from hR)
 case bin4 h=>exact readBinary4_ok (len4 h).symm (show Rd w rb (0xb0::UInt8.ofNat (t.length>>>(8 * 3))::UInt8.ofNat (t.length>>>(8 * 2))::UInt8.ofNat (t.length>>>(8 * 1))::UInt8.ofNat (t.length>>>(8 * 0))::(t++r))from hR)
 case str1=>omega
 case str4=>omega
 case sym1=>omega
 case sym4=>omega
 case list0=>omega
 case list=>omega
 case map=>omega
 case arr=>omega
end Go.Proofs.LL
