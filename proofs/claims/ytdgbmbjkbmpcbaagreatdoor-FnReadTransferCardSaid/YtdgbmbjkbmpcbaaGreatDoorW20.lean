/- Contracts of functions and own laws. Conditions: those that each theorem states. -/
import Derived.Test.YtdgbmbjkbmpcbaaGreatDoorW19
set_option linter.all false
set_option autoImplicit true
set_option relaxedAutoImplicit true
set_option maxRecDepth 20000
namespace Go.Proofs.LL
open Go Go.Proofs Go.RowKit
theorem Gc(h:n<65536):be [UInt8.ofNat (n>>>(8 * 1)),UInt8.ofNat (n>>>(8 * 0))]=n:=(ew n 2).trans (Nat.mod_eq_of_lt h)
theorem BA(h:n<18446744073709551616):be [UInt8.ofNat (n>>>(8 * 7)),UInt8.ofNat (n>>>(8 * 6)),UInt8.ofNat (n>>>(8 * 5)),UInt8.ofNat (n>>>(8 * 4)),UInt8.ofNat (n>>>(8 * 3)),UInt8.ofNat (n>>>(8 * 2)),UInt8.ofNat (n>>>(8 * 1)),UInt8.ofNat (n>>>(8 * 0))]=n:=(ew n 8).trans (Nat.mod_eq_of_lt h)
theorem uH(h:n<256):(UInt8.ofNat (n>>>(8 * 0))).toNat=n:=by simp only[Nat.mul_zero,Nat.shiftRight_zero,UInt8.toNat_ofNat'];exact Nat.mod_eq_of_lt h
theorem Gd(n:Nat):be [UInt8.ofNat (n>>>(8 * 1)),UInt8.ofNat (n>>>(8 * 0))]=n%65536:=ew n 2
theorem Ge(n:Nat):be [UInt8.ofNat (n>>>(8 * 3)),UInt8.ofNat (n>>>(8 * 2)),UInt8.ofNat (n>>>(8 * 1)),UInt8.ofNat (n>>>(8 * 0))]=n%4294967296:=ew n 4
theorem Gn(n:Nat):UInt8.ofNat (n>>>(8 * 0))=UInt8.ofNat n:=by simp
theorem eA{k:Int}{c:UInt8}{c':UInt8}(h:iS k=some (c,s))(h':iS k=some (c',s')):c=c'∧s=s':=by
 rw[h]at h'
 simpa using h'
theorem k9{x:V}{r:List UInt8}(hk:x.kind=2)(hn:x.num<256)(h:Pc x c data)(hR:Rd w rb (c::(data++r))):
  ah TP 107 [.pointer (some ⟨rb,0,none⟩)] w fun u w'=>u= .tuple #[.int .u8 (x.num:Int),.nilIface]∧Rd w' rb r∧am (Nb rb) w w':=by
 obtain⟨k,n,t,ks,o,d⟩:=x
 simp only[V.kind,V.num,V.text]at *
 cases h
 case null=>omega
 case tt=>omega
 case ff=>omega
 case bool=>omega
 case num s hc=>
  subst hk
  obtain⟨rfl,rfl⟩:=eA hc (c':=0x50) (s':=1) rfl
  exact(rC (show Rd w rb (0x50::UInt8.ofNat (n>>>(8 * 0))::r)from hR)).imp fun v w' ⟨h1,h2,h3⟩=>⟨by rw[h1,uH hn],h2,h3⟩
 case uint0=>omega
 case uint1=>omega
 case ulong0=>omega
 case ulong1=>omega
 case int1=>omega
 case long1=>omega
 case uuid=>omega
 case bin1=>omega
 case bin4=>omega
 case str1=>omega
 case str4=>omega
 case sym1=>omega
 case sym4=>omega
 case list0=>omega
 case list=>omega
 case map=>omega
 case arr=>omega
theorem oS{x:V}{r:List UInt8}(hk:x.kind=3)(hn:x.num<65536)(h:Pc x c data)(hR:Rd w rb (c::(data++r))):
  ah TP 106 [.pointer (some ⟨rb,0,none⟩)] w fun u w'=>u= .tuple #[.int .u16 (x.num:Int),.nilIface]∧Rd w' rb r∧am (Nb rb) w w':=by
 obtain⟨k,n,t,ks,o,d⟩:=x
 simp only[V.kind,V.num,V.text]at *
 cases h
 case null=>omega
 case tt=>omega
 case ff=>omega
 case bool=>omega
 case num s hc=>
  subst hk
  obtain⟨rfl,rfl⟩:=eA hc (c':=0x60) (s':=2) rfl
  exact(oR (show Rd w rb (0x60::UInt8.ofNat (n>>>(8 * 1))::UInt8.ofNat (n>>>(8 * 0))::r)from hR)).imp fun v w' ⟨h1,h2,h3⟩=>⟨by rw[h1,Gc hn],h2,h3⟩
 case uint0=>omega
 case uint1=>omega
 case ulong0=>omega
 case ulong1=>omega
 case int1=>omega
 case long1=>omega
 case uuid=>omega
 case bin1=>omega
 case bin4=>omega
 case str1=>omega
 case str4=>omega
 case sym1=>omega
 case sym4=>omega
 case list0=>omega
 case list=>omega
 case map=>omega
 case arr=>omega
theorem jp{x:V}{r:List UInt8}(hk:x.kind=4)(hn:x.num<4294967296)(h:Pc x c data)(hR:Rd w rb (c::(data++r))):
  ah TP 105 [.pointer (some ⟨rb,0,none⟩)] w fun u w'=>u= .tuple #[.int .u32 (x.num:Int),.nilIface]∧Rd w' rb r∧am (Nb rb) w w':=by
 obtain⟨k,n,t,ks,o,d⟩:=x
 simp only[V.kind,V.num,V.text]at *
 cases h
 case null=>omega
 case tt=>omega
 case ff=>omega
 case bool=>omega
 case num s hc=>
  subst hk
  obtain⟨rfl,rfl⟩:=eA hc (c':=0x70) (s':=4) rfl
  exact(rF (show Rd w rb (0x70::UInt8.ofNat (n>>>(8 * 3))::UInt8.ofNat (n>>>(8 * 2))::UInt8.ofNat (n>>>(8 * 1))::UInt8.ofNat (n>>>(8 * 0))::r)from hR)).imp fun v w' ⟨h1,h2,h3⟩=>⟨by rw[h1,uw hn],h2,h3⟩
 case uint0=>exact(rD hR).imp fun v w' ⟨h1,h2,h3⟩=>⟨by rw[h1];rfl,h2,h3⟩
 case uint1 h=>exact(rE (show Rd w rb (0x52::UInt8.ofNat (n>>>(8 * 0))::r)from hR)).imp fun v w' ⟨h1,h2,h3⟩=>⟨by rw[h1,Cx,uH h],h2,h3⟩
 case ulong0=>omega
 case ulong1=>omega
 case int1=>omega
 case long1=>omega
 case uuid=>omega
 case bin1=>omega
 case bin4=>omega
 case str1=>omega
 case str4=>omega
 case sym1=>omega
 case sym4=>omega
 case list0=>omega
 case list=>omega
 case map=>omega
 case arr=>omega
theorem iC{x:V}{r:List UInt8}(hk:x.kind=5)(hn:x.num<18446744073709551616)(h:Pc x c data)(hR:Rd w rb (c::(data++r))):
  ah TP 96 [.pointer (some ⟨rb,0,none⟩)] w fun u w'=>u= .tuple #[.int .u64 (x.num:Int),.nilIface]∧Rd w' rb r∧am (Nb rb) w w':=by
 obtain⟨k,n,t,ks,o,d⟩:=x
 simp only[V.kind,V.num,V.text]at *
 cases h
 case null=>omega
 case tt=>omega
 case ff=>omega
 case bool=>omega
 case num s hc=>
  subst hk
  obtain⟨rfl,rfl⟩:=eA hc (c':=0x80) (s':=8) rfl
  exact(oQ (show Rd w rb (0x80::UInt8.ofNat (n>>>(8 * 7))::UInt8.ofNat (n>>>(8 * 6))::UInt8.ofNat (n>>>(8 * 5))::UInt8.ofNat (n>>>(8 * 4))::UInt8.ofNat (n>>>(8 * 3))::UInt8.ofNat (n>>>(8 * 2))::UInt8.ofNat (n>>>(8 * 1))::UInt8.ofNat (n>>>(8 * 0))::r)from hR)).imp fun v w' ⟨h1,h2,h3⟩=>⟨by rw[h1,BA hn],h2,h3⟩
 case uint0=>omega
 case uint1=>omega
 case ulong0=>exact(oO hR).imp fun v w' ⟨h1,h2,h3⟩=>⟨by rw[h1];rfl,h2,h3⟩
 case ulong1 h=>exact(oP (show Rd w rb (0x53::UInt8.ofNat (n>>>(8 * 0))::r)from hR)).imp fun v w' ⟨h1,h2,h3⟩=>⟨by rw[h1,Cy,uH h],h2,h3⟩
 case int1=>omega
 case long1=>omega
 case uuid=>omega
 case bin1=>omega
 case bin4=>omega
 case str1=>omega
 case str4=>omega
 case sym1=>omega
 case sym4=>omega
 case list0=>omega
 case list=>omega
 case map=>omega
 case arr=>omega
theorem rz{x:V}{r:List UInt8}(hk:x.kind=6)(hn:mT 8 x.num)(h:Pc x c data)(hR:Rd w rb (c::(data++r))):
  ah TP 101 [.pointer (some ⟨rb,0,none⟩)] w fun u w'=>u= .tuple #[.int .i8 (IntKind.i64.wrap (x.num:Int)),.nilIface]∧Rd w' rb r∧am (Nb rb) w w':=by
 obtain⟨k,n,t,ks,o,d⟩:=x
 simp only[V.kind,V.num,V.text]at *
 cases h
 case null=>omega
 case tt=>omega
 case ff=>omega
 case bool=>omega
 case num s hc=>
  subst hk
  obtain⟨rfl,rfl⟩:=eA hc (c':=0x51) (s':=1) rfl
  exact(ry (show Rd w rb (0x51::UInt8.ofNat (n>>>(8 * 0))::r)from hR)).imp fun v w' ⟨h1,h2,h3⟩=>⟨by rw[h1,Gn,Ej hn],h2,h3⟩
 case uint0=>omega
 case uint1=>omega
 case ulong0=>omega
 case ulong1=>omega
 case int1=>omega
 case long1=>omega
 case uuid=>omega
 case bin1=>omega
 case bin4=>omega
 case str1=>omega
 case str4=>omega
 case sym1=>omega
 case sym4=>omega
 case list0=>omega
 case list=>omega
 case map=>omega
 case arr=>omega
theorem rB{x:V}{r:List UInt8}(hk:x.kind=7)(hn:mT 16 x.num)(h:Pc x c data)(hR:Rd w rb (c::(data++r))):
  ah TP 102 [.pointer (some ⟨rb,0,none⟩)] w fun u w'=>u= .tuple #[.int .i16 (IntKind.i64.wrap (x.num:Int)),.nilIface]∧Rd w' rb r∧am (Nb rb) w w':=by
 obtain⟨k,n,t,ks,o,d⟩:=x
 simp only[V.kind,V.num,V.text]at *
 cases h
 case null=>omega
 case tt=>omega
 case ff=>omega
 case bool=>omega
 case num s hc=>
  subst hk
  obtain⟨rfl,rfl⟩:=eA hc (c':=0x61) (s':=2) rfl
  exact(rA (show Rd w rb (0x61::UInt8.ofNat (n>>>(8 * 1))::UInt8.ofNat (n>>>(8 * 0))::r)from hR)).imp fun v w' ⟨h1,h2,h3⟩=>⟨by rw[h1,Gd,Cv hn],h2,h3⟩
 case uint0=>omega
 case uint1=>omega
 case ulong0=>omega
 case ulong1=>omega
 case int1=>omega
 case long1=>omega
 case uuid=>omega
 case bin1=>omega
 case bin4=>omega
 case str1=>omega
 case str4=>omega
 case sym1=>omega
 case sym4=>omega
 case list0=>omega
 case list=>omega
 case map=>omega
 case arr=>omega
theorem uS{x:V}{r:List UInt8}(hk:x.kind=8)(hn:mT 32 x.num)(hb:x.num<18446744073709551616)(h:Pc x c data)(hR:Rd w rb (c::(data++r))):
  ah TP 103 [.pointer (some ⟨rb,0,none⟩)] w fun u w'=>u= .tuple #[.int .i32 (IntKind.i64.wrap (x.num:Int)),.nilIface]∧Rd w' rb r∧am (Nb rb) w w':=by
 obtain⟨k,n,t,ks,o,d⟩:=x
 simp only[V.kind,V.num,V.text]at *
 cases h
 case null=>omega
 case tt=>omega
 case ff=>omega
 case bool=>omega
 case num s hc=>
  subst hk
  obtain⟨rfl,rfl⟩:=eA hc (c':=0x71) (s':=4) rfl
  exact(tf (show Rd w rb (0x71::UInt8.ofNat (n>>>(8 * 3))::UInt8.ofNat (n>>>(8 * 2))::UInt8.ofNat (n>>>(8 * 1))::UInt8.ofNat (n>>>(8 * 0))::r)from hR)).imp fun v w' ⟨h1,h2,h3⟩=>⟨by rw[h1,Ge,Cw hn],h2,h3⟩
 case uint0=>omega
 case uint1=>omega
 case ulong0=>omega
 case ulong1=>omega
 case int1 h=>exact(te (show Rd w rb (0x54::UInt8.ofNat (n>>>(8 * 0))::r)from hR)).imp fun v w' ⟨h1,h2,h3⟩=>⟨by rw[h1,tG,Gn,B7 h hb],h2,h3⟩
 case long1=>omega
 case uuid=>omega
 case bin1=>omega
 case bin4=>omega
 case str1=>omega
 case str4=>omega
 case sym1=>omega
 case sym4=>omega
 case list0=>omega
 case list=>omega
 case map=>omega
 case arr=>omega
theorem tg{x:V}{r:List UInt8}(hk:x.kind=9)(hb:x.num<18446744073709551616)(h:Pc x c data)(hR:Rd w rb (c::(data++r))):
  ah TP 104 [.pointer (some ⟨rb,0,none⟩)] w fun u w'=>u= .tuple #[.int .i64 (IntKind.i64.wrap (x.num:Int)),.nilIface]∧Rd w' rb r∧am (Nb rb) w w':=by
 obtain⟨k,n,t,ks,o,d⟩:=x
 simp only[V.kind,V.num,V.text]at *
 cases h
 case null=>omega
 case tt=>omega
 case ff=>omega
 case bool=>omega
 case num s hc=>
  subst hk
  obtain⟨rfl,rfl⟩:=eA hc (c':=0x81) (s':=8) rfl
  exact(rx (show Rd w rb (0x81::UInt8.ofNat (n>>>(8 * 7))::UInt8.ofNat (n>>>(8 * 6))::UInt8.ofNat (n>>>(8 * 5))::UInt8.ofNat (n>>>(8 * 4))::UInt8.ofNat (n>>>(8 * 3))::UInt8.ofNat (n>>>(8 * 2))::UInt8.ofNat (n>>>(8 * 1))::UInt8.ofNat (n>>>(8 * 0))::r)from hR)).imp fun v w' ⟨h1,h2,h3⟩=>⟨by rw[h1,BA hb],h2,h3⟩
 case uint0=>omega
 case uint1=>omega
 case ulong0=>omega
 case ulong1=>omega
 case int1=>omega
 case long1 h=>exact(ru (show Rd w rb (0x55::UInt8.ofNat (n>>>(8 * 0))::r)from hR)).imp fun v w' ⟨h1,h2,h3⟩=>⟨by rw[h1,tH,Gn,B7 h hb],h2,h3⟩
 case uuid=>omega
 case bin1=>omega
 case bin4=>omega
 case str1=>omega
 case str4=>omega
 case sym1=>omega
 case sym4=>omega
 case list0=>omega
 case list=>omega
 case map=>omega
 case arr=>omega
theorem rt{x:V}{r:List UInt8}(hk:x.kind=10)(hn:x.num<4294967296)(h:Pc x c data)(hR:Rd w rb (c::(data++r))):
  ah TP 108 [.pointer (some ⟨rb,0,none⟩)] w fun u w'=>u= .tuple #[.float .f32 x.num,.nilIface]∧Rd w' rb r∧am (Nb rb) w w':=by
 obtain⟨k,n,t,ks,o,d⟩:=x
 simp only[V.kind,V.num,V.text]at *
 cases h
 case null=>omega
 case tt=>omega
 case ff=>omega
 case bool=>omega
 case num s hc=>
  subst hk
  obtain⟨rfl,rfl⟩:=eA hc (c':=0x72) (s':=4) rfl
  exact(rp (show Rd w rb (0x72::UInt8.ofNat (n>>>(8 * 3))::UInt8.ofNat (n>>>(8 * 2))::UInt8.ofNat (n>>>(8 * 1))::UInt8.ofNat (n>>>(8 * 0))::r)from hR)).imp fun v w' ⟨h1,h2,h3⟩=>⟨by rw[h1,uw hn],h2,h3⟩
 case uint0=>omega
 case uint1=>omega
 case ulong0=>omega
 case ulong1=>omega
 case int1=>omega
 case long1=>omega
 case uuid=>omega
 case bin1=>omega
 case bin4=>omega
 case str1=>omega
 case str4=>omega
 case sym1=>omega
 case sym4=>omega
 case list0=>omega
 case list=>omega
 case map=>omega
 case arr=>omega
theorem oN{x:V}{r:List UInt8}(hk:x.kind=11)(hn:x.num<18446744073709551616)(h:Pc x c data)(hR:Rd w rb (c::(data++r))):
  ah TP 109 [.pointer (some ⟨rb,0,none⟩)] w fun u w'=>u= .tuple #[.float .f64 x.num,.nilIface]∧Rd w' rb r∧am (Nb rb) w w':=by
 obtain⟨k,n,t,ks,o,d⟩:=x
 simp only[V.kind,V.num,V.text]at *
 cases h
 case null=>omega
 case tt=>omega
 case ff=>omega
 case bool=>omega
 case num s hc=>
  subst hk
  obtain⟨rfl,rfl⟩:=eA hc (c':=0x82) (s':=8) rfl
  exact(oM (show Rd w rb (0x82::UInt8.ofNat (n>>>(8 * 7))::UInt8.ofNat (n>>>(8 * 6))::UInt8.ofNat (n>>>(8 * 5))::UInt8.ofNat (n>>>(8 * 4))::UInt8.ofNat (n>>>(8 * 3))::UInt8.ofNat (n>>>(8 * 2))::UInt8.ofNat (n>>>(8 * 1))::UInt8.ofNat (n>>>(8 * 0))::r)from hR)).imp fun v w' ⟨h1,h2,h3⟩=>⟨by rw[h1,BA hn],h2,h3⟩
 case uint0=>omega
 case uint1=>omega
 case ulong0=>omega
 case ulong1=>omega
 case int1=>omega
 case long1=>omega
 case uuid=>omega
 case bin1=>omega
 case bin4=>omega
 case str1=>omega
 case str4=>omega
 case sym1=>omega
 case sym4=>omega
 case list0=>omega
 case list=>omega
 case map=>omega
 case arr=>omega
theorem th{x:V}{r:List UInt8}(hk:x.kind=16)(hn:x.num<18446744073709551616)(h:Pc x c data)(hR:Rd w rb (c::(data++r))):
  ah TP 113 [.pointer (some ⟨rb,0,none⟩)] w fun u w'=>u= .tuple #[.agg (tm (IntKind.i64.wrap (x.num:Int))).toArray,.nilIface]∧Rd w' rb r∧am (Nb rb) w w':=by
 obtain⟨k,n,t,ks,o,d⟩:=x
 simp only[V.kind,V.num,V.text]at *
 cases h
 case null=>omega
 case tt=>omega
 case ff=>omega
 case bool=>omega
 case num s hc=>
  subst hk
  obtain⟨rfl,rfl⟩:=eA hc (c':=0x83) (s':=8) rfl
  exact(lX (show Rd w rb (0x83::UInt8.ofNat (n>>>(8 * 7))::UInt8.ofNat (n>>>(8 * 6))::UInt8.ofNat (n>>>(8 * 5))::UInt8.ofNat (n>>>(8 * 4))::UInt8.ofNat (n>>>(8 * 3))::UInt8.ofNat (n>>>(8 * 2))::UInt8.ofNat (n>>>(8 * 1))::UInt8.ofNat (n>>>(8 * 0))::r)from hR)).imp fun v w' ⟨h1,h2,h3⟩=>⟨by rw[h1,BA hn],h2,h3⟩
 case uint0=>omega
 case uint1=>omega
 case ulong0=>omega
 case ulong1=>omega
 case int1=>omega
 case long1=>omega
 case uuid=>omega
 case bin1=>omega
 case bin4=>omega
 case str1=>omega
 case str4=>omega
 case sym1=>omega
 case sym4=>omega
 case list0=>omega
 case list=>omega
 case map=>omega
 case arr=>omega
theorem mA{x:V}{r:List UInt8}(hk:x.kind=1)(h:Pc x c data)(hR:Rd w rb (c::(data++r))):
  ah TP 112 [.pointer (some ⟨rb,0,none⟩)] w fun u w'=>u= .tuple #[.bool (x.num !=0),.nilIface]∧Rd w' rb r∧am (Nb rb) w w':=by
 obtain⟨k,n,t,ks,o,d⟩:=x
 simp only[V.kind,V.num,V.text]at *
 cases h
 case null=>omega
 case tt=>exact(rn hR).imp fun v w' ⟨h1,h2,h3⟩=>⟨by rw[h1];rfl,h2,h3⟩
 case ff=>exact(rl hR).imp fun v w' ⟨h1,h2,h3⟩=>⟨by rw[h1];rfl,h2,h3⟩
 case bool h=>exact(rj (show Rd w rb (0x56::UInt8.ofNat n::r)from hR)).imp fun v w' ⟨h1,h2,h3⟩=>⟨by rw[h1,jt (by omega),zB],h2,h3⟩
 case num s hc=>subst hk;simp[iS]at hc
 case uint0=>omega
 case uint1=>omega
 case ulong0=>omega
 case ulong1=>omega
 case int1=>omega
 case long1=>omega
 case uuid=>omega
 case bin1=>omega
 case bin4=>omega
 case str1=>omega
 case str4=>omega
 case sym1=>omega
 case sym4=>omega
 case list0=>omega
 case list=>omega
 case map=>omega
 case arr=>omega
theorem tj{x:V}{r:List UInt8}(hk:x.kind=17)(hn:x.text.length=16)(h:Pc x c data)(hR:Rd w rb (c::(data++r))):
  ah TP 206 [.pointer (some ⟨rb,0,none⟩)] w fun u w'=>u= .tuple #[.agg (bc x.text).toArray,.nilIface]∧Rd w' rb r∧am (Nb rb) w w':=by
 obtain⟨k,n,t,ks,o,d⟩:=x
 simp only[V.kind,V.num,V.text]at *
 cases h
 case null=>omega
 case tt=>omega
 case ff=>omega
 case bool=>omega
 case num s hc=>subst hk;simp[iS]at hc
 case uint0=>omega
 case uint1=>omega
 case ulong0=>omega
 case ulong1=>omega
 case int1=>omega
 case long1=>omega
 case uuid=>exact ti hn hR
 case bin1=>omega
 case bin4=>omega
 case str1=>omega
 case str4=>omega
 case sym1=>omega
 case sym4=>omega
 case list0=>omega
 case list=>omega
 case map=>omega
 case arr=>omega
theorem eu{x:V}{r:List UInt8}(hk:x.kind=19∨x.kind=20)(h:Pc x c data)(hR:Rd w rb (c::(data++r))):
  ah TP 110 [.pointer (some ⟨rb,0,none⟩)] w fun u w'=>u= .tuple #[str x.text,.nilIface]∧Rd w' rb r∧am (Nb rb) w w':=by
 obtain⟨k,n,t,ks,o,d⟩:=x
 simp only[V.kind,V.num,V.text]at *
 cases h
 case null=>omega
 case tt=>omega
 case ff=>omega
 case bool=>omega
 case num s hc=>rcases hk with rfl|rfl<;>simp[iS]at hc
 case uint0=>omega
 case uint1=>omega
 case ulong0=>omega
 case ulong1=>omega
 case int1=>omega
 case long1=>omega
 case uuid=>omega
 case bin1=>omega
 case bin4=>omega
 case str1 h=>exact jn (.inl rfl) (uH h).symm (show Rd w rb (0xa1::UInt8.ofNat (t.length>>>(8 * 0))::(t++r))from hR)
 case str4 h=>exact jo (.inl rfl) (uw h).symm (show Rd w rb (0xb1::UInt8.ofNat (t.length>>>(8 * 3))::UInt8.ofNat (t.length>>>(8 * 2))::UInt8.ofNat (t.length>>>(8 * 1))::UInt8.ofNat (t.length>>>(8 * 0))::(t++r))from hR)
 case sym1 h=>exact jn (.inr rfl) (uH h).symm (show Rd w rb (0xa3::UInt8.ofNat (t.length>>>(8 * 0))::(t++r))from hR)
 case sym4 h=>exact jo (.inr rfl) (uw h).symm (show Rd w rb (0xb3::UInt8.ofNat (t.length>>>(8 * 3))::UInt8.ofNat (t.length>>>(8 * 2))::UInt8.ofNat (t.length>>>(8 * 1))::UInt8.ofNat (t.length>>>(8 * 0))::(t++r))from hR)
 case list0=>omega
 case list=>omega
 case map=>omega
 case arr=>omega
theorem j6{x:V}{r:List UInt8}(hk:x.kind=18)(h:Pc x c data)(hR:Rd w rb (c::(data++r))):
  ah TP 111 [.pointer (some ⟨rb,0,none⟩)] w fun u w'=>∃v,u= .tuple #[v,.nilIface]∧bT (fun b=>w.heap.size≤b) w' v x.text∧Rd w' rb r∧am (Nb rb) w w':=by
 obtain⟨k,n,t,ks,o,d⟩:=x
 simp only[V.kind,V.num,V.text]at *
 cases h
 case null=>omega
 case tt=>omega
 case ff=>omega
 case bool=>omega
 case num s hc=>subst hk;simp[iS]at hc
 case uint0=>omega
 case uint1=>omega
 case ulong0=>omega
 case ulong1=>omega
 case int1=>omega
 case long1=>omega
 case uuid=>omega
 case bin1 h=>exact nX (uH h).symm (show Rd w rb (0xa0::UInt8.ofNat (t.length>>>(8 * 0))::(t++r))from hR)
 case bin4 h=>exact nY (uw h).symm (show Rd w rb (0xb0::UInt8.ofNat (t.length>>>(8 * 3))::UInt8.ofNat (t.length>>>(8 * 2))::UInt8.ofNat (t.length>>>(8 * 1))::UInt8.ofNat (t.length>>>(8 * 0))::(t++r))from hR)
 case str1=>omega
 case str4=>omega
 case sym1=>omega
 case sym4=>omega
 case list0=>omega
 case list=>omega
 case map=>omega
 case arr=>omega
end Go.Proofs.LL
