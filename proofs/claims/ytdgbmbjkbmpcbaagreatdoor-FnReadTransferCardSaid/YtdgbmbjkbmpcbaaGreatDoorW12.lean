/- Contracts of functions and own laws. Conditions: those that each theorem states. -/
import Derived.Test.YtdgbmbjkbmpcbaaGreatDoorW11
set_option linter.all false
set_option autoImplicit true
set_option relaxedAutoImplicit true
set_option maxRecDepth 20000
namespace Go.Proofs.LL
open Go Go.Proofs Go.RowKit
set_option maxHeartbeats 4000000
attribute [local irreducible] ar WL WC cq WT WX
theorem pO{A:Prop}(h:A:=by
 refine q ?_
 refine Hm rfl (aD hR) fun w1 hR e1=>?_
 refine q ?_
 refine Hm rfl (cB hR) fun w2 hR e2=>?_
 refine q ?_
 exact bt rfl rfl ⟨rfl,hR,ch⟩):A:=h
theorem Ar{A:Prop}(h:A:=by
 refine q ?_
 refine Hm rfl (aD hR) fun w1 hR e1=>?_
 refine q ?_
 exact bt rfl rfl ⟨rfl,hR,ch⟩):A:=h
theorem CD{A:Prop}(h:A:=by
 refine q ?_
 refine Hm rfl (aD hR) fun w1 hR e1=>?_
 refine q ?_
 refine Hm rfl (oB hR) fun w2 hR e2=>?_
 refine q ?_
 exact bt rfl rfl ⟨rfl,hR,ch⟩):A:=h
theorem CE{A:Prop}(h:A:=by
 refine Hm rfl (jY hR) fun w2 hR e2=>?_
 refine q ?_
 exact bt rfl rfl ⟨rfl,hR,ch⟩):A:=h
theorem CG{A:Prop}(h:A:=by
 refine Hm rfl (gt hR) fun w2 hR e2=>?_
 refine q ?_
 exact bt rfl rfl ⟨rfl,hR,ch⟩):A:=h
theorem rC{b:UInt8}{r:List UInt8}(hR:Rd w rb (0x50::b::r)):
  ah TP 107 [.pointer (some ⟨rb,0,none⟩)] w fun u w'=>u= .tuple #[.int .u8 (b.toNat:Int),.nilIface]∧Rd w' rb r∧am (Nb rb) w w':=by
 refine cN Tryz.func107 ?_
 exact pO
theorem oR{a b:UInt8}{r:List UInt8}(hR:Rd w rb (0x60::a::b::r)):
  ah TP 106 [.pointer (some ⟨rb,0,none⟩)] w fun u w'=>u= .tuple #[.int .u16 ((be [a,b]:Nat):Int),.nilIface]∧Rd w' rb r∧am (Nb rb) w w':=by
 refine cN Tryz.func106 ?_
 exact CD
theorem rD{r:List UInt8}(hR:Rd w rb (0x43::r)):
  ah TP 105 [.pointer (some ⟨rb,0,none⟩)] w fun u w'=>u= .tuple #[.int .u32 0,.nilIface]∧Rd w' rb r∧am (Nb rb) w w':=by
 refine cN Tryz.func105 ?_
 exact Ar
theorem rE{b:UInt8}{r:List UInt8}(hR:Rd w rb (0x52::b::r)):
  ah TP 105 [.pointer (some ⟨rb,0,none⟩)] w fun u w'=>u= .tuple #[.int .u32 (IntKind.u32.wrap (b.toNat:Int)),.nilIface]∧Rd w' rb r∧am (Nb rb) w w':=by
 refine cN Tryz.func105 ?_
 exact pO
theorem rF{a b c d:UInt8}{r:List UInt8}(hR:Rd w rb (0x70::a::b::c::d::r)):
  ah TP 105 [.pointer (some ⟨rb,0,none⟩)] w fun u w'=>u= .tuple #[.int .u32 ((be [a,b,c,d]:Nat):Int),.nilIface]∧Rd w' rb r∧am (Nb rb) w w':=by
 refine cN Tryz.func105 ?_
 refine q ?_
 refine Hm rfl (aD hR) fun w1 hR e1=>?_
 refine gx 6 rfl<|gq 4 rfl<|Hq (aB Fb.h rfl)<|WL.nil<|WC.condF rfl<|WC.skip<|gq 26 rfl ?_
 exact CE
theorem oO{r:List UInt8}(hR:Rd w rb (0x44::r)):
  ah TP 96 [.pointer (some ⟨rb,0,none⟩)] w fun u w'=>u= .tuple #[.int .u64 0,.nilIface]∧Rd w' rb r∧am (Nb rb) w w':=by
 refine cN Tryz.func96 ?_
 exact Ar
theorem oP{b:UInt8}{r:List UInt8}(hR:Rd w rb (0x53::b::r)):
  ah TP 96 [.pointer (some ⟨rb,0,none⟩)] w fun u w'=>u= .tuple #[.int .u64 (IntKind.u64.wrap (b.toNat:Int)),.nilIface]∧Rd w' rb r∧am (Nb rb) w w':=by
 refine cN Tryz.func96 ?_
 exact pO
theorem oQ{a b c d e f g h:UInt8}{r:List UInt8}(hR:Rd w rb (0x80::a::b::c::d::e::f::g::h::r)):
  ah TP 96 [.pointer (some ⟨rb,0,none⟩)] w fun u w'=>u= .tuple #[.int .u64 ((be [a,b,c,d,e,f,g,h]:Nat):Int),.nilIface]∧Rd w' rb r∧am (Nb rb) w w':=by
 refine cN Tryz.func96 ?_
 refine q ?_
 refine Hm rfl (aD hR) fun w1 hR e1=>?_
 refine gx 6 rfl<|gq 4 rfl<|Hq (aB Fb.h rfl)<|WL.nil<|WC.condF rfl<|WC.skip<|gq 26 rfl ?_
 exact CG
theorem ry{b:UInt8}{r:List UInt8}(hR:Rd w rb (0x51::b::r)):
  ah TP 101 [.pointer (some ⟨rb,0,none⟩)] w fun u w'=>u= .tuple #[.int .i8 (IntKind.i8.wrap (b.toNat:Int)),.nilIface]∧Rd w' rb r∧am (Nb rb) w w':=by
 refine cN Tryz.func101 ?_
 exact pO
theorem rA{a b:UInt8}{r:List UInt8}(hR:Rd w rb (0x61::a::b::r)):
  ah TP 102 [.pointer (some ⟨rb,0,none⟩)] w fun u w'=>u= .tuple #[.int .i16 (IntKind.i16.wrap ((be [a,b]:Nat):Int)),.nilIface]∧Rd w' rb r∧am (Nb rb) w w':=by
 refine cN Tryz.func102 ?_
 exact CD
theorem te{b:UInt8}{r:List UInt8}(hR:Rd w rb (0x54::b::r)):
  ah TP 103 [.pointer (some ⟨rb,0,none⟩)] w fun u w'=>u= .tuple #[.int .i32 (IntKind.i32.wrap (IntKind.i8.wrap (b.toNat:Int))),.nilIface]∧Rd w' rb r∧am (Nb rb) w w':=by
 refine cN Tryz.func103 ?_
 exact pO
theorem tf{a b c d:UInt8}{r:List UInt8}(hR:Rd w rb (0x71::a::b::c::d::r)):
  ah TP 103 [.pointer (some ⟨rb,0,none⟩)] w fun u w'=>u= .tuple #[.int .i32 (IntKind.i32.wrap ((be [a,b,c,d]:Nat):Int)),.nilIface]∧Rd w' rb r∧am (Nb rb) w w':=by
 refine cN Tryz.func103 ?_
 refine q ?_
 refine Hm rfl (aD hR) fun w1 hR e1=>?_
 refine q ?_
 exact CE
theorem ru{b:UInt8}{r:List UInt8}(hR:Rd w rb (0x55::b::r)):
  ah TP 104 [.pointer (some ⟨rb,0,none⟩)] w fun u w'=>u= .tuple #[.int .i64 (IntKind.i64.wrap (IntKind.i8.wrap (b.toNat:Int))),.nilIface]∧Rd w' rb r∧am (Nb rb) w w':=by
 refine cN Tryz.func104 ?_
 exact pO
theorem rx{a b c d e f g h:UInt8}{r:List UInt8}(hR:Rd w rb (0x81::a::b::c::d::e::f::g::h::r)):
  ah TP 104 [.pointer (some ⟨rb,0,none⟩)] w fun u w'=>u= .tuple #[.int .i64 (IntKind.i64.wrap ((be [a,b,c,d,e,f,g,h]:Nat):Int)),.nilIface]∧Rd w' rb r∧am (Nb rb) w w':=by
 refine cN Tryz.func104 ?_
 refine q ?_
 refine Hm rfl (aD hR) fun w1 hR e1=>?_
 refine q ?_
 exact CG
theorem rn{r:List UInt8}(hR:Rd w rb (0x41::r)):
  ah TP 112 [.pointer (some ⟨rb,0,none⟩)] w fun u w'=>u= .tuple #[.bool true,.nilIface]∧Rd w' rb r∧am (Nb rb) w w':=by
 refine cN Tryz.func112 ?_
 exact Ar
theorem rl{r:List UInt8}(hR:Rd w rb (0x42::r)):
  ah TP 112 [.pointer (some ⟨rb,0,none⟩)] w fun u w'=>u= .tuple #[.bool false,.nilIface]∧Rd w' rb r∧am (Nb rb) w w':=by
 refine cN Tryz.func112 ?_
 refine q ?_
 refine Hm rfl (aD hR) fun w1 hR e1=>?_
 refine gx 6 rfl<|gq 4 rfl<|Hq (aB Fb.h rfl)<|WL.nil<|WC.condF rfl<|WC.skip<|gq 28 rfl<|q ?_
 exact bt rfl rfl ⟨rfl,hR,ch⟩
theorem rj{b:UInt8}{r:List UInt8}(hR:Rd w rb (0x56::b::r)):
  ah TP 112 [.pointer (some ⟨rb,0,none⟩)] w fun u w'=>u= .tuple #[.bool ((b.toNat:Int) !=0),.nilIface]∧Rd w' rb r∧am (Nb rb) w w':=by
 refine cN Tryz.func112 ?_
 refine q ?_
 refine Hm rfl (aD hR) fun w1 hR e1=>?_
 refine q ?_
 refine Hm rfl (cB hR) fun w2 hR e2=>?_
 refine q ?_
 refine Hq (bn rfl rfl)<|q ?_
 exact bt rfl rfl ⟨rfl,hR,ch⟩
theorem CH{A:Prop}(h:A:=by
 refine cl rfl (cL (l:=[a,b,c,d]) hR rfl) ?_
 rintro v2 w2 ⟨v,rfl,hX,hR,e2⟩
 refine q ?_
 refine Hl rfl (dj (r:=[]) hX) fun w3 e3=>?_
 refine q ?_
 replace hR:=hR.m e3
 refine cl rfl (dC hR (by rw[hn,cY])) ?_
 rintro v4 w4 ⟨v,rfl,hY,hR,e4⟩
 refine q ?_
 refine Hq (gp Fb.h rfl Xr hY)<|q ?_
 exact bt rfl rfl ⟨rfl,hR,ch⟩):A:=h
theorem CI{A:Prop}(h:A:=by
 refine q ?_
 refine Hq (gp Fb.h rfl Xr hY)<|q ?_
 exact bt rfl rfl ⟨rfl,hR,ch⟩):A:=h
theorem dC{N:Int}{l r:List UInt8}(hR:Rd w rb (l++r))(hN:N=(l.length:Int)):
  ah TP 188 [.pointer (some ⟨rb,0,none⟩),.int .i64 N] w fun u w'=>∃v,u= .tuple #[v,.bool true]∧bT (fun k=>k<rb) w' v l∧Rd w' rb r∧am (Nb rb) w w':=by
 subst hN
 exact cL hR rfl
theorem np(a b c d:UInt8):be [a,b,c,d]<4294967296:=by
 rw[Gt];have:=dR a;have:=dR b;have:=dR c;have:=dR d;omega
theorem dq(b:UInt8):IntKind.i64.wrap (b.toNat:Int)=(b.toNat:Int):=dM (by omega) (by have:=dR b;omega)
theorem cY(a b c d:UInt8):IntKind.i64.wrap ((be [a,b,c,d]:Nat):Int)=((be [a,b,c,d]:Nat):Int):=dM (by omega) (by have:=np a b c d;omega)
theorem jn{k n:UInt8}{t r:List UInt8}(hk:k=0xa1∨k=0xa3)(hn:t.length=n.toNat)(hR:Rd w rb (k::n::(t++r))):
  ah TP 110 [.pointer (some ⟨rb,0,none⟩)] w fun u w'=>u= .tuple #[str t,.nilIface]∧Rd w' rb r∧am (Nb rb) w w':=by
 rcases hk with rfl|rfl
 ·refine cN Tryz.func110 ?_
  refine q ?_
  refine Hm rfl (aD hR) fun w1 hR e1=>?_
  refine q ?_
  refine Hm rfl (cB hR) fun w2 hR e2=>?_
  refine q ?_
  refine cl rfl (dC hR (by rw[hn,dq])) ?_
  rintro v3 w3 ⟨v,rfl,hY,hR,e3⟩
  exact CI
 ·refine cN Tryz.func110 ?_
  refine q ?_
  refine Hm rfl (aD hR) fun w1 hR e1=>?_
  refine gx 6 rfl<|gq 4 rfl<|Hq (aB Fb.h rfl)<|WL.nil<|WC.condF rfl<|WC.skip<|gq 25 rfl<|Hm rfl (cB hR) fun w2 hR e2=>?_
  refine q ?_
  refine cl rfl (dC hR (by rw[hn,dq])) ?_
  rintro v3 w3 ⟨v,rfl,hY,hR,e3⟩
  exact CI
theorem jo{k a b c d:UInt8}{t r:List UInt8}(hk:k=0xb1∨k=0xb3)(hn:t.length=be [a,b,c,d])(hR:Rd w rb (k::a::b::c::d::(t++r))):
  ah TP 110 [.pointer (some ⟨rb,0,none⟩)] w fun u w'=>u= .tuple #[str t,.nilIface]∧Rd w' rb r∧am (Nb rb) w w':=by
 rcases hk with rfl|rfl
 ·refine cN Tryz.func110 ?_
  refine q ?_
  refine Hm rfl (aD hR) fun w1 hR e1=>?_
  refine gx 6 rfl<|gq 4 rfl<|Hq (aB Fb.h rfl)<|WL.nil<|WC.condF rfl<|WC.skip<|gq 34 rfl ?_
  exact CH
 ·refine cN Tryz.func110 ?_
  refine q ?_
  refine Hm rfl (aD hR) fun w1 hR e1=>?_
  refine gx 6 rfl<|gq 4 rfl<|Hq (aB Fb.h rfl)<|WL.nil<|WC.condF rfl<|WC.skip<|gq 37 rfl ?_
  exact CH
theorem CJ{A:Prop}(h:A:=by
 exact bt rfl rfl ⟨_,rfl,⟨_,_,rfl,Nat.le_refl _,fun h=>absurd rfl h⟩,by simpa using hR,he⟩):A:=h
theorem nX{n:UInt8}{t r:List UInt8}(hn:t.length=n.toNat)(hR:Rd w rb (0xa0::n::(t++r))):
  ah TP 111 [.pointer (some ⟨rb,0,none⟩)] w fun u w'=>∃v,u= .tuple #[v,.nilIface]∧bT (fun b=>w.heap.size≤b) w' v t∧Rd w' rb r∧am (Nb rb) w w':=by
 have:=hR.lt
 rcases Nat.eq_zero_or_pos t.length with h0|h0
 ·have ht:t=[]:=List.eq_nil_of_length_eq_zero h0
  subst ht
  have hz:IntKind.i64.wrap (n.toNat:Int)=0:=by rw[dq,← hn];rfl
  refine cN Tryz.func111 ?_
  have he:am (Nb rb) w w:=am.refl w
  refine q ?_
  refine Hm rfl (aD hR) fun w1 hR e1=>?_
  refine q ?_
  refine Hm rfl (cB hR) fun w2 hR e2=>?_
  refine q ?_
  try refine Hq (ae (ak rfl rfl) (br (by(exact hz)))) ?_
  refine q ?_
  replace he:=(he.t e1).t e2
  have:=he.s
  refine WL.l rfl (vY (n:=0) Fo.h rfl rfl rfl (by decide) (by decide)) ?_
  rintro v3 w3 ⟨rfl,hO,e3⟩
  refine q ?_
  replace hR:=hR.m e3
  replace he:=he.t e3
  exact CJ
 ·have hz:IntKind.i64.wrap (n.toNat:Int)≠0:=by rw[dq,← hn];omega
  have hlen:t.length<256:=by have:=n.toNat_lt;omega
  refine cN Tryz.func111 ?_
  have he:am (Nb rb) w w:=am.refl w
  refine q ?_
  refine Hm rfl (aD hR) fun w1 hR e1=>?_
  refine q ?_
  refine Hm rfl (cB hR) fun w2 hR e2=>?_
  refine q ?_
  try refine Hq (ae (ak rfl rfl) (bk (by(exact hz)))) ?_
  refine q ?_
  refine cl rfl (dC hR (by rw[hn,dq])) ?_
  rintro v3 w3 ⟨v,rfl,hY,hR,e3⟩
  have hB0:w.heap.size≤w3.heap.size:=Nat.le_trans (Nat.le_trans e1.s e2.s) e3.s
  refine q ?_
  refine WL.l rfl (bz Fo.h rfl rfl (aT.nil w.heap.size 5 1 _) (Src.isB Fb.h hY) hB0 (by simp only[maxLen];omega) (by omega)) ?_
  rintro v4 w4 ⟨hO,e4⟩
  refine q ?_
  replace hR:=hR.m e4
  replace he:=(((he.t e1).t e2).t e3).t e4
  exact bt rfl rfl ⟨_,rfl,aT.toB hO (fun b h _=>h),hR,he⟩
theorem nY{a b c d:UInt8}{t r:List UInt8}(hn:t.length=be [a,b,c,d])(hR:Rd w rb (0xb0::a::b::c::d::(t++r))):
  ah TP 111 [.pointer (some ⟨rb,0,none⟩)] w fun u w'=>∃v,u= .tuple #[v,.nilIface]∧bT (fun b=>w.heap.size≤b) w' v t∧Rd w' rb r∧am (Nb rb) w w':=by
 have:=hR.lt
 rcases Nat.eq_zero_or_pos t.length with h0|h0
 ·have ht:t=[]:=List.eq_nil_of_length_eq_zero h0
  subst ht
  have hz:IntKind.i64.wrap ((be [a,b,c,d]:Nat):Int)=0:=by rw[cY,← hn];rfl
  refine cN Tryz.func111 ?_
  have he:am (Nb rb) w w:=am.refl w
  refine q ?_
  refine Hm rfl (aD hR) fun w1 hR e1=>?_
  refine gx 6 rfl<|gq 4 rfl<|Hq (aB Fb.h rfl)<|WL.nil<|WC.condF rfl<|WC.skip<|gq 25 rfl<|cl rfl (cL (l:=[a,b,c,d]) hR rfl) ?_
  rintro v2 w2 ⟨v,rfl,hX,hR,e2⟩
  refine q ?_
  refine Hl rfl (dj (r:=[]) hX) fun w3 e3=>?_
  refine q ?_
  try refine Hq (ae (ak rfl rfl) (br (by(exact hz)))) ?_
  refine q ?_
  replace he:=((he.t e1).t e2).t e3
  have:=he.s
  refine WL.l rfl (vY (n:=0) Fo.h rfl rfl rfl (by decide) (by decide)) ?_
  rintro v4 w4 ⟨rfl,hO,e4⟩
  refine q ?_
  replace hR:=(hR.m e3).m e4
  replace he:=he.t e4
  exact CJ
 ·have hz:IntKind.i64.wrap ((be [a,b,c,d]:Nat):Int)≠0:=by rw[cY,← hn];omega
  have hlen:t.length<4294967296:=by have:=np a b c d;omega
  refine cN Tryz.func111 ?_
  have he:am (Nb rb) w w:=am.refl w
  refine q ?_
  refine Hm rfl (aD hR) fun w1 hR e1=>?_
  refine gx 6 rfl<|gq 4 rfl<|Hq (aB Fb.h rfl)<|WL.nil<|WC.condF rfl<|WC.skip<|gq 25 rfl<|cl rfl (cL (l:=[a,b,c,d]) hR rfl) ?_
  rintro v2 w2 ⟨v,rfl,hX,hR,e2⟩
  refine q ?_
  refine Hl rfl (dj (r:=[]) hX) fun w3 e3=>?_
  refine q ?_
  try refine Hq (ae (ak rfl rfl) (bk (by(exact hz)))) ?_
  refine q ?_
  replace hR:=hR.m e3
  refine cl rfl (dC hR (by rw[hn,cY])) ?_
  rintro v4 w4 ⟨v,rfl,hY,hR,e4⟩
  have hB0:w.heap.size≤w4.heap.size:=Nat.le_trans (Nat.le_trans (Nat.le_trans e1.s e2.s) e3.s) e4.s
  refine q ?_
  refine WL.l rfl (bz Fo.h rfl rfl (aT.nil w.heap.size 5 1 _) (Src.isB Fb.h hY) hB0 (by simp only[maxLen];omega) (by omega)) ?_
  rintro v5 w5 ⟨hO,e5⟩
  refine q ?_
  replace hR:=hR.m e5
  replace he:=((((he.t e1).t e2).t e3).t e4).t e5
  exact bt rfl rfl ⟨_,rfl,aT.toB hO (fun b h _=>h),hR,he⟩
theorem ti{t r:List UInt8}(hn:t.length=16)(hR:Rd w rb (0x98::(t++r))):
  ah TP 206 [.pointer (some ⟨rb,0,none⟩)] w fun u w'=>u= .tuple #[.agg (bc t).toArray,.nilIface]∧Rd w' rb r∧am (Nb rb) w w':=by
 have:=hR.lt
 refine co Tryz.func206 ?_
 have he:am (Nb rb) w w:=am.refl w
 refine q ?_
 have:=he.s
 refine Ha fun w1 hb1 e1=>?_
 refine q ?_
 replace he:=he.t e1
 have:=he.s
 have:=hb1.lt
 refine Ha fun w2 hb2 e2=>?_
 refine q ?_
 replace hR:=(hR.m e1).m e2
 refine Hm rfl (aD hR) fun w3 hR e3=>?_
 refine q ?_
 refine cl rfl (cL hR hn) ?_
 rintro v4 w4 ⟨v,rfl,hY,hR,e4⟩
 refine q ?_
 refine Hq (ga Fo.h rfl)<|q ?_
 replace hb2:=(hb2.m e3).m e4
 refine WL.l rfl (Bv Fb.h rfl rfl hb2 rfl hY hn (by decide)) ?_
 rintro v5 w5 ⟨rfl,hb2,e5⟩
 refine q ?_
 refine Hq (ad Fo.h rfl Xr hb2.at (by simp[hn])) ?_
 replace hb1:=(((hb1.m e2).m e3).m e4).m e5
 refine Ho rfl rfl hb1 fun w6 hb1 e6 hz6=>?_
 refine q ?_
 replace hR:=(hR.m e5).m e6
 replace he:=((((he.t e2).t e3).t e4).t e5).t e6
 exact cw rfl hb1 (by simp[hn,Bd]) rfl ⟨rfl,hR,he⟩
theorem CK{A:Prop}(h:A:=by
 replace hR:=hR.m e2
 refine cl rfl (cL (l:=[a,b,c,d,e,f,g,h]) hR rfl) ?_
 rintro v3 w3 ⟨v,rfl,hY,hR,e3⟩
 obtain⟨pb,po,cp,rfl,hcp,hA,hD⟩:=hY.open (by simp)
 have hD7:=hD.get 7 (by simp)
 simp only[List.getElem_cons_zero,List.getElem_cons_succ]at hD7
 have hZ1:=hY.cut 0 4 (by simp)
 have hZ2:=hY.cut 4 4 (by simp)
 simp only[List.drop_zero,List.take_succ_cons,List.take_zero,List.drop_succ_cons]at hZ1 hZ2
 rw[show(if cp=0 then some (⟨pb,po,none⟩:Addr)else Option.map (fun x=>x.add (0 * 1)) (some (⟨pb,po,none⟩:Addr)))=some ⟨pb,po,none⟩ by split<;>simp[bV]]at hZ1
 refine q ?_
 refine Hq (ao Fb.h rfl Xr hD7)<|q ?_
 refine WC.regionD (tt [0,1,2]++ff [3]++tt [4,5]) (ay _) mixed (by kernel_rfl) Xd<|q ?_
 refine He (fun _ hS=>bu Fo.h rfl rfl rfl (by simp at hcp⊢;omega))<|cd rfl (dj (r:=[]) (hZ1.m Xd)) ?_
 rintro v4 w4 ⟨rfl,e4⟩
 refine⟨ch,?_⟩
 refine q ?_
 replace hR:=(hR.m Xd).m e4
 replace hY:=(hY.m Xd).m e4
 replace hZ1:=(hZ1.m Xd).m e4
 replace hZ2:=(hZ2.m Xd).m e4
 replace hD:=(hD.m Xd).m e4
 refine WC.regionD (tt [0,1,2]++ff [3]++tt [4,5]) (ay _) mixed (by kernel_rfl) Xd<|q ?_
 refine He (fun _ hS=>fJ Fo.h rfl rfl rfl (l:=4) (h:=8) rfl rfl (by omega) (by simp at hcp⊢;omega))<|cd rfl (dj (r:=[]) (hZ2.m Xd)) ?_
 rintro v5 w5 ⟨rfl,e5⟩
 refine⟨ch,?_⟩
 refine q ?_
 replace hR:=(hR.m Xd).m e5
 exact bt rfl rfl ⟨by rw[hw2],hR,ch⟩):A:=h
theorem CL{A:Prop}(h:A:=by
 replace hR:=hR.m e2
 refine cl rfl (cL (l:=[s,n]) hR rfl) ?_
 rintro v3 w3 ⟨v,rfl,hY,hR,e3⟩
 obtain⟨pb,po,cp,rfl,hcp,hA,hD⟩:=hY.open (by simp)
 have hD0:=hD.get 0 (by simp)
 have hD1:=hD.get 1 (by simp)
 simp only[List.getElem_cons_zero,List.getElem_cons_succ]at hD0 hD1
 refine q ?_
 try refine Hq (ao Fb.h rfl Xr (by first|exact hD0|exact hD1)) ?_
 refine q ?_
 try refine Hq (ao Fb.h rfl Xr (by first|exact hD0|exact hD1)) ?_
 refine q ?_
 try refine Hq (ao Fb.h rfl Xr (by first|exact hD0|exact hD1)) ?_
 refine q ?_
 exact bt rfl rfl ⟨by rw[hw2],hR,ch⟩):A:=h
theorem CM{A:Prop}(h:A:=by
 rintro v2 w2 ⟨rfl,e2⟩
 replace hb1:=hb1.m e2
 refine Ho rfl rfl hb1 fun w3 hb1 e3 hz3=>?_
 refine q ?_
 replace he:=((he.t e1).t e2).t e3
 exact cO rfl hb1 jG ⟨wA (by omega) (by omega),he⟩):A:=h
theorem FX{a b c d:Int}(h1:a=c)(h2:b=d):(.agg #[.int k a,.int l b]:Value)= .agg #[.int k c,.int l d]:=by subst h1 h2;rfl
theorem tN{s n:Int}(h0:0≤n)(h1:n<1000000000):
  ah TP 199 [.int .i64 s,.int .i64 n] w fun u w'=>u= .agg #[.int .i64 s,.int .i64 n]∧ay w w':=by
 refine co Tryz.func199 ?_
 have he:=XI w
 refine q ?_
 have:=he.s
 refine Ha fun w1 hb1 e1=>?_
 refine q ?_
 refine Hq (az (cs:=[_,_]) Fo.h rfl rfl)<|Ho rfl rfl hb1 fun w2 hb1 e2 hz2=>?_
 refine q ?_
 replace he:=he.t (e1.t e2)
 exact cO rfl hb1 jG ⟨rfl,he⟩
theorem x9{s n:Int}(h0: -1000000000<n)(h1:n<0)(h2: -9223372036854775808<s)(h3:s≤9223372036854775807):
  ah TP 199 [.int .i64 s,.int .i64 n] w fun u w'=>u= .agg #[.int .i64 (s-1),.int .i64 (n+1000000000)]∧ay w w':=by
 have e0:IntKind.i64.wrap (n.tdiv 1000000000)=0:=by
  have:n.tdiv 1000000000=0:=by
   have h:n= -(-n):=by omega
   rw[h,Int.neg_tdiv,Int.tdiv_eq_zero_of_lt (by omega) (by omega)];rfl
  rw[this];rfl
 refine co Tryz.func199 ?_
 have he:=XI w
 refine q ?_
 have hs1:=he.s
 refine Ha fun w1 hb1 e1=>?_
 refine q ?_
 refine Hq (nW (by decide) rfl rfl e0)<|q ?_
 refine Hq (az (cs:=[_,_]) Fo.h rfl rfl)<|Ho rfl rfl hb1 fun w2 hb1 e2 hz2=>?_
 refine q ?_
 replace he:=he.t (e1.t e2)
 exact cO rfl hb1 jG ⟨FX (by omega) (by omega),he⟩
def tm(ms:Int):List Value:=[.int .i64 (ms / 1000),.int .i64 ((ms%1000) * 1000000)]
theorem wA{a b ms:Int}(h1:a=ms / 1000)(h2:b=(ms%1000) * 1000000):(.agg #[.int .i64 a,.int .i64 b]:Value)= .agg (tm ms).toArray:=by subst h1 h2;rfl
theorem tM{ms:Int}(h1: -9223372036854775808≤ms)(h2:ms≤9223372036854775807):
  ah TP 195 [.int .i64 ms] w fun u w'=>u= .agg (tm ms).toArray∧ay w w':=by
 rcases Int.lt_or_le ms 0 with h|h
 ·have hd:ms.tdiv 1000= -((-ms) / 1000):=by
   have h':ms= -(-ms):=by omega
   rw[h',Int.neg_tdiv,Int.tdiv_eq_ediv_of_nonneg (by omega),← h']
  have hm:ms.tmod 1000= -((-ms)%1000):=by
   have h':ms= -(-ms):=by omega
   rw[h',Int.neg_tmod,Int.tmod_eq_emod_of_nonneg (by omega),← h']
  have hw:IntKind.i64.wrap (ms.tdiv 1000)= -((-ms) / 1000):=by rw[hd];exact dM (by omega) (by omega)
  rcases Int.lt_or_le 0 ((-ms)%1000)with h3|h3
  ·refine co Tryz.func195 ?_
   have he:=XI w
   refine q ?_
   have hs1:=he.s
   refine Ha fun w1 hb1 e1=>?_
   refine q ?_
   refine Hq (nW (by decide) rfl rfl hw)<|q ?_
   refine Hq (uR (by decide) rfl rfl hm)<|q ?_
   refine cl rfl (x9 (by omega) (by omega) (by omega) (by omega)) ?_
   exact CM
  ·refine co Tryz.func195 ?_
   have he:=XI w
   refine q ?_
   have hs1:=he.s
   refine Ha fun w1 hb1 e1=>?_
   refine q ?_
   refine Hq (nW (by decide) rfl rfl hw)<|q ?_
   refine Hq (uR (by decide) rfl rfl hm)<|q ?_
   refine cl rfl (tN (by omega) (by omega)) ?_
   exact CM
 ·have hw:IntKind.i64.wrap (ms.tdiv 1000)=ms / 1000:=by rw[Int.tdiv_eq_ediv_of_nonneg h];exact dM (by omega) (by omega)
  have hm:ms.tmod 1000=ms%1000:=Int.tmod_eq_emod_of_nonneg h
  refine co Tryz.func195 ?_
  have he:=XI w
  refine q ?_
  have hs1:=he.s
  refine Ha fun w1 hb1 e1=>?_
  refine q ?_
  refine Hq (nW (by decide) rfl rfl hw)<|q ?_
  refine Hq (uR (by decide) rfl rfl hm)<|q ?_
  refine Hl rfl (tN (by omega) (by omega)) fun w2 e2=>?_
  replace hb1:=hb1.m e2
  refine Ho rfl rfl hb1 fun w3 hb1 e3 hz3=>?_
  refine q ?_
  replace he:=((he.t e1).t e2).t e3
  exact cO rfl hb1 jG ⟨wA rfl rfl,he⟩
theorem eJ(n:Int): -9223372036854775808≤IntKind.i64.wrap n∧IntKind.i64.wrap n≤9223372036854775807:=by
 unfold IntKind.wrap
 have e1:(2:Int)^IntKind.i64.bits=18446744073709551616:=by decide
 have e2:(2:Int)^(IntKind.i64.bits-1)=9223372036854775808:=by decide
 simp only[e1,e2]
 split<;>rename_i h<;>simp[IntKind.signed]at h<;>omega
theorem lX{a b c d e f g h:UInt8}{r:List UInt8}(hR:Rd w rb (0x83::a::b::c::d::e::f::g::h::r)):
  ah TP 113 [.pointer (some ⟨rb,0,none⟩)] w fun u w'=>u= .tuple #[.agg (tm (IntKind.i64.wrap ((be [a,b,c,d,e,f,g,h]:Nat):Int))).toArray,.nilIface]∧Rd w' rb r∧am (Nb rb) w w':=by
 have:=hR.lt
 have hwr:=eJ (((be [a,b,c,d,e,f,g,h]:Nat):Int))
 refine co Tryz.func113 ?_
 have he:am (Nb rb) w w:=am.refl w
 refine q ?_
 have:=he.s
 refine Ha fun w1 hb1 e1=>?_
 refine q ?_
 replace hR:=hR.m e1
 refine Hm rfl (aD hR) fun w2 hR e2=>?_
 refine q ?_
 refine Hm rfl (gt hR) fun w3 hR e3=>?_
 refine q ?_
 refine Hl rfl (tM hwr.1 hwr.2) fun w4 e4=>?_
 refine q ?_
 replace hb1:=((hb1.m e2).m e3).m e4
 refine Ho rfl rfl hb1 fun w5 hb1 e5 hz5=>?_
 refine q ?_
 replace hR:=(hR.m e4).m e5
 replace he:=((((he.t e1).t e2).t e3).t e4).t e5
 exact cw rfl hb1 jG rfl ⟨rfl,hR,he⟩
theorem kw{r:List UInt8}(hR:Rd w rb (0x45::r)):
  ah TP 97 [.pointer (some ⟨rb,0,none⟩)] w fun u w'=>u= .tuple #[.int .i64 0,.nilIface]∧Rd w' rb r∧am (Nb rb) w w':=by
 refine cN Tryz.func97 ?_
 refine q ?_
 refine Hm rfl (aD hR) fun w1 hR e1=>?_
 refine q ?_
 refine Hl rfl (cS hR) fun w2 e2=>?_
 refine q ?_
 replace hR:=hR.m e2
 exact bt rfl rfl ⟨rfl,hR,ch⟩
theorem kx{s n:UInt8}{t r:List UInt8}(hn:t.length+1=s.toNat)(hc:n.toNat≤t.length)(hR:Rd w rb (0xc0::s::n::(t++r))):
  ah TP 97 [.pointer (some ⟨rb,0,none⟩)] w fun u w'=>u= .tuple #[.int .i64 (n.toNat:Int),.nilIface]∧Rd w' rb (t++r)∧am (Nb rb) w w':=by
 have hs:=dR s
 have hlen:=hR.len
 simp only[List.length_cons,List.length_append]at hlen
 have hl:(s::n::(t++r)).length=t.length+r.length+2:=by simp only[List.length_cons,List.length_append]
 have hw1:=dq s
 have hw2:=dq n
 refine cN Tryz.func97 ?_
 refine q ?_
 refine Hm rfl (aD hR) fun w1 hR e1=>?_
 refine q ?_
 refine Hl rfl (cS hR) fun w2 e2=>?_
 refine Hq (ap rfl)<|WL.nil<|gq 26 rfl ?_
 exact CL
theorem ky{a b c d e f g h:UInt8}{t r:List UInt8}(hn:t.length+4=be [a,b,c,d])(hc:be [e,f,g,h]≤t.length)(hm:be [e,f,g,h]≤65536)(hR:Rd w rb (0xd0::a::b::c::d::e::f::g::h::(t++r))):
  ah TP 97 [.pointer (some ⟨rb,0,none⟩)] w fun u w'=>u= .tuple #[.int .i64 ((be [e,f,g,h]:Nat):Int),.nilIface]∧Rd w' rb (t++r)∧am (Nb rb) w w':=by
 have hs:=np a b c d
 have hlen:=hR.len
 simp only[List.length_cons,List.length_append]at hlen
 have hl:(a::b::c::d::e::f::g::h::(t++r)).length=t.length+r.length+8:=by simp only[List.length_cons,List.length_append]
 have hw1:=cY a b c d
 have hw2:=cY e f g h
 refine cN Tryz.func97 ?_
 refine q ?_
 refine Hm rfl (aD hR) fun w1 hR e1=>?_
 refine q ?_
 refine Hl rfl (cS hR) fun w2 e2=>?_
 refine Hq (ap rfl)<|WL.nil<|gq 32 rfl ?_
 exact CK
theorem jW{s n:UInt8}{t r:List UInt8}(hn:t.length+1=s.toNat)(hc:n.toNat≤t.length)(hR:Rd w rb (0xe0::s::n::(t++r))):
  ah TP 196 [.pointer (some ⟨rb,0,none⟩)] w fun u w'=>u= .tuple #[.int .i64 (n.toNat:Int),.nilIface]∧Rd w' rb (t++r)∧am (Nb rb) w w':=by
 have hs:=dR s
 have hlen:=hR.len
 simp only[List.length_cons,List.length_append]at hlen
 have hl:(s::n::(t++r)).length=t.length+r.length+2:=by simp only[List.length_cons,List.length_append]
 have hw1:=dq s
 have hw2:=dq n
 refine cN Tryz.func196 ?_
 refine q ?_
 refine Hm rfl (aD hR) fun w1 hR e1=>?_
 refine q ?_
 refine Hl rfl (cS hR) fun w2 e2=>?_
 refine q ?_
 exact CL
theorem jX{a b c d e f g h:UInt8}{t r:List UInt8}(hn:t.length+4=be [a,b,c,d])(hc:be [e,f,g,h]≤t.length)(hm:be [e,f,g,h]≤65536)(hR:Rd w rb (0xf0::a::b::c::d::e::f::g::h::(t++r))):
  ah TP 196 [.pointer (some ⟨rb,0,none⟩)] w fun u w'=>u= .tuple #[.int .i64 ((be [e,f,g,h]:Nat):Int),.nilIface]∧Rd w' rb (t++r)∧am (Nb rb) w w':=by
 have hs:=np a b c d
 have hlen:=hR.len
 simp only[List.length_cons,List.length_append]at hlen
 have hl:(a::b::c::d::e::f::g::h::(t++r)).length=t.length+r.length+8:=by simp only[List.length_cons,List.length_append]
 have hw1:=cY a b c d
 have hw2:=cY e f g h
 refine cN Tryz.func196 ?_
 refine q ?_
 refine Hm rfl (aD hR) fun w1 hR e1=>?_
 refine q ?_
 refine Hl rfl (cS hR) fun w2 e2=>?_
 refine Hq (ap rfl)<|WL.nil<|gq 26 rfl ?_
 exact CK
end Go.Proofs.LL
namespace Go.Proofs.LL
open Go Go.Proofs Go.RowKit
def fg(hd:List UInt8)(n:Nat)(t:List UInt8):Prop:=
 (∃s k,hd=[0xe0,s,k]∧t.length+1=s.toNat∧k.toNat=n∧n≤t.length)∨
 (∃a b c d e f g h,hd=[0xf0,a,b,c,d,e,f,g,h]∧t.length+4=be [a,b,c,d]∧be [e,f,g,h]=n∧n≤65536∧n≤t.length)
theorem aG{r:List UInt8}(hh:fg hd n t)(hR:Rd w rb (hd++(t++r))):
  ah TP 196 [.pointer (some ⟨rb,0,none⟩)] w fun u w'=>u= .tuple #[.int .i64 (n:Int),.nilIface]∧Rd w' rb (t++r)∧am (Nb rb) w w':=by
 rcases hh with⟨s,k,rfl,h1,rfl,h3⟩|⟨a,b,c,d,e,f,g,h,rfl,h1,rfl,h3,h4⟩
 ·exact jW h1 h3 hR
 ·exact jX h1 h4 h3 hR
theorem fg.le(h:fg hd n t):n≤65536∧n≤t.length:=by
 rcases h with⟨s,k,rfl,h1,rfl,h3⟩|⟨a,b,c,d,e,f,g,h,rfl,h1,rfl,h3,h4⟩
 ·exact⟨by have:=k.toNat_lt;omega,h3⟩
 ·exact⟨h3,h4⟩
def di(hd:List UInt8)(n:Nat)(t:List UInt8):Prop:=
 (hd=[0x45]∧n=0∧t=[])∨
 (∃s k,hd=[0xc0,s,k]∧t.length+1=s.toNat∧k.toNat=n∧n≤t.length)∨
 (∃a b c d e f g h,hd=[0xd0,a,b,c,d,e,f,g,h]∧t.length+4=be [a,b,c,d]∧be [e,f,g,h]=n∧n≤65536∧n≤t.length)
theorem fa{r:List UInt8}(hh:di hd n t)(hR:Rd w rb (hd++(t++r))):
  ah TP 97 [.pointer (some ⟨rb,0,none⟩)] w fun u w'=>u= .tuple #[.int .i64 (n:Int),.nilIface]∧Rd w' rb (t++r)∧am (Nb rb) w w':=by
 rcases hh with⟨rfl,rfl,rfl⟩|⟨s,k,rfl,h1,rfl,h3⟩|⟨a,b,c,d,e,f,g,h,rfl,h1,rfl,h3,h4⟩
 ·exact kw hR
 ·exact kx h1 h3 hR
 ·exact ky h1 h4 h3 hR
theorem di.le(h:di hd n t):n≤65536∧n≤t.length:=by
 rcases h with⟨rfl,rfl,rfl⟩|⟨s,k,rfl,h1,rfl,h3⟩|⟨a,b,c,d,e,f,g,h,rfl,h1,rfl,h3,h4⟩
 ·simp
 ·exact⟨by have:=k.toNat_lt;omega,h3⟩
 ·exact⟨h3,h4⟩
end Go.Proofs.LL
