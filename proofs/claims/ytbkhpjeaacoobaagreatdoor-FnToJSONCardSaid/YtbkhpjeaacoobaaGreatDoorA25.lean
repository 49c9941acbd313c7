/- Contracts of functions and own laws. Conditions: those that each theorem states. -/
import Derived.Test.YtbkhpjeaacoobaaGreatDoorA24
set_option linter.all false
set_option maxRecDepth 20000
namespace Go.Proofs.LL
open Go Go.Proofs Go.RowKit
theorem cv_2_22:cvInt Tryz.prog 2 22=some .u64:=by kernel_rfl
theorem r_neg{P:Program}{ρ:Fr}{xt ty:TypeId}{x:Operand}{w:World}{k:IntKind}{a:Int}(hx:ov ρ x=some (.int k a)):RunOp P (.unOp .neg xt x) ty ρ w (.int k (k.wrap (-a))):=by
  intro N D ac dst pos af g ha
  simp[execOp,ha.ov hx,Op.unary,Op.intArith]
theorem AppI_ok{i:Int}{n:Nat}{xs:List Value}{v:Value}{w:World}(hO:Own 0 5 1 w v n xs)(hn:n≤100000000000)(h0: -9223372036854775808≤i)(h1:i≤9223372036854775807)(hT:PT w)(h7:v.ownBlock≠some 7):
    Does Tryz.prog 102 [v,.int .i64 i,.int .i64 10] w fun r w'=>Own 0 5 1 w' r (n+(Lib.itoa i).length) (xs++bc (Lib.itoa i))∧(∀k,k<w.heap.size→v.ownBlock≠some k→r.ownBlock≠some k)∧Evo (fun k=>v.ownBlock≠some k) w w':=by
  have hol:=hO.lt
  rcases Int.lt_or_le i 0 with hi|hi
  · have qw:IntKind.u64.wrap i=i+18446744073709551616:=by
      show i%18446744073709551616=_
      omega
    have qn:IntKind.u64.wrap (-(i+18446744073709551616))=(i.natAbs:Int):=by
      show(-(i+18446744073709551616))%18446744073709551616=_
      omega
    have qi:Lib.itoa i=[45]++Lib.decDigits i.natAbs:=by unfold Lib.itoa;rw[if_pos hi];rfl
    refine does1 Tryz.func102 rfl rfl rfl ?_
    refine WC.seq<|WC.region ?_
    refine WL.q rfl (r_assign rfl) ?_
    refine WL.nil ?_
    refine WC.seq<|WC.region ?_
    refine WL.q rfl (r_move rfl) ?_
    refine WL.q rfl (r_cvInt cv_2_22 rfl) ?_
    refine WL.q rfl (r_assign rfl) ?_
    refine WL.nil ?_
    refine WC.seq<|WC.seq<|WC.region ?_
    refine WL.q rfl (r_move rfl) ?_
    refine WL.q rfl (r_cmp (r_lss rfl rfl) (decide_eq_true (by omega))) ?_
    refine WL.nil ?_
    refine WC.condT rfl ?_
    refine WC.seq<|WC.region ?_
    refine WL.q rfl (r_move rfl) ?_
    refine WL.l rfl (l_lit (vs:=[_]) slz_27 rfl (by first|rfl|(simp[Value.cells,Nat.beq_eq, *];done)) rfl rfl rfl) fun _ w1 hh=>?_
    obtain⟨rfl,hb1,e1⟩:=hh
    have ns1:w.heap.size≤w1.heap.size:=e1.size
    refine WL.l rfl (l_appT slz_27 rfl rfl (hO.mono e1) (Src.at slk_27 hb1.at rfl rfl) (by omega) (by simp only[maxLen];omega) (by omega)) fun v2 w2 hh=>?_
    obtain⟨q1,q2,q3,e2⟩:=hh
    have ns2:w1.heap.size≤w2.heap.size:=e2.size
    refine WL.q rfl (r_assign rfl) ?_
    refine WL.nil ?_
    refine WC.region ?_
    refine WL.q rfl (r_move rfl) ?_
    refine WL.q rfl (r_neg rfl) ?_
    refine WL.q rfl (r_assign rfl) ?_
    refine WL.nil ?_
    refine WC.seq<|WC.region ?_
    refine WL.q rfl (r_move rfl) ?_
    refine WL.q rfl (r_move rfl) ?_
    refine WL.q rfl (r_move rfl) ?_
    refine WL.l rfl (l_do body_103 rfl ((by rw[qw,qn];exact AppU_ok q1 (by omega) (by omega) ((hT.mono e1).mono e2 h7)))) fun v3 w3 hh=>?_
    obtain⟨q4,q5,e3⟩:=hh
    have ns3:w2.heap.size≤w3.heap.size:=e3.size
    refine WL.q rfl (r_assign rfl) ?_
    refine WL.nil ?_
    refine WC.ret ?_
    exact fin1 rfl ⟨q4.cast (by rw[qi];simp;omega) (by rw[qi,bc_append,List.append_assoc];rfl),fun k hk hne=>q5 k (by omega) (q3 k (by omega) hne),(((Evo.refl (A:=fun k=>v.ownBlock≠some k) w).then e1 fun _ _ _=>trivial).then e2 fun k _ h=>h).then e3 fun k hk h=>q3 k (by omega) h⟩
  · have qw:IntKind.u64.wrap i=(i.toNat:Int):=by
      show i%18446744073709551616=_
      omega
    have qi:Lib.itoa i=Lib.decDigits i.toNat:=by unfold Lib.itoa;rw[if_neg (by omega)]
    refine does1 Tryz.func102 rfl rfl rfl ?_
    refine WC.seq<|WC.region ?_
    refine WL.q rfl (r_assign rfl) ?_
    refine WL.nil ?_
    refine WC.seq<|WC.region ?_
    refine WL.q rfl (r_move rfl) ?_
    refine WL.q rfl (r_cvInt cv_2_22 rfl) ?_
    refine WL.q rfl (r_assign rfl) ?_
    refine WL.nil ?_
    refine WC.seq<|WC.seq<|WC.region ?_
    refine WL.q rfl (r_move rfl) ?_
    refine WL.q rfl (r_cmp (r_lss rfl rfl) (decide_eq_false (by omega))) ?_
    refine WL.nil ?_
    refine WC.condF rfl ?_
    refine WC.skip ?_
    refine WC.seq<|WC.region ?_
    refine WL.q rfl (r_move rfl) ?_
    refine WL.q rfl (r_move rfl) ?_
    refine WL.q rfl (r_move rfl) ?_
    refine WL.l rfl (l_do body_103 rfl ((by rw[qw];exact AppU_ok hO (by omega) (by omega) hT))) fun v1 w1 hh=>?_
    obtain⟨q4,q5,e1⟩:=hh
    have ns1:w.heap.size≤w1.heap.size:=e1.size
    refine WL.q rfl (r_assign rfl) ?_
    refine WL.nil ?_
    refine WC.ret ?_
    rw[← qi]at q4
    exact fin1 rfl ⟨q4,q5,e1⟩
end Go.Proofs.LL
set_option maxRecDepth 20000
namespace Go.Proofs.LL
open Go Go.Proofs Go.RowKit
theorem body_102:bodyB Tryz.prog 102=true:=by kernel_rfl
theorem AppI2_ok{i:Int}{n:Nat}{xs:List Value}{v:Value}{w:World}(hO:Own 0 5 1 w v n xs)(hn:n≤100000000000)(h0: -9223372036854775808≤i)(h1:i≤9223372036854775807)(hT:PT w)(h7:v.ownBlock≠some 7):
    Does Tryz.prog 72 [v,.int .i64 i,.int .i64 10] w fun r w'=>Own 0 5 1 w' r (n+(Lib.itoa i).length) (xs++bc (Lib.itoa i))∧(∀k,k<w.heap.size→v.ownBlock≠some k→r.ownBlock≠some k)∧Evo (fun k=>v.ownBlock≠some k) w w':=by
  refine does1 Tryz.func72 rfl rfl rfl ?_
  refine WC.seq<|WC.region ?_
  refine WL.q rfl (r_assign rfl) ?_
  refine WL.nil ?_
  refine WC.seq<|WC.region ?_
  refine WL.q rfl (r_move rfl) ?_
  refine WL.q rfl (r_move rfl) ?_
  refine WL.q rfl (r_move rfl) ?_
  refine WL.l rfl (l_do body_102 rfl (AppI_ok hO hn h0 h1 hT h7)) fun v1 w1 hh=>?_
  obtain⟨q1,q2,e1⟩:=hh
  have ns1:w.heap.size≤w1.heap.size:=e1.size
  refine WL.q rfl (r_assign rfl) ?_
  refine WL.nil ?_
  refine WC.ret ?_
  exact fin1 rfl ⟨q1,q2,e1⟩
end Go.Proofs.LL
set_option maxRecDepth 20000
namespace Go.Proofs.LL
open Go Go.Proofs Go.RowKit
def hx(n:Nat):UInt8:=if n<10 then UInt8.ofNat (48+n)else UInt8.ofNat (87+n)
def plainB(b:UInt8):Prop:=128≤b.toNat∨(32≤b.toNat∧b≠92∧b≠34)
inductive Qt:List UInt8→List UInt8→Prop
  |nil:Qt [] []
  |one {b:UInt8} {r q:List UInt8} (h:plainB b) (t:Qt r q):Qt (b::r) (b::q)
  |esc {b c:UInt8} {r q:List UInt8} (h:(b=92∧c=92)∨(b=34∧c=34)∨(b=10∧c=110)∨(b=13∧c=114)∨(b=9∧c=116)) (t:Qt r q):Qt (b::r) (92::c::q)
  |hex {b:UInt8} {r q:List UInt8} (h:b.toNat<128) (t:Qt r q):Qt (b::r) (92::117::48::48::hx (b.toNat / 16)::hx (b.toNat%16)::q)
  |sep {b:UInt8} {r q:List UInt8} (h:b=168∨b=169) (t:Qt r q):Qt (226::128::b::r) (92::117::50::48::50::hx (b.toNat-160)::q)
theorem Qt.append{a x b y:List UInt8}(h:Qt a x)(h':Qt b y):Qt (a++b) (x++y):=by
  induction h with
  |nil=>exact h'
  |one h _ ih=>exact .one h ih
  |esc h _ ih=>exact .esc h ih
  |hex h _ ih=>exact .hex h ih
  |sep h _ ih=>exact .sep h ih
theorem Qt.plain:∀ {l:List UInt8},(∀b∈l,plainB b)→Qt l l
  |[],_=> .nil
  |b::r,h=> .one (h b (by simp)) (Qt.plain fun x hx=>h x (by simp[hx]))
theorem Qt.len{a x:List UInt8}(h:Qt a x):x.length≤6 * a.length:=by
  induction h<;>simp only[List.length_cons,List.length_nil]at * <;>omega
def qt(q:List UInt8):List UInt8:=34::(q++[34])
def cA:List (List UInt8)→List UInt8
  |[]=>[]
  |x::r=>44::(x++cA r)
theorem cA_app:∀l m:List (List UInt8),cA (l++m)=cA l++cA m
  |[],m=>rfl
  |x::r,m=>by simp[cA,cA_app r m]
def cM:List (List UInt8)→List UInt8
  |k::v::r=>44::(k++58::(v++cM r))
  |_=>[]
theorem cM_app:∀l m:List (List UInt8),l.length%2=0→cM (l++m)=cM l++cM m
  |[],m,_=>rfl
  |[_],m,h=>by simp at h
  |k::v::r,m,h=>by
    have h2:r.length%2=0:=by simp only[List.length_cons]at h;omega
    simp[cM,cM_app r m h2]
mutual
def JB:Pk→List UInt8→Prop
  | .mk k n t _ ks,bs=>(k=0∧bs=[110,117,108,108])∨(k=1∧n=1∧bs=[116,114,117,101])∨(k=1∧n=0∧bs=[102,97,108,115,101])∨
    (k=2∧9223372036854775808≤n∧bs=45::Lib.decDigits (18446744073709551616-n))∨(((k=2∧n<9223372036854775808)∨k=3)∧bs=Lib.decDigits n)∨
    (k=6∧∃q,Qt t q∧bs=qt q)∨(k=7∧bs=qt (b64 t))∨
    (k=8∧∃ps,JBL ks ps∧bs=91::((cA ps).tail++[93]))∨(k=9∧∃ps,JBL ks ps∧bs=123::((cM ps).tail++[125]))
def JBL:List Pk→List (List UInt8)→Prop
  |[],ps=>ps=[]
  |x::r,ps=>∃a b,JB x a∧JBL r b∧ps=a::b
end
theorem JBL.len:∀ {l:List Pk} {ps:List (List UInt8)},JBL l ps→ps.length=l.length
  |[],ps,h=>by rw[JBL]at h;subst h;rfl
  |x::r,ps,h=>by
    rw[JBL]at h
    obtain⟨a,b,_,h2,rfl⟩:=h
    simp[h2.len]
theorem JBL.snoc:∀ {l:List Pk} {ps:List (List UInt8)} {x:Pk} {b:List UInt8},JBL l ps→JB x b→JBL (l++[x]) (ps++[b])
  |[],ps,x,b,h,h'=>by
    rw[JBL]at h;subst h
    rw[List.nil_append,List.nil_append,JBL]
    exact⟨b,[],h',by rw[JBL],rfl⟩
  |y::r,ps,x,b,h,h'=>by
    rw[JBL]at h
    obtain⟨c,d,h1,h2,rfl⟩:=h
    rw[List.cons_append,JBL]
    exact⟨c,d++[b],h1,h2.snoc h',rfl⟩
theorem JBL.get:∀ {l:List Pk} {ps:List (List UInt8)} {i:Nat} (_:JBL l ps) (hi:i<l.length) (hp:i<ps.length),JB l[i] ps[i]
  |x::r,ps,0,h,_,_=>by
    rw[JBL]at h
    obtain⟨a,b,h1,_,rfl⟩:=h
    exact h1
  |x::r,ps,i+1,h,hi,hp=>by
    rw[JBL]at h
    obtain⟨a,b,_,h2,rfl⟩:=h
    exact h2.get (by simpa using hi) (by simpa using hp)
theorem cA_snoc{l:List (List UInt8)}{x:List UInt8}:(cA (l++[x])).tail=if l=[]then x else(cA l).tail++44::x:=by
  rw[cA_app]
  cases l with
  |nil=>simp[cA]
  |cons a r=>simp[cA]
theorem cM_snoc{l:List (List UInt8)}{x y:List UInt8}(h:l.length%2=0):(cM (l++[x,y])).tail=if l=[]then x++58::y else(cM l).tail++44::(x++58::y):=by
  rw[cM_app _ _ h]
  match l,h with
  |[],_=>simp[cM]
  |[_],h=>simp at h
  |a::b::r,_=>simp[cM]
end Go.Proofs.LL
set_option maxRecDepth 20000
namespace Go.Proofs.LL
open Go Go.Proofs Go.RowKit
theorem body_174:bodyB Tryz.prog 174=true:=by kernel_rfl
theorem body_70:bodyB Tryz.prog 70=true:=by kernel_rfl
theorem body_75:bodyB Tryz.prog 75=true:=by kernel_rfl
theorem ift_44:ifT Tryz.prog 44=true:=by kernel_rfl
structure St (M:Nat→Prop) (w:World) (tb:Nat) (l:List UInt8) (tv sv:Value):Prop where
  tx:Tx w tb l tv
  sc:∃n xs,Own 0 5 1 w sv n xs
  st:sv.ownBlock≠some tb
  sx:∀k,tv.ownBlock=some k→sv.ownBlock≠some k
  out:∀b,M b→b≠tb∧tv.ownBlock≠some b∧sv.ownBlock≠some b
  bnd:∀b,M b→b<w.heap.size
  m0:M 0
  m1:M 1
  m7:M 7
  ut:UT w
  pt:PT w
section
variable {M:Nat→Prop} {w w' w'':World} {tb:Nat} {l l':List UInt8} {tv tv' sv r:Value}
theorem St.ext(h:St M w tb l tv sv)(e:Ext w w'):St M w' tb l tv sv:=by
  obtain⟨n,xs,hO⟩:=h.sc
  exact⟨h.tx.mono e,⟨n,xs,hO.mono e⟩,h.st,h.sx,h.out,fun b hb=>Nat.lt_of_lt_of_le (h.bnd b hb) e.size,h.m0,h.m1,h.m7,h.ut.mono e ⟨trivial,trivial⟩,h.pt.mono e⟩
theorem St.mono(h:St M w tb l tv sv)(e:Ext w w'):St M w' tb l tv sv:=h.ext e
theorem St.write(h:St M w tb l tv sv)(hT:Tx w' tb l' tv')(hE:TE tb tv tv' w w'):St M w' tb l' tv' sv∧Evo M w w':=by
  have e:Evo M w w':=hE.evo.weaken fun k _ hk=>⟨(h.out k hk).1,(h.out k hk).2.1⟩
  obtain⟨n,xs,hO⟩:=h.sc
  refine⟨⟨hT,⟨n,xs,hO.monoB hE.evo fun k hk=>⟨fun ek=>h.st (by rw[hk,ek]),fun ek=>h.sx k ek hk⟩⟩,h.st,fun k hk hs=>?_,fun b hb=>⟨(h.out b hb).1,hE.ob b (h.bnd b hb) (h.out b hb).2.1,(h.out b hb).2.2⟩,
    fun b hb=>Nat.lt_of_lt_of_le (h.bnd b hb) e.size,h.m0,h.m1,h.m7,h.ut.mono e ⟨h.m0,h.m1⟩,h.pt.mono e h.m7⟩,e⟩
  exact hE.ob k (hO.lt k hs) (fun ek=>h.sx k ek hs) hk
theorem St.scr(h:St M w tb l tv sv){n:Nat}{xs:List Value}(hO:Own 0 5 1 w' r n xs)(hob:∀k,k<w.heap.size→sv.ownBlock≠some k→r.ownBlock≠some k)(hE:Evo (fun k=>sv.ownBlock≠some k) w w'):St M w' tb l tv r∧Evo M w w':=by
  have e:Evo M w w':=hE.weaken fun k _ hk=>(h.out k hk).2.2
  refine⟨⟨h.tx.mono hE ⟨h.st,fun k hk=>h.sx k hk⟩,⟨n,xs,hO⟩,hob tb h.tx.lt h.st,fun k hk=>hob k (h.tx.own.lt k hk) (h.sx k hk),fun b hb=>⟨(h.out b hb).1,(h.out b hb).2.1,hob b (h.bnd b hb) (h.out b hb).2.2⟩,
    fun b hb=>Nat.lt_of_lt_of_le (h.bnd b hb) e.size,h.m0,h.m1,h.m7,h.ut.mono e ⟨h.m0,h.m1⟩,h.pt.mono e h.m7⟩,e⟩
theorem SByte_ok{c:UInt8}(h:St M w tb l tv sv)(hl:l.length≤1000000000000):
    Does Tryz.prog 173 [.pointer (some ⟨tb,0,none⟩),.int .u8 (c.toNat:Int)] w fun r w'=>r= .nilIface∧∃tv',St M w' tb (l++[c]) tv' sv∧Evo M w w':=
  (WByte_ok h.tx hl).imp fun r w' ⟨h1,v',h2,h3⟩=>⟨h1,v',h.write h2 h3⟩
theorem SStr_ok{s:List UInt8}(h:St M w tb l tv sv)(hl:l.length≤1000000000000)(hs:s.length≤1000000000000):
    Does Tryz.prog 174 [.pointer (some ⟨tb,0,none⟩),str s] w fun r w'=>r= .tuple #[.int .i64 (s.length:Int),.nilIface]∧∃tv',St M w' tb (l++s) tv' sv∧Evo M w w':=
  (WStr_ok h.tx hl hs).imp fun r w' ⟨h1,v',h2,h3⟩=>⟨h1,v',h.write h2 h3⟩
theorem SWrite_ok{A:Nat→Prop}{s:List UInt8}{u:Value}(h:St M w tb l tv sv)(hl:l.length≤1000000000000)(hs:s.length≤1000000000000)(hI:IsB A w u s):
    Does Tryz.prog 172 [.pointer (some ⟨tb,0,none⟩),u] w fun r w'=>r= .tuple #[.int .i64 (s.length:Int),.nilIface]∧∃tv',St M w' tb (l++s) tv' sv∧Evo M w w':=
  (WWrite_ok h.tx hl hs hI).imp fun r w' ⟨h1,v',h2,h3⟩=>⟨h1,v',h.write h2 h3⟩
end
abbrev wr(tb:Nat):Value:= .iface 47 (.pointer (some ⟨tb,0,none⟩))
theorem mW : mthT Tryz.prog 47 "Write" = some 172 := by kernel_rfl
theorem mWB : mthT Tryz.prog 47 "WriteByte" = some 173 := by kernel_rfl
theorem mWS : mthT Tryz.prog 47 "WriteString" = some 174 := by kernel_rfl
def RW(f:Nat)(bs:List UInt8)(dep:Int)(vol:Nat)(J:List UInt8→Prop):Prop:=∀(M:Nat→Prop) (w:World) (tb:Nat) (l:List UInt8) (tv sv msg:Value) (r:List UInt8),St M w tb l tv sv→IsB M w msg (bs++r)→l.length+vol≤1000000000000→
  Does Tryz.prog f [wr tb,msg,sv,.int .i64 dep] w fun u w'=>∃msg' tv' sv' o,u= .tuple #[msg',sv',.nilIface]∧J o∧IsB M w' msg' r∧St M w' tb (l++o) tv' sv'∧Evo M w w'
theorem rwNull_ok{dep:Int}:RW 51 [192] dep 10 (· =[110,117,108,108]):=by
  intro M w tb l tv sv msg r hS hI hl
  refine does3 Tryz.func51 rfl rfl rfl ?_
  have he:Evo (M) w w:=Evo.refl w
  refine WC.seq<|WC.region ?_
  refine WL.q rfl (r_assign rfl) ?_
  refine WL.q rfl (r_assign rfl) ?_
  refine WL.q rfl (r_assign rfl) ?_
  refine WL.nil ?_
  refine WC.seq<|WC.region ?_
  refine WL.q rfl (r_move rfl) ?_
  refine WL.l rfl (l_do body_75 rfl ((ReadNil_ok hI))) fun v1 w1 hh=>?_
  obtain⟨⟨m1,rfl,hI⟩,e1⟩:=hh
  refine WL.q rfl (r_move rfl) ?_
  refine WL.q rfl (r_extract rfl rfl) ?_
  refine WL.q rfl (r_extract rfl rfl) ?_
  refine WL.q rfl (r_assign rfl) ?_
  refine WL.q rfl (r_assign rfl) ?_
  refine WL.nil ?_
  refine WC.seq<|WC.seq<|WC.region ?_
  refine WL.q rfl (r_move rfl) ?_
  refine WL.q rfl (r_ifneNil ift_44 rfl) ?_
  refine WL.nil ?_
  refine WC.condF rfl ?_
  refine WC.skip ?_
  refine WC.seq<|WC.region ?_
  refine WL.q rfl (r_move rfl) ?_
  replace hS:=hS.mono e1
  refine WL.l rfl (l_invoke mWS body_174 rfl rfl (SStr_ok (s:=[110,117,108,108]) hS (by omega) (by decide))) fun v2 w2 hh=>?_
  obtain⟨rfl,tv',hS,e2⟩:=hh
  refine WL.q rfl (r_move rfl) ?_
  refine WL.q rfl (r_extract rfl rfl) ?_
  refine WL.q rfl (r_extract rfl rfl) ?_
  refine WL.q rfl (r_assign rfl) ?_
  refine WL.nil ?_
  refine WC.seq<|WC.region ?_
  refine WL.q rfl (r_move rfl) ?_
  refine WL.q rfl (r_move rfl) ?_
  refine WL.q rfl (r_move rfl) ?_
  refine WL.q rfl (r_assign rfl) ?_
  refine WL.q rfl (r_assign rfl) ?_
  refine WL.q rfl (r_assign rfl) ?_
  refine WL.nil ?_
  refine WC.ret ?_
  replace hI:=hI.mono e2
  replace he:=(he.then e1).then e2
  exact fin3 rfl rfl rfl ⟨_,_,_,_,rfl,rfl,hI,hS,he⟩
theorem rwTrue_ok{dep:Int}:RW 48 [195] dep 10 (· =[116,114,117,101]):=by
  intro M w tb l tv sv msg r hS hI hl
  refine does3 Tryz.func48 rfl rfl rfl ?_
  have he:Evo (M) w w:=Evo.refl w
  refine WC.seq<|WC.region ?_
  refine WL.q rfl (r_assign rfl) ?_
  refine WL.q rfl (r_assign rfl) ?_
  refine WL.q rfl (r_assign rfl) ?_
  refine WL.nil ?_
  refine WC.seq<|WC.region ?_
  refine WL.q rfl (r_move rfl) ?_
  refine WL.l rfl (l_do body_70 rfl ((ReadBool195_ok hI))) fun v1 w1 hh=>?_
  obtain⟨⟨m1,rfl,hI⟩,e1⟩:=hh
  refine WL.q rfl (r_move rfl) ?_
  refine WL.q rfl (r_extract rfl rfl) ?_
  refine WL.q rfl (r_extract rfl rfl) ?_
  refine WL.q rfl (r_extract rfl rfl) ?_
  refine WL.q rfl (r_assign rfl) ?_
  refine WL.q rfl (r_assign rfl) ?_
  refine WL.q rfl (r_assign rfl) ?_
  refine WL.nil ?_
  refine WC.seq<|WC.seq<|WC.region ?_
  refine WL.q rfl (r_move rfl) ?_
  refine WL.q rfl (r_ifneNil ift_44 rfl) ?_
  refine WL.nil ?_
  refine WC.condF rfl ?_
  refine WC.skip ?_
  refine WC.seq<|WC.seq<|WC.region ?_
  refine WL.q rfl (r_move rfl) ?_
  refine WL.nil ?_
  refine WC.condT rfl ?_
  refine WC.seq<|WC.region ?_
  refine WL.q rfl (r_move rfl) ?_
  replace hS:=hS.mono e1
  refine WL.l rfl (l_invoke mWS body_174 rfl rfl (SStr_ok (s:=[116,114,117,101]) hS (by omega) (by decide))) fun v2 w2 hh=>?_
  obtain⟨rfl,tv',hS,e2⟩:=hh
  refine WL.q rfl (r_move rfl) ?_
  refine WL.q rfl (r_extract rfl rfl) ?_
  refine WL.q rfl (r_extract rfl rfl) ?_
  refine WL.q rfl (r_assign rfl) ?_
  refine WL.nil ?_
  refine WC.seq<|WC.region ?_
  refine WL.q rfl (r_move rfl) ?_
  refine WL.q rfl (r_move rfl) ?_
  refine WL.q rfl (r_move rfl) ?_
  refine WL.q rfl (r_assign rfl) ?_
  refine WL.q rfl (r_assign rfl) ?_
  refine WL.q rfl (r_assign rfl) ?_
  refine WL.nil ?_
  refine WC.ret ?_
  replace hI:=hI.mono e2
  replace he:=(he.then e1).then e2
  exact fin3 rfl rfl rfl ⟨_,_,_,_,rfl,rfl,hI,hS,he⟩
theorem rwFalse_ok{dep:Int}:RW 48 [194] dep 10 (· =[102,97,108,115,101]):=by
  intro M w tb l tv sv msg r hS hI hl
  refine does3 Tryz.func48 rfl rfl rfl ?_
  have he:Evo (M) w w:=Evo.refl w
  refine WC.seq<|WC.region ?_
  refine WL.q rfl (r_assign rfl) ?_
  refine WL.q rfl (r_assign rfl) ?_
  refine WL.q rfl (r_assign rfl) ?_
  refine WL.nil ?_
  refine WC.seq<|WC.region ?_
  refine WL.q rfl (r_move rfl) ?_
  refine WL.l rfl (l_do body_70 rfl ((ReadBool194_ok hI))) fun v1 w1 hh=>?_
  obtain⟨⟨m1,rfl,hI⟩,e1⟩:=hh
  refine WL.q rfl (r_move rfl) ?_
  refine WL.q rfl (r_extract rfl rfl) ?_
  refine WL.q rfl (r_extract rfl rfl) ?_
  refine WL.q rfl (r_extract rfl rfl) ?_
  refine WL.q rfl (r_assign rfl) ?_
  refine WL.q rfl (r_assign rfl) ?_
  refine WL.q rfl (r_assign rfl) ?_
  refine WL.nil ?_
  refine WC.seq<|WC.seq<|WC.region ?_
  refine WL.q rfl (r_move rfl) ?_
  refine WL.q rfl (r_ifneNil ift_44 rfl) ?_
  refine WL.nil ?_
  refine WC.condF rfl ?_
  refine WC.skip ?_
  refine WC.seq<|WC.seq<|WC.region ?_
  refine WL.q rfl (r_move rfl) ?_
  refine WL.nil ?_
  refine WC.condF rfl ?_
  refine WC.skip ?_
  refine WC.seq<|WC.region ?_
  refine WL.q rfl (r_move rfl) ?_
  replace hS:=hS.mono e1
  refine WL.l rfl (l_invoke mWS body_174 rfl rfl (SStr_ok (s:=[102,97,108,115,101]) hS (by omega) (by decide))) fun v2 w2 hh=>?_
  obtain⟨rfl,tv',hS,e2⟩:=hh
  refine WL.q rfl (r_move rfl) ?_
  refine WL.q rfl (r_extract rfl rfl) ?_
  refine WL.q rfl (r_extract rfl rfl) ?_
  refine WL.q rfl (r_assign rfl) ?_
  refine WL.nil ?_
  refine WC.seq<|WC.region ?_
  refine WL.q rfl (r_move rfl) ?_
  refine WL.q rfl (r_move rfl) ?_
  refine WL.q rfl (r_move rfl) ?_
  refine WL.q rfl (r_assign rfl) ?_
  refine WL.q rfl (r_assign rfl) ?_
  refine WL.q rfl (r_assign rfl) ?_
  refine WL.nil ?_
  refine WC.ret ?_
  replace hI:=hI.mono e2
  replace he:=(he.then e1).then e2
  exact fin3 rfl rfl rfl ⟨_,_,_,_,rfl,rfl,hI,hS,he⟩
end Go.Proofs.LL
set_option maxRecDepth 20000
namespace Go.Proofs.LL
open Go Go.Proofs Go.RowKit
set_option maxRecDepth 100000 in
set_option maxHeartbeats 4000000 in
theorem decN_facts{n b0 b1 b2 b3 c z:Nat}(h:Lib.decodeN n b0 b1 b2 b3=(c,z))(hb:128≤b0)(l0:b0<256)(l1:b1<256)(l2:b2<256)(l3:b3<256)(ne:¬(c=65533∧z=1)):
    2≤z∧z≤4∧z≤n∧128≤b1∧(3≤z→128≤b2)∧(4≤z→128≤b3)∧(c=8232∨c=8233→z=3∧b0=226∧b1=128∧b2+8064=c):=by
  unfold Lib.decodeN at h
  repeat' split at h
  all_goals (simp only[Prod.mk.injEq]at h;obtain⟨h1,h2⟩:=h)
  all_goals first|(exfalso;omega)|(refine⟨by omega,by omega,by omega,by omega,by omega,by omega,fun h3=>⟨by omega,by omega,by omega,by omega⟩⟩)
theorem dec_hi{l:List UInt8}(hv:Lib.validD l=true)(hne:l≠[])(hb:128≤(l.getD 0 0).toNat):
    ∃c z,Lib.decodeGo ⟨l.toArray⟩=(c,z)∧c≤1114111∧¬(c=65533∧z=1)∧2≤z∧z≤4∧z≤l.length∧(∀b∈l.take z,128≤b.toNat)∧Lib.validD (l.drop z)=true∧
      (c=8232∨c=8233→z=3∧∃b,l.take 3=[226,128,b]∧b.toNat+8064=c):=by
  have hl:0<l.length:=List.length_pos_iff.2 hne
  have hgo:Lib.decodeGo ⟨l.toArray⟩=Lib.decodeL l:=by
    unfold Lib.decodeGo Lib.decodeL
    rw[if_neg (by show¬l.length=0;omega)]
  obtain⟨⟨c,z⟩,hcz⟩:∃x,Lib.decodeL l=x:=⟨_,rfl⟩
  rw[Lib.validD_step l hne,hcz]at hv
  dsimp only at hv
  have ne:¬(c=65533∧z=1):=fun h=>by rw[if_pos h]at hv;cases hv
  rw[if_neg ne]at hv
  have hr:=Lib.decodeL_rune l
  rw[hcz]at hr
  have hN:=(Lib.decodeL_N l).symm.trans hcz
  obtain⟨z2,z4,zn,q1,q2,q3,q4⟩:=decN_facts hN hb (UInt8.toNat_lt _) (UInt8.toNat_lt _) (UInt8.toNat_lt _) (UInt8.toNat_lt _) ne
  have hget:∀j,j<z→128≤(l.getD j 0).toNat:=fun j hj=>by
    rcases(show j=0∨j=1∨j=2∨j=3 by omega)with rfl|rfl|rfl|rfl
    · exact hb
    · exact q1
    · exact q2 (by omega)
    · exact q3 (by omega)
  refine⟨c,z,by rw[hgo,hcz],hr,ne,z2,z4,zn,fun b hm=>?_,hv,fun h=>?_⟩
  · obtain⟨j,hj,rfl⟩:=List.getElem_of_mem hm
    rw[List.length_take]at hj
    have:=hget j (by omega)
    rw[List.getElem_take]
    rwa [List.getD_eq_getElem?_getD,List.getElem?_eq_getElem (by omega)]at this
  · obtain⟨e3,e0,e1,e2⟩:=q4 h
    subst e3
    refine⟨rfl,l.getD 2 0,?_,e2⟩
    match l,zn,e0,e1 with
    |a::b::d::r,_,e0,e1=>
      simp only[List.getD_cons_zero,List.getD_cons_succ]at e0 e1⊢
      have ea:a=226:=UInt8.toNat_inj.1 e0
      have eb:b=128:=UInt8.toNat_inj.1 e1
      subst ea eb
      rfl
theorem IsB.cutS{A:Nat→Prop}{w:World}{p:Option Addr}{n c i j:Nat}{bs:List UInt8}(h:IsB A w (.slice p n c) bs)(hij:i≤j)(hj:j≤bs.length):IsB A w (.slice (if c=i then p else p.map (·.add (i * 1))) (j-i) (c-i)) ((bs.take j).drop i):=by
  obtain⟨hn,hc⟩:=h.capS
  have h2:IsB A w (.slice p j c) (bs.take j):=by
    have:=h.takeS hj
    refine⟨p,c,by rw[List.length_take,Nat.min_eq_left hj],by rw[List.length_take];omega,fun hne=>?_⟩
    obtain⟨p',c',e,_,h3⟩:=h
    cases e
    obtain⟨b,o,h4,h5,h6⟩:=h3 (fun e=>hne (by rw[e,List.take_nil]))
    refine⟨b,o,h4,h5,fun k hk=>?_⟩
    rw[List.length_take]at hk
    rw[List.getElem_take]
    exact h6 k (by omega)
  have h3:=h2.dropS (k:=i) (by rw[List.length_take];omega)
  exact h3
theorem DR_ok{A:Nat→Prop}{w:World}{v:Value}{l:List UInt8}{c z:Nat}(hT:UT w)(hI:IsB A w v l)(hne:l≠[])(hd:Lib.decodeGo ⟨l.toArray⟩=(c,z)):
    Does Tryz.prog 87 [v] w fun r w'=>r= .tuple #[.int .i32 (c:Int),.int .i64 (z:Int)]∧Ext w w':=by
  obtain⟨b,o,cp,rfl,hc,hA,hD⟩:=hI.open (List.length_pos_iff.2 hne)
  have hk:=Any7.utf8_DecodeRune Tryz.lays7_32 ⟨l.toArray⟩ b o cp w hT (fun j hj=>by
    have hj':j<l.length:=hj
    rw[hD j hj']
    have:(⟨l.toArray⟩:ByteArray).get! j=l[j]:=by
      show Eq (l.toArray[j]!) l[j]
      rw[getElem!_pos _ j (by simpa using hj')]
      simp
    rw[this])
  refine⟨Calls.mono hk fun e w' hr=>?_⟩
  obtain⟨rfl,hb⟩:=hr
  rw[hd]
  exact⟨_,rfl,rfl,ext_of_below hb⟩
end Go.Proofs.LL
