/- Contracts of functions and own laws. Conditions: those that each theorem states. -/
import Derived.Test.YtdgbmbjkbmpcbaaGreatDoorW04
set_option linter.all false
set_option autoImplicit true
set_option relaxedAutoImplicit true
namespace Go.Proofs.LL
def Hd(c8 c32:UInt8)(c:UInt8)(hd:List UInt8)(n:Nat)(t:List UInt8):Prop:=
 (∃s k,c=c8∧hd=[s,k]∧t.length+1=s.toNat∧k.toNat=n∧n≤t.length)∨
 (∃a b d e f g h i,c=c32∧hd=[a,b,d,e,f,g,h,i]∧t.length+4=be [a,b,d,e]∧be [f,g,h,i]=n∧n≤65536∧n≤t.length)
def iS(k:Int):Option (UInt8×Nat):=
 if k=2 then some (0x50,1)else if k=3 then some (0x60,2)else if k=4 then some (0x70,4)else if k=5 then some (0x80,8)else
 if k=6 then some (0x51,1)else if k=7 then some (0x61,2)else if k=8 then some (0x71,4)else if k=9 then some (0x81,8)else
 if k=10 then some (0x72,4)else if k=11 then some (0x82,8)else if k=16 then some (0x83,8)else none
def fQ:List UInt8:=[0x50,0x60,0x70,0x80,0x51,0x61,0x71,0x81,0x72,0x82,0x83,0x52,0x53,0x54,0x55,0x56,0x98,0xa0,0xb0,0xa1,0xb1,0xa3,0xb3]
def ln(n:Nat):Prop:=n<128∨18446744073709551488≤n
mutual
inductive Pc:V→UInt8→List UInt8→Prop
 |null {n t ks o d}:Pc (.mk 0 n t ks o d) 0x40 []
 |tt {t ks o d}:Pc (.mk 1 1 t ks o d) 0x41 []
 |ff {t ks o d}:Pc (.mk 1 0 t ks o d) 0x42 []
 |bool {n t ks o d}:n≤1→Pc (.mk 1 n t ks o d) 0x56 [UInt8.ofNat n]
 |num {k n t ks o d c s}:iS k=some (c,s)→Pc (.mk k n t ks o d) c (aI n s)
 |uint0 {t ks o d}:Pc (.mk 4 0 t ks o d) 0x43 []
 |uint1 {n t ks o d}:n<256→Pc (.mk 4 n t ks o d) 0x52 (aI n 1)
 |ulong0 {t ks o d}:Pc (.mk 5 0 t ks o d) 0x44 []
 |ulong1 {n t ks o d}:n<256→Pc (.mk 5 n t ks o d) 0x53 (aI n 1)
 |int1 {n t ks o d}:ln n→Pc (.mk 8 n t ks o d) 0x54 (aI n 1)
 |long1 {n t ks o d}:ln n→Pc (.mk 9 n t ks o d) 0x55 (aI n 1)
 |uuid {n t ks o d}:Pc (.mk 17 n t ks o d) 0x98 t
 |bin1 {n t ks o d}:t.length<256→Pc (.mk 18 n t ks o d) 0xa0 (txt 1 t)
 |bin4 {n t ks o d}:t.length<4294967296→Pc (.mk 18 n t ks o d) 0xb0 (txt 4 t)
 |str1 {n t ks o d}:t.length<256→Pc (.mk 19 n t ks o d) 0xa1 (txt 1 t)
 |str4 {n t ks o d}:t.length<4294967296→Pc (.mk 19 n t ks o d) 0xb1 (txt 4 t)
 |sym1 {n t ks o d}:t.length<256→Pc (.mk 20 n t ks o d) 0xa3 (txt 1 t)
 |sym4 {n t ks o d}:t.length<4294967296→Pc (.mk 20 n t ks o d) 0xb3 (txt 4 t)
 |list0 {n t o d}:Pc (.mk 21 n t [] o d) 0x45 []
 |list {n t ks o d c hd body}:bw ks body→Hd 0xc0 0xd0 c hd ks.length body→Pc (.mk 21 n t ks o d) c (hd++body)
 |map {n t ks o d c hd body}:bw ks body→Hd 0xc1 0xd1 c hd ks.length body→Pc (.mk 22 n t ks o d) c (hd++body)
 |arr {n t ks o d c hd c' body}:c'∈fQ→bY c' ks body→Hd 0xe0 0xf0 c hd ks.length (c'::body)→Pc (.mk 23 n t ks o d) c (hd++(c'::body))
inductive g8:V→List UInt8→Prop
 |plain {x c data}:x.desc=[]→Pc x c data→g8 x (c::data)
 |desc {x y b c data}:x.desc=[y]→g8 y b→Pc x c data→g8 x (0::(b++(c::data)))
inductive bw:List V→List UInt8→Prop
 |nil:bw [] []
 |cons {x r b c}:g8 x b→bw r c→bw (x::r) (b++c)
inductive bY:UInt8→List V→List UInt8→Prop
 |nil {c}:bY c [] []
 |cons {c x r b d}:Pc x c b→bY c r d→bY c (x::r) (b++d)
end
theorem g8.ne(h:g8 x bs):0<bs.length:=by cases h<;>simp
theorem bw.len:∀ {bs:List UInt8},bw l bs→l.length≤bs.length:=by
 induction l with
 |nil=>intro bs h;simp
 |cons x r ih=>
  intro bs h
  cases h with
  |cons h1 h2=>
   have:=ih h2
   have:=h1.ne
   simp;omega
def mT(b n:Nat):Prop:=n<2^(b-1)∨(18446744073709551616-2^(b-1)≤n∧n<18446744073709551616)
def de(k:Int)(n:Nat):Prop:=
 (k=1→n≤1)∧(k=2→n<256)∧(k=3→n<65536)∧(k=4→n<4294967296)∧(k=6→mT 8 n)∧(k=7→mT 16 n)∧(k=8→mT 32 n)∧(k=10→n<4294967296)∧n<18446744073709551616
def dV(k:Int):Prop:=(1≤k∧k≤9)∨k=16∨k=17∨k=19∨k=20
def dp(k:Int):Prop:=(1≤k∧k≤11)∨(16≤k∧k≤20)
def bI(x:V):Prop:=de x.kind x.num∧x.text.length≤131072∧(x.kind=17→x.text.length=16)∧x.desc=[]∧(x.kind<17→x.text=[])∧(x.kind=0∨17≤x.kind→x.num=0)
def eU(x:V):Int×Nat×List UInt8:=(if x.kind=20 then 19 else x.kind,x.num,x.text)
def aP:List V→List V
 |k::_::r=>k::aP r
 |_=>[]
mutual
def fh:V→Prop
 | .mk k n t ks o d=>bI (.mk k n t ks o d)∧0≤k∧k≤23∧(k<12∨16≤k)∧ks.length≤1000∧
  (k=21→cG ks)∧
  (k=22→cG ks∧ks.length%2=0∧(∀x∈aP ks,dV x.kind)∧((aP ks).map eU).Nodup)∧
  (k=23→ks≠[]∧∃kk,dp kk∧∀x∈ks,x.kind=kk∧bI x∧(18≤kk→x.text≠[]))
def cG:List V→Prop
 |[]=>True
 |x::r=>fh x∧cG r
end
end Go.Proofs.LL
namespace Go.Proofs.LL
open Go Go.RowKit
def xz(zs:List Value)(off:Nat)(vs:List Value):List Value:=zs.take off++(vs++zs.drop (off+vs.length))
def nw(place:Nat→Option (Nat×Nat)):List Value→List (Nat×Value)→Option (List Value)
 |zs,[]=>some zs
 |zs,(i,v)::r=>match place i with
  |none=>none
  |some (off,size)=>bif Nat.beq v.cells.size size&&Nat.ble (off+v.cells.size) zs.length then nw place (xz zs off v.cells.toList) r else none
theorem wv(off:Nat):∀(vs:List Value) (k:Nat) (zs:List Value),off+k+vs.length≤zs.length→
  ((vs.zipIdx k).foldl (fun(cs:Array Value) (p:Value×Nat)=>cs.setIfInBounds (off+p.2) p.1) zs.toArray)=(xz zs (off+k) vs).toArray
 |[],k,zs,h=>by simp[xz]
 |v::vs,k,zs,h=>by
  simp only[List.length_cons]at h
  simp only[List.zipIdx_cons,List.foldl_cons,List.setIfInBounds_toArray]
  rw[wv off vs (k+1) (zs.set (off+k) v) (by simp;omega)]
  congr 1
  unfold xz
  apply List.ext_getElem?
  intro i
  simp only[List.getElem?_append,List.getElem?_take,List.getElem?_drop,List.length_take,List.length_set,List.getElem?_set,List.length_cons,List.getElem?_cons,List.cons_append,List.length_append]
  grind
theorem jH(place:Nat→Option (Nat×Nat)):∀(vs:List (Nat×Value)) (zs:List Value),Instr.fill place zs.toArray vs=(nw place zs vs).map List.toArray
 |[],zs=>rfl
 |(i,v)::r,zs=>by
  unfold Instr.fill nw
  cases hp:place i with
  |none=>rfl
  |some os=>
   obtain⟨off,size⟩:=os
   simp only
   by_cases h:v.cells.size=size∧off+v.cells.size≤zs.length
   ·obtain⟨h1,h2⟩:=h
    have hb:(Nat.beq v.cells.size size&&Nat.ble (off+v.cells.size) zs.length)=true:=by simp[h1];omega
    rw[hb]
    simp only[cond_true]
    rw[if_neg (by simp[h1];omega)]
    have hs:=wv off v.cells.toList 0 zs (by simpa using h2)
    rw[← jH place r]
    congr 1
    have e2:v.cells.toList.zipIdx=v.cells.zipIdx.toList:=by simp
    rw[e2,Array.foldl_toList]at hs
    simpa using hs
   ·have hb:(Nat.beq v.cells.size size&&Nat.ble (off+v.cells.size) zs.length)=false:=by
     simp only[Bool.and_eq_false_iff]
     rcases Nat.decEq v.cells.size size with h1|h1
     ·left
      cases hq:Nat.beq v.cells.size size with
      |false=>rfl
      |true=>exact absurd (Nat.eq_of_beq_eq_true hq) h1
     ·right
      cases hq:Nat.ble (off+v.cells.size) zs.length with
      |false=>rfl
      |true=>exact absurd ⟨h1,Nat.le_of_ble_eq_true hq⟩ h
    rw[hb]
    simp only[cond_false]
    rw[if_pos (by simp;omega)]
    rfl
def im(P:Program)(t:TypeId):Option (List (Nat×Nat)×List Value):=
 match P.info? t,P.underlying t with
 |some it,some (.struct fields)=>
  match it.zero,fields.toList.mapM (fun f=>(P.info? f.type).map fun i=>(f.offset,i.size))with
  |some z,some places=>some (places,z.cells.toList)
  |_,_=>none
 |_,_=>none
def nR:Nat→List Value→List (Nat×Value)
 |_,[]=>[]
 |k,v::r=>(k,v)::nR (k+1) r
theorem kh(z:Nat):∀(vs:List Value) (i:Nat) (done rest:List Value),vs.all (fun v=>Nat.beq v.cells.size z)=true→done.length=i * z→rest.length=vs.length * z→
  nw (fun i=>some (i * z,z)) (done++rest) (nR i vs)=some (done++vs.flatMap (·.cells.toList))
 |[],i,done,rest,_,_,h3=>by
  have:rest=[]:=List.eq_nil_of_length_eq_zero (by simpa using h3)
  simp[nR,nw,this]
 |v::vs,i,done,rest,h1,h2,h3=>by
  simp only[List.all_cons,Bool.and_eq_true]at h1
  obtain⟨h1,h1'⟩:=h1
  have hz:v.cells.size=z:=Nat.eq_of_beq_eq_true h1
  simp only[List.length_cons,Nat.add_mul,Nat.one_mul]at h3
  have hb:(Nat.beq v.cells.size z&&Nat.ble (i * z+v.cells.size) (done++rest).length)=true:=by
   simp[hz,h2];omega
  simp only[nR,nw,hb,cond_true]
  have e:xz (done++rest) (i * z) v.cells.toList=(done++v.cells.toList)++rest.drop z:=by
   unfold xz
   have hl:v.cells.toList.length=z:=by simpa using hz
   rw[← h2,List.take_left,hl,← List.drop_drop,List.drop_left,List.append_assoc]
  rw[e,kh z vs (i+1) (done++v.cells.toList) (rest.drop z) h1' (by simp[h2,hz,Nat.add_mul]) (by simp;omega)]
  simp
section
variable {P:Program} {ρ:Fr} {w w0:World} {ty:TypeId} {x y:Operand}
theorem az{ps:Array (Nat×Operand)}{pl:List (Nat×Nat)}{zs:List Value}{vs:List (Nat×Value)}(ht:im P t=some (pl,zs))(hp:x6 ρ ps.toList=some vs)(hf:nw (fun i=>pl[i]?) zs vs=some cs):ar P (.build t ps) ty ρ w (.agg cs.toArray):=by
 have hb:P.built t vs=some cs.toArray:=by
  unfold im at ht
  unfold Program.built
  cases hi:P.info? t with
  |none=>rw[hi]at ht;cases ht
  |some it=>
   cases hu:P.underlying t with
   |none=>rw[hi,hu]at ht;cases ht
   |some d=>
    rw[hi,hu]at ht
    cases d<;>try cases ht
    rename_i fields
    simp only at ht⊢
    cases hz:it.zero with
    |none=>rw[hz]at ht;cases ht
    |some z=>
     cases hpl:fields.toList.mapM (fun f=>(P.info? f.type).map fun i=>(f.offset,i.size))with
     |none=>rw[hz,hpl]at ht;cases ht
     |some places=>
      rw[hz,hpl]at ht
      simp only[Option.some.injEq,Prod.mk.injEq]at ht
      obtain⟨rfl,rfl⟩:=ht
      simp only
      have:=jH (fun i=>places.toArray[i]?) vs z.cells.toList
      rw[Array.toArray_toList]at this
      rw[this]
      simp only[List.getElem?_toArray,hf]
      rfl
 exact wq hp hb
theorem E3{e z bs:Nat}{zv:Value}{ps:Array (Nat×Operand)}(ht:fG P t=some (e,z,bs,zv))(hp:x6 ρ ps.toList=some (nR 0 vs))(hall:vs.all (fun v=>Nat.beq v.cells.size z)=true)(hn:vs.length=n)(hsm:Nat.ble (n * z) 16777216=true)(hpos:Nat.blt 0 (n * z)=true):
  aA P (.buildSlice t n ps) ty ρ w (fun v w'=>v= .slice (some ⟨w.heap.size,0,none⟩) n n∧aH w' w.heap.size (vs.flatMap (·.cells.toList))∧ay w w'):=by
 refine qZ ht hp hsm hpos ?_
 have h1:=jH (fun i=>some (i * z,z)) (nR 0 vs) ((Array.range (n * z)).map (zv.cells[· %zv.cells.size]!)).toList
 rw[Array.toArray_toList]at h1
 rw[h1]
 have h2:=kh z vs 0 [] ((Array.range (n * z)).map (zv.cells[· %zv.cells.size]!)).toList hall (by simp) (by simp[hn])
 rw[List.nil_append]at h2
 rw[h2]
 simp
theorem ze{b:Nat}{vs:List Value}(ht:x8 P t=some n)(hx:ov ρ x=some (.pointer (some ⟨b,0,none⟩)))(hy:ov ρ y=some (.agg vs.toArray))(hv:vs.all (·.oneCell')=true)(hn:vs.length=n)(hB:aH w b cs)(hc:cs.length=n):
  aA P (.store t x y) ty ρ w (fun _ w'=>aH w' b vs∧am (fun k=>k≠b) w w'∧w'.heap.size=w.heap.size):=by
 intro N D a dst pos af g ha next Q hq
 refine nJ ht hx hy hv hn hB (by simp[Nat.ble_eq];omega) N D a dst pos af g ha next Q fun v w' h=>hq v w' ?_
 obtain⟨h1,h2⟩:=h
 have e:cs.take 0++vs++cs.drop (0+vs.length)=vs:=by simp[List.drop_eq_nil_of_le (show cs.length≤vs.length by omega)]
 rw[e]at h1
 exact⟨h1,h2⟩
def Br(P:Program)(s f:Nat):Option (Nat×Bool×Nat):=
 match P.underlying s with
 |some (.struct fs)=>match fs[f]? with
  |some fd=>match eS P fd.type with
   |some n=>some (fd.offset,true,n)
   |none=>bif ku P fd.type then some (fd.offset,false,1)else none
  |none=>none
 |_=>none
theorem zE{k:Nat}{cs:List Value}(ht:Br P s f=some (k,false,1))(hx:ov ρ x=some (.agg cs.toArray))(hv:cs[k]?=some v):ar P (.field s x f) ty ρ w v:=by
 intro N D a dst pos af g ha
 unfold Br at ht
 split at ht
 ·rename_i fs hu
  split at ht
  ·rename_i fd hfd
   split at ht
   ·simp at ht
   ·cases h1:ku P fd.type with
    |false=>rw[h1]at ht;cases ht
    |true=>
     rw[h1]at ht
     simp only[cond_true,Option.some.injEq,Prod.mk.injEq]at ht
     obtain⟨rfl,_⟩:=ht
     simp[execOp,ha.ov hx,Instr.field,underlying,hu,hfd,asAgg,part,jK h1,hv]
  ·cases ht
 ·cases ht
end
structure aT (B e z:Nat) (w:World) (v:Value) (n:Nat) (xs:List Value):Prop where
 row:w.ownsRow B e z v n xs
theorem aT.m(h:aT B e z w v n xs)(E:am A w w')(hA:∀b,B≤b→b<w.heap.size→A b:=by(intro b hb1 hb2;first|exact trivial|exact hb2|((try dsimp only[Nb]at hb2⊢);omega))):aT B e z w' v n xs:=by
 obtain⟨h1,h2⟩:=h.row
 refine⟨h1,?_⟩
 rcases h2 with h2|⟨g,cap,cur,h3,h4,h5,h6⟩
 ·exact .inl h2
 ·exact .inr ⟨g,cap,cur,h3,h4,E.obj h5 (hA g h4 (Array.getElem?_eq_some_iff.1 h5).1),h6⟩
theorem aT.low(h:aT B e z w v n xs)(hB:B'≤B):aT B' e z w v n xs:=by
 obtain⟨h1,h2⟩:=h.row
 refine⟨h1,?_⟩
 rcases h2 with h2|⟨g,cap,cur,h3,h4,h5⟩
 ·exact .inl h2
 ·exact .inr ⟨g,cap,cur,h3,Nat.le_trans hB h4,h5⟩
theorem aT.nil(B e z:Nat)(w:World):aT B e z w (.slice none 0 0) 0 []:=⟨World.ownsRow_nil w B e z⟩
theorem aT.length(h:aT B e z w v n xs):xs.length=n * z:=h.row.1
theorem aT.form(h:aT B e z w v n xs):∃p c,v= .slice p n c∧n≤c∧(0<n→∃b,p=some ⟨b,0,none⟩∧B≤b∧b<w.heap.size∧At w b 0 xs):=by
 obtain⟨h1,h2⟩:=h.row
 rcases h2 with⟨rfl,rfl⟩|⟨g,cap,cur,rfl,h4,h5,h6,h7,h8,h9⟩
 ·exact⟨none,0,rfl,Nat.le_refl _,fun h=>absurd h (by omega)⟩
 ·refine⟨_,cap,rfl,h6,fun _=>⟨g,rfl,h4,(Array.getElem?_eq_some_iff.1 h5).1,fun j hj=>?_⟩⟩
  rw[Nat.zero_add]
  simp only[World.cell?,h5]
  rw[← h9,List.getElem?_take_of_lt (by rw[← h1];exact hj),Array.getElem?_toList]
  rfl
abbrev bc(l:List UInt8):List Value:=l.map fun b=> .int .u8 (b.toNat:Int)
theorem aT.toB{A:Nat→Prop}(h:aT B e 1 w v n (bc l))(hA:∀b,B≤b→b<w.heap.size→A b:=by(intro b hb1 hb2;first|exact trivial|exact hb2|((try dsimp only[Nb]at hb2⊢);omega))):bT A w v l:=by
 have hn:l.length=n:=by have:=h.length;simpa using this
 obtain⟨p,c,h1,h2,h3⟩:=h.form
 refine⟨p,c,by rw[hn];exact h1,by omega,fun hne=>?_⟩
 obtain⟨b,h4,h5,h6,h7⟩:=h3 (by rw[← hn];exact List.length_pos_iff.2 hne)
 refine⟨b,0,h4,hA b h5 h6,fun j hj=>?_⟩
 have:=h7.get (j:=j) (v:= .int .u8 (l[j].toNat:Int)) (by simp[hj])
 exact this
theorem aT.evo{w0:World}(h:aT B e z w v n xs)(E:am (fun k=>v.ownBlock≠some k) w w'):am (fun k=>k<B) w w':=by
 refine E.k fun k hk hkB hv=>?_
 rcases h.row.2 with⟨rfl,_⟩|⟨g,cap,cur,rfl,h4,_⟩
 ·simp[Value.ownBlock]at hv
 ·simp[Value.ownBlock]at hv;omega
section
variable {P:Program} {ρ:Fr} {w w0:World} {ty:TypeId} {x y s:Operand}
theorem nW{a b c:Int}(hb:b≠0)(hx:ov ρ x=some (.int k a))(hy:ov ρ y=some (.int k b))(hc:k.wrap (a.tdiv b)=c):ar P (.binOp .quo xt x y yt) ty ρ w (.int k c):=hc▸s9 hb hx hy
theorem uR{a b c:Int}(hb:b≠0)(hx:ov ρ x=some (.int k a))(hy:ov ρ y=some (.int k b))(hc:a.tmod b=c):ar P (.binOp .rem xt x y yt) ty ρ w (.int k c):=hc▸pF hb hx hy
theorem bp{s d:TypeId}{k l:IntKind}{n m:Int}(ht:cr P s d=some k)(hx:ov ρ x=some (.int l n))(hc:k.wrap n=m):ar P (.convert s d x) ty ρ w (.int k m):=hc▸aL ht hx
theorem bz{e z bs:Nat}{zv:Value}(ht:fG P t=some (e,z,bs,zv))(hs:ov ρ s=some v)(hx:ov ρ x=some u)(hown:aT B e z w v n xs)(hsrc:Src P z tx u m news w)
  (hB:B≤w.heap.size) (h63:n+m≤maxLen) (hbytes:(n+m) * bs≤140737488355328):
  aA P (.call ⟨.builtin .append, #[s,x], #[t,tx]⟩) ty ρ w (fun v' w'=>aT B e z w' v' (n+m) (xs++news)∧am (fun k=>k<B) w w'):=by
 intro N D a dst pos af g ha next Q hn
 refine sM ht hs hx hown.row hB hsrc h63 hbytes N D a dst pos af g ha next Q fun v' w' h=>hn v' w' ⟨⟨h.1⟩,hown.evo (w0:=w) h.2⟩
theorem eF{e z bs:Nat}{zv:Value}(ht:fG P t=some (e,z,bs,zv))(hs:ov ρ s=some v)(hx:ov ρ x=some u)(hown:aT B e z w v n xs)(hsrc:Src P z tx u m news w)
  (hB:B≤w.heap.size) (h63:n+m≤maxLen) (hbytes:(n+m) * bs≤140737488355328):
  aA P (.call ⟨.builtin .append, #[s,x], #[t,tx]⟩) ty ρ w (fun v' w'=>aT B e z w' v' (n+m) (xs++news)∧am (fun k=>v.ownBlock≠some k) w w'∧(v'.ownBlock=v.ownBlock∨∀b,v'.ownBlock=some b→w.heap.size≤b)):=by
 intro N D a dst pos af g ha next Q hn
 exact xC ht hs hx hown.row hB hsrc h63 hbytes N D a dst pos af g ha next Q fun v' w' h=>hn v' w' ⟨⟨h.1⟩,h.2.1,h.2.2⟩
def x7(P:Program)(t:TypeId):Bool:=
 match P.underlying t with
 |some (.slice _)=>true
 |_=>false
theorem lm(h:x7 P t=true):∃e,P.underlying t=some (.slice e):=by
 unfold x7 at h
 split at h
 ·exact⟨_,by assumption⟩
 ·cases h
theorem Src.isB(ht:x7 P tx=true)(h:bT A w v l):Src P 1 tx v l.length (bc l) w:=by
 obtain⟨e,he⟩:=lm ht
 obtain⟨p,c,rfl,hc,hb⟩:=h
 rcases Nat.eq_zero_or_pos l.length with h0|h0
 ·have:l=[]:=List.eq_nil_of_length_eq_zero h0
  subst this
  cases p with
  |none=>exact Src.ofNil w he c
  |some a=>exact Src.ofSlice w he a 0 c [] rfl (by simp) (by simp)
 ·obtain⟨b,o,rfl,hA,hB⟩:=hb (List.length_pos_iff.1 h0)
  refine Src.ofSlice w he ⟨b,o,none⟩ l.length c (bc l) (by simp) (fun j u hj=>?_) (fun u hu=>?_)
  ·have hj':j<l.length:=by have:=(List.getElem?_eq_some_iff.1 hj).1;simpa using this
   rw[bV,hB j hj']
   rw[List.getElem?_map,List.getElem?_eq_getElem hj']at hj
   exact hj
  ·simp only[List.mem_map]at hu
   obtain⟨b,_,rfl⟩:=hu;rfl
theorem Src.at{z n:Nat}(ht:x7 P tx=true)(h:At w b o xs)(hl:xs.length=n * z)(h1:xs.all (·.oneCell')=true):Src P z tx (.slice (some ⟨b,o,none⟩) n c) n xs w:=by
 obtain⟨e,he⟩:=lm ht
 exact Src.ofSlice w he ⟨b,o,none⟩ n c xs hl (fun j u hj=>by rw[bV];exact h.get hj) (fun u hu=>by simpa using(List.all_eq_true.1 h1) u hu)
theorem Src.own(ht:x7 P tx=true)(h:aT B e z w v n xs)(hz:0<z)(h1:xs.all (·.oneCell')=true):Src P z tx v n xs w:=by
 obtain⟨e',he⟩:=lm ht
 have hl:=h.length
 obtain⟨p,c,rfl,hc,hf⟩:=h.form
 rcases Nat.eq_zero_or_pos n with h0|h0
 ·subst h0
  have:xs=[]:=List.eq_nil_of_length_eq_zero (by simpa using hl)
  subst this
  cases p with
  |none=>exact Src.ofNil w he c
  |some a=>exact Src.ofSlice w he a 0 c [] (by simp) (by simp) (by simp)
 ·obtain⟨b,rfl,_,_,ha⟩:=hf h0
  exact Src.at ht ha hl h1
theorem Src.str(ht:lq P tx=true):Src P 1 tx (str l) l.length (bc l) w:=by
 have h:=Src.ofString w (fM ht) (⟨l.toArray⟩:ByteArray)
 have e1:(⟨l.toArray⟩:ByteArray).size=l.length:=by simp[ByteArray.size]
 have e2:Go.byteCells ⟨l.toArray⟩=bc l:=by simp[Go.byteCells,bc]
 rw[e1,e2]at h
 exact h
theorem cZ{e z bs:Nat}{zv:Value}{ps:Array (Nat×Operand)}(ht:fG P t=some (e,z,bs,zv))(hp:x6 ρ ps.toList=some (nR 0 vs))(hall:vs.all (fun v=>Nat.beq v.cells.size z)=true)(hn:vs.length=n)(hsm:Nat.ble (n * z) 16777216=true)(hpos:Nat.blt 0 (n * z)=true):
  aA P (.buildSlice t n ps) ty ρ w (fun v w'=>v= .slice (some ⟨w.heap.size,0,none⟩) n n∧aT w.heap.size e z w' v n (vs.flatMap (·.cells.toList))∧ay w w'):=by
 obtain⟨i,hu,hi,hz,hzs,rfl,rfl⟩:=ge ht
 have hlen:(vs.flatMap (·.cells.toList)).length=n * i.size:=by
  have:∀l:List Value,l.all (fun v=>Nat.beq v.cells.size i.size)=true→(l.flatMap (·.cells.toList)).length=l.length * i.size:=by
   intro l
   induction l with
   |nil=>intro _;simp
   |cons v r ih=>
    intro h
    simp only[List.all_cons,Bool.and_eq_true]at h
    have h1:v.cells.size=i.size:=Nat.eq_of_beq_eq_true h.1
    simp[ih h.2,h1,Nat.add_mul];omega
  rw[this vs hall,hn]
 have hf:Instr.fill (fun j=>some (j * i.size,i.size)) ((Array.range (n * i.size)).map (zv.cells[· %zv.cells.size]!)) (nR 0 vs)=some (vs.flatMap (·.cells.toList)).toArray:=by
  have h1:=jH (fun j=>some (j * i.size,i.size)) (nR 0 vs) ((Array.range (n * i.size)).map (zv.cells[· %zv.cells.size]!)).toList
  rw[Array.toArray_toList]at h1
  rw[h1]
  have h2:=kh i.size vs 0 [] ((Array.range (n * i.size)).map (zv.cells[· %zv.cells.size]!)).toList hall (by simp) (by simp[hn])
  rw[List.nil_append]at h2
  rw[h2]
  simp
 have hr:=Go.run_buildSlice (P:=P) w t e n (nR 0 vs).toArray (vs.flatMap (·.cells.toList)).toArray i zv hu hi hz (by have:=Nat.le_of_ble_eq_true hsm;omega) (Nat.ne_of_gt (by simpa[Nat.blt_eq]using hpos)) (by simpa using hf)
 refine aA.of_eq fun N D a dst pos af g ha=>⟨_,w.alloc (.cells (vs.flatMap (·.cells.toList)).toArray e),?_,rfl,⟨hlen,.inr ⟨w.heap.size,n,(vs.flatMap (·.cells.toList)).toArray,rfl,Nat.le_refl _,?_,Nat.le_refl _,?_,?_,?_⟩⟩,ay.alloc _ _⟩
 ·simp[execOp,kq ha _ _ hp,hr]
 ·show(w.heap.push _)[w.heap.size]?=_;simp
 ·have h3:=Nat.le_of_ble_eq_true hsm
  have h4:0<n * i.size:=by simpa[Nat.blt_eq]using hpos
  have h5:0<i.size:=Nat.pos_of_mul_pos_left h4
  have h6:n≤n * i.size:=Nat.le_mul_of_pos_right n h5
  have:n≤16777216:=Nat.le_trans h6 h3
  simp only[maxLen];omega
 ·simp only[List.size_toArray];exact hlen
 ·exact List.take_of_length_le (by show(vs.flatMap (·.cells.toList)).length≤_;omega)
end
end Go.Proofs.LL
