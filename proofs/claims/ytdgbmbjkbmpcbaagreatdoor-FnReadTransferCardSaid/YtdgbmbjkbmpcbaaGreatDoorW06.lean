/- Contracts of functions and own laws. Conditions: those that each theorem states. -/
import Derived.Test.YtdgbmbjkbmpcbaaGreatDoorW05
import Derived.Scope
import Derived.Laws.IdiomRangeMap
set_option linter.all false
set_option autoImplicit true
set_option relaxedAutoImplicit true
namespace Go.Proofs.LL
open Go Go.RowKit
theorem jZ.nil{ρ:Fr}:jZ [] ρ:=trivial
theorem jZ.cons(h:LL.lk ρ t=some v)(hr:jZ r ρ):jZ ((t,v)::r) ρ:=⟨h,hr⟩
theorem DT{a b:Int}(h:lk ρ t=some (.int k a))(e:a=b):lk ρ t=some (.int k b):=e▸h
theorem jZ.app(ha:jZ a ρ)(hb:jZ b ρ):jZ (a++b) ρ:=by
 induction a with
 |nil=>exact hb
 |cons p r ih=>exact⟨ha.1,ih ha.2⟩
theorem WC.loop2{D:List Deferred}{X:Exit→Fr→World→Prop}{ι:Type}(κ:Fr)(fr:ι→Fr)(at_:ι→World→Prop)(μ:ι→Nat)(i0:ι)(hk:jZ κ ρ)(h0:jZ (fr i0) ρ)(hw0:at_ i0 w)
  (round:∀i w,at_ i w→WC P N D c (fr i++κ) w (fun e ρ' w'=>match e with| .normal=>∃j,jZ κ ρ'∧jZ (fr j) ρ'∧at_ j w'∧μ j<μ i|e=>X e ρ' w')):WC P N D (.loop c) ρ w X:=by
 refine WC.loop (fun i=>fr i++κ) at_ μ i0 (h0.app hk) hw0 fun i w' hw a ha=>?_
 refine Code.wp_mono (fun e a' w' hq=>?_) (round i w' hw a ha)
 obtain⟨ρ',ha',hx⟩:=hq
 refine⟨ρ',ha',?_⟩
 cases e<;>try exact hx
 obtain⟨j,h1,h2,h3,h4⟩:=hx
 exact⟨j,h2.app h1,h3,h4⟩
theorem WC.seqJ{D:List Deferred}{X:Exit→Fr→World→Prop}{ι:Type}(κ:Fr)(fr:ι→Fr)(J:ι→World→Prop)(hk:jZ κ ρ)
  (h1:WC P N D x ρ w (fun e ρ' w'=>match e with| .normal=>∃i,jZ κ ρ'∧jZ (fr i) ρ'∧J i w'|e=>X e ρ' w'))
  (h2:∀i w',J i w'→WC P N D y (fr i++κ) w' X):WC P N D (.seq x y) ρ w X:=by
 refine WC.seq fun a ha=>?_
 refine Code.wp_mono (fun e a' w' hq=>?_) (h1 a ha)
 obtain⟨ρ',ha',hx⟩:=hq
 cases e with
 |normal=>
  obtain⟨i,h3,h4,h5⟩:=hx
  exact⟨ρ',ha',(h2 i w' h5).sub (h4.app h3)⟩
 |_=>exact⟨ρ',ha',hx⟩
theorem WC.thenJ{D:List Deferred}{X:Exit→Fr→World→Prop}{ι:Type}(κ:Fr)(fr:ι→Fr)(J:ι→World→Prop)(hk:jZ κ ρ)
  (h1:WC P N D x ρ w (fun e ρ' w'=>match e with| .normal=>∃i,jZ κ ρ'∧jZ (fr i) ρ'∧J i w'|e=>X e ρ' w'))
  (h2:∀i w',J i w'→WC P N D y (fr i++κ) w' X):WC P N D x ρ w (andThen P N D y X):=by
 intro a ha
 refine Code.wp_mono (fun e a' w' hq=>?_) (h1 a ha)
 obtain⟨ρ',ha',hx⟩:=hq
 cases e with
 |normal=>
  obtain⟨i,h3,h4,h5⟩:=hx
  exact⟨ρ',ha',(h2 i w' h5).sub (h4.app h3)⟩
 |_=>exact⟨ρ',ha',hx⟩
def Gg(X:Exit→Fr→World→Prop):Exit→Fr→World→Prop
 | .goto _,_,_=>False
 |e,ρ,w=>X e ρ w
theorem WC.scope{D:List Deferred}(h:WC P N D c ρ w (Gg X)):WC P N D (.scope c) ρ w X:=by
 intro a ha
 refine wp_scope_straight (Code.wp_mono (fun e a' w' hq=>?_) (h a ha))
 obtain⟨ρ',ha',hx⟩:=hq
 cases e with
 |goto l=>exact hx.elim
 |_=>exact⟨ρ',ha',hx⟩
def dr(out:List Value)(z:Value)(i:Nat):List Value:=out.take i++List.replicate (out.length-i) z
theorem bL(out:List Value)(z:Value):dr out z 0=List.replicate out.length z:=by simp[dr]
theorem fK(out:List Value)(z:Value)(h:out.length≤i):dr out z i=out:=by
 simp[dr,List.take_of_length_le h,Nat.sub_eq_zero_of_le h]
theorem qy(out:List Value)(z:Value)(h:i≤out.length):(dr out z i).length=out.length:=by
 simp[dr];omega
theorem xv(out:List Value)(z:Value){i:Nat}(h:out[i]?=some v):(dr out z i).set i v=dr out z (i+1):=by
 have hi:i<out.length:=(List.getElem?_eq_some_iff.1 h).1
 unfold dr
 have e:out.length-i=(out.length-(i+1))+1:=by omega
 have hl:(List.take i out).length=i:=by simp;omega
 rw[e,List.replicate_succ,List.set_append,if_neg (by omega),hl,Nat.sub_self,List.set_cons_zero,List.take_add_one,h]
 simp
def ej(out:List (List Value))(z:List Value)(i:Nat):List Value:=(out.take i).flatten++(List.replicate (out.length-i) z).flatten
theorem kV:∀(l:List (List Value)),(∀x∈l,x.length=k)→l.flatten.length=l.length * k
 |[],_=>by simp
 |a::r,h=>by
  have:=kV r (fun x hx=>h x (by simp[hx]))
  simp[this,h a (by simp),Nat.add_mul];omega
theorem pe(out:List (List Value))(z:List Value)(h:out.length≤i):ej out z i=out.flatten:=by
 simp[ej,List.take_of_length_le h,Nat.sub_eq_zero_of_le h]
theorem kU(out:List (List Value))(z:List Value)(hz:z.length=k)(ho:∀x∈out,x.length=k)(h:i≤out.length):(ej out z i).length=out.length * k:=by
 unfold ej
 rw[List.length_append,kV (out.take i) (fun x hx=>ho x (List.mem_of_mem_take hx)),kV (k:=k) _ (fun x hx=>by rw[List.eq_of_mem_replicate hx,hz])]
 simp only[List.length_take,List.length_replicate,Nat.min_eq_left h]
 rw[← Nat.add_mul]
 congr 1;omega
theorem pg(out:List (List Value))(z:List Value)(hz:z.length=k)(ho:∀x∈out,x.length=k){i:Nat}(h:out[i]?=some v):(ej out z i).take (i * k)++v++(ej out z i).drop (i * k+v.length)=ej out z (i+1):=by
 have hi:i<out.length:=(List.getElem?_eq_some_iff.1 h).1
 have hv:v.length=k:=ho v (List.mem_of_getElem? h)
 unfold ej
 have e:out.length-i=(out.length-(i+1))+1:=by omega
 have h1:(out.take i).flatten.length=i * k:=by
  rw[kV (out.take i) (fun x hx=>ho x (List.mem_of_mem_take hx)),List.length_take,Nat.min_eq_left (Nat.le_of_lt hi)]
 rw[e,List.replicate_succ,List.flatten_cons,List.take_add_one,h]
 rw[← h1,List.take_left,List.drop_append,h1,hv]
 have h2:List.drop (i * k+k) (out.take i).flatten=[]:=List.drop_eq_nil_of_le (by omega)
 have h3:i * k+k-i * k=k:=by omega
 rw[h2,h3,List.drop_append,← hz,List.drop_length,Nat.sub_self]
 simp
theorem oH(z:Value):∀n,(madeCells #[z] (n * 1)).toList=List.replicate n z:=by
 intro n
 rw[Nat.mul_one]
 apply List.ext_getElem
 ·simp[madeCells]
 ·intro i h1 h2
  simp[madeCells,Nat.mod_one]
theorem aT.blk{b:Nat}(h:aT B e z w (.slice (some ⟨b,0,none⟩) n n) n xs):aH w b xs:=by
 obtain⟨h1,h2⟩:=h.row
 rcases h2 with⟨h2,_⟩|⟨g,cap,cur,h3,h4,h5,h6,h7,h8,h9⟩
 ·cases h2
 ·simp only[Value.slice.injEq,Option.some.injEq,Addr.mk.injEq]at h3
  obtain⟨⟨rfl,_⟩,_,rfl⟩:=h3
  refine⟨e,?_⟩
  rw[h5,← h9,List.take_of_length_le (by simp;omega)]
section
variable {P:Program} {ρ:Fr} {w w0:World} {ty:TypeId} {x y s:Operand}
theorem lO{b j:Nat}(ht:x8 P t=some 1)(hx:ov ρ x=some (.pointer (some ⟨b,j,none⟩)))(hj:j=i)(hy:ov ρ y=some v)(hv:v.oneCell'=true)(hB:aH w b (dr out z i))(ho:out[i]?=some v):
  aA P (.store t x y) ty ρ w (fun _ w'=>aH w' b (dr out z (i+1))∧am (fun k=>k≠b) w w'):=by
 subst hj
 have hi:j<out.length:=(List.getElem?_eq_some_iff.1 ho).1
 intro N D a dst pos af g ha next Q hn
 refine ce ht hx hy hv hB (by rw[qy _ _ (by omega)];simpa[Nat.blt_eq]using hi) N D a dst pos af g ha next Q fun u w' h=>hn u w' ?_
 rw[xv out z ho]at h
 exact⟨h.1,h.2.1⟩
theorem Bx{b i j:Nat}{z vs:List Value}{out:List (List Value)}(ht:x8 P t=some k)(hx:ov ρ x=some (.pointer (some ⟨b,j,none⟩)))(hj:j=i * k)(hy:ov ρ y=some (.agg vs.toArray))(hv:vs.all (·.oneCell')=true)(hz:z.length=k)(hol:∀x∈out,x.length=k)(hB:aH w b (ej out z i))(ho:out[i]?=some vs):
  aA P (.store t x y) ty ρ w (fun _ w'=>aH w' b (ej out z (i+1))∧am (fun k=>k≠b) w w'):=by
 subst hj
 have hi:i<out.length:=(List.getElem?_eq_some_iff.1 ho).1
 have hl:vs.length=k:=hol vs (List.mem_of_getElem? ho)
 intro N D a dst pos af g ha next Q hn
 refine nJ ht hx hy hv hl hB (by
  rw[kU out z hz hol (by omega),hl,← Nat.succ_mul,Nat.ble_eq]
  exact Nat.mul_le_mul_right _ hi) N D a dst pos af g ha next Q fun u w' h=>hn u w' ?_
 rw[pg out z hz hol ho]at h
 exact⟨h.1,h.2.1⟩
theorem Bw{t:TypeId}{b o i:Nat}{out:List (List Value)}(hd:Ed P d=true)(hx:ov ρ x=some (.slice (some ⟨b,o,none⟩) k c))(ho:o=i * k)(hy:ov ρ y=some v)(hB:aH w b (ej out z i))(hz:z.length=k)(hol:∀x∈out,x.length=k)(hI:bT A w v l)(hl:l.length=k)(hpos:0<k)(hout:out[i]?=some (bc l)):
  aA P (.call ⟨.builtin .copy, #[x,y], #[d,t]⟩) ty ρ w (fun u w'=>u= .int .i64 (k:Int)∧aH w' b (ej out z (i+1))∧am (Nb b) w w'):=by
 subst ho
 obtain⟨e,ii,hu,he,hi,hsz⟩:=ju hd
 obtain⟨pb,po,c',rfl,hc,hA,hb⟩:=hI.open (by omega)
 obtain⟨T,hg⟩:=hB
 have hlt:i<out.length:=(List.getElem?_eq_some_iff.1 hout).1
 have hlen:=kU out z hz hol (Nat.le_of_lt hlt)
 have hfit:i * k+l.length≤(ej out z i).length:=by rw[hlen,hl,← Nat.succ_mul];exact Nat.mul_le_mul_right _ hlt
 have hr:=run_copy_row (P:=P) w d t ty e b (i * k) k c ⟨pb,po,none⟩ l.length c' (ej out z i).toArray T (bc l) hu (by simp[hi,hsz]) hg (by rw[List.length_map,hl];exact(Nat.min_self k).symm)
  (fun j v hv=>by
   have hj:j<l.length:=by
    have:=(List.getElem?_eq_some_iff.1 hv).1
    simpa using this
   rw[bV,hb j hj]
   rw[List.getElem?_map,List.getElem?_eq_getElem hj]at hv
   exact hv) (by simpa using hfit) (fun v hv=>by simp only[List.mem_map]at hv;obtain⟨b,_,rfl⟩:=hv;rfl)
 refine aA.of_eq fun N D a dst pos af gd ha=>⟨_,_,by simp only[execOp,Sem.run_bind,resolve,ha.ov hx,ha.ov hy,List.map_toArray,List.map_cons,List.map_nil,Sem.run_pure,Result.andThen_ok,invoke,builtin,hr];rfl,?_,?_,?_⟩
 ·simp[goInt,hl]
 ·refine⟨T,?_⟩
  have h2:=setRow_heap w b (ej out z i).toArray (((ej out z i).take (i * k)++bc l++(ej out z i).drop (i * k+(bc l).length)).toArray) T (0,0) hg
  rw[h2,pg out z hz hol hout]
 ·exact⟨rfl,rfl,rfl,by simp,fun k _ hk=>setRow_other w b k _ hk⟩
theorem cF{e bs n:Nat}{zv:Value}{L M:Int}(ht:fG P t=some (e,1,bs,zv))(hz:zv.cells= #[zv])(hl:ov ρ l=some (.int kl L))(hc:ov ρ c=some (.int kc M))(eL:L=(n:Int))(eM:M=(n:Int))(hb:bs * n≤281474976710656)(h63:n≤maxLen):
  aA P (.makeSlice t l c) ty ρ w (fun v' w'=>v'= .slice (some ⟨w.heap.size,0,none⟩) n n∧aH w' w.heap.size (List.replicate n zv)∧ay w w'):=by
 intro N D a dst pos af g ha next Q hn
 refine za (P:=P) (ty:=ty) (w:=w) ht hl hc eL eM hb h63 N D a dst pos af g ha next Q fun v' w' h=>hn v' w' ?_
 obtain⟨rfl,h2,h3⟩:=h
 refine⟨rfl,?_,h3⟩
 have:=aT.blk ⟨h2⟩
 rw[hz,oH]at this
 exact this
theorem sS(z:List Value)(hz:0<z.length):∀n,(madeCells z.toArray (n * z.length)).toList=(List.replicate n z).flatten:=by
 intro n
 apply List.ext_getElem
 ·simp[madeCells]
 ·intro i h1 h2
  simp only[madeCells]
  have key:∀(n i:Nat) (h:i<((List.replicate n z).flatten).length),((List.replicate n z).flatten)[i]=z[i%z.length]'(Nat.mod_lt _ hz):=by
   intro n
   induction n with
   |zero=>intro i h;simp at h
   |succ n ih=>
    intro i h
    simp only[List.replicate_succ,List.flatten_cons]
    rcases Nat.lt_or_ge i z.length with h4|h4
    ·rw[List.getElem_append_left h4]
     congr 1
     exact(Nat.mod_eq_of_lt h4).symm
    ·rw[List.getElem_append_right h4,ih]
     congr 1
     rw[Nat.mod_eq_sub_mod h4]
  rw[key n i h2]
  simp[Nat.mod_lt _ hz]
theorem vZ{e z bs n:Nat}{zs:List Value}{L M:Int}(ht:fG P t=some (e,z,bs,.agg zs.toArray))(hz:zs.length=z)(hz0:0<z)(hl:ov ρ l=some (.int kl L))(hc:ov ρ c=some (.int kc M))(eL:L=(n:Int))(eM:M=(n:Int))(hb:bs * n≤281474976710656)(h63:n≤maxLen):
  aA P (.makeSlice t l c) ty ρ w (fun v' w'=>v'= .slice (some ⟨w.heap.size,0,none⟩) n n∧aH w' w.heap.size (List.replicate n zs).flatten∧ay w w'):=by
 intro N D a dst pos af g ha next Q hn
 refine za (P:=P) (ty:=ty) (w:=w) ht hl hc eL eM hb h63 N D a dst pos af g ha next Q fun v' w' h=>hn v' w' ?_
 obtain⟨rfl,h2,h3⟩:=h
 refine⟨rfl,?_,h3⟩
 have:=aT.blk ⟨h2⟩
 subst hz
 have e:(Value.agg zs.toArray).cells=zs.toArray:=rfl
 rw[e,sS zs hz0]at this
 exact this
end
def dJ:Nat→List (Value×Value)→List MapEntry
 |_,[]=>[]
 |k,(a,b)::r=>⟨a,b,k⟩::dJ (k+1) r
theorem mw:∀(k:Nat) (l:List (Value×Value)),(dJ k l).length=l.length
 |_,[]=>rfl
 |k,(a,b)::r=>by simp[dJ,mw (k+1) r]
theorem nQ:∀(k:Nat) (l:List (Value×Value)) (i:Nat),(dJ k l)[i]?=(l[i]?).map fun p=>⟨p.1,p.2,k+i⟩
 |_,[],i=>by simp[dJ]
 |k,(a,b)::r,0=>by simp[dJ]
 |k,(a,b)::r,i+1=>by
  simp only[dJ,List.getElem?_cons_succ]
  rw[nQ (k+1) r i]
  congr 1
  funext p
  congr 1;omega
theorem lQ:∀(k:Nat) (l:List (Value×Value)) (a b:Value),dJ k (l++[(a,b)])=dJ k l++[⟨a,b,k+l.length⟩]
 |k,[],a,b=>by simp[dJ]
 |k,(c,d)::r,a,b=>by
  simp only[List.cons_append,dJ,lQ (k+1) r a b,List.length_cons]
  congr 4;omega
theorem gU{e:MapEntry}(h:e∈dJ k l):∃i,∃(hi:i<l.length),e=⟨l[i].1,l[i].2,k+i⟩:=by
 obtain⟨i,hi⟩:=List.mem_iff_getElem?.1 h
 rw[nQ]at hi
 cases h1:l[i]? with
 |none=>rw[h1]at hi;cases hi
 |some p=>
  rw[h1]at hi
  obtain⟨hl,hp⟩:=List.getElem?_eq_some_iff.1 h1
  refine⟨i,hl,?_⟩
  simp only[Option.map_some,Option.some.injEq]at hi
  rw[← hi,hp]
def cT(w:World)(m:Nat)(kvs:List (Value×Value)):Prop:=w.heap[m]?=some (.map (dJ 0 kvs).toArray kvs.length)
theorem cT.m{A:Nat→Prop}{w w':World}{m:Nat}{kvs:List (Value×Value)}(h:cT w m kvs)(e:am A w w')(hA:A m:=by first|exact trivial|((try dsimp only[Nb]);omega)|assumption):cT w' m kvs:=e.obj h hA
theorem cT.lt{w:World}{m:Nat}{kvs:List (Value×Value)}(h:cT w m kvs):m<w.heap.size:=(Array.getElem?_eq_some_iff.1 h).1
def tK(w:World)(it m n:Nat)(seen:List Nat):Prop:=w.heap[it]?=some (.mapIter (some m) n seen.toArray n)
theorem tK.m{A:Nat→Prop}{w w':World}{it m n:Nat}{seen:List Nat}(h:tK w it m n seen)(e:am A w w')(hA:A it:=by first|exact trivial|((try dsimp only[Nb]);omega)|assumption):tK w' it m n seen:=e.obj h hA
theorem tK.lt{w:World}{it m n:Nat}{seen:List Nat}(h:tK w it m n seen):it<w.heap.size:=(Array.getElem?_eq_some_iff.1 h).1
def iQ(P:Program)(t:TypeId):Option TypeId:=
 match P.underlying t with
 |some (.map k _)=>some k
 |_=>none
theorem eN(h:iQ P t=some k):∃e,P.underlying t=some (.map k e):=by
 unfold iQ at h
 split at h
 ·rename_i k' e hu
  have:k'=k:=Option.some.inj h
  subst this
  exact⟨e,hu⟩
 ·cases h
def iY(P:Program)(kt:TypeId)(k:Value):Prop:=∀(w:World) (e:Bool),(Instr.checkKey e 10000 kt k).run P w= .ok () w
def kF(P:Program)(kt:TypeId)(a b:Value):Prop:=∀w:World,(Op.equal kt a b).run P w= .ok false w
theorem iM:∀(es:List MapEntry) (i:Nat),(∀e∈es,kF P kt k e.key)→(Instr.findAsking kt k es i).run P w= .ok none w
 |[],i,_=>by simp[Instr.findAsking]
 |e::es,i,h=>by
  have h1:=h e (by simp) w
  have ih:=iM (P:=P) (kt:=kt) (k:=k) (w:=w) es (i+1) (fun x hx=>h x (by simp[hx]))
  simp[Instr.findAsking,h1,ih]
theorem nC{es:List MapEntry}(ht:qW P kt=true)(h:∀e∈es,kF P kt k e.key):(Instr.findKey kt k es).run P w= .ok none w:=by
 obtain⟨ms,hu⟩:=fT ht
 cases es with
 |nil=>simp[Instr.findKey,underlying,hu,Instr.findNow]
 |cons e es=>
  have h2:=iM (P:=P) (kt:=kt) (k:=k) (w:=w) (e::es) 0 h
  simp[Instr.findKey,underlying,hu,Instr.findNow,Instr.sameNow,h2]
theorem mo{k:ByteArray}:∀(es:List MapEntry) (i:Nat),(∀e∈es,∃s:ByteArray,e.key= .string s∧s≠k)→Instr.findNow .string (.string k) es i=some none
 |[],i,_=>rfl
 |e::es,i,h=>by
  obtain⟨s,h1,h2⟩:=h e (by simp)
  have h3:(k==s)=false:=by
   cases hq:k==s with
   |false=>rfl
   |true=>exact absurd ((MapKept.bytes_beq k s).1 hq).symm h2
  simp only[Instr.findNow,h1,Instr.sameNow,h3]
  exact mo es (i+1) (fun x hx=>h x (by simp[hx]))
theorem mm{k:ByteArray}{es:List MapEntry}(ht:lq P kt=true)(h:∀e∈es,∃s:ByteArray,e.key= .string s∧s≠k):(Instr.findKey kt (.string k) es).run P w= .ok none w:=by
 have hu:=fM ht
 simp[Instr.findKey,underlying,hu,mo es 0 h]
theorem iY.str(ht:lq P kt=true):iY P kt (.string k):=by
 intro w e
 have hu:=fM ht
 unfold Instr.checkKey
 simp[underlying,hu]
section
variable {P:Program} {ρ:Fr} {w w0:World} {ty:TypeId} {x y s:Operand}
theorem d8{r:Option Operand}(ht:iQ P t=some k)(hr:∀o,r=some o→∃k n,ov ρ o=some (.int k n)):
  aA P (.makeMap t r) ty ρ w (fun v w'=>v= .map (some w.heap.size)∧cT w' w.heap.size []∧ay w w'):=by
 obtain⟨e,hu⟩:=eN ht
 intro N D a dst pos af g ha next Q hn
 refine xE (P:=P) (ρ:=ρ) (w:=w) (ty:=ty) (t:=t) (r:=r) (fun o ho=>by obtain⟨kk,n,h1⟩:=hr o ho;exact⟨kk,n,h1,_,_,hu⟩) N D a dst pos af g ha next Q fun v w' h=>hn v w' ?_
 obtain⟨h1,rfl⟩:=h
 exact⟨h1,heap_alloc_new w _,ay.alloc _ _⟩
theorem uQ{t k m:Nat}{kvs:List (Value×Value)}{A:Nat→Prop}(ht:iQ P t=some k)(hx:ov ρ x=some (.map (some m)))(hE:am A w0 w)(hM:cT w0 m kvs)(hA:A m:=by first|exact trivial|((try dsimp only[Nb]);omega)|assumption):ar P (.call ⟨.builtin .len, #[x], #[t]⟩) ty ρ w (.int .i64 kvs.length):=by
 intro N D a dst pos af g ha
 obtain⟨e,hu⟩:=eN ht
 have h:=hM.m hE hA
 simp[execOp,ha.ov hx,resolve,invoke,builtin,Builtin.len_,underlying,hu,goInt,MapKept.run_getObj_map h,mw]
theorem kY{t kt m:Nat}{o k:Operand}{kvs:List (Value×Value)}{kv v:Value}(ht:iQ P t=some kt)(ho:ov ρ o=some (.map (some m)))(hk:ov ρ k=some kv)(hx:ov ρ x=some v)(hM:cT w m kvs)(hOK:iY P kt kv)(hno:(Instr.findKey kt kv (dJ 0 kvs)).run P w= .ok none w):
  aA P (.mapUpdate t o k x) ty ρ w (fun _ w'=>cT w' m (kvs++[(kv,v)])∧am (fun b=>b≠m) w w'):=by
 obtain⟨e,hu⟩:=eN ht
 have h1:=hOK w false
 have:=hM.lt
 refine aA.of_skip fun N D a dst pos af g ha=>⟨{w with heap:=w.heap.setIfInBounds m (.map ((dJ 0 kvs).toArray.push ⟨kv,v,kvs.length⟩) (kvs.length+1))},?_,?_,⟨rfl,rfl,rfl,by simp,fun b _ hb=>by simp[Ne.symm hb]⟩⟩
 ·simp[execOp,ha.ov ho,ha.ov hk,ha.ov hx,Instr.mapUpdate,underlying,hu,MapKept.run_getObj_map hM,h1,hno,MapKept.run_setObj_map _ hM]
 ·show(w.heap.setIfInBounds m _)[m]?=_
  rw[(MapKept.heap_set (o':=_) hM).1,lQ]
  simp
theorem mW(ht:iQ P t=some kt)(hx:ov ρ x=some (.map (some m)))(hM:cT w m kvs):
  aA P (.range t x) ty ρ w (fun v w'=>v= .pointer (some ⟨w.heap.size,0,none⟩)∧tK w' w.heap.size m kvs.length []∧ay w w'):=by
 obtain⟨e,hu⟩:=eN ht
 exact aA.of_eq fun N D a dst pos af g ha=>⟨_,_,by simp[execOp,ha.ov hx,run_range_map (P:=P) w t kt e m _ _ hu hM],rfl,heap_alloc_new w _,ay.alloc _ _⟩
def Ci(w:World)(it:Nat):Prop:=w.heap[it]?=some (.mapIter none 0 #[] 0)
theorem Ci.m(h:Ci w it)(e:am A w w')(hA:A it:=by first|exact trivial|((try dsimp only[Nb]);omega)|assumption):Ci w' it:=e.obj h hA
theorem sN(ht:iQ P t=some kt)(hx:ov ρ x=some (.map none)):
  aA P (.range t x) ty ρ w (fun v w'=>v= .pointer (some ⟨w.heap.size,0,none⟩)∧Ci w' w.heap.size∧ay w w'):=by
 obtain⟨e,hu⟩:=eN ht
 exact aA.of_eq fun N D a dst pos af g ha=>⟨_,_,by simp[execOp,ha.ov hx,run_range_nilMap (P:=P) w t kt e hu],rfl,heap_alloc_new w _,ay.alloc _ _⟩
theorem wk{it:Nat}(hx:ov ρ x=some (.pointer (some ⟨it,0,none⟩)))(hI:Ci w it):
  aA P (.next x false) ty ρ w (fun v w'=>v= .tuple #[.bool false]∧ay w w'):=by
 refine aA.of_eq fun N D a dst pos af g ha=>⟨_,w,?_,rfl,ay.refl _⟩
 simp only[Ci]at hI
 simp only[execOp,ha.ov hx,Instr.next,getObj,Sem.run_bind,Sem.run,hI,Result.andThen]
 rfl
theorem mB{r:Result Value}(h:(Instr.next v b t).run P w=r):(Instr.next v b t').run P w=r:=h
theorem mX{it m:Nat}{kvs:List (Value×Value)}{seen:List Nat}(hM:cT w m kvs)(hI:tK w it m kvs.length seen):
  ((∀i,i<kvs.length→i∈seen)∧∀ {ρ:Fr} {ty:TypeId} {x:Operand},ov ρ x=some (.pointer (some ⟨it,0,none⟩))→aA P (.next x false) ty ρ w (fun v w'=>v= .tuple #[.bool false]∧am (fun b=>b≠it) w w'))∨
  (∃i,∃(hi:i<kvs.length),i ∉ seen∧∀ {ρ:Fr} {ty:TypeId} {x:Operand},ov ρ x=some (.pointer (some ⟨it,0,none⟩))→aA P (.next x false) ty ρ w (fun v w'=>v= .tuple #[.bool true,kvs[i].1,kvs[i].2]∧tK w' it m kvs.length (seen++[i])∧am (fun b=>b≠it) w w')):=by
 have hold:∀e∈(dJ 0 kvs).toArray.toList,e.born<kvs.length:=by
  intro e he
  obtain⟨i,hi,rfl⟩:=gU (by simpa using he)
  simpa using hi
 unfold tK at hI
 unfold cT at hM
 have key:((leftOf (dJ 0 kvs).toArray seen.toArray).size=0∧(Instr.next (.pointer (some ⟨it,0,none⟩)) false 0).run P w= .ok (.tuple #[.bool false]) w)∨
   ∃e∈(leftOf (dJ 0 kvs).toArray seen.toArray).toList,∃w1:World,(w1=w∨w1=w.drew)∧(Instr.next (.pointer (some ⟨it,0,none⟩)) false 0).run P w= .ok (.tuple #[.bool true,e.key,e.val]) {w1 with heap:=w.heap.setIfInBounds it (.mapIter (some m) kvs.length (seen.toArray.push e.born) kvs.length)}:=by
  simp only[Instr.next,getObj,Sem.run_bind,Sem.run,hI,hM,Result.andThen,next_test_false seen.toArray (dJ 0 kvs).toArray kvs.length kvs.length hold (Nat.le_refl _),Bool.false_eq_true,if_false]
  unfold leftOf
  have hmem:∀x∈(Array.filter (fun e=> !seen.toArray.contains e.born) (dJ 0 kvs).toArray).toList,x.born<kvs.length:=fun x hx=>hold x (by simp at hx⊢;exact hx.1)
  generalize Array.filter (fun e=> !seen.toArray.contains e.born) (dJ 0 kvs).toArray=L at hmem⊢
  have e1:L.filter (fun x=>decide (x.born<kvs.length))=L:=Array.filter_eq_self.2 (fun x hx=>by simpa using hmem x (by simpa using hx))
  have e2:L.filter (fun x=>decide (x.born≥kvs.length))= #[]:=by
   rw[Array.filter_eq_empty_iff]
   intro x hx
   have:=hmem x (by simpa using hx)
   simp
   omega
  simp only[e1,e2,Array.append_empty]
  by_cases h0:L.size=0
  ·left
   have:L= #[]:=Array.eq_empty_of_size_eq_zero h0
   subst this
   refine⟨rfl,?_⟩
   simp[choose,Sem.run,Question.forced]
  ·right
   have hne:L.isEmpty=false:=by simp[Array.isEmpty,h0]
   simp only[hne,Bool.false_eq_true,if_false,Array.empty_append,Array.size_map]
   have hch:∃(j:Nat) (w1:World),j<L.size∧(w1=w∨w1=w.drew)∧(choose (Question.mapNext L.size)).run P w= .ok j w1:=by
    by_cases hf:L.size≤1
    ·exact⟨0,w,by omega,.inl rfl,by simp[choose,Sem.run,Question.forced,hf]⟩
    ·exact⟨_,w.drew,Nat.mod_lt _ (by omega),.inr rfl,by
      simp only[choose,Sem.run,Question.forced,decide_eq_true_eq,hf,if_false,Question.cut]
      rfl⟩
   obtain⟨j,w1,hj,hal,hrun⟩:=hch
   refine⟨L[j],by simp,w1,hal,?_⟩
   have hh:w1.heap=w.heap:=by rcases hal with rfl|rfl<;>rfl
   have hset:∀o':Obj,(setObj it o').run P w1= .ok () {w1 with heap:=w.heap.setIfInBounds it o'}:=fun o'=>by
    simp only[setObj,Sem.run,hh,hI]
   simp only[hrun,Array.getElem?_map,Array.getElem?_eq_getElem hj,Option.map_some,Sem.run_bind,hset,Result.andThen]
   rfl
 have hlt:it<w.heap.size:=(Array.getElem?_eq_some_iff.1 hI).1
 rcases key with⟨h0,hr⟩|⟨e,he,w1,hw1,hr⟩
 ·refine .inl ⟨fun i hi=>?_,fun {ρ ty x} hx=>aA.of_eq fun N D a dst pos af g ha=>⟨_,w,by simp[execOp,ha.ov hx,mB hr],rfl,am.refl _⟩⟩
  have h1:leftOf (dJ 0 kvs).toArray seen.toArray= #[]:=Array.eq_empty_of_size_eq_zero h0
  unfold leftOf at h1
  rw[Array.filter_eq_empty_iff]at h1
  have h2:(⟨kvs[i].1,kvs[i].2,i⟩:MapEntry)∈(dJ 0 kvs).toArray:=by
   rw[List.mem_toArray]
   refine List.mem_iff_getElem?.2 ⟨i,?_⟩
   rw[nQ,List.getElem?_eq_getElem hi];simp
  have h3:=h1 _ h2
  simpa using h3
 ·unfold leftOf at he
  have he':=Array.mem_toList_iff.1 he
  rw[Array.mem_filter]at he'
  obtain⟨i,hi,hei⟩:=gU (by simpa using he'.1)
  subst hei
  refine .inr ⟨i,hi,by simpa using he'.2,fun {ρ ty x} hx=>aA.of_eq fun N D a dst pos af g ha=>⟨_,_,by simp[execOp,ha.ov hx,mB hr];rfl,rfl,?_,?_⟩⟩
  ·show(w.heap.setIfInBounds it _)[it]?=_
   simp[hlt]
  ·rcases hw1 with rfl|rfl
   ·exact⟨rfl,rfl,rfl,by simp,fun b _ hb=>by simp[Ne.symm hb]⟩
   ·exact⟨rfl,rfl,rfl,by simp,fun b _ hb=>by simp[Ne.symm hb]⟩
theorem BR{it m i:Nat}{kvs:List (Value×Value)}{seen:List Nat}{A:Nat→Prop}(hx:ov ρ x=some (.pointer (some ⟨it,0,none⟩)))(hi:i<kvs.length)(hE:am A w0 w)(hM:cT w0 m kvs)(hI:tK w0 it m kvs.length (seen++[i]))(hA:A m:=by first|exact trivial|((try dsimp only[Nb]);omega)|assumption)(hA2:A it:=by first|exact trivial|((try dsimp only[Nb]);omega)|assumption):ar P (.entry x) ty ρ w (.tuple #[kvs[i].1,kvs[i].2]):=by
 intro N D a dst pos af g ha
 have h1:=hM.m hE hA
 have h2:=hI.m hE hA2
 unfold cT at h1
 unfold tK at h2
 have hf:(dJ 0 kvs).toArray.find? (fun e=>e.born==i)=some ⟨kvs[i].1,kvs[i].2,i⟩:=by
  rw[List.find?_toArray]
  have key:∀(l:List (Value×Value)) (k j:Nat) (hj:j<l.length),(dJ k l).find? (fun e=>e.born==k+j)=some ⟨l[j].1,l[j].2,k+j⟩:=by
   intro l
   induction l with
   |nil=>intro k j hj;simp at hj
   |cons p r ih=>
    obtain⟨c,d⟩:=p
    intro k j hj
    cases j with
    |zero=>simp[dJ]
    |succ j=>
     have hne:(k==k+(j+1))=false:=by simp
     simp only[dJ,List.find?_cons,hne]
     have:=ih (k+1) j (by simpa using hj)
     rw[show k+1+j=k+(j+1) by omega]at this
     simpa using this
  have:=key kvs 0 i hi
  simpa using this
 simp only[execOp,ha.ov hx,Instr.entry,getObj,Sem.run_bind,Sem.run,h1,h2,Result.andThen]
 have hg:(Sem.getObj m Sem.pure).run P w= .ok (.map (dJ 0 kvs).toArray kvs.length) w:=MapKept.run_getObj_map h1
 simp[hf,hg,Result.andThen]
theorem jl{it:Nat}{kvs:List (Value×Value)}{seen:List Nat}{a b:Value}(hx:ov ρ x=some (.pointer (some ⟨it,0,none⟩)))(hi:i<kvs.length)(ea:kvs[i].1=a)(eb:kvs[i].2=b)(hE:am A w0 w)(hM:cT w0 m kvs)(hI:tK w0 it m kvs.length (seen++[i]))(hA:A m:=by first|exact trivial|((try dsimp only[Nb]);omega)|assumption)(hA2:A it:=by first|exact trivial|((try dsimp only[Nb]);omega)|assumption):ar P (.entry x) ty ρ w (.tuple #[a,b]):=by
 subst ea eb
 exact BR hx hi hE hM hI hA hA2
end
end Go.Proofs.LL
