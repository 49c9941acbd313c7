/- Own laws of frames, operations, regions and loops. Conditions: those that each theorem states. -/
import Derived.Test.YtdgbmbjkbmpcbaaGreatDoorW05
import Derived.Scope
import Derived.Laws.IdiomRangeMap
set_option linter.all false
namespace Go.Proofs.LL
open Go Go.RowKit
theorem Sub.nil{ρ:Fr}:Sub [] ρ:=trivial
theorem Sub.cons{t:Nat}{v:Value}{r ρ:Fr}(h:LL.lk ρ t=some v)(hr:Sub r ρ):Sub ((t,v)::r) ρ:=⟨h,hr⟩
theorem lk_int{ρ:Fr}{t:Nat}{k:IntKind}{a b:Int}(h:lk ρ t=some (.int k a))(e:a=b):lk ρ t=some (.int k b):=e▸h
theorem Sub.app{a b ρ:Fr}(ha:Sub a ρ)(hb:Sub b ρ):Sub (a++b) ρ:=by
 induction a with
 |nil=>exact hb
 |cons p r ih=>exact⟨ha.1,ih ha.2⟩
theorem WC.loop2{P:Program}{N:Nat}{D:List Deferred}{ρ:Fr}{w:World}{X:Exit→Fr→World→Prop}{c:Code}{ι:Type}(κ:Fr)(fr:ι→Fr)(at_:ι→World→Prop)(μ:ι→Nat)(i0:ι)(hk:Sub κ ρ)(h0:Sub (fr i0) ρ)(hw0:at_ i0 w)
  (round:∀i w,at_ i w→WC P N D c (fr i++κ) w (fun e ρ' w'=>match e with| .normal=>∃j,Sub κ ρ'∧Sub (fr j) ρ'∧at_ j w'∧μ j<μ i|e=>X e ρ' w')):WC P N D (.loop c) ρ w X:=by
 refine WC.loop (fun i=>fr i++κ) at_ μ i0 (h0.app hk) hw0 fun i w' hw a ha=>?_
 refine Code.wp_mono (fun e a' w' hq=>?_) (round i w' hw a ha)
 obtain⟨ρ',ha',hx⟩:=hq
 refine⟨ρ',ha',?_⟩
 cases e<;>try exact hx
 obtain⟨j,h1,h2,h3,h4⟩:=hx
 exact⟨j,h2.app h1,h3,h4⟩
theorem WC.seqJ{P:Program}{N:Nat}{D:List Deferred}{ρ:Fr}{w:World}{X:Exit→Fr→World→Prop}{x y:Code}{ι:Type}(κ:Fr)(fr:ι→Fr)(J:ι→World→Prop)(hk:Sub κ ρ)
  (h1:WC P N D x ρ w (fun e ρ' w'=>match e with| .normal=>∃i,Sub κ ρ'∧Sub (fr i) ρ'∧J i w'|e=>X e ρ' w'))
  (h2:∀i w',J i w'→WC P N D y (fr i++κ) w' X):WC P N D (.seq x y) ρ w X:=by
 refine WC.seq fun a ha=>?_
 refine Code.wp_mono (fun e a' w' hq=>?_) (h1 a ha)
 obtain⟨ρ',ha',hx⟩:=hq
 cases e with
 |normal=>
  obtain⟨i,h3,h4,h5⟩:=hx
  exact⟨ρ',ha',(h2 i w' h5).sub (h4.app h3)⟩
 |_=>exact⟨ρ',ha',hx⟩
theorem WC.thenJ{P:Program}{N:Nat}{D:List Deferred}{ρ:Fr}{w:World}{X:Exit→Fr→World→Prop}{x y:Code}{ι:Type}(κ:Fr)(fr:ι→Fr)(J:ι→World→Prop)(hk:Sub κ ρ)
  (h1:WC P N D x ρ w (fun e ρ' w'=>match e with| .normal=>∃i,Sub κ ρ'∧Sub (fr i) ρ'∧J i w'|e=>X e ρ' w'))
  (h2:∀i w',J i w'→WC P N D y (fr i++κ) w' X):WC P N D x ρ w (andThen P N D y X):=by
 intro a ha
 refine Code.wp_mono (fun e a' w' hq=>?_) (h1 a ha)
 obtain⟨ρ',ha',hx⟩:=hq
 cases e with
 |normal=>
  obtain⟨i,h3,h4,h5⟩:=hx
  exact⟨ρ',ha',(h2 i w' h5).sub (h4.app h3)⟩
 |_=>exact⟨ρ',ha',hx⟩
def noGo(X:Exit→Fr→World→Prop):Exit→Fr→World→Prop
 | .goto _,_,_=>False
 |e,ρ,w=>X e ρ w
theorem WC.scope{P:Program}{N:Nat}{D:List Deferred}{ρ:Fr}{w:World}{X:Exit→Fr→World→Prop}{c:Code}(h:WC P N D c ρ w (noGo X)):WC P N D (.scope c) ρ w X:=by
 intro a ha
 refine wp_scope_straight (Code.wp_mono (fun e a' w' hq=>?_) (h a ha))
 obtain⟨ρ',ha',hx⟩:=hq
 cases e with
 |goto l=>exact hx.elim
 |_=>exact⟨ρ',ha',hx⟩
def fillA(out:List Value)(z:Value)(i:Nat):List Value:=out.take i++List.replicate (out.length-i) z
theorem fillA_zero(out:List Value)(z:Value):fillA out z 0=List.replicate out.length z:=by simp[fillA]
theorem fillA_all(out:List Value)(z:Value){i:Nat}(h:out.length≤i):fillA out z i=out:=by
 simp[fillA,List.take_of_length_le h,Nat.sub_eq_zero_of_le h]
theorem fillA_length(out:List Value)(z:Value){i:Nat}(h:i≤out.length):(fillA out z i).length=out.length:=by
 simp[fillA];omega
theorem fillA_set(out:List Value)(z:Value){i:Nat}{v:Value}(h:out[i]?=some v):(fillA out z i).set i v=fillA out z (i+1):=by
 have hi:i<out.length:=(List.getElem?_eq_some_iff.1 h).1
 unfold fillA
 have e:out.length-i=(out.length-(i+1))+1:=by omega
 have hl:(List.take i out).length=i:=by simp;omega
 rw[e,List.replicate_succ,List.set_append,if_neg (by omega),hl,Nat.sub_self,List.set_cons_zero,List.take_add_one,h]
 simp
def fillN(out:List (List Value))(z:List Value)(i:Nat):List Value:=(out.take i).flatten++(List.replicate (out.length-i) z).flatten
theorem flat_len{k:Nat}:∀(l:List (List Value)),(∀x∈l,x.length=k)→l.flatten.length=l.length * k
 |[],_=>by simp
 |a::r,h=>by
  have:=flat_len r (fun x hx=>h x (by simp[hx]))
  simp[this,h a (by simp),Nat.add_mul];omega
theorem fillN_all(out:List (List Value))(z:List Value){i:Nat}(h:out.length≤i):fillN out z i=out.flatten:=by
 simp[fillN,List.take_of_length_le h,Nat.sub_eq_zero_of_le h]
theorem fillN_length{k:Nat}(out:List (List Value))(z:List Value)(hz:z.length=k)(ho:∀x∈out,x.length=k){i:Nat}(h:i≤out.length):(fillN out z i).length=out.length * k:=by
 unfold fillN
 rw[List.length_append,flat_len (out.take i) (fun x hx=>ho x (List.mem_of_mem_take hx)),flat_len (k:=k) _ (fun x hx=>by rw[List.eq_of_mem_replicate hx,hz])]
 simp only[List.length_take,List.length_replicate,Nat.min_eq_left h]
 rw[← Nat.add_mul]
 congr 1;omega
theorem fillN_set{k:Nat}(out:List (List Value))(z:List Value)(hz:z.length=k)(ho:∀x∈out,x.length=k){i:Nat}{v:List Value}(h:out[i]?=some v):(fillN out z i).take (i * k)++v++(fillN out z i).drop (i * k+v.length)=fillN out z (i+1):=by
 have hi:i<out.length:=(List.getElem?_eq_some_iff.1 h).1
 have hv:v.length=k:=ho v (List.mem_of_getElem? h)
 unfold fillN
 have e:out.length-i=(out.length-(i+1))+1:=by omega
 have h1:(out.take i).flatten.length=i * k:=by
  rw[flat_len (out.take i) (fun x hx=>ho x (List.mem_of_mem_take hx)),List.length_take,Nat.min_eq_left (Nat.le_of_lt hi)]
 rw[e,List.replicate_succ,List.flatten_cons,List.take_add_one,h]
 rw[← h1,List.take_left,List.drop_append,h1,hv]
 have h2:List.drop (i * k+k) (out.take i).flatten=[]:=List.drop_eq_nil_of_le (by omega)
 have h3:i * k+k-i * k=k:=by omega
 rw[h2,h3,List.drop_append,← hz,List.drop_length,Nat.sub_self]
 simp
theorem madeCells_one(z:Value):∀n,(madeCells #[z] (n * 1)).toList=List.replicate n z:=by
 intro n
 rw[Nat.mul_one]
 apply List.ext_getElem
 ·simp[madeCells]
 ·intro i h1 h2
  simp[madeCells,Nat.mod_one]
theorem Own.blk{B e z n:Nat}{w:World}{b:Nat}{xs:List Value}(h:Own B e z w (.slice (some ⟨b,0,none⟩) n n) n xs):Blk w b xs:=by
 obtain⟨h1,h2⟩:=h.row
 rcases h2 with⟨h2,_⟩|⟨g,cap,cur,h3,h4,h5,h6,h7,h8,h9⟩
 ·cases h2
 ·simp only[Value.slice.injEq,Option.some.injEq,Addr.mk.injEq]at h3
  obtain⟨⟨rfl,_⟩,_,rfl⟩:=h3
  refine⟨e,?_⟩
  rw[h5,← h9,List.take_of_length_le (by simp;omega)]
section
variable {P:Program} {ρ:Fr} {w w0:World} {ty:TypeId} {x y s:Operand}
theorem l_fill{t b i j:Nat}{z v:Value}{out:List Value}(ht:szT P t=some 1)(hx:ov ρ x=some (.pointer (some ⟨b,j,none⟩)))(hj:j=i)(hy:ov ρ y=some v)(hv:v.oneCell'=true)(hB:Blk w b (fillA out z i))(ho:out[i]?=some v):
  LoudOp P (.store t x y) ty ρ w (fun _ w'=>Blk w' b (fillA out z (i+1))∧Evo (fun k=>k≠b) w w'):=by
 subst hj
 have hi:j<out.length:=(List.getElem?_eq_some_iff.1 ho).1
 intro N D a dst pos af g ha next Q hn
 refine l_store ht hx hy hv hB (by rw[fillA_length _ _ (by omega)];simpa[Nat.blt_eq]using hi) N D a dst pos af g ha next Q fun u w' h=>hn u w' ?_
 rw[fillA_set out z ho]at h
 exact⟨h.1,h.2.1⟩
theorem l_fillN{t b i j k:Nat}{z vs:List Value}{out:List (List Value)}(ht:szT P t=some k)(hx:ov ρ x=some (.pointer (some ⟨b,j,none⟩)))(hj:j=i * k)(hy:ov ρ y=some (.agg vs.toArray))(hv:vs.all (·.oneCell')=true)(hz:z.length=k)(hol:∀x∈out,x.length=k)(hB:Blk w b (fillN out z i))(ho:out[i]?=some vs):
  LoudOp P (.store t x y) ty ρ w (fun _ w'=>Blk w' b (fillN out z (i+1))∧Evo (fun k=>k≠b) w w'):=by
 subst hj
 have hi:i<out.length:=(List.getElem?_eq_some_iff.1 ho).1
 have hl:vs.length=k:=hol vs (List.mem_of_getElem? ho)
 intro N D a dst pos af g ha next Q hn
 refine l_storeA ht hx hy hv hl hB (by
  rw[fillN_length out z hz hol (by omega),hl,← Nat.succ_mul,Nat.ble_eq]
  exact Nat.mul_le_mul_right _ hi) N D a dst pos af g ha next Q fun u w' h=>hn u w' ?_
 rw[fillN_set out z hz hol ho]at h
 exact⟨h.1,h.2.1⟩
theorem l_copyF{A:Nat→Prop}{d t:TypeId}{b o i k c:Nat}{v:Value}{l:List UInt8}{z:List Value}{out:List (List Value)}(hd:u8T P d=true)(hx:ov ρ x=some (.slice (some ⟨b,o,none⟩) k c))(ho:o=i * k)(hy:ov ρ y=some v)(hB:Blk w b (fillN out z i))(hz:z.length=k)(hol:∀x∈out,x.length=k)(hI:IsB A w v l)(hl:l.length=k)(hpos:0<k)(hout:out[i]?=some (bc l)):
  LoudOp P (.call ⟨.builtin .copy, #[x,y], #[d,t]⟩) ty ρ w (fun u w'=>u= .int .i64 (k:Int)∧Blk w' b (fillN out z (i+1))∧Evo (Nb b) w w'):=by
 subst ho
 obtain⟨e,ii,hu,he,hi,hsz⟩:=u8T_some hd
 obtain⟨pb,po,c',rfl,hc,hA,hb⟩:=hI.open (by omega)
 obtain⟨T,hg⟩:=hB
 have hlt:i<out.length:=(List.getElem?_eq_some_iff.1 hout).1
 have hlen:=fillN_length out z hz hol (Nat.le_of_lt hlt)
 have hfit:i * k+l.length≤(fillN out z i).length:=by rw[hlen,hl,← Nat.succ_mul];exact Nat.mul_le_mul_right _ hlt
 have hr:=run_copy_row (P:=P) w d t ty e b (i * k) k c ⟨pb,po,none⟩ l.length c' (fillN out z i).toArray T (bc l) hu (by simp[hi,hsz]) hg (by rw[List.length_map,hl];exact(Nat.min_self k).symm)
  (fun j v hv=>by
   have hj:j<l.length:=by
    have:=(List.getElem?_eq_some_iff.1 hv).1
    simpa using this
   rw[Addr_add,hb j hj]
   rw[List.getElem?_map,List.getElem?_eq_getElem hj]at hv
   exact hv) (by simpa using hfit) (fun v hv=>by simp only[List.mem_map]at hv;obtain⟨b,_,rfl⟩:=hv;rfl)
 refine LoudOp.of_eq fun N D a dst pos af gd ha=>⟨_,_,by simp only[execOp,Sem.run_bind,resolve,ha.ov hx,ha.ov hy,List.map_toArray,List.map_cons,List.map_nil,Sem.run_pure,Result.andThen_ok,invoke,builtin,hr];rfl,?_,?_,?_⟩
 ·simp[goInt,hl]
 ·refine⟨T,?_⟩
  have h2:=setRow_heap w b (fillN out z i).toArray (((fillN out z i).take (i * k)++bc l++(fillN out z i).drop (i * k+(bc l).length)).toArray) T (0,0) hg
  rw[h2,fillN_set out z hz hol hout]
 ·exact⟨rfl,rfl,rfl,by simp,fun k _ hk=>setRow_other w b k _ hk⟩
theorem l_makeB{t e bs n:Nat}{zv:Value}{kl kc:IntKind}{l c:Operand}{L M:Int}(ht:slZ P t=some (e,1,bs,zv))(hz:zv.cells= #[zv])(hl:ov ρ l=some (.int kl L))(hc:ov ρ c=some (.int kc M))(eL:L=(n:Int))(eM:M=(n:Int))(hb:bs * n≤281474976710656)(h63:n≤maxLen):
  LoudOp P (.makeSlice t l c) ty ρ w (fun v' w'=>v'= .slice (some ⟨w.heap.size,0,none⟩) n n∧Blk w' w.heap.size (List.replicate n zv)∧Ext w w'):=by
 intro N D a dst pos af g ha next Q hn
 refine l_make (P:=P) (ty:=ty) (w:=w) ht hl hc eL eM hb h63 N D a dst pos af g ha next Q fun v' w' h=>hn v' w' ?_
 obtain⟨rfl,h2,h3⟩:=h
 refine⟨rfl,?_,h3⟩
 have:=Own.blk ⟨h2⟩
 rw[hz,madeCells_one]at this
 exact this
theorem madeCells_n(z:List Value)(hz:0<z.length):∀n,(madeCells z.toArray (n * z.length)).toList=(List.replicate n z).flatten:=by
 intro n
 apply List.ext_getElem
 ·simp[madeCells]
 ·intro i h1 h2
  simp only[madeCells]
  have key:∀(n i:Nat) (h:i<((List.replicate n z).flatten).length),((List.replicate n z).flatten)[i]=z[i%z.length]'(Nat.mod_lt _ hz):=by
   intro n
   induction n with
   |zero=>intro i h;simp at h
   |succ n ih=>
    intro i h
    simp only[List.replicate_succ,List.flatten_cons]
    rcases Nat.lt_or_ge i z.length with h4|h4
    ·rw[List.getElem_append_left h4]
     congr 1
     exact(Nat.mod_eq_of_lt h4).symm
    ·rw[List.getElem_append_right h4,ih]
     congr 1
     rw[Nat.mod_eq_sub_mod h4]
  rw[key n i h2]
  simp[Nat.mod_lt _ hz]
theorem l_makeN{t e z bs n:Nat}{zs:List Value}{kl kc:IntKind}{l c:Operand}{L M:Int}(ht:slZ P t=some (e,z,bs,.agg zs.toArray))(hz:zs.length=z)(hz0:0<z)(hl:ov ρ l=some (.int kl L))(hc:ov ρ c=some (.int kc M))(eL:L=(n:Int))(eM:M=(n:Int))(hb:bs * n≤281474976710656)(h63:n≤maxLen):
  LoudOp P (.makeSlice t l c) ty ρ w (fun v' w'=>v'= .slice (some ⟨w.heap.size,0,none⟩) n n∧Blk w' w.heap.size (List.replicate n zs).flatten∧Ext w w'):=by
 intro N D a dst pos af g ha next Q hn
 refine l_make (P:=P) (ty:=ty) (w:=w) ht hl hc eL eM hb h63 N D a dst pos af g ha next Q fun v' w' h=>hn v' w' ?_
 obtain⟨rfl,h2,h3⟩:=h
 refine⟨rfl,?_,h3⟩
 have:=Own.blk ⟨h2⟩
 subst hz
 have e:(Value.agg zs.toArray).cells=zs.toArray:=rfl
 rw[e,madeCells_n zs hz0]at this
 exact this
end
def mkEs:Nat→List (Value×Value)→List MapEntry
 |_,[]=>[]
 |k,(a,b)::r=>⟨a,b,k⟩::mkEs (k+1) r
theorem mkEs_length:∀(k:Nat) (l:List (Value×Value)),(mkEs k l).length=l.length
 |_,[]=>rfl
 |k,(a,b)::r=>by simp[mkEs,mkEs_length (k+1) r]
theorem mkEs_get:∀(k:Nat) (l:List (Value×Value)) (i:Nat),(mkEs k l)[i]?=(l[i]?).map fun p=>⟨p.1,p.2,k+i⟩
 |_,[],i=>by simp[mkEs]
 |k,(a,b)::r,0=>by simp[mkEs]
 |k,(a,b)::r,i+1=>by
  simp only[mkEs,List.getElem?_cons_succ]
  rw[mkEs_get (k+1) r i]
  congr 1
  funext p
  congr 1;omega
theorem mkEs_snoc:∀(k:Nat) (l:List (Value×Value)) (a b:Value),mkEs k (l++[(a,b)])=mkEs k l++[⟨a,b,k+l.length⟩]
 |k,[],a,b=>by simp[mkEs]
 |k,(c,d)::r,a,b=>by
  simp only[List.cons_append,mkEs,mkEs_snoc (k+1) r a b,List.length_cons]
  congr 4;omega
theorem mkEs_mem{k:Nat}{l:List (Value×Value)}{e:MapEntry}(h:e∈mkEs k l):∃i,∃(hi:i<l.length),e=⟨l[i].1,l[i].2,k+i⟩:=by
 obtain⟨i,hi⟩:=List.mem_iff_getElem?.1 h
 rw[mkEs_get]at hi
 cases h1:l[i]? with
 |none=>rw[h1]at hi;cases hi
 |some p=>
  rw[h1]at hi
  obtain⟨hl,hp⟩:=List.getElem?_eq_some_iff.1 h1
  refine⟨i,hl,?_⟩
  simp only[Option.map_some,Option.some.injEq]at hi
  rw[← hi,hp]
def MapO(w:World)(m:Nat)(kvs:List (Value×Value)):Prop:=w.heap[m]?=some (.map (mkEs 0 kvs).toArray kvs.length)
theorem MapO.mono{A:Nat→Prop}{w w':World}{m:Nat}{kvs:List (Value×Value)}(h:MapO w m kvs)(e:Evo A w w')(hA:A m:=by first|exact trivial|((try dsimp only[Nb]);omega)|assumption):MapO w' m kvs:=e.obj h hA
theorem MapO.lt{w:World}{m:Nat}{kvs:List (Value×Value)}(h:MapO w m kvs):m<w.heap.size:=(Array.getElem?_eq_some_iff.1 h).1
def ItO(w:World)(it m n:Nat)(seen:List Nat):Prop:=w.heap[it]?=some (.mapIter (some m) n seen.toArray n)
theorem ItO.mono{A:Nat→Prop}{w w':World}{it m n:Nat}{seen:List Nat}(h:ItO w it m n seen)(e:Evo A w w')(hA:A it:=by first|exact trivial|((try dsimp only[Nb]);omega)|assumption):ItO w' it m n seen:=e.obj h hA
theorem ItO.lt{w:World}{it m n:Nat}{seen:List Nat}(h:ItO w it m n seen):it<w.heap.size:=(Array.getElem?_eq_some_iff.1 h).1
def mapT(P:Program)(t:TypeId):Option TypeId:=
 match P.underlying t with
 |some (.map k _)=>some k
 |_=>none
theorem mapT_some{P:Program}{t k:TypeId}(h:mapT P t=some k):∃e,P.underlying t=some (.map k e):=by
 unfold mapT at h
 split at h
 ·rename_i k' e hu
  have:k'=k:=Option.some.inj h
  subst this
  exact⟨e,hu⟩
 ·cases h
def KeyOK(P:Program)(kt:TypeId)(k:Value):Prop:=∀(w:World) (e:Bool),(Instr.checkKey e 10000 kt k).run P w= .ok () w
def KeyNe(P:Program)(kt:TypeId)(a b:Value):Prop:=∀w:World,(Op.equal kt a b).run P w= .ok false w
theorem findAsking_none{P:Program}{kt:TypeId}{k:Value}{w:World}:∀(es:List MapEntry) (i:Nat),(∀e∈es,KeyNe P kt k e.key)→(Instr.findAsking kt k es i).run P w= .ok none w
 |[],i,_=>by simp[Instr.findAsking]
 |e::es,i,h=>by
  have h1:=h e (by simp) w
  have ih:=findAsking_none (P:=P) (kt:=kt) (k:=k) (w:=w) es (i+1) (fun x hx=>h x (by simp[hx]))
  simp[Instr.findAsking,h1,ih]
theorem findKey_if{P:Program}{kt:TypeId}{k:Value}{w:World}{es:List MapEntry}(ht:ifT P kt=true)(h:∀e∈es,KeyNe P kt k e.key):(Instr.findKey kt k es).run P w= .ok none w:=by
 obtain⟨ms,hu⟩:=ifT_some ht
 cases es with
 |nil=>simp[Instr.findKey,underlying,hu,Instr.findNow]
 |cons e es=>
  have h2:=findAsking_none (P:=P) (kt:=kt) (k:=k) (w:=w) (e::es) 0 h
  simp[Instr.findKey,underlying,hu,Instr.findNow,Instr.sameNow,h2]
theorem findNow_str{k:ByteArray}:∀(es:List MapEntry) (i:Nat),(∀e∈es,∃s:ByteArray,e.key= .string s∧s≠k)→Instr.findNow .string (.string k) es i=some none
 |[],i,_=>rfl
 |e::es,i,h=>by
  obtain⟨s,h1,h2⟩:=h e (by simp)
  have h3:(k==s)=false:=by
   cases hq:k==s with
   |false=>rfl
   |true=>exact absurd ((MapKept.bytes_beq k s).1 hq).symm h2
  simp only[Instr.findNow,h1,Instr.sameNow,h3]
  exact findNow_str es (i+1) (fun x hx=>h x (by simp[hx]))
theorem findKey_str{P:Program}{kt:TypeId}{k:ByteArray}{w:World}{es:List MapEntry}(ht:strT P kt=true)(h:∀e∈es,∃s:ByteArray,e.key= .string s∧s≠k):(Instr.findKey kt (.string k) es).run P w= .ok none w:=by
 have hu:=strT_some ht
 simp[Instr.findKey,underlying,hu,findNow_str es 0 h]
theorem KeyOK.str{P:Program}{kt:TypeId}{k:ByteArray}(ht:strT P kt=true):KeyOK P kt (.string k):=by
 intro w e
 have hu:=strT_some ht
 unfold Instr.checkKey
 simp[underlying,hu]
section
variable {P:Program} {ρ:Fr} {w w0:World} {ty:TypeId} {x y s:Operand}
theorem l_mkMap{t k:TypeId}{r:Option Operand}(ht:mapT P t=some k)(hr:∀o,r=some o→∃k n,ov ρ o=some (.int k n)):
  LoudOp P (.makeMap t r) ty ρ w (fun v w'=>v= .map (some w.heap.size)∧MapO w' w.heap.size []∧Ext w w'):=by
 obtain⟨e,hu⟩:=mapT_some ht
 intro N D a dst pos af g ha next Q hn
 refine l_makeMap (P:=P) (ρ:=ρ) (w:=w) (ty:=ty) (t:=t) (r:=r) (fun o ho=>by obtain⟨kk,n,h1⟩:=hr o ho;exact⟨kk,n,h1,_,_,hu⟩) N D a dst pos af g ha next Q fun v w' h=>hn v w' ?_
 obtain⟨h1,rfl⟩:=h
 exact⟨h1,heap_alloc_new w _,Ext.alloc _ _⟩
theorem r_lenm{t k m:Nat}{kvs:List (Value×Value)}{A:Nat→Prop}(ht:mapT P t=some k)(hx:ov ρ x=some (.map (some m)))(hE:Evo A w0 w)(hM:MapO w0 m kvs)(hA:A m:=by first|exact trivial|((try dsimp only[Nb]);omega)|assumption):RunOp P (.call ⟨.builtin .len, #[x], #[t]⟩) ty ρ w (.int .i64 kvs.length):=by
 intro N D a dst pos af g ha
 obtain⟨e,hu⟩:=mapT_some ht
 have h:=hM.mono hE hA
 simp[execOp,ha.ov hx,resolve,invoke,builtin,Builtin.len_,underlying,hu,goInt,MapKept.run_getObj_map h,mkEs_length]
theorem l_mapNew{t kt m:Nat}{o k:Operand}{kvs:List (Value×Value)}{kv v:Value}(ht:mapT P t=some kt)(ho:ov ρ o=some (.map (some m)))(hk:ov ρ k=some kv)(hx:ov ρ x=some v)(hM:MapO w m kvs)(hOK:KeyOK P kt kv)(hno:(Instr.findKey kt kv (mkEs 0 kvs)).run P w= .ok none w):
  LoudOp P (.mapUpdate t o k x) ty ρ w (fun _ w'=>MapO w' m (kvs++[(kv,v)])∧Evo (fun b=>b≠m) w w'):=by
 obtain⟨e,hu⟩:=mapT_some ht
 have h1:=hOK w false
 have hlt:=hM.lt
 refine LoudOp.of_skip fun N D a dst pos af g ha=>⟨{w with heap:=w.heap.setIfInBounds m (.map ((mkEs 0 kvs).toArray.push ⟨kv,v,kvs.length⟩) (kvs.length+1))},?_,?_,⟨rfl,rfl,rfl,by simp,fun b _ hb=>by simp[Ne.symm hb]⟩⟩
 ·simp[execOp,ha.ov ho,ha.ov hk,ha.ov hx,Instr.mapUpdate,underlying,hu,MapKept.run_getObj_map hM,h1,hno,MapKept.run_setObj_map _ hM]
 ·show(w.heap.setIfInBounds m _)[m]?=_
  rw[(MapKept.heap_set (o':=_) hM).1,mkEs_snoc]
  simp
theorem l_range{t kt m:Nat}{kvs:List (Value×Value)}(ht:mapT P t=some kt)(hx:ov ρ x=some (.map (some m)))(hM:MapO w m kvs):
  LoudOp P (.range t x) ty ρ w (fun v w'=>v= .pointer (some ⟨w.heap.size,0,none⟩)∧ItO w' w.heap.size m kvs.length []∧Ext w w'):=by
 obtain⟨e,hu⟩:=mapT_some ht
 exact LoudOp.of_eq fun N D a dst pos af g ha=>⟨_,_,by simp[execOp,ha.ov hx,run_range_map (P:=P) w t kt e m _ _ hu hM],rfl,heap_alloc_new w _,Ext.alloc _ _⟩
def ItN(w:World)(it:Nat):Prop:=w.heap[it]?=some (.mapIter none 0 #[] 0)
theorem ItN.mono{A:Nat→Prop}{w w':World}{it:Nat}(h:ItN w it)(e:Evo A w w')(hA:A it:=by first|exact trivial|((try dsimp only[Nb]);omega)|assumption):ItN w' it:=e.obj h hA
theorem l_range0{t kt:Nat}(ht:mapT P t=some kt)(hx:ov ρ x=some (.map none)):
  LoudOp P (.range t x) ty ρ w (fun v w'=>v= .pointer (some ⟨w.heap.size,0,none⟩)∧ItN w' w.heap.size∧Ext w w'):=by
 obtain⟨e,hu⟩:=mapT_some ht
 exact LoudOp.of_eq fun N D a dst pos af g ha=>⟨_,_,by simp[execOp,ha.ov hx,run_range_nilMap (P:=P) w t kt e hu],rfl,heap_alloc_new w _,Ext.alloc _ _⟩
theorem l_next0{it:Nat}(hx:ov ρ x=some (.pointer (some ⟨it,0,none⟩)))(hI:ItN w it):
  LoudOp P (.next x false) ty ρ w (fun v w'=>v= .tuple #[.bool false]∧Ext w w'):=by
 refine LoudOp.of_eq fun N D a dst pos af g ha=>⟨_,w,?_,rfl,Ext.refl _⟩
 simp only[ItN]at hI
 simp only[execOp,ha.ov hx,Instr.next,getObj,Sem.run_bind,Sem.run,hI,Result.andThen]
 rfl
theorem run_next_ty{v:Value}{b:Bool}{t t':TypeId}{r:Result Value}(h:(Instr.next v b t).run P w=r):(Instr.next v b t').run P w=r:=h
theorem next_or{it m:Nat}{kvs:List (Value×Value)}{seen:List Nat}(hM:MapO w m kvs)(hI:ItO w it m kvs.length seen):
  ((∀i,i<kvs.length→i∈seen)∧∀ {ρ:Fr} {ty:TypeId} {x:Operand},ov ρ x=some (.pointer (some ⟨it,0,none⟩))→LoudOp P (.next x false) ty ρ w (fun v w'=>v= .tuple #[.bool false]∧Evo (fun b=>b≠it) w w'))∨
  (∃i,∃(hi:i<kvs.length),i ∉ seen∧∀ {ρ:Fr} {ty:TypeId} {x:Operand},ov ρ x=some (.pointer (some ⟨it,0,none⟩))→LoudOp P (.next x false) ty ρ w (fun v w'=>v= .tuple #[.bool true,kvs[i].1,kvs[i].2]∧ItO w' it m kvs.length (seen++[i])∧Evo (fun b=>b≠it) w w')):=by
 have hold:∀e∈(mkEs 0 kvs).toArray.toList,e.born<kvs.length:=by
  intro e he
  obtain⟨i,hi,rfl⟩:=mkEs_mem (by simpa using he)
  simpa using hi
 unfold ItO at hI
 unfold MapO at hM
 have key:((leftOf (mkEs 0 kvs).toArray seen.toArray).size=0∧(Instr.next (.pointer (some ⟨it,0,none⟩)) false 0).run P w= .ok (.tuple #[.bool false]) w)∨
   ∃e∈(leftOf (mkEs 0 kvs).toArray seen.toArray).toList,∃w1:World,(w1=w∨w1=w.drew)∧(Instr.next (.pointer (some ⟨it,0,none⟩)) false 0).run P w= .ok (.tuple #[.bool true,e.key,e.val]) {w1 with heap:=w.heap.setIfInBounds it (.mapIter (some m) kvs.length (seen.toArray.push e.born) kvs.length)}:=by
  simp only[Instr.next,getObj,Sem.run_bind,Sem.run,hI,hM,Result.andThen,next_test_false seen.toArray (mkEs 0 kvs).toArray kvs.length kvs.length hold (Nat.le_refl _),Bool.false_eq_true,if_false]
  unfold leftOf
  have hmem:∀x∈(Array.filter (fun e=> !seen.toArray.contains e.born) (mkEs 0 kvs).toArray).toList,x.born<kvs.length:=fun x hx=>hold x (by simp at hx⊢;exact hx.1)
  generalize Array.filter (fun e=> !seen.toArray.contains e.born) (mkEs 0 kvs).toArray=L at hmem⊢
  have e1:L.filter (fun x=>decide (x.born<kvs.length))=L:=Array.filter_eq_self.2 (fun x hx=>by simpa using hmem x (by simpa using hx))
  have e2:L.filter (fun x=>decide (x.born≥kvs.length))= #[]:=by
   rw[Array.filter_eq_empty_iff]
   intro x hx
   have:=hmem x (by simpa using hx)
   simp
   omega
  simp only[e1,e2,Array.append_empty]
  by_cases h0:L.size=0
  ·left
   have:L= #[]:=Array.eq_empty_of_size_eq_zero h0
   subst this
   refine⟨rfl,?_⟩
   simp[choose,Sem.run,Question.forced]
  ·right
   have hne:L.isEmpty=false:=by simp[Array.isEmpty,h0]
   simp only[hne,Bool.false_eq_true,if_false,Array.empty_append,Array.size_map]
   have hch:∃(j:Nat) (w1:World),j<L.size∧(w1=w∨w1=w.drew)∧(choose (Question.mapNext L.size)).run P w= .ok j w1:=by
    by_cases hf:L.size≤1
    ·exact⟨0,w,by omega,.inl rfl,by simp[choose,Sem.run,Question.forced,hf]⟩
    ·exact⟨_,w.drew,Nat.mod_lt _ (by omega),.inr rfl,by
      simp only[choose,Sem.run,Question.forced,decide_eq_true_eq,hf,if_false,Question.cut]
      rfl⟩
   obtain⟨j,w1,hj,hal,hrun⟩:=hch
   refine⟨L[j],by simp,w1,hal,?_⟩
   have hh:w1.heap=w.heap:=by rcases hal with rfl|rfl<;>rfl
   have hset:∀o':Obj,(setObj it o').run P w1= .ok () {w1 with heap:=w.heap.setIfInBounds it o'}:=fun o'=>by
    simp only[setObj,Sem.run,hh,hI]
   simp only[hrun,Array.getElem?_map,Array.getElem?_eq_getElem hj,Option.map_some,Sem.run_bind,hset,Result.andThen]
   rfl
 have hlt:it<w.heap.size:=(Array.getElem?_eq_some_iff.1 hI).1
 rcases key with⟨h0,hr⟩|⟨e,he,w1,hw1,hr⟩
 ·refine .inl ⟨fun i hi=>?_,fun {ρ ty x} hx=>LoudOp.of_eq fun N D a dst pos af g ha=>⟨_,w,by simp[execOp,ha.ov hx,run_next_ty hr],rfl,Evo.refl _⟩⟩
  have h1:leftOf (mkEs 0 kvs).toArray seen.toArray= #[]:=Array.eq_empty_of_size_eq_zero h0
  unfold leftOf at h1
  rw[Array.filter_eq_empty_iff]at h1
  have h2:(⟨kvs[i].1,kvs[i].2,i⟩:MapEntry)∈(mkEs 0 kvs).toArray:=by
   rw[List.mem_toArray]
   refine List.mem_iff_getElem?.2 ⟨i,?_⟩
   rw[mkEs_get,List.getElem?_eq_getElem hi];simp
  have h3:=h1 _ h2
  simpa using h3
 ·unfold leftOf at he
  have he':=Array.mem_toList_iff.1 he
  rw[Array.mem_filter]at he'
  obtain⟨i,hi,hei⟩:=mkEs_mem (by simpa using he'.1)
  subst hei
  refine .inr ⟨i,hi,by simpa using he'.2,fun {ρ ty x} hx=>LoudOp.of_eq fun N D a dst pos af g ha=>⟨_,_,by simp[execOp,ha.ov hx,run_next_ty hr];rfl,rfl,?_,?_⟩⟩
  ·show(w.heap.setIfInBounds it _)[it]?=_
   simp[hlt]
  ·rcases hw1 with rfl|rfl
   ·exact⟨rfl,rfl,rfl,by simp,fun b _ hb=>by simp[Ne.symm hb]⟩
   ·exact⟨rfl,rfl,rfl,by simp,fun b _ hb=>by simp[Ne.symm hb]⟩
theorem r_entry{it m i:Nat}{kvs:List (Value×Value)}{seen:List Nat}{A:Nat→Prop}(hx:ov ρ x=some (.pointer (some ⟨it,0,none⟩)))(hi:i<kvs.length)(hE:Evo A w0 w)(hM:MapO w0 m kvs)(hI:ItO w0 it m kvs.length (seen++[i]))(hA:A m:=by first|exact trivial|((try dsimp only[Nb]);omega)|assumption)(hA2:A it:=by first|exact trivial|((try dsimp only[Nb]);omega)|assumption):RunOp P (.entry x) ty ρ w (.tuple #[kvs[i].1,kvs[i].2]):=by
 intro N D a dst pos af g ha
 have h1:=hM.mono hE hA
 have h2:=hI.mono hE hA2
 unfold MapO at h1
 unfold ItO at h2
 have hf:(mkEs 0 kvs).toArray.find? (fun e=>e.born==i)=some ⟨kvs[i].1,kvs[i].2,i⟩:=by
  rw[List.find?_toArray]
  have key:∀(l:List (Value×Value)) (k j:Nat) (hj:j<l.length),(mkEs k l).find? (fun e=>e.born==k+j)=some ⟨l[j].1,l[j].2,k+j⟩:=by
   intro l
   induction l with
   |nil=>intro k j hj;simp at hj
   |cons p r ih=>
    obtain⟨c,d⟩:=p
    intro k j hj
    cases j with
    |zero=>simp[mkEs]
    |succ j=>
     have hne:(k==k+(j+1))=false:=by simp
     simp only[mkEs,List.find?_cons,hne]
     have:=ih (k+1) j (by simpa using hj)
     rw[show k+1+j=k+(j+1) by omega]at this
     simpa using this
  have:=key kvs 0 i hi
  simpa using this
 simp only[execOp,ha.ov hx,Instr.entry,getObj,Sem.run_bind,Sem.run,h1,h2,Result.andThen]
 have hg:(Sem.getObj m Sem.pure).run P w= .ok (.map (mkEs 0 kvs).toArray kvs.length) w:=MapKept.run_getObj_map h1
 simp[hf,hg,Result.andThen]
theorem r_entryE{it m i:Nat}{kvs:List (Value×Value)}{seen:List Nat}{A:Nat→Prop}{a b:Value}(hx:ov ρ x=some (.pointer (some ⟨it,0,none⟩)))(hi:i<kvs.length)(ea:kvs[i].1=a)(eb:kvs[i].2=b)(hE:Evo A w0 w)(hM:MapO w0 m kvs)(hI:ItO w0 it m kvs.length (seen++[i]))(hA:A m:=by first|exact trivial|((try dsimp only[Nb]);omega)|assumption)(hA2:A it:=by first|exact trivial|((try dsimp only[Nb]);omega)|assumption):RunOp P (.entry x) ty ρ w (.tuple #[a,b]):=by
 subst ea eb
 exact r_entry hx hi hE hM hI hA hA2
end
end Go.Proofs.LL
