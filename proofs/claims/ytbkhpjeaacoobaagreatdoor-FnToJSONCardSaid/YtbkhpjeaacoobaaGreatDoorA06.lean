/- Contracts of functions and own laws. Conditions: those that each theorem states. -/
import Derived.Test.YtbkhpjeaacoobaaGreatDoorA05
import Derived.Laws.IdiomRangeMap
import Derived.Sort.OwnSorted
import Derived.Sort.LotA
import Derived.Sort.Walk0
set_option linter.all false
namespace Go.Proofs.LL
open Go Go.RowKit
def mkEs:Nat→List (Value×Value)→List MapEntry
  |_,[]=>[]
  |k,(a,b)::r=>⟨a,b,k⟩::mkEs (k+1) r
theorem mkEs_length:∀(k:Nat) (l:List (Value×Value)),(mkEs k l).length=l.length
  |_,[]=>rfl
  |k,(a,b)::r=>by simp[mkEs,mkEs_length (k+1) r]
theorem mkEs_get:∀(k:Nat) (l:List (Value×Value)) (i:Nat),(mkEs k l)[i]?=(l[i]?).map fun p=>⟨p.1,p.2,k+i⟩
  |_,[],i=>by simp[mkEs]
  |k,(a,b)::r,0=>by simp[mkEs]
  |k,(a,b)::r,i+1=>by
    simp only[mkEs,List.getElem?_cons_succ]
    rw[mkEs_get (k+1) r i]
    congr 1
    funext p
    congr 1;omega
theorem mkEs_snoc:∀(k:Nat) (l:List (Value×Value)) (a b:Value),mkEs k (l++[(a,b)])=mkEs k l++[⟨a,b,k+l.length⟩]
  |k,[],a,b=>by simp[mkEs]
  |k,(c,d)::r,a,b=>by
    simp only[List.cons_append,mkEs,mkEs_snoc (k+1) r a b,List.length_cons]
    congr 4;omega
theorem mkEs_mem{k:Nat}{l:List (Value×Value)}{e:MapEntry}(h:e∈mkEs k l):∃i,∃(hi:i<l.length),e=⟨l[i].1,l[i].2,k+i⟩:=by
  obtain⟨i,hi⟩:=List.mem_iff_getElem?.1 h
  rw[mkEs_get]at hi
  cases h1:l[i]? with
  |none=>rw[h1]at hi;cases hi
  |some p=>
    rw[h1]at hi
    obtain⟨hl,hp⟩:=List.getElem?_eq_some_iff.1 h1
    refine⟨i,hl,?_⟩
    simp only[Option.map_some,Option.some.injEq]at hi
    rw[← hi,hp]
def MapO(w:World)(m:Nat)(kvs:List (Value×Value)):Prop:=w.heap[m]?=some (.map (mkEs 0 kvs).toArray kvs.length)
theorem MapO.mono{A:Nat→Prop}{w w':World}{m:Nat}{kvs:List (Value×Value)}(h:MapO w m kvs)(e:Evo A w w')(hA:A m:=by first|exact trivial|((try dsimp only[Nb]);omega)|assumption):MapO w' m kvs:=e.obj h hA
theorem MapO.lt{w:World}{m:Nat}{kvs:List (Value×Value)}(h:MapO w m kvs):m<w.heap.size:=(Array.getElem?_eq_some_iff.1 h).1
def ItO(w:World)(it m n:Nat)(seen:List Nat):Prop:=w.heap[it]?=some (.mapIter (some m) n seen.toArray n)
theorem ItO.mono{A:Nat→Prop}{w w':World}{it m n:Nat}{seen:List Nat}(h:ItO w it m n seen)(e:Evo A w w')(hA:A it:=by first|exact trivial|((try dsimp only[Nb]);omega)|assumption):ItO w' it m n seen:=e.obj h hA
theorem ItO.lt{w:World}{it m n:Nat}{seen:List Nat}(h:ItO w it m n seen):it<w.heap.size:=(Array.getElem?_eq_some_iff.1 h).1
def mapT(P:Program)(t:TypeId):Option TypeId:=
  match P.underlying t with
  |some (.map k _)=>some k
  |_=>none
theorem mapT_some{P:Program}{t k:TypeId}(h:mapT P t=some k):∃e,P.underlying t=some (.map k e):=by
  unfold mapT at h
  split at h
  · rename_i k' e hu
    have:k'=k:=Option.some.inj h
    subst this
    exact⟨e,hu⟩
  · cases h
def KeyOK(P:Program)(kt:TypeId)(k:Value):Prop:=∀(w:World) (e:Bool),(Instr.checkKey e 10000 kt k).run P w= .ok () w
def KeyNe(P:Program)(kt:TypeId)(a b:Value):Prop:=∀w:World,(Op.equal kt a b).run P w= .ok false w
theorem findAsking_none{P:Program}{kt:TypeId}{k:Value}{w:World}:∀(es:List MapEntry) (i:Nat),(∀e∈es,KeyNe P kt k e.key)→(Instr.findAsking kt k es i).run P w= .ok none w
  |[],i,_=>by simp[Instr.findAsking]
  |e::es,i,h=>by
    have h1:=h e (by simp) w
    have ih:=findAsking_none (P:=P) (kt:=kt) (k:=k) (w:=w) es (i+1) (fun x hx=>h x (by simp[hx]))
    simp[Instr.findAsking,h1,ih]
theorem findKey_if{P:Program}{kt:TypeId}{k:Value}{w:World}{es:List MapEntry}(ht:ifT P kt=true)(h:∀e∈es,KeyNe P kt k e.key):(Instr.findKey kt k es).run P w= .ok none w:=by
  obtain⟨ms,hu⟩:=ifT_some ht
  cases es with
  |nil=>simp[Instr.findKey,underlying,hu,Instr.findNow]
  |cons e es=>
    have h2:=findAsking_none (P:=P) (kt:=kt) (k:=k) (w:=w) (e::es) 0 h
    simp[Instr.findKey,underlying,hu,Instr.findNow,Instr.sameNow,h2]
theorem findNow_str{k:ByteArray}:∀(es:List MapEntry) (i:Nat),(∀e∈es,∃s:ByteArray,e.key= .string s∧s≠k)→Instr.findNow .string (.string k) es i=some none
  |[],i,_=>rfl
  |e::es,i,h=>by
    obtain⟨s,h1,h2⟩:=h e (by simp)
    have h3:(k==s)=false:=by
      cases hq:k==s with
      |false=>rfl
      |true=>exact absurd ((MapKept.bytes_beq k s).1 hq).symm h2
    simp only[Instr.findNow,h1,Instr.sameNow,h3]
    exact findNow_str es (i+1) (fun x hx=>h x (by simp[hx]))
theorem findKey_str{P:Program}{kt:TypeId}{k:ByteArray}{w:World}{es:List MapEntry}(ht:strT P kt=true)(h:∀e∈es,∃s:ByteArray,e.key= .string s∧s≠k):(Instr.findKey kt (.string k) es).run P w= .ok none w:=by
  have hu:=strT_some ht
  simp[Instr.findKey,underlying,hu,findNow_str es 0 h]
theorem KeyOK.str{P:Program}{kt:TypeId}{k:ByteArray}(ht:strT P kt=true):KeyOK P kt (.string k):=by
  intro w e
  have hu:=strT_some ht
  unfold Instr.checkKey
  simp[underlying,hu]
section
variable {P:Program} {ρ:Fr} {w w0:World} {ty:TypeId} {x y s:Operand}
theorem l_mkMap{t k:TypeId}{r:Option Operand}(ht:mapT P t=some k)(hr:∀o,r=some o→∃k n,ov ρ o=some (.int k n)):
    LoudOp P (.makeMap t r) ty ρ w (fun v w'=>v= .map (some w.heap.size)∧MapO w' w.heap.size []∧Ext w w'):=by
  obtain⟨e,hu⟩:=mapT_some ht
  intro N D a dst pos af g ha next Q hn
  refine l_makeMap (P:=P) (ρ:=ρ) (w:=w) (ty:=ty) (t:=t) (r:=r) (fun o ho=>by obtain⟨kk,n,h1⟩:=hr o ho;exact⟨kk,n,h1,_,_,hu⟩) N D a dst pos af g ha next Q fun v w' h=>hn v w' ?_
  obtain⟨h1,rfl⟩:=h
  exact⟨h1,heap_alloc_new w _,Ext.alloc _ _⟩
theorem r_lenm{t k m:Nat}{kvs:List (Value×Value)}{A:Nat→Prop}(ht:mapT P t=some k)(hx:ov ρ x=some (.map (some m)))(hE:Evo A w0 w)(hM:MapO w0 m kvs)(hA:A m:=by first|exact trivial|((try dsimp only[Nb]);omega)|assumption):RunOp P (.call ⟨.builtin .len, #[x], #[t]⟩) ty ρ w (.int .i64 kvs.length):=by
  intro N D a dst pos af g ha
  obtain⟨e,hu⟩:=mapT_some ht
  have h:=hM.mono hE hA
  simp[execOp,ha.ov hx,resolve,invoke,builtin,Builtin.len_,underlying,hu,goInt,MapKept.run_getObj_map h,mkEs_length]
theorem r_lenm0{t k:Nat}(ht:mapT P t=some k)(hx:ov ρ x=some (.map none)):RunOp P (.call ⟨.builtin .len, #[x], #[t]⟩) ty ρ w (.int .i64 0):=by
  intro N D a dst pos af g ha
  obtain⟨e,hu⟩:=mapT_some ht
  simp[execOp,ha.ov hx,resolve,invoke,builtin,Builtin.len_,underlying,hu,goInt]
theorem l_mapNew{t kt m:Nat}{o k:Operand}{kvs:List (Value×Value)}{kv v:Value}(ht:mapT P t=some kt)(ho:ov ρ o=some (.map (some m)))(hk:ov ρ k=some kv)(hx:ov ρ x=some v)(hM:MapO w m kvs)(hOK:KeyOK P kt kv)(hno:(Instr.findKey kt kv (mkEs 0 kvs)).run P w= .ok none w):
    LoudOp P (.mapUpdate t o k x) ty ρ w (fun _ w'=>MapO w' m (kvs++[(kv,v)])∧Evo (fun b=>b≠m) w w'):=by
  obtain⟨e,hu⟩:=mapT_some ht
  have h1:=hOK w false
  have hlt:=hM.lt
  refine LoudOp.of_skip fun N D a dst pos af g ha=>⟨{w with heap:=w.heap.setIfInBounds m (.map ((mkEs 0 kvs).toArray.push ⟨kv,v,kvs.length⟩) (kvs.length+1))},?_,?_,⟨rfl,rfl,rfl,by simp,fun b _ hb=>by simp[Ne.symm hb]⟩⟩
  · simp[execOp,ha.ov ho,ha.ov hk,ha.ov hx,Instr.mapUpdate,underlying,hu,MapKept.run_getObj_map hM,h1,hno,MapKept.run_setObj_map _ hM]
  · show(w.heap.setIfInBounds m _)[m]?=_
    rw[(MapKept.heap_set (o':=_) hM).1,mkEs_snoc]
    simp
theorem l_range{t kt m:Nat}{kvs:List (Value×Value)}(ht:mapT P t=some kt)(hx:ov ρ x=some (.map (some m)))(hM:MapO w m kvs):
    LoudOp P (.range t x) ty ρ w (fun v w'=>v= .pointer (some ⟨w.heap.size,0,none⟩)∧ItO w' w.heap.size m kvs.length []∧Ext w w'):=by
  obtain⟨e,hu⟩:=mapT_some ht
  exact LoudOp.of_eq fun N D a dst pos af g ha=>⟨_,_,by simp[execOp,ha.ov hx,run_range_map (P:=P) w t kt e m _ _ hu hM],rfl,heap_alloc_new w _,Ext.alloc _ _⟩
def ItN(w:World)(it:Nat):Prop:=w.heap[it]?=some (.mapIter none 0 #[] 0)
theorem ItN.mono{A:Nat→Prop}{w w':World}{it:Nat}(h:ItN w it)(e:Evo A w w')(hA:A it:=by first|exact trivial|((try dsimp only[Nb]);omega)|assumption):ItN w' it:=e.obj h hA
theorem l_range0{t kt:Nat}(ht:mapT P t=some kt)(hx:ov ρ x=some (.map none)):
    LoudOp P (.range t x) ty ρ w (fun v w'=>v= .pointer (some ⟨w.heap.size,0,none⟩)∧ItN w' w.heap.size∧Ext w w'):=by
  obtain⟨e,hu⟩:=mapT_some ht
  exact LoudOp.of_eq fun N D a dst pos af g ha=>⟨_,_,by simp[execOp,ha.ov hx,run_range_nilMap (P:=P) w t kt e hu],rfl,heap_alloc_new w _,Ext.alloc _ _⟩
theorem l_next0{it:Nat}(hx:ov ρ x=some (.pointer (some ⟨it,0,none⟩)))(hI:ItN w it):
    LoudOp P (.next x false) ty ρ w (fun v w'=>v= .tuple #[.bool false]∧Ext w w'):=by
  refine LoudOp.of_eq fun N D a dst pos af g ha=>⟨_,w,?_,rfl,Ext.refl _⟩
  simp only[ItN]at hI
  simp only[execOp,ha.ov hx,Instr.next,getObj,Sem.run_bind,Sem.run,hI,Result.andThen]
  rfl
theorem run_next_ty{v:Value}{b:Bool}{t t':TypeId}{r:Result Value}(h:(Instr.next v b t).run P w=r):(Instr.next v b t').run P w=r:=h
theorem next_or{it m:Nat}{kvs:List (Value×Value)}{seen:List Nat}(hM:MapO w m kvs)(hI:ItO w it m kvs.length seen):
    ((∀i,i<kvs.length→i∈seen)∧∀ {ρ:Fr} {ty:TypeId} {x:Operand},ov ρ x=some (.pointer (some ⟨it,0,none⟩))→LoudOp P (.next x false) ty ρ w (fun v w'=>v= .tuple #[.bool false]∧Evo (fun b=>b≠it) w w'))∨
    (∃i,∃(hi:i<kvs.length),i ∉ seen∧∀ {ρ:Fr} {ty:TypeId} {x:Operand},ov ρ x=some (.pointer (some ⟨it,0,none⟩))→LoudOp P (.next x false) ty ρ w (fun v w'=>v= .tuple #[.bool true,kvs[i].1,kvs[i].2]∧ItO w' it m kvs.length (seen++[i])∧Evo (fun b=>b≠it) w w')):=by
  have hold:∀e∈(mkEs 0 kvs).toArray.toList,e.born<kvs.length:=by
    intro e he
    obtain⟨i,hi,rfl⟩:=mkEs_mem (by simpa using he)
    simpa using hi
  unfold ItO at hI
  unfold MapO at hM
  have key:((leftOf (mkEs 0 kvs).toArray seen.toArray).size=0∧(Instr.next (.pointer (some ⟨it,0,none⟩)) false 0).run P w= .ok (.tuple #[.bool false]) w)∨
      ∃e∈(leftOf (mkEs 0 kvs).toArray seen.toArray).toList,∃w1:World,(w1=w∨w1=w.drew)∧(Instr.next (.pointer (some ⟨it,0,none⟩)) false 0).run P w= .ok (.tuple #[.bool true,e.key,e.val]) {w1 with heap:=w.heap.setIfInBounds it (.mapIter (some m) kvs.length (seen.toArray.push e.born) kvs.length)}:=by
    simp only[Instr.next,getObj,Sem.run_bind,Sem.run,hI,hM,Result.andThen,next_test_false seen.toArray (mkEs 0 kvs).toArray kvs.length kvs.length hold (Nat.le_refl _),Bool.false_eq_true,if_false]
    unfold leftOf
    have hmem:∀x∈(Array.filter (fun e=> !seen.toArray.contains e.born) (mkEs 0 kvs).toArray).toList,x.born<kvs.length:=fun x hx=>hold x (by simp at hx⊢;exact hx.1)
    generalize Array.filter (fun e=> !seen.toArray.contains e.born) (mkEs 0 kvs).toArray=L at hmem⊢
    have e1:L.filter (fun x=>decide (x.born<kvs.length))=L:=Array.filter_eq_self.2 (fun x hx=>by simpa using hmem x (by simpa using hx))
    have e2:L.filter (fun x=>decide (x.born≥kvs.length))= #[]:=by
      rw[Array.filter_eq_empty_iff]
      intro x hx
      have:=hmem x (by simpa using hx)
      simp
      omega
    simp only[e1,e2,Array.append_empty]
    by_cases h0:L.size=0
    · left
      have:L= #[]:=Array.eq_empty_of_size_eq_zero h0
      subst this
      refine⟨rfl,?_⟩
      simp[choose,Sem.run,Question.forced]
    · right
      have hne:L.isEmpty=false:=by simp[Array.isEmpty,h0]
      simp only[hne,Bool.false_eq_true,if_false,Array.empty_append,Array.size_map]
      have hch:∃(j:Nat) (w1:World),j<L.size∧(w1=w∨w1=w.drew)∧(choose (Question.mapNext L.size)).run P w= .ok j w1:=by
        by_cases hf:L.size≤1
        · exact⟨0,w,by omega,.inl rfl,by simp[choose,Sem.run,Question.forced,hf]⟩
        · exact⟨_,w.drew,Nat.mod_lt _ (by omega),.inr rfl,by
            simp only[choose,Sem.run,Question.forced,decide_eq_true_eq,hf,if_false,Question.cut]
            rfl⟩
      obtain⟨j,w1,hj,hal,hrun⟩:=hch
      refine⟨L[j],by simp,w1,hal,?_⟩
      have hh:w1.heap=w.heap:=by rcases hal with rfl|rfl<;>rfl
      have hset:∀o':Obj,(setObj it o').run P w1= .ok () {w1 with heap:=w.heap.setIfInBounds it o'}:=fun o'=>by
        simp only[setObj,Sem.run,hh,hI]
      simp only[hrun,Array.getElem?_map,Array.getElem?_eq_getElem hj,Option.map_some,Sem.run_bind,hset,Result.andThen]
      rfl
  have hlt:it<w.heap.size:=(Array.getElem?_eq_some_iff.1 hI).1
  rcases key with⟨h0,hr⟩|⟨e,he,w1,hw1,hr⟩
  · refine .inl ⟨fun i hi=>?_,fun {ρ ty x} hx=>LoudOp.of_eq fun N D a dst pos af g ha=>⟨_,w,by simp[execOp,ha.ov hx,run_next_ty hr],rfl,Evo.refl _⟩⟩
    have h1:leftOf (mkEs 0 kvs).toArray seen.toArray= #[]:=Array.eq_empty_of_size_eq_zero h0
    unfold leftOf at h1
    rw[Array.filter_eq_empty_iff]at h1
    have h2:(⟨kvs[i].1,kvs[i].2,i⟩:MapEntry)∈(mkEs 0 kvs).toArray:=by
      rw[List.mem_toArray]
      refine List.mem_iff_getElem?.2 ⟨i,?_⟩
      rw[mkEs_get,List.getElem?_eq_getElem hi];simp
    have h3:=h1 _ h2
    simpa using h3
  · unfold leftOf at he
    have he':=Array.mem_toList_iff.1 he
    rw[Array.mem_filter]at he'
    obtain⟨i,hi,hei⟩:=mkEs_mem (by simpa using he'.1)
    subst hei
    refine .inr ⟨i,hi,by simpa using he'.2,fun {ρ ty x} hx=>LoudOp.of_eq fun N D a dst pos af g ha=>⟨_,_,by simp[execOp,ha.ov hx,run_next_ty hr];rfl,rfl,?_,?_⟩⟩
    · show(w.heap.setIfInBounds it _)[it]?=_
      simp[hlt]
    · rcases hw1 with rfl|rfl
      · exact⟨rfl,rfl,rfl,by simp,fun b _ hb=>by simp[Ne.symm hb]⟩
      · exact⟨rfl,rfl,rfl,by simp,fun b _ hb=>by simp[Ne.symm hb]⟩
theorem r_entry{it m i:Nat}{kvs:List (Value×Value)}{seen:List Nat}{A:Nat→Prop}(hx:ov ρ x=some (.pointer (some ⟨it,0,none⟩)))(hi:i<kvs.length)(hE:Evo A w0 w)(hM:MapO w0 m kvs)(hI:ItO w0 it m kvs.length (seen++[i]))(hA:A m:=by first|exact trivial|((try dsimp only[Nb]);omega)|assumption)(hA2:A it:=by first|exact trivial|((try dsimp only[Nb]);omega)|assumption):RunOp P (.entry x) ty ρ w (.tuple #[kvs[i].1,kvs[i].2]):=by
  intro N D a dst pos af g ha
  have h1:=hM.mono hE hA
  have h2:=hI.mono hE hA2
  unfold MapO at h1
  unfold ItO at h2
  have hf:(mkEs 0 kvs).toArray.find? (fun e=>e.born==i)=some ⟨kvs[i].1,kvs[i].2,i⟩:=by
    rw[List.find?_toArray]
    have key:∀(l:List (Value×Value)) (k j:Nat) (hj:j<l.length),(mkEs k l).find? (fun e=>e.born==k+j)=some ⟨l[j].1,l[j].2,k+j⟩:=by
      intro l
      induction l with
      |nil=>intro k j hj;simp at hj
      |cons p r ih=>
        obtain⟨c,d⟩:=p
        intro k j hj
        cases j with
        |zero=>simp[mkEs]
        |succ j=>
          have hne:(k==k+(j+1))=false:=by simp
          simp only[mkEs,List.find?_cons,hne]
          have:=ih (k+1) j (by simpa using hj)
          rw[show k+1+j=k+(j+1) by omega]at this
          simpa using this
    have:=key kvs 0 i hi
    simpa using this
  simp only[execOp,ha.ov hx,Instr.entry,getObj,Sem.run_bind,Sem.run,h1,h2,Result.andThen]
  have hg:(Sem.getObj m Sem.pure).run P w= .ok (.map (mkEs 0 kvs).toArray kvs.length) w:=MapKept.run_getObj_map h1
  simp[hf,hg,Result.andThen]
theorem r_entryE{it m i:Nat}{kvs:List (Value×Value)}{seen:List Nat}{A:Nat→Prop}{a b:Value}(hx:ov ρ x=some (.pointer (some ⟨it,0,none⟩)))(hi:i<kvs.length)(ea:kvs[i].1=a)(eb:kvs[i].2=b)(hE:Evo A w0 w)(hM:MapO w0 m kvs)(hI:ItO w0 it m kvs.length (seen++[i]))(hA:A m:=by first|exact trivial|((try dsimp only[Nb]);omega)|assumption)(hA2:A it:=by first|exact trivial|((try dsimp only[Nb]);omega)|assumption):RunOp P (.entry x) ty ρ w (.tuple #[a,b]):=by
  subst ea eb
  exact r_entry hx hi hE hM hI hA hA2
end
end Go.Proofs.LL
namespace Go.Proofs.LL
open Go Go.RowKit
section
variable {P:Program} {ρ:Fr} {w w0:World} {ty:TypeId} {x y s:Operand}
theorem findNow_at{k:List UInt8}:∀(kvs:List (Value×Value)) (b i j:Nat) (v:Value) (hj:j<kvs.length),kvs[j]=(str k,v)→(∀a (h:a<j),∃s,(kvs[a]'(Nat.lt_trans h hj)).1=str s∧s≠k)→Instr.findNow .string (str k) (mkEs b kvs) i=some (some (i+j,v))
  |(c,d)::r,b,i,0,v,_,he,_=>by
    simp only[List.getElem_cons_zero,Prod.mk.injEq]at he
    obtain⟨rfl,rfl⟩:=he
    have h3:((⟨k.toArray⟩:ByteArray)==⟨k.toArray⟩)=true:=(MapKept.bytes_beq _ _).2 rfl
    simp only[mkEs,Instr.findNow,str,Instr.sameNow,h3,Nat.add_zero]
  |(c,d)::r,b,i,j+1,v,hj,he,hn=>by
    obtain⟨s,h1,h2⟩:=hn 0 (by omega)
    simp only[List.getElem_cons_zero]at h1
    subst h1
    have h3:((⟨k.toArray⟩:ByteArray)==⟨s.toArray⟩)=false:=by
      cases hq:(⟨k.toArray⟩:ByteArray)==⟨s.toArray⟩with
      |false=>rfl
      |true=>exact absurd (by simpa using(MapKept.bytes_beq _ _).1 hq) (Ne.symm h2)
    have ih:=findNow_at r (b+1) (i+1) j v (by simpa using hj) (by simpa using he) (fun a h=>by
      have:=hn (a+1) (by omega)
      simpa using this)
    simp only[mkEs,Instr.findNow,str,Instr.sameNow,h3]at ih⊢
    rw[ih]
    congr 3;omega
theorem r_lookS{t kt m j:Nat}{kvs:List (Value×Value)}{A:Nat→Prop}{k:List UInt8}{v:Value}(ht:mapT P t=some kt)(hs:strT P kt=true)(hx:ov ρ x=some (.map (some m)))(hy:ov ρ y=some (str k))(hE:Evo A w0 w)(hM:MapO w0 m kvs)(hj:j<kvs.length)(he:kvs[j]=(str k,v))(hn:∀a (h:a<j),∃s,(kvs[a]'(Nat.lt_trans h hj)).1=str s∧s≠k)(hA:A m:=by first|exact trivial|((try dsimp only[Nb]);omega)|assumption):
    RunOp P (.lookup t x y false) ty ρ w v:=by
  intro N D a dst pos af g ha
  obtain⟨e,hu⟩:=mapT_some ht
  have h:=hM.mono hE hA
  have hus:=strT_some hs
  have hk:∀b,(Instr.checkKey b 10000 kt (str k)).run P w= .ok () w:=fun b=>KeyOK.str (k:=⟨k.toArray⟩) hs w b
  have hf:(Instr.findKey kt (str k) (mkEs 0 kvs)).run P w= .ok (some (0+j,v)) w:=by
    unfold Instr.findKey
    simp[underlying,hus,findNow_at kvs 0 0 j v hj he hn]
  simp[execOp,ha.ov hx,ha.ov hy,Instr.lookup,underlying,hu,MapKept.run_getObj_map h,hk,hf]
end
theorem r_stlss{P:Program}{ρ:Fr}{w:World}{ty:TypeId}{x y:Operand}{xt yt:TypeId}{a b:List UInt8}(hx:ov ρ x=some (str a))(hy:ov ρ y=some (str b)):RunOp P (.binOp .lss xt x y yt) ty ρ w (.bool (Sort.ltStr a b)):=by
  intro N D ac dst pos af g ha
  simp[execOp,ha.ov hx,ha.ov hy,binOp,eqGuard,Op.stringOp,Proofs.bytesLess_eq,Sort.ltStr,str]
theorem l_lit0{P:Program}{ρ:Fr}{w:World}{ty:TypeId}{t e z bs:Nat}{zv:Value}(ht:slZ P t=some (e,z,bs,zv)):
    LoudOp P (.buildSlice t 0 #[]) ty ρ w (fun v w'=>v= .slice (some ⟨w.heap.size,0,none⟩) 0 0∧Own w.heap.size e z w' v 0 []∧Ext w w'):=by
  obtain⟨i,hu,hi,hz,hzs,rfl,rfl⟩:=slZ_some ht
  refine LoudOp.of_eq fun N D a dst pos af g ha=>⟨_,w.alloc (.cells #[] e),?_,rfl,⟨by simp,.inr ⟨w.heap.size,0, #[],rfl,Nat.le_refl _,?_,Nat.le_refl _,by simp only[maxLen];omega,by simp,by simp⟩⟩,Ext.alloc _ _⟩
  · simp[execOp,Instr.buildSlice,underlying,hu,sizeOf,typeInfo,hi,Instr.fill,newRow]
    have h0:Array.map (fun _=>(default:Value)) (Array.range 0)= #[]:=by simp
    rw[h0]
  · show(w.heap.push _)[w.heap.size]?=_;simp
theorem Own.sorted{B g n cap:Nat}{w:World}{ss ts:List (List UInt8)}{os:Array Obj}(h:Own B 9 1 w (.slice (some ⟨g,0,none⟩) ss.length cap) ss.length (ss.map str))(hl:ts.length=ss.length):
    Own B 9 1 (Sort.grow (Sort.putRow Go.Proofs.encStr (Sort.ahead w n) g 0 ts.toArray) os) (.slice (some ⟨g,0,none⟩) ss.length cap) ss.length (ts.map str):=by
  obtain⟨h1,h2⟩:=h.row
  rcases h2 with⟨h2,_⟩|⟨g',cap',cur,h3,h4,h5,h6,h7,h8,h9⟩
  · cases h2
  · cases h3
    exact⟨ownsRow_sorted hl h4 h5 h6 h7 h8⟩
theorem Own.holds{B g cap:Nat}{w:World}{ss:List (List UInt8)}(h:Own B 9 1 w (.slice (some ⟨g,0,none⟩) ss.length cap) ss.length (ss.map str)):Sort.Holds Go.Proofs.encStr w g 0 ss.toArray∧g<w.heap.size:=by
  obtain⟨h1,h2⟩:=h.row
  rcases h2 with⟨h2,_⟩|⟨g',cap',cur,h3,h4,h5,h6,h7,h8,h9⟩
  · cases h2
  · cases h3
    exact⟨holds_of_block h5 (by simpa using h9),(Array.getElem?_eq_some_iff.1 h5).1⟩
theorem sorted_evo{w:World}{g n:Nat}{os:Array Obj}(d:Array (List UInt8)):Evo (fun k=>k≠g) w (Sort.grow (Sort.putRow Go.Proofs.encStr (Sort.ahead w n) g 0 d) os):=
  (grown_evo (v:= .slice (some ⟨g,0,none⟩) 0 0) (grownBy_sorted d)).weaken fun k _ hk=>by simpa[Value.ownBlock,eq_comm]using hk
end Go.Proofs.LL
namespace Go.Proofs.LL
open Go Go.RowKit
def intT(P:Program)(t:TypeId):Option IntKind:=match P.underlying t with|some (.int k)=>some k|_=>none
theorem intT_some{P:Program}{t:TypeId}{k:IntKind}(h:intT P t=some k):P.underlying t=some (.int k):=by
  unfold intT at h
  split at h
  · rename_i k' hu
    have:k'=k:=Option.some.inj h
    rw[← this];exact hu
  · cases h
def iKV(k:IntKind)(p:Int×Int):Value×Value:=(.int k p.1,.int k p.2)
def tabI:List (Int×Int)→Int→Option Int
  |[],_=>none
  |(a,b)::r,z=>if z=a then some b else tabI r z
theorem findNow_int{k:IntKind}{z:Int}:∀(l:List (Int×Int)) (b i:Nat),∃r:Option (Nat×Value),Instr.findNow (.int k) (.int k z) (mkEs b (l.map (iKV k))) i=some r∧(match tabI l z with|none=>r=none|some y=>∃j,r=some (j,.int k y))
  |[],b,i=>⟨none,rfl,rfl⟩
  |(a,c)::l,b,i=>by
    by_cases h:z=a
    · subst h
      refine⟨some (i,.int k c),?_,?_⟩
      · simp[iKV,mkEs,Instr.findNow,Instr.sameNow]
      · simp[tabI]
    · obtain⟨r,h1,h2⟩:=findNow_int l (b+1) (i+1)
      refine⟨r,?_,?_⟩
      · have:(z==a)=false:=by simpa using h
        simp[iKV,mkEs,Instr.findNow,Instr.sameNow,this]
        simpa[iKV]using h1
      · simpa[tabI,h]using h2
theorem findKey_int{P:Program}{kt:TypeId}{k:IntKind}{z:Int}{w:World}{l:List (Int×Int)}(ht:intT P kt=some k):∃r:Option (Nat×Value),(Instr.findKey kt (.int k z) (mkEs 0 (l.map (iKV k)))).run P w= .ok r w∧(match tabI l z with|none=>r=none|some y=>∃j,r=some (j,.int k y)):=by
  obtain⟨r,h1,h2⟩:=findNow_int (k:=k) (z:=z) l 0 0
  refine⟨r,?_,h2⟩
  unfold Instr.findKey
  simp[underlying,intT_some ht,h1]
theorem KeyOK.int{P:Program}{kt:TypeId}{k:IntKind}{z:Int}(ht:intT P kt=some k):KeyOK P kt (.int k z):=by
  intro w e
  unfold Instr.checkKey
  simp[underlying,intT_some ht]
section
variable {P:Program} {ρ:Fr} {w w0:World} {ty:TypeId} {x y s:Operand}
theorem l_ins{t kt m:Nat}{o kk:Operand}{k:IntKind}{l:List (Int×Int)}{a b:Int}(ht:mapT P t=some kt)(hi:intT P kt=some k)(ho:ov ρ o=some (.map (some m)))(hk:ov ρ kk=some (.int k a))(hx:ov ρ x=some (.int k b))(hM:MapO w m (l.map (iKV k)))(hno:tabI l a=none):
    LoudOp P (.insert t o kk x) ty ρ w (fun _ w'=>MapO w' m ((l++[(a,b)]).map (iKV k))∧Evo (fun b=>b≠m) w w'):=by
  obtain⟨e,hu⟩:=mapT_some ht
  have h1:=KeyOK.int (P:=P) (z:=a) hi w false
  obtain⟨r,hf,hr⟩:=findKey_int (P:=P) (w:=w) (z:=a) (l:=l) hi
  rw[hno]at hr
  simp only at hr
  subst hr
  have hlt:=hM.lt
  refine LoudOp.of_skip fun N D ac dst pos af g ha=>⟨{w with heap:=w.heap.setIfInBounds m (.map ((mkEs 0 (l.map (iKV k))).toArray.push ⟨.int k a,.int k b,(l.map (iKV k)).length⟩) ((l.map (iKV k)).length+1))},?_,?_,⟨rfl,rfl,rfl,by simp,fun b _ hb=>by simp[Ne.symm hb]⟩⟩
  · simp[execOp,ha.ov ho,ha.ov hk,ha.ov hx,Instr.mapUpdate,underlying,hu,MapKept.run_getObj_map hM,h1,hf,MapKept.run_setObj_map _ hM]
  · show(w.heap.setIfInBounds m _)[m]?=_
    rw[List.map_append,List.map_singleton,show iKV k (a,b)=(Value.int k a,Value.int k b)from rfl,(MapKept.heap_set (o':=_) hM).1,mkEs_snoc]
    simp
theorem r_lookI{t kt et m:Nat}{k:IntKind}{l:List (Int×Int)}{A:Nat→Prop}{z:Int}(ht:mapT P t=some kt)(hi:intT P kt=some k)(he:∃q,P.underlying t=some (.map q et)∧zeroT P et=some (.int k 0))(hx:ov ρ x=some (.map (some m)))(hy:ov ρ y=some (.int k z))(hE:Evo A w0 w)(hM:MapO w0 m (l.map (iKV k)))(hA:A m:=by first|exact trivial|((try dsimp only[Nb]);omega)|assumption):
    RunOp P (.lookup t x y false) ty ρ w (.int k ((tabI l z).getD 0)):=by
  intro N D a dst pos af g ha
  have h:=hM.mono hE hA
  obtain⟨q,hu,hz⟩:=he
  have hq:q=kt:=by
    obtain⟨e,hu'⟩:=mapT_some ht
    rw[hu]at hu'
    cases hu';rfl
  subst hq
  have hk:∀b,(Instr.checkKey b 10000 q (.int k z)).run P w= .ok () w:=fun b=>KeyOK.int hi w b
  obtain⟨r,hf,hr⟩:=findKey_int (P:=P) (w:=w) (z:=z) (l:=l) hi
  have hz':(zeroValue et).run P w= .ok (.int k 0) w:=by
    unfold zeroT at hz
    cases hi2:P.info? et with
    |none=>rw[hi2]at hz;cases hz
    |some i=>
      rw[hi2]at hz
      simp[zeroValue,typeInfo,hi2,show i.zero=some (.int k 0)from hz]
  cases ht2:tabI l z with
  |none=>
    rw[ht2]at hr
    simp only at hr
    subst hr
    simp[execOp,ha.ov hx,ha.ov hy,Instr.lookup,underlying,hu,MapKept.run_getObj_map h,hk,hf,hz']
  |some y'=>
    rw[ht2]at hr
    obtain⟨j,rfl⟩:=hr
    simp[execOp,ha.ov hx,ha.ov hy,Instr.lookup,underlying,hu,MapKept.run_getObj_map h,hk,hf]
end
end Go.Proofs.LL
namespace Go.Proofs.LL
open Go Go.RowKit
def mthT(P:Program)(t:TypeId)(name:String):Option FuncId:=
  match P.info? t with
  |some i=>match i.methods.find? (·.name==name)with
    |some m=>match m.path.toList,m.func,P.underlying t with
      |[],some (f,true),some (.pointer _)=>some f
      |[],some (_,false),some (.pointer _)=>none
      |[],some (f,false),some _=>some f
      |_,_,_=>none
    |none=>none
  |none=>none
theorem run_method{P:Program}{t:TypeId}{v:Value}{name:String}{f:FuncId}(h:mthT P t name=some f)(n:Nat)(w:World):(Go.method (n+1) t v name).run P w= .ok (f,v) w:=by
  unfold mthT at h
  split at h
  · rename_i i hi
    split at h
    · rename_i m hm
      unfold Go.method
      split at h
      · rename_i g e hp hf hu
        cases h
        simp[typeInfo,hi,hm,hp,hf,Go.follow,Go.receiverAt,underlying,hu,Go.Place.get]
      · cases h
      · rename_i g d hnp hp hf hu
        cases h
        cases d<;>first|(simp[typeInfo,hi,hm,hp,hf,Go.follow,Go.receiverAt,underlying,hu,Go.Place.get];done)|simp_all
      · cases h
    · cases h
  · cases h
def impT(P:Program)(a t:TypeId):Bool:=
  match P.underlying a,P.info? t with
  |some (.interface want),some i=>(Instr.missingMethod want i.methods).isNone
  |_,_=>false
section
variable {P:Program} {ρ:Fr} {w w0:World} {ty:TypeId} {x y s:Operand}
theorem r_assertIf{a t s:TypeId}{v:Value}(ht:impT P a t=true)(hx:ov ρ x=some (.iface t v)):RunOp P (.typeAssert x s a true) ty ρ w (.tuple #[.iface t v,.bool true]):=by
  intro N D ac dst pos af g ha
  unfold impT at ht
  split at ht
  · rename_i want i hu hi
    have hm:Instr.missingMethod want i.methods=none:=by simpa using ht
    simp[execOp,ha.ov hx,Instr.typeAssert,underlying,hu,typeInfo,hi,hm]
  · cases ht
theorem l_invoke{f:FuncId}{name:String}{t:TypeId}{v:Value}{args:Array Operand}{ts:Array TypeId}{vs:List Value}{R:Value→World→Prop}(hm:mthT P t name=some f)(hb:bodyB P f=true)(hx:ov ρ x=some (.iface t v))(ha:ovs ρ args.toList=some vs)(hc:Does P f (v::vs) w R):
    LoudOp P (.call ⟨.invoke x name,args,ts⟩) ty ρ w R:=by
  intro N D a dst pos af g hha next Q hn
  unfold bodyB at hb
  have e1:args.map a.eval=vs.toArray:=map_evalA hha _ _ ha
  cases hfn:P.funcs[f]? with
  |none=>rw[hfn]at hb;cases hb
  |some fn=>
    rw[hfn]at hb
    simp only[Bool.and_eq_true,Bool.not_eq_true']at hb
    obtain⟨h1,h2⟩:=hb
    have h2' : ¬ fn.name = "runtime.NumGoroutine" := by simpa using h2
    have h1':¬fn.body=none:=by intro h;simp[h]at h1
    have hrun:(execOp a.eval ⟨dst,.call ⟨.invoke x name,args,ts⟩,ty,pos,af,g⟩).run P w= .ok (.enter f (v::vs).toArray) w:=by
      have hd:P.types.size+Made.depth=(P.types.size+Made.depth-1)+1:=by
        have:0<Made.depth:=by decide
        omega
      have hmr:=run_method (v:=v) hm (P.types.size+Made.depth-1) w
      rw[← hd]at hmr
      simp only[execOp,resolve,e1]
      simp[invoke,callMethod,hha.ov hx,hmr,callFunc,hfn,h2',h1']
    unfold Oper.wp
    rw[hrun]
    refine Calls.mono hc.calls fun e w' hr=>?_
    obtain⟨v,rfl,hv⟩:=hr
    exact hn v w' hv
end
def ptrT(P:Program)(t:TypeId):Bool:=
  match P.underlying t with
  |some (.pointer _)=>true
  |_=>false
theorem ptrT_some{P:Program}{t:TypeId}(h:ptrT P t=true):∃e,P.underlying t=some (.pointer e):=by
  unfold ptrT at h
  split at h
  · exact⟨_,by assumption⟩
  · cases h
theorem eqIn_ptrN{P:Program}{t e:TypeId}(hu:P.underlying t=some (.pointer e))(d:Nat)(w:World):(Op.equalIn (d+1) t (.pointer none) (.pointer none)).run P w= .ok true w:=by
  simp[Op.equalIn,underlying,hu]
theorem eqIn_ptrS{P:Program}{t e:TypeId}(hu:P.underlying t=some (.pointer e))(d:Nat)(a:Addr)(w:World):(Op.equalIn (d+1) t (.pointer (some a)) (.pointer none)).run P w= .ok false w:=by
  simp[Op.equalIn,underlying,hu]
section
variable {P:Program} {ρ:Fr} {w w0:World} {ty:TypeId} {x y s:Operand}
theorem r_eql_ptrN{xt yt:TypeId}(ht:ptrT P xt=true)(hx:ov ρ x=some (.pointer none))(hy:ov ρ y=some (.pointer none)):RunOp P (.binOp .eql xt x y yt) ty ρ w (.bool true):=by
  intro N D ac dst pos af g ha
  obtain⟨e,hu⟩:=ptrT_some ht
  have h:∀w:World,(Op.equal xt (.pointer none) (.pointer none)).run P w= .ok true w:=eqIn_ptrN hu _
  simp[execOp,ha.ov hx,ha.ov hy,binOp,h,eqGuard]
theorem r_neq_ptrN{xt yt:TypeId}(ht:ptrT P xt=true)(hx:ov ρ x=some (.pointer none))(hy:ov ρ y=some (.pointer none)):RunOp P (.binOp .neq xt x y yt) ty ρ w (.bool false):=by
  intro N D ac dst pos af g ha
  obtain⟨e,hu⟩:=ptrT_some ht
  have h:∀w:World,(Op.equal xt (.pointer none) (.pointer none)).run P w= .ok true w:=eqIn_ptrN hu _
  simp[execOp,ha.ov hx,ha.ov hy,binOp,h,eqGuard]
theorem r_eql_ptrS{xt yt:TypeId}{a:Addr}(ht:ptrT P xt=true)(hx:ov ρ x=some (.pointer (some a)))(hy:ov ρ y=some (.pointer none)):RunOp P (.binOp .eql xt x y yt) ty ρ w (.bool false):=by
  intro N D ac dst pos af g ha
  obtain⟨e,hu⟩:=ptrT_some ht
  have h:∀w:World,(Op.equal xt (.pointer (some a)) (.pointer none)).run P w= .ok false w:=eqIn_ptrS hu _ a
  simp[execOp,ha.ov hx,ha.ov hy,binOp,h,eqGuard]
theorem r_neq_ptrS{xt yt:TypeId}{a:Addr}(ht:ptrT P xt=true)(hx:ov ρ x=some (.pointer (some a)))(hy:ov ρ y=some (.pointer none)):RunOp P (.binOp .neq xt x y yt) ty ρ w (.bool true):=by
  intro N D ac dst pos af g ha
  obtain⟨e,hu⟩:=ptrT_some ht
  have h:∀w:World,(Op.equal xt (.pointer (some a)) (.pointer none)).run P w= .ok false w:=eqIn_ptrS hu _ a
  simp[execOp,ha.ov hx,ha.ov hy,binOp,h,eqGuard]
end
section
variable {P:Program} {ρ:Fr} {w w0:World} {ty:TypeId} {x y s:Operand}
theorem str_beq(a b:List UInt8):((⟨a.toArray⟩:ByteArray)==⟨b.toArray⟩)=decide (a=b):=by
  by_cases h:a=b
  · subst h
    rw[(MapKept.bytes_beq _ _).2 rfl];simp
  · have:((⟨a.toArray⟩:ByteArray)==⟨b.toArray⟩)=false:=by
      cases hq:((⟨a.toArray⟩:ByteArray)==⟨b.toArray⟩)with
      |false=>rfl
      |true=>
        have:=(MapKept.bytes_beq _ _).1 hq
        exact absurd (by simpa using this) h
    rw[this];simp[h]
theorem r_steqlT{xt yt:TypeId}{a b:List UInt8}(hx:ov ρ x=some (str a))(hy:ov ρ y=some (str b))(h:a=b):RunOp P (.binOp .eql xt x y yt) ty ρ w (.bool true):=by
  intro N D ac dst pos af g ha
  have:=str_beq a b
  simp[execOp,ha.ov hx,ha.ov hy,binOp,eqGuard,Op.stringOp,h]
theorem r_stneqT{xt yt:TypeId}{a b:List UInt8}(hx:ov ρ x=some (str a))(hy:ov ρ y=some (str b))(h:a=b):RunOp P (.binOp .neq xt x y yt) ty ρ w (.bool false):=by
  intro N D ac dst pos af g ha
  simp[execOp,ha.ov hx,ha.ov hy,binOp,eqGuard,Op.stringOp,h]
theorem r_stneqF{xt yt:TypeId}{a b:List UInt8}(hx:ov ρ x=some (str a))(hy:ov ρ y=some (str b))(h:a≠b):RunOp P (.binOp .neq xt x y yt) ty ρ w (.bool true):=by
  intro N D ac dst pos af g ha
  simp[execOp,ha.ov hx,ha.ov hy,binOp,eqGuard,Op.stringOp,h]
theorem r_steqlF{xt yt:TypeId}{a b:List UInt8}(hx:ov ρ x=some (str a))(hy:ov ρ y=some (str b))(h:a≠b):RunOp P (.binOp .eql xt x y yt) ty ρ w (.bool false):=by
  intro N D ac dst pos af g ha
  have:=str_beq a b
  simp[execOp,ha.ov hx,ha.ov hy,binOp,eqGuard,Op.stringOp,h]
end
end Go.Proofs.LL
namespace Go.Proofs.LL
open Go Go.RowKit
theorem cnd_and{c x:Bool}{v:Value}(hc:c=true)(hx:x=true):some (cnd (c&&x) v)=some v:=by simp[cnd,hc,hx]
section
variable {P:Program} {ρ:Fr} {w:World} {ty:TypeId} {x y:Operand}
theorem r_steqE{xt yt:TypeId}{a b:List UInt8}(hx:ov ρ x=some (str a))(hy:ov ρ y=some (str b)):RunOp P (.binOp .eql xt x y yt) ty ρ w (.bool (decide (a=b))):=by
  rcases Decidable.em (a=b)with h|h
  · rw[decide_eq_true h];exact r_steqlT hx hy h
  · rw[decide_eq_false h];exact r_steqlF hx hy h
theorem r_stneE{xt yt:TypeId}{a b:List UInt8}(hx:ov ρ x=some (str a))(hy:ov ρ y=some (str b)):RunOp P (.binOp .neq xt x y yt) ty ρ w (.bool (!decide (a=b))):=by
  rcases Decidable.em (a=b)with h|h
  · rw[decide_eq_true h];exact r_stneqT hx hy h
  · rw[decide_eq_false h];exact r_stneqF hx hy h
end
end Go.Proofs.LL
