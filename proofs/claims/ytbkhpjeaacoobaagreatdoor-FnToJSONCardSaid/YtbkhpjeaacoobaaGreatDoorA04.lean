/- Contracts of functions and own laws. Conditions: those that each theorem states. -/
import Derived.Test.YtbkhpjeaacoobaaGreatDoorA03
import Derived.Deep.AppendSrc
import Derived.Laws.IdiomStrings
import Derived.Laws.CopyRow
import Derived.Laws.Externs
import Derived.Lib.ConvBytes
import Derived.Great.BuildSlice
set_option linter.all false
namespace Go.Proofs.LL
open Go Go.RowKit
theorem run_append_any{P:Program}(B:Nat)(w:World)(t tx ty e:TypeId)(i:TypeInfo)(z:Value)(ht:P.underlying t=some (.slice e))(hi:P.info? e=some i)(hz:i.zero=some z)
    (hzs:z.cells.size=i.size) (v:Value) (n:Nat) (xs:List Value) (hown:w.ownsRow B e i.size v n xs) (hBw:B≤w.heap.size) (x:Value) (m:Nat) (news:List Value) (hs:Src P i.size tx x m news w)
    (h63:n+m≤maxLen) (hbytes:(n+m) * i.bytes≤140737488355328):
    ∃v' w',(Builtin.append_ #[t,tx] ty #[v,x]).run P w= .ok v' w'∧w'.ownsRow B e i.size v' (n+m) (xs++news)∧w.grownBy w' v.ownBlock∧(v'.ownBlock=v.ownBlock∨∀b,v'.ownBlock=some b→w.heap.size≤b):=by
  have hsmall:n+m≤9223372036854775807:=by simp only[maxLen]at h63;omega
  have hl:=hs.newsLen
  have hlen:(xs++news).length=(n+m) * i.size:=by rw[List.length_append,hown.1,hl,Nat.add_mul]
  have grown:∀(old:Nat),old<n+m→∀(row:Option Nat),
      (w.drew.alloc (.cells ((xs++news).toArray++Builtin.zeroCells z.cells (grownCap w (n+m) old e-(n+m))) e)).ownsRow B e i.size
        (.slice (some ⟨w.heap.size,0,none⟩) (n+m) (grownCap w (n+m) old e)) (n+m) (xs++news)∧
      w.grownBy (w.drew.alloc (.cells ((xs++news).toArray++Builtin.zeroCells z.cells (grownCap w (n+m) old e-(n+m))) e)) row:=by
    intro old ho row
    have hge:=grownCap_ge w (n+m) old e
    have hcm:grownCap w (n+m) old e≤maxLen:=grownCap_le_maxLen w (n+m) old e h63
    refine⟨⟨hlen,.inr ⟨w.heap.size,_,_,rfl,hBw,heap_alloc_new w.drew _,hge,hcm,?_,?_⟩⟩,⟨rfl,rfl,rfl,by simp,fun k hk _=>Below.heap_alloc w.drew _ k hk⟩⟩
    · simp only[Array.size_append,List.size_toArray,size_zeroCells,hzs,hlen,← Nat.add_mul]
      congr 1
      omega
    · simp only[Array.toList_append]
      rw[← hlen]
      exact List.take_left
  rcases hown.2 with⟨rfl,rfl⟩|⟨g,cap,cur,rfl,hbg,hg,hnc,hcm,hcs,htake⟩
  · have hx:xs=[]:=List.eq_nil_of_length_eq_zero (by simpa using hown.1)
    subst hx
    by_cases hm:m=0
    · subst hm
      have hn:news=[]:=List.eq_nil_of_length_eq_zero (by simpa using hl)
      subst hn
      refine⟨.slice none 0 0,w,?_,World.ownsRow_nil w B e i.size,⟨rfl,rfl,rfl,Nat.le_refl _,fun _ _ _=>rfl⟩,.inl rfl⟩
      rcases hs.kind with⟨e',hk⟩|hk<;>simp[Builtin.append_,run_underlying ht,run_underlying hk,sizeOf,typeInfo,hi,hs.len,hs.cells]
    · have hr:=run_append_grow_src (P:=P) w t tx ty e i z ht hi hz none 0 0 [] (run_firstCells_none w.drew i.size 0 0 0) x m news hs (by omega) (by omega) (growslice_fits (by omega) hbytes)
      have hgr:=grown 0 (by omega) (Value.ownBlock (.slice none 0 0))
      simp only[Nat.zero_add,List.nil_append]at hgr hr⊢
      exact⟨_,_,hr,hgr.1,hgr.2,.inr fun b hb=>by simp[Value.ownBlock]at hb;omega⟩
  · by_cases hroom:n+m≤cap
    · have hfit:n * i.size+news.length≤cur.size:=by rw[hl,hcs,← Nat.add_mul];exact Nat.mul_le_mul_right _ hroom
      have hst:=run_storeCells_at P g (n * i.size) e news 0 cur w hg (by simpa using hfit) hs.one
      simp only[Nat.add_zero]at hst
      have hr:(Builtin.append_ #[t,tx] ty #[.slice (some ⟨g,0,none⟩) n cap,x]).run P w= .ok (.slice (some ⟨g,0,none⟩) (n+m) cap) (w.setRow g (cur.toList.take (n * i.size)++news++cur.toList.drop (n * i.size+news.length)).toArray):=by
        rcases hs.kind with⟨e',hk⟩|hk<;>simp[Builtin.append_,run_underlying ht,run_underlying hk,sizeOf,typeInfo,hi,hs.len,hroom,hs.cells,Addr.add_lit,hst]
      refine⟨_,_,hr,⟨hlen,.inr ⟨g,cap,_,rfl,hbg,setRow_heap w g cur _ e _ hg,hroom,hcm,?_,?_⟩⟩,⟨rfl,rfl,rfl,by simp,fun k _ hk=>setRow_other w g k _ (fun e=>hk (by simp[Value.ownBlock,e]))⟩,.inl rfl⟩
      · simp only[List.size_toArray,List.length_append,List.length_take,List.length_drop,Array.length_toList]
        omega
      · rw[htake,← hlen]
        exact List.take_left
    · have holds:∀j u,xs[j]?=some u→w.drew.cell? ((⟨g,0,none⟩:Addr).add j)=some u:=hown.cells (g:=g) rfl
      have hr:=run_append_grow_src (P:=P) w t tx ty e i z ht hi hz (some ⟨g,0,none⟩) n cap xs (run_firstCells_some w.drew i.size n ⟨g,0,none⟩ n cap xs hown.1 holds) x m news hs (by omega) (by omega) (growslice_fits (by omega) hbytes)
      have hgr:=grown cap (by omega) (Value.ownBlock (.slice (some ⟨g,0,none⟩) n cap))
      exact⟨_,_,hr,hgr.1,hgr.2,.inr fun b hb=>by simp[Value.ownBlock]at hb;omega⟩
theorem grown_evo{w w':World}{v:Value}(h:w.grownBy w' v.ownBlock):Evo (fun k=>v.ownBlock≠some k) w w':=
  ⟨h.os,h.tape,h.output,h.size,fun k hk hn=>h.block k hk (fun e=>hn e.symm)⟩
theorem grown_ext{w w':World}(h:w.grownBy w' none):Ext w w':=⟨h.os,h.tape,h.output,h.size,fun k hk _=>h.block k hk (by simp)⟩
def slZ(P:Program)(t:TypeId):Option (TypeId×Nat×Nat×Value):=
  match P.underlying t with
  |some (.slice e)=>match P.info? e with
    |some i=>match i.zero with
      |some z=>if z.cells.size=i.size then some (e,i.size,i.bytes,z)else none
      |none=>none
    |none=>none
  |_=>none
theorem slZ_some{P:Program}{t e z bs:Nat}{zv:Value}(h:slZ P t=some (e,z,bs,zv)):∃i,P.underlying t=some (.slice e)∧P.info? e=some i∧i.zero=some zv∧zv.cells.size=i.size∧i.size=z∧i.bytes=bs:=by
  unfold slZ at h
  split at h
  · rename_i e' hu
    split at h
    · rename_i i hi
      split at h
      · rename_i z' hz
        split at h
        · rename_i hs
          simp only[Option.some.injEq,Prod.mk.injEq]at h
          obtain⟨rfl,rfl,rfl,rfl⟩:=h
          exact⟨i,hu,hi,hz,hs,rfl,rfl⟩
        · cases h
      · cases h
    · cases h
  · cases h
section
variable {P:Program} {ρ:Fr} {w w0:World} {ty:TypeId} {x y s:Operand}
theorem l_append{B:Nat}{t tx e z bs n m:Nat}{zv v u:Value}{xs news:List Value}(ht:slZ P t=some (e,z,bs,zv))(hs:ov ρ s=some v)(hx:ov ρ x=some u)(hown:w.ownsRow B e z v n xs)(hBw:B≤w.heap.size)(hsrc:Src P z tx u m news w)
    (h63:n+m≤maxLen) (hbytes:(n+m) * bs≤140737488355328):
    LoudOp P (.call ⟨.builtin .append, #[s,x], #[t,tx]⟩) ty ρ w (fun v' w'=>w'.ownsRow B e z v' (n+m) (xs++news)∧Evo (fun k=>v.ownBlock≠some k) w w'):=by
  obtain⟨i,hu,hi,hz,hzs,rfl,rfl⟩:=slZ_some ht
  obtain⟨v',w',hr,h1,h2,_⟩:=run_append_any (P:=P) B w t tx ty e i zv hu hi hz hzs v n xs hown hBw u m news hsrc h63 hbytes
  exact LoudOp.of_eq fun N D a dst pos af g ha=>⟨v',w',by simp[execOp,ha.ov hs,ha.ov hx,resolve,invoke,builtin,hr],h1,grown_evo h2⟩
theorem l_appendO{B:Nat}{t tx e z bs n m:Nat}{zv v u:Value}{xs news:List Value}(ht:slZ P t=some (e,z,bs,zv))(hs:ov ρ s=some v)(hx:ov ρ x=some u)(hown:w.ownsRow B e z v n xs)(hBw:B≤w.heap.size)(hsrc:Src P z tx u m news w)
    (h63:n+m≤maxLen) (hbytes:(n+m) * bs≤140737488355328):
    LoudOp P (.call ⟨.builtin .append, #[s,x], #[t,tx]⟩) ty ρ w (fun v' w'=>w'.ownsRow B e z v' (n+m) (xs++news)∧Evo (fun k=>v.ownBlock≠some k) w w'∧(v'.ownBlock=v.ownBlock∨∀b,v'.ownBlock=some b→w.heap.size≤b)):=by
  obtain⟨i,hu,hi,hz,hzs,rfl,rfl⟩:=slZ_some ht
  obtain⟨v',w',hr,h1,h2,h3⟩:=run_append_any (P:=P) B w t tx ty e i zv hu hi hz hzs v n xs hown hBw u m news hsrc h63 hbytes
  exact LoudOp.of_eq fun N D a dst pos af g ha=>⟨v',w',by simp[execOp,ha.ov hs,ha.ov hx,resolve,invoke,builtin,hr],h1,grown_evo h2,h3⟩
theorem l_make{t e z bs n:Nat}{zv:Value}{kl kc:IntKind}{l c:Operand}{L M:Int}(ht:slZ P t=some (e,z,bs,zv))(hl:ov ρ l=some (.int kl L))(hc:ov ρ c=some (.int kc M))(eL:L=(n:Int))(eM:M=(n:Int))(hb:bs * n≤281474976710656)(h63:n≤maxLen):
    LoudOp P (.makeSlice t l c) ty ρ w (fun v' w'=>v'= .slice (some ⟨w.heap.size,0,none⟩) n n∧w'.ownsRow w.heap.size e z v' n (madeCells zv.cells (n * z)).toList∧Ext w w'):=by
  obtain⟨i,hu,hi,hz,hzs,rfl,rfl⟩:=slZ_some ht
  subst eL eM
  obtain⟨w',hr,h1,h2⟩:=run_make_full (P:=P) w w.heap.size t e i zv i.size hu hi hz rfl kl kc n hb h63 (Nat.le_refl _)
  exact LoudOp.of_eq fun N D a dst pos af g ha=>⟨_,w',by simp[execOp,ha.ov hl,ha.ov hc,hr],rfl,h1,grown_ext h2⟩
theorem l_make0{t e z bs n:Nat}{zv:Value}{kl kc:IntKind}{l c:Operand}{M:Int}(ht:slZ P t=some (e,z,bs,zv))(hl:ov ρ l=some (.int kl 0))(hc:ov ρ c=some (.int kc M))(eM:M=(n:Int))(hb:bs * n≤281474976710656)(h63:n≤maxLen):
    LoudOp P (.makeSlice t l c) ty ρ w (fun v' w'=>v'= .slice (some ⟨w.heap.size,0,none⟩) 0 n∧w'.ownsRow w.heap.size e z v' 0 []∧Ext w w'):=by
  obtain⟨i,hu,hi,hz,hzs,rfl,rfl⟩:=slZ_some ht
  subst eM
  obtain⟨w',hr,h1,h2⟩:=run_make_own (P:=P) w w.heap.size t e i zv i.size hu hi hz rfl kl kc n hb h63 (Nat.le_refl _)
  exact LoudOp.of_eq fun N D a dst pos af g ha=>⟨_,w',by simp[execOp,ha.ov hl,ha.ov hc,hr],rfl,h1,grown_ext h2⟩
theorem l_makeMap{t:TypeId}{r:Option Operand}(hr:∀o,r=some o→∃k n,ov ρ o=some (.int k n)∧(∃d e,P.underlying t=some (.map d e))):
    LoudOp P (.makeMap t r) ty ρ w (fun v' w'=>v'= .map (some w.heap.size)∧w'=w.alloc (.map #[] 0)):=by
  cases r with
  |none=>exact LoudOp.of_eq fun N D a dst pos af g ha=>⟨_,w.alloc (.map #[] 0),by simp[execOp,Instr.makeMap],rfl,rfl⟩
  |some o=>
    obtain⟨k,n,ho,d,e,hu⟩:=hr o rfl
    exact LoudOp.of_eq fun N D a dst pos af g ha=>⟨_,w.alloc (.map #[] 0),by simp[execOp,Instr.makeMap,ha.ov ho,underlying,hu,asInt,asIntOf],rfl,rfl⟩
def ovp(ρ:Fr):List (Nat×Operand)→Option (List (Nat×Value))
  |[]=>some []
  |(i,o)::r=>match ov ρ o,ovp ρ r with
    |some v,some vs=>some ((i,v)::vs)
    |_,_=>none
theorem map_evalp{N:Nat}{D:List Deferred}{ac:Act}(ha:Has N D ac ρ)(l:List (Nat×Operand))(vs:List (Nat×Value))(h:ovp ρ l=some vs):l.map (fun p=>(p.1,ac.eval p.2))=vs:=by
  induction l generalizing vs with
  |nil=>simp[ovp]at h;simp[h]
  |cons p r ih=>
    obtain⟨i,o⟩:=p
    simp only[ovp]at h
    cases h1:ov ρ o with
    |none=>rw[h1]at h;cases h
    |some v=>
      cases h2:ovp ρ r with
      |none=>rw[h1,h2]at h;cases h
      |some us=>
        rw[h1,h2]at h
        have e:(i,v)::us=vs:=Option.some.inj h
        rw[List.map_cons,ha.ov h1,ih _ h2,e]
theorem map_evalpA{N:Nat}{D:List Deferred}{ac:Act}(ha:Has N D ac ρ)(l:Array (Nat×Operand))(vs:List (Nat×Value))(h:ovp ρ l.toList=some vs):(l.map fun(i,x)=>(i,ac.eval x))=vs.toArray:=by
  apply Array.toList_inj.1
  rw[← map_evalp ha _ _ h]
  simp
theorem r_build{t:TypeId}{ps:Array (Nat×Operand)}{vs:List (Nat×Value)}{cs:Array Value}(hp:ovp ρ ps.toList=some vs)(hb:P.built t vs=some cs):RunOp P (.build t ps) ty ρ w (.agg cs):=by
  intro N D a dst pos af g ha
  have hrun:=run_build (P:=P) w t vs.toArray cs (by simpa using hb)
  simp[execOp,map_evalpA ha _ _ hp,hrun]
end
end Go.Proofs.LL
namespace Go.Proofs.LL
open Go Go.RowKit
def BytesAt(w:World)(b o:Nat)(l:List UInt8):Prop:=∀j (h:j<l.length),w.cell? ⟨b,o+j,none⟩=some (.int .u8 (l[j].toNat:Int))
theorem BytesAt.mono{A:Nat→Prop}{w w':World}{b o:Nat}{l:List UInt8}(h:BytesAt w b o l)(e:Evo A w w')(hA:A b:=by first|exact trivial|((try dsimp only[Nb]);omega)|assumption):BytesAt w' b o l:=fun j hj=>e.cell (h j hj) hA
theorem BytesAt.get{w:World}{b o:Nat}{l:List UInt8}(h:BytesAt w b o l)(j:Nat)(hj:j<l.length):w.cell? ⟨b,o+j,none⟩=some (.int .u8 (l[j].toNat:Int)):=h j hj
theorem BytesAt.sub{w:World}{b o:Nat}{l:List UInt8}(h:BytesAt w b o l)(i n:Nat):BytesAt w b (o+i) ((l.drop i).take n):=fun j hj=>by
  have h1:i+j<l.length:=by simp at hj;omega
  have:=h (i+j) h1
  rw[← Nat.add_assoc]at this
  rw[this]
  simp
def IsB(A:Nat→Prop)(w:World)(v:Value)(l:List UInt8):Prop:=
  ∃p c,v= .slice p l.length c∧l.length≤c∧(l≠[]→∃b o,p=some ⟨b,o,none⟩∧A b∧BytesAt w b o l)
theorem IsB.mono{A B:Nat→Prop}{w w':World}{v:Value}{l:List UInt8}(h:IsB A w v l)(e:Evo B w w')(hAB:∀b,b<w.heap.size→A b→B b:=by(intro b hb1 hb2;first|exact trivial|exact hb2|((try dsimp only[Nb]at hb2⊢);omega))):IsB A w' v l:=by
  obtain⟨p,c,h1,h2,h3⟩:=h
  refine⟨p,c,h1,h2,fun hne=>?_⟩
  obtain⟨b,o,h4,h5,h6⟩:=h3 hne
  have hlt:b<w.heap.size:=by
    have:=lt_of_cell (h6 0 (List.length_pos_iff.2 hne))
    exact this
  exact⟨b,o,h4,h5,h6.mono e (hAB b hlt h5)⟩
theorem IsB.weaken{A B:Nat→Prop}{w:World}{v:Value}{l:List UInt8}(h:IsB A w v l)(hAB:∀b,b<w.heap.size→A b→B b):IsB B w v l:=by
  obtain⟨p,c,h1,h2,h3⟩:=h
  refine⟨p,c,h1,h2,fun hne=>?_⟩
  obtain⟨b,o,h4,h5,h6⟩:=h3 hne
  exact⟨b,o,h4,hAB b (lt_of_cell (h6 0 (List.length_pos_iff.2 hne))) h5,h6⟩
theorem IsB.cut{A:Nat→Prop}{w:World}{p:Option Addr}{n c:Nat}{l:List UInt8}(h:IsB A w (.slice p n c) l)(i k:Nat)(hk:i+k≤l.length):
    IsB A w (.slice (if c=i then p else p.map (·.add (i * 1))) k (c-i)) ((l.drop i).take k):=by
  obtain⟨p',c',h1,h2,h3⟩:=h
  cases h1
  have hlen:((l.drop i).take k).length=k:=by simp;omega
  refine⟨_,c-i,by rw[hlen],by omega,fun hne=>?_⟩
  have hk0:0<k:=by
    rcases Nat.eq_zero_or_pos k with h0|h0
    · subst h0;simp at hne
    · exact h0
  have hl0:l≠[]:=by intro e;subst e;simp at hk;omega
  obtain⟨b,o,rfl,hA,hb⟩:=h3 hl0
  rw[if_neg (by omega)]
  exact⟨b,o+i,by simp[Addr_add],hA,hb.sub i k⟩
theorem IsB.open{A:Nat→Prop}{w:World}{v:Value}{l:List UInt8}(h:IsB A w v l)(hn:0<l.length):∃b o c,v= .slice (some ⟨b,o,none⟩) l.length c∧l.length≤c∧A b∧BytesAt w b o l:=by
  obtain⟨p,c,h1,h2,h3⟩:=h
  obtain⟨b,o,rfl,h4,h5⟩:=h3 (List.length_pos_iff.1 hn)
  exact⟨b,o,c,h1,h2,h4,h5⟩
def be(l:List UInt8):Nat:=l.foldl (fun a b=>a * 256+b.toNat) 0
def ResV(P:Program)(ρ:Fr)(w:World):List ResultVar→List Value→Prop
  |[],[]=>True
  | .tmp t::rs,v::vs=>lk ρ t=some v∧ResV P ρ w rs vs
  | .cell t ty::rs,v::vs=>((∃b o cs,lk ρ t=some (.pointer (some ⟨b,o,none⟩))∧aggT P ty=some cs.length∧At w b o cs∧v= .agg cs.toArray)∨(∃p,lk ρ t=some (.pointer (some p))∧oneT P ty=true∧w.cell? p=some v))∧ResV P ρ w rs vs
  |_,_=>False
def retV:List Value→Value
  |[v]=>v
  |vs=> .tuple vs.toArray
def RetR(P:Program)(rs:List ResultVar)(R:Ending→World→Prop)(e:Exit)(ρ:Fr)(w:World):Prop:=
  match e with
  | .normal| .ret=>∃vs,ResV P ρ w rs vs∧R (.returned (retV vs)) w
  |_=>False
theorem run_resV{P:Program}{N:Nat}{D:List Deferred}{a:Act}{ρ:Fr}{w:World}(ha:Has N D a ρ)(f:ResultVar→Sem Value)(hf1:∀t,f (.tmp t)=pure (a.tmps.getD t undef))(hf2:∀c t,f (.cell c t)=(do loadVar t (← asAddr (a.tmps.getD c undef)))):∀(rs:List ResultVar) (vs:List Value),ResV P ρ w rs vs→
    (rs.mapM f).run P w= .ok vs w
  |[],[],_=>by simp
  | .tmp t::rs,v::vs,h=>by
    obtain⟨h1,h2⟩:=h
    have ih:=run_resV ha f hf1 hf2 rs vs h2
    have e1:(f (.tmp t)).run P w= .ok v w:=by rw[hf1,ha.val t v h1];rfl
    simp[List.mapM_cons,e1,ih]
  | .cell t ty::rs,v::vs,h=>by
    obtain⟨h1,h2⟩:=h
    have ih:=run_resV ha f hf1 hf2 rs vs h2
    have e1:(f (.cell t ty)).run P w= .ok v w:=by
      rw[hf2]
      rcases h1 with⟨b,o,cs,h3,h4,h5,rfl⟩|⟨p,h3,h4,h5⟩
      · obtain⟨h6,i,hi,hs⟩:=agg_some h4
        have hl:(loadCells ⟨b,o,none⟩ cs.length).run P w= .ok cs.toArray w:=
          run_loadCells_list (P:=P) (w:=w) ⟨b,o,none⟩ cs fun j v hv=>by
            rw[Addr_add];exact h5.get hv
        rw[ha.val t _ h3]
        simp[asAddr,loadVar,h6,sizeOf,typeInfo,hi,hs,hl]
      · rw[ha.val t _ h3]
        simp[asAddr,loadVar,isAgg_one h4,h5]
    simp[List.mapM_cons,e1,ih]
  |[],_::_,h=>h.elim
  | .tmp _::_,[],h=>h.elim
  | .cell _ _::_,[],h=>h.elim
theorem run_results{P:Program}{N:Nat}{D:List Deferred}{a:Act}{ρ:Fr}{w:World}{fn:Func}(ha:Has N D a ρ){rs:List ResultVar}{vs:List Value}(hr:fn.results=rs.toArray)(h:ResV P ρ w rs vs):
    (results fn a.tmps).run P w= .ok (retV vs) w:=by
  unfold results
  rw[hr]
  simp only[Sem.run_bind,List.mapM_toArray,Sem.run_map]
  rw[run_resV ha _ (fun _=>rfl) (fun _ _=>rfl) rs vs h]
  simp only[Result.andThen_ok]
  match vs with
  |[]=>simp[retV]
  |[v]=>simp[retV]
  |_::_::_=>simp[retV]
theorem callsR{P:Program}{f:FuncId}{fn:Func}{c:Code}{l:List Value}{w:World}{R:Ending→World→Prop}{rs:List ResultVar}(hf:P.funcs[f]?=some fn)(hb:fn.body=some c)(hr:fn.results=rs.toArray)(hn:Nat.ble l.length fn.ntmps=true)
    (h:WC P fn.ntmps [] c (argsFr 0 l) w (RetR P rs R)):Calls P f l.toArray w R:=by
  refine calls_of_wp hf hb (Code.wp_mono (fun e a w' hq=>?_) (h _ (has_args (by simpa[Nat.ble_eq]using hn))))
  obtain⟨ρ,ha,hx⟩:=hq
  cases e<;>simp only[RetR]at hx
  case normal=>obtain⟨vs,hv,hR⟩:=hx;exact⟨ha.defers,_,run_results ha hr hv,hR⟩
  case ret=>obtain⟨vs,hv,hR⟩:=hx;exact⟨ha.defers,_,run_results ha hr hv,hR⟩
theorem doesR{P:Program}{f:FuncId}{fn:Func}{c:Code}{l:List Value}{w:World}{R:Value→World→Prop}{rs:List ResultVar}(hf:P.funcs[f]?=some fn)(hb:fn.body=some c)(hr:fn.results=rs.toArray)(hn:Nat.ble l.length fn.ntmps=true)
    (h:WC P fn.ntmps [] c (argsFr 0 l) w (RetR P rs (Rets R))):Does P f l w R:=⟨callsR hf hb hr hn h⟩
theorem finR{P:Program}{R:Value→World→Prop}{ρ:Fr}{w:World}{rs:List ResultVar}{vs:List Value}(h:ResV P ρ w rs vs)(hR:R (retV vs) w):RetR P rs (Rets R) .ret ρ w:=⟨vs,h,_,rfl,hR⟩
theorem finRn{P:Program}{R:Value→World→Prop}{ρ:Fr}{w:World}{rs:List ResultVar}{vs:List Value}(h:ResV P ρ w rs vs)(hR:R (retV vs) w):RetR P rs (Rets R) .normal ρ w:=⟨vs,h,_,rfl,hR⟩
theorem finC{P:Program}{R:Value→World→Prop}{ρ:Fr}{w:World}{t b:Nat}{ty:TypeId}{cs:List Value}(h:lk ρ t=some (.pointer (some ⟨b,0,none⟩)))(hB:Blk w b cs)(ht:aggT P ty=some cs.length)(hR:R (.agg cs.toArray) w):RetR P [.cell t ty] (Rets R) .ret ρ w:=
  finR (vs:=[_]) ⟨.inl ⟨b,0,cs,h,ht,hB.at,rfl⟩,trivial⟩ hR
theorem finCt{P:Program}{R:Value→World→Prop}{ρ:Fr}{w:World}{t b t1:Nat}{ty:TypeId}{cs:List Value}{v:Value}(h:lk ρ t=some (.pointer (some ⟨b,0,none⟩)))(hB:Blk w b cs)(ht:aggT P ty=some cs.length)(h1:lk ρ t1=some v)(hR:R (.tuple #[.agg cs.toArray,v]) w):RetR P [.cell t ty,.tmp t1] (Rets R) .ret ρ w:=
  finR (vs:=[_,_]) ⟨.inl ⟨b,0,cs,h,ht,hB.at,rfl⟩,h1,trivial⟩ hR
def u8T(P:Program)(t:TypeId):Bool:=
  match P.underlying t with
  |some (.slice e)=>match P.underlying e with
    |some (.int .u8)=>(match P.info? e with|some i=>i.size==1|none=>false)
    |_=>false
  |_=>false
theorem u8T_some{P:Program}{t:TypeId}(h:u8T P t=true):∃e i,P.underlying t=some (.slice e)∧P.underlying e=some (.int .u8)∧P.info? e=some i∧i.size=1:=by
  unfold u8T at h
  split at h
  · rename_i e hu
    split at h
    · rename_i he
      split at h
      · rename_i i hi;exact⟨e,i,hu,he,hi,by simpa using h⟩
      · cases h
    · cases h
  · cases h
def b2sT(P:Program)(s d:TypeId):Bool:=u8T P s&&strT P d
theorem strT_some{P:Program}{t:TypeId}(h:strT P t=true):P.underlying t=some .string:=by
  unfold strT at h
  split at h
  · assumption
  · cases h
abbrev str(l:List UInt8):Value:= .string ⟨l.toArray⟩
section
variable {P:Program} {ρ:Fr} {w w0:World} {ty:TypeId} {x y:Operand}
theorem r_b2s{A B:Nat→Prop}{s d:TypeId}{v:Value}{l:List UInt8}(ht:b2sT P s d=true)(hx:ov ρ x=some v)(hE:Evo B w0 w)(hI:IsB A w0 v l)(hAB:∀b,b<w0.heap.size→A b→B b:=by(intro b hb1 hb2;first|exact trivial|exact hb2|((try dsimp only[Nb]at hb2⊢);omega))):RunOp P (.convert s d x) ty ρ w (str l):=by
  intro N D a dst pos af g ha
  simp only[b2sT,Bool.and_eq_true]at ht
  obtain⟨e,i,hu,he,hi,hsz⟩:=u8T_some ht.1
  have hd:=strT_some ht.2
  obtain⟨p,c,rfl,hc,hb⟩:=hI.mono hE hAB
  have key:(convert s d (.slice p l.length c)).run P w= .ok (str l) w:=by
    rcases Nat.eq_zero_or_pos l.length with h0|h0
    · have:l=[]:=List.eq_nil_of_length_eq_zero h0
      subst this
      show(convert s d (.slice p 0 c)).run P w= .ok (str []) w
      rw[run_convert_bytes_string w s d e p 0 c hu he hd]
      have:(Conv.bytesToString (.slice p 0 c)).run P w= .ok (.string ⟨#[]⟩) w:=by
        cases p<;>simp[Conv.bytesToString,loadCells]<;>rfl
      simpa using this
    · obtain⟨b,o,rfl,hA,hB⟩:=hb (List.length_pos_iff.1 h0)
      exact run_convert_bytes_back w s d e ⟨b,o,none⟩ c l hu he hd fun j hj=>by rw[Addr_add];exact hB j hj
  simp[execOp,ha.ov hx,key]
theorem l_s2b{s d:TypeId}{l:ByteArray}(ht:strT P s=true)(hd:u8T P d=true)(hx:ov ρ x=some (.string l)):LoudOp P (.convert s d x) ty ρ w (fun v w'=>(∃c,v= .slice (some ⟨w.heap.size,0,none⟩) l.data.toList.length c∧l.data.toList.length≤c)∧BytesAt w' w.heap.size 0 l.data.toList∧w.heap.size<w'.heap.size∧Ext w w'):=by
  obtain⟨e,i,hu,he,hi,hsz⟩:=u8T_some hd
  refine LoudOp.of_eq fun N D a dst pos af g ha=>⟨.slice (some ⟨w.heap.size,0,none⟩) l.size (grownCap w l.size 0 e),Go.Lib.bytesWorld w e l,by simp[execOp,ha.ov hx,Go.Lib.run_convert_string_bytes w s d e l (strT_some ht) hu he],⟨grownCap w l.size 0 e,?_,?_⟩,?_,?_,?_⟩
  · rfl
  · have:=grownCap_ge w l.size 0 e
    exact this
  · intro j hj
    have:=Go.Lib.bytesWorld_cell w e l j hj
    rw[Nat.zero_add,this]
    simp only[List.getD_eq_getElem?_getD,List.getElem?_eq_getElem hj,Option.getD_some]
  · rw[Go.Lib.bytesWorld_size];omega
  · exact⟨rfl,rfl,rfl,by rw[Go.Lib.bytesWorld_size];omega,fun k hk _=>Go.Lib.bytesWorld_at_old w e l k hk⟩
theorem l_copyB{A:Nat→Prop}{d s:TypeId}{g n c:Nat}{v:Value}{l:List UInt8}{cs:List Value}(hd:u8T P d=true)(hx:ov ρ x=some (.slice (some ⟨g,0,none⟩) n c))(hy:ov ρ y=some v)(hB:Blk w g cs)(hn:cs.length=n)(hI:IsB A w v l)(hl:l.length=n)(hpos:0<n):
    LoudOp P (.call ⟨.builtin .copy, #[x,y], #[d,s]⟩) ty ρ w (fun u w'=>u= .int .i64 (n:Int)∧Blk w' g (l.map fun b=> .int .u8 (b.toNat:Int))∧Evo (Nb g) w w'):=by
  obtain⟨e,i,hu,he,hi,hsz⟩:=u8T_some hd
  obtain⟨b,o,c',rfl,hc,hA,hb⟩:=hI.open (by omega)
  obtain⟨T,hg⟩:=hB
  have hr:=run_copy_row (P:=P) w d s ty e g 0 n c ⟨b,o,none⟩ l.length c' cs.toArray T (l.map fun b=> .int .u8 (b.toNat:Int)) hu (by simp[hi,hsz]) hg (by rw[List.length_map,hl];exact(Nat.min_self n).symm)
    (fun j v hv=>by
      have hj:j<l.length:=by
        have:=(List.getElem?_eq_some_iff.1 hv).1
        simpa using this
      rw[Addr_add,hb j hj]
      rw[List.getElem?_map,List.getElem?_eq_getElem hj]at hv
      exact hv) (by simp[hl,hn]) (fun v hv=>by simp only[List.mem_map]at hv;obtain⟨b,_,rfl⟩:=hv;rfl)
  refine LoudOp.of_eq fun N D a dst pos af gd ha=>⟨_,_,by simp only[execOp,Sem.run_bind,resolve,ha.ov hx,ha.ov hy,List.map_toArray,List.map_cons,List.map_nil,Sem.run_pure,Result.andThen_ok,invoke,builtin,hr];rfl,?_,?_,?_⟩
  · simp[goInt,hl]
  · refine⟨T,?_⟩
    have h2:=setRow_heap w g cs.toArray ((cs.take 0++(l.map fun b=>(Value.int .u8 (b.toNat:Int)))++cs.drop (0+(l.map fun b=>(Value.int .u8 (b.toNat:Int))).length)).toArray) T (0,0) hg
    rw[h2]
    simp[List.drop_eq_nil_of_le (show cs.length≤l.length by omega)]
  · exact⟨rfl,rfl,rfl,by simp,fun k _ hk=>setRow_other w g k _ hk⟩
def arrT(P:Program)(t:TypeId):Option (Nat×Nat):=
  match P.underlying t with
  |some (.array n e)=>(P.info? e).map fun i=>(n,i.size)
  |_=>none
theorem r_sliceArr{t n z b o:Nat}(ht:arrT P t=some (n,z))(hx:ov ρ x=some (.pointer (some ⟨b,o,none⟩))):RunOp P (.slice t x none none none) ty ρ w (.slice (some ⟨b,o,none⟩) n n):=by
  intro N D a dst pos af g ha
  unfold arrT at ht
  split at ht
  · rename_i n' e hu
    obtain⟨i,hi,he⟩:=Option.map_eq_some_iff.1 ht
    simp only[Prod.mk.injEq]at he
    obtain⟨rfl,rfl⟩:=he
    simp[execOp,ha.ov hx,Instr.sliceAt,Instr.sureAddr,Instr.sliceBounds,Instr.sliceBound,underlying,hu,sizeOf,typeInfo,hi]
    intro _
    exact Addr_add
  · cases ht
theorem l_storeA{t b j n:Nat}{cs vs:List Value}(ht:szT P t=some n)(hx:ov ρ x=some (.pointer (some ⟨b,j,none⟩)))(hy:ov ρ y=some (.agg vs.toArray))(hv:vs.all (·.oneCell')=true)(hn:vs.length=n)(hB:Blk w b cs)(hj:Nat.ble (j+vs.length) cs.length=true):
    LoudOp P (.store t x y) ty ρ w (fun _ w'=>Blk w' b (cs.take j++vs++cs.drop (j+vs.length))∧Evo (fun k=>k≠b) w w'∧w'.heap.size=w.heap.size):=by
  obtain⟨T,hg⟩:=hB
  obtain⟨i,hi,hs⟩:=Option.map_eq_some_iff.1 ht
  have hst:=run_storeCells_at (P:=P) b j T vs 0 cs.toArray w hg (by simpa[Nat.ble_eq]using hj) (fun v h=>by simpa using(List.all_eq_true.1 hv) v h)
  refine LoudOp.of_skip fun N D a dst pos af g ha=>⟨w.setRow b (cs.take j++vs++cs.drop (j+vs.length)).toArray,?_,⟨T,?_⟩,⟨rfl,rfl,rfl,by simp,fun k _ hk=>setRow_other w b k _ hk⟩,by simp⟩
  · simp only[Nat.add_zero]at hst
    simp[execOp,ha.ov hx,ha.ov hy,Instr.storeAt,Instr.sureAddr,storeVar,sizeOf,typeInfo,hi,hs,Value.cells,hn,hst]
  · exact setRow_heap w b cs.toArray _ T (0,0) hg
theorem l_buildSlice{t e z bs n:Nat}{zv:Value}{ps:Array (Nat×Operand)}{vs:List (Nat×Value)}{cs:List Value}(ht:slZ P t=some (e,z,bs,zv))(hp:ovp ρ ps.toList=some vs)(hsm:Nat.ble (n * z) 16777216=true)(hpos:Nat.blt 0 (n * z)=true)
    (hf:Instr.fill (fun i=>some (i * z,z)) ((Array.range (n * z)).map (zv.cells[· %zv.cells.size]!)) vs=some cs.toArray):
    LoudOp P (.buildSlice t n ps) ty ρ w (fun v w'=>v= .slice (some ⟨w.heap.size,0,none⟩) n n∧Blk w' w.heap.size cs∧Ext w w'):=by
  obtain⟨i,hu,hi,hz,hzs,rfl,rfl⟩:=slZ_some ht
  refine LoudOp.of_eq fun N D a dst pos af g ha=>⟨_,w.alloc (.cells cs.toArray e),?_,rfl,Blk.new w cs e,Ext.alloc _ _⟩
  have hr:=Go.run_buildSlice (P:=P) w t e n vs.toArray cs.toArray i zv hu hi hz (by simpa[Nat.ble_eq]using hsm) (Nat.ne_of_gt (by simpa[Nat.blt_eq]using hpos)) (by simpa using hf)
  simp[execOp,map_evalpA ha _ _ hp,hr]
theorem l_ext {f : FuncId} {fn : Func} {e : Array Value → Sem Value} {args : Array Operand} {ts : Array TypeId} {vs : List Value} {v : Value} (hf : P.funcs[f]? = some fn) (hname : (fn.name == "runtime.NumGoroutine") = false) (hb : fn.body.isNone = true) (hn : (Extern.findNext fn).isNone = true) (he : Extern.find fn = some e) (ha : ovs ρ args.toList = some vs) (hr : ∀ w : World, (e vs.toArray).run P w = .ok v w) :
    LoudOp P (.call ⟨.value (.func f),args,ts⟩) ty ρ w (fun u w'=>u=v∧w'=w):=by
  refine LoudOp.of_eq fun N D a dst pos af g hha=>⟨v,w,?_,rfl,rfl⟩
  have e1:args.map a.eval=vs.toArray:=map_evalA hha _ _ ha
  have hf':a.eval (.func f)= .func (.func f) #[] #[]:=rfl
  have hn':Extern.findNext fn=none:=by simpa using hn
  have:=run_callFunc_extern (P:=P) hf hname hb hn' he vs.toArray w
  simp[execOp,resolve,hf',Deferred.ofValue,e1,invoke,this,hr]
theorem l_callv{f:FuncId}{o:Operand}{cap:List Value}{args:Array Operand}{ts:Array TypeId}{vs:List Value}{R:Value→World→Prop}(hb:bodyB P f=true)(ho:ov ρ o=some (.func (.func f) #[] cap.toArray))(ha:ovs ρ args.toList=some vs)(hc:Does P f (vs++cap) w R):
    LoudOp P (.call ⟨.value o,args,ts⟩) ty ρ w R:=by
  intro N D a dst pos af g hha next Q hn
  unfold bodyB at hb
  have e1:args.map a.eval=vs.toArray:=map_evalA hha _ _ ha
  have hf:a.eval o= .func (.func f) #[] cap.toArray:=hha.ov ho
  cases hfn:P.funcs[f]? with
  |none=>rw[hfn]at hb;cases hb
  |some fn=>
    rw[hfn]at hb
    simp only[Bool.and_eq_true,Bool.not_eq_true']at hb
    obtain⟨h1,h2⟩:=hb
    have h2' : ¬ fn.name = "runtime.NumGoroutine" := by simpa using h2
    have h1':¬fn.body=none:=by intro h;simp[h]at h1
    have hrun:(execOp a.eval ⟨dst,.call ⟨.value o,args,ts⟩,ty,pos,af,g⟩).run P w= .ok (.enter f (vs++cap).toArray) w:=by
      simp only[execOp,resolve,hf,Deferred.ofValue,e1]
      simp[invoke,callFunc,hfn,h2',h1']
    unfold Oper.wp
    rw[hrun]
    refine Calls.mono hc.calls fun e w' hr=>?_
    obtain⟨v,rfl,hv⟩:=hr
    exact hn v w' hv
end
end Go.Proofs.LL
