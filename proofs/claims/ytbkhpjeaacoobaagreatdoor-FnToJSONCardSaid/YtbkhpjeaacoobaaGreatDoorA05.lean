/- Contracts of functions and own laws. Conditions: those that each theorem states. -/
import Derived.Test.YtbkhpjeaacoobaaGreatDoorA04
import Derived.Scope
set_option linter.all false
namespace Go.Proofs.LL
open Go Go.RowKit
def insL(zs:List Value)(off:Nat)(vs:List Value):List Value:=zs.take off++(vs++zs.drop (off+vs.length))
def fillL(place:Nat→Option (Nat×Nat)):List Value→List (Nat×Value)→Option (List Value)
  |zs,[]=>some zs
  |zs,(i,v)::r=>match place i with
    |none=>none
    |some (off,size)=>bif Nat.beq v.cells.size size&&Nat.ble (off+v.cells.size) zs.length then fillL place (insL zs off v.cells.toList) r else none
theorem set_ins(off:Nat):∀(vs:List Value) (k:Nat) (zs:List Value),off+k+vs.length≤zs.length→
    ((vs.zipIdx k).foldl (fun(cs:Array Value) (p:Value×Nat)=>cs.setIfInBounds (off+p.2) p.1) zs.toArray)=(insL zs (off+k) vs).toArray
  |[],k,zs,h=>by simp[insL]
  |v::vs,k,zs,h=>by
    simp only[List.length_cons]at h
    simp only[List.zipIdx_cons,List.foldl_cons,List.setIfInBounds_toArray]
    rw[set_ins off vs (k+1) (zs.set (off+k) v) (by simp;omega)]
    congr 1
    unfold insL
    apply List.ext_getElem?
    intro i
    simp only[List.getElem?_append,List.getElem?_take,List.getElem?_drop,List.length_take,List.length_set,List.getElem?_set,List.length_cons,List.getElem?_cons,List.cons_append,List.length_append]
    grind
theorem fill_list(place:Nat→Option (Nat×Nat)):∀(vs:List (Nat×Value)) (zs:List Value),Instr.fill place zs.toArray vs=(fillL place zs vs).map List.toArray
  |[],zs=>rfl
  |(i,v)::r,zs=>by
    unfold Instr.fill fillL
    cases hp:place i with
    |none=>rfl
    |some os=>
      obtain⟨off,size⟩:=os
      simp only
      by_cases h:v.cells.size=size∧off+v.cells.size≤zs.length
      · obtain⟨h1,h2⟩:=h
        have hb:(Nat.beq v.cells.size size&&Nat.ble (off+v.cells.size) zs.length)=true:=by simp[h1];omega
        rw[hb]
        simp only[cond_true]
        rw[if_neg (by simp[h1];omega)]
        have hs:=set_ins off v.cells.toList 0 zs (by simpa using h2)
        rw[← fill_list place r]
        congr 1
        have e2:v.cells.toList.zipIdx=v.cells.zipIdx.toList:=by simp
        rw[e2,Array.foldl_toList]at hs
        simpa using hs
      · have hb:(Nat.beq v.cells.size size&&Nat.ble (off+v.cells.size) zs.length)=false:=by
          simp only[Bool.and_eq_false_iff]
          rcases Nat.decEq v.cells.size size with h1|h1
          · left
            cases hq:Nat.beq v.cells.size size with
            |false=>rfl
            |true=>exact absurd (Nat.eq_of_beq_eq_true hq) h1
          · right
            cases hq:Nat.ble (off+v.cells.size) zs.length with
            |false=>rfl
            |true=>exact absurd ⟨h1,Nat.le_of_ble_eq_true hq⟩ h
        rw[hb]
        simp only[cond_false]
        rw[if_pos (by simp;omega)]
        rfl
def bldT(P:Program)(t:TypeId):Option (List (Nat×Nat)×List Value):=
  match P.info? t,P.underlying t with
  |some it,some (.struct fields)=>
    match it.zero,fields.toList.mapM (fun f=>(P.info? f.type).map fun i=>(f.offset,i.size))with
    |some z,some places=>some (places,z.cells.toList)
    |_,_=>none
  |_,_=>none
def numF:Nat→List Value→List (Nat×Value)
  |_,[]=>[]
  |k,v::r=>(k,v)::numF (k+1) r
theorem fillL_flat(z:Nat):∀(vs:List Value) (i:Nat) (done rest:List Value),vs.all (fun v=>Nat.beq v.cells.size z)=true→done.length=i * z→rest.length=vs.length * z→
    fillL (fun i=>some (i * z,z)) (done++rest) (numF i vs)=some (done++vs.flatMap (·.cells.toList))
  |[],i,done,rest,_,_,h3=>by
    have:rest=[]:=List.eq_nil_of_length_eq_zero (by simpa using h3)
    simp[numF,fillL,this]
  |v::vs,i,done,rest,h1,h2,h3=>by
    simp only[List.all_cons,Bool.and_eq_true]at h1
    obtain⟨h1,h1'⟩:=h1
    have hz:v.cells.size=z:=Nat.eq_of_beq_eq_true h1
    simp only[List.length_cons,Nat.add_mul,Nat.one_mul]at h3
    have hb:(Nat.beq v.cells.size z&&Nat.ble (i * z+v.cells.size) (done++rest).length)=true:=by
      simp[hz,h2];omega
    simp only[numF,fillL,hb,cond_true]
    have e:insL (done++rest) (i * z) v.cells.toList=(done++v.cells.toList)++rest.drop z:=by
      unfold insL
      have hl:v.cells.toList.length=z:=by simpa using hz
      rw[← h2,List.take_left,hl,← List.drop_drop,List.drop_left,List.append_assoc]
    rw[e,fillL_flat z vs (i+1) (done++v.cells.toList) (rest.drop z) h1' (by simp[h2,hz,Nat.add_mul]) (by simp;omega)]
    simp
section
variable {P:Program} {ρ:Fr} {w w0:World} {ty:TypeId} {x y:Operand}
theorem r_bld{t:TypeId}{ps:Array (Nat×Operand)}{pl:List (Nat×Nat)}{zs:List Value}{vs:List (Nat×Value)}{cs:List Value}(ht:bldT P t=some (pl,zs))(hp:ovp ρ ps.toList=some vs)(hf:fillL (fun i=>pl[i]?) zs vs=some cs):RunOp P (.build t ps) ty ρ w (.agg cs.toArray):=by
  have hb:P.built t vs=some cs.toArray:=by
    unfold bldT at ht
    unfold Program.built
    cases hi:P.info? t with
    |none=>rw[hi]at ht;cases ht
    |some it=>
      cases hu:P.underlying t with
      |none=>rw[hi,hu]at ht;cases ht
      |some d=>
        rw[hi,hu]at ht
        cases d<;>try cases ht
        rename_i fields
        simp only at ht⊢
        cases hz:it.zero with
        |none=>rw[hz]at ht;cases ht
        |some z=>
          cases hpl:fields.toList.mapM (fun f=>(P.info? f.type).map fun i=>(f.offset,i.size))with
          |none=>rw[hz,hpl]at ht;cases ht
          |some places=>
            rw[hz,hpl]at ht
            simp only[Option.some.injEq,Prod.mk.injEq]at ht
            obtain⟨rfl,rfl⟩:=ht
            simp only
            have:=fill_list (fun i=>places.toArray[i]?) vs z.cells.toList
            rw[Array.toArray_toList]at this
            rw[this]
            simp only[List.getElem?_toArray,hf]
            rfl
  exact r_build hp hb
theorem l_lit{t e z bs n:Nat}{zv:Value}{ps:Array (Nat×Operand)}{vs:List Value}(ht:slZ P t=some (e,z,bs,zv))(hp:ovp ρ ps.toList=some (numF 0 vs))(hall:vs.all (fun v=>Nat.beq v.cells.size z)=true)(hn:vs.length=n)(hsm:Nat.ble (n * z) 16777216=true)(hpos:Nat.blt 0 (n * z)=true):
    LoudOp P (.buildSlice t n ps) ty ρ w (fun v w'=>v= .slice (some ⟨w.heap.size,0,none⟩) n n∧Blk w' w.heap.size (vs.flatMap (·.cells.toList))∧Ext w w'):=by
  refine l_buildSlice ht hp hsm hpos ?_
  have h1:=fill_list (fun i=>some (i * z,z)) (numF 0 vs) ((Array.range (n * z)).map (zv.cells[· %zv.cells.size]!)).toList
  rw[Array.toArray_toList]at h1
  rw[h1]
  have h2:=fillL_flat z vs 0 [] ((Array.range (n * z)).map (zv.cells[· %zv.cells.size]!)).toList hall (by simp) (by simp[hn])
  rw[List.nil_append]at h2
  rw[h2]
  simp
theorem l_storeW{t b n:Nat}{cs vs:List Value}(ht:szT P t=some n)(hx:ov ρ x=some (.pointer (some ⟨b,0,none⟩)))(hy:ov ρ y=some (.agg vs.toArray))(hv:vs.all (·.oneCell')=true)(hn:vs.length=n)(hB:Blk w b cs)(hc:cs.length=n):
    LoudOp P (.store t x y) ty ρ w (fun _ w'=>Blk w' b vs∧Evo (fun k=>k≠b) w w'∧w'.heap.size=w.heap.size):=by
  intro N D a dst pos af g ha next Q hq
  refine l_storeA ht hx hy hv hn hB (by simp[Nat.ble_eq];omega) N D a dst pos af g ha next Q fun v w' h=>hq v w' ?_
  obtain⟨h1,h2⟩:=h
  have e:cs.take 0++vs++cs.drop (0+vs.length)=vs:=by simp[List.drop_eq_nil_of_le (show cs.length≤vs.length by omega)]
  rw[e]at h1
  exact⟨h1,h2⟩
def fldT(P:Program)(s f:Nat):Option (Nat×Bool×Nat):=
  match P.underlying s with
  |some (.struct fs)=>match fs[f]? with
    |some fd=>match aggT P fd.type with
      |some n=>some (fd.offset,true,n)
      |none=>bif oneT P fd.type then some (fd.offset,false,1)else none
    |none=>none
  |_=>none
theorem r_field1{s f k:Nat}{cs:List Value}{v:Value}(ht:fldT P s f=some (k,false,1))(hx:ov ρ x=some (.agg cs.toArray))(hv:cs[k]?=some v):RunOp P (.field s x f) ty ρ w v:=by
  intro N D a dst pos af g ha
  unfold fldT at ht
  split at ht
  · rename_i fs hu
    split at ht
    · rename_i fd hfd
      split at ht
      · simp at ht
      · cases h1:oneT P fd.type with
        |false=>rw[h1]at ht;cases ht
        |true=>
          rw[h1]at ht
          simp only[cond_true,Option.some.injEq,Prod.mk.injEq]at ht
          obtain⟨rfl,_⟩:=ht
          simp[execOp,ha.ov hx,Instr.field,underlying,hu,hfd,asAgg,part,isAgg_one h1,hv]
    · cases ht
  · cases ht
theorem r_fieldA{s f k n:Nat}{cs:List Value}(ht:fldT P s f=some (k,true,n))(hx:ov ρ x=some (.agg cs.toArray)):RunOp P (.field s x f) ty ρ w (.agg ((cs.drop k).take n).toArray):=by
  intro N D a dst pos af g ha
  unfold fldT at ht
  split at ht
  · rename_i fs hu
    split at ht
    · rename_i fd hfd
      split at ht
      · rename_i n' hn
        simp only[Option.some.injEq,Prod.mk.injEq]at ht
        obtain⟨rfl,_,rfl⟩:=ht
        obtain⟨h1,i,hi,hs⟩:=agg_some hn
        simp[execOp,ha.ov hx,Instr.field,underlying,hu,hfd,asAgg,part,h1,sizeOf,typeInfo,hi,hs,List.take_drop,Nat.add_comm]
      · cases h1:oneT P fd.type with
        |false=>rw[h1]at ht;cases ht
        |true=>rw[h1]at ht;simp at ht
    · cases ht
  · cases ht
end
end Go.Proofs.LL
namespace Go.Proofs.LL
open Go Go.RowKit
structure Own (B e z:Nat) (w:World) (v:Value) (n:Nat) (xs:List Value):Prop where
  row:w.ownsRow B e z v n xs
theorem Own.mono{A:Nat→Prop}{B e z n:Nat}{w w':World}{v:Value}{xs:List Value}(h:Own B e z w v n xs)(E:Evo A w w')(hA:∀b,B≤b→b<w.heap.size→A b:=by(intro b hb1 hb2;first|exact trivial|exact hb2|((try dsimp only[Nb]at hb2⊢);omega))):Own B e z w' v n xs:=by
  obtain⟨h1,h2⟩:=h.row
  refine⟨h1,?_⟩
  rcases h2 with h2|⟨g,cap,cur,h3,h4,h5,h6⟩
  · exact .inl h2
  · exact .inr ⟨g,cap,cur,h3,h4,E.obj h5 (hA g h4 (Array.getElem?_eq_some_iff.1 h5).1),h6⟩
theorem Own.low{B B' e z n:Nat}{w:World}{v:Value}{xs:List Value}(h:Own B e z w v n xs)(hB:B'≤B):Own B' e z w v n xs:=by
  obtain⟨h1,h2⟩:=h.row
  refine⟨h1,?_⟩
  rcases h2 with h2|⟨g,cap,cur,h3,h4,h5⟩
  · exact .inl h2
  · exact .inr ⟨g,cap,cur,h3,Nat.le_trans hB h4,h5⟩
theorem Own.nil(B e z:Nat)(w:World):Own B e z w (.slice none 0 0) 0 []:=⟨World.ownsRow_nil w B e z⟩
theorem Own.length{B e z n:Nat}{w:World}{v:Value}{xs:List Value}(h:Own B e z w v n xs):xs.length=n * z:=h.row.1
theorem Own.form{B e z n:Nat}{w:World}{v:Value}{xs:List Value}(h:Own B e z w v n xs):∃p c,v= .slice p n c∧n≤c∧(0<n→∃b,p=some ⟨b,0,none⟩∧B≤b∧b<w.heap.size∧At w b 0 xs):=by
  obtain⟨h1,h2⟩:=h.row
  rcases h2 with⟨rfl,rfl⟩|⟨g,cap,cur,rfl,h4,h5,h6,h7,h8,h9⟩
  · exact⟨none,0,rfl,Nat.le_refl _,fun h=>absurd h (by omega)⟩
  · refine⟨_,cap,rfl,h6,fun _=>⟨g,rfl,h4,(Array.getElem?_eq_some_iff.1 h5).1,fun j hj=>?_⟩⟩
    rw[Nat.zero_add]
    simp only[World.cell?,h5]
    rw[← h9,List.getElem?_take_of_lt (by rw[← h1];exact hj),Array.getElem?_toList]
    rfl
abbrev bc(l:List UInt8):List Value:=l.map fun b=> .int .u8 (b.toNat:Int)
theorem Own.toB{A:Nat→Prop}{B e n:Nat}{w:World}{v:Value}{l:List UInt8}(h:Own B e 1 w v n (bc l))(hA:∀b,B≤b→b<w.heap.size→A b:=by(intro b hb1 hb2;first|exact trivial|exact hb2|((try dsimp only[Nb]at hb2⊢);omega))):IsB A w v l:=by
  have hn:l.length=n:=by have:=h.length;simpa using this
  obtain⟨p,c,h1,h2,h3⟩:=h.form
  refine⟨p,c,by rw[hn];exact h1,by omega,fun hne=>?_⟩
  obtain⟨b,h4,h5,h6,h7⟩:=h3 (by rw[← hn];exact List.length_pos_iff.2 hne)
  refine⟨b,0,h4,hA b h5 h6,fun j hj=>?_⟩
  have:=h7.get (j:=j) (v:= .int .u8 (l[j].toNat:Int)) (by simp[hj])
  exact this
theorem Own.evo{B e z n:Nat}{w w0 w':World}{v:Value}{xs:List Value}(h:Own B e z w v n xs)(E:Evo (fun k=>v.ownBlock≠some k) w w'):Evo (fun k=>k<B) w w':=by
  refine E.weaken fun k hk hkB hv=>?_
  rcases h.row.2 with⟨rfl,_⟩|⟨g,cap,cur,rfl,h4,_⟩
  · simp[Value.ownBlock]at hv
  · simp[Value.ownBlock]at hv;omega
section
variable {P:Program} {ρ:Fr} {w w0:World} {ty:TypeId} {x y s:Operand}
theorem r_quoE{xt yt:TypeId}{k:IntKind}{a b c:Int}(hb:b≠0)(hx:ov ρ x=some (.int k a))(hy:ov ρ y=some (.int k b))(hc:k.wrap (a.tdiv b)=c):RunOp P (.binOp .quo xt x y yt) ty ρ w (.int k c):=hc▸r_quo hb hx hy
theorem r_remE{xt yt:TypeId}{k:IntKind}{a b c:Int}(hb:b≠0)(hx:ov ρ x=some (.int k a))(hy:ov ρ y=some (.int k b))(hc:a.tmod b=c):RunOp P (.binOp .rem xt x y yt) ty ρ w (.int k c):=hc▸r_rem hb hx hy
theorem r_cvIntE{s d:TypeId}{k l:IntKind}{n m:Int}(ht:cvInt P s d=some k)(hx:ov ρ x=some (.int l n))(hc:k.wrap n=m):RunOp P (.convert s d x) ty ρ w (.int k m):=hc▸r_cvInt ht hx
theorem l_app{B t tx e z bs n m:Nat}{zv v u:Value}{xs news:List Value}(ht:slZ P t=some (e,z,bs,zv))(hs:ov ρ s=some v)(hx:ov ρ x=some u)(hown:Own B e z w v n xs)(hsrc:Src P z tx u m news w)
    (hB:B≤w.heap.size) (h63:n+m≤maxLen) (hbytes:(n+m) * bs≤140737488355328):
    LoudOp P (.call ⟨.builtin .append, #[s,x], #[t,tx]⟩) ty ρ w (fun v' w'=>Own B e z w' v' (n+m) (xs++news)∧Evo (fun k=>k<B) w w'):=by
  intro N D a dst pos af g ha next Q hn
  refine l_append ht hs hx hown.row hB hsrc h63 hbytes N D a dst pos af g ha next Q fun v' w' h=>hn v' w' ⟨⟨h.1⟩,hown.evo (w0:=w) h.2⟩
theorem l_appO{B t tx e z bs n m:Nat}{zv v u:Value}{xs news:List Value}(ht:slZ P t=some (e,z,bs,zv))(hs:ov ρ s=some v)(hx:ov ρ x=some u)(hown:Own B e z w v n xs)(hsrc:Src P z tx u m news w)
    (hB:B≤w.heap.size) (h63:n+m≤maxLen) (hbytes:(n+m) * bs≤140737488355328):
    LoudOp P (.call ⟨.builtin .append, #[s,x], #[t,tx]⟩) ty ρ w (fun v' w'=>Own B e z w' v' (n+m) (xs++news)∧Evo (fun k=>v.ownBlock≠some k) w w'∧(v'.ownBlock=v.ownBlock∨∀b,v'.ownBlock=some b→w.heap.size≤b)):=by
  intro N D a dst pos af g ha next Q hn
  exact l_appendO ht hs hx hown.row hB hsrc h63 hbytes N D a dst pos af g ha next Q fun v' w' h=>hn v' w' ⟨⟨h.1⟩,h.2.1,h.2.2⟩
def slK(P:Program)(t:TypeId):Bool:=
  match P.underlying t with
  |some (.slice _)=>true
  |_=>false
theorem slK_some{t:TypeId}(h:slK P t=true):∃e,P.underlying t=some (.slice e):=by
  unfold slK at h
  split at h
  · exact⟨_,by assumption⟩
  · cases h
theorem Src.isB{A:Nat→Prop}{tx:TypeId}{v:Value}{l:List UInt8}(ht:slK P tx=true)(h:IsB A w v l):Src P 1 tx v l.length (bc l) w:=by
  obtain⟨e,he⟩:=slK_some ht
  obtain⟨p,c,rfl,hc,hb⟩:=h
  rcases Nat.eq_zero_or_pos l.length with h0|h0
  · have:l=[]:=List.eq_nil_of_length_eq_zero h0
    subst this
    cases p with
    |none=>exact Src.ofNil w he c
    |some a=>exact Src.ofSlice w he a 0 c [] rfl (by simp) (by simp)
  · obtain⟨b,o,rfl,hA,hB⟩:=hb (List.length_pos_iff.1 h0)
    refine Src.ofSlice w he ⟨b,o,none⟩ l.length c (bc l) (by simp) (fun j u hj=>?_) (fun u hu=>?_)
    · have hj':j<l.length:=by have:=(List.getElem?_eq_some_iff.1 hj).1;simpa using this
      rw[Addr_add,hB j hj']
      rw[List.getElem?_map,List.getElem?_eq_getElem hj']at hj
      exact hj
    · simp only[List.mem_map]at hu
      obtain⟨b,_,rfl⟩:=hu;rfl
theorem Src.at{tx:TypeId}{z n c b o:Nat}{xs:List Value}(ht:slK P tx=true)(h:At w b o xs)(hl:xs.length=n * z)(h1:xs.all (·.oneCell')=true):Src P z tx (.slice (some ⟨b,o,none⟩) n c) n xs w:=by
  obtain⟨e,he⟩:=slK_some ht
  exact Src.ofSlice w he ⟨b,o,none⟩ n c xs hl (fun j u hj=>by rw[Addr_add];exact h.get hj) (fun u hu=>by simpa using(List.all_eq_true.1 h1) u hu)
theorem Src.own{tx:TypeId}{B e z n:Nat}{v:Value}{xs:List Value}(ht:slK P tx=true)(h:Own B e z w v n xs)(hz:0<z)(h1:xs.all (·.oneCell')=true):Src P z tx v n xs w:=by
  obtain⟨e',he⟩:=slK_some ht
  have hl:=h.length
  obtain⟨p,c,rfl,hc,hf⟩:=h.form
  rcases Nat.eq_zero_or_pos n with h0|h0
  · subst h0
    have:xs=[]:=List.eq_nil_of_length_eq_zero (by simpa using hl)
    subst this
    cases p with
    |none=>exact Src.ofNil w he c
    |some a=>exact Src.ofSlice w he a 0 c [] (by simp) (by simp) (by simp)
  · obtain⟨b,rfl,_,_,ha⟩:=hf h0
    exact Src.at ht ha hl h1
theorem Src.str{tx:TypeId}{l:List UInt8}(ht:strT P tx=true):Src P 1 tx (str l) l.length (bc l) w:=by
  have h:=Src.ofString w (strT_some ht) (⟨l.toArray⟩:ByteArray)
  have e1:(⟨l.toArray⟩:ByteArray).size=l.length:=by simp[ByteArray.size]
  have e2:Go.byteCells ⟨l.toArray⟩=bc l:=by simp[Go.byteCells,bc]
  rw[e1,e2]at h
  exact h
theorem l_litO{t e z bs n:Nat}{zv:Value}{ps:Array (Nat×Operand)}{vs:List Value}(ht:slZ P t=some (e,z,bs,zv))(hp:ovp ρ ps.toList=some (numF 0 vs))(hall:vs.all (fun v=>Nat.beq v.cells.size z)=true)(hn:vs.length=n)(hsm:Nat.ble (n * z) 16777216=true)(hpos:Nat.blt 0 (n * z)=true):
    LoudOp P (.buildSlice t n ps) ty ρ w (fun v w'=>v= .slice (some ⟨w.heap.size,0,none⟩) n n∧Own w.heap.size e z w' v n (vs.flatMap (·.cells.toList))∧Ext w w'):=by
  obtain⟨i,hu,hi,hz,hzs,rfl,rfl⟩:=slZ_some ht
  have hlen:(vs.flatMap (·.cells.toList)).length=n * i.size:=by
    have:∀l:List Value,l.all (fun v=>Nat.beq v.cells.size i.size)=true→(l.flatMap (·.cells.toList)).length=l.length * i.size:=by
      intro l
      induction l with
      |nil=>intro _;simp
      |cons v r ih=>
        intro h
        simp only[List.all_cons,Bool.and_eq_true]at h
        have h1:v.cells.size=i.size:=Nat.eq_of_beq_eq_true h.1
        simp[ih h.2,h1,Nat.add_mul];omega
    rw[this vs hall,hn]
  have hf:Instr.fill (fun j=>some (j * i.size,i.size)) ((Array.range (n * i.size)).map (zv.cells[· %zv.cells.size]!)) (numF 0 vs)=some (vs.flatMap (·.cells.toList)).toArray:=by
    have h1:=fill_list (fun j=>some (j * i.size,i.size)) (numF 0 vs) ((Array.range (n * i.size)).map (zv.cells[· %zv.cells.size]!)).toList
    rw[Array.toArray_toList]at h1
    rw[h1]
    have h2:=fillL_flat i.size vs 0 [] ((Array.range (n * i.size)).map (zv.cells[· %zv.cells.size]!)).toList hall (by simp) (by simp[hn])
    rw[List.nil_append]at h2
    rw[h2]
    simp
  have hr:=Go.run_buildSlice (P:=P) w t e n (numF 0 vs).toArray (vs.flatMap (·.cells.toList)).toArray i zv hu hi hz (by have:=Nat.le_of_ble_eq_true hsm;omega) (Nat.ne_of_gt (by simpa[Nat.blt_eq]using hpos)) (by simpa using hf)
  refine LoudOp.of_eq fun N D a dst pos af g ha=>⟨_,w.alloc (.cells (vs.flatMap (·.cells.toList)).toArray e),?_,rfl,⟨hlen,.inr ⟨w.heap.size,n,(vs.flatMap (·.cells.toList)).toArray,rfl,Nat.le_refl _,?_,Nat.le_refl _,?_,?_,?_⟩⟩,Ext.alloc _ _⟩
  · simp[execOp,map_evalpA ha _ _ hp,hr]
  · show(w.heap.push _)[w.heap.size]?=_;simp
  · have h3:=Nat.le_of_ble_eq_true hsm
    have h4:0<n * i.size:=by simpa[Nat.blt_eq]using hpos
    have h5:0<i.size:=Nat.pos_of_mul_pos_left h4
    have h6:n≤n * i.size:=Nat.le_mul_of_pos_right n h5
    have:n≤16777216:=Nat.le_trans h6 h3
    simp only[maxLen];omega
  · simp only[List.size_toArray];exact hlen
  · exact List.take_of_length_le (by show(vs.flatMap (·.cells.toList)).length≤_;omega)
end
end Go.Proofs.LL
namespace Go.Proofs.LL
open Go Go.RowKit
theorem Sub.nil{ρ:Fr}:Sub [] ρ:=trivial
theorem Sub.cons{t:Nat}{v:Value}{r ρ:Fr}(h:LL.lk ρ t=some v)(hr:Sub r ρ):Sub ((t,v)::r) ρ:=⟨h,hr⟩
theorem lk_int{ρ:Fr}{t:Nat}{k:IntKind}{a b:Int}(h:lk ρ t=some (.int k a))(e:a=b):lk ρ t=some (.int k b):=e▸h
theorem Sub.app{a b ρ:Fr}(ha:Sub a ρ)(hb:Sub b ρ):Sub (a++b) ρ:=by
  induction a with
  |nil=>exact hb
  |cons p r ih=>exact⟨ha.1,ih ha.2⟩
theorem WC.loop2{P:Program}{N:Nat}{D:List Deferred}{ρ:Fr}{w:World}{X:Exit→Fr→World→Prop}{c:Code}{ι:Type}(κ:Fr)(fr:ι→Fr)(at_:ι→World→Prop)(μ:ι→Nat)(i0:ι)(hk:Sub κ ρ)(h0:Sub (fr i0) ρ)(hw0:at_ i0 w)
    (round:∀i w,at_ i w→WC P N D c (fr i++κ) w (fun e ρ' w'=>match e with| .normal=>∃j,Sub κ ρ'∧Sub (fr j) ρ'∧at_ j w'∧μ j<μ i|e=>X e ρ' w')):WC P N D (.loop c) ρ w X:=by
  refine WC.loop (fun i=>fr i++κ) at_ μ i0 (h0.app hk) hw0 fun i w' hw a ha=>?_
  refine Code.wp_mono (fun e a' w' hq=>?_) (round i w' hw a ha)
  obtain⟨ρ',ha',hx⟩:=hq
  refine⟨ρ',ha',?_⟩
  cases e<;>try exact hx
  obtain⟨j,h1,h2,h3,h4⟩:=hx
  exact⟨j,h2.app h1,h3,h4⟩
theorem WC.seqJ{P:Program}{N:Nat}{D:List Deferred}{ρ:Fr}{w:World}{X:Exit→Fr→World→Prop}{x y:Code}{ι:Type}(κ:Fr)(fr:ι→Fr)(J:ι→World→Prop)(hk:Sub κ ρ)
    (h1:WC P N D x ρ w (fun e ρ' w'=>match e with| .normal=>∃i,Sub κ ρ'∧Sub (fr i) ρ'∧J i w'|e=>X e ρ' w'))
    (h2:∀i w',J i w'→WC P N D y (fr i++κ) w' X):WC P N D (.seq x y) ρ w X:=by
  refine WC.seq fun a ha=>?_
  refine Code.wp_mono (fun e a' w' hq=>?_) (h1 a ha)
  obtain⟨ρ',ha',hx⟩:=hq
  cases e with
  |normal=>
    obtain⟨i,h3,h4,h5⟩:=hx
    exact⟨ρ',ha',(h2 i w' h5).sub (h4.app h3)⟩
  |_=>exact⟨ρ',ha',hx⟩
theorem WC.thenJ{P:Program}{N:Nat}{D:List Deferred}{ρ:Fr}{w:World}{X:Exit→Fr→World→Prop}{x y:Code}{ι:Type}(κ:Fr)(fr:ι→Fr)(J:ι→World→Prop)(hk:Sub κ ρ)
    (h1:WC P N D x ρ w (fun e ρ' w'=>match e with| .normal=>∃i,Sub κ ρ'∧Sub (fr i) ρ'∧J i w'|e=>X e ρ' w'))
    (h2:∀i w',J i w'→WC P N D y (fr i++κ) w' X):WC P N D x ρ w (andThen P N D y X):=by
  intro a ha
  refine Code.wp_mono (fun e a' w' hq=>?_) (h1 a ha)
  obtain⟨ρ',ha',hx⟩:=hq
  cases e with
  |normal=>
    obtain⟨i,h3,h4,h5⟩:=hx
    exact⟨ρ',ha',(h2 i w' h5).sub (h4.app h3)⟩
  |_=>exact⟨ρ',ha',hx⟩
def noGo(X:Exit→Fr→World→Prop):Exit→Fr→World→Prop
  | .goto _,_,_=>False
  |e,ρ,w=>X e ρ w
theorem WC.scope{P:Program}{N:Nat}{D:List Deferred}{ρ:Fr}{w:World}{X:Exit→Fr→World→Prop}{c:Code}(h:WC P N D c ρ w (noGo X)):WC P N D (.scope c) ρ w X:=by
  intro a ha
  refine wp_scope_straight (Code.wp_mono (fun e a' w' hq=>?_) (h a ha))
  obtain⟨ρ',ha',hx⟩:=hq
  cases e with
  |goto l=>exact hx.elim
  |_=>exact⟨ρ',ha',hx⟩
def fillA(out:List Value)(z:Value)(i:Nat):List Value:=out.take i++List.replicate (out.length-i) z
theorem fillA_zero(out:List Value)(z:Value):fillA out z 0=List.replicate out.length z:=by simp[fillA]
theorem fillA_all(out:List Value)(z:Value){i:Nat}(h:out.length≤i):fillA out z i=out:=by
  simp[fillA,List.take_of_length_le h,Nat.sub_eq_zero_of_le h]
theorem fillA_length(out:List Value)(z:Value){i:Nat}(h:i≤out.length):(fillA out z i).length=out.length:=by
  simp[fillA];omega
theorem fillA_set(out:List Value)(z:Value){i:Nat}{v:Value}(h:out[i]?=some v):(fillA out z i).set i v=fillA out z (i+1):=by
  have hi:i<out.length:=(List.getElem?_eq_some_iff.1 h).1
  unfold fillA
  have e:out.length-i=(out.length-(i+1))+1:=by omega
  have hl:(List.take i out).length=i:=by simp;omega
  rw[e,List.replicate_succ,List.set_append,if_neg (by omega),hl,Nat.sub_self,List.set_cons_zero,List.take_add_one,h]
  simp
def fillN(out:List (List Value))(z:List Value)(i:Nat):List Value:=(out.take i).flatten++(List.replicate (out.length-i) z).flatten
theorem flat_len{k:Nat}:∀(l:List (List Value)),(∀x∈l,x.length=k)→l.flatten.length=l.length * k
  |[],_=>by simp
  |a::r,h=>by
    have:=flat_len r (fun x hx=>h x (by simp[hx]))
    simp[this,h a (by simp),Nat.add_mul];omega
theorem fillN_all(out:List (List Value))(z:List Value){i:Nat}(h:out.length≤i):fillN out z i=out.flatten:=by
  simp[fillN,List.take_of_length_le h,Nat.sub_eq_zero_of_le h]
theorem fillN_length{k:Nat}(out:List (List Value))(z:List Value)(hz:z.length=k)(ho:∀x∈out,x.length=k){i:Nat}(h:i≤out.length):(fillN out z i).length=out.length * k:=by
  unfold fillN
  rw[List.length_append,flat_len (out.take i) (fun x hx=>ho x (List.mem_of_mem_take hx)),flat_len (k:=k) _ (fun x hx=>by rw[List.eq_of_mem_replicate hx,hz])]
  simp only[List.length_take,List.length_replicate,Nat.min_eq_left h]
  rw[← Nat.add_mul]
  congr 1;omega
theorem fillN_set{k:Nat}(out:List (List Value))(z:List Value)(hz:z.length=k)(ho:∀x∈out,x.length=k){i:Nat}{v:List Value}(h:out[i]?=some v):(fillN out z i).take (i * k)++v++(fillN out z i).drop (i * k+v.length)=fillN out z (i+1):=by
  have hi:i<out.length:=(List.getElem?_eq_some_iff.1 h).1
  have hv:v.length=k:=ho v (List.mem_of_getElem? h)
  unfold fillN
  have e:out.length-i=(out.length-(i+1))+1:=by omega
  have h1:(out.take i).flatten.length=i * k:=by
    rw[flat_len (out.take i) (fun x hx=>ho x (List.mem_of_mem_take hx)),List.length_take,Nat.min_eq_left (Nat.le_of_lt hi)]
  rw[e,List.replicate_succ,List.flatten_cons,List.take_add_one,h]
  rw[← h1,List.take_left,List.drop_append,h1,hv]
  have h2:List.drop (i * k+k) (out.take i).flatten=[]:=List.drop_eq_nil_of_le (by omega)
  have h3:i * k+k-i * k=k:=by omega
  rw[h2,h3,List.drop_append,← hz,List.drop_length,Nat.sub_self]
  simp
theorem madeCells_one(z:Value):∀n,(madeCells #[z] (n * 1)).toList=List.replicate n z:=by
  intro n
  rw[Nat.mul_one]
  apply List.ext_getElem
  · simp[madeCells]
  · intro i h1 h2
    simp[madeCells,Nat.mod_one]
theorem Own.blk{B e z n:Nat}{w:World}{b:Nat}{xs:List Value}(h:Own B e z w (.slice (some ⟨b,0,none⟩) n n) n xs):Blk w b xs:=by
  obtain⟨h1,h2⟩:=h.row
  rcases h2 with⟨h2,_⟩|⟨g,cap,cur,h3,h4,h5,h6,h7,h8,h9⟩
  · cases h2
  · simp only[Value.slice.injEq,Option.some.injEq,Addr.mk.injEq]at h3
    obtain⟨⟨rfl,_⟩,_,rfl⟩:=h3
    refine⟨e,?_⟩
    rw[h5,← h9,List.take_of_length_le (by simp;omega)]
section
variable {P:Program} {ρ:Fr} {w w0:World} {ty:TypeId} {x y s:Operand}
theorem l_fill{t b i j:Nat}{z v:Value}{out:List Value}(ht:szT P t=some 1)(hx:ov ρ x=some (.pointer (some ⟨b,j,none⟩)))(hj:j=i)(hy:ov ρ y=some v)(hv:v.oneCell'=true)(hB:Blk w b (fillA out z i))(ho:out[i]?=some v):
    LoudOp P (.store t x y) ty ρ w (fun _ w'=>Blk w' b (fillA out z (i+1))∧Evo (fun k=>k≠b) w w'):=by
  subst hj
  have hi:j<out.length:=(List.getElem?_eq_some_iff.1 ho).1
  intro N D a dst pos af g ha next Q hn
  refine l_store ht hx hy hv hB (by rw[fillA_length _ _ (by omega)];simpa[Nat.blt_eq]using hi) N D a dst pos af g ha next Q fun u w' h=>hn u w' ?_
  rw[fillA_set out z ho]at h
  exact⟨h.1,h.2.1⟩
theorem l_fillN{t b i j k:Nat}{z vs:List Value}{out:List (List Value)}(ht:szT P t=some k)(hx:ov ρ x=some (.pointer (some ⟨b,j,none⟩)))(hj:j=i * k)(hy:ov ρ y=some (.agg vs.toArray))(hv:vs.all (·.oneCell')=true)(hz:z.length=k)(hol:∀x∈out,x.length=k)(hB:Blk w b (fillN out z i))(ho:out[i]?=some vs):
    LoudOp P (.store t x y) ty ρ w (fun _ w'=>Blk w' b (fillN out z (i+1))∧Evo (fun k=>k≠b) w w'):=by
  subst hj
  have hi:i<out.length:=(List.getElem?_eq_some_iff.1 ho).1
  have hl:vs.length=k:=hol vs (List.mem_of_getElem? ho)
  intro N D a dst pos af g ha next Q hn
  refine l_storeA ht hx hy hv hl hB (by
    rw[fillN_length out z hz hol (by omega),hl,← Nat.succ_mul,Nat.ble_eq]
    exact Nat.mul_le_mul_right _ hi) N D a dst pos af g ha next Q fun u w' h=>hn u w' ?_
  rw[fillN_set out z hz hol ho]at h
  exact⟨h.1,h.2.1⟩
theorem l_copyF{A:Nat→Prop}{d t:TypeId}{b o i k c:Nat}{v:Value}{l:List UInt8}{z:List Value}{out:List (List Value)}(hd:u8T P d=true)(hx:ov ρ x=some (.slice (some ⟨b,o,none⟩) k c))(ho:o=i * k)(hy:ov ρ y=some v)(hB:Blk w b (fillN out z i))(hz:z.length=k)(hol:∀x∈out,x.length=k)(hI:IsB A w v l)(hl:l.length=k)(hpos:0<k)(hout:out[i]?=some (bc l)):
    LoudOp P (.call ⟨.builtin .copy, #[x,y], #[d,t]⟩) ty ρ w (fun u w'=>u= .int .i64 (k:Int)∧Blk w' b (fillN out z (i+1))∧Evo (Nb b) w w'):=by
  subst ho
  obtain⟨e,ii,hu,he,hi,hsz⟩:=u8T_some hd
  obtain⟨pb,po,c',rfl,hc,hA,hb⟩:=hI.open (by omega)
  obtain⟨T,hg⟩:=hB
  have hlt:i<out.length:=(List.getElem?_eq_some_iff.1 hout).1
  have hlen:=fillN_length out z hz hol (Nat.le_of_lt hlt)
  have hfit:i * k+l.length≤(fillN out z i).length:=by rw[hlen,hl,← Nat.succ_mul];exact Nat.mul_le_mul_right _ hlt
  have hr:=run_copy_row (P:=P) w d t ty e b (i * k) k c ⟨pb,po,none⟩ l.length c' (fillN out z i).toArray T (bc l) hu (by simp[hi,hsz]) hg (by rw[List.length_map,hl];exact(Nat.min_self k).symm)
    (fun j v hv=>by
      have hj:j<l.length:=by
        have:=(List.getElem?_eq_some_iff.1 hv).1
        simpa using this
      rw[Addr_add,hb j hj]
      rw[List.getElem?_map,List.getElem?_eq_getElem hj]at hv
      exact hv) (by simpa using hfit) (fun v hv=>by simp only[List.mem_map]at hv;obtain⟨b,_,rfl⟩:=hv;rfl)
  refine LoudOp.of_eq fun N D a dst pos af gd ha=>⟨_,_,by simp only[execOp,Sem.run_bind,resolve,ha.ov hx,ha.ov hy,List.map_toArray,List.map_cons,List.map_nil,Sem.run_pure,Result.andThen_ok,invoke,builtin,hr];rfl,?_,?_,?_⟩
  · simp[goInt,hl]
  · refine⟨T,?_⟩
    have h2:=setRow_heap w b (fillN out z i).toArray (((fillN out z i).take (i * k)++bc l++(fillN out z i).drop (i * k+(bc l).length)).toArray) T (0,0) hg
    rw[h2,fillN_set out z hz hol hout]
  · exact⟨rfl,rfl,rfl,by simp,fun k _ hk=>setRow_other w b k _ hk⟩
theorem l_makeB{t e bs n:Nat}{zv:Value}{kl kc:IntKind}{l c:Operand}{L M:Int}(ht:slZ P t=some (e,1,bs,zv))(hz:zv.cells= #[zv])(hl:ov ρ l=some (.int kl L))(hc:ov ρ c=some (.int kc M))(eL:L=(n:Int))(eM:M=(n:Int))(hb:bs * n≤281474976710656)(h63:n≤maxLen):
    LoudOp P (.makeSlice t l c) ty ρ w (fun v' w'=>v'= .slice (some ⟨w.heap.size,0,none⟩) n n∧Blk w' w.heap.size (List.replicate n zv)∧Ext w w'):=by
  intro N D a dst pos af g ha next Q hn
  refine l_make (P:=P) (ty:=ty) (w:=w) ht hl hc eL eM hb h63 N D a dst pos af g ha next Q fun v' w' h=>hn v' w' ?_
  obtain⟨rfl,h2,h3⟩:=h
  refine⟨rfl,?_,h3⟩
  have:=Own.blk ⟨h2⟩
  rw[hz,madeCells_one]at this
  exact this
theorem madeCells_n(z:List Value)(hz:0<z.length):∀n,(madeCells z.toArray (n * z.length)).toList=(List.replicate n z).flatten:=by
  intro n
  apply List.ext_getElem
  · simp[madeCells]
  · intro i h1 h2
    simp only[madeCells]
    have key:∀(n i:Nat) (h:i<((List.replicate n z).flatten).length),((List.replicate n z).flatten)[i]=z[i%z.length]'(Nat.mod_lt _ hz):=by
      intro n
      induction n with
      |zero=>intro i h;simp at h
      |succ n ih=>
        intro i h
        simp only[List.replicate_succ,List.flatten_cons]
        rcases Nat.lt_or_ge i z.length with h4|h4
        · rw[List.getElem_append_left h4]
          congr 1
          exact(Nat.mod_eq_of_lt h4).symm
        · rw[List.getElem_append_right h4,ih]
          congr 1
          rw[Nat.mod_eq_sub_mod h4]
    rw[key n i h2]
    simp[Nat.mod_lt _ hz]
theorem l_makeN{t e z bs n:Nat}{zs:List Value}{kl kc:IntKind}{l c:Operand}{L M:Int}(ht:slZ P t=some (e,z,bs,.agg zs.toArray))(hz:zs.length=z)(hz0:0<z)(hl:ov ρ l=some (.int kl L))(hc:ov ρ c=some (.int kc M))(eL:L=(n:Int))(eM:M=(n:Int))(hb:bs * n≤281474976710656)(h63:n≤maxLen):
    LoudOp P (.makeSlice t l c) ty ρ w (fun v' w'=>v'= .slice (some ⟨w.heap.size,0,none⟩) n n∧Blk w' w.heap.size (List.replicate n zs).flatten∧Ext w w'):=by
  intro N D a dst pos af g ha next Q hn
  refine l_make (P:=P) (ty:=ty) (w:=w) ht hl hc eL eM hb h63 N D a dst pos af g ha next Q fun v' w' h=>hn v' w' ?_
  obtain⟨rfl,h2,h3⟩:=h
  refine⟨rfl,?_,h3⟩
  have:=Own.blk ⟨h2⟩
  subst hz
  have e:(Value.agg zs.toArray).cells=zs.toArray:=rfl
  rw[e,madeCells_n zs hz0]at this
  exact this
end
end Go.Proofs.LL
