/- Contracts of functions and own laws. Conditions: those that each theorem states. -/
import Derived.Test.YtbkhpjeaacoobaaGreatDoorA08
set_option linter.all false
set_option maxRecDepth 20000
namespace Go.Proofs.LL
open Go Go.Proofs Go.RowKit
theorem b2s_27_9:b2sT Tryz.prog 27 9=true:=by kernel_rfl
theorem cv_5_3:cvInt Tryz.prog 5 3=some .i64:=by kernel_rfl
theorem slk_27:slK Tryz.prog 27=true:=by kernel_rfl
theorem slz_27:slZ Tryz.prog 27=some (5,1,1,(.int .u8 0)):=by kernel_rfl
def b64T:List UInt8:=[65,66,67,68,69,70,71,72,73,74,75,76,77,78,79,80,81,82,83,84,85,86,87,88,89,90,97,98,99,100,101,102,103,104,105,106,107,108,109,110,111,112,113,114,115,116,117,118,119,120,121,122,48,49,50,51,52,53,54,55,56,57,43,47]
def sg(k:Nat):UInt8:=b64T.getD k 0
def grp(n left:Nat):List UInt8:=[sg (n / 262144%64),sg (n / 4096%64),if 2≤left then sg (n / 64%64)else 61,if 3≤left then sg (n%64)else 61]
def b64:List UInt8→List UInt8
  |a::b::c::r=>grp (a.toNat * 65536+b.toNat * 256+c.toNat) 3++b64 r
  |[a,b]=>grp (a.toNat * 65536+b.toNat * 256) 2
  |[a]=>grp (a.toNat * 65536) 1
  |[]=>[]
def byAt(t:List UInt8)(j:Nat):Nat:=(t.getD j 0).toNat
def acc3(t:List UInt8)(i:Nat):Nat→Nat
  |0=>0
  |k+1=>acc3 t i k * 256+byAt t (i+k)
theorem byAt_lt(t:List UInt8)(j:Nat):byAt t j<256:=UInt8.toNat_lt _
theorem acc3_lt(t:List UInt8)(i:Nat):∀k,acc3 t i k<256^k
  |0=>by simp[acc3]
  |k+1=>by
    have h1:=acc3_lt t i k
    have h2:=byAt_lt t (i+k)
    rw[acc3,Nat.pow_succ];omega
theorem byAt_drop(t:List UInt8)(i j:Nat):byAt t (i+j)=byAt (t.drop i) j:=by
  simp[byAt,List.getElem?_drop]
theorem b64_step(t:List UInt8)(i:Nat)(hi:i<t.length):b64 (t.drop i)=grp (acc3 t i 3) (min 3 (t.length-i))++b64 (t.drop (i+3)):=by
  have e3:t.drop (i+3)=(t.drop i).drop 3:=by rw[List.drop_drop]
  have el:t.length-i=(t.drop i).length:=by simp
  have ea:acc3 t i 3=byAt (t.drop i) 0 * 65536+byAt (t.drop i) 1 * 256+byAt (t.drop i) 2:=by
    simp only[acc3,byAt_drop];omega
  rw[ea,e3,el]
  have hp:0<(t.drop i).length:=by simp;omega
  generalize t.drop i=u at hp
  match u,hp with
  |[a],_=>simp[b64,byAt]
  |[a,b],_=>simp[b64,byAt]
  |a::b::c::r,_=>
    have:min 3 ((a::b::c::r).length)=3:=by simp only[List.length_cons];omega
    rw[this]
    simp[b64,byAt]
theorem sg_at{k:Nat}(h:k<64):b64T.toArray[k]?=some (sg k):=by
  have hl:b64T.length=64:=rfl
  rw[List.getElem?_toArray,List.getElem?_eq_getElem (by omega)]
  simp[sg,List.getElem?_eq_getElem (show k<b64T.length by omega)]
theorem or_join{a b:Nat}(ha:a<65536)(hb:b<256):bits .or .i64 ((a * 256:Nat):Int) (b:Int)=((a * 256+b:Nat):Int):=by
  rw[bits_join .i64 40 (by decide) (fun n h0 h1=>wrap_i64 (by omega) (by omega)) 8 _ _ (by omega) (by omega) (by omega) (by omega) (by omega) (by omega)]
  omega
theorem acc_step{t:List UInt8}{i k:Nat}(hk:k<3)(hik:i+k<t.length):bits .or .i64 ((acc3 t i k * 256:Nat):Int) (IntKind.i64.wrap ((t[i+k]).toNat:Int))=((acc3 t i (k+1):Nat):Int):=by
  have h1:=acc3_lt t i k
  have h2:acc3 t i k<65536:=by
    rcases(show k=0∨k=1∨k=2 by omega)with rfl|rfl|rfl<;>omega
  rw[wrap_i64 (by have:=UInt8.toNat_lt t[i+k];omega) (by have:=UInt8.toNat_lt t[i+k];omega),or_join h2 (UInt8.toNat_lt _),acc3]
  simp[byAt,List.getElem?_eq_getElem hik]
theorem grp_get{n L q:Nat}(hq:q<4)(hL:1≤L):(grp n (min 3 L))[q]?=some (if q≤L then sg (n / 2^(18-6 * q)%64)else 61):=by
  rcases(show q=0∨q=1∨q=2∨q=3 by omega)with rfl|rfl|rfl|rfl
  · simp[grp]
  · simp[grp,hL]
  · have:(2≤min 3 L)↔2≤L:=by omega
    simp[grp,this]
  · have:(3≤min 3 L)↔3≤L:=by omega
    simp[grp,this]
theorem grp_take{n L q:Nat}(hq:q<4)(hL:1≤L):(grp n (min 3 L)).take (q+1)=(grp n (min 3 L)).take q++[if q≤L then sg (n / 2^(18-6 * q)%64)else 61]:=by
  have h:=grp_get (n:=n) hq hL
  have hl:q<(grp n (min 3 L)).length:=hq
  rw[List.getElem?_eq_getElem hl]at h
  rw[← Option.some.inj h,List.take_append_getElem]
theorem sg_idx{n q:Nat}(hq:q<4)(hn:n<16777216):bits .and .i64 ((n:Int).fdiv (2^(min (18-6 * (q:Int)).toNat IntKind.i64.bits))) 63=((n / 2^(18-6 * q)%64:Nat):Int):=by
  have e0:min (18-6 * (q:Int)).toNat IntKind.i64.bits=18-6 * q:=by
    have:IntKind.i64.bits=64:=rfl
    rw[this];omega
  rw[e0]
  have e1:((n:Int)).fdiv (2^(18-6 * q))=((n / 2^(18-6 * q):Nat):Int):=by
    rw[Int.fdiv_eq_ediv_of_nonneg _ (by exact_mod_cast Nat.zero_le (2^(18-6 * q)))]
    push_cast;rfl
  have h2:n / 2^(18-6 * q)≤n:=Nat.div_le_self _ _
  rw[e1]
  generalize n / 2^(18-6 * q)=m at h2
  rw[show(63:Int)=2^6-1 from rfl,bits_mask .i64 40 (by decide) (fun n h0 h1=>wrap_i64 (by omega) (by omega)) 6 (by decide) _ (by omega) (by omega)]
  push_cast;rfl
theorem b64T_get{k:Nat}(h:k<64):(⟨b64T.toArray⟩:ByteArray)[k]?=some (sg k):=by
  have hl:k<b64T.length:=h
  rw[str_get hl]
  simp[sg,List.getElem?_eq_getElem hl]
theorem Base64_ok{t:List UInt8}{w:World}(ht:t.length≤131072):
    Does Tryz.prog 17 [str t] w fun r w'=>r=str (b64 t)∧Ext w w':=by
  have hsz:({data:=t.toArray}:ByteArray).size=t.length:=rfl
  refine does1 Tryz.func17 rfl rfl rfl ?_
  have he:Evo (fun b=>b<w.heap.size) w w:=Evo.refl w
  refine WC.seq<|WC.region ?_
  refine WL.q rfl (r_assign rfl) ?_
  refine WL.nil ?_
  refine WC.seq<|WC.region ?_
  refine WL.q rfl (r_assign rfl) ?_
  refine WL.nil ?_
  refine WC.seq<|WC.seq<|WC.region ?_
  refine WL.q rfl (r_assign rfl) ?_
  refine WL.nil ?_
  refine WC.block ?_
  refine WC.loop2 (ι:=(Nat×Value)) [(0,_),(2,_)] (fun a=>[(3,a.2),(4,.int .i64 ((3 * a.1:Nat):Int))]) (fun a wi=>(∃l,Own w.heap.size 5 1 wi a.2 l.length (bc l)∧b64 t=l++b64 (t.drop (3 * a.1))∧l.length=4 * a.1)∧3 * a.1≤t.length+2∧Evo (fun b=>b<w.heap.size) w wi) (fun a=>t.length+3-3 * a.1) (0,.slice none 0 0) (.cons rfl (.cons rfl .nil)) (.cons rfl (.cons rfl .nil)) (⟨⟨[],Own.nil _ _ _ _,rfl,rfl⟩,by omega,Evo.refl _⟩) ?_
  intro a wi1 hh;obtain⟨⟨l,hO,ql,qll⟩,na,hE⟩:=hh
  obtain⟨i,ov⟩:=a
  dsimp only at hO ql qll na
  rcases Nat.lt_or_ge (3 * i) t.length with qi|qi
  · skip
    have hT:=Since.mk hE
    refine WC.seq<|WC.seq<|WC.region ?_
    refine WL.q rfl (r_move rfl) ?_
    refine WL.q rfl (r_move rfl) ?_
    refine WL.q rfl (r_lens str_9 rfl) ?_
    refine WL.q rfl (r_cmp (r_lss rfl rfl) (decide_eq_true (by(omega)))) ?_
    refine WL.nil ?_
    refine WC.condT rfl ?_
    refine WC.skip ?_
    refine WC.seq<|WC.block ?_
    refine WC.seq<|WC.region ?_
    refine WL.q rfl (r_move rfl) ?_
    refine WL.q rfl (r_lens str_9 rfl) ?_
    refine WL.q rfl (r_move rfl) ?_
    refine WL.q rfl (r_subi rfl rfl rfl (by omega) (by omega)) ?_
    refine WL.q rfl (r_assign rfl) ?_
    refine WL.q rfl (r_assign rfl) ?_
    refine WL.nil ?_
    refine WC.seq<|WC.seq<|WC.region ?_
    refine WL.q rfl (r_assign rfl) ?_
    refine WL.nil ?_
    refine WC.block ?_
    replace he:=he.then hE
    refine WC.loop2 (ι:=Nat) [(0,_),(2,_),(3,_),(4,_),(6,_)] (fun m=>[(5,.int .i64 (acc3 t (3 * i) m:Int)),(7,.int .i64 (m:Int))]) (fun m wi=>m≤3∧Ext wi1 wi) (fun m=>3-m) 0 (.cons rfl (.cons rfl (.cons rfl (.cons rfl (.cons rfl .nil))))) (.cons rfl (.cons rfl .nil)) (⟨by omega,Ext.refl _⟩) ?_
    intro m wi2 hh;obtain⟨nm,hE⟩:=hh
    rcases Nat.lt_or_ge m 3 with qm|qm
    · have q3:=acc3_lt t (3 * i) m
      have q4:acc3 t (3 * i) m<65536:=by
        rcases(show m=0∨m=1∨m=2 by omega)with rfl|rfl|rfl<;>omega
      have qs:IntKind.i64.wrap ((acc3 t (3 * i) m:Int) * 2^(min (8:Int).toNat IntKind.i64.bits))=((acc3 t (3 * i) m * 256:Nat):Int):=by
        rw[show(2:Int)^(min (8:Int).toNat IntKind.i64.bits)=256 from rfl,wrap_i64 (by omega) (by omega)];omega
      rcases Nat.lt_or_ge (3 * i+m) t.length with qx|qx
      · skip
        refine WC.seq<|WC.seq<|WC.region ?_
        refine WL.q rfl (r_move rfl) ?_
        refine WL.q rfl (r_cmp (r_lss rfl rfl) (decide_eq_true (by(omega)))) ?_
        refine WL.nil ?_
        refine WC.condT rfl ?_
        refine WC.skip ?_
        refine WC.seq<|WC.block ?_
        refine WC.seq<|WC.region ?_
        refine WL.q rfl (r_move rfl) ?_
        refine WL.q rfl (r_as (r_shl rfl rfl (by decide)) qs) ?_
        refine WL.q rfl (r_assign rfl) ?_
        refine WL.nil ?_
        refine WC.seq<|WC.region ?_
        refine WL.q rfl (r_move rfl) ?_
        refine WL.q rfl (r_move rfl) ?_
        refine WL.q rfl (r_cmp (r_lss rfl rfl) (decide_eq_true (by(omega)))) ?_
        refine WL.nil ?_
        refine WC.condT rfl ?_
        refine WC.region ?_
        refine WL.q rfl (r_move rfl) ?_
        refine WL.q rfl (r_move rfl) ?_
        refine WL.q rfl (r_move rfl) ?_
        refine WL.q rfl (r_move rfl) ?_
        refine WL.q rfl (r_addi rfl rfl rfl (by omega) (by omega)) ?_
        refine WL.q rfl (r_idxs str_9 rfl rfl rfl (str_get qx)) ?_
        refine WL.q rfl (r_cvInt cv_5_3 rfl) ?_
        refine WL.q rfl (r_as (r_bitor rfl rfl) (acc_step qm qx)) ?_
        refine WL.q rfl (r_assign rfl) ?_
        refine WL.nil ?_
        refine WC.region ?_
        refine WL.q rfl (r_move rfl) ?_
        refine WL.q rfl (r_addi rfl rfl rfl (by omega) (by omega)) ?_
        refine WL.q rfl (r_assign rfl) ?_
        refine WL.nil ?_
        exact⟨m+1,(.cons rfl (.cons rfl (.cons rfl (.cons rfl (.cons rfl .nil))))),(.cons (lk_int rfl (by omega)) (.cons (lk_int rfl (by omega)) .nil)),⟨qm,(hE)⟩,by omega⟩
      · have qz:acc3 t (3 * i) (m+1)=acc3 t (3 * i) m * 256:=by
          rw[acc3,byAt,List.getD_eq_getElem?_getD,List.getElem?_eq_none (by omega)];rfl
        refine WC.seq<|WC.seq<|WC.region ?_
        refine WL.q rfl (r_move rfl) ?_
        refine WL.q rfl (r_cmp (r_lss rfl rfl) (decide_eq_true (by(omega)))) ?_
        refine WL.nil ?_
        refine WC.condT rfl ?_
        refine WC.skip ?_
        refine WC.seq<|WC.block ?_
        refine WC.seq<|WC.region ?_
        refine WL.q rfl (r_move rfl) ?_
        refine WL.q rfl (r_as (r_shl rfl rfl (by decide)) (qs.trans (congrArg Nat.cast qz.symm))) ?_
        refine WL.q rfl (r_assign rfl) ?_
        refine WL.nil ?_
        refine WC.seq<|WC.region ?_
        refine WL.q rfl (r_move rfl) ?_
        refine WL.q rfl (r_move rfl) ?_
        refine WL.q rfl (r_cmp (r_lss rfl rfl) (decide_eq_false (by(omega)))) ?_
        refine WL.nil ?_
        refine WC.condF rfl ?_
        refine WC.skip ?_
        refine WC.region ?_
        refine WL.q rfl (r_move rfl) ?_
        refine WL.q rfl (r_addi rfl rfl rfl (by omega) (by omega)) ?_
        refine WL.q rfl (r_assign rfl) ?_
        refine WL.nil ?_
        exact⟨m+1,(.cons rfl (.cons rfl (.cons rfl (.cons rfl (.cons rfl .nil))))),(.cons (lk_int rfl (by omega)) (.cons (lk_int rfl (by omega)) .nil)),⟨qm,(hE)⟩,by omega⟩
    · have hm:m=3:=by omega
      subst hm
      refine WC.seq<|WC.seq<|WC.region ?_
      refine WL.q rfl (r_move rfl) ?_
      refine WL.q rfl (r_cmp (r_lss rfl rfl) (decide_eq_false (by(omega)))) ?_
      refine WL.nil ?_
      refine WC.condF rfl ?_
      refine WC.exit ?_
      refine WC.seq<|WC.region ?_
      refine WL.q rfl (r_assign rfl) ?_
      refine WL.nil ?_
      refine WC.block ?_
      have hlc:=acc3_lt t (3 * i) 3
      have hn64:acc3 t (3 * i) 3<16777216:=by omega
      replace hO:=hO.mono hE
      replace hT:=hT.mono hE
      replace he:=he.then hE
      refine WC.loop2 (ι:=(Nat×Value)) [(0,_),(2,_),(4,_),(5,_),(6,_),(7,_)] (fun q=>[(3,q.2),(8,.int .i64 (q.1:Int))]) (fun q wi=>Own w.heap.size 5 1 wi q.2 (l.length+q.1) (bc (l++(grp (acc3 t (3 * i) 3) (min 3 (t.length-3 * i))).take q.1))∧q.1≤4∧Evo (fun b=>b<w.heap.size) wi2 wi) (fun q=>4-q.1) (0,ov) (.cons rfl (.cons rfl (.cons rfl (.cons rfl (.cons rfl (.cons rfl .nil)))))) (.cons rfl (.cons rfl .nil)) (⟨by simpa using hO,by omega,Evo.refl _⟩) ?_
      intro q wi3 hh;obtain⟨hO2,nq,hE⟩:=hh
      obtain⟨q,ov2⟩:=q
      dsimp only at hO2 nq
      rcases Nat.lt_or_ge q 4 with qq|qq
      · have hgt:=grp_take (n:=acc3 t (3 * i) 3) (L:=t.length-3 * i) qq (by omega)
        rcases Nat.lt_or_ge (t.length-3 * i) q with ql2|ql2
        · rw[if_neg (by omega)]at hgt
          refine WC.seq<|WC.seq<|WC.region ?_
          refine WL.q rfl (r_move rfl) ?_
          refine WL.q rfl (r_cmp (r_lss rfl rfl) (decide_eq_true (by(omega)))) ?_
          refine WL.nil ?_
          refine WC.condT rfl ?_
          refine WC.skip ?_
          refine WC.seq<|WC.block ?_
          refine WC.seq<|WC.region ?_
          refine WL.q rfl (r_move rfl) ?_
          refine WL.q rfl (r_move rfl) ?_
          refine WL.q rfl (r_cmp (r_leq rfl rfl) (decide_eq_false (by(omega)))) ?_
          refine WL.nil ?_
          refine WC.condF rfl ?_
          refine WC.region ?_
          refine WL.q rfl (r_move rfl) ?_
          replace he:=he.then hE
          have hs1:=he.size
          refine WL.l rfl (l_lit (vs:=[_]) slz_27 rfl (by first|rfl|(simp[Value.cells,Nat.beq_eq, *];done)) rfl rfl rfl) fun _ w1 hh=>?_
          obtain⟨rfl,hb1,e1⟩:=hh
          replace hO2:=hO2.mono e1
          refine WL.l rfl (l_app slz_27 rfl rfl hO2 (Src.at slk_27 hb1.at rfl rfl) (by have:=e1.size;omega) (by simp only[maxLen];omega) (by omega)) fun v2 w2 hh=>?_
          obtain⟨hO2,e2⟩:=hh
          refine WL.q rfl (r_assign rfl) ?_
          refine WL.nil ?_
          refine WC.region ?_
          refine WL.q rfl (r_move rfl) ?_
          refine WL.q rfl (r_addi rfl rfl rfl (by omega) (by omega)) ?_
          refine WL.q rfl (r_assign rfl) ?_
          refine WL.nil ?_
          have hO3:Own w.heap.size 5 1 w2 v2 (l.length+(q+1)) (bc (l++(grp (acc3 t (3 * i) 3) (min 3 (t.length-3 * i))).take (q+1))):=by
            rw[hgt,← List.append_assoc,bc_append];exact hO2
          exact⟨(q+1,v2),(.cons rfl (.cons rfl (.cons rfl (.cons rfl (.cons rfl (.cons rfl .nil)))))),(.cons rfl (.cons (lk_int rfl (by omega)) .nil)),⟨hO3,by dsimp only;omega,(((hE.then e1).then e2))⟩,(by dsimp only;omega)⟩
        · rw[if_pos (by omega)]at hgt
          refine WC.seq<|WC.seq<|WC.region ?_
          refine WL.q rfl (r_move rfl) ?_
          refine WL.q rfl (r_cmp (r_lss rfl rfl) (decide_eq_true (by(omega)))) ?_
          refine WL.nil ?_
          refine WC.condT rfl ?_
          refine WC.skip ?_
          refine WC.seq<|WC.block ?_
          refine WC.seq<|WC.region ?_
          refine WL.q rfl (r_move rfl) ?_
          refine WL.q rfl (r_move rfl) ?_
          refine WL.q rfl (r_cmp (r_leq rfl rfl) (decide_eq_true (by(omega)))) ?_
          refine WL.nil ?_
          refine WC.condT rfl ?_
          refine WC.region ?_
          refine WL.q rfl (r_move rfl) ?_
          refine WL.q rfl (r_move rfl) ?_
          refine WL.q rfl (r_move rfl) ?_
          refine WL.q rfl (r_muli (c:=6 * (q:Int)) rfl rfl rfl (by omega) (by omega)) ?_
          refine WL.q rfl (r_subi rfl rfl rfl (by omega) (by omega)) ?_
          refine WL.q rfl (r_shr rfl rfl (by omega)) ?_
          refine WL.q rfl (r_as (r_bitand rfl rfl) (sg_idx qq hn64)) ?_
          refine WL.q rfl (r_idxs str_9 rfl rfl rfl (b64T_get (Nat.mod_lt _ (by decide)))) ?_
          replace he:=he.then hE
          have hs1:=he.size
          refine WL.l rfl (l_lit (vs:=[_]) slz_27 rfl (by first|rfl|(simp[Value.cells,Nat.beq_eq, *];done)) rfl rfl rfl) fun _ w1 hh=>?_
          obtain⟨rfl,hb1,e1⟩:=hh
          replace hO2:=hO2.mono e1
          refine WL.l rfl (l_app slz_27 rfl rfl hO2 (Src.at slk_27 hb1.at rfl rfl) (by have:=e1.size;omega) (by simp only[maxLen];omega) (by omega)) fun v2 w2 hh=>?_
          obtain⟨hO2,e2⟩:=hh
          refine WL.q rfl (r_assign rfl) ?_
          refine WL.nil ?_
          refine WC.region ?_
          refine WL.q rfl (r_move rfl) ?_
          refine WL.q rfl (r_addi rfl rfl rfl (by omega) (by omega)) ?_
          refine WL.q rfl (r_assign rfl) ?_
          refine WL.nil ?_
          have hO3:Own w.heap.size 5 1 w2 v2 (l.length+(q+1)) (bc (l++(grp (acc3 t (3 * i) 3) (min 3 (t.length-3 * i))).take (q+1))):=by
            rw[hgt,← List.append_assoc,bc_append];exact hO2
          exact⟨(q+1,v2),(.cons rfl (.cons rfl (.cons rfl (.cons rfl (.cons rfl (.cons rfl .nil)))))),(.cons rfl (.cons (lk_int rfl (by omega)) .nil)),⟨hO3,by dsimp only;omega,(((hE.then e1).then e2))⟩,(by dsimp only;omega)⟩
      · have hq4:q=4:=by omega
        subst hq4
        refine WC.seq<|WC.seq<|WC.region ?_
        refine WL.q rfl (r_move rfl) ?_
        refine WL.q rfl (r_cmp (r_lss rfl rfl) (decide_eq_false (by(omega)))) ?_
        refine WL.nil ?_
        refine WC.condF rfl ?_
        refine WC.exit ?_
        refine WC.region ?_
        refine WL.q rfl (r_move rfl) ?_
        refine WL.q rfl (r_addi rfl rfl rfl (by omega) (by omega)) ?_
        refine WL.q rfl (r_assign rfl) ?_
        refine WL.nil ?_
        have hst:=b64_step t (3 * i) qi
        have hO4:=hO2.cast (m:=(l++grp (acc3 t (3 * i) 3) (min 3 (t.length-3 * i))).length) (by simp[grp]) rfl
        replace hT:=hT.mono hE
        exact⟨(i+1,ov2),(.cons rfl (.cons rfl .nil)),(.cons rfl (.cons (lk_int rfl (by omega)) .nil)),⟨⟨_,hO4,by rw[List.append_assoc];dsimp only;rw[show 3 * (i+1)=3 * i+3 by omega,← hst];exact ql,by simp[grp];omega⟩,by dsimp only;omega,hT.evo⟩,(by dsimp only;omega)⟩
  · have hOB:=hO.toB (A:=fun _=>True)
    have hnil:b64 (t.drop (3 * i))=[]:=by rw[List.drop_eq_nil_of_le (by omega)];rfl
    rw[hnil,List.append_nil]at ql
    subst ql
    refine WC.seq<|WC.seq<|WC.region ?_
    refine WL.q rfl (r_move rfl) ?_
    refine WL.q rfl (r_move rfl) ?_
    refine WL.q rfl (r_lens str_9 rfl) ?_
    refine WL.q rfl (r_cmp (r_lss rfl rfl) (decide_eq_false (by(omega)))) ?_
    refine WL.nil ?_
    refine WC.condF rfl ?_
    refine WC.exit ?_
    refine WC.seq<|WC.region ?_
    refine WL.q rfl (r_move rfl) ?_
    refine WL.q rfl (r_b2s b2s_27_9 rfl (Ext.refl _) (by assumption)) ?_
    refine WL.q rfl (r_assign rfl) ?_
    refine WL.nil ?_
    refine WC.ret ?_
    replace he:=he.then hE
    exact fin1 rfl ⟨rfl,he.weaken fun b hb _=>hb⟩
end Go.Proofs.LL
set_option maxRecDepth 20000
namespace Go.Proofs.LL
open Go Go.Proofs Go.RowKit
theorem cv_3_5:cvInt Tryz.prog 3 5=some .u8:=by kernel_rfl
theorem fo_154_0:fOff Tryz.prog 154 0=some 0:=by kernel_rfl
theorem fo_154_1:fOff Tryz.prog 154 1=some 64:=by kernel_rfl
theorem fo_154_2:fOff Tryz.prog 154 2=some 320:=by kernel_rfl
theorem one_5:oneT Tryz.prog 5=true:=by kernel_rfl
theorem sz_21:szT Tryz.prog 21=some 1:=by kernel_rfl
theorem sz_5:szT Tryz.prog 5=some 1:=by kernel_rfl
theorem u8_27:u8T Tryz.prog 27=true:=by kernel_rfl
section
variable {P:Program} {ρ:Fr} {w w0:World} {ty:TypeId} {x y s:Operand}
theorem r_idxA{t n z b o:Nat}{k:IntKind}{i:Int}{j:Nat}(ht:arrT P t=some (n,z))(hx:ov ρ x=some (.pointer (some ⟨b,o,none⟩)))(hy:ov ρ y=some (.int k i))(hi:i=(j:Int))(hj:j<n):RunOp P (.indexAddr t x y) ty ρ w (.pointer (some ⟨b,o+j * z,none⟩)):=by
  intro N D a dst pos af g ha
  unfold arrT at ht
  split at ht
  · rename_i n' e hu
    obtain⟨i',hi',he⟩:=Option.map_eq_some_iff.1 ht
    simp only[Prod.mk.injEq]at he
    obtain⟨rfl,rfl⟩:=he
    subst hi
    simp[execOp,ha.ov hx,ha.ov hy,Instr.indexAt,Instr.sureAddr,underlying,hu,asIntOf,hj,sizeOf,typeInfo,hi',Addr_add]
  · cases ht
theorem l_copyStr{d s:TypeId}{g o n c:Nat}{l:List UInt8}{cs:List Value}(hd:u8T P d=true)(hx:ov ρ x=some (.slice (some ⟨g,o,none⟩) n c))(hy:ov ρ y=some (str l))(hB:Blk w g cs)(hle:l.length≤n)(hfit:o+l.length≤cs.length):
    LoudOp P (.call ⟨.builtin .copy, #[x,y], #[d,s]⟩) ty ρ w (fun u w'=>u= .int .i64 (l.length:Int)∧Blk w' g (cs.take o++bc l++cs.drop (o+l.length))∧Evo (Nb g) w w'):=by
  obtain⟨e,i,hu,he,hi,hsz⟩:=u8T_some hd
  obtain⟨T,hg⟩:=hB
  have hsize:(⟨l.toArray⟩:ByteArray).size=l.length:=by simp[ByteArray.size]
  have hst:=run_storeCells_at (P:=P) g o T (bc l) 0 cs.toArray w hg (by simpa using hfit) (fun v hv=>by simp only[bc,List.mem_map]at hv;obtain⟨b,_,rfl⟩:=hv;rfl)
  have hmin:Nat.min l.length n=l.length:=Nat.min_eq_left hle
  have htk:List.take l.length (List.map (fun b:UInt8=>Value.int IntKind.u8 (b.toNat:Int)) l)=bc l:=by
    rw[List.take_of_length_le (by rw[List.length_map];exact Nat.le_refl _)]
  simp only[Nat.add_zero]at hst
  have hr:(Builtin.copy_ #[d,s] ty #[.slice (some ⟨g,o,none⟩) n c,str l]).run P w= .ok (goInt l.length) (w.setRow g (cs.take o++bc l++cs.drop (o+l.length)).toArray):=by
    simp[Builtin.copy_,run_underlying hu,Builtin.lenOf,Builtin.firstCells,sizeOf,typeInfo,hi,hsz,str,hsize,hmin]
    rw[htk]
    simpa using congrArg (fun r=>r.andThen fun _ w'=>Result.ok (goInt l.length) w') hst
  refine LoudOp.of_eq fun N D a dst pos af gd ha=>⟨_,_,by simp only[execOp,Sem.run_bind,resolve,ha.ov hx,ha.ov hy,List.map_toArray,List.map_cons,List.map_nil,Sem.run_pure,Result.andThen_ok,invoke,builtin,hr];rfl,?_,?_,?_⟩
  · simp[goInt]
  · exact⟨T,setRow_heap w g cs.toArray _ T (0,0) hg⟩
  · exact⟨rfl,rfl,rfl,by simp,fun k _ hk=>setRow_other w g k _ hk⟩
end
def dmB(i:Nat):List Value:=(List.range i).foldl (fun l j=>l.set (sg j).toNat (.int .u8 (j:Int))) (List.replicate 256 (.int .u8 255))
theorem dmB_len:∀i,(dmB i).length=256
  |0=>by simp[dmB]
  |i+1=>by
    have:=dmB_len i
    unfold dmB at this⊢
    rw[List.range_succ,List.foldl_append]
    simpa using this
theorem dmB_succ(i:Nat):dmB (i+1)=(dmB i).set (sg i).toNat (.int .u8 (i:Int)):=by
  unfold dmB
  rw[List.range_succ,List.foldl_append]
  rfl
theorem sg_ne:∀i j:Fin 64,i.val≠j.val→(sg i.val).toNat≠(sg j.val).toNat:=by decide+kernel
theorem sg_nl:∀i:Fin 64,(sg i.val).toNat≠10∧(sg i.val).toNat≠13:=by decide+kernel
theorem dmB_get:∀i,i≤64→∀j,j<64→i≤j→(dmB i)[(sg j).toNat]?=some (.int .u8 255)
  |0,_,j,hj,_=>by
    have:=UInt8.toNat_lt (sg j)
    rw[show dmB 0=List.replicate 256 (.int .u8 255)from rfl,List.getElem?_replicate,if_pos this]
  |i+1,hi,j,hj,hij=>by
    rw[dmB_succ,List.getElem?_set_ne (sg_ne ⟨i,by omega⟩ ⟨j,hj⟩ (by simp;omega))]
    exact dmB_get i (by omega) j hj (by omega)
def encC(dm:List Value):List Value:=bc b64T++(dm++[.int .i32 61,.bool false])
def EncB(w:World)(eb:Nat):Prop:=∃dm,dm.length=256∧Blk w eb (encC dm)
theorem EncB.mono{A:Nat→Prop}{w w':World}{eb:Nat}(h:EncB w eb)(e:Evo A w w')(hA:A eb:=by first|exact trivial|((try dsimp only[Nb]);omega)):EncB w' eb:=by
  obtain⟨dm,h1,h2⟩:=h
  exact⟨dm,h1,h2.mono e hA⟩
theorem encC_len{dm:List Value}(h:dm.length=256):(encC dm).length=322:=by simp[encC,h,b64T]
theorem encC_pad{dm:List Value}(h:dm.length=256):(encC dm)[320]?=some (.int .i32 61):=by
  unfold encC
  rw[List.getElem?_append_right (by simp[b64T]),List.getElem?_append_right (by simp[b64T,h])]
  simp[b64T,h]
theorem encC_sg{dm:List Value}{k:Nat}(hk:k<64):(encC dm)[k]?=some (.int .u8 ((sg k).toNat:Int)):=by
  unfold encC
  have hl:b64T.length=64:=rfl
  rw[List.getElem?_append_left (by simpa[hl]using hk),List.getElem?_map,List.getElem?_eq_getElem (by rw[hl];exact hk)]
  simp[sg,List.getD_eq_getElem?_getD,List.getElem?_eq_getElem (show k<b64T.length by rw[hl];exact hk)]
theorem encC_dm{dm:List Value}{k:Nat}(hk:k<256)(h:dm.length=256):(encC dm)[64+k]?=dm[k]?:=by
  unfold encC
  have hl:b64T.length=64:=rfl
  rw[List.getElem?_append_right (by simp[hl]),List.getElem?_append_left (by simp[hl,h];omega)]
  simp[hl]
theorem encC_set{dm:List Value}{k:Nat}{v:Value}(hk:k<256)(h:dm.length=256):(encC dm).set (64+k) v=encC (dm.set k v):=by
  unfold encC
  have hl:(bc b64T).length=64:=rfl
  rw[List.set_append_right _ _ (by rw[hl];omega),List.set_append_left _ _ (by rw[hl,h];omega),hl]
  congr 3
  omega
def ff256:List UInt8:=List.replicate 256 255
theorem NewEnc_ok{w:World}:Does Tryz.prog 89 [str b64T] w fun r w'=>∃eb,r= .pointer (some ⟨eb,0,none⟩)∧w.heap.size≤eb∧EncB w' eb∧Ext w w':=by
  refine does1 Tryz.func89 rfl rfl rfl ?_
  have he:Evo (fun k=>k<w.heap.size) w w:=Evo.refl w
  refine WC.seq<|WC.region ?_
  refine WL.q rfl (r_assign rfl) ?_
  refine WL.nil ?_
  refine WC.seq<|WC.seq<|WC.region ?_
  refine WL.q rfl (r_move rfl) ?_
  refine WL.q rfl (r_lens str_9 rfl) ?_
  refine WL.q rfl (r_cmp (r_neq rfl rfl) (bneF (by(rfl)))) ?_
  refine WL.nil ?_
  refine WC.condF rfl ?_
  refine WC.skip ?_
  refine WC.seq<|WC.region ?_
  refine WL.l rfl (l_alloc (z:= .agg ((List.replicate 320 (.int .u8 0)++[.int .i32 0,.bool false]:List Value)).toArray) (cs:=List.replicate 320 (.int .u8 0)++[.int .i32 0,.bool false]) (by kernel_rfl) rfl) fun v1 w1 hh=>?_
  obtain⟨rfl,hK,e1⟩:=hh
  have ns1:w.heap.size≤w1.heap.size:=e1.size
  refine WL.q rfl (r_assign rfl) ?_
  refine WL.nil ?_
  refine WC.seq<|WC.region ?_
  refine WL.q rfl (r_move rfl) ?_
  refine WL.q rfl (r_nilp rfl) ?_
  refine WL.q rfl (r_fieldAddr rfl fo_154_2) ?_
  refine WL.l0 (l_store sz_21 rfl rfl rfl hK rfl) fun _ w2 hh=>?_
  obtain⟨hK,e2,hz2⟩:=hh
  have ns2:w1.heap.size≤w2.heap.size:=e2.size
  refine WL.nil ?_
  refine WC.seq<|WC.region ?_
  refine WL.q rfl (r_move rfl) ?_
  refine WL.q rfl (r_nilp rfl) ?_
  refine WL.q rfl (r_fieldAddr rfl fo_154_0) ?_
  refine WL.q rfl (r_sliceArr (show arrT Tryz.prog 152=some (64,1)from by kernel_rfl) rfl) ?_
  refine WL.q rfl (r_move rfl) ?_
  refine WL.l rfl (l_copyStr u8_27 rfl rfl hK (by decide) (by decide)) fun v3 w3 hh=>?_
  obtain⟨rfl,hK,e3⟩:=hh
  have ns3:w2.heap.size≤w3.heap.size:=e3.size
  refine WL.nil ?_
  refine WC.seq<|WC.region ?_
  refine WL.q rfl (r_move rfl) ?_
  refine WL.q rfl (r_nilp rfl) ?_
  refine WL.q rfl (r_fieldAddr rfl fo_154_1) ?_
  refine WL.q rfl (r_sliceArr (show arrT Tryz.prog 71=some (256,1)from by kernel_rfl) rfl) ?_
  refine WL.l rfl (l_copyStr (l:=ff256) u8_27 rfl rfl hK (by decide) (by decide)) fun v4 w4 hh=>?_
  obtain⟨rfl,hK,e4⟩:=hh
  have ns4:w3.heap.size≤w4.heap.size:=e4.size
  refine WL.nil ?_
  refine WC.seq<|WC.seq<|WC.region ?_
  refine WL.q rfl (r_assign rfl) ?_
  refine WL.nil ?_
  refine WC.block ?_
  replace hK:Blk w4 w.heap.size (encC (dmB 0)):=hK
  replace he:=(((he.then e1).then e2).then e3).then e4
  refine WC.loop2 (ι:=Nat) [(0,_),(2,_),(3,_)] (fun i=>[(4,.int .i64 (i:Int))]) (fun i wi=>Blk wi w.heap.size (encC (dmB i))∧i≤64∧Evo (fun k=>k<w.heap.size) w4 wi) (fun i=>64-i) 0 (.cons rfl (.cons rfl (.cons rfl .nil))) (.cons rfl .nil) (⟨hK,by omega,Evo.refl _⟩) ?_
  intro i wi1 hh;obtain⟨hK,ni,hE⟩:=hh
  rcases Nat.lt_or_ge i 64 with qi|qi
  · have hb:=b64T_get qi
    have q10:=sg_nl ⟨i,qi⟩
    dsimp only at q10
    have qb:(sg i).toNat<256:=UInt8.toNat_lt _
    have qc:=(encC_dm qb (dmB_len i)).trans (dmB_get i (by omega) i qi (Nat.le_refl _))
    have qs:(encC (dmB i)).set (64+(sg i).toNat) (.int .u8 (i:Int))=encC (dmB (i+1)):=by rw[encC_set qb (dmB_len i),dmB_succ]
    have qw:IntKind.u8.wrap (i:Int)=(i:Int):=by rw[IntKind.wrap_u8];omega
    have q322:=encC_len (dmB_len i)
    refine WC.seq<|WC.seq<|WC.region ?_
    refine WL.q rfl (r_move rfl) ?_
    refine WL.q rfl (r_move rfl) ?_
    refine WL.q rfl (r_lens str_9 rfl) ?_
    refine WL.q rfl (r_cmp (r_lss rfl rfl) (decide_eq_true (show(i:Int)<(64:Int) by omega))) ?_
    refine WL.nil ?_
    refine WC.condT (rfl) ?_
    refine WC.skip ?_
    refine WC.seq<|WC.block ?_
    refine WC.seq<|WC.block ?_
    refine WC.seq<|WC.region ?_
    refine WL.q rfl (r_move rfl) ?_
    refine WL.q rfl (r_move rfl) ?_
    refine WL.q rfl (r_idxs str_9 rfl rfl rfl (by assumption)) ?_
    refine WL.q rfl (r_cmp (r_eql rfl rfl) (beqF (by omega))) ?_
    refine WL.q rfl (r_move rfl) ?_
    refine WL.qg rfl rfl rfl rfl (r_move rfl) ?_
    refine WL.qg rfl rfl rfl rfl (r_move rfl) ?_
    refine WL.qg rfl rfl rfl rfl (r_idxs str_9 rfl rfl rfl (by assumption)) ?_
    refine WL.qg rfl rfl rfl rfl (r_cmp (r_eql rfl rfl) (beqF (by omega))) ?_
    refine WL.q rfl (r_pick rfl rfl rfl) ?_
    refine WL.q rfl (r_assign rfl) ?_
    refine WL.nil ?_
    refine WC.condF rfl ?_
    refine WC.seq<|WC.regionD [(true,0),(true,1),(true,2),(true,3),(true,4),(true,5),(true,6),(true,7),(true,8),(true,9)] (Ext _) mixed (by kernel_rfl) (Ext.drew _) ?_
    have nd1wi1:wi1.drew.heap.size=wi1.heap.size:=rfl
    refine WD.q rfl (fun _ hS=>r_move rfl) ?_
    refine WD.q rfl (fun _ hS=>r_move rfl) ?_
    refine WD.q rfl (fun _ hS=>r_move rfl) ?_
    refine WD.q rfl (fun _ hS=>r_idxs str_9 rfl rfl rfl (by assumption)) ?_
    refine WD.q rfl (fun _ hS=>r_nilp rfl) ?_
    refine WD.q rfl (fun _ hS=>r_fieldAddr rfl fo_154_1) ?_
    refine WD.q rfl (fun _ hS=>r_idxA (show arrT Tryz.prog 71=some (256,1)from by kernel_rfl) rfl rfl rfl qb) ?_
    refine WD.q rfl (fun _ hS=>r_load one_5 rfl hS (hK.get (by rw[Nat.mul_one];exact qc))) ?_
    refine WD.q rfl (fun _ hS=>r_cmp (r_neq rfl rfl) (bneF (by omega))) ?_
    refine WD.q rfl (fun _ hS=>r_assign rfl) ?_
    refine WD.nil ?_
    refine WC.condF rfl ?_
    refine WC.skip ?_
    replace hK:=hK.mono (Ext.drew _)
    refine WC.regionD [(true,0),(true,1),(true,2),(true,3),(true,4),(true,5),(true,6),(true,7),(true,8),(false,9)] (Evo (fun k=>k≠w.heap.size) _) mixed (by kernel_rfl) (Evo.drew _) ?_
    have nd2wi1:wi1.drew.drew.heap.size=wi1.heap.size:=rfl
    have nd1wi1:wi1.drew.heap.size=wi1.heap.size:=rfl
    refine WD.q rfl (fun _ hS=>r_move rfl) ?_
    refine WD.q rfl (fun _ hS=>r_move rfl) ?_
    refine WD.q rfl (fun _ hS=>r_move rfl) ?_
    refine WD.q rfl (fun _ hS=>r_idxs str_9 rfl rfl rfl (by assumption)) ?_
    refine WD.q rfl (fun _ hS=>r_move rfl) ?_
    refine WD.q rfl (fun _ hS=>r_cvInt cv_3_5 rfl) ?_
    refine WD.q rfl (fun _ hS=>r_nilp rfl) ?_
    refine WD.q rfl (fun _ hS=>r_fieldAddr rfl fo_154_1) ?_
    refine WD.q rfl (fun _ hS=>r_idxA (show arrT Tryz.prog 71=some (256,1)from by kernel_rfl) rfl rfl rfl qb) ?_
    replace hK:=hK.mono (Ext.drew _)
    refine WD.l0 rfl (l_store sz_5 rfl rfl rfl hK (by rw[q322,Nat.blt_eq];omega)) fun _ w5 hh=>?_
    obtain⟨hK,e5,hz5⟩:=hh
    have ns5:wi1.heap.size≤w5.heap.size:=e5.size
    refine⟨((Evo.drew _).then e5),?_⟩
    refine WD.nil ?_
    refine WC.region ?_
    refine WL.q rfl (r_move rfl) ?_
    refine WL.q rfl (r_addi rfl rfl rfl (by omega) (by omega)) ?_
    refine WL.q rfl (r_assign rfl) ?_
    refine WL.nil ?_
    exact⟨i+1,(.cons rfl (.cons rfl (.cons rfl .nil))),(.cons (lk_int rfl (by omega)) .nil),⟨by rw[Nat.zero_add,Nat.mul_one,qw,qs]at hK;exact hK,qi,((((hE.then (Ext.drew _)).then (Ext.drew _)).then e5))⟩,by omega⟩
  · have hin:i=64:=by omega
    subst hin
    refine WC.seq<|WC.seq<|WC.region ?_
    refine WL.q rfl (r_move rfl) ?_
    refine WL.q rfl (r_move rfl) ?_
    refine WL.q rfl (r_lens str_9 rfl) ?_
    refine WL.q rfl (r_cmp (r_lss rfl rfl) (decide_eq_false (show¬((64:Nat):Int)<(64:Int) by omega))) ?_
    refine WL.nil ?_
    refine WC.condF (rfl) ?_
    refine WC.exit ?_
    refine WC.seq<|WC.region ?_
    refine WL.q rfl (r_move rfl) ?_
    refine WL.q rfl (r_assign rfl) ?_
    refine WL.nil ?_
    refine WC.ret ?_
    replace he:=he.then hE
    exact fin1 rfl ⟨_,rfl,Nat.le_refl _,⟨_,dmB_len 64,hK⟩,he.weaken fun b hb _=>hb⟩
end Go.Proofs.LL
set_option maxRecDepth 20000
namespace Go.Proofs.LL
open Go Go.Proofs Go.RowKit
theorem RepPL.pushG{R:Nat→Prop}{wi w5:World}{sv v5:Value}{cs c':List Value}{ys ys':List Pk}(hV:RepPL (fun b=>R b∧sv.ownBlock≠some b) wi ys cs)(hy:RepPL (fun b=>R b∧sv.ownBlock≠some b) wi ys' c')
    (e5:Evo (fun k=>sv.ownBlock≠some k) wi w5) (hob:v5.ownBlock=sv.ownBlock∨∀b,v5.ownBlock=some b→wi.heap.size≤b):RepPL (fun b=>R b∧v5.ownBlock≠some b) w5 (ys++ys') (cs++c'):=by
  have h1:RepPL (fun b=>(R b∧sv.ownBlock≠some b)∧b<wi.heap.size) wi (ys++ys') (cs++c'):=(hV.append hy).weakenW fun b hb h=>⟨h,hb⟩
  refine(h1.mono' e5 (fun b _ h=>h.1.2)).weaken fun b h=>⟨h.1.1,fun e=>?_⟩
  rcases hob with h3|h3
  · rw[h3]at e;exact h.1.2 e
  · have:=h3 b e;omega
theorem l_appQ{P:Program}{ρ:Fr}{ty:TypeId}{s x:Operand}{w:World}{R:Nat→Prop}{B t tx n m bs:Nat}{zv v u:Value}{ys ys':List Pk}{cs news:List Value}(ht:slZ P t=some (25,5,bs,zv))(hs:ov ρ s=some v)(hx:ov ρ x=some u)(hown:Own B 25 5 w v n cs)(hV:RepPL (fun b=>R b∧v.ownBlock≠some b) w ys cs)(hy:RepPL (fun b=>R b∧v.ownBlock≠some b) w ys' news)(hsrc:Src P 5 tx u m news w)(hB:B≤w.heap.size)(h63:n+m≤maxLen)(hbytes:(n+m) * bs≤140737488355328):
    LoudOp P (.call ⟨.builtin .append, #[s,x], #[t,tx]⟩) ty ρ w (fun v' w'=>Own B 25 5 w' v' (n+m) (cs++news)∧RepPL (fun b=>R b∧v'.ownBlock≠some b) w' (ys++ys') (cs++news)∧Evo (fun k=>k<B) w w'):=
  (l_appO ht hs hx hown hsrc hB h63 hbytes).imp fun v' w' ⟨h1,h2,h3⟩=>⟨h1,RepPL.pushG hV hy h2 h3,hown.evo (w0:=w) h2⟩
theorem l_appQC{P:Program}{ρ:Fr}{ty:TypeId}{s x:Operand}{w:World}{R:Nat→Prop}(C:Nat→Prop){B t tx n m bs:Nat}{zv v u:Value}{ys ys':List Pk}{cs news:List Value}(hC:∀k,C k→v.ownBlock≠some k)(ht:slZ P t=some (25,5,bs,zv))(hs:ov ρ s=some v)(hx:ov ρ x=some u)(hown:Own B 25 5 w v n cs)(hV:RepPL (fun b=>R b∧v.ownBlock≠some b) w ys cs)(hy:RepPL (fun b=>R b∧v.ownBlock≠some b) w ys' news)(hsrc:Src P 5 tx u m news w)(hB:B≤w.heap.size)(h63:n+m≤maxLen)(hbytes:(n+m) * bs≤140737488355328):
    LoudOp P (.call ⟨.builtin .append, #[s,x], #[t,tx]⟩) ty ρ w (fun v' w'=>Own B 25 5 w' v' (n+m) (cs++news)∧RepPL (fun b=>R b∧v'.ownBlock≠some b) w' (ys++ys') (cs++news)∧Evo (fun k=>k<B) w w'∧Evo C w w'):=
  (l_appO ht hs hx hown hsrc hB h63 hbytes).imp fun v' w' ⟨h1,h2,h3⟩=>⟨h1,RepPL.pushG hV hy h2 h3,hown.evo (w0:=w) h2,h2.weaken fun k _ hk=>hC k hk⟩
end Go.Proofs.LL
