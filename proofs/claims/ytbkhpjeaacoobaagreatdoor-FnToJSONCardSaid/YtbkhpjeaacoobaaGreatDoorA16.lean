/- Contracts of functions and own laws. Conditions: those that each theorem states. -/
import Derived.Test.YtbkhpjeaacoobaaGreatDoorA15
set_option linter.all false
set_option maxRecDepth 20000
namespace Go.Proofs.LL
open Go Go.Proofs Go.RowKit
theorem body_18:bodyB Tryz.prog 18=true:=by kernel_rfl
theorem body_20:bodyB Tryz.prog 20=true:=by kernel_rfl
theorem body_9:bodyB Tryz.prog 9=true:=by kernel_rfl
def strF:List Frm:=[(217,1),(218,2),(219,4)]
def binF:List Frm:=[(196,1),(197,2),(198,4)]
def arrF:List Frm:=[(220,2),(221,4)]
def mapF:List Frm:=[(222,2),(223,4)]
mutual
def EncP:Pk→List UInt8→Prop
  | .mk k n t _ ks,bs=>(k=0∧bs=[192])∨(k=1∧bs=[UInt8.ofNat (194+n)])∨(k=2∧9223372036854775808≤n∧NegE n bs)∨(((k=2∧n<9223372036854775808)∨k=3)∧PosE n bs)∨
    (k=6∧∃hd,HeadP 160 32 strF t.length hd∧bs=hd++t)∨(k=7∧∃hd,HeadP (-1) 0 binF t.length hd∧bs=hd++t)∨
    (k=8∧∃hd body,HeadP 144 16 arrF ks.length hd∧EncPL ks body∧bs=hd++body)∨(k=9∧∃hd body,HeadP 128 16 mapF (ks.length / 2) hd∧EncPL ks body∧bs=hd++body)
def EncPL:List Pk→List UInt8→Prop
  |[],bs=>bs=[]
  |x::r,bs=>∃a b,EncP x a∧EncPL r b∧bs=a++b
end
theorem EncPL.snoc:∀ {l:List Pk} {a b:List UInt8} {x:Pk},EncPL l a→EncP x b→EncPL (l++[x]) (a++b)
  |[],a,b,x,h,h'=>by
    rw[EncPL]at h;subst h
    rw[List.nil_append,List.nil_append,EncPL]
    exact⟨b,[],h',by rw[EncPL],by simp⟩
  |y::r,a,b,x,h,h'=>by
    rw[EncPL]at h
    obtain⟨c,d,h1,h2,rfl⟩:=h
    rw[List.cons_append,EncPL]
    exact⟨c,d++b,h1,EncPL.snoc h2 h',by simp⟩
mutual
def pvol:Pk→Nat
  | .mk _ _ t _ ks=>10+t.length+pvolL ks
def pvolL:List Pk→Nat
  |[]=>0
  |x::r=>pvol x+pvolL r
end
theorem pvolL_app:∀(l m:List Pk),pvolL (l++m)=pvolL l+pvolL m
  |[],m=>by rw[List.nil_append,pvolL,Nat.zero_add]
  |a::r,m=>by rw[List.cons_append,pvolL,pvolL,pvolL_app r m];omega
theorem pvolL_take{l:List Pk}{i:Nat}(h:i<l.length):pvolL (l.take (i+1))=pvolL (l.take i)+pvol l[i]:=by
  rw[← List.take_append_getElem h,pvolL_app]
  rw[pvolL,pvolL];omega
theorem pvolL_le{l:List Pk}(i:Nat):pvolL (l.take i)≤pvolL l:=by
  have:=pvolL_app (l.take i) (l.drop i)
  rw[List.take_append_drop]at this;omega
theorem pvolL_mem:∀ {l:List Pk} {x:Pk},x∈l→pvol x≤pvolL l
  |a::r,x,h=>by
    rw[pvolL]
    rcases List.mem_cons.1 h with h|h
    · subst h;omega
    · have:=pvolL_mem h;omega
theorem headP_len{fx:Int}{un n:Nat}{fs:List Frm}{bs:List UInt8}(h:HeadP fx un fs n bs)(h8:∀p∈fs,p.2≤8):bs.length≤9:=by
  rcases h with⟨_,_,_,rfl⟩|⟨p,hp,_,rfl⟩
  · simp
  · have:=h8 p hp;simp[bigB_length];omega
theorem negE_len{n:Nat}{bs:List UInt8}(h:NegE n bs):bs.length≤9:=by
  rcases h with⟨_,rfl⟩|⟨i,hi,_,rfl⟩
  · simp
  · have:=pow2_le hi;simp[bigB_length];omega
theorem posE_len{n:Nat}{bs:List UInt8}(h:PosE n bs):bs.length≤9:=by
  rcases h with⟨_,rfl⟩|⟨i,hi,_,rfl⟩|⟨i,hi,_,rfl⟩
  · simp
  · have:=pow2_le hi;simp[bigB_length];omega
  · have:=pow2_le hi;simp[bigB_length];omega
theorem strF_8{p:Frm}(h:p∈strF):p.2≤8:=by
  simp only[strF,List.mem_cons,List.not_mem_nil,or_false]at h
  rcases h with rfl|rfl|rfl<;>decide
theorem binF_8{p:Frm}(h:p∈binF):p.2≤8:=by
  simp only[binF,List.mem_cons,List.not_mem_nil,or_false]at h
  rcases h with rfl|rfl|rfl<;>decide
theorem arrF_8{p:Frm}(h:p∈arrF):p.2≤8:=by
  simp only[arrF,List.mem_cons,List.not_mem_nil,or_false]at h
  rcases h with rfl|rfl<;>decide
theorem mapF_8{p:Frm}(h:p∈mapF):p.2≤8:=by
  simp only[mapF,List.mem_cons,List.not_mem_nil,or_false]at h
  rcases h with rfl|rfl<;>decide
theorem fit4{n:Nat}{c:UInt8}(h:n≤131072):fitb n (c,4)=true:=by
  unfold fitb
  simp only[Bool.or_eq_true,decide_eq_true_eq]
  exact .inr (by show n<256^4;have:(256:Nat)^4=4294967296:=by decide
                 omega)
mutual
theorem encP_len:∀ {x:Pk} {bs:List UInt8},EncP x bs→bs.length≤pvol x
  | .mk k n t e ks,bs,h=>by
    rw[EncP]at h
    rw[pvol]
    rcases h with⟨_,rfl⟩|⟨_,rfl⟩|⟨_,_,h⟩|⟨_,h⟩|⟨_,hd,h,rfl⟩|⟨_,hd,h,rfl⟩|⟨_,hd,body,h,hb,rfl⟩|⟨_,hd,body,h,hb,rfl⟩
    · simp;omega
    · simp;omega
    · have:=negE_len h;omega
    · have:=posE_len h;omega
    · have:=headP_len h fun p=>strF_8;rw[List.length_append];omega
    · have:=headP_len h fun p=>binF_8;rw[List.length_append];omega
    · have:=headP_len h fun p=>arrF_8;have:=encPL_len hb;rw[List.length_append];omega
    · have:=headP_len h fun p=>mapF_8;have:=encPL_len hb;rw[List.length_append];omega
theorem encPL_len:∀ {l:List Pk} {bs:List UInt8},EncPL l bs→bs.length≤pvolL l
  |[],bs,h=>by rw[EncPL]at h;subst h;simp
  |x::r,bs,h=>by
    rw[EncPL]at h
    obtain⟨a,b,h1,h2,rfl⟩:=h
    have:=encP_len h1
    have:=encPL_len h2
    rw[pvolL,List.length_append];omega
end
def PutS(x:Pk):Prop:=∀(L:Int) (cx:List Value) (fb:Nat) (w:World),RepP (fun b=>b≠fb) w x cx→Fits L x→JOK x→N64 x→pvol x≤1000000000→Fm w fb→
  Does Tryz.prog 9 [.agg cx.toArray,.pointer (some ⟨fb,0,none⟩)] w fun r w'=>∃bs,EncP x bs∧IsB (fun b=>w.heap.size≤b) w' r bs∧Fm w' fb∧Evo (fun k=>k≠fb) w w'
theorem put_one{k:Int}{n:Nat}{t:List UInt8}{o:Int}{ks:List Pk}(hks:∀x∈ks,PutS x):PutS (.mk k n t o ks):=by
  intro L cx fb w hx hFt hJ hN hvl hF
  replace hx:=hx.weakenW (B:=fun b=>b<w.heap.size∧b≠fb) (fun b h h2=>⟨h,h2⟩)
  obtain⟨pk,ck,rfl,_,hK⟩:=hx.openP
  rw[Fits]at hFt
  rw[JOK]at hJ
  rw[N64]at hN
  rw[pvol]at hvl
  obtain⟨p0,p1,p2,p3,p4,p5,p6,p7,p8,p9,p10,pL⟩:=hFt
  obtain⟨j4,j5,j10,j6,j89,j9⟩:=hJ
  obtain⟨hn,_,hNL⟩:=hN
  have hFl:=hF.lt
  have hsz:({data:=t.toArray}:ByteArray).size=t.length:=rfl
  rcases Decidable.em (k=0)with q0|q0
  · skip
    refine does1 Tryz.func9 rfl rfl rfl ?_
    have he:Evo (fun k=>k≠fb) w w:=Evo.refl w
    refine WC.seq<|WC.region ?_
    have hs1:=he.size
    refine WL.l rfl (l_boxAgg rfl) fun _ w1 hh=>?_
    obtain⟨rfl,hb1,e1⟩:=hh
    have nx1:=hb1.lt
    have ns1:w.heap.size≤w1.heap.size:=e1.size
    refine WL.q rfl (r_assign rfl) ?_
    refine WL.nil ?_
    refine WC.seq<|WC.region ?_
    refine WL.q rfl (r_assign rfl) ?_
    refine WL.nil ?_
    refine WC.seq<|WC.seq<|WC.region ?_
    refine WL.q rfl (r_fieldAddr rfl fo_25_0) ?_
    refine WL.q rfl (r_load one_3 rfl (Ext.refl _) (hb1.get rfl)) ?_
    refine WL.nil ?_
    refine WC.block ?_
    refine WC.seq<|WC.region ?_
    refine WL.q rfl (r_cmp (r_eql rfl rfl) (beqT (q0))) ?_
    refine WL.q rfl (r_assign rfl) ?_
    refine WL.nil ?_
    refine WC.condT rfl ?_
    refine WC.seq<|WC.region ?_
    refine WL.l rfl (l_litO (vs:=[_]) slz_27 rfl rfl rfl rfl rfl) fun v2 w2 hh=>?_
    obtain⟨rfl,hOl,e2⟩:=hh
    have ns2:w1.heap.size≤w2.heap.size:=e2.size
    refine WL.q rfl (r_assign rfl) ?_
    refine WL.nil ?_
    refine WC.ret ?_
    replace hF:=(hF.mono e1).mono e2
    replace he:=(he.then e1).then e2
    exact fin1 rfl ⟨[192],by rw[EncP];exact .inl ⟨q0,rfl⟩,hOl.toB (l:=[192]) (fun b h1 h2=>by omega),hF,he⟩
  rcases Decidable.em (k=1)with q1|q1
  · have hn1:=p6 q1
    refine does1 Tryz.func9 rfl rfl rfl ?_
    have he:Evo (fun k=>k≠fb) w w:=Evo.refl w
    refine WC.seq<|WC.region ?_
    have hs1:=he.size
    refine WL.l rfl (l_boxAgg rfl) fun _ w1 hh=>?_
    obtain⟨rfl,hb1,e1⟩:=hh
    have nx1:=hb1.lt
    have ns1:w.heap.size≤w1.heap.size:=e1.size
    refine WL.q rfl (r_assign rfl) ?_
    refine WL.nil ?_
    refine WC.seq<|WC.region ?_
    refine WL.q rfl (r_assign rfl) ?_
    refine WL.nil ?_
    refine WC.seq<|WC.seq<|WC.region ?_
    refine WL.q rfl (r_fieldAddr rfl fo_25_0) ?_
    refine WL.q rfl (r_load one_3 rfl (Ext.refl _) (hb1.get rfl)) ?_
    refine WL.nil ?_
    refine WC.block ?_
    refine WC.seq<|WC.region ?_
    refine WL.q rfl (r_cmp (r_eql rfl rfl) (beqF (q0))) ?_
    refine WL.q rfl (r_assign rfl) ?_
    refine WL.nil ?_
    refine WC.condF rfl ?_
    refine WC.seq<|WC.region ?_
    refine WL.q rfl (r_cmp (r_eql rfl rfl) (beqT (q1))) ?_
    refine WL.q rfl (r_assign rfl) ?_
    refine WL.nil ?_
    refine WC.condT rfl ?_
    refine WC.seq<|WC.region ?_
    refine WL.q rfl (r_fieldAddr rfl fo_25_1) ?_
    refine WL.q rfl (r_load one_22 rfl (Ext.refl _) (hb1.get rfl)) ?_
    refine WL.q rfl (r_as (r_add rfl rfl) (show IntKind.u64.wrap (194+(n:Int))=((194+n:Nat):Int) by rw[IntKind.wrap_u64];omega)) ?_
    refine WL.q rfl (r_cvIntE cv_22_5 rfl (wrap_byte (by omega))) ?_
    refine WL.l rfl (l_litO (vs:=[_]) slz_27 rfl rfl rfl rfl rfl) fun v2 w2 hh=>?_
    obtain⟨rfl,hOl,e2⟩:=hh
    have ns2:w1.heap.size≤w2.heap.size:=e2.size
    refine WL.q rfl (r_assign rfl) ?_
    refine WL.nil ?_
    refine WC.ret ?_
    replace hF:=(hF.mono e1).mono e2
    replace he:=(he.then e1).then e2
    exact fin1 rfl ⟨[UInt8.ofNat (194+n)],by rw[EncP];exact .inr (.inl ⟨q1,rfl⟩),hOl.toB (l:=[UInt8.ofNat (194+n)]) (fun b h1 h2=>by omega),hF,he⟩
  rcases Decidable.em (k=2)with q2|q2
  · subst q2
    rcases Nat.lt_or_ge n 9223372036854775808 with qn|qn
    · skip
      refine does1 Tryz.func9 rfl rfl rfl ?_
      have he:Evo (fun k=>k≠fb) w w:=Evo.refl w
      refine WC.seq<|WC.region ?_
      have hs1:=he.size
      refine WL.l rfl (l_boxAgg rfl) fun _ w1 hh=>?_
      obtain⟨rfl,hb1,e1⟩:=hh
      have nx1:=hb1.lt
      have ns1:w.heap.size≤w1.heap.size:=e1.size
      refine WL.q rfl (r_assign rfl) ?_
      refine WL.nil ?_
      refine WC.seq<|WC.region ?_
      refine WL.q rfl (r_assign rfl) ?_
      refine WL.nil ?_
      refine WC.seq<|WC.seq<|WC.region ?_
      refine WL.q rfl (r_fieldAddr rfl fo_25_0) ?_
      refine WL.q rfl (r_load one_3 rfl (Ext.refl _) (hb1.get rfl)) ?_
      refine WL.nil ?_
      refine WC.block ?_
      refine WC.seq<|WC.region ?_
      refine WL.q rfl (r_cmp (r_eql rfl rfl) (beqF (by omega))) ?_
      refine WL.q rfl (r_assign rfl) ?_
      refine WL.nil ?_
      refine WC.condF rfl ?_
      refine WC.seq<|WC.region ?_
      refine WL.q rfl (r_cmp (r_eql rfl rfl) (beqF (by omega))) ?_
      refine WL.q rfl (r_assign rfl) ?_
      refine WL.nil ?_
      refine WC.condF rfl ?_
      refine WC.seq<|WC.seq<|WC.region ?_
      refine WL.q rfl (r_cmp (r_eql rfl rfl) (beqT (by omega))) ?_
      refine WL.q rfl (r_assign rfl) ?_
      refine WL.nil ?_
      refine WC.condT rfl ?_
      refine WC.skip ?_
      refine WC.condT rfl ?_
      refine WC.seq<|WC.region ?_
      refine WL.q rfl (r_move rfl) ?_
      refine WL.q rfl (r_fieldAddr rfl fo_25_1) ?_
      refine WL.q rfl (r_load one_22 rfl (Ext.refl _) (hb1.get rfl)) ?_
      refine WL.q rfl (r_fieldAddr rfl fo_25_0) ?_
      refine WL.q rfl (r_load one_3 rfl (Ext.refl _) (hb1.get rfl)) ?_
      refine WL.q rfl (r_eql rfl rfl) ?_
      replace hF:=hF.mono e1
      refine WL.l rfl (l_do body_18 rfl (putPos_ok hF (fun _=>qn) hn)) fun v2 w2 hh=>?_
      obtain⟨bs,qE,qI,hF,e2⟩:=hh
      have ns2:w1.heap.size≤w2.heap.size:=e2.size
      refine WL.q rfl (r_assign rfl) ?_
      refine WL.nil ?_
      refine WC.ret ?_
      replace he:=(he.then e1).then e2
      exact fin1 rfl ⟨bs,by rw[EncP];exact .inr (.inr (.inr (.inl ⟨.inl ⟨rfl,qn⟩,qE⟩))),qI.weaken fun b _ h=>by omega,hF,he⟩
    · skip
      refine does1 Tryz.func9 rfl rfl rfl ?_
      have he:Evo (fun k=>k≠fb) w w:=Evo.refl w
      refine WC.seq<|WC.region ?_
      have hs1:=he.size
      refine WL.l rfl (l_boxAgg rfl) fun _ w1 hh=>?_
      obtain⟨rfl,hb1,e1⟩:=hh
      have nx1:=hb1.lt
      have ns1:w.heap.size≤w1.heap.size:=e1.size
      refine WL.q rfl (r_assign rfl) ?_
      refine WL.nil ?_
      refine WC.seq<|WC.region ?_
      refine WL.q rfl (r_assign rfl) ?_
      refine WL.nil ?_
      refine WC.seq<|WC.seq<|WC.region ?_
      refine WL.q rfl (r_fieldAddr rfl fo_25_0) ?_
      refine WL.q rfl (r_load one_3 rfl (Ext.refl _) (hb1.get rfl)) ?_
      refine WL.nil ?_
      refine WC.block ?_
      refine WC.seq<|WC.region ?_
      refine WL.q rfl (r_cmp (r_eql rfl rfl) (beqF (by omega))) ?_
      refine WL.q rfl (r_assign rfl) ?_
      refine WL.nil ?_
      refine WC.condF rfl ?_
      refine WC.seq<|WC.region ?_
      refine WL.q rfl (r_cmp (r_eql rfl rfl) (beqF (by omega))) ?_
      refine WL.q rfl (r_assign rfl) ?_
      refine WL.nil ?_
      refine WC.condF rfl ?_
      refine WC.seq<|WC.seq<|WC.region ?_
      refine WL.q rfl (r_cmp (r_eql rfl rfl) (beqT (by omega))) ?_
      refine WL.q rfl (r_assign rfl) ?_
      refine WL.nil ?_
      refine WC.condT rfl ?_
      refine WC.skip ?_
      refine WC.condT rfl ?_
      refine WC.seq<|WC.region ?_
      refine WL.q rfl (r_move rfl) ?_
      refine WL.q rfl (r_fieldAddr rfl fo_25_1) ?_
      refine WL.q rfl (r_load one_22 rfl (Ext.refl _) (hb1.get rfl)) ?_
      refine WL.q rfl (r_fieldAddr rfl fo_25_0) ?_
      refine WL.q rfl (r_load one_3 rfl (Ext.refl _) (hb1.get rfl)) ?_
      refine WL.q rfl (r_eql rfl rfl) ?_
      replace hF:=hF.mono e1
      refine WL.l rfl (l_do body_18 rfl (putNeg_ok hF qn hn)) fun v2 w2 hh=>?_
      obtain⟨bs,qE,qI,hF,e2⟩:=hh
      have ns2:w1.heap.size≤w2.heap.size:=e2.size
      refine WL.q rfl (r_assign rfl) ?_
      refine WL.nil ?_
      refine WC.ret ?_
      replace he:=(he.then e1).then e2
      exact fin1 rfl ⟨bs,by rw[EncP];exact .inr (.inr (.inl ⟨rfl,qn,qE⟩)),qI.weaken fun b _ h=>by omega,hF,he⟩
  rcases Decidable.em (k=3)with q3|q3
  · subst q3
    refine does1 Tryz.func9 rfl rfl rfl ?_
    have he:Evo (fun k=>k≠fb) w w:=Evo.refl w
    refine WC.seq<|WC.region ?_
    have hs1:=he.size
    refine WL.l rfl (l_boxAgg rfl) fun _ w1 hh=>?_
    obtain⟨rfl,hb1,e1⟩:=hh
    have nx1:=hb1.lt
    have ns1:w.heap.size≤w1.heap.size:=e1.size
    refine WL.q rfl (r_assign rfl) ?_
    refine WL.nil ?_
    refine WC.seq<|WC.region ?_
    refine WL.q rfl (r_assign rfl) ?_
    refine WL.nil ?_
    refine WC.seq<|WC.seq<|WC.region ?_
    refine WL.q rfl (r_fieldAddr rfl fo_25_0) ?_
    refine WL.q rfl (r_load one_3 rfl (Ext.refl _) (hb1.get rfl)) ?_
    refine WL.nil ?_
    refine WC.block ?_
    refine WC.seq<|WC.region ?_
    refine WL.q rfl (r_cmp (r_eql rfl rfl) (beqF (by omega))) ?_
    refine WL.q rfl (r_assign rfl) ?_
    refine WL.nil ?_
    refine WC.condF rfl ?_
    refine WC.seq<|WC.region ?_
    refine WL.q rfl (r_cmp (r_eql rfl rfl) (beqF (by omega))) ?_
    refine WL.q rfl (r_assign rfl) ?_
    refine WL.nil ?_
    refine WC.condF rfl ?_
    refine WC.seq<|WC.seq<|WC.region ?_
    refine WL.q rfl (r_cmp (r_eql rfl rfl) (beqF (by omega))) ?_
    refine WL.q rfl (r_assign rfl) ?_
    refine WL.nil ?_
    refine WC.condF rfl ?_
    refine WC.region ?_
    refine WL.q rfl (r_cmp (r_eql rfl rfl) (beqT (by omega))) ?_
    refine WL.q rfl (r_assign rfl) ?_
    refine WL.nil ?_
    refine WC.condT rfl ?_
    refine WC.seq<|WC.region ?_
    refine WL.q rfl (r_move rfl) ?_
    refine WL.q rfl (r_fieldAddr rfl fo_25_1) ?_
    refine WL.q rfl (r_load one_22 rfl (Ext.refl _) (hb1.get rfl)) ?_
    refine WL.q rfl (r_fieldAddr rfl fo_25_0) ?_
    refine WL.q rfl (r_load one_3 rfl (Ext.refl _) (hb1.get rfl)) ?_
    refine WL.q rfl (r_eql rfl rfl) ?_
    replace hF:=hF.mono e1
    refine WL.l rfl (l_do body_18 rfl (putPos_ok (sg:=false) hF (fun h=>(by cases h)) hn)) fun v2 w2 hh=>?_
    obtain⟨bs,qE,qI,hF,e2⟩:=hh
    have ns2:w1.heap.size≤w2.heap.size:=e2.size
    refine WL.q rfl (r_assign rfl) ?_
    refine WL.nil ?_
    refine WC.ret ?_
    replace he:=(he.then e1).then e2
    exact fin1 rfl ⟨bs,by rw[EncP];exact .inr (.inr (.inr (.inl ⟨.inr rfl,qE⟩))),qI.weaken fun b _ h=>by omega,hF,he⟩
  rcases Decidable.em (k=6)with q6|q6
  · subst q6
    refine does1 Tryz.func9 rfl rfl rfl ?_
    have he:Evo (fun k=>k≠fb) w w:=Evo.refl w
    refine WC.seq<|WC.region ?_
    have hs1:=he.size
    refine WL.l rfl (l_boxAgg rfl) fun _ w1 hh=>?_
    obtain⟨rfl,hb1,e1⟩:=hh
    have nx1:=hb1.lt
    have ns1:w.heap.size≤w1.heap.size:=e1.size
    refine WL.q rfl (r_assign rfl) ?_
    refine WL.nil ?_
    refine WC.seq<|WC.region ?_
    refine WL.q rfl (r_assign rfl) ?_
    refine WL.nil ?_
    refine WC.seq<|WC.seq<|WC.region ?_
    refine WL.q rfl (r_fieldAddr rfl fo_25_0) ?_
    refine WL.q rfl (r_load one_3 rfl (Ext.refl _) (hb1.get rfl)) ?_
    refine WL.nil ?_
    refine WC.block ?_
    refine WC.seq<|WC.region ?_
    refine WL.q rfl (r_cmp (r_eql rfl rfl) (beqF (by omega))) ?_
    refine WL.q rfl (r_assign rfl) ?_
    refine WL.nil ?_
    refine WC.condF rfl ?_
    refine WC.seq<|WC.region ?_
    refine WL.q rfl (r_cmp (r_eql rfl rfl) (beqF (by omega))) ?_
    refine WL.q rfl (r_assign rfl) ?_
    refine WL.nil ?_
    refine WC.condF rfl ?_
    refine WC.seq<|WC.seq<|WC.region ?_
    refine WL.q rfl (r_cmp (r_eql rfl rfl) (beqF (by omega))) ?_
    refine WL.q rfl (r_assign rfl) ?_
    refine WL.nil ?_
    refine WC.condF rfl ?_
    refine WC.region ?_
    refine WL.q rfl (r_cmp (r_eql rfl rfl) (beqF (by omega))) ?_
    refine WL.q rfl (r_assign rfl) ?_
    refine WL.nil ?_
    refine WC.condF rfl ?_
    refine WC.seq<|WC.region ?_
    refine WL.q rfl (r_cmp (r_eql rfl rfl) (beqF (by omega))) ?_
    refine WL.q rfl (r_assign rfl) ?_
    refine WL.nil ?_
    refine WC.condF rfl ?_
    refine WC.seq<|WC.region ?_
    refine WL.q rfl (r_cmp (r_eql rfl rfl) (beqF (by omega))) ?_
    refine WL.q rfl (r_assign rfl) ?_
    refine WL.nil ?_
    refine WC.condF rfl ?_
    refine WC.seq<|WC.region ?_
    refine WL.q rfl (r_cmp (r_eql rfl rfl) (beqT (by omega))) ?_
    refine WL.q rfl (r_assign rfl) ?_
    refine WL.nil ?_
    refine WC.condT rfl ?_
    replace hF:=hF.mono e1
    refine WC.seq<|WC.regionD [(true,0),(true,1),(true,2),(true,3),(true,4),(true,5),(true,6),(true,9),(true,10),(false,7),(false,8),(false,11),(true,12)] (Evo (fun b=>b≠fb) _) mixed (by kernel_rfl) (Evo.drew _) ?_
    have nd1w1:w1.drew.heap.size=w1.heap.size:=rfl
    refine WD.q rfl (fun _ hS=>r_move rfl) ?_
    refine WD.q rfl (fun _ hS=>r_fieldAddr rfl fo_25_2) ?_
    refine WD.q rfl (fun _ hS=>r_load one_9 rfl hS (hb1.get rfl)) ?_
    refine WD.q rfl (fun _ hS=>r_lens str_9 rfl) ?_
    refine WD.q rfl (fun _ hS=>r_bld (cs:=[_,_]) bld_55 rfl rfl) ?_
    refine WD.q rfl (fun _ hS=>r_bld (cs:=[_,_]) bld_55 rfl rfl) ?_
    refine WD.q rfl (fun _ hS=>r_bld (cs:=[_,_]) bld_55 rfl rfl) ?_
    refine WD.q rfl (fun _ hS=>r_fieldAddr rfl fo_25_2) ?_
    refine WD.q rfl (fun _ hS=>r_load one_9 rfl hS (hb1.get rfl)) ?_
    replace he:=(he.then e1).then (Ext.drew _)
    have hs2:=he.size
    replace hb1:=hb1.mono (Ext.drew _)
    have hx2b1:=hb1.lt
    refine WD.l rfl rfl (l_lit (vs:=[_,_,_]) slz_79 rfl (by first|rfl|(simp[Value.cells,Nat.beq_eq, *];done)) rfl rfl rfl) fun _ w2 hh=>?_
    obtain⟨rfl,hb2,e2⟩:=hh
    have ns2:w1.heap.size≤w2.heap.size:=e2.size
    refine⟨((Evo.drew _).then e2),?_⟩
    refine WD.l rfl rfl (l_do body_20 rfl (putHead_ok (fixed:=160) (under:=32) (fs:=strF) ((hF.mono (Ext.drew _)).mono e2) (show At _ _ 0 (strF.flatMap fcell)from hb2.at) (by omega) (by decide) (fun p=>strF_8) (by decide) p9 ⟨(219,4),by simp[strF],fit4 p9⟩ (fun _=>⟨160,5,rfl,by decide,by decide,by decide,rfl⟩))) fun v3 w3 hh=>?_
    obtain⟨dd,qH,hOh,hF,e3⟩:=hh
    have qhl:=headP_len qH fun p=>strF_8
    have ns3:w2.heap.size≤w3.heap.size:=e3.size
    refine⟨(((Evo.drew _).then e2).then e3),?_⟩
    refine WD.l rfl rfl (l_app slz_27 rfl rfl hOh (Src.str str_9) (by omega) (by simp only[maxLen];omega) (by omega)) fun v4 w4 hh=>?_
    obtain⟨hO,e4⟩:=hh
    have ns4:w3.heap.size≤w4.heap.size:=e4.size
    refine⟨((((Evo.drew _).then e2).then e3).then e4),?_⟩
    refine WD.q rfl (fun _ hS=>r_assign rfl) ?_
    refine WD.nil ?_
    refine WC.ret ?_
    replace hF:=hF.mono e4
    replace he:=((he.then e2).then e3).then e4
    exact fin1 rfl ⟨dd++t,by rw[EncP];exact .inr (.inr (.inr (.inr (.inl ⟨rfl,dd,qH,rfl⟩)))),(hO.cast (m:=(dd++t).length) (by simp) (bc_append _ _).symm).toB (fun b h1 h2=>by omega),hF,he⟩
  rcases Decidable.em (k=7)with q7|q7
  · subst q7
    refine does1 Tryz.func9 rfl rfl rfl ?_
    have he:Evo (fun k=>k≠fb) w w:=Evo.refl w
    refine WC.seq<|WC.region ?_
    have hs1:=he.size
    refine WL.l rfl (l_boxAgg rfl) fun _ w1 hh=>?_
    obtain⟨rfl,hb1,e1⟩:=hh
    have nx1:=hb1.lt
    have ns1:w.heap.size≤w1.heap.size:=e1.size
    refine WL.q rfl (r_assign rfl) ?_
    refine WL.nil ?_
    refine WC.seq<|WC.region ?_
    refine WL.q rfl (r_assign rfl) ?_
    refine WL.nil ?_
    refine WC.seq<|WC.seq<|WC.region ?_
    refine WL.q rfl (r_fieldAddr rfl fo_25_0) ?_
    refine WL.q rfl (r_load one_3 rfl (Ext.refl _) (hb1.get rfl)) ?_
    refine WL.nil ?_
    refine WC.block ?_
    refine WC.seq<|WC.region ?_
    refine WL.q rfl (r_cmp (r_eql rfl rfl) (beqF (by omega))) ?_
    refine WL.q rfl (r_assign rfl) ?_
    refine WL.nil ?_
    refine WC.condF rfl ?_
    refine WC.seq<|WC.region ?_
    refine WL.q rfl (r_cmp (r_eql rfl rfl) (beqF (by omega))) ?_
    refine WL.q rfl (r_assign rfl) ?_
    refine WL.nil ?_
    refine WC.condF rfl ?_
    refine WC.seq<|WC.seq<|WC.region ?_
    refine WL.q rfl (r_cmp (r_eql rfl rfl) (beqF (by omega))) ?_
    refine WL.q rfl (r_assign rfl) ?_
    refine WL.nil ?_
    refine WC.condF rfl ?_
    refine WC.region ?_
    refine WL.q rfl (r_cmp (r_eql rfl rfl) (beqF (by omega))) ?_
    refine WL.q rfl (r_assign rfl) ?_
    refine WL.nil ?_
    refine WC.condF rfl ?_
    refine WC.seq<|WC.region ?_
    refine WL.q rfl (r_cmp (r_eql rfl rfl) (beqF (by omega))) ?_
    refine WL.q rfl (r_assign rfl) ?_
    refine WL.nil ?_
    refine WC.condF rfl ?_
    refine WC.seq<|WC.region ?_
    refine WL.q rfl (r_cmp (r_eql rfl rfl) (beqF (by omega))) ?_
    refine WL.q rfl (r_assign rfl) ?_
    refine WL.nil ?_
    refine WC.condF rfl ?_
    refine WC.seq<|WC.region ?_
    refine WL.q rfl (r_cmp (r_eql rfl rfl) (beqF (by omega))) ?_
    refine WL.q rfl (r_assign rfl) ?_
    refine WL.nil ?_
    refine WC.condF rfl ?_
    refine WC.seq<|WC.region ?_
    refine WL.q rfl (r_cmp (r_eql rfl rfl) (beqT (by omega))) ?_
    refine WL.q rfl (r_assign rfl) ?_
    refine WL.nil ?_
    refine WC.condT rfl ?_
    replace hF:=hF.mono e1
    refine WC.seq<|WC.regionD [(true,0),(true,1),(true,2),(true,3),(true,4),(true,5),(true,6),(true,9),(true,10),(false,7),(false,8),(false,11),(true,12)] (Evo (fun b=>b≠fb) _) mixed (by kernel_rfl) (Evo.drew _) ?_
    have nd1w1:w1.drew.heap.size=w1.heap.size:=rfl
    refine WD.q rfl (fun _ hS=>r_move rfl) ?_
    refine WD.q rfl (fun _ hS=>r_fieldAddr rfl fo_25_2) ?_
    refine WD.q rfl (fun _ hS=>r_load one_9 rfl hS (hb1.get rfl)) ?_
    refine WD.q rfl (fun _ hS=>r_lens str_9 rfl) ?_
    refine WD.q rfl (fun _ hS=>r_bld (cs:=[_,_]) bld_55 rfl rfl) ?_
    refine WD.q rfl (fun _ hS=>r_bld (cs:=[_,_]) bld_55 rfl rfl) ?_
    refine WD.q rfl (fun _ hS=>r_bld (cs:=[_,_]) bld_55 rfl rfl) ?_
    refine WD.q rfl (fun _ hS=>r_fieldAddr rfl fo_25_2) ?_
    refine WD.q rfl (fun _ hS=>r_load one_9 rfl hS (hb1.get rfl)) ?_
    replace he:=(he.then e1).then (Ext.drew _)
    have hs2:=he.size
    replace hb1:=hb1.mono (Ext.drew _)
    have hx2b1:=hb1.lt
    refine WD.l rfl rfl (l_lit (vs:=[_,_,_]) slz_79 rfl (by first|rfl|(simp[Value.cells,Nat.beq_eq, *];done)) rfl rfl rfl) fun _ w2 hh=>?_
    obtain⟨rfl,hb2,e2⟩:=hh
    have ns2:w1.heap.size≤w2.heap.size:=e2.size
    refine⟨((Evo.drew _).then e2),?_⟩
    refine WD.l rfl rfl (l_do body_20 rfl (putHead_ok (fixed:= -1) (under:=0) (fs:=binF) ((hF.mono (Ext.drew _)).mono e2) (show At _ _ 0 (binF.flatMap fcell)from hb2.at) (by omega) (by decide) (fun p=>binF_8) (by decide) p9 ⟨(198,4),by simp[binF],fit4 p9⟩ (fun h=>by omega))) fun v3 w3 hh=>?_
    obtain⟨dd,qH,hOh,hF,e3⟩:=hh
    have qhl:=headP_len qH fun p=>binF_8
    have ns3:w2.heap.size≤w3.heap.size:=e3.size
    refine⟨(((Evo.drew _).then e2).then e3),?_⟩
    refine WD.l rfl rfl (l_app slz_27 rfl rfl hOh (Src.str str_9) (by omega) (by simp only[maxLen];omega) (by omega)) fun v4 w4 hh=>?_
    obtain⟨hO,e4⟩:=hh
    have ns4:w3.heap.size≤w4.heap.size:=e4.size
    refine⟨((((Evo.drew _).then e2).then e3).then e4),?_⟩
    refine WD.q rfl (fun _ hS=>r_assign rfl) ?_
    refine WD.nil ?_
    refine WC.ret ?_
    replace hF:=hF.mono e4
    replace he:=((he.then e2).then e3).then e4
    exact fin1 rfl ⟨dd++t,by rw[EncP];exact .inr (.inr (.inr (.inr (.inr (.inl ⟨rfl,dd,qH,rfl⟩))))),(hO.cast (m:=(dd++t).length) (by simp) (bc_append _ _).symm).toB (fun b h1 h2=>by omega),hF,he⟩
  rcases Decidable.em (k=8)with q8|q8
  · subst q8
    have hJL:=j89 (by decide)
    have hkl:ks.length≤2000:=p8
    refine does1 Tryz.func9 rfl rfl rfl ?_
    have he:Evo (fun k=>k≠fb) w w:=Evo.refl w
    refine WC.seq<|WC.region ?_
    have hs1:=he.size
    refine WL.l rfl (l_boxAgg rfl) fun _ w1 hh=>?_
    obtain⟨rfl,hb1,e1⟩:=hh
    have nx1:=hb1.lt
    have ns1:w.heap.size≤w1.heap.size:=e1.size
    refine WL.q rfl (r_assign rfl) ?_
    refine WL.nil ?_
    refine WC.seq<|WC.region ?_
    refine WL.q rfl (r_assign rfl) ?_
    refine WL.nil ?_
    refine WC.seq<|WC.seq<|WC.region ?_
    refine WL.q rfl (r_fieldAddr rfl fo_25_0) ?_
    refine WL.q rfl (r_load one_3 rfl (Ext.refl _) (hb1.get rfl)) ?_
    refine WL.nil ?_
    refine WC.block ?_
    refine WC.seq<|WC.region ?_
    refine WL.q rfl (r_cmp (r_eql rfl rfl) (beqF (by omega))) ?_
    refine WL.q rfl (r_assign rfl) ?_
    refine WL.nil ?_
    refine WC.condF rfl ?_
    refine WC.seq<|WC.region ?_
    refine WL.q rfl (r_cmp (r_eql rfl rfl) (beqF (by omega))) ?_
    refine WL.q rfl (r_assign rfl) ?_
    refine WL.nil ?_
    refine WC.condF rfl ?_
    refine WC.seq<|WC.seq<|WC.region ?_
    refine WL.q rfl (r_cmp (r_eql rfl rfl) (beqF (by omega))) ?_
    refine WL.q rfl (r_assign rfl) ?_
    refine WL.nil ?_
    refine WC.condF rfl ?_
    refine WC.region ?_
    refine WL.q rfl (r_cmp (r_eql rfl rfl) (beqF (by omega))) ?_
    refine WL.q rfl (r_assign rfl) ?_
    refine WL.nil ?_
    refine WC.condF rfl ?_
    refine WC.seq<|WC.region ?_
    refine WL.q rfl (r_cmp (r_eql rfl rfl) (beqF (by omega))) ?_
    refine WL.q rfl (r_assign rfl) ?_
    refine WL.nil ?_
    refine WC.condF rfl ?_
    refine WC.seq<|WC.region ?_
    refine WL.q rfl (r_cmp (r_eql rfl rfl) (beqF (by omega))) ?_
    refine WL.q rfl (r_assign rfl) ?_
    refine WL.nil ?_
    refine WC.condF rfl ?_
    refine WC.seq<|WC.region ?_
    refine WL.q rfl (r_cmp (r_eql rfl rfl) (beqF (by omega))) ?_
    refine WL.q rfl (r_assign rfl) ?_
    refine WL.nil ?_
    refine WC.condF rfl ?_
    refine WC.seq<|WC.region ?_
    refine WL.q rfl (r_cmp (r_eql rfl rfl) (beqF (by omega))) ?_
    refine WL.q rfl (r_assign rfl) ?_
    refine WL.nil ?_
    refine WC.condF rfl ?_
    refine WC.seq<|WC.region ?_
    refine WL.q rfl (r_cmp (r_eql rfl rfl) (beqF (by omega))) ?_
    refine WL.q rfl (r_assign rfl) ?_
    refine WL.nil ?_
    refine WC.condF rfl ?_
    refine WC.seq<|WC.region ?_
    refine WL.q rfl (r_cmp (r_eql rfl rfl) (beqT (by omega))) ?_
    refine WL.q rfl (r_assign rfl) ?_
    refine WL.nil ?_
    refine WC.condT rfl ?_
    refine WC.region ?_
    refine WL.q rfl (r_move rfl) ?_
    refine WL.q rfl (r_fieldAddr rfl fo_25_4) ?_
    refine WL.q rfl (r_load one_23 rfl (Ext.refl _) (hb1.get rfl)) ?_
    refine WL.q rfl (r_len sl_23 rfl) ?_
    refine WL.q rfl (r_bld (cs:=[_,_]) bld_55 rfl rfl) ?_
    refine WL.q rfl (r_bld (cs:=[_,_]) bld_55 rfl rfl) ?_
    replace he:=he.then e1
    have hs2:=he.size
    have hx2b1:=hb1.lt
    refine WL.l rfl (l_lit (vs:=[_,_]) slz_79 rfl (by first|rfl|(simp[Value.cells,Nat.beq_eq, *];done)) rfl rfl rfl) fun _ w2 hh=>?_
    obtain⟨rfl,hb2,e2⟩:=hh
    have ns2:w1.heap.size≤w2.heap.size:=e2.size
    replace hF:=(hF.mono e1).mono e2
    refine WL.l rfl (l_do body_20 rfl (putHead_ok (fixed:=144) (under:=16) (fs:=arrF) hF (show At _ _ 0 (arrF.flatMap fcell)from hb2.at) (by omega) (by decide) (fun p=>arrF_8) (by decide) (n:=ks.length) (by omega) ⟨(221,4),by simp[arrF],fit4 (by omega)⟩ (fun _=>⟨144,4,rfl,by decide,by decide,by decide,rfl⟩))) fun v3 w3 hh=>?_
    obtain⟨dd,qH,hOh,hF,e3⟩:=hh
    have qhl:=headP_len qH fun p=>arrF_8
    have ns3:w2.heap.size≤w3.heap.size:=e3.size
    refine WL.q rfl (r_assign rfl) ?_
    refine WL.nil ?_
    refine WC.seq<|WC.seq<|WC.region ?_
    refine WL.q rfl (r_fieldAddr rfl fo_25_4) ?_
    replace hb1:=(hb1.mono e2).mono e3
    refine WL.q rfl (r_load one_23 rfl (Ext.refl _) (hb1.get rfl)) ?_
    refine WL.q rfl (r_len sl_23 rfl) ?_
    refine WL.q rfl (r_move rfl) ?_
    refine WL.nil ?_
    refine WC.block ?_
    replace hK:=((hK.mono e1).mono e2).mono e3
    replace he:=(he.then e2).then e3
    refine WC.loop2 (ι:=(Nat×Value)) [(1,_),(4,_),(104,_),(105,_)] (fun i=>[(5,i.2),(106,.int .i64 (i.1:Int))]) (fun i wi=>(∃l,Own w.heap.size 5 1 wi i.2 (dd++l).length (bc (dd++l))∧EncPL (ks.take i.1) l)∧i.1≤ks.length∧Fm wi fb∧Evo (fun b=>b<w.heap.size∧b≠fb) w3 wi) (fun i=>ks.length-i.1) (0,v3) (.cons rfl (.cons rfl (.cons rfl (.cons rfl .nil)))) (.cons rfl (.cons rfl .nil)) (⟨⟨[],(hOh.low (by omega)).cast (by simp) (by simp),by rw[List.take_zero,EncPL]⟩,by omega,hF,Evo.refl _⟩) ?_
    intro i wi1 hh;obtain⟨⟨l,hO,qL⟩,ni,hF,hE⟩:=hh
    obtain⟨i,sv⟩:=i
    dsimp only at hO qL ni
    have nwi:=hE.size
    have hlv:=encPL_len qL
    have hvi:=pvolL_le (l:=ks) i
    rcases Nat.lt_or_ge i ks.length with qi|qi
    replace hK:=hK.mono hE
    · obtain⟨b,o1,c1,rfl,hbA,hA1,l2,hR1⟩:=hK.kid qi
      have hone:=hR1.one
      have hvt:=pvolL_take qi
      have hvi2:=pvolL_le (l:=ks) (i+1)
      have hFk:=pL.mem _ (List.getElem_mem qi)
      have hJk:=hJL.mem _ (List.getElem_mem qi)
      have hNk:=hNL.mem _ (List.getElem_mem qi)
      have hR2:=hR1.weaken (B:=fun b=>b≠fb) fun b h=>h.2
      refine WC.seq<|WC.region ?_
      refine WL.q rfl (r_cmp (r_lss rfl rfl) (decide_eq_true (by(omega)))) ?_
      refine WL.nil ?_
      refine WC.seq<|WC.condT rfl ?_
      refine WC.skip ?_
      refine WC.seq<|WC.block ?_
      refine WC.seq<|WC.region ?_
      refine WL.q rfl (r_idx sl_23 rfl rfl rfl (by first|omega|(simp;done)|(simp;omega))) ?_
      refine WL.q rfl (r_loadAgg agg_25 rfl (Ext.refl _) hA1 (hn:=l2)) ?_
      replace he:=he.then hE
      have hs4:=he.size
      refine WL.l rfl (l_alloc zt_25 rfl) fun _ w4 hh=>?_
      obtain⟨rfl,hb4,e4⟩:=hh
      have nx4:=hb4.lt
      have ns4:wi1.heap.size≤w4.heap.size:=e4.size
      refine WL.l0 (l_storeW sz_25 rfl rfl (by first|rfl|assumption|(simp[*];done)|simp[Value.oneCell', *]) (by first|rfl|simp[*]) hb4 (by first|rfl|simp[*])) fun _ w5 hh=>?_
      obtain⟨hb4,e5,hz5⟩:=hh
      have ns5:w4.heap.size≤w5.heap.size:=e5.size
      refine WL.nil ?_
      refine WC.region ?_
      refine WL.q rfl (r_move rfl) ?_
      refine WL.q rfl (r_loadAgg agg_25 rfl (Ext.refl _) hb4.at (hn:=by first|rfl|assumption)) ?_
      refine WL.q rfl (r_move rfl) ?_
      replace hF:=hF.mono (e4.then e5)
      replace hR2:=hR2.mono (e4.then e5)
      refine WL.l rfl (l_do body_9 rfl (hks _ (List.getElem_mem qi) _ _ _ _ hR2 hFk hJk hNk (by omega) hF)) fun v6 w6 hh=>?_
      obtain⟨bk,qE,hI,hF,e6⟩:=hh
      have qbl:=encP_len qE
      have ns6:w5.heap.size≤w6.heap.size:=e6.size
      replace hO:=(hO.mono (e4.then e5)).mono e6
      refine WL.l rfl (l_app slz_27 rfl rfl hO (Src.isB slk_27 hI) (by omega) (by simp only[maxLen,List.length_append];omega) (by simp only[List.length_append];omega)) fun v7 w7 hh=>?_
      obtain⟨hO,e7⟩:=hh
      have ns7:w6.heap.size≤w7.heap.size:=e7.size
      refine WL.q rfl (r_assign rfl) ?_
      refine WL.nil ?_
      refine WC.region ?_
      refine WL.q rfl (r_addi rfl rfl rfl (by omega) (by omega)) ?_
      refine WL.q rfl (r_move rfl) ?_
      refine WL.nil ?_
      have hsn:ks.take (i+1)=ks.take i++[ks[i]]:=(List.take_append_getElem qi).symm
      replace hF:=hF.mono e7
      exact⟨(i+1,v7),(.cons rfl (.cons rfl (.cons rfl (.cons rfl .nil)))),(.cons rfl (.cons (lk_int rfl (by omega)) .nil)),⟨⟨l++bk,hO.cast (by simp;omega) (by rw[← bc_append,List.append_assoc]),by dsimp only;rw[hsn];exact qL.snoc qE⟩,qi,hF,((((hE.then (e4.then e5)).then e6).then e7))⟩,(by dsimp only;omega)⟩
    · have hil:i=ks.length:=by omega
      subst hil
      rw[List.take_length]at qL
      refine WC.seq<|WC.region ?_
      refine WL.q rfl (r_cmp (r_lss rfl rfl) (decide_eq_false (by(omega)))) ?_
      refine WL.nil ?_
      refine WC.seq<|WC.condF rfl ?_
      refine WC.exit ?_
      refine WC.seq<|WC.region ?_
      refine WL.q rfl (r_move rfl) ?_
      refine WL.q rfl (r_assign rfl) ?_
      refine WL.nil ?_
      refine WC.ret ?_
      replace he:=he.then hE
      exact fin1 rfl ⟨dd++l,by rw[EncP];exact .inr (.inr (.inr (.inr (.inr (.inr (.inl ⟨rfl,dd,l,qH,qL,rfl⟩)))))),hO.toB (fun b h1 h2=>by omega),hF,he⟩
  rcases Decidable.em (k=9)with q9|q9
  · subst q9
    have hJL:=j89 (by decide)
    have hkl:ks.length≤2000:=p8
    refine does1 Tryz.func9 rfl rfl rfl ?_
    have he:Evo (fun k=>k≠fb) w w:=Evo.refl w
    refine WC.seq<|WC.region ?_
    have hs1:=he.size
    refine WL.l rfl (l_boxAgg rfl) fun _ w1 hh=>?_
    obtain⟨rfl,hb1,e1⟩:=hh
    have nx1:=hb1.lt
    have ns1:w.heap.size≤w1.heap.size:=e1.size
    refine WL.q rfl (r_assign rfl) ?_
    refine WL.nil ?_
    refine WC.seq<|WC.region ?_
    refine WL.q rfl (r_assign rfl) ?_
    refine WL.nil ?_
    refine WC.seq<|WC.seq<|WC.region ?_
    refine WL.q rfl (r_fieldAddr rfl fo_25_0) ?_
    refine WL.q rfl (r_load one_3 rfl (Ext.refl _) (hb1.get rfl)) ?_
    refine WL.nil ?_
    refine WC.block ?_
    refine WC.seq<|WC.region ?_
    refine WL.q rfl (r_cmp (r_eql rfl rfl) (beqF (by omega))) ?_
    refine WL.q rfl (r_assign rfl) ?_
    refine WL.nil ?_
    refine WC.condF rfl ?_
    refine WC.seq<|WC.region ?_
    refine WL.q rfl (r_cmp (r_eql rfl rfl) (beqF (by omega))) ?_
    refine WL.q rfl (r_assign rfl) ?_
    refine WL.nil ?_
    refine WC.condF rfl ?_
    refine WC.seq<|WC.seq<|WC.region ?_
    refine WL.q rfl (r_cmp (r_eql rfl rfl) (beqF (by omega))) ?_
    refine WL.q rfl (r_assign rfl) ?_
    refine WL.nil ?_
    refine WC.condF rfl ?_
    refine WC.region ?_
    refine WL.q rfl (r_cmp (r_eql rfl rfl) (beqF (by omega))) ?_
    refine WL.q rfl (r_assign rfl) ?_
    refine WL.nil ?_
    refine WC.condF rfl ?_
    refine WC.seq<|WC.region ?_
    refine WL.q rfl (r_cmp (r_eql rfl rfl) (beqF (by omega))) ?_
    refine WL.q rfl (r_assign rfl) ?_
    refine WL.nil ?_
    refine WC.condF rfl ?_
    refine WC.seq<|WC.region ?_
    refine WL.q rfl (r_cmp (r_eql rfl rfl) (beqF (by omega))) ?_
    refine WL.q rfl (r_assign rfl) ?_
    refine WL.nil ?_
    refine WC.condF rfl ?_
    refine WC.seq<|WC.region ?_
    refine WL.q rfl (r_cmp (r_eql rfl rfl) (beqF (by omega))) ?_
    refine WL.q rfl (r_assign rfl) ?_
    refine WL.nil ?_
    refine WC.condF rfl ?_
    refine WC.seq<|WC.region ?_
    refine WL.q rfl (r_cmp (r_eql rfl rfl) (beqF (by omega))) ?_
    refine WL.q rfl (r_assign rfl) ?_
    refine WL.nil ?_
    refine WC.condF rfl ?_
    refine WC.seq<|WC.region ?_
    refine WL.q rfl (r_cmp (r_eql rfl rfl) (beqF (by omega))) ?_
    refine WL.q rfl (r_assign rfl) ?_
    refine WL.nil ?_
    refine WC.condF rfl ?_
    refine WC.seq<|WC.region ?_
    refine WL.q rfl (r_cmp (r_eql rfl rfl) (beqF (by omega))) ?_
    refine WL.q rfl (r_assign rfl) ?_
    refine WL.nil ?_
    refine WC.condF rfl ?_
    refine WC.seq<|WC.region ?_
    refine WL.q rfl (r_cmp (r_eql rfl rfl) (beqT (by omega))) ?_
    refine WL.q rfl (r_assign rfl) ?_
    refine WL.nil ?_
    refine WC.condT rfl ?_
    refine WC.region ?_
    refine WL.q rfl (r_move rfl) ?_
    refine WL.q rfl (r_fieldAddr rfl fo_25_4) ?_
    refine WL.q rfl (r_load one_23 rfl (Ext.refl _) (hb1.get rfl)) ?_
    refine WL.q rfl (r_len sl_23 rfl) ?_
    refine WL.q rfl (r_quoE (c:=((ks.length / 2:Nat):Int)) (by decide) rfl rfl (by rw[Int.tdiv_eq_ediv_of_nonneg (by omega),wrap_i64 (by omega) (by omega)];omega)) ?_
    refine WL.q rfl (r_bld (cs:=[_,_]) bld_55 rfl rfl) ?_
    refine WL.q rfl (r_bld (cs:=[_,_]) bld_55 rfl rfl) ?_
    replace he:=he.then e1
    have hs2:=he.size
    have hx2b1:=hb1.lt
    refine WL.l rfl (l_lit (vs:=[_,_]) slz_79 rfl (by first|rfl|(simp[Value.cells,Nat.beq_eq, *];done)) rfl rfl rfl) fun _ w2 hh=>?_
    obtain⟨rfl,hb2,e2⟩:=hh
    have ns2:w1.heap.size≤w2.heap.size:=e2.size
    replace hF:=(hF.mono e1).mono e2
    refine WL.l rfl (l_do body_20 rfl (putHead_ok (fixed:=128) (under:=16) (fs:=mapF) hF (show At _ _ 0 (mapF.flatMap fcell)from hb2.at) (by omega) (by decide) (fun p=>mapF_8) (by decide) (n:=ks.length / 2) (by omega) ⟨(223,4),by simp[mapF],fit4 (by omega)⟩ (fun _=>⟨128,4,rfl,by decide,by decide,by decide,rfl⟩))) fun v3 w3 hh=>?_
    obtain⟨dd,qH,hOh,hF,e3⟩:=hh
    have qhl:=headP_len qH fun p=>mapF_8
    have ns3:w2.heap.size≤w3.heap.size:=e3.size
    refine WL.q rfl (r_assign rfl) ?_
    refine WL.nil ?_
    refine WC.seq<|WC.seq<|WC.region ?_
    refine WL.q rfl (r_fieldAddr rfl fo_25_4) ?_
    replace hb1:=(hb1.mono e2).mono e3
    refine WL.q rfl (r_load one_23 rfl (Ext.refl _) (hb1.get rfl)) ?_
    refine WL.q rfl (r_len sl_23 rfl) ?_
    refine WL.q rfl (r_move rfl) ?_
    refine WL.nil ?_
    refine WC.block ?_
    replace hK:=((hK.mono e1).mono e2).mono e3
    replace he:=(he.then e2).then e3
    refine WC.loop2 (ι:=(Nat×Value)) [(1,_),(4,_),(104,_),(105,_)] (fun i=>[(5,i.2),(106,.int .i64 (i.1:Int))]) (fun i wi=>(∃l,Own w.heap.size 5 1 wi i.2 (dd++l).length (bc (dd++l))∧EncPL (ks.take i.1) l)∧i.1≤ks.length∧Fm wi fb∧Evo (fun b=>b<w.heap.size∧b≠fb) w3 wi) (fun i=>ks.length-i.1) (0,v3) (.cons rfl (.cons rfl (.cons rfl (.cons rfl .nil)))) (.cons rfl (.cons rfl .nil)) (⟨⟨[],(hOh.low (by omega)).cast (by simp) (by simp),by rw[List.take_zero,EncPL]⟩,by omega,hF,Evo.refl _⟩) ?_
    intro i wi1 hh;obtain⟨⟨l,hO,qL⟩,ni,hF,hE⟩:=hh
    obtain⟨i,sv⟩:=i
    dsimp only at hO qL ni
    have nwi:=hE.size
    have hlv:=encPL_len qL
    have hvi:=pvolL_le (l:=ks) i
    rcases Nat.lt_or_ge i ks.length with qi|qi
    replace hK:=hK.mono hE
    · obtain⟨b,o1,c1,rfl,hbA,hA1,l2,hR1⟩:=hK.kid qi
      have hone:=hR1.one
      have hvt:=pvolL_take qi
      have hvi2:=pvolL_le (l:=ks) (i+1)
      have hFk:=pL.mem _ (List.getElem_mem qi)
      have hJk:=hJL.mem _ (List.getElem_mem qi)
      have hNk:=hNL.mem _ (List.getElem_mem qi)
      have hR2:=hR1.weaken (B:=fun b=>b≠fb) fun b h=>h.2
      refine WC.seq<|WC.region ?_
      refine WL.q rfl (r_cmp (r_lss rfl rfl) (decide_eq_true (by(omega)))) ?_
      refine WL.nil ?_
      refine WC.seq<|WC.condT rfl ?_
      refine WC.skip ?_
      refine WC.seq<|WC.block ?_
      refine WC.seq<|WC.region ?_
      refine WL.q rfl (r_idx sl_23 rfl rfl rfl (by first|omega|(simp;done)|(simp;omega))) ?_
      refine WL.q rfl (r_loadAgg agg_25 rfl (Ext.refl _) hA1 (hn:=l2)) ?_
      replace he:=he.then hE
      have hs4:=he.size
      refine WL.l rfl (l_alloc zt_25 rfl) fun _ w4 hh=>?_
      obtain⟨rfl,hb4,e4⟩:=hh
      have nx4:=hb4.lt
      have ns4:wi1.heap.size≤w4.heap.size:=e4.size
      refine WL.l0 (l_storeW sz_25 rfl rfl (by first|rfl|assumption|(simp[*];done)|simp[Value.oneCell', *]) (by first|rfl|simp[*]) hb4 (by first|rfl|simp[*])) fun _ w5 hh=>?_
      obtain⟨hb4,e5,hz5⟩:=hh
      have ns5:w4.heap.size≤w5.heap.size:=e5.size
      refine WL.nil ?_
      refine WC.region ?_
      refine WL.q rfl (r_move rfl) ?_
      refine WL.q rfl (r_loadAgg agg_25 rfl (Ext.refl _) hb4.at (hn:=by first|rfl|assumption)) ?_
      refine WL.q rfl (r_move rfl) ?_
      replace hF:=hF.mono (e4.then e5)
      replace hR2:=hR2.mono (e4.then e5)
      refine WL.l rfl (l_do body_9 rfl (hks _ (List.getElem_mem qi) _ _ _ _ hR2 hFk hJk hNk (by omega) hF)) fun v6 w6 hh=>?_
      obtain⟨bk,qE,hI,hF,e6⟩:=hh
      have qbl:=encP_len qE
      have ns6:w5.heap.size≤w6.heap.size:=e6.size
      replace hO:=(hO.mono (e4.then e5)).mono e6
      refine WL.l rfl (l_app slz_27 rfl rfl hO (Src.isB slk_27 hI) (by omega) (by simp only[maxLen,List.length_append];omega) (by simp only[List.length_append];omega)) fun v7 w7 hh=>?_
      obtain⟨hO,e7⟩:=hh
      have ns7:w6.heap.size≤w7.heap.size:=e7.size
      refine WL.q rfl (r_assign rfl) ?_
      refine WL.nil ?_
      refine WC.region ?_
      refine WL.q rfl (r_addi rfl rfl rfl (by omega) (by omega)) ?_
      refine WL.q rfl (r_move rfl) ?_
      refine WL.nil ?_
      have hsn:ks.take (i+1)=ks.take i++[ks[i]]:=(List.take_append_getElem qi).symm
      replace hF:=hF.mono e7
      exact⟨(i+1,v7),(.cons rfl (.cons rfl (.cons rfl (.cons rfl .nil)))),(.cons rfl (.cons (lk_int rfl (by omega)) .nil)),⟨⟨l++bk,hO.cast (by simp;omega) (by rw[← bc_append,List.append_assoc]),by dsimp only;rw[hsn];exact qL.snoc qE⟩,qi,hF,((((hE.then (e4.then e5)).then e6).then e7))⟩,(by dsimp only;omega)⟩
    · have hil:i=ks.length:=by omega
      subst hil
      rw[List.take_length]at qL
      refine WC.seq<|WC.region ?_
      refine WL.q rfl (r_cmp (r_lss rfl rfl) (decide_eq_false (by(omega)))) ?_
      refine WL.nil ?_
      refine WC.seq<|WC.condF rfl ?_
      refine WC.exit ?_
      refine WC.seq<|WC.region ?_
      refine WL.q rfl (r_move rfl) ?_
      refine WL.q rfl (r_assign rfl) ?_
      refine WL.nil ?_
      refine WC.ret ?_
      replace he:=he.then hE
      exact fin1 rfl ⟨dd++l,by rw[EncP];exact .inr (.inr (.inr (.inr (.inr (.inr (.inr ⟨rfl,dd,l,qH,qL,rfl⟩)))))),hO.toB (fun b h1 h2=>by omega),hF,he⟩
  omega
theorem puts:∀x:Pk,PutS x:=Pk.ind fun _ _ _ _ _ h=>put_one h
end Go.Proofs.LL
