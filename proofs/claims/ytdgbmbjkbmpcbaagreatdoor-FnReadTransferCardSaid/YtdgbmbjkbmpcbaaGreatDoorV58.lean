/- Contracts of functions and own laws. Conditions: those that each theorem states. -/
import Derived.Test.YtdgbmbjkbmpcbaaGreatDoorV57
import Derived.Test.YtdgbmbjkbmpcbaaGreatDoorRows
import Derived.ProofKit
import Derived.OpenShut
import Derived.LaidMore
import Derived.ReadAgain
import Derived.ChangeSame
import Derived.Stop.Joined
import Derived.Lib.LaidU8T
import Derived.Lay
import Derived.ChangeAlike
import Derived.JoinedOf
set_option linter.all false
set_option autoImplicit true
set_option relaxedAutoImplicit true
set_option maxRecDepth 100000
namespace Go.Proofs.LL
open Go Go.Proofs Go.RowKit
set_option maxHeartbeats 4000000
attribute [local irreducible] ar WL WC cq WT WX
theorem c87:Tryz.prog.cellsOf 87=6:=by kernel_rfl
theorem c55:Tryz.prog.cellsOf 55=3:=by kernel_rfl
theorem c3:Tryz.prog.cellsOf 3=1:=by kernel_rfl
theorem c9:Tryz.prog.cellsOf 9=1:=by kernel_rfl
theorem c23:Tryz.prog.cellsOf 23=1:=by kernel_rfl
theorem c27:Tryz.prog.cellsOf 27=1:=by kernel_rfl
theorem cell5:Tryz.prog.cellsOf 5=1:=by kernel_rfl
theorem wfu64{z:Int}(h:(Lit.int .u64 z).wf=true):0≤z∧z<18446744073709551616:=by
 simp[Lit.wf,IntKind.min,IntKind.max,IntKind.signed,IntKind.bits]at h
 omega
section
variable {H:Type} {enc:TypeId×Value→H} {w:World} {base:Nat} {spare:Nat→Bool} {held:Bool}
theorem row_at{a:Addr}{len:Nat}{Q:List Value→Prop}(hz:0<z)(h:∀i,i<len→∃cs,w.cells? base (a.add (i * z)) z=some cs∧Q cs)(h0:0<len):
  ∃b o,a=⟨b,o,none⟩∧b<w.heap.size∧∀i,i<len→∃cs,cs.length=z∧At w b (o+i * z) cs∧Q cs:=by
 obtain⟨b,o,spot⟩:=a
 obtain⟨cs,h1,h2⟩:=h 0 h0
 obtain⟨_,hl,hc⟩:=World.cells?_some h1
 have hc0:=hc 0 hz
 have hsp:spot=none:=by
  rw[List.getElem?_eq_getElem (by omega)]at hc0
  have:=World.cell?_spot hc0
  simpa[Addr.add]using this
 subst hsp
 refine⟨b,o,rfl,?_,fun i hi=>?_⟩
 ·rw[List.getElem?_eq_getElem (by omega),Nat.zero_mul,bV,bV]at hc0
  exact bD hc0
 ·obtain⟨cs',h3,h4⟩:=h i hi
  obtain⟨_,hl',hc'⟩:=World.cells?_some h3
  refine⟨cs',hl',fun j hj=>?_,h4⟩
  have:=hc' j (by omega)
  rw[bV,bV]at this
  exact this
theorem At.app(h:At w b o c)(h':At w b (o+c.length) d):At w b o (c++d):=fun j hj=>by
 rcases Nat.lt_or_ge j c.length with h1|h1
 ·rw[h j h1,List.getElem?_append_left h1]
 ·have:=h' (j-c.length) (by rw[List.length_append]at hj;omega)
  rw[List.getElem?_append_right h1,← this]
  congr 2;omega
theorem rows_V{len:Nat}(h:∀i,i<len→∃cs,cs.length=6∧At w b (o+i * 6) cs∧∃V,aC (fun b=>b<w.heap.size) w V cs):∀k,k≤len→∃ys cells,ys.length=k∧ag (fun b=>b<w.heap.size) w ys cells∧At w b o cells∧cells.length=k * 6
 |0,_=>⟨[],[],rfl,by rw[ag],fun j hj=>absurd hj (by simp),rfl⟩
 |k+1,hk=>by
  obtain⟨ys,cells,h1,h2,h3,h4⟩:=rows_V h k (by omega)
  obtain⟨cs,h5,h6,V,h7⟩:=h k (by omega)
  exact⟨ys++[V],cells++cs,by simp[h1],h2.snoc h7,h3.app (by rw[h4];exact h6),by rw[List.length_append,h4,h5];omega⟩
theorem open_Vs(ih:∀cs x,DataW.trod enc Tryz.prog w base spare held n 87 cs=some x→∃V,aC (fun b=>b<w.heap.size) w V cs){cs:List Value}{x:DataW H×List MemPlace}(h:DataW.trod enc Tryz.prog w base spare held (n+1) 23 cs=some x):
  ∃ys sk,cs=[sk]∧cM (fun b=>b<w.heap.size) w ys.length sk (ag (fun b=>b<w.heap.size) w ys):=by
 rcases DataW.trod_slice Tryz.underlying23 h with⟨rfl,_⟩|⟨a,len,cap,elems,rest,m,hm,rfl,_,_,hlc,_,hel,hall,_⟩
 ·exact⟨[],_,rfl,cM.nil⟩
 ·obtain rfl:n=m:=by omega
  rcases Nat.eq_zero_or_pos len with h0|h0
  ·subst h0
   exact⟨[],_,rfl,some a,cap,[],rfl,Nat.zero_le _,by rw[ag],.inl rfl⟩
  ·rw[c87]at hall
   obtain⟨b,o,rfl,hb,hr⟩:=row_at (z:=6) (len:=len) (Q:=fun cs=>∃V,aC (fun b=>b<w.heap.size) w V cs) (by omega) (fun i hi=>by
    have h1:=hall i hi
    rw[List.getElem?_eq_getElem (by omega)]at h1
    obtain⟨cs',h2,h3⟩:=Option.bind_eq_some_iff.1 h1
    exact⟨cs',h2,ih _ _ h3⟩) h0
   obtain⟨ys,cells,h1,h2,h3,h4⟩:=rows_V hr len (Nat.le_refl _)
   exact⟨ys,_,rfl,some ⟨b,o,none⟩,cap,cells,by rw[h1],by omega,h2,.inr ⟨b,o,rfl,hb,h3⟩⟩
theorem open_V:∀(n:Nat) (cs:List Value) (x:DataW H×List MemPlace),DataW.trod enc Tryz.prog w base spare held n 87 cs=some x→∃V,aC (fun b=>b<w.heap.size) w V cs:=by
 intro n
 induction n using Nat.strongRecOn with
 |_ n ih=>
  intro cs x h
  obtain⟨xs,m,rfl,_,hcl,hxl,hf⟩:=DataW.trod_struct Tryz.underlying87 h
  rw[c87]at hcl
  have f0:DataW.trod enc Tryz.prog w base spare held m 3 ((cs.drop 0).take (Tryz.prog.cellsOf 3))=xs[0]?:=hf 0 _ rfl
  have f1:DataW.trod enc Tryz.prog w base spare held m 27 ((cs.drop 1).take (Tryz.prog.cellsOf 27))=xs[1]?:=hf 1 _ rfl
  have f2:DataW.trod enc Tryz.prog w base spare held m 9 ((cs.drop 2).take (Tryz.prog.cellsOf 9))=xs[2]?:=hf 2 _ rfl
  have f3:DataW.trod enc Tryz.prog w base spare held m 23 ((cs.drop 3).take (Tryz.prog.cellsOf 23))=xs[3]?:=hf 3 _ rfl
  have f4:DataW.trod enc Tryz.prog w base spare held m 3 ((cs.drop 4).take (Tryz.prog.cellsOf 3))=xs[4]?:=hf 4 _ rfl
  have f5:DataW.trod enc Tryz.prog w base spare held m 23 ((cs.drop 5).take (Tryz.prog.cellsOf 23))=xs[5]?:=hf 5 _ rfl
  have hx6:xs.length=6:=hxl
  match cs,hcl with
  |[a0,a1,a2,a3,a4,a5],_=>
   rw[c3,List.getElem?_eq_getElem (by omega)]at f0 f4
   rw[c27,List.getElem?_eq_getElem (by omega)]at f1
   rw[c9,List.getElem?_eq_getElem (by omega)]at f2
   rw[c23,List.getElem?_eq_getElem (by omega)]at f3 f5
   obtain⟨k,e0,_,_⟩:=DataW.trod_int Tryz.underlying3 f0
   obtain⟨z,e1,_,wz⟩:=DataW.trod_int Tryz.underlying27 f1
   obtain⟨s,e2,_,_⟩:=DataW.trod_string Tryz.underlying9 f2
   obtain⟨o,e4,_,_⟩:=DataW.trod_int Tryz.underlying3 f4
   simp only[List.drop,List.take,List.cons.injEq,and_true]at e0 e1 e2 e4
   subst e0 e1 e2 e4
   cases m with
   |zero=>simp[DataW.trod]at f3
   |succ m=>
    have ih':=fun cs x=>ih m (by omega) cs x
    obtain⟨ks,sk,e3,hK⟩:=open_Vs ih' f3
    obtain⟨d,sd,e5,hD⟩:=open_Vs ih' f5
    simp only[List.drop,List.take,List.cons.injEq,and_true]at e3 e5
    subst e3 e5
    have hz:0≤z:=(wfu64 wz).1
    refine⟨.mk k z.toNat s.data.toList ks o d,?_⟩
    rw[aC]
    exact⟨_,_,by rw[Int.toNat_of_nonneg hz],hK,hD⟩
theorem open_F{x:DataW H×List MemPlace}(h:DataW.trod enc Tryz.prog w base spare held n 55 cs=some x):∃c d i p cp,cs=[str c,str d,.slice p i.length cp]∧cM (fun b=>b<w.heap.size) w i.length (.slice p i.length cp) (ag (fun b=>b<w.heap.size) w i):=by
 obtain⟨xs,m,rfl,_,hcl,hxl,hf⟩:=DataW.trod_struct Tryz.underlying55 h
 rw[c55]at hcl
 have f0:DataW.trod enc Tryz.prog w base spare held m 9 ((cs.drop 0).take (Tryz.prog.cellsOf 9))=xs[0]?:=hf 0 _ rfl
 have f1:DataW.trod enc Tryz.prog w base spare held m 9 ((cs.drop 1).take (Tryz.prog.cellsOf 9))=xs[1]?:=hf 1 _ rfl
 have f2:DataW.trod enc Tryz.prog w base spare held m 23 ((cs.drop 2).take (Tryz.prog.cellsOf 23))=xs[2]?:=hf 2 _ rfl
 have hx3:xs.length=3:=hxl
 match cs,hcl with
 |[a0,a1,a2],_=>
  rw[c9,List.getElem?_eq_getElem (by omega)]at f0 f1
  rw[c23,List.getElem?_eq_getElem (by omega)]at f2
  obtain⟨s,e0,_,_⟩:=DataW.trod_string Tryz.underlying9 f0
  obtain⟨s2,e1,_,_⟩:=DataW.trod_string Tryz.underlying9 f1
  simp only[List.drop,List.take,List.cons.injEq,and_true]at e0 e1
  subst e0 e1
  cases m with
  |zero=>simp[DataW.trod]at f2
  |succ m=>
   obtain⟨ks,sk,e2,hK⟩:=open_Vs (open_V m) f2
   simp only[List.drop,List.take,List.cons.injEq,and_true]at e2
   subst e2
   have hK':=hK
   obtain⟨p,cp,cells,rfl,_⟩:=hK
   exact⟨s.data.toList,s2.data.toList,ks,p,cp,rfl,hK'⟩
theorem open_Fs{x:DataW H×List MemPlace}(h:DataW.trod enc Tryz.prog w base spare held n 53 cs=some x):∃p len c,cs=[.slice p len c]∧(len≤1→∃l:List mH,l.length=len∧kE (fun b=>b<w.heap.size) w l (.slice p len c)):=by
 rcases DataW.trod_slice Tryz.underlying53 h with⟨rfl,_⟩|⟨a,len,cap,elems,rest,m,hm,rfl,_,_,hlc,_,hel,hall,_⟩
 ·exact⟨none,0,0,rfl,fun _=>⟨[],rfl,⟨none,0,rfl,Nat.le_refl _,.inl rfl⟩⟩⟩
 ·refine⟨some a,len,cap,rfl,fun hl=>?_⟩
  rcases Nat.eq_zero_or_pos len with h0|h0
  ·subst h0
   exact⟨[],rfl,⟨some a,cap,rfl,Nat.zero_le _,.inl rfl⟩⟩
  ·obtain rfl:len=1:=by omega
   rw[c55]at hall
   obtain⟨b,o,rfl,hb,hr⟩:=row_at (z:=3) (len:=1) (Q:=fun cs=>∃c d i p cp,cs=[str c,str d,.slice p i.length cp]∧cM (fun b=>b<w.heap.size) w i.length (.slice p i.length cp) (ag (fun b=>b<w.heap.size) w i)) (by omega) (fun i hi=>by
    have h1:=hall i hi
    rw[List.getElem?_eq_getElem (by omega)]at h1
    obtain⟨cs',h2,h3⟩:=Option.bind_eq_some_iff.1 h1
    exact⟨cs',h2,open_F h3⟩) h0
   obtain⟨cs,_,h2,c,d,i,p,cp,rfl,h3⟩:=hr 0 h0
   exact⟨[(c,d,i)],rfl,⟨_,cap,rfl,hlc,.inr ⟨c,d,i,b,o,p,cp,rfl,rfl,hb,hb,by simpa using h2,h3⟩⟩⟩
theorem rows_B{len:Nat}(h:∀i,i<len→∃cs,cs.length=1∧At w b (o+i * 1) cs∧∃u:UInt8,cs=[.int .u8 (u.toNat:Int)]):∀k,k≤len→∃l:List UInt8,l.length=k∧At w b o (bc l)
 |0,_=>⟨[],rfl,fun j hj=>absurd hj (by simp[bc])⟩
 |k+1,hk=>by
  obtain⟨l,h1,h3⟩:=rows_B h k (by omega)
  obtain⟨cs,h5,h6,u,rfl⟩:=h k (by omega)
  refine⟨l++[u],by simp[h1],?_⟩
  rw[bC]
  refine h3.app ?_
  rw[show(bc l).length=l.length from by simp[bc],h1]
  rw[Nat.mul_one]at h6
  exact h6
theorem open_Bs{x:DataW H×List MemPlace}(h:DataW.trod enc Tryz.prog w base spare held n 28 cs=some x):∃p c l,cs=[.slice p l.length c]∧bT (fun b=>b<w.heap.size) w (.slice p l.length c) l:=by
 rcases DataW.trod_slice Tryz.underlying28 h with⟨rfl,_⟩|⟨a,len,cap,elems,rest,m,hm,rfl,_,_,hlc,_,hel,hall,_⟩
 ·exact⟨none,0,[],rfl,none,0,rfl,Nat.le_refl _,fun h=>absurd rfl h⟩
 ·rcases Nat.eq_zero_or_pos len with h0|h0
  ·subst h0
   exact⟨some a,cap,[],rfl,some a,cap,rfl,Nat.zero_le _,fun h=>absurd rfl h⟩
  ·rw[cell5]at hall
   obtain⟨b,o,rfl,hb,hr⟩:=row_at (z:=1) (len:=len) (Q:=fun cs=>∃u:UInt8,cs=[.int .u8 (u.toNat:Int)]) (by omega) (fun i hi=>by
    have h1:=hall i hi
    rw[List.getElem?_eq_getElem (by omega)]at h1
    obtain⟨cs',h2,h3⟩:=Option.bind_eq_some_iff.1 h1
    obtain⟨z,e,_,wz⟩:=DataW.trod_int Tryz.underlying5 h3
    refine⟨cs',h2,UInt8.ofNat z.toNat,?_⟩
    have hz:0≤z∧z<256:=by
     simp[Lit.wf,IntKind.min,IntKind.max,IntKind.signed,IntKind.bits]at wz
     omega
    rw[e,jh (by omega),Int.toNat_of_nonneg hz.1]) h0
   obtain⟨l,h1,h2⟩:=rows_B hr len (Nat.le_refl _)
   subst h1
   exact⟨_,cap,l,rfl,_,cap,rfl,hlc,fun _=>⟨b,o,rfl,hb,h2.bytes⟩⟩
end
end Go.Proofs.LL
namespace Go.Proofs.LL
open Go Go.Proofs Go.RowKit
set_option maxHeartbeats 4000000
attribute [local irreducible] ar WL WC cq WT WX
theorem k22:TP.cellsOf 22=1:=by kernel_rfl
theorem k4:TP.cellsOf 4=1:=by kernel_rfl
theorem k44:TP.cellsOf 44=1:=by kernel_rfl
theorem k28:TP.cellsOf 28=1:=by kernel_rfl
theorem k45:TP.cellsOf 45=1:=by kernel_rfl
theorem k53:TP.cellsOf 53=1:=by kernel_rfl
theorem k47:TP.cellsOf 47=12:=by kernel_rfl
theorem k172:TP.cellsOf 172=7:=by kernel_rfl
theorem wfu32x{z:Int}(h:(Lit.int .u32 z).wf=true):0≤z∧z<4294967296:=by
 simp[Lit.wf,IntKind.min,IntKind.max,IntKind.signed,IntKind.bits]at h
 omega
section
variable {H:Type} {enc:TypeId×Value→H} {w:World} {base:Nat} {spare:Nat→Bool} {held:Bool}
theorem open_Us{x:DataW H×List MemPlace}(h:DataW.trod enc TP w base spare held n 44 cs=some x):∃p c l,cs=[.slice p l.length c]∧dT .u32 (fun b=>b<w.heap.size) w l (.slice p l.length c)∧∀n∈l,n<4294967296:=by
 rcases DataW.trod_slice Tryz.underlying44 h with⟨rfl,_⟩|⟨a,len,cap,elems,rest,m,hm,rfl,_,_,hlc,_,hel,hall,_⟩
 ·exact⟨none,0,[],rfl,dT.nil,fun n hn=>by cases hn⟩
 ·rcases Nat.lt_or_ge 1 len with h1|h1
  ·have e:(List.replicate len 0).length=len:=List.length_replicate
   exact⟨some a,cap,List.replicate len 0,by rw[e],⟨_,cap,rfl,by rw[e];exact hlc,fun h=>by rw[e]at h;omega⟩,fun n hn=>by rw[List.eq_of_mem_replicate hn];decide⟩
  ·rcases Nat.eq_zero_or_pos len with h0|h0
   ·subst h0
    exact⟨some a,cap,[],rfl,⟨_,cap,rfl,Nat.zero_le _,fun h=>by cases h⟩,fun n hn=>by cases hn⟩
   ·obtain rfl:len=1:=by omega
    rw[k22]at hall
    obtain⟨b,o,rfl,hb,hr⟩:=row_at (z:=1) (len:=1) (Q:=fun cs=>∃z:Int,cs=[.int .u32 z]∧0≤z∧z<4294967296) (by omega) (fun i hi=>by
     have h1:=hall i hi
     rw[List.getElem?_eq_getElem (by omega)]at h1
     obtain⟨cs',h2,h3⟩:=Option.bind_eq_some_iff.1 h1
     obtain⟨z,e,_,wz⟩:=DataW.trod_int Tryz.underlying22 h3
     exact⟨cs',h2,z,e,wfu32x wz⟩) h0
    obtain⟨cs,_,h2,z,rfl,hz⟩:=hr 0 h0
    have ez:((z.toNat:Nat):Int)=z:=Int.toNat_of_nonneg hz.1
    exact⟨_,cap,[z.toNat],rfl,⟨_,cap,rfl,hlc,fun _=>⟨z.toNat,b,o,rfl,rfl,hb,hb,by rw[ez];simpa using h2⟩⟩,fun n hn=>by rw[List.mem_singleton.1 hn];omega⟩
theorem open_U8{x:DataW H×List MemPlace}(h:DataW.trod enc TP w base spare held n 28 cs=some x):∃p c l,cs=[.slice p l.length c]∧dT .u8 (fun b=>b<w.heap.size) w l (.slice p l.length c)∧∀n∈l,n<256:=by
 obtain⟨p,c,l,rfl,hI⟩:=open_Bs h
 refine⟨p,c,l.map UInt8.toNat,by rw[List.length_map],?_,fun n hn=>?_⟩
 ·obtain⟨p2,c2,e,hc,hb⟩:=hI
  simp only[Value.slice.injEq,true_and]at e
  obtain⟨rfl,rfl⟩:=e
  refine⟨p,c,rfl,by rw[List.length_map];exact hc,fun h=>?_⟩
  rw[List.length_map]at h
  obtain⟨u,rfl⟩:=List.length_eq_one_iff.1 h
  obtain⟨b,o,rfl,hA,hB⟩:=hb (by simp)
  exact⟨u.toNat,b,o,rfl,rfl,hA,hA,fun j hj=>by
   have hj0:j=0:=by simp at hj;omega
   subst hj0
   exact hB 0 (by simp)⟩
 ·obtain⟨u,_,rfl⟩:=List.mem_map.1 hn
  exact u.toNat_lt
theorem open_Sta{x:DataW H×List MemPlace}(h:DataW.trod enc TP w base spare held n 172 cs=some x):∃s:gF,(j9 (fun b=>b<w.heap.size) w s cs∨s.code=0∧CZ cs)∧s.num<4294967296∧s.off<18446744073709551616:=by
 obtain⟨xs,m,rfl,_,hcl,hxl,hf⟩:=DataW.trod_struct Tryz.underlying172 h
 rw[k172]at hcl
 have f0:DataW.trod enc TP w base spare held m 3 ((cs.drop 0).take (TP.cellsOf 3))=xs[0]?:=hf 0 _ rfl
 have f1:DataW.trod enc TP w base spare held m 22 ((cs.drop 1).take (TP.cellsOf 22))=xs[1]?:=hf 1 _ rfl
 have f2:DataW.trod enc TP w base spare held m 27 ((cs.drop 2).take (TP.cellsOf 27))=xs[2]?:=hf 2 _ rfl
 have f3:DataW.trod enc TP w base spare held m 53 ((cs.drop 3).take (TP.cellsOf 53))=xs[3]?:=hf 3 _ rfl
 have f4:DataW.trod enc TP w base spare held m 4 ((cs.drop 4).take (TP.cellsOf 4))=xs[4]?:=hf 4 _ rfl
 have f5:DataW.trod enc TP w base spare held m 4 ((cs.drop 5).take (TP.cellsOf 4))=xs[5]?:=hf 5 _ rfl
 have f6:DataW.trod enc TP w base spare held m 23 ((cs.drop 6).take (TP.cellsOf 23))=xs[6]?:=hf 6 _ rfl
 have hx7:xs.length=7:=hxl
 match cs,hcl with
 |[a0,a1,a2,a3,a4,a5,a6],_=>
  rw[c3,List.getElem?_eq_getElem (by omega)]at f0
  rw[k22,List.getElem?_eq_getElem (by omega)]at f1
  rw[c27,List.getElem?_eq_getElem (by omega)]at f2
  rw[k53,List.getElem?_eq_getElem (by omega)]at f3
  rw[k4,List.getElem?_eq_getElem (by omega)]at f4 f5
  rw[c23,List.getElem?_eq_getElem (by omega)]at f6
  obtain⟨z0,e0,_,_⟩:=DataW.trod_int Tryz.underlying3 f0
  obtain⟨z1,e1,_,wz1⟩:=DataW.trod_int Tryz.underlying22 f1
  obtain⟨z2,e2,_,wz2⟩:=DataW.trod_int Tryz.underlying27 f2
  obtain⟨pf,lf,cf,e3,hF⟩:=open_Fs f3
  obtain⟨b4,e4,_⟩:=DataW.trod_bool Tryz.underlying4 f4
  obtain⟨b5,e5,_⟩:=DataW.trod_bool Tryz.underlying4 f5
  simp only[List.drop,List.take,List.cons.injEq,and_true]at e0 e1 e2 e3 e4 e5
  subst e0 e1 e2 e3 e4 e5
  cases m with
  |zero=>simp[DataW.trod]at f6
  |succ m=>
   obtain⟨ann,sk,e6,hK⟩:=open_Vs (open_V m) f6
   simp only[List.drop,List.take,List.cons.injEq,and_true]at e6
   subst e6
   have hK':=hK
   obtain⟨p,cp,cells,rfl,_⟩:=hK
   have hz1:=wfu32x wz1
   have hz2:=wfu64 wz2
   have hFG:∃flt:List mH,flt.length=lf∧rW (fun b=>b<w.heap.size) w flt (.slice pf lf cf):=by
    rcases Nat.lt_or_ge 1 lf with h1|h1
    ·exact⟨List.replicate lf ([],[],[]),List.length_replicate,⟨pf,cf,by rw[List.length_replicate],fun h=>by rw[List.length_replicate]at h;omega⟩⟩
    ·obtain⟨l,e,hR⟩:=hF h1
     subst e
     exact⟨l,rfl,⟨pf,cf,rfl,fun _=>hR⟩⟩
   obtain⟨flt,rfl,hFG⟩:=hFG
   have t1:=Int.toNat_of_nonneg hz1.1
   have t2:=Int.toNat_of_nonneg hz2.1
   rcases Int.lt_or_le z0 0 with hz0|hz0
   ·exact⟨⟨0,z1.toNat,z2.toNat,flt,b4,b5,ann⟩,.inr ⟨rfl,z0,z1.toNat,z2.toNat,pf,flt.length,cf,b4,b5,p,ann.length,cp,hz0,by rw[t1,t2]⟩,by show z1.toNat<_;omega,by show z2.toNat<_;omega⟩
   ·have t0:=Int.toNat_of_nonneg hz0
    exact⟨⟨z0.toNat,z1.toNat,z2.toNat,flt,b4,b5,ann⟩,.inl ⟨_,p,cp,by dsimp only;rw[t0,t1,t2],hFG,hK'⟩,by show z1.toNat<_;omega,by show z2.toNat<_;omega⟩
theorem open_Sts{x:DataW H×List MemPlace}(h:DataW.trod enc TP w base spare held n 45 cs=some x):∃p c l,cs=[.slice p l.length c]∧nf (fun b=>b<w.heap.size) w l (.slice p l.length c)∧∀s∈l,s.num<4294967296∧s.off<18446744073709551616:=by
 rcases DataW.trod_slice Tryz.underlying45 h with⟨rfl,_⟩|⟨a,len,cap,elems,rest,m,hm,rfl,_,_,hlc,_,hel,hall,_⟩
 ·exact⟨none,0,[],rfl,⟨none,0,rfl,Nat.le_refl _,fun h=>by cases h⟩,fun n hn=>by cases hn⟩
 ·rcases Nat.lt_or_ge 1 len with h1|h1
  ·have e:(List.replicate len (⟨0,0,0,[],false,false,[]⟩:gF)).length=len:=List.length_replicate
   exact⟨some a,cap,List.replicate len ⟨0,0,0,[],false,false,[]⟩,by rw[e],⟨_,cap,rfl,by rw[e];exact hlc,fun h=>by rw[e]at h;omega⟩,fun n hn=>by rw[List.eq_of_mem_replicate hn];exact⟨by decide,by decide⟩⟩
  ·rcases Nat.eq_zero_or_pos len with h0|h0
   ·subst h0
    exact⟨some a,cap,[],rfl,⟨_,cap,rfl,Nat.zero_le _,fun h=>by cases h⟩,fun n hn=>by cases hn⟩
   ·obtain rfl:len=1:=by omega
    rw[k172]at hall
    obtain⟨b,o,rfl,hb,hr⟩:=row_at (z:=7) (len:=1) (Q:=fun cs=>∃s:gF,(j9 (fun b=>b<w.heap.size) w s cs∨s.code=0∧CZ cs)∧s.num<4294967296∧s.off<18446744073709551616) (by omega) (fun i hi=>by
     have h1:=hall i hi
     rw[List.getElem?_eq_getElem (by omega)]at h1
     obtain⟨cs',h2,h3⟩:=Option.bind_eq_some_iff.1 h1
     exact⟨cs',h2,open_Sta h3⟩) h0
    obtain⟨cs,_,h2,s,hR,hn⟩:=hr 0 h0
    exact⟨_,cap,[s],rfl,⟨_,cap,rfl,hlc,fun _=>⟨s,b,o,cs,rfl,rfl,hb,hb,by simpa using h2,hR⟩⟩,fun t ht=>by rw[List.mem_singleton.1 ht];exact hn⟩
theorem open_Xf{x:DataW H×List MemPlace}(h:DataW.trod enc TP w base spare held n 47 cs=some x):∃x:Xf,oW (fun b=>b<w.heap.size) w x cs∧x.hdl<4294967296∧(∀n∈x.did,n<4294967296)∧(∀n∈x.fmt,n<4294967296)∧(∀n∈x.rm,n<256)∧∀s∈x.st,s.num<4294967296∧s.off<18446744073709551616:=by
 obtain⟨xs,m,rfl,_,hcl,hxl,hf⟩:=DataW.trod_struct Tryz.underlying47 h
 rw[k47]at hcl
 have f0:DataW.trod enc TP w base spare held m 22 ((cs.drop 0).take (TP.cellsOf 22))=xs[0]?:=hf 0 _ rfl
 have f1:DataW.trod enc TP w base spare held m 44 ((cs.drop 1).take (TP.cellsOf 44))=xs[1]?:=hf 1 _ rfl
 have f2:DataW.trod enc TP w base spare held m 28 ((cs.drop 2).take (TP.cellsOf 28))=xs[2]?:=hf 2 _ rfl
 have f3:DataW.trod enc TP w base spare held m 44 ((cs.drop 3).take (TP.cellsOf 44))=xs[3]?:=hf 3 _ rfl
 have f4:DataW.trod enc TP w base spare held m 4 ((cs.drop 4).take (TP.cellsOf 4))=xs[4]?:=hf 4 _ rfl
 have f5:DataW.trod enc TP w base spare held m 4 ((cs.drop 5).take (TP.cellsOf 4))=xs[5]?:=hf 5 _ rfl
 have f6:DataW.trod enc TP w base spare held m 28 ((cs.drop 6).take (TP.cellsOf 28))=xs[6]?:=hf 6 _ rfl
 have f7:DataW.trod enc TP w base spare held m 45 ((cs.drop 7).take (TP.cellsOf 45))=xs[7]?:=hf 7 _ rfl
 have f8:DataW.trod enc TP w base spare held m 4 ((cs.drop 8).take (TP.cellsOf 4))=xs[8]?:=hf 8 _ rfl
 have f9:DataW.trod enc TP w base spare held m 4 ((cs.drop 9).take (TP.cellsOf 4))=xs[9]?:=hf 9 _ rfl
 have f10:DataW.trod enc TP w base spare held m 4 ((cs.drop 10).take (TP.cellsOf 4))=xs[10]?:=hf 10 _ rfl
 have f11:DataW.trod enc TP w base spare held m 28 ((cs.drop 11).take (TP.cellsOf 28))=xs[11]?:=hf 11 _ rfl
 have hx12:xs.length=12:=hxl
 match cs,hcl with
 |[a0,a1,a2,a3,a4,a5,a6,a7,a8,a9,a10,a11],_=>
  rw[k22,List.getElem?_eq_getElem (by omega)]at f0
  rw[k44,List.getElem?_eq_getElem (by omega)]at f1 f3
  rw[k28,List.getElem?_eq_getElem (by omega)]at f2 f6 f11
  rw[k4,List.getElem?_eq_getElem (by omega)]at f4 f5 f8 f9 f10
  rw[k45,List.getElem?_eq_getElem (by omega)]at f7
  obtain⟨z0,e0,_,wz0⟩:=DataW.trod_int Tryz.underlying22 f0
  obtain⟨p1,c1,did,e1,h1,g1⟩:=open_Us f1
  obtain⟨p2,c2,tag,e2,h2⟩:=open_Bs f2
  obtain⟨p3,c3',fmt,e3,h3,g3⟩:=open_Us f3
  obtain⟨b4,e4,_⟩:=DataW.trod_bool Tryz.underlying4 f4
  obtain⟨b5,e5,_⟩:=DataW.trod_bool Tryz.underlying4 f5
  obtain⟨p6,c6,rm,e6,h6,g6⟩:=open_U8 f6
  obtain⟨p7,c7,st,e7,h7,g7⟩:=open_Sts f7
  obtain⟨b8,e8,_⟩:=DataW.trod_bool Tryz.underlying4 f8
  obtain⟨b9,e9,_⟩:=DataW.trod_bool Tryz.underlying4 f9
  obtain⟨b10,e10,_⟩:=DataW.trod_bool Tryz.underlying4 f10
  obtain⟨p11,c11,pay,e11,h11⟩:=open_Bs f11
  simp only[List.drop,List.take,List.cons.injEq,and_true]at e0 e1 e2 e3 e4 e5 e6 e7 e8 e9 e10 e11
  subst e0 e1 e2 e3 e4 e5 e6 e7 e8 e9 e10 e11
  have hz0:=wfu32x wz0
  have t0:=Int.toNat_of_nonneg hz0.1
  exact⟨⟨z0.toNat,did,tag,fmt,b4,b5,rm,st,b8,b9,b10,pay⟩,⟨_,_,_,_,_,_,by dsimp only;rw[t0],h1,h2,h3,h6,h7,h11⟩,by show z0.toNat<_;omega,g1,g3,g6,g7⟩
end
end Go.Proofs.LL
namespace Go.Proofs.YtdgbmbjkbmpcbaaGreatDoor
open Go Go.Proofs Go.ChangeShapes Go.WideShapes Go.ChangeAt Go.RowKit Go.Deep Go.Proofs.LL
set_option maxHeartbeats 4000000
attribute [local irreducible] ar WL WC cq WT WX
theorem own:ownKnob Tryz.prog.godebug=Option.none:=by kernel_rfl
theorem kids:Kids Tryz.prog (· <Tryz.prog.types.size):=kids_rows (by kernel_rfl) (by kernel_rfl)
theorem full:∀t e,t<Tryz.prog.types.size→Tryz.prog.underlying t=some (.slice e)→0<Tryz.prog.cellsOf e:=slices_full_of Tryz.prog (by kernel_rfl)
abbrev laid3:List (String×DataW Unit):=Rows.fnReadEndRow.laid
theorem first_eq:Rows.laid_unicode_utf8_first=Lib.firstData:=by kernel_rfl
theorem accept_eq:(Rows.laid_unicode_utf8_acceptRanges:DataW Unit)=Lib.acceptData:=by kernel_rfl
theorem ut_of(h:laidMetH Tryz.prog laid3 W):UT W:=by
 rw[MakeChecks.laidMetH_plain _ _ _ (by kernel_rfl)]at h
 have h3 : Lib.VarReads Tryz.prog W "unicode/utf8.first" Lib.firstData := first_eq ▸ Lib.laidMet.reads h (.tail _ (.tail _ (.head _)))
 have h4 : Lib.VarReads Tryz.prog W "unicode/utf8.acceptRanges" Lib.acceptData := accept_eq ▸ Lib.laidMet.reads h (.head _)
 exact utf8Tabs_of_readsT (ρ:=Tryz.lays196_ren) (U8Types.of196 Tryz.lays196) ⟨by kernel_rfl,by kernel_rfl,by kernel_rfl,by kernel_rfl,by kernel_rfl,by kernel_rfl,by kernel_rfl⟩ h3 h4
theorem sameAt_ext(h:ay w w'){p:MemPlace}(hp:p.block<w.heap.size):w.sameAt w' p:=by
 cases p with
 |cell b off=>exact World.cell?_of_block (h.block b hp trivial)
 |map b=>exact h.block b hp trivial
theorem trodAll_carry{H:Type}{enc:TypeId×Value→H}{sp:Nat→Bool}:∀ {ts:List TypeId} {vs:List Value} {ds:List (DataW H)} {ps:List MemPlace},DataW.TrodAll enc P w base sp held ts vs ds ps→(∀p∈ps,w.sameAt w' p)→DataW.TrodAll enc P w' base sp held ts vs ds ps
 |[],[],[],_,h,_=>h
 |_::_,_::_,_::_,_,⟨p,q,⟨n,h1⟩,h2,e⟩,hs=>⟨p,q,⟨n,DataW.trod_carry n _ _ _ h1 fun x hx=>hs x (by rw[e];exact List.mem_append_left _ hx)⟩,trodAll_carry h2 fun x hx=>hs x (by rw[e];exact List.mem_append_right _ hx),e⟩
theorem kept_ext(h:ay w w')(may:MemPlace→Prop):w.keptBut w' may:=
 World.keptBut_mono (may:=fun _=>False) (fun _ h=>h.elim) (World.keptBut_none_iff.2 ⟨h.os,h.output,fun i hi=>h.block i hi trivial⟩)
theorem post_ext{H:Type}{enc:TypeId×Value→H}{fn:Func}{s:ChangeSpec}{args:Array Value}{ds:List (DataW H)}{before:List MemPlace}(hW:DataW.Whole enc Tryz.prog fn.params.toList s.vars false W args.toList ds [] before)
  (hA:DataW.TrodAll enc Tryz.prog W 0 (fun _=>true) true fn.params.toList args.toList ds before) (hT:∀t∈fn.params.toList,t<Tryz.prog.types.size) (hr:fn.resultTypes= #[4]) (hs:s.fn H (ds++[])= {results:=[.lit (.bool true)],args:=ds,vars:=[]}) (hv:s.vars=[]) (hE:ay W W'):
  s.post enc Tryz.prog fn false true false false W args (.bool true) W':=by
 have hlt:=hA.lt
 refine⟨ds,[],before,[],before,[],hW,?_,?_,?_,kept_ext hE _,fun h=>by cases h⟩
 ·rw[hr,hs];exact trodAll_mk1 (shut_bool Tryz.underlying4 _)
 ·rw[hs]
  exact trodAll_carry (DataW.TrodAll.respare kids full hT hA fun p hp=>decide_eq_true (hlt p hp)) fun p hp=>sameAt_ext hE (hlt p hp)
 ·rw[hs,hv];rfl
end Go.Proofs.YtdgbmbjkbmpcbaaGreatDoor
namespace Go.Proofs.YtdgbmbjkbmpcbaaGreatDoor
open Go Go.Proofs Go.ChangeShapes Go.WideShapes Go.ChangeAt Go.RowKit Go.Deep Go.Proofs.LL
theorem liftedX(os:Os)(started:os.Started)(H:Type)(enc:TypeId×Value→H):
  ReturnsInHanded {} Tryz.checked os 4 .any (fun w args=>(Rows.fnReadTransferSpec.pre enc TP Tryz.f4 [] false w args∧laidMetH TP laid3 w)∧sizedMet enc TP Tryz.f4 (OpenSpec.ofChange Rows.fnReadTransferSpec) false w args)
   (Rows.fnReadTransferSpec.post enc TP Tryz.f4 false true false false):=by
 refine returnsInHanded_of_change_and (C:=Tryz.checked) (X:=fun w _=>laidMetH TP laid3 w) (fun _ _ _ hh h=>h.of_heap hh) own started (by kernel_rfl) Tryz.func4
  (ChangeSpec.witness_shaped (enc:=enc) (C:=Tryz.checked) (os:=os) (X:=fun w _=>laidMetH TP laid3 w) false (World.laidAll TP os laid3) #[.agg #[.int .u32 0,.slice Option.none 0 0,.slice Option.none 0 0,.slice Option.none 0 0,.bool false,.bool false,.slice Option.none 0 0,.slice Option.none 0 0,.bool false,.bool false,.bool false,.slice Option.none 0 0],.int .u64 0] 8 (World.laidAll_os _ _ _)
   (World.shaped_of_ZipB (by kernel_rfl) (by kernel_rfl)) (by kernel_rfl) (by kernel_rfl) (by kernel_rfl)
   (by rw[MakeChecks.laidMetH_plain _ _ _ (by kernel_rfl)];exact laidMet_laidAll _ (by kernel_rfl) (by kernel_rfl))) ?_
 intro W base args ds gs before hval0 hW hc _ hL _
 have hW':=hW
 obtain⟨p,q,hA0,hV,rfl,_,_⟩:=hW
 obtain⟨rfl,rfl⟩:=trodVars_none hV
 simp only[List.append_nil]at hW'
 have hA:DataW.TrodAll enc TP W 0 (fun _=>true) true Tryz.f4.params.toList args.toList ds p:=hA0
 have hA3:=hA
 rw[Tryz.params4]at hA3
 obtain⟨v0,v1,d0,d1,p0,p1,rfl,rfl,rfl,⟨n0,h0⟩,⟨n1,h1⟩⟩:=trodAll_two hA3
 have hval:∀(j:Nat) t v,Tryz.f4.params[j]?=some t→ #[v0,v1][j]?=some v→Value.okWide TP W .any base t v:=hval0
 obtain⟨a0,rfl,_⟩:=okWide_struct Tryz.underlying47 (hval 0 47 v0 (by rw[Tryz.params4];rfl) rfl)
 obtain⟨z,rfl,rfl,rfl,wz⟩:=open_int Tryz.underlying27 (hval 1 27 v1 (by rw[Tryz.params4];rfl) rfl) ⟨n1,h1⟩
 obtain⟨x,hX,g0,g1,g3,g6,g7⟩:=open_Xf h0
 have e0:a0.toList.toArray=a0:=Array.toArray_toList
 rw[← e0]
 refine(DS hX g0 g1 g3 g6 g7 (wfu64 wz) (ut_of hL)).calls.mono fun e W' ⟨v,he,hv,hE⟩=>?_
 subst he hv
 rw[e0]
 exact⟨_,rfl,post_ext hW' hA (by rw[Tryz.params4];decide) rfl rfl rfl hE⟩
end Go.Proofs.YtdgbmbjkbmpcbaaGreatDoor
