/- Own laws of frames, operations and loops, and contracts of functions of the program. Conditions: those that each theorem states. -/
import Derived.Test.YtdgbmbjkbmpcbaaGreatDoorV53
import Derived.Test.YtdgbmbjkbmpcbaaGreatDoorRows
import Derived.ProofKit
import Derived.OpenShut
import Derived.LaidMore
import Derived.ReadAgain
import Derived.ChangeSame
import Derived.Stop.Joined
import Derived.Lib.LaidU8T
import Derived.Lay
import Derived.ChangeAlike
import Derived.JoinedOf
set_option linter.all false
set_option maxRecDepth 100000
namespace Go.Proofs.LL
open Go Go.Proofs Go.RowKit
set_option maxHeartbeats 4000000
attribute [local irreducible] RunOp WL WC WDL WT WX
theorem sG:Tryz.prog.cellsOf 87=6:=by kernel_rfl
theorem c3:Tryz.prog.cellsOf 3=1:=by kernel_rfl
theorem c9:Tryz.prog.cellsOf 9=1:=by kernel_rfl
theorem sD:Tryz.prog.cellsOf 23=1:=by kernel_rfl
theorem sN:Tryz.prog.cellsOf 27=1:=by kernel_rfl
theorem rf:Tryz.prog.cellsOf 5=1:=by kernel_rfl
theorem oJ{z:Int}(h:(Lit.int .u64 z).wf=true):0≤z∧z<18446744073709551616:=by
 simp[Lit.wf,IntKind.min,IntKind.max,IntKind.signed,IntKind.bits]at h
 omega
section
variable {H:Type} {enc:TypeId×Value→H} {w:World} {base:Nat} {spare:Nat→Bool} {held:Bool}
theorem iM{a:Addr}{z len:Nat}{Q:List Value→Prop}(hz:0<z)(h:∀i,i<len→∃cs,w.cells? base (a.add (i * z)) z=some cs∧Q cs)(h0:0<len):
  ∃b o,a=⟨b,o,none⟩∧b<w.heap.size∧∀i,i<len→∃cs,cs.length=z∧At w b (o+i * z) cs∧Q cs:=by
 obtain⟨b,o,spot⟩:=a
 obtain⟨cs,h1,h2⟩:=h 0 h0
 obtain⟨_,hl,hc⟩:=World.cells?_some h1
 have hc0:=hc 0 hz
 have hsp:spot=none:=by
  rw[List.getElem?_eq_getElem (by omega)]at hc0
  have:=World.cell?_spot hc0
  simpa[Addr.add]using this
 subst hsp
 refine⟨b,o,rfl,?_,fun i hi=>?_⟩
 ·rw[List.getElem?_eq_getElem (by omega),Nat.zero_mul,Addr_add,Addr_add]at hc0
  exact lt_of_cell hc0
 ·obtain⟨cs',h3,h4⟩:=h i hi
  obtain⟨_,hl',hc'⟩:=World.cells?_some h3
  refine⟨cs',hl',fun j hj=>?_,h4⟩
  have:=hc' j (by omega)
  rw[Addr_add,Addr_add]at this
  exact this
theorem At.app{b o:Nat}{c d:List Value}(h:At w b o c)(h':At w b (o+c.length) d):At w b o (c++d):=fun j hj=>by
 rcases Nat.lt_or_ge j c.length with h1|h1
 ·rw[h j h1,List.getElem?_append_left h1]
 ·have:=h' (j-c.length) (by rw[List.length_append]at hj;omega)
  rw[List.getElem?_append_right h1,← this]
  congr 2;omega
theorem mf{b o len:Nat}(h:∀i,i<len→∃cs,cs.length=6∧At w b (o+i * 6) cs∧∃V,ag (fun b=>b<w.heap.size) w V cs):∀k,k≤len→∃ys cells,ys.length=k∧aa (fun b=>b<w.heap.size) w ys cells∧At w b o cells∧cells.length=k * 6
 |0,_=>⟨[],[],rfl,by rw[aa],fun j hj=>absurd hj (by simp),rfl⟩
 |k+1,hk=>by
  obtain⟨ys,cells,h1,h2,h3,h4⟩:=mf h k (by omega)
  obtain⟨cs,h5,h6,V,h7⟩:=h k (by omega)
  exact⟨ys++[V],cells++cs,by simp[h1],h2.snoc h7,h3.app (by rw[h4];exact h6),by rw[List.length_append,h4,h5];omega⟩
theorem ga{n:Nat}(ih:∀cs x,DataW.trod enc Tryz.prog w base spare held n 87 cs=some x→∃V,ag (fun b=>b<w.heap.size) w V cs){cs:List Value}{x:DataW H×List MemPlace}(h:DataW.trod enc Tryz.prog w base spare held (n+1) 23 cs=some x):
  ∃ys sk,cs=[sk]∧aD (fun b=>b<w.heap.size) w ys.length sk (aa (fun b=>b<w.heap.size) w ys):=by
 rcases DataW.trod_slice Tryz.underlying23 h with⟨rfl,_⟩|⟨a,len,cap,elems,rest,m,hm,rfl,_,_,hlc,_,hel,hall,_⟩
 ·exact⟨[],_,rfl,aD.nil⟩
 ·obtain rfl:n=m:=by omega
  rcases Nat.eq_zero_or_pos len with h0|h0
  ·subst h0
   exact⟨[],_,rfl,some a,cap,[],rfl,Nat.zero_le _,by rw[aa],.inl rfl⟩
  ·rw[sG]at hall
   obtain⟨b,o,rfl,hb,hr⟩:=iM (z:=6) (len:=len) (Q:=fun cs=>∃V,ag (fun b=>b<w.heap.size) w V cs) (by omega) (fun i hi=>by
    have h1:=hall i hi
    rw[List.getElem?_eq_getElem (by omega)]at h1
    obtain⟨cs',h2,h3⟩:=Option.bind_eq_some_iff.1 h1
    exact⟨cs',h2,ih _ _ h3⟩) h0
   obtain⟨ys,cells,h1,h2,h3,h4⟩:=mf hr len (Nat.le_refl _)
   exact⟨ys,_,rfl,some ⟨b,o,none⟩,cap,cells,by rw[h1],by omega,h2,.inr ⟨b,o,rfl,hb,h3⟩⟩
theorem pU:∀(n:Nat) (cs:List Value) (x:DataW H×List MemPlace),DataW.trod enc Tryz.prog w base spare held n 87 cs=some x→∃V,ag (fun b=>b<w.heap.size) w V cs:=by
 intro n
 induction n using Nat.strongRecOn with
 |_ n ih=>
  intro cs x h
  obtain⟨xs,m,rfl,_,hcl,hxl,hf⟩:=DataW.trod_struct Tryz.underlying87 h
  rw[sG]at hcl
  have f0:DataW.trod enc Tryz.prog w base spare held m 3 ((cs.drop 0).take (Tryz.prog.cellsOf 3))=xs[0]?:=hf 0 _ rfl
  have f1:DataW.trod enc Tryz.prog w base spare held m 27 ((cs.drop 1).take (Tryz.prog.cellsOf 27))=xs[1]?:=hf 1 _ rfl
  have f2:DataW.trod enc Tryz.prog w base spare held m 9 ((cs.drop 2).take (Tryz.prog.cellsOf 9))=xs[2]?:=hf 2 _ rfl
  have f3:DataW.trod enc Tryz.prog w base spare held m 23 ((cs.drop 3).take (Tryz.prog.cellsOf 23))=xs[3]?:=hf 3 _ rfl
  have f4:DataW.trod enc Tryz.prog w base spare held m 3 ((cs.drop 4).take (Tryz.prog.cellsOf 3))=xs[4]?:=hf 4 _ rfl
  have f5:DataW.trod enc Tryz.prog w base spare held m 23 ((cs.drop 5).take (Tryz.prog.cellsOf 23))=xs[5]?:=hf 5 _ rfl
  have hx6:xs.length=6:=hxl
  match cs,hcl with
  |[a0,a1,a2,a3,a4,a5],_=>
   rw[c3,List.getElem?_eq_getElem (by omega)]at f0 f4
   rw[sN,List.getElem?_eq_getElem (by omega)]at f1
   rw[c9,List.getElem?_eq_getElem (by omega)]at f2
   rw[sD,List.getElem?_eq_getElem (by omega)]at f3 f5
   obtain⟨k,e0,_,_⟩:=DataW.trod_int Tryz.underlying3 f0
   obtain⟨z,e1,_,wz⟩:=DataW.trod_int Tryz.underlying27 f1
   obtain⟨s,e2,_,_⟩:=DataW.trod_string Tryz.underlying9 f2
   obtain⟨o,e4,_,_⟩:=DataW.trod_int Tryz.underlying3 f4
   simp only[List.drop,List.take,List.cons.injEq,and_true]at e0 e1 e2 e4
   subst e0 e1 e2 e4
   cases m with
   |zero=>simp[DataW.trod]at f3
   |succ m=>
    have ih':=fun cs x=>ih m (by omega) cs x
    obtain⟨ks,sk,e3,hK⟩:=ga ih' f3
    obtain⟨d,sd,e5,hD⟩:=ga ih' f5
    simp only[List.drop,List.take,List.cons.injEq,and_true]at e3 e5
    subst e3 e5
    have hz:0≤z:=(oJ wz).1
    refine⟨.mk k z.toNat s.data.toList ks o d,?_⟩
    rw[ag]
    exact⟨_,_,by rw[Int.toNat_of_nonneg hz],hK,hD⟩
theorem lS{b o len:Nat}(h:∀i,i<len→∃cs,cs.length=1∧At w b (o+i * 1) cs∧∃u:UInt8,cs=[.int .u8 (u.toNat:Int)]):∀k,k≤len→∃l:List UInt8,l.length=k∧At w b o (bc l)
 |0,_=>⟨[],rfl,fun j hj=>absurd hj (by simp[bc])⟩
 |k+1,hk=>by
  obtain⟨l,h1,h3⟩:=lS h k (by omega)
  obtain⟨cs,h5,h6,u,rfl⟩:=h k (by omega)
  refine⟨l++[u],by simp[h1],?_⟩
  rw[aE]
  refine h3.app ?_
  rw[show(bc l).length=l.length from by simp[bc],h1]
  rw[Nat.mul_one]at h6
  exact h6
theorem nQ{n:Nat}{cs:List Value}{x:DataW H×List MemPlace}(h:DataW.trod enc Tryz.prog w base spare held n 28 cs=some x):∃p c l,cs=[.slice p l.length c]∧IsB (fun b=>b<w.heap.size) w (.slice p l.length c) l:=by
 rcases DataW.trod_slice Tryz.underlying28 h with⟨rfl,_⟩|⟨a,len,cap,elems,rest,m,hm,rfl,_,_,hlc,_,hel,hall,_⟩
 ·exact⟨none,0,[],rfl,none,0,rfl,Nat.le_refl _,fun h=>absurd rfl h⟩
 ·rcases Nat.eq_zero_or_pos len with h0|h0
  ·subst h0
   exact⟨some a,cap,[],rfl,some a,cap,rfl,Nat.zero_le _,fun h=>absurd rfl h⟩
  ·rw[rf]at hall
   obtain⟨b,o,rfl,hb,hr⟩:=iM (z:=1) (len:=len) (Q:=fun cs=>∃u:UInt8,cs=[.int .u8 (u.toNat:Int)]) (by omega) (fun i hi=>by
    have h1:=hall i hi
    rw[List.getElem?_eq_getElem (by omega)]at h1
    obtain⟨cs',h2,h3⟩:=Option.bind_eq_some_iff.1 h1
    obtain⟨z,e,_,wz⟩:=DataW.trod_int Tryz.underlying5 h3
    refine⟨cs',h2,UInt8.ofNat z.toNat,?_⟩
    have hz:0≤z∧z<256:=by
     simp[Lit.wf,IntKind.min,IntKind.max,IntKind.signed,IntKind.bits]at wz
     omega
    rw[e,cO (by omega),Int.toNat_of_nonneg hz.1]) h0
   obtain⟨l,h1,h2⟩:=lS hr len (Nat.le_refl _)
   subst h1
   exact⟨_,cap,l,rfl,_,cap,rfl,hlc,fun _=>⟨b,o,rfl,hb,h2.bytes⟩⟩
end
end Go.Proofs.LL
namespace Go.Proofs.LL
open Go Go.Proofs Go.RowKit
set_option maxHeartbeats 4000000
attribute [local irreducible] RunOp WL WC WDL WT WX
theorem sK:TP.cellsOf 26=7:=by kernel_rfl
theorem sM:TP.cellsOf 22=1:=by kernel_rfl
theorem c4:TP.cellsOf 4=1:=by kernel_rfl
theorem sO:TP.cellsOf 24=1:=by kernel_rfl
theorem oA{z:Int}(h:(Lit.int .u32 z).wf=true):0≤z∧z<4294967296:=by
 simp[Lit.wf,IntKind.min,IntKind.max,IntKind.signed,IntKind.bits]at h
 omega
section
variable {H:Type} {enc:TypeId×Value→H} {w:World} {base:Nat} {spare:Nat→Bool} {held:Bool}
theorem kY{b o len:Nat}(h:∀i,i<len→∃cs,cs.length=1∧At w b (o+i * 1) cs∧∃s:List UInt8,cs=[str s]):∀k,k≤len→∃l:List (List UInt8),l.length=k∧At w b o (l.map str)
 |0,_=>⟨[],rfl,fun j hj=>absurd hj (by simp)⟩
 |k+1,hk=>by
  obtain⟨l,h1,h3⟩:=kY h k (by omega)
  obtain⟨cs,h5,h6,u,rfl⟩:=h k (by omega)
  refine⟨l++[u],by simp[h1],?_⟩
  rw[List.map_append]
  refine h3.app ?_
  rw[List.length_map,h1]
  rw[Nat.mul_one]at h6
  exact h6
theorem n8{n:Nat}{cs:List Value}{x:DataW H×List MemPlace}(h:DataW.trod enc TP w base spare held n 24 cs=some x):∃p c l,cs=[.slice p l.length c]∧dY (fun b=>b<w.heap.size) w l (.slice p l.length c):=by
 rcases DataW.trod_slice Tryz.underlying24 h with⟨rfl,_⟩|⟨a,len,cap,elems,rest,m,hm,rfl,_,_,hlc,_,hel,hall,_⟩
 ·exact⟨none,0,[],rfl,dY.nil⟩
 ·rcases Nat.eq_zero_or_pos len with h0|h0
  ·subst h0
   exact⟨some a,cap,[],rfl,some a,cap,rfl,Nat.zero_le _,.inl rfl⟩
  ·rw[c9]at hall
   obtain⟨b,o,rfl,hb,hr⟩:=iM (z:=1) (len:=len) (Q:=fun cs=>∃s:List UInt8,cs=[str s]) (by omega) (fun i hi=>by
    have h1:=hall i hi
    rw[List.getElem?_eq_getElem (by omega)]at h1
    obtain⟨cs',h2,h3⟩:=Option.bind_eq_some_iff.1 h1
    obtain⟨s,e,_,_⟩:=DataW.trod_string Tryz.underlying9 h3
    exact⟨cs',h2,s.data.toList,e⟩) h0
   obtain⟨l,h1,h2⟩:=kY hr len (Nat.le_refl _)
   subst h1
   exact⟨_,cap,l,rfl,_,cap,rfl,hlc,.inr ⟨b,o,rfl,hb,hb,h2⟩⟩
theorem pB{n:Nat}{cs:List Value}{x:DataW H×List MemPlace}(h:DataW.trod enc TP w base spare held n 26 cs=some x):∃(addr exp:List UInt8) (dur tmo:Nat) (dyn:Bool) (node:List V) (caps:List (List UInt8)) (p pc:Option Addr) (cp cc:Nat),cs=[str addr,.int .u32 (dur:Int),str exp,.int .u32 (tmo:Int),.bool dyn,.slice p node.length cp,.slice pc caps.length cc]∧dur<4294967296∧tmo<4294967296∧aD (fun b=>b<w.heap.size) w node.length (.slice p node.length cp) (aa (fun b=>b<w.heap.size) w node)∧dY (fun b=>b<w.heap.size) w caps (.slice pc caps.length cc):=by
 obtain⟨xs,m,rfl,_,hcl,hxl,hf⟩:=DataW.trod_struct Tryz.underlying26 h
 rw[sK]at hcl
 have f0:DataW.trod enc TP w base spare held m 9 ((cs.drop 0).take (TP.cellsOf 9))=xs[0]?:=hf 0 _ rfl
 have f1:DataW.trod enc TP w base spare held m 22 ((cs.drop 1).take (TP.cellsOf 22))=xs[1]?:=hf 1 _ rfl
 have f2:DataW.trod enc TP w base spare held m 9 ((cs.drop 2).take (TP.cellsOf 9))=xs[2]?:=hf 2 _ rfl
 have f3:DataW.trod enc TP w base spare held m 22 ((cs.drop 3).take (TP.cellsOf 22))=xs[3]?:=hf 3 _ rfl
 have f4:DataW.trod enc TP w base spare held m 4 ((cs.drop 4).take (TP.cellsOf 4))=xs[4]?:=hf 4 _ rfl
 have f5:DataW.trod enc TP w base spare held m 23 ((cs.drop 5).take (TP.cellsOf 23))=xs[5]?:=hf 5 _ rfl
 have f6:DataW.trod enc TP w base spare held m 24 ((cs.drop 6).take (TP.cellsOf 24))=xs[6]?:=hf 6 _ rfl
 have hx7:xs.length=7:=hxl
 match cs,hcl with
 |[a0,a1,a2,a3,a4,a5,a6],_=>
  rw[c9,List.getElem?_eq_getElem (by omega)]at f0 f2
  rw[sM,List.getElem?_eq_getElem (by omega)]at f1 f3
  rw[c4,List.getElem?_eq_getElem (by omega)]at f4
  rw[sD,List.getElem?_eq_getElem (by omega)]at f5
  rw[sO,List.getElem?_eq_getElem (by omega)]at f6
  obtain⟨s,e0,_,_⟩:=DataW.trod_string Tryz.underlying9 f0
  obtain⟨z1,e1,_,wz1⟩:=DataW.trod_int Tryz.underlying22 f1
  obtain⟨s2,e2,_,_⟩:=DataW.trod_string Tryz.underlying9 f2
  obtain⟨z3,e3,_,wz3⟩:=DataW.trod_int Tryz.underlying22 f3
  obtain⟨b4,e4,_⟩:=DataW.trod_bool Tryz.underlying4 f4
  simp only[List.drop,List.take,List.cons.injEq,and_true]at e0 e1 e2 e3 e4
  subst e0 e1 e2 e3 e4
  cases m with
  |zero=>simp[DataW.trod]at f5
  |succ m=>
   obtain⟨node,sk,e5,hK⟩:=ga (pU m) f5
   obtain⟨pc,cc,caps,e6,hS⟩:=n8 f6
   simp only[List.drop,List.take,List.cons.injEq,and_true]at e5 e6
   subst e5 e6
   have hz1:=oA wz1
   have hz3:=oA wz3
   have hK':=hK
   obtain⟨p,cp,cells,rfl,_⟩:=hK
   exact⟨s.data.toList,s2.data.toList,z1.toNat,z3.toNat,b4,node,caps,p,pc,cp,cc,by rw[Int.toNat_of_nonneg hz1.1,Int.toNat_of_nonneg hz3.1],by omega,by omega,hK',hS⟩
end
end Go.Proofs.LL
