/- The data of impl.Value, its encodings, and how it lies in memory. Conditions: those that each theorem states. -/
import Derived.Test.YtdgbmbjkbmpcbaaGreatDoorW17
set_option linter.all false
namespace Go.Proofs.LL
open Go
def arrF(c:UInt8):Option (Int×Nat):=
 if c=0x50 then some (2,1)else if c=0x60 then some (3,2)else if c=0x70 then some (4,4)else if c=0x80 then some (5,8)else
 if c=0x51 then some (6,1)else if c=0x61 then some (7,2)else if c=0x71 then some (8,4)else if c=0x81 then some (9,8)else
 if c=0x72 then some (10,4)else if c=0x82 then some (11,8)else if c=0x83 then some (16,8)else
 if c=0x52 then some (4,1)else if c=0x53 then some (5,1)else if c=0x54 then some (8,1)else if c=0x55 then some (9,1)else none
theorem numC_arrF{k:Int}{c:UInt8}{s:Nat}(h:numC k=some (c,s)):arrF c=some (k,s):=by
 unfold numC at h
 repeat' split at h
 all_goals first|(simp only[Option.some.injEq,Prod.mk.injEq]at h;obtain⟨rfl,rfl⟩:=h;subst_vars;rfl)|cases h
theorem Pc.fix{x:V}{c:UInt8}{b:List UInt8}{k:Int}{s:Nat}(h:Pc x c b)(hf:arrF c=some (k,s)):x.kind=k∧b=bigB x.num s:=by
 cases h
 case num k' n t ks o d s' h1=>
  rw[numC_arrF h1]at hf
  simp only[Option.some.injEq,Prod.mk.injEq]at hf
  obtain⟨rfl,rfl⟩:=hf
  exact⟨rfl,rfl⟩
 case list h1 h2=>rcases h2 with⟨_,_,rfl,_⟩|⟨_,_,_,_,_,_,_,_,rfl,_⟩<;>simp[arrF]at hf
 case map h1 h2=>rcases h2 with⟨_,_,rfl,_⟩|⟨_,_,_,_,_,_,_,_,rfl,_⟩<;>simp[arrF]at hf
 case arr h1 h2=>rcases h2 with⟨_,_,rfl,_⟩|⟨_,_,_,_,_,_,_,_,rfl,_⟩<;>simp[arrF]at hf
 all_goals (simp[arrF]at hf;try(obtain⟨rfl,rfl⟩:=hf;exact⟨rfl,rfl⟩))
theorem Pc.b56{x:V}{b:List UInt8}(h:Pc x 0x56 b):x.kind=1∧b=bigB x.num 1:=by
 generalize hc:(0x56:UInt8)=c at h
 cases h
 case num k' n t ks o d s' h1=>subst hc;have:=numC_arrF h1;simp[arrF]at this
 case bool=>exact⟨rfl,by simp[bigB,V.num]⟩
 case list h1 h2=>subst hc;rcases h2 with⟨_,_,h,_⟩|⟨_,_,_,_,_,_,_,_,h,_⟩<;>simp at h
 case map h1 h2=>subst hc;rcases h2 with⟨_,_,h,_⟩|⟨_,_,_,_,_,_,_,_,h,_⟩<;>simp at h
 case arr h1 h2=>subst hc;rcases h2 with⟨_,_,h,_⟩|⟨_,_,_,_,_,_,_,_,h,_⟩<;>simp at h
 all_goals simp at hc
def txtF(c:UInt8):Option (Int×Nat):=
 if c=0xa0 then some (18,1)else if c=0xb0 then some (18,4)else if c=0xa1 then some (19,1)else if c=0xb1 then some (19,4)else
 if c=0xa3 then some (20,1)else if c=0xb3 then some (20,4)else none
theorem Pc.fixT{x:V}{c:UInt8}{b:List UInt8}{k:Int}{s:Nat}(h:Pc x c b)(hf:txtF c=some (k,s)):x.kind=k∧b=txt s x.text∧x.text.length<256^s:=by
 cases h
 case num k' n t ks o d s' h1=>
  unfold numC at h1
  repeat' split at h1
  all_goals first|(simp only[Option.some.injEq,Prod.mk.injEq]at h1;obtain⟨rfl,rfl⟩:=h1;simp[txtF]at hf;done)|cases h1
 case list h1 h2=>rcases h2 with⟨_,_,rfl,_⟩|⟨_,_,_,_,_,_,_,_,rfl,_⟩<;>simp[txtF]at hf
 case map h1 h2=>rcases h2 with⟨_,_,rfl,_⟩|⟨_,_,_,_,_,_,_,_,rfl,_⟩<;>simp[txtF]at hf
 case arr h1 h2=>rcases h2 with⟨_,_,rfl,_⟩|⟨_,_,_,_,_,_,_,_,rfl,_⟩<;>simp[txtF]at hf
 all_goals (simp[txtF]at hf;try(obtain⟨rfl,rfl⟩:=hf;refine⟨rfl,rfl,?_⟩;simpa[V.text]using(by assumption)))
theorem Pc.uuidF{x:V}{b:List UInt8}(h:Pc x 0x98 b):x.kind=17∧b=x.text:=by
 generalize hc:(0x98:UInt8)=c at h
 cases h
 case num k' n t ks o d s' h1=>subst hc;have:=numC_arrF h1;simp[arrF]at this
 case uuid=>exact⟨rfl,rfl⟩
 case list h1 h2=>subst hc;rcases h2 with⟨_,_,h,_⟩|⟨_,_,_,_,_,_,_,_,h,_⟩<;>simp at h
 case map h1 h2=>subst hc;rcases h2 with⟨_,_,h,_⟩|⟨_,_,_,_,_,_,_,_,h,_⟩<;>simp at h
 case arr h1 h2=>subst hc;rcases h2 with⟨_,_,h,_⟩|⟨_,_,_,_,_,_,_,_,h,_⟩<;>simp at h
 all_goals simp at hc
theorem Elems.all{c:UInt8}{Q:V→List UInt8→Prop}(hq:∀x b,Pc x c b→Q x b):∀ {ks:List V} {body:List UInt8},Elems c ks body→∃bs:List (List UInt8),bs.length=ks.length∧body=bs.flatten∧∀i (h:i<ks.length) (h':i<bs.length),Q ks[i] bs[i]
 |[],body,h=>by cases h;exact⟨[],rfl,rfl,by simp⟩
 |x::r,body,h=>by
  cases h with
  |cons h1 h2=>
   obtain⟨bs,e1,e2,e3⟩:=Elems.all hq h2
   rename_i b d
   refine⟨b::bs,by simp[e1],by simp[e2],fun i h h'=>?_⟩
   cases i with
   |zero=>exact hq _ _ h1
   |succ i=>exact e3 i (by simpa using h) (by simpa using h')
theorem Elems.flat{c:UInt8}{Q:V→Prop}{f:V→List UInt8}(hq:∀x b,Pc x c b→Q x∧b=f x):∀ {ks:List V} {body:List UInt8},Elems c ks body→(∀x∈ks,Q x)∧body=ks.flatMap f
 |[],body,h=>by cases h;exact⟨by simp,rfl⟩
 |x::r,body,h=>by
  cases h with
  |cons h1 h2=>
   obtain⟨e1,e2⟩:=Elems.flat hq h2
   obtain⟨e3,e4⟩:=hq _ _ h1
   refine⟨fun y hy=>?_,by simp[e2,e4]⟩
   rcases List.mem_cons.1 hy with rfl|hy
   ·exact e3
   ·exact e1 y hy
theorem Elems.fix{c:UInt8}{k:Int}{s:Nat}{ks:List V}{body:List UInt8}(h:Elems c ks body)(hf:arrF c=some (k,s)):(∀x∈ks,x.kind=k)∧body=(ks.map V.num).flatMap fun m=>bigB m s:=by
 obtain⟨h1,h2⟩:=h.flat (fun x b hp=>hp.fix hf)
 exact⟨h1,by rw[h2,List.flatMap_map]⟩
theorem flat_one(l:List Nat):(l.flatMap fun m=>bigB m 1)=l.map fun m=>UInt8.ofNat m:=by
 induction l with
 |nil=>rfl
 |cons a r ih=>rw[List.flatMap_cons,ih,List.map_cons];simp[bigB]
theorem Elems.fix1{c:UInt8}{k:Int}{ks:List V}{body:List UInt8}(h:Elems c ks body)(hf:arrF c=some (k,1)):(∀x∈ks,x.kind=k)∧body=ks.map fun x=>UInt8.ofNat x.num:=by
 obtain⟨h1,h2⟩:=h.fix hf
 exact⟨h1,by rw[h2,flat_one,List.map_map];rfl⟩
theorem Pc.sm{x:V}{c:UInt8}{b:List UInt8}(h:Pc x c b)(hc:c=0x54∨c=0x55):small x.num:=by
 cases h
 case num k' n t ks o d s' h1=>
  unfold numC at h1
  repeat' split at h1
  all_goals first|(simp only[Option.some.injEq,Prod.mk.injEq]at h1;obtain⟨rfl,rfl⟩:=h1;simp at hc;done)|cases h1
 case int1 h=>exact h
 case long1 h=>exact h
 case list h1 h2=>rcases h2 with⟨_,_,rfl,_⟩|⟨_,_,_,_,_,_,_,_,rfl,_⟩<;>simp at hc
 case map h1 h2=>rcases h2 with⟨_,_,rfl,_⟩|⟨_,_,_,_,_,_,_,_,rfl,_⟩<;>simp at hc
 case arr h1 h2=>rcases h2 with⟨_,_,rfl,_⟩|⟨_,_,_,_,_,_,_,_,rfl,_⟩<;>simp at hc
 all_goals simp at hc
theorem Pc.sm1{x:V}{c:UInt8}{b:List UInt8}(h:Pc x c b)(hc:c=0x52∨c=0x53):x.num<256:=by
 cases h
 case num k' n t ks o d s' h1=>
  unfold numC at h1
  repeat' split at h1
  all_goals first|(simp only[Option.some.injEq,Prod.mk.injEq]at h1;obtain⟨rfl,rfl⟩:=h1;simp at hc;done)|cases h1
 case uint1 h=>exact h
 case ulong1 h=>exact h
 case list h1 h2=>rcases h2 with⟨_,_,rfl,_⟩|⟨_,_,_,_,_,_,_,_,rfl,_⟩<;>simp at hc
 case map h1 h2=>rcases h2 with⟨_,_,rfl,_⟩|⟨_,_,_,_,_,_,_,_,rfl,_⟩<;>simp at hc
 case arr h1 h2=>rcases h2 with⟨_,_,rfl,_⟩|⟨_,_,_,_,_,_,_,_,rfl,_⟩<;>simp at hc
 all_goals simp at hc
theorem w_i8{n:Nat}(h:SOK 8 n):IntKind.i8.wrap ((UInt8.ofNat n).toNat:Int)=IntKind.i64.wrap (n:Int):=by
 unfold SOK at h
 simp only[UInt8.toNat_ofNat',IntKind.wrap,IntKind.bits,IntKind.signed]
 simp at h⊢
 split<;>split<;>omega
theorem w_i16{n:Nat}(h:SOK 16 n):IntKind.i16.wrap ((n%65536:Nat):Int)=IntKind.i64.wrap (n:Int):=by
 unfold SOK at h
 simp only[IntKind.wrap,IntKind.bits,IntKind.signed]
 simp at h⊢
 split<;>split<;>omega
theorem w_i32{n:Nat}(h:SOK 32 n):IntKind.i32.wrap ((n%4294967296:Nat):Int)=IntKind.i64.wrap (n:Int):=by
 unfold SOK at h
 simp only[IntKind.wrap,IntKind.bits,IntKind.signed]
 simp at h⊢
 split<;>split<;>omega
theorem w_sm{n:Nat}(h:small n)(hn:n<18446744073709551616):IntKind.i8.wrap ((UInt8.ofNat n).toNat:Int)=IntKind.i64.wrap (n:Int):=w_i8 (by unfold small at h;unfold SOK;simp;omega)
theorem i8_range(n:Int): -128≤IntKind.i8.wrap n∧IntKind.i8.wrap n<128:=by
 simp only[IntKind.wrap,IntKind.bits,IntKind.signed]
 simp
 split<;>omega
theorem w_i32_i8(n:Int):IntKind.i32.wrap (IntKind.i8.wrap n)=IntKind.i8.wrap n:=by
 have h:=i8_range n
 generalize IntKind.i8.wrap n=m at h
 simp only[IntKind.wrap,IntKind.bits,IntKind.signed]
 simp
 split<;>omega
theorem w_i64_i8(n:Int):IntKind.i64.wrap (IntKind.i8.wrap n)=IntKind.i8.wrap n:=by
 have h:=i8_range n
 generalize IntKind.i8.wrap n=m at h
 simp only[IntKind.wrap,IntKind.bits,IntKind.signed]
 simp
 split<;>omega
theorem w_u32(b:UInt8):IntKind.u32.wrap (b.toNat:Int)=(b.toNat:Int):=wu32 (by omega) (by have:=b.toNat_lt;omega)
theorem w_u64(b:UInt8):IntKind.u64.wrap (b.toNat:Int)=(b.toNat:Int):=wu64 (by omega) (by have:=b.toNat_lt;omega)
theorem small_of{n:Nat}(h:n<256):((UInt8.ofNat n).toNat:Int)=n:=by simp only[UInt8.toNat_ofNat'];omega
end Go.Proofs.LL
