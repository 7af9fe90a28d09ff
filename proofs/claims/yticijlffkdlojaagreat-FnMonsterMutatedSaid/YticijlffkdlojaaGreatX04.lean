/- WHAT IS PROVED: the given statement of FnMonsterMutated, whatever the input: this is part 4 of 14. No conditions. -/
import Derived.Test.YticijlffkdlojaaGreatX03
set_option linter.all false
namespace Go.Proofs
open Go Go.Vc
open Tryz (prog)
section
variable {H:Qf} {B o n c:Nat} {L:List UInt8} {e:TypeId} (hB:H[B]?=some (.cells (u8c L) e (0,0))) {R:Kn}
include hB
set_option maxHeartbeats 1000000 in
theorem Qh0 {x:Int} (ho:o+2<=L.length) (hn:2<=n) (hR:R (.tuple #[]) (wr H B e (Qab L o (leB x 2)))):FnS prog 414 #[bsl B o n c,.int .u16 x] H R:=by
 rw[leB_2]at hR
 have hc:=Z6 (Qdp hB) (o:=o) (i:=1) (by omega)
 have i0:(0:Int)<n:=by omega
 have i1:(1:Int)<n:=by omega
 apply w414
 unfold tp405
 have e0:IntKind.u8.wrap x=((Zj x 0).toNat:Int):=byte_0 x
 have e1:IntKind.u8.wrap (x.fdiv (2^(min (Int.toNat 8) IntKind.u16.bits)))=((Zj x 1).toNat:Int):=Zv x 1
 simp only[↓QO (by decide:(0:Int)<=0) i0,↓QO (by decide:(0:Int)<=1) i1,show Int.toNat 0=0 from rfl,show Int.toNat 1=1 from rfl,Nat.mul_one,Nat.zero_mul,Nat.one_mul,↓Qj hc,↓Q1,↓Zi (by decide:(0:Int)<=8),e0,e1]
 rw[<-QdP hB]
 rw[ZL hB (by simp;omega)]
 rw[ZL hB (by simp;omega)]
 exact hR
set_option maxHeartbeats 1000000 in
theorem QhU {x:Int} (ho:o+2<=L.length) (hn:2<=n) (hR:R (.tuple #[]) (wr H B e (Qab L o (leB x 2)))):FnS prog 405 #[bsl B o n c,.int .i16 x] H R:=by
 rw[leB_2]at hR
 have hc:=Z6 (Qdp hB) (o:=o) (i:=1) (by omega)
 have i0:(0:Int)<n:=by omega
 have i1:(1:Int)<n:=by omega
 apply w405
 unfold tp405
 have e0:IntKind.u8.wrap x=((Zj x 0).toNat:Int):=byte_0 x
 have e1:IntKind.u8.wrap (x.fdiv (2^(min (Int.toNat 8) IntKind.i16.bits)))=((Zj x 1).toNat:Int):=Zv x 1
 simp only[↓QO (by decide:(0:Int)<=0) i0,↓QO (by decide:(0:Int)<=1) i1,show Int.toNat 0=0 from rfl,show Int.toNat 1=1 from rfl,Nat.mul_one,Nat.zero_mul,Nat.one_mul,↓Qj hc,↓Q1,↓Zi (by decide:(0:Int)<=8),e0,e1]
 rw[<-QdP hB]
 rw[ZL hB (by simp;omega)]
 rw[ZL hB (by simp;omega)]
 exact hR
set_option maxHeartbeats 1000000 in
theorem Qdb {x:Int} (ho:o+4<=L.length) (hn:4<=n) (hR:R (.tuple #[]) (wr H B e (Qab L o (leB x 4)))):FnS prog 392 #[bsl B o n c,.int .u32 x] H R:=by
 rw[leB_4]at hR
 have hc:=Z6 (Qdp hB) (o:=o) (i:=3) (by omega)
 have i0:(0:Int)<n:=by omega
 have i1:(1:Int)<n:=by omega
 have i2:(2:Int)<n:=by omega
 have i3:(3:Int)<n:=by omega
 apply w392
 unfold tp392
 have e0:IntKind.u8.wrap x=((Zj x 0).toNat:Int):=byte_0 x
 have e1:IntKind.u8.wrap (x.fdiv (2^(min (Int.toNat 8) IntKind.u32.bits)))=((Zj x 1).toNat:Int):=Zv x 1
 have e2:IntKind.u8.wrap (x.fdiv (2^(min (Int.toNat 16) IntKind.u32.bits)))=((Zj x 2).toNat:Int):=Zv x 2
 have e3:IntKind.u8.wrap (x.fdiv (2^(min (Int.toNat 24) IntKind.u32.bits)))=((Zj x 3).toNat:Int):=Zv x 3
 simp only[↓QO (by decide:(0:Int)<=0) i0,↓QO (by decide:(0:Int)<=1) i1,↓QO (by decide:(0:Int)<=2) i2,↓QO (by decide:(0:Int)<=3) i3,show Int.toNat 0=0 from rfl,show Int.toNat 1=1 from rfl,show Int.toNat 2=2 from rfl,show Int.toNat 3=3 from rfl,Nat.mul_one,Nat.zero_mul,Nat.one_mul,↓Qj hc,↓Q1,↓Zi (by decide:(0:Int)<=8),↓Zi (by decide:(0:Int)<=16),↓Zi (by decide:(0:Int)<=24),e0,e1,e2,e3]
 rw[<-QdP hB]
 rw[ZL hB (by simp;omega)]
 rw[ZL hB (by simp;omega)]
 rw[ZL hB (by simp;omega)]
 rw[ZL hB (by simp;omega)]
 exact hR
set_option maxHeartbeats 1000000 in
theorem Qfh {x:Int} (ho:o+4<=L.length) (hn:4<=n) (hR:R (.tuple #[]) (wr H B e (Qab L o (leB x 4)))):FnS prog 406 #[bsl B o n c,.int .i32 x] H R:=by
 rw[leB_4]at hR
 have hc:=Z6 (Qdp hB) (o:=o) (i:=3) (by omega)
 have i0:(0:Int)<n:=by omega
 have i1:(1:Int)<n:=by omega
 have i2:(2:Int)<n:=by omega
 have i3:(3:Int)<n:=by omega
 apply w406
 unfold tp392
 have e0:IntKind.u8.wrap x=((Zj x 0).toNat:Int):=byte_0 x
 have e1:IntKind.u8.wrap (x.fdiv (2^(min (Int.toNat 8) IntKind.i32.bits)))=((Zj x 1).toNat:Int):=Zv x 1
 have e2:IntKind.u8.wrap (x.fdiv (2^(min (Int.toNat 16) IntKind.i32.bits)))=((Zj x 2).toNat:Int):=Zv x 2
 have e3:IntKind.u8.wrap (x.fdiv (2^(min (Int.toNat 24) IntKind.i32.bits)))=((Zj x 3).toNat:Int):=Zv x 3
 simp only[↓QO (by decide:(0:Int)<=0) i0,↓QO (by decide:(0:Int)<=1) i1,↓QO (by decide:(0:Int)<=2) i2,↓QO (by decide:(0:Int)<=3) i3,show Int.toNat 0=0 from rfl,show Int.toNat 1=1 from rfl,show Int.toNat 2=2 from rfl,show Int.toNat 3=3 from rfl,Nat.mul_one,Nat.zero_mul,Nat.one_mul,↓Qj hc,↓Q1,↓Zi (by decide:(0:Int)<=8),↓Zi (by decide:(0:Int)<=16),↓Zi (by decide:(0:Int)<=24),e0,e1,e2,e3]
 rw[<-QdP hB]
 rw[ZL hB (by simp;omega)]
 rw[ZL hB (by simp;omega)]
 rw[ZL hB (by simp;omega)]
 rw[ZL hB (by simp;omega)]
 exact hR
set_option maxHeartbeats 1000000 in
theorem QeB {x:Int} (ho:o+8<=L.length) (hn:8<=n) (hR:R (.tuple #[]) (wr H B e (Qab L o (leB x 8)))):FnS prog 365 #[bsl B o n c,.int .u64 x] H R:=by
 rw[leB_8]at hR
 have hc:=Z6 (Qdp hB) (o:=o) (i:=7) (by omega)
 have i0:(0:Int)<n:=by omega
 have i1:(1:Int)<n:=by omega
 have i2:(2:Int)<n:=by omega
 have i3:(3:Int)<n:=by omega
 have i4:(4:Int)<n:=by omega
 have i5:(5:Int)<n:=by omega
 have i6:(6:Int)<n:=by omega
 have i7:(7:Int)<n:=by omega
 apply w365
 unfold tp363
 have e0:IntKind.u8.wrap x=((Zj x 0).toNat:Int):=byte_0 x
 have e1:IntKind.u8.wrap (x.fdiv (2^(min (Int.toNat 8) IntKind.u64.bits)))=((Zj x 1).toNat:Int):=Zv x 1
 have e2:IntKind.u8.wrap (x.fdiv (2^(min (Int.toNat 16) IntKind.u64.bits)))=((Zj x 2).toNat:Int):=Zv x 2
 have e3:IntKind.u8.wrap (x.fdiv (2^(min (Int.toNat 24) IntKind.u64.bits)))=((Zj x 3).toNat:Int):=Zv x 3
 have e4:IntKind.u8.wrap (x.fdiv (2^(min (Int.toNat 32) IntKind.u64.bits)))=((Zj x 4).toNat:Int):=Zv x 4
 have e5:IntKind.u8.wrap (x.fdiv (2^(min (Int.toNat 40) IntKind.u64.bits)))=((Zj x 5).toNat:Int):=Zv x 5
 have e6:IntKind.u8.wrap (x.fdiv (2^(min (Int.toNat 48) IntKind.u64.bits)))=((Zj x 6).toNat:Int):=Zv x 6
 have e7:IntKind.u8.wrap (x.fdiv (2^(min (Int.toNat 56) IntKind.u64.bits)))=((Zj x 7).toNat:Int):=Zv x 7
 simp only[↓QO (by decide:(0:Int)<=0) i0,↓QO (by decide:(0:Int)<=1) i1,↓QO (by decide:(0:Int)<=2) i2,↓QO (by decide:(0:Int)<=3) i3,↓QO (by decide:(0:Int)<=4) i4,↓QO (by decide:(0:Int)<=5) i5,↓QO (by decide:(0:Int)<=6) i6,↓QO (by decide:(0:Int)<=7) i7,show Int.toNat 0=0 from rfl,show Int.toNat 1=1 from rfl,show Int.toNat 2=2 from rfl,show Int.toNat 3=3 from rfl,show Int.toNat 4=4 from rfl,show Int.toNat 5=5 from rfl,show Int.toNat 6=6 from rfl,show Int.toNat 7=7 from rfl,Nat.mul_one,Nat.zero_mul,Nat.one_mul,↓Qj hc,↓Q1,↓Zi (by decide:(0:Int)<=8),↓Zi (by decide:(0:Int)<=16),↓Zi (by decide:(0:Int)<=24),↓Zi (by decide:(0:Int)<=32),↓Zi (by decide:(0:Int)<=40),↓Zi (by decide:(0:Int)<=48),↓Zi (by decide:(0:Int)<=56),e0,e1,e2,e3,e4,e5,e6,e7]
 rw[<-QdP hB]
 rw[ZL hB (by simp;omega)]
 rw[ZL hB (by simp;omega)]
 rw[ZL hB (by simp;omega)]
 rw[ZL hB (by simp;omega)]
 rw[ZL hB (by simp;omega)]
 rw[ZL hB (by simp;omega)]
 rw[ZL hB (by simp;omega)]
 rw[ZL hB (by simp;omega)]
 exact hR
set_option maxHeartbeats 1000000 in
theorem QhS {x:Int} (ho:o+8<=L.length) (hn:8<=n) (hR:R (.tuple #[]) (wr H B e (Qab L o (leB x 8)))):FnS prog 363 #[bsl B o n c,.int .i64 x] H R:=by
 rw[leB_8]at hR
 have hc:=Z6 (Qdp hB) (o:=o) (i:=7) (by omega)
 have i0:(0:Int)<n:=by omega
 have i1:(1:Int)<n:=by omega
 have i2:(2:Int)<n:=by omega
 have i3:(3:Int)<n:=by omega
 have i4:(4:Int)<n:=by omega
 have i5:(5:Int)<n:=by omega
 have i6:(6:Int)<n:=by omega
 have i7:(7:Int)<n:=by omega
 apply w363
 unfold tp363
 have e0:IntKind.u8.wrap x=((Zj x 0).toNat:Int):=byte_0 x
 have e1:IntKind.u8.wrap (x.fdiv (2^(min (Int.toNat 8) IntKind.i64.bits)))=((Zj x 1).toNat:Int):=Zv x 1
 have e2:IntKind.u8.wrap (x.fdiv (2^(min (Int.toNat 16) IntKind.i64.bits)))=((Zj x 2).toNat:Int):=Zv x 2
 have e3:IntKind.u8.wrap (x.fdiv (2^(min (Int.toNat 24) IntKind.i64.bits)))=((Zj x 3).toNat:Int):=Zv x 3
 have e4:IntKind.u8.wrap (x.fdiv (2^(min (Int.toNat 32) IntKind.i64.bits)))=((Zj x 4).toNat:Int):=Zv x 4
 have e5:IntKind.u8.wrap (x.fdiv (2^(min (Int.toNat 40) IntKind.i64.bits)))=((Zj x 5).toNat:Int):=Zv x 5
 have e6:IntKind.u8.wrap (x.fdiv (2^(min (Int.toNat 48) IntKind.i64.bits)))=((Zj x 6).toNat:Int):=Zv x 6
 have e7:IntKind.u8.wrap (x.fdiv (2^(min (Int.toNat 56) IntKind.i64.bits)))=((Zj x 7).toNat:Int):=Zv x 7
 simp only[↓QO (by decide:(0:Int)<=0) i0,↓QO (by decide:(0:Int)<=1) i1,↓QO (by decide:(0:Int)<=2) i2,↓QO (by decide:(0:Int)<=3) i3,↓QO (by decide:(0:Int)<=4) i4,↓QO (by decide:(0:Int)<=5) i5,↓QO (by decide:(0:Int)<=6) i6,↓QO (by decide:(0:Int)<=7) i7,show Int.toNat 0=0 from rfl,show Int.toNat 1=1 from rfl,show Int.toNat 2=2 from rfl,show Int.toNat 3=3 from rfl,show Int.toNat 4=4 from rfl,show Int.toNat 5=5 from rfl,show Int.toNat 6=6 from rfl,show Int.toNat 7=7 from rfl,Nat.mul_one,Nat.zero_mul,Nat.one_mul,↓Qj hc,↓Q1,↓Zi (by decide:(0:Int)<=8),↓Zi (by decide:(0:Int)<=16),↓Zi (by decide:(0:Int)<=24),↓Zi (by decide:(0:Int)<=32),↓Zi (by decide:(0:Int)<=40),↓Zi (by decide:(0:Int)<=48),↓Zi (by decide:(0:Int)<=56),e0,e1,e2,e3,e4,e5,e6,e7]
 rw[<-QdP hB]
 rw[ZL hB (by simp;omega)]
 rw[ZL hB (by simp;omega)]
 rw[ZL hB (by simp;omega)]
 rw[ZL hB (by simp;omega)]
 rw[ZL hB (by simp;omega)]
 rw[ZL hB (by simp;omega)]
 rw[ZL hB (by simp;omega)]
 rw[ZL hB (by simp;omega)]
 exact hR
set_option maxHeartbeats 1000000 in
theorem Qj1 {x:Int} (ho:o+1<=L.length) (hn:1<=n) (hR:R (.tuple #[]) (wr H B e (Qab L o (leB x 1)))):FnS prog 408 #[bsl B o n c,.int .i8 x] H R:=by
 rw[leB_1]at hR
 have hc:=Z6 (Qdp hB) (o:=o) (i:=0) (by omega)
 have i0:(0:Int)<n:=by omega
 apply w408
 unfold s408
 have e0:IntKind.u8.wrap x=((Zj x 0).toNat:Int):=byte_0 x
 simp only[↓QO (by decide:(0:Int)<=0) i0,show Int.toNat 0=0 from rfl,Nat.mul_one,Nat.zero_mul,Nat.one_mul,↓Q1,e0]
 rw[<-QdP hB]
 rw[ZL hB (by simp;omega)]
 exact hR
theorem go_WriteUint8 {b:UInt8} (ho:o+1<=L.length) (hn:1<=n) (hR:R (.tuple #[]) (wr H B e (Qab L o [b]))):FnS prog 393 #[bsl B o n c,.int .u8 (b.toNat:Int)] H R:=by
 have i0:(0:Int)<n:=by omega
 apply w393
 unfold s393
 simp only[↓QO (by decide:(0:Int)<=0) i0,show Int.toNat 0=0 from rfl,Nat.zero_mul]
 rw[<-QdP hB,ZL hB (by omega)]
 exact hR
theorem QiT {b:UInt8} (ho:o+1<=L.length) (hn:1<=n) (hR:R (.tuple #[]) (wr H B e (Qab L o [b]))):FnS prog 352 #[bsl B o n c,.int .u8 (b.toNat:Int)] H R:=by
 apply w352
 unfold tp351
 exact go_WriteUint8 hB ho hn hR
theorem QiN {b:Bool} (ho:o+1<=L.length) (hn:1<=n) (hR:R (.tuple #[]) (wr H B e (Qab L o [if b then 1 else 0]))):FnS prog 361 #[bsl B o n c,.bool b] H R:=by
 have i0:(0:Int)<n:=by omega
 apply w361
 unfold s361
 simp only[↓QO (by decide:(0:Int)<=0) i0,show Int.toNat 0=0 from rfl,Nat.zero_mul]
 have s0:(Value.int .u8 0)= .int .u8 ((0:UInt8).toNat:Int):=rfl
 have s1:(Value.int .u8 1)= .int .u8 ((1:UInt8).toNat:Int):=rfl
 rw[<-QdP hB,s0,ZL hB (by omega)]
 cases b
 ·exact hR
 ·rw[Zs,s1,ZL hB (by simp only[List.length_set];omega),Nat.add_zero,List.set_set]
  exact hR
theorem Qjb {x:Int} (ho:o+4<=L.length) (hn:4<=n) (hR:R (.tuple #[]) (wr H B e (Qab L o (leB x 4)))):FnS prog 351 #[bsl B o n c,.int .u32 x] H R:=by
 apply w351
 unfold tp351
 exact Qdb hB ho hn hR
theorem Qds {x:Int} (ho:o+4<=L.length) (hn:4<=n) (hR:R (.tuple #[]) (wr H B e (Qab L o (leB x 4)))):FnS prog 404 #[bsl B o n c,.int .i32 x] H R:=by
 apply w404
 unfold tp351
 exact Qfh hB ho hn hR
theorem Qj9 {x:Int} (ho:o+2<=L.length) (hn:2<=n) (hR:R (.tuple #[]) (wr H B e (Qab L o (leB x 2)))):FnS prog 415 #[bsl B o n c,.int .u16 x] H R:=by
 apply w415
 unfold tp351
 exact Qh0 hB ho hn hR
omit hB in
theorem Qs {w:World} {n:Nat}:(callFunc 205 #[.float .f32 n]).run prog w= .ok (.value (.int .u32 n)) w:=by
 simp only[callFunc,Sem.run_bind,run_program,Result.andThen_ok,Tryz.func205]
 rfl
omit hB in
theorem QdO {w:World} {n:Nat}:(callFunc 219 #[.float .f64 n]).run prog w= .ok (.value (.int .u64 n)) w:=by
 simp only[callFunc,Sem.run_bind,run_program,Result.andThen_ok,Tryz.func219]
 rfl
theorem Qgc {x:Nat} (ho:o+4<=L.length) (hn:4<=n) (hR:R (.tuple #[]) (wr H B e (Qab L o (leB x 4)))):FnS prog 407 #[bsl B o n c,.float .f32 x] H R:=by
 apply w407
 unfold s407
 refine QS (fun w=>Qs) ?_
 exact Qdb hB ho hn hR
theorem go_WriteFloat64 {x:Nat} (ho:o+8<=L.length) (hn:8<=n) (hR:R (.tuple #[]) (wr H B e (Qab L o (leB x 8)))):FnS prog 364 #[bsl B o n c,.float .f64 x] H R:=by
 apply w364
 unfold s364
 refine QS (fun w=>QdO) ?_
 exact QeB hB ho hn hR
end
end Go.Proofs
namespace Go.Proofs
open Go Go.Vc
open Tryz (prog)
set_option maxRecDepth 100000
def s20 (d:Value) (h:Qf) (R:Kn):Prop:=
 QN (fun b=>
 Qp prog .leq 3 d (.int .i64 0) fun f=>
 IfK f
 (b [(.int .i64 0)] h)
 (b [d] h)) fun b=>∀c:Value,∀e:Qf,b [c] e->
 QH z140.toList [] fun g=>
 Zb e (.cells (Value.cells g) 140) fun a i=>
 Qf0 i 5 1 z5 c c fun j l=>
 Q6 a fun m=>
 Qh m 0 fun o=>
 StK l 1 o j fun p=>
 QX .u32 c fun q=>
 Q6 a fun r=>
 Qh r 5 fun s=>
 StK p 1 s q fun t=>
 Q6 a fun u=>
 Qh u 1 fun v=>
 StK t 1 v (.int .i64 1) fun w=>
 Qf0 w 72 4 z72 (.int .i64 0) (.int .i64 16) fun y z=>
 Q6 a fun a0=>
 Qh a0 4 fun a1=>
 StK z 1 a1 y fun a2=>
 R a a2
theorem w20 {a h R} (H:s20 a h R):FnS prog 20 #[a] h R:=wq Tryz.func20 (by kernel_rfl) H
def s21 (a c:Value) (h:Qf) (R:Kn):Prop:=
 Qb prog 73 #[a] h fun _x5 b=>
 Q6 a fun d=>
 Qh d 1 fun e=>
 LdK b e fun f=>
 Qb prog 74 #[a,f,(.int .i64 4)] b fun _x11 g=>
 Qb prog 75 #[a,c] g fun _x14 i=>
 Q6 a fun j=>
 Qh j 7 fun l=>
 StK i 1 l (.bool true) fun m=>
 R (.tuple #[]) m
theorem w21 {a b h R} (H:s21 a b h R):FnS prog 21 #[a,b] h R:=wq Tryz.func21 (by kernel_rfl) H
def s24 (a:Value) (h:Qf) (R:Kn):Prop:=
 Qb prog 169 #[a] h fun _x4 b=>
 Q6 a fun d=>
 Qh d 0 fun e=>
 LdK b e fun f=>
 Qb prog 170 #[a] b fun g c=>
 Qk b c<|
 QfG 1 f (some g) none fun i=>
 R i c
theorem w24 {a h R} (H:s24 a h R):FnS prog 24 #[a] h R:=wq Tryz.func24 (by kernel_rfl) H
def s73 (a:Value) (h:Qf) (R:Kn):Prop:=
 Q6 a fun b=>
 Qh b 6 fun c=>
 LdK h c fun d=>
 IfK d
 (False)
 (R (.tuple #[]) h)
theorem w73 {a h R} (H:s73 a h R):FnS prog 73 #[a] h R:=wq Tryz.func73 (by kernel_rfl) H
def s74 (a c i:Value) (h:Qf) (R:Kn):Prop:=
 QN (fun d=>
 Q6 a fun q=>
 Qh q 1 fun r=>
 LdK h r fun s=>
 Qp prog .gtr 3 c s fun t=>
 IfK t
 (Q6 a fun u=>
 Qh u 1 fun v=>
 StK h 1 v c fun w=>
 d [] w)
 (d [] h)) fun d=>∀e:Qf,d [] e->
 Q6 a fun y=>
 Qh y 0 fun z=>
 LdK e z fun a0=>
 YX a0 fun a1=>
 Qb prog 170 #[a] e fun a2 j=>
 Qk e j<|
 QX .i64 a2 fun a3=>
 Qp prog .sub 3 a1 a3 fun a4=>
 Qp prog .add 3 a4 i fun a5=>
 Z2 prog (Op.unary .xor a5) fun a6=>
 Qp prog .add 3 a6 (.int .i64 1) fun a7=>
 Qp prog .sub 3 c (.int .i64 1) fun a8=>
 Qp prog .and 3 a7 a8 fun l=>
 QN (fun f=>
 YO [] j fun m o=>∀b:Qf,m o [] b->
 Q6 a fun a9=>
 Qh a9 5 fun b0=>
 LdK b b0 fun b1=>
 QX .i64 b1 fun b2=>
 Qp prog .add 3 l c fun b3=>
 Qp prog .add 3 b3 i fun b4=>
 Qp prog .leq 3 b2 b4 fun b5=>
 IfK b5
 (Q6 a fun b6=>
 Qh b6 0 fun b7=>
 LdK b b7 fun b8=>
 YX b8 fun b9=>
 Qb prog 276 #[a] b fun _x52 g=>
 Q6 a fun c0=>
 Qh c0 5 fun c1=>
 LdK g c1 fun c2=>
 Q6 a fun c3=>
 Qh c3 0 fun c4=>
 LdK g c4 fun c5=>
 YX c5 fun c6=>
 Qp prog .sub 3 c6 b9 fun c7=>
 QX .u32 c7 fun c8=>
 Qp prog .add 72 c2 c8 fun c9=>
 Q6 a fun d0=>
 Qh d0 5 fun d1=>
 StK g 1 d1 c9 fun d2=>
 Yf m o [] d2)
 (f [] b)) fun f=>∀p:Qf,f [] p->
 Qb prog 277 #[a,l] p fun _x70 d3=>
 R (.tuple #[]) d3
theorem w74 {a b c h R} (H:s74 a b c h R):FnS prog 74 #[a,b,c] h R:=wq Tryz.func74 (by kernel_rfl) H
def s75 (a c:Value) (h:Qf) (R:Kn):Prop:=
 Qb prog 74 #[a,(.int .i64 4),(.int .i64 0)] h fun _x6 e=>
 QN (fun b=>
 Qb prog 278 #[a] e fun f g=>
 Qp prog .leq 72 c f fun i=>
 Z2 prog (Op.unary .not i) fun j=>
 IfK j
 (False)
 (b [] g)) fun b=>∀d:Qf,b [] d->
 Qb prog 278 #[a] d fun l m=>
 Qp prog .sub 72 l c fun o=>
 Qp prog .add 72 o (.int .u32 4) fun p=>
 Qb prog 279 #[a,p] m fun _x20 q=>
 R (.tuple #[]) q
theorem w75 {a b h R} (H:s75 a b h R):FnS prog 75 #[a,b] h R:=wq Tryz.func75 (by kernel_rfl) H
def s87 (a b:Value) (h:Qf) (R:Kn):Prop:=
 Qb prog 73 #[a] h fun _x7 f=>
 Q6 a fun g=>
 Qh g 6 fun i=>
 StK f 1 i (.bool true) fun j=>
 Qf3 b fun l=>
 Qp prog .add 3 l (.int .i64 1) fun m=>
 Qp prog .mul 3 m (.int .i64 1) fun o=>
 Qb prog 74 #[a,(.int .i64 4),o] j fun _x16 p=>
 Qb prog 280 #[a,(.int .u8 0)] p fun _x18 d=>
 Qf3 b fun q=>
 QX .u32 q fun e=>
 Q6 a fun r=>
 Qh r 5 fun s=>
 LdK d s fun t=>
 Qp prog .sub 72 t e fun u=>
 Q6 a fun v=>
 Qh v 5 fun w=>
 StK d 1 w u fun c=>
 Q6 a fun y=>
 Qh y 0 fun z=>
 LdK c z fun a0=>
 Q6 a fun a1=>
 Qh a1 5 fun a2=>
 LdK c a2 fun a3=>
 Q6 a fun a4=>
 Qh a4 5 fun a5=>
 LdK c a5 fun a6=>
 Qp prog .add 72 a6 e fun a7=>
 QfG 1 a0 (some a3) (some a7) fun a8=>
 CopyK c 1 a8 b fun _x46 a9=>
 Qf3 b fun b0=>
 Qb prog 92 #[a,b0] a9 fun b1 b2=>
 R b1 b2
theorem w87 {a b h R} (H:s87 a b h R):FnS prog 87 #[a,b] h R:=wq Tryz.func87 (by kernel_rfl) H
def s88 (a b:Value) (h:Qf) (R:Kn):Prop:=
 Qb prog 73 #[a] h fun _x7 f=>
 Q6 a fun g=>
 Qh g 6 fun i=>
 StK f 1 i (.bool true) fun j=>
 YX b fun l=>
 Qp prog .add 3 l (.int .i64 1) fun m=>
 Qp prog .mul 3 m (.int .i64 1) fun o=>
 Qb prog 74 #[a,(.int .i64 4),o] j fun _x16 p=>
 Qb prog 280 #[a,(.int .u8 0)] p fun _x18 d=>
 YX b fun q=>
 QX .u32 q fun e=>
 Q6 a fun r=>
 Qh r 5 fun s=>
 LdK d s fun t=>
 Qp prog .sub 72 t e fun u=>
 Q6 a fun v=>
 Qh v 5 fun w=>
 StK d 1 w u fun c=>
 Q6 a fun y=>
 Qh y 0 fun z=>
 LdK c z fun a0=>
 Q6 a fun a1=>
 Qh a1 5 fun a2=>
 LdK c a2 fun a3=>
 Q6 a fun a4=>
 Qh a4 5 fun a5=>
 LdK c a5 fun a6=>
 Qp prog .add 72 a6 e fun a7=>
 QfG 1 a0 (some a3) (some a7) fun a8=>
 CopyK c 1 a8 b fun _x46 a9=>
 YX b fun b0=>
 Qb prog 92 #[a,b0] a9 fun b1 b2=>
 R b1 b2
theorem w88 {a b h R} (H:s88 a b h R):FnS prog 88 #[a,b] h R:=wq Tryz.func88 (by kernel_rfl) H
def s92 (a b:Value) (h:Qf) (R:Kn):Prop:=
 Qb prog 285 #[a] h fun _x6 c=>
 QX .u32 b fun d=>
 Qb prog 279 #[a,d] c fun _x10 e=>
 Q6 a fun f=>
 Qh f 6 fun g=>
 StK e 1 g (.bool false) fun i=>
 Qb prog 278 #[a] i fun j l=>
 R j l
theorem w92 {a b h R} (H:s92 a b h R):FnS prog 92 #[a,b] h R:=wq Tryz.func92 (by kernel_rfl) H
theorem w97 {a b h R} (H:tp97 1 291 a b h R):FnS prog 97 #[a,b] h R:=wq Tryz.func97 (by kernel_rfl) H
theorem w103 {a b h R} (H:tp97 8 293 a b h R):FnS prog 103 #[a,b] h R:=wq Tryz.func103 (by kernel_rfl) H
theorem w105 {a b h R} (H:tp97 8 294 a b h R):FnS prog 105 #[a,b] h R:=wq Tryz.func105 (by kernel_rfl) H
theorem w110 {a b h R} (H:tp97 8 300 a b h R):FnS prog 110 #[a,b] h R:=wq Tryz.func110 (by kernel_rfl) H
theorem w117 {a b h R} (H:tp97 1 280 a b h R):FnS prog 117 #[a,b] h R:=wq Tryz.func117 (by kernel_rfl) H
theorem w169 {a h R} (H:tp169 7 a h R):FnS prog 169 #[a] h R:=wq Tryz.func169 (by kernel_rfl) H
def s170 (a:Value) (h:Qf) (R:Kn):Prop:=
 Q6 a fun b=>
 Qh b 5 fun c=>
 LdK h c fun d=>
 R d h
theorem w170 {a h R} (H:s170 a h R):FnS prog 170 #[a] h R:=wq Tryz.func170 (by kernel_rfl) H
def s276 (a:Value) (h:Qf) (R:Kn):Prop:=
 QN (fun i=>
 Q6 a fun p=>
 Qh p 0 fun q=>
 LdK h q fun r=>
 YX r fun s=>
 Qp prog .and 2 s (.int .i64 3221225472) fun t=>
 Qp prog .neq 2 t (.int .i64 0) fun u=>
 IfK u
 (False)
 (i [] h)) fun i=>∀d:Qf,i [] d->
 Q6 a fun v=>
 Qh v 0 fun w=>
 LdK d w fun y=>
 YX y fun z=>
 Qp prog .mul 3 z (.int .i64 2) fun j=>
 QN (fun e=>
 Qp prog .eql 3 j (.int .i64 0) fun a0=>
 IfK a0
 (e [(.int .i64 1)] d)
 (e [j] d)) fun e=>∀c:Value,∀b:Qf,e [c] b->
 QN (fun f=>
 Q6 a fun a1=>
 Qh a1 0 fun a2=>
 LdK b a2 fun a3=>
 CapK a3 fun a4=>
 Qp prog .geq 3 a4 c fun a5=>
 IfK a5
 (Q6 a fun a6=>
 Qh a6 0 fun a7=>
 LdK b a7 fun a8=>
 QfG 1 a8 none (some c) fun a9=>
 Q6 a fun b0=>
 Qh b0 0 fun b1=>
 StK b 1 b1 a9 fun b2=>
 f [] b2)
 (Q6 a fun b3=>
 Qh b3 0 fun b4=>
 LdK b b4 fun b5=>
 YX b5 fun b6=>
 Qp prog .sub 3 c b6 fun l=>
 Qf0 b 5 1 z5 l l fun b7 m=>
 Q6 a fun b8=>
 Qh b8 0 fun b9=>
 LdK m b9 fun c0=>
 Qe7 m 5 1 1 z5 c0 b7 fun c1 c2=>
 Q6 a fun c3=>
 Qh c3 0 fun c4=>
 StK c2 1 c4 c1 fun c5=>
 f [] c5)) fun f=>∀g:Qf,f [] g->
 Qp prog .quo 3 c (.int .i64 2) fun o=>
 Q6 a fun c6=>
 Qh c6 0 fun c7=>
 LdK g c7 fun c8=>
 QfG 1 c8 (some o) none fun c9=>
 Q6 a fun d0=>
 Qh d0 0 fun d1=>
 LdK g d1 fun d2=>
 QfG 1 d2 none (some o) fun d3=>
 CopyK g 1 c9 d3 fun _x68 d4=>
 R (.tuple #[]) d4
theorem w276 {a h R} (H:s276 a h R):FnS prog 276 #[a] h R:=wq Tryz.func276 (by kernel_rfl) H
def s277 (e f:Value) (h:Qf) (R:Kn):Prop:=
 YO [(.int .i64 0)] h fun c d=>∀a:Value,∀b:Qf,c d [a] b->
 Qp prog .lss 3 a f fun g=>
 IfK g
 (Qb prog 280 #[e,(.int .u8 0)] b fun _x11 i=>
 Qp prog .add 3 a (.int .i64 1) fun j=>
 Yf c d [j] i)
 (R (.tuple #[]) b)
theorem w277 {a b h R} (H:s277 a b h R):FnS prog 277 #[a,b] h R:=wq Tryz.func277 (by kernel_rfl) H
def s278 (a:Value) (h:Qf) (R:Kn):Prop:=
 Q6 a fun b=>
 Qh b 0 fun c=>
 LdK h c fun d=>
 YX d fun e=>
 QX .u32 e fun f=>
 Q6 a fun g=>
 Qh g 5 fun i=>
 LdK h i fun j=>
 Qp prog .sub 72 f j fun l=>
 R l h
theorem w278 {a h R} (H:s278 a h R):FnS prog 278 #[a] h R:=wq Tryz.func278 (by kernel_rfl) H
theorem w279 {a b h R} (H:QcI 4 351 a b h R):FnS prog 279 #[a,b] h R:=wq Tryz.func279 (by kernel_rfl) H
theorem w280 {a b h R} (H:QcI 1 352 a b h R):FnS prog 280 #[a,b] h R:=wq Tryz.func280 (by kernel_rfl) H
def s283 (a b c d:Value) (h:Qf) (R:Kn):Prop:=
 Qb prog 73 #[a] h fun _x10 e=>
 Q6 a fun f=>
 Qh f 6 fun g=>
 StK e 1 g (.bool true) fun i=>
 Qp prog .mul 3 b c fun j=>
 Qb prog 74 #[a,(.int .i64 4),j] i fun _x18 l=>
 Qp prog .mul 3 b c fun m=>
 Qb prog 74 #[a,d,m] l fun _x24 o=>
 Qb prog 278 #[a] o fun p q=>
 R p q
theorem w283 {a b c d h R} (H:s283 a b c d h R):FnS prog 283 #[a,b,c,d] h R:=wq Tryz.func283 (by kernel_rfl) H
theorem w285 {a h R} (H:tp169 6 a h R):FnS prog 285 #[a] h R:=wq Tryz.func285 (by kernel_rfl) H
theorem w291 {a b h R} (H:QcI 1 361 a b h R):FnS prog 291 #[a,b] h R:=wq Tryz.func291 (by kernel_rfl) H
theorem w293 {a b h R} (H:QcI 8 363 a b h R):FnS prog 293 #[a,b] h R:=wq Tryz.func293 (by kernel_rfl) H
theorem w294 {a b h R} (H:QcI 8 364 a b h R):FnS prog 294 #[a,b] h R:=wq Tryz.func294 (by kernel_rfl) H
theorem w300 {a b h R} (H:QcI 8 365 a b h R):FnS prog 300 #[a,b] h R:=wq Tryz.func300 (by kernel_rfl) H
def s301 (a d:Value) (h:Qf) (R:Kn):Prop:=
 Qb prog 73 #[a] h fun _x6 s=>
 Q6 a fun t=>
 Qh t 6 fun u=>
 StK s 1 u (.bool true) fun g=>
 QN (fun e=>
 Q6 a fun v=>
 Qh v 2 fun w=>
 LdK g w fun y=>
 CapK y fun z=>
 Qp prog .lss 3 z d fun b=>
 Qe b false (fun a0=>a0 a g) g fun a1 l=>
 Qe b false (fun a2=>Q6 a1 fun a3=>a2 a3 l) l fun a4 m=>
 Qe b false (fun a5=>Qh a4 2 fun a6=>a5 a6 m) m fun a7 i=>
 Qe b false (fun a8=>LdK i a7 fun a9=>a8 a9 i) i fun b0 o=>
 Qe b false (fun b1=>Qp prog .eql 137 b0 (.slice none 0 0) fun b2=>b1 b2 o) o fun b3 j=>
 Yh b (.bool true) b3 fun b4=>
 IfK b4
 (Qf0 j 72 4 z72 d d fun b5 b6=>
 Q6 a fun b7=>
 Qh b7 2 fun b8=>
 StK b6 1 b8 b5 fun b9=>
 e [] b9)
 (Q6 a fun c0=>
 Qh c0 2 fun c1=>
 LdK j c1 fun c2=>
 QfG 1 c2 none (some d) fun c3=>
 Q6 a fun c4=>
 Qh c4 2 fun c5=>
 StK j 1 c5 c3 fun c6=>
 YO [(.int .i64 0)] c6 fun p q=>∀f:Value,∀c:Qf,p q [f] c->
 Q6 a fun c7=>
 Qh c7 2 fun c8=>
 LdK c c8 fun c9=>
 YX c9 fun d0=>
 Qp prog .lss 3 f d0 fun d1=>
 IfK d1
 (Q6 a fun d2=>
 Qh d2 2 fun d3=>
 LdK c d3 fun d4=>
 YG 1 d4 f fun d5=>
 StK c 1 d5 (.int .u32 0) fun d6=>
 Qp prog .add 3 f (.int .i64 1) fun d7=>
 Yf p q [d7] d6)
 (e [] c))) fun e=>∀r:Qf,e [] r->
 Qb prog 278 #[a] r fun d8 d9=>
 Q6 a fun e0=>
 Qh e0 3 fun e1=>
 StK d9 1 e1 d8 fun e2=>
 R (.tuple #[]) e2
theorem w301 {a b h R} (H:s301 a b h R):FnS prog 301 #[a,b] h R:=wq Tryz.func301 (by kernel_rfl) H
def s303 (a e c f:Value) (h:Qf) (R:Kn):Prop:=
 Qp prog .neq 72 c f fun g=>
 IfK g
 (Qb prog 285 #[a] h fun _x12 i=>
 QN (fun b=>
 Qb prog 278 #[a] i fun j l=>
 Qp prog .neq 72 c j fun m=>
 IfK m
 (False)
 (b [] l)) fun b=>∀d:Qf,b [] d->
 Qb prog 367 #[a,e] d fun _x20 o=>
 R (.tuple #[]) o)
 (R (.tuple #[]) h)
theorem w303 {a b c d h R} (H:s303 a b c d h R):FnS prog 303 #[a,b,c,d] h R:=wq Tryz.func303 (by kernel_rfl) H
theorem w304 {a b c d h R} (H:QeQ 23 359 a b c d h R):FnS prog 304 #[a,b,c,d] h R:=wq Tryz.func304 (by kernel_rfl) H
theorem w305 {a b c d h R} (H:QeQ 72 75 a b c d h R):FnS prog 305 #[a,b,c,d] h R:=wq Tryz.func305 (by kernel_rfl) H
theorem w306 {a b c d h R} (H:QeQ 5 117 a b c d h R):FnS prog 306 #[a,b,c,d] h R:=wq Tryz.func306 (by kernel_rfl) H
def s307 (g i j l:Value) (h:Qf) (R:Kn):Prop:=
 QN (fun a=>
 IfK j
 (a [(.int .u8 1)] h)
 (a [(.int .u8 0)] h)) fun a=>∀d:Value,∀c:Qf,a [d] c->
 QN (fun b=>
 IfK l
 (b [(.int .u8 1)] c)
 (b [(.int .u8 0)] c)) fun b=>∀e:Value,∀f:Qf,b [e] f->
 Qb prog 306 #[g,i,d,e] f fun _x16 m=>
 R (.tuple #[]) m
theorem w307 {a b c d h R} (H:s307 a b c d h R):FnS prog 307 #[a,b,c,d] h R:=wq Tryz.func307 (by kernel_rfl) H
theorem w308 {a b c d h R} (H:QeQ 21 368 a b c d h R):FnS prog 308 #[a,b,c,d] h R:=wq Tryz.func308 (by kernel_rfl) H
theorem w309 {a b c d h R} (H:QeQ 30 362 a b c d h R):FnS prog 309 #[a,b,c,d] h R:=wq Tryz.func309 (by kernel_rfl) H
theorem w310 {a b c d h R} (H:QeQ 2 103 a b c d h R):FnS prog 310 #[a,b,c,d] h R:=wq Tryz.func310 (by kernel_rfl) H
theorem w311 {a b c d h R} (H:QeQ 31 110 a b c d h R):FnS prog 311 #[a,b,c,d] h R:=wq Tryz.func311 (by kernel_rfl) H
theorem w312 {a b c d h R} (H:QeQ 145 366 a b c d h R):FnS prog 312 #[a,b,c,d] h R:=wq Tryz.func312 (by kernel_rfl) H
theorem w313 {a b c d h R} (H:QeQ 36 358 a b c d h R):FnS prog 313 #[a,b,c,d] h R:=wq Tryz.func313 (by kernel_rfl) H
def s314 (a:Value) (h:Qf) (R:Kn):Prop:=
 Qb prog 285 #[a] h fun _x5 b=>
 Qb prog 369 #[a] b fun c d=>
 Q6 a fun e=>
 Qh e 6 fun f=>
 StK d 1 f (.bool false) fun g=>
 R c g
theorem w314 {a h R} (H:s314 a h R):FnS prog 314 #[a] h R:=wq Tryz.func314 (by kernel_rfl) H
theorem w358 {a b h R} (H:tp97 1 394 a b h R):FnS prog 358 #[a,b] h R:=wq Tryz.func358 (by kernel_rfl) H
theorem w359 {a b h R} (H:tp97 2 395 a b h R):FnS prog 359 #[a,b] h R:=wq Tryz.func359 (by kernel_rfl) H
theorem w360 {a b c d h R} (H:QeQ 92 396 a b c d h R):FnS prog 360 #[a,b,c,d] h R:=wq Tryz.func360 (by kernel_rfl) H
theorem w362 {a b h R} (H:tp97 4 397 a b h R):FnS prog 362 #[a,b] h R:=wq Tryz.func362 (by kernel_rfl) H
theorem w366 {a b h R} (H:tp97 4 398 a b h R):FnS prog 366 #[a,b] h R:=wq Tryz.func366 (by kernel_rfl) H
def s367 (a c:Value) (h:Qf) (R:Kn):Prop:=
 Q6 a fun d=>
 Qh d 2 fun e=>
 LdK h e fun f=>
 Qb prog 278 #[a] h fun g b=>
 Qk h b<|
 YG 1 f c fun i=>
 StK b 1 i g fun j=>
 R (.tuple #[]) j
theorem w367 {a b h R} (H:s367 a b h R):FnS prog 367 #[a,b] h R:=wq Tryz.func367 (by kernel_rfl) H
theorem w368 {a b h R} (H:tp97 4 399 a b h R):FnS prog 368 #[a,b] h R:=wq Tryz.func368 (by kernel_rfl) H
def s369 (a:Value) (h:Qf) (R:Kn):Prop:=
 Qb prog 400 #[a,(.int .i32 0)] h fun _x20 c8=>
 Qb prog 278 #[a] c8 fun c a6=>
 Q6 a fun c9=>
 Qh c9 2 fun d0=>
 LdK a6 d0 fun d1=>
 YX d1 fun d2=>
 Qp prog .sub 3 d2 (.int .i64 1) fun d3=>
 QN (fun q=>
 YO [d3] a6 fun a7 a8=>∀i:Value,∀r:Qf,a7 a8 [i] r->
 Qp prog .geq 3 i (.int .i64 0) fun b=>
 Qe b true (fun d4=>d4 a r) r fun d5 a9=>
 Qe b true (fun d6=>Q6 d5 fun d7=>d6 d7 a9) a9 fun d8 b0=>
 Qe b true (fun d9=>Qh d8 2 fun e0=>d9 e0 b0) b0 fun e1 s=>
 Qe b true (fun e2=>LdK s e1 fun e3=>e2 e3 s) s fun e4 b1=>
 Qe b true (fun e5=>e5 i b1) b1 fun e6 b2=>
 Qe b true (fun e7=>YG 1 e4 e6 fun e8=>e7 e8 b2) b2 fun e9 t=>
 Qe b true (fun f0=>LdK t e9 fun f1=>f0 f1 t) t fun f2 b3=>
 Qe b true (fun f3=>Qp prog .eql 72 f2 (.int .u32 0) fun f4=>f3 f4 b3) b3 fun f5 b4=>
 Yh b f5 (.bool false) fun f6=>
 IfK f6
 (Qp prog .sub 3 i (.int .i64 1) fun f7=>
 Yf a7 a8 [f7] b4)
 (q [i] b4)) fun q=>∀b5:Value,∀u:Qf,q [b5] u->
 Q6 a fun f8=>
 Qh f8 2 fun f9=>
 LdK u f9 fun g0=>
 Qp prog .add 3 b5 (.int .i64 1) fun g1=>
 QfG 1 g0 none (some g1) fun g2=>
 Q6 a fun g3=>
 Qh g3 2 fun g4=>
 StK u 1 g4 g2 fun b6=>
 QN (fun l=>
 Q6 a fun g5=>
 Qh g5 4 fun g6=>
 LdK b6 g6 fun g7=>
 YX g7 fun g8=>
 Qp prog .sub 3 g8 (.int .i64 1) fun g9=>
 YO [g9,(.int .u32 0)] b6 fun b7 b8=>∀f v:Value,∀e:Qf,b7 b8 [f,v] e->
 Qp prog .geq 3 f (.int .i64 0) fun i0=>
 IfK i0
 (Q6 a fun i1=>
 Qh i1 4 fun i2=>
 LdK e i2 fun i3=>
 YG 1 i3 f fun i4=>
 LdK e i4 fun b9=>
 Q6 a fun i5=>
 Qh i5 0 fun i6=>
 LdK e i6 fun i7=>
 YX i7 fun i8=>
 QX .i64 b9 fun i9=>
 Qp prog .sub 3 i8 i9 fun w=>
 Q6 a fun j0=>
 Qh j0 0 fun j1=>
 LdK e j1 fun j2=>
 QfG 1 j2 (some w) none fun j3=>
 Qb prog 401 #[j3] e fun j4 y=>
 QX .i64 j4 fun j5=>
 Qp prog .add 3 w j5 fun j6=>
 Q6 a fun j7=>
 Qh j7 0 fun j8=>
 LdK y j8 fun j9=>
 Qp prog .add 3 w (.int .i64 4) fun l0=>
 QfG 1 j9 (some l0) (some j6) fun l1=>
 Q6 a fun l2=>
 Qh l2 2 fun l3=>
 LdK y l3 fun l4=>
 Qb prog 402 #[l4,c,l1] y fun l5 c0=>
 IfK l5
 (l [f,b9] c0)
 (Qp prog .sub 3 f (.int .i64 1) fun l6=>
 Yf b7 b8 [l6,v] c0))
 (l [f,v] e)) fun l=>∀l7 z:Value,∀j:Qf,l [l7,z] j->
 QN (fun m=>
 Qp prog .eql 72 z (.int .u32 0) fun l8=>
 IfK l8
 (QN (fun a0=>
 Q6 a fun l9=>
 Qh l9 2 fun m0=>
 LdK j m0 fun m1=>
 YX m1 fun m2=>
 Qp prog .sub 3 m2 (.int .i64 1) fun m3=>
 YO [m3] j fun c1 c2=>∀g:Value,∀d:Qf,c1 c2 [g] d->
 Qp prog .geq 3 g (.int .i64 0) fun m4=>
 IfK m4
 (QN (fun o=>
 Q6 a fun m5=>
 Qh m5 2 fun m6=>
 LdK d m6 fun m7=>
 YG 1 m7 g fun m8=>
 LdK d m8 fun m9=>
 Qp prog .neq 72 m9 (.int .u32 0) fun o0=>
 IfK o0
 (Q6 a fun o1=>
 Qh o1 2 fun o2=>
 LdK d o2 fun o3=>
 YG 1 o3 g fun o4=>
 LdK d o4 fun o5=>
 Qp prog .sub 72 c o5 fun o6=>
 o [o6] d)
 (o [(.int .u32 0)] d)) fun o=>∀c3:Value,∀c4:Qf,o [c3] c4->
 QX .u16 c3 fun o7=>
 Qb prog 403 #[a,o7] c4 fun _x138 o8=>
 Qp prog .sub 3 g (.int .i64 1) fun o9=>
 Yf c1 c2 [o9] o8)
 (a0 [g] d)) fun a0=>∀p0:Value,∀a1:Qf,a0 [p0] a1->
 Q6 a fun p1=>
 Qh p1 3 fun p2=>
 LdK a1 p2 fun p3=>
 Qp prog .sub 72 c p3 fun p4=>
 QX .u16 p4 fun p5=>
 Qb prog 403 #[a,p5] a1 fun _x148 c5=>
 Q6 a fun p6=>
 Qh p6 2 fun p7=>
 LdK c5 p7 fun p8=>
 YX p8 fun p9=>
 Qp prog .add 3 p9 (.int .i64 2) fun q0=>
 Qp prog .mul 3 q0 (.int .i64 2) fun q1=>
 QX .u16 q1 fun q2=>
 Qb prog 403 #[a,q2] c5 fun _x159 p=>
 Q6 a fun q3=>
 Qh q3 0 fun q4=>
 LdK p q4 fun q5=>
 YX q5 fun q6=>
 QX .i32 q6 fun q7=>
 QX .i32 c fun q8=>
 Qp prog .sub 345 q7 q8 fun q9=>
 Q6 a fun r0=>
 Qh r0 0 fun r1=>
 LdK p r1 fun r2=>
 QfG 1 r2 (some q9) none fun r3=>
 QX .i32 c fun r4=>
 Qb prog 278 #[a] p fun r5 c6=>
 Qk p c6<|
 QX .i32 r5 fun r6=>
 Qp prog .sub 345 r6 r4 fun r7=>
 Qb prog 404 #[r3,r7] c6 fun _x181 a2=>
 Q6 a fun r8=>
 Qh r8 4 fun r9=>
 LdK a2 r9 fun s0=>
 Qb prog 278 #[a] a2 fun s1 a3=>
 Qk a2 a3<|
 QY a3 72 1 (ZP z72.toList 1) [(0,1,s1)] fun s2 c7=>
 Qk a3 c7<|
 Qe7 c7 72 1 4 z72 s0 s2 fun s3 s4=>
 Q6 a fun s5=>
 Qh s5 4 fun s6=>
 StK s4 1 s6 s3 fun s7=>
 m [] s7)
 (Q6 a fun s8=>
 Qh s8 0 fun s9=>
 LdK j s9 fun t0=>
 YX t0 fun t1=>
 QX .i32 t1 fun t2=>
 QX .i32 c fun t3=>
 Qp prog .sub 345 t2 t3 fun t4=>
 QX .u32 t4 fun t5=>
 Q6 a fun t6=>
 Qh t6 5 fun t7=>
 StK j 1 t7 t5 fun a4=>
 Q6 a fun t8=>
 Qh t8 0 fun t9=>
 LdK a4 t9 fun u0=>
 Q6 a fun u1=>
 Qh u1 5 fun u2=>
 LdK a4 u2 fun u3=>
 QfG 1 u0 (some u3) none fun u4=>
 QX .i32 z fun u5=>
 QX .i32 c fun u6=>
 Qp prog .sub 345 u5 u6 fun u7=>
 Qb prog 404 #[u4,u7] a4 fun _x221 u8=>
 m [] u8)) fun m=>∀a5:Qf,m [] a5->
 Q6 a fun u9=>
 Qh u9 2 fun v0=>
 LdK a5 v0 fun v1=>
 QfG 1 v1 none (some (.int .i64 0)) fun v2=>
 Q6 a fun v3=>
 Qh v3 2 fun v4=>
 StK a5 1 v4 v2 fun v5=>
 R c v5
theorem w369 {a h R} (H:s369 a h R):FnS prog 369 #[a] h R:=wq Tryz.func369 (by kernel_rfl) H
theorem w394 {a b h R} (H:QcI 1 408 a b h R):FnS prog 394 #[a,b] h R:=wq Tryz.func394 (by kernel_rfl) H
theorem w395 {a b h R} (H:QcI 2 405 a b h R):FnS prog 395 #[a,b] h R:=wq Tryz.func395 (by kernel_rfl) H
theorem w396 {a b h R} (H:tp97 2 411 a b h R):FnS prog 396 #[a,b] h R:=wq Tryz.func396 (by kernel_rfl) H
theorem w397 {a b h R} (H:QcI 4 392 a b h R):FnS prog 397 #[a,b] h R:=wq Tryz.func397 (by kernel_rfl) H
theorem w398 {a b h R} (H:QcI 4 407 a b h R):FnS prog 398 #[a,b] h R:=wq Tryz.func398 (by kernel_rfl) H
theorem w399 {a b h R} (H:QcI 4 406 a b h R):FnS prog 399 #[a,b] h R:=wq Tryz.func399 (by kernel_rfl) H
def s400 (a c:Value) (h:Qf) (R:Kn):Prop:=
 Qb prog 74 #[a,(.int .i64 4),(.int .i64 0)] h fun _x6 e=>
 QN (fun b=>
 QX .u32 c fun f=>
 Qb prog 278 #[a] e fun g i=>
 Qp prog .leq 72 f g fun j=>
 Z2 prog (Op.unary .not j) fun l=>
 IfK l
 (False)
 (b [] i)) fun b=>∀d:Qf,b [] d->
 Qb prog 278 #[a] d fun m o=>
 QX .i32 m fun p=>
 Qp prog .sub 345 p c fun q=>
 Qp prog .add 345 q (.int .i32 4) fun r=>
 Qb prog 412 #[a,r] o fun _x22 s=>
 R (.tuple #[]) s
theorem w400 {a b h R} (H:s400 a b h R):FnS prog 400 #[a,b] h R:=wq Tryz.func400 (by kernel_rfl) H
def s402 (c y l:Value) (h:Qf) (R:Kn):Prop:=
 YX c fun z=>
 Qp prog .mul 3 z (.int .i64 2) fun a0=>
 YX l fun a1=>
 Qp prog .neq 3 a0 a1 fun a2=>
 IfK a2
 (R (.bool false) h)
 (QN (fun g=>
 YO [(.int .i64 0),(.bool false)] h fun m o=>∀a d:Value,∀i:Qf,m o [a,d] i->
 YX c fun a3=>
 Qp prog .lss 3 a a3 fun a4=>
 IfK a4
 (QN (fun e=>
 Qp prog .mul 3 a (.int .i64 2) fun a5=>
 Qp prog .add 3 a (.int .i64 1) fun a6=>
 Qp prog .mul 3 a6 (.int .i64 2) fun a7=>
 QfG 1 l (some a5) (some a7) fun a8=>
 Qb prog 401 #[a8] i fun p q=>
 Qp prog .eql 293 p (.int .u16 0) fun b=>
 Qe b true (fun a9=>a9 c q) q fun b0 r=>
 Qe b true (fun b1=>b1 a r) r fun b2 s=>
 Qe b true (fun b3=>YG 1 b0 b2 fun b4=>b3 b4 s) s fun b5 j=>
 Qe b true (fun b6=>LdK j b5 fun b7=>b6 b7 j) j fun b8 t=>
 Qe b true (fun b9=>Qp prog .eql 72 b8 (.int .u32 0) fun c0=>b9 c0 t) t fun c1 f=>
 Yh b c1 (.bool false) fun c2=>
 IfK c2
 (e [d] f)
 (QX .i32 y fun c3=>
 YG 1 c a fun c4=>
 LdK f c4 fun c5=>
 QX .i32 c5 fun c6=>
 Qp prog .sub 345 c3 c6 fun c7=>
 QX .i32 p fun c8=>
 Qp prog .neq 345 c8 c7 fun c9=>
 IfK c9
 (R (.bool false) f)
 (e [d] f))) fun e=>∀u:Value,∀v:Qf,e [u] v->
 Qp prog .add 3 a (.int .i64 1) fun d0=>
 Yf m o [d0,u] v)
 (g [a,d] i)) fun g=>∀d1 d2:Value,∀w:Qf,g [d1,d2] w->
 R (.bool true) w)
theorem w402 {a b c h R} (H:s402 a b c h R):FnS prog 402 #[a,b,c] h R:=wq Tryz.func402 (by kernel_rfl) H
theorem w403 {a b h R} (H:tp97 2 413 a b h R):FnS prog 403 #[a,b] h R:=wq Tryz.func403 (by kernel_rfl) H
theorem w411 {a b h R} (H:QcI 2 414 a b h R):FnS prog 411 #[a,b] h R:=wq Tryz.func411 (by kernel_rfl) H
theorem w412 {a b h R} (H:QcI 4 404 a b h R):FnS prog 412 #[a,b] h R:=wq Tryz.func412 (by kernel_rfl) H
theorem w413 {a b h R} (H:QcI 2 415 a b h R):FnS prog 413 #[a,b] h R:=wq Tryz.func413 (by kernel_rfl) H
end Go.Proofs
namespace Go.Proofs
open Go Go.Vc
open Tryz (prog)
section
variable {H:Qf} {p:Nat} {S:BS} {F:Cut} {B V T:Nat} {L:List UInt8} {len head:Nat} {vtv vtsv:Value} {e eB:TypeId}
 (hr:Raw H p S F B V T L len head vtv vtsv e eB)
include hr
theorem YI:QaS H ⟨p,0,none⟩=some (bsl B 0 len L.length):=(Qi hr.hp).trans rfl
theorem ld_min:QaS H ⟨p,1,none⟩=some (.int .i64 S.min):=(Qi hr.hp).trans rfl
theorem Qix:QaS H ⟨p,2,none⟩=some vtv:=(Qi hr.hp).trans rfl
theorem ld_oe:QaS H ⟨p,3,none⟩=some (.int .u32 S.oe):=(Qi hr.hp).trans rfl
theorem ld_vts:QaS H ⟨p,4,none⟩=some vtsv:=(Qi hr.hp).trans rfl
theorem YN:QaS H ⟨p,5,none⟩=some (.int .u32 head):=(Qi hr.hp).trans rfl
theorem ld_nested:QaS H ⟨p,6,none⟩=some (.bool S.nested):=(Qi hr.hp).trans rfl
theorem ld_fin:QaS H ⟨p,7,none⟩=some (.bool S.fin):=(Qi hr.hp).trans rfl
theorem st_min {kp:Qf->Prop} {m:Nat}:StK H 1 (.pointer (some ⟨p,1,none⟩)) (.int .i64 (m:Int)) kp=kp (setB H p (.cells (QfB B len L.length {S with min:=m} vtv vtsv head) e (0,0))):=QaA hr.hp (by decide:1<9) (by simp) rfl
theorem st_oe {kp:Qf->Prop} {m:Nat}:StK H 1 (.pointer (some ⟨p,3,none⟩)) (.int .u32 (m:Int)) kp=kp (setB H p (.cells (QfB B len L.length {S with oe:=m} vtv vtsv head) e (0,0))):=QaA hr.hp (by decide:3<9) (by simp) rfl
theorem QaX {kp:Qf->Prop} {m:Nat}:StK H 1 (.pointer (some ⟨p,5,none⟩)) (.int .u32 (m:Int)) kp=kp (setB H p (.cells (QfB B len L.length S vtv vtsv m) e (0,0))):=QaA hr.hp (by decide:5<9) (by simp) rfl
theorem st_nested {kp:Qf->Prop} {m:Bool}:StK H 1 (.pointer (some ⟨p,6,none⟩)) (.bool m) kp=kp (setB H p (.cells (QfB B len L.length {S with nested:=m} vtv vtsv head) e (0,0))):=QaA hr.hp (by decide:6<9) (by simp) rfl
theorem st_fin {kp:Qf->Prop} {m:Bool}:StK H 1 (.pointer (some ⟨p,7,none⟩)) (.bool m) kp=kp (setB H p (.cells (QfB B len L.length {S with fin:=m} vtv vtsv head) e (0,0))):=QaA hr.hp (by decide:7<9) (by simp) rfl
theorem ZH {k:Value->Prop} {κ:IntKind} {m:Nat} (hm:m<len):QfG 1 (bsl B 0 len L.length) (some (.int κ (m:Int))) none k=k (bsl B m (len-m) (L.length-m)):=by
 have:=hr.hlen
 rw[bsl,SlcK_lo (by omega) (by omega) hr.hlen]
 have:¬L.length=m:=by omega
 simp[this]
end
section
variable {H:Qf} {p:Nat} {S:BS} {F:Cut} {r:Nat} (hB:Qd H p S F r) {R:Kn}
include hB
theorem Yj (hR:R (.int .u32 (S.buf.length:Nat)) H):FnS prog 278 #[.pointer (some ⟨p,0,none⟩)] H R:=by
 obtain ⟨hd,h1,⟨B,V,T,L,len,vtv,vtsv,e,eB,hr,h2,h3⟩⟩:=hB
 have:=hr.lt
 apply w278
 unfold s278
 simp only[↓Qu,↓Qo,↓Qj (YI hr),↓Qj (YN hr),↓Qbw,↓Q1,↓Yk]
 rw[QT (n:=(len:Int)) (by omega) (by omega),QT (by omega) (by omega)]
 rw[show ((len:Int)-(hd:Int))=((S.buf.length:Nat):Int) by omega]
 exact hR
theorem YV (hn:S.nested=false) (hR:R (.tuple #[]) H):FnS prog 73 #[.pointer (some ⟨p,0,none⟩)] H R:=by
 obtain ⟨hd,h1,⟨B,V,T,L,len,vtv,vtsv,e,eB,hr,h2,h3⟩⟩:=hB
 apply w73
 unfold s73
 simp only[↓Qu,↓Qo,↓Qj (ld_nested hr),hn]
 exact hR
theorem Qav (hn:S.nested=true) (hR:R (.tuple #[]) H):FnS prog 285 #[.pointer (some ⟨p,0,none⟩)] H R:=by
 obtain ⟨hd,h1,⟨B,V,T,L,len,vtv,vtsv,e,eB,hr,h2,h3⟩⟩:=hB
 apply w285
 unfold tp169
 simp only[↓Qu,↓Qo,↓Qj (ld_nested hr),hn,↓Yl]
 exact hR
theorem Qez (hn:S.fin=true) (hR:R (.tuple #[]) H):FnS prog 169 #[.pointer (some ⟨p,0,none⟩)] H R:=by
 obtain ⟨hd,h1,⟨B,V,T,L,len,vtv,vtsv,e,eB,hr,h2,h3⟩⟩:=hB
 apply w169
 unfold tp169
 simp only[↓Qu,↓Qo,↓Qj (ld_fin hr),hn,↓Yl]
 exact hR
theorem Qc3 {kp:Qf->Prop} {m:Bool} (hk:∀H',Qd H' p {S with nested:=m} F r->kp H'):StK H 1 (.pointer (some ⟨p,6,none⟩)) (.bool m) kp:=by
 obtain ⟨hd,h1,⟨B,V,T,L,len,vtv,vtsv,e,eB,hr,h2,h3⟩⟩:=hB
 rw[st_nested hr]
 exact hk _ ⟨hd,h1,⟨B,V,T,L,len,vtv,vtsv,e,eB,Raw.setp hr rfl rfl,h2,h3⟩⟩
theorem st_fin_at {kp:Qf->Prop} {m:Bool} (hk:∀H',Qd H' p {S with fin:=m} F r->kp H'):StK H 1 (.pointer (some ⟨p,7,none⟩)) (.bool m) kp:=by
 obtain ⟨hd,h1,⟨B,V,T,L,len,vtv,vtsv,e,eB,hr,h2,h3⟩⟩:=hB
 rw[st_fin hr]
 exact hk _ ⟨hd,h1,⟨B,V,T,L,len,vtv,vtsv,e,eB,Raw.setp hr rfl rfl,h2,h3⟩⟩
theorem st_oe_at {kp:Qf->Prop} {m:Nat} (hk:∀H',Qd H' p {S with oe:=m} F r->kp H'):StK H 1 (.pointer (some ⟨p,3,none⟩)) (.int .u32 (m:Int)) kp:=by
 obtain ⟨hd,h1,⟨B,V,T,L,len,vtv,vtsv,e,eB,hr,h2,h3⟩⟩:=hB
 rw[st_oe hr]
 exact hk _ ⟨hd,h1,⟨B,V,T,L,len,vtv,vtsv,e,eB,Raw.setp hr rfl rfl,h2,h3⟩⟩
theorem Qae {b:UInt8} (hk:1<=r) (hR:∀H',Qd H' p (place [b] S) F (r-1)->R (.tuple #[]) H'):FnS prog 280 #[.pointer (some ⟨p,0,none⟩),.int .u8 (b.toNat:Int)] H R:=by
 obtain ⟨hd,h1,⟨B,V,T,L,len,vtv,vtsv,e,eB,hr,h2,h3⟩⟩:=hB
 have:=hr.lt;have:=hr.hlen
 have e1:IntKind.u32.wrap ((hd:Int)-1)=((hd-1:Nat):Int):=by rw[QT (by omega) (by omega)];omega
 apply w280
 unfold QcI
 simp only[↓Qu,↓Qo,↓Qj (YN hr),↓Yk,e1,↓QaX hr]
 have hr2:=Raw.setp (S':=S) (head':=hd-1) hr rfl rfl
 simp only[↓Qj (YI hr2),↓Qj (YN hr2),↓ZH hr2 (m:=hd-1) (by omega)]
 refine QiT hr2.hB (by omega) (by omega) ?_
 refine hR _ ⟨hd-1,by omega,⟨B,V,T,_,len,vtv,vtsv,e,eB,Raw.wr hr2 (Ye _ _ _) rfl rfl rfl,?_,?_⟩⟩
 ·have hl:([b]:List UInt8).length=1:=by simp[Qc]
  simp only[place,List.length_append,hl];omega
 ·have hl:([b]:List UInt8).length=1:=by simp[Qc]
  have:=Qas (xs:=[b]) hr.hlen h2 h3 (by omega)
  rw[hl]at this
  exact this
theorem QgV {b:Bool} (hk:1<=r) (hR:∀H',Qd H' p (place [if b then 1 else 0] S) F (r-1)->R (.tuple #[]) H'):FnS prog 291 #[.pointer (some ⟨p,0,none⟩),.bool b] H R:=by
 obtain ⟨hd,h1,⟨B,V,T,L,len,vtv,vtsv,e,eB,hr,h2,h3⟩⟩:=hB
 have:=hr.lt;have:=hr.hlen
 have e1:IntKind.u32.wrap ((hd:Int)-1)=((hd-1:Nat):Int):=by rw[QT (by omega) (by omega)];omega
 apply w291
 unfold QcI
 simp only[↓Qu,↓Qo,↓Qj (YN hr),↓Yk,e1,↓QaX hr]
 have hr2:=Raw.setp (S':=S) (head':=hd-1) hr rfl rfl
 simp only[↓Qj (YI hr2),↓Qj (YN hr2),↓ZH hr2 (m:=hd-1) (by omega)]
 refine QiN hr2.hB (by omega) (by omega) ?_
 refine hR _ ⟨hd-1,by omega,⟨B,V,T,_,len,vtv,vtsv,e,eB,Raw.wr hr2 (Ye _ _ _) rfl rfl rfl,?_,?_⟩⟩
 ·have hl:([if b then 1 else 0]:List UInt8).length=1:=by simp[Qc]
  simp only[place,List.length_append,hl];omega
 ·have hl:([if b then 1 else 0]:List UInt8).length=1:=by simp[Qc]
  have:=Qas (xs:=[if b then 1 else 0]) hr.hlen h2 h3 (by omega)
  rw[hl]at this
  exact this
theorem QgP {x:Int} (hk:1<=r) (hR:∀H',Qd H' p (place (leB x 1) S) F (r-1)->R (.tuple #[]) H'):FnS prog 394 #[.pointer (some ⟨p,0,none⟩),.int .i8 x] H R:=by
 obtain ⟨hd,h1,⟨B,V,T,L,len,vtv,vtsv,e,eB,hr,h2,h3⟩⟩:=hB
 have:=hr.lt;have:=hr.hlen
 have e1:IntKind.u32.wrap ((hd:Int)-1)=((hd-1:Nat):Int):=by rw[QT (by omega) (by omega)];omega
 apply w394
 unfold QcI
 simp only[↓Qu,↓Qo,↓Qj (YN hr),↓Yk,e1,↓QaX hr]
 have hr2:=Raw.setp (S':=S) (head':=hd-1) hr rfl rfl
 simp only[↓Qj (YI hr2),↓Qj (YN hr2),↓ZH hr2 (m:=hd-1) (by omega)]
 refine Qj1 hr2.hB (by omega) (by omega) ?_
 refine hR _ ⟨hd-1,by omega,⟨B,V,T,_,len,vtv,vtsv,e,eB,Raw.wr hr2 (Ye _ _ _) rfl rfl rfl,?_,?_⟩⟩
 ·have hl:((leB x 1):List UInt8).length=1:=by simp[Qc]
  simp only[place,List.length_append,hl];omega
 ·have hl:((leB x 1):List UInt8).length=1:=by simp[Qc]
  have:=Qas (xs:=(leB x 1)) hr.hlen h2 h3 (by omega)
  rw[hl]at this
  exact this
theorem Qgg {x:Int} (hk:2<=r) (hR:∀H',Qd H' p (place (leB x 2) S) F (r-2)->R (.tuple #[]) H'):FnS prog 395 #[.pointer (some ⟨p,0,none⟩),.int .i16 x] H R:=by
 obtain ⟨hd,h1,⟨B,V,T,L,len,vtv,vtsv,e,eB,hr,h2,h3⟩⟩:=hB
 have:=hr.lt;have:=hr.hlen
 have e1:IntKind.u32.wrap ((hd:Int)-2)=((hd-2:Nat):Int):=by rw[QT (by omega) (by omega)];omega
 apply w395
 unfold QcI
 simp only[↓Qu,↓Qo,↓Qj (YN hr),↓Yk,e1,↓QaX hr]
 have hr2:=Raw.setp (S':=S) (head':=hd-2) hr rfl rfl
 simp only[↓Qj (YI hr2),↓Qj (YN hr2),↓ZH hr2 (m:=hd-2) (by omega)]
 refine QhU hr2.hB (by omega) (by omega) ?_
 refine hR _ ⟨hd-2,by omega,⟨B,V,T,_,len,vtv,vtsv,e,eB,Raw.wr hr2 (Ye _ _ _) rfl rfl rfl,?_,?_⟩⟩
 ·have hl:((leB x 2):List UInt8).length=2:=by simp[Qc]
  simp only[place,List.length_append,hl];omega
 ·have hl:((leB x 2):List UInt8).length=2:=by simp[Qc]
  have:=Qas (xs:=(leB x 2)) hr.hlen h2 h3 (by omega)
  rw[hl]at this
  exact this
theorem QfQ {x:Int} (hk:2<=r) (hR:∀H',Qd H' p (place (leB x 2) S) F (r-2)->R (.tuple #[]) H'):FnS prog 411 #[.pointer (some ⟨p,0,none⟩),.int .u16 x] H R:=by
 obtain ⟨hd,h1,⟨B,V,T,L,len,vtv,vtsv,e,eB,hr,h2,h3⟩⟩:=hB
 have:=hr.lt;have:=hr.hlen
 have e1:IntKind.u32.wrap ((hd:Int)-2)=((hd-2:Nat):Int):=by rw[QT (by omega) (by omega)];omega
 apply w411
 unfold QcI
 simp only[↓Qu,↓Qo,↓Qj (YN hr),↓Yk,e1,↓QaX hr]
 have hr2:=Raw.setp (S':=S) (head':=hd-2) hr rfl rfl
 simp only[↓Qj (YI hr2),↓Qj (YN hr2),↓ZH hr2 (m:=hd-2) (by omega)]
 refine Qh0 hr2.hB (by omega) (by omega) ?_
 refine hR _ ⟨hd-2,by omega,⟨B,V,T,_,len,vtv,vtsv,e,eB,Raw.wr hr2 (Ye _ _ _) rfl rfl rfl,?_,?_⟩⟩
 ·have hl:((leB x 2):List UInt8).length=2:=by simp[Qc]
  simp only[place,List.length_append,hl];omega
 ·have hl:((leB x 2):List UInt8).length=2:=by simp[Qc]
  have:=Qas (xs:=(leB x 2)) hr.hlen h2 h3 (by omega)
  rw[hl]at this
  exact this
theorem Qf2 {x:Int} (hk:2<=r) (hR:∀H',Qd H' p (place (leB x 2) S) F (r-2)->R (.tuple #[]) H'):FnS prog 413 #[.pointer (some ⟨p,0,none⟩),.int .u16 x] H R:=by
 obtain ⟨hd,h1,⟨B,V,T,L,len,vtv,vtsv,e,eB,hr,h2,h3⟩⟩:=hB
 have:=hr.lt;have:=hr.hlen
 have e1:IntKind.u32.wrap ((hd:Int)-2)=((hd-2:Nat):Int):=by rw[QT (by omega) (by omega)];omega
 apply w413
 unfold QcI
 simp only[↓Qu,↓Qo,↓Qj (YN hr),↓Yk,e1,↓QaX hr]
 have hr2:=Raw.setp (S':=S) (head':=hd-2) hr rfl rfl
 simp only[↓Qj (YI hr2),↓Qj (YN hr2),↓ZH hr2 (m:=hd-2) (by omega)]
 refine Qj9 hr2.hB (by omega) (by omega) ?_
 refine hR _ ⟨hd-2,by omega,⟨B,V,T,_,len,vtv,vtsv,e,eB,Raw.wr hr2 (Ye _ _ _) rfl rfl rfl,?_,?_⟩⟩
 ·have hl:((leB x 2):List UInt8).length=2:=by simp[Qc]
  simp only[place,List.length_append,hl];omega
 ·have hl:((leB x 2):List UInt8).length=2:=by simp[Qc]
  have:=Qas (xs:=(leB x 2)) hr.hlen h2 h3 (by omega)
  rw[hl]at this
  exact this
theorem Qg8 {x:Int} (hk:4<=r) (hR:∀H',Qd H' p (place (leB x 4) S) F (r-4)->R (.tuple #[]) H'):FnS prog 399 #[.pointer (some ⟨p,0,none⟩),.int .i32 x] H R:=by
 obtain ⟨hd,h1,⟨B,V,T,L,len,vtv,vtsv,e,eB,hr,h2,h3⟩⟩:=hB
 have:=hr.lt;have:=hr.hlen
 have e1:IntKind.u32.wrap ((hd:Int)-4)=((hd-4:Nat):Int):=by rw[QT (by omega) (by omega)];omega
 apply w399
 unfold QcI
 simp only[↓Qu,↓Qo,↓Qj (YN hr),↓Yk,e1,↓QaX hr]
 have hr2:=Raw.setp (S':=S) (head':=hd-4) hr rfl rfl
 simp only[↓Qj (YI hr2),↓Qj (YN hr2),↓ZH hr2 (m:=hd-4) (by omega)]
 refine Qfh hr2.hB (by omega) (by omega) ?_
 refine hR _ ⟨hd-4,by omega,⟨B,V,T,_,len,vtv,vtsv,e,eB,Raw.wr hr2 (Ye _ _ _) rfl rfl rfl,?_,?_⟩⟩
 ·have hl:((leB x 4):List UInt8).length=4:=by simp[Qc]
  simp only[place,List.length_append,hl];omega
 ·have hl:((leB x 4):List UInt8).length=4:=by simp[Qc]
  have:=Qas (xs:=(leB x 4)) hr.hlen h2 h3 (by omega)
  rw[hl]at this
  exact this
theorem QfI {x:Int} (hk:4<=r) (hR:∀H',Qd H' p (place (leB x 4) S) F (r-4)->R (.tuple #[]) H'):FnS prog 397 #[.pointer (some ⟨p,0,none⟩),.int .u32 x] H R:=by
 obtain ⟨hd,h1,⟨B,V,T,L,len,vtv,vtsv,e,eB,hr,h2,h3⟩⟩:=hB
 have:=hr.lt;have:=hr.hlen
 have e1:IntKind.u32.wrap ((hd:Int)-4)=((hd-4:Nat):Int):=by rw[QT (by omega) (by omega)];omega
 apply w397
 unfold QcI
 simp only[↓Qu,↓Qo,↓Qj (YN hr),↓Yk,e1,↓QaX hr]
 have hr2:=Raw.setp (S':=S) (head':=hd-4) hr rfl rfl
 simp only[↓Qj (YI hr2),↓Qj (YN hr2),↓ZH hr2 (m:=hd-4) (by omega)]
 refine Qdb hr2.hB (by omega) (by omega) ?_
 refine hR _ ⟨hd-4,by omega,⟨B,V,T,_,len,vtv,vtsv,e,eB,Raw.wr hr2 (Ye _ _ _) rfl rfl rfl,?_,?_⟩⟩
 ·have hl:((leB x 4):List UInt8).length=4:=by simp[Qc]
  simp only[place,List.length_append,hl];omega
 ·have hl:((leB x 4):List UInt8).length=4:=by simp[Qc]
  have:=Qas (xs:=(leB x 4)) hr.hlen h2 h3 (by omega)
  rw[hl]at this
  exact this
theorem Qc0 {x:Int} (hk:4<=r) (hR:∀H',Qd H' p (place (leB x 4) S) F (r-4)->R (.tuple #[]) H'):FnS prog 279 #[.pointer (some ⟨p,0,none⟩),.int .u32 x] H R:=by
 obtain ⟨hd,h1,⟨B,V,T,L,len,vtv,vtsv,e,eB,hr,h2,h3⟩⟩:=hB
 have:=hr.lt;have:=hr.hlen
 have e1:IntKind.u32.wrap ((hd:Int)-4)=((hd-4:Nat):Int):=by rw[QT (by omega) (by omega)];omega
 apply w279
 unfold QcI
 simp only[↓Qu,↓Qo,↓Qj (YN hr),↓Yk,e1,↓QaX hr]
 have hr2:=Raw.setp (S':=S) (head':=hd-4) hr rfl rfl
 simp only[↓Qj (YI hr2),↓Qj (YN hr2),↓ZH hr2 (m:=hd-4) (by omega)]
 refine Qjb hr2.hB (by omega) (by omega) ?_
 refine hR _ ⟨hd-4,by omega,⟨B,V,T,_,len,vtv,vtsv,e,eB,Raw.wr hr2 (Ye _ _ _) rfl rfl rfl,?_,?_⟩⟩
 ·have hl:((leB x 4):List UInt8).length=4:=by simp[Qc]
  simp only[place,List.length_append,hl];omega
 ·have hl:((leB x 4):List UInt8).length=4:=by simp[Qc]
  have:=Qas (xs:=(leB x 4)) hr.hlen h2 h3 (by omega)
  rw[hl]at this
  exact this
theorem QeV {x:Int} (hk:4<=r) (hR:∀H',Qd H' p (place (leB x 4) S) F (r-4)->R (.tuple #[]) H'):FnS prog 412 #[.pointer (some ⟨p,0,none⟩),.int .i32 x] H R:=by
 obtain ⟨hd,h1,⟨B,V,T,L,len,vtv,vtsv,e,eB,hr,h2,h3⟩⟩:=hB
 have:=hr.lt;have:=hr.hlen
 have e1:IntKind.u32.wrap ((hd:Int)-4)=((hd-4:Nat):Int):=by rw[QT (by omega) (by omega)];omega
 apply w412
 unfold QcI
 simp only[↓Qu,↓Qo,↓Qj (YN hr),↓Yk,e1,↓QaX hr]
 have hr2:=Raw.setp (S':=S) (head':=hd-4) hr rfl rfl
 simp only[↓Qj (YI hr2),↓Qj (YN hr2),↓ZH hr2 (m:=hd-4) (by omega)]
 refine Qds hr2.hB (by omega) (by omega) ?_
 refine hR _ ⟨hd-4,by omega,⟨B,V,T,_,len,vtv,vtsv,e,eB,Raw.wr hr2 (Ye _ _ _) rfl rfl rfl,?_,?_⟩⟩
 ·have hl:((leB x 4):List UInt8).length=4:=by simp[Qc]
  simp only[place,List.length_append,hl];omega
 ·have hl:((leB x 4):List UInt8).length=4:=by simp[Qc]
  have:=Qas (xs:=(leB x 4)) hr.hlen h2 h3 (by omega)
  rw[hl]at this
  exact this
theorem Qft {x:Nat} (hk:4<=r) (hR:∀H',Qd H' p (place (leB x 4) S) F (r-4)->R (.tuple #[]) H'):FnS prog 398 #[.pointer (some ⟨p,0,none⟩),.float .f32 x] H R:=by
 obtain ⟨hd,h1,⟨B,V,T,L,len,vtv,vtsv,e,eB,hr,h2,h3⟩⟩:=hB
 have:=hr.lt;have:=hr.hlen
 have e1:IntKind.u32.wrap ((hd:Int)-4)=((hd-4:Nat):Int):=by rw[QT (by omega) (by omega)];omega
 apply w398
 unfold QcI
 simp only[↓Qu,↓Qo,↓Qj (YN hr),↓Yk,e1,↓QaX hr]
 have hr2:=Raw.setp (S':=S) (head':=hd-4) hr rfl rfl
 simp only[↓Qj (YI hr2),↓Qj (YN hr2),↓ZH hr2 (m:=hd-4) (by omega)]
 refine Qgc hr2.hB (by omega) (by omega) ?_
 refine hR _ ⟨hd-4,by omega,⟨B,V,T,_,len,vtv,vtsv,e,eB,Raw.wr hr2 (Ye _ _ _) rfl rfl rfl,?_,?_⟩⟩
 ·have hl:((leB x 4):List UInt8).length=4:=by simp[Qc]
  simp only[place,List.length_append,hl];omega
 ·have hl:((leB x 4):List UInt8).length=4:=by simp[Qc]
  have:=Qas (xs:=(leB x 4)) hr.hlen h2 h3 (by omega)
  rw[hl]at this
  exact this
theorem Qg9 {x:Int} (hk:8<=r) (hR:∀H',Qd H' p (place (leB x 8) S) F (r-8)->R (.tuple #[]) H'):FnS prog 293 #[.pointer (some ⟨p,0,none⟩),.int .i64 x] H R:=by
 obtain ⟨hd,h1,⟨B,V,T,L,len,vtv,vtsv,e,eB,hr,h2,h3⟩⟩:=hB
 have:=hr.lt;have:=hr.hlen
 have e1:IntKind.u32.wrap ((hd:Int)-8)=((hd-8:Nat):Int):=by rw[QT (by omega) (by omega)];omega
 apply w293
 unfold QcI
 simp only[↓Qu,↓Qo,↓Qj (YN hr),↓Yk,e1,↓QaX hr]
 have hr2:=Raw.setp (S':=S) (head':=hd-8) hr rfl rfl
 simp only[↓Qj (YI hr2),↓Qj (YN hr2),↓ZH hr2 (m:=hd-8) (by omega)]
 refine QhS hr2.hB (by omega) (by omega) ?_
 refine hR _ ⟨hd-8,by omega,⟨B,V,T,_,len,vtv,vtsv,e,eB,Raw.wr hr2 (Ye _ _ _) rfl rfl rfl,?_,?_⟩⟩
 ·have hl:((leB x 8):List UInt8).length=8:=by simp[Qc]
  simp only[place,List.length_append,hl];omega
 ·have hl:((leB x 8):List UInt8).length=8:=by simp[Qc]
  have:=Qas (xs:=(leB x 8)) hr.hlen h2 h3 (by omega)
  rw[hl]at this
  exact this
theorem QfJ {x:Int} (hk:8<=r) (hR:∀H',Qd H' p (place (leB x 8) S) F (r-8)->R (.tuple #[]) H'):FnS prog 300 #[.pointer (some ⟨p,0,none⟩),.int .u64 x] H R:=by
 obtain ⟨hd,h1,⟨B,V,T,L,len,vtv,vtsv,e,eB,hr,h2,h3⟩⟩:=hB
 have:=hr.lt;have:=hr.hlen
 have e1:IntKind.u32.wrap ((hd:Int)-8)=((hd-8:Nat):Int):=by rw[QT (by omega) (by omega)];omega
 apply w300
 unfold QcI
 simp only[↓Qu,↓Qo,↓Qj (YN hr),↓Yk,e1,↓QaX hr]
 have hr2:=Raw.setp (S':=S) (head':=hd-8) hr rfl rfl
 simp only[↓Qj (YI hr2),↓Qj (YN hr2),↓ZH hr2 (m:=hd-8) (by omega)]
 refine QeB hr2.hB (by omega) (by omega) ?_
 refine hR _ ⟨hd-8,by omega,⟨B,V,T,_,len,vtv,vtsv,e,eB,Raw.wr hr2 (Ye _ _ _) rfl rfl rfl,?_,?_⟩⟩
 ·have hl:((leB x 8):List UInt8).length=8:=by simp[Qc]
  simp only[place,List.length_append,hl];omega
 ·have hl:((leB x 8):List UInt8).length=8:=by simp[Qc]
  have:=Qas (xs:=(leB x 8)) hr.hlen h2 h3 (by omega)
  rw[hl]at this
  exact this
theorem Qfl {x:Nat} (hk:8<=r) (hR:∀H',Qd H' p (place (leB x 8) S) F (r-8)->R (.tuple #[]) H'):FnS prog 294 #[.pointer (some ⟨p,0,none⟩),.float .f64 x] H R:=by
 obtain ⟨hd,h1,⟨B,V,T,L,len,vtv,vtsv,e,eB,hr,h2,h3⟩⟩:=hB
 have:=hr.lt;have:=hr.hlen
 have e1:IntKind.u32.wrap ((hd:Int)-8)=((hd-8:Nat):Int):=by rw[QT (by omega) (by omega)];omega
 apply w294
 unfold QcI
 simp only[↓Qu,↓Qo,↓Qj (YN hr),↓Yk,e1,↓QaX hr]
 have hr2:=Raw.setp (S':=S) (head':=hd-8) hr rfl rfl
 simp only[↓Qj (YI hr2),↓Qj (YN hr2),↓ZH hr2 (m:=hd-8) (by omega)]
 refine go_WriteFloat64 hr2.hB (by omega) (by omega) ?_
 refine hR _ ⟨hd-8,by omega,⟨B,V,T,_,len,vtv,vtsv,e,eB,Raw.wr hr2 (Ye _ _ _) rfl rfl rfl,?_,?_⟩⟩
 ·have hl:((leB x 8):List UInt8).length=8:=by simp[Qc]
  simp only[place,List.length_append,hl];omega
 ·have hl:((leB x 8):List UInt8).length=8:=by simp[Qc]
  have:=Qas (xs:=(leB x 8)) hr.hlen h2 h3 (by omega)
  rw[hl]at this
  exact this
end
end Go.Proofs
namespace Go.Proofs
open Go Go.Vc
open Tryz (prog)
section
variable {H:Qf} {p:Nat} {S:BS} {F:Cut} {r:Nat} (hB:Qd H p S F r) {R:Kn}
include hB
theorem QaK {n:Nat} {x:Int} (hx:x=(n:Nat)) (hn:n<=r) (hR:∀H',Qd H' p (place (List.replicate n 0) S) F (r-n)->R (.tuple #[]) H'):
  FnS prog 277 #[.pointer (some ⟨p,0,none⟩),.int .i64 x] H R:=by
 subst hx
 have hlt:=hB.lt
 apply w277
 unfold s277
 refine ⟨fun m vs h=>∃i:Nat,vs=[.int .i64 (i:Int)]/\i<=n/\m=n-i/\Qd h p (place (List.replicate i 0) S) F (r-i),⟨n,0,rfl,by omega,by omega,?_⟩,fun m=>?_⟩
 ·exact hB
 ·rintro x4 h1 ⟨i,hx,hi,rfl,hb⟩
  cases hx
  rw[Y9]
  have hl2:=hb.lt
  simp only[place,List.length_append,List.length_replicate]at hl2
  by_cases hlt:i<n
  ·rw[Yd (by omega)]
   refine Qae (b:=0) hb (by omega) ?_
   intro h2 hb2
   rw[QE,wrap_i64 (by omega) (by omega)]
   refine ⟨n-(i+1),by omega,i+1,rfl,by omega,rfl,?_⟩
   have e1:place [0] (place (List.replicate i 0) S)=place (List.replicate (i+1) 0) S:=by
    simp[place,List.replicate_succ]
   rw[e1]at hb2
   exact hb2.room (by omega)
  ·rw[QL (by omega)]
   have:i=n:=by omega
   subst this
   exact hR _ hb
end
section
variable {H:Qf} {p:Nat} {S:BS} {F:Cut} {B V T:Nat} {L:List UInt8} {len head:Nat} {vtv vtsv:Value} {e eB:TypeId}
 (hr:Raw H p S F B V T L len head vtv vtsv e eB) {R:Kn}
include hr
def grown (n:Nat):Nat:=if n=0 then 1 else 2*n
omit hr in
theorem grow_copy {len:Nat} {L:List UInt8} (h:grown len<=L.length) (h0:len≠0):((Qab L len (L.take len)).take (grown len)).drop len=L.take len:=by
 have hg:grown len=2*len:=by unfold grown;rw[if_neg h0]
 have hl:(L.take len).length=len:=by simp;omega
 rw[Qd0 _ _ _ (by omega),hg,hl]
 rw[List.take_append]
 have h2:(L.take len++L.take len).length=2*len:=by simp;omega
 rw[h2,Nat.sub_self,List.take_zero,List.append_nil,List.take_of_length_le (by omega),List.drop_append,hl,Nat.sub_self,List.drop_zero,List.drop_of_length_le (by omega),List.nil_append]
set_option maxHeartbeats 1000000 in
theorem go_Builder_grow (hlt:len<536870912)
  (hR:∀H' B' L' eB',Raw H' p S F B' V T L' (grown len) head vtv vtsv e eB'->(len=0\/(L'.take (grown len)).drop len=L.take len)->R (.tuple #[]) H'):
  FnS prog 276 #[.pointer (some ⟨p,0,none⟩)] H R:=by
 have hlL:=hr.hlen
 have hg1:1<=grown len:=by unfold grown;split<;>omega
 have hg2:grown len<1073741824:=by unfold grown;split<;>omega
 have hg3:len<grown len:=by unfold grown;split<;>omega
 have hq:(grown len:Int).tdiv 2=(len:Int):=by
  unfold grown;split
  ·rename_i h;subst h;rfl
  ·rw[show ((2*len:Nat):Int)=(len:Int)*2 by omega];exact Int.mul_tdiv_cancel _ (by decide)
 apply w276
 unfold s276
 refine QB (fun _ h=>h=H) ?_ ?_
 ·simp only[↓Qu,↓Qo,↓Qj (YI hr),↓Qbw,↓QgC,high_and (show len<1073741824 by omega),↓QJ]
  rw[QL (by decide)]
  trivial
 ·rintro h1 rfl
  simp only[↓Qu,↓Qo,↓Qj (YI hr),↓Qbw,↓Qbd]
  rw[wrap_i64 (n:=(len:Int)*2) (by omega) (by omega)]
  refine QB (fun vs h=>vs=[.int .i64 (grown len:Nat)]/\h=h1) ?_ ?_
  ·rw[Yo]
   apply ZI
   ·intro h0
    have h0':len=0:=by omega
    subst h0'
    exact ⟨rfl,rfl⟩
   ·intro h0
    refine ⟨?_,rfl⟩
    unfold grown
    rw[if_neg (by omega),show ((2*len:Nat):Int)=(len:Int)*2 by omega]
  ·rintro x2 h2 ⟨hx,rfl⟩
   cases hx
   refine QB (fun _ h=>∃B' L' eB',Raw h p S F B' V T L' (grown len) head vtv vtsv e eB'/\L'.take len=L.take len) ?_ ?_
   ·simp only[↓Qu,↓Qo,↓Qj (YI hr),↓CapK_sl,↓Qgu]
    apply ZI
    ·intro hc
     rw[bsl,SlcK_hi (by omega) (by omega),Int.toNat_natCast]
     rw[QaA hr.hp (by decide:0<9) (by simp) rfl]
     refine ⟨B,L,eB,?_,rfl⟩
     have hset:=Raw.setp (S':=S) (head':=head) hr rfl rfl
     refine ⟨QU hr.hp,?_,?_,?_,hr.pB,hr.pT,hr.BT,?_,by omega,hg2⟩
     ·rw[Qw (Ne.symm hr.pB)];exact hr.hB
     ·rcases hr.hV with g|⟨g,g2,g3,g4⟩
      ·exact Or.inl g
      ·exact Or.inr ⟨g.mono (Qw g2),g2,g3,g4⟩
     ·exact hr.hT.mono (Qw (Ne.symm hr.pT))
     ·intro b o hb
      have:=hr.hF b o hb
      exact ⟨by rw[Qw this.2.1];exact this.1,this.2⟩
    ·intro hc
     simp only[↓Qbw,↓Yk]
     rw[wrap_i64 (n:=(grown len:Int)-(len:Int)) (by omega) (by omega),show ((grown len:Int)-(len:Int))=((grown len-len:Nat):Int) by omega]
     refine ⟨by omega,by omega,by omega,by omega,?_⟩
     simp only[Int.toNat_natCast,mk_u8 (z:=z5) rfl]
     obtain ⟨l1,l2,l3,l4⟩:=hr.V_lt
     have hr2:Raw (h2.push (.cells (u8c (List.replicate (grown len-len) 0)) 5)) p S F B V T L len head vtv vtsv e eB:=by
      refine hr.frame ?_ ?_
      ·intro b hb
       rw[Array.getElem?_push,if_neg]
       rcases hb with rfl|rfl|rfl|rfl<;>omega
      ·intro b o hb
       have:=hr.hF b o hb
       exact ⟨YK this.1,this.2⟩
     simp only[↓Qj (YI hr2)]
     refine ⟨fun hh=>by omega,fun _=>⟨by decide,by omega,(L.take len).map u8V,(List.replicate (grown len-len) (0:UInt8)).map u8V,?_,?_,?_⟩⟩
     ·show Zl _ ⟨B,0,none⟩ 0 (len*1)=_
      rw[Nat.mul_one,cellsH_u8 hr2.hB (by omega),List.drop_zero]
     ·show Zl _ ⟨h2.size,0,none⟩ 0 ((grown len-len)*1)=_
      rw[Nat.mul_one,cellsH_u8 (Qm) (by simp)]
      simp
     ·intro c hc1 hc2
      rw[zero_u8 (z:=z5) rfl,<-List.map_append,u8V_arr,u8c_append]
      have hL':(L.take len++List.replicate (grown len-len) 0++List.replicate (c-(len+(grown len-len))) (0:UInt8)).length=c:=by simp;omega
      generalize hLL:L.take len++List.replicate (grown len-len) 0++List.replicate (c-(len+(grown len-len))) (0:UInt8)=L' at hL'
      have htl:L'.take len=L.take len:=by
       rw[<-hLL,List.append_assoc,List.take_append]
       have:(L.take len).length=len:=by simp;omega
       rw[this,Nat.sub_self,List.take_zero,List.append_nil,List.take_of_length_le (by omega)]
      have s2:(h2.push (.cells (u8c (List.replicate (grown len-len) 0)) 5)).size=h2.size+1:=size_push
      generalize hH3:h2.push (.cells (u8c (List.replicate (grown len-len) 0)) 5)=H3 at hr2 s2
      have hr3:Raw (H3.push (.cells (u8c L') 5)) p S F B V T L len head vtv vtsv e eB:=by
       obtain ⟨m1,m2,m3,m4⟩:=hr2.V_lt
       refine hr2.frame ?_ ?_
       ·intro b hb
        rw[Array.getElem?_push,if_neg]
        rcases hb with rfl|rfl|rfl|rfl<;>omega
       ·intro b o hb
        have:=hr2.hF b o hb
        exact ⟨YK this.1,this.2⟩
      rw[show len+(grown len-len)=grown len by omega,QaA hr3.hp (by decide:0<9) (by simp) rfl]
      refine ⟨H3.size,L',5,?_,htl⟩
      have hset:=Raw.setp (S':=S) (head':=head) hr3 rfl rfl
      obtain ⟨m1,m2,m3,m4⟩:=hr2.V_lt
      refine ⟨?_,?_,?_,?_,by omega,hr.pT,by omega,?_,by omega,hg2⟩
      ·rw[QU hr3.hp,hL'];rfl
      ·rw[Qw (by omega),Qm]
      ·rcases hset.hV with g|⟨g,g2,g3,g4⟩
       ·exact Or.inl g
       ·refine Or.inr ⟨g.mono ?_,g2,by omega,g4⟩
        rw[Qw g2,Qw g2]
      ·refine hset.hT.mono ?_
       rw[Qw (Ne.symm hr.pT),Qw (Ne.symm hr.pT)]
      ·intro b o hb
       have:=hset.hF b o hb
       have hlt':=YQ (hr2.hF b o hb).1
       refine ⟨?_,this.2.1,by omega,this.2.2.2⟩
       rw[Qw this.2.1,<-Qw (H:=H3.push (.cells (u8c L') 5)) this.2.1]
       exact this.1
   ·rintro h7 ⟨B',L',eB',hr',htl⟩
    have hlL':=hr'.hlen
    rw[BinK_quo (by decide),hq,wrap_i64 (by omega) (by omega)]
    simp only[↓Qu,↓Qo,↓Qj (YI hr'),↓ZH hr' (m:=len) hg3]
    rw[bsl,SlcK_hi (by omega) (by omega),Int.toNat_natCast]
    have hmin:Nat.min (lenV (.slice (some ⟨B',0,none⟩) len L'.length)) (grown len-len)=len:=by
     show Nat.min len (grown len-len)=len
     apply Nat.min_eq_left
     unfold grown;split<;>omega
    refine ⟨(L'.take len).map u8V,?_,?_⟩
    ·rw[hmin]
     show Zl _ ⟨B',0,none⟩ 0 (len*1)=_
     rw[Nat.mul_one,cellsH_u8 hr'.hB (by omega),List.drop_zero]
    ·have htl2:(L'.take len).length<=len:=by simp;omega
     have hll:len+(L'.take len).length<=L'.length:=by
      by_cases h0:len=0
      ·subst h0;simp
      ·have:grown len=2*len:=by unfold grown;rw[if_neg h0]
       omega
     refine ⟨_,setN_u8 hr'.hB hll,?_⟩
     refine hR _ B' _ eB' (Raw.wr hr' (Ye _ _ _) rfl rfl rfl) ?_
     by_cases h0:len=0
     ·exact Or.inl h0
     ·right;rw[grow_copy hlL' h0,htl]
end
end Go.Proofs
namespace Go.Proofs
open Go Go.Vc
open Tryz (prog)
section
variable {H:Qf} {p:Nat} {S:BS} {F:Cut} {r:Nat} (hB:Qd H p S F r) {R:Kn}
include hB
set_option maxHeartbeats 1000000 in
theorem QW {size add k:Nat} {y:Int} (hsz:size=2^k) (hk:k<=3) (hy:y=(add:Nat)) (hlen:S.buf.length+add+16<=536870912)
  (hR:∀H',Qd H' p (prep size add S) F (Nat.max (r-padOf size (S.buf.length+add)) (size+add+1))->R (.tuple #[]) H'):
  FnS prog 74 #[.pointer (some ⟨p,0,none⟩),.int .i64 (size:Nat),.int .i64 y] H R:=by
 subst hy
 have hs1:1<=size/\size<=8:=by
  rw[hsz]
  have:k=0\/k=1\/k=2\/k=3:=by omega
  rcases this with rfl|rfl|rfl|rfl<;>decide
 apply w74
 unfold s74
 refine QB (fun _ h=>Qd h p {S with min:=Nat.max S.min size} F r) ?_ ?_
 ·obtain ⟨hd,h1,⟨B,V,T,L,len,vtv,vtsv,e,eB,hr,h2,h3⟩⟩:=hB
  simp only[↓Qu,↓Qo,↓Qj (ld_min hr),↓Qck]
  apply ZI
  ·intro hlt
   rw[st_min hr]
   have e0:Nat.max S.min size=size:=Nat.max_eq_right (by omega)
   rw[e0]
   exact ⟨hd,h1,⟨B,V,T,L,len,vtv,vtsv,e,eB,Raw.setp hr rfl rfl,h2,h3⟩⟩
  ·intro hlt
   have e0:Nat.max S.min size=S.min:=Nat.max_eq_left (by omega)
   rw[e0]
   exact ⟨hd,h1,⟨B,V,T,L,len,vtv,vtsv,e,eB,hr,h2,h3⟩⟩
 ·intro h2 hb
  have hlt:=hb.lt
  generalize hS1:{S with min:=Nat.max S.min size}=S1 at hb hlt
  have hbuf:S1.buf=S.buf:=by rw[<-hS1]
  obtain ⟨hd,h1,⟨B,V,T,L,len,vtv,vtsv,e,eB,hr,g2,g3⟩⟩:=hb
  have hl:=hr.lt
  have hpl:=Zw (size:=size) (n:=S.buf.length+add) (by omega)
  have hpi:=padOf_int (size:=size) (n:=S.buf.length+add) (by omega)
  simp only[↓Qu,↓Qo,↓Qj (YI hr),↓Qbw]
  apply w170
  unfold s170
  simp only[↓Qu,↓Qo,↓Qj (YN hr),Qa,↓Q1,↓Yk,↓QE]
  rw[wrap_i64 (n:=(hd:Int)) (by omega) (by omega),wrap_i64 (n:=(len:Int)-(hd:Int)) (by omega) (by omega),wrap_i64 (n:=(len:Int)-(hd:Int)+(add:Int)) (by omega) (by omega)]
  rw[show (len:Int)-(hd:Int)+(add:Int)=((S.buf.length+add:Nat):Int) by rw[hbuf]at g2;omega,PureK_xor,xor_all (by omega)]
  simp only[↓QE,↓Yk,↓QgC]
  rw[wrap_i64 (n:=-((S.buf.length+add:Nat):Int)-1+1) (by omega) (by omega),wrap_i64 (n:=(size:Int)-1) (by omega) (by omega),mask_and _ hsz (by omega)]
  rw[show -((S.buf.length+add:Nat):Int)-1+1=-((S.buf.length+add:Nat):Int) by omega,hpi]
  generalize hpad:padOf size (S.buf.length+add)=pad at hpl hR
  refine QB (fun _ h=>∃hd',BuilderH h p S1 F hd'/\r<=hd'/\pad+size+add<hd') ?_ ?_
  ·refine ⟨fun m vs h=>∃hd',BuilderH h p S1 F hd'/\r<=hd'/\m=1073741824-hd',⟨_,hd,⟨B,V,T,L,len,vtv,vtsv,e,eB,hr,g2,g3⟩,h1,rfl⟩,fun m=>?_⟩
   rintro h4 ⟨hd',⟨B,V,T,L,len,vtv,vtsv,e,eB,hr,g2,g3⟩,h1',rfl⟩
   have hl:=hr.lt
   simp only[↓Qu,↓Qo,↓Qj (YN hr),↓Q1,↓QE,↓Qi3]
   rw[wrap_i64 (n:=(hd':Int)) (by omega) (by omega),wrap_i64 (n:=(pad:Int)+(size:Int)) (by omega) (by omega),wrap_i64 (n:=(pad:Int)+(size:Int)+(add:Int)) (by omega) (by omega)]
   apply ZI
   ·intro hle
    simp only[↓Qj (YI hr),↓Qbw]
    refine go_Builder_grow hr (by rw[hbuf]at g2;omega) ?_
    intro H' B' L' eB' hr' hh
    have hg1:len<grown len:=by unfold grown;split<;>omega
    have hl':=hr'.lt
    simp only[↓Qu,↓Qo,↓Qj (YN hr'),↓Qj (YI hr'),↓Qbw,↓Yk,↓Q1,↓QE]
    rw[wrap_i64 (n:=(grown len:Int)-(len:Int)) (by omega) (by omega),QT (n:=(grown len:Int)-(len:Int)) (by omega) (by omega),QT (by omega) (by omega)]
    rw[show (hd':Int)+((grown len:Int)-(len:Int))=((hd'+(grown len-len):Nat):Int) by omega,QaX hr']
    refine ⟨1073741824-(hd'+(grown len-len)),by omega,hd'+(grown len-len),⟨B',V,T,L',grown len,vtv,vtsv,e,eB',Raw.setp hr' rfl rfl,by omega,?_⟩,by omega,rfl⟩
    rcases hh with h0|h0
    ·subst h0
     have hb0:S1.buf=[]:=List.eq_nil_of_length_eq_zero (by omega)
     rw[hb0]
     apply List.drop_of_length_le
     simp[grown];omega
    ·have hgl:len=0\/grown len=2*len:=by unfold grown;split<;>omega
     rcases hgl with h00|hgl
     ·subst h00
      have hb0:S1.buf=[]:=List.eq_nil_of_length_eq_zero (by omega)
      rw[hb0]
      apply List.drop_of_length_le
      simp[grown];omega
     ·rw[show hd'+(grown len-len)=len+hd' by omega,<-List.drop_drop,h0,g3]
   ·intro hle
    exact ⟨hd',⟨B,V,T,L,len,vtv,vtsv,e,eB,hr,g2,g3⟩,h1',by omega⟩
  ·rintro h7 ⟨hd',hbh,h1',h2'⟩
   have hat:Qd h7 p S1 F (Nat.max r (pad+size+add+1)):=⟨hd',Nat.max_le.2 ⟨h1',by omega⟩,hbh⟩
   have hm1:=Nat.le_max_left r (pad+size+add+1)
   have hm2:=Nat.le_max_right r (pad+size+add+1)
   have hm1:r<=Nat.max r (pad+size+add+1):=hm1
   have hm2:pad+size+add+1<=Nat.max r (pad+size+add+1):=hm2
   generalize Nat.max r (pad+size+add+1)=mx at hm1 hm2 hat
   refine QaK (n:=pad) hat rfl (Nat.le_trans (by omega) hm2) ?_
   intro H' hb'
   refine hR H' ?_
   have e1:place (List.replicate pad 0) S1=prep size add S:=by rw[<-hS1,<-hpad];rfl
   rw[e1]at hb'
   exact hb'.room (Nat.max_le.2 ⟨by omega,by omega⟩)
end
end Go.Proofs
namespace Go.Proofs
open Go Go.Vc
open Tryz (prog)
def slot (o:Nat) (S:BS):BS:={S with vt:=S.vt.set o S.buf.length}
def putOff (off:Nat) (S:BS):BS:=place (leB (((prep 4 0 S).buf.length-off+4:Nat):Int) 4) (prep 4 0 S)
def putN (k:Nat) (xs:List UInt8) (S:BS):BS:=place xs (prep k 0 S)
theorem Qad {size add:Nat} {S:BS}:(prep size add S).buf.length=padOf size (S.buf.length+add)+S.buf.length:=by
 simp[prep,place]
section
variable {H:Qf} {p:Nat} {S:BS} {F:Cut} {r:Nat} (hB:Qd H p S F r) {R:Kn}
include hB
theorem QcN {b:UInt8} (hl:S.buf.length+16<=536870912) (hR:∀H',Qd H' p (putN 1 [b] S) F (Nat.max (r-padOf 1 S.buf.length) (1+1)-1)->R (.tuple #[]) H'):FnS prog 117 #[.pointer (some ⟨p,0,none⟩),.int .u8 (b.toNat:Int)] H R:=by
 apply w117
 unfold tp97
 refine QW (size:=1) (add:=0) (k:=0) hB (by decide) (by decide) rfl (by omega) ?_
 intro H1 h1
 refine Qae h1 (Nat.le_trans (by decide) (Nat.le_max_right _ _)) ?_
 intro H2 h2
 exact hR H2 h2
theorem QfN {b:Bool} (hl:S.buf.length+16<=536870912) (hR:∀H',Qd H' p (putN 1 [if b then 1 else 0] S) F (Nat.max (r-padOf 1 S.buf.length) (1+1)-1)->R (.tuple #[]) H'):FnS prog 97 #[.pointer (some ⟨p,0,none⟩),.bool b] H R:=by
 apply w97
 unfold tp97
 refine QW (size:=1) (add:=0) (k:=0) hB (by decide) (by decide) rfl (by omega) ?_
 intro H1 h1
 refine QgV h1 (Nat.le_trans (by decide) (Nat.le_max_right _ _)) ?_
 intro H2 h2
 exact hR H2 h2
theorem QcL {x:Int} (hl:S.buf.length+16<=536870912) (hR:∀H',Qd H' p (putN 1 (leB x 1) S) F (Nat.max (r-padOf 1 S.buf.length) (1+1)-1)->R (.tuple #[]) H'):FnS prog 358 #[.pointer (some ⟨p,0,none⟩),.int .i8 x] H R:=by
 apply w358
 unfold tp97
 refine QW (size:=1) (add:=0) (k:=0) hB (by decide) (by decide) rfl (by omega) ?_
 intro H1 h1
 refine QgP h1 (Nat.le_trans (by decide) (Nat.le_max_right _ _)) ?_
 intro H2 h2
 exact hR H2 h2
theorem QcD {x:Int} (hl:S.buf.length+16<=536870912) (hR:∀H',Qd H' p (putN 2 (leB x 2) S) F (Nat.max (r-padOf 2 S.buf.length) (2+1)-2)->R (.tuple #[]) H'):FnS prog 359 #[.pointer (some ⟨p,0,none⟩),.int .i16 x] H R:=by
 apply w359
 unfold tp97
 refine QW (size:=2) (add:=0) (k:=1) hB (by decide) (by decide) rfl (by omega) ?_
 intro H1 h1
 refine Qgg h1 (Nat.le_trans (by decide) (Nat.le_max_right _ _)) ?_
 intro H2 h2
 exact hR H2 h2
theorem QeS {x:Int} (hl:S.buf.length+16<=536870912) (hR:∀H',Qd H' p (putN 2 (leB x 2) S) F (Nat.max (r-padOf 2 S.buf.length) (2+1)-2)->R (.tuple #[]) H'):FnS prog 396 #[.pointer (some ⟨p,0,none⟩),.int .u16 x] H R:=by
 apply w396
 unfold tp97
 refine QW (size:=2) (add:=0) (k:=1) hB (by decide) (by decide) rfl (by omega) ?_
 intro H1 h1
 refine QfQ h1 (Nat.le_trans (by decide) (Nat.le_max_right _ _)) ?_
 intro H2 h2
 exact hR H2 h2
theorem ZY {x:Int} (hl:S.buf.length+16<=536870912) (hR:∀H',Qd H' p (putN 2 (leB x 2) S) F (Nat.max (r-padOf 2 S.buf.length) (2+1)-2)->R (.tuple #[]) H'):FnS prog 403 #[.pointer (some ⟨p,0,none⟩),.int .u16 x] H R:=by
 apply w403
 unfold tp97
 refine QW (size:=2) (add:=0) (k:=1) hB (by decide) (by decide) rfl (by omega) ?_
 intro H1 h1
 refine Qf2 h1 (Nat.le_trans (by decide) (Nat.le_max_right _ _)) ?_
 intro H2 h2
 exact hR H2 h2
theorem Qfb {x:Int} (hl:S.buf.length+16<=536870912) (hR:∀H',Qd H' p (putN 4 (leB x 4) S) F (Nat.max (r-padOf 4 S.buf.length) (4+1)-4)->R (.tuple #[]) H'):FnS prog 368 #[.pointer (some ⟨p,0,none⟩),.int .i32 x] H R:=by
 apply w368
 unfold tp97
 refine QW (size:=4) (add:=0) (k:=2) hB (by decide) (by decide) rfl (by omega) ?_
 intro H1 h1
 refine Qg8 h1 (Nat.le_trans (by decide) (Nat.le_max_right _ _)) ?_
 intro H2 h2
 exact hR H2 h2
theorem QbZ {x:Int} (hl:S.buf.length+16<=536870912) (hR:∀H',Qd H' p (putN 4 (leB x 4) S) F (Nat.max (r-padOf 4 S.buf.length) (4+1)-4)->R (.tuple #[]) H'):FnS prog 362 #[.pointer (some ⟨p,0,none⟩),.int .u32 x] H R:=by
 apply w362
 unfold tp97
 refine QW (size:=4) (add:=0) (k:=2) hB (by decide) (by decide) rfl (by omega) ?_
 intro H1 h1
 refine QfI h1 (Nat.le_trans (by decide) (Nat.le_max_right _ _)) ?_
 intro H2 h2
 exact hR H2 h2
theorem QbJ {x:Nat} (hl:S.buf.length+16<=536870912) (hR:∀H',Qd H' p (putN 4 (leB x 4) S) F (Nat.max (r-padOf 4 S.buf.length) (4+1)-4)->R (.tuple #[]) H'):FnS prog 366 #[.pointer (some ⟨p,0,none⟩),.float .f32 x] H R:=by
 apply w366
 unfold tp97
 refine QW (size:=4) (add:=0) (k:=2) hB (by decide) (by decide) rfl (by omega) ?_
 intro H1 h1
 refine Qft h1 (Nat.le_trans (by decide) (Nat.le_max_right _ _)) ?_
 intro H2 h2
 exact hR H2 h2
theorem Qci {x:Int} (hl:S.buf.length+16<=536870912) (hR:∀H',Qd H' p (putN 8 (leB x 8) S) F (Nat.max (r-padOf 8 S.buf.length) (8+1)-8)->R (.tuple #[]) H'):FnS prog 103 #[.pointer (some ⟨p,0,none⟩),.int .i64 x] H R:=by
 apply w103
 unfold tp97
 refine QW (size:=8) (add:=0) (k:=3) hB (by decide) (by decide) rfl (by omega) ?_
 intro H1 h1
 refine Qg9 h1 (Nat.le_trans (by decide) (Nat.le_max_right _ _)) ?_
 intro H2 h2
 exact hR H2 h2
theorem Qc2 {x:Int} (hl:S.buf.length+16<=536870912) (hR:∀H',Qd H' p (putN 8 (leB x 8) S) F (Nat.max (r-padOf 8 S.buf.length) (8+1)-8)->R (.tuple #[]) H'):FnS prog 110 #[.pointer (some ⟨p,0,none⟩),.int .u64 x] H R:=by
 apply w110
 unfold tp97
 refine QW (size:=8) (add:=0) (k:=3) hB (by decide) (by decide) rfl (by omega) ?_
 intro H1 h1
 refine QfJ h1 (Nat.le_trans (by decide) (Nat.le_max_right _ _)) ?_
 intro H2 h2
 exact hR H2 h2
theorem Qer {x:Nat} (hl:S.buf.length+16<=536870912) (hR:∀H',Qd H' p (putN 8 (leB x 8) S) F (Nat.max (r-padOf 8 S.buf.length) (8+1)-8)->R (.tuple #[]) H'):FnS prog 105 #[.pointer (some ⟨p,0,none⟩),.float .f64 x] H R:=by
 apply w105
 unfold tp97
 refine QW (size:=8) (add:=0) (k:=3) hB (by decide) (by decide) rfl (by omega) ?_
 intro H1 h1
 refine Qfl h1 (Nat.le_trans (by decide) (Nat.le_max_right _ _)) ?_
 intro H2 h2
 exact hR H2 h2
theorem Qa0 {off:Nat} (hl:S.buf.length+16<=536870912) (ho:off<=S.buf.length) (hR:∀H',Qd H' p (putOff off S) F (Nat.max (r-padOf 4 S.buf.length) 5-4)->R (.tuple #[]) H'):
  FnS prog 75 #[.pointer (some ⟨p,0,none⟩),.int .u32 (off:Nat)] H R:=by
 apply w75
 unfold s75
 refine QW (size:=4) (add:=0) (k:=2) hB (by decide) (by decide) rfl (by omega) ?_
 intro H1 h1
 have hlen:S.buf.length<=(prep 4 0 S).buf.length:=by rw[Qad];omega
 have hlt:=h1.lt
 refine QB (fun _ h=>h=H1) ?_ ?_
 ·refine Yj h1 ?_
  rw[Qi3,Yl,decide_eq_true (by omega),Bool.not_true,Ql]
 ·rintro h2 rfl
  refine Yj h1 ?_
  rw[Yk,QE,QT (n:=((prep 4 0 S).buf.length:Int)-(off:Int)) (by omega) (by omega),QT (by omega) (by omega)]
  rw[show ((prep 4 0 S).buf.length:Int)-(off:Int)+4=(((prep 4 0 S).buf.length-off+4:Nat):Int) by omega]
  refine Qc0 h1 (Nat.le_trans (by decide) (Nat.le_max_right _ _)) ?_
  intro H2 h2
  exact hR H2 h2
theorem Qee (hl:S.buf.length+16<=536870912) (hR:∀H',Qd H' p (putOff 0 S) F (Nat.max (r-padOf 4 S.buf.length) 5-4)->R (.tuple #[]) H'):
  FnS prog 400 #[.pointer (some ⟨p,0,none⟩),.int .i32 0] H R:=by
 apply w400
 unfold s400
 refine QW (size:=4) (add:=0) (k:=2) hB (by decide) (by decide) rfl (by omega) ?_
 intro H1 h1
 have hlt:=h1.lt
 refine QB (fun _ h=>h=H1) ?_ ?_
 ·rw[Q1]
  refine Yj h1 ?_
  rw[Qi3,Yl,decide_eq_true (by rw[show IntKind.u32.wrap 0=0 from rfl];omega),Bool.not_true,Ql]
 ·rintro h2 rfl
  refine Yj h1 ?_
  rw[Q1,Yk,QE,Za (n:=((prep 4 0 S).buf.length:Int)) (by omega) (by omega),Za (n:=((prep 4 0 S).buf.length:Int)-0) (by omega) (by omega),Za (by omega) (by omega)]
  rw[show ((prep 4 0 S).buf.length:Int)-0+4=(((prep 4 0 S).buf.length-0+4:Nat):Int) by omega]
  refine QeV h1 (Nat.le_trans (by decide) (Nat.le_max_right _ _)) ?_
  intro H2 h2
  exact hR H2 h2
theorem YS {o:Nat} (ho:o<S.vt.length) (hR:∀H',Qd H' p (slot o S) F r->R (.tuple #[]) H'):
  FnS prog 367 #[.pointer (some ⟨p,0,none⟩),.int .i64 (o:Nat)] H R:=by
 have hB':=hB
 obtain ⟨hd,h1,⟨B,V,T,L,len,vtv,vtsv,e,eB,hr,h2,h3⟩⟩:=hB
 apply w367
 unfold s367
 simp only[↓Qu,↓Qo,↓Qj (Qix hr)]
 refine Yj hB' ?_
 rw[Qa]
 rcases hr.hV with ⟨rfl,hn,_⟩|⟨⟨W,eW,rfl,hW,hW2,hW3⟩,n1,n2,n3⟩
 ·rw[hn]at ho;simp at ho
 ·rw[QO (by omega) (by omega),Int.toNat_natCast,Nat.mul_one,Nat.zero_add,QaA hW (by rw[QhP];omega) (by simp) rfl,u32c_set]
  refine hR _ ⟨hd,h1,⟨B,V,T,L,len,.slice (some ⟨V,0,none⟩) S.vt.length W.length,vtsv,e,eB,?_,h2,h3⟩⟩
  refine ⟨by rw[Qw (Ne.symm n1)];exact hr.hp,by rw[Qw (Ne.symm n2)];exact hr.hB,Or.inr ⟨⟨W.set o S.buf.length,eW,by simp[slot],QU hW,?_,?_⟩,n1,n2,n3⟩,hr.hT.mono (Qw (Ne.symm n3)),hr.pB,hr.pT,hr.BT,?_,hr.hlen,hr.lt⟩
  ·simp only[slot,List.length_set]
   rw[List.take_set,hW2]
  ·simp only[slot,List.length_set];exact hW3
  ·intro b o hb
   have:=hr.hF b o hb
   exact ⟨by rw[Qw this.2.2.2.1];exact this.1,this.2⟩
def QF (es n al:Nat) (S:BS):BS:=prep al (es*n) (prep 4 (es*n) {S with nested:=true})
omit hB in
theorem startVec_len {es n al:Nat}:(QF es n al S).buf.length=padOf al (padOf 4 (S.buf.length+es*n)+S.buf.length+es*n)+(padOf 4 (S.buf.length+es*n)+S.buf.length):=by
 unfold QF
 rw[Qad,Qad]
theorem QI {es n al k:Nat} (hn:S.nested=false) (hal:al=2^k) (hk:k<=3) (hl:S.buf.length+es*n+24<=536870912)
  (hR:∀H',Qd H' p (QF es n al S) F (Nat.max ((4+es*n+1)-padOf al ((prep 4 (es*n) {S with nested:=true}).buf.length+es*n)) (al+es*n+1))->R (.int .u32 ((QF es n al S).buf.length:Nat)) H'):
  FnS prog 283 #[.pointer (some ⟨p,0,none⟩),.int .i64 (es:Nat),.int .i64 (n:Nat),.int .i64 (al:Nat)] H R:=by
 have hes:((es:Int)*(n:Int))=((es*n:Nat):Int):=by rw[Int.natCast_mul]
 have hpp:=Zw (size:=4) (n:=S.buf.length+es*n) (by decide)
 apply w283
 unfold s283
 refine YV hB hn ?_
 simp only[↓Qu,↓Qo]
 refine Qc3 hB ?_
 intro H1 h1
 rw[Qbd,hes,wrap_i64 (n:=((es*n:Nat):Int)) (by omega) (by omega)]
 refine QW (size:=4) (add:=es*n) (k:=2) h1 (by decide) (by decide) rfl (by show S.buf.length+es*n+16<=536870912;omega) ?_
 intro H2 h2
 rw[Qbd,hes,wrap_i64 (n:=((es*n:Nat):Int)) (by omega) (by omega)]
 refine QW (size:=al) (add:=es*n) (k:=k) h2 hal hk rfl ?_ ?_
 ·rw[Qad]
  show padOf 4 (S.buf.length+es*n)+S.buf.length+es*n+16<=536870912
  omega
 ·intro H3 h3
  refine Yj h3 ?_
  refine hR H3 (h3.room ?_)
  have g1:4+es*n+1<=Nat.max (r-padOf 4 ((({S with nested:=true}:BS)).buf.length+es*n)) (4+es*n+1):=Nat.le_max_right _ _
  generalize Nat.max (r-padOf 4 ((({S with nested:=true}:BS)).buf.length+es*n)) (4+es*n+1)=x at *
  exact Nat.max_le.2 ⟨Nat.le_trans (by omega) (Nat.le_max_left _ _),Nat.le_max_right _ _⟩
def Qj0 (n:Nat) (S:BS):BS:={place (leB (n:Int) 4) S with nested:=false}
theorem Qac {n:Nat} (hn:S.nested=true) (hr:4<=r) (hlt:n<4294967296) (hR:∀H',Qd H' p (Qj0 n S) F (r-4)->R (.int .u32 ((Qj0 n S).buf.length:Nat)) H'):
  FnS prog 92 #[.pointer (some ⟨p,0,none⟩),.int .i64 (n:Nat)] H R:=by
 apply w92
 unfold s92
 refine Qav hB hn ?_
 rw[Q1,QT (by omega) (by omega)]
 refine Qc0 hB hr ?_
 intro H1 h1
 simp only[↓Qu,↓Qo]
 refine Qc3 h1 ?_
 intro H2 h2
 refine Yj h2 ?_
 exact hR H2 h2
end
end Go.Proofs
namespace Go.Proofs
open Go Go.Vc
open Tryz (prog)
def createStr (xs:List UInt8) (S:BS):BS:=Qj0 xs.length (place xs (place [0] (prep 4 (xs.length+1) {S with nested:=true})))
section
variable {H:Qf} {p:Nat} {S:BS} {F:Cut} {r:Nat} (hB:Qd H p S F r) {R:Kn}
include hB
theorem copy_in {xs:List UInt8} {kp:Qf->Prop} {y:Value} {k:Kn} (hx:xs.length<r) (h0:0<S.buf.length)
  (hy:∀H',(∀b o,F b=some o->H'[b]?=some o)->QiX H' 1 xs.length y=some (xs.map u8V)) (hly:lenV y=xs.length)
  (hk:∀H',Qd H' p (place xs S) F (r-xs.length)->k (.int .i64 (Nat.min (lenV y) xs.length)) H'):
  LdK H (.pointer (some ⟨p,5,none⟩)) fun x25=>Qp prog .sub 72 x25 (.int .u32 (xs.length:Nat)) fun x27=>
   StK H 1 (.pointer (some ⟨p,5,none⟩)) x27 fun h5=>
   LdK h5 (.pointer (some ⟨p,0,none⟩)) fun x33=>LdK h5 (.pointer (some ⟨p,5,none⟩)) fun x37=>LdK h5 (.pointer (some ⟨p,5,none⟩)) fun x41=>
   Qp prog .add 72 x41 (.int .u32 (xs.length:Nat)) fun x43=>QfG 1 x33 (some x37) (some x43) fun x44=>CopyK h5 1 x44 y k:=by
 obtain ⟨hd,h1,⟨B,V,T,L,len,vtv,vtsv,e,eB,hr,h2,h3⟩⟩:=hB
 have hl:=hr.lt;have hlL:=hr.hlen
 rw[Qj (YN hr),Yk,QT (by omega) (by omega),show (hd:Int)-(xs.length:Int)=((hd-xs.length:Nat):Int) by omega,QaX hr]
 have hr2:=Raw.setp (S':=S) (head':=hd-xs.length) hr rfl rfl
 rw[Qj (YI hr2),Qj (YN hr2),Qj (YN hr2),QE,QT (by omega) (by omega),bsl,Qg6 (by omega) (by omega) (by omega)]
 have hne:¬L.length=((hd-xs.length:Nat):Int).toNat:=by omega
 rw[if_neg hne]
 simp only[Int.toNat_natCast,Nat.mul_one,Nat.zero_add]
 have hn:(((hd-xs.length:Nat):Int)+(xs.length:Int)).toNat-(hd-xs.length)=xs.length:=by omega
 rw[hn]
 have hmin:Nat.min (lenV y) xs.length=xs.length:=by rw[hly];exact Nat.min_self _
 refine ⟨xs.map u8V,?_,?_⟩
 ·rw[hmin]
  exact hy _ (fun b o hb=>(hr2.hF b o hb).1)
 ·refine ⟨_,setN_u8 hr2.hB (by omega),?_⟩
  refine hk _ ⟨hd-xs.length,by omega,⟨B,V,T,_,len,vtv,vtsv,e,eB,Raw.wr hr2 (Ye _ _ _) rfl rfl rfl,?_,?_⟩⟩
  ·simp only[place,List.length_append];omega
  ·exact Qas hr.hlen h2 h3 (by omega)
omit hB in
theorem byteCells_all (s:ByteArray):(ZD (s.extract 0 s.size)).toList=s.toList.map u8V:=by
 have:s.extract 0 s.size=s:=by simp
 rw[this]
 simp[ZD,ByteArray.toList_eq]
set_option maxHeartbeats 1000000 in
theorem QcB {s:ByteArray} {xs:List UInt8} (hs:s.toList=xs) (hn:S.nested=false) (hl:S.buf.length+xs.length+24<=536870912)
  (hR:∀H',Qd H' p (createStr xs S) F 0->R (.int .u32 ((createStr xs S).buf.length:Nat)) H'):
  FnS prog 87 #[.pointer (some ⟨p,0,none⟩),.string s] H R:=by
 have hsz:s.size=xs.length:=by rw[<-hs,ByteArray.toList_eq,Array.length_toList];rfl
 apply w87
 unfold s87
 refine YV hB hn ?_
 simp only[↓Qu,↓Qo,↓Qe4,hsz]
 refine Qc3 hB ?_
 intro H1 h1
 rw[QE,Qbd,wrap_i64 (n:=(xs.length:Int)+1) (by omega) (by omega),wrap_i64 (by omega) (by omega)]
 refine QW (size:=4) (add:=xs.length+1) (k:=2) h1 (by decide) (by decide) (by omega) (by show S.buf.length+(xs.length+1)+16<=536870912;omega) ?_
 intro H2 h2
 have g1:4+(xs.length+1)+1<=Nat.max (r-padOf 4 ((({S with nested:=true}:BS)).buf.length+(xs.length+1))) (4+(xs.length+1)+1):=Nat.le_max_right _ _
 refine Qae (b:=0) (h2.room g1) (by omega) ?_
 intro H3 h3
 rw[Q1,QT (by omega) (by omega)]
 refine copy_in (xs:=xs) (kp:=fun _=>True) h3 (by omega) (by simp[place]) ?_ hsz ?_
 ·intro H' _
  show some (ZD (s.extract 0 xs.length)).toList=_
  rw[<-hsz,byteCells_all,hs]
 ·intro H4 h4
  refine Qac h4 (by simp[place,prep]) (by omega) (by omega) ?_
  intro H5 h5
  exact hR H5 (h5.room (by omega))
set_option maxHeartbeats 1000000 in
theorem QdS {xs:List UInt8} {a:Option Addr} {c:Nat} (hs:∀H',(∀b o,F b=some o->H'[b]?=some o)->QiX H' 1 xs.length (.slice a xs.length c)=some (xs.map u8V)) (hn:S.nested=false) (hl:S.buf.length+xs.length+24<=536870912)
  (hR:∀H',Qd H' p (createStr xs S) F 0->R (.int .u32 ((createStr xs S).buf.length:Nat)) H'):
  FnS prog 88 #[.pointer (some ⟨p,0,none⟩),.slice a xs.length c] H R:=by
 apply w88
 unfold s88
 refine YV hB hn ?_
 simp only[↓Qu,↓Qo,↓Qbw]
 refine Qc3 hB ?_
 intro H1 h1
 rw[QE,Qbd,wrap_i64 (n:=(xs.length:Int)+1) (by omega) (by omega),wrap_i64 (by omega) (by omega)]
 refine QW (size:=4) (add:=xs.length+1) (k:=2) h1 (by decide) (by decide) (by omega) (by show S.buf.length+(xs.length+1)+16<=536870912;omega) ?_
 intro H2 h2
 have g1:4+(xs.length+1)+1<=Nat.max (r-padOf 4 ((({S with nested:=true}:BS)).buf.length+(xs.length+1))) (4+(xs.length+1)+1):=Nat.le_max_right _ _
 refine Qae (b:=0) (h2.room g1) (by omega) ?_
 intro H3 h3
 rw[Q1,QT (by omega) (by omega)]
 refine copy_in (xs:=xs) (kp:=fun _=>True) h3 (by omega) (by simp[place]) hs rfl ?_
 intro H4 h4
 refine Qac h4 (by simp[place,prep]) (by omega) (by omega) ?_
 intro H5 h5
 exact hR H5 (h5.room (by omega))
def YJ (n:Nat) (S:BS):BS:={S with nested:=true,vt:=List.replicate n 0,oe:=S.buf.length}
omit hB in
theorem set_rep (n i:Nat) (W:List Nat) (hi:i<n) (hn:n<=W.length) (h:W.take i=List.replicate i 0):(W.set i 0).take (i+1)=List.replicate (i+1) 0:=by
 rw[List.take_set,List.take_add_one,h]
 have:W[i]?.toList=[W[i]'(by omega)]:=by rw[List.getElem?_eq_getElem (by omega)];rfl
 rw[this,List.set_append]
 simp[List.replicate_succ']
set_option maxHeartbeats 1000000 in
theorem Zy {n:Nat} (hn:S.nested=false) (hlt:n<1000)
  (hR:∀H',Qd H' p (YJ n S) F r->R (.tuple #[]) H'):
  FnS prog 301 #[.pointer (some ⟨p,0,none⟩),.int .i64 (n:Nat)] H R:=by
 apply w301
 unfold s301
 refine YV hB hn ?_
 simp only[↓Qu,↓Qo]
 refine Qc3 hB ?_
 intro H1 h1
 have key:∀H2,Qd H2 p {S with nested:=true,vt:=List.replicate n 0} F r->FnS prog 278 #[.pointer (some ⟨p,0,none⟩)] H2 fun x55 h14=>
   StK h14 1 (.pointer (some ⟨p,3,none⟩)) x55 fun h15=>R (.tuple #[]) h15:=by
  intro H2 h2
  refine Yj h2 ?_
  refine st_oe_at h2 ?_
  intro H3 h3
  exact hR H3 h3
 obtain ⟨hd,hh,⟨B,V,T,L,len,vtv,vtsv,e,eB,hr,g2,g3⟩⟩:=h1
 refine QB (fun _ h=>Qd h p {S with nested:=true,vt:=List.replicate n 0} F r) ?_ ?_
 ·simp only[↓Qu,↓Qo,↓Qj (Qix hr)]
  obtain ⟨l1,l2,l3,l4⟩:=hr.V_lt
  have fresh:Qf0 H1 72 4 z72 (.int .i64 (n:Nat)) (.int .i64 (n:Nat)) fun x26 h8=>
    StK h8 1 (.pointer (some ⟨p,2,none⟩)) x26 fun h9=>Qd h9 p {S with nested:=true,vt:=List.replicate n 0} F r:=by
   refine ⟨by omega,by omega,by omega,by omega,?_⟩
   simp only[Int.toNat_natCast]
   rw[mk_u32 (z:=z72) rfl]
   have hp:(H1.push (.cells (QgW (List.replicate n 0)) 72))[p]?=_:=YK hr.hp
   rw[QaA hp (by decide:2<9) (by simp) rfl]
   refine ⟨hd,hh,⟨B,H1.size,T,L,len,.slice (some ⟨H1.size,0,none⟩) n n,vtsv,e,eB,?_,g2,g3⟩⟩
   refine ⟨QU hp,?_,Or.inr ⟨⟨List.replicate n 0,72,by simp,?_,by simp,by simp⟩,by omega,by omega,by omega⟩,?_,hr.pB,hr.pT,hr.BT,?_,hr.hlen,hr.lt⟩
   ·rw[Qw (Ne.symm hr.pB)];exact YK hr.hB
   ·rw[Qw (by omega)];exact Qm
   ·refine hr.hT.mono ?_
    rw[Qw (Ne.symm hr.pT),Array.getElem?_push,if_neg (by omega)]
   ·intro b o hb
    have:=hr.hF b o hb
    have hbl:=YQ this.1
    exact ⟨by rw[Qw this.2.1];exact YK this.1,this.2.1,this.2.2.1,by omega,this.2.2.2.2⟩
  rcases hr.hV with ⟨rfl,hvn,hVp⟩|⟨⟨W,eW,rfl,hW,hW2,hW3⟩,n1,n2,n3⟩
  ·simp only[↓CapK_sl,↓Y9]
   by_cases h0:((0:Nat):Int)<(n:Int)
   ·simp only[decide_eq_true h0,↓Y6,↓Yr,↓Zs]
    exact fresh
   ·simp only[decide_eq_false h0,↓Y1,↓Qu,↓Qo,↓Qj (Qix hr)]
    rw[BinK_sleq (e:=72) (by kernel_rfl)]
    simp only[Option.isNone_none,↓ZK,↓Zs]
    exact fresh
  ·simp only[↓CapK_sl,↓Y9]
   by_cases h0:(W.length:Int)<(n:Int)
   ·simp only[decide_eq_true h0,↓Y6,↓Yr,↓Zs]
    exact fresh
   ·simp only[decide_eq_false h0,↓Y1,↓Qu,↓Qo,↓Qj (Qix hr)]
    rw[BinK_sleq (e:=72) (by kernel_rfl)]
    simp only[Option.isNone_some,↓ZK,↓Ql]
    rw[SlcK_hi (by omega) (by omega),Int.toNat_natCast,QaA hr.hp (by decide:2<9) (by simp) rfl]
    have hp2:=QU (o:=.cells ((QfB B len L.length {S with nested:=true} (.slice (some ⟨V,0,none⟩) S.vt.length W.length) vtsv hd).setIfInBounds 2 (.slice (some ⟨V,0,none⟩) n W.length)) e (0,0)) hr.hp
    refine ⟨fun m vs h=>∃i:Nat,vs=[.int .i64 (i:Int)]/\i<=n/\m=n-i/\∃W':List Nat,W'.length=W.length/\W'.take i=List.replicate i 0/\
     Raw h p {S with nested:=true,vt:=W'.take n} F B V T L len hd (.slice (some ⟨V,0,none⟩) n W.length) vtsv e eB/\h[V]?=some (.cells (QgW W') eW (0,0)),⟨n,0,rfl,by omega,by omega,W,rfl,rfl,?_,?_⟩,fun m=>?_⟩
    ·refine ⟨hp2,?_,Or.inr ⟨⟨W,eW,?_,?_,?_,?_⟩,n1,n2,n3⟩,hr.hT.mono (Qw (Ne.symm hr.pT)),hr.pB,hr.pT,hr.BT,?_,hr.hlen,hr.lt⟩
     ·rw[Qw (Ne.symm hr.pB)];exact hr.hB
     ·have:(W.take n).length=n:=by simp;omega
      rw[this]
     ·rw[Qw n1];exact hW
     ·have:(W.take n).length=n:=by simp;omega
      rw[this]
     ·simp;omega
     ·intro b o hb
      have:=hr.hF b o hb
      exact ⟨by rw[Qw this.2.1];exact this.1,this.2⟩
    ·rw[Qw n1];exact hW
    ·rintro x4 h11 ⟨i,hx,hi,rfl,W',hWl,hWt,hr',hWc⟩
     cases hx
     simp only[↓Qj (Qix hr'),↓Qbw,↓Y9]
     apply ZI
     ·intro hlt'
      rw[QO (by omega) (by omega),Int.toNat_natCast,Nat.mul_one,Nat.zero_add]
      have:(Value.int .u32 0)= .int .u32 ((0:Nat):Int):=rfl
      rw[this,QaA hWc (by rw[QhP];omega) (by simp) rfl,u32c_set,QE,wrap_i64 (by omega) (by omega)]
      refine ⟨n-(i+1),by omega,i+1,rfl,by omega,rfl,W'.set i 0,by simp[hWl],set_rep n i W' (by omega) (by omega) hWt,?_,QU hWc⟩
      refine ⟨by rw[Qw (Ne.symm n1)];exact hr'.hp,by rw[Qw (Ne.symm n2)];exact hr'.hB,Or.inr ⟨⟨W'.set i 0,eW,?_,QU hWc,?_,?_⟩,n1,n2,n3⟩,hr'.hT.mono (Qw (Ne.symm n3)),hr.pB,hr.pT,hr.BT,?_,hr.hlen,hr.lt⟩
      ·have:((W'.set i 0).take n).length=n:=by simp;omega
       rw[this,List.length_set,hWl]
      ·have:((W'.set i 0).take n).length=n:=by simp;omega
       rw[this]
      ·simp;omega
      ·intro b o hb
       have:=hr'.hF b o hb
       exact ⟨by rw[Qw this.2.2.2.1];exact this.1,this.2⟩
     ·intro hge
      have:i=n:=by omega
      subst this
      rw[hWt]at hr'
      exact ⟨hd,hh,⟨B,V,T,L,len,_,vtsv,e,eB,hr',g2,g3⟩⟩
 ·intro h13 hb
  exact key h13 hb
end
end Go.Proofs
namespace Go.Proofs
open Go Go.Vc
open Tryz (prog)
def Ys:List Nat->Nat
 |[]=>0
 |x::xs=>if Ys xs=0/\x=0 then 0 else Ys xs+1
theorem QiB:∀l:List Nat,Ys l<=l.length
 |[]=>by simp[Ys]
 |x::xs=>by
  have:=QiB xs
  simp only[Ys,List.length_cons]
  split<;>omega
theorem Qgh:∀(l:List Nat),(∀j,j<l.length->l.getD j 0=0)->Ys l=0
 |[],_=>rfl
 |x::xs,h=>by
  have h0:x=0:=by simpa using h 0 (by simp)
  have h1:=Qgh xs (fun j hj=>by simpa using h (j+1) (by simp;omega))
  simp[Ys,h0,h1]
theorem Qie:∀(l:List Nat) (i:Nat),(∀j,i<=j->j<l.length->l.getD j 0=0)->i<=l.length->(i=0\/l.getD (i-1) 0≠0)->Ys l=i
 |l,0,h,_,_=>Qgh l (fun j hj=>h j (by omega) hj)
 |[],i+1,_,h,_=>by simp at h
 |x::xs,1,h,_,h2=>by
  have h1:=Qgh xs (fun j hj=>by simpa using h (j+1) (by omega) (by simp;omega))
  rcases h2 with h2|h2
  ·omega
  ·simp only[Nat.sub_self,List.getD_cons_zero]at h2
   simp[Ys,h1,h2]
 |x::xs,i+2,h,hl,h2=>by
  have h1:=Qie xs (i+1) (fun j hj hj2=>by simpa using h (j+1) (by omega) (by simp;omega)) (by simp at hl;omega) (by
   rcases h2 with h2|h2
   ·omega
   ·right
    have e:i+2-1=(i+1-1)+1:=by omega
    rw[e,List.getD_cons_succ]at h2
    exact h2)
  simp only[Ys,h1]
  rw[if_neg (by omega)]
def VtSl (H:Qf) (V:Nat) (v:Value) (l:List Nat):Prop:=(v= .slice none 0 0/\l=[])\/U32Sl H V v l
theorem VtSl.len {H:Qf} {V:Nat} {v:Value} {l:List Nat} (h:VtSl H V v l) {k:Value->Prop}:YX v k=k (.int .i64 l.length):=by
 rcases h with ⟨rfl,rfl⟩|⟨W,e,rfl,_⟩<;>rfl
theorem VtSl.idx {H:Qf} {V:Nat} {v:Value} {l:List Nat} (h:VtSl H V v l) {j:Nat} {x:Int} (hx:x=(j:Nat)) (hj:j<l.length):
  (∀k:Value->Prop,YG 1 v (.int .i64 x) k=k (.pointer (some ⟨V,j,none⟩)))/\QaS H ⟨V,j,none⟩=some (.int .u32 (l.getD j 0:Nat)):=by
 subst hx
 rcases h with ⟨rfl,rfl⟩|⟨W,e,rfl,h2,h3,h4⟩
 ·simp at hj
 ·constructor
  ·intro k
   rw[QO (by omega) (by omega),Int.toNat_natCast,Nat.mul_one,Nat.zero_add]
  ·rw[Qi h2,u32c_get (by omega),<-h3]
   congr 2
   simp[List.getD,List.getElem?_take,hj]
theorem Raw.vtSl {H:Qf} {p:Nat} {S:BS} {F:Cut} {B V T:Nat} {L:List UInt8} {len head:Nat} {vtv vtsv:Value} {e eB:TypeId}
  (hr:Raw H p S F B V T L len head vtv vtsv e eB):VtSl H V vtv S.vt:=by
 rcases hr.hV with ⟨h1,h2,_⟩|⟨h,_⟩
 ·exact Or.inl ⟨h1,h2⟩
 ·exact Or.inr h
theorem st_vt_take {H:Qf} {p:Nat} {S:BS} {F:Cut} {B V T:Nat} {L:List UInt8} {len head:Nat} {vtv vtsv:Value} {e eB:TypeId}
  (hr:Raw H p S F B V T L len head vtv vtsv e eB) {i:Nat} {x:Int} (hx:x=(i:Nat)) (hi:i<=S.vt.length) {kp:Qf->Prop}
  (hk:∀H' vtv',Raw H' p {S with vt:=S.vt.take i} F B V T L len head vtv' vtsv e eB->kp H'):
  QfG 1 vtv none (some (.int .i64 x)) fun x50=>StK H 1 (.pointer (some ⟨p,2,none⟩)) x50 kp:=by
 subst hx
 rcases hr.hV with ⟨rfl,hn,hVp⟩|⟨⟨W,eW,rfl,hW,hW2,hW3⟩,n1,n2,n3⟩
 ·rw[hn]at hi
  have h0:i=0:=by simpa using hi
  subst h0
  rw[SlcK_hi (by omega) (by omega),QaA hr.hp (by decide:2<9) (by simp) rfl]
  refine hk _ (.slice none 0 0) ?_
  refine ⟨QU hr.hp,?_,Or.inl ⟨rfl,by simp,hVp⟩,hr.hT.mono (Qw (Ne.symm hr.pT)),hr.pB,hr.pT,hr.BT,?_,hr.hlen,hr.lt⟩
  ·rw[Qw (Ne.symm hr.pB)];exact hr.hB
  ·intro b o hb
   have:=hr.hF b o hb
   exact ⟨by rw[Qw this.2.1];exact this.1,this.2⟩
 ·rw[SlcK_hi (by omega) (by omega),Int.toNat_natCast,QaA hr.hp (by decide:2<9) (by simp) rfl]
  refine hk _ (.slice (some ⟨V,0,none⟩) i W.length) ?_
  have hl:(S.vt.take i).length=i:=by simp;omega
  refine ⟨QU hr.hp,?_,Or.inr ⟨⟨W,eW,?_,?_,?_,?_⟩,n1,n2,n3⟩,hr.hT.mono (Qw (Ne.symm hr.pT)),hr.pB,hr.pT,hr.BT,?_,hr.hlen,hr.lt⟩
  ·rw[Qw (Ne.symm hr.pB)];exact hr.hB
  ·rw[hl]
  ·rw[Qw n1];exact hW
  ·rw[hl,<-hW2,List.take_take,Nat.min_eq_left hi]
  ·rw[hl];omega
  ·intro b o hb
   have:=hr.hF b o hb
   exact ⟨by rw[Qw this.2.1];exact this.1,this.2⟩
def QgZ (l:List Nat) (oo:Nat) (bs:List UInt8) (o n:Nat):Bool:=
 decide (2*l.length=n)&&(List.range l.length).all fun i=>(decide (le2 bs (o+2*i)=0)&&decide (l.getD i 0=0))||decide ((le2 bs (o+2*i):Int)=(oo:Int)-(l.getD i 0:Nat))
theorem Qg3 {l:List Nat} {oo n o o':Nat} {bs bs':List UInt8} (h:∀i,i<n->byteN bs (o+i)=byteN bs' (o'+i)):QgZ l oo bs o n=QgZ l oo bs' o' n:=by
 unfold QgZ
 by_cases hl:2*l.length=n
 ·rw[decide_eq_true hl,Bool.true_and,Bool.true_and]
  apply Bool.eq_iff_iff.2
  simp only[List.all_eq_true,List.mem_range]
  have e:∀i,i<l.length->le2 bs (o+2*i)=le2 bs' (o'+2*i):=by
   intro i hi
   unfold le2
   rw[h (2*i) (by omega),Nat.add_assoc o,h (2*i+1) (by omega)]
   rfl
  constructor
  ·intro hh i hi;rw[<-e i hi];exact hh i hi
  ·intro hh i hi;rw[e i hi];exact hh i hi
 ·rw[decide_eq_false hl,Bool.false_and,Bool.false_and]
section
variable {H:Qf} {R:Kn}
set_option maxHeartbeats 1000000 in
theorem go_vtableEqual {V B o n c oo:Nat} {v:Value} {l:List Nat} {bs:List UInt8} (hv:VtSl H V v l) (hb:U8s H B 0 bs) (hn:o+n<=bs.length) (hc:n<=c) (hbn:n<1073741824)
  (hoo:oo<1073741824) (hl:∀j,l.getD j 0<=oo) (hll:l.length<1073741824) (hR:R (.bool (QgZ l oo bs o n)) H):
  FnS prog 402 #[v,.int .u32 (oo:Nat),bsl B o n c] H R:=by
 apply w402
 unfold s402
 rw[hv.len,Qbd,bsl,Qbw,QJ]
 by_cases heq:2*l.length=n
 ·rw[wrap_i64 (by omega) (by omega),QL (by omega)]
  unfold QgZ at hR
  rw[decide_eq_true heq,Bool.true_and]at hR
  refine QB (fun _ h=>h=H/\(List.range l.length).all (fun i=>(decide (le2 bs (o+2*i)=0)&&decide (l.getD i 0=0))||decide ((le2 bs (o+2*i):Int)=(oo:Int)-(l.getD i 0:Nat)))=true) ?_ ?_
  ·refine ⟨fun m vs h=>∃(i:Nat) (b:Value),vs=[.int .i64 (i:Int),b]/\i<=l.length/\m=l.length-i/\h=H/\
    ∀j,j<i->((decide (le2 bs (o+2*j)=0)&&decide (l.getD j 0=0))||decide ((le2 bs (o+2*j):Int)=(oo:Int)-(l.getD j 0:Nat)))=true,⟨l.length,0,_,rfl,by omega,by omega,rfl,by omega⟩,fun m=>?_⟩
   rintro x7 x6 h1 ⟨i,b,hx,hi,rfl,rfl,hall⟩
   cases hx
   rw[hv.len,Y9]
   by_cases hlt:i<l.length
   ·rw[Yd (by omega)]
    obtain ⟨hidx,hcell⟩:=hv.idx (j:=i) rfl hlt
    have h2b:=le2_lt bs (o+2*i)
    have hlj:=hl i
    have again:((decide (le2 bs (o+2*i)=0)&&decide (l.getD i 0=0))||decide ((le2 bs (o+2*i):Int)=(oo:Int)-(l.getD i 0:Nat)))=true->
      Qp prog .add 3 (.int .i64 (i:Int)) (.int .i64 1) fun x21=>Yf (fun m vs h=>∃(i:Nat) (b:Value),vs=[.int .i64 (i:Int),b]/\i<=l.length/\m=l.length-i/\h=h1/\
       ∀j,j<i->((decide (le2 bs (o+2*j)=0)&&decide (l.getD j 0=0))||decide ((le2 bs (o+2*j):Int)=(oo:Int)-(l.getD j 0:Nat)))=true) (l.length-i) [x21,x6] h1:=by
     intro hh
     rw[QE,wrap_i64 (by omega) (by omega)]
     refine ⟨l.length-(i+1),by omega,i+1,x6,rfl,by omega,rfl,rfl,?_⟩
     intro j hj
     by_cases hji:j<i
     ·exact hall j hji
     ·have:j=i:=by omega
      subst this;exact hh
    refine QB (fun vs h=>vs=[x6]/\h=h1/\((decide (le2 bs (o+2*i)=0)&&decide (l.getD i 0=0))||decide ((le2 bs (o+2*i):Int)=(oo:Int)-(l.getD i 0:Nat)))=true) ?_ ?_
    ·rw[Qbd,QE,Qbd,wrap_i64 (n:=(i:Int)*2) (by omega) (by omega),wrap_i64 (n:=(i:Int)+1) (by omega) (by omega),wrap_i64 (by omega) (by omega)]
     rw[Qg6 (by omega) (by omega) (by omega)]
     have hne:¬c=((i:Int)*2).toNat:=by omega
     rw[if_neg hne]
     have e1:o+((i:Int)*2).toNat*1=o+2*i:=by omega
     rw[e1]
     refine Qda hb (by omega) (by omega) ?_
     rw[Yo]
     by_cases hz:le2 bs (o+2*i)=0
     ·simp only[hz,show ((0:Nat):Int)=0 from rfl,decide_true,↓Yc,hidx,↓Qj hcell,↓Yo,↓Yr]
      apply ZI
      ·intro h0
       have h0':l.getD i 0=0:=by omega
       exact ⟨by first|rfl|trivial,by first|rfl|trivial,by rw[h0'];rfl⟩
      ·intro h0
       have h0':¬l.getD i 0=0:=by omega
       simp only[↓Q1,↓Yk,↓QJ]
       rw[Za (n:=(oo:Int)) (by omega) (by omega),Za (n:=((l.getD i 0:Nat):Int)) (by omega) (by omega),Za (n:=(oo:Int)-((l.getD i 0:Nat):Int)) (by omega) (by omega),Za (n:=(0:Int)) (by omega) (by omega)]
       apply ZI
       ·intro hne2
        have hf:(List.range l.length).all (fun i=>(decide (le2 bs (o+2*i)=0)&&decide (l.getD i 0=0))||decide ((le2 bs (o+2*i):Int)=(oo:Int)-(l.getD i 0:Nat)))=false:=by
         rw[List.all_eq_false]
         refine ⟨i,List.mem_range.2 hlt,?_⟩
         rw[hz]
         simp only[decide_true,Bool.true_and,Bool.or_eq_true,decide_eq_true_eq,not_or]
         exact ⟨h0',hne2⟩
        rw[hf]at hR
        exact hR
       ·intro heq2
        refine ⟨by first|rfl|trivial,by first|rfl|trivial,?_⟩
        simp only[Bool.or_eq_true,decide_eq_true_eq]
        right;omega
     ·have hz2:¬(le2 bs (o+2*i):Int)=0:=by omega
      simp only[decide_eq_false hz2,↓Zo,↓ZK,↓Ql]
      simp only[↓Q1,hidx,↓Qj hcell,↓Yk,↓QJ]
      rw[Za (n:=(oo:Int)) (by omega) (by omega),Za (n:=((l.getD i 0:Nat):Int)) (by omega) (by omega),Za (n:=(oo:Int)-((l.getD i 0:Nat):Int)) (by omega) (by omega),Za (n:=(le2 bs (o+2*i):Int)) (by omega) (by omega)]
      apply ZI
      ·intro hne2
       have hf:(List.range l.length).all (fun i=>(decide (le2 bs (o+2*i)=0)&&decide (l.getD i 0=0))||decide ((le2 bs (o+2*i):Int)=(oo:Int)-(l.getD i 0:Nat)))=false:=by
        rw[List.all_eq_false]
        refine ⟨i,List.mem_range.2 hlt,?_⟩
        simp only[decide_eq_false hz,Bool.false_and,Bool.false_or,decide_eq_true_eq]
        exact hne2
       rw[hf]at hR
       exact hR
      ·intro heq2
       refine ⟨by first|rfl|trivial,by first|rfl|trivial,?_⟩
       simp only[decide_eq_false hz,Bool.false_and,Bool.false_or,decide_eq_true_eq]
       omega
    ·rintro x h8 ⟨hx,rfl,hh⟩
     cases hx
     exact again hh
   ·rw[QL (by omega)]
    refine ⟨rfl,?_⟩
    rw[List.all_eq_true]
    intro j hj
    exact hall j (by have:=List.mem_range.1 hj;omega)
  ·rintro x7 x6 h9 ⟨rfl,hh⟩
   rw[hh]at hR
   exact hR
 ·rw[Yd]
  ·unfold QgZ at hR
   rw[decide_eq_false heq,Bool.false_and]at hR
   exact hR
  ·rw[wrap_i64 (by omega) (by omega)]
   omega
end
end Go.Proofs
namespace Go.Proofs
open Go Go.Vc
open Tryz (prog)
def Qai (f:Nat->Bool):List Nat->Nat
 |[]=>0
 |x::xs=>if Qai f xs≠0 then Qai f xs else if f x=true then x else 0
theorem findVt_snoc (f:Nat->Bool) (x:Nat) (hx:x≠0):∀l:List Nat,Qai f (l++[x])=if f x=true then x else Qai f l
 |[]=>by simp[Qai]
 |y::l=>by
  rw[List.cons_append,Qai,findVt_snoc f x hx l,Qai]
  by_cases h:f x=true
  ·simp[h,hx]
  ·simp[h]
theorem QiD (f:Nat->Bool):∀l:List Nat,Qai f l≠0->Qai f l∈l/\f (Qai f l)=true
 |[],h=>absurd rfl h
 |x::xs,h=>by
  rw[Qai]at h⊢
  by_cases h1:Qai f xs≠0
  ·rw[if_pos h1]
   have:=QiD f xs h1
   exact ⟨List.mem_cons_of_mem _ this.1,this.2⟩
  ·rw[if_neg h1]at h⊢
   by_cases h2:f x=true
   ·rw[if_pos h2];exact ⟨List.mem_cons_self,h2⟩
   ·rw[if_neg h2]at h;exact absurd rfl h
def wrEnt (oo:Nat):List Nat->BS->BS
 |[],S=>S
 |v::vs,S=>putN 2 (leB ((if v≠0 then oo-v else 0:Nat):Int) 2) (wrEnt oo vs S)
theorem QdB {k:Nat} {xs:List UInt8} {S:BS}:(putN k xs S).buf.length=xs.length+padOf k S.buf.length+S.buf.length:=by
 simp[putN,place,prep];omega
theorem QdU (oo:Nat):∀(vs:List Nat) (S:BS),(wrEnt oo vs S).vt=S.vt/\(wrEnt oo vs S).vts=S.vts/\(wrEnt oo vs S).oe=S.oe/\(wrEnt oo vs S).nested=S.nested/\(wrEnt oo vs S).fin=S.fin
 |[],S=>⟨rfl,rfl,rfl,rfl,rfl⟩
 |v::vs,S=>QdU oo vs S
theorem QhO (oo:Nat):∀(vs:List Nat) (S:BS),S.buf.length<=(wrEnt oo vs S).buf.length/\(wrEnt oo vs S).buf.length<=S.buf.length+3*vs.length
 |[],S=>by simp[wrEnt]
 |v::vs,S=>by
  have:=QhO oo vs S
  have h2:=Zw (size:=2) (n:=(wrEnt oo vs S).buf.length) (by decide)
  rw[wrEnt,QdB,Qc,List.length_cons]
  omega
def patch (q:Nat) (x:Int) (S:BS):BS:={S with buf:=Qab S.buf q (leB x 4)}
def Z5 (vt:List Nat) (oo:Nat) (buf:List UInt8) (o:Nat):Bool:=QgZ vt oo buf (oo-o+4) (le2 buf (oo-o)-4)
def endObj (S:BS):BS:=
 let S1:=putOff 0 S
 let oo:=S1.buf.length
 let vt:=S1.vt.take (Ys S1.vt)
 let ex:=Qai (Z5 vt oo S1.buf) S1.vts
 if ex=0 then
  let S2:=putN 2 (leB ((2*(vt.length+2):Nat):Int) 2) (putN 2 (leB ((oo-S.oe:Nat):Int) 2) (wrEnt oo vt {S1 with vt:=vt}))
  {patch (S2.buf.length-oo) ((S2.buf.length-oo:Nat):Int) S2 with vts:=S2.vts++[S2.buf.length],vt:=[],nested:=false}
 else {patch 0 ((ex:Int)-(oo:Int)) S1 with vt:=[],nested:=false}
def QhM (S:BS):Prop:=∀o∈S.vts,0<o/\o<=S.buf.length/\4<=le2 S.buf (S.buf.length-o)/\le2 S.buf (S.buf.length-o)<=o
theorem Qhx {L:List UInt8} {len head q:Nat} {buf:List UInt8} (h:(L.take len).drop head=buf) (hq:q<buf.length):byteN L (head+q)=byteN buf q:=by
 unfold byteN
 congr 1
 have hb:buf.length=(L.take len).length-head:=by rw[<-h,List.length_drop]
 have hlt:head+q<(L.take len).length:=by omega
 have h1:buf[q]?=(L.take len)[head+q]?:=by rw[<-h,List.getElem?_drop]
 have h2:(L.take len)[head+q]?=L[head+q]?:=by
  rw[List.getElem?_take,if_pos]
  simp at hlt;omega
 simp only[List.getD,h1,h2]
theorem le2_sub {L:List UInt8} {len head q:Nat} {buf:List UInt8} (h:(L.take len).drop head=buf) (hq:q+2<=buf.length):le2 L (head+q)=le2 buf q:=by
 unfold le2
 rw[Qhx h (by omega),Nat.add_assoc,Qhx h (by omega)]
theorem put_mid {L:List UInt8} {len head q:Nat} {xs buf:List UInt8} (hl:len<=L.length) (hh:head+buf.length=len) (hb:(L.take len).drop head=buf) (hx:q+xs.length<=buf.length):
  ((Qab L (head+q) xs).take len).drop head=Qab buf q xs:=by
 rw[Qd0 _ _ _ (by omega),Qd0 _ _ _ hx,<-hb]
 apply List.ext_getElem?
 intro i
 simp only[List.getElem?_drop,List.getElem?_take,List.getElem?_append,List.length_append,List.length_take]
 have m1:min (head+q) L.length=head+q:=by omega
 have m2:min q ((L.take len).drop head).length=q:=by simp;omega
 have m3:min (head+q) L.length=head+q:=by omega
 simp only[m1,List.length_drop,List.length_take]
 have m4:min q (min len L.length-head)=q:=by omega
 rw[m4]
 by_cases h1:head+i<len
 ·rw[if_pos h1]
  by_cases h2:head+i<head+q+xs.length
  ·have h2':i<q+xs.length:=by omega
   rw[if_pos h2,if_pos h2']
   by_cases h3:head+i<head+q
   ·have h3':i<q:=by omega
    rw[if_pos h3,if_pos h3',if_pos h3,if_pos h3',if_pos h1]
   ·have h3':¬i<q:=by omega
    rw[if_neg h3,if_neg h3']
    congr 1;omega
  ·have h2':¬i<q+xs.length:=by omega
   rw[if_neg h2,if_neg h2']
   have e:head+(q+xs.length+(i-(q+xs.length)))=head+i:=by omega
   rw[e,if_pos h1]
   congr 1;omega
 ·rw[if_neg h1]
  have h2':¬i<q+xs.length:=by omega
  rw[if_neg h2',if_neg (show ¬head+(q+xs.length+(i-(q+xs.length)))<len by omega)]
theorem Qib (x:Int):leB (IntKind.u16.wrap x) 2=leB x 2:=by
 rw[leB_2,leB_2]
 have h:IntKind.u16.wrap x=x%65536:=by simp[IntKind.wrap,IntKind.bits,IntKind.signed]
 have e0:Zj (x%65536) 0=Zj x 0:=by
  unfold Zj
  congr 2
  first|(simp;done)|(simp;omega)
 have e1:Zj (x%65536) 1=Zj x 1:=by
  unfold Zj
  congr 2
  first|(simp;done)|(simp;omega)
 rw[h,e0,e1]
end Go.Proofs
