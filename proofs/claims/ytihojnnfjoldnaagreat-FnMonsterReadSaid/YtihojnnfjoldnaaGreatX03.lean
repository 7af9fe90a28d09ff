/- WHAT IS PROVED: the given statement of FnMonsterRead, whatever the input: this is part 3 of 13. No conditions. -/
import Derived.Test.YtihojnnfjoldnaaGreatX02
set_option linter.all false
namespace Go.Proofs
open Go Go.Vc
open Tryz (prog)
abbrev bsl (b o n c:Nat):Value:=.slice (some ⟨b,o,none⟩) n c
theorem Zu {H:Qf} {b:Nat} {bs:List UInt8} (h:U8s H b 0 bs) {o i:Nat} (hi:o+i<bs.length):QaH H ⟨b,o+i,none⟩=some (.int .u8 (byteN bs (o+i))):=
 h.at (by omega) hi
section
variable {H:Qf} {b o n c:Nat} {bs:List UInt8} (hb:U8s H b 0 bs) {R:Kn}
include hb
set_option maxHeartbeats 1000000 in
theorem QhU (hl:o+2<=bs.length) (hn:2<=n) (hR:R (.int .u16 (le2 bs o:Int)) H):FnS prog 349 #[bsl b o n c] H R:=by
 have c0:=Zu hb (o:=o) (i:=0) (by omega)
 have b0:=Y9 bs (o+0)
 have i0:(0:Int)<n:=by omega
 have c1:=Zu hb (o:=o) (i:=1) (by omega)
 have b1:=Y9 bs (o+1)
 have i1:(1:Int)<n:=by omega
 apply w349
 unfold s349
 simp only[↓QR (by decide:(0:Int)<=0) i0,↓QR (by decide:(0:Int)<=1) i1,show Int.toNat 0=0 from rfl,show Int.toNat 1=1 from rfl,Nat.zero_mul,Nat.mul_one,Nat.one_mul,↓Qk c0,↓Qk c1,↓Qm,↓Qhs,↓Zj (by decide:(0:Int)<=8)]
 have g:=get2_val (κ:=.u16) (by decide) b0 b1
 simp only[Nat.add_zero]at g⊢
 simp only[show Int.toNat 8=8 from rfl]
 rw[g]
 skip
 have e:IntKind.u16.wrap (le2 bs o:Int)=le2 bs o:=wrap_u16 (by omega) (by have:=le2_lt bs o;omega)
 rw[<-e]at hR;exact hR
set_option maxHeartbeats 1000000 in
theorem go_GetInt16 (hl:o+2<=bs.length) (hn:2<=n) (hR:R (.int .i16 (IntKind.i16.wrap (le2 bs o:Int))) H):FnS prog 340 #[bsl b o n c] H R:=by
 have c0:=Zu hb (o:=o) (i:=0) (by omega)
 have b0:=Y9 bs (o+0)
 have i0:(0:Int)<n:=by omega
 have c1:=Zu hb (o:=o) (i:=1) (by omega)
 have b1:=Y9 bs (o+1)
 have i1:(1:Int)<n:=by omega
 apply w340
 unfold s340
 simp only[↓QR (by decide:(0:Int)<=0) i0,↓QR (by decide:(0:Int)<=1) i1,show Int.toNat 0=0 from rfl,show Int.toNat 1=1 from rfl,Nat.zero_mul,Nat.mul_one,Nat.one_mul,↓Qk c0,↓Qk c1,↓Qm,↓Qhs,↓Zj (by decide:(0:Int)<=8)]
 have g:=get2_val (κ:=.i16) (by decide) b0 b1
 simp only[Nat.add_zero]at g⊢
 simp only[show Int.toNat 8=8 from rfl]
 rw[g]
 skip
 skip
 exact hR
set_option maxHeartbeats 1000000 in
theorem Qi4 (hl:o+4<=bs.length) (hn:4<=n) (hR:R (.int .u32 (le4 bs o:Int)) H):FnS prog 343 #[bsl b o n c] H R:=by
 have c0:=Zu hb (o:=o) (i:=0) (by omega)
 have b0:=Y9 bs (o+0)
 have i0:(0:Int)<n:=by omega
 have c1:=Zu hb (o:=o) (i:=1) (by omega)
 have b1:=Y9 bs (o+1)
 have i1:(1:Int)<n:=by omega
 have c2:=Zu hb (o:=o) (i:=2) (by omega)
 have b2:=Y9 bs (o+2)
 have i2:(2:Int)<n:=by omega
 have c3:=Zu hb (o:=o) (i:=3) (by omega)
 have b3:=Y9 bs (o+3)
 have i3:(3:Int)<n:=by omega
 apply w343
 unfold s343
 simp only[↓QR (by decide:(0:Int)<=0) i0,↓QR (by decide:(0:Int)<=1) i1,↓QR (by decide:(0:Int)<=2) i2,↓QR (by decide:(0:Int)<=3) i3,show Int.toNat 0=0 from rfl,show Int.toNat 1=1 from rfl,show Int.toNat 2=2 from rfl,show Int.toNat 3=3 from rfl,Nat.zero_mul,Nat.mul_one,Nat.one_mul,↓Qk c0,↓Qk c1,↓Qk c2,↓Qk c3,↓Qm,↓Qhs,↓Zj (by decide:(0:Int)<=8),↓Zj (by decide:(0:Int)<=16),↓Zj (by decide:(0:Int)<=24)]
 have g:=get4_val (κ:=.u32) (by decide) b0 b1 b2 b3
 simp only[Nat.add_zero]at g⊢
 simp only[show Int.toNat 8=8 from rfl,show Int.toNat 16=16 from rfl,show Int.toNat 24=24 from rfl]
 rw[g]
 rw[<-le4_eq]
 have e:IntKind.u32.wrap (le4 bs o:Int)=le4 bs o:=QV (by omega) (by have:=le4_lt bs o;omega)
 rw[<-e]at hR;exact hR
set_option maxHeartbeats 1000000 in
theorem Qgr (hl:o+4<=bs.length) (hn:4<=n) (hR:R (.int .i32 (IntKind.i32.wrap (le4 bs o:Int))) H):FnS prog 317 #[bsl b o n c] H R:=by
 have c0:=Zu hb (o:=o) (i:=0) (by omega)
 have b0:=Y9 bs (o+0)
 have i0:(0:Int)<n:=by omega
 have c1:=Zu hb (o:=o) (i:=1) (by omega)
 have b1:=Y9 bs (o+1)
 have i1:(1:Int)<n:=by omega
 have c2:=Zu hb (o:=o) (i:=2) (by omega)
 have b2:=Y9 bs (o+2)
 have i2:(2:Int)<n:=by omega
 have c3:=Zu hb (o:=o) (i:=3) (by omega)
 have b3:=Y9 bs (o+3)
 have i3:(3:Int)<n:=by omega
 apply w317
 unfold s317
 simp only[↓QR (by decide:(0:Int)<=0) i0,↓QR (by decide:(0:Int)<=1) i1,↓QR (by decide:(0:Int)<=2) i2,↓QR (by decide:(0:Int)<=3) i3,show Int.toNat 0=0 from rfl,show Int.toNat 1=1 from rfl,show Int.toNat 2=2 from rfl,show Int.toNat 3=3 from rfl,Nat.zero_mul,Nat.mul_one,Nat.one_mul,↓Qk c0,↓Qk c1,↓Qk c2,↓Qk c3,↓Qm,↓Qhs,↓Zj (by decide:(0:Int)<=8),↓Zj (by decide:(0:Int)<=16),↓Zj (by decide:(0:Int)<=24)]
 have g:=get4_val (κ:=.i32) (by decide) b0 b1 b2 b3
 simp only[Nat.add_zero]at g⊢
 simp only[show Int.toNat 8=8 from rfl,show Int.toNat 16=16 from rfl,show Int.toNat 24=24 from rfl]
 rw[g]
 rw[<-le4_eq]
 skip
 exact hR
set_option maxHeartbeats 1000000 in
theorem QhX (hl:o+8<=bs.length) (hn:8<=n) (hR:R (.int .u64 (le8 bs o:Int)) H):FnS prog 345 #[bsl b o n c] H R:=by
 have c0:=Zu hb (o:=o) (i:=0) (by omega)
 have b0:=Y9 bs (o+0)
 have i0:(0:Int)<n:=by omega
 have c1:=Zu hb (o:=o) (i:=1) (by omega)
 have b1:=Y9 bs (o+1)
 have i1:(1:Int)<n:=by omega
 have c2:=Zu hb (o:=o) (i:=2) (by omega)
 have b2:=Y9 bs (o+2)
 have i2:(2:Int)<n:=by omega
 have c3:=Zu hb (o:=o) (i:=3) (by omega)
 have b3:=Y9 bs (o+3)
 have i3:(3:Int)<n:=by omega
 have c4:=Zu hb (o:=o) (i:=4) (by omega)
 have b4:=Y9 bs (o+4)
 have i4:(4:Int)<n:=by omega
 have c5:=Zu hb (o:=o) (i:=5) (by omega)
 have b5:=Y9 bs (o+5)
 have i5:(5:Int)<n:=by omega
 have c6:=Zu hb (o:=o) (i:=6) (by omega)
 have b6:=Y9 bs (o+6)
 have i6:(6:Int)<n:=by omega
 have c7:=Zu hb (o:=o) (i:=7) (by omega)
 have b7:=Y9 bs (o+7)
 have i7:(7:Int)<n:=by omega
 apply w345
 unfold s345
 simp only[↓QR (by decide:(0:Int)<=0) i0,↓QR (by decide:(0:Int)<=1) i1,↓QR (by decide:(0:Int)<=2) i2,↓QR (by decide:(0:Int)<=3) i3,↓QR (by decide:(0:Int)<=4) i4,↓QR (by decide:(0:Int)<=5) i5,↓QR (by decide:(0:Int)<=6) i6,↓QR (by decide:(0:Int)<=7) i7,show Int.toNat 0=0 from rfl,show Int.toNat 1=1 from rfl,show Int.toNat 2=2 from rfl,show Int.toNat 3=3 from rfl,show Int.toNat 4=4 from rfl,show Int.toNat 5=5 from rfl,show Int.toNat 6=6 from rfl,show Int.toNat 7=7 from rfl,Nat.zero_mul,Nat.mul_one,Nat.one_mul,↓Qk c0,↓Qk c1,↓Qk c2,↓Qk c3,↓Qk c4,↓Qk c5,↓Qk c6,↓Qk c7,↓Qm,↓Qhs,↓Zj (by decide:(0:Int)<=8),↓Zj (by decide:(0:Int)<=16),↓Zj (by decide:(0:Int)<=24),↓Zj (by decide:(0:Int)<=32),↓Zj (by decide:(0:Int)<=40),↓Zj (by decide:(0:Int)<=48),↓Zj (by decide:(0:Int)<=56)]
 have g:=get8_val (κ:=.u64) (by decide) b0 b1 b2 b3 b4 b5 b6 b7
 simp only[Nat.add_zero]at g⊢
 simp only[show Int.toNat 8=8 from rfl,show Int.toNat 16=16 from rfl,show Int.toNat 24=24 from rfl,show Int.toNat 32=32 from rfl,show Int.toNat 40=40 from rfl,show Int.toNat 48=48 from rfl,show Int.toNat 56=56 from rfl]
 rw[g]
 rw[<-le8_eq]
 have e:IntKind.u64.wrap (le8 bs o:Int)=le8 bs o:=wrap_u64 (by omega) (by have:=le8_lt bs o;omega)
 rw[<-e]at hR;exact hR
set_option maxHeartbeats 1000000 in
theorem go_GetInt64 (hl:o+8<=bs.length) (hn:8<=n) (hR:R (.int .i64 (IntKind.i64.wrap (le8 bs o:Int))) H):FnS prog 344 #[bsl b o n c] H R:=by
 have c0:=Zu hb (o:=o) (i:=0) (by omega)
 have b0:=Y9 bs (o+0)
 have i0:(0:Int)<n:=by omega
 have c1:=Zu hb (o:=o) (i:=1) (by omega)
 have b1:=Y9 bs (o+1)
 have i1:(1:Int)<n:=by omega
 have c2:=Zu hb (o:=o) (i:=2) (by omega)
 have b2:=Y9 bs (o+2)
 have i2:(2:Int)<n:=by omega
 have c3:=Zu hb (o:=o) (i:=3) (by omega)
 have b3:=Y9 bs (o+3)
 have i3:(3:Int)<n:=by omega
 have c4:=Zu hb (o:=o) (i:=4) (by omega)
 have b4:=Y9 bs (o+4)
 have i4:(4:Int)<n:=by omega
 have c5:=Zu hb (o:=o) (i:=5) (by omega)
 have b5:=Y9 bs (o+5)
 have i5:(5:Int)<n:=by omega
 have c6:=Zu hb (o:=o) (i:=6) (by omega)
 have b6:=Y9 bs (o+6)
 have i6:(6:Int)<n:=by omega
 have c7:=Zu hb (o:=o) (i:=7) (by omega)
 have b7:=Y9 bs (o+7)
 have i7:(7:Int)<n:=by omega
 apply w344
 unfold s344
 simp only[↓QR (by decide:(0:Int)<=0) i0,↓QR (by decide:(0:Int)<=1) i1,↓QR (by decide:(0:Int)<=2) i2,↓QR (by decide:(0:Int)<=3) i3,↓QR (by decide:(0:Int)<=4) i4,↓QR (by decide:(0:Int)<=5) i5,↓QR (by decide:(0:Int)<=6) i6,↓QR (by decide:(0:Int)<=7) i7,show Int.toNat 0=0 from rfl,show Int.toNat 1=1 from rfl,show Int.toNat 2=2 from rfl,show Int.toNat 3=3 from rfl,show Int.toNat 4=4 from rfl,show Int.toNat 5=5 from rfl,show Int.toNat 6=6 from rfl,show Int.toNat 7=7 from rfl,Nat.zero_mul,Nat.mul_one,Nat.one_mul,↓Qk c0,↓Qk c1,↓Qk c2,↓Qk c3,↓Qk c4,↓Qk c5,↓Qk c6,↓Qk c7,↓Qm,↓Qhs,↓Zj (by decide:(0:Int)<=8),↓Zj (by decide:(0:Int)<=16),↓Zj (by decide:(0:Int)<=24),↓Zj (by decide:(0:Int)<=32),↓Zj (by decide:(0:Int)<=40),↓Zj (by decide:(0:Int)<=48),↓Zj (by decide:(0:Int)<=56)]
 have g:=get8_val (κ:=.i64) (by decide) b0 b1 b2 b3 b4 b5 b6 b7
 simp only[Nat.add_zero]at g⊢
 simp only[show Int.toNat 8=8 from rfl,show Int.toNat 16=16 from rfl,show Int.toNat 24=24 from rfl,show Int.toNat 32=32 from rfl,show Int.toNat 40=40 from rfl,show Int.toNat 48=48 from rfl,show Int.toNat 56=56 from rfl]
 rw[g]
 rw[<-le8_eq]
 skip
 exact hR
theorem go_GetUint8 (hl:o+1<=bs.length) (hn:1<=n) (hR:R (.int .u8 (byteN bs o)) H):FnS prog 365 #[bsl b o n c] H R:=by
 have c0:QaH H ⟨b,o,none⟩=some (.int .u8 (byteN bs o)):=hb.at (by omega) (by omega)
 have i0:(0:Int)<n:=by omega
 apply w365
 unfold s365
 simp only[↓QR (Int.le_refl 0) i0,Int.toNat_zero,Nat.zero_mul,↓Qk c0,↓Qm,Nat.add_zero,wrap_u8 (Int.natCast_nonneg _) (by have:=Y9 bs o;omega:((byteN bs o:Nat):Int)<256)]
 exact hR
theorem go_GetInt8 (hl:o+1<=bs.length) (hn:1<=n) (hR:R (.int .i8 (IntKind.i8.wrap (byteN bs o))) H):FnS prog 347 #[bsl b o n c] H R:=by
 have c0:QaH H ⟨b,o,none⟩=some (.int .u8 (byteN bs o)):=hb.at (by omega) (by omega)
 have i0:(0:Int)<n:=by omega
 apply w347
 unfold s347
 simp only[↓QR (Int.le_refl 0) i0,Int.toNat_zero,Nat.zero_mul,↓Qk c0,↓Qm,Nat.add_zero]
 exact hR
theorem go_GetBool (hl:o+1<=bs.length) (hn:1<=n) (hR:R (.bool (decide ((byteN bs o:Int)=1))) H):FnS prog 342 #[bsl b o n c] H R:=by
 have c0:QaH H ⟨b,o,none⟩=some (.int .u8 (byteN bs o)):=hb.at (by omega) (by omega)
 have i0:(0:Int)<n:=by omega
 apply w342
 unfold s342
 simp only[↓QR (Int.le_refl 0) i0,Int.toNat_zero,Nat.zero_mul,↓Qk c0,↓Yt,Nat.add_zero]
 exact hR
theorem go_GetByte (hl:o+1<=bs.length) (hn:1<=n) (hR:R (.int .u8 (byteN bs o)) H):FnS prog 341 #[bsl b o n c] H R:=by
 apply w341
 unfold s341
 refine go_GetUint8 hb hl hn ?_
 exact hR
theorem Z3 (hl:o+4<=bs.length) (hn:4<=n) (hR:R (.int .u32 (le4 bs o:Int)) H):FnS prog 251 #[bsl b o n c] H R:=by
 apply w251
 unfold s251
 refine Qgr hb hl hn ?_
 have e:IntKind.u32.wrap (IntKind.i32.wrap (le4 bs o:Int))=(le4 bs o:Int):=by
  have h:=QcX .i32 (le4 bs o:Int)
  have h2:=le4_lt bs o
  rw[Qeo .u32 (y:=(le4 bs o:Int)) (by exact h)]
  exact QV (by omega) (by omega)
 simp only[↓Qm,e]
 exact hR
theorem go_GetSOffsetT (hl:o+4<=bs.length) (hn:4<=n) (hR:R (.int .i32 (IntKind.i32.wrap (le4 bs o:Int))) H):FnS prog 364 #[bsl b o n c] H R:=by
 apply w364
 unfold s364
 refine Qgr hb hl hn ?_
 exact hR
theorem QcQ (hl:o+2<=bs.length) (hn:2<=n) (hR:R (.int .u16 (le2 bs o:Int)) H):FnS prog 360 #[bsl b o n c] H R:=by
 apply w360
 unfold s360
 refine QhU hb hl hn ?_
 exact hR
omit hb in
theorem YY {w:World} {n:Int}:(callFunc 76 #[.int .u32 n]).run prog w= .ok (.value (.float .f32 n.toNat)) w:=by
 rw[run_callFunc_extern (fn:=Tryz.f76) (e:=Extern.MathFloatBits.float32frombits) Tryz.func76 (by kernel_rfl) (by kernel_rfl) (by kernel_rfl) (by kernel_rfl)]
 rfl
omit hb in
theorem QW {P:Program} {f:FuncId} {args:Array Value} {v:Value} {k:Value->Prop} (h:∀w,(callFunc f args).run P w= .ok (.value v) w) (hk:k v):Qbc P f args k:=⟨v,h,hk⟩
theorem go_GetFloat32 (hl:o+4<=bs.length) (hn:4<=n) (hR:R (.float .f32 (le4 bs o)) H):FnS prog 346 #[bsl b o n c] H R:=by
 apply w346
 unfold s346
 refine Qi4 hb hl hn ?_
 refine QW (fun w=>YY) ?_
 exact hR
omit hb in
theorem QbF {w:World} {n:Int}:(callFunc 80 #[.int .u64 n]).run prog w= .ok (.value (.float .f64 n.toNat)) w:=by
 rw[run_callFunc_extern (fn:=Tryz.f80) (e:=Extern.MathFloatBits.float64frombits) Tryz.func80 (by kernel_rfl) (by kernel_rfl) (by kernel_rfl) (by kernel_rfl)]
 rfl
theorem go_GetFloat64 (hl:o+8<=bs.length) (hn:8<=n) (hR:R (.float .f64 (le8 bs o)) H):FnS prog 348 #[bsl b o n c] H R:=by
 apply w348
 unfold s348
 refine QhX hb hl hn ?_
 refine QW (fun w=>QbF) ?_
 exact hR
end
end Go.Proofs
namespace Go.Proofs
open Go Go.Vc
open Tryz (prog)
set_option maxRecDepth 100000
def s292 (a b:Value) (h:Qf) (R:Kn):Prop:=
 Qs a fun f=>
 Qg f 1 fun g=>
 LdK h g fun i=>
 QC .i32 i fun j=>
 Qs a fun l=>
 Qg l 1 fun m=>
 LdK h m fun o=>
 Qa prog 338 #[a,o] h fun p c=>
 Qn h c<|
 Ql prog .sub 313 j p fun q=>
 QC .u32 q fun d=>
 Qa prog 339 #[a,d] c fun r e=>
 Ql prog .lss 277 b r fun s=>
 IfK s
 (QC .u32 b fun t=>
 Ql prog .add 68 d t fun u=>
 Qa prog 339 #[a,u] e fun v w=>
 R v w)
 (R (.int .u16 0) e)
theorem w292 {a b h R} (H:s292 a b h R):FnS prog 292 #[a,b] h R:=wq Tryz.func292 (by kernel_rfl) H
def s293 (a b:Value) (h:Qf) (R:Kn):Prop:=
 Qs a fun c=>
 Qg c 0 fun d=>
 LdK h d fun e=>
 QbH 1 e (some b) none fun f=>
 Qa prog 340 #[f] h fun g i=>
 R g i
theorem w293 {a b h R} (H:s293 a b h R):FnS prog 293 #[a,b] h R:=wq Tryz.func293 (by kernel_rfl) H
def s294 (a b:Value) (h:Qf) (R:Kn):Prop:=
 Qs a fun g=>
 Qg g 0 fun i=>
 LdK h i fun j=>
 QbH 1 j (some b) none fun l=>
 Qa prog 251 #[l] h fun m c=>
 Ql prog .add 68 b m fun d=>
 Ql prog .add 68 d (.int .u32 4) fun e=>
 Qs a fun o=>
 Qg o 0 fun p=>
 LdK c p fun q=>
 QbH 1 q (some d) none fun r=>
 Qa prog 251 #[r] c fun s f=>
 Qs a fun t=>
 Qg t 0 fun u=>
 LdK f u fun v=>
 Ql prog .add 68 e s fun w=>
 QbH 1 v (some e) (some w) fun y=>
 R y f
theorem w294 {a b h R} (H:s294 a b h R):FnS prog 294 #[a,b] h R:=wq Tryz.func294 (by kernel_rfl) H
def s295 (a b:Value) (h:Qf) (R:Kn):Prop:=
 Qs a fun c=>
 Qg c 0 fun d=>
 LdK h d fun e=>
 QbH 1 e (some b) none fun f=>
 Qa prog 341 #[f] h fun g i=>
 R g i
theorem w295 {a b h R} (H:s295 a b h R):FnS prog 295 #[a,b] h R:=wq Tryz.func295 (by kernel_rfl) H
def s296 (a b:Value) (h:Qf) (R:Kn):Prop:=
 Qs a fun c=>
 Qg c 0 fun d=>
 LdK h d fun e=>
 QbH 1 e (some b) none fun f=>
 Qa prog 342 #[f] h fun g i=>
 R g i
theorem w296 {a b h R} (H:s296 a b h R):FnS prog 296 #[a,b] h R:=wq Tryz.func296 (by kernel_rfl) H
def s297 (a b:Value) (h:Qf) (R:Kn):Prop:=
 Qs a fun c=>
 Qg c 0 fun d=>
 LdK h d fun e=>
 QbH 1 e (some b) none fun f=>
 Qa prog 317 #[f] h fun g i=>
 R g i
theorem w297 {a b h R} (H:s297 a b h R):FnS prog 297 #[a,b] h R:=wq Tryz.func297 (by kernel_rfl) H
def s298 (a b:Value) (h:Qf) (R:Kn):Prop:=
 Qs a fun c=>
 Qg c 0 fun d=>
 LdK h d fun e=>
 QbH 1 e (some b) none fun f=>
 Qa prog 343 #[f] h fun g i=>
 R g i
theorem w298 {a b h R} (H:s298 a b h R):FnS prog 298 #[a,b] h R:=wq Tryz.func298 (by kernel_rfl) H
def s299 (a b:Value) (h:Qf) (R:Kn):Prop:=
 Qs a fun c=>
 Qg c 0 fun d=>
 LdK h d fun e=>
 QbH 1 e (some b) none fun f=>
 Qa prog 344 #[f] h fun g i=>
 R g i
theorem w299 {a b h R} (H:s299 a b h R):FnS prog 299 #[a,b] h R:=wq Tryz.func299 (by kernel_rfl) H
def s300 (a b:Value) (h:Qf) (R:Kn):Prop:=
 Qs a fun c=>
 Qg c 0 fun d=>
 LdK h d fun e=>
 QbH 1 e (some b) none fun f=>
 Qa prog 345 #[f] h fun g i=>
 R g i
theorem w300 {a b h R} (H:s300 a b h R):FnS prog 300 #[a,b] h R:=wq Tryz.func300 (by kernel_rfl) H
def s301 (a b:Value) (h:Qf) (R:Kn):Prop:=
 Qs a fun c=>
 Qg c 0 fun d=>
 LdK h d fun e=>
 QbH 1 e (some b) none fun f=>
 Qa prog 346 #[f] h fun g i=>
 R g i
theorem w301 {a b h R} (H:s301 a b h R):FnS prog 301 #[a,b] h R:=wq Tryz.func301 (by kernel_rfl) H
def s302 (b a:Value) (h:Qf) (R:Kn):Prop:=
 Qs b fun c=>
 Qg c 0 fun d=>
 LdK h d fun e=>
 QbH 1 e (some a) none fun f=>
 Qa prog 251 #[f] h fun g i=>
 Ql prog .add 68 a g fun j=>
 R j i
theorem w302 {a b h R} (H:s302 a b h R):FnS prog 302 #[a,b] h R:=wq Tryz.func302 (by kernel_rfl) H
def s304 (a b:Value) (h:Qf) (R:Kn):Prop:=
 Qs a fun c=>
 Qg c 0 fun d=>
 LdK h d fun e=>
 QbH 1 e (some b) none fun f=>
 Qa prog 347 #[f] h fun g i=>
 R g i
theorem w304 {a b h R} (H:s304 a b h R):FnS prog 304 #[a,b] h R:=wq Tryz.func304 (by kernel_rfl) H
def s307 (a b:Value) (h:Qf) (R:Kn):Prop:=
 Qs a fun c=>
 Qg c 0 fun d=>
 LdK h d fun e=>
 QbH 1 e (some b) none fun f=>
 Qa prog 348 #[f] h fun g i=>
 R g i
theorem w307 {a b h R} (H:s307 a b h R):FnS prog 307 #[a,b] h R:=wq Tryz.func307 (by kernel_rfl) H
def s308 (a d:Value) (h:Qf) (R:Kn):Prop:=
 Qs a fun e=>
 Qg e 1 fun f=>
 LdK h f fun g=>
 Ql prog .add 68 d g fun b=>
 Qs a fun i=>
 Qg i 0 fun j=>
 LdK h j fun l=>
 QbH 1 l (some b) none fun m=>
 Qa prog 251 #[m] h fun o c=>
 Ql prog .add 68 b o fun p=>
 Qs a fun q=>
 Qg q 0 fun r=>
 LdK c r fun s=>
 QbH 1 s (some p) none fun t=>
 Qa prog 251 #[t] c fun u v=>
 QC .i64 u fun w=>
 R w v
theorem w308 {a b h R} (H:s308 a b h R):FnS prog 308 #[a,b] h R:=wq Tryz.func308 (by kernel_rfl) H
def s309 (a c:Value) (h:Qf) (R:Kn):Prop:=
 Qs a fun d=>
 Qg d 1 fun e=>
 LdK h e fun f=>
 Ql prog .add 68 c f fun b=>
 Qs a fun g=>
 Qg g 0 fun i=>
 LdK h i fun j=>
 QbH 1 j (some b) none fun l=>
 Qa prog 251 #[l] h fun m o=>
 Ql prog .add 68 b m fun p=>
 Ql prog .add 68 p (.int .u32 4) fun q=>
 R q o
theorem w309 {a b h R} (H:s309 a b h R):FnS prog 309 #[a,b] h R:=wq Tryz.func309 (by kernel_rfl) H
def s311 (a b:Value) (h:Qf) (R:Kn):Prop:=
 Qs a fun c=>
 Qg c 0 fun d=>
 LdK h d fun e=>
 QbH 1 e (some b) none fun f=>
 Qa prog 349 #[f] h fun g i=>
 R g i
theorem w311 {a b h R} (H:s311 a b h R):FnS prog 311 #[a,b] h R:=wq Tryz.func311 (by kernel_rfl) H
def s314 (a b e:Value) (h:Qf) (R:Kn):Prop:=
 Qs a fun f=>
 Qg f 1 fun g=>
 LdK h g fun i=>
 Ql prog .add 68 e i fun c=>
 Qa prog 350 #[a,c] h fun j l=>
 Ql prog .add 68 c j fun m=>
 Qs b fun o=>
 Qg o 1 fun p=>
 StK l 1 p m fun d=>
 Qs a fun q=>
 Qg q 0 fun r=>
 LdK d r fun s=>
 Qs b fun t=>
 Qg t 0 fun u=>
 StK d 1 u s fun v=>
 R (.tuple #[]) v
theorem w314 {a b c h R} (H:s314 a b c h R):FnS prog 314 #[a,b,c] h R:=wq Tryz.func314 (by kernel_rfl) H
def s338 (a b:Value) (h:Qf) (R:Kn):Prop:=
 Qs a fun c=>
 Qg c 0 fun d=>
 LdK h d fun e=>
 QbH 1 e (some b) none fun f=>
 Qa prog 364 #[f] h fun g i=>
 R g i
theorem w338 {a b h R} (H:s338 a b h R):FnS prog 338 #[a,b] h R:=wq Tryz.func338 (by kernel_rfl) H
def s339 (a b:Value) (h:Qf) (R:Kn):Prop:=
 Qs a fun c=>
 Qg c 0 fun d=>
 LdK h d fun e=>
 QbH 1 e (some b) none fun f=>
 Qa prog 360 #[f] h fun g i=>
 R g i
theorem w339 {a b h R} (H:s339 a b h R):FnS prog 339 #[a,b] h R:=wq Tryz.func339 (by kernel_rfl) H
def s350 (a b:Value) (h:Qf) (R:Kn):Prop:=
 Qs a fun c=>
 Qg c 0 fun d=>
 LdK h d fun e=>
 QbH 1 e (some b) none fun f=>
 Qa prog 251 #[f] h fun g i=>
 R g i
theorem w350 {a b h R} (H:s350 a b h R):FnS prog 350 #[a,b] h R:=wq Tryz.func350 (by kernel_rfl) H
end Go.Proofs
namespace Go.Proofs
open Go Go.Vc
open Tryz (prog)
set_option maxRecDepth 100000
def s40 (a b:Value) (h:Qf) (R:Kn):Prop:=
 QbH 1 a (some b) none fun d=>
 Qa prog 251 #[d] h fun e f=>
 QQ z232.toList [] fun g=>
 YO f (.cells (Value.cells g) 232) fun c i=>
 Ql prog .add 68 e b fun j=>
 Qa prog 248 #[c,a,j] i fun _x18 l=>
 R c l
theorem w40 {a b h R} (H:s40 a b h R):FnS prog 40 #[a,b] h R:=wq Tryz.func40 (by kernel_rfl) H
def s86 (a b:Value) (h:Qf) (R:Kn):Prop:=
 Qa prog 260 #[a,(.int .i64 4),b,(.int .i64 2)] h fun c d=>
 R c d
theorem w86 {a b h R} (H:s86 a b h R):FnS prog 86 #[a,b] h R:=wq Tryz.func86 (by kernel_rfl) H
def s89 (a b:Value) (h:Qf) (R:Kn):Prop:=
 Qa prog 260 #[a,(.int .i64 4),b,(.int .i64 4)] h fun c d=>
 R c d
theorem w89 {a b h R} (H:s89 a b h R):FnS prog 89 #[a,b] h R:=wq Tryz.func89 (by kernel_rfl) H
def s90 (a b:Value) (h:Qf) (R:Kn):Prop:=
 Qa prog 260 #[a,(.int .i64 4),b,(.int .i64 4)] h fun c d=>
 R c d
theorem w90 {a b h R} (H:s90 a b h R):FnS prog 90 #[a,b] h R:=wq Tryz.func90 (by kernel_rfl) H
def s92 (a b:Value) (h:Qf) (R:Kn):Prop:=
 Qa prog 260 #[a,(.int .i64 1),b,(.int .i64 1)] h fun c d=>
 R c d
theorem w92 {a b h R} (H:s92 a b h R):FnS prog 92 #[a,b] h R:=wq Tryz.func92 (by kernel_rfl) H
def s94 (a b:Value) (h:Qf) (R:Kn):Prop:=
 Qa prog 260 #[a,(.int .i64 4),b,(.int .i64 4)] h fun c d=>
 R c d
theorem w94 {a b h R} (H:s94 a b h R):FnS prog 94 #[a,b] h R:=wq Tryz.func94 (by kernel_rfl) H
def s95 (a b:Value) (h:Qf) (R:Kn):Prop:=
 Qa prog 260 #[a,(.int .i64 8),b,(.int .i64 4)] h fun c d=>
 R c d
theorem w95 {a b h R} (H:s95 a b h R):FnS prog 95 #[a,b] h R:=wq Tryz.func95 (by kernel_rfl) H
def s97 (a b:Value) (h:Qf) (R:Kn):Prop:=
 Qa prog 260 #[a,(.int .i64 4),b,(.int .i64 2)] h fun c d=>
 R c d
theorem w97 {a b h R} (H:s97 a b h R):FnS prog 97 #[a,b] h R:=wq Tryz.func97 (by kernel_rfl) H
def s98 (a b:Value) (h:Qf) (R:Kn):Prop:=
 Qa prog 260 #[a,(.int .i64 8),b,(.int .i64 8)] h fun c d=>
 R c d
theorem w98 {a b h R} (H:s98 a b h R):FnS prog 98 #[a,b] h R:=wq Tryz.func98 (by kernel_rfl) H
def s100 (a b:Value) (h:Qf) (R:Kn):Prop:=
 Qa prog 260 #[a,(.int .i64 8),b,(.int .i64 8)] h fun c d=>
 R c d
theorem w100 {a b h R} (H:s100 a b h R):FnS prog 100 #[a,b] h R:=wq Tryz.func100 (by kernel_rfl) H
def s104 (a b:Value) (h:Qf) (R:Kn):Prop:=
 Qa prog 260 #[a,(.int .i64 4),b,(.int .i64 4)] h fun c d=>
 R c d
theorem w104 {a b h R} (H:s104 a b h R):FnS prog 104 #[a,b] h R:=wq Tryz.func104 (by kernel_rfl) H
def s105 (a b:Value) (h:Qf) (R:Kn):Prop:=
 Qa prog 260 #[a,(.int .i64 8),b,(.int .i64 8)] h fun c d=>
 R c d
theorem w105 {a b h R} (H:s105 a b h R):FnS prog 105 #[a,b] h R:=wq Tryz.func105 (by kernel_rfl) H
def s107 (a b:Value) (h:Qf) (R:Kn):Prop:=
 Qa prog 260 #[a,(.int .i64 4),b,(.int .i64 4)] h fun c d=>
 R c d
theorem w107 {a b h R} (H:s107 a b h R):FnS prog 107 #[a,b] h R:=wq Tryz.func107 (by kernel_rfl) H
def s108 (a b:Value) (h:Qf) (R:Kn):Prop:=
 Qa prog 260 #[a,(.int .i64 8),b,(.int .i64 8)] h fun c d=>
 R c d
theorem w108 {a b h R} (H:s108 a b h R):FnS prog 108 #[a,b] h R:=wq Tryz.func108 (by kernel_rfl) H
def s109 (a b:Value) (h:Qf) (R:Kn):Prop:=
 Qa prog 260 #[a,(.int .i64 8),b,(.int .i64 8)] h fun c d=>
 R c d
theorem w109 {a b h R} (H:s109 a b h R):FnS prog 109 #[a,b] h R:=wq Tryz.func109 (by kernel_rfl) H
def s112 (a b:Value) (h:Qf) (R:Kn):Prop:=
 Qa prog 260 #[a,(.int .i64 1),b,(.int .i64 1)] h fun c d=>
 R c d
theorem w112 {a b h R} (H:s112 a b h R):FnS prog 112 #[a,b] h R:=wq Tryz.func112 (by kernel_rfl) H
def s114 (a:Value) (h:Qf) (R:Kn):Prop:=
 Qa prog 278 #[a,(.int .i64 49)] h fun _x3 b=>
 R (.tuple #[]) b
theorem w114 {a h R} (H:s114 a h R):FnS prog 114 #[a] h R:=wq Tryz.func114 (by kernel_rfl) H
def s116 (a b:Value) (h:Qf) (R:Kn):Prop:=
 Qa prog 280 #[a,(.int .i64 0),b,(.int .u32 0)] h fun _x6 c=>
 R (.tuple #[]) c
theorem w116 {a b h R} (H:s116 a b h R):FnS prog 116 #[a,b] h R:=wq Tryz.func116 (by kernel_rfl) H
def s117 (a b:Value) (h:Qf) (R:Kn):Prop:=
 Qa prog 281 #[a,(.int .i64 1),b,(.int .i16 150)] h fun _x6 c=>
 R (.tuple #[]) c
theorem w117 {a b h R} (H:s117 a b h R):FnS prog 117 #[a,b] h R:=wq Tryz.func117 (by kernel_rfl) H
def s118 (a b:Value) (h:Qf) (R:Kn):Prop:=
 Qa prog 281 #[a,(.int .i64 2),b,(.int .i16 100)] h fun _x6 c=>
 R (.tuple #[]) c
theorem w118 {a b h R} (H:s118 a b h R):FnS prog 118 #[a,b] h R:=wq Tryz.func118 (by kernel_rfl) H
def s119 (a b:Value) (h:Qf) (R:Kn):Prop:=
 Qa prog 282 #[a,(.int .i64 3),b,(.int .u32 0)] h fun _x6 c=>
 R (.tuple #[]) c
theorem w119 {a b h R} (H:s119 a b h R):FnS prog 119 #[a,b] h R:=wq Tryz.func119 (by kernel_rfl) H
def s120 (a b:Value) (h:Qf) (R:Kn):Prop:=
 Qa prog 282 #[a,(.int .i64 5),b,(.int .u32 0)] h fun _x6 c=>
 R (.tuple #[]) c
theorem w120 {a b h R} (H:s120 a b h R):FnS prog 120 #[a,b] h R:=wq Tryz.func120 (by kernel_rfl) H
def s121 (a b:Value) (h:Qf) (R:Kn):Prop:=
 Qa prog 283 #[a,(.int .i64 6),b,(.int .u8 8)] h fun _x6 c=>
 R (.tuple #[]) c
theorem w121 {a b h R} (H:s121 a b h R):FnS prog 121 #[a,b] h R:=wq Tryz.func121 (by kernel_rfl) H
def s122 (a b:Value) (h:Qf) (R:Kn):Prop:=
 Qa prog 283 #[a,(.int .i64 7),b,(.int .u8 0)] h fun _x6 c=>
 R (.tuple #[]) c
theorem w122 {a b h R} (H:s122 a b h R):FnS prog 122 #[a,b] h R:=wq Tryz.func122 (by kernel_rfl) H
def s123 (a b:Value) (h:Qf) (R:Kn):Prop:=
 Qa prog 282 #[a,(.int .i64 8),b,(.int .u32 0)] h fun _x6 c=>
 R (.tuple #[]) c
theorem w123 {a b h R} (H:s123 a b h R):FnS prog 123 #[a,b] h R:=wq Tryz.func123 (by kernel_rfl) H
def s124 (a b:Value) (h:Qf) (R:Kn):Prop:=
 Qa prog 282 #[a,(.int .i64 9),b,(.int .u32 0)] h fun _x6 c=>
 R (.tuple #[]) c
theorem w124 {a b h R} (H:s124 a b h R):FnS prog 124 #[a,b] h R:=wq Tryz.func124 (by kernel_rfl) H
def s125 (a b:Value) (h:Qf) (R:Kn):Prop:=
 Qa prog 282 #[a,(.int .i64 10),b,(.int .u32 0)] h fun _x6 c=>
 R (.tuple #[]) c
theorem w125 {a b h R} (H:s125 a b h R):FnS prog 125 #[a,b] h R:=wq Tryz.func125 (by kernel_rfl) H
def s126 (a b:Value) (h:Qf) (R:Kn):Prop:=
 Qa prog 282 #[a,(.int .i64 11),b,(.int .u32 0)] h fun _x6 c=>
 R (.tuple #[]) c
theorem w126 {a b h R} (H:s126 a b h R):FnS prog 126 #[a,b] h R:=wq Tryz.func126 (by kernel_rfl) H
def s127 (a b:Value) (h:Qf) (R:Kn):Prop:=
 Qa prog 282 #[a,(.int .i64 12),b,(.int .u32 0)] h fun _x6 c=>
 R (.tuple #[]) c
theorem w127 {a b h R} (H:s127 a b h R):FnS prog 127 #[a,b] h R:=wq Tryz.func127 (by kernel_rfl) H
def s128 (a b:Value) (h:Qf) (R:Kn):Prop:=
 Qa prog 282 #[a,(.int .i64 13),b,(.int .u32 0)] h fun _x6 c=>
 R (.tuple #[]) c
theorem w128 {a b h R} (H:s128 a b h R):FnS prog 128 #[a,b] h R:=wq Tryz.func128 (by kernel_rfl) H
def s129 (a b:Value) (h:Qf) (R:Kn):Prop:=
 Qa prog 282 #[a,(.int .i64 14),b,(.int .u32 0)] h fun _x6 c=>
 R (.tuple #[]) c
theorem w129 {a b h R} (H:s129 a b h R):FnS prog 129 #[a,b] h R:=wq Tryz.func129 (by kernel_rfl) H
def s130 (a b:Value) (h:Qf) (R:Kn):Prop:=
 Qa prog 284 #[a,(.int .i64 15),b,(.bool false)] h fun _x6 c=>
 R (.tuple #[]) c
theorem w130 {a b h R} (H:s130 a b h R):FnS prog 130 #[a,b] h R:=wq Tryz.func130 (by kernel_rfl) H
def s131 (a b:Value) (h:Qf) (R:Kn):Prop:=
 Qa prog 285 #[a,(.int .i64 16),b,(.int .i32 0)] h fun _x6 c=>
 R (.tuple #[]) c
theorem w131 {a b h R} (H:s131 a b h R):FnS prog 131 #[a,b] h R:=wq Tryz.func131 (by kernel_rfl) H
def s132 (a b:Value) (h:Qf) (R:Kn):Prop:=
 Qa prog 286 #[a,(.int .i64 17),b,(.int .u32 0)] h fun _x6 c=>
 R (.tuple #[]) c
theorem w132 {a b h R} (H:s132 a b h R):FnS prog 132 #[a,b] h R:=wq Tryz.func132 (by kernel_rfl) H
def s133 (a b:Value) (h:Qf) (R:Kn):Prop:=
 Qa prog 287 #[a,(.int .i64 18),b,(.int .i64 0)] h fun _x6 c=>
 R (.tuple #[]) c
theorem w133 {a b h R} (H:s133 a b h R):FnS prog 133 #[a,b] h R:=wq Tryz.func133 (by kernel_rfl) H
def s134 (a b:Value) (h:Qf) (R:Kn):Prop:=
 Qa prog 288 #[a,(.int .i64 19),b,(.int .u64 0)] h fun _x6 c=>
 R (.tuple #[]) c
theorem w134 {a b h R} (H:s134 a b h R):FnS prog 134 #[a,b] h R:=wq Tryz.func134 (by kernel_rfl) H
def s135 (a b:Value) (h:Qf) (R:Kn):Prop:=
 Qa prog 285 #[a,(.int .i64 20),b,(.int .i32 0)] h fun _x6 c=>
 R (.tuple #[]) c
theorem w135 {a b h R} (H:s135 a b h R):FnS prog 135 #[a,b] h R:=wq Tryz.func135 (by kernel_rfl) H
def s136 (a b:Value) (h:Qf) (R:Kn):Prop:=
 Qa prog 286 #[a,(.int .i64 21),b,(.int .u32 0)] h fun _x6 c=>
 R (.tuple #[]) c
theorem w136 {a b h R} (H:s136 a b h R):FnS prog 136 #[a,b] h R:=wq Tryz.func136 (by kernel_rfl) H
def s137 (a b:Value) (h:Qf) (R:Kn):Prop:=
 Qa prog 287 #[a,(.int .i64 22),b,(.int .i64 0)] h fun _x6 c=>
 R (.tuple #[]) c
theorem w137 {a b h R} (H:s137 a b h R):FnS prog 137 #[a,b] h R:=wq Tryz.func137 (by kernel_rfl) H
def s138 (a b:Value) (h:Qf) (R:Kn):Prop:=
 Qa prog 288 #[a,(.int .i64 23),b,(.int .u64 0)] h fun _x6 c=>
 R (.tuple #[]) c
theorem w138 {a b h R} (H:s138 a b h R):FnS prog 138 #[a,b] h R:=wq Tryz.func138 (by kernel_rfl) H
def s139 (a b:Value) (h:Qf) (R:Kn):Prop:=
 Qa prog 282 #[a,(.int .i64 24),b,(.int .u32 0)] h fun _x6 c=>
 R (.tuple #[]) c
theorem w139 {a b h R} (H:s139 a b h R):FnS prog 139 #[a,b] h R:=wq Tryz.func139 (by kernel_rfl) H
def s140 (a b:Value) (h:Qf) (R:Kn):Prop:=
 Qa prog 289 #[a,(.int .i64 25),b,(.float .f32 1078530000)] h fun _x6 c=>
 R (.tuple #[]) c
theorem w140 {a b h R} (H:s140 a b h R):FnS prog 140 #[a,b] h R:=wq Tryz.func140 (by kernel_rfl) H
def s141 (a b:Value) (h:Qf) (R:Kn):Prop:=
 Qa prog 289 #[a,(.int .i64 26),b,(.float .f32 1077936128)] h fun _x6 c=>
 R (.tuple #[]) c
theorem w141 {a b h R} (H:s141 a b h R):FnS prog 141 #[a,b] h R:=wq Tryz.func141 (by kernel_rfl) H
def s142 (a b:Value) (h:Qf) (R:Kn):Prop:=
 Qa prog 289 #[a,(.int .i64 27),b,(.float .f32 0)] h fun _x6 c=>
 R (.tuple #[]) c
theorem w142 {a b h R} (H:s142 a b h R):FnS prog 142 #[a,b] h R:=wq Tryz.func142 (by kernel_rfl) H
def s143 (a b:Value) (h:Qf) (R:Kn):Prop:=
 Qa prog 282 #[a,(.int .i64 28),b,(.int .u32 0)] h fun _x6 c=>
 R (.tuple #[]) c
theorem w143 {a b h R} (H:s143 a b h R):FnS prog 143 #[a,b] h R:=wq Tryz.func143 (by kernel_rfl) H
def s144 (a b:Value) (h:Qf) (R:Kn):Prop:=
 Qa prog 282 #[a,(.int .i64 29),b,(.int .u32 0)] h fun _x6 c=>
 R (.tuple #[]) c
theorem w144 {a b h R} (H:s144 a b h R):FnS prog 144 #[a,b] h R:=wq Tryz.func144 (by kernel_rfl) H
def s145 (a b:Value) (h:Qf) (R:Kn):Prop:=
 Qa prog 282 #[a,(.int .i64 30),b,(.int .u32 0)] h fun _x6 c=>
 R (.tuple #[]) c
theorem w145 {a b h R} (H:s145 a b h R):FnS prog 145 #[a,b] h R:=wq Tryz.func145 (by kernel_rfl) H
def s146 (a b:Value) (h:Qf) (R:Kn):Prop:=
 Qa prog 282 #[a,(.int .i64 31),b,(.int .u32 0)] h fun _x6 c=>
 R (.tuple #[]) c
theorem w146 {a b h R} (H:s146 a b h R):FnS prog 146 #[a,b] h R:=wq Tryz.func146 (by kernel_rfl) H
def s147 (a b:Value) (h:Qf) (R:Kn):Prop:=
 Qa prog 282 #[a,(.int .i64 32),b,(.int .u32 0)] h fun _x6 c=>
 R (.tuple #[]) c
theorem w147 {a b h R} (H:s147 a b h R):FnS prog 147 #[a,b] h R:=wq Tryz.func147 (by kernel_rfl) H
def s148 (a b:Value) (h:Qf) (R:Kn):Prop:=
 Qa prog 282 #[a,(.int .i64 33),b,(.int .u32 0)] h fun _x6 c=>
 R (.tuple #[]) c
theorem w148 {a b h R} (H:s148 a b h R):FnS prog 148 #[a,b] h R:=wq Tryz.func148 (by kernel_rfl) H
def s149 (a b:Value) (h:Qf) (R:Kn):Prop:=
 Qa prog 282 #[a,(.int .i64 34),b,(.int .u32 0)] h fun _x6 c=>
 R (.tuple #[]) c
theorem w149 {a b h R} (H:s149 a b h R):FnS prog 149 #[a,b] h R:=wq Tryz.func149 (by kernel_rfl) H
def s150 (a b:Value) (h:Qf) (R:Kn):Prop:=
 Qa prog 282 #[a,(.int .i64 35),b,(.int .u32 0)] h fun _x6 c=>
 R (.tuple #[]) c
theorem w150 {a b h R} (H:s150 a b h R):FnS prog 150 #[a,b] h R:=wq Tryz.func150 (by kernel_rfl) H
def s151 (a b:Value) (h:Qf) (R:Kn):Prop:=
 Qa prog 288 #[a,(.int .i64 36),b,(.int .u64 0)] h fun _x6 c=>
 R (.tuple #[]) c
theorem w151 {a b h R} (H:s151 a b h R):FnS prog 151 #[a,b] h R:=wq Tryz.func151 (by kernel_rfl) H
def s152 (a b:Value) (h:Qf) (R:Kn):Prop:=
 Qa prog 282 #[a,(.int .i64 37),b,(.int .u32 0)] h fun _x6 c=>
 R (.tuple #[]) c
theorem w152 {a b h R} (H:s152 a b h R):FnS prog 152 #[a,b] h R:=wq Tryz.func152 (by kernel_rfl) H
def s153 (a b:Value) (h:Qf) (R:Kn):Prop:=
 Qa prog 282 #[a,(.int .i64 38),b,(.int .u32 0)] h fun _x6 c=>
 R (.tuple #[]) c
theorem w153 {a b h R} (H:s153 a b h R):FnS prog 153 #[a,b] h R:=wq Tryz.func153 (by kernel_rfl) H
def s154 (a b:Value) (h:Qf) (R:Kn):Prop:=
 Qa prog 288 #[a,(.int .i64 39),b,(.int .u64 0)] h fun _x6 c=>
 R (.tuple #[]) c
theorem w154 {a b h R} (H:s154 a b h R):FnS prog 154 #[a,b] h R:=wq Tryz.func154 (by kernel_rfl) H
def s155 (a b:Value) (h:Qf) (R:Kn):Prop:=
 Qa prog 282 #[a,(.int .i64 40),b,(.int .u32 0)] h fun _x6 c=>
 R (.tuple #[]) c
theorem w155 {a b h R} (H:s155 a b h R):FnS prog 155 #[a,b] h R:=wq Tryz.func155 (by kernel_rfl) H
def s156 (a b:Value) (h:Qf) (R:Kn):Prop:=
 Qa prog 288 #[a,(.int .i64 41),b,(.int .u64 0)] h fun _x6 c=>
 R (.tuple #[]) c
theorem w156 {a b h R} (H:s156 a b h R):FnS prog 156 #[a,b] h R:=wq Tryz.func156 (by kernel_rfl) H
def s157 (a b:Value) (h:Qf) (R:Kn):Prop:=
 Qa prog 282 #[a,(.int .i64 42),b,(.int .u32 0)] h fun _x6 c=>
 R (.tuple #[]) c
theorem w157 {a b h R} (H:s157 a b h R):FnS prog 157 #[a,b] h R:=wq Tryz.func157 (by kernel_rfl) H
def s158 (a b:Value) (h:Qf) (R:Kn):Prop:=
 Qa prog 283 #[a,(.int .i64 43),b,(.int .u8 0)] h fun _x6 c=>
 R (.tuple #[]) c
theorem w158 {a b h R} (H:s158 a b h R):FnS prog 158 #[a,b] h R:=wq Tryz.func158 (by kernel_rfl) H
def s159 (a b:Value) (h:Qf) (R:Kn):Prop:=
 Qa prog 282 #[a,(.int .i64 44),b,(.int .u32 0)] h fun _x6 c=>
 R (.tuple #[]) c
theorem w159 {a b h R} (H:s159 a b h R):FnS prog 159 #[a,b] h R:=wq Tryz.func159 (by kernel_rfl) H
def s160 (a b:Value) (h:Qf) (R:Kn):Prop:=
 Qa prog 283 #[a,(.int .i64 45),b,(.int .u8 0)] h fun _x6 c=>
 R (.tuple #[]) c
theorem w160 {a b h R} (H:s160 a b h R):FnS prog 160 #[a,b] h R:=wq Tryz.func160 (by kernel_rfl) H
def s161 (a b:Value) (h:Qf) (R:Kn):Prop:=
 Qa prog 282 #[a,(.int .i64 46),b,(.int .u32 0)] h fun _x6 c=>
 R (.tuple #[]) c
theorem w161 {a b h R} (H:s161 a b h R):FnS prog 161 #[a,b] h R:=wq Tryz.func161 (by kernel_rfl) H
def s162 (a b:Value) (h:Qf) (R:Kn):Prop:=
 Qa prog 282 #[a,(.int .i64 47),b,(.int .u32 0)] h fun _x6 c=>
 R (.tuple #[]) c
theorem w162 {a b h R} (H:s162 a b h R):FnS prog 162 #[a,b] h R:=wq Tryz.func162 (by kernel_rfl) H
def s163 (a b:Value) (h:Qf) (R:Kn):Prop:=
 Qa prog 290 #[a,(.int .i64 48),b,(.int .i8 (-1))] h fun _x6 c=>
 R (.tuple #[]) c
theorem w163 {a b h R} (H:s163 a b h R):FnS prog 163 #[a,b] h R:=wq Tryz.func163 (by kernel_rfl) H
def s164 (a:Value) (h:Qf) (R:Kn):Prop:=
 Qa prog 291 #[a] h fun b c=>
 R b c
theorem w164 {a h R} (H:s164 a h R):FnS prog 164 #[a] h R:=wq Tryz.func164 (by kernel_rfl) H
def s167 (a:Value) (h:Qf) (R:Kn):Prop:=
 Qs a fun d=>
 Qg d 0 fun e=>
 Qa prog 292 #[e,(.int .u16 6)] h fun f b=>
 QC .u32 f fun c=>
 Ql prog .neq 68 c (.int .u32 0) fun g=>
 IfK g
 (Qs a fun i=>
 Qg i 0 fun j=>
 Qs a fun l=>
 Qg l 0 fun m=>
 Qg m 1 fun o=>
 LdK b o fun p=>
 Ql prog .add 68 c p fun q=>
 Qa prog 293 #[j,q] b fun r s=>
 R r s)
 (R (.int .i16 150) b)
theorem w167 {a h R} (H:s167 a h R):FnS prog 167 #[a] h R:=wq Tryz.func167 (by kernel_rfl) H
def s168 (a:Value) (h:Qf) (R:Kn):Prop:=
 Qs a fun d=>
 Qg d 0 fun e=>
 Qa prog 292 #[e,(.int .u16 8)] h fun f b=>
 QC .u32 f fun c=>
 Ql prog .neq 68 c (.int .u32 0) fun g=>
 IfK g
 (Qs a fun i=>
 Qg i 0 fun j=>
 Qs a fun l=>
 Qg l 0 fun m=>
 Qg m 1 fun o=>
 LdK b o fun p=>
 Ql prog .add 68 c p fun q=>
 Qa prog 293 #[j,q] b fun r s=>
 R r s)
 (R (.int .i16 100) b)
theorem w168 {a h R} (H:s168 a h R):FnS prog 168 #[a] h R:=wq Tryz.func168 (by kernel_rfl) H
def s169 (a:Value) (h:Qf) (R:Kn):Prop:=
 Qs a fun d=>
 Qg d 0 fun e=>
 Qa prog 292 #[e,(.int .u16 10)] h fun f b=>
 QC .u32 f fun c=>
 Ql prog .neq 68 c (.int .u32 0) fun g=>
 IfK g
 (Qs a fun i=>
 Qg i 0 fun j=>
 Qs a fun l=>
 Qg l 0 fun m=>
 Qg m 1 fun o=>
 LdK b o fun p=>
 Ql prog .add 68 c p fun q=>
 Qa prog 294 #[j,q] b fun r s=>
 R r s)
 (R (.slice none 0 0) b)
theorem w169 {a h R} (H:s169 a h R):FnS prog 169 #[a] h R:=wq Tryz.func169 (by kernel_rfl) H
def s170 (a:Value) (h:Qf) (R:Kn):Prop:=
 Qs a fun d=>
 Qg d 0 fun e=>
 Qa prog 292 #[e,(.int .u16 16)] h fun f b=>
 QC .u32 f fun c=>
 Ql prog .neq 68 c (.int .u32 0) fun g=>
 IfK g
 (Qs a fun i=>
 Qg i 0 fun j=>
 Qs a fun l=>
 Qg l 0 fun m=>
 Qg m 1 fun o=>
 LdK b o fun p=>
 Ql prog .add 68 c p fun q=>
 Qa prog 295 #[j,q] b fun r s=>
 R r s)
 (R (.int .u8 8) b)
theorem w170 {a h R} (H:s170 a h R):FnS prog 170 #[a] h R:=wq Tryz.func170 (by kernel_rfl) H
def s171 (a:Value) (h:Qf) (R:Kn):Prop:=
 Qs a fun d=>
 Qg d 0 fun e=>
 Qa prog 292 #[e,(.int .u16 34)] h fun f b=>
 QC .u32 f fun c=>
 Ql prog .neq 68 c (.int .u32 0) fun g=>
 IfK g
 (Qs a fun i=>
 Qg i 0 fun j=>
 Qs a fun l=>
 Qg l 0 fun m=>
 Qg m 1 fun o=>
 LdK b o fun p=>
 Ql prog .add 68 c p fun q=>
 Qa prog 296 #[j,q] b fun r s=>
 R r s)
 (R (.bool false) b)
theorem w171 {a h R} (H:s171 a h R):FnS prog 171 #[a] h R:=wq Tryz.func171 (by kernel_rfl) H
def s172 (a:Value) (h:Qf) (R:Kn):Prop:=
 Qs a fun d=>
 Qg d 0 fun e=>
 Qa prog 292 #[e,(.int .u16 36)] h fun f b=>
 QC .u32 f fun c=>
 Ql prog .neq 68 c (.int .u32 0) fun g=>
 IfK g
 (Qs a fun i=>
 Qg i 0 fun j=>
 Qs a fun l=>
 Qg l 0 fun m=>
 Qg m 1 fun o=>
 LdK b o fun p=>
 Ql prog .add 68 c p fun q=>
 Qa prog 297 #[j,q] b fun r s=>
 R r s)
 (R (.int .i32 0) b)
theorem w172 {a h R} (H:s172 a h R):FnS prog 172 #[a] h R:=wq Tryz.func172 (by kernel_rfl) H
def s173 (a:Value) (h:Qf) (R:Kn):Prop:=
 Qs a fun d=>
 Qg d 0 fun e=>
 Qa prog 292 #[e,(.int .u16 38)] h fun f b=>
 QC .u32 f fun c=>
 Ql prog .neq 68 c (.int .u32 0) fun g=>
 IfK g
 (Qs a fun i=>
 Qg i 0 fun j=>
 Qs a fun l=>
 Qg l 0 fun m=>
 Qg m 1 fun o=>
 LdK b o fun p=>
 Ql prog .add 68 c p fun q=>
 Qa prog 298 #[j,q] b fun r s=>
 R r s)
 (R (.int .u32 0) b)
theorem w173 {a h R} (H:s173 a h R):FnS prog 173 #[a] h R:=wq Tryz.func173 (by kernel_rfl) H
def s174 (a:Value) (h:Qf) (R:Kn):Prop:=
 Qs a fun d=>
 Qg d 0 fun e=>
 Qa prog 292 #[e,(.int .u16 40)] h fun f b=>
 QC .u32 f fun c=>
 Ql prog .neq 68 c (.int .u32 0) fun g=>
 IfK g
 (Qs a fun i=>
 Qg i 0 fun j=>
 Qs a fun l=>
 Qg l 0 fun m=>
 Qg m 1 fun o=>
 LdK b o fun p=>
 Ql prog .add 68 c p fun q=>
 Qa prog 299 #[j,q] b fun r s=>
 R r s)
 (R (.int .i64 0) b)
theorem w174 {a h R} (H:s174 a h R):FnS prog 174 #[a] h R:=wq Tryz.func174 (by kernel_rfl) H
def s175 (a:Value) (h:Qf) (R:Kn):Prop:=
 Qs a fun d=>
 Qg d 0 fun e=>
 Qa prog 292 #[e,(.int .u16 42)] h fun f b=>
 QC .u32 f fun c=>
 Ql prog .neq 68 c (.int .u32 0) fun g=>
 IfK g
 (Qs a fun i=>
 Qg i 0 fun j=>
 Qs a fun l=>
 Qg l 0 fun m=>
 Qg m 1 fun o=>
 LdK b o fun p=>
 Ql prog .add 68 c p fun q=>
 Qa prog 300 #[j,q] b fun r s=>
 R r s)
 (R (.int .u64 0) b)
theorem w175 {a h R} (H:s175 a h R):FnS prog 175 #[a] h R:=wq Tryz.func175 (by kernel_rfl) H
def s176 (a:Value) (h:Qf) (R:Kn):Prop:=
 Qs a fun d=>
 Qg d 0 fun e=>
 Qa prog 292 #[e,(.int .u16 44)] h fun f b=>
 QC .u32 f fun c=>
 Ql prog .neq 68 c (.int .u32 0) fun g=>
 IfK g
 (Qs a fun i=>
 Qg i 0 fun j=>
 Qs a fun l=>
 Qg l 0 fun m=>
 Qg m 1 fun o=>
 LdK b o fun p=>
 Ql prog .add 68 c p fun q=>
 Qa prog 297 #[j,q] b fun r s=>
 R r s)
 (R (.int .i32 0) b)
theorem w176 {a h R} (H:s176 a h R):FnS prog 176 #[a] h R:=wq Tryz.func176 (by kernel_rfl) H
def s177 (a:Value) (h:Qf) (R:Kn):Prop:=
 Qs a fun d=>
 Qg d 0 fun e=>
 Qa prog 292 #[e,(.int .u16 46)] h fun f b=>
 QC .u32 f fun c=>
 Ql prog .neq 68 c (.int .u32 0) fun g=>
 IfK g
 (Qs a fun i=>
 Qg i 0 fun j=>
 Qs a fun l=>
 Qg l 0 fun m=>
 Qg m 1 fun o=>
 LdK b o fun p=>
 Ql prog .add 68 c p fun q=>
 Qa prog 298 #[j,q] b fun r s=>
 R r s)
 (R (.int .u32 0) b)
theorem w177 {a h R} (H:s177 a h R):FnS prog 177 #[a] h R:=wq Tryz.func177 (by kernel_rfl) H
def s178 (a:Value) (h:Qf) (R:Kn):Prop:=
 Qs a fun d=>
 Qg d 0 fun e=>
 Qa prog 292 #[e,(.int .u16 48)] h fun f b=>
 QC .u32 f fun c=>
 Ql prog .neq 68 c (.int .u32 0) fun g=>
 IfK g
 (Qs a fun i=>
 Qg i 0 fun j=>
 Qs a fun l=>
 Qg l 0 fun m=>
 Qg m 1 fun o=>
 LdK b o fun p=>
 Ql prog .add 68 c p fun q=>
 Qa prog 299 #[j,q] b fun r s=>
 R r s)
 (R (.int .i64 0) b)
theorem w178 {a h R} (H:s178 a h R):FnS prog 178 #[a] h R:=wq Tryz.func178 (by kernel_rfl) H
def s179 (a:Value) (h:Qf) (R:Kn):Prop:=
 Qs a fun d=>
 Qg d 0 fun e=>
 Qa prog 292 #[e,(.int .u16 50)] h fun f b=>
 QC .u32 f fun c=>
 Ql prog .neq 68 c (.int .u32 0) fun g=>
 IfK g
 (Qs a fun i=>
 Qg i 0 fun j=>
 Qs a fun l=>
 Qg l 0 fun m=>
 Qg m 1 fun o=>
 LdK b o fun p=>
 Ql prog .add 68 c p fun q=>
 Qa prog 300 #[j,q] b fun r s=>
 R r s)
 (R (.int .u64 0) b)
theorem w179 {a h R} (H:s179 a h R):FnS prog 179 #[a] h R:=wq Tryz.func179 (by kernel_rfl) H
def s181 (a:Value) (h:Qf) (R:Kn):Prop:=
 Qs a fun d=>
 Qg d 0 fun e=>
 Qa prog 292 #[e,(.int .u16 54)] h fun f b=>
 QC .u32 f fun c=>
 Ql prog .neq 68 c (.int .u32 0) fun g=>
 IfK g
 (Qs a fun i=>
 Qg i 0 fun j=>
 Qs a fun l=>
 Qg l 0 fun m=>
 Qg m 1 fun o=>
 LdK b o fun p=>
 Ql prog .add 68 c p fun q=>
 Qa prog 301 #[j,q] b fun r s=>
 R r s)
 (R (.float .f32 1078530000) b)
theorem w181 {a h R} (H:s181 a h R):FnS prog 181 #[a] h R:=wq Tryz.func181 (by kernel_rfl) H
def s182 (a:Value) (h:Qf) (R:Kn):Prop:=
 Qs a fun d=>
 Qg d 0 fun e=>
 Qa prog 292 #[e,(.int .u16 56)] h fun f b=>
 QC .u32 f fun c=>
 Ql prog .neq 68 c (.int .u32 0) fun g=>
 IfK g
 (Qs a fun i=>
 Qg i 0 fun j=>
 Qs a fun l=>
 Qg l 0 fun m=>
 Qg m 1 fun o=>
 LdK b o fun p=>
 Ql prog .add 68 c p fun q=>
 Qa prog 301 #[j,q] b fun r s=>
 R r s)
 (R (.float .f32 1077936128) b)
theorem w182 {a h R} (H:s182 a h R):FnS prog 182 #[a] h R:=wq Tryz.func182 (by kernel_rfl) H
def s183 (a:Value) (h:Qf) (R:Kn):Prop:=
 Qs a fun d=>
 Qg d 0 fun e=>
 Qa prog 292 #[e,(.int .u16 58)] h fun f b=>
 QC .u32 f fun c=>
 Ql prog .neq 68 c (.int .u32 0) fun g=>
 IfK g
 (Qs a fun i=>
 Qg i 0 fun j=>
 Qs a fun l=>
 Qg l 0 fun m=>
 Qg m 1 fun o=>
 LdK b o fun p=>
 Ql prog .add 68 c p fun q=>
 Qa prog 301 #[j,q] b fun r s=>
 R r s)
 (R (.float .f32 0) b)
theorem w183 {a h R} (H:s183 a h R):FnS prog 183 #[a] h R:=wq Tryz.func183 (by kernel_rfl) H
def s184 (a f:Value) (h:Qf) (R:Kn):Prop:=
 Qs a fun j=>
 Qg j 0 fun l=>
 Qa prog 292 #[l,(.int .u16 72)] h fun m c=>
 QC .u32 m fun g=>
 Ql prog .neq 68 g (.int .u32 0) fun o=>
 IfK o
 (Qs a fun p=>
 Qg p 0 fun q=>
 Qs a fun r=>
 Qg r 0 fun s=>
 Qg s 1 fun t=>
 LdK c t fun u=>
 Ql prog .add 68 g u fun v=>
 Qa prog 302 #[q,v] c fun w i=>
 QO (fun b=>
 Ql prog .eql 211 f (.pointer none) fun y=>
 IfK y
 (YO i (.cells z290 290) fun z a0=>
 b [z] a0)
 (b [f] i)) fun b=>∀d:Value,∀e:Qf,b [d] e->
 Qs a fun a1=>
 Qg a1 0 fun a2=>
 Qg a2 0 fun a3=>
 LdK e a3 fun a4=>
 Qa prog 303 #[d,a4,w] e fun _x35 a5=>
 R d a5)
 (R (.pointer none) c)
theorem w184 {a b h R} (H:s184 a b h R):FnS prog 184 #[a,b] h R:=wq Tryz.func184 (by kernel_rfl) H
def s185 (a:Value) (h:Qf) (R:Kn):Prop:=
 Qs a fun d=>
 Qg d 0 fun e=>
 Qa prog 292 #[e,(.int .u16 76)] h fun f b=>
 QC .u32 f fun c=>
 Ql prog .neq 68 c (.int .u32 0) fun g=>
 IfK g
 (Qs a fun i=>
 Qg i 0 fun j=>
 Qs a fun l=>
 Qg l 0 fun m=>
 Qg m 1 fun o=>
 LdK b o fun p=>
 Ql prog .add 68 c p fun q=>
 Qa prog 300 #[j,q] b fun r s=>
 R r s)
 (R (.int .u64 0) b)
theorem w185 {a h R} (H:s185 a h R):FnS prog 185 #[a] h R:=wq Tryz.func185 (by kernel_rfl) H
def s186 (a:Value) (h:Qf) (R:Kn):Prop:=
 Qs a fun d=>
 Qg d 0 fun e=>
 Qa prog 292 #[e,(.int .u16 82)] h fun f b=>
 QC .u32 f fun c=>
 Ql prog .neq 68 c (.int .u32 0) fun g=>
 IfK g
 (Qs a fun i=>
 Qg i 0 fun j=>
 Qs a fun l=>
 Qg l 0 fun m=>
 Qg m 1 fun o=>
 LdK b o fun p=>
 Ql prog .add 68 c p fun q=>
 Qa prog 300 #[j,q] b fun r s=>
 R r s)
 (R (.int .u64 0) b)
theorem w186 {a h R} (H:s186 a h R):FnS prog 186 #[a] h R:=wq Tryz.func186 (by kernel_rfl) H
def s187 (a:Value) (h:Qf) (R:Kn):Prop:=
 Qs a fun d=>
 Qg d 0 fun e=>
 Qa prog 292 #[e,(.int .u16 86)] h fun f b=>
 QC .u32 f fun c=>
 Ql prog .neq 68 c (.int .u32 0) fun g=>
 IfK g
 (Qs a fun i=>
 Qg i 0 fun j=>
 Qs a fun l=>
 Qg l 0 fun m=>
 Qg m 1 fun o=>
 LdK b o fun p=>
 Ql prog .add 68 c p fun q=>
 Qa prog 300 #[j,q] b fun r s=>
 R r s)
 (R (.int .u64 0) b)
theorem w187 {a h R} (H:s187 a h R):FnS prog 187 #[a] h R:=wq Tryz.func187 (by kernel_rfl) H
def s188 (a:Value) (h:Qf) (R:Kn):Prop:=
 Qs a fun d=>
 Qg d 0 fun e=>
 Qa prog 292 #[e,(.int .u16 100)] h fun f b=>
 QC .u32 f fun c=>
 Ql prog .neq 68 c (.int .u32 0) fun g=>
 IfK g
 (Qs a fun i=>
 Qg i 0 fun j=>
 Qs a fun l=>
 Qg l 0 fun m=>
 Qg m 1 fun o=>
 LdK b o fun p=>
 Ql prog .add 68 c p fun q=>
 Qa prog 304 #[j,q] b fun r s=>
 R r s)
 (R (.int .i8 (-1)) b)
theorem w188 {a h R} (H:s188 a h R):FnS prog 188 #[a] h R:=wq Tryz.func188 (by kernel_rfl) H
def s189 (c f:Value) (h:Qf) (R:Kn):Prop:=
 Qs c fun i=>
 Qg i 0 fun j=>
 Qa prog 292 #[j,(.int .u16 4)] h fun l a=>
 QC .u32 l fun g=>
 Ql prog .neq 68 g (.int .u32 0) fun m=>
 IfK m
 (Qs c fun o=>
 Qg o 0 fun p=>
 Qg p 1 fun q=>
 LdK a q fun r=>
 Ql prog .add 68 g r fun s=>
 QO (fun b=>
 Ql prog .eql 214 f (.pointer none) fun t=>
 IfK t
 (YO a (.cells z292 292) fun u v=>
 b [u] v)
 (b [f] a)) fun b=>∀d:Value,∀e:Qf,b [d] e->
 Qs c fun w=>
 Qg w 0 fun y=>
 Qg y 0 fun z=>
 LdK e z fun a0=>
 Qa prog 305 #[d,a0,s] e fun _x31 a1=>
 R d a1)
 (R (.pointer none) a)
theorem w189 {a b h R} (H:s189 a b h R):FnS prog 189 #[a,b] h R:=wq Tryz.func189 (by kernel_rfl) H
def s190 (d e:Value) (h:Qf) (R:Kn):Prop:=
 QO (fun a=>
 Ql prog .eql 216 e (.pointer none) fun f=>
 IfK f
 (YO h (.cells z228 228) fun g i=>
 a [g] i)
 (a [e] h)) fun a=>∀c:Value,∀b:Qf,a [c] b->
 Qs d fun j=>
 Qg j 0 fun l=>
 Qg l 0 fun m=>
 Qg m 0 fun o=>
 LdK b o fun p=>
 Qs d fun q=>
 Qg q 0 fun r=>
 Qg r 0 fun s=>
 Qg s 1 fun t=>
 LdK b t fun u=>
 Ql prog .add 68 u (.int .u32 26) fun v=>
 Qa prog 306 #[c,p,v] b fun _x22 w=>
 R c w
theorem w190 {a b h R} (H:s190 a b h R):FnS prog 190 #[a,b] h R:=wq Tryz.func190 (by kernel_rfl) H
def s191 (a:Value) (h:Qf) (R:Kn):Prop:=
 Qs a fun b=>
 Qg b 0 fun c=>
 Qg c 0 fun d=>
 Qs a fun e=>
 Qg e 0 fun f=>
 Qg f 0 fun g=>
 Qg g 1 fun i=>
 LdK h i fun j=>
 Ql prog .add 68 j (.int .u32 0) fun l=>
 Qa prog 301 #[d,l] h fun m o=>
 R m o
theorem w191 {a h R} (H:s191 a h R):FnS prog 191 #[a] h R:=wq Tryz.func191 (by kernel_rfl) H
def s192 (a:Value) (h:Qf) (R:Kn):Prop:=
 Qs a fun b=>
 Qg b 0 fun c=>
 Qg c 0 fun d=>
 Qs a fun e=>
 Qg e 0 fun f=>
 Qg f 0 fun g=>
 Qg g 1 fun i=>
 LdK h i fun j=>
 Ql prog .add 68 j (.int .u32 4) fun l=>
 Qa prog 301 #[d,l] h fun m o=>
 R m o
theorem w192 {a h R} (H:s192 a h R):FnS prog 192 #[a] h R:=wq Tryz.func192 (by kernel_rfl) H
def s193 (a:Value) (h:Qf) (R:Kn):Prop:=
 Qs a fun b=>
 Qg b 0 fun c=>
 Qg c 0 fun d=>
 Qs a fun e=>
 Qg e 0 fun f=>
 Qg f 0 fun g=>
 Qg g 1 fun i=>
 LdK h i fun j=>
 Ql prog .add 68 j (.int .u32 8) fun l=>
 Qa prog 301 #[d,l] h fun m o=>
 R m o
theorem w193 {a h R} (H:s193 a h R):FnS prog 193 #[a] h R:=wq Tryz.func193 (by kernel_rfl) H
def s195 (a:Value) (h:Qf) (R:Kn):Prop:=
 Qs a fun b=>
 Qg b 0 fun c=>
 Qg c 0 fun d=>
 Qs a fun e=>
 Qg e 0 fun f=>
 Qg f 0 fun g=>
 Qg g 1 fun i=>
 LdK h i fun j=>
 Ql prog .add 68 j (.int .u32 16) fun l=>
 Qa prog 307 #[d,l] h fun m o=>
 R m o
theorem w195 {a h R} (H:s195 a h R):FnS prog 195 #[a] h R:=wq Tryz.func195 (by kernel_rfl) H
def s196 (a:Value) (h:Qf) (R:Kn):Prop:=
 Qs a fun b=>
 Qg b 0 fun c=>
 Qg c 0 fun d=>
 Qs a fun e=>
 Qg e 0 fun f=>
 Qg f 0 fun g=>
 Qg g 1 fun i=>
 LdK h i fun j=>
 Ql prog .add 68 j (.int .u32 24) fun l=>
 Qa prog 295 #[d,l] h fun m o=>
 R m o
theorem w196 {a h R} (H:s196 a h R):FnS prog 196 #[a] h R:=wq Tryz.func196 (by kernel_rfl) H
def s197 (a:Value) (h:Qf) (R:Kn):Prop:=
 Qs a fun b=>
 Qg b 0 fun c=>
 Qg c 0 fun d=>
 Qs a fun e=>
 Qg e 0 fun f=>
 Qg f 0 fun g=>
 Qg g 1 fun i=>
 LdK h i fun j=>
 Ql prog .add 68 j (.int .u32 0) fun l=>
 Qa prog 293 #[d,l] h fun m o=>
 R m o
theorem w197 {a h R} (H:s197 a h R):FnS prog 197 #[a] h R:=wq Tryz.func197 (by kernel_rfl) H
def s198 (a:Value) (h:Qf) (R:Kn):Prop:=
 Qs a fun b=>
 Qg b 0 fun c=>
 Qg c 0 fun d=>
 Qs a fun e=>
 Qg e 0 fun f=>
 Qg f 0 fun g=>
 Qg g 1 fun i=>
 LdK h i fun j=>
 Ql prog .add 68 j (.int .u32 2) fun l=>
 Qa prog 304 #[d,l] h fun m o=>
 R m o
theorem w198 {a h R} (H:s198 a h R):FnS prog 198 #[a] h R:=wq Tryz.func198 (by kernel_rfl) H
def s199 (a:Value) (h:Qf) (R:Kn):Prop:=
 Qs a fun d=>
 Qg d 0 fun e=>
 Qa prog 292 #[e,(.int .u16 14)] h fun f b=>
 QC .u32 f fun c=>
 Ql prog .neq 68 c (.int .u32 0) fun g=>
 IfK g
 (Qs a fun i=>
 Qg i 0 fun j=>
 Qa prog 308 #[j,c] b fun l m=>
 R l m)
 (R (.int .i64 0) b)
theorem w199 {a h R} (H:s199 a h R):FnS prog 199 #[a] h R:=wq Tryz.func199 (by kernel_rfl) H
def s200 (a d:Value) (h:Qf) (R:Kn):Prop:=
 Qs a fun e=>
 Qg e 0 fun f=>
 Qa prog 292 #[f,(.int .u16 14)] h fun g b=>
 QC .u32 g fun c=>
 Ql prog .neq 68 c (.int .u32 0) fun i=>
 IfK i
 (Qs a fun j=>
 Qg j 0 fun l=>
 Qa prog 309 #[l,c] b fun m o=>
 Qs a fun p=>
 Qg p 0 fun q=>
 Ql prog .mul 3 d (.int .i64 1) fun r=>
 QC .u32 r fun s=>
 Ql prog .add 68 m s fun t=>
 Qa prog 295 #[q,t] o fun u v=>
 R u v)
 (R (.int .u8 0) b)
theorem w200 {a b h R} (H:s200 a b h R):FnS prog 200 #[a,b] h R:=wq Tryz.func200 (by kernel_rfl) H
def s201 (a:Value) (h:Qf) (R:Kn):Prop:=
 Qs a fun d=>
 Qg d 0 fun e=>
 Qa prog 292 #[e,(.int .u16 22)] h fun f b=>
 QC .u32 f fun c=>
 Ql prog .neq 68 c (.int .u32 0) fun g=>
 IfK g
 (Qs a fun i=>
 Qg i 0 fun j=>
 Qa prog 308 #[j,c] b fun l m=>
 R l m)
 (R (.int .i64 0) b)
theorem w201 {a h R} (H:s201 a h R):FnS prog 201 #[a] h R:=wq Tryz.func201 (by kernel_rfl) H
def s202 (a e f:Value) (h:Qf) (R:Kn):Prop:=
 Qs a fun g=>
 Qg g 0 fun i=>
 Qa prog 292 #[i,(.int .u16 22)] h fun j b=>
 QC .u32 j fun c=>
 Ql prog .neq 68 c (.int .u32 0) fun l=>
 IfK l
 (Qs a fun m=>
 Qg m 0 fun o=>
 Qa prog 309 #[o,c] b fun p d=>
 QC .u32 f fun q=>
 Ql prog .mul 68 q (.int .u32 4) fun r=>
 Ql prog .add 68 p r fun s=>
 Qs a fun t=>
 Qg t 0 fun u=>
 Qg u 0 fun v=>
 LdK d v fun w=>
 Qa prog 306 #[e,w,s] d fun _x33 y=>
 R (.bool true) y)
 (R (.bool false) b)
theorem w202 {a b c h R} (H:s202 a b c h R):FnS prog 202 #[a,b,c] h R:=wq Tryz.func202 (by kernel_rfl) H
def s203 (a:Value) (h:Qf) (R:Kn):Prop:=
 Qs a fun d=>
 Qg d 0 fun e=>
 Qa prog 292 #[e,(.int .u16 24)] h fun f b=>
 QC .u32 f fun c=>
 Ql prog .neq 68 c (.int .u32 0) fun g=>
 IfK g
 (Qs a fun i=>
 Qg i 0 fun j=>
 Qa prog 308 #[j,c] b fun l m=>
 R l m)
 (R (.int .i64 0) b)
theorem w203 {a h R} (H:s203 a h R):FnS prog 203 #[a] h R:=wq Tryz.func203 (by kernel_rfl) H
def s204 (a d:Value) (h:Qf) (R:Kn):Prop:=
 Qs a fun e=>
 Qg e 0 fun f=>
 Qa prog 292 #[f,(.int .u16 24)] h fun g b=>
 QC .u32 g fun c=>
 Ql prog .neq 68 c (.int .u32 0) fun i=>
 IfK i
 (Qs a fun j=>
 Qg j 0 fun l=>
 Qa prog 309 #[l,c] b fun m o=>
 Qs a fun p=>
 Qg p 0 fun q=>
 Ql prog .mul 3 d (.int .i64 4) fun r=>
 QC .u32 r fun s=>
 Ql prog .add 68 m s fun t=>
 Qa prog 294 #[q,t] o fun u v=>
 R u v)
 (R (.slice none 0 0) b)
theorem w204 {a b h R} (H:s204 a b h R):FnS prog 204 #[a,b] h R:=wq Tryz.func204 (by kernel_rfl) H
def s205 (a:Value) (h:Qf) (R:Kn):Prop:=
 Qs a fun d=>
 Qg d 0 fun e=>
 Qa prog 292 #[e,(.int .u16 26)] h fun f b=>
 QC .u32 f fun c=>
 Ql prog .neq 68 c (.int .u32 0) fun g=>
 IfK g
 (Qs a fun i=>
 Qg i 0 fun j=>
 Qa prog 308 #[j,c] b fun l m=>
 R l m)
 (R (.int .i64 0) b)
theorem w205 {a h R} (H:s205 a h R):FnS prog 205 #[a] h R:=wq Tryz.func205 (by kernel_rfl) H
def s206 (a e f:Value) (h:Qf) (R:Kn):Prop:=
 Qs a fun g=>
 Qg g 0 fun i=>
 Qa prog 292 #[i,(.int .u16 26)] h fun j b=>
 QC .u32 j fun c=>
 Ql prog .neq 68 c (.int .u32 0) fun l=>
 IfK l
 (Qs a fun m=>
 Qg m 0 fun o=>
 Qa prog 309 #[o,c] b fun p q=>
 QC .u32 f fun r=>
 Ql prog .mul 68 r (.int .u32 4) fun s=>
 Ql prog .add 68 p s fun t=>
 Qs a fun u=>
 Qg u 0 fun v=>
 Qa prog 302 #[v,t] q fun w d=>
 Qs a fun y=>
 Qg y 0 fun z=>
 Qg z 0 fun a0=>
 LdK d a0 fun a1=>
 Qa prog 248 #[e,a1,w] d fun _x38 a2=>
 R (.bool true) a2)
 (R (.bool false) b)
theorem w206 {a b c h R} (H:s206 a b c h R):FnS prog 206 #[a,b,c] h R:=wq Tryz.func206 (by kernel_rfl) H
def s207 (a f:Value) (h:Qf) (R:Kn):Prop:=
 Qs a fun j=>
 Qg j 0 fun l=>
 Qa prog 292 #[l,(.int .u16 28)] h fun m c=>
 QC .u32 m fun g=>
 Ql prog .neq 68 g (.int .u32 0) fun o=>
 IfK o
 (Qs a fun p=>
 Qg p 0 fun q=>
 Qs a fun r=>
 Qg r 0 fun s=>
 Qg s 1 fun t=>
 LdK c t fun u=>
 Ql prog .add 68 g u fun v=>
 Qa prog 302 #[q,v] c fun w i=>
 QO (fun b=>
 Ql prog .eql 101 f (.pointer none) fun y=>
 IfK y
 (YO i (.cells z232 232) fun z a0=>
 b [z] a0)
 (b [f] i)) fun b=>∀d:Value,∀e:Qf,b [d] e->
 Qs a fun a1=>
 Qg a1 0 fun a2=>
 Qg a2 0 fun a3=>
 LdK e a3 fun a4=>
 Qa prog 248 #[d,a4,w] e fun _x35 a5=>
 R d a5)
 (R (.pointer none) c)
theorem w207 {a b h R} (H:s207 a b h R):FnS prog 207 #[a,b] h R:=wq Tryz.func207 (by kernel_rfl) H
def s208 (a:Value) (h:Qf) (R:Kn):Prop:=
 Qs a fun d=>
 Qg d 0 fun e=>
 Qa prog 292 #[e,(.int .u16 30)] h fun f b=>
 QC .u32 f fun c=>
 Ql prog .neq 68 c (.int .u32 0) fun g=>
 IfK g
 (Qs a fun i=>
 Qg i 0 fun j=>
 Qa prog 308 #[j,c] b fun l m=>
 R l m)
 (R (.int .i64 0) b)
theorem w208 {a h R} (H:s208 a h R):FnS prog 208 #[a] h R:=wq Tryz.func208 (by kernel_rfl) H
def s209 (a d:Value) (h:Qf) (R:Kn):Prop:=
 Qs a fun e=>
 Qg e 0 fun f=>
 Qa prog 292 #[f,(.int .u16 30)] h fun g b=>
 QC .u32 g fun c=>
 Ql prog .neq 68 c (.int .u32 0) fun i=>
 IfK i
 (Qs a fun j=>
 Qg j 0 fun l=>
 Qa prog 309 #[l,c] b fun m o=>
 Qs a fun p=>
 Qg p 0 fun q=>
 Ql prog .mul 3 d (.int .i64 1) fun r=>
 QC .u32 r fun s=>
 Ql prog .add 68 m s fun t=>
 Qa prog 295 #[q,t] o fun u v=>
 R u v)
 (R (.int .u8 0) b)
theorem w209 {a b h R} (H:s209 a b h R):FnS prog 209 #[a,b] h R:=wq Tryz.func209 (by kernel_rfl) H
def s210 (a f:Value) (h:Qf) (R:Kn):Prop:=
 Qs a fun j=>
 Qg j 0 fun l=>
 Qa prog 292 #[l,(.int .u16 32)] h fun m c=>
 QC .u32 m fun g=>
 Ql prog .neq 68 g (.int .u32 0) fun o=>
 IfK o
 (Qs a fun p=>
 Qg p 0 fun q=>
 Qs a fun r=>
 Qg r 0 fun s=>
 Qg s 1 fun t=>
 LdK c t fun u=>
 Ql prog .add 68 g u fun v=>
 Qa prog 302 #[q,v] c fun w i=>
 QO (fun b=>
 Ql prog .eql 235 f (.pointer none) fun y=>
 IfK y
 (YO i (.cells z295 295) fun z a0=>
 b [z] a0)
 (b [f] i)) fun b=>∀d:Value,∀e:Qf,b [d] e->
 Qs a fun a1=>
 Qg a1 0 fun a2=>
 Qg a2 0 fun a3=>
 LdK e a3 fun a4=>
 Qa prog 310 #[d,a4,w] e fun _x35 a5=>
 R d a5)
 (R (.pointer none) c)
theorem w210 {a b h R} (H:s210 a b h R):FnS prog 210 #[a,b] h R:=wq Tryz.func210 (by kernel_rfl) H
def s211 (a:Value) (h:Qf) (R:Kn):Prop:=
 Qs a fun d=>
 Qg d 0 fun e=>
 Qa prog 292 #[e,(.int .u16 4)] h fun f b=>
 QC .u32 f fun c=>
 Ql prog .neq 68 c (.int .u32 0) fun g=>
 IfK g
 (Qs a fun i=>
 Qg i 0 fun j=>
 Qs a fun l=>
 Qg l 0 fun m=>
 Qg m 1 fun o=>
 LdK b o fun p=>
 Ql prog .add 68 c p fun q=>
 Qa prog 294 #[j,q] b fun r s=>
 R r s)
 (R (.slice none 0 0) b)
theorem w211 {a h R} (H:s211 a h R):FnS prog 211 #[a] h R:=wq Tryz.func211 (by kernel_rfl) H
def s212 (a:Value) (h:Qf) (R:Kn):Prop:=
 Qs a fun d=>
 Qg d 0 fun e=>
 Qa prog 292 #[e,(.int .u16 6)] h fun f b=>
 QC .u32 f fun c=>
 Ql prog .neq 68 c (.int .u32 0) fun g=>
 IfK g
 (Qs a fun i=>
 Qg i 0 fun j=>
 Qs a fun l=>
 Qg l 0 fun m=>
 Qg m 1 fun o=>
 LdK b o fun p=>
 Ql prog .add 68 c p fun q=>
 Qa prog 299 #[j,q] b fun r s=>
 R r s)
 (R (.int .i64 0) b)
theorem w212 {a h R} (H:s212 a h R):FnS prog 212 #[a] h R:=wq Tryz.func212 (by kernel_rfl) H
def s213 (a:Value) (h:Qf) (R:Kn):Prop:=
 Qs a fun d=>
 Qg d 0 fun e=>
 Qa prog 292 #[e,(.int .u16 8)] h fun f b=>
 QC .u32 f fun c=>
 Ql prog .neq 68 c (.int .u32 0) fun g=>
 IfK g
 (Qs a fun i=>
 Qg i 0 fun j=>
 Qs a fun l=>
 Qg l 0 fun m=>
 Qg m 1 fun o=>
 LdK b o fun p=>
 Ql prog .add 68 c p fun q=>
 Qa prog 311 #[j,q] b fun r s=>
 R r s)
 (R (.int .u16 0) b)
theorem w213 {a h R} (H:s213 a h R):FnS prog 213 #[a] h R:=wq Tryz.func213 (by kernel_rfl) H
def s214 (a:Value) (h:Qf) (R:Kn):Prop:=
 Qs a fun d=>
 Qg d 0 fun e=>
 Qa prog 292 #[e,(.int .u16 52)] h fun f b=>
 QC .u32 f fun c=>
 Ql prog .neq 68 c (.int .u32 0) fun g=>
 IfK g
 (Qs a fun i=>
 Qg i 0 fun j=>
 Qa prog 308 #[j,c] b fun l m=>
 R l m)
 (R (.int .i64 0) b)
theorem w214 {a h R} (H:s214 a h R):FnS prog 214 #[a] h R:=wq Tryz.func214 (by kernel_rfl) H
def s215 (a d:Value) (h:Qf) (R:Kn):Prop:=
 Qs a fun e=>
 Qg e 0 fun f=>
 Qa prog 292 #[f,(.int .u16 52)] h fun g b=>
 QC .u32 g fun c=>
 Ql prog .neq 68 c (.int .u32 0) fun i=>
 IfK i
 (Qs a fun j=>
 Qg j 0 fun l=>
 Qa prog 309 #[l,c] b fun m o=>
 Qs a fun p=>
 Qg p 0 fun q=>
 Ql prog .mul 3 d (.int .i64 1) fun r=>
 QC .u32 r fun s=>
 Ql prog .add 68 m s fun t=>
 Qa prog 296 #[q,t] o fun u v=>
 R u v)
 (R (.bool false) b)
theorem w215 {a b h R} (H:s215 a b h R):FnS prog 215 #[a,b] h R:=wq Tryz.func215 (by kernel_rfl) H
def s216 (a:Value) (h:Qf) (R:Kn):Prop:=
 Qs a fun d=>
 Qg d 0 fun e=>
 Qa prog 292 #[e,(.int .u16 60)] h fun f b=>
 QC .u32 f fun c=>
 Ql prog .neq 68 c (.int .u32 0) fun g=>
 IfK g
 (Qs a fun i=>
 Qg i 0 fun j=>
 Qa prog 308 #[j,c] b fun l m=>
 R l m)
 (R (.int .i64 0) b)
theorem w216 {a h R} (H:s216 a h R):FnS prog 216 #[a] h R:=wq Tryz.func216 (by kernel_rfl) H
def s217 (a d:Value) (h:Qf) (R:Kn):Prop:=
 Qs a fun e=>
 Qg e 0 fun f=>
 Qa prog 292 #[f,(.int .u16 60)] h fun g b=>
 QC .u32 g fun c=>
 Ql prog .neq 68 c (.int .u32 0) fun i=>
 IfK i
 (Qs a fun j=>
 Qg j 0 fun l=>
 Qa prog 309 #[l,c] b fun m o=>
 Qs a fun p=>
 Qg p 0 fun q=>
 Ql prog .mul 3 d (.int .i64 4) fun r=>
 QC .u32 r fun s=>
 Ql prog .add 68 m s fun t=>
 Qa prog 294 #[q,t] o fun u v=>
 R u v)
 (R (.slice none 0 0) b)
theorem w217 {a b h R} (H:s217 a b h R):FnS prog 217 #[a,b] h R:=wq Tryz.func217 (by kernel_rfl) H
def s218 (a:Value) (h:Qf) (R:Kn):Prop:=
 Qs a fun d=>
 Qg d 0 fun e=>
 Qa prog 292 #[e,(.int .u16 62)] h fun f b=>
 QC .u32 f fun c=>
 Ql prog .neq 68 c (.int .u32 0) fun g=>
 IfK g
 (Qs a fun i=>
 Qg i 0 fun j=>
 Qa prog 308 #[j,c] b fun l m=>
 R l m)
 (R (.int .i64 0) b)
theorem w218 {a h R} (H:s218 a h R):FnS prog 218 #[a] h R:=wq Tryz.func218 (by kernel_rfl) H
def s219 (a e f:Value) (h:Qf) (R:Kn):Prop:=
 Qs a fun g=>
 Qg g 0 fun i=>
 Qa prog 292 #[i,(.int .u16 62)] h fun j b=>
 QC .u32 j fun c=>
 Ql prog .neq 68 c (.int .u32 0) fun l=>
 IfK l
 (Qs a fun m=>
 Qg m 0 fun o=>
 Qa prog 309 #[o,c] b fun p d=>
 QC .u32 f fun q=>
 Ql prog .mul 68 q (.int .u32 8) fun r=>
 Ql prog .add 68 p r fun s=>
 Qs a fun t=>
 Qg t 0 fun u=>
 Qg u 0 fun v=>
 LdK d v fun w=>
 Qa prog 312 #[e,w,s] d fun _x33 y=>
 R (.bool true) y)
 (R (.bool false) b)
theorem w219 {a b c h R} (H:s219 a b c h R):FnS prog 219 #[a,b,c] h R:=wq Tryz.func219 (by kernel_rfl) H
def s220 (a:Value) (h:Qf) (R:Kn):Prop:=
 Qs a fun b=>
 Qg b 0 fun c=>
 Qg c 0 fun d=>
 Qs a fun e=>
 Qg e 0 fun f=>
 Qg f 0 fun g=>
 Qg g 1 fun i=>
 LdK h i fun j=>
 Ql prog .add 68 j (.int .u32 0) fun l=>
 Qa prog 298 #[d,l] h fun m o=>
 R m o
theorem w220 {a h R} (H:s220 a h R):FnS prog 220 #[a] h R:=wq Tryz.func220 (by kernel_rfl) H
def s221 (a:Value) (h:Qf) (R:Kn):Prop:=
 Qs a fun b=>
 Qg b 0 fun c=>
 Qg c 0 fun d=>
 Qs a fun e=>
 Qg e 0 fun f=>
 Qg f 0 fun g=>
 Qg g 1 fun i=>
 LdK h i fun j=>
 Ql prog .add 68 j (.int .u32 4) fun l=>
 Qa prog 298 #[d,l] h fun m o=>
 R m o
theorem w221 {a h R} (H:s221 a h R):FnS prog 221 #[a] h R:=wq Tryz.func221 (by kernel_rfl) H
def s222 (a:Value) (h:Qf) (R:Kn):Prop:=
 Qs a fun d=>
 Qg d 0 fun e=>
 Qa prog 292 #[e,(.int .u16 64)] h fun f b=>
 QC .u32 f fun c=>
 Ql prog .neq 68 c (.int .u32 0) fun g=>
 IfK g
 (Qs a fun i=>
 Qg i 0 fun j=>
 Qa prog 308 #[j,c] b fun l m=>
 R l m)
 (R (.int .i64 0) b)
theorem w222 {a h R} (H:s222 a h R):FnS prog 222 #[a] h R:=wq Tryz.func222 (by kernel_rfl) H
def s223 (a d:Value) (h:Qf) (R:Kn):Prop:=
 Qs a fun e=>
 Qg e 0 fun f=>
 Qa prog 292 #[f,(.int .u16 64)] h fun g b=>
 QC .u32 g fun c=>
 Ql prog .neq 68 c (.int .u32 0) fun i=>
 IfK i
 (Qs a fun j=>
 Qg j 0 fun l=>
 Qa prog 309 #[l,c] b fun m o=>
 Qs a fun p=>
 Qg p 0 fun q=>
 Ql prog .mul 3 d (.int .i64 1) fun r=>
 QC .u32 r fun s=>
 Ql prog .add 68 m s fun t=>
 Qa prog 295 #[q,t] o fun u v=>
 R u v)
 (R (.int .u8 0) b)
theorem w223 {a b h R} (H:s223 a b h R):FnS prog 223 #[a,b] h R:=wq Tryz.func223 (by kernel_rfl) H
def s224 (a:Value) (h:Qf) (R:Kn):Prop:=
 Qs a fun d=>
 Qg d 0 fun e=>
 Qa prog 292 #[e,(.int .u16 66)] h fun f b=>
 QC .u32 f fun c=>
 Ql prog .neq 68 c (.int .u32 0) fun g=>
 IfK g
 (Qs a fun i=>
 Qg i 0 fun j=>
 Qa prog 308 #[j,c] b fun l m=>
 R l m)
 (R (.int .i64 0) b)
theorem w224 {a h R} (H:s224 a h R):FnS prog 224 #[a] h R:=wq Tryz.func224 (by kernel_rfl) H
def s225 (a e f:Value) (h:Qf) (R:Kn):Prop:=
 Qs a fun g=>
 Qg g 0 fun i=>
 Qa prog 292 #[i,(.int .u16 66)] h fun j b=>
 QC .u32 j fun c=>
 Ql prog .neq 68 c (.int .u32 0) fun l=>
 IfK l
 (Qs a fun m=>
 Qg m 0 fun o=>
 Qa prog 309 #[o,c] b fun p d=>
 QC .u32 f fun q=>
 Ql prog .mul 68 q (.int .u32 4) fun r=>
 Ql prog .add 68 p r fun s=>
 Qs a fun t=>
 Qg t 0 fun u=>
 Qg u 0 fun v=>
 LdK d v fun w=>
 Qa prog 306 #[e,w,s] d fun _x33 y=>
 R (.bool true) y)
 (R (.bool false) b)
theorem w225 {a b c h R} (H:s225 a b c h R):FnS prog 225 #[a,b,c] h R:=wq Tryz.func225 (by kernel_rfl) H
def s226 (a:Value) (h:Qf) (R:Kn):Prop:=
 Qs a fun d=>
 Qg d 0 fun e=>
 Qa prog 292 #[e,(.int .u16 68)] h fun f b=>
 QC .u32 f fun c=>
 Ql prog .neq 68 c (.int .u32 0) fun g=>
 IfK g
 (Qs a fun i=>
 Qg i 0 fun j=>
 Qa prog 308 #[j,c] b fun l m=>
 R l m)
 (R (.int .i64 0) b)
theorem w226 {a h R} (H:s226 a h R):FnS prog 226 #[a] h R:=wq Tryz.func226 (by kernel_rfl) H
def s227 (a d:Value) (h:Qf) (R:Kn):Prop:=
 Qs a fun e=>
 Qg e 0 fun f=>
 Qa prog 292 #[f,(.int .u16 68)] h fun g b=>
 QC .u32 g fun c=>
 Ql prog .neq 68 c (.int .u32 0) fun i=>
 IfK i
 (Qs a fun j=>
 Qg j 0 fun l=>
 Qa prog 309 #[l,c] b fun m o=>
 Qs a fun p=>
 Qg p 0 fun q=>
 Ql prog .mul 3 d (.int .i64 8) fun r=>
 QC .u32 r fun s=>
 Ql prog .add 68 m s fun t=>
 Qa prog 299 #[q,t] o fun u v=>
 R u v)
 (R (.int .i64 0) b)
theorem w227 {a b h R} (H:s227 a b h R):FnS prog 227 #[a,b] h R:=wq Tryz.func227 (by kernel_rfl) H
def s228 (a:Value) (h:Qf) (R:Kn):Prop:=
 Qs a fun d=>
 Qg d 0 fun e=>
 Qa prog 292 #[e,(.int .u16 70)] h fun f b=>
 QC .u32 f fun c=>
 Ql prog .neq 68 c (.int .u32 0) fun g=>
 IfK g
 (Qs a fun i=>
 Qg i 0 fun j=>
 Qa prog 308 #[j,c] b fun l m=>
 R l m)
 (R (.int .i64 0) b)
theorem w228 {a h R} (H:s228 a h R):FnS prog 228 #[a] h R:=wq Tryz.func228 (by kernel_rfl) H
def s229 (a d:Value) (h:Qf) (R:Kn):Prop:=
 Qs a fun e=>
 Qg e 0 fun f=>
 Qa prog 292 #[f,(.int .u16 70)] h fun g b=>
 QC .u32 g fun c=>
 Ql prog .neq 68 c (.int .u32 0) fun i=>
 IfK i
 (Qs a fun j=>
 Qg j 0 fun l=>
 Qa prog 309 #[l,c] b fun m o=>
 Qs a fun p=>
 Qg p 0 fun q=>
 Ql prog .mul 3 d (.int .i64 8) fun r=>
 QC .u32 r fun s=>
 Ql prog .add 68 m s fun t=>
 Qa prog 307 #[q,t] o fun u v=>
 R u v)
 (R (.float .f64 0) b)
theorem w229 {a b h R} (H:s229 a b h R):FnS prog 229 #[a,b] h R:=wq Tryz.func229 (by kernel_rfl) H
def s230 (a:Value) (h:Qf) (R:Kn):Prop:=
 Qs a fun d=>
 Qg d 0 fun e=>
 Qa prog 292 #[e,(.int .u16 74)] h fun f b=>
 QC .u32 f fun c=>
 Ql prog .neq 68 c (.int .u32 0) fun g=>
 IfK g
 (Qs a fun i=>
 Qg i 0 fun j=>
 Qa prog 308 #[j,c] b fun l m=>
 R l m)
 (R (.int .i64 0) b)
theorem w230 {a h R} (H:s230 a h R):FnS prog 230 #[a] h R:=wq Tryz.func230 (by kernel_rfl) H
def s231 (a e f:Value) (h:Qf) (R:Kn):Prop:=
 Qs a fun g=>
 Qg g 0 fun i=>
 Qa prog 292 #[i,(.int .u16 74)] h fun j b=>
 QC .u32 j fun c=>
 Ql prog .neq 68 c (.int .u32 0) fun l=>
 IfK l
 (Qs a fun m=>
 Qg m 0 fun o=>
 Qa prog 309 #[o,c] b fun p q=>
 QC .u32 f fun r=>
 Ql prog .mul 68 r (.int .u32 4) fun s=>
 Ql prog .add 68 p s fun t=>
 Qs a fun u=>
 Qg u 0 fun v=>
 Qa prog 302 #[v,t] q fun w d=>
 Qs a fun y=>
 Qg y 0 fun z=>
 Qg z 0 fun a0=>
 LdK d a0 fun a1=>
 Qa prog 313 #[e,a1,w] d fun _x38 a2=>
 R (.bool true) a2)
 (R (.bool false) b)
theorem w231 {a b c h R} (H:s231 a b c h R):FnS prog 231 #[a,b,c] h R:=wq Tryz.func231 (by kernel_rfl) H
def s232 (a:Value) (h:Qf) (R:Kn):Prop:=
 Qs a fun d=>
 Qg d 0 fun e=>
 Qa prog 292 #[e,(.int .u16 4)] h fun f b=>
 QC .u32 f fun c=>
 Ql prog .neq 68 c (.int .u32 0) fun g=>
 IfK g
 (Qs a fun i=>
 Qg i 0 fun j=>
 Qs a fun l=>
 Qg l 0 fun m=>
 Qg m 1 fun o=>
 LdK b o fun p=>
 Ql prog .add 68 c p fun q=>
 Qa prog 300 #[j,q] b fun r s=>
 R r s)
 (R (.int .u64 0) b)
theorem w232 {a h R} (H:s232 a h R):FnS prog 232 #[a] h R:=wq Tryz.func232 (by kernel_rfl) H
def s233 (a:Value) (h:Qf) (R:Kn):Prop:=
 Qs a fun d=>
 Qg d 0 fun e=>
 Qa prog 292 #[e,(.int .u16 78)] h fun f b=>
 QC .u32 f fun c=>
 Ql prog .neq 68 c (.int .u32 0) fun g=>
 IfK g
 (Qs a fun i=>
 Qg i 0 fun j=>
 Qa prog 308 #[j,c] b fun l m=>
 R l m)
 (R (.int .i64 0) b)
theorem w233 {a h R} (H:s233 a h R):FnS prog 233 #[a] h R:=wq Tryz.func233 (by kernel_rfl) H
def s234 (a d:Value) (h:Qf) (R:Kn):Prop:=
 Qs a fun e=>
 Qg e 0 fun f=>
 Qa prog 292 #[f,(.int .u16 78)] h fun g b=>
 QC .u32 g fun c=>
 Ql prog .neq 68 c (.int .u32 0) fun i=>
 IfK i
 (Qs a fun j=>
 Qg j 0 fun l=>
 Qa prog 309 #[l,c] b fun m o=>
 Qs a fun p=>
 Qg p 0 fun q=>
 Ql prog .mul 3 d (.int .i64 8) fun r=>
 QC .u32 r fun s=>
 Ql prog .add 68 m s fun t=>
 Qa prog 300 #[q,t] o fun u v=>
 R u v)
 (R (.int .u64 0) b)
theorem w234 {a b h R} (H:s234 a b h R):FnS prog 234 #[a,b] h R:=wq Tryz.func234 (by kernel_rfl) H
def s235 (a:Value) (h:Qf) (R:Kn):Prop:=
 Qs a fun d=>
 Qg d 0 fun e=>
 Qa prog 292 #[e,(.int .u16 80)] h fun f b=>
 QC .u32 f fun c=>
 Ql prog .neq 68 c (.int .u32 0) fun g=>
 IfK g
 (Qs a fun i=>
 Qg i 0 fun j=>
 Qa prog 308 #[j,c] b fun l m=>
 R l m)
 (R (.int .i64 0) b)
theorem w235 {a h R} (H:s235 a h R):FnS prog 235 #[a] h R:=wq Tryz.func235 (by kernel_rfl) H
def s236 (a e f:Value) (h:Qf) (R:Kn):Prop:=
 Qs a fun g=>
 Qg g 0 fun i=>
 Qa prog 292 #[i,(.int .u16 80)] h fun j b=>
 QC .u32 j fun c=>
 Ql prog .neq 68 c (.int .u32 0) fun l=>
 IfK l
 (Qs a fun m=>
 Qg m 0 fun o=>
 Qa prog 309 #[o,c] b fun p q=>
 QC .u32 f fun r=>
 Ql prog .mul 68 r (.int .u32 4) fun s=>
 Ql prog .add 68 p s fun t=>
 Qs a fun u=>
 Qg u 0 fun v=>
 Qa prog 302 #[v,t] q fun w d=>
 Qs a fun y=>
 Qg y 0 fun z=>
 Qg z 0 fun a0=>
 LdK d a0 fun a1=>
 Qa prog 313 #[e,a1,w] d fun _x38 a2=>
 R (.bool true) a2)
 (R (.bool false) b)
theorem w236 {a b c h R} (H:s236 a b c h R):FnS prog 236 #[a,b,c] h R:=wq Tryz.func236 (by kernel_rfl) H
def s237 (a:Value) (h:Qf) (R:Kn):Prop:=
 Qs a fun d=>
 Qg d 0 fun e=>
 Qa prog 292 #[e,(.int .u16 84)] h fun f b=>
 QC .u32 f fun c=>
 Ql prog .neq 68 c (.int .u32 0) fun g=>
 IfK g
 (Qs a fun i=>
 Qg i 0 fun j=>
 Qa prog 308 #[j,c] b fun l m=>
 R l m)
 (R (.int .i64 0) b)
theorem w237 {a h R} (H:s237 a h R):FnS prog 237 #[a] h R:=wq Tryz.func237 (by kernel_rfl) H
def s238 (a d:Value) (h:Qf) (R:Kn):Prop:=
 Qs a fun e=>
 Qg e 0 fun f=>
 Qa prog 292 #[f,(.int .u16 84)] h fun g b=>
 QC .u32 g fun c=>
 Ql prog .neq 68 c (.int .u32 0) fun i=>
 IfK i
 (Qs a fun j=>
 Qg j 0 fun l=>
 Qa prog 309 #[l,c] b fun m o=>
 Qs a fun p=>
 Qg p 0 fun q=>
 Ql prog .mul 3 d (.int .i64 8) fun r=>
 QC .u32 r fun s=>
 Ql prog .add 68 m s fun t=>
 Qa prog 300 #[q,t] o fun u v=>
 R u v)
 (R (.int .u64 0) b)
theorem w238 {a b h R} (H:s238 a b h R):FnS prog 238 #[a,b] h R:=wq Tryz.func238 (by kernel_rfl) H
def s239 (a:Value) (h:Qf) (R:Kn):Prop:=
 Qs a fun d=>
 Qg d 0 fun e=>
 Qa prog 292 #[e,(.int .u16 88)] h fun f b=>
 QC .u32 f fun c=>
 Ql prog .neq 68 c (.int .u32 0) fun g=>
 IfK g
 (Qs a fun i=>
 Qg i 0 fun j=>
 Qa prog 308 #[j,c] b fun l m=>
 R l m)
 (R (.int .i64 0) b)
theorem w239 {a h R} (H:s239 a h R):FnS prog 239 #[a] h R:=wq Tryz.func239 (by kernel_rfl) H
def s240 (a d:Value) (h:Qf) (R:Kn):Prop:=
 Qs a fun e=>
 Qg e 0 fun f=>
 Qa prog 292 #[f,(.int .u16 88)] h fun g b=>
 QC .u32 g fun c=>
 Ql prog .neq 68 c (.int .u32 0) fun i=>
 IfK i
 (Qs a fun j=>
 Qg j 0 fun l=>
 Qa prog 309 #[l,c] b fun m o=>
 Qs a fun p=>
 Qg p 0 fun q=>
 Ql prog .mul 3 d (.int .i64 8) fun r=>
 QC .u32 r fun s=>
 Ql prog .add 68 m s fun t=>
 Qa prog 300 #[q,t] o fun u v=>
 R u v)
 (R (.int .u64 0) b)
theorem w240 {a b h R} (H:s240 a b h R):FnS prog 240 #[a,b] h R:=wq Tryz.func240 (by kernel_rfl) H
def s241 (a d:Value) (h:Qf) (R:Kn):Prop:=
 Qs a fun e=>
 Qg e 0 fun f=>
 Qa prog 292 #[f,(.int .u16 20)] h fun g b=>
 QC .u32 g fun c=>
 Ql prog .neq 68 c (.int .u32 0) fun i=>
 IfK i
 (Qs a fun j=>
 Qg j 0 fun l=>
 Qa prog 314 #[l,d,c] b fun _x18 m=>
 R (.bool true) m)
 (R (.bool false) b)
theorem w241 {a b h R} (H:s241 a b h R):FnS prog 241 #[a,b] h R:=wq Tryz.func241 (by kernel_rfl) H
def s243 (a:Value) (h:Qf) (R:Kn):Prop:=
 Qs a fun d=>
 Qg d 0 fun e=>
 Qa prog 292 #[e,(.int .u16 18)] h fun f b=>
 QC .u32 f fun c=>
 Ql prog .neq 68 c (.int .u32 0) fun g=>
 IfK g
 (Qs a fun i=>
 Qg i 0 fun j=>
 Qs a fun l=>
 Qg l 0 fun m=>
 Qg m 1 fun o=>
 LdK b o fun p=>
 Ql prog .add 68 c p fun q=>
 Qa prog 295 #[j,q] b fun r s=>
 R r s)
 (R (.int .u8 0) b)
theorem w243 {a h R} (H:s243 a h R):FnS prog 243 #[a] h R:=wq Tryz.func243 (by kernel_rfl) H
def s244 (a d:Value) (h:Qf) (R:Kn):Prop:=
 Qs a fun e=>
 Qg e 0 fun f=>
 Qa prog 292 #[f,(.int .u16 92)] h fun g b=>
 QC .u32 g fun c=>
 Ql prog .neq 68 c (.int .u32 0) fun i=>
 IfK i
 (Qs a fun j=>
 Qg j 0 fun l=>
 Qa prog 314 #[l,d,c] b fun _x18 m=>
 R (.bool true) m)
 (R (.bool false) b)
theorem w244 {a b h R} (H:s244 a b h R):FnS prog 244 #[a,b] h R:=wq Tryz.func244 (by kernel_rfl) H
def s245 (a:Value) (h:Qf) (R:Kn):Prop:=
 Qs a fun d=>
 Qg d 0 fun e=>
 Qa prog 292 #[e,(.int .u16 90)] h fun f b=>
 QC .u32 f fun c=>
 Ql prog .neq 68 c (.int .u32 0) fun g=>
 IfK g
 (Qs a fun i=>
 Qg i 0 fun j=>
 Qs a fun l=>
 Qg l 0 fun m=>
 Qg m 1 fun o=>
 LdK b o fun p=>
 Ql prog .add 68 c p fun q=>
 Qa prog 295 #[j,q] b fun r s=>
 R r s)
 (R (.int .u8 0) b)
theorem w245 {a h R} (H:s245 a h R):FnS prog 245 #[a] h R:=wq Tryz.func245 (by kernel_rfl) H
def s246 (a:Value) (h:Qf) (R:Kn):Prop:=
 Qs a fun d=>
 Qg d 0 fun e=>
 Qa prog 292 #[e,(.int .u16 94)] h fun f b=>
 QC .u32 f fun c=>
 Ql prog .neq 68 c (.int .u32 0) fun g=>
 IfK g
 (Qs a fun i=>
 Qg i 0 fun j=>
 Qs a fun l=>
 Qg l 0 fun m=>
 Qg m 1 fun o=>
 LdK b o fun p=>
 Ql prog .add 68 c p fun q=>
 Qa prog 295 #[j,q] b fun r s=>
 R r s)
 (R (.int .u8 0) b)
theorem w246 {a h R} (H:s246 a h R):FnS prog 246 #[a] h R:=wq Tryz.func246 (by kernel_rfl) H
def s247 (a d:Value) (h:Qf) (R:Kn):Prop:=
 Qs a fun e=>
 Qg e 0 fun f=>
 Qa prog 292 #[f,(.int .u16 96)] h fun g b=>
 QC .u32 g fun c=>
 Ql prog .neq 68 c (.int .u32 0) fun i=>
 IfK i
 (Qs a fun j=>
 Qg j 0 fun l=>
 Qa prog 314 #[l,d,c] b fun _x18 m=>
 R (.bool true) m)
 (R (.bool false) b)
theorem w247 {a b h R} (H:s247 a b h R):FnS prog 247 #[a,b] h R:=wq Tryz.func247 (by kernel_rfl) H
def s248 (a b c:Value) (h:Qf) (R:Kn):Prop:=
 Qs a fun d=>
 Qg d 0 fun e=>
 Qg e 0 fun f=>
 StK h 1 f b fun g=>
 Qs a fun i=>
 Qg i 0 fun j=>
 Qg j 1 fun l=>
 StK g 1 l c fun m=>
 R (.tuple #[]) m
theorem w248 {a b c h R} (H:s248 a b c h R):FnS prog 248 #[a,b,c] h R:=wq Tryz.func248 (by kernel_rfl) H
def s249 (a:Value) (h:Qf) (R:Kn):Prop:=
 Qs a fun d=>
 Qg d 0 fun e=>
 Qa prog 292 #[e,(.int .u16 98)] h fun f b=>
 QC .u32 f fun c=>
 Ql prog .neq 68 c (.int .u32 0) fun g=>
 IfK g
 (Qs a fun i=>
 Qg i 0 fun j=>
 Qa prog 308 #[j,c] b fun l m=>
 R l m)
 (R (.int .i64 0) b)
theorem w249 {a h R} (H:s249 a h R):FnS prog 249 #[a] h R:=wq Tryz.func249 (by kernel_rfl) H
def s250 (a d:Value) (h:Qf) (R:Kn):Prop:=
 Qs a fun e=>
 Qg e 0 fun f=>
 Qa prog 292 #[f,(.int .u16 98)] h fun g b=>
 QC .u32 g fun c=>
 Ql prog .neq 68 c (.int .u32 0) fun i=>
 IfK i
 (Qs a fun j=>
 Qg j 0 fun l=>
 Qa prog 309 #[l,c] b fun m o=>
 Qs a fun p=>
 Qg p 0 fun q=>
 Ql prog .mul 3 d (.int .i64 1) fun r=>
 QC .u32 r fun s=>
 Ql prog .add 68 m s fun t=>
 Qa prog 295 #[q,t] o fun u v=>
 R u v)
 (R (.int .u8 0) b)
theorem w250 {a b h R} (H:s250 a b h R):FnS prog 250 #[a,b] h R:=wq Tryz.func250 (by kernel_rfl) H
def s261 (a b c:Value) (h:Qf) (R:Kn):Prop:=
 Qa prog 70 #[a,(.int .i64 2),(.int .i64 4)] h fun _x8 d=>
 Qa prog 254 #[a,(.int .i64 1)] d fun _x10 e=>
 Qa prog 326 #[a,c] e fun _x13 f=>
 Qa prog 327 #[a,b] f fun _x16 g=>
 Qa prog 255 #[a] g fun i j=>
 R i j
theorem w261 {a b c h R} (H:s261 a b c h R):FnS prog 261 #[a,b,c] h R:=wq Tryz.func261 (by kernel_rfl) H
def s263 (a:Value) (h:Qf) (R:Kn):Prop:=
 Qa prog 278 #[a,(.int .i64 3)] h fun _x3 b=>
 R (.tuple #[]) b
theorem w263 {a h R} (H:s263 a h R):FnS prog 263 #[a] h R:=wq Tryz.func263 (by kernel_rfl) H
def s264 (a b:Value) (h:Qf) (R:Kn):Prop:=
 Qa prog 282 #[a,(.int .i64 0),b,(.int .u32 0)] h fun _x6 c=>
 R (.tuple #[]) c
theorem w264 {a b h R} (H:s264 a b h R):FnS prog 264 #[a,b] h R:=wq Tryz.func264 (by kernel_rfl) H
def s265 (a b:Value) (h:Qf) (R:Kn):Prop:=
 Qa prog 287 #[a,(.int .i64 1),b,(.int .i64 0)] h fun _x6 c=>
 R (.tuple #[]) c
theorem w265 {a b h R} (H:s265 a b h R):FnS prog 265 #[a,b] h R:=wq Tryz.func265 (by kernel_rfl) H
def s266 (a b:Value) (h:Qf) (R:Kn):Prop:=
 Qa prog 328 #[a,(.int .i64 2),b,(.int .u16 0)] h fun _x6 c=>
 R (.tuple #[]) c
theorem w266 {a b h R} (H:s266 a b h R):FnS prog 266 #[a,b] h R:=wq Tryz.func266 (by kernel_rfl) H
def s267 (a:Value) (h:Qf) (R:Kn):Prop:=
 Qa prog 291 #[a] h fun b c=>
 R b c
theorem w267 {a h R} (H:s267 a h R):FnS prog 267 #[a] h R:=wq Tryz.func267 (by kernel_rfl) H
def s269 (a b c:Value) (h:Qf) (R:Kn):Prop:=
 Qa prog 70 #[a,(.int .i64 4),(.int .i64 8)] h fun _x8 d=>
 Qa prog 330 #[a,c] d fun _x11 e=>
 Qa prog 330 #[a,b] e fun _x14 f=>
 Qa prog 255 #[a] f fun g i=>
 R g i
theorem w269 {a b c h R} (H:s269 a b c h R):FnS prog 269 #[a,b,c] h R:=wq Tryz.func269 (by kernel_rfl) H
def s272 (a:Value) (h:Qf) (R:Kn):Prop:=
 Qa prog 278 #[a,(.int .i64 0)] h fun _x3 b=>
 R (.tuple #[]) b
theorem w272 {a h R} (H:s272 a h R):FnS prog 272 #[a] h R:=wq Tryz.func272 (by kernel_rfl) H
def s273 (a:Value) (h:Qf) (R:Kn):Prop:=
 Qa prog 291 #[a] h fun b c=>
 R b c
theorem w273 {a h R} (H:s273 a h R):FnS prog 273 #[a] h R:=wq Tryz.func273 (by kernel_rfl) H
def s274 (a:Value) (h:Qf) (R:Kn):Prop:=
 Qa prog 278 #[a,(.int .i64 1)] h fun _x3 b=>
 R (.tuple #[]) b
theorem w274 {a h R} (H:s274 a h R):FnS prog 274 #[a] h R:=wq Tryz.func274 (by kernel_rfl) H
def s275 (a b:Value) (h:Qf) (R:Kn):Prop:=
 Qa prog 288 #[a,(.int .i64 0),b,(.int .u64 0)] h fun _x6 c=>
 R (.tuple #[]) c
theorem w275 {a b h R} (H:s275 a b h R):FnS prog 275 #[a,b] h R:=wq Tryz.func275 (by kernel_rfl) H
def s276 (a:Value) (h:Qf) (R:Kn):Prop:=
 Qa prog 291 #[a] h fun b c=>
 R b c
theorem w276 {a h R} (H:s276 a h R):FnS prog 276 #[a] h R:=wq Tryz.func276 (by kernel_rfl) H
def s279 (a b c d e f g i:Value) (h:Qf) (R:Kn):Prop:=
 Qa prog 70 #[a,(.int .i64 8),(.int .i64 32)] h fun _x18 j=>
 Qa prog 254 #[a,(.int .i64 2)] j fun _x20 l=>
 Qa prog 70 #[a,(.int .i64 2),(.int .i64 4)] l fun _x22 m=>
 Qa prog 254 #[a,(.int .i64 1)] m fun _x24 o=>
 Qa prog 326 #[a,i] o fun _x27 p=>
 Qa prog 327 #[a,g] p fun _x30 q=>
 Qa prog 254 #[a,(.int .i64 1)] q fun _x32 r=>
 Qa prog 113 #[a,f] r fun _x35 s=>
 Qa prog 101 #[a,e] s fun _x38 t=>
 Qa prog 254 #[a,(.int .i64 4)] t fun _x40 u=>
 Qa prog 334 #[a,d] u fun _x43 v=>
 Qa prog 334 #[a,c] v fun _x46 w=>
 Qa prog 334 #[a,b] w fun _x49 y=>
 Qa prog 255 #[a] y fun z a0=>
 R z a0
theorem w279 {a b c d e f g i h R} (H:s279 a b c d e f g i h R):FnS prog 279 #[a,b,c,d,e,f,g,i] h R:=wq Tryz.func279 (by kernel_rfl) H
def s303 (a b c:Value) (h:Qf) (R:Kn):Prop:=
 Qs a fun d=>
 Qg d 0 fun e=>
 Qg e 0 fun f=>
 StK h 1 f b fun g=>
 Qs a fun i=>
 Qg i 0 fun j=>
 Qg j 1 fun l=>
 StK g 1 l c fun m=>
 R (.tuple #[]) m
theorem w303 {a b c h R} (H:s303 a b c h R):FnS prog 303 #[a,b,c] h R:=wq Tryz.func303 (by kernel_rfl) H
def s305 (a b c:Value) (h:Qf) (R:Kn):Prop:=
 Qs a fun d=>
 Qg d 0 fun e=>
 Qg e 0 fun f=>
 Qg f 0 fun g=>
 StK h 1 g b fun i=>
 Qs a fun j=>
 Qg j 0 fun l=>
 Qg l 0 fun m=>
 Qg m 1 fun o=>
 StK i 1 o c fun p=>
 R (.tuple #[]) p
theorem w305 {a b c h R} (H:s305 a b c h R):FnS prog 305 #[a,b,c] h R:=wq Tryz.func305 (by kernel_rfl) H
def s306 (a b c:Value) (h:Qf) (R:Kn):Prop:=
 Qs a fun d=>
 Qg d 0 fun e=>
 Qg e 0 fun f=>
 Qg f 0 fun g=>
 StK h 1 g b fun i=>
 Qs a fun j=>
 Qg j 0 fun l=>
 Qg l 0 fun m=>
 Qg m 1 fun o=>
 StK i 1 o c fun p=>
 R (.tuple #[]) p
theorem w306 {a b c h R} (H:s306 a b c h R):FnS prog 306 #[a,b,c] h R:=wq Tryz.func306 (by kernel_rfl) H
def s310 (a b c:Value) (h:Qf) (R:Kn):Prop:=
 Qs a fun d=>
 Qg d 0 fun e=>
 Qg e 0 fun f=>
 StK h 1 f b fun g=>
 Qs a fun i=>
 Qg i 0 fun j=>
 Qg j 1 fun l=>
 StK g 1 l c fun m=>
 R (.tuple #[]) m
theorem w310 {a b c h R} (H:s310 a b c h R):FnS prog 310 #[a,b,c] h R:=wq Tryz.func310 (by kernel_rfl) H
def s312 (a b c:Value) (h:Qf) (R:Kn):Prop:=
 Qs a fun d=>
 Qg d 0 fun e=>
 Qg e 0 fun f=>
 Qg f 0 fun g=>
 StK h 1 g b fun i=>
 Qs a fun j=>
 Qg j 0 fun l=>
 Qg l 0 fun m=>
 Qg m 1 fun o=>
 StK i 1 o c fun p=>
 R (.tuple #[]) p
theorem w312 {a b c h R} (H:s312 a b c h R):FnS prog 312 #[a,b,c] h R:=wq Tryz.func312 (by kernel_rfl) H
def s313 (a b c:Value) (h:Qf) (R:Kn):Prop:=
 Qs a fun d=>
 Qg d 0 fun e=>
 Qg e 0 fun f=>
 StK h 1 f b fun g=>
 Qs a fun i=>
 Qg i 0 fun j=>
 Qg j 1 fun l=>
 StK g 1 l c fun m=>
 R (.tuple #[]) m
theorem w313 {a b c h R} (H:s313 a b c h R):FnS prog 313 #[a,b,c] h R:=wq Tryz.func313 (by kernel_rfl) H
def s315 (a b c:Value) (h:Qf) (R:Kn):Prop:=
 Qs a fun d=>
 Qg d 0 fun e=>
 Qg e 0 fun f=>
 StK h 1 f b fun g=>
 Qs a fun i=>
 Qg i 0 fun j=>
 Qg j 1 fun l=>
 StK g 1 l c fun m=>
 R (.tuple #[]) m
theorem w315 {a b c h R} (H:s315 a b c h R):FnS prog 315 #[a,b,c] h R:=wq Tryz.func315 (by kernel_rfl) H
def s316 (a:Value) (h:Qf) (R:Kn):Prop:=
 Qs a fun d=>
 Qg d 0 fun e=>
 Qa prog 292 #[e,(.int .u16 4)] h fun f b=>
 QC .u32 f fun c=>
 Ql prog .neq 68 c (.int .u32 0) fun g=>
 IfK g
 (Qs a fun i=>
 Qg i 0 fun j=>
 Qs a fun l=>
 Qg l 0 fun m=>
 Qg m 1 fun o=>
 LdK b o fun p=>
 Ql prog .add 68 c p fun q=>
 Qa prog 295 #[j,q] b fun r s=>
 R r s)
 (R (.int .u8 2) b)
theorem w316 {a h R} (H:s316 a h R):FnS prog 316 #[a] h R:=wq Tryz.func316 (by kernel_rfl) H
def s321 (a:Value) (h:Qf) (R:Kn):Prop:=
 Qa prog 278 #[a,(.int .i64 1)] h fun _x3 b=>
 R (.tuple #[]) b
theorem w321 {a h R} (H:s321 a h R):FnS prog 321 #[a] h R:=wq Tryz.func321 (by kernel_rfl) H
def s322 (a b:Value) (h:Qf) (R:Kn):Prop:=
 Qa prog 283 #[a,(.int .i64 0),b,(.int .u8 2)] h fun _x6 c=>
 R (.tuple #[]) c
theorem w322 {a b h R} (H:s322 a b h R):FnS prog 322 #[a,b] h R:=wq Tryz.func322 (by kernel_rfl) H
def s323 (a:Value) (h:Qf) (R:Kn):Prop:=
 Qa prog 291 #[a] h fun b c=>
 R b c
theorem w323 {a h R} (H:s323 a h R):FnS prog 323 #[a] h R:=wq Tryz.func323 (by kernel_rfl) H
def s324 (a:Value) (h:Qf) (R:Kn):Prop:=
 Qa prog 278 #[a,(.int .i64 0)] h fun _x3 b=>
 R (.tuple #[]) b
theorem w324 {a h R} (H:s324 a h R):FnS prog 324 #[a] h R:=wq Tryz.func324 (by kernel_rfl) H
def s325 (a:Value) (h:Qf) (R:Kn):Prop:=
 Qa prog 291 #[a] h fun b c=>
 R b c
theorem w325 {a h R} (H:s325 a h R):FnS prog 325 #[a] h R:=wq Tryz.func325 (by kernel_rfl) H
end Go.Proofs
namespace Go.Proofs
open Go Go.Vc
open Tryz (prog)
theorem SlcB {k:Value->Prop} {κ:IntKind} {b n m:Nat} {x:Int} (hx:x=m) (hm:m<n):
  QbH 1 (bsl b 0 n n) (some (.int κ x)) none k=k (bsl b m (n-m) (n-m)):=by
 subst hx
 rw[bsl,SlcK_lo (by omega) (by omega) (Nat.le_refl n)]
 have:¬n=m:=by omega
 simp[this]
structure Tab (H:Qf) (p B:Nat) (bs:List UInt8) (pos:Nat):Prop where
 c0:QaH H ⟨p,0,none⟩=some (bsl B 0 bs.length bs.length)
 c1:QaH H ⟨p,1,none⟩=some (.int .u32 pos)
 u8:U8s H B 0 bs
 lt:bs.length<2147483648
 le:pos<=bs.length
theorem U8s_ext {H H':Qf} (hx:ExtC H H') {b o:Nat} {bs:List UInt8} (h:U8s H b o bs):U8s H' b o bs:=fun i hi=>hx _ _ (h i hi)
theorem Tab.ext {H H':Qf} (hx:ExtC H H') {p B:Nat} {bs:List UInt8} {pos:Nat} (h:Tab H p B bs pos):Tab H' p B bs pos:=
 ⟨hx _ _ h.c0,hx _ _ h.c1,U8s_ext hx h.u8,h.lt,h.le⟩
def leN (k:Nat) (bs:List UInt8) (o:Nat):Nat:=match k with|1=>byteN bs o|2=>le2 bs o|4=>le4 bs o|_=>le8 bs o
structure VT (bs:List UInt8) (pos vt:Nat):Prop where
 hp:pos+4<=bs.length
 hs:(pos:Int)-IntKind.i32.wrap (le4 bs pos)=vt
 he:vt+le2 bs vt<=bs.length
 h4:4<=le2 bs vt
 ev:le2 bs vt%2=0
def slotAt (bs:List UInt8) (vt vo:Nat):Nat:=if vo<le2 bs vt then le2 bs (vt+vo) else 0
theorem slotAt_lt (bs:List UInt8) (vt vo:Nat):slotAt bs vt vo<65536:=by
 unfold slotAt;split
 ·exact le2_lt _ _
 ·omega
section
variable {H:Qf} {p B:Nat} {bs:List UInt8} {pos:Nat} (ht:Tab H p B bs pos) {R:Kn}
include ht
theorem Qj {vt vo:Nat} (hv:VT bs pos vt) (he:vo%2=0) (hR:R (.int .u16 (slotAt bs vt vo)) H):
  FnS prog 292 #[.pointer (some ⟨p,0,none⟩),.int .u16 vo] H R:=by
 have:=ht.lt;have:=hv.hp;have h4:=hv.h4;have hee:=hv.he;have hev:=hv.ev
 have e1:IntKind.i32.wrap (pos:Int)=pos:=YV (by omega) (by omega)
 have e3:IntKind.u32.wrap (IntKind.i32.wrap ((pos:Int)-IntKind.i32.wrap (le4 bs pos)))=(vt:Int):=by
  rw[hv.hs,YV (by omega) (by omega),QV (by omega) (by omega)]
 apply w292
 unfold s292
 simp only[↓Qd,↓Qh,↓Qk ht.c1,↓Qm,e1]
 apply w338
 unfold s338
 simp only[↓Qd,↓Qh,↓Qk ht.c0,↓SlcB (n:=bs.length) (m:=pos) rfl (by omega)]
 refine go_GetSOffsetT ht.u8 (by omega) (by omega) ?_
 rw[Qb]
 simp only[↓Yk,↓Qm,e3]
 apply w339
 unfold s339
 simp only[↓Qd,↓Qh,↓Qk ht.c0,↓SlcB (n:=bs.length) (m:=vt) rfl (by omega)]
 refine QcQ ht.u8 (by omega) (by omega) ?_
 simp only[↓Y2]
 unfold slotAt at hR
 by_cases hlt:vo<le2 bs vt
 ·rw[Q1 (by omega)]
  rw[if_pos hlt]at hR
  have h16:=le2_lt bs vt
  have e4:IntKind.u32.wrap (vo:Int)=vo:=QV (by omega) (by omega)
  have e5:IntKind.u32.wrap ((vt:Int)+vo)=((vt+vo:Nat):Int):=by rw[QV (by omega) (by omega)];omega
  simp only[↓Qm,↓Qx,e4,e5]
  apply w339
  unfold s339
  simp only[↓Qd,↓Qh,↓Qk ht.c0,↓SlcB (n:=bs.length) (m:=vt+vo) rfl (by omega)]
  exact QcQ ht.u8 (by omega) (by omega) hR
 ·rw[Q2 (by omega)]
  rw[if_neg hlt]at hR
  exact hR
theorem QcF {o:Nat} {x:Int} (hx:x=(o:Nat)) (hl:o+2<=bs.length) (hR:R (.int .i16 (IntKind.i16.wrap (le2 bs o:Int))) H):
  FnS prog 293 #[.pointer (some ⟨p,0,none⟩),.int .u32 x] H R:=by
 have:=ht.lt
 subst hx
 apply w293
 unfold s293
 simp only[↓Qd,↓Qh,↓Qk ht.c0,↓SlcB (n:=bs.length) (m:=o) rfl (by omega)]
 exact go_GetInt16 ht.u8 (by omega) (by omega) hR
theorem YN {o:Nat} {x:Int} (hx:x=(o:Nat)) (hl:o+1<=bs.length) (hR:R (.int .u8 (byteN bs o:Int)) H):
  FnS prog 295 #[.pointer (some ⟨p,0,none⟩),.int .u32 x] H R:=by
 have:=ht.lt
 subst hx
 apply w295
 unfold s295
 simp only[↓Qd,↓Qh,↓Qk ht.c0,↓SlcB (n:=bs.length) (m:=o) rfl (by omega)]
 exact go_GetByte ht.u8 (by omega) (by omega) hR
theorem Qfb {o:Nat} {x:Int} (hx:x=(o:Nat)) (hl:o+1<=bs.length) (hR:R (.bool (decide ((byteN bs o:Int)=1))) H):
  FnS prog 296 #[.pointer (some ⟨p,0,none⟩),.int .u32 x] H R:=by
 have:=ht.lt
 subst hx
 apply w296
 unfold s296
 simp only[↓Qd,↓Qh,↓Qk ht.c0,↓SlcB (n:=bs.length) (m:=o) rfl (by omega)]
 exact go_GetBool ht.u8 (by omega) (by omega) hR
theorem Qej {o:Nat} {x:Int} (hx:x=(o:Nat)) (hl:o+4<=bs.length) (hR:R (.int .i32 (IntKind.i32.wrap (le4 bs o:Int))) H):
  FnS prog 297 #[.pointer (some ⟨p,0,none⟩),.int .u32 x] H R:=by
 have:=ht.lt
 subst hx
 apply w297
 unfold s297
 simp only[↓Qd,↓Qh,↓Qk ht.c0,↓SlcB (n:=bs.length) (m:=o) rfl (by omega)]
 exact Qgr ht.u8 (by omega) (by omega) hR
theorem QaD {o:Nat} {x:Int} (hx:x=(o:Nat)) (hl:o+4<=bs.length) (hR:R (.int .u32 (le4 bs o:Int)) H):
  FnS prog 298 #[.pointer (some ⟨p,0,none⟩),.int .u32 x] H R:=by
 have:=ht.lt
 subst hx
 apply w298
 unfold s298
 simp only[↓Qd,↓Qh,↓Qk ht.c0,↓SlcB (n:=bs.length) (m:=o) rfl (by omega)]
 exact Qi4 ht.u8 (by omega) (by omega) hR
theorem Qb1 {o:Nat} {x:Int} (hx:x=(o:Nat)) (hl:o+8<=bs.length) (hR:R (.int .i64 (IntKind.i64.wrap (le8 bs o:Int))) H):
  FnS prog 299 #[.pointer (some ⟨p,0,none⟩),.int .u32 x] H R:=by
 have:=ht.lt
 subst hx
 apply w299
 unfold s299
 simp only[↓Qd,↓Qh,↓Qk ht.c0,↓SlcB (n:=bs.length) (m:=o) rfl (by omega)]
 exact go_GetInt64 ht.u8 (by omega) (by omega) hR
theorem YH {o:Nat} {x:Int} (hx:x=(o:Nat)) (hl:o+8<=bs.length) (hR:R (.int .u64 (le8 bs o:Int)) H):
  FnS prog 300 #[.pointer (some ⟨p,0,none⟩),.int .u32 x] H R:=by
 have:=ht.lt
 subst hx
 apply w300
 unfold s300
 simp only[↓Qd,↓Qh,↓Qk ht.c0,↓SlcB (n:=bs.length) (m:=o) rfl (by omega)]
 exact QhX ht.u8 (by omega) (by omega) hR
theorem Zq {o:Nat} {x:Int} (hx:x=(o:Nat)) (hl:o+4<=bs.length) (hR:R (.float .f32 (le4 bs o)) H):
  FnS prog 301 #[.pointer (some ⟨p,0,none⟩),.int .u32 x] H R:=by
 have:=ht.lt
 subst hx
 apply w301
 unfold s301
 simp only[↓Qd,↓Qh,↓Qk ht.c0,↓SlcB (n:=bs.length) (m:=o) rfl (by omega)]
 exact go_GetFloat32 ht.u8 (by omega) (by omega) hR
theorem Qf7 {o:Nat} {x:Int} (hx:x=(o:Nat)) (hl:o+1<=bs.length) (hR:R (.int .i8 (IntKind.i8.wrap (byteN bs o:Int))) H):
  FnS prog 304 #[.pointer (some ⟨p,0,none⟩),.int .u32 x] H R:=by
 have:=ht.lt
 subst hx
 apply w304
 unfold s304
 simp only[↓Qd,↓Qh,↓Qk ht.c0,↓SlcB (n:=bs.length) (m:=o) rfl (by omega)]
 exact go_GetInt8 ht.u8 (by omega) (by omega) hR
theorem QdH {o:Nat} {x:Int} (hx:x=(o:Nat)) (hl:o+8<=bs.length) (hR:R (.float .f64 (le8 bs o)) H):
  FnS prog 307 #[.pointer (some ⟨p,0,none⟩),.int .u32 x] H R:=by
 have:=ht.lt
 subst hx
 apply w307
 unfold s307
 simp only[↓Qd,↓Qh,↓Qk ht.c0,↓SlcB (n:=bs.length) (m:=o) rfl (by omega)]
 exact go_GetFloat64 ht.u8 (by omega) (by omega) hR
theorem Qhe {o:Nat} {x:Int} (hx:x=(o:Nat)) (hl:o+2<=bs.length) (hR:R (.int .u16 (le2 bs o:Int)) H):
  FnS prog 311 #[.pointer (some ⟨p,0,none⟩),.int .u32 x] H R:=by
 have:=ht.lt
 subst hx
 apply w311
 unfold s311
 simp only[↓Qd,↓Qh,↓Qk ht.c0,↓SlcB (n:=bs.length) (m:=o) rfl (by omega)]
 exact QhU ht.u8 (by omega) (by omega) hR
theorem Qga {o:Nat} {x:Int} (hx:x=(o:Nat)) (hl:o+4<=bs.length) (hR:R (.int .u32 (le4 bs o:Int)) H):
  FnS prog 350 #[.pointer (some ⟨p,0,none⟩),.int .u32 x] H R:=by
 have:=ht.lt
 subst hx
 apply w350
 unfold s350
 simp only[↓Qd,↓Qh,↓Qk ht.c0,↓SlcB (n:=bs.length) (m:=o) rfl (by omega)]
 exact Z3 ht.u8 (by omega) (by omega) hR
def tgt (bs:List UInt8) (o:Nat):Nat:=o+le4 bs o
theorem Z8 {o:Nat} {x:Int} (hx:x=(o:Nat)) (hl:o+4<=bs.length) (h2:tgt bs o<=bs.length) (hR:R (.int .u32 (tgt bs o:Nat)) H):
  FnS prog 302 #[.pointer (some ⟨p,0,none⟩),.int .u32 x] H R:=by
 have:=ht.lt
 subst hx
 unfold tgt at h2 hR
 apply w302
 unfold s302
 simp only[↓Qd,↓Qh,↓Qk ht.c0,↓SlcB (n:=bs.length) (m:=o) rfl (by omega)]
 refine Z3 ht.u8 (by omega) (by omega) ?_
 rw[Qx,QV (by omega) (by omega)]
 rw[show (o:Int)+(le4 bs o:Int)=((o+le4 bs o:Nat):Int) by omega]
 exact hR
theorem Qag {o n:Nat} {x:Int} (hx:x=(o:Nat)) (hl:o+4<=bs.length) (hn:le4 bs (tgt bs o)=n) (h2:tgt bs o+4+n<=bs.length) (h3:tgt bs o+4<bs.length)
  (hR:R (bsl B (tgt bs o+4) n (bs.length-(tgt bs o+4))) H):
  FnS prog 294 #[.pointer (some ⟨p,0,none⟩),.int .u32 x] H R:=by
 have:=ht.lt
 subst hx
 apply w294
 unfold s294
 simp only[↓Qd,↓Qh,↓Qk ht.c0,↓SlcB (n:=bs.length) (m:=o) rfl (by omega)]
 refine Z3 ht.u8 (by omega) (by omega) ?_
 have e1:IntKind.u32.wrap ((o:Int)+(le4 bs o:Int))=(tgt bs o:Nat):=by unfold tgt at h2⊢;rw[QV (by omega) (by omega)];omega
 have e2:IntKind.u32.wrap (((tgt bs o:Nat):Int)+4)=((tgt bs o+4:Nat):Int):=by rw[QV (by omega) (by omega)];omega
 simp only[↓Qx,e1,e2,↓Qd,↓Qh,↓Qk ht.c0,↓SlcB (n:=bs.length) (m:=tgt bs o) rfl (by omega)]
 refine Z3 ht.u8 (by omega) (by omega) ?_
 have e3:IntKind.u32.wrap (((tgt bs o+4:Nat):Int)+(le4 bs (tgt bs o):Int))=((tgt bs o+4+n:Nat):Int):=by rw[QV (by omega) (by omega)];omega
 simp only[↓Qx,e3,↓Qd,↓Qh,↓Qk ht.c0]
 rw[bsl,QfN (by omega) (by omega) (by omega)]
 have e4:¬bs.length=tgt bs o+4:=by omega
 simp only[Int.toNat_natCast,if_neg e4,Nat.zero_add,Nat.mul_one,show tgt bs o+4+n-(tgt bs o+4)=n by omega]
 exact hR
theorem QT {o:Nat} {x:Int} (hx:x=(o:Nat)) (hl:pos+o+4<=bs.length) (h2:tgt bs (pos+o)+4<=bs.length)
  (hR:R (.int .i64 (le4 bs (tgt bs (pos+o)):Nat)) H):
  FnS prog 308 #[.pointer (some ⟨p,0,none⟩),.int .u32 x] H R:=by
 have:=ht.lt
 subst hx
 apply w308
 unfold s308
 have e0:IntKind.u32.wrap ((o:Int)+pos)=((pos+o:Nat):Int):=by rw[QV (by omega) (by omega)];omega
 simp only[↓Qd,↓Qh,↓Qk ht.c1,↓Qk ht.c0,↓Qx,e0,↓SlcB (n:=bs.length) (m:=pos+o) rfl (by omega)]
 refine Z3 ht.u8 (by omega) (by omega) ?_
 have e1:IntKind.u32.wrap (((pos+o:Nat):Int)+(le4 bs (pos+o):Int))=(tgt bs (pos+o):Nat):=by unfold tgt at h2⊢;rw[QV (by omega) (by omega)];omega
 simp only[↓Qx,e1,↓Qd,↓Qh,↓Qk ht.c0,↓SlcB (n:=bs.length) (m:=tgt bs (pos+o)) rfl (by omega)]
 refine Z3 ht.u8 (by omega) (by omega) ?_
 have h4:=le4_lt bs (tgt bs (pos+o))
 rw[Qm,wrap_i64 (by omega) (by omega)]
 exact hR
theorem Ye {o:Nat} {x:Int} (hx:x=(o:Nat)) (hl:pos+o+4<=bs.length) (h2:tgt bs (pos+o)+4<=bs.length)
  (hR:R (.int .u32 (tgt bs (pos+o)+4:Nat)) H):
  FnS prog 309 #[.pointer (some ⟨p,0,none⟩),.int .u32 x] H R:=by
 have:=ht.lt
 subst hx
 apply w309
 unfold s309
 have e0:IntKind.u32.wrap ((o:Int)+pos)=((pos+o:Nat):Int):=by rw[QV (by omega) (by omega)];omega
 simp only[↓Qd,↓Qh,↓Qk ht.c1,↓Qk ht.c0,↓Qx,e0,↓SlcB (n:=bs.length) (m:=pos+o) rfl (by omega)]
 refine Z3 ht.u8 (by omega) (by omega) ?_
 have e1:IntKind.u32.wrap (((pos+o:Nat):Int)+(le4 bs (pos+o):Int))=(tgt bs (pos+o):Nat):=by unfold tgt at h2⊢;rw[QV (by omega) (by omega)];omega
 have e2:IntKind.u32.wrap (((tgt bs (pos+o):Nat):Int)+4)=((tgt bs (pos+o)+4:Nat):Int):=by rw[QV (by omega) (by omega)];omega
 simp only[↓Qx,e1,e2]
 exact hR
theorem QdW {o q:Nat} {x:Int} {c:Array Value} {e:TypeId} (hx:x=(o:Nat)) (hl:pos+o+4<=bs.length) (h2:tgt bs (pos+o)<=bs.length) (hq:H[q]?=some (.cells c e (0,0))) (hc:c.size=2) (hpq:q≠p)
  (hR:R (.tuple #[]) (setB H q (.cells #[bsl B 0 bs.length bs.length,.int .u32 (tgt bs (pos+o):Nat)] e (0,0)))):
  FnS prog 314 #[.pointer (some ⟨p,0,none⟩),.pointer (some ⟨q,0,none⟩),.int .u32 x] H R:=by
 have:=ht.lt
 subst hx
 apply w314
 unfold s314
 have e0:IntKind.u32.wrap ((o:Int)+pos)=((pos+o:Nat):Int):=by rw[QV (by omega) (by omega)];omega
 simp only[↓Qd,↓Qh,↓Qk ht.c1,↓Qx,e0]
 refine Qga ht (o:=pos+o) rfl (by omega) ?_
 have e1:IntKind.u32.wrap (((pos+o:Nat):Int)+(le4 bs (pos+o):Int))=(tgt bs (pos+o):Nat):=by unfold tgt at h2⊢;rw[QV (by omega) (by omega)];omega
 have c0:=ht.c0
 obtain ⟨x0,x1,rfl⟩:∃x0 x1,c=#[x0,x1]:=by
  obtain ⟨l⟩:=c
  match l,hc with
  |[x0,x1],_=>exact ⟨x0,x1,rfl⟩
 simp only[↓Qx,e1,↓Qd,↓Qh,↓ZQ (v:=.int .u32 (tgt bs (pos+o):Nat)) hq (by decide:1<2) (by simp) rfl]
 have hq':=QH (o:=.cells (#[x0,x1].setIfInBounds 1 (.int .u32 (tgt bs (pos+o):Nat))) e (0,0)) hq
 have c0':QaH (setB H q (.cells (#[x0,x1].setIfInBounds 1 (.int .u32 (tgt bs (pos+o):Nat))) e (0,0))) ⟨p,0,none⟩=some (bsl B 0 bs.length bs.length):=by
  rw[<-c0];unfold QaH;rw[Q0 (Ne.symm hpq)]
 simp only[↓Qk c0',↓ZQ (v:=bsl B 0 bs.length bs.length) hq' (by decide:0<2) (by simp) rfl,ZW]
 exact hR
end
theorem Zx {H:Qf} {R:Kn} {q:Nat} {c:Array Value} {e:TypeId} {x y:Value} (hq:H[q]?=some (.cells c e (0,0))) (hc:c.size=2) (hx:x.oneCell'=true) (hy:y.oneCell'=true)
  (hR:R (.tuple #[]) (setB H q (.cells #[x,y] e (0,0)))):FnS prog 248 #[.pointer (some ⟨q,0,none⟩),x,y] H R:=by
 obtain ⟨x0,x1,rfl⟩:∃x0 x1,c=#[x0,x1]:=by
  obtain ⟨l⟩:=c
  match l,hc with
  |[x0,x1],_=>exact ⟨x0,x1,rfl⟩
 apply w248
 unfold s248
 have hq':=QH (o:=.cells (#[x0,x1].setIfInBounds 0 x) e (0,0)) hq
 simp only[↓Qd,↓Qh,↓ZQ hq (by decide:0<2) (by simp) hx,↓ZQ hq' (by decide:1<2) (by simp) hy,ZW]
 exact hR
theorem QhM {H:Qf} {R:Kn} {q:Nat} {c:Array Value} {e:TypeId} {x y:Value} (hq:H[q]?=some (.cells c e (0,0))) (hc:c.size=2) (hx:x.oneCell'=true) (hy:y.oneCell'=true)
  (hR:R (.tuple #[]) (setB H q (.cells #[x,y] e (0,0)))):FnS prog 305 #[.pointer (some ⟨q,0,none⟩),x,y] H R:=by
 obtain ⟨x0,x1,rfl⟩:∃x0 x1,c=#[x0,x1]:=by
  obtain ⟨l⟩:=c
  match l,hc with
  |[x0,x1],_=>exact ⟨x0,x1,rfl⟩
 apply w305
 unfold s305
 have hq':=QH (o:=.cells (#[x0,x1].setIfInBounds 0 x) e (0,0)) hq
 simp only[↓Qd,↓Qh,↓ZQ hq (by decide:0<2) (by simp) hx,↓ZQ hq' (by decide:1<2) (by simp) hy,ZW]
 exact hR
theorem QcC {H:Qf} {R:Kn} {q:Nat} {c:Array Value} {e:TypeId} {x y:Value} (hq:H[q]?=some (.cells c e (0,0))) (hc:c.size=2) (hx:x.oneCell'=true) (hy:y.oneCell'=true)
  (hR:R (.tuple #[]) (setB H q (.cells #[x,y] e (0,0)))):FnS prog 306 #[.pointer (some ⟨q,0,none⟩),x,y] H R:=by
 obtain ⟨x0,x1,rfl⟩:∃x0 x1,c=#[x0,x1]:=by
  obtain ⟨l⟩:=c
  match l,hc with
  |[x0,x1],_=>exact ⟨x0,x1,rfl⟩
 apply w306
 unfold s306
 have hq':=QH (o:=.cells (#[x0,x1].setIfInBounds 0 x) e (0,0)) hq
 simp only[↓Qd,↓Qh,↓ZQ hq (by decide:0<2) (by simp) hx,↓ZQ hq' (by decide:1<2) (by simp) hy,ZW]
 exact hR
theorem QhD {H:Qf} {R:Kn} {q:Nat} {c:Array Value} {e:TypeId} {x y:Value} (hq:H[q]?=some (.cells c e (0,0))) (hc:c.size=2) (hx:x.oneCell'=true) (hy:y.oneCell'=true)
  (hR:R (.tuple #[]) (setB H q (.cells #[x,y] e (0,0)))):FnS prog 310 #[.pointer (some ⟨q,0,none⟩),x,y] H R:=by
 obtain ⟨x0,x1,rfl⟩:∃x0 x1,c=#[x0,x1]:=by
  obtain ⟨l⟩:=c
  match l,hc with
  |[x0,x1],_=>exact ⟨x0,x1,rfl⟩
 apply w310
 unfold s310
 have hq':=QH (o:=.cells (#[x0,x1].setIfInBounds 0 x) e (0,0)) hq
 simp only[↓Qd,↓Qh,↓ZQ hq (by decide:0<2) (by simp) hx,↓ZQ hq' (by decide:1<2) (by simp) hy,ZW]
 exact hR
theorem Qge {H:Qf} {R:Kn} {q:Nat} {c:Array Value} {e:TypeId} {x y:Value} (hq:H[q]?=some (.cells c e (0,0))) (hc:c.size=2) (hx:x.oneCell'=true) (hy:y.oneCell'=true)
  (hR:R (.tuple #[]) (setB H q (.cells #[x,y] e (0,0)))):FnS prog 312 #[.pointer (some ⟨q,0,none⟩),x,y] H R:=by
 obtain ⟨x0,x1,rfl⟩:∃x0 x1,c=#[x0,x1]:=by
  obtain ⟨l⟩:=c
  match l,hc with
  |[x0,x1],_=>exact ⟨x0,x1,rfl⟩
 apply w312
 unfold s312
 have hq':=QH (o:=.cells (#[x0,x1].setIfInBounds 0 x) e (0,0)) hq
 simp only[↓Qd,↓Qh,↓ZQ hq (by decide:0<2) (by simp) hx,↓ZQ hq' (by decide:1<2) (by simp) hy,ZW]
 exact hR
theorem Qc5 {H:Qf} {R:Kn} {q:Nat} {c:Array Value} {e:TypeId} {x y:Value} (hq:H[q]?=some (.cells c e (0,0))) (hc:c.size=2) (hx:x.oneCell'=true) (hy:y.oneCell'=true)
  (hR:R (.tuple #[]) (setB H q (.cells #[x,y] e (0,0)))):FnS prog 313 #[.pointer (some ⟨q,0,none⟩),x,y] H R:=by
 obtain ⟨x0,x1,rfl⟩:∃x0 x1,c=#[x0,x1]:=by
  obtain ⟨l⟩:=c
  match l,hc with
  |[x0,x1],_=>exact ⟨x0,x1,rfl⟩
 apply w313
 unfold s313
 have hq':=QH (o:=.cells (#[x0,x1].setIfInBounds 0 x) e (0,0)) hq
 simp only[↓Qd,↓Qh,↓ZQ hq (by decide:0<2) (by simp) hx,↓ZQ hq' (by decide:1<2) (by simp) hy,ZW]
 exact hR
theorem Qbn {H:Qf} {R:Kn} {q:Nat} {c:Array Value} {e:TypeId} {x y:Value} (hq:H[q]?=some (.cells c e (0,0))) (hc:c.size=2) (hx:x.oneCell'=true) (hy:y.oneCell'=true)
  (hR:R (.tuple #[]) (setB H q (.cells #[x,y] e (0,0)))):FnS prog 315 #[.pointer (some ⟨q,0,none⟩),x,y] H R:=by
 obtain ⟨x0,x1,rfl⟩:∃x0 x1,c=#[x0,x1]:=by
  obtain ⟨l⟩:=c
  match l,hc with
  |[x0,x1],_=>exact ⟨x0,x1,rfl⟩
 apply w315
 unfold s315
 have hq':=QH (o:=.cells (#[x0,x1].setIfInBounds 0 x) e (0,0)) hq
 simp only[↓Qd,↓Qh,↓ZQ hq (by decide:0<2) (by simp) hx,↓ZQ hq' (by decide:1<2) (by simp) hy,ZW]
 exact hR
theorem Qd6 {H:Qf} {R:Kn} {q:Nat} {c:Array Value} {e:TypeId} {x y:Value} (hq:H[q]?=some (.cells c e (0,0))) (hc:c.size=2) (hx:x.oneCell'=true) (hy:y.oneCell'=true)
  (hR:R (.tuple #[]) (setB H q (.cells #[x,y] e (0,0)))):FnS prog 303 #[.pointer (some ⟨q,0,none⟩),x,y] H R:=by
 obtain ⟨x0,x1,rfl⟩:∃x0 x1,c=#[x0,x1]:=by
  obtain ⟨l⟩:=c
  match l,hc with
  |[x0,x1],_=>exact ⟨x0,x1,rfl⟩
 apply w303
 unfold s303
 have hq':=QH (o:=.cells (#[x0,x1].setIfInBounds 0 x) e (0,0)) hq
 simp only[↓Qd,↓Qh,↓ZQ hq (by decide:0<2) (by simp) hx,↓ZQ hq' (by decide:1<2) (by simp) hy,ZW]
 exact hR
end Go.Proofs
