/- WHAT IS PROVED: the given statement of FnMonsterFormat, whatever the input: this is part 4 of 14. No conditions. -/
import Derived.Test.YthcjblkplcepaaaGreatX03
set_option linter.all false
namespace Go.Proofs
open Go Go.Vc
open Tryz (prog)
set_option maxRecDepth 100000
def s20 (d:Value) (h:Qe) (R:Kn):Prop:=
 QA (fun b=>
 Qj prog .leq 3 d (.int .i64 0) fun f=>
 IfK f
 (b [(.int .i64 0)] h)
 (b [d] h)) fun b=>∀c:Value,∀e:Qe,b [c] e->
 Qu z134.toList [] fun g=>
 Y8 e (.cells (Value.cells g) 134) fun a i=>
 Qez i 5 1 z5 c c fun j l=>
 Q1 a fun m=>
 Qf m 0 fun o=>
 StK l 1 o j fun p=>
 QG .u32 c fun q=>
 Q1 a fun r=>
 Qf r 5 fun s=>
 StK p 1 s q fun t=>
 Q1 a fun u=>
 Qf u 1 fun v=>
 StK t 1 v (.int .i64 1) fun w=>
 Qez w 74 4 z74 (.int .i64 0) (.int .i64 16) fun y z=>
 Q1 a fun a0=>
 Qf a0 4 fun a1=>
 StK z 1 a1 y fun a2=>
 R a a2
theorem w20 {a h R} (H:s20 a h R):FnS prog 20 #[a] h R:=wq Tryz.func20 (by kernel_rfl) H
def s21 (a c:Value) (h:Qe) (R:Kn):Prop:=
 Qa prog 60 #[a] h fun _x5 b=>
 Q1 a fun d=>
 Qf d 1 fun e=>
 LdK b e fun f=>
 Qa prog 61 #[a,f,(.int .i64 4)] b fun _x11 g=>
 Qa prog 62 #[a,c] g fun _x14 i=>
 Q1 a fun j=>
 Qf j 7 fun l=>
 StK i 1 l (.bool true) fun m=>
 R (.tuple #[]) m
theorem w21 {a b h R} (H:s21 a b h R):FnS prog 21 #[a,b] h R:=wq Tryz.func21 (by kernel_rfl) H
def s24 (a:Value) (h:Qe) (R:Kn):Prop:=
 Qa prog 156 #[a] h fun _x4 b=>
 Q1 a fun d=>
 Qf d 0 fun e=>
 LdK b e fun f=>
 Qa prog 157 #[a] b fun g c=>
 Qh b c<|
 Qg4 1 f (some g) none fun i=>
 R i c
theorem w24 {a h R} (H:s24 a h R):FnS prog 24 #[a] h R:=wq Tryz.func24 (by kernel_rfl) H
def s60 (a:Value) (h:Qe) (R:Kn):Prop:=
 Q1 a fun b=>
 Qf b 6 fun c=>
 LdK h c fun d=>
 IfK d
 (False)
 (R (.tuple #[]) h)
theorem w60 {a h R} (H:s60 a h R):FnS prog 60 #[a] h R:=wq Tryz.func60 (by kernel_rfl) H
def s61 (a c i:Value) (h:Qe) (R:Kn):Prop:=
 QA (fun d=>
 Q1 a fun q=>
 Qf q 1 fun r=>
 LdK h r fun s=>
 Qj prog .gtr 3 c s fun t=>
 IfK t
 (Q1 a fun u=>
 Qf u 1 fun v=>
 StK h 1 v c fun w=>
 d [] w)
 (d [] h)) fun d=>∀e:Qe,d [] e->
 Q1 a fun y=>
 Qf y 0 fun z=>
 LdK e z fun a0=>
 Y1 a0 fun a1=>
 Qa prog 157 #[a] e fun a2 j=>
 Qh e j<|
 QG .i64 a2 fun a3=>
 Qj prog .sub 3 a1 a3 fun a4=>
 Qj prog .add 3 a4 i fun a5=>
 Zu prog (Op.unary .xor a5) fun a6=>
 Qj prog .add 3 a6 (.int .i64 1) fun a7=>
 Qj prog .sub 3 c (.int .i64 1) fun a8=>
 Qj prog .and 3 a7 a8 fun l=>
 QA (fun f=>
 Yu [] j fun m o=>∀b:Qe,m o [] b->
 Q1 a fun a9=>
 Qf a9 5 fun b0=>
 LdK b b0 fun b1=>
 QG .i64 b1 fun b2=>
 Qj prog .add 3 l c fun b3=>
 Qj prog .add 3 b3 i fun b4=>
 Qj prog .leq 3 b2 b4 fun b5=>
 IfK b5
 (Q1 a fun b6=>
 Qf b6 0 fun b7=>
 LdK b b7 fun b8=>
 Y1 b8 fun b9=>
 Qa prog 247 #[a] b fun _x52 g=>
 Q1 a fun c0=>
 Qf c0 5 fun c1=>
 LdK g c1 fun c2=>
 Q1 a fun c3=>
 Qf c3 0 fun c4=>
 LdK g c4 fun c5=>
 Y1 c5 fun c6=>
 Qj prog .sub 3 c6 b9 fun c7=>
 QG .u32 c7 fun c8=>
 Qj prog .add 74 c2 c8 fun c9=>
 Q1 a fun d0=>
 Qf d0 5 fun d1=>
 StK g 1 d1 c9 fun d2=>
 QQ m o [] d2)
 (f [] b)) fun f=>∀p:Qe,f [] p->
 Qa prog 248 #[a,l] p fun _x70 d3=>
 R (.tuple #[]) d3
theorem w61 {a b c h R} (H:s61 a b c h R):FnS prog 61 #[a,b,c] h R:=wq Tryz.func61 (by kernel_rfl) H
def s62 (a c:Value) (h:Qe) (R:Kn):Prop:=
 Qa prog 61 #[a,(.int .i64 4),(.int .i64 0)] h fun _x6 e=>
 QA (fun b=>
 Qa prog 249 #[a] e fun f g=>
 Qj prog .leq 74 c f fun i=>
 Zu prog (Op.unary .not i) fun j=>
 IfK j
 (False)
 (b [] g)) fun b=>∀d:Qe,b [] d->
 Qa prog 249 #[a] d fun l m=>
 Qj prog .sub 74 l c fun o=>
 Qj prog .add 74 o (.int .u32 4) fun p=>
 Qa prog 250 #[a,p] m fun _x20 q=>
 R (.tuple #[]) q
theorem w62 {a b h R} (H:s62 a b h R):FnS prog 62 #[a,b] h R:=wq Tryz.func62 (by kernel_rfl) H
def s74 (a b:Value) (h:Qe) (R:Kn):Prop:=
 Qa prog 60 #[a] h fun _x7 f=>
 Q1 a fun g=>
 Qf g 6 fun i=>
 StK f 1 i (.bool true) fun j=>
 QbP b fun l=>
 Qj prog .add 3 l (.int .i64 1) fun m=>
 Qj prog .mul 3 m (.int .i64 1) fun o=>
 Qa prog 61 #[a,(.int .i64 4),o] j fun _x16 p=>
 Qa prog 251 #[a,(.int .u8 0)] p fun _x18 d=>
 QbP b fun q=>
 QG .u32 q fun e=>
 Q1 a fun r=>
 Qf r 5 fun s=>
 LdK d s fun t=>
 Qj prog .sub 74 t e fun u=>
 Q1 a fun v=>
 Qf v 5 fun w=>
 StK d 1 w u fun c=>
 Q1 a fun y=>
 Qf y 0 fun z=>
 LdK c z fun a0=>
 Q1 a fun a1=>
 Qf a1 5 fun a2=>
 LdK c a2 fun a3=>
 Q1 a fun a4=>
 Qf a4 5 fun a5=>
 LdK c a5 fun a6=>
 Qj prog .add 74 a6 e fun a7=>
 Qg4 1 a0 (some a3) (some a7) fun a8=>
 CopyK c 1 a8 b fun _x46 a9=>
 QbP b fun b0=>
 Qa prog 79 #[a,b0] a9 fun b1 b2=>
 R b1 b2
theorem w74 {a b h R} (H:s74 a b h R):FnS prog 74 #[a,b] h R:=wq Tryz.func74 (by kernel_rfl) H
def s75 (a b:Value) (h:Qe) (R:Kn):Prop:=
 Qa prog 60 #[a] h fun _x7 f=>
 Q1 a fun g=>
 Qf g 6 fun i=>
 StK f 1 i (.bool true) fun j=>
 Y1 b fun l=>
 Qj prog .add 3 l (.int .i64 1) fun m=>
 Qj prog .mul 3 m (.int .i64 1) fun o=>
 Qa prog 61 #[a,(.int .i64 4),o] j fun _x16 p=>
 Qa prog 251 #[a,(.int .u8 0)] p fun _x18 d=>
 Y1 b fun q=>
 QG .u32 q fun e=>
 Q1 a fun r=>
 Qf r 5 fun s=>
 LdK d s fun t=>
 Qj prog .sub 74 t e fun u=>
 Q1 a fun v=>
 Qf v 5 fun w=>
 StK d 1 w u fun c=>
 Q1 a fun y=>
 Qf y 0 fun z=>
 LdK c z fun a0=>
 Q1 a fun a1=>
 Qf a1 5 fun a2=>
 LdK c a2 fun a3=>
 Q1 a fun a4=>
 Qf a4 5 fun a5=>
 LdK c a5 fun a6=>
 Qj prog .add 74 a6 e fun a7=>
 Qg4 1 a0 (some a3) (some a7) fun a8=>
 CopyK c 1 a8 b fun _x46 a9=>
 Y1 b fun b0=>
 Qa prog 79 #[a,b0] a9 fun b1 b2=>
 R b1 b2
theorem w75 {a b h R} (H:s75 a b h R):FnS prog 75 #[a,b] h R:=wq Tryz.func75 (by kernel_rfl) H
def s79 (a b:Value) (h:Qe) (R:Kn):Prop:=
 Qa prog 256 #[a] h fun _x6 c=>
 QG .u32 b fun d=>
 Qa prog 250 #[a,d] c fun _x10 e=>
 Q1 a fun f=>
 Qf f 6 fun g=>
 StK e 1 g (.bool false) fun i=>
 Qa prog 249 #[a] i fun j l=>
 R j l
theorem w79 {a b h R} (H:s79 a b h R):FnS prog 79 #[a,b] h R:=wq Tryz.func79 (by kernel_rfl) H
theorem w84 {a b h R} (H:tp84 1 262 a b h R):FnS prog 84 #[a,b] h R:=wq Tryz.func84 (by kernel_rfl) H
theorem w90 {a b h R} (H:tp84 8 264 a b h R):FnS prog 90 #[a,b] h R:=wq Tryz.func90 (by kernel_rfl) H
theorem w92 {a b h R} (H:tp84 8 265 a b h R):FnS prog 92 #[a,b] h R:=wq Tryz.func92 (by kernel_rfl) H
theorem w97 {a b h R} (H:tp84 8 271 a b h R):FnS prog 97 #[a,b] h R:=wq Tryz.func97 (by kernel_rfl) H
theorem w104 {a b h R} (H:tp84 1 251 a b h R):FnS prog 104 #[a,b] h R:=wq Tryz.func104 (by kernel_rfl) H
theorem w156 {a h R} (H:tp156 7 a h R):FnS prog 156 #[a] h R:=wq Tryz.func156 (by kernel_rfl) H
def s157 (a:Value) (h:Qe) (R:Kn):Prop:=
 Q1 a fun b=>
 Qf b 5 fun c=>
 LdK h c fun d=>
 R d h
theorem w157 {a h R} (H:s157 a h R):FnS prog 157 #[a] h R:=wq Tryz.func157 (by kernel_rfl) H
def s247 (a:Value) (h:Qe) (R:Kn):Prop:=
 QA (fun i=>
 Q1 a fun p=>
 Qf p 0 fun q=>
 LdK h q fun r=>
 Y1 r fun s=>
 Qj prog .and 2 s (.int .i64 3221225472) fun t=>
 Qj prog .neq 2 t (.int .i64 0) fun u=>
 IfK u
 (False)
 (i [] h)) fun i=>∀d:Qe,i [] d->
 Q1 a fun v=>
 Qf v 0 fun w=>
 LdK d w fun y=>
 Y1 y fun z=>
 Qj prog .mul 3 z (.int .i64 2) fun j=>
 QA (fun e=>
 Qj prog .eql 3 j (.int .i64 0) fun a0=>
 IfK a0
 (e [(.int .i64 1)] d)
 (e [j] d)) fun e=>∀c:Value,∀b:Qe,e [c] b->
 QA (fun f=>
 Q1 a fun a1=>
 Qf a1 0 fun a2=>
 LdK b a2 fun a3=>
 CapK a3 fun a4=>
 Qj prog .geq 3 a4 c fun a5=>
 IfK a5
 (Q1 a fun a6=>
 Qf a6 0 fun a7=>
 LdK b a7 fun a8=>
 Qg4 1 a8 none (some c) fun a9=>
 Q1 a fun b0=>
 Qf b0 0 fun b1=>
 StK b 1 b1 a9 fun b2=>
 f [] b2)
 (Q1 a fun b3=>
 Qf b3 0 fun b4=>
 LdK b b4 fun b5=>
 Y1 b5 fun b6=>
 Qj prog .sub 3 c b6 fun l=>
 Qez b 5 1 z5 l l fun b7 m=>
 Q1 a fun b8=>
 Qf b8 0 fun b9=>
 LdK m b9 fun c0=>
 Qbk m 5 1 1 z5 c0 b7 fun c1 c2=>
 Q1 a fun c3=>
 Qf c3 0 fun c4=>
 StK c2 1 c4 c1 fun c5=>
 f [] c5)) fun f=>∀g:Qe,f [] g->
 Qj prog .quo 3 c (.int .i64 2) fun o=>
 Q1 a fun c6=>
 Qf c6 0 fun c7=>
 LdK g c7 fun c8=>
 Qg4 1 c8 (some o) none fun c9=>
 Q1 a fun d0=>
 Qf d0 0 fun d1=>
 LdK g d1 fun d2=>
 Qg4 1 d2 none (some o) fun d3=>
 CopyK g 1 c9 d3 fun _x68 d4=>
 R (.tuple #[]) d4
theorem w247 {a h R} (H:s247 a h R):FnS prog 247 #[a] h R:=wq Tryz.func247 (by kernel_rfl) H
def s248 (e f:Value) (h:Qe) (R:Kn):Prop:=
 Yu [(.int .i64 0)] h fun c d=>∀a:Value,∀b:Qe,c d [a] b->
 Qj prog .lss 3 a f fun g=>
 IfK g
 (Qa prog 251 #[e,(.int .u8 0)] b fun _x11 i=>
 Qj prog .add 3 a (.int .i64 1) fun j=>
 QQ c d [j] i)
 (R (.tuple #[]) b)
theorem w248 {a b h R} (H:s248 a b h R):FnS prog 248 #[a,b] h R:=wq Tryz.func248 (by kernel_rfl) H
def s249 (a:Value) (h:Qe) (R:Kn):Prop:=
 Q1 a fun b=>
 Qf b 0 fun c=>
 LdK h c fun d=>
 Y1 d fun e=>
 QG .u32 e fun f=>
 Q1 a fun g=>
 Qf g 5 fun i=>
 LdK h i fun j=>
 Qj prog .sub 74 f j fun l=>
 R l h
theorem w249 {a h R} (H:s249 a h R):FnS prog 249 #[a] h R:=wq Tryz.func249 (by kernel_rfl) H
theorem w250 {a b h R} (H:QcM 4 314 a b h R):FnS prog 250 #[a,b] h R:=wq Tryz.func250 (by kernel_rfl) H
theorem w251 {a b h R} (H:QcM 1 315 a b h R):FnS prog 251 #[a,b] h R:=wq Tryz.func251 (by kernel_rfl) H
def s254 (a b c d:Value) (h:Qe) (R:Kn):Prop:=
 Qa prog 60 #[a] h fun _x10 e=>
 Q1 a fun f=>
 Qf f 6 fun g=>
 StK e 1 g (.bool true) fun i=>
 Qj prog .mul 3 b c fun j=>
 Qa prog 61 #[a,(.int .i64 4),j] i fun _x18 l=>
 Qj prog .mul 3 b c fun m=>
 Qa prog 61 #[a,d,m] l fun _x24 o=>
 Qa prog 249 #[a] o fun p q=>
 R p q
theorem w254 {a b c d h R} (H:s254 a b c d h R):FnS prog 254 #[a,b,c,d] h R:=wq Tryz.func254 (by kernel_rfl) H
theorem w256 {a h R} (H:tp156 6 a h R):FnS prog 256 #[a] h R:=wq Tryz.func256 (by kernel_rfl) H
theorem w262 {a b h R} (H:QcM 1 324 a b h R):FnS prog 262 #[a,b] h R:=wq Tryz.func262 (by kernel_rfl) H
theorem w264 {a b h R} (H:QcM 8 326 a b h R):FnS prog 264 #[a,b] h R:=wq Tryz.func264 (by kernel_rfl) H
theorem w265 {a b h R} (H:QcM 8 327 a b h R):FnS prog 265 #[a,b] h R:=wq Tryz.func265 (by kernel_rfl) H
theorem w271 {a b h R} (H:QcM 8 328 a b h R):FnS prog 271 #[a,b] h R:=wq Tryz.func271 (by kernel_rfl) H
def s272 (a d:Value) (h:Qe) (R:Kn):Prop:=
 Qa prog 60 #[a] h fun _x6 s=>
 Q1 a fun t=>
 Qf t 6 fun u=>
 StK s 1 u (.bool true) fun g=>
 QA (fun e=>
 Q1 a fun v=>
 Qf v 2 fun w=>
 LdK g w fun y=>
 CapK y fun z=>
 Qj prog .lss 3 z d fun b=>
 Qd b false (fun a0=>a0 a g) g fun a1 l=>
 Qd b false (fun a2=>Q1 a1 fun a3=>a2 a3 l) l fun a4 m=>
 Qd b false (fun a5=>Qf a4 2 fun a6=>a5 a6 m) m fun a7 i=>
 Qd b false (fun a8=>LdK i a7 fun a9=>a8 a9 i) i fun b0 o=>
 Qd b false (fun b1=>Qj prog .eql 131 b0 (.slice none 0 0) fun b2=>b1 b2 o) o fun b3 j=>
 Yh b (.bool true) b3 fun b4=>
 IfK b4
 (Qez j 74 4 z74 d d fun b5 b6=>
 Q1 a fun b7=>
 Qf b7 2 fun b8=>
 StK b6 1 b8 b5 fun b9=>
 e [] b9)
 (Q1 a fun c0=>
 Qf c0 2 fun c1=>
 LdK j c1 fun c2=>
 Qg4 1 c2 none (some d) fun c3=>
 Q1 a fun c4=>
 Qf c4 2 fun c5=>
 StK j 1 c5 c3 fun c6=>
 Yu [(.int .i64 0)] c6 fun p q=>∀f:Value,∀c:Qe,p q [f] c->
 Q1 a fun c7=>
 Qf c7 2 fun c8=>
 LdK c c8 fun c9=>
 Y1 c9 fun d0=>
 Qj prog .lss 3 f d0 fun d1=>
 IfK d1
 (Q1 a fun d2=>
 Qf d2 2 fun d3=>
 LdK c d3 fun d4=>
 Y2 1 d4 f fun d5=>
 StK c 1 d5 (.int .u32 0) fun d6=>
 Qj prog .add 3 f (.int .i64 1) fun d7=>
 QQ p q [d7] d6)
 (e [] c))) fun e=>∀r:Qe,e [] r->
 Qa prog 249 #[a] r fun d8 d9=>
 Q1 a fun e0=>
 Qf e0 3 fun e1=>
 StK d9 1 e1 d8 fun e2=>
 R (.tuple #[]) e2
theorem w272 {a b h R} (H:s272 a b h R):FnS prog 272 #[a,b] h R:=wq Tryz.func272 (by kernel_rfl) H
def s274 (a e c f:Value) (h:Qe) (R:Kn):Prop:=
 Qj prog .neq 74 c f fun g=>
 IfK g
 (Qa prog 256 #[a] h fun _x12 i=>
 QA (fun b=>
 Qa prog 249 #[a] i fun j l=>
 Qj prog .neq 74 c j fun m=>
 IfK m
 (False)
 (b [] l)) fun b=>∀d:Qe,b [] d->
 Qa prog 330 #[a,e] d fun _x20 o=>
 R (.tuple #[]) o)
 (R (.tuple #[]) h)
theorem w274 {a b c d h R} (H:s274 a b c d h R):FnS prog 274 #[a,b,c,d] h R:=wq Tryz.func274 (by kernel_rfl) H
theorem w275 {a b c d h R} (H:QeR 23 322 a b c d h R):FnS prog 275 #[a,b,c,d] h R:=wq Tryz.func275 (by kernel_rfl) H
theorem w276 {a b c d h R} (H:QeR 74 62 a b c d h R):FnS prog 276 #[a,b,c,d] h R:=wq Tryz.func276 (by kernel_rfl) H
theorem w277 {a b c d h R} (H:QeR 5 104 a b c d h R):FnS prog 277 #[a,b,c,d] h R:=wq Tryz.func277 (by kernel_rfl) H
def s278 (g i j l:Value) (h:Qe) (R:Kn):Prop:=
 QA (fun a=>
 IfK j
 (a [(.int .u8 1)] h)
 (a [(.int .u8 0)] h)) fun a=>∀d:Value,∀c:Qe,a [d] c->
 QA (fun b=>
 IfK l
 (b [(.int .u8 1)] c)
 (b [(.int .u8 0)] c)) fun b=>∀e:Value,∀f:Qe,b [e] f->
 Qa prog 277 #[g,i,d,e] f fun _x16 m=>
 R (.tuple #[]) m
theorem w278 {a b c d h R} (H:s278 a b c d h R):FnS prog 278 #[a,b,c,d] h R:=wq Tryz.func278 (by kernel_rfl) H
theorem w279 {a b c d h R} (H:QeR 21 331 a b c d h R):FnS prog 279 #[a,b,c,d] h R:=wq Tryz.func279 (by kernel_rfl) H
theorem w280 {a b c d h R} (H:QeR 30 325 a b c d h R):FnS prog 280 #[a,b,c,d] h R:=wq Tryz.func280 (by kernel_rfl) H
theorem w281 {a b c d h R} (H:QeR 2 90 a b c d h R):FnS prog 281 #[a,b,c,d] h R:=wq Tryz.func281 (by kernel_rfl) H
theorem w282 {a b c d h R} (H:QeR 31 97 a b c d h R):FnS prog 282 #[a,b,c,d] h R:=wq Tryz.func282 (by kernel_rfl) H
theorem w283 {a b c d h R} (H:QeR 139 329 a b c d h R):FnS prog 283 #[a,b,c,d] h R:=wq Tryz.func283 (by kernel_rfl) H
theorem w284 {a b c d h R} (H:QeR 36 321 a b c d h R):FnS prog 284 #[a,b,c,d] h R:=wq Tryz.func284 (by kernel_rfl) H
def s285 (a:Value) (h:Qe) (R:Kn):Prop:=
 Qa prog 256 #[a] h fun _x5 b=>
 Qa prog 332 #[a] b fun c d=>
 Q1 a fun e=>
 Qf e 6 fun f=>
 StK d 1 f (.bool false) fun g=>
 R c g
theorem w285 {a h R} (H:s285 a h R):FnS prog 285 #[a] h R:=wq Tryz.func285 (by kernel_rfl) H
theorem w321 {a b h R} (H:tp84 1 348 a b h R):FnS prog 321 #[a,b] h R:=wq Tryz.func321 (by kernel_rfl) H
theorem w322 {a b h R} (H:tp84 2 349 a b h R):FnS prog 322 #[a,b] h R:=wq Tryz.func322 (by kernel_rfl) H
theorem w323 {a b c d h R} (H:QeR 39 350 a b c d h R):FnS prog 323 #[a,b,c,d] h R:=wq Tryz.func323 (by kernel_rfl) H
theorem w325 {a b h R} (H:tp84 4 351 a b h R):FnS prog 325 #[a,b] h R:=wq Tryz.func325 (by kernel_rfl) H
theorem w329 {a b h R} (H:tp84 4 352 a b h R):FnS prog 329 #[a,b] h R:=wq Tryz.func329 (by kernel_rfl) H
def s330 (a c:Value) (h:Qe) (R:Kn):Prop:=
 Q1 a fun d=>
 Qf d 2 fun e=>
 LdK h e fun f=>
 Qa prog 249 #[a] h fun g b=>
 Qh h b<|
 Y2 1 f c fun i=>
 StK b 1 i g fun j=>
 R (.tuple #[]) j
theorem w330 {a b h R} (H:s330 a b h R):FnS prog 330 #[a,b] h R:=wq Tryz.func330 (by kernel_rfl) H
theorem w331 {a b h R} (H:tp84 4 353 a b h R):FnS prog 331 #[a,b] h R:=wq Tryz.func331 (by kernel_rfl) H
def s332 (a:Value) (h:Qe) (R:Kn):Prop:=
 Qa prog 354 #[a,(.int .i32 0)] h fun _x20 c8=>
 Qa prog 249 #[a] c8 fun c a6=>
 Q1 a fun c9=>
 Qf c9 2 fun d0=>
 LdK a6 d0 fun d1=>
 Y1 d1 fun d2=>
 Qj prog .sub 3 d2 (.int .i64 1) fun d3=>
 QA (fun q=>
 Yu [d3] a6 fun a7 a8=>∀i:Value,∀r:Qe,a7 a8 [i] r->
 Qj prog .geq 3 i (.int .i64 0) fun b=>
 Qd b true (fun d4=>d4 a r) r fun d5 a9=>
 Qd b true (fun d6=>Q1 d5 fun d7=>d6 d7 a9) a9 fun d8 b0=>
 Qd b true (fun d9=>Qf d8 2 fun e0=>d9 e0 b0) b0 fun e1 s=>
 Qd b true (fun e2=>LdK s e1 fun e3=>e2 e3 s) s fun e4 b1=>
 Qd b true (fun e5=>e5 i b1) b1 fun e6 b2=>
 Qd b true (fun e7=>Y2 1 e4 e6 fun e8=>e7 e8 b2) b2 fun e9 t=>
 Qd b true (fun f0=>LdK t e9 fun f1=>f0 f1 t) t fun f2 b3=>
 Qd b true (fun f3=>Qj prog .eql 74 f2 (.int .u32 0) fun f4=>f3 f4 b3) b3 fun f5 b4=>
 Yh b f5 (.bool false) fun f6=>
 IfK f6
 (Qj prog .sub 3 i (.int .i64 1) fun f7=>
 QQ a7 a8 [f7] b4)
 (q [i] b4)) fun q=>∀b5:Value,∀u:Qe,q [b5] u->
 Q1 a fun f8=>
 Qf f8 2 fun f9=>
 LdK u f9 fun g0=>
 Qj prog .add 3 b5 (.int .i64 1) fun g1=>
 Qg4 1 g0 none (some g1) fun g2=>
 Q1 a fun g3=>
 Qf g3 2 fun g4=>
 StK u 1 g4 g2 fun b6=>
 QA (fun l=>
 Q1 a fun g5=>
 Qf g5 4 fun g6=>
 LdK b6 g6 fun g7=>
 Y1 g7 fun g8=>
 Qj prog .sub 3 g8 (.int .i64 1) fun g9=>
 Yu [g9,(.int .u32 0)] b6 fun b7 b8=>∀f v:Value,∀e:Qe,b7 b8 [f,v] e->
 Qj prog .geq 3 f (.int .i64 0) fun i0=>
 IfK i0
 (Q1 a fun i1=>
 Qf i1 4 fun i2=>
 LdK e i2 fun i3=>
 Y2 1 i3 f fun i4=>
 LdK e i4 fun b9=>
 Q1 a fun i5=>
 Qf i5 0 fun i6=>
 LdK e i6 fun i7=>
 Y1 i7 fun i8=>
 QG .i64 b9 fun i9=>
 Qj prog .sub 3 i8 i9 fun w=>
 Q1 a fun j0=>
 Qf j0 0 fun j1=>
 LdK e j1 fun j2=>
 Qg4 1 j2 (some w) none fun j3=>
 Qa prog 355 #[j3] e fun j4 y=>
 QG .i64 j4 fun j5=>
 Qj prog .add 3 w j5 fun j6=>
 Q1 a fun j7=>
 Qf j7 0 fun j8=>
 LdK y j8 fun j9=>
 Qj prog .add 3 w (.int .i64 4) fun l0=>
 Qg4 1 j9 (some l0) (some j6) fun l1=>
 Q1 a fun l2=>
 Qf l2 2 fun l3=>
 LdK y l3 fun l4=>
 Qa prog 356 #[l4,c,l1] y fun l5 c0=>
 IfK l5
 (l [f,b9] c0)
 (Qj prog .sub 3 f (.int .i64 1) fun l6=>
 QQ b7 b8 [l6,v] c0))
 (l [f,v] e)) fun l=>∀l7 z:Value,∀j:Qe,l [l7,z] j->
 QA (fun m=>
 Qj prog .eql 74 z (.int .u32 0) fun l8=>
 IfK l8
 (QA (fun a0=>
 Q1 a fun l9=>
 Qf l9 2 fun m0=>
 LdK j m0 fun m1=>
 Y1 m1 fun m2=>
 Qj prog .sub 3 m2 (.int .i64 1) fun m3=>
 Yu [m3] j fun c1 c2=>∀g:Value,∀d:Qe,c1 c2 [g] d->
 Qj prog .geq 3 g (.int .i64 0) fun m4=>
 IfK m4
 (QA (fun o=>
 Q1 a fun m5=>
 Qf m5 2 fun m6=>
 LdK d m6 fun m7=>
 Y2 1 m7 g fun m8=>
 LdK d m8 fun m9=>
 Qj prog .neq 74 m9 (.int .u32 0) fun o0=>
 IfK o0
 (Q1 a fun o1=>
 Qf o1 2 fun o2=>
 LdK d o2 fun o3=>
 Y2 1 o3 g fun o4=>
 LdK d o4 fun o5=>
 Qj prog .sub 74 c o5 fun o6=>
 o [o6] d)
 (o [(.int .u32 0)] d)) fun o=>∀c3:Value,∀c4:Qe,o [c3] c4->
 QG .u16 c3 fun o7=>
 Qa prog 357 #[a,o7] c4 fun _x138 o8=>
 Qj prog .sub 3 g (.int .i64 1) fun o9=>
 QQ c1 c2 [o9] o8)
 (a0 [g] d)) fun a0=>∀p0:Value,∀a1:Qe,a0 [p0] a1->
 Q1 a fun p1=>
 Qf p1 3 fun p2=>
 LdK a1 p2 fun p3=>
 Qj prog .sub 74 c p3 fun p4=>
 QG .u16 p4 fun p5=>
 Qa prog 357 #[a,p5] a1 fun _x148 c5=>
 Q1 a fun p6=>
 Qf p6 2 fun p7=>
 LdK c5 p7 fun p8=>
 Y1 p8 fun p9=>
 Qj prog .add 3 p9 (.int .i64 2) fun q0=>
 Qj prog .mul 3 q0 (.int .i64 2) fun q1=>
 QG .u16 q1 fun q2=>
 Qa prog 357 #[a,q2] c5 fun _x159 p=>
 Q1 a fun q3=>
 Qf q3 0 fun q4=>
 LdK p q4 fun q5=>
 Y1 q5 fun q6=>
 QG .i32 q6 fun q7=>
 QG .i32 c fun q8=>
 Qj prog .sub 316 q7 q8 fun q9=>
 Q1 a fun r0=>
 Qf r0 0 fun r1=>
 LdK p r1 fun r2=>
 Qg4 1 r2 (some q9) none fun r3=>
 QG .i32 c fun r4=>
 Qa prog 249 #[a] p fun r5 c6=>
 Qh p c6<|
 QG .i32 r5 fun r6=>
 Qj prog .sub 316 r6 r4 fun r7=>
 Qa prog 358 #[r3,r7] c6 fun _x181 a2=>
 Q1 a fun r8=>
 Qf r8 4 fun r9=>
 LdK a2 r9 fun s0=>
 Qa prog 249 #[a] a2 fun s1 a3=>
 Qh a2 a3<|
 Q8 a3 74 1 (YY z74.toList 1) [(0,1,s1)] fun s2 c7=>
 Qh a3 c7<|
 Qbk c7 74 1 4 z74 s0 s2 fun s3 s4=>
 Q1 a fun s5=>
 Qf s5 4 fun s6=>
 StK s4 1 s6 s3 fun s7=>
 m [] s7)
 (Q1 a fun s8=>
 Qf s8 0 fun s9=>
 LdK j s9 fun t0=>
 Y1 t0 fun t1=>
 QG .i32 t1 fun t2=>
 QG .i32 c fun t3=>
 Qj prog .sub 316 t2 t3 fun t4=>
 QG .u32 t4 fun t5=>
 Q1 a fun t6=>
 Qf t6 5 fun t7=>
 StK j 1 t7 t5 fun a4=>
 Q1 a fun t8=>
 Qf t8 0 fun t9=>
 LdK a4 t9 fun u0=>
 Q1 a fun u1=>
 Qf u1 5 fun u2=>
 LdK a4 u2 fun u3=>
 Qg4 1 u0 (some u3) none fun u4=>
 QG .i32 z fun u5=>
 QG .i32 c fun u6=>
 Qj prog .sub 316 u5 u6 fun u7=>
 Qa prog 358 #[u4,u7] a4 fun _x221 u8=>
 m [] u8)) fun m=>∀a5:Qe,m [] a5->
 Q1 a fun u9=>
 Qf u9 2 fun v0=>
 LdK a5 v0 fun v1=>
 Qg4 1 v1 none (some (.int .i64 0)) fun v2=>
 Q1 a fun v3=>
 Qf v3 2 fun v4=>
 StK a5 1 v4 v2 fun v5=>
 R c v5
theorem w332 {a h R} (H:s332 a h R):FnS prog 332 #[a] h R:=wq Tryz.func332 (by kernel_rfl) H
theorem w348 {a b h R} (H:QcM 1 361 a b h R):FnS prog 348 #[a,b] h R:=wq Tryz.func348 (by kernel_rfl) H
theorem w349 {a b h R} (H:QcM 2 362 a b h R):FnS prog 349 #[a,b] h R:=wq Tryz.func349 (by kernel_rfl) H
theorem w350 {a b h R} (H:tp84 2 363 a b h R):FnS prog 350 #[a,b] h R:=wq Tryz.func350 (by kernel_rfl) H
theorem w351 {a b h R} (H:QcM 4 346 a b h R):FnS prog 351 #[a,b] h R:=wq Tryz.func351 (by kernel_rfl) H
theorem w352 {a b h R} (H:QcM 4 364 a b h R):FnS prog 352 #[a,b] h R:=wq Tryz.func352 (by kernel_rfl) H
theorem w353 {a b h R} (H:QcM 4 365 a b h R):FnS prog 353 #[a,b] h R:=wq Tryz.func353 (by kernel_rfl) H
def s354 (a c:Value) (h:Qe) (R:Kn):Prop:=
 Qa prog 61 #[a,(.int .i64 4),(.int .i64 0)] h fun _x6 e=>
 QA (fun b=>
 QG .u32 c fun f=>
 Qa prog 249 #[a] e fun g i=>
 Qj prog .leq 74 f g fun j=>
 Zu prog (Op.unary .not j) fun l=>
 IfK l
 (False)
 (b [] i)) fun b=>∀d:Qe,b [] d->
 Qa prog 249 #[a] d fun m o=>
 QG .i32 m fun p=>
 Qj prog .sub 316 p c fun q=>
 Qj prog .add 316 q (.int .i32 4) fun r=>
 Qa prog 366 #[a,r] o fun _x22 s=>
 R (.tuple #[]) s
theorem w354 {a b h R} (H:s354 a b h R):FnS prog 354 #[a,b] h R:=wq Tryz.func354 (by kernel_rfl) H
def s356 (c y l:Value) (h:Qe) (R:Kn):Prop:=
 Y1 c fun z=>
 Qj prog .mul 3 z (.int .i64 2) fun a0=>
 Y1 l fun a1=>
 Qj prog .neq 3 a0 a1 fun a2=>
 IfK a2
 (R (.bool false) h)
 (QA (fun g=>
 Yu [(.int .i64 0),(.bool false)] h fun m o=>∀a d:Value,∀i:Qe,m o [a,d] i->
 Y1 c fun a3=>
 Qj prog .lss 3 a a3 fun a4=>
 IfK a4
 (QA (fun e=>
 Qj prog .mul 3 a (.int .i64 2) fun a5=>
 Qj prog .add 3 a (.int .i64 1) fun a6=>
 Qj prog .mul 3 a6 (.int .i64 2) fun a7=>
 Qg4 1 l (some a5) (some a7) fun a8=>
 Qa prog 355 #[a8] i fun p q=>
 Qj prog .eql 282 p (.int .u16 0) fun b=>
 Qd b true (fun a9=>a9 c q) q fun b0 r=>
 Qd b true (fun b1=>b1 a r) r fun b2 s=>
 Qd b true (fun b3=>Y2 1 b0 b2 fun b4=>b3 b4 s) s fun b5 j=>
 Qd b true (fun b6=>LdK j b5 fun b7=>b6 b7 j) j fun b8 t=>
 Qd b true (fun b9=>Qj prog .eql 74 b8 (.int .u32 0) fun c0=>b9 c0 t) t fun c1 f=>
 Yh b c1 (.bool false) fun c2=>
 IfK c2
 (e [d] f)
 (QG .i32 y fun c3=>
 Y2 1 c a fun c4=>
 LdK f c4 fun c5=>
 QG .i32 c5 fun c6=>
 Qj prog .sub 316 c3 c6 fun c7=>
 QG .i32 p fun c8=>
 Qj prog .neq 316 c8 c7 fun c9=>
 IfK c9
 (R (.bool false) f)
 (e [d] f))) fun e=>∀u:Value,∀v:Qe,e [u] v->
 Qj prog .add 3 a (.int .i64 1) fun d0=>
 QQ m o [d0,u] v)
 (g [a,d] i)) fun g=>∀d1 d2:Value,∀w:Qe,g [d1,d2] w->
 R (.bool true) w)
theorem w356 {a b c h R} (H:s356 a b c h R):FnS prog 356 #[a,b,c] h R:=wq Tryz.func356 (by kernel_rfl) H
theorem w357 {a b h R} (H:tp84 2 367 a b h R):FnS prog 357 #[a,b] h R:=wq Tryz.func357 (by kernel_rfl) H
theorem w363 {a b h R} (H:QcM 2 368 a b h R):FnS prog 363 #[a,b] h R:=wq Tryz.func363 (by kernel_rfl) H
theorem w366 {a b h R} (H:QcM 4 358 a b h R):FnS prog 366 #[a,b] h R:=wq Tryz.func366 (by kernel_rfl) H
theorem w367 {a b h R} (H:QcM 2 369 a b h R):FnS prog 367 #[a,b] h R:=wq Tryz.func367 (by kernel_rfl) H
end Go.Proofs
namespace Go.Proofs
open Go Go.Vc
open Tryz (prog)
section
variable {H:Qe} {p:Nat} {S:BS} {F:Cut} {B V T:Nat} {L:List UInt8} {len head:Nat} {vtv vtsv:Value} {e eB:TypeId}
 (hr:Raw H p S F B V T L len head vtv vtsv e eB)
include hr
theorem YI:QaU H ⟨p,0,none⟩=some (bsl B 0 len L.length):=(Qk hr.hp).trans rfl
theorem ld_min:QaU H ⟨p,1,none⟩=some (.int .i64 S.min):=(Qk hr.hp).trans rfl
theorem QiP:QaU H ⟨p,2,none⟩=some vtv:=(Qk hr.hp).trans rfl
theorem ld_oe:QaU H ⟨p,3,none⟩=some (.int .u32 S.oe):=(Qk hr.hp).trans rfl
theorem ld_vts:QaU H ⟨p,4,none⟩=some vtsv:=(Qk hr.hp).trans rfl
theorem YL:QaU H ⟨p,5,none⟩=some (.int .u32 head):=(Qk hr.hp).trans rfl
theorem ld_nested:QaU H ⟨p,6,none⟩=some (.bool S.nested):=(Qk hr.hp).trans rfl
theorem ld_fin:QaU H ⟨p,7,none⟩=some (.bool S.fin):=(Qk hr.hp).trans rfl
theorem st_min {kp:Qe->Prop} {m:Nat}:StK H 1 (.pointer (some ⟨p,1,none⟩)) (.int .i64 (m:Int)) kp=kp (setB H p (.cells (QfT B len L.length {S with min:=m} vtv vtsv head) e (0,0))):=Qax hr.hp (by decide:1<9) (by simp) rfl
theorem st_oe {kp:Qe->Prop} {m:Nat}:StK H 1 (.pointer (some ⟨p,3,none⟩)) (.int .u32 (m:Int)) kp=kp (setB H p (.cells (QfT B len L.length {S with oe:=m} vtv vtsv head) e (0,0))):=Qax hr.hp (by decide:3<9) (by simp) rfl
theorem Qb0 {kp:Qe->Prop} {m:Nat}:StK H 1 (.pointer (some ⟨p,5,none⟩)) (.int .u32 (m:Int)) kp=kp (setB H p (.cells (QfT B len L.length S vtv vtsv m) e (0,0))):=Qax hr.hp (by decide:5<9) (by simp) rfl
theorem st_nested {kp:Qe->Prop} {m:Bool}:StK H 1 (.pointer (some ⟨p,6,none⟩)) (.bool m) kp=kp (setB H p (.cells (QfT B len L.length {S with nested:=m} vtv vtsv head) e (0,0))):=Qax hr.hp (by decide:6<9) (by simp) rfl
theorem st_fin {kp:Qe->Prop} {m:Bool}:StK H 1 (.pointer (some ⟨p,7,none⟩)) (.bool m) kp=kp (setB H p (.cells (QfT B len L.length {S with fin:=m} vtv vtsv head) e (0,0))):=Qax hr.hp (by decide:7<9) (by simp) rfl
theorem ZD {k:Value->Prop} {κ:IntKind} {m:Nat} (hm:m<len):Qg4 1 (bsl B 0 len L.length) (some (.int κ (m:Int))) none k=k (bsl B m (len-m) (L.length-m)):=by
 have:=hr.hlen
 rw[bsl,SlcK_lo (by omega) (by omega) hr.hlen]
 have:¬L.length=m:=by omega
 simp[this]
end
section
variable {H:Qe} {p:Nat} {S:BS} {F:Cut} {r:Nat} (hB:Qc H p S F r) {R:Kn}
include hB
theorem Yl (hR:R (.int .u32 (S.buf.length:Nat)) H):FnS prog 249 #[.pointer (some ⟨p,0,none⟩)] H R:=by
 obtain ⟨hd,h1,⟨B,V,T,L,len,vtv,vtsv,e,eB,hr,h2,h3⟩⟩:=hB
 have:=hr.lt
 apply w249
 unfold s249
 simp only[↓Qp,↓Qm,↓Ql (YI hr),↓Ql (YL hr),↓Qbq,↓Q7,↓Yg]
 rw[QU (n:=(len:Int)) (by omega) (by omega),QU (by omega) (by omega)]
 rw[show ((len:Int)-(hd:Int))=((S.buf.length:Nat):Int) by omega]
 exact hR
theorem YV (hn:S.nested=false) (hR:R (.tuple #[]) H):FnS prog 60 #[.pointer (some ⟨p,0,none⟩)] H R:=by
 obtain ⟨hd,h1,⟨B,V,T,L,len,vtv,vtsv,e,eB,hr,h2,h3⟩⟩:=hB
 apply w60
 unfold s60
 simp only[↓Qp,↓Qm,↓Ql (ld_nested hr),hn]
 exact hR
theorem Qav (hn:S.nested=true) (hR:R (.tuple #[]) H):FnS prog 256 #[.pointer (some ⟨p,0,none⟩)] H R:=by
 obtain ⟨hd,h1,⟨B,V,T,L,len,vtv,vtsv,e,eB,hr,h2,h3⟩⟩:=hB
 apply w256
 unfold tp156
 simp only[↓Qp,↓Qm,↓Ql (ld_nested hr),hn,↓Yn]
 exact hR
theorem QeA (hn:S.fin=true) (hR:R (.tuple #[]) H):FnS prog 156 #[.pointer (some ⟨p,0,none⟩)] H R:=by
 obtain ⟨hd,h1,⟨B,V,T,L,len,vtv,vtsv,e,eB,hr,h2,h3⟩⟩:=hB
 apply w156
 unfold tp156
 simp only[↓Qp,↓Qm,↓Ql (ld_fin hr),hn,↓Yn]
 exact hR
theorem Qc3 {kp:Qe->Prop} {m:Bool} (hk:∀H',Qc H' p {S with nested:=m} F r->kp H'):StK H 1 (.pointer (some ⟨p,6,none⟩)) (.bool m) kp:=by
 obtain ⟨hd,h1,⟨B,V,T,L,len,vtv,vtsv,e,eB,hr,h2,h3⟩⟩:=hB
 rw[st_nested hr]
 exact hk _ ⟨hd,h1,⟨B,V,T,L,len,vtv,vtsv,e,eB,Raw.setp hr rfl rfl,h2,h3⟩⟩
theorem st_fin_at {kp:Qe->Prop} {m:Bool} (hk:∀H',Qc H' p {S with fin:=m} F r->kp H'):StK H 1 (.pointer (some ⟨p,7,none⟩)) (.bool m) kp:=by
 obtain ⟨hd,h1,⟨B,V,T,L,len,vtv,vtsv,e,eB,hr,h2,h3⟩⟩:=hB
 rw[st_fin hr]
 exact hk _ ⟨hd,h1,⟨B,V,T,L,len,vtv,vtsv,e,eB,Raw.setp hr rfl rfl,h2,h3⟩⟩
theorem st_oe_at {kp:Qe->Prop} {m:Nat} (hk:∀H',Qc H' p {S with oe:=m} F r->kp H'):StK H 1 (.pointer (some ⟨p,3,none⟩)) (.int .u32 (m:Int)) kp:=by
 obtain ⟨hd,h1,⟨B,V,T,L,len,vtv,vtsv,e,eB,hr,h2,h3⟩⟩:=hB
 rw[st_oe hr]
 exact hk _ ⟨hd,h1,⟨B,V,T,L,len,vtv,vtsv,e,eB,Raw.setp hr rfl rfl,h2,h3⟩⟩
theorem Qa6 {b:UInt8} (hk:1<=r) (hR:∀H',Qc H' p (place [b] S) F (r-1)->R (.tuple #[]) H'):FnS prog 251 #[.pointer (some ⟨p,0,none⟩),.int .u8 (b.toNat:Int)] H R:=by
 obtain ⟨hd,h1,⟨B,V,T,L,len,vtv,vtsv,e,eB,hr,h2,h3⟩⟩:=hB
 have:=hr.lt;have:=hr.hlen
 have e1:IntKind.u32.wrap ((hd:Int)-1)=((hd-1:Nat):Int):=by rw[QU (by omega) (by omega)];omega
 apply w251
 unfold QcM
 simp only[↓Qp,↓Qm,↓Ql (YL hr),↓Yg,e1,↓Qb0 hr]
 have hr2:=Raw.setp (S':=S) (head':=hd-1) hr rfl rfl
 simp only[↓Ql (YI hr2),↓Ql (YL hr2),↓ZD hr2 (m:=hd-1) (by omega)]
 refine go_WriteByte hr2.hB (by omega) (by omega) ?_
 refine hR _ ⟨hd-1,by omega,⟨B,V,T,_,len,vtv,vtsv,e,eB,Raw.wr hr2 (Ym _ _ _) rfl rfl rfl,?_,?_⟩⟩
 ·have hl:([b]:List UInt8).length=1:=by simp[Qg]
  simp only[place,List.length_append,hl];omega
 ·have hl:([b]:List UInt8).length=1:=by simp[Qg]
  have:=Qar (xs:=[b]) hr.hlen h2 h3 (by omega)
  rw[hl]at this
  exact this
theorem Qh3 {b:Bool} (hk:1<=r) (hR:∀H',Qc H' p (place [if b then 1 else 0] S) F (r-1)->R (.tuple #[]) H'):FnS prog 262 #[.pointer (some ⟨p,0,none⟩),.bool b] H R:=by
 obtain ⟨hd,h1,⟨B,V,T,L,len,vtv,vtsv,e,eB,hr,h2,h3⟩⟩:=hB
 have:=hr.lt;have:=hr.hlen
 have e1:IntKind.u32.wrap ((hd:Int)-1)=((hd-1:Nat):Int):=by rw[QU (by omega) (by omega)];omega
 apply w262
 unfold QcM
 simp only[↓Qp,↓Qm,↓Ql (YL hr),↓Yg,e1,↓Qb0 hr]
 have hr2:=Raw.setp (S':=S) (head':=hd-1) hr rfl rfl
 simp only[↓Ql (YI hr2),↓Ql (YL hr2),↓ZD hr2 (m:=hd-1) (by omega)]
 refine go_WriteBool hr2.hB (by omega) (by omega) ?_
 refine hR _ ⟨hd-1,by omega,⟨B,V,T,_,len,vtv,vtsv,e,eB,Raw.wr hr2 (Ym _ _ _) rfl rfl rfl,?_,?_⟩⟩
 ·have hl:([if b then 1 else 0]:List UInt8).length=1:=by simp[Qg]
  simp only[place,List.length_append,hl];omega
 ·have hl:([if b then 1 else 0]:List UInt8).length=1:=by simp[Qg]
  have:=Qar (xs:=[if b then 1 else 0]) hr.hlen h2 h3 (by omega)
  rw[hl]at this
  exact this
theorem Qh6 {x:Int} (hk:1<=r) (hR:∀H',Qc H' p (place (leB x 1) S) F (r-1)->R (.tuple #[]) H'):FnS prog 348 #[.pointer (some ⟨p,0,none⟩),.int .i8 x] H R:=by
 obtain ⟨hd,h1,⟨B,V,T,L,len,vtv,vtsv,e,eB,hr,h2,h3⟩⟩:=hB
 have:=hr.lt;have:=hr.hlen
 have e1:IntKind.u32.wrap ((hd:Int)-1)=((hd-1:Nat):Int):=by rw[QU (by omega) (by omega)];omega
 apply w348
 unfold QcM
 simp only[↓Qp,↓Qm,↓Ql (YL hr),↓Yg,e1,↓Qb0 hr]
 have hr2:=Raw.setp (S':=S) (head':=hd-1) hr rfl rfl
 simp only[↓Ql (YI hr2),↓Ql (YL hr2),↓ZD hr2 (m:=hd-1) (by omega)]
 refine go_WriteInt8 hr2.hB (by omega) (by omega) ?_
 refine hR _ ⟨hd-1,by omega,⟨B,V,T,_,len,vtv,vtsv,e,eB,Raw.wr hr2 (Ym _ _ _) rfl rfl rfl,?_,?_⟩⟩
 ·have hl:((leB x 1):List UInt8).length=1:=by simp[Qg]
  simp only[place,List.length_append,hl];omega
 ·have hl:((leB x 1):List UInt8).length=1:=by simp[Qg]
  have:=Qar (xs:=(leB x 1)) hr.hlen h2 h3 (by omega)
  rw[hl]at this
  exact this
theorem Qgy {x:Int} (hk:2<=r) (hR:∀H',Qc H' p (place (leB x 2) S) F (r-2)->R (.tuple #[]) H'):FnS prog 349 #[.pointer (some ⟨p,0,none⟩),.int .i16 x] H R:=by
 obtain ⟨hd,h1,⟨B,V,T,L,len,vtv,vtsv,e,eB,hr,h2,h3⟩⟩:=hB
 have:=hr.lt;have:=hr.hlen
 have e1:IntKind.u32.wrap ((hd:Int)-2)=((hd-2:Nat):Int):=by rw[QU (by omega) (by omega)];omega
 apply w349
 unfold QcM
 simp only[↓Qp,↓Qm,↓Ql (YL hr),↓Yg,e1,↓Qb0 hr]
 have hr2:=Raw.setp (S':=S) (head':=hd-2) hr rfl rfl
 simp only[↓Ql (YI hr2),↓Ql (YL hr2),↓ZD hr2 (m:=hd-2) (by omega)]
 refine go_WriteInt16 hr2.hB (by omega) (by omega) ?_
 refine hR _ ⟨hd-2,by omega,⟨B,V,T,_,len,vtv,vtsv,e,eB,Raw.wr hr2 (Ym _ _ _) rfl rfl rfl,?_,?_⟩⟩
 ·have hl:((leB x 2):List UInt8).length=2:=by simp[Qg]
  simp only[place,List.length_append,hl];omega
 ·have hl:((leB x 2):List UInt8).length=2:=by simp[Qg]
  have:=Qar (xs:=(leB x 2)) hr.hlen h2 h3 (by omega)
  rw[hl]at this
  exact this
theorem QfZ {x:Int} (hk:2<=r) (hR:∀H',Qc H' p (place (leB x 2) S) F (r-2)->R (.tuple #[]) H'):FnS prog 363 #[.pointer (some ⟨p,0,none⟩),.int .u16 x] H R:=by
 obtain ⟨hd,h1,⟨B,V,T,L,len,vtv,vtsv,e,eB,hr,h2,h3⟩⟩:=hB
 have:=hr.lt;have:=hr.hlen
 have e1:IntKind.u32.wrap ((hd:Int)-2)=((hd-2:Nat):Int):=by rw[QU (by omega) (by omega)];omega
 apply w363
 unfold QcM
 simp only[↓Qp,↓Qm,↓Ql (YL hr),↓Yg,e1,↓Qb0 hr]
 have hr2:=Raw.setp (S':=S) (head':=hd-2) hr rfl rfl
 simp only[↓Ql (YI hr2),↓Ql (YL hr2),↓ZD hr2 (m:=hd-2) (by omega)]
 refine Qhb hr2.hB (by omega) (by omega) ?_
 refine hR _ ⟨hd-2,by omega,⟨B,V,T,_,len,vtv,vtsv,e,eB,Raw.wr hr2 (Ym _ _ _) rfl rfl rfl,?_,?_⟩⟩
 ·have hl:((leB x 2):List UInt8).length=2:=by simp[Qg]
  simp only[place,List.length_append,hl];omega
 ·have hl:((leB x 2):List UInt8).length=2:=by simp[Qg]
  have:=Qar (xs:=(leB x 2)) hr.hlen h2 h3 (by omega)
  rw[hl]at this
  exact this
theorem Qf5 {x:Int} (hk:2<=r) (hR:∀H',Qc H' p (place (leB x 2) S) F (r-2)->R (.tuple #[]) H'):FnS prog 367 #[.pointer (some ⟨p,0,none⟩),.int .u16 x] H R:=by
 obtain ⟨hd,h1,⟨B,V,T,L,len,vtv,vtsv,e,eB,hr,h2,h3⟩⟩:=hB
 have:=hr.lt;have:=hr.hlen
 have e1:IntKind.u32.wrap ((hd:Int)-2)=((hd-2:Nat):Int):=by rw[QU (by omega) (by omega)];omega
 apply w367
 unfold QcM
 simp only[↓Qp,↓Qm,↓Ql (YL hr),↓Yg,e1,↓Qb0 hr]
 have hr2:=Raw.setp (S':=S) (head':=hd-2) hr rfl rfl
 simp only[↓Ql (YI hr2),↓Ql (YL hr2),↓ZD hr2 (m:=hd-2) (by omega)]
 refine Qjo hr2.hB (by omega) (by omega) ?_
 refine hR _ ⟨hd-2,by omega,⟨B,V,T,_,len,vtv,vtsv,e,eB,Raw.wr hr2 (Ym _ _ _) rfl rfl rfl,?_,?_⟩⟩
 ·have hl:((leB x 2):List UInt8).length=2:=by simp[Qg]
  simp only[place,List.length_append,hl];omega
 ·have hl:((leB x 2):List UInt8).length=2:=by simp[Qg]
  have:=Qar (xs:=(leB x 2)) hr.hlen h2 h3 (by omega)
  rw[hl]at this
  exact this
theorem QgG {x:Int} (hk:4<=r) (hR:∀H',Qc H' p (place (leB x 4) S) F (r-4)->R (.tuple #[]) H'):FnS prog 353 #[.pointer (some ⟨p,0,none⟩),.int .i32 x] H R:=by
 obtain ⟨hd,h1,⟨B,V,T,L,len,vtv,vtsv,e,eB,hr,h2,h3⟩⟩:=hB
 have:=hr.lt;have:=hr.hlen
 have e1:IntKind.u32.wrap ((hd:Int)-4)=((hd-4:Nat):Int):=by rw[QU (by omega) (by omega)];omega
 apply w353
 unfold QcM
 simp only[↓Qp,↓Qm,↓Ql (YL hr),↓Yg,e1,↓Qb0 hr]
 have hr2:=Raw.setp (S':=S) (head':=hd-4) hr rfl rfl
 simp only[↓Ql (YI hr2),↓Ql (YL hr2),↓ZD hr2 (m:=hd-4) (by omega)]
 refine QhN hr2.hB (by omega) (by omega) ?_
 refine hR _ ⟨hd-4,by omega,⟨B,V,T,_,len,vtv,vtsv,e,eB,Raw.wr hr2 (Ym _ _ _) rfl rfl rfl,?_,?_⟩⟩
 ·have hl:((leB x 4):List UInt8).length=4:=by simp[Qg]
  simp only[place,List.length_append,hl];omega
 ·have hl:((leB x 4):List UInt8).length=4:=by simp[Qg]
  have:=Qar (xs:=(leB x 4)) hr.hlen h2 h3 (by omega)
  rw[hl]at this
  exact this
theorem Qg1 {x:Int} (hk:4<=r) (hR:∀H',Qc H' p (place (leB x 4) S) F (r-4)->R (.tuple #[]) H'):FnS prog 351 #[.pointer (some ⟨p,0,none⟩),.int .u32 x] H R:=by
 obtain ⟨hd,h1,⟨B,V,T,L,len,vtv,vtsv,e,eB,hr,h2,h3⟩⟩:=hB
 have:=hr.lt;have:=hr.hlen
 have e1:IntKind.u32.wrap ((hd:Int)-4)=((hd-4:Nat):Int):=by rw[QU (by omega) (by omega)];omega
 apply w351
 unfold QcM
 simp only[↓Qp,↓Qm,↓Ql (YL hr),↓Yg,e1,↓Qb0 hr]
 have hr2:=Raw.setp (S':=S) (head':=hd-4) hr rfl rfl
 simp only[↓Ql (YI hr2),↓Ql (YL hr2),↓ZD hr2 (m:=hd-4) (by omega)]
 refine QeK hr2.hB (by omega) (by omega) ?_
 refine hR _ ⟨hd-4,by omega,⟨B,V,T,_,len,vtv,vtsv,e,eB,Raw.wr hr2 (Ym _ _ _) rfl rfl rfl,?_,?_⟩⟩
 ·have hl:((leB x 4):List UInt8).length=4:=by simp[Qg]
  simp only[place,List.length_append,hl];omega
 ·have hl:((leB x 4):List UInt8).length=4:=by simp[Qg]
  have:=Qar (xs:=(leB x 4)) hr.hlen h2 h3 (by omega)
  rw[hl]at this
  exact this
theorem QbW {x:Int} (hk:4<=r) (hR:∀H',Qc H' p (place (leB x 4) S) F (r-4)->R (.tuple #[]) H'):FnS prog 250 #[.pointer (some ⟨p,0,none⟩),.int .u32 x] H R:=by
 obtain ⟨hd,h1,⟨B,V,T,L,len,vtv,vtsv,e,eB,hr,h2,h3⟩⟩:=hB
 have:=hr.lt;have:=hr.hlen
 have e1:IntKind.u32.wrap ((hd:Int)-4)=((hd-4:Nat):Int):=by rw[QU (by omega) (by omega)];omega
 apply w250
 unfold QcM
 simp only[↓Qp,↓Qm,↓Ql (YL hr),↓Yg,e1,↓Qb0 hr]
 have hr2:=Raw.setp (S':=S) (head':=hd-4) hr rfl rfl
 simp only[↓Ql (YI hr2),↓Ql (YL hr2),↓ZD hr2 (m:=hd-4) (by omega)]
 refine Qjn hr2.hB (by omega) (by omega) ?_
 refine hR _ ⟨hd-4,by omega,⟨B,V,T,_,len,vtv,vtsv,e,eB,Raw.wr hr2 (Ym _ _ _) rfl rfl rfl,?_,?_⟩⟩
 ·have hl:((leB x 4):List UInt8).length=4:=by simp[Qg]
  simp only[place,List.length_append,hl];omega
 ·have hl:((leB x 4):List UInt8).length=4:=by simp[Qg]
  have:=Qar (xs:=(leB x 4)) hr.hlen h2 h3 (by omega)
  rw[hl]at this
  exact this
theorem QeP {x:Int} (hk:4<=r) (hR:∀H',Qc H' p (place (leB x 4) S) F (r-4)->R (.tuple #[]) H'):FnS prog 366 #[.pointer (some ⟨p,0,none⟩),.int .i32 x] H R:=by
 obtain ⟨hd,h1,⟨B,V,T,L,len,vtv,vtsv,e,eB,hr,h2,h3⟩⟩:=hB
 have:=hr.lt;have:=hr.hlen
 have e1:IntKind.u32.wrap ((hd:Int)-4)=((hd-4:Nat):Int):=by rw[QU (by omega) (by omega)];omega
 apply w366
 unfold QcM
 simp only[↓Qp,↓Qm,↓Ql (YL hr),↓Yg,e1,↓Qb0 hr]
 have hr2:=Raw.setp (S':=S) (head':=hd-4) hr rfl rfl
 simp only[↓Ql (YI hr2),↓Ql (YL hr2),↓ZD hr2 (m:=hd-4) (by omega)]
 refine Qdr hr2.hB (by omega) (by omega) ?_
 refine hR _ ⟨hd-4,by omega,⟨B,V,T,_,len,vtv,vtsv,e,eB,Raw.wr hr2 (Ym _ _ _) rfl rfl rfl,?_,?_⟩⟩
 ·have hl:((leB x 4):List UInt8).length=4:=by simp[Qg]
  simp only[place,List.length_append,hl];omega
 ·have hl:((leB x 4):List UInt8).length=4:=by simp[Qg]
  have:=Qar (xs:=(leB x 4)) hr.hlen h2 h3 (by omega)
  rw[hl]at this
  exact this
theorem Qfn {x:Nat} (hk:4<=r) (hR:∀H',Qc H' p (place (leB x 4) S) F (r-4)->R (.tuple #[]) H'):FnS prog 352 #[.pointer (some ⟨p,0,none⟩),.float .f32 x] H R:=by
 obtain ⟨hd,h1,⟨B,V,T,L,len,vtv,vtsv,e,eB,hr,h2,h3⟩⟩:=hB
 have:=hr.lt;have:=hr.hlen
 have e1:IntKind.u32.wrap ((hd:Int)-4)=((hd-4:Nat):Int):=by rw[QU (by omega) (by omega)];omega
 apply w352
 unfold QcM
 simp only[↓Qp,↓Qm,↓Ql (YL hr),↓Yg,e1,↓Qb0 hr]
 have hr2:=Raw.setp (S':=S) (head':=hd-4) hr rfl rfl
 simp only[↓Ql (YI hr2),↓Ql (YL hr2),↓ZD hr2 (m:=hd-4) (by omega)]
 refine go_WriteFloat32 hr2.hB (by omega) (by omega) ?_
 refine hR _ ⟨hd-4,by omega,⟨B,V,T,_,len,vtv,vtsv,e,eB,Raw.wr hr2 (Ym _ _ _) rfl rfl rfl,?_,?_⟩⟩
 ·have hl:((leB x 4):List UInt8).length=4:=by simp[Qg]
  simp only[place,List.length_append,hl];omega
 ·have hl:((leB x 4):List UInt8).length=4:=by simp[Qg]
  have:=Qar (xs:=(leB x 4)) hr.hlen h2 h3 (by omega)
  rw[hl]at this
  exact this
theorem Qgu {x:Int} (hk:8<=r) (hR:∀H',Qc H' p (place (leB x 8) S) F (r-8)->R (.tuple #[]) H'):FnS prog 264 #[.pointer (some ⟨p,0,none⟩),.int .i64 x] H R:=by
 obtain ⟨hd,h1,⟨B,V,T,L,len,vtv,vtsv,e,eB,hr,h2,h3⟩⟩:=hB
 have:=hr.lt;have:=hr.hlen
 have e1:IntKind.u32.wrap ((hd:Int)-8)=((hd-8:Nat):Int):=by rw[QU (by omega) (by omega)];omega
 apply w264
 unfold QcM
 simp only[↓Qp,↓Qm,↓Ql (YL hr),↓Yg,e1,↓Qb0 hr]
 have hr2:=Raw.setp (S':=S) (head':=hd-8) hr rfl rfl
 simp only[↓Ql (YI hr2),↓Ql (YL hr2),↓ZD hr2 (m:=hd-8) (by omega)]
 refine go_WriteInt64 hr2.hB (by omega) (by omega) ?_
 refine hR _ ⟨hd-8,by omega,⟨B,V,T,_,len,vtv,vtsv,e,eB,Raw.wr hr2 (Ym _ _ _) rfl rfl rfl,?_,?_⟩⟩
 ·have hl:((leB x 8):List UInt8).length=8:=by simp[Qg]
  simp only[place,List.length_append,hl];omega
 ·have hl:((leB x 8):List UInt8).length=8:=by simp[Qg]
  have:=Qar (xs:=(leB x 8)) hr.hlen h2 h3 (by omega)
  rw[hl]at this
  exact this
theorem Qg7 {x:Int} (hk:8<=r) (hR:∀H',Qc H' p (place (leB x 8) S) F (r-8)->R (.tuple #[]) H'):FnS prog 271 #[.pointer (some ⟨p,0,none⟩),.int .u64 x] H R:=by
 obtain ⟨hd,h1,⟨B,V,T,L,len,vtv,vtsv,e,eB,hr,h2,h3⟩⟩:=hB
 have:=hr.lt;have:=hr.hlen
 have e1:IntKind.u32.wrap ((hd:Int)-8)=((hd-8:Nat):Int):=by rw[QU (by omega) (by omega)];omega
 apply w271
 unfold QcM
 simp only[↓Qp,↓Qm,↓Ql (YL hr),↓Yg,e1,↓Qb0 hr]
 have hr2:=Raw.setp (S':=S) (head':=hd-8) hr rfl rfl
 simp only[↓Ql (YI hr2),↓Ql (YL hr2),↓ZD hr2 (m:=hd-8) (by omega)]
 refine Qhj hr2.hB (by omega) (by omega) ?_
 refine hR _ ⟨hd-8,by omega,⟨B,V,T,_,len,vtv,vtsv,e,eB,Raw.wr hr2 (Ym _ _ _) rfl rfl rfl,?_,?_⟩⟩
 ·have hl:((leB x 8):List UInt8).length=8:=by simp[Qg]
  simp only[place,List.length_append,hl];omega
 ·have hl:((leB x 8):List UInt8).length=8:=by simp[Qg]
  have:=Qar (xs:=(leB x 8)) hr.hlen h2 h3 (by omega)
  rw[hl]at this
  exact this
theorem QfF {x:Nat} (hk:8<=r) (hR:∀H',Qc H' p (place (leB x 8) S) F (r-8)->R (.tuple #[]) H'):FnS prog 265 #[.pointer (some ⟨p,0,none⟩),.float .f64 x] H R:=by
 obtain ⟨hd,h1,⟨B,V,T,L,len,vtv,vtsv,e,eB,hr,h2,h3⟩⟩:=hB
 have:=hr.lt;have:=hr.hlen
 have e1:IntKind.u32.wrap ((hd:Int)-8)=((hd-8:Nat):Int):=by rw[QU (by omega) (by omega)];omega
 apply w265
 unfold QcM
 simp only[↓Qp,↓Qm,↓Ql (YL hr),↓Yg,e1,↓Qb0 hr]
 have hr2:=Raw.setp (S':=S) (head':=hd-8) hr rfl rfl
 simp only[↓Ql (YI hr2),↓Ql (YL hr2),↓ZD hr2 (m:=hd-8) (by omega)]
 refine go_WriteFloat64 hr2.hB (by omega) (by omega) ?_
 refine hR _ ⟨hd-8,by omega,⟨B,V,T,_,len,vtv,vtsv,e,eB,Raw.wr hr2 (Ym _ _ _) rfl rfl rfl,?_,?_⟩⟩
 ·have hl:((leB x 8):List UInt8).length=8:=by simp[Qg]
  simp only[place,List.length_append,hl];omega
 ·have hl:((leB x 8):List UInt8).length=8:=by simp[Qg]
  have:=Qar (xs:=(leB x 8)) hr.hlen h2 h3 (by omega)
  rw[hl]at this
  exact this
end
end Go.Proofs
namespace Go.Proofs
open Go Go.Vc
open Tryz (prog)
section
variable {H:Qe} {p:Nat} {S:BS} {F:Cut} {r:Nat} (hB:Qc H p S F r) {R:Kn}
include hB
theorem QaD {n:Nat} {x:Int} (hx:x=(n:Nat)) (hn:n<=r) (hR:∀H',Qc H' p (place (List.replicate n 0) S) F (r-n)->R (.tuple #[]) H'):
  FnS prog 248 #[.pointer (some ⟨p,0,none⟩),.int .i64 x] H R:=by
 subst hx
 have hlt:=hB.lt
 apply w248
 unfold s248
 refine ⟨fun m vs h=>∃i:Nat,vs=[.int .i64 (i:Int)]/\i<=n/\m=n-i/\Qc h p (place (List.replicate i 0) S) F (r-i),⟨n,0,rfl,by omega,by omega,?_⟩,fun m=>?_⟩
 ·exact hB
 ·rintro x4 h1 ⟨i,hx,hi,rfl,hb⟩
  cases hx
  rw[Yw]
  have hl2:=hb.lt
  simp only[place,List.length_append,List.length_replicate]at hl2
  by_cases hlt:i<n
  ·rw[Yj (by omega)]
   refine Qa6 (b:=0) hb (by omega) ?_
   intro h2 hb2
   rw[Q5,wrap_i64 (by omega) (by omega)]
   refine ⟨n-(i+1),by omega,i+1,rfl,by omega,rfl,?_⟩
   have e1:place [0] (place (List.replicate i 0) S)=place (List.replicate (i+1) 0) S:=by
    simp[place,List.replicate_succ]
   rw[e1]at hb2
   exact hb2.room (by omega)
  ·rw[Yb (by omega)]
   have:i=n:=by omega
   subst this
   exact hR _ hb
end
section
variable {H:Qe} {p:Nat} {S:BS} {F:Cut} {B V T:Nat} {L:List UInt8} {len head:Nat} {vtv vtsv:Value} {e eB:TypeId}
 (hr:Raw H p S F B V T L len head vtv vtsv e eB) {R:Kn}
include hr
def grown (n:Nat):Nat:=if n=0 then 1 else 2*n
omit hr in
theorem grow_copy {len:Nat} {L:List UInt8} (h:grown len<=L.length) (h0:len≠0):((QaF L len (L.take len)).take (grown len)).drop len=L.take len:=by
 have hg:grown len=2*len:=by unfold grown;rw[if_neg h0]
 have hl:(L.take len).length=len:=by simp;omega
 rw[QdQ _ _ _ (by omega),hg,hl]
 rw[List.take_append]
 have h2:(L.take len++L.take len).length=2*len:=by simp;omega
 rw[h2,Nat.sub_self,List.take_zero,List.append_nil,List.take_of_length_le (by omega),List.drop_append,hl,Nat.sub_self,List.drop_zero,List.drop_of_length_le (by omega),List.nil_append]
set_option maxHeartbeats 1000000 in
theorem go_Builder_grow (hlt:len<536870912)
  (hR:∀H' B' L' eB',Raw H' p S F B' V T L' (grown len) head vtv vtsv e eB'->(len=0\/(L'.take (grown len)).drop len=L.take len)->R (.tuple #[]) H'):
  FnS prog 247 #[.pointer (some ⟨p,0,none⟩)] H R:=by
 have hlL:=hr.hlen
 have hg1:1<=grown len:=by unfold grown;split<;>omega
 have hg2:grown len<1073741824:=by unfold grown;split<;>omega
 have hg3:len<grown len:=by unfold grown;split<;>omega
 have hq:(grown len:Int).tdiv 2=(len:Int):=by
  unfold grown;split
  ·rename_i h;subst h;rfl
  ·rw[show ((2*len:Nat):Int)=(len:Int)*2 by omega];exact Int.mul_tdiv_cancel _ (by decide)
 apply w247
 unfold s247
 refine Q2 (fun _ h=>h=H) ?_ ?_
 ·simp only[↓Qp,↓Qm,↓Ql (YI hr),↓Qbq,↓QfL,high_and (show len<1073741824 by omega),↓Y5]
  rw[Yb (by decide)]
  trivial
 ·rintro h1 rfl
  simp only[↓Qp,↓Qm,↓Ql (YI hr),↓Qbq,↓Zx]
  rw[wrap_i64 (n:=(len:Int)*2) (by omega) (by omega)]
  refine Q2 (fun vs h=>vs=[.int .i64 (grown len:Nat)]/\h=h1) ?_ ?_
  ·rw[Yi]
   apply Z0
   ·intro h0
    have h0':len=0:=by omega
    subst h0'
    exact ⟨rfl,rfl⟩
   ·intro h0
    refine ⟨?_,rfl⟩
    unfold grown
    rw[if_neg (by omega),show ((2*len:Nat):Int)=(len:Int)*2 by omega]
  ·rintro x2 h2 ⟨hx,rfl⟩
   cases hx
   refine Q2 (fun _ h=>∃B' L' eB',Raw h p S F B' V T L' (grown len) head vtv vtsv e eB'/\L'.take len=L.take len) ?_ ?_
   ·simp only[↓Qp,↓Qm,↓Ql (YI hr),↓CapK_sl,↓QfK]
    apply Z0
    ·intro hc
     rw[bsl,SlcK_hi (by omega) (by omega),Int.toNat_natCast]
     rw[Qax hr.hp (by decide:0<9) (by simp) rfl]
     refine ⟨B,L,eB,?_,rfl⟩
     have hset:=Raw.setp (S':=S) (head':=head) hr rfl rfl
     refine ⟨QV hr.hp,?_,?_,?_,hr.pB,hr.pT,hr.BT,?_,by omega,hg2⟩
     ·rw[Qw (Ne.symm hr.pB)];exact hr.hB
     ·rcases hr.hV with g|⟨g,g2,g3,g4⟩
      ·exact Or.inl g
      ·exact Or.inr ⟨g.mono (Qw g2),g2,g3,g4⟩
     ·exact hr.hT.mono (Qw (Ne.symm hr.pT))
     ·intro b o hb
      have:=hr.hF b o hb
      exact ⟨by rw[Qw this.2.1];exact this.1,this.2⟩
    ·intro hc
     simp only[↓Qbq,↓Yg]
     rw[wrap_i64 (n:=(grown len:Int)-(len:Int)) (by omega) (by omega),show ((grown len:Int)-(len:Int))=((grown len-len:Nat):Int) by omega]
     refine ⟨by omega,by omega,by omega,by omega,?_⟩
     simp only[Int.toNat_natCast,mk_u8 (z:=z5) rfl]
     obtain ⟨l1,l2,l3,l4⟩:=hr.V_lt
     have hr2:Raw (h2.push (.cells (u8c (List.replicate (grown len-len) 0)) 5)) p S F B V T L len head vtv vtsv e eB:=by
      refine hr.frame ?_ ?_
      ·intro b hb
       rw[Array.getElem?_push,if_neg]
       rcases hb with rfl|rfl|rfl|rfl<;>omega
      ·intro b o hb
       have:=hr.hF b o hb
       exact ⟨YJ this.1,this.2⟩
     simp only[↓Ql (YI hr2)]
     refine ⟨fun hh=>by omega,fun _=>⟨by decide,by omega,(L.take len).map u8V,(List.replicate (grown len-len) (0:UInt8)).map u8V,?_,?_,?_⟩⟩
     ·show Zk _ ⟨B,0,none⟩ 0 (len*1)=_
      rw[Nat.mul_one,cellsH_u8 hr2.hB (by omega),List.drop_zero]
     ·show Zk _ ⟨h2.size,0,none⟩ 0 ((grown len-len)*1)=_
      rw[Nat.mul_one,cellsH_u8 (Qi) (by simp)]
      simp
     ·intro c hc1 hc2
      rw[zero_u8 (z:=z5) rfl,<-List.map_append,u8V_arr,u8c_append]
      have hL':(L.take len++List.replicate (grown len-len) 0++List.replicate (c-(len+(grown len-len))) (0:UInt8)).length=c:=by simp;omega
      generalize hLL:L.take len++List.replicate (grown len-len) 0++List.replicate (c-(len+(grown len-len))) (0:UInt8)=L' at hL'
      have htl:L'.take len=L.take len:=by
       rw[<-hLL,List.append_assoc,List.take_append]
       have:(L.take len).length=len:=by simp;omega
       rw[this,Nat.sub_self,List.take_zero,List.append_nil,List.take_of_length_le (by omega)]
      have s2:(h2.push (.cells (u8c (List.replicate (grown len-len) 0)) 5)).size=h2.size+1:=size_push
      generalize hH3:h2.push (.cells (u8c (List.replicate (grown len-len) 0)) 5)=H3 at hr2 s2
      have hr3:Raw (H3.push (.cells (u8c L') 5)) p S F B V T L len head vtv vtsv e eB:=by
       obtain ⟨m1,m2,m3,m4⟩:=hr2.V_lt
       refine hr2.frame ?_ ?_
       ·intro b hb
        rw[Array.getElem?_push,if_neg]
        rcases hb with rfl|rfl|rfl|rfl<;>omega
       ·intro b o hb
        have:=hr2.hF b o hb
        exact ⟨YJ this.1,this.2⟩
      rw[show len+(grown len-len)=grown len by omega,Qax hr3.hp (by decide:0<9) (by simp) rfl]
      refine ⟨H3.size,L',5,?_,htl⟩
      have hset:=Raw.setp (S':=S) (head':=head) hr3 rfl rfl
      obtain ⟨m1,m2,m3,m4⟩:=hr2.V_lt
      refine ⟨?_,?_,?_,?_,by omega,hr.pT,by omega,?_,by omega,hg2⟩
      ·rw[QV hr3.hp,hL'];rfl
      ·rw[Qw (by omega),Qi]
      ·rcases hset.hV with g|⟨g,g2,g3,g4⟩
       ·exact Or.inl g
       ·refine Or.inr ⟨g.mono ?_,g2,by omega,g4⟩
        rw[Qw g2,Qw g2]
      ·refine hset.hT.mono ?_
       rw[Qw (Ne.symm hr.pT),Qw (Ne.symm hr.pT)]
      ·intro b o hb
       have:=hset.hF b o hb
       have hlt':=YM (hr2.hF b o hb).1
       refine ⟨?_,this.2.1,by omega,this.2.2.2⟩
       rw[Qw this.2.1,<-Qw (H:=H3.push (.cells (u8c L') 5)) this.2.1]
       exact this.1
   ·rintro h7 ⟨B',L',eB',hr',htl⟩
    have hlL':=hr'.hlen
    rw[BinK_quo (by decide),hq,wrap_i64 (by omega) (by omega)]
    simp only[↓Qp,↓Qm,↓Ql (YI hr'),↓ZD hr' (m:=len) hg3]
    rw[bsl,SlcK_hi (by omega) (by omega),Int.toNat_natCast]
    have hmin:Nat.min (lenV (.slice (some ⟨B',0,none⟩) len L'.length)) (grown len-len)=len:=by
     show Nat.min len (grown len-len)=len
     apply Nat.min_eq_left
     unfold grown;split<;>omega
    refine ⟨(L'.take len).map u8V,?_,?_⟩
    ·rw[hmin]
     show Zk _ ⟨B',0,none⟩ 0 (len*1)=_
     rw[Nat.mul_one,cellsH_u8 hr'.hB (by omega),List.drop_zero]
    ·have htl2:(L'.take len).length<=len:=by simp;omega
     have hll:len+(L'.take len).length<=L'.length:=by
      by_cases h0:len=0
      ·subst h0;simp
      ·have:grown len=2*len:=by unfold grown;rw[if_neg h0]
       omega
     refine ⟨_,setN_u8 hr'.hB hll,?_⟩
     refine hR _ B' _ eB' (Raw.wr hr' (Ym _ _ _) rfl rfl rfl) ?_
     by_cases h0:len=0
     ·exact Or.inl h0
     ·right;rw[grow_copy hlL' h0,htl]
end
end Go.Proofs
namespace Go.Proofs
open Go Go.Vc
open Tryz (prog)
section
variable {H:Qe} {p:Nat} {S:BS} {F:Cut} {r:Nat} (hB:Qc H p S F r) {R:Kn}
include hB
set_option maxHeartbeats 1000000 in
theorem QX {size add k:Nat} {y:Int} (hsz:size=2^k) (hk:k<=3) (hy:y=(add:Nat)) (hlen:S.buf.length+add+16<=536870912)
  (hR:∀H',Qc H' p (prep size add S) F (Nat.max (r-padOf size (S.buf.length+add)) (size+add+1))->R (.tuple #[]) H'):
  FnS prog 61 #[.pointer (some ⟨p,0,none⟩),.int .i64 (size:Nat),.int .i64 y] H R:=by
 subst hy
 have hs1:1<=size/\size<=8:=by
  rw[hsz]
  have:k=0\/k=1\/k=2\/k=3:=by omega
  rcases this with rfl|rfl|rfl|rfl<;>decide
 apply w61
 unfold s61
 refine Q2 (fun _ h=>Qc h p {S with min:=Nat.max S.min size} F r) ?_ ?_
 ·obtain ⟨hd,h1,⟨B,V,T,L,len,vtv,vtsv,e,eB,hr,h2,h3⟩⟩:=hB
  simp only[↓Qp,↓Qm,↓Ql (ld_min hr),↓Z3]
  apply Z0
  ·intro hlt
   rw[st_min hr]
   have e0:Nat.max S.min size=size:=Nat.max_eq_right (by omega)
   rw[e0]
   exact ⟨hd,h1,⟨B,V,T,L,len,vtv,vtsv,e,eB,Raw.setp hr rfl rfl,h2,h3⟩⟩
  ·intro hlt
   have e0:Nat.max S.min size=S.min:=Nat.max_eq_left (by omega)
   rw[e0]
   exact ⟨hd,h1,⟨B,V,T,L,len,vtv,vtsv,e,eB,hr,h2,h3⟩⟩
 ·intro h2 hb
  have hlt:=hb.lt
  generalize hS1:{S with min:=Nat.max S.min size}=S1 at hb hlt
  have hbuf:S1.buf=S.buf:=by rw[<-hS1]
  obtain ⟨hd,h1,⟨B,V,T,L,len,vtv,vtsv,e,eB,hr,g2,g3⟩⟩:=hb
  have hl:=hr.lt
  have hpl:=Zo (size:=size) (n:=S.buf.length+add) (by omega)
  have hpi:=padOf_int (size:=size) (n:=S.buf.length+add) (by omega)
  simp only[↓Qp,↓Qm,↓Ql (YI hr),↓Qbq]
  apply w157
  unfold s157
  simp only[↓Qp,↓Qm,↓Ql (YL hr),Qb,↓Q7,↓Yg,↓Q5]
  rw[wrap_i64 (n:=(hd:Int)) (by omega) (by omega),wrap_i64 (n:=(len:Int)-(hd:Int)) (by omega) (by omega),wrap_i64 (n:=(len:Int)-(hd:Int)+(add:Int)) (by omega) (by omega)]
  rw[show (len:Int)-(hd:Int)+(add:Int)=((S.buf.length+add:Nat):Int) by rw[hbuf]at g2;omega,PureK_xor,xor_all (by omega)]
  simp only[↓Q5,↓Yg,↓QfL]
  rw[wrap_i64 (n:=-((S.buf.length+add:Nat):Int)-1+1) (by omega) (by omega),wrap_i64 (n:=(size:Int)-1) (by omega) (by omega),mask_and _ hsz (by omega)]
  rw[show -((S.buf.length+add:Nat):Int)-1+1=-((S.buf.length+add:Nat):Int) by omega,hpi]
  generalize hpad:padOf size (S.buf.length+add)=pad at hpl hR
  refine Q2 (fun _ h=>∃hd',BuilderH h p S1 F hd'/\r<=hd'/\pad+size+add<hd') ?_ ?_
  ·refine ⟨fun m vs h=>∃hd',BuilderH h p S1 F hd'/\r<=hd'/\m=1073741824-hd',⟨_,hd,⟨B,V,T,L,len,vtv,vtsv,e,eB,hr,g2,g3⟩,h1,rfl⟩,fun m=>?_⟩
   rintro h4 ⟨hd',⟨B,V,T,L,len,vtv,vtsv,e,eB,hr,g2,g3⟩,h1',rfl⟩
   have hl:=hr.lt
   simp only[↓Qp,↓Qm,↓Ql (YL hr),↓Q7,↓Q5,↓Qep]
   rw[wrap_i64 (n:=(hd':Int)) (by omega) (by omega),wrap_i64 (n:=(pad:Int)+(size:Int)) (by omega) (by omega),wrap_i64 (n:=(pad:Int)+(size:Int)+(add:Int)) (by omega) (by omega)]
   apply Z0
   ·intro hle
    simp only[↓Ql (YI hr),↓Qbq]
    refine go_Builder_grow hr (by rw[hbuf]at g2;omega) ?_
    intro H' B' L' eB' hr' hh
    have hg1:len<grown len:=by unfold grown;split<;>omega
    have hl':=hr'.lt
    simp only[↓Qp,↓Qm,↓Ql (YL hr'),↓Ql (YI hr'),↓Qbq,↓Yg,↓Q7,↓Q5]
    rw[wrap_i64 (n:=(grown len:Int)-(len:Int)) (by omega) (by omega),QU (n:=(grown len:Int)-(len:Int)) (by omega) (by omega),QU (by omega) (by omega)]
    rw[show (hd':Int)+((grown len:Int)-(len:Int))=((hd'+(grown len-len):Nat):Int) by omega,Qb0 hr']
    refine ⟨1073741824-(hd'+(grown len-len)),by omega,hd'+(grown len-len),⟨B',V,T,L',grown len,vtv,vtsv,e,eB',Raw.setp hr' rfl rfl,by omega,?_⟩,by omega,rfl⟩
    rcases hh with h0|h0
    ·subst h0
     have hb0:S1.buf=[]:=List.eq_nil_of_length_eq_zero (by omega)
     rw[hb0]
     apply List.drop_of_length_le
     simp[grown];omega
    ·have hgl:len=0\/grown len=2*len:=by unfold grown;split<;>omega
     rcases hgl with h00|hgl
     ·subst h00
      have hb0:S1.buf=[]:=List.eq_nil_of_length_eq_zero (by omega)
      rw[hb0]
      apply List.drop_of_length_le
      simp[grown];omega
     ·rw[show hd'+(grown len-len)=len+hd' by omega,<-List.drop_drop,h0,g3]
   ·intro hle
    exact ⟨hd',⟨B,V,T,L,len,vtv,vtsv,e,eB,hr,g2,g3⟩,h1',by omega⟩
  ·rintro h7 ⟨hd',hbh,h1',h2'⟩
   have hat:Qc h7 p S1 F (Nat.max r (pad+size+add+1)):=⟨hd',Nat.max_le.2 ⟨h1',by omega⟩,hbh⟩
   have hm1:=Nat.le_max_left r (pad+size+add+1)
   have hm2:=Nat.le_max_right r (pad+size+add+1)
   have hm1:r<=Nat.max r (pad+size+add+1):=hm1
   have hm2:pad+size+add+1<=Nat.max r (pad+size+add+1):=hm2
   generalize Nat.max r (pad+size+add+1)=mx at hm1 hm2 hat
   refine QaD (n:=pad) hat rfl (Nat.le_trans (by omega) hm2) ?_
   intro H' hb'
   refine hR H' ?_
   have e1:place (List.replicate pad 0) S1=prep size add S:=by rw[<-hS1,<-hpad];rfl
   rw[e1]at hb'
   exact hb'.room (Nat.max_le.2 ⟨by omega,by omega⟩)
end
end Go.Proofs
namespace Go.Proofs
open Go Go.Vc
open Tryz (prog)
def slot (o:Nat) (S:BS):BS:={S with vt:=S.vt.set o S.buf.length}
def putOff (off:Nat) (S:BS):BS:=place (leB (((prep 4 0 S).buf.length-off+4:Nat):Int) 4) (prep 4 0 S)
def putN (k:Nat) (xs:List UInt8) (S:BS):BS:=place xs (prep k 0 S)
theorem Qa5 {size add:Nat} {S:BS}:(prep size add S).buf.length=padOf size (S.buf.length+add)+S.buf.length:=by
 simp[prep,place]
section
variable {H:Qe} {p:Nat} {S:BS} {F:Cut} {r:Nat} (hB:Qc H p S F r) {R:Kn}
include hB
theorem QcQ {b:UInt8} (hl:S.buf.length+16<=536870912) (hR:∀H',Qc H' p (putN 1 [b] S) F (Nat.max (r-padOf 1 S.buf.length) (1+1)-1)->R (.tuple #[]) H'):FnS prog 104 #[.pointer (some ⟨p,0,none⟩),.int .u8 (b.toNat:Int)] H R:=by
 apply w104
 unfold tp84
 refine QX (size:=1) (add:=0) (k:=0) hB (by decide) (by decide) rfl (by omega) ?_
 intro H1 h1
 refine Qa6 h1 (Nat.le_trans (by decide) (Nat.le_max_right _ _)) ?_
 intro H2 h2
 exact hR H2 h2
theorem Qg5 {b:Bool} (hl:S.buf.length+16<=536870912) (hR:∀H',Qc H' p (putN 1 [if b then 1 else 0] S) F (Nat.max (r-padOf 1 S.buf.length) (1+1)-1)->R (.tuple #[]) H'):FnS prog 84 #[.pointer (some ⟨p,0,none⟩),.bool b] H R:=by
 apply w84
 unfold tp84
 refine QX (size:=1) (add:=0) (k:=0) hB (by decide) (by decide) rfl (by omega) ?_
 intro H1 h1
 refine Qh3 h1 (Nat.le_trans (by decide) (Nat.le_max_right _ _)) ?_
 intro H2 h2
 exact hR H2 h2
theorem QcR {x:Int} (hl:S.buf.length+16<=536870912) (hR:∀H',Qc H' p (putN 1 (leB x 1) S) F (Nat.max (r-padOf 1 S.buf.length) (1+1)-1)->R (.tuple #[]) H'):FnS prog 321 #[.pointer (some ⟨p,0,none⟩),.int .i8 x] H R:=by
 apply w321
 unfold tp84
 refine QX (size:=1) (add:=0) (k:=0) hB (by decide) (by decide) rfl (by omega) ?_
 intro H1 h1
 refine Qh6 h1 (Nat.le_trans (by decide) (Nat.le_max_right _ _)) ?_
 intro H2 h2
 exact hR H2 h2
theorem Qco {x:Int} (hl:S.buf.length+16<=536870912) (hR:∀H',Qc H' p (putN 2 (leB x 2) S) F (Nat.max (r-padOf 2 S.buf.length) (2+1)-2)->R (.tuple #[]) H'):FnS prog 322 #[.pointer (some ⟨p,0,none⟩),.int .i16 x] H R:=by
 apply w322
 unfold tp84
 refine QX (size:=2) (add:=0) (k:=1) hB (by decide) (by decide) rfl (by omega) ?_
 intro H1 h1
 refine Qgy h1 (Nat.le_trans (by decide) (Nat.le_max_right _ _)) ?_
 intro H2 h2
 exact hR H2 h2
theorem Qfa {x:Int} (hl:S.buf.length+16<=536870912) (hR:∀H',Qc H' p (putN 2 (leB x 2) S) F (Nat.max (r-padOf 2 S.buf.length) (2+1)-2)->R (.tuple #[]) H'):FnS prog 350 #[.pointer (some ⟨p,0,none⟩),.int .u16 x] H R:=by
 apply w350
 unfold tp84
 refine QX (size:=2) (add:=0) (k:=1) hB (by decide) (by decide) rfl (by omega) ?_
 intro H1 h1
 refine QfZ h1 (Nat.le_trans (by decide) (Nat.le_max_right _ _)) ?_
 intro H2 h2
 exact hR H2 h2
theorem ZX {x:Int} (hl:S.buf.length+16<=536870912) (hR:∀H',Qc H' p (putN 2 (leB x 2) S) F (Nat.max (r-padOf 2 S.buf.length) (2+1)-2)->R (.tuple #[]) H'):FnS prog 357 #[.pointer (some ⟨p,0,none⟩),.int .u16 x] H R:=by
 apply w357
 unfold tp84
 refine QX (size:=2) (add:=0) (k:=1) hB (by decide) (by decide) rfl (by omega) ?_
 intro H1 h1
 refine Qf5 h1 (Nat.le_trans (by decide) (Nat.le_max_right _ _)) ?_
 intro H2 h2
 exact hR H2 h2
theorem Qfi {x:Int} (hl:S.buf.length+16<=536870912) (hR:∀H',Qc H' p (putN 4 (leB x 4) S) F (Nat.max (r-padOf 4 S.buf.length) (4+1)-4)->R (.tuple #[]) H'):FnS prog 331 #[.pointer (some ⟨p,0,none⟩),.int .i32 x] H R:=by
 apply w331
 unfold tp84
 refine QX (size:=4) (add:=0) (k:=2) hB (by decide) (by decide) rfl (by omega) ?_
 intro H1 h1
 refine QgG h1 (Nat.le_trans (by decide) (Nat.le_max_right _ _)) ?_
 intro H2 h2
 exact hR H2 h2
theorem Qc1 {x:Int} (hl:S.buf.length+16<=536870912) (hR:∀H',Qc H' p (putN 4 (leB x 4) S) F (Nat.max (r-padOf 4 S.buf.length) (4+1)-4)->R (.tuple #[]) H'):FnS prog 325 #[.pointer (some ⟨p,0,none⟩),.int .u32 x] H R:=by
 apply w325
 unfold tp84
 refine QX (size:=4) (add:=0) (k:=2) hB (by decide) (by decide) rfl (by omega) ?_
 intro H1 h1
 refine Qg1 h1 (Nat.le_trans (by decide) (Nat.le_max_right _ _)) ?_
 intro H2 h2
 exact hR H2 h2
theorem QbI {x:Nat} (hl:S.buf.length+16<=536870912) (hR:∀H',Qc H' p (putN 4 (leB x 4) S) F (Nat.max (r-padOf 4 S.buf.length) (4+1)-4)->R (.tuple #[]) H'):FnS prog 329 #[.pointer (some ⟨p,0,none⟩),.float .f32 x] H R:=by
 apply w329
 unfold tp84
 refine QX (size:=4) (add:=0) (k:=2) hB (by decide) (by decide) rfl (by omega) ?_
 intro H1 h1
 refine Qfn h1 (Nat.le_trans (by decide) (Nat.le_max_right _ _)) ?_
 intro H2 h2
 exact hR H2 h2
theorem QcK {x:Int} (hl:S.buf.length+16<=536870912) (hR:∀H',Qc H' p (putN 8 (leB x 8) S) F (Nat.max (r-padOf 8 S.buf.length) (8+1)-8)->R (.tuple #[]) H'):FnS prog 90 #[.pointer (some ⟨p,0,none⟩),.int .i64 x] H R:=by
 apply w90
 unfold tp84
 refine QX (size:=8) (add:=0) (k:=3) hB (by decide) (by decide) rfl (by omega) ?_
 intro H1 h1
 refine Qgu h1 (Nat.le_trans (by decide) (Nat.le_max_right _ _)) ?_
 intro H2 h2
 exact hR H2 h2
theorem QbX {x:Int} (hl:S.buf.length+16<=536870912) (hR:∀H',Qc H' p (putN 8 (leB x 8) S) F (Nat.max (r-padOf 8 S.buf.length) (8+1)-8)->R (.tuple #[]) H'):FnS prog 97 #[.pointer (some ⟨p,0,none⟩),.int .u64 x] H R:=by
 apply w97
 unfold tp84
 refine QX (size:=8) (add:=0) (k:=3) hB (by decide) (by decide) rfl (by omega) ?_
 intro H1 h1
 refine Qg7 h1 (Nat.le_trans (by decide) (Nat.le_max_right _ _)) ?_
 intro H2 h2
 exact hR H2 h2
theorem Qex {x:Nat} (hl:S.buf.length+16<=536870912) (hR:∀H',Qc H' p (putN 8 (leB x 8) S) F (Nat.max (r-padOf 8 S.buf.length) (8+1)-8)->R (.tuple #[]) H'):FnS prog 92 #[.pointer (some ⟨p,0,none⟩),.float .f64 x] H R:=by
 apply w92
 unfold tp84
 refine QX (size:=8) (add:=0) (k:=3) hB (by decide) (by decide) rfl (by omega) ?_
 intro H1 h1
 refine QfF h1 (Nat.le_trans (by decide) (Nat.le_max_right _ _)) ?_
 intro H2 h2
 exact hR H2 h2
theorem ZW {off:Nat} (hl:S.buf.length+16<=536870912) (ho:off<=S.buf.length) (hR:∀H',Qc H' p (putOff off S) F (Nat.max (r-padOf 4 S.buf.length) 5-4)->R (.tuple #[]) H'):
  FnS prog 62 #[.pointer (some ⟨p,0,none⟩),.int .u32 (off:Nat)] H R:=by
 apply w62
 unfold s62
 refine QX (size:=4) (add:=0) (k:=2) hB (by decide) (by decide) rfl (by omega) ?_
 intro H1 h1
 have hlen:S.buf.length<=(prep 4 0 S).buf.length:=by rw[Qa5];omega
 have hlt:=h1.lt
 refine Q2 (fun _ h=>h=H1) ?_ ?_
 ·refine Yl h1 ?_
  rw[Qep,Yn,decide_eq_true (by omega),Bool.not_true,YQ]
 ·rintro h2 rfl
  refine Yl h1 ?_
  rw[Yg,Q5,QU (n:=((prep 4 0 S).buf.length:Int)-(off:Int)) (by omega) (by omega),QU (by omega) (by omega)]
  rw[show ((prep 4 0 S).buf.length:Int)-(off:Int)+4=(((prep 4 0 S).buf.length-off+4:Nat):Int) by omega]
  refine QbW h1 (Nat.le_trans (by decide) (Nat.le_max_right _ _)) ?_
  intro H2 h2
  exact hR H2 h2
theorem Qen (hl:S.buf.length+16<=536870912) (hR:∀H',Qc H' p (putOff 0 S) F (Nat.max (r-padOf 4 S.buf.length) 5-4)->R (.tuple #[]) H'):
  FnS prog 354 #[.pointer (some ⟨p,0,none⟩),.int .i32 0] H R:=by
 apply w354
 unfold s354
 refine QX (size:=4) (add:=0) (k:=2) hB (by decide) (by decide) rfl (by omega) ?_
 intro H1 h1
 have hlt:=h1.lt
 refine Q2 (fun _ h=>h=H1) ?_ ?_
 ·rw[Q7]
  refine Yl h1 ?_
  rw[Qep,Yn,decide_eq_true (by rw[show IntKind.u32.wrap 0=0 from rfl];omega),Bool.not_true,YQ]
 ·rintro h2 rfl
  refine Yl h1 ?_
  rw[Q7,Yg,Q5,Zd (n:=((prep 4 0 S).buf.length:Int)) (by omega) (by omega),Zd (n:=((prep 4 0 S).buf.length:Int)-0) (by omega) (by omega),Zd (by omega) (by omega)]
  rw[show ((prep 4 0 S).buf.length:Int)-0+4=(((prep 4 0 S).buf.length-0+4:Nat):Int) by omega]
  refine QeP h1 (Nat.le_trans (by decide) (Nat.le_max_right _ _)) ?_
  intro H2 h2
  exact hR H2 h2
theorem YR {o:Nat} (ho:o<S.vt.length) (hR:∀H',Qc H' p (slot o S) F r->R (.tuple #[]) H'):
  FnS prog 330 #[.pointer (some ⟨p,0,none⟩),.int .i64 (o:Nat)] H R:=by
 have hB':=hB
 obtain ⟨hd,h1,⟨B,V,T,L,len,vtv,vtsv,e,eB,hr,h2,h3⟩⟩:=hB
 apply w330
 unfold s330
 simp only[↓Qp,↓Qm,↓Ql (QiP hr)]
 refine Yl hB' ?_
 rw[Qb]
 rcases hr.hV with ⟨rfl,hn,_⟩|⟨⟨W,eW,rfl,hW,hW2,hW3⟩,n1,n2,n3⟩
 ·rw[hn]at ho;simp at ho
 ·rw[QP (by omega) (by omega),Int.toNat_natCast,Nat.mul_one,Nat.zero_add,Qax hW (by rw[QhK];omega) (by simp) rfl,u32c_set]
  refine hR _ ⟨hd,h1,⟨B,V,T,L,len,.slice (some ⟨V,0,none⟩) S.vt.length W.length,vtsv,e,eB,?_,h2,h3⟩⟩
  refine ⟨by rw[Qw (Ne.symm n1)];exact hr.hp,by rw[Qw (Ne.symm n2)];exact hr.hB,Or.inr ⟨⟨W.set o S.buf.length,eW,by simp[slot],QV hW,?_,?_⟩,n1,n2,n3⟩,hr.hT.mono (Qw (Ne.symm n3)),hr.pB,hr.pT,hr.BT,?_,hr.hlen,hr.lt⟩
  ·simp only[slot,List.length_set]
   rw[List.take_set,hW2]
  ·simp only[slot,List.length_set];exact hW3
  ·intro b o hb
   have:=hr.hF b o hb
   exact ⟨by rw[Qw this.2.2.2.1];exact this.1,this.2⟩
def QK (es n al:Nat) (S:BS):BS:=prep al (es*n) (prep 4 (es*n) {S with nested:=true})
omit hB in
theorem startVec_len {es n al:Nat}:(QK es n al S).buf.length=padOf al (padOf 4 (S.buf.length+es*n)+S.buf.length+es*n)+(padOf 4 (S.buf.length+es*n)+S.buf.length):=by
 unfold QK
 rw[Qa5,Qa5]
theorem QM {es n al k:Nat} (hn:S.nested=false) (hal:al=2^k) (hk:k<=3) (hl:S.buf.length+es*n+24<=536870912)
  (hR:∀H',Qc H' p (QK es n al S) F (Nat.max ((4+es*n+1)-padOf al ((prep 4 (es*n) {S with nested:=true}).buf.length+es*n)) (al+es*n+1))->R (.int .u32 ((QK es n al S).buf.length:Nat)) H'):
  FnS prog 254 #[.pointer (some ⟨p,0,none⟩),.int .i64 (es:Nat),.int .i64 (n:Nat),.int .i64 (al:Nat)] H R:=by
 have hes:((es:Int)*(n:Int))=((es*n:Nat):Int):=by rw[Int.natCast_mul]
 have hpp:=Zo (size:=4) (n:=S.buf.length+es*n) (by decide)
 apply w254
 unfold s254
 refine YV hB hn ?_
 simp only[↓Qp,↓Qm]
 refine Qc3 hB ?_
 intro H1 h1
 rw[Zx,hes,wrap_i64 (n:=((es*n:Nat):Int)) (by omega) (by omega)]
 refine QX (size:=4) (add:=es*n) (k:=2) h1 (by decide) (by decide) rfl (by show S.buf.length+es*n+16<=536870912;omega) ?_
 intro H2 h2
 rw[Zx,hes,wrap_i64 (n:=((es*n:Nat):Int)) (by omega) (by omega)]
 refine QX (size:=al) (add:=es*n) (k:=k) h2 hal hk rfl ?_ ?_
 ·rw[Qa5]
  show padOf 4 (S.buf.length+es*n)+S.buf.length+es*n+16<=536870912
  omega
 ·intro H3 h3
  refine Yl h3 ?_
  refine hR H3 (h3.room ?_)
  have g1:4+es*n+1<=Nat.max (r-padOf 4 ((({S with nested:=true}:BS)).buf.length+es*n)) (4+es*n+1):=Nat.le_max_right _ _
  generalize Nat.max (r-padOf 4 ((({S with nested:=true}:BS)).buf.length+es*n)) (4+es*n+1)=x at *
  exact Nat.max_le.2 ⟨Nat.le_trans (by omega) (Nat.le_max_left _ _),Nat.le_max_right _ _⟩
def Qj7 (n:Nat) (S:BS):BS:={place (leB (n:Int) 4) S with nested:=false}
theorem Qa7 {n:Nat} (hn:S.nested=true) (hr:4<=r) (hlt:n<4294967296) (hR:∀H',Qc H' p (Qj7 n S) F (r-4)->R (.int .u32 ((Qj7 n S).buf.length:Nat)) H'):
  FnS prog 79 #[.pointer (some ⟨p,0,none⟩),.int .i64 (n:Nat)] H R:=by
 apply w79
 unfold s79
 refine Qav hB hn ?_
 rw[Q7,QU (by omega) (by omega)]
 refine QbW hB hr ?_
 intro H1 h1
 simp only[↓Qp,↓Qm]
 refine Qc3 h1 ?_
 intro H2 h2
 refine Yl h2 ?_
 exact hR H2 h2
end
end Go.Proofs
namespace Go.Proofs
open Go Go.Vc
open Tryz (prog)
def createStr (xs:List UInt8) (S:BS):BS:=Qj7 xs.length (place xs (place [0] (prep 4 (xs.length+1) {S with nested:=true})))
section
variable {H:Qe} {p:Nat} {S:BS} {F:Cut} {r:Nat} (hB:Qc H p S F r) {R:Kn}
include hB
theorem copy_in {xs:List UInt8} {kp:Qe->Prop} {y:Value} {k:Kn} (hx:xs.length<r) (h0:0<S.buf.length)
  (hy:∀H',(∀b o,F b=some o->H'[b]?=some o)->Qjc H' 1 xs.length y=some (xs.map u8V)) (hly:lenV y=xs.length)
  (hk:∀H',Qc H' p (place xs S) F (r-xs.length)->k (.int .i64 (Nat.min (lenV y) xs.length)) H'):
  LdK H (.pointer (some ⟨p,5,none⟩)) fun x25=>Qj prog .sub 74 x25 (.int .u32 (xs.length:Nat)) fun x27=>
   StK H 1 (.pointer (some ⟨p,5,none⟩)) x27 fun h5=>
   LdK h5 (.pointer (some ⟨p,0,none⟩)) fun x33=>LdK h5 (.pointer (some ⟨p,5,none⟩)) fun x37=>LdK h5 (.pointer (some ⟨p,5,none⟩)) fun x41=>
   Qj prog .add 74 x41 (.int .u32 (xs.length:Nat)) fun x43=>Qg4 1 x33 (some x37) (some x43) fun x44=>CopyK h5 1 x44 y k:=by
 obtain ⟨hd,h1,⟨B,V,T,L,len,vtv,vtsv,e,eB,hr,h2,h3⟩⟩:=hB
 have hl:=hr.lt;have hlL:=hr.hlen
 rw[Ql (YL hr),Yg,QU (by omega) (by omega),show (hd:Int)-(xs.length:Int)=((hd-xs.length:Nat):Int) by omega,Qb0 hr]
 have hr2:=Raw.setp (S':=S) (head':=hd-xs.length) hr rfl rfl
 rw[Ql (YI hr2),Ql (YL hr2),Ql (YL hr2),Q5,QU (by omega) (by omega),bsl,Qgq (by omega) (by omega) (by omega)]
 have hne:¬L.length=((hd-xs.length:Nat):Int).toNat:=by omega
 rw[if_neg hne]
 simp only[Int.toNat_natCast,Nat.mul_one,Nat.zero_add]
 have hn:(((hd-xs.length:Nat):Int)+(xs.length:Int)).toNat-(hd-xs.length)=xs.length:=by omega
 rw[hn]
 have hmin:Nat.min (lenV y) xs.length=xs.length:=by rw[hly];exact Nat.min_self _
 refine ⟨xs.map u8V,?_,?_⟩
 ·rw[hmin]
  exact hy _ (fun b o hb=>(hr2.hF b o hb).1)
 ·refine ⟨_,setN_u8 hr2.hB (by omega),?_⟩
  refine hk _ ⟨hd-xs.length,by omega,⟨B,V,T,_,len,vtv,vtsv,e,eB,Raw.wr hr2 (Ym _ _ _) rfl rfl rfl,?_,?_⟩⟩
  ·simp only[place,List.length_append];omega
  ·exact Qar hr.hlen h2 h3 (by omega)
omit hB in
theorem byteCells_all (s:ByteArray):(Z9 (s.extract 0 s.size)).toList=s.toList.map u8V:=by
 have:s.extract 0 s.size=s:=by simp
 rw[this]
 simp[Z9,ByteArray.toList_eq]
set_option maxHeartbeats 1000000 in
theorem Qch {s:ByteArray} {xs:List UInt8} (hs:s.toList=xs) (hn:S.nested=false) (hl:S.buf.length+xs.length+24<=536870912)
  (hR:∀H',Qc H' p (createStr xs S) F 0->R (.int .u32 ((createStr xs S).buf.length:Nat)) H'):
  FnS prog 74 #[.pointer (some ⟨p,0,none⟩),.string s] H R:=by
 have hsz:s.size=xs.length:=by rw[<-hs,ByteArray.toList_eq,Array.length_toList];rfl
 apply w74
 unfold s74
 refine YV hB hn ?_
 simp only[↓Qp,↓Qm,↓Qaf,hsz]
 refine Qc3 hB ?_
 intro H1 h1
 rw[Q5,Zx,wrap_i64 (n:=(xs.length:Int)+1) (by omega) (by omega),wrap_i64 (by omega) (by omega)]
 refine QX (size:=4) (add:=xs.length+1) (k:=2) h1 (by decide) (by decide) (by omega) (by show S.buf.length+(xs.length+1)+16<=536870912;omega) ?_
 intro H2 h2
 have g1:4+(xs.length+1)+1<=Nat.max (r-padOf 4 ((({S with nested:=true}:BS)).buf.length+(xs.length+1))) (4+(xs.length+1)+1):=Nat.le_max_right _ _
 refine Qa6 (b:=0) (h2.room g1) (by omega) ?_
 intro H3 h3
 rw[Q7,QU (by omega) (by omega)]
 refine copy_in (xs:=xs) (kp:=fun _=>True) h3 (by omega) (by simp[place]) ?_ hsz ?_
 ·intro H' _
  show some (Z9 (s.extract 0 xs.length)).toList=_
  rw[<-hsz,byteCells_all,hs]
 ·intro H4 h4
  refine Qa7 h4 (by simp[place,prep]) (by omega) (by omega) ?_
  intro H5 h5
  exact hR H5 (h5.room (by omega))
set_option maxHeartbeats 1000000 in
theorem Qe9 {xs:List UInt8} {a:Option Addr} {c:Nat} (hs:∀H',(∀b o,F b=some o->H'[b]?=some o)->Qjc H' 1 xs.length (.slice a xs.length c)=some (xs.map u8V)) (hn:S.nested=false) (hl:S.buf.length+xs.length+24<=536870912)
  (hR:∀H',Qc H' p (createStr xs S) F 0->R (.int .u32 ((createStr xs S).buf.length:Nat)) H'):
  FnS prog 75 #[.pointer (some ⟨p,0,none⟩),.slice a xs.length c] H R:=by
 apply w75
 unfold s75
 refine YV hB hn ?_
 simp only[↓Qp,↓Qm,↓Qbq]
 refine Qc3 hB ?_
 intro H1 h1
 rw[Q5,Zx,wrap_i64 (n:=(xs.length:Int)+1) (by omega) (by omega),wrap_i64 (by omega) (by omega)]
 refine QX (size:=4) (add:=xs.length+1) (k:=2) h1 (by decide) (by decide) (by omega) (by show S.buf.length+(xs.length+1)+16<=536870912;omega) ?_
 intro H2 h2
 have g1:4+(xs.length+1)+1<=Nat.max (r-padOf 4 ((({S with nested:=true}:BS)).buf.length+(xs.length+1))) (4+(xs.length+1)+1):=Nat.le_max_right _ _
 refine Qa6 (b:=0) (h2.room g1) (by omega) ?_
 intro H3 h3
 rw[Q7,QU (by omega) (by omega)]
 refine copy_in (xs:=xs) (kp:=fun _=>True) h3 (by omega) (by simp[place]) hs rfl ?_
 intro H4 h4
 refine Qa7 h4 (by simp[place,prep]) (by omega) (by omega) ?_
 intro H5 h5
 exact hR H5 (h5.room (by omega))
def Zc (n:Nat) (S:BS):BS:={S with nested:=true,vt:=List.replicate n 0,oe:=S.buf.length}
omit hB in
theorem set_rep (n i:Nat) (W:List Nat) (hi:i<n) (hn:n<=W.length) (h:W.take i=List.replicate i 0):(W.set i 0).take (i+1)=List.replicate (i+1) 0:=by
 rw[List.take_set,List.take_add_one,h]
 have:W[i]?.toList=[W[i]'(by omega)]:=by rw[List.getElem?_eq_getElem (by omega)];rfl
 rw[this,List.set_append]
 simp[List.replicate_succ']
set_option maxHeartbeats 1000000 in
theorem Zr {n:Nat} (hn:S.nested=false) (hlt:n<1000)
  (hR:∀H',Qc H' p (Zc n S) F r->R (.tuple #[]) H'):
  FnS prog 272 #[.pointer (some ⟨p,0,none⟩),.int .i64 (n:Nat)] H R:=by
 apply w272
 unfold s272
 refine YV hB hn ?_
 simp only[↓Qp,↓Qm]
 refine Qc3 hB ?_
 intro H1 h1
 have key:∀H2,Qc H2 p {S with nested:=true,vt:=List.replicate n 0} F r->FnS prog 249 #[.pointer (some ⟨p,0,none⟩)] H2 fun x55 h14=>
   StK h14 1 (.pointer (some ⟨p,3,none⟩)) x55 fun h15=>R (.tuple #[]) h15:=by
  intro H2 h2
  refine Yl h2 ?_
  refine st_oe_at h2 ?_
  intro H3 h3
  exact hR H3 h3
 obtain ⟨hd,hh,⟨B,V,T,L,len,vtv,vtsv,e,eB,hr,g2,g3⟩⟩:=h1
 refine Q2 (fun _ h=>Qc h p {S with nested:=true,vt:=List.replicate n 0} F r) ?_ ?_
 ·simp only[↓Qp,↓Qm,↓Ql (QiP hr)]
  obtain ⟨l1,l2,l3,l4⟩:=hr.V_lt
  have fresh:Qez H1 74 4 z74 (.int .i64 (n:Nat)) (.int .i64 (n:Nat)) fun x26 h8=>
    StK h8 1 (.pointer (some ⟨p,2,none⟩)) x26 fun h9=>Qc h9 p {S with nested:=true,vt:=List.replicate n 0} F r:=by
   refine ⟨by omega,by omega,by omega,by omega,?_⟩
   simp only[Int.toNat_natCast]
   rw[mk_u32 (z:=z74) rfl]
   have hp:(H1.push (.cells (QgZ (List.replicate n 0)) 74))[p]?=_:=YJ hr.hp
   rw[Qax hp (by decide:2<9) (by simp) rfl]
   refine ⟨hd,hh,⟨B,H1.size,T,L,len,.slice (some ⟨H1.size,0,none⟩) n n,vtsv,e,eB,?_,g2,g3⟩⟩
   refine ⟨QV hp,?_,Or.inr ⟨⟨List.replicate n 0,74,by simp,?_,by simp,by simp⟩,by omega,by omega,by omega⟩,?_,hr.pB,hr.pT,hr.BT,?_,hr.hlen,hr.lt⟩
   ·rw[Qw (Ne.symm hr.pB)];exact YJ hr.hB
   ·rw[Qw (by omega)];exact Qi
   ·refine hr.hT.mono ?_
    rw[Qw (Ne.symm hr.pT),Array.getElem?_push,if_neg (by omega)]
   ·intro b o hb
    have:=hr.hF b o hb
    have hbl:=YM this.1
    exact ⟨by rw[Qw this.2.1];exact YJ this.1,this.2.1,this.2.2.1,by omega,this.2.2.2.2⟩
  rcases hr.hV with ⟨rfl,hvn,hVp⟩|⟨⟨W,eW,rfl,hW,hW2,hW3⟩,n1,n2,n3⟩
  ·simp only[↓CapK_sl,↓Yw]
   by_cases h0:((0:Nat):Int)<(n:Int)
   ·simp only[decide_eq_true h0,↓Ys,↓Y4,↓Qbs]
    exact fresh
   ·simp only[decide_eq_false h0,↓QJ,↓Qp,↓Qm,↓Ql (QiP hr)]
    rw[BinK_sleq (e:=74) (by kernel_rfl)]
    simp only[Option.isNone_none,↓Yv,↓Qbs]
    exact fresh
  ·simp only[↓CapK_sl,↓Yw]
   by_cases h0:(W.length:Int)<(n:Int)
   ·simp only[decide_eq_true h0,↓Ys,↓Y4,↓Qbs]
    exact fresh
   ·simp only[decide_eq_false h0,↓QJ,↓Qp,↓Qm,↓Ql (QiP hr)]
    rw[BinK_sleq (e:=74) (by kernel_rfl)]
    simp only[Option.isNone_some,↓Yv,↓YQ]
    rw[SlcK_hi (by omega) (by omega),Int.toNat_natCast,Qax hr.hp (by decide:2<9) (by simp) rfl]
    have hp2:=QV (o:=.cells ((QfT B len L.length {S with nested:=true} (.slice (some ⟨V,0,none⟩) S.vt.length W.length) vtsv hd).setIfInBounds 2 (.slice (some ⟨V,0,none⟩) n W.length)) e (0,0)) hr.hp
    refine ⟨fun m vs h=>∃i:Nat,vs=[.int .i64 (i:Int)]/\i<=n/\m=n-i/\∃W':List Nat,W'.length=W.length/\W'.take i=List.replicate i 0/\
     Raw h p {S with nested:=true,vt:=W'.take n} F B V T L len hd (.slice (some ⟨V,0,none⟩) n W.length) vtsv e eB/\h[V]?=some (.cells (QgZ W') eW (0,0)),⟨n,0,rfl,by omega,by omega,W,rfl,rfl,?_,?_⟩,fun m=>?_⟩
    ·refine ⟨hp2,?_,Or.inr ⟨⟨W,eW,?_,?_,?_,?_⟩,n1,n2,n3⟩,hr.hT.mono (Qw (Ne.symm hr.pT)),hr.pB,hr.pT,hr.BT,?_,hr.hlen,hr.lt⟩
     ·rw[Qw (Ne.symm hr.pB)];exact hr.hB
     ·have:(W.take n).length=n:=by simp;omega
      rw[this]
     ·rw[Qw n1];exact hW
     ·have:(W.take n).length=n:=by simp;omega
      rw[this]
     ·simp;omega
     ·intro b o hb
      have:=hr.hF b o hb
      exact ⟨by rw[Qw this.2.1];exact this.1,this.2⟩
    ·rw[Qw n1];exact hW
    ·rintro x4 h11 ⟨i,hx,hi,rfl,W',hWl,hWt,hr',hWc⟩
     cases hx
     simp only[↓Ql (QiP hr'),↓Qbq,↓Yw]
     apply Z0
     ·intro hlt'
      rw[QP (by omega) (by omega),Int.toNat_natCast,Nat.mul_one,Nat.zero_add]
      have:(Value.int .u32 0)= .int .u32 ((0:Nat):Int):=rfl
      rw[this,Qax hWc (by rw[QhK];omega) (by simp) rfl,u32c_set,Q5,wrap_i64 (by omega) (by omega)]
      refine ⟨n-(i+1),by omega,i+1,rfl,by omega,rfl,W'.set i 0,by simp[hWl],set_rep n i W' (by omega) (by omega) hWt,?_,QV hWc⟩
      refine ⟨by rw[Qw (Ne.symm n1)];exact hr'.hp,by rw[Qw (Ne.symm n2)];exact hr'.hB,Or.inr ⟨⟨W'.set i 0,eW,?_,QV hWc,?_,?_⟩,n1,n2,n3⟩,hr'.hT.mono (Qw (Ne.symm n3)),hr.pB,hr.pT,hr.BT,?_,hr.hlen,hr.lt⟩
      ·have:((W'.set i 0).take n).length=n:=by simp;omega
       rw[this,List.length_set,hWl]
      ·have:((W'.set i 0).take n).length=n:=by simp;omega
       rw[this]
      ·simp;omega
      ·intro b o hb
       have:=hr'.hF b o hb
       exact ⟨by rw[Qw this.2.2.2.1];exact this.1,this.2⟩
     ·intro hge
      have:i=n:=by omega
      subst this
      rw[hWt]at hr'
      exact ⟨hd,hh,⟨B,V,T,L,len,_,vtsv,e,eB,hr',g2,g3⟩⟩
 ·intro h13 hb
  exact key h13 hb
end
end Go.Proofs
namespace Go.Proofs
open Go Go.Vc
open Tryz (prog)
def Zt:List Nat->Nat
 |[]=>0
 |x::xs=>if Zt xs=0/\x=0 then 0 else Zt xs+1
theorem Qiw:∀l:List Nat,Zt l<=l.length
 |[]=>by simp[Zt]
 |x::xs=>by
  have:=Qiw xs
  simp only[Zt,List.length_cons]
  split<;>omega
theorem Qgt:∀(l:List Nat),(∀j,j<l.length->l.getD j 0=0)->Zt l=0
 |[],_=>rfl
 |x::xs,h=>by
  have h0:x=0:=by simpa using h 0 (by simp)
  have h1:=Qgt xs (fun j hj=>by simpa using h (j+1) (by simp;omega))
  simp[Zt,h0,h1]
theorem QiD:∀(l:List Nat) (i:Nat),(∀j,i<=j->j<l.length->l.getD j 0=0)->i<=l.length->(i=0\/l.getD (i-1) 0≠0)->Zt l=i
 |l,0,h,_,_=>Qgt l (fun j hj=>h j (by omega) hj)
 |[],i+1,_,h,_=>by simp at h
 |x::xs,1,h,_,h2=>by
  have h1:=Qgt xs (fun j hj=>by simpa using h (j+1) (by omega) (by simp;omega))
  rcases h2 with h2|h2
  ·omega
  ·simp only[Nat.sub_self,List.getD_cons_zero]at h2
   simp[Zt,h1,h2]
 |x::xs,i+2,h,hl,h2=>by
  have h1:=QiD xs (i+1) (fun j hj hj2=>by simpa using h (j+1) (by omega) (by simp;omega)) (by simp at hl;omega) (by
   rcases h2 with h2|h2
   ·omega
   ·right
    have e:i+2-1=(i+1-1)+1:=by omega
    rw[e,List.getD_cons_succ]at h2
    exact h2)
  simp only[Zt,h1]
  rw[if_neg (by omega)]
def VtSl (H:Qe) (V:Nat) (v:Value) (l:List Nat):Prop:=(v= .slice none 0 0/\l=[])\/U32Sl H V v l
theorem VtSl.len {H:Qe} {V:Nat} {v:Value} {l:List Nat} (h:VtSl H V v l) {k:Value->Prop}:Y1 v k=k (.int .i64 l.length):=by
 rcases h with ⟨rfl,rfl⟩|⟨W,e,rfl,_⟩<;>rfl
theorem VtSl.idx {H:Qe} {V:Nat} {v:Value} {l:List Nat} (h:VtSl H V v l) {j:Nat} {x:Int} (hx:x=(j:Nat)) (hj:j<l.length):
  (∀k:Value->Prop,Y2 1 v (.int .i64 x) k=k (.pointer (some ⟨V,j,none⟩)))/\QaU H ⟨V,j,none⟩=some (.int .u32 (l.getD j 0:Nat)):=by
 subst hx
 rcases h with ⟨rfl,rfl⟩|⟨W,e,rfl,h2,h3,h4⟩
 ·simp at hj
 ·constructor
  ·intro k
   rw[QP (by omega) (by omega),Int.toNat_natCast,Nat.mul_one,Nat.zero_add]
  ·rw[Qk h2,u32c_get (by omega),<-h3]
   congr 2
   simp[List.getD,List.getElem?_take,hj]
theorem Raw.vtSl {H:Qe} {p:Nat} {S:BS} {F:Cut} {B V T:Nat} {L:List UInt8} {len head:Nat} {vtv vtsv:Value} {e eB:TypeId}
  (hr:Raw H p S F B V T L len head vtv vtsv e eB):VtSl H V vtv S.vt:=by
 rcases hr.hV with ⟨h1,h2,_⟩|⟨h,_⟩
 ·exact Or.inl ⟨h1,h2⟩
 ·exact Or.inr h
theorem st_vt_take {H:Qe} {p:Nat} {S:BS} {F:Cut} {B V T:Nat} {L:List UInt8} {len head:Nat} {vtv vtsv:Value} {e eB:TypeId}
  (hr:Raw H p S F B V T L len head vtv vtsv e eB) {i:Nat} {x:Int} (hx:x=(i:Nat)) (hi:i<=S.vt.length) {kp:Qe->Prop}
  (hk:∀H' vtv',Raw H' p {S with vt:=S.vt.take i} F B V T L len head vtv' vtsv e eB->kp H'):
  Qg4 1 vtv none (some (.int .i64 x)) fun x50=>StK H 1 (.pointer (some ⟨p,2,none⟩)) x50 kp:=by
 subst hx
 rcases hr.hV with ⟨rfl,hn,hVp⟩|⟨⟨W,eW,rfl,hW,hW2,hW3⟩,n1,n2,n3⟩
 ·rw[hn]at hi
  have h0:i=0:=by simpa using hi
  subst h0
  rw[SlcK_hi (by omega) (by omega),Qax hr.hp (by decide:2<9) (by simp) rfl]
  refine hk _ (.slice none 0 0) ?_
  refine ⟨QV hr.hp,?_,Or.inl ⟨rfl,by simp,hVp⟩,hr.hT.mono (Qw (Ne.symm hr.pT)),hr.pB,hr.pT,hr.BT,?_,hr.hlen,hr.lt⟩
  ·rw[Qw (Ne.symm hr.pB)];exact hr.hB
  ·intro b o hb
   have:=hr.hF b o hb
   exact ⟨by rw[Qw this.2.1];exact this.1,this.2⟩
 ·rw[SlcK_hi (by omega) (by omega),Int.toNat_natCast,Qax hr.hp (by decide:2<9) (by simp) rfl]
  refine hk _ (.slice (some ⟨V,0,none⟩) i W.length) ?_
  have hl:(S.vt.take i).length=i:=by simp;omega
  refine ⟨QV hr.hp,?_,Or.inr ⟨⟨W,eW,?_,?_,?_,?_⟩,n1,n2,n3⟩,hr.hT.mono (Qw (Ne.symm hr.pT)),hr.pB,hr.pT,hr.BT,?_,hr.hlen,hr.lt⟩
  ·rw[Qw (Ne.symm hr.pB)];exact hr.hB
  ·rw[hl]
  ·rw[Qw n1];exact hW
  ·rw[hl,<-hW2,List.take_take,Nat.min_eq_left hi]
  ·rw[hl];omega
  ·intro b o hb
   have:=hr.hF b o hb
   exact ⟨by rw[Qw this.2.1];exact this.1,this.2⟩
def Qi1 (l:List Nat) (oo:Nat) (bs:List UInt8) (o n:Nat):Bool:=
 decide (2*l.length=n)&&(List.range l.length).all fun i=>(decide (le2 bs (o+2*i)=0)&&decide (l.getD i 0=0))||decide ((le2 bs (o+2*i):Int)=(oo:Int)-(l.getD i 0:Nat))
theorem QiW {l:List Nat} {oo n o o':Nat} {bs bs':List UInt8} (h:∀i,i<n->byteN bs (o+i)=byteN bs' (o'+i)):Qi1 l oo bs o n=Qi1 l oo bs' o' n:=by
 unfold Qi1
 by_cases hl:2*l.length=n
 ·rw[decide_eq_true hl,Bool.true_and,Bool.true_and]
  apply Bool.eq_iff_iff.2
  simp only[List.all_eq_true,List.mem_range]
  have e:∀i,i<l.length->le2 bs (o+2*i)=le2 bs' (o'+2*i):=by
   intro i hi
   unfold le2
   rw[h (2*i) (by omega),Nat.add_assoc o,h (2*i+1) (by omega)]
   rfl
  constructor
  ·intro hh i hi;rw[<-e i hi];exact hh i hi
  ·intro hh i hi;rw[e i hi];exact hh i hi
 ·rw[decide_eq_false hl,Bool.false_and,Bool.false_and]
section
variable {H:Qe} {R:Kn}
set_option maxHeartbeats 1000000 in
theorem go_vtableEqual {V B o n c oo:Nat} {v:Value} {l:List Nat} {bs:List UInt8} (hv:VtSl H V v l) (hb:U8s H B 0 bs) (hn:o+n<=bs.length) (hc:n<=c) (hbn:n<1073741824)
  (hoo:oo<1073741824) (hl:∀j,l.getD j 0<=oo) (hll:l.length<1073741824) (hR:R (.bool (Qi1 l oo bs o n)) H):
  FnS prog 356 #[v,.int .u32 (oo:Nat),bsl B o n c] H R:=by
 apply w356
 unfold s356
 rw[hv.len,Zx,bsl,Qbq,Y5]
 by_cases heq:2*l.length=n
 ·rw[wrap_i64 (by omega) (by omega),Yb (by omega)]
  unfold Qi1 at hR
  rw[decide_eq_true heq,Bool.true_and]at hR
  refine Q2 (fun _ h=>h=H/\(List.range l.length).all (fun i=>(decide (le2 bs (o+2*i)=0)&&decide (l.getD i 0=0))||decide ((le2 bs (o+2*i):Int)=(oo:Int)-(l.getD i 0:Nat)))=true) ?_ ?_
  ·refine ⟨fun m vs h=>∃(i:Nat) (b:Value),vs=[.int .i64 (i:Int),b]/\i<=l.length/\m=l.length-i/\h=H/\
    ∀j,j<i->((decide (le2 bs (o+2*j)=0)&&decide (l.getD j 0=0))||decide ((le2 bs (o+2*j):Int)=(oo:Int)-(l.getD j 0:Nat)))=true,⟨l.length,0,_,rfl,by omega,by omega,rfl,by omega⟩,fun m=>?_⟩
   rintro x7 x6 h1 ⟨i,b,hx,hi,rfl,rfl,hall⟩
   cases hx
   rw[hv.len,Yw]
   by_cases hlt:i<l.length
   ·rw[Yj (by omega)]
    obtain ⟨hidx,hcell⟩:=hv.idx (j:=i) rfl hlt
    have h2b:=le2_lt bs (o+2*i)
    have hlj:=hl i
    have again:((decide (le2 bs (o+2*i)=0)&&decide (l.getD i 0=0))||decide ((le2 bs (o+2*i):Int)=(oo:Int)-(l.getD i 0:Nat)))=true->
      Qj prog .add 3 (.int .i64 (i:Int)) (.int .i64 1) fun x21=>QQ (fun m vs h=>∃(i:Nat) (b:Value),vs=[.int .i64 (i:Int),b]/\i<=l.length/\m=l.length-i/\h=h1/\
       ∀j,j<i->((decide (le2 bs (o+2*j)=0)&&decide (l.getD j 0=0))||decide ((le2 bs (o+2*j):Int)=(oo:Int)-(l.getD j 0:Nat)))=true) (l.length-i) [x21,x6] h1:=by
     intro hh
     rw[Q5,wrap_i64 (by omega) (by omega)]
     refine ⟨l.length-(i+1),by omega,i+1,x6,rfl,by omega,rfl,rfl,?_⟩
     intro j hj
     by_cases hji:j<i
     ·exact hall j hji
     ·have:j=i:=by omega
      subst this;exact hh
    refine Q2 (fun vs h=>vs=[x6]/\h=h1/\((decide (le2 bs (o+2*i)=0)&&decide (l.getD i 0=0))||decide ((le2 bs (o+2*i):Int)=(oo:Int)-(l.getD i 0:Nat)))=true) ?_ ?_
    ·rw[Zx,Q5,Zx,wrap_i64 (n:=(i:Int)*2) (by omega) (by omega),wrap_i64 (n:=(i:Int)+1) (by omega) (by omega),wrap_i64 (by omega) (by omega)]
     rw[Qgq (by omega) (by omega) (by omega)]
     have hne:¬c=((i:Int)*2).toNat:=by omega
     rw[if_neg hne]
     have e1:o+((i:Int)*2).toNat*1=o+2*i:=by omega
     rw[e1]
     refine Qd7 hb (by omega) (by omega) ?_
     rw[Yi]
     by_cases hz:le2 bs (o+2*i)=0
     ·simp only[hz,show ((0:Nat):Int)=0 from rfl,decide_true,↓Ye,hidx,↓Ql hcell,↓Yi,↓Y4]
      apply Z0
      ·intro h0
       have h0':l.getD i 0=0:=by omega
       exact ⟨by first|rfl|trivial,by first|rfl|trivial,by rw[h0'];rfl⟩
      ·intro h0
       have h0':¬l.getD i 0=0:=by omega
       simp only[↓Q7,↓Yg,↓Y5]
       rw[Zd (n:=(oo:Int)) (by omega) (by omega),Zd (n:=((l.getD i 0:Nat):Int)) (by omega) (by omega),Zd (n:=(oo:Int)-((l.getD i 0:Nat):Int)) (by omega) (by omega),Zd (n:=(0:Int)) (by omega) (by omega)]
       apply Z0
       ·intro hne2
        have hf:(List.range l.length).all (fun i=>(decide (le2 bs (o+2*i)=0)&&decide (l.getD i 0=0))||decide ((le2 bs (o+2*i):Int)=(oo:Int)-(l.getD i 0:Nat)))=false:=by
         rw[List.all_eq_false]
         refine ⟨i,List.mem_range.2 hlt,?_⟩
         rw[hz]
         simp only[decide_true,Bool.true_and,Bool.or_eq_true,decide_eq_true_eq,not_or]
         exact ⟨h0',hne2⟩
        rw[hf]at hR
        exact hR
       ·intro heq2
        refine ⟨by first|rfl|trivial,by first|rfl|trivial,?_⟩
        simp only[Bool.or_eq_true,decide_eq_true_eq]
        right;omega
     ·have hz2:¬(le2 bs (o+2*i):Int)=0:=by omega
      simp only[decide_eq_false hz2,↓Yz,↓Yv,↓YQ]
      simp only[↓Q7,hidx,↓Ql hcell,↓Yg,↓Y5]
      rw[Zd (n:=(oo:Int)) (by omega) (by omega),Zd (n:=((l.getD i 0:Nat):Int)) (by omega) (by omega),Zd (n:=(oo:Int)-((l.getD i 0:Nat):Int)) (by omega) (by omega),Zd (n:=(le2 bs (o+2*i):Int)) (by omega) (by omega)]
      apply Z0
      ·intro hne2
       have hf:(List.range l.length).all (fun i=>(decide (le2 bs (o+2*i)=0)&&decide (l.getD i 0=0))||decide ((le2 bs (o+2*i):Int)=(oo:Int)-(l.getD i 0:Nat)))=false:=by
        rw[List.all_eq_false]
        refine ⟨i,List.mem_range.2 hlt,?_⟩
        simp only[decide_eq_false hz,Bool.false_and,Bool.false_or,decide_eq_true_eq]
        exact hne2
       rw[hf]at hR
       exact hR
      ·intro heq2
       refine ⟨by first|rfl|trivial,by first|rfl|trivial,?_⟩
       simp only[decide_eq_false hz,Bool.false_and,Bool.false_or,decide_eq_true_eq]
       omega
    ·rintro x h8 ⟨hx,rfl,hh⟩
     cases hx
     exact again hh
   ·rw[Yb (by omega)]
    refine ⟨rfl,?_⟩
    rw[List.all_eq_true]
    intro j hj
    exact hall j (by have:=List.mem_range.1 hj;omega)
  ·rintro x7 x6 h9 ⟨rfl,hh⟩
   rw[hh]at hR
   exact hR
 ·rw[Yj]
  ·unfold Qi1 at hR
   rw[decide_eq_false heq,Bool.false_and]at hR
   exact hR
  ·rw[wrap_i64 (by omega) (by omega)]
   omega
end
end Go.Proofs
namespace Go.Proofs
open Go Go.Vc
open Tryz (prog)
def Qc0 (f:Nat->Bool):List Nat->Nat
 |[]=>0
 |x::xs=>if Qc0 f xs≠0 then Qc0 f xs else if f x=true then x else 0
theorem findVt_snoc (f:Nat->Bool) (x:Nat) (hx:x≠0):∀l:List Nat,Qc0 f (l++[x])=if f x=true then x else Qc0 f l
 |[]=>by simp[Qc0]
 |y::l=>by
  rw[List.cons_append,Qc0,findVt_snoc f x hx l,Qc0]
  by_cases h:f x=true
  ·simp[h,hx]
  ·simp[h]
theorem QiO (f:Nat->Bool):∀l:List Nat,Qc0 f l≠0->Qc0 f l∈l/\f (Qc0 f l)=true
 |[],h=>absurd rfl h
 |x::xs,h=>by
  rw[Qc0]at h⊢
  by_cases h1:Qc0 f xs≠0
  ·rw[if_pos h1]
   have:=QiO f xs h1
   exact ⟨List.mem_cons_of_mem _ this.1,this.2⟩
  ·rw[if_neg h1]at h⊢
   by_cases h2:f x=true
   ·rw[if_pos h2];exact ⟨List.mem_cons_self,h2⟩
   ·rw[if_neg h2]at h;exact absurd rfl h
def ZI (oo:Nat):List Nat->BS->BS
 |[],S=>S
 |v::vs,S=>putN 2 (leB ((if v≠0 then oo-v else 0:Nat):Int) 2) (ZI oo vs S)
theorem QhS {k:Nat} {xs:List UInt8} {S:BS}:(putN k xs S).buf.length=xs.length+padOf k S.buf.length+S.buf.length:=by
 simp[putN,place,prep];omega
theorem Qe5 (oo:Nat):∀(vs:List Nat) (S:BS),(ZI oo vs S).vt=S.vt/\(ZI oo vs S).vts=S.vts/\(ZI oo vs S).oe=S.oe/\(ZI oo vs S).nested=S.nested/\(ZI oo vs S).fin=S.fin
 |[],S=>⟨rfl,rfl,rfl,rfl,rfl⟩
 |v::vs,S=>Qe5 oo vs S
theorem wrEnt_len (oo:Nat):∀(vs:List Nat) (S:BS),S.buf.length<=(ZI oo vs S).buf.length/\(ZI oo vs S).buf.length<=S.buf.length+3*vs.length
 |[],S=>by simp[ZI]
 |v::vs,S=>by
  have:=wrEnt_len oo vs S
  have h2:=Zo (size:=2) (n:=(ZI oo vs S).buf.length) (by decide)
  rw[ZI,QhS,Qg,List.length_cons]
  omega
def Qdd (q:Nat) (x:Int) (S:BS):BS:={S with buf:=QaF S.buf q (leB x 4)}
def Qaq (vt:List Nat) (oo:Nat) (buf:List UInt8) (o:Nat):Bool:=Qi1 vt oo buf (oo-o+4) (le2 buf (oo-o)-4)
def endObj (S:BS):BS:=
 let S1:=putOff 0 S
 let oo:=S1.buf.length
 let vt:=S1.vt.take (Zt S1.vt)
 let ex:=Qc0 (Qaq vt oo S1.buf) S1.vts
 if ex=0 then
  let S2:=putN 2 (leB ((2*(vt.length+2):Nat):Int) 2) (putN 2 (leB ((oo-S.oe:Nat):Int) 2) (ZI oo vt {S1 with vt:=vt}))
  {Qdd (S2.buf.length-oo) ((S2.buf.length-oo:Nat):Int) S2 with vts:=S2.vts++[S2.buf.length],vt:=[],nested:=false}
 else {Qdd 0 ((ex:Int)-(oo:Int)) S1 with vt:=[],nested:=false}
def QhZ (S:BS):Prop:=∀o∈S.vts,0<o/\o<=S.buf.length/\4<=le2 S.buf (S.buf.length-o)/\le2 S.buf (S.buf.length-o)<=o
theorem QhO {L:List UInt8} {len head q:Nat} {buf:List UInt8} (h:(L.take len).drop head=buf) (hq:q<buf.length):byteN L (head+q)=byteN buf q:=by
 unfold byteN
 congr 1
 have hb:buf.length=(L.take len).length-head:=by rw[<-h,List.length_drop]
 have hlt:head+q<(L.take len).length:=by omega
 have h1:buf[q]?=(L.take len)[head+q]?:=by rw[<-h,List.getElem?_drop]
 have h2:(L.take len)[head+q]?=L[head+q]?:=by
  rw[List.getElem?_take,if_pos]
  simp at hlt;omega
 simp only[List.getD,h1,h2]
theorem le2_sub {L:List UInt8} {len head q:Nat} {buf:List UInt8} (h:(L.take len).drop head=buf) (hq:q+2<=buf.length):le2 L (head+q)=le2 buf q:=by
 unfold le2
 rw[QhO h (by omega),Nat.add_assoc,QhO h (by omega)]
theorem put_mid {L:List UInt8} {len head q:Nat} {xs buf:List UInt8} (hl:len<=L.length) (hh:head+buf.length=len) (hb:(L.take len).drop head=buf) (hx:q+xs.length<=buf.length):
  ((QaF L (head+q) xs).take len).drop head=QaF buf q xs:=by
 rw[QdQ _ _ _ (by omega),QdQ _ _ _ hx,<-hb]
 apply List.ext_getElem?
 intro i
 simp only[List.getElem?_drop,List.getElem?_take,List.getElem?_append,List.length_append,List.length_take]
 have m1:min (head+q) L.length=head+q:=by omega
 have m2:min q ((L.take len).drop head).length=q:=by simp;omega
 have m3:min (head+q) L.length=head+q:=by omega
 simp only[m1,List.length_drop,List.length_take]
 have m4:min q (min len L.length-head)=q:=by omega
 rw[m4]
 by_cases h1:head+i<len
 ·rw[if_pos h1]
  by_cases h2:head+i<head+q+xs.length
  ·have h2':i<q+xs.length:=by omega
   rw[if_pos h2,if_pos h2']
   by_cases h3:head+i<head+q
   ·have h3':i<q:=by omega
    rw[if_pos h3,if_pos h3',if_pos h3,if_pos h3',if_pos h1]
   ·have h3':¬i<q:=by omega
    rw[if_neg h3,if_neg h3']
    congr 1;omega
  ·have h2':¬i<q+xs.length:=by omega
   rw[if_neg h2,if_neg h2']
   have e:head+(q+xs.length+(i-(q+xs.length)))=head+i:=by omega
   rw[e,if_pos h1]
   congr 1;omega
 ·rw[if_neg h1]
  have h2':¬i<q+xs.length:=by omega
  rw[if_neg h2',if_neg (show ¬head+(q+xs.length+(i-(q+xs.length)))<len by omega)]
theorem QiM (x:Int):leB (IntKind.u16.wrap x) 2=leB x 2:=by
 rw[leB_2,leB_2]
 have h:IntKind.u16.wrap x=x%65536:=by simp[IntKind.wrap,IntKind.bits,IntKind.signed]
 have e0:Za (x%65536) 0=Za x 0:=by
  unfold Za
  congr 2
  first|(simp;done)|(simp;omega)
 have e1:Za (x%65536) 1=Za x 1:=by
  unfold Za
  congr 2
  first|(simp;done)|(simp;omega)
 rw[h,e0,e1]
end Go.Proofs
namespace Go.Proofs
open Go Go.Vc
open Tryz (prog)
theorem app_vts {H:Qe} {p:Nat} {S:BS} {F:Cut} {B V T:Nat} {L:List UInt8} {len head:Nat} {vtv vtsv:Value} {e eB:TypeId}
  (hr:Raw H p S F B V T L len head vtv vtsv e eB) {x Y:Nat} {et:TypeId} {kp:Qe->Prop} (hY:H[Y]?=some (.cells #[.int .u32 (x:Int)] et (0,0))) (hYp:Y≠p/\Y≠B/\Y≠V/\Y≠T) (hlt:S.vts.length<1073741824)
  (hk:∀H' T' vtsv',Raw H' p {S with vts:=S.vts++[x]} F B V T' L len head vtv vtsv' e eB->kp H'):
  Qbk H et 1 4 z74 vtsv (.slice (some ⟨Y,0,none⟩) 1 1) fun x190 h28=>StK h28 1 (.pointer (some ⟨p,4,none⟩)) x190 kp:=by
 obtain ⟨W,eW,rfl,hW,hW2,hW3⟩:=hr.hT
 obtain ⟨l1,l2,l3,l4⟩:=hr.V_lt
 have hnew:Qhk H (1*1) (.slice (some ⟨Y,0,none⟩) 1 1)=some [.int .u32 (x:Int)]:=by
  show Zk H ⟨Y,0,none⟩ 0 1=_
  rw[Q0 hY 1 (by simp)]
  rfl
 constructor
 ·intro hcap
  refine ⟨_,hnew,?_⟩
  have hW':H[T]?=some (.cells (W.map fun (n:Nat)=>Value.int .u32 (n:Int)).toArray eW (0,0)):=hW
  have hs:=QdI [.int .u32 (x:Int)] (o:=S.vts.length) (i:=0) hW' (by simp[Value.oneCell']) (by simp;omega) (by simp)
  have e1:(QaF (W.map fun (n:Nat)=>Value.int .u32 (n:Int)) (S.vts.length+0) [.int .u32 (x:Int)]).toArray=QgZ (W.set S.vts.length x):=by
   simp[QaF,QgZ,List.map_set]
  simp only[e1]at hs
  refine ⟨setB H T (.cells (QgZ (W.set S.vts.length x)) eW (0,0)),?_,?_⟩
  ·rw[QfP,Nat.mul_one,Nat.zero_add]
   exact hs
  ·show StK _ 1 _ _ kp
   have hp:(setB H T (.cells (QgZ (W.set S.vts.length x)) eW (0,0)))[p]?=_:=(Qw hr.pT).trans hr.hp
   rw[Qax hp (by decide:4<9) (by simp) rfl]
   refine hk _ T (.slice (some ⟨T,0,none⟩) (S.vts.length+1) W.length) ?_
   refine ⟨QV hp,?_,?_,⟨W.set S.vts.length x,eW,?_,?_,?_,?_⟩,hr.pB,hr.pT,hr.BT,?_,hr.hlen,hr.lt⟩
   ·rw[Qw (Ne.symm hr.pB),Qw hr.BT];exact hr.hB
   ·rcases hr.hV with g|⟨g,g2,g3,g4⟩
    ·exact Or.inl g
    ·exact Or.inr ⟨g.mono (by rw[Qw g2,Qw g4]),g2,g3,g4⟩
   ·simp
   ·rw[Qw (Ne.symm hr.pT),QV hW]
   ·simp only[List.length_append,List.length_cons,List.length_nil,Nat.zero_add]
    rw[List.take_set,List.take_add_one,hW2]
    have:W[S.vts.length]?.toList=[W[S.vts.length]'(by omega)]:=by rw[List.getElem?_eq_getElem (by omega)];rfl
    rw[this,List.set_append]
    simp
   ·simp;omega
   ·intro b o hb
    have:=hr.hF b o hb
    exact ⟨by rw[Qw this.2.1,Qw this.2.2.2.2];exact this.1,this.2⟩
 ·intro hcap
  refine ⟨by decide,by omega,(S.vts.map fun (n:Nat)=>Value.int .u32 (n:Int)),_,?_,hnew,?_⟩
  ·show Zk H ⟨T,0,none⟩ 0 (S.vts.length*1)=_
   rw[Nat.mul_one,Q0 hW _ (by rw[QhK];omega)]
   simp only[Nat.zero_add,List.drop_zero,QgZ,Option.some.injEq]
   rw[<-List.map_take,hW2]
  ·intro c hc1 hc2
   have e1:(S.vts.map (fun (n:Nat)=>Value.int .u32 (n:Int))++[Value.int .u32 (x:Int)]).toArray++Builtin.zeroCells z74 (c-(S.vts.length+1))=QgZ (S.vts++[x]++List.replicate (c-(S.vts.length+1)) 0):=by
    rw[zero_u32 (z:=z74) rfl]
    simp[QgZ]
   rw[e1]
   have hp:(H.push (.cells (QgZ (S.vts++[x]++List.replicate (c-(S.vts.length+1)) 0)) et))[p]?=_:=YJ hr.hp
   rw[Qax hp (by decide:4<9) (by simp) rfl]
   refine hk _ H.size (.slice (some ⟨H.size,0,none⟩) (S.vts.length+1) c) ?_
   refine ⟨QV hp,?_,?_,⟨S.vts++[x]++List.replicate (c-(S.vts.length+1)) 0,et,?_,?_,?_,?_⟩,hr.pB,by omega,by omega,?_,hr.hlen,hr.lt⟩
   ·rw[Qw (Ne.symm hr.pB)];exact YJ hr.hB
   ·rcases hr.hV with g|⟨g,g2,g3,g4⟩
    ·exact Or.inl g
    ·refine Or.inr ⟨g.mono ?_,g2,g3,by omega⟩
     rw[Qw g2,Array.getElem?_push,if_neg (by omega)]
   ·simp only[List.length_append,List.length_cons,List.length_nil,List.length_replicate];congr 1;omega
   ·rw[Qw (by omega)];exact Qi
   ·simp only[List.length_append,List.length_cons,List.length_nil,Nat.zero_add]
    rw[List.take_append_of_le_length (by simp),List.take_of_length_le (by simp)]
   ·simp only[List.length_append,List.length_cons,List.length_nil,List.length_replicate];omega
   ·intro b o hb
    have:=hr.hF b o hb
    have hbl:=YM this.1
    exact ⟨by rw[Qw this.2.1];exact YJ this.1,this.2.1,this.2.2.1,this.2.2.2.1,by omega⟩
theorem Qgk (S:BS):∀S1 oo vt ex,S1=putOff 0 S->oo=S1.buf.length->vt=S1.vt.take (Zt S1.vt)->ex=Qc0 (Qaq vt oo S1.buf) S1.vts->
  endObj S=if ex=0 then
   {Qdd ((putN 2 (leB ((2*(vt.length+2):Nat):Int) 2) (putN 2 (leB ((oo-S.oe:Nat):Int) 2) (ZI oo vt {S1 with vt:=vt}))).buf.length-oo)
     (((putN 2 (leB ((2*(vt.length+2):Nat):Int) 2) (putN 2 (leB ((oo-S.oe:Nat):Int) 2) (ZI oo vt {S1 with vt:=vt}))).buf.length-oo:Nat):Int)
     (putN 2 (leB ((2*(vt.length+2):Nat):Int) 2) (putN 2 (leB ((oo-S.oe:Nat):Int) 2) (ZI oo vt {S1 with vt:=vt}))) with
    vts:=S1.vts++[(putN 2 (leB ((2*(vt.length+2):Nat):Int) 2) (putN 2 (leB ((oo-S.oe:Nat):Int) 2) (ZI oo vt {S1 with vt:=vt}))).buf.length],vt:=[],nested:=false}
  else {Qdd 0 ((ex:Int)-(oo:Int)) S1 with vt:=[],nested:=false}:=by
 rintro S1 oo vt ex rfl rfl rfl rfl
 unfold endObj
 simp only
 split
 ·have:=(Qe5 (putOff 0 S).buf.length ((putOff 0 S).vt.take (Zt (putOff 0 S).vt)) {(putOff 0 S) with vt:=(putOff 0 S).vt.take (Zt (putOff 0 S).vt)}).2.1
  congr 1
  show (ZI _ _ _).vts++_=_
  rw[this]
 ·rfl
section
variable {H:Qe} {p:Nat} {S:BS} {F:Cut} {r:Nat} (hB:Qc H p S F r) {R:Kn}
include hB
set_option maxHeartbeats 4000000 in
theorem Qga (hnest:S.nested=true) (hlen:S.buf.length+4096<=536870912) (hvl:S.vt.length<1000) (hvt:∀j,S.vt.getD j 0<=S.buf.length) (hoe:S.oe<=S.buf.length) (hvts:S.vts.length<536870912)
  (hok:QhZ (putOff 0 S))
  (hR:∀H',Qc H' p {endObj S with nested:=true} F 0->R (.int .u32 ((putOff 0 S).buf.length:Nat)) H'):
  FnS prog 332 #[.pointer (some ⟨p,0,none⟩)] H R:=by
 have hS1l:S.buf.length+4<=(putOff 0 S).buf.length/\(putOff 0 S).buf.length<=S.buf.length+7:=by
  have:=Zo (size:=4) (n:=S.buf.length+0) (by decide)
  unfold putOff
  simp only[place,List.length_append,Qg,Qa5]
  omega
 have hk1:(putOff 0 S).vt=S.vt/\(putOff 0 S).vts=S.vts/\(putOff 0 S).oe=S.oe/\(putOff 0 S).nested=S.nested:=⟨rfl,rfl,rfl,rfl⟩
 obtain ⟨k1,k2,k3,k4⟩:=hk1
 apply w332
 unfold s332
 refine Qen hB (by omega) ?_
 intro H1 h1
 replace h1:=h1.room (Nat.zero_le _)
 have hend:=Qgk S
 generalize hS1:putOff 0 S=S1 at *
 have hlt1:=h1.lt
 refine Yl h1 ?_
 generalize hoo:S1.buf.length=oo at *
 obtain ⟨hd,hh,⟨B,V,T,L,len,vtv,vtsv,e,eB,hr,g2,g3⟩⟩:=h1
 have htl:=Qiw S1.vt
 have hvl1:S1.vt.length<1000:=by rw[k1];exact hvl
 have hvts1:S1.vts.length<536870912:=by rw[k2];exact hvts
 have hvt1:∀j,S1.vt.getD j 0<=oo:=fun j=>by rw[k1];exact Nat.le_trans (hvt j) (by omega)
 simp only[↓Qp,↓Qm,↓Ql (QiP hr),↓(Raw.vtSl hr).len,↓Yg]
 rw[wrap_i64 (by omega) (by omega)]
 refine Q2 (fun vs h=>vs=[.int .i64 ((Zt S1.vt:Int)-1)]/\h=H1) ?_ ?_
 ·refine ⟨fun m vs h=>∃i:Nat,vs=[.int .i64 ((i:Int)-1)]/\i<=S1.vt.length/\m=i/\h=H1/\∀j,i<=j->j<S1.vt.length->S1.vt.getD j 0=0,⟨_,S1.vt.length,rfl,by omega,rfl,rfl,by omega⟩,fun m=>?_⟩
  rintro x5 h3 ⟨i,hx,hi,rfl,rfl,hall⟩
  cases hx
  rw[QfK]
  by_cases h0:0<m
  ·obtain ⟨hidx,hcell⟩:=(Raw.vtSl hr).idx (j:=m-1) (x:=(m:Int)-1) (by omega) (by omega)
   have hge:(0:Int)<=(m:Int)-1:=by omega
   simp only[decide_eq_true hge,↓Ye,↓Qp,↓Qm,↓Ql (QiP hr),hidx,↓Ql hcell,↓Yi,↓Y4]
   apply Z0
   ·intro hz
    rw[Yg,wrap_i64 (by omega) (by omega)]
    refine ⟨m-1,by omega,m-1,?_,by omega,rfl,rfl,?_⟩
    ·congr 2;omega
    ·intro j hj hj2
     by_cases hjm:j=m-1
     ·subst hjm;omega
     ·exact hall j (by omega) hj2
   ·intro hz
    have ht:Zt S1.vt=m:=QiD S1.vt m hall hi (Or.inr (by omega))
    simp only[ht,and_self]
  ·have hge:¬(0:Int)<=(m:Int)-1:=by omega
   simp only[decide_eq_false hge,↓Yz,↓Yv,↓YQ]
   have hm0:m=0:=by omega
   subst hm0
   have ht:Zt S1.vt=0:=QiD S1.vt 0 hall hi (Or.inl rfl)
   simp only[ht,and_self]
 ·rintro x5 h12 ⟨hx,rfl⟩
  cases hx
  simp only[↓Qp,↓Qm,↓Ql (QiP hr),↓Q5]
  rw[wrap_i64 (by omega) (by omega)]
  refine st_vt_take hr (i:=Zt S1.vt) (by omega) (by omega) ?_
  intro H2 vtv2 hr2
  generalize hvt2:S1.vt.take (Zt S1.vt)=vt at *
  have hvl2:vt.length<=1000:=by rw[<-hvt2,List.length_take];omega
  have hvtle:∀j,vt.getD j 0<=oo:=by
   intro j
   have h1:=hvt1 j
   rw[<-hvt2]
   by_cases hj:j<Zt S1.vt
   ·simp only[List.getD,List.getElem?_take,if_pos hj]at h1⊢;exact h1
   ·simp[List.getD,List.getElem?_take,hj]
  have hVt:VtSl H2 V vtv2 vt:=Raw.vtSl hr2
  refine Q2 (fun vs h=>(∃y,vs=[y,.int .u32 (Qc0 (Qaq vt oo S1.buf) S1.vts:Nat)])/\h=H2) ?_ ?_
  ·obtain ⟨W,eW,rfl,hW,hW2,hW3⟩:=hr2.hT
   have hT:VtSl H2 T (.slice (some ⟨T,0,none⟩) S1.vts.length W.length) S1.vts:=Or.inr ⟨W,eW,rfl,hW,hW2,hW3⟩
   simp only[↓Qp,↓Qm,↓Ql (ld_vts hr2),↓Qbq,↓Yg]
   rw[wrap_i64 (by omega) (by omega)]
   refine ⟨fun m vs h=>∃i:Nat,vs=[.int .i64 ((i:Int)-1),.int .u32 0]/\i<=S1.vts.length/\m=i/\h=H2/\Qc0 (Qaq vt oo S1.buf) (S1.vts.take i)=Qc0 (Qaq vt oo S1.buf) S1.vts,⟨_,S1.vts.length,rfl,by omega,rfl,rfl,by rw[List.take_length]⟩,fun m=>?_⟩
   rintro x6 x4 h14 ⟨i,hx,hi,rfl,rfl,hfind⟩
   cases hx
   rw[QfK]
   apply Z0
   ·intro hge
    obtain ⟨hidx,hcell⟩:=hT.idx (j:=m-1) (x:=(m:Int)-1) (by omega) (by omega)
    have hmem:S1.vts.getD (m-1) 0∈S1.vts:=by
     rw[List.getD_eq_getElem?_getD,List.getElem?_eq_getElem (by omega)]
     exact List.getElem_mem _
    obtain ⟨o1,o2,o3,o4⟩:=hok _ hmem
    generalize hov:S1.vts.getD (m-1) 0=o at *
    have htake:S1.vts.take m=S1.vts.take (m-1)++[o]:=by
     have:m=(m-1)+1:=by omega
     rw[this,List.take_add_one,Nat.add_sub_cancel]
     congr 1
     rw[List.getElem?_eq_getElem (by omega)]
     rw[List.getD_eq_getElem?_getD,List.getElem?_eq_getElem (by omega)]at hov
     simpa using hov
    rw[htake,findVt_snoc _ _ (by omega)]at hfind
    have hlo:=hr2.lt
    have hlL:=hr2.hlen
    rw[hoo]at o2 o3 o4
    simp only[↓Qp,↓Qm,↓Ql (ld_vts hr2),hidx,↓Ql hcell,↓Ql (YI hr2),↓Qbq,↓Q7,↓Yg]
    rw[wrap_i64 (n:=(o:Int)) (by omega) (by omega),wrap_i64 (n:=(len:Int)-(o:Int)) (by omega) (by omega)]
    rw[show (len:Int)-(o:Int)=((hd+(oo-o):Nat):Int) by omega]
    rw[ZD hr2 (m:=hd+(oo-o)) (by omega)]
    refine Qd7 (QdZ hr2.hB) (by omega) (by omega) ?_
    have hl2:le2 L (hd+(oo-o))=le2 S1.buf (oo-o):=le2_sub g3 (by rw[hoo];omega)
    rw[hl2]
    have hl3:=le2_lt S1.buf (oo-o)
    simp only[↓Qp,↓Qm,↓Ql (YI hr2),↓Ql (QiP hr2),↓Q7,↓Q5]
    rw[wrap_i64 (n:=(le2 S1.buf (oo-o):Int)) (by omega) (by omega),wrap_i64 (n:=((hd+(oo-o):Nat):Int)+(le2 S1.buf (oo-o):Int)) (by omega) (by omega),wrap_i64 (n:=((hd+(oo-o):Nat):Int)+4) (by omega) (by omega)]
    obtain ⟨o',n',c',hslc,q1,q2,q4,q3⟩:∃o' n' c':Nat,(∀k:Value->Prop,Qg4 1 (bsl B 0 len L.length) (some (.int .i64 (((hd+(oo-o):Nat):Int)+4))) (some (.int .i64 (((hd+(oo-o):Nat):Int)+(le2 S1.buf (oo-o):Int)))) k=k (bsl B o' n' c'))/\
      o'+n'<=L.length/\n'<=c'/\n'<1073741824/\Qi1 vt oo L o' n'=Qaq vt oo S1.buf o:=by
     by_cases hfull:L.length=(((hd+(oo-o):Nat):Int)+4).toNat
     ·refine ⟨0,0,0,?_,by omega,by omega,by omega,?_⟩
      ·intro k
       rw[bsl,Qgq (by omega) (by omega) (by omega),if_pos hfull]
       have e1:(((hd+(oo-o):Nat):Int)+(le2 S1.buf (oo-o):Int)).toNat-(((hd+(oo-o):Nat):Int)+4).toNat=0:=by omega
       rw[e1,show L.length-(((hd+(oo-o):Nat):Int)+4).toNat=0 by omega]
      ·unfold Qaq
       rw[show le2 S1.buf (oo-o)-4=0 by omega]
       exact QiW (fun i hi=>by omega)
     ·refine ⟨hd+(oo-o)+4,le2 S1.buf (oo-o)-4,L.length-(hd+(oo-o)+4),?_,by omega,by omega,by omega,?_⟩
      ·intro k
       rw[bsl,Qgq (by omega) (by omega) (by omega),if_neg hfull]
       have e1:(((hd+(oo-o):Nat):Int)+(le2 S1.buf (oo-o):Int)).toNat-(((hd+(oo-o):Nat):Int)+4).toNat=le2 S1.buf (oo-o)-4:=by omega
       have e2:(((hd+(oo-o):Nat):Int)+4).toNat=hd+(oo-o)+4:=by omega
       rw[e1,e2,Nat.zero_add,Nat.mul_one]
      ·unfold Qaq
       refine QiW (fun i hi=>?_)
       rw[show hd+(oo-o)+4+i=hd+(oo-o+4+i) by omega]
       exact QhO g3 (by omega)
    rw[hslc]
    refine go_vtableEqual hVt (QdZ hr2.hB) q1 q2 q4 (by omega) hvtle (by omega) ?_
    rw[q3]
    by_cases hs:Qaq vt oo S1.buf o=true
    ·rw[hs,if_pos rfl]at hfind
     rw[hs,Qbs]
     exact ⟨⟨.int .i64 ((m:Int)-1),by rw[<-hfind]⟩,rfl⟩
    ·rw[if_neg hs]at hfind
     rw[Bool.not_eq_true]at hs
     rw[hs,YQ,wrap_i64 (by omega) (by omega)]
     refine ⟨m-1,by omega,m-1,?_,by omega,rfl,rfl,hfind⟩
     congr 2;omega
   ·intro hge
    have hm0:m=0:=by omega
    subst hm0
    refine ⟨⟨.int .i64 ((0:Nat)-1:Int),?_⟩,rfl⟩
    rw[<-hfind]
    rfl
  ·rintro x6 x4 h17 ⟨⟨y,hx⟩,rfl⟩
   cases hx
   generalize hex:Qc0 (Qaq vt oo S1.buf) S1.vts=ex at *
   have hexle:ex<=oo:=by
    by_cases h0:ex=0
    ·omega
    ·have:=QiO (Qaq vt oo S1.buf) S1.vts (by rw[hex];exact h0)
     rw[hex]at this
     have:=(hok _ this.1).2.1
     omega
   have hlo:=hr2.lt
   have hlL:=hr2.hlen
   have hat:Qc h17 p {S1 with vt:=vt} F 0:=⟨hd,Nat.zero_le _,⟨B,V,T,L,len,vtv2,vtsv,e,eB,hr2,g2,g3⟩⟩
   have hend':=hend S1 oo vt ex rfl hoo.symm hvt2.symm hex.symm
   clear hend
   generalize hS2:({S1 with vt:=vt}:BS)=S2 at hend' hat
   have s2v:S2.vt=vt:=by rw[<-hS2]
   have s2o:S2.oe=S1.oe:=by rw[<-hS2]
   have s2b:S2.buf.length=oo:=by rw[<-hS2];exact hoo
   have s2n:S2.nested=true:=by rw[<-hS2];exact k4.trans hnest
   have s2s:S2.vts=S1.vts:=by rw[<-hS2]
   refine Q2 (fun _ h=>Qc h p {endObj S with nested:=true,vt:=vt} F 0) ?_ ?_
   ·rw[Yi]
    apply Z0
    ·intro h0
     have h0':ex=0:=by omega
     rw[if_pos h0']at hend'
     refine Q2 (fun _ h=>Qc h p (ZI oo vt S2) F 0) ?_ ?_
     ·simp only[↓Qp,↓Qm,↓Ql (QiP hr2),↓hVt.len,↓Yg]
      rw[wrap_i64 (by omega) (by omega)]
      refine ⟨fun m vs h=>∃i:Nat,vs=[.int .i64 ((i:Int)-1)]/\i<=vt.length/\m=i/\Qc h p (ZI oo (vt.drop i) S2) F 0,⟨_,vt.length,rfl,by omega,rfl,?_⟩,fun m=>?_⟩
      ·rw[List.drop_length];exact hat
      ·rintro x13 h18 ⟨i,hx,hi,rfl,hb⟩
       cases hx
       rw[QfK]
       apply Z0
       ·intro hge
        obtain ⟨w1,w2,w3,w4,w5⟩:=Qe5 oo (vt.drop m) S2
        have hwl:=wrEnt_len oo (vt.drop m) S2
        rw[List.length_drop]at hwl
        have hvtm:=hvtle (m-1)
        have hdrop:vt.drop (m-1)=vt.getD (m-1) 0::vt.drop m:=by
         rw[List.drop_eq_getElem_cons (by omega),List.getD_eq_getElem?_getD,List.getElem?_eq_getElem (by omega)]
         rw[show m-1+1=m by omega];rfl
        have hb2:=hb
        obtain ⟨hd3,hh3,⟨B3,V3,T3,L3,len3,vtv3,vtsv3,e3,eB3,hr3,g5,g6⟩⟩:=hb
        have hV3:=Raw.vtSl hr3
        rw[w1,s2v]at hV3
        obtain ⟨hidx,hcell⟩:=hV3.idx (j:=m-1) (x:=(m:Int)-1) (by omega) (by omega)
        generalize vt.getD (m-1) 0=v at *
        refine Q2 (fun vs h=>vs=[.int .u32 ((if v≠0 then oo-v else 0:Nat):Int)]/\h=h18) ?_ ?_
        ·simp only[↓Qp,↓Qm,↓Ql (QiP hr3),hidx,↓Ql hcell,↓Y5,↓Yg]
         apply Z0
         ·intro hne
          rw[QU (by omega) (by omega),if_pos (by omega)]
          refine ⟨?_,by first|rfl|trivial⟩
          congr 2;omega
         ·intro hne
          rw[if_neg (by omega)]
          exact ⟨rfl,by first|rfl|trivial⟩
        ·rintro x14 h19 ⟨hx,rfl⟩
         cases hx
         rw[Q7]
         refine ZX hb2 (by omega) ?_
         intro h20 hb3
         rw[QiM]at hb3
         rw[Yg,wrap_i64 (by omega) (by omega)]
         refine ⟨m-1,by omega,m-1,?_,by omega,rfl,?_⟩
         ·congr 2;omega
         ·rw[hdrop];exact hb3.room (Nat.zero_le _)
       ·intro hge
        have hm0:m=0:=by omega
        subst hm0
        exact hb
     ·intro x13 h21 hb
      obtain ⟨w1,w2,w3,w4,w5⟩:=Qe5 oo vt S2
      have hwl:=wrEnt_len oo vt S2
      have hb2:=hb
      obtain ⟨hd3,hh3,⟨B3,V3,T3,L3,len3,vtv3,vtsv3,e3,eB3,hr3,g5,g6⟩⟩:=hb
      have e1:(ZI oo vt S2).oe=S.oe:=by rw[w3,s2o,k3]
      simp only[↓Qp,↓Qm,↓Ql (ld_oe hr3),e1,↓Yg,↓Q7]
      rw[QU (by omega) (by omega),show (oo:Int)-(S.oe:Int)=((oo-S.oe:Nat):Int) by omega]
      refine ZX hb2 (by omega) ?_
      intro h22 hb3
      rw[QiM]at hb3
      have hl3:(putN 2 (leB ((oo-S.oe:Nat):Int) 2) (ZI oo vt S2)).buf.length<=(ZI oo vt S2).buf.length+3:=by
       have:=Zo (size:=2) (n:=(ZI oo vt S2).buf.length) (by decide)
       rw[QhS,Qg];omega
      have hl3':(ZI oo vt S2).buf.length<=(putN 2 (leB ((oo-S.oe:Nat):Int) 2) (ZI oo vt S2)).buf.length:=by rw[QhS];omega
      have v3:(putN 2 (leB ((oo-S.oe:Nat):Int) 2) (ZI oo vt S2)).vt=vt:=by show (ZI oo vt S2).vt=vt;rw[w1,s2v]
      have v4:(putN 2 (leB ((oo-S.oe:Nat):Int) 2) (ZI oo vt S2)).vts=S1.vts:=by show (ZI oo vt S2).vts=S1.vts;rw[w2,s2s]
      have v5:(putN 2 (leB ((oo-S.oe:Nat):Int) 2) (ZI oo vt S2)).nested=true:=by show (ZI oo vt S2).nested=true;rw[w4,s2n]
      generalize putN 2 (leB ((oo-S.oe:Nat):Int) 2) (ZI oo vt S2)=S3 at *
      have hb4:=hb3
      obtain ⟨hd4,hh4,⟨B4,V4,T4,L4,len4,vtv4,vtsv4,e4,eB4,hr4,g7,g8⟩⟩:=hb3
      have hV4:=Raw.vtSl hr4
      rw[v3]at hV4
      simp only[↓Qp,↓Qm,↓Ql (QiP hr4),↓hV4.len,↓Q5,↓Zx,↓Q7]
      rw[wrap_i64 (n:=(vt.length:Int)+2) (by omega) (by omega),wrap_i64 (n:=((vt.length:Int)+2)*2) (by omega) (by omega),show ((vt.length:Int)+2)*2=((2*(vt.length+2):Nat):Int) by omega]
      refine ZX hb4 (by omega) ?_
      intro h23 hb5
      rw[QiM]at hb5
      have hl5:(putN 2 (leB ((2*(vt.length+2):Nat):Int) 2) S3).buf.length<=S3.buf.length+3:=by
       have:=Zo (size:=2) (n:=S3.buf.length) (by decide)
       rw[QhS,Qg];omega
      have hl5':S3.buf.length+2<=(putN 2 (leB ((2*(vt.length+2):Nat):Int) 2) S3).buf.length:=by rw[QhS,Qg];omega
      have v6:(putN 2 (leB ((2*(vt.length+2):Nat):Int) 2) S3).vts=S1.vts:=v4
      have v7:(putN 2 (leB ((2*(vt.length+2):Nat):Int) 2) S3).nested=true:=v5
      have v8:(putN 2 (leB ((2*(vt.length+2):Nat):Int) 2) S3).vt=vt:=v3
      generalize putN 2 (leB ((2*(vt.length+2):Nat):Int) 2) S3=S5 at *
      have hb6:=hb5
      obtain ⟨hd6,hh6,⟨B6,V6,T6,L6,len6,vtv6,vtsv6,e6,eB6,hr6,g9,g10⟩⟩:=hb5
      have hl6:=hr6.lt
      have hL6:=hr6.hlen
      simp only[↓Qp,↓Qm,↓Ql (YI hr6),↓Qbq,↓Q7,↓Yg]
      rw[Zd (n:=(len6:Int)) (by omega) (by omega),Zd (n:=(oo:Int)) (by omega) (by omega),Zd (n:=(len6:Int)-(oo:Int)) (by omega) (by omega)]
      rw[show (len6:Int)-(oo:Int)=((hd6+(S5.buf.length-oo):Nat):Int) by omega,ZD hr6 (m:=hd6+(S5.buf.length-oo)) (by omega)]
      refine Yl hb6 ?_
      rw[Qb,Q7,Yg,Zd (n:=(S5.buf.length:Int)) (by omega) (by omega),Zd (n:=(S5.buf.length:Int)-(oo:Int)) (by omega) (by omega),show (S5.buf.length:Int)-(oo:Int)=((S5.buf.length-oo:Nat):Int) by omega]
      refine Qdr hr6.hB (by omega) (by omega) ?_
      have hr7:=Raw.wr (S':=Qdd (S5.buf.length-oo) ((S5.buf.length-oo:Nat):Int) S5) hr6 (Ym (leB ((S5.buf.length-oo:Nat):Int) 4) L6 (hd6+(S5.buf.length-oo))) rfl rfl rfl
      have hpl:(Qdd (S5.buf.length-oo) ((S5.buf.length-oo:Nat):Int) S5).buf.length=S5.buf.length:=by simp[Qdd,Ym]
      have g11:((QaF L6 (hd6+(S5.buf.length-oo)) (leB ((S5.buf.length-oo:Nat):Int) 4)).take len6).drop hd6=(Qdd (S5.buf.length-oo) ((S5.buf.length-oo:Nat):Int) S5).buf:=
       put_mid hL6 g9 g10 (by rw[Qg];omega)
      have vp:(Qdd (S5.buf.length-oo) ((S5.buf.length-oo:Nat):Int) S5).vts=S1.vts:=v6
      generalize hH7:wr h23 B6 eB6 (QaF L6 (hd6+(S5.buf.length-oo)) (leB ((S5.buf.length-oo:Nat):Int) 4))=H7 at *
      generalize hL7:QaF L6 (hd6+(S5.buf.length-oo)) (leB ((S5.buf.length-oo:Nat):Int) 4)=L7 at *
      have hb7:Qc H7 p (Qdd (S5.buf.length-oo) ((S5.buf.length-oo:Nat):Int) S5) F 0:=⟨hd6,Nat.zero_le _,⟨B6,V6,T6,L7,len6,vtv6,vtsv6,e6,eB6,hr7,by rw[hpl];exact g9,g11⟩⟩
      simp only[↓Qp,↓Qm,↓Ql (ld_vts hr7)]
      refine Yl hb7 ?_
      rw[Qb,hpl]
      show Q8 H7 _ 1 [Value.int .u32 0] _ _
      refine Qq (Qay.push _ _).ext ?_
      have hr8:Raw (H7.push (.cells #[.int .u32 (S5.buf.length:Nat)] 74)) p (Qdd (S5.buf.length-oo) ((S5.buf.length-oo:Nat):Int) S5) F B6 V6 T6 L7 len6 hd6 vtv6 vtsv6 e6 eB6:=by
       obtain ⟨l1,l2,l3,l4⟩:=hr7.V_lt
       refine hr7.frame ?_ ?_
       ·intro b hb
        rw[Array.getElem?_push,if_neg]
        rcases hb with rfl|rfl|rfl|rfl<;>omega
       ·intro b o hb
        have:=hr7.hF b o hb
        exact ⟨YJ this.1,this.2⟩
      obtain ⟨l1,l2,l3,l4⟩:=hr7.V_lt
      refine app_vts hr8 (x:=S5.buf.length) (Y:=H7.size) Qi ⟨by omega,by omega,by omega,by omega⟩ (by rw[vp];omega) ?_
      intro H9 T9 vtsv9 hr9
      rw[hend']
      refine ⟨hd6,Nat.zero_le _,⟨B6,V6,T9,L7,len6,vtv6,vtsv9,e6,eB6,?_,by show hd6+(Qdd _ _ S5).buf.length=len6;rw[hpl];exact g9,g11⟩⟩
      have e5:({Qdd (S5.buf.length-oo) ((S5.buf.length-oo:Nat):Int) S5 with vts:=(Qdd (S5.buf.length-oo) ((S5.buf.length-oo:Nat):Int) S5).vts++[S5.buf.length]}:BS)=
        {Qdd (S5.buf.length-oo) ((S5.buf.length-oo:Nat):Int) S5 with vts:=S1.vts++[S5.buf.length],vt:=vt,nested:=true}:=by
       simp only[Qdd,v6,v7,v8]
      rw[e5]at hr9
      exact hr9
    ·intro h0
     have h0':¬ex=0:=by omega
     rw[if_neg h0']at hend'
     simp only[↓Qp,↓Qm,↓Ql (YI hr2),↓Qbq,↓Q7,↓Yg]
     rw[Zd (n:=(len:Int)) (by omega) (by omega),Zd (n:=(oo:Int)) (by omega) (by omega),Zd (n:=(len:Int)-(oo:Int)) (by omega) (by omega),QU (by omega) (by omega)]
     rw[show (len:Int)-(oo:Int)=((hd:Nat):Int) by omega,Qb0 hr2]
     have hr3:=Raw.setp (S':={S1 with vt:=vt}) (head':=hd) hr2 rfl rfl
     simp only[↓Ql (YI hr3),↓Ql (YL hr3)]
     rw[ZD hr3 (m:=hd) (by omega),Zd (n:=(ex:Int)) (by omega) (by omega),Zd (n:=(ex:Int)-(oo:Int)) (by omega) (by omega)]
     refine Qdr hr3.hB (by omega) (by omega) ?_
     rw[hend']
     have hr4:=Raw.wr (S':={Qdd 0 ((ex:Int)-(oo:Int)) S1 with vt:=vt,nested:=true}) hr3 (Ym (leB ((ex:Int)-(oo:Int)) 4) L hd) (by
      show QfT B len L.length _ vtv2 vtsv hd=_
      simp only[QfT,Qdd]
      rw[k4,hnest]) rfl rfl
     refine ⟨hd,Nat.zero_le _,⟨B,V,T,_,len,vtv2,vtsv,e,eB,hr4,?_,?_⟩⟩
     ·show hd+(Qdd 0 _ S1).buf.length=len
      simp only[Qdd,Ym];exact g2
     ·have:=put_mid (q:=0) (xs:=leB ((ex:Int)-(oo:Int)) 4) hlL g2 g3 (by rw[Qg];omega)
      exact this
   ·intro h32 hb
    obtain ⟨hd6,hh6,⟨B6,V6,T6,L6,len6,vtv6,vtsv6,e6,eB6,hr6,g9,g10⟩⟩:=hb
    simp only[↓Qp,↓Qm,↓Ql (QiP hr6)]
    refine st_vt_take hr6 (i:=0) rfl (Nat.zero_le _) ?_
    intro H' vtv' hr'
    refine hR H' ?_
    have ev:(endObj S).vt=[]:=by
     rw[hend'];split<;>rfl
    refine ⟨hd6,Nat.zero_le _,⟨B6,V6,T6,L6,len6,vtv',vtsv6,e6,eB6,?_,g9,g10⟩⟩
    have e7:({endObj S with nested:=true,vt:=vt.take 0}:BS)={endObj S with nested:=true}:=by
     rw[List.take_zero,<-ev]
    have hr'':Raw H' p ({endObj S with nested:=true,vt:=vt.take 0}:BS) F B6 V6 T6 L6 len6 hd6 vtv' vtsv6 e6 eB6:=hr'
    rw[e7]at hr''
    exact hr''
theorem Qh9 (hnest:S.nested=true) (hlen:S.buf.length+4096<=536870912) (hvl:S.vt.length<1000) (hvt:∀j,S.vt.getD j 0<=S.buf.length) (hoe:S.oe<=S.buf.length) (hvts:S.vts.length<536870912)
  (hok:QhZ (putOff 0 S))
  (hR:∀H',Qc H' p (endObj S) F 0->R (.int .u32 ((putOff 0 S).buf.length:Nat)) H'):
  FnS prog 285 #[.pointer (some ⟨p,0,none⟩)] H R:=by
 apply w285
 unfold s285
 refine Qav hB hnest ?_
 refine Qga hB hnest hlen hvl hvt hoe hvts hok ?_
 intro H1 h1
 simp only[↓Qp,↓Qm]
 refine Qc3 h1 ?_
 intro H2 h2
 refine hR H2 ?_
 have en:(endObj S).nested=false:=by
  rw[Qgk S _ _ _ _ rfl rfl rfl rfl];split<;>rfl
 have e8:({({endObj S with nested:=true}:BS) with nested:=false}:BS)=endObj S:=by
  show ({endObj S with nested:=false}:BS)=endObj S
  rw[<-en]
 rw[e8]at h2
 exact h2
end
end Go.Proofs
