/- WHAT IS PROVED: the given statement of FnMonsterWritten, whatever the input: this is part 4 of 14. No conditions. -/
import Derived.Test.YtkkcpkfpegmgbaaGreatX03
set_option linter.all false
namespace Go.Proofs
open Go Go.Vc
open Tryz (prog)
set_option maxRecDepth 100000
def s63 (d:Value) (h:Qe) (R:Kn):Prop:=
 QD (fun b=>
 Qk prog .leq 3 d (.int .i64 0) fun f=>
 IfK f
 (b [(.int .i64 0)] h)
 (b [d] h)) fun b=>∀c:Value,∀e:Qe,b [c] e->
 Qz z238.toList [] fun g=>
 Y5 e (.cells (Value.cells g) 238) fun a i=>
 Qe3 i 5 1 z5 c c fun j l=>
 Q3 a fun m=>
 Qg m 0 fun o=>
 StK l 1 o j fun p=>
 QK .u32 c fun q=>
 Q3 a fun r=>
 Qg r 5 fun s=>
 StK p 1 s q fun t=>
 Q3 a fun u=>
 Qg u 1 fun v=>
 StK t 1 v (.int .i64 1) fun w=>
 Qe3 w 93 4 z93 (.int .i64 0) (.int .i64 16) fun y z=>
 Q3 a fun a0=>
 Qg a0 4 fun a1=>
 StK z 1 a1 y fun a2=>
 R a a2
theorem w63 {a h R} (H:s63 a h R):FnS prog 63 #[a] h R:=wq Tryz.func63 (by kernel_rfl) H
def s64 (a c:Value) (h:Qe) (R:Kn):Prop:=
 Qa prog 163 #[a] h fun _x5 b=>
 Q3 a fun d=>
 Qg d 1 fun e=>
 LdK b e fun f=>
 Qa prog 164 #[a,f,(.int .i64 4)] b fun _x11 g=>
 Qa prog 165 #[a,c] g fun _x14 i=>
 Q3 a fun j=>
 Qg j 7 fun l=>
 StK i 1 l (.bool true) fun m=>
 R (.tuple #[]) m
theorem w64 {a b h R} (H:s64 a b h R):FnS prog 64 #[a,b] h R:=wq Tryz.func64 (by kernel_rfl) H
def s67 (a:Value) (h:Qe) (R:Kn):Prop:=
 Qa prog 259 #[a] h fun _x4 b=>
 Q3 a fun d=>
 Qg d 0 fun e=>
 LdK b e fun f=>
 Qa prog 260 #[a] b fun g c=>
 Qi b c<|
 Qey 1 f (some g) none fun i=>
 R i c
theorem w67 {a h R} (H:s67 a h R):FnS prog 67 #[a] h R:=wq Tryz.func67 (by kernel_rfl) H
def s163 (a:Value) (h:Qe) (R:Kn):Prop:=
 Q3 a fun b=>
 Qg b 6 fun c=>
 LdK h c fun d=>
 IfK d
 (False)
 (R (.tuple #[]) h)
theorem w163 {a h R} (H:s163 a h R):FnS prog 163 #[a] h R:=wq Tryz.func163 (by kernel_rfl) H
def s164 (a c i:Value) (h:Qe) (R:Kn):Prop:=
 QD (fun d=>
 Q3 a fun q=>
 Qg q 1 fun r=>
 LdK h r fun s=>
 Qk prog .gtr 3 c s fun t=>
 IfK t
 (Q3 a fun u=>
 Qg u 1 fun v=>
 StK h 1 v c fun w=>
 d [] w)
 (d [] h)) fun d=>∀e:Qe,d [] e->
 Q3 a fun y=>
 Qg y 0 fun z=>
 LdK e z fun a0=>
 Yv a0 fun a1=>
 Qa prog 260 #[a] e fun a2 j=>
 Qi e j<|
 QK .i64 a2 fun a3=>
 Qk prog .sub 3 a1 a3 fun a4=>
 Qk prog .add 3 a4 i fun a5=>
 ZI prog (Op.unary .xor a5) fun a6=>
 Qk prog .add 3 a6 (.int .i64 1) fun a7=>
 Qk prog .sub 3 c (.int .i64 1) fun a8=>
 Qk prog .and 3 a7 a8 fun l=>
 QD (fun f=>
 Yu [] j fun m o=>∀b:Qe,m o [] b->
 Q3 a fun a9=>
 Qg a9 5 fun b0=>
 LdK b b0 fun b1=>
 QK .i64 b1 fun b2=>
 Qk prog .add 3 l c fun b3=>
 Qk prog .add 3 b3 i fun b4=>
 Qk prog .leq 3 b2 b4 fun b5=>
 IfK b5
 (Q3 a fun b6=>
 Qg b6 0 fun b7=>
 LdK b b7 fun b8=>
 Yv b8 fun b9=>
 Qa prog 299 #[a] b fun _x52 g=>
 Q3 a fun c0=>
 Qg c0 5 fun c1=>
 LdK g c1 fun c2=>
 Q3 a fun c3=>
 Qg c3 0 fun c4=>
 LdK g c4 fun c5=>
 Yv c5 fun c6=>
 Qk prog .sub 3 c6 b9 fun c7=>
 QK .u32 c7 fun c8=>
 Qk prog .add 93 c2 c8 fun c9=>
 Q3 a fun d0=>
 Qg d0 5 fun d1=>
 StK g 1 d1 c9 fun d2=>
 QS m o [] d2)
 (f [] b)) fun f=>∀p:Qe,f [] p->
 Qa prog 300 #[a,l] p fun _x70 d3=>
 R (.tuple #[]) d3
theorem w164 {a b c h R} (H:s164 a b c h R):FnS prog 164 #[a,b,c] h R:=wq Tryz.func164 (by kernel_rfl) H
def s165 (a c:Value) (h:Qe) (R:Kn):Prop:=
 Qa prog 164 #[a,(.int .i64 4),(.int .i64 0)] h fun _x6 e=>
 QD (fun b=>
 Qa prog 301 #[a] e fun f g=>
 Qk prog .leq 93 c f fun i=>
 ZI prog (Op.unary .not i) fun j=>
 IfK j
 (False)
 (b [] g)) fun b=>∀d:Qe,b [] d->
 Qa prog 301 #[a] d fun l m=>
 Qk prog .sub 93 l c fun o=>
 Qk prog .add 93 o (.int .u32 4) fun p=>
 Qa prog 302 #[a,p] m fun _x20 q=>
 R (.tuple #[]) q
theorem w165 {a b h R} (H:s165 a b h R):FnS prog 165 #[a,b] h R:=wq Tryz.func165 (by kernel_rfl) H
def s177 (a b:Value) (h:Qe) (R:Kn):Prop:=
 Qa prog 163 #[a] h fun _x7 f=>
 Q3 a fun g=>
 Qg g 6 fun i=>
 StK f 1 i (.bool true) fun j=>
 QeL b fun l=>
 Qk prog .add 3 l (.int .i64 1) fun m=>
 Qk prog .mul 3 m (.int .i64 1) fun o=>
 Qa prog 164 #[a,(.int .i64 4),o] j fun _x16 p=>
 Qa prog 303 #[a,(.int .u8 0)] p fun _x18 d=>
 QeL b fun q=>
 QK .u32 q fun e=>
 Q3 a fun r=>
 Qg r 5 fun s=>
 LdK d s fun t=>
 Qk prog .sub 93 t e fun u=>
 Q3 a fun v=>
 Qg v 5 fun w=>
 StK d 1 w u fun c=>
 Q3 a fun y=>
 Qg y 0 fun z=>
 LdK c z fun a0=>
 Q3 a fun a1=>
 Qg a1 5 fun a2=>
 LdK c a2 fun a3=>
 Q3 a fun a4=>
 Qg a4 5 fun a5=>
 LdK c a5 fun a6=>
 Qk prog .add 93 a6 e fun a7=>
 Qey 1 a0 (some a3) (some a7) fun a8=>
 Qh5 c 1 a8 b fun _x46 a9=>
 QeL b fun b0=>
 Qa prog 182 #[a,b0] a9 fun b1 b2=>
 R b1 b2
theorem w177 {a b h R} (H:s177 a b h R):FnS prog 177 #[a,b] h R:=wq Tryz.func177 (by kernel_rfl) H
def s178 (a b:Value) (h:Qe) (R:Kn):Prop:=
 Qa prog 163 #[a] h fun _x7 f=>
 Q3 a fun g=>
 Qg g 6 fun i=>
 StK f 1 i (.bool true) fun j=>
 Yv b fun l=>
 Qk prog .add 3 l (.int .i64 1) fun m=>
 Qk prog .mul 3 m (.int .i64 1) fun o=>
 Qa prog 164 #[a,(.int .i64 4),o] j fun _x16 p=>
 Qa prog 303 #[a,(.int .u8 0)] p fun _x18 d=>
 Yv b fun q=>
 QK .u32 q fun e=>
 Q3 a fun r=>
 Qg r 5 fun s=>
 LdK d s fun t=>
 Qk prog .sub 93 t e fun u=>
 Q3 a fun v=>
 Qg v 5 fun w=>
 StK d 1 w u fun c=>
 Q3 a fun y=>
 Qg y 0 fun z=>
 LdK c z fun a0=>
 Q3 a fun a1=>
 Qg a1 5 fun a2=>
 LdK c a2 fun a3=>
 Q3 a fun a4=>
 Qg a4 5 fun a5=>
 LdK c a5 fun a6=>
 Qk prog .add 93 a6 e fun a7=>
 Qey 1 a0 (some a3) (some a7) fun a8=>
 Qh5 c 1 a8 b fun _x46 a9=>
 Yv b fun b0=>
 Qa prog 182 #[a,b0] a9 fun b1 b2=>
 R b1 b2
theorem w178 {a b h R} (H:s178 a b h R):FnS prog 178 #[a,b] h R:=wq Tryz.func178 (by kernel_rfl) H
def s182 (a b:Value) (h:Qe) (R:Kn):Prop:=
 Qa prog 308 #[a] h fun _x6 c=>
 QK .u32 b fun d=>
 Qa prog 302 #[a,d] c fun _x10 e=>
 Q3 a fun f=>
 Qg f 6 fun g=>
 StK e 1 g (.bool false) fun i=>
 Qa prog 301 #[a] i fun j l=>
 R j l
theorem w182 {a b h R} (H:s182 a b h R):FnS prog 182 #[a,b] h R:=wq Tryz.func182 (by kernel_rfl) H
theorem w187 {a b h R} (H:QdI 1 314 a b h R):FnS prog 187 #[a,b] h R:=wq Tryz.func187 (by kernel_rfl) H
theorem w193 {a b h R} (H:QdI 8 316 a b h R):FnS prog 193 #[a,b] h R:=wq Tryz.func193 (by kernel_rfl) H
theorem w195 {a b h R} (H:QdI 8 317 a b h R):FnS prog 195 #[a,b] h R:=wq Tryz.func195 (by kernel_rfl) H
theorem w200 {a b h R} (H:QdI 8 323 a b h R):FnS prog 200 #[a,b] h R:=wq Tryz.func200 (by kernel_rfl) H
theorem w207 {a b h R} (H:QdI 1 303 a b h R):FnS prog 207 #[a,b] h R:=wq Tryz.func207 (by kernel_rfl) H
theorem w259 {a h R} (H:tp259 7 a h R):FnS prog 259 #[a] h R:=wq Tryz.func259 (by kernel_rfl) H
def s260 (a:Value) (h:Qe) (R:Kn):Prop:=
 Q3 a fun b=>
 Qg b 5 fun c=>
 LdK h c fun d=>
 R d h
theorem w260 {a h R} (H:s260 a h R):FnS prog 260 #[a] h R:=wq Tryz.func260 (by kernel_rfl) H
def s299 (a:Value) (h:Qe) (R:Kn):Prop:=
 QD (fun i=>
 Q3 a fun p=>
 Qg p 0 fun q=>
 LdK h q fun r=>
 Yv r fun s=>
 Qk prog .and 2 s (.int .i64 3221225472) fun t=>
 Qk prog .neq 2 t (.int .i64 0) fun u=>
 IfK u
 (False)
 (i [] h)) fun i=>∀d:Qe,i [] d->
 Q3 a fun v=>
 Qg v 0 fun w=>
 LdK d w fun y=>
 Yv y fun z=>
 Qk prog .mul 3 z (.int .i64 2) fun j=>
 QD (fun e=>
 Qk prog .eql 3 j (.int .i64 0) fun a0=>
 IfK a0
 (e [(.int .i64 1)] d)
 (e [j] d)) fun e=>∀c:Value,∀b:Qe,e [c] b->
 QD (fun f=>
 Q3 a fun a1=>
 Qg a1 0 fun a2=>
 LdK b a2 fun a3=>
 CapK a3 fun a4=>
 Qk prog .geq 3 a4 c fun a5=>
 IfK a5
 (Q3 a fun a6=>
 Qg a6 0 fun a7=>
 LdK b a7 fun a8=>
 Qey 1 a8 none (some c) fun a9=>
 Q3 a fun b0=>
 Qg b0 0 fun b1=>
 StK b 1 b1 a9 fun b2=>
 f [] b2)
 (Q3 a fun b3=>
 Qg b3 0 fun b4=>
 LdK b b4 fun b5=>
 Yv b5 fun b6=>
 Qk prog .sub 3 c b6 fun l=>
 Qe3 b 5 1 z5 l l fun b7 m=>
 Q3 a fun b8=>
 Qg b8 0 fun b9=>
 LdK m b9 fun c0=>
 Qbs m 5 1 1 z5 c0 b7 fun c1 c2=>
 Q3 a fun c3=>
 Qg c3 0 fun c4=>
 StK c2 1 c4 c1 fun c5=>
 f [] c5)) fun f=>∀g:Qe,f [] g->
 Qk prog .quo 3 c (.int .i64 2) fun o=>
 Q3 a fun c6=>
 Qg c6 0 fun c7=>
 LdK g c7 fun c8=>
 Qey 1 c8 (some o) none fun c9=>
 Q3 a fun d0=>
 Qg d0 0 fun d1=>
 LdK g d1 fun d2=>
 Qey 1 d2 none (some o) fun d3=>
 Qh5 g 1 c9 d3 fun _x68 d4=>
 R (.tuple #[]) d4
theorem w299 {a h R} (H:s299 a h R):FnS prog 299 #[a] h R:=wq Tryz.func299 (by kernel_rfl) H
def s300 (e f:Value) (h:Qe) (R:Kn):Prop:=
 Yu [(.int .i64 0)] h fun c d=>∀a:Value,∀b:Qe,c d [a] b->
 Qk prog .lss 3 a f fun g=>
 IfK g
 (Qa prog 303 #[e,(.int .u8 0)] b fun _x11 i=>
 Qk prog .add 3 a (.int .i64 1) fun j=>
 QS c d [j] i)
 (R (.tuple #[]) b)
theorem w300 {a b h R} (H:s300 a b h R):FnS prog 300 #[a,b] h R:=wq Tryz.func300 (by kernel_rfl) H
def s301 (a:Value) (h:Qe) (R:Kn):Prop:=
 Q3 a fun b=>
 Qg b 0 fun c=>
 LdK h c fun d=>
 Yv d fun e=>
 QK .u32 e fun f=>
 Q3 a fun g=>
 Qg g 5 fun i=>
 LdK h i fun j=>
 Qk prog .sub 93 f j fun l=>
 R l h
theorem w301 {a h R} (H:s301 a h R):FnS prog 301 #[a] h R:=wq Tryz.func301 (by kernel_rfl) H
theorem w302 {a b h R} (H:QcX 4 358 a b h R):FnS prog 302 #[a,b] h R:=wq Tryz.func302 (by kernel_rfl) H
theorem w303 {a b h R} (H:QcX 1 359 a b h R):FnS prog 303 #[a,b] h R:=wq Tryz.func303 (by kernel_rfl) H
def s306 (a b c d:Value) (h:Qe) (R:Kn):Prop:=
 Qa prog 163 #[a] h fun _x10 e=>
 Q3 a fun f=>
 Qg f 6 fun g=>
 StK e 1 g (.bool true) fun i=>
 Qk prog .mul 3 b c fun j=>
 Qa prog 164 #[a,(.int .i64 4),j] i fun _x18 l=>
 Qk prog .mul 3 b c fun m=>
 Qa prog 164 #[a,d,m] l fun _x24 o=>
 Qa prog 301 #[a] o fun p q=>
 R p q
theorem w306 {a b c d h R} (H:s306 a b c d h R):FnS prog 306 #[a,b,c,d] h R:=wq Tryz.func306 (by kernel_rfl) H
theorem w308 {a h R} (H:tp259 6 a h R):FnS prog 308 #[a] h R:=wq Tryz.func308 (by kernel_rfl) H
theorem w314 {a b h R} (H:QcX 1 368 a b h R):FnS prog 314 #[a,b] h R:=wq Tryz.func314 (by kernel_rfl) H
theorem w316 {a b h R} (H:QcX 8 370 a b h R):FnS prog 316 #[a,b] h R:=wq Tryz.func316 (by kernel_rfl) H
theorem w317 {a b h R} (H:QcX 8 371 a b h R):FnS prog 317 #[a,b] h R:=wq Tryz.func317 (by kernel_rfl) H
theorem w323 {a b h R} (H:QcX 8 372 a b h R):FnS prog 323 #[a,b] h R:=wq Tryz.func323 (by kernel_rfl) H
def s324 (a d:Value) (h:Qe) (R:Kn):Prop:=
 Qa prog 163 #[a] h fun _x6 s=>
 Q3 a fun t=>
 Qg t 6 fun u=>
 StK s 1 u (.bool true) fun g=>
 QD (fun e=>
 Q3 a fun v=>
 Qg v 2 fun w=>
 LdK g w fun y=>
 CapK y fun z=>
 Qk prog .lss 3 z d fun b=>
 Qc b false (fun a0=>a0 a g) g fun a1 l=>
 Qc b false (fun a2=>Q3 a1 fun a3=>a2 a3 l) l fun a4 m=>
 Qc b false (fun a5=>Qg a4 2 fun a6=>a5 a6 m) m fun a7 i=>
 Qc b false (fun a8=>LdK i a7 fun a9=>a8 a9 i) i fun b0 o=>
 Qc b false (fun b1=>Qk prog .eql 235 b0 (.slice none 0 0) fun b2=>b1 b2 o) o fun b3 j=>
 Yd b (.bool true) b3 fun b4=>
 IfK b4
 (Qe3 j 93 4 z93 d d fun b5 b6=>
 Q3 a fun b7=>
 Qg b7 2 fun b8=>
 StK b6 1 b8 b5 fun b9=>
 e [] b9)
 (Q3 a fun c0=>
 Qg c0 2 fun c1=>
 LdK j c1 fun c2=>
 Qey 1 c2 none (some d) fun c3=>
 Q3 a fun c4=>
 Qg c4 2 fun c5=>
 StK j 1 c5 c3 fun c6=>
 Yu [(.int .i64 0)] c6 fun p q=>∀f:Value,∀c:Qe,p q [f] c->
 Q3 a fun c7=>
 Qg c7 2 fun c8=>
 LdK c c8 fun c9=>
 Yv c9 fun d0=>
 Qk prog .lss 3 f d0 fun d1=>
 IfK d1
 (Q3 a fun d2=>
 Qg d2 2 fun d3=>
 LdK c d3 fun d4=>
 Y1 1 d4 f fun d5=>
 StK c 1 d5 (.int .u32 0) fun d6=>
 Qk prog .add 3 f (.int .i64 1) fun d7=>
 QS p q [d7] d6)
 (e [] c))) fun e=>∀r:Qe,e [] r->
 Qa prog 301 #[a] r fun d8 d9=>
 Q3 a fun e0=>
 Qg e0 3 fun e1=>
 StK d9 1 e1 d8 fun e2=>
 R (.tuple #[]) e2
theorem w324 {a b h R} (H:s324 a b h R):FnS prog 324 #[a,b] h R:=wq Tryz.func324 (by kernel_rfl) H
def s326 (a e c f:Value) (h:Qe) (R:Kn):Prop:=
 Qk prog .neq 93 c f fun g=>
 IfK g
 (Qa prog 308 #[a] h fun _x12 i=>
 QD (fun b=>
 Qa prog 301 #[a] i fun j l=>
 Qk prog .neq 93 c j fun m=>
 IfK m
 (False)
 (b [] l)) fun b=>∀d:Qe,b [] d->
 Qa prog 374 #[a,e] d fun _x20 o=>
 R (.tuple #[]) o)
 (R (.tuple #[]) h)
theorem w326 {a b c d h R} (H:s326 a b c d h R):FnS prog 326 #[a,b,c,d] h R:=wq Tryz.func326 (by kernel_rfl) H
theorem w327 {a b c d h R} (H:QeW 23 366 a b c d h R):FnS prog 327 #[a,b,c,d] h R:=wq Tryz.func327 (by kernel_rfl) H
theorem w328 {a b c d h R} (H:QeW 93 165 a b c d h R):FnS prog 328 #[a,b,c,d] h R:=wq Tryz.func328 (by kernel_rfl) H
theorem w329 {a b c d h R} (H:QeW 5 207 a b c d h R):FnS prog 329 #[a,b,c,d] h R:=wq Tryz.func329 (by kernel_rfl) H
def s330 (g i j l:Value) (h:Qe) (R:Kn):Prop:=
 QD (fun a=>
 IfK j
 (a [(.int .u8 1)] h)
 (a [(.int .u8 0)] h)) fun a=>∀d:Value,∀c:Qe,a [d] c->
 QD (fun b=>
 IfK l
 (b [(.int .u8 1)] c)
 (b [(.int .u8 0)] c)) fun b=>∀e:Value,∀f:Qe,b [e] f->
 Qa prog 329 #[g,i,d,e] f fun _x16 m=>
 R (.tuple #[]) m
theorem w330 {a b c d h R} (H:s330 a b c d h R):FnS prog 330 #[a,b,c,d] h R:=wq Tryz.func330 (by kernel_rfl) H
theorem w331 {a b c d h R} (H:QeW 21 375 a b c d h R):FnS prog 331 #[a,b,c,d] h R:=wq Tryz.func331 (by kernel_rfl) H
theorem w332 {a b c d h R} (H:QeW 30 369 a b c d h R):FnS prog 332 #[a,b,c,d] h R:=wq Tryz.func332 (by kernel_rfl) H
theorem w333 {a b c d h R} (H:QeW 2 193 a b c d h R):FnS prog 333 #[a,b,c,d] h R:=wq Tryz.func333 (by kernel_rfl) H
theorem w334 {a b c d h R} (H:QeW 31 200 a b c d h R):FnS prog 334 #[a,b,c,d] h R:=wq Tryz.func334 (by kernel_rfl) H
theorem w335 {a b c d h R} (H:QeW 150 373 a b c d h R):FnS prog 335 #[a,b,c,d] h R:=wq Tryz.func335 (by kernel_rfl) H
theorem w336 {a b c d h R} (H:QeW 36 365 a b c d h R):FnS prog 336 #[a,b,c,d] h R:=wq Tryz.func336 (by kernel_rfl) H
def s337 (a:Value) (h:Qe) (R:Kn):Prop:=
 Qa prog 308 #[a] h fun _x5 b=>
 Qa prog 376 #[a] b fun c d=>
 Q3 a fun e=>
 Qg e 6 fun f=>
 StK d 1 f (.bool false) fun g=>
 R c g
theorem w337 {a h R} (H:s337 a h R):FnS prog 337 #[a] h R:=wq Tryz.func337 (by kernel_rfl) H
theorem w365 {a b h R} (H:QdI 1 383 a b h R):FnS prog 365 #[a,b] h R:=wq Tryz.func365 (by kernel_rfl) H
theorem w366 {a b h R} (H:QdI 2 384 a b h R):FnS prog 366 #[a,b] h R:=wq Tryz.func366 (by kernel_rfl) H
theorem w367 {a b c d h R} (H:QeW 78 385 a b c d h R):FnS prog 367 #[a,b,c,d] h R:=wq Tryz.func367 (by kernel_rfl) H
theorem w369 {a b h R} (H:QdI 4 386 a b h R):FnS prog 369 #[a,b] h R:=wq Tryz.func369 (by kernel_rfl) H
theorem w373 {a b h R} (H:QdI 4 387 a b h R):FnS prog 373 #[a,b] h R:=wq Tryz.func373 (by kernel_rfl) H
def s374 (a c:Value) (h:Qe) (R:Kn):Prop:=
 Q3 a fun d=>
 Qg d 2 fun e=>
 LdK h e fun f=>
 Qa prog 301 #[a] h fun g b=>
 Qi h b<|
 Y1 1 f c fun i=>
 StK b 1 i g fun j=>
 R (.tuple #[]) j
theorem w374 {a b h R} (H:s374 a b h R):FnS prog 374 #[a,b] h R:=wq Tryz.func374 (by kernel_rfl) H
theorem w375 {a b h R} (H:QdI 4 388 a b h R):FnS prog 375 #[a,b] h R:=wq Tryz.func375 (by kernel_rfl) H
def s376 (a:Value) (h:Qe) (R:Kn):Prop:=
 Qa prog 389 #[a,(.int .i32 0)] h fun _x20 c8=>
 Qa prog 301 #[a] c8 fun c a6=>
 Q3 a fun c9=>
 Qg c9 2 fun d0=>
 LdK a6 d0 fun d1=>
 Yv d1 fun d2=>
 Qk prog .sub 3 d2 (.int .i64 1) fun d3=>
 QD (fun q=>
 Yu [d3] a6 fun a7 a8=>∀i:Value,∀r:Qe,a7 a8 [i] r->
 Qk prog .geq 3 i (.int .i64 0) fun b=>
 Qc b true (fun d4=>d4 a r) r fun d5 a9=>
 Qc b true (fun d6=>Q3 d5 fun d7=>d6 d7 a9) a9 fun d8 b0=>
 Qc b true (fun d9=>Qg d8 2 fun e0=>d9 e0 b0) b0 fun e1 s=>
 Qc b true (fun e2=>LdK s e1 fun e3=>e2 e3 s) s fun e4 b1=>
 Qc b true (fun e5=>e5 i b1) b1 fun e6 b2=>
 Qc b true (fun e7=>Y1 1 e4 e6 fun e8=>e7 e8 b2) b2 fun e9 t=>
 Qc b true (fun f0=>LdK t e9 fun f1=>f0 f1 t) t fun f2 b3=>
 Qc b true (fun f3=>Qk prog .eql 93 f2 (.int .u32 0) fun f4=>f3 f4 b3) b3 fun f5 b4=>
 Yd b f5 (.bool false) fun f6=>
 IfK f6
 (Qk prog .sub 3 i (.int .i64 1) fun f7=>
 QS a7 a8 [f7] b4)
 (q [i] b4)) fun q=>∀b5:Value,∀u:Qe,q [b5] u->
 Q3 a fun f8=>
 Qg f8 2 fun f9=>
 LdK u f9 fun g0=>
 Qk prog .add 3 b5 (.int .i64 1) fun g1=>
 Qey 1 g0 none (some g1) fun g2=>
 Q3 a fun g3=>
 Qg g3 2 fun g4=>
 StK u 1 g4 g2 fun b6=>
 QD (fun l=>
 Q3 a fun g5=>
 Qg g5 4 fun g6=>
 LdK b6 g6 fun g7=>
 Yv g7 fun g8=>
 Qk prog .sub 3 g8 (.int .i64 1) fun g9=>
 Yu [g9,(.int .u32 0)] b6 fun b7 b8=>∀f v:Value,∀e:Qe,b7 b8 [f,v] e->
 Qk prog .geq 3 f (.int .i64 0) fun i0=>
 IfK i0
 (Q3 a fun i1=>
 Qg i1 4 fun i2=>
 LdK e i2 fun i3=>
 Y1 1 i3 f fun i4=>
 LdK e i4 fun b9=>
 Q3 a fun i5=>
 Qg i5 0 fun i6=>
 LdK e i6 fun i7=>
 Yv i7 fun i8=>
 QK .i64 b9 fun i9=>
 Qk prog .sub 3 i8 i9 fun w=>
 Q3 a fun j0=>
 Qg j0 0 fun j1=>
 LdK e j1 fun j2=>
 Qey 1 j2 (some w) none fun j3=>
 Qa prog 379 #[j3] e fun j4 y=>
 QK .i64 j4 fun j5=>
 Qk prog .add 3 w j5 fun j6=>
 Q3 a fun j7=>
 Qg j7 0 fun j8=>
 LdK y j8 fun j9=>
 Qk prog .add 3 w (.int .i64 4) fun l0=>
 Qey 1 j9 (some l0) (some j6) fun l1=>
 Q3 a fun l2=>
 Qg l2 2 fun l3=>
 LdK y l3 fun l4=>
 Qa prog 390 #[l4,c,l1] y fun l5 c0=>
 IfK l5
 (l [f,b9] c0)
 (Qk prog .sub 3 f (.int .i64 1) fun l6=>
 QS b7 b8 [l6,v] c0))
 (l [f,v] e)) fun l=>∀l7 z:Value,∀j:Qe,l [l7,z] j->
 QD (fun m=>
 Qk prog .eql 93 z (.int .u32 0) fun l8=>
 IfK l8
 (QD (fun a0=>
 Q3 a fun l9=>
 Qg l9 2 fun m0=>
 LdK j m0 fun m1=>
 Yv m1 fun m2=>
 Qk prog .sub 3 m2 (.int .i64 1) fun m3=>
 Yu [m3] j fun c1 c2=>∀g:Value,∀d:Qe,c1 c2 [g] d->
 Qk prog .geq 3 g (.int .i64 0) fun m4=>
 IfK m4
 (QD (fun o=>
 Q3 a fun m5=>
 Qg m5 2 fun m6=>
 LdK d m6 fun m7=>
 Y1 1 m7 g fun m8=>
 LdK d m8 fun m9=>
 Qk prog .neq 93 m9 (.int .u32 0) fun o0=>
 IfK o0
 (Q3 a fun o1=>
 Qg o1 2 fun o2=>
 LdK d o2 fun o3=>
 Y1 1 o3 g fun o4=>
 LdK d o4 fun o5=>
 Qk prog .sub 93 c o5 fun o6=>
 o [o6] d)
 (o [(.int .u32 0)] d)) fun o=>∀c3:Value,∀c4:Qe,o [c3] c4->
 QK .u16 c3 fun o7=>
 Qa prog 391 #[a,o7] c4 fun _x138 o8=>
 Qk prog .sub 3 g (.int .i64 1) fun o9=>
 QS c1 c2 [o9] o8)
 (a0 [g] d)) fun a0=>∀p0:Value,∀a1:Qe,a0 [p0] a1->
 Q3 a fun p1=>
 Qg p1 3 fun p2=>
 LdK a1 p2 fun p3=>
 Qk prog .sub 93 c p3 fun p4=>
 QK .u16 p4 fun p5=>
 Qa prog 391 #[a,p5] a1 fun _x148 c5=>
 Q3 a fun p6=>
 Qg p6 2 fun p7=>
 LdK c5 p7 fun p8=>
 Yv p8 fun p9=>
 Qk prog .add 3 p9 (.int .i64 2) fun q0=>
 Qk prog .mul 3 q0 (.int .i64 2) fun q1=>
 QK .u16 q1 fun q2=>
 Qa prog 391 #[a,q2] c5 fun _x159 p=>
 Q3 a fun q3=>
 Qg q3 0 fun q4=>
 LdK p q4 fun q5=>
 Yv q5 fun q6=>
 QK .i32 q6 fun q7=>
 QK .i32 c fun q8=>
 Qk prog .sub 336 q7 q8 fun q9=>
 Q3 a fun r0=>
 Qg r0 0 fun r1=>
 LdK p r1 fun r2=>
 Qey 1 r2 (some q9) none fun r3=>
 QK .i32 c fun r4=>
 Qa prog 301 #[a] p fun r5 c6=>
 Qi p c6<|
 QK .i32 r5 fun r6=>
 Qk prog .sub 336 r6 r4 fun r7=>
 Qa prog 392 #[r3,r7] c6 fun _x181 a2=>
 Q3 a fun r8=>
 Qg r8 4 fun r9=>
 LdK a2 r9 fun s0=>
 Qa prog 301 #[a] a2 fun s1 a3=>
 Qi a2 a3<|
 Q8 a3 93 1 (YV z93.toList 1) [(0,1,s1)] fun s2 c7=>
 Qi a3 c7<|
 Qbs c7 93 1 4 z93 s0 s2 fun s3 s4=>
 Q3 a fun s5=>
 Qg s5 4 fun s6=>
 StK s4 1 s6 s3 fun s7=>
 m [] s7)
 (Q3 a fun s8=>
 Qg s8 0 fun s9=>
 LdK j s9 fun t0=>
 Yv t0 fun t1=>
 QK .i32 t1 fun t2=>
 QK .i32 c fun t3=>
 Qk prog .sub 336 t2 t3 fun t4=>
 QK .u32 t4 fun t5=>
 Q3 a fun t6=>
 Qg t6 5 fun t7=>
 StK j 1 t7 t5 fun a4=>
 Q3 a fun t8=>
 Qg t8 0 fun t9=>
 LdK a4 t9 fun u0=>
 Q3 a fun u1=>
 Qg u1 5 fun u2=>
 LdK a4 u2 fun u3=>
 Qey 1 u0 (some u3) none fun u4=>
 QK .i32 z fun u5=>
 QK .i32 c fun u6=>
 Qk prog .sub 336 u5 u6 fun u7=>
 Qa prog 392 #[u4,u7] a4 fun _x221 u8=>
 m [] u8)) fun m=>∀a5:Qe,m [] a5->
 Q3 a fun u9=>
 Qg u9 2 fun v0=>
 LdK a5 v0 fun v1=>
 Qey 1 v1 none (some (.int .i64 0)) fun v2=>
 Q3 a fun v3=>
 Qg v3 2 fun v4=>
 StK a5 1 v4 v2 fun v5=>
 R c v5
theorem w376 {a h R} (H:s376 a h R):FnS prog 376 #[a] h R:=wq Tryz.func376 (by kernel_rfl) H
theorem w383 {a b h R} (H:QcX 1 393 a b h R):FnS prog 383 #[a,b] h R:=wq Tryz.func383 (by kernel_rfl) H
theorem w384 {a b h R} (H:QcX 2 394 a b h R):FnS prog 384 #[a,b] h R:=wq Tryz.func384 (by kernel_rfl) H
theorem w385 {a b h R} (H:QdI 2 395 a b h R):FnS prog 385 #[a,b] h R:=wq Tryz.func385 (by kernel_rfl) H
theorem w386 {a b h R} (H:QcX 4 381 a b h R):FnS prog 386 #[a,b] h R:=wq Tryz.func386 (by kernel_rfl) H
theorem w387 {a b h R} (H:QcX 4 396 a b h R):FnS prog 387 #[a,b] h R:=wq Tryz.func387 (by kernel_rfl) H
theorem w388 {a b h R} (H:QcX 4 397 a b h R):FnS prog 388 #[a,b] h R:=wq Tryz.func388 (by kernel_rfl) H
def s389 (a c:Value) (h:Qe) (R:Kn):Prop:=
 Qa prog 164 #[a,(.int .i64 4),(.int .i64 0)] h fun _x6 e=>
 QD (fun b=>
 QK .u32 c fun f=>
 Qa prog 301 #[a] e fun g i=>
 Qk prog .leq 93 f g fun j=>
 ZI prog (Op.unary .not j) fun l=>
 IfK l
 (False)
 (b [] i)) fun b=>∀d:Qe,b [] d->
 Qa prog 301 #[a] d fun m o=>
 QK .i32 m fun p=>
 Qk prog .sub 336 p c fun q=>
 Qk prog .add 336 q (.int .i32 4) fun r=>
 Qa prog 398 #[a,r] o fun _x22 s=>
 R (.tuple #[]) s
theorem w389 {a b h R} (H:s389 a b h R):FnS prog 389 #[a,b] h R:=wq Tryz.func389 (by kernel_rfl) H
def s390 (c y l:Value) (h:Qe) (R:Kn):Prop:=
 Yv c fun z=>
 Qk prog .mul 3 z (.int .i64 2) fun a0=>
 Yv l fun a1=>
 Qk prog .neq 3 a0 a1 fun a2=>
 IfK a2
 (R (.bool false) h)
 (QD (fun g=>
 Yu [(.int .i64 0),(.bool false)] h fun m o=>∀a d:Value,∀i:Qe,m o [a,d] i->
 Yv c fun a3=>
 Qk prog .lss 3 a a3 fun a4=>
 IfK a4
 (QD (fun e=>
 Qk prog .mul 3 a (.int .i64 2) fun a5=>
 Qk prog .add 3 a (.int .i64 1) fun a6=>
 Qk prog .mul 3 a6 (.int .i64 2) fun a7=>
 Qey 1 l (some a5) (some a7) fun a8=>
 Qa prog 379 #[a8] i fun p q=>
 Qk prog .eql 291 p (.int .u16 0) fun b=>
 Qc b true (fun a9=>a9 c q) q fun b0 r=>
 Qc b true (fun b1=>b1 a r) r fun b2 s=>
 Qc b true (fun b3=>Y1 1 b0 b2 fun b4=>b3 b4 s) s fun b5 j=>
 Qc b true (fun b6=>LdK j b5 fun b7=>b6 b7 j) j fun b8 t=>
 Qc b true (fun b9=>Qk prog .eql 93 b8 (.int .u32 0) fun c0=>b9 c0 t) t fun c1 f=>
 Yd b c1 (.bool false) fun c2=>
 IfK c2
 (e [d] f)
 (QK .i32 y fun c3=>
 Y1 1 c a fun c4=>
 LdK f c4 fun c5=>
 QK .i32 c5 fun c6=>
 Qk prog .sub 336 c3 c6 fun c7=>
 QK .i32 p fun c8=>
 Qk prog .neq 336 c8 c7 fun c9=>
 IfK c9
 (R (.bool false) f)
 (e [d] f))) fun e=>∀u:Value,∀v:Qe,e [u] v->
 Qk prog .add 3 a (.int .i64 1) fun d0=>
 QS m o [d0,u] v)
 (g [a,d] i)) fun g=>∀d1 d2:Value,∀w:Qe,g [d1,d2] w->
 R (.bool true) w)
theorem w390 {a b c h R} (H:s390 a b c h R):FnS prog 390 #[a,b,c] h R:=wq Tryz.func390 (by kernel_rfl) H
theorem w391 {a b h R} (H:QdI 2 399 a b h R):FnS prog 391 #[a,b] h R:=wq Tryz.func391 (by kernel_rfl) H
theorem w395 {a b h R} (H:QcX 2 400 a b h R):FnS prog 395 #[a,b] h R:=wq Tryz.func395 (by kernel_rfl) H
theorem w398 {a b h R} (H:QcX 4 392 a b h R):FnS prog 398 #[a,b] h R:=wq Tryz.func398 (by kernel_rfl) H
theorem w399 {a b h R} (H:QcX 2 401 a b h R):FnS prog 399 #[a,b] h R:=wq Tryz.func399 (by kernel_rfl) H
end Go.Proofs
namespace Go.Proofs
open Go Go.Vc
open Tryz (prog)
section
variable {H:Qe} {p:Nat} {S:BS} {F:Cut} {B V T:Nat} {L:List UInt8} {len head:Nat} {vtv vtsv:Value} {e eB:TypeId}
 (hr:Raw H p S F B V T L len head vtv vtsv e eB)
include hr
theorem YM:QaW H ⟨p,0,none⟩=some (bsl B 0 len L.length):=(Qj hr.hp).trans rfl
theorem ld_min:QaW H ⟨p,1,none⟩=some (.int .i64 S.min):=(Qj hr.hp).trans rfl
theorem QiH:QaW H ⟨p,2,none⟩=some vtv:=(Qj hr.hp).trans rfl
theorem ld_oe:QaW H ⟨p,3,none⟩=some (.int .u32 S.oe):=(Qj hr.hp).trans rfl
theorem ld_vts:QaW H ⟨p,4,none⟩=some vtsv:=(Qj hr.hp).trans rfl
theorem YN:QaW H ⟨p,5,none⟩=some (.int .u32 head):=(Qj hr.hp).trans rfl
theorem ld_nested:QaW H ⟨p,6,none⟩=some (.bool S.nested):=(Qj hr.hp).trans rfl
theorem ld_fin:QaW H ⟨p,7,none⟩=some (.bool S.fin):=(Qj hr.hp).trans rfl
theorem st_min {kp:Qe->Prop} {m:Nat}:StK H 1 (.pointer (some ⟨p,1,none⟩)) (.int .i64 (m:Int)) kp=kp (setB H p (.cells (QfL B len L.length {S with min:=m} vtv vtsv head) e (0,0))):=Qas hr.hp (by decide:1<9) (by simp) rfl
theorem st_oe {kp:Qe->Prop} {m:Nat}:StK H 1 (.pointer (some ⟨p,3,none⟩)) (.int .u32 (m:Int)) kp=kp (setB H p (.cells (QfL B len L.length {S with oe:=m} vtv vtsv head) e (0,0))):=Qas hr.hp (by decide:3<9) (by simp) rfl
theorem Qbg {kp:Qe->Prop} {m:Nat}:StK H 1 (.pointer (some ⟨p,5,none⟩)) (.int .u32 (m:Int)) kp=kp (setB H p (.cells (QfL B len L.length S vtv vtsv m) e (0,0))):=Qas hr.hp (by decide:5<9) (by simp) rfl
theorem st_nested {kp:Qe->Prop} {m:Bool}:StK H 1 (.pointer (some ⟨p,6,none⟩)) (.bool m) kp=kp (setB H p (.cells (QfL B len L.length {S with nested:=m} vtv vtsv head) e (0,0))):=Qas hr.hp (by decide:6<9) (by simp) rfl
theorem st_fin {kp:Qe->Prop} {m:Bool}:StK H 1 (.pointer (some ⟨p,7,none⟩)) (.bool m) kp=kp (setB H p (.cells (QfL B len L.length {S with fin:=m} vtv vtsv head) e (0,0))):=Qas hr.hp (by decide:7<9) (by simp) rfl
theorem ZU {k:Value->Prop} {κ:IntKind} {m:Nat} (hm:m<len):Qey 1 (bsl B 0 len L.length) (some (.int κ (m:Int))) none k=k (bsl B m (len-m) (L.length-m)):=by
 have:=hr.hlen
 rw[bsl,SlcK_lo (by omega) (by omega) hr.hlen]
 have:¬L.length=m:=by omega
 simp[this]
end
section
variable {H:Qe} {p:Nat} {S:BS} {F:Cut} {r:Nat} (hB:Qd H p S F r) {R:Kn}
include hB
theorem Yl (hR:R (.int .u32 (S.buf.length:Nat)) H):FnS prog 301 #[.pointer (some ⟨p,0,none⟩)] H R:=by
 obtain ⟨hd,h1,⟨B,V,T,L,len,vtv,vtsv,e,eB,hr,h2,h3⟩⟩:=hB
 have:=hr.lt
 apply w301
 unfold s301
 simp only[↓Qs,↓Qm,↓Ql (YM hr),↓Ql (YN hr),↓QbK,↓QH,↓QZ]
 rw[QW (n:=(len:Int)) (by omega) (by omega),QW (by omega) (by omega)]
 rw[show ((len:Int)-(hd:Int))=((S.buf.length:Nat):Int) by omega]
 exact hR
theorem YW (hn:S.nested=false) (hR:R (.tuple #[]) H):FnS prog 163 #[.pointer (some ⟨p,0,none⟩)] H R:=by
 obtain ⟨hd,h1,⟨B,V,T,L,len,vtv,vtsv,e,eB,hr,h2,h3⟩⟩:=hB
 apply w163
 unfold s163
 simp only[↓Qs,↓Qm,↓Ql (ld_nested hr),hn]
 exact hR
theorem QaB (hn:S.nested=true) (hR:R (.tuple #[]) H):FnS prog 308 #[.pointer (some ⟨p,0,none⟩)] H R:=by
 obtain ⟨hd,h1,⟨B,V,T,L,len,vtv,vtsv,e,eB,hr,h2,h3⟩⟩:=hB
 apply w308
 unfold tp259
 simp only[↓Qs,↓Qm,↓Ql (ld_nested hr),hn,↓Ym]
 exact hR
theorem QeI (hn:S.fin=true) (hR:R (.tuple #[]) H):FnS prog 259 #[.pointer (some ⟨p,0,none⟩)] H R:=by
 obtain ⟨hd,h1,⟨B,V,T,L,len,vtv,vtsv,e,eB,hr,h2,h3⟩⟩:=hB
 apply w259
 unfold tp259
 simp only[↓Qs,↓Qm,↓Ql (ld_fin hr),hn,↓Ym]
 exact hR
theorem Qcc {kp:Qe->Prop} {m:Bool} (hk:∀H',Qd H' p {S with nested:=m} F r->kp H'):StK H 1 (.pointer (some ⟨p,6,none⟩)) (.bool m) kp:=by
 obtain ⟨hd,h1,⟨B,V,T,L,len,vtv,vtsv,e,eB,hr,h2,h3⟩⟩:=hB
 rw[st_nested hr]
 exact hk _ ⟨hd,h1,⟨B,V,T,L,len,vtv,vtsv,e,eB,Raw.setp hr rfl rfl,h2,h3⟩⟩
theorem st_fin_at {kp:Qe->Prop} {m:Bool} (hk:∀H',Qd H' p {S with fin:=m} F r->kp H'):StK H 1 (.pointer (some ⟨p,7,none⟩)) (.bool m) kp:=by
 obtain ⟨hd,h1,⟨B,V,T,L,len,vtv,vtsv,e,eB,hr,h2,h3⟩⟩:=hB
 rw[st_fin hr]
 exact hk _ ⟨hd,h1,⟨B,V,T,L,len,vtv,vtsv,e,eB,Raw.setp hr rfl rfl,h2,h3⟩⟩
theorem st_oe_at {kp:Qe->Prop} {m:Nat} (hk:∀H',Qd H' p {S with oe:=m} F r->kp H'):StK H 1 (.pointer (some ⟨p,3,none⟩)) (.int .u32 (m:Int)) kp:=by
 obtain ⟨hd,h1,⟨B,V,T,L,len,vtv,vtsv,e,eB,hr,h2,h3⟩⟩:=hB
 rw[st_oe hr]
 exact hk _ ⟨hd,h1,⟨B,V,T,L,len,vtv,vtsv,e,eB,Raw.setp hr rfl rfl,h2,h3⟩⟩
theorem Qao {b:UInt8} (hk:1<=r) (hR:∀H',Qd H' p (place [b] S) F (r-1)->R (.tuple #[]) H'):FnS prog 303 #[.pointer (some ⟨p,0,none⟩),.int .u8 (b.toNat:Int)] H R:=by
 obtain ⟨hd,h1,⟨B,V,T,L,len,vtv,vtsv,e,eB,hr,h2,h3⟩⟩:=hB
 have:=hr.lt;have:=hr.hlen
 have e1:IntKind.u32.wrap ((hd:Int)-1)=((hd-1:Nat):Int):=by rw[QW (by omega) (by omega)];omega
 apply w303
 unfold QcX
 simp only[↓Qs,↓Qm,↓Ql (YN hr),↓QZ,e1,↓Qbg hr]
 have hr2:=Raw.setp (S':=S) (head':=hd-1) hr rfl rfl
 simp only[↓Ql (YM hr2),↓Ql (YN hr2),↓ZU hr2 (m:=hd-1) (by omega)]
 refine go_WriteByte hr2.hB (by omega) (by omega) ?_
 refine hR _ ⟨hd-1,by omega,⟨B,V,T,_,len,vtv,vtsv,e,eB,Raw.wr hr2 (Q7 _ _ _) rfl rfl rfl,?_,?_⟩⟩
 ·have hl:([b]:List UInt8).length=1:=by simp[Qf]
  simp only[place,List.length_append,hl];omega
 ·have hl:([b]:List UInt8).length=1:=by simp[Qf]
  have:=QaG (xs:=[b]) hr.hlen h2 h3 (by omega)
  rw[hl]at this
  exact this
theorem QgR {b:Bool} (hk:1<=r) (hR:∀H',Qd H' p (place [if b then 1 else 0] S) F (r-1)->R (.tuple #[]) H'):FnS prog 314 #[.pointer (some ⟨p,0,none⟩),.bool b] H R:=by
 obtain ⟨hd,h1,⟨B,V,T,L,len,vtv,vtsv,e,eB,hr,h2,h3⟩⟩:=hB
 have:=hr.lt;have:=hr.hlen
 have e1:IntKind.u32.wrap ((hd:Int)-1)=((hd-1:Nat):Int):=by rw[QW (by omega) (by omega)];omega
 apply w314
 unfold QcX
 simp only[↓Qs,↓Qm,↓Ql (YN hr),↓QZ,e1,↓Qbg hr]
 have hr2:=Raw.setp (S':=S) (head':=hd-1) hr rfl rfl
 simp only[↓Ql (YM hr2),↓Ql (YN hr2),↓ZU hr2 (m:=hd-1) (by omega)]
 refine go_WriteBool hr2.hB (by omega) (by omega) ?_
 refine hR _ ⟨hd-1,by omega,⟨B,V,T,_,len,vtv,vtsv,e,eB,Raw.wr hr2 (Q7 _ _ _) rfl rfl rfl,?_,?_⟩⟩
 ·have hl:([if b then 1 else 0]:List UInt8).length=1:=by simp[Qf]
  simp only[place,List.length_append,hl];omega
 ·have hl:([if b then 1 else 0]:List UInt8).length=1:=by simp[Qf]
  have:=QaG (xs:=[if b then 1 else 0]) hr.hlen h2 h3 (by omega)
  rw[hl]at this
  exact this
theorem QgP {x:Int} (hk:1<=r) (hR:∀H',Qd H' p (place (leB x 1) S) F (r-1)->R (.tuple #[]) H'):FnS prog 383 #[.pointer (some ⟨p,0,none⟩),.int .i8 x] H R:=by
 obtain ⟨hd,h1,⟨B,V,T,L,len,vtv,vtsv,e,eB,hr,h2,h3⟩⟩:=hB
 have:=hr.lt;have:=hr.hlen
 have e1:IntKind.u32.wrap ((hd:Int)-1)=((hd-1:Nat):Int):=by rw[QW (by omega) (by omega)];omega
 apply w383
 unfold QcX
 simp only[↓Qs,↓Qm,↓Ql (YN hr),↓QZ,e1,↓Qbg hr]
 have hr2:=Raw.setp (S':=S) (head':=hd-1) hr rfl rfl
 simp only[↓Ql (YM hr2),↓Ql (YN hr2),↓ZU hr2 (m:=hd-1) (by omega)]
 refine go_WriteInt8 hr2.hB (by omega) (by omega) ?_
 refine hR _ ⟨hd-1,by omega,⟨B,V,T,_,len,vtv,vtsv,e,eB,Raw.wr hr2 (Q7 _ _ _) rfl rfl rfl,?_,?_⟩⟩
 ·have hl:((leB x 1):List UInt8).length=1:=by simp[Qf]
  simp only[place,List.length_append,hl];omega
 ·have hl:((leB x 1):List UInt8).length=1:=by simp[Qf]
  have:=QaG (xs:=(leB x 1)) hr.hlen h2 h3 (by omega)
  rw[hl]at this
  exact this
theorem Qgo {x:Int} (hk:2<=r) (hR:∀H',Qd H' p (place (leB x 2) S) F (r-2)->R (.tuple #[]) H'):FnS prog 384 #[.pointer (some ⟨p,0,none⟩),.int .i16 x] H R:=by
 obtain ⟨hd,h1,⟨B,V,T,L,len,vtv,vtsv,e,eB,hr,h2,h3⟩⟩:=hB
 have:=hr.lt;have:=hr.hlen
 have e1:IntKind.u32.wrap ((hd:Int)-2)=((hd-2:Nat):Int):=by rw[QW (by omega) (by omega)];omega
 apply w384
 unfold QcX
 simp only[↓Qs,↓Qm,↓Ql (YN hr),↓QZ,e1,↓Qbg hr]
 have hr2:=Raw.setp (S':=S) (head':=hd-2) hr rfl rfl
 simp only[↓Ql (YM hr2),↓Ql (YN hr2),↓ZU hr2 (m:=hd-2) (by omega)]
 refine go_WriteInt16 hr2.hB (by omega) (by omega) ?_
 refine hR _ ⟨hd-2,by omega,⟨B,V,T,_,len,vtv,vtsv,e,eB,Raw.wr hr2 (Q7 _ _ _) rfl rfl rfl,?_,?_⟩⟩
 ·have hl:((leB x 2):List UInt8).length=2:=by simp[Qf]
  simp only[place,List.length_append,hl];omega
 ·have hl:((leB x 2):List UInt8).length=2:=by simp[Qf]
  have:=QaG (xs:=(leB x 2)) hr.hlen h2 h3 (by omega)
  rw[hl]at this
  exact this
theorem QfZ {x:Int} (hk:2<=r) (hR:∀H',Qd H' p (place (leB x 2) S) F (r-2)->R (.tuple #[]) H'):FnS prog 395 #[.pointer (some ⟨p,0,none⟩),.int .u16 x] H R:=by
 obtain ⟨hd,h1,⟨B,V,T,L,len,vtv,vtsv,e,eB,hr,h2,h3⟩⟩:=hB
 have:=hr.lt;have:=hr.hlen
 have e1:IntKind.u32.wrap ((hd:Int)-2)=((hd-2:Nat):Int):=by rw[QW (by omega) (by omega)];omega
 apply w395
 unfold QcX
 simp only[↓Qs,↓Qm,↓Ql (YN hr),↓QZ,e1,↓Qbg hr]
 have hr2:=Raw.setp (S':=S) (head':=hd-2) hr rfl rfl
 simp only[↓Ql (YM hr2),↓Ql (YN hr2),↓ZU hr2 (m:=hd-2) (by omega)]
 refine Qh9 hr2.hB (by omega) (by omega) ?_
 refine hR _ ⟨hd-2,by omega,⟨B,V,T,_,len,vtv,vtsv,e,eB,Raw.wr hr2 (Q7 _ _ _) rfl rfl rfl,?_,?_⟩⟩
 ·have hl:((leB x 2):List UInt8).length=2:=by simp[Qf]
  simp only[place,List.length_append,hl];omega
 ·have hl:((leB x 2):List UInt8).length=2:=by simp[Qf]
  have:=QaG (xs:=(leB x 2)) hr.hlen h2 h3 (by omega)
  rw[hl]at this
  exact this
theorem Qf6 {x:Int} (hk:2<=r) (hR:∀H',Qd H' p (place (leB x 2) S) F (r-2)->R (.tuple #[]) H'):FnS prog 399 #[.pointer (some ⟨p,0,none⟩),.int .u16 x] H R:=by
 obtain ⟨hd,h1,⟨B,V,T,L,len,vtv,vtsv,e,eB,hr,h2,h3⟩⟩:=hB
 have:=hr.lt;have:=hr.hlen
 have e1:IntKind.u32.wrap ((hd:Int)-2)=((hd-2:Nat):Int):=by rw[QW (by omega) (by omega)];omega
 apply w399
 unfold QcX
 simp only[↓Qs,↓Qm,↓Ql (YN hr),↓QZ,e1,↓Qbg hr]
 have hr2:=Raw.setp (S':=S) (head':=hd-2) hr rfl rfl
 simp only[↓Ql (YM hr2),↓Ql (YN hr2),↓ZU hr2 (m:=hd-2) (by omega)]
 refine Qjk hr2.hB (by omega) (by omega) ?_
 refine hR _ ⟨hd-2,by omega,⟨B,V,T,_,len,vtv,vtsv,e,eB,Raw.wr hr2 (Q7 _ _ _) rfl rfl rfl,?_,?_⟩⟩
 ·have hl:((leB x 2):List UInt8).length=2:=by simp[Qf]
  simp only[place,List.length_append,hl];omega
 ·have hl:((leB x 2):List UInt8).length=2:=by simp[Qf]
  have:=QaG (xs:=(leB x 2)) hr.hlen h2 h3 (by omega)
  rw[hl]at this
  exact this
theorem Qgc {x:Int} (hk:4<=r) (hR:∀H',Qd H' p (place (leB x 4) S) F (r-4)->R (.tuple #[]) H'):FnS prog 388 #[.pointer (some ⟨p,0,none⟩),.int .i32 x] H R:=by
 obtain ⟨hd,h1,⟨B,V,T,L,len,vtv,vtsv,e,eB,hr,h2,h3⟩⟩:=hB
 have:=hr.lt;have:=hr.hlen
 have e1:IntKind.u32.wrap ((hd:Int)-4)=((hd-4:Nat):Int):=by rw[QW (by omega) (by omega)];omega
 apply w388
 unfold QcX
 simp only[↓Qs,↓Qm,↓Ql (YN hr),↓QZ,e1,↓Qbg hr]
 have hr2:=Raw.setp (S':=S) (head':=hd-4) hr rfl rfl
 simp only[↓Ql (YM hr2),↓Ql (YN hr2),↓ZU hr2 (m:=hd-4) (by omega)]
 refine Qif hr2.hB (by omega) (by omega) ?_
 refine hR _ ⟨hd-4,by omega,⟨B,V,T,_,len,vtv,vtsv,e,eB,Raw.wr hr2 (Q7 _ _ _) rfl rfl rfl,?_,?_⟩⟩
 ·have hl:((leB x 4):List UInt8).length=4:=by simp[Qf]
  simp only[place,List.length_append,hl];omega
 ·have hl:((leB x 4):List UInt8).length=4:=by simp[Qf]
  have:=QaG (xs:=(leB x 4)) hr.hlen h2 h3 (by omega)
  rw[hl]at this
  exact this
theorem QfU {x:Int} (hk:4<=r) (hR:∀H',Qd H' p (place (leB x 4) S) F (r-4)->R (.tuple #[]) H'):FnS prog 386 #[.pointer (some ⟨p,0,none⟩),.int .u32 x] H R:=by
 obtain ⟨hd,h1,⟨B,V,T,L,len,vtv,vtsv,e,eB,hr,h2,h3⟩⟩:=hB
 have:=hr.lt;have:=hr.hlen
 have e1:IntKind.u32.wrap ((hd:Int)-4)=((hd-4:Nat):Int):=by rw[QW (by omega) (by omega)];omega
 apply w386
 unfold QcX
 simp only[↓Qs,↓Qm,↓Ql (YN hr),↓QZ,e1,↓Qbg hr]
 have hr2:=Raw.setp (S':=S) (head':=hd-4) hr rfl rfl
 simp only[↓Ql (YM hr2),↓Ql (YN hr2),↓ZU hr2 (m:=hd-4) (by omega)]
 refine QeK hr2.hB (by omega) (by omega) ?_
 refine hR _ ⟨hd-4,by omega,⟨B,V,T,_,len,vtv,vtsv,e,eB,Raw.wr hr2 (Q7 _ _ _) rfl rfl rfl,?_,?_⟩⟩
 ·have hl:((leB x 4):List UInt8).length=4:=by simp[Qf]
  simp only[place,List.length_append,hl];omega
 ·have hl:((leB x 4):List UInt8).length=4:=by simp[Qf]
  have:=QaG (xs:=(leB x 4)) hr.hlen h2 h3 (by omega)
  rw[hl]at this
  exact this
theorem Qcg {x:Int} (hk:4<=r) (hR:∀H',Qd H' p (place (leB x 4) S) F (r-4)->R (.tuple #[]) H'):FnS prog 302 #[.pointer (some ⟨p,0,none⟩),.int .u32 x] H R:=by
 obtain ⟨hd,h1,⟨B,V,T,L,len,vtv,vtsv,e,eB,hr,h2,h3⟩⟩:=hB
 have:=hr.lt;have:=hr.hlen
 have e1:IntKind.u32.wrap ((hd:Int)-4)=((hd-4:Nat):Int):=by rw[QW (by omega) (by omega)];omega
 apply w302
 unfold QcX
 simp only[↓Qs,↓Qm,↓Ql (YN hr),↓QZ,e1,↓Qbg hr]
 have hr2:=Raw.setp (S':=S) (head':=hd-4) hr rfl rfl
 simp only[↓Ql (YM hr2),↓Ql (YN hr2),↓ZU hr2 (m:=hd-4) (by omega)]
 refine Qjh hr2.hB (by omega) (by omega) ?_
 refine hR _ ⟨hd-4,by omega,⟨B,V,T,_,len,vtv,vtsv,e,eB,Raw.wr hr2 (Q7 _ _ _) rfl rfl rfl,?_,?_⟩⟩
 ·have hl:((leB x 4):List UInt8).length=4:=by simp[Qf]
  simp only[place,List.length_append,hl];omega
 ·have hl:((leB x 4):List UInt8).length=4:=by simp[Qf]
  have:=QaG (xs:=(leB x 4)) hr.hlen h2 h3 (by omega)
  rw[hl]at this
  exact this
theorem QeS {x:Int} (hk:4<=r) (hR:∀H',Qd H' p (place (leB x 4) S) F (r-4)->R (.tuple #[]) H'):FnS prog 398 #[.pointer (some ⟨p,0,none⟩),.int .i32 x] H R:=by
 obtain ⟨hd,h1,⟨B,V,T,L,len,vtv,vtsv,e,eB,hr,h2,h3⟩⟩:=hB
 have:=hr.lt;have:=hr.hlen
 have e1:IntKind.u32.wrap ((hd:Int)-4)=((hd-4:Nat):Int):=by rw[QW (by omega) (by omega)];omega
 apply w398
 unfold QcX
 simp only[↓Qs,↓Qm,↓Ql (YN hr),↓QZ,e1,↓Qbg hr]
 have hr2:=Raw.setp (S':=S) (head':=hd-4) hr rfl rfl
 simp only[↓Ql (YM hr2),↓Ql (YN hr2),↓ZU hr2 (m:=hd-4) (by omega)]
 refine Qdy hr2.hB (by omega) (by omega) ?_
 refine hR _ ⟨hd-4,by omega,⟨B,V,T,_,len,vtv,vtsv,e,eB,Raw.wr hr2 (Q7 _ _ _) rfl rfl rfl,?_,?_⟩⟩
 ·have hl:((leB x 4):List UInt8).length=4:=by simp[Qf]
  simp only[place,List.length_append,hl];omega
 ·have hl:((leB x 4):List UInt8).length=4:=by simp[Qf]
  have:=QaG (xs:=(leB x 4)) hr.hlen h2 h3 (by omega)
  rw[hl]at this
  exact this
theorem Qfx {x:Nat} (hk:4<=r) (hR:∀H',Qd H' p (place (leB x 4) S) F (r-4)->R (.tuple #[]) H'):FnS prog 387 #[.pointer (some ⟨p,0,none⟩),.float .f32 x] H R:=by
 obtain ⟨hd,h1,⟨B,V,T,L,len,vtv,vtsv,e,eB,hr,h2,h3⟩⟩:=hB
 have:=hr.lt;have:=hr.hlen
 have e1:IntKind.u32.wrap ((hd:Int)-4)=((hd-4:Nat):Int):=by rw[QW (by omega) (by omega)];omega
 apply w387
 unfold QcX
 simp only[↓Qs,↓Qm,↓Ql (YN hr),↓QZ,e1,↓Qbg hr]
 have hr2:=Raw.setp (S':=S) (head':=hd-4) hr rfl rfl
 simp only[↓Ql (YM hr2),↓Ql (YN hr2),↓ZU hr2 (m:=hd-4) (by omega)]
 refine go_WriteFloat32 hr2.hB (by omega) (by omega) ?_
 refine hR _ ⟨hd-4,by omega,⟨B,V,T,_,len,vtv,vtsv,e,eB,Raw.wr hr2 (Q7 _ _ _) rfl rfl rfl,?_,?_⟩⟩
 ·have hl:((leB x 4):List UInt8).length=4:=by simp[Qf]
  simp only[place,List.length_append,hl];omega
 ·have hl:((leB x 4):List UInt8).length=4:=by simp[Qf]
  have:=QaG (xs:=(leB x 4)) hr.hlen h2 h3 (by omega)
  rw[hl]at this
  exact this
theorem Qgj {x:Int} (hk:8<=r) (hR:∀H',Qd H' p (place (leB x 8) S) F (r-8)->R (.tuple #[]) H'):FnS prog 316 #[.pointer (some ⟨p,0,none⟩),.int .i64 x] H R:=by
 obtain ⟨hd,h1,⟨B,V,T,L,len,vtv,vtsv,e,eB,hr,h2,h3⟩⟩:=hB
 have:=hr.lt;have:=hr.hlen
 have e1:IntKind.u32.wrap ((hd:Int)-8)=((hd-8:Nat):Int):=by rw[QW (by omega) (by omega)];omega
 apply w316
 unfold QcX
 simp only[↓Qs,↓Qm,↓Ql (YN hr),↓QZ,e1,↓Qbg hr]
 have hr2:=Raw.setp (S':=S) (head':=hd-8) hr rfl rfl
 simp only[↓Ql (YM hr2),↓Ql (YN hr2),↓ZU hr2 (m:=hd-8) (by omega)]
 refine go_WriteInt64 hr2.hB (by omega) (by omega) ?_
 refine hR _ ⟨hd-8,by omega,⟨B,V,T,_,len,vtv,vtsv,e,eB,Raw.wr hr2 (Q7 _ _ _) rfl rfl rfl,?_,?_⟩⟩
 ·have hl:((leB x 8):List UInt8).length=8:=by simp[Qf]
  simp only[place,List.length_append,hl];omega
 ·have hl:((leB x 8):List UInt8).length=8:=by simp[Qf]
  have:=QaG (xs:=(leB x 8)) hr.hlen h2 h3 (by omega)
  rw[hl]at this
  exact this
theorem Qg3 {x:Int} (hk:8<=r) (hR:∀H',Qd H' p (place (leB x 8) S) F (r-8)->R (.tuple #[]) H'):FnS prog 323 #[.pointer (some ⟨p,0,none⟩),.int .u64 x] H R:=by
 obtain ⟨hd,h1,⟨B,V,T,L,len,vtv,vtsv,e,eB,hr,h2,h3⟩⟩:=hB
 have:=hr.lt;have:=hr.hlen
 have e1:IntKind.u32.wrap ((hd:Int)-8)=((hd-8:Nat):Int):=by rw[QW (by omega) (by omega)];omega
 apply w323
 unfold QcX
 simp only[↓Qs,↓Qm,↓Ql (YN hr),↓QZ,e1,↓Qbg hr]
 have hr2:=Raw.setp (S':=S) (head':=hd-8) hr rfl rfl
 simp only[↓Ql (YM hr2),↓Ql (YN hr2),↓ZU hr2 (m:=hd-8) (by omega)]
 refine Qha hr2.hB (by omega) (by omega) ?_
 refine hR _ ⟨hd-8,by omega,⟨B,V,T,_,len,vtv,vtsv,e,eB,Raw.wr hr2 (Q7 _ _ _) rfl rfl rfl,?_,?_⟩⟩
 ·have hl:((leB x 8):List UInt8).length=8:=by simp[Qf]
  simp only[place,List.length_append,hl];omega
 ·have hl:((leB x 8):List UInt8).length=8:=by simp[Qf]
  have:=QaG (xs:=(leB x 8)) hr.hlen h2 h3 (by omega)
  rw[hl]at this
  exact this
theorem Qfg {x:Nat} (hk:8<=r) (hR:∀H',Qd H' p (place (leB x 8) S) F (r-8)->R (.tuple #[]) H'):FnS prog 317 #[.pointer (some ⟨p,0,none⟩),.float .f64 x] H R:=by
 obtain ⟨hd,h1,⟨B,V,T,L,len,vtv,vtsv,e,eB,hr,h2,h3⟩⟩:=hB
 have:=hr.lt;have:=hr.hlen
 have e1:IntKind.u32.wrap ((hd:Int)-8)=((hd-8:Nat):Int):=by rw[QW (by omega) (by omega)];omega
 apply w317
 unfold QcX
 simp only[↓Qs,↓Qm,↓Ql (YN hr),↓QZ,e1,↓Qbg hr]
 have hr2:=Raw.setp (S':=S) (head':=hd-8) hr rfl rfl
 simp only[↓Ql (YM hr2),↓Ql (YN hr2),↓ZU hr2 (m:=hd-8) (by omega)]
 refine go_WriteFloat64 hr2.hB (by omega) (by omega) ?_
 refine hR _ ⟨hd-8,by omega,⟨B,V,T,_,len,vtv,vtsv,e,eB,Raw.wr hr2 (Q7 _ _ _) rfl rfl rfl,?_,?_⟩⟩
 ·have hl:((leB x 8):List UInt8).length=8:=by simp[Qf]
  simp only[place,List.length_append,hl];omega
 ·have hl:((leB x 8):List UInt8).length=8:=by simp[Qf]
  have:=QaG (xs:=(leB x 8)) hr.hlen h2 h3 (by omega)
  rw[hl]at this
  exact this
end
end Go.Proofs
namespace Go.Proofs
open Go Go.Vc
open Tryz (prog)
section
variable {H:Qe} {p:Nat} {S:BS} {F:Cut} {r:Nat} (hB:Qd H p S F r) {R:Kn}
include hB
theorem QaU {n:Nat} {x:Int} (hx:x=(n:Nat)) (hn:n<=r) (hR:∀H',Qd H' p (place (List.replicate n 0) S) F (r-n)->R (.tuple #[]) H'):
  FnS prog 300 #[.pointer (some ⟨p,0,none⟩),.int .i64 x] H R:=by
 subst hx
 have hlt:=hB.lt
 apply w300
 unfold s300
 refine ⟨fun m vs h=>∃i:Nat,vs=[.int .i64 (i:Int)]/\i<=n/\m=n-i/\Qd h p (place (List.replicate i 0) S) F (r-i),⟨n,0,rfl,by omega,by omega,?_⟩,fun m=>?_⟩
 ·exact hB
 ·rintro x4 h1 ⟨i,hx,hi,rfl,hb⟩
  cases hx
  rw[Yr]
  have hl2:=hb.lt
  simp only[place,List.length_append,List.length_replicate]at hl2
  by_cases hlt:i<n
  ·rw[Yb (by omega)]
   refine Qao (b:=0) hb (by omega) ?_
   intro h2 hb2
   rw[QA,wrap_i64 (by omega) (by omega)]
   refine ⟨n-(i+1),by omega,i+1,rfl,by omega,rfl,?_⟩
   have e1:place [0] (place (List.replicate i 0) S)=place (List.replicate (i+1) 0) S:=by
    simp[place,List.replicate_succ]
   rw[e1]at hb2
   exact hb2.room (by omega)
  ·rw[QM (by omega)]
   have:i=n:=by omega
   subst this
   exact hR _ hb
end
section
variable {H:Qe} {p:Nat} {S:BS} {F:Cut} {B V T:Nat} {L:List UInt8} {len head:Nat} {vtv vtsv:Value} {e eB:TypeId}
 (hr:Raw H p S F B V T L len head vtv vtsv e eB) {R:Kn}
include hr
def grown (n:Nat):Nat:=if n=0 then 1 else 2*n
omit hr in
theorem grow_copy {len:Nat} {L:List UInt8} (h:grown len<=L.length) (h0:len≠0):((Zt L len (L.take len)).take (grown len)).drop len=L.take len:=by
 have hg:grown len=2*len:=by unfold grown;rw[if_neg h0]
 have hl:(L.take len).length=len:=by simp;omega
 rw[Qbq _ _ _ (by omega),hg,hl]
 rw[List.take_append]
 have h2:(L.take len++L.take len).length=2*len:=by simp;omega
 rw[h2,Nat.sub_self,List.take_zero,List.append_nil,List.take_of_length_le (by omega),List.drop_append,hl,Nat.sub_self,List.drop_zero,List.drop_of_length_le (by omega),List.nil_append]
set_option maxHeartbeats 1000000 in
theorem go_Builder_grow (hlt:len<536870912)
  (hR:∀H' B' L' eB',Raw H' p S F B' V T L' (grown len) head vtv vtsv e eB'->(len=0\/(L'.take (grown len)).drop len=L.take len)->R (.tuple #[]) H'):
  FnS prog 299 #[.pointer (some ⟨p,0,none⟩)] H R:=by
 have hlL:=hr.hlen
 have hg1:1<=grown len:=by unfold grown;split<;>omega
 have hg2:grown len<1073741824:=by unfold grown;split<;>omega
 have hg3:len<grown len:=by unfold grown;split<;>omega
 have hq:(grown len:Int).tdiv 2=(len:Int):=by
  unfold grown;split
  ·rename_i h;subst h;rfl
  ·rw[show ((2*len:Nat):Int)=(len:Int)*2 by omega];exact Int.mul_tdiv_cancel _ (by decide)
 apply w299
 unfold s299
 refine Q0 (fun _ h=>h=H) ?_ ?_
 ·simp only[↓Qs,↓Qm,↓Ql (YM hr),↓QbK,↓Qfk,high_and (show len<1073741824 by omega),↓Yp]
  rw[QM (by decide)]
  trivial
 ·rintro h1 rfl
  simp only[↓Qs,↓Qm,↓Ql (YM hr),↓QbK,↓Z1]
  rw[wrap_i64 (n:=(len:Int)*2) (by omega) (by omega)]
  refine Q0 (fun vs h=>vs=[.int .i64 (grown len:Nat)]/\h=h1) ?_ ?_
  ·rw[Yt]
   apply Zd
   ·intro h0
    have h0':len=0:=by omega
    subst h0'
    exact ⟨rfl,rfl⟩
   ·intro h0
    refine ⟨?_,rfl⟩
    unfold grown
    rw[if_neg (by omega),show ((2*len:Nat):Int)=(len:Int)*2 by omega]
  ·rintro x2 h2 ⟨hx,rfl⟩
   cases hx
   refine Q0 (fun _ h=>∃B' L' eB',Raw h p S F B' V T L' (grown len) head vtv vtsv e eB'/\L'.take len=L.take len) ?_ ?_
   ·simp only[↓Qs,↓Qm,↓Ql (YM hr),↓CapK_sl,↓QgK]
    apply Zd
    ·intro hc
     rw[bsl,SlcK_hi (by omega) (by omega),Int.toNat_natCast]
     rw[Qas hr.hp (by decide:0<9) (by simp) rfl]
     refine ⟨B,L,eB,?_,rfl⟩
     have hset:=Raw.setp (S':=S) (head':=head) hr rfl rfl
     refine ⟨QV hr.hp,?_,?_,?_,hr.pB,hr.pT,hr.BT,?_,by omega,hg2⟩
     ·rw[Qw (Ne.symm hr.pB)];exact hr.hB
     ·rcases hr.hV with g|⟨g,g2,g3,g4⟩
      ·exact Or.inl g
      ·exact Or.inr ⟨g.mono (Qw g2),g2,g3,g4⟩
     ·exact hr.hT.mono (Qw (Ne.symm hr.pT))
     ·intro b o hb
      have:=hr.hF b o hb
      exact ⟨by rw[Qw this.2.1];exact this.1,this.2⟩
    ·intro hc
     simp only[↓QbK,↓QZ]
     rw[wrap_i64 (n:=(grown len:Int)-(len:Int)) (by omega) (by omega),show ((grown len:Int)-(len:Int))=((grown len-len:Nat):Int) by omega]
     refine ⟨by omega,by omega,by omega,by omega,?_⟩
     simp only[Int.toNat_natCast,mk_u8 (z:=z5) rfl]
     obtain ⟨l1,l2,l3,l4⟩:=hr.V_lt
     have hr2:Raw (h2.push (.cells (u8c (List.replicate (grown len-len) 0)) 5)) p S F B V T L len head vtv vtsv e eB:=by
      refine hr.frame ?_ ?_
      ·intro b hb
       rw[Array.getElem?_push,if_neg]
       rcases hb with rfl|rfl|rfl|rfl<;>omega
      ·intro b o hb
       have:=hr.hF b o hb
       exact ⟨Yy this.1,this.2⟩
     simp only[↓Ql (YM hr2)]
     refine ⟨fun hh=>by omega,fun _=>⟨by decide,by omega,(L.take len).map u8V,(List.replicate (grown len-len) (0:UInt8)).map u8V,?_,?_,?_⟩⟩
     ·show Zf _ ⟨B,0,none⟩ 0 (len*1)=_
      rw[Nat.mul_one,QeV hr2.hB (by omega),List.drop_zero]
     ·show Zf _ ⟨h2.size,0,none⟩ 0 ((grown len-len)*1)=_
      rw[Nat.mul_one,QeV (Qh) (by simp)]
      simp
     ·intro c hc1 hc2
      rw[zero_u8 (z:=z5) rfl,<-List.map_append,u8V_arr,QgA]
      have hL':(L.take len++List.replicate (grown len-len) 0++List.replicate (c-(len+(grown len-len))) (0:UInt8)).length=c:=by simp;omega
      generalize hLL:L.take len++List.replicate (grown len-len) 0++List.replicate (c-(len+(grown len-len))) (0:UInt8)=L' at hL'
      have htl:L'.take len=L.take len:=by
       rw[<-hLL,List.append_assoc,List.take_append]
       have:(L.take len).length=len:=by simp;omega
       rw[this,Nat.sub_self,List.take_zero,List.append_nil,List.take_of_length_le (by omega)]
      have s2:(h2.push (.cells (u8c (List.replicate (grown len-len) 0)) 5)).size=h2.size+1:=size_push
      generalize hH3:h2.push (.cells (u8c (List.replicate (grown len-len) 0)) 5)=H3 at hr2 s2
      have hr3:Raw (H3.push (.cells (u8c L') 5)) p S F B V T L len head vtv vtsv e eB:=by
       obtain ⟨m1,m2,m3,m4⟩:=hr2.V_lt
       refine hr2.frame ?_ ?_
       ·intro b hb
        rw[Array.getElem?_push,if_neg]
        rcases hb with rfl|rfl|rfl|rfl<;>omega
       ·intro b o hb
        have:=hr2.hF b o hb
        exact ⟨Yy this.1,this.2⟩
      rw[show len+(grown len-len)=grown len by omega,Qas hr3.hp (by decide:0<9) (by simp) rfl]
      refine ⟨H3.size,L',5,?_,htl⟩
      have hset:=Raw.setp (S':=S) (head':=head) hr3 rfl rfl
      obtain ⟨m1,m2,m3,m4⟩:=hr2.V_lt
      refine ⟨?_,?_,?_,?_,by omega,hr.pT,by omega,?_,by omega,hg2⟩
      ·rw[QV hr3.hp,hL'];rfl
      ·rw[Qw (by omega),Qh]
      ·rcases hset.hV with g|⟨g,g2,g3,g4⟩
       ·exact Or.inl g
       ·refine Or.inr ⟨g.mono ?_,g2,by omega,g4⟩
        rw[Qw g2,Qw g2]
      ·refine hset.hT.mono ?_
       rw[Qw (Ne.symm hr.pT),Qw (Ne.symm hr.pT)]
      ·intro b o hb
       have:=hset.hF b o hb
       have hlt':=Y3 (hr2.hF b o hb).1
       refine ⟨?_,this.2.1,by omega,this.2.2.2⟩
       rw[Qw this.2.1,<-Qw (H:=H3.push (.cells (u8c L') 5)) this.2.1]
       exact this.1
   ·rintro h7 ⟨B',L',eB',hr',htl⟩
    have hlL':=hr'.hlen
    rw[BinK_quo (by decide),hq,wrap_i64 (by omega) (by omega)]
    simp only[↓Qs,↓Qm,↓Ql (YM hr'),↓ZU hr' (m:=len) hg3]
    rw[bsl,SlcK_hi (by omega) (by omega),Int.toNat_natCast]
    have hmin:Nat.min (lenV (.slice (some ⟨B',0,none⟩) len L'.length)) (grown len-len)=len:=by
     show Nat.min len (grown len-len)=len
     apply Nat.min_eq_left
     unfold grown;split<;>omega
    refine ⟨(L'.take len).map u8V,?_,?_⟩
    ·rw[hmin]
     show Zf _ ⟨B',0,none⟩ 0 (len*1)=_
     rw[Nat.mul_one,QeV hr'.hB (by omega),List.drop_zero]
    ·have htl2:(L'.take len).length<=len:=by simp;omega
     have hll:len+(L'.take len).length<=L'.length:=by
      by_cases h0:len=0
      ·subst h0;simp
      ·have:grown len=2*len:=by unfold grown;rw[if_neg h0]
       omega
     refine ⟨_,setN_u8 hr'.hB hll,?_⟩
     refine hR _ B' _ eB' (Raw.wr hr' (Q7 _ _ _) rfl rfl rfl) ?_
     by_cases h0:len=0
     ·exact Or.inl h0
     ·right;rw[grow_copy hlL' h0,htl]
end
end Go.Proofs
namespace Go.Proofs
open Go Go.Vc
open Tryz (prog)
section
variable {H:Qe} {p:Nat} {S:BS} {F:Cut} {r:Nat} (hB:Qd H p S F r) {R:Kn}
include hB
set_option maxHeartbeats 1000000 in
theorem QY {size add k:Nat} {y:Int} (hsz:size=2^k) (hk:k<=3) (hy:y=(add:Nat)) (hlen:S.buf.length+add+16<=536870912)
  (hR:∀H',Qd H' p (prep size add S) F (Nat.max (r-padOf size (S.buf.length+add)) (size+add+1))->R (.tuple #[]) H'):
  FnS prog 164 #[.pointer (some ⟨p,0,none⟩),.int .i64 (size:Nat),.int .i64 y] H R:=by
 subst hy
 have hs1:1<=size/\size<=8:=by
  rw[hsz]
  have:k=0\/k=1\/k=2\/k=3:=by omega
  rcases this with rfl|rfl|rfl|rfl<;>decide
 apply w164
 unfold s164
 refine Q0 (fun _ h=>Qd h p {S with min:=Nat.max S.min size} F r) ?_ ?_
 ·obtain ⟨hd,h1,⟨B,V,T,L,len,vtv,vtsv,e,eB,hr,h2,h3⟩⟩:=hB
  simp only[↓Qs,↓Qm,↓Ql (ld_min hr),↓Qbv]
  apply Zd
  ·intro hlt
   rw[st_min hr]
   have e0:Nat.max S.min size=size:=Nat.max_eq_right (by omega)
   rw[e0]
   exact ⟨hd,h1,⟨B,V,T,L,len,vtv,vtsv,e,eB,Raw.setp hr rfl rfl,h2,h3⟩⟩
  ·intro hlt
   have e0:Nat.max S.min size=S.min:=Nat.max_eq_left (by omega)
   rw[e0]
   exact ⟨hd,h1,⟨B,V,T,L,len,vtv,vtsv,e,eB,hr,h2,h3⟩⟩
 ·intro h2 hb
  have hlt:=hb.lt
  generalize hS1:{S with min:=Nat.max S.min size}=S1 at hb hlt
  have hbuf:S1.buf=S.buf:=by rw[<-hS1]
  obtain ⟨hd,h1,⟨B,V,T,L,len,vtv,vtsv,e,eB,hr,g2,g3⟩⟩:=hb
  have hl:=hr.lt
  have hpl:=Zr (size:=size) (n:=S.buf.length+add) (by omega)
  have hpi:=padOf_int (size:=size) (n:=S.buf.length+add) (by omega)
  simp only[↓Qs,↓Qm,↓Ql (YM hr),↓QbK]
  apply w260
  unfold s260
  simp only[↓Qs,↓Qm,↓Ql (YN hr),Qb,↓QH,↓QZ,↓QA]
  rw[wrap_i64 (n:=(hd:Int)) (by omega) (by omega),wrap_i64 (n:=(len:Int)-(hd:Int)) (by omega) (by omega),wrap_i64 (n:=(len:Int)-(hd:Int)+(add:Int)) (by omega) (by omega)]
  rw[show (len:Int)-(hd:Int)+(add:Int)=((S.buf.length+add:Nat):Int) by rw[hbuf]at g2;omega,PureK_xor,xor_all (by omega)]
  simp only[↓QA,↓QZ,↓Qfk]
  rw[wrap_i64 (n:=-((S.buf.length+add:Nat):Int)-1+1) (by omega) (by omega),wrap_i64 (n:=(size:Int)-1) (by omega) (by omega),mask_and _ hsz (by omega)]
  rw[show -((S.buf.length+add:Nat):Int)-1+1=-((S.buf.length+add:Nat):Int) by omega,hpi]
  generalize hpad:padOf size (S.buf.length+add)=pad at hpl hR
  refine Q0 (fun _ h=>∃hd',BuilderH h p S1 F hd'/\r<=hd'/\pad+size+add<hd') ?_ ?_
  ·refine ⟨fun m vs h=>∃hd',BuilderH h p S1 F hd'/\r<=hd'/\m=1073741824-hd',⟨_,hd,⟨B,V,T,L,len,vtv,vtsv,e,eB,hr,g2,g3⟩,h1,rfl⟩,fun m=>?_⟩
   rintro h4 ⟨hd',⟨B,V,T,L,len,vtv,vtsv,e,eB,hr,g2,g3⟩,h1',rfl⟩
   have hl:=hr.lt
   simp only[↓Qs,↓Qm,↓Ql (YN hr),↓QH,↓QA,↓Qex]
   rw[wrap_i64 (n:=(hd':Int)) (by omega) (by omega),wrap_i64 (n:=(pad:Int)+(size:Int)) (by omega) (by omega),wrap_i64 (n:=(pad:Int)+(size:Int)+(add:Int)) (by omega) (by omega)]
   apply Zd
   ·intro hle
    simp only[↓Ql (YM hr),↓QbK]
    refine go_Builder_grow hr (by rw[hbuf]at g2;omega) ?_
    intro H' B' L' eB' hr' hh
    have hg1:len<grown len:=by unfold grown;split<;>omega
    have hl':=hr'.lt
    simp only[↓Qs,↓Qm,↓Ql (YN hr'),↓Ql (YM hr'),↓QbK,↓QZ,↓QH,↓QA]
    rw[wrap_i64 (n:=(grown len:Int)-(len:Int)) (by omega) (by omega),QW (n:=(grown len:Int)-(len:Int)) (by omega) (by omega),QW (by omega) (by omega)]
    rw[show (hd':Int)+((grown len:Int)-(len:Int))=((hd'+(grown len-len):Nat):Int) by omega,Qbg hr']
    refine ⟨1073741824-(hd'+(grown len-len)),by omega,hd'+(grown len-len),⟨B',V,T,L',grown len,vtv,vtsv,e,eB',Raw.setp hr' rfl rfl,by omega,?_⟩,by omega,rfl⟩
    rcases hh with h0|h0
    ·subst h0
     have hb0:S1.buf=[]:=List.eq_nil_of_length_eq_zero (by omega)
     rw[hb0]
     apply List.drop_of_length_le
     simp[grown];omega
    ·have hgl:len=0\/grown len=2*len:=by unfold grown;split<;>omega
     rcases hgl with h00|hgl
     ·subst h00
      have hb0:S1.buf=[]:=List.eq_nil_of_length_eq_zero (by omega)
      rw[hb0]
      apply List.drop_of_length_le
      simp[grown];omega
     ·rw[show hd'+(grown len-len)=len+hd' by omega,<-List.drop_drop,h0,g3]
   ·intro hle
    exact ⟨hd',⟨B,V,T,L,len,vtv,vtsv,e,eB,hr,g2,g3⟩,h1',by omega⟩
  ·rintro h7 ⟨hd',hbh,h1',h2'⟩
   have hat:Qd h7 p S1 F (Nat.max r (pad+size+add+1)):=⟨hd',Nat.max_le.2 ⟨h1',by omega⟩,hbh⟩
   have hm1:=Nat.le_max_left r (pad+size+add+1)
   have hm2:=Nat.le_max_right r (pad+size+add+1)
   have hm1:r<=Nat.max r (pad+size+add+1):=hm1
   have hm2:pad+size+add+1<=Nat.max r (pad+size+add+1):=hm2
   generalize Nat.max r (pad+size+add+1)=mx at hm1 hm2 hat
   refine QaU (n:=pad) hat rfl (Nat.le_trans (by omega) hm2) ?_
   intro H' hb'
   refine hR H' ?_
   have e1:place (List.replicate pad 0) S1=prep size add S:=by rw[<-hS1,<-hpad];rfl
   rw[e1]at hb'
   exact hb'.room (Nat.max_le.2 ⟨by omega,by omega⟩)
end
end Go.Proofs
namespace Go.Proofs
open Go Go.Vc
open Tryz (prog)
def slot (o:Nat) (S:BS):BS:={S with vt:=S.vt.set o S.buf.length}
def putOff (off:Nat) (S:BS):BS:=place (leB (((prep 4 0 S).buf.length-off+4:Nat):Int) 4) (prep 4 0 S)
def putN (k:Nat) (xs:List UInt8) (S:BS):BS:=place xs (prep k 0 S)
theorem QcH {size add:Nat} {S:BS}:(prep size add S).buf.length=padOf size (S.buf.length+add)+S.buf.length:=by
 simp[prep,place]
section
variable {H:Qe} {p:Nat} {S:BS} {F:Cut} {r:Nat} (hB:Qd H p S F r) {R:Kn}
include hB
theorem Qd0 {b:UInt8} (hl:S.buf.length+16<=536870912) (hR:∀H',Qd H' p (putN 1 [b] S) F (Nat.max (r-padOf 1 S.buf.length) (1+1)-1)->R (.tuple #[]) H'):FnS prog 207 #[.pointer (some ⟨p,0,none⟩),.int .u8 (b.toNat:Int)] H R:=by
 apply w207
 unfold QdI
 refine QY (size:=1) (add:=0) (k:=0) hB (by decide) (by decide) rfl (by omega) ?_
 intro H1 h1
 refine Qao h1 (Nat.le_trans (by decide) (Nat.le_max_right _ _)) ?_
 intro H2 h2
 exact hR H2 h2
theorem QfR {b:Bool} (hl:S.buf.length+16<=536870912) (hR:∀H',Qd H' p (putN 1 [if b then 1 else 0] S) F (Nat.max (r-padOf 1 S.buf.length) (1+1)-1)->R (.tuple #[]) H'):FnS prog 187 #[.pointer (some ⟨p,0,none⟩),.bool b] H R:=by
 apply w187
 unfold QdI
 refine QY (size:=1) (add:=0) (k:=0) hB (by decide) (by decide) rfl (by omega) ?_
 intro H1 h1
 refine QgR h1 (Nat.le_trans (by decide) (Nat.le_max_right _ _)) ?_
 intro H2 h2
 exact hR H2 h2
theorem QcY {x:Int} (hl:S.buf.length+16<=536870912) (hR:∀H',Qd H' p (putN 1 (leB x 1) S) F (Nat.max (r-padOf 1 S.buf.length) (1+1)-1)->R (.tuple #[]) H'):FnS prog 365 #[.pointer (some ⟨p,0,none⟩),.int .i8 x] H R:=by
 apply w365
 unfold QdI
 refine QY (size:=1) (add:=0) (k:=0) hB (by decide) (by decide) rfl (by omega) ?_
 intro H1 h1
 refine QgP h1 (Nat.le_trans (by decide) (Nat.le_max_right _ _)) ?_
 intro H2 h2
 exact hR H2 h2
theorem QcP {x:Int} (hl:S.buf.length+16<=536870912) (hR:∀H',Qd H' p (putN 2 (leB x 2) S) F (Nat.max (r-padOf 2 S.buf.length) (2+1)-2)->R (.tuple #[]) H'):FnS prog 366 #[.pointer (some ⟨p,0,none⟩),.int .i16 x] H R:=by
 apply w366
 unfold QdI
 refine QY (size:=2) (add:=0) (k:=1) hB (by decide) (by decide) rfl (by omega) ?_
 intro H1 h1
 refine Qgo h1 (Nat.le_trans (by decide) (Nat.le_max_right _ _)) ?_
 intro H2 h2
 exact hR H2 h2
theorem Qf1 {x:Int} (hl:S.buf.length+16<=536870912) (hR:∀H',Qd H' p (putN 2 (leB x 2) S) F (Nat.max (r-padOf 2 S.buf.length) (2+1)-2)->R (.tuple #[]) H'):FnS prog 385 #[.pointer (some ⟨p,0,none⟩),.int .u16 x] H R:=by
 apply w385
 unfold QdI
 refine QY (size:=2) (add:=0) (k:=1) hB (by decide) (by decide) rfl (by omega) ?_
 intro H1 h1
 refine QfZ h1 (Nat.le_trans (by decide) (Nat.le_max_right _ _)) ?_
 intro H2 h2
 exact hR H2 h2
theorem Qa7 {x:Int} (hl:S.buf.length+16<=536870912) (hR:∀H',Qd H' p (putN 2 (leB x 2) S) F (Nat.max (r-padOf 2 S.buf.length) (2+1)-2)->R (.tuple #[]) H'):FnS prog 391 #[.pointer (some ⟨p,0,none⟩),.int .u16 x] H R:=by
 apply w391
 unfold QdI
 refine QY (size:=2) (add:=0) (k:=1) hB (by decide) (by decide) rfl (by omega) ?_
 intro H1 h1
 refine Qf6 h1 (Nat.le_trans (by decide) (Nat.le_max_right _ _)) ?_
 intro H2 h2
 exact hR H2 h2
theorem QfG {x:Int} (hl:S.buf.length+16<=536870912) (hR:∀H',Qd H' p (putN 4 (leB x 4) S) F (Nat.max (r-padOf 4 S.buf.length) (4+1)-4)->R (.tuple #[]) H'):FnS prog 375 #[.pointer (some ⟨p,0,none⟩),.int .i32 x] H R:=by
 apply w375
 unfold QdI
 refine QY (size:=4) (add:=0) (k:=2) hB (by decide) (by decide) rfl (by omega) ?_
 intro H1 h1
 refine Qgc h1 (Nat.le_trans (by decide) (Nat.le_max_right _ _)) ?_
 intro H2 h2
 exact hR H2 h2
theorem Qcd {x:Int} (hl:S.buf.length+16<=536870912) (hR:∀H',Qd H' p (putN 4 (leB x 4) S) F (Nat.max (r-padOf 4 S.buf.length) (4+1)-4)->R (.tuple #[]) H'):FnS prog 369 #[.pointer (some ⟨p,0,none⟩),.int .u32 x] H R:=by
 apply w369
 unfold QdI
 refine QY (size:=4) (add:=0) (k:=2) hB (by decide) (by decide) rfl (by omega) ?_
 intro H1 h1
 refine QfU h1 (Nat.le_trans (by decide) (Nat.le_max_right _ _)) ?_
 intro H2 h2
 exact hR H2 h2
theorem QbX {x:Nat} (hl:S.buf.length+16<=536870912) (hR:∀H',Qd H' p (putN 4 (leB x 4) S) F (Nat.max (r-padOf 4 S.buf.length) (4+1)-4)->R (.tuple #[]) H'):FnS prog 373 #[.pointer (some ⟨p,0,none⟩),.float .f32 x] H R:=by
 apply w373
 unfold QdI
 refine QY (size:=4) (add:=0) (k:=2) hB (by decide) (by decide) rfl (by omega) ?_
 intro H1 h1
 refine Qfx h1 (Nat.le_trans (by decide) (Nat.le_max_right _ _)) ?_
 intro H2 h2
 exact hR H2 h2
theorem QcT {x:Int} (hl:S.buf.length+16<=536870912) (hR:∀H',Qd H' p (putN 8 (leB x 8) S) F (Nat.max (r-padOf 8 S.buf.length) (8+1)-8)->R (.tuple #[]) H'):FnS prog 193 #[.pointer (some ⟨p,0,none⟩),.int .i64 x] H R:=by
 apply w193
 unfold QdI
 refine QY (size:=8) (add:=0) (k:=3) hB (by decide) (by decide) rfl (by omega) ?_
 intro H1 h1
 refine Qgj h1 (Nat.le_trans (by decide) (Nat.le_max_right _ _)) ?_
 intro H2 h2
 exact hR H2 h2
theorem Qco {x:Int} (hl:S.buf.length+16<=536870912) (hR:∀H',Qd H' p (putN 8 (leB x 8) S) F (Nat.max (r-padOf 8 S.buf.length) (8+1)-8)->R (.tuple #[]) H'):FnS prog 200 #[.pointer (some ⟨p,0,none⟩),.int .u64 x] H R:=by
 apply w200
 unfold QdI
 refine QY (size:=8) (add:=0) (k:=3) hB (by decide) (by decide) rfl (by omega) ?_
 intro H1 h1
 refine Qg3 h1 (Nat.le_trans (by decide) (Nat.le_max_right _ _)) ?_
 intro H2 h2
 exact hR H2 h2
theorem QeG {x:Nat} (hl:S.buf.length+16<=536870912) (hR:∀H',Qd H' p (putN 8 (leB x 8) S) F (Nat.max (r-padOf 8 S.buf.length) (8+1)-8)->R (.tuple #[]) H'):FnS prog 195 #[.pointer (some ⟨p,0,none⟩),.float .f64 x] H R:=by
 apply w195
 unfold QdI
 refine QY (size:=8) (add:=0) (k:=3) hB (by decide) (by decide) rfl (by omega) ?_
 intro H1 h1
 refine Qfg h1 (Nat.le_trans (by decide) (Nat.le_max_right _ _)) ?_
 intro H2 h2
 exact hR H2 h2
theorem Qa8 {off:Nat} (hl:S.buf.length+16<=536870912) (ho:off<=S.buf.length) (hR:∀H',Qd H' p (putOff off S) F (Nat.max (r-padOf 4 S.buf.length) 5-4)->R (.tuple #[]) H'):
  FnS prog 165 #[.pointer (some ⟨p,0,none⟩),.int .u32 (off:Nat)] H R:=by
 apply w165
 unfold s165
 refine QY (size:=4) (add:=0) (k:=2) hB (by decide) (by decide) rfl (by omega) ?_
 intro H1 h1
 have hlen:S.buf.length<=(prep 4 0 S).buf.length:=by rw[QcH];omega
 have hlt:=h1.lt
 refine Q0 (fun _ h=>h=H1) ?_ ?_
 ·refine Yl h1 ?_
  rw[Qex,Ym,decide_eq_true (by omega),Bool.not_true,ZG]
 ·rintro h2 rfl
  refine Yl h1 ?_
  rw[QZ,QA,QW (n:=((prep 4 0 S).buf.length:Int)-(off:Int)) (by omega) (by omega),QW (by omega) (by omega)]
  rw[show ((prep 4 0 S).buf.length:Int)-(off:Int)+4=(((prep 4 0 S).buf.length-off+4:Nat):Int) by omega]
  refine Qcg h1 (Nat.le_trans (by decide) (Nat.le_max_right _ _)) ?_
  intro H2 h2
  exact hR H2 h2
theorem Qel (hl:S.buf.length+16<=536870912) (hR:∀H',Qd H' p (putOff 0 S) F (Nat.max (r-padOf 4 S.buf.length) 5-4)->R (.tuple #[]) H'):
  FnS prog 389 #[.pointer (some ⟨p,0,none⟩),.int .i32 0] H R:=by
 apply w389
 unfold s389
 refine QY (size:=4) (add:=0) (k:=2) hB (by decide) (by decide) rfl (by omega) ?_
 intro H1 h1
 have hlt:=h1.lt
 refine Q0 (fun _ h=>h=H1) ?_ ?_
 ·rw[QH]
  refine Yl h1 ?_
  rw[Qex,Ym,decide_eq_true (by rw[show IntKind.u32.wrap 0=0 from rfl];omega),Bool.not_true,ZG]
 ·rintro h2 rfl
  refine Yl h1 ?_
  rw[QH,QZ,QA,Zq (n:=((prep 4 0 S).buf.length:Int)) (by omega) (by omega),Zq (n:=((prep 4 0 S).buf.length:Int)-0) (by omega) (by omega),Zq (by omega) (by omega)]
  rw[show ((prep 4 0 S).buf.length:Int)-0+4=(((prep 4 0 S).buf.length-0+4:Nat):Int) by omega]
  refine QeS h1 (Nat.le_trans (by decide) (Nat.le_max_right _ _)) ?_
  intro H2 h2
  exact hR H2 h2
theorem YQ {o:Nat} (ho:o<S.vt.length) (hR:∀H',Qd H' p (slot o S) F r->R (.tuple #[]) H'):
  FnS prog 374 #[.pointer (some ⟨p,0,none⟩),.int .i64 (o:Nat)] H R:=by
 have hB':=hB
 obtain ⟨hd,h1,⟨B,V,T,L,len,vtv,vtsv,e,eB,hr,h2,h3⟩⟩:=hB
 apply w374
 unfold s374
 simp only[↓Qs,↓Qm,↓Ql (QiH hr)]
 refine Yl hB' ?_
 rw[Qb]
 rcases hr.hV with ⟨rfl,hn,_⟩|⟨⟨W,eW,rfl,hW,hW2,hW3⟩,n1,n2,n3⟩
 ·rw[hn]at ho;simp at ho
 ·rw[QR (by omega) (by omega),Int.toNat_natCast,Nat.mul_one,Nat.zero_add,Qas hW (by rw[QhW];omega) (by simp) rfl,u32c_set]
  refine hR _ ⟨hd,h1,⟨B,V,T,L,len,.slice (some ⟨V,0,none⟩) S.vt.length W.length,vtsv,e,eB,?_,h2,h3⟩⟩
  refine ⟨by rw[Qw (Ne.symm n1)];exact hr.hp,by rw[Qw (Ne.symm n2)];exact hr.hB,Or.inr ⟨⟨W.set o S.buf.length,eW,by simp[slot],QV hW,?_,?_⟩,n1,n2,n3⟩,hr.hT.mono (Qw (Ne.symm n3)),hr.pB,hr.pT,hr.BT,?_,hr.hlen,hr.lt⟩
  ·simp only[slot,List.length_set]
   rw[List.take_set,hW2]
  ·simp only[slot,List.length_set];exact hW3
  ·intro b o hb
   have:=hr.hF b o hb
   exact ⟨by rw[Qw this.2.2.2.1];exact this.1,this.2⟩
def Yo (es n al:Nat) (S:BS):BS:=prep al (es*n) (prep 4 (es*n) {S with nested:=true})
theorem QP {es n al k:Nat} (hn:S.nested=false) (hal:al=2^k) (hk:k<=3) (hl:S.buf.length+es*n+24<=536870912)
  (hR:∀H',Qd H' p (Yo es n al S) F (Nat.max ((4+es*n+1)-padOf al ((prep 4 (es*n) {S with nested:=true}).buf.length+es*n)) (al+es*n+1))->R (.int .u32 ((Yo es n al S).buf.length:Nat)) H'):
  FnS prog 306 #[.pointer (some ⟨p,0,none⟩),.int .i64 (es:Nat),.int .i64 (n:Nat),.int .i64 (al:Nat)] H R:=by
 have hes:((es:Int)*(n:Int))=((es*n:Nat):Int):=by rw[Int.natCast_mul]
 have hpp:=Zr (size:=4) (n:=S.buf.length+es*n) (by decide)
 apply w306
 unfold s306
 refine YW hB hn ?_
 simp only[↓Qs,↓Qm]
 refine Qcc hB ?_
 intro H1 h1
 rw[Z1,hes,wrap_i64 (n:=((es*n:Nat):Int)) (by omega) (by omega)]
 refine QY (size:=4) (add:=es*n) (k:=2) h1 (by decide) (by decide) rfl (by show S.buf.length+es*n+16<=536870912;omega) ?_
 intro H2 h2
 rw[Z1,hes,wrap_i64 (n:=((es*n:Nat):Int)) (by omega) (by omega)]
 refine QY (size:=al) (add:=es*n) (k:=k) h2 hal hk rfl ?_ ?_
 ·rw[QcH]
  show padOf 4 (S.buf.length+es*n)+S.buf.length+es*n+16<=536870912
  omega
 ·intro H3 h3
  refine Yl h3 ?_
  refine hR H3 (h3.room ?_)
  have g1:4+es*n+1<=Nat.max (r-padOf 4 ((({S with nested:=true}:BS)).buf.length+es*n)) (4+es*n+1):=Nat.le_max_right _ _
  generalize Nat.max (r-padOf 4 ((({S with nested:=true}:BS)).buf.length+es*n)) (4+es*n+1)=x at *
  exact Nat.max_le.2 ⟨Nat.le_trans (by omega) (Nat.le_max_left _ _),Nat.le_max_right _ _⟩
def Qjc (n:Nat) (S:BS):BS:={place (leB (n:Int) 4) S with nested:=false}
theorem Qap {n:Nat} (hn:S.nested=true) (hr:4<=r) (hlt:n<4294967296) (hR:∀H',Qd H' p (Qjc n S) F (r-4)->R (.int .u32 ((Qjc n S).buf.length:Nat)) H'):
  FnS prog 182 #[.pointer (some ⟨p,0,none⟩),.int .i64 (n:Nat)] H R:=by
 apply w182
 unfold s182
 refine QaB hB hn ?_
 rw[QH,QW (by omega) (by omega)]
 refine Qcg hB hr ?_
 intro H1 h1
 simp only[↓Qs,↓Qm]
 refine Qcc h1 ?_
 intro H2 h2
 refine Yl h2 ?_
 exact hR H2 h2
end
end Go.Proofs
namespace Go.Proofs
open Go Go.Vc
open Tryz (prog)
def createStr (xs:List UInt8) (S:BS):BS:=Qjc xs.length (place xs (place [0] (prep 4 (xs.length+1) {S with nested:=true})))
section
variable {H:Qe} {p:Nat} {S:BS} {F:Cut} {r:Nat} (hB:Qd H p S F r) {R:Kn}
include hB
theorem copy_in {xs:List UInt8} {kp:Qe->Prop} {y:Value} {k:Kn} (hx:xs.length<r) (h0:0<S.buf.length)
  (hy:∀H',(∀b o,F b=some o->H'[b]?=some o)->QhN H' 1 xs.length y=some (xs.map u8V)) (hly:lenV y=xs.length)
  (hk:∀H',Qd H' p (place xs S) F (r-xs.length)->k (.int .i64 (Nat.min (lenV y) xs.length)) H'):
  LdK H (.pointer (some ⟨p,5,none⟩)) fun x25=>Qk prog .sub 93 x25 (.int .u32 (xs.length:Nat)) fun x27=>
   StK H 1 (.pointer (some ⟨p,5,none⟩)) x27 fun h5=>
   LdK h5 (.pointer (some ⟨p,0,none⟩)) fun x33=>LdK h5 (.pointer (some ⟨p,5,none⟩)) fun x37=>LdK h5 (.pointer (some ⟨p,5,none⟩)) fun x41=>
   Qk prog .add 93 x41 (.int .u32 (xs.length:Nat)) fun x43=>Qey 1 x33 (some x37) (some x43) fun x44=>Qh5 h5 1 x44 y k:=by
 obtain ⟨hd,h1,⟨B,V,T,L,len,vtv,vtsv,e,eB,hr,h2,h3⟩⟩:=hB
 have hl:=hr.lt;have hlL:=hr.hlen
 rw[Ql (YN hr),QZ,QW (by omega) (by omega),show (hd:Int)-(xs.length:Int)=((hd-xs.length:Nat):Int) by omega,Qbg hr]
 have hr2:=Raw.setp (S':=S) (head':=hd-xs.length) hr rfl rfl
 rw[Ql (YM hr2),Ql (YN hr2),Ql (YN hr2),QA,QW (by omega) (by omega),bsl,Qgv (by omega) (by omega) (by omega)]
 have hne:¬L.length=((hd-xs.length:Nat):Int).toNat:=by omega
 rw[if_neg hne]
 simp only[Int.toNat_natCast,Nat.mul_one,Nat.zero_add]
 have hn:(((hd-xs.length:Nat):Int)+(xs.length:Int)).toNat-(hd-xs.length)=xs.length:=by omega
 rw[hn]
 have hmin:Nat.min (lenV y) xs.length=xs.length:=by rw[hly];exact Nat.min_self _
 refine ⟨xs.map u8V,?_,?_⟩
 ·rw[hmin]
  exact hy _ (fun b o hb=>(hr2.hF b o hb).1)
 ·refine ⟨_,setN_u8 hr2.hB (by omega),?_⟩
  refine hk _ ⟨hd-xs.length,by omega,⟨B,V,T,_,len,vtv,vtsv,e,eB,Raw.wr hr2 (Q7 _ _ _) rfl rfl rfl,?_,?_⟩⟩
  ·simp only[place,List.length_append];omega
  ·exact QaG hr.hlen h2 h3 (by omega)
omit hB in
theorem byteCells_all (s:ByteArray):(Z2 (s.extract 0 s.size)).toList=s.toList.map u8V:=by
 have:s.extract 0 s.size=s:=by simp
 rw[this]
 simp[Z2,ByteArray.toList_eq]
set_option maxHeartbeats 1000000 in
theorem QcG {s:ByteArray} {xs:List UInt8} (hs:s.toList=xs) (hn:S.nested=false) (hl:S.buf.length+xs.length+24<=536870912)
  (hR:∀H',Qd H' p (createStr xs S) F 0->R (.int .u32 ((createStr xs S).buf.length:Nat)) H'):
  FnS prog 177 #[.pointer (some ⟨p,0,none⟩),.string s] H R:=by
 have hsz:s.size=xs.length:=by rw[<-hs,ByteArray.toList_eq,Array.length_toList];rfl
 apply w177
 unfold s177
 refine YW hB hn ?_
 simp only[↓Qs,↓Qm,↓Qdo,hsz]
 refine Qcc hB ?_
 intro H1 h1
 rw[QA,Z1,wrap_i64 (n:=(xs.length:Int)+1) (by omega) (by omega),wrap_i64 (by omega) (by omega)]
 refine QY (size:=4) (add:=xs.length+1) (k:=2) h1 (by decide) (by decide) (by omega) (by show S.buf.length+(xs.length+1)+16<=536870912;omega) ?_
 intro H2 h2
 have g1:4+(xs.length+1)+1<=Nat.max (r-padOf 4 ((({S with nested:=true}:BS)).buf.length+(xs.length+1))) (4+(xs.length+1)+1):=Nat.le_max_right _ _
 refine Qao (b:=0) (h2.room g1) (by omega) ?_
 intro H3 h3
 rw[QH,QW (by omega) (by omega)]
 refine copy_in (xs:=xs) (kp:=fun _=>True) h3 (by omega) (by simp[place]) ?_ hsz ?_
 ·intro H' _
  show some (Z2 (s.extract 0 xs.length)).toList=_
  rw[<-hsz,byteCells_all,hs]
 ·intro H4 h4
  refine Qap h4 (by simp[place,prep]) (by omega) (by omega) ?_
  intro H5 h5
  exact hR H5 (h5.room (by omega))
set_option maxHeartbeats 1000000 in
theorem Qea {xs:List UInt8} {a:Option Addr} {c:Nat} (hs:∀H',(∀b o,F b=some o->H'[b]?=some o)->QhN H' 1 xs.length (.slice a xs.length c)=some (xs.map u8V)) (hn:S.nested=false) (hl:S.buf.length+xs.length+24<=536870912)
  (hR:∀H',Qd H' p (createStr xs S) F 0->R (.int .u32 ((createStr xs S).buf.length:Nat)) H'):
  FnS prog 178 #[.pointer (some ⟨p,0,none⟩),.slice a xs.length c] H R:=by
 apply w178
 unfold s178
 refine YW hB hn ?_
 simp only[↓Qs,↓Qm,↓QbK]
 refine Qcc hB ?_
 intro H1 h1
 rw[QA,Z1,wrap_i64 (n:=(xs.length:Int)+1) (by omega) (by omega),wrap_i64 (by omega) (by omega)]
 refine QY (size:=4) (add:=xs.length+1) (k:=2) h1 (by decide) (by decide) (by omega) (by show S.buf.length+(xs.length+1)+16<=536870912;omega) ?_
 intro H2 h2
 have g1:4+(xs.length+1)+1<=Nat.max (r-padOf 4 ((({S with nested:=true}:BS)).buf.length+(xs.length+1))) (4+(xs.length+1)+1):=Nat.le_max_right _ _
 refine Qao (b:=0) (h2.room g1) (by omega) ?_
 intro H3 h3
 rw[QH,QW (by omega) (by omega)]
 refine copy_in (xs:=xs) (kp:=fun _=>True) h3 (by omega) (by simp[place]) hs rfl ?_
 intro H4 h4
 refine Qap h4 (by simp[place,prep]) (by omega) (by omega) ?_
 intro H5 h5
 exact hR H5 (h5.room (by omega))
def Qad (n:Nat) (S:BS):BS:={S with nested:=true,vt:=List.replicate n 0,oe:=S.buf.length}
omit hB in
theorem set_rep (n i:Nat) (W:List Nat) (hi:i<n) (hn:n<=W.length) (h:W.take i=List.replicate i 0):(W.set i 0).take (i+1)=List.replicate (i+1) 0:=by
 rw[List.take_set,List.take_add_one,h]
 have:W[i]?.toList=[W[i]'(by omega)]:=by rw[List.getElem?_eq_getElem (by omega)];rfl
 rw[this,List.set_append]
 simp[List.replicate_succ']
set_option maxHeartbeats 1000000 in
theorem Z3 {n:Nat} (hn:S.nested=false) (hlt:n<1000)
  (hR:∀H',Qd H' p (Qad n S) F r->R (.tuple #[]) H'):
  FnS prog 324 #[.pointer (some ⟨p,0,none⟩),.int .i64 (n:Nat)] H R:=by
 apply w324
 unfold s324
 refine YW hB hn ?_
 simp only[↓Qs,↓Qm]
 refine Qcc hB ?_
 intro H1 h1
 have key:∀H2,Qd H2 p {S with nested:=true,vt:=List.replicate n 0} F r->FnS prog 301 #[.pointer (some ⟨p,0,none⟩)] H2 fun x55 h14=>
   StK h14 1 (.pointer (some ⟨p,3,none⟩)) x55 fun h15=>R (.tuple #[]) h15:=by
  intro H2 h2
  refine Yl h2 ?_
  refine st_oe_at h2 ?_
  intro H3 h3
  exact hR H3 h3
 obtain ⟨hd,hh,⟨B,V,T,L,len,vtv,vtsv,e,eB,hr,g2,g3⟩⟩:=h1
 refine Q0 (fun _ h=>Qd h p {S with nested:=true,vt:=List.replicate n 0} F r) ?_ ?_
 ·simp only[↓Qs,↓Qm,↓Ql (QiH hr)]
  obtain ⟨l1,l2,l3,l4⟩:=hr.V_lt
  have fresh:Qe3 H1 93 4 z93 (.int .i64 (n:Nat)) (.int .i64 (n:Nat)) fun x26 h8=>
    StK h8 1 (.pointer (some ⟨p,2,none⟩)) x26 fun h9=>Qd h9 p {S with nested:=true,vt:=List.replicate n 0} F r:=by
   refine ⟨by omega,by omega,by omega,by omega,?_⟩
   simp only[Int.toNat_natCast]
   rw[mk_u32 (z:=z93) rfl]
   have hp:(H1.push (.cells (QgU (List.replicate n 0)) 93))[p]?=_:=Yy hr.hp
   rw[Qas hp (by decide:2<9) (by simp) rfl]
   refine ⟨hd,hh,⟨B,H1.size,T,L,len,.slice (some ⟨H1.size,0,none⟩) n n,vtsv,e,eB,?_,g2,g3⟩⟩
   refine ⟨QV hp,?_,Or.inr ⟨⟨List.replicate n 0,93,by simp,?_,by simp,by simp⟩,by omega,by omega,by omega⟩,?_,hr.pB,hr.pT,hr.BT,?_,hr.hlen,hr.lt⟩
   ·rw[Qw (Ne.symm hr.pB)];exact Yy hr.hB
   ·rw[Qw (by omega)];exact Qh
   ·refine hr.hT.mono ?_
    rw[Qw (Ne.symm hr.pT),Array.getElem?_push,if_neg (by omega)]
   ·intro b o hb
    have:=hr.hF b o hb
    have hbl:=Y3 this.1
    exact ⟨by rw[Qw this.2.1];exact Yy this.1,this.2.1,this.2.2.1,by omega,this.2.2.2.2⟩
  rcases hr.hV with ⟨rfl,hvn,hVp⟩|⟨⟨W,eW,rfl,hW,hW2,hW3⟩,n1,n2,n3⟩
  ·simp only[↓CapK_sl,↓Yr]
   by_cases h0:((0:Nat):Int)<(n:Int)
   ·simp only[decide_eq_true h0,↓Yz,↓Ye,↓QbS]
    exact fresh
   ·simp only[decide_eq_false h0,↓Y0,↓Qs,↓Qm,↓Ql (QiH hr)]
    rw[BinK_sleq (e:=93) (by kernel_rfl)]
    simp only[Option.isNone_none,↓YY,↓QbS]
    exact fresh
  ·simp only[↓CapK_sl,↓Yr]
   by_cases h0:(W.length:Int)<(n:Int)
   ·simp only[decide_eq_true h0,↓Yz,↓Ye,↓QbS]
    exact fresh
   ·simp only[decide_eq_false h0,↓Y0,↓Qs,↓Qm,↓Ql (QiH hr)]
    rw[BinK_sleq (e:=93) (by kernel_rfl)]
    simp only[Option.isNone_some,↓YY,↓ZG]
    rw[SlcK_hi (by omega) (by omega),Int.toNat_natCast,Qas hr.hp (by decide:2<9) (by simp) rfl]
    have hp2:=QV (o:=.cells ((QfL B len L.length {S with nested:=true} (.slice (some ⟨V,0,none⟩) S.vt.length W.length) vtsv hd).setIfInBounds 2 (.slice (some ⟨V,0,none⟩) n W.length)) e (0,0)) hr.hp
    refine ⟨fun m vs h=>∃i:Nat,vs=[.int .i64 (i:Int)]/\i<=n/\m=n-i/\∃W':List Nat,W'.length=W.length/\W'.take i=List.replicate i 0/\
     Raw h p {S with nested:=true,vt:=W'.take n} F B V T L len hd (.slice (some ⟨V,0,none⟩) n W.length) vtsv e eB/\h[V]?=some (.cells (QgU W') eW (0,0)),⟨n,0,rfl,by omega,by omega,W,rfl,rfl,?_,?_⟩,fun m=>?_⟩
    ·refine ⟨hp2,?_,Or.inr ⟨⟨W,eW,?_,?_,?_,?_⟩,n1,n2,n3⟩,hr.hT.mono (Qw (Ne.symm hr.pT)),hr.pB,hr.pT,hr.BT,?_,hr.hlen,hr.lt⟩
     ·rw[Qw (Ne.symm hr.pB)];exact hr.hB
     ·have:(W.take n).length=n:=by simp;omega
      rw[this]
     ·rw[Qw n1];exact hW
     ·have:(W.take n).length=n:=by simp;omega
      rw[this]
     ·simp;omega
     ·intro b o hb
      have:=hr.hF b o hb
      exact ⟨by rw[Qw this.2.1];exact this.1,this.2⟩
    ·rw[Qw n1];exact hW
    ·rintro x4 h11 ⟨i,hx,hi,rfl,W',hWl,hWt,hr',hWc⟩
     cases hx
     simp only[↓Ql (QiH hr'),↓QbK,↓Yr]
     apply Zd
     ·intro hlt'
      rw[QR (by omega) (by omega),Int.toNat_natCast,Nat.mul_one,Nat.zero_add]
      have:(Value.int .u32 0)= .int .u32 ((0:Nat):Int):=rfl
      rw[this,Qas hWc (by rw[QhW];omega) (by simp) rfl,u32c_set,QA,wrap_i64 (by omega) (by omega)]
      refine ⟨n-(i+1),by omega,i+1,rfl,by omega,rfl,W'.set i 0,by simp[hWl],set_rep n i W' (by omega) (by omega) hWt,?_,QV hWc⟩
      refine ⟨by rw[Qw (Ne.symm n1)];exact hr'.hp,by rw[Qw (Ne.symm n2)];exact hr'.hB,Or.inr ⟨⟨W'.set i 0,eW,?_,QV hWc,?_,?_⟩,n1,n2,n3⟩,hr'.hT.mono (Qw (Ne.symm n3)),hr.pB,hr.pT,hr.BT,?_,hr.hlen,hr.lt⟩
      ·have:((W'.set i 0).take n).length=n:=by simp;omega
       rw[this,List.length_set,hWl]
      ·have:((W'.set i 0).take n).length=n:=by simp;omega
       rw[this]
      ·simp;omega
      ·intro b o hb
       have:=hr'.hF b o hb
       exact ⟨by rw[Qw this.2.2.2.1];exact this.1,this.2⟩
     ·intro hge
      have:i=n:=by omega
      subst this
      rw[hWt]at hr'
      exact ⟨hd,hh,⟨B,V,T,L,len,_,vtsv,e,eB,hr',g2,g3⟩⟩
 ·intro h13 hb
  exact key h13 hb
end
end Go.Proofs
namespace Go.Proofs
open Go Go.Vc
open Tryz (prog)
def Qa6:List Nat->Nat
 |[]=>0
 |x::xs=>if Qa6 xs=0/\x=0 then 0 else Qa6 xs+1
theorem trimLen_le:∀l:List Nat,Qa6 l<=l.length
 |[]=>by simp[Qa6]
 |x::xs=>by
  have:=trimLen_le xs
  simp only[Qa6,List.length_cons]
  split<;>omega
theorem Qg7:∀(l:List Nat),(∀j,j<l.length->l.getD j 0=0)->Qa6 l=0
 |[],_=>rfl
 |x::xs,h=>by
  have h0:x=0:=by simpa using h 0 (by simp)
  have h1:=Qg7 xs (fun j hj=>by simpa using h (j+1) (by simp;omega))
  simp[Qa6,h0,h1]
theorem Qiu:∀(l:List Nat) (i:Nat),(∀j,i<=j->j<l.length->l.getD j 0=0)->i<=l.length->(i=0\/l.getD (i-1) 0≠0)->Qa6 l=i
 |l,0,h,_,_=>Qg7 l (fun j hj=>h j (by omega) hj)
 |[],i+1,_,h,_=>by simp at h
 |x::xs,1,h,_,h2=>by
  have h1:=Qg7 xs (fun j hj=>by simpa using h (j+1) (by omega) (by simp;omega))
  rcases h2 with h2|h2
  ·omega
  ·simp only[Nat.sub_self,List.getD_cons_zero]at h2
   simp[Qa6,h1,h2]
 |x::xs,i+2,h,hl,h2=>by
  have h1:=Qiu xs (i+1) (fun j hj hj2=>by simpa using h (j+1) (by omega) (by simp;omega)) (by simp at hl;omega) (by
   rcases h2 with h2|h2
   ·omega
   ·right
    have e:i+2-1=(i+1-1)+1:=by omega
    rw[e,List.getD_cons_succ]at h2
    exact h2)
  simp only[Qa6,h1]
  rw[if_neg (by omega)]
def VtSl (H:Qe) (V:Nat) (v:Value) (l:List Nat):Prop:=(v= .slice none 0 0/\l=[])\/U32Sl H V v l
theorem VtSl.len {H:Qe} {V:Nat} {v:Value} {l:List Nat} (h:VtSl H V v l) {k:Value->Prop}:Yv v k=k (.int .i64 l.length):=by
 rcases h with ⟨rfl,rfl⟩|⟨W,e,rfl,_⟩<;>rfl
theorem VtSl.idx {H:Qe} {V:Nat} {v:Value} {l:List Nat} (h:VtSl H V v l) {j:Nat} {x:Int} (hx:x=(j:Nat)) (hj:j<l.length):
  (∀k:Value->Prop,Y1 1 v (.int .i64 x) k=k (.pointer (some ⟨V,j,none⟩)))/\QaW H ⟨V,j,none⟩=some (.int .u32 (l.getD j 0:Nat)):=by
 subst hx
 rcases h with ⟨rfl,rfl⟩|⟨W,e,rfl,h2,h3,h4⟩
 ·simp at hj
 ·constructor
  ·intro k
   rw[QR (by omega) (by omega),Int.toNat_natCast,Nat.mul_one,Nat.zero_add]
  ·rw[Qj h2,u32c_get (by omega),<-h3]
   congr 2
   simp[List.getD,List.getElem?_take,hj]
theorem Raw.vtSl {H:Qe} {p:Nat} {S:BS} {F:Cut} {B V T:Nat} {L:List UInt8} {len head:Nat} {vtv vtsv:Value} {e eB:TypeId}
  (hr:Raw H p S F B V T L len head vtv vtsv e eB):VtSl H V vtv S.vt:=by
 rcases hr.hV with ⟨h1,h2,_⟩|⟨h,_⟩
 ·exact Or.inl ⟨h1,h2⟩
 ·exact Or.inr h
theorem st_vt_take {H:Qe} {p:Nat} {S:BS} {F:Cut} {B V T:Nat} {L:List UInt8} {len head:Nat} {vtv vtsv:Value} {e eB:TypeId}
  (hr:Raw H p S F B V T L len head vtv vtsv e eB) {i:Nat} {x:Int} (hx:x=(i:Nat)) (hi:i<=S.vt.length) {kp:Qe->Prop}
  (hk:∀H' vtv',Raw H' p {S with vt:=S.vt.take i} F B V T L len head vtv' vtsv e eB->kp H'):
  Qey 1 vtv none (some (.int .i64 x)) fun x50=>StK H 1 (.pointer (some ⟨p,2,none⟩)) x50 kp:=by
 subst hx
 rcases hr.hV with ⟨rfl,hn,hVp⟩|⟨⟨W,eW,rfl,hW,hW2,hW3⟩,n1,n2,n3⟩
 ·rw[hn]at hi
  have h0:i=0:=by simpa using hi
  subst h0
  rw[SlcK_hi (by omega) (by omega),Qas hr.hp (by decide:2<9) (by simp) rfl]
  refine hk _ (.slice none 0 0) ?_
  refine ⟨QV hr.hp,?_,Or.inl ⟨rfl,by simp,hVp⟩,hr.hT.mono (Qw (Ne.symm hr.pT)),hr.pB,hr.pT,hr.BT,?_,hr.hlen,hr.lt⟩
  ·rw[Qw (Ne.symm hr.pB)];exact hr.hB
  ·intro b o hb
   have:=hr.hF b o hb
   exact ⟨by rw[Qw this.2.1];exact this.1,this.2⟩
 ·rw[SlcK_hi (by omega) (by omega),Int.toNat_natCast,Qas hr.hp (by decide:2<9) (by simp) rfl]
  refine hk _ (.slice (some ⟨V,0,none⟩) i W.length) ?_
  have hl:(S.vt.take i).length=i:=by simp;omega
  refine ⟨QV hr.hp,?_,Or.inr ⟨⟨W,eW,?_,?_,?_,?_⟩,n1,n2,n3⟩,hr.hT.mono (Qw (Ne.symm hr.pT)),hr.pB,hr.pT,hr.BT,?_,hr.hlen,hr.lt⟩
  ·rw[Qw (Ne.symm hr.pB)];exact hr.hB
  ·rw[hl]
  ·rw[Qw n1];exact hW
  ·rw[hl,<-hW2,List.take_take,Nat.min_eq_left hi]
  ·rw[hl];omega
  ·intro b o hb
   have:=hr.hF b o hb
   exact ⟨by rw[Qw this.2.1];exact this.1,this.2⟩
def Qj5 (l:List Nat) (oo:Nat) (bs:List UInt8) (o n:Nat):Bool:=
 decide (2*l.length=n)&&(List.range l.length).all fun i=>(decide (le2 bs (o+2*i)=0)&&decide (l.getD i 0=0))||decide ((le2 bs (o+2*i):Int)=(oo:Int)-(l.getD i 0:Nat))
theorem Qj1 {l:List Nat} {oo n o o':Nat} {bs bs':List UInt8} (h:∀i,i<n->byteN bs (o+i)=byteN bs' (o'+i)):Qj5 l oo bs o n=Qj5 l oo bs' o' n:=by
 unfold Qj5
 by_cases hl:2*l.length=n
 ·rw[decide_eq_true hl,Bool.true_and,Bool.true_and]
  apply Bool.eq_iff_iff.2
  simp only[List.all_eq_true,List.mem_range]
  have e:∀i,i<l.length->le2 bs (o+2*i)=le2 bs' (o'+2*i):=by
   intro i hi
   unfold le2
   rw[h (2*i) (by omega),Nat.add_assoc o,h (2*i+1) (by omega)]
   rfl
  constructor
  ·intro hh i hi;rw[<-e i hi];exact hh i hi
  ·intro hh i hi;rw[e i hi];exact hh i hi
 ·rw[decide_eq_false hl,Bool.false_and,Bool.false_and]
section
variable {H:Qe} {R:Kn}
set_option maxHeartbeats 1000000 in
theorem go_vtableEqual {V B o n c oo:Nat} {v:Value} {l:List Nat} {bs:List UInt8} (hv:VtSl H V v l) (hb:U8s H B 0 bs) (hn:o+n<=bs.length) (hc:n<=c) (hbn:n<1073741824)
  (hoo:oo<1073741824) (hl:∀j,l.getD j 0<=oo) (hll:l.length<1073741824) (hR:R (.bool (Qj5 l oo bs o n)) H):
  FnS prog 390 #[v,.int .u32 (oo:Nat),bsl B o n c] H R:=by
 apply w390
 unfold s390
 rw[hv.len,Z1,bsl,QbK,Yp]
 by_cases heq:2*l.length=n
 ·rw[wrap_i64 (by omega) (by omega),QM (by omega)]
  unfold Qj5 at hR
  rw[decide_eq_true heq,Bool.true_and]at hR
  refine Q0 (fun _ h=>h=H/\(List.range l.length).all (fun i=>(decide (le2 bs (o+2*i)=0)&&decide (l.getD i 0=0))||decide ((le2 bs (o+2*i):Int)=(oo:Int)-(l.getD i 0:Nat)))=true) ?_ ?_
  ·refine ⟨fun m vs h=>∃(i:Nat) (b:Value),vs=[.int .i64 (i:Int),b]/\i<=l.length/\m=l.length-i/\h=H/\
    ∀j,j<i->((decide (le2 bs (o+2*j)=0)&&decide (l.getD j 0=0))||decide ((le2 bs (o+2*j):Int)=(oo:Int)-(l.getD j 0:Nat)))=true,⟨l.length,0,_,rfl,by omega,by omega,rfl,by omega⟩,fun m=>?_⟩
   rintro x7 x6 h1 ⟨i,b,hx,hi,rfl,rfl,hall⟩
   cases hx
   rw[hv.len,Yr]
   by_cases hlt:i<l.length
   ·rw[Yb (by omega)]
    obtain ⟨hidx,hcell⟩:=hv.idx (j:=i) rfl hlt
    have h2b:=le2_lt bs (o+2*i)
    have hlj:=hl i
    have again:((decide (le2 bs (o+2*i)=0)&&decide (l.getD i 0=0))||decide ((le2 bs (o+2*i):Int)=(oo:Int)-(l.getD i 0:Nat)))=true->
      Qk prog .add 3 (.int .i64 (i:Int)) (.int .i64 1) fun x21=>QS (fun m vs h=>∃(i:Nat) (b:Value),vs=[.int .i64 (i:Int),b]/\i<=l.length/\m=l.length-i/\h=h1/\
       ∀j,j<i->((decide (le2 bs (o+2*j)=0)&&decide (l.getD j 0=0))||decide ((le2 bs (o+2*j):Int)=(oo:Int)-(l.getD j 0:Nat)))=true) (l.length-i) [x21,x6] h1:=by
     intro hh
     rw[QA,wrap_i64 (by omega) (by omega)]
     refine ⟨l.length-(i+1),by omega,i+1,x6,rfl,by omega,rfl,rfl,?_⟩
     intro j hj
     by_cases hji:j<i
     ·exact hall j hji
     ·have:j=i:=by omega
      subst this;exact hh
    refine Q0 (fun vs h=>vs=[x6]/\h=h1/\((decide (le2 bs (o+2*i)=0)&&decide (l.getD i 0=0))||decide ((le2 bs (o+2*i):Int)=(oo:Int)-(l.getD i 0:Nat)))=true) ?_ ?_
    ·rw[Z1,QA,Z1,wrap_i64 (n:=(i:Int)*2) (by omega) (by omega),wrap_i64 (n:=(i:Int)+1) (by omega) (by omega),wrap_i64 (by omega) (by omega)]
     rw[Qgv (by omega) (by omega) (by omega)]
     have hne:¬c=((i:Int)*2).toNat:=by omega
     rw[if_neg hne]
     have e1:o+((i:Int)*2).toNat*1=o+2*i:=by omega
     rw[e1]
     refine Qdh hb (by omega) (by omega) ?_
     rw[Yt]
     by_cases hz:le2 bs (o+2*i)=0
     ·simp only[hz,show ((0:Nat):Int)=0 from rfl,decide_true,↓QU,hidx,↓Ql hcell,↓Yt,↓Ye]
      apply Zd
      ·intro h0
       have h0':l.getD i 0=0:=by omega
       exact ⟨by first|rfl|trivial,by first|rfl|trivial,by rw[h0'];rfl⟩
      ·intro h0
       have h0':¬l.getD i 0=0:=by omega
       simp only[↓QH,↓QZ,↓Yp]
       rw[Zq (n:=(oo:Int)) (by omega) (by omega),Zq (n:=((l.getD i 0:Nat):Int)) (by omega) (by omega),Zq (n:=(oo:Int)-((l.getD i 0:Nat):Int)) (by omega) (by omega),Zq (n:=(0:Int)) (by omega) (by omega)]
       apply Zd
       ·intro hne2
        have hf:(List.range l.length).all (fun i=>(decide (le2 bs (o+2*i)=0)&&decide (l.getD i 0=0))||decide ((le2 bs (o+2*i):Int)=(oo:Int)-(l.getD i 0:Nat)))=false:=by
         rw[List.all_eq_false]
         refine ⟨i,List.mem_range.2 hlt,?_⟩
         rw[hz]
         simp only[decide_true,Bool.true_and,Bool.or_eq_true,decide_eq_true_eq,not_or]
         exact ⟨h0',hne2⟩
        rw[hf]at hR
        exact hR
       ·intro heq2
        refine ⟨by first|rfl|trivial,by first|rfl|trivial,?_⟩
        simp only[Bool.or_eq_true,decide_eq_true_eq]
        right;omega
     ·have hz2:¬(le2 bs (o+2*i):Int)=0:=by omega
      simp only[decide_eq_false hz2,↓Y8,↓YY,↓ZG]
      simp only[↓QH,hidx,↓Ql hcell,↓QZ,↓Yp]
      rw[Zq (n:=(oo:Int)) (by omega) (by omega),Zq (n:=((l.getD i 0:Nat):Int)) (by omega) (by omega),Zq (n:=(oo:Int)-((l.getD i 0:Nat):Int)) (by omega) (by omega),Zq (n:=(le2 bs (o+2*i):Int)) (by omega) (by omega)]
      apply Zd
      ·intro hne2
       have hf:(List.range l.length).all (fun i=>(decide (le2 bs (o+2*i)=0)&&decide (l.getD i 0=0))||decide ((le2 bs (o+2*i):Int)=(oo:Int)-(l.getD i 0:Nat)))=false:=by
        rw[List.all_eq_false]
        refine ⟨i,List.mem_range.2 hlt,?_⟩
        simp only[decide_eq_false hz,Bool.false_and,Bool.false_or,decide_eq_true_eq]
        exact hne2
       rw[hf]at hR
       exact hR
      ·intro heq2
       refine ⟨by first|rfl|trivial,by first|rfl|trivial,?_⟩
       simp only[decide_eq_false hz,Bool.false_and,Bool.false_or,decide_eq_true_eq]
       omega
    ·rintro x h8 ⟨hx,rfl,hh⟩
     cases hx
     exact again hh
   ·rw[QM (by omega)]
    refine ⟨rfl,?_⟩
    rw[List.all_eq_true]
    intro j hj
    exact hall j (by have:=List.mem_range.1 hj;omega)
  ·rintro x7 x6 h9 ⟨rfl,hh⟩
   rw[hh]at hR
   exact hR
 ·rw[Yb]
  ·unfold Qj5 at hR
   rw[decide_eq_false heq,Bool.false_and]at hR
   exact hR
  ·rw[wrap_i64 (by omega) (by omega)]
   omega
end
end Go.Proofs
namespace Go.Proofs
open Go Go.Vc
open Tryz (prog)
def QcF (f:Nat->Bool):List Nat->Nat
 |[]=>0
 |x::xs=>if QcF f xs≠0 then QcF f xs else if f x=true then x else 0
theorem findVt_snoc (f:Nat->Bool) (x:Nat) (hx:x≠0):∀l:List Nat,QcF f (l++[x])=if f x=true then x else QcF f l
 |[]=>by simp[QcF]
 |y::l=>by
  rw[List.cons_append,QcF,findVt_snoc f x hx l,QcF]
  by_cases h:f x=true
  ·simp[h,hx]
  ·simp[h]
theorem findVt_mem (f:Nat->Bool):∀l:List Nat,QcF f l≠0->QcF f l∈l/\f (QcF f l)=true
 |[],h=>absurd rfl h
 |x::xs,h=>by
  rw[QcF]at h⊢
  by_cases h1:QcF f xs≠0
  ·rw[if_pos h1]
   have:=findVt_mem f xs h1
   exact ⟨List.mem_cons_of_mem _ this.1,this.2⟩
  ·rw[if_neg h1]at h⊢
   by_cases h2:f x=true
   ·rw[if_pos h2];exact ⟨List.mem_cons_self,h2⟩
   ·rw[if_neg h2]at h;exact absurd rfl h
def QaE (oo:Nat):List Nat->BS->BS
 |[],S=>S
 |v::vs,S=>putN 2 (leB ((if v≠0 then oo-v else 0:Nat):Int) 2) (QaE oo vs S)
theorem Qi0 {k:Nat} {xs:List UInt8} {S:BS}:(putN k xs S).buf.length=xs.length+padOf k S.buf.length+S.buf.length:=by
 simp[putN,place,prep];omega
theorem QdY (oo:Nat):∀(vs:List Nat) (S:BS),(QaE oo vs S).vt=S.vt/\(QaE oo vs S).vts=S.vts/\(QaE oo vs S).oe=S.oe/\(QaE oo vs S).nested=S.nested/\(QaE oo vs S).fin=S.fin
 |[],S=>⟨rfl,rfl,rfl,rfl,rfl⟩
 |v::vs,S=>QdY oo vs S
theorem wrEnt_len (oo:Nat):∀(vs:List Nat) (S:BS),S.buf.length<=(QaE oo vs S).buf.length/\(QaE oo vs S).buf.length<=S.buf.length+3*vs.length
 |[],S=>by simp[QaE]
 |v::vs,S=>by
  have:=wrEnt_len oo vs S
  have h2:=Zr (size:=2) (n:=(QaE oo vs S).buf.length) (by decide)
  rw[QaE,Qi0,Qf,List.length_cons]
  omega
def Qf5 (q:Nat) (x:Int) (S:BS):BS:={S with buf:=Zt S.buf q (leB x 4)}
def Qc2 (vt:List Nat) (oo:Nat) (buf:List UInt8) (o:Nat):Bool:=Qj5 vt oo buf (oo-o+4) (le2 buf (oo-o)-4)
def endObj (S:BS):BS:=
 let S1:=putOff 0 S
 let oo:=S1.buf.length
 let vt:=S1.vt.take (Qa6 S1.vt)
 let ex:=QcF (Qc2 vt oo S1.buf) S1.vts
 if ex=0 then
  let S2:=putN 2 (leB ((2*(vt.length+2):Nat):Int) 2) (putN 2 (leB ((oo-S.oe:Nat):Int) 2) (QaE oo vt {S1 with vt:=vt}))
  {Qf5 (S2.buf.length-oo) ((S2.buf.length-oo:Nat):Int) S2 with vts:=S2.vts++[S2.buf.length],vt:=[],nested:=false}
 else {Qf5 0 ((ex:Int)-(oo:Int)) S1 with vt:=[],nested:=false}
def Qiw (S:BS):Prop:=∀o∈S.vts,0<o/\o<=S.buf.length/\4<=le2 S.buf (S.buf.length-o)/\le2 S.buf (S.buf.length-o)<=o
theorem Qi7 {L:List UInt8} {len head q:Nat} {buf:List UInt8} (h:(L.take len).drop head=buf) (hq:q<buf.length):byteN L (head+q)=byteN buf q:=by
 unfold byteN
 congr 1
 have hb:buf.length=(L.take len).length-head:=by rw[<-h,List.length_drop]
 have hlt:head+q<(L.take len).length:=by omega
 have h1:buf[q]?=(L.take len)[head+q]?:=by rw[<-h,List.getElem?_drop]
 have h2:(L.take len)[head+q]?=L[head+q]?:=by
  rw[List.getElem?_take,if_pos]
  simp at hlt;omega
 simp only[List.getD,h1,h2]
theorem le2_sub {L:List UInt8} {len head q:Nat} {buf:List UInt8} (h:(L.take len).drop head=buf) (hq:q+2<=buf.length):le2 L (head+q)=le2 buf q:=by
 unfold le2
 rw[Qi7 h (by omega),Nat.add_assoc,Qi7 h (by omega)]
theorem put_mid {L:List UInt8} {len head q:Nat} {xs buf:List UInt8} (hl:len<=L.length) (hh:head+buf.length=len) (hb:(L.take len).drop head=buf) (hx:q+xs.length<=buf.length):
  ((Zt L (head+q) xs).take len).drop head=Zt buf q xs:=by
 rw[Qbq _ _ _ (by omega),Qbq _ _ _ hx,<-hb]
 apply List.ext_getElem?
 intro i
 simp only[List.getElem?_drop,List.getElem?_take,List.getElem?_append,List.length_append,List.length_take]
 have m1:min (head+q) L.length=head+q:=by omega
 have m2:min q ((L.take len).drop head).length=q:=by simp;omega
 have m3:min (head+q) L.length=head+q:=by omega
 simp only[m1,List.length_drop,List.length_take]
 have m4:min q (min len L.length-head)=q:=by omega
 rw[m4]
 by_cases h1:head+i<len
 ·rw[if_pos h1]
  by_cases h2:head+i<head+q+xs.length
  ·have h2':i<q+xs.length:=by omega
   rw[if_pos h2,if_pos h2']
   by_cases h3:head+i<head+q
   ·have h3':i<q:=by omega
    rw[if_pos h3,if_pos h3',if_pos h3,if_pos h3',if_pos h1]
   ·have h3':¬i<q:=by omega
    rw[if_neg h3,if_neg h3']
    congr 1;omega
  ·have h2':¬i<q+xs.length:=by omega
   rw[if_neg h2,if_neg h2']
   have e:head+(q+xs.length+(i-(q+xs.length)))=head+i:=by omega
   rw[e,if_pos h1]
   congr 1;omega
 ·rw[if_neg h1]
  have h2':¬i<q+xs.length:=by omega
  rw[if_neg h2',if_neg (show ¬head+(q+xs.length+(i-(q+xs.length)))<len by omega)]
theorem Qim (x:Int):leB (IntKind.u16.wrap x) 2=leB x 2:=by
 rw[leB_2,leB_2]
 have h:IntKind.u16.wrap x=x%65536:=by simp[IntKind.wrap,IntKind.bits,IntKind.signed]
 have e0:YU (x%65536) 0=YU x 0:=by
  unfold YU
  congr 2
  first|(simp;done)|(simp;omega)
 have e1:YU (x%65536) 1=YU x 1:=by
  unfold YU
  congr 2
  first|(simp;done)|(simp;omega)
 rw[h,e0,e1]
end Go.Proofs
namespace Go.Proofs
open Go Go.Vc
open Tryz (prog)
theorem app_vts {H:Qe} {p:Nat} {S:BS} {F:Cut} {B V T:Nat} {L:List UInt8} {len head:Nat} {vtv vtsv:Value} {e eB:TypeId}
  (hr:Raw H p S F B V T L len head vtv vtsv e eB) {x Y:Nat} {et:TypeId} {kp:Qe->Prop} (hY:H[Y]?=some (.cells #[.int .u32 (x:Int)] et (0,0))) (hYp:Y≠p/\Y≠B/\Y≠V/\Y≠T) (hlt:S.vts.length<1073741824)
  (hk:∀H' T' vtsv',Raw H' p {S with vts:=S.vts++[x]} F B V T' L len head vtv vtsv' e eB->kp H'):
  Qbs H et 1 4 z93 vtsv (.slice (some ⟨Y,0,none⟩) 1 1) fun x190 h28=>StK h28 1 (.pointer (some ⟨p,4,none⟩)) x190 kp:=by
 obtain ⟨W,eW,rfl,hW,hW2,hW3⟩:=hr.hT
 obtain ⟨l1,l2,l3,l4⟩:=hr.V_lt
 have hnew:Qgs H (1*1) (.slice (some ⟨Y,0,none⟩) 1 1)=some [.int .u32 (x:Int)]:=by
  show Zf H ⟨Y,0,none⟩ 0 1=_
  rw[Q4 hY 1 (by simp)]
  rfl
 constructor
 ·intro hcap
  refine ⟨_,hnew,?_⟩
  have hW':H[T]?=some (.cells (W.map fun (n:Nat)=>Value.int .u32 (n:Int)).toArray eW (0,0)):=hW
  have hs:=Qes [.int .u32 (x:Int)] (o:=S.vts.length) (i:=0) hW' (by simp[Value.oneCell']) (by simp;omega) (by simp)
  have e1:(Zt (W.map fun (n:Nat)=>Value.int .u32 (n:Int)) (S.vts.length+0) [.int .u32 (x:Int)]).toArray=QgU (W.set S.vts.length x):=by
   simp[Zt,QgU,List.map_set]
  simp only[e1]at hs
  refine ⟨setB H T (.cells (QgU (W.set S.vts.length x)) eW (0,0)),?_,?_⟩
  ·rw[QeC,Nat.mul_one,Nat.zero_add]
   exact hs
  ·show StK _ 1 _ _ kp
   have hp:(setB H T (.cells (QgU (W.set S.vts.length x)) eW (0,0)))[p]?=_:=(Qw hr.pT).trans hr.hp
   rw[Qas hp (by decide:4<9) (by simp) rfl]
   refine hk _ T (.slice (some ⟨T,0,none⟩) (S.vts.length+1) W.length) ?_
   refine ⟨QV hp,?_,?_,⟨W.set S.vts.length x,eW,?_,?_,?_,?_⟩,hr.pB,hr.pT,hr.BT,?_,hr.hlen,hr.lt⟩
   ·rw[Qw (Ne.symm hr.pB),Qw hr.BT];exact hr.hB
   ·rcases hr.hV with g|⟨g,g2,g3,g4⟩
    ·exact Or.inl g
    ·exact Or.inr ⟨g.mono (by rw[Qw g2,Qw g4]),g2,g3,g4⟩
   ·simp
   ·rw[Qw (Ne.symm hr.pT),QV hW]
   ·simp only[List.length_append,List.length_cons,List.length_nil,Nat.zero_add]
    rw[List.take_set,List.take_add_one,hW2]
    have:W[S.vts.length]?.toList=[W[S.vts.length]'(by omega)]:=by rw[List.getElem?_eq_getElem (by omega)];rfl
    rw[this,List.set_append]
    simp
   ·simp;omega
   ·intro b o hb
    have:=hr.hF b o hb
    exact ⟨by rw[Qw this.2.1,Qw this.2.2.2.2];exact this.1,this.2⟩
 ·intro hcap
  refine ⟨by decide,by omega,(S.vts.map fun (n:Nat)=>Value.int .u32 (n:Int)),_,?_,hnew,?_⟩
  ·show Zf H ⟨T,0,none⟩ 0 (S.vts.length*1)=_
   rw[Nat.mul_one,Q4 hW _ (by rw[QhW];omega)]
   simp only[Nat.zero_add,List.drop_zero,QgU,Option.some.injEq]
   rw[<-List.map_take,hW2]
  ·intro c hc1 hc2
   have e1:(S.vts.map (fun (n:Nat)=>Value.int .u32 (n:Int))++[Value.int .u32 (x:Int)]).toArray++Builtin.zeroCells z93 (c-(S.vts.length+1))=QgU (S.vts++[x]++List.replicate (c-(S.vts.length+1)) 0):=by
    rw[zero_u32 (z:=z93) rfl]
    simp[QgU]
   rw[e1]
   have hp:(H.push (.cells (QgU (S.vts++[x]++List.replicate (c-(S.vts.length+1)) 0)) et))[p]?=_:=Yy hr.hp
   rw[Qas hp (by decide:4<9) (by simp) rfl]
   refine hk _ H.size (.slice (some ⟨H.size,0,none⟩) (S.vts.length+1) c) ?_
   refine ⟨QV hp,?_,?_,⟨S.vts++[x]++List.replicate (c-(S.vts.length+1)) 0,et,?_,?_,?_,?_⟩,hr.pB,by omega,by omega,?_,hr.hlen,hr.lt⟩
   ·rw[Qw (Ne.symm hr.pB)];exact Yy hr.hB
   ·rcases hr.hV with g|⟨g,g2,g3,g4⟩
    ·exact Or.inl g
    ·refine Or.inr ⟨g.mono ?_,g2,g3,by omega⟩
     rw[Qw g2,Array.getElem?_push,if_neg (by omega)]
   ·simp only[List.length_append,List.length_cons,List.length_nil,List.length_replicate];congr 1;omega
   ·rw[Qw (by omega)];exact Qh
   ·simp only[List.length_append,List.length_cons,List.length_nil,Nat.zero_add]
    rw[List.take_append_of_le_length (by simp),List.take_of_length_le (by simp)]
   ·simp only[List.length_append,List.length_cons,List.length_nil,List.length_replicate];omega
   ·intro b o hb
    have:=hr.hF b o hb
    have hbl:=Y3 this.1
    exact ⟨by rw[Qw this.2.1];exact Yy this.1,this.2.1,this.2.2.1,this.2.2.2.1,by omega⟩
theorem endObj_eq (S:BS):∀S1 oo vt ex,S1=putOff 0 S->oo=S1.buf.length->vt=S1.vt.take (Qa6 S1.vt)->ex=QcF (Qc2 vt oo S1.buf) S1.vts->
  endObj S=if ex=0 then
   {Qf5 ((putN 2 (leB ((2*(vt.length+2):Nat):Int) 2) (putN 2 (leB ((oo-S.oe:Nat):Int) 2) (QaE oo vt {S1 with vt:=vt}))).buf.length-oo)
     (((putN 2 (leB ((2*(vt.length+2):Nat):Int) 2) (putN 2 (leB ((oo-S.oe:Nat):Int) 2) (QaE oo vt {S1 with vt:=vt}))).buf.length-oo:Nat):Int)
     (putN 2 (leB ((2*(vt.length+2):Nat):Int) 2) (putN 2 (leB ((oo-S.oe:Nat):Int) 2) (QaE oo vt {S1 with vt:=vt}))) with
    vts:=S1.vts++[(putN 2 (leB ((2*(vt.length+2):Nat):Int) 2) (putN 2 (leB ((oo-S.oe:Nat):Int) 2) (QaE oo vt {S1 with vt:=vt}))).buf.length],vt:=[],nested:=false}
  else {Qf5 0 ((ex:Int)-(oo:Int)) S1 with vt:=[],nested:=false}:=by
 rintro S1 oo vt ex rfl rfl rfl rfl
 unfold endObj
 simp only
 split
 ·have:=(QdY (putOff 0 S).buf.length ((putOff 0 S).vt.take (Qa6 (putOff 0 S).vt)) {(putOff 0 S) with vt:=(putOff 0 S).vt.take (Qa6 (putOff 0 S).vt)}).2.1
  congr 1
  show (QaE _ _ _).vts++_=_
  rw[this]
 ·rfl
section
variable {H:Qe} {p:Nat} {S:BS} {F:Cut} {r:Nat} (hB:Qd H p S F r) {R:Kn}
include hB
set_option maxHeartbeats 4000000 in
theorem QfV (hnest:S.nested=true) (hlen:S.buf.length+4096<=536870912) (hvl:S.vt.length<1000) (hvt:∀j,S.vt.getD j 0<=S.buf.length) (hoe:S.oe<=S.buf.length) (hvts:S.vts.length<536870912)
  (hok:Qiw (putOff 0 S))
  (hR:∀H',Qd H' p {endObj S with nested:=true} F 0->R (.int .u32 ((putOff 0 S).buf.length:Nat)) H'):
  FnS prog 376 #[.pointer (some ⟨p,0,none⟩)] H R:=by
 have hS1l:S.buf.length+4<=(putOff 0 S).buf.length/\(putOff 0 S).buf.length<=S.buf.length+7:=by
  have:=Zr (size:=4) (n:=S.buf.length+0) (by decide)
  unfold putOff
  simp only[place,List.length_append,Qf,QcH]
  omega
 have hk1:(putOff 0 S).vt=S.vt/\(putOff 0 S).vts=S.vts/\(putOff 0 S).oe=S.oe/\(putOff 0 S).nested=S.nested:=⟨rfl,rfl,rfl,rfl⟩
 obtain ⟨k1,k2,k3,k4⟩:=hk1
 apply w376
 unfold s376
 refine Qel hB (by omega) ?_
 intro H1 h1
 replace h1:=h1.room (Nat.zero_le _)
 have hend:=endObj_eq S
 generalize hS1:putOff 0 S=S1 at *
 have hlt1:=h1.lt
 refine Yl h1 ?_
 generalize hoo:S1.buf.length=oo at *
 obtain ⟨hd,hh,⟨B,V,T,L,len,vtv,vtsv,e,eB,hr,g2,g3⟩⟩:=h1
 have htl:=trimLen_le S1.vt
 have hvl1:S1.vt.length<1000:=by rw[k1];exact hvl
 have hvts1:S1.vts.length<536870912:=by rw[k2];exact hvts
 have hvt1:∀j,S1.vt.getD j 0<=oo:=fun j=>by rw[k1];exact Nat.le_trans (hvt j) (by omega)
 simp only[↓Qs,↓Qm,↓Ql (QiH hr),↓(Raw.vtSl hr).len,↓QZ]
 rw[wrap_i64 (by omega) (by omega)]
 refine Q0 (fun vs h=>vs=[.int .i64 ((Qa6 S1.vt:Int)-1)]/\h=H1) ?_ ?_
 ·refine ⟨fun m vs h=>∃i:Nat,vs=[.int .i64 ((i:Int)-1)]/\i<=S1.vt.length/\m=i/\h=H1/\∀j,i<=j->j<S1.vt.length->S1.vt.getD j 0=0,⟨_,S1.vt.length,rfl,by omega,rfl,rfl,by omega⟩,fun m=>?_⟩
  rintro x5 h3 ⟨i,hx,hi,rfl,rfl,hall⟩
  cases hx
  rw[QgK]
  by_cases h0:0<m
  ·obtain ⟨hidx,hcell⟩:=(Raw.vtSl hr).idx (j:=m-1) (x:=(m:Int)-1) (by omega) (by omega)
   have hge:(0:Int)<=(m:Int)-1:=by omega
   simp only[decide_eq_true hge,↓QU,↓Qs,↓Qm,↓Ql (QiH hr),hidx,↓Ql hcell,↓Yt,↓Ye]
   apply Zd
   ·intro hz
    rw[QZ,wrap_i64 (by omega) (by omega)]
    refine ⟨m-1,by omega,m-1,?_,by omega,rfl,rfl,?_⟩
    ·congr 2;omega
    ·intro j hj hj2
     by_cases hjm:j=m-1
     ·subst hjm;omega
     ·exact hall j (by omega) hj2
   ·intro hz
    have ht:Qa6 S1.vt=m:=Qiu S1.vt m hall hi (Or.inr (by omega))
    simp only[ht,and_self]
  ·have hge:¬(0:Int)<=(m:Int)-1:=by omega
   simp only[decide_eq_false hge,↓Y8,↓YY,↓ZG]
   have hm0:m=0:=by omega
   subst hm0
   have ht:Qa6 S1.vt=0:=Qiu S1.vt 0 hall hi (Or.inl rfl)
   simp only[ht,and_self]
 ·rintro x5 h12 ⟨hx,rfl⟩
  cases hx
  simp only[↓Qs,↓Qm,↓Ql (QiH hr),↓QA]
  rw[wrap_i64 (by omega) (by omega)]
  refine st_vt_take hr (i:=Qa6 S1.vt) (by omega) (by omega) ?_
  intro H2 vtv2 hr2
  generalize hvt2:S1.vt.take (Qa6 S1.vt)=vt at *
  have hvl2:vt.length<=1000:=by rw[<-hvt2,List.length_take];omega
  have hvtle:∀j,vt.getD j 0<=oo:=by
   intro j
   have h1:=hvt1 j
   rw[<-hvt2]
   by_cases hj:j<Qa6 S1.vt
   ·simp only[List.getD,List.getElem?_take,if_pos hj]at h1⊢;exact h1
   ·simp[List.getD,List.getElem?_take,hj]
  have hVt:VtSl H2 V vtv2 vt:=Raw.vtSl hr2
  refine Q0 (fun vs h=>(∃y,vs=[y,.int .u32 (QcF (Qc2 vt oo S1.buf) S1.vts:Nat)])/\h=H2) ?_ ?_
  ·obtain ⟨W,eW,rfl,hW,hW2,hW3⟩:=hr2.hT
   have hT:VtSl H2 T (.slice (some ⟨T,0,none⟩) S1.vts.length W.length) S1.vts:=Or.inr ⟨W,eW,rfl,hW,hW2,hW3⟩
   simp only[↓Qs,↓Qm,↓Ql (ld_vts hr2),↓QbK,↓QZ]
   rw[wrap_i64 (by omega) (by omega)]
   refine ⟨fun m vs h=>∃i:Nat,vs=[.int .i64 ((i:Int)-1),.int .u32 0]/\i<=S1.vts.length/\m=i/\h=H2/\QcF (Qc2 vt oo S1.buf) (S1.vts.take i)=QcF (Qc2 vt oo S1.buf) S1.vts,⟨_,S1.vts.length,rfl,by omega,rfl,rfl,by rw[List.take_length]⟩,fun m=>?_⟩
   rintro x6 x4 h14 ⟨i,hx,hi,rfl,rfl,hfind⟩
   cases hx
   rw[QgK]
   apply Zd
   ·intro hge
    obtain ⟨hidx,hcell⟩:=hT.idx (j:=m-1) (x:=(m:Int)-1) (by omega) (by omega)
    have hmem:S1.vts.getD (m-1) 0∈S1.vts:=by
     rw[List.getD_eq_getElem?_getD,List.getElem?_eq_getElem (by omega)]
     exact List.getElem_mem _
    obtain ⟨o1,o2,o3,o4⟩:=hok _ hmem
    generalize hov:S1.vts.getD (m-1) 0=o at *
    have htake:S1.vts.take m=S1.vts.take (m-1)++[o]:=by
     have:m=(m-1)+1:=by omega
     rw[this,List.take_add_one,Nat.add_sub_cancel]
     congr 1
     rw[List.getElem?_eq_getElem (by omega)]
     rw[List.getD_eq_getElem?_getD,List.getElem?_eq_getElem (by omega)]at hov
     simpa using hov
    rw[htake,findVt_snoc _ _ (by omega)]at hfind
    have hlo:=hr2.lt
    have hlL:=hr2.hlen
    rw[hoo]at o2 o3 o4
    simp only[↓Qs,↓Qm,↓Ql (ld_vts hr2),hidx,↓Ql hcell,↓Ql (YM hr2),↓QbK,↓QH,↓QZ]
    rw[wrap_i64 (n:=(o:Int)) (by omega) (by omega),wrap_i64 (n:=(len:Int)-(o:Int)) (by omega) (by omega)]
    rw[show (len:Int)-(o:Int)=((hd+(oo-o):Nat):Int) by omega]
    rw[ZU hr2 (m:=hd+(oo-o)) (by omega)]
    refine Qdh (QdX hr2.hB) (by omega) (by omega) ?_
    have hl2:le2 L (hd+(oo-o))=le2 S1.buf (oo-o):=le2_sub g3 (by rw[hoo];omega)
    rw[hl2]
    have hl3:=le2_lt S1.buf (oo-o)
    simp only[↓Qs,↓Qm,↓Ql (YM hr2),↓Ql (QiH hr2),↓QH,↓QA]
    rw[wrap_i64 (n:=(le2 S1.buf (oo-o):Int)) (by omega) (by omega),wrap_i64 (n:=((hd+(oo-o):Nat):Int)+(le2 S1.buf (oo-o):Int)) (by omega) (by omega),wrap_i64 (n:=((hd+(oo-o):Nat):Int)+4) (by omega) (by omega)]
    obtain ⟨o',n',c',hslc,q1,q2,q4,q3⟩:∃o' n' c':Nat,(∀k:Value->Prop,Qey 1 (bsl B 0 len L.length) (some (.int .i64 (((hd+(oo-o):Nat):Int)+4))) (some (.int .i64 (((hd+(oo-o):Nat):Int)+(le2 S1.buf (oo-o):Int)))) k=k (bsl B o' n' c'))/\
      o'+n'<=L.length/\n'<=c'/\n'<1073741824/\Qj5 vt oo L o' n'=Qc2 vt oo S1.buf o:=by
     by_cases hfull:L.length=(((hd+(oo-o):Nat):Int)+4).toNat
     ·refine ⟨0,0,0,?_,by omega,by omega,by omega,?_⟩
      ·intro k
       rw[bsl,Qgv (by omega) (by omega) (by omega),if_pos hfull]
       have e1:(((hd+(oo-o):Nat):Int)+(le2 S1.buf (oo-o):Int)).toNat-(((hd+(oo-o):Nat):Int)+4).toNat=0:=by omega
       rw[e1,show L.length-(((hd+(oo-o):Nat):Int)+4).toNat=0 by omega]
      ·unfold Qc2
       rw[show le2 S1.buf (oo-o)-4=0 by omega]
       exact Qj1 (fun i hi=>by omega)
     ·refine ⟨hd+(oo-o)+4,le2 S1.buf (oo-o)-4,L.length-(hd+(oo-o)+4),?_,by omega,by omega,by omega,?_⟩
      ·intro k
       rw[bsl,Qgv (by omega) (by omega) (by omega),if_neg hfull]
       have e1:(((hd+(oo-o):Nat):Int)+(le2 S1.buf (oo-o):Int)).toNat-(((hd+(oo-o):Nat):Int)+4).toNat=le2 S1.buf (oo-o)-4:=by omega
       have e2:(((hd+(oo-o):Nat):Int)+4).toNat=hd+(oo-o)+4:=by omega
       rw[e1,e2,Nat.zero_add,Nat.mul_one]
      ·unfold Qc2
       refine Qj1 (fun i hi=>?_)
       rw[show hd+(oo-o)+4+i=hd+(oo-o+4+i) by omega]
       exact Qi7 g3 (by omega)
    rw[hslc]
    refine go_vtableEqual hVt (QdX hr2.hB) q1 q2 q4 (by omega) hvtle (by omega) ?_
    rw[q3]
    by_cases hs:Qc2 vt oo S1.buf o=true
    ·rw[hs,if_pos rfl]at hfind
     rw[hs,QbS]
     exact ⟨⟨.int .i64 ((m:Int)-1),by rw[<-hfind]⟩,rfl⟩
    ·rw[if_neg hs]at hfind
     rw[Bool.not_eq_true]at hs
     rw[hs,ZG,wrap_i64 (by omega) (by omega)]
     refine ⟨m-1,by omega,m-1,?_,by omega,rfl,rfl,hfind⟩
     congr 2;omega
   ·intro hge
    have hm0:m=0:=by omega
    subst hm0
    refine ⟨⟨.int .i64 ((0:Nat)-1:Int),?_⟩,rfl⟩
    rw[<-hfind]
    rfl
  ·rintro x6 x4 h17 ⟨⟨y,hx⟩,rfl⟩
   cases hx
   generalize hex:QcF (Qc2 vt oo S1.buf) S1.vts=ex at *
   have hexle:ex<=oo:=by
    by_cases h0:ex=0
    ·omega
    ·have:=findVt_mem (Qc2 vt oo S1.buf) S1.vts (by rw[hex];exact h0)
     rw[hex]at this
     have:=(hok _ this.1).2.1
     omega
   have hlo:=hr2.lt
   have hlL:=hr2.hlen
   have hat:Qd h17 p {S1 with vt:=vt} F 0:=⟨hd,Nat.zero_le _,⟨B,V,T,L,len,vtv2,vtsv,e,eB,hr2,g2,g3⟩⟩
   have hend':=hend S1 oo vt ex rfl hoo.symm hvt2.symm hex.symm
   clear hend
   generalize hS2:({S1 with vt:=vt}:BS)=S2 at hend' hat
   have s2v:S2.vt=vt:=by rw[<-hS2]
   have s2o:S2.oe=S1.oe:=by rw[<-hS2]
   have s2b:S2.buf.length=oo:=by rw[<-hS2];exact hoo
   have s2n:S2.nested=true:=by rw[<-hS2];exact k4.trans hnest
   have s2s:S2.vts=S1.vts:=by rw[<-hS2]
   refine Q0 (fun _ h=>Qd h p {endObj S with nested:=true,vt:=vt} F 0) ?_ ?_
   ·rw[Yt]
    apply Zd
    ·intro h0
     have h0':ex=0:=by omega
     rw[if_pos h0']at hend'
     refine Q0 (fun _ h=>Qd h p (QaE oo vt S2) F 0) ?_ ?_
     ·simp only[↓Qs,↓Qm,↓Ql (QiH hr2),↓hVt.len,↓QZ]
      rw[wrap_i64 (by omega) (by omega)]
      refine ⟨fun m vs h=>∃i:Nat,vs=[.int .i64 ((i:Int)-1)]/\i<=vt.length/\m=i/\Qd h p (QaE oo (vt.drop i) S2) F 0,⟨_,vt.length,rfl,by omega,rfl,?_⟩,fun m=>?_⟩
      ·rw[List.drop_length];exact hat
      ·rintro x13 h18 ⟨i,hx,hi,rfl,hb⟩
       cases hx
       rw[QgK]
       apply Zd
       ·intro hge
        obtain ⟨w1,w2,w3,w4,w5⟩:=QdY oo (vt.drop m) S2
        have hwl:=wrEnt_len oo (vt.drop m) S2
        rw[List.length_drop]at hwl
        have hvtm:=hvtle (m-1)
        have hdrop:vt.drop (m-1)=vt.getD (m-1) 0::vt.drop m:=by
         rw[List.drop_eq_getElem_cons (by omega),List.getD_eq_getElem?_getD,List.getElem?_eq_getElem (by omega)]
         rw[show m-1+1=m by omega];rfl
        have hb2:=hb
        obtain ⟨hd3,hh3,⟨B3,V3,T3,L3,len3,vtv3,vtsv3,e3,eB3,hr3,g5,g6⟩⟩:=hb
        have hV3:=Raw.vtSl hr3
        rw[w1,s2v]at hV3
        obtain ⟨hidx,hcell⟩:=hV3.idx (j:=m-1) (x:=(m:Int)-1) (by omega) (by omega)
        generalize vt.getD (m-1) 0=v at *
        refine Q0 (fun vs h=>vs=[.int .u32 ((if v≠0 then oo-v else 0:Nat):Int)]/\h=h18) ?_ ?_
        ·simp only[↓Qs,↓Qm,↓Ql (QiH hr3),hidx,↓Ql hcell,↓Yp,↓QZ]
         apply Zd
         ·intro hne
          rw[QW (by omega) (by omega),if_pos (by omega)]
          refine ⟨?_,by first|rfl|trivial⟩
          congr 2;omega
         ·intro hne
          rw[if_neg (by omega)]
          exact ⟨rfl,by first|rfl|trivial⟩
        ·rintro x14 h19 ⟨hx,rfl⟩
         cases hx
         rw[QH]
         refine Qa7 hb2 (by omega) ?_
         intro h20 hb3
         rw[Qim]at hb3
         rw[QZ,wrap_i64 (by omega) (by omega)]
         refine ⟨m-1,by omega,m-1,?_,by omega,rfl,?_⟩
         ·congr 2;omega
         ·rw[hdrop];exact hb3.room (Nat.zero_le _)
       ·intro hge
        have hm0:m=0:=by omega
        subst hm0
        exact hb
     ·intro x13 h21 hb
      obtain ⟨w1,w2,w3,w4,w5⟩:=QdY oo vt S2
      have hwl:=wrEnt_len oo vt S2
      have hb2:=hb
      obtain ⟨hd3,hh3,⟨B3,V3,T3,L3,len3,vtv3,vtsv3,e3,eB3,hr3,g5,g6⟩⟩:=hb
      have e1:(QaE oo vt S2).oe=S.oe:=by rw[w3,s2o,k3]
      simp only[↓Qs,↓Qm,↓Ql (ld_oe hr3),e1,↓QZ,↓QH]
      rw[QW (by omega) (by omega),show (oo:Int)-(S.oe:Int)=((oo-S.oe:Nat):Int) by omega]
      refine Qa7 hb2 (by omega) ?_
      intro h22 hb3
      rw[Qim]at hb3
      have hl3:(putN 2 (leB ((oo-S.oe:Nat):Int) 2) (QaE oo vt S2)).buf.length<=(QaE oo vt S2).buf.length+3:=by
       have:=Zr (size:=2) (n:=(QaE oo vt S2).buf.length) (by decide)
       rw[Qi0,Qf];omega
      have hl3':(QaE oo vt S2).buf.length<=(putN 2 (leB ((oo-S.oe:Nat):Int) 2) (QaE oo vt S2)).buf.length:=by rw[Qi0];omega
      have v3:(putN 2 (leB ((oo-S.oe:Nat):Int) 2) (QaE oo vt S2)).vt=vt:=by show (QaE oo vt S2).vt=vt;rw[w1,s2v]
      have v4:(putN 2 (leB ((oo-S.oe:Nat):Int) 2) (QaE oo vt S2)).vts=S1.vts:=by show (QaE oo vt S2).vts=S1.vts;rw[w2,s2s]
      have v5:(putN 2 (leB ((oo-S.oe:Nat):Int) 2) (QaE oo vt S2)).nested=true:=by show (QaE oo vt S2).nested=true;rw[w4,s2n]
      generalize putN 2 (leB ((oo-S.oe:Nat):Int) 2) (QaE oo vt S2)=S3 at *
      have hb4:=hb3
      obtain ⟨hd4,hh4,⟨B4,V4,T4,L4,len4,vtv4,vtsv4,e4,eB4,hr4,g7,g8⟩⟩:=hb3
      have hV4:=Raw.vtSl hr4
      rw[v3]at hV4
      simp only[↓Qs,↓Qm,↓Ql (QiH hr4),↓hV4.len,↓QA,↓Z1,↓QH]
      rw[wrap_i64 (n:=(vt.length:Int)+2) (by omega) (by omega),wrap_i64 (n:=((vt.length:Int)+2)*2) (by omega) (by omega),show ((vt.length:Int)+2)*2=((2*(vt.length+2):Nat):Int) by omega]
      refine Qa7 hb4 (by omega) ?_
      intro h23 hb5
      rw[Qim]at hb5
      have hl5:(putN 2 (leB ((2*(vt.length+2):Nat):Int) 2) S3).buf.length<=S3.buf.length+3:=by
       have:=Zr (size:=2) (n:=S3.buf.length) (by decide)
       rw[Qi0,Qf];omega
      have hl5':S3.buf.length+2<=(putN 2 (leB ((2*(vt.length+2):Nat):Int) 2) S3).buf.length:=by rw[Qi0,Qf];omega
      have v6:(putN 2 (leB ((2*(vt.length+2):Nat):Int) 2) S3).vts=S1.vts:=v4
      have v7:(putN 2 (leB ((2*(vt.length+2):Nat):Int) 2) S3).nested=true:=v5
      have v8:(putN 2 (leB ((2*(vt.length+2):Nat):Int) 2) S3).vt=vt:=v3
      generalize putN 2 (leB ((2*(vt.length+2):Nat):Int) 2) S3=S5 at *
      have hb6:=hb5
      obtain ⟨hd6,hh6,⟨B6,V6,T6,L6,len6,vtv6,vtsv6,e6,eB6,hr6,g9,g10⟩⟩:=hb5
      have hl6:=hr6.lt
      have hL6:=hr6.hlen
      simp only[↓Qs,↓Qm,↓Ql (YM hr6),↓QbK,↓QH,↓QZ]
      rw[Zq (n:=(len6:Int)) (by omega) (by omega),Zq (n:=(oo:Int)) (by omega) (by omega),Zq (n:=(len6:Int)-(oo:Int)) (by omega) (by omega)]
      rw[show (len6:Int)-(oo:Int)=((hd6+(S5.buf.length-oo):Nat):Int) by omega,ZU hr6 (m:=hd6+(S5.buf.length-oo)) (by omega)]
      refine Yl hb6 ?_
      rw[Qb,QH,QZ,Zq (n:=(S5.buf.length:Int)) (by omega) (by omega),Zq (n:=(S5.buf.length:Int)-(oo:Int)) (by omega) (by omega),show (S5.buf.length:Int)-(oo:Int)=((S5.buf.length-oo:Nat):Int) by omega]
      refine Qdy hr6.hB (by omega) (by omega) ?_
      have hr7:=Raw.wr (S':=Qf5 (S5.buf.length-oo) ((S5.buf.length-oo:Nat):Int) S5) hr6 (Q7 (leB ((S5.buf.length-oo:Nat):Int) 4) L6 (hd6+(S5.buf.length-oo))) rfl rfl rfl
      have hpl:(Qf5 (S5.buf.length-oo) ((S5.buf.length-oo:Nat):Int) S5).buf.length=S5.buf.length:=by simp[Qf5,Q7]
      have g11:((Zt L6 (hd6+(S5.buf.length-oo)) (leB ((S5.buf.length-oo:Nat):Int) 4)).take len6).drop hd6=(Qf5 (S5.buf.length-oo) ((S5.buf.length-oo:Nat):Int) S5).buf:=
       put_mid hL6 g9 g10 (by rw[Qf];omega)
      have vp:(Qf5 (S5.buf.length-oo) ((S5.buf.length-oo:Nat):Int) S5).vts=S1.vts:=v6
      generalize hH7:wr h23 B6 eB6 (Zt L6 (hd6+(S5.buf.length-oo)) (leB ((S5.buf.length-oo:Nat):Int) 4))=H7 at *
      generalize hL7:Zt L6 (hd6+(S5.buf.length-oo)) (leB ((S5.buf.length-oo:Nat):Int) 4)=L7 at *
      have hb7:Qd H7 p (Qf5 (S5.buf.length-oo) ((S5.buf.length-oo:Nat):Int) S5) F 0:=⟨hd6,Nat.zero_le _,⟨B6,V6,T6,L7,len6,vtv6,vtsv6,e6,eB6,hr7,by rw[hpl];exact g9,g11⟩⟩
      simp only[↓Qs,↓Qm,↓Ql (ld_vts hr7)]
      refine Yl hb7 ?_
      rw[Qb,hpl]
      show Q8 H7 _ 1 [Value.int .u32 0] _ _
      refine Qn (Qaf.push _ _).ext ?_
      have hr8:Raw (H7.push (.cells #[.int .u32 (S5.buf.length:Nat)] 93)) p (Qf5 (S5.buf.length-oo) ((S5.buf.length-oo:Nat):Int) S5) F B6 V6 T6 L7 len6 hd6 vtv6 vtsv6 e6 eB6:=by
       obtain ⟨l1,l2,l3,l4⟩:=hr7.V_lt
       refine hr7.frame ?_ ?_
       ·intro b hb
        rw[Array.getElem?_push,if_neg]
        rcases hb with rfl|rfl|rfl|rfl<;>omega
       ·intro b o hb
        have:=hr7.hF b o hb
        exact ⟨Yy this.1,this.2⟩
      obtain ⟨l1,l2,l3,l4⟩:=hr7.V_lt
      refine app_vts hr8 (x:=S5.buf.length) (Y:=H7.size) Qh ⟨by omega,by omega,by omega,by omega⟩ (by rw[vp];omega) ?_
      intro H9 T9 vtsv9 hr9
      rw[hend']
      refine ⟨hd6,Nat.zero_le _,⟨B6,V6,T9,L7,len6,vtv6,vtsv9,e6,eB6,?_,by show hd6+(Qf5 _ _ S5).buf.length=len6;rw[hpl];exact g9,g11⟩⟩
      have e5:({Qf5 (S5.buf.length-oo) ((S5.buf.length-oo:Nat):Int) S5 with vts:=(Qf5 (S5.buf.length-oo) ((S5.buf.length-oo:Nat):Int) S5).vts++[S5.buf.length]}:BS)=
        {Qf5 (S5.buf.length-oo) ((S5.buf.length-oo:Nat):Int) S5 with vts:=S1.vts++[S5.buf.length],vt:=vt,nested:=true}:=by
       simp only[Qf5,v6,v7,v8]
      rw[e5]at hr9
      exact hr9
    ·intro h0
     have h0':¬ex=0:=by omega
     rw[if_neg h0']at hend'
     simp only[↓Qs,↓Qm,↓Ql (YM hr2),↓QbK,↓QH,↓QZ]
     rw[Zq (n:=(len:Int)) (by omega) (by omega),Zq (n:=(oo:Int)) (by omega) (by omega),Zq (n:=(len:Int)-(oo:Int)) (by omega) (by omega),QW (by omega) (by omega)]
     rw[show (len:Int)-(oo:Int)=((hd:Nat):Int) by omega,Qbg hr2]
     have hr3:=Raw.setp (S':={S1 with vt:=vt}) (head':=hd) hr2 rfl rfl
     simp only[↓Ql (YM hr3),↓Ql (YN hr3)]
     rw[ZU hr3 (m:=hd) (by omega),Zq (n:=(ex:Int)) (by omega) (by omega),Zq (n:=(ex:Int)-(oo:Int)) (by omega) (by omega)]
     refine Qdy hr3.hB (by omega) (by omega) ?_
     rw[hend']
     have hr4:=Raw.wr (S':={Qf5 0 ((ex:Int)-(oo:Int)) S1 with vt:=vt,nested:=true}) hr3 (Q7 (leB ((ex:Int)-(oo:Int)) 4) L hd) (by
      show QfL B len L.length _ vtv2 vtsv hd=_
      simp only[QfL,Qf5]
      rw[k4,hnest]) rfl rfl
     refine ⟨hd,Nat.zero_le _,⟨B,V,T,_,len,vtv2,vtsv,e,eB,hr4,?_,?_⟩⟩
     ·show hd+(Qf5 0 _ S1).buf.length=len
      simp only[Qf5,Q7];exact g2
     ·have:=put_mid (q:=0) (xs:=leB ((ex:Int)-(oo:Int)) 4) hlL g2 g3 (by rw[Qf];omega)
      exact this
   ·intro h32 hb
    obtain ⟨hd6,hh6,⟨B6,V6,T6,L6,len6,vtv6,vtsv6,e6,eB6,hr6,g9,g10⟩⟩:=hb
    simp only[↓Qs,↓Qm,↓Ql (QiH hr6)]
    refine st_vt_take hr6 (i:=0) rfl (Nat.zero_le _) ?_
    intro H' vtv' hr'
    refine hR H' ?_
    have ev:(endObj S).vt=[]:=by
     rw[hend'];split<;>rfl
    refine ⟨hd6,Nat.zero_le _,⟨B6,V6,T6,L6,len6,vtv',vtsv6,e6,eB6,?_,g9,g10⟩⟩
    have e7:({endObj S with nested:=true,vt:=vt.take 0}:BS)={endObj S with nested:=true}:=by
     rw[List.take_zero,<-ev]
    have hr'':Raw H' p ({endObj S with nested:=true,vt:=vt.take 0}:BS) F B6 V6 T6 L6 len6 hd6 vtv' vtsv6 e6 eB6:=hr'
    rw[e7]at hr''
    exact hr''
theorem QgV (hnest:S.nested=true) (hlen:S.buf.length+4096<=536870912) (hvl:S.vt.length<1000) (hvt:∀j,S.vt.getD j 0<=S.buf.length) (hoe:S.oe<=S.buf.length) (hvts:S.vts.length<536870912)
  (hok:Qiw (putOff 0 S))
  (hR:∀H',Qd H' p (endObj S) F 0->R (.int .u32 ((putOff 0 S).buf.length:Nat)) H'):
  FnS prog 337 #[.pointer (some ⟨p,0,none⟩)] H R:=by
 apply w337
 unfold s337
 refine QaB hB hnest ?_
 refine QfV hB hnest hlen hvl hvt hoe hvts hok ?_
 intro H1 h1
 simp only[↓Qs,↓Qm]
 refine Qcc h1 ?_
 intro H2 h2
 refine hR H2 ?_
 have en:(endObj S).nested=false:=by
  rw[endObj_eq S _ _ _ _ rfl rfl rfl rfl];split<;>rfl
 have e8:({({endObj S with nested:=true}:BS) with nested:=false}:BS)=endObj S:=by
  show ({endObj S with nested:=false}:BS)=endObj S
  rw[<-en]
 rw[e8]at h2
 exact h2
end
end Go.Proofs
