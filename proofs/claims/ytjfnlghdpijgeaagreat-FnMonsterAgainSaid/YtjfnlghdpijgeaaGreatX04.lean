/- WHAT IS PROVED: the given statement of FnMonsterAgain, whatever the input: this is part 4 of 13. No conditions. -/
import Derived.Test.YtjfnlghdpijgeaaGreatX03
set_option linter.all false
namespace Go.Proofs
open Go Go.Vc
open Tryz (prog)
set_option maxRecDepth 100000
def s18 (d:Value) (h:Qe) (R:Kn):Prop:=
 QG (fun b=>
 Qr prog .leq 3 d (.int .i64 0) fun f=>
 IfK f
 (b [(.int .i64 0)] h)
 (b [d] h)) fun b=>∀c:Value,∀e:Qe,b [c] e->
 QB z133.toList [] fun g=>
 YM e (.cells (Value.cells g) 133) fun a i=>
 Qf4 i 5 1 z5 c c fun j l=>
 Q5 a fun m=>
 Qh m 0 fun o=>
 StK l 1 o j fun p=>
 Yl .u32 c fun q=>
 Q5 a fun r=>
 Qh r 5 fun s=>
 StK p 1 s q fun t=>
 Q5 a fun u=>
 Qh u 1 fun v=>
 StK t 1 v (.int .i64 1) fun w=>
 Qf4 w 65 4 z65 (.int .i64 0) (.int .i64 16) fun y z=>
 Q5 a fun a0=>
 Qh a0 4 fun a1=>
 StK z 1 a1 y fun a2=>
 R a a2
theorem w18 {a h R} (H:s18 a h R):FnS prog 18 #[a] h R:=wq Tryz.func18 (by kernel_rfl) H
def s19 (a c:Value) (h:Qe) (R:Kn):Prop:=
 Qb prog 71 #[a] h fun _x5 b=>
 Q5 a fun d=>
 Qh d 1 fun e=>
 LdK b e fun f=>
 Qb prog 72 #[a,f,(.int .i64 4)] b fun _x11 g=>
 Qb prog 73 #[a,c] g fun _x14 i=>
 Q5 a fun j=>
 Qh j 7 fun l=>
 StK i 1 l (.bool true) fun m=>
 R (.tuple #[]) m
theorem w19 {a b h R} (H:s19 a b h R):FnS prog 19 #[a,b] h R:=wq Tryz.func19 (by kernel_rfl) H
def s22 (a:Value) (h:Qe) (R:Kn):Prop:=
 Qb prog 167 #[a] h fun _x4 b=>
 Q5 a fun d=>
 Qh d 0 fun e=>
 LdK b e fun f=>
 Qb prog 168 #[a] b fun g c=>
 Qi b c<|
 Qg1 1 f (some g) none fun i=>
 R i c
theorem w22 {a h R} (H:s22 a h R):FnS prog 22 #[a] h R:=wq Tryz.func22 (by kernel_rfl) H
def s71 (a:Value) (h:Qe) (R:Kn):Prop:=
 Q5 a fun b=>
 Qh b 6 fun c=>
 LdK h c fun d=>
 IfK d
 (False)
 (R (.tuple #[]) h)
theorem w71 {a h R} (H:s71 a h R):FnS prog 71 #[a] h R:=wq Tryz.func71 (by kernel_rfl) H
def s72 (a c i:Value) (h:Qe) (R:Kn):Prop:=
 QG (fun d=>
 Q5 a fun q=>
 Qh q 1 fun r=>
 LdK h r fun s=>
 Qr prog .gtr 3 c s fun t=>
 IfK t
 (Q5 a fun u=>
 Qh u 1 fun v=>
 StK h 1 v c fun w=>
 d [] w)
 (d [] h)) fun d=>∀e:Qe,d [] e->
 Q5 a fun y=>
 Qh y 0 fun z=>
 LdK e z fun a0=>
 YQ a0 fun a1=>
 Qb prog 168 #[a] e fun a2 j=>
 Qi e j<|
 Yl .i64 a2 fun a3=>
 Qr prog .sub 3 a1 a3 fun a4=>
 Qr prog .add 3 a4 i fun a5=>
 ZM prog (Op.unary .xor a5) fun a6=>
 Qr prog .add 3 a6 (.int .i64 1) fun a7=>
 Qr prog .sub 3 c (.int .i64 1) fun a8=>
 Qr prog .and 3 a7 a8 fun l=>
 QG (fun f=>
 YH [] j fun m o=>∀b:Qe,m o [] b->
 Q5 a fun a9=>
 Qh a9 5 fun b0=>
 LdK b b0 fun b1=>
 Yl .i64 b1 fun b2=>
 Qr prog .add 3 l c fun b3=>
 Qr prog .add 3 b3 i fun b4=>
 Qr prog .leq 3 b2 b4 fun b5=>
 IfK b5
 (Q5 a fun b6=>
 Qh b6 0 fun b7=>
 LdK b b7 fun b8=>
 YQ b8 fun b9=>
 Qb prog 259 #[a] b fun _x52 g=>
 Q5 a fun c0=>
 Qh c0 5 fun c1=>
 LdK g c1 fun c2=>
 Q5 a fun c3=>
 Qh c3 0 fun c4=>
 LdK g c4 fun c5=>
 YQ c5 fun c6=>
 Qr prog .sub 3 c6 b9 fun c7=>
 Yl .u32 c7 fun c8=>
 Qr prog .add 65 c2 c8 fun c9=>
 Q5 a fun d0=>
 Qh d0 5 fun d1=>
 StK g 1 d1 c9 fun d2=>
 QZ m o [] d2)
 (f [] b)) fun f=>∀p:Qe,f [] p->
 Qb prog 260 #[a,l] p fun _x70 d3=>
 R (.tuple #[]) d3
theorem w72 {a b c h R} (H:s72 a b c h R):FnS prog 72 #[a,b,c] h R:=wq Tryz.func72 (by kernel_rfl) H
def s73 (a c:Value) (h:Qe) (R:Kn):Prop:=
 Qb prog 72 #[a,(.int .i64 4),(.int .i64 0)] h fun _x6 e=>
 QG (fun b=>
 Qb prog 261 #[a] e fun f g=>
 Qr prog .leq 65 c f fun i=>
 ZM prog (Op.unary .not i) fun j=>
 IfK j
 (False)
 (b [] g)) fun b=>∀d:Qe,b [] d->
 Qb prog 261 #[a] d fun l m=>
 Qr prog .sub 65 l c fun o=>
 Qr prog .add 65 o (.int .u32 4) fun p=>
 Qb prog 262 #[a,p] m fun _x20 q=>
 R (.tuple #[]) q
theorem w73 {a b h R} (H:s73 a b h R):FnS prog 73 #[a,b] h R:=wq Tryz.func73 (by kernel_rfl) H
def s85 (a b:Value) (h:Qe) (R:Kn):Prop:=
 Qb prog 71 #[a] h fun _x7 f=>
 Q5 a fun g=>
 Qh g 6 fun i=>
 StK f 1 i (.bool true) fun j=>
 Qgh b fun l=>
 Qr prog .add 3 l (.int .i64 1) fun m=>
 Qr prog .mul 3 m (.int .i64 1) fun o=>
 Qb prog 72 #[a,(.int .i64 4),o] j fun _x16 p=>
 Qb prog 263 #[a,(.int .u8 0)] p fun _x18 d=>
 Qgh b fun q=>
 Yl .u32 q fun e=>
 Q5 a fun r=>
 Qh r 5 fun s=>
 LdK d s fun t=>
 Qr prog .sub 65 t e fun u=>
 Q5 a fun v=>
 Qh v 5 fun w=>
 StK d 1 w u fun c=>
 Q5 a fun y=>
 Qh y 0 fun z=>
 LdK c z fun a0=>
 Q5 a fun a1=>
 Qh a1 5 fun a2=>
 LdK c a2 fun a3=>
 Q5 a fun a4=>
 Qh a4 5 fun a5=>
 LdK c a5 fun a6=>
 Qr prog .add 65 a6 e fun a7=>
 Qg1 1 a0 (some a3) (some a7) fun a8=>
 CopyK c 1 a8 b fun _x46 a9=>
 Qgh b fun b0=>
 Qb prog 90 #[a,b0] a9 fun b1 b2=>
 R b1 b2
theorem w85 {a b h R} (H:s85 a b h R):FnS prog 85 #[a,b] h R:=wq Tryz.func85 (by kernel_rfl) H
def s86 (a b:Value) (h:Qe) (R:Kn):Prop:=
 Qb prog 71 #[a] h fun _x7 f=>
 Q5 a fun g=>
 Qh g 6 fun i=>
 StK f 1 i (.bool true) fun j=>
 YQ b fun l=>
 Qr prog .add 3 l (.int .i64 1) fun m=>
 Qr prog .mul 3 m (.int .i64 1) fun o=>
 Qb prog 72 #[a,(.int .i64 4),o] j fun _x16 p=>
 Qb prog 263 #[a,(.int .u8 0)] p fun _x18 d=>
 YQ b fun q=>
 Yl .u32 q fun e=>
 Q5 a fun r=>
 Qh r 5 fun s=>
 LdK d s fun t=>
 Qr prog .sub 65 t e fun u=>
 Q5 a fun v=>
 Qh v 5 fun w=>
 StK d 1 w u fun c=>
 Q5 a fun y=>
 Qh y 0 fun z=>
 LdK c z fun a0=>
 Q5 a fun a1=>
 Qh a1 5 fun a2=>
 LdK c a2 fun a3=>
 Q5 a fun a4=>
 Qh a4 5 fun a5=>
 LdK c a5 fun a6=>
 Qr prog .add 65 a6 e fun a7=>
 Qg1 1 a0 (some a3) (some a7) fun a8=>
 CopyK c 1 a8 b fun _x46 a9=>
 YQ b fun b0=>
 Qb prog 90 #[a,b0] a9 fun b1 b2=>
 R b1 b2
theorem w86 {a b h R} (H:s86 a b h R):FnS prog 86 #[a,b] h R:=wq Tryz.func86 (by kernel_rfl) H
def s90 (a b:Value) (h:Qe) (R:Kn):Prop:=
 Qb prog 268 #[a] h fun _x6 c=>
 Yl .u32 b fun d=>
 Qb prog 262 #[a,d] c fun _x10 e=>
 Q5 a fun f=>
 Qh f 6 fun g=>
 StK e 1 g (.bool false) fun i=>
 Qb prog 261 #[a] i fun j l=>
 R j l
theorem w90 {a b h R} (H:s90 a b h R):FnS prog 90 #[a,b] h R:=wq Tryz.func90 (by kernel_rfl) H
theorem w95 {a b h R} (H:tp95 1 274 a b h R):FnS prog 95 #[a,b] h R:=wq Tryz.func95 (by kernel_rfl) H
theorem w101 {a b h R} (H:tp95 8 276 a b h R):FnS prog 101 #[a,b] h R:=wq Tryz.func101 (by kernel_rfl) H
theorem w103 {a b h R} (H:tp95 8 277 a b h R):FnS prog 103 #[a,b] h R:=wq Tryz.func103 (by kernel_rfl) H
theorem w108 {a b h R} (H:tp95 8 283 a b h R):FnS prog 108 #[a,b] h R:=wq Tryz.func108 (by kernel_rfl) H
theorem w115 {a b h R} (H:tp95 1 263 a b h R):FnS prog 115 #[a,b] h R:=wq Tryz.func115 (by kernel_rfl) H
theorem w167 {a h R} (H:tp167 7 a h R):FnS prog 167 #[a] h R:=wq Tryz.func167 (by kernel_rfl) H
def s168 (a:Value) (h:Qe) (R:Kn):Prop:=
 Q5 a fun b=>
 Qh b 5 fun c=>
 LdK h c fun d=>
 R d h
theorem w168 {a h R} (H:s168 a h R):FnS prog 168 #[a] h R:=wq Tryz.func168 (by kernel_rfl) H
def s259 (a:Value) (h:Qe) (R:Kn):Prop:=
 QG (fun i=>
 Q5 a fun p=>
 Qh p 0 fun q=>
 LdK h q fun r=>
 YQ r fun s=>
 Qr prog .and 2 s (.int .i64 3221225472) fun t=>
 Qr prog .neq 2 t (.int .i64 0) fun u=>
 IfK u
 (False)
 (i [] h)) fun i=>∀d:Qe,i [] d->
 Q5 a fun v=>
 Qh v 0 fun w=>
 LdK d w fun y=>
 YQ y fun z=>
 Qr prog .mul 3 z (.int .i64 2) fun j=>
 QG (fun e=>
 Qr prog .eql 3 j (.int .i64 0) fun a0=>
 IfK a0
 (e [(.int .i64 1)] d)
 (e [j] d)) fun e=>∀c:Value,∀b:Qe,e [c] b->
 QG (fun f=>
 Q5 a fun a1=>
 Qh a1 0 fun a2=>
 LdK b a2 fun a3=>
 CapK a3 fun a4=>
 Qr prog .geq 3 a4 c fun a5=>
 IfK a5
 (Q5 a fun a6=>
 Qh a6 0 fun a7=>
 LdK b a7 fun a8=>
 Qg1 1 a8 none (some c) fun a9=>
 Q5 a fun b0=>
 Qh b0 0 fun b1=>
 StK b 1 b1 a9 fun b2=>
 f [] b2)
 (Q5 a fun b3=>
 Qh b3 0 fun b4=>
 LdK b b4 fun b5=>
 YQ b5 fun b6=>
 Qr prog .sub 3 c b6 fun l=>
 Qf4 b 5 1 z5 l l fun b7 m=>
 Q5 a fun b8=>
 Qh b8 0 fun b9=>
 LdK m b9 fun c0=>
 QdQ m 5 1 1 z5 c0 b7 fun c1 c2=>
 Q5 a fun c3=>
 Qh c3 0 fun c4=>
 StK c2 1 c4 c1 fun c5=>
 f [] c5)) fun f=>∀g:Qe,f [] g->
 Qr prog .quo 3 c (.int .i64 2) fun o=>
 Q5 a fun c6=>
 Qh c6 0 fun c7=>
 LdK g c7 fun c8=>
 Qg1 1 c8 (some o) none fun c9=>
 Q5 a fun d0=>
 Qh d0 0 fun d1=>
 LdK g d1 fun d2=>
 Qg1 1 d2 none (some o) fun d3=>
 CopyK g 1 c9 d3 fun _x68 d4=>
 R (.tuple #[]) d4
theorem w259 {a h R} (H:s259 a h R):FnS prog 259 #[a] h R:=wq Tryz.func259 (by kernel_rfl) H
def s260 (e f:Value) (h:Qe) (R:Kn):Prop:=
 YH [(.int .i64 0)] h fun c d=>∀a:Value,∀b:Qe,c d [a] b->
 Qr prog .lss 3 a f fun g=>
 IfK g
 (Qb prog 263 #[e,(.int .u8 0)] b fun _x11 i=>
 Qr prog .add 3 a (.int .i64 1) fun j=>
 QZ c d [j] i)
 (R (.tuple #[]) b)
theorem w260 {a b h R} (H:s260 a b h R):FnS prog 260 #[a,b] h R:=wq Tryz.func260 (by kernel_rfl) H
def s261 (a:Value) (h:Qe) (R:Kn):Prop:=
 Q5 a fun b=>
 Qh b 0 fun c=>
 LdK h c fun d=>
 YQ d fun e=>
 Yl .u32 e fun f=>
 Q5 a fun g=>
 Qh g 5 fun i=>
 LdK h i fun j=>
 Qr prog .sub 65 f j fun l=>
 R l h
theorem w261 {a h R} (H:s261 a h R):FnS prog 261 #[a] h R:=wq Tryz.func261 (by kernel_rfl) H
theorem w262 {a b h R} (H:QcX 4 337 a b h R):FnS prog 262 #[a,b] h R:=wq Tryz.func262 (by kernel_rfl) H
theorem w263 {a b h R} (H:QcX 1 338 a b h R):FnS prog 263 #[a,b] h R:=wq Tryz.func263 (by kernel_rfl) H
def s266 (a b c d:Value) (h:Qe) (R:Kn):Prop:=
 Qb prog 71 #[a] h fun _x10 e=>
 Q5 a fun f=>
 Qh f 6 fun g=>
 StK e 1 g (.bool true) fun i=>
 Qr prog .mul 3 b c fun j=>
 Qb prog 72 #[a,(.int .i64 4),j] i fun _x18 l=>
 Qr prog .mul 3 b c fun m=>
 Qb prog 72 #[a,d,m] l fun _x24 o=>
 Qb prog 261 #[a] o fun p q=>
 R p q
theorem w266 {a b c d h R} (H:s266 a b c d h R):FnS prog 266 #[a,b,c,d] h R:=wq Tryz.func266 (by kernel_rfl) H
theorem w268 {a h R} (H:tp167 6 a h R):FnS prog 268 #[a] h R:=wq Tryz.func268 (by kernel_rfl) H
theorem w274 {a b h R} (H:QcX 1 347 a b h R):FnS prog 274 #[a,b] h R:=wq Tryz.func274 (by kernel_rfl) H
theorem w276 {a b h R} (H:QcX 8 349 a b h R):FnS prog 276 #[a,b] h R:=wq Tryz.func276 (by kernel_rfl) H
theorem w277 {a b h R} (H:QcX 8 350 a b h R):FnS prog 277 #[a,b] h R:=wq Tryz.func277 (by kernel_rfl) H
theorem w283 {a b h R} (H:QcX 8 351 a b h R):FnS prog 283 #[a,b] h R:=wq Tryz.func283 (by kernel_rfl) H
def s284 (a d:Value) (h:Qe) (R:Kn):Prop:=
 Qb prog 71 #[a] h fun _x6 s=>
 Q5 a fun t=>
 Qh t 6 fun u=>
 StK s 1 u (.bool true) fun g=>
 QG (fun e=>
 Q5 a fun v=>
 Qh v 2 fun w=>
 LdK g w fun y=>
 CapK y fun z=>
 Qr prog .lss 3 z d fun b=>
 Qd b false (fun a0=>a0 a g) g fun a1 l=>
 Qd b false (fun a2=>Q5 a1 fun a3=>a2 a3 l) l fun a4 m=>
 Qd b false (fun a5=>Qh a4 2 fun a6=>a5 a6 m) m fun a7 i=>
 Qd b false (fun a8=>LdK i a7 fun a9=>a8 a9 i) i fun b0 o=>
 Qd b false (fun b1=>Qr prog .eql 130 b0 (.slice none 0 0) fun b2=>b1 b2 o) o fun b3 j=>
 Yf b (.bool true) b3 fun b4=>
 IfK b4
 (Qf4 j 65 4 z65 d d fun b5 b6=>
 Q5 a fun b7=>
 Qh b7 2 fun b8=>
 StK b6 1 b8 b5 fun b9=>
 e [] b9)
 (Q5 a fun c0=>
 Qh c0 2 fun c1=>
 LdK j c1 fun c2=>
 Qg1 1 c2 none (some d) fun c3=>
 Q5 a fun c4=>
 Qh c4 2 fun c5=>
 StK j 1 c5 c3 fun c6=>
 YH [(.int .i64 0)] c6 fun p q=>∀f:Value,∀c:Qe,p q [f] c->
 Q5 a fun c7=>
 Qh c7 2 fun c8=>
 LdK c c8 fun c9=>
 YQ c9 fun d0=>
 Qr prog .lss 3 f d0 fun d1=>
 IfK d1
 (Q5 a fun d2=>
 Qh d2 2 fun d3=>
 LdK c d3 fun d4=>
 Y7 1 d4 f fun d5=>
 StK c 1 d5 (.int .u32 0) fun d6=>
 Qr prog .add 3 f (.int .i64 1) fun d7=>
 QZ p q [d7] d6)
 (e [] c))) fun e=>∀r:Qe,e [] r->
 Qb prog 261 #[a] r fun d8 d9=>
 Q5 a fun e0=>
 Qh e0 3 fun e1=>
 StK d9 1 e1 d8 fun e2=>
 R (.tuple #[]) e2
theorem w284 {a b h R} (H:s284 a b h R):FnS prog 284 #[a,b] h R:=wq Tryz.func284 (by kernel_rfl) H
def s286 (a e c f:Value) (h:Qe) (R:Kn):Prop:=
 Qr prog .neq 65 c f fun g=>
 IfK g
 (Qb prog 268 #[a] h fun _x12 i=>
 QG (fun b=>
 Qb prog 261 #[a] i fun j l=>
 Qr prog .neq 65 c j fun m=>
 IfK m
 (False)
 (b [] l)) fun b=>∀d:Qe,b [] d->
 Qb prog 353 #[a,e] d fun _x20 o=>
 R (.tuple #[]) o)
 (R (.tuple #[]) h)
theorem w286 {a b c d h R} (H:s286 a b c d h R):FnS prog 286 #[a,b,c,d] h R:=wq Tryz.func286 (by kernel_rfl) H
theorem w287 {a b c d h R} (H:Qfj 23 345 a b c d h R):FnS prog 287 #[a,b,c,d] h R:=wq Tryz.func287 (by kernel_rfl) H
theorem w288 {a b c d h R} (H:Qfj 65 73 a b c d h R):FnS prog 288 #[a,b,c,d] h R:=wq Tryz.func288 (by kernel_rfl) H
theorem w289 {a b c d h R} (H:Qfj 5 115 a b c d h R):FnS prog 289 #[a,b,c,d] h R:=wq Tryz.func289 (by kernel_rfl) H
def s290 (g i j l:Value) (h:Qe) (R:Kn):Prop:=
 QG (fun a=>
 IfK j
 (a [(.int .u8 1)] h)
 (a [(.int .u8 0)] h)) fun a=>∀d:Value,∀c:Qe,a [d] c->
 QG (fun b=>
 IfK l
 (b [(.int .u8 1)] c)
 (b [(.int .u8 0)] c)) fun b=>∀e:Value,∀f:Qe,b [e] f->
 Qb prog 289 #[g,i,d,e] f fun _x16 m=>
 R (.tuple #[]) m
theorem w290 {a b c d h R} (H:s290 a b c d h R):FnS prog 290 #[a,b,c,d] h R:=wq Tryz.func290 (by kernel_rfl) H
theorem w291 {a b c d h R} (H:Qfj 21 354 a b c d h R):FnS prog 291 #[a,b,c,d] h R:=wq Tryz.func291 (by kernel_rfl) H
theorem w292 {a b c d h R} (H:Qfj 30 348 a b c d h R):FnS prog 292 #[a,b,c,d] h R:=wq Tryz.func292 (by kernel_rfl) H
theorem w293 {a b c d h R} (H:Qfj 2 101 a b c d h R):FnS prog 293 #[a,b,c,d] h R:=wq Tryz.func293 (by kernel_rfl) H
theorem w294 {a b c d h R} (H:Qfj 31 108 a b c d h R):FnS prog 294 #[a,b,c,d] h R:=wq Tryz.func294 (by kernel_rfl) H
theorem w295 {a b c d h R} (H:Qfj 138 352 a b c d h R):FnS prog 295 #[a,b,c,d] h R:=wq Tryz.func295 (by kernel_rfl) H
theorem w296 {a b c d h R} (H:Qfj 36 344 a b c d h R):FnS prog 296 #[a,b,c,d] h R:=wq Tryz.func296 (by kernel_rfl) H
def s297 (a:Value) (h:Qe) (R:Kn):Prop:=
 Qb prog 268 #[a] h fun _x5 b=>
 Qb prog 355 #[a] b fun c d=>
 Q5 a fun e=>
 Qh e 6 fun f=>
 StK d 1 f (.bool false) fun g=>
 R c g
theorem w297 {a h R} (H:s297 a h R):FnS prog 297 #[a] h R:=wq Tryz.func297 (by kernel_rfl) H
theorem w344 {a b h R} (H:tp95 1 378 a b h R):FnS prog 344 #[a,b] h R:=wq Tryz.func344 (by kernel_rfl) H
theorem w345 {a b h R} (H:tp95 2 379 a b h R):FnS prog 345 #[a,b] h R:=wq Tryz.func345 (by kernel_rfl) H
theorem w346 {a b c d h R} (H:Qfj 85 380 a b c d h R):FnS prog 346 #[a,b,c,d] h R:=wq Tryz.func346 (by kernel_rfl) H
theorem w348 {a b h R} (H:tp95 4 381 a b h R):FnS prog 348 #[a,b] h R:=wq Tryz.func348 (by kernel_rfl) H
theorem w352 {a b h R} (H:tp95 4 382 a b h R):FnS prog 352 #[a,b] h R:=wq Tryz.func352 (by kernel_rfl) H
def s353 (a c:Value) (h:Qe) (R:Kn):Prop:=
 Q5 a fun d=>
 Qh d 2 fun e=>
 LdK h e fun f=>
 Qb prog 261 #[a] h fun g b=>
 Qi h b<|
 Y7 1 f c fun i=>
 StK b 1 i g fun j=>
 R (.tuple #[]) j
theorem w353 {a b h R} (H:s353 a b h R):FnS prog 353 #[a,b] h R:=wq Tryz.func353 (by kernel_rfl) H
theorem w354 {a b h R} (H:tp95 4 383 a b h R):FnS prog 354 #[a,b] h R:=wq Tryz.func354 (by kernel_rfl) H
def s355 (a:Value) (h:Qe) (R:Kn):Prop:=
 Qb prog 384 #[a,(.int .i32 0)] h fun _x20 c8=>
 Qb prog 261 #[a] c8 fun c a6=>
 Q5 a fun c9=>
 Qh c9 2 fun d0=>
 LdK a6 d0 fun d1=>
 YQ d1 fun d2=>
 Qr prog .sub 3 d2 (.int .i64 1) fun d3=>
 QG (fun q=>
 YH [d3] a6 fun a7 a8=>∀i:Value,∀r:Qe,a7 a8 [i] r->
 Qr prog .geq 3 i (.int .i64 0) fun b=>
 Qd b true (fun d4=>d4 a r) r fun d5 a9=>
 Qd b true (fun d6=>Q5 d5 fun d7=>d6 d7 a9) a9 fun d8 b0=>
 Qd b true (fun d9=>Qh d8 2 fun e0=>d9 e0 b0) b0 fun e1 s=>
 Qd b true (fun e2=>LdK s e1 fun e3=>e2 e3 s) s fun e4 b1=>
 Qd b true (fun e5=>e5 i b1) b1 fun e6 b2=>
 Qd b true (fun e7=>Y7 1 e4 e6 fun e8=>e7 e8 b2) b2 fun e9 t=>
 Qd b true (fun f0=>LdK t e9 fun f1=>f0 f1 t) t fun f2 b3=>
 Qd b true (fun f3=>Qr prog .eql 65 f2 (.int .u32 0) fun f4=>f3 f4 b3) b3 fun f5 b4=>
 Yf b f5 (.bool false) fun f6=>
 IfK f6
 (Qr prog .sub 3 i (.int .i64 1) fun f7=>
 QZ a7 a8 [f7] b4)
 (q [i] b4)) fun q=>∀b5:Value,∀u:Qe,q [b5] u->
 Q5 a fun f8=>
 Qh f8 2 fun f9=>
 LdK u f9 fun g0=>
 Qr prog .add 3 b5 (.int .i64 1) fun g1=>
 Qg1 1 g0 none (some g1) fun g2=>
 Q5 a fun g3=>
 Qh g3 2 fun g4=>
 StK u 1 g4 g2 fun b6=>
 QG (fun l=>
 Q5 a fun g5=>
 Qh g5 4 fun g6=>
 LdK b6 g6 fun g7=>
 YQ g7 fun g8=>
 Qr prog .sub 3 g8 (.int .i64 1) fun g9=>
 YH [g9,(.int .u32 0)] b6 fun b7 b8=>∀f v:Value,∀e:Qe,b7 b8 [f,v] e->
 Qr prog .geq 3 f (.int .i64 0) fun i0=>
 IfK i0
 (Q5 a fun i1=>
 Qh i1 4 fun i2=>
 LdK e i2 fun i3=>
 Y7 1 i3 f fun i4=>
 LdK e i4 fun b9=>
 Q5 a fun i5=>
 Qh i5 0 fun i6=>
 LdK e i6 fun i7=>
 YQ i7 fun i8=>
 Yl .i64 b9 fun i9=>
 Qr prog .sub 3 i8 i9 fun w=>
 Q5 a fun j0=>
 Qh j0 0 fun j1=>
 LdK e j1 fun j2=>
 Qg1 1 j2 (some w) none fun j3=>
 Qb prog 385 #[j3] e fun j4 y=>
 Yl .i64 j4 fun j5=>
 Qr prog .add 3 w j5 fun j6=>
 Q5 a fun j7=>
 Qh j7 0 fun j8=>
 LdK y j8 fun j9=>
 Qr prog .add 3 w (.int .i64 4) fun l0=>
 Qg1 1 j9 (some l0) (some j6) fun l1=>
 Q5 a fun l2=>
 Qh l2 2 fun l3=>
 LdK y l3 fun l4=>
 Qb prog 386 #[l4,c,l1] y fun l5 c0=>
 IfK l5
 (l [f,b9] c0)
 (Qr prog .sub 3 f (.int .i64 1) fun l6=>
 QZ b7 b8 [l6,v] c0))
 (l [f,v] e)) fun l=>∀l7 z:Value,∀j:Qe,l [l7,z] j->
 QG (fun m=>
 Qr prog .eql 65 z (.int .u32 0) fun l8=>
 IfK l8
 (QG (fun a0=>
 Q5 a fun l9=>
 Qh l9 2 fun m0=>
 LdK j m0 fun m1=>
 YQ m1 fun m2=>
 Qr prog .sub 3 m2 (.int .i64 1) fun m3=>
 YH [m3] j fun c1 c2=>∀g:Value,∀d:Qe,c1 c2 [g] d->
 Qr prog .geq 3 g (.int .i64 0) fun m4=>
 IfK m4
 (QG (fun o=>
 Q5 a fun m5=>
 Qh m5 2 fun m6=>
 LdK d m6 fun m7=>
 Y7 1 m7 g fun m8=>
 LdK d m8 fun m9=>
 Qr prog .neq 65 m9 (.int .u32 0) fun o0=>
 IfK o0
 (Q5 a fun o1=>
 Qh o1 2 fun o2=>
 LdK d o2 fun o3=>
 Y7 1 o3 g fun o4=>
 LdK d o4 fun o5=>
 Qr prog .sub 65 c o5 fun o6=>
 o [o6] d)
 (o [(.int .u32 0)] d)) fun o=>∀c3:Value,∀c4:Qe,o [c3] c4->
 Yl .u16 c3 fun o7=>
 Qb prog 387 #[a,o7] c4 fun _x138 o8=>
 Qr prog .sub 3 g (.int .i64 1) fun o9=>
 QZ c1 c2 [o9] o8)
 (a0 [g] d)) fun a0=>∀p0:Value,∀a1:Qe,a0 [p0] a1->
 Q5 a fun p1=>
 Qh p1 3 fun p2=>
 LdK a1 p2 fun p3=>
 Qr prog .sub 65 c p3 fun p4=>
 Yl .u16 p4 fun p5=>
 Qb prog 387 #[a,p5] a1 fun _x148 c5=>
 Q5 a fun p6=>
 Qh p6 2 fun p7=>
 LdK c5 p7 fun p8=>
 YQ p8 fun p9=>
 Qr prog .add 3 p9 (.int .i64 2) fun q0=>
 Qr prog .mul 3 q0 (.int .i64 2) fun q1=>
 Yl .u16 q1 fun q2=>
 Qb prog 387 #[a,q2] c5 fun _x159 p=>
 Q5 a fun q3=>
 Qh q3 0 fun q4=>
 LdK p q4 fun q5=>
 YQ q5 fun q6=>
 Yl .i32 q6 fun q7=>
 Yl .i32 c fun q8=>
 Qr prog .sub 332 q7 q8 fun q9=>
 Q5 a fun r0=>
 Qh r0 0 fun r1=>
 LdK p r1 fun r2=>
 Qg1 1 r2 (some q9) none fun r3=>
 Yl .i32 c fun r4=>
 Qb prog 261 #[a] p fun r5 c6=>
 Qi p c6<|
 Yl .i32 r5 fun r6=>
 Qr prog .sub 332 r6 r4 fun r7=>
 Qb prog 388 #[r3,r7] c6 fun _x181 a2=>
 Q5 a fun r8=>
 Qh r8 4 fun r9=>
 LdK a2 r9 fun s0=>
 Qb prog 261 #[a] a2 fun s1 a3=>
 Qi a2 a3<|
 QN a3 65 1 (ZC z65.toList 1) [(0,1,s1)] fun s2 c7=>
 Qi a3 c7<|
 QdQ c7 65 1 4 z65 s0 s2 fun s3 s4=>
 Q5 a fun s5=>
 Qh s5 4 fun s6=>
 StK s4 1 s6 s3 fun s7=>
 m [] s7)
 (Q5 a fun s8=>
 Qh s8 0 fun s9=>
 LdK j s9 fun t0=>
 YQ t0 fun t1=>
 Yl .i32 t1 fun t2=>
 Yl .i32 c fun t3=>
 Qr prog .sub 332 t2 t3 fun t4=>
 Yl .u32 t4 fun t5=>
 Q5 a fun t6=>
 Qh t6 5 fun t7=>
 StK j 1 t7 t5 fun a4=>
 Q5 a fun t8=>
 Qh t8 0 fun t9=>
 LdK a4 t9 fun u0=>
 Q5 a fun u1=>
 Qh u1 5 fun u2=>
 LdK a4 u2 fun u3=>
 Qg1 1 u0 (some u3) none fun u4=>
 Yl .i32 z fun u5=>
 Yl .i32 c fun u6=>
 Qr prog .sub 332 u5 u6 fun u7=>
 Qb prog 388 #[u4,u7] a4 fun _x221 u8=>
 m [] u8)) fun m=>∀a5:Qe,m [] a5->
 Q5 a fun u9=>
 Qh u9 2 fun v0=>
 LdK a5 v0 fun v1=>
 Qg1 1 v1 none (some (.int .i64 0)) fun v2=>
 Q5 a fun v3=>
 Qh v3 2 fun v4=>
 StK a5 1 v4 v2 fun v5=>
 R c v5
theorem w355 {a h R} (H:s355 a h R):FnS prog 355 #[a] h R:=wq Tryz.func355 (by kernel_rfl) H
theorem w378 {a b h R} (H:QcX 1 392 a b h R):FnS prog 378 #[a,b] h R:=wq Tryz.func378 (by kernel_rfl) H
theorem w379 {a b h R} (H:QcX 2 393 a b h R):FnS prog 379 #[a,b] h R:=wq Tryz.func379 (by kernel_rfl) H
theorem w380 {a b h R} (H:tp95 2 394 a b h R):FnS prog 380 #[a,b] h R:=wq Tryz.func380 (by kernel_rfl) H
theorem w381 {a b h R} (H:QcX 4 376 a b h R):FnS prog 381 #[a,b] h R:=wq Tryz.func381 (by kernel_rfl) H
theorem w382 {a b h R} (H:QcX 4 395 a b h R):FnS prog 382 #[a,b] h R:=wq Tryz.func382 (by kernel_rfl) H
theorem w383 {a b h R} (H:QcX 4 396 a b h R):FnS prog 383 #[a,b] h R:=wq Tryz.func383 (by kernel_rfl) H
def s384 (a c:Value) (h:Qe) (R:Kn):Prop:=
 Qb prog 72 #[a,(.int .i64 4),(.int .i64 0)] h fun _x6 e=>
 QG (fun b=>
 Yl .u32 c fun f=>
 Qb prog 261 #[a] e fun g i=>
 Qr prog .leq 65 f g fun j=>
 ZM prog (Op.unary .not j) fun l=>
 IfK l
 (False)
 (b [] i)) fun b=>∀d:Qe,b [] d->
 Qb prog 261 #[a] d fun m o=>
 Yl .i32 m fun p=>
 Qr prog .sub 332 p c fun q=>
 Qr prog .add 332 q (.int .i32 4) fun r=>
 Qb prog 397 #[a,r] o fun _x22 s=>
 R (.tuple #[]) s
theorem w384 {a b h R} (H:s384 a b h R):FnS prog 384 #[a,b] h R:=wq Tryz.func384 (by kernel_rfl) H
def s386 (c y l:Value) (h:Qe) (R:Kn):Prop:=
 YQ c fun z=>
 Qr prog .mul 3 z (.int .i64 2) fun a0=>
 YQ l fun a1=>
 Qr prog .neq 3 a0 a1 fun a2=>
 IfK a2
 (R (.bool false) h)
 (QG (fun g=>
 YH [(.int .i64 0),(.bool false)] h fun m o=>∀a d:Value,∀i:Qe,m o [a,d] i->
 YQ c fun a3=>
 Qr prog .lss 3 a a3 fun a4=>
 IfK a4
 (QG (fun e=>
 Qr prog .mul 3 a (.int .i64 2) fun a5=>
 Qr prog .add 3 a (.int .i64 1) fun a6=>
 Qr prog .mul 3 a6 (.int .i64 2) fun a7=>
 Qg1 1 l (some a5) (some a7) fun a8=>
 Qb prog 385 #[a8] i fun p q=>
 Qr prog .eql 292 p (.int .u16 0) fun b=>
 Qd b true (fun a9=>a9 c q) q fun b0 r=>
 Qd b true (fun b1=>b1 a r) r fun b2 s=>
 Qd b true (fun b3=>Y7 1 b0 b2 fun b4=>b3 b4 s) s fun b5 j=>
 Qd b true (fun b6=>LdK j b5 fun b7=>b6 b7 j) j fun b8 t=>
 Qd b true (fun b9=>Qr prog .eql 65 b8 (.int .u32 0) fun c0=>b9 c0 t) t fun c1 f=>
 Yf b c1 (.bool false) fun c2=>
 IfK c2
 (e [d] f)
 (Yl .i32 y fun c3=>
 Y7 1 c a fun c4=>
 LdK f c4 fun c5=>
 Yl .i32 c5 fun c6=>
 Qr prog .sub 332 c3 c6 fun c7=>
 Yl .i32 p fun c8=>
 Qr prog .neq 332 c8 c7 fun c9=>
 IfK c9
 (R (.bool false) f)
 (e [d] f))) fun e=>∀u:Value,∀v:Qe,e [u] v->
 Qr prog .add 3 a (.int .i64 1) fun d0=>
 QZ m o [d0,u] v)
 (g [a,d] i)) fun g=>∀d1 d2:Value,∀w:Qe,g [d1,d2] w->
 R (.bool true) w)
theorem w386 {a b c h R} (H:s386 a b c h R):FnS prog 386 #[a,b,c] h R:=wq Tryz.func386 (by kernel_rfl) H
theorem w387 {a b h R} (H:tp95 2 398 a b h R):FnS prog 387 #[a,b] h R:=wq Tryz.func387 (by kernel_rfl) H
theorem w394 {a b h R} (H:QcX 2 399 a b h R):FnS prog 394 #[a,b] h R:=wq Tryz.func394 (by kernel_rfl) H
theorem w397 {a b h R} (H:QcX 4 388 a b h R):FnS prog 397 #[a,b] h R:=wq Tryz.func397 (by kernel_rfl) H
theorem w398 {a b h R} (H:QcX 2 400 a b h R):FnS prog 398 #[a,b] h R:=wq Tryz.func398 (by kernel_rfl) H
end Go.Proofs
namespace Go.Proofs
open Go Go.Vc
open Tryz (prog)
section
variable {H:Qe} {p:Nat} {S:BS} {F:Cut} {B V T:Nat} {L:List UInt8} {len head:Nat} {vtv vtsv:Value} {e eB:TypeId}
 (hr:Raw H p S F B V T L len head vtv vtsv e eB)
include hr
theorem YE:Qb2 H ⟨p,0,none⟩=some (bsl B 0 len L.length):=(Qj hr.hp).trans rfl
theorem ld_min:Qb2 H ⟨p,1,none⟩=some (.int .i64 S.min):=(Qj hr.hp).trans rfl
theorem Qie:Qb2 H ⟨p,2,none⟩=some vtv:=(Qj hr.hp).trans rfl
theorem ld_oe:Qb2 H ⟨p,3,none⟩=some (.int .u32 S.oe):=(Qj hr.hp).trans rfl
theorem ld_vts:Qb2 H ⟨p,4,none⟩=some vtsv:=(Qj hr.hp).trans rfl
theorem YD:Qb2 H ⟨p,5,none⟩=some (.int .u32 head):=(Qj hr.hp).trans rfl
theorem ld_nested:Qb2 H ⟨p,6,none⟩=some (.bool S.nested):=(Qj hr.hp).trans rfl
theorem ld_fin:Qb2 H ⟨p,7,none⟩=some (.bool S.fin):=(Qj hr.hp).trans rfl
theorem st_min {kp:Qe->Prop} {m:Nat}:StK H 1 (.pointer (some ⟨p,1,none⟩)) (.int .i64 (m:Int)) kp=kp (setB H p (.cells (QfT B len L.length {S with min:=m} vtv vtsv head) e (0,0))):=Qbe hr.hp (by decide:1<9) (by simp) rfl
theorem st_oe {kp:Qe->Prop} {m:Nat}:StK H 1 (.pointer (some ⟨p,3,none⟩)) (.int .u32 (m:Int)) kp=kp (setB H p (.cells (QfT B len L.length {S with oe:=m} vtv vtsv head) e (0,0))):=Qbe hr.hp (by decide:3<9) (by simp) rfl
theorem Qbu {kp:Qe->Prop} {m:Nat}:StK H 1 (.pointer (some ⟨p,5,none⟩)) (.int .u32 (m:Int)) kp=kp (setB H p (.cells (QfT B len L.length S vtv vtsv m) e (0,0))):=Qbe hr.hp (by decide:5<9) (by simp) rfl
theorem st_nested {kp:Qe->Prop} {m:Bool}:StK H 1 (.pointer (some ⟨p,6,none⟩)) (.bool m) kp=kp (setB H p (.cells (QfT B len L.length {S with nested:=m} vtv vtsv head) e (0,0))):=Qbe hr.hp (by decide:6<9) (by simp) rfl
theorem st_fin {kp:Qe->Prop} {m:Bool}:StK H 1 (.pointer (some ⟨p,7,none⟩)) (.bool m) kp=kp (setB H p (.cells (QfT B len L.length {S with fin:=m} vtv vtsv head) e (0,0))):=Qbe hr.hp (by decide:7<9) (by simp) rfl
theorem ZN {k:Value->Prop} {κ:IntKind} {m:Nat} (hm:m<len):Qg1 1 (bsl B 0 len L.length) (some (.int κ (m:Int))) none k=k (bsl B m (len-m) (L.length-m)):=by
 have:=hr.hlen
 rw[bsl,SlcK_lo (by omega) (by omega) hr.hlen]
 have:¬L.length=m:=by omega
 simp[this]
end
section
variable {H:Qe} {p:Nat} {S:BS} {F:Cut} {r:Nat} (hB:Qc H p S F r) {R:Kn}
include hB
theorem Yc (hR:R (.int .u32 (S.buf.length:Nat)) H):FnS prog 261 #[.pointer (some ⟨p,0,none⟩)] H R:=by
 obtain ⟨hd,h1,⟨B,V,T,L,len,vtv,vtsv,e,eB,hr,h2,h3⟩⟩:=hB
 have:=hr.lt
 apply w261
 unfold s261
 simp only[↓Qt,↓Qu,↓Ql (YE hr),↓Ql (YD hr),↓QbM,↓QP,↓Yh]
 rw[QT (n:=(len:Int)) (by omega) (by omega),QT (by omega) (by omega)]
 rw[show ((len:Int)-(hd:Int))=((S.buf.length:Nat):Int) by omega]
 exact hR
theorem go_Builder_Head {k:Nat->Prop} (hR:∀head,BuilderH H p S F head->R (.int .u32 (head:Nat)) H):FnS prog 168 #[.pointer (some ⟨p,0,none⟩)] H R:=by
 obtain ⟨hd,h1,⟨B,V,T,L,len,vtv,vtsv,e,eB,hr,h2,h3⟩⟩:=hB
 apply w168
 unfold s168
 simp only[↓Qt,↓Qu,↓Ql (YD hr)]
 exact hR hd ⟨B,V,T,L,len,vtv,vtsv,e,eB,hr,h2,h3⟩
theorem YP (hn:S.nested=false) (hR:R (.tuple #[]) H):FnS prog 71 #[.pointer (some ⟨p,0,none⟩)] H R:=by
 obtain ⟨hd,h1,⟨B,V,T,L,len,vtv,vtsv,e,eB,hr,h2,h3⟩⟩:=hB
 apply w71
 unfold s71
 simp only[↓Qt,↓Qu,↓Ql (ld_nested hr),hn]
 exact hR
theorem QaL (hn:S.nested=true) (hR:R (.tuple #[]) H):FnS prog 268 #[.pointer (some ⟨p,0,none⟩)] H R:=by
 obtain ⟨hd,h1,⟨B,V,T,L,len,vtv,vtsv,e,eB,hr,h2,h3⟩⟩:=hB
 apply w268
 unfold tp167
 simp only[↓Qt,↓Qu,↓Ql (ld_nested hr),hn,↓Ym]
 exact hR
theorem QeT (hn:S.fin=true) (hR:R (.tuple #[]) H):FnS prog 167 #[.pointer (some ⟨p,0,none⟩)] H R:=by
 obtain ⟨hd,h1,⟨B,V,T,L,len,vtv,vtsv,e,eB,hr,h2,h3⟩⟩:=hB
 apply w167
 unfold tp167
 simp only[↓Qt,↓Qu,↓Ql (ld_fin hr),hn,↓Ym]
 exact hR
theorem Qce {kp:Qe->Prop} {m:Bool} (hk:∀H',Qc H' p {S with nested:=m} F r->kp H'):StK H 1 (.pointer (some ⟨p,6,none⟩)) (.bool m) kp:=by
 obtain ⟨hd,h1,⟨B,V,T,L,len,vtv,vtsv,e,eB,hr,h2,h3⟩⟩:=hB
 rw[st_nested hr]
 exact hk _ ⟨hd,h1,⟨B,V,T,L,len,vtv,vtsv,e,eB,Raw.setp hr rfl rfl,h2,h3⟩⟩
theorem st_fin_at {kp:Qe->Prop} {m:Bool} (hk:∀H',Qc H' p {S with fin:=m} F r->kp H'):StK H 1 (.pointer (some ⟨p,7,none⟩)) (.bool m) kp:=by
 obtain ⟨hd,h1,⟨B,V,T,L,len,vtv,vtsv,e,eB,hr,h2,h3⟩⟩:=hB
 rw[st_fin hr]
 exact hk _ ⟨hd,h1,⟨B,V,T,L,len,vtv,vtsv,e,eB,Raw.setp hr rfl rfl,h2,h3⟩⟩
theorem st_oe_at {kp:Qe->Prop} {m:Nat} (hk:∀H',Qc H' p {S with oe:=m} F r->kp H'):StK H 1 (.pointer (some ⟨p,3,none⟩)) (.int .u32 (m:Int)) kp:=by
 obtain ⟨hd,h1,⟨B,V,T,L,len,vtv,vtsv,e,eB,hr,h2,h3⟩⟩:=hB
 rw[st_oe hr]
 exact hk _ ⟨hd,h1,⟨B,V,T,L,len,vtv,vtsv,e,eB,Raw.setp hr rfl rfl,h2,h3⟩⟩
theorem st_min_at {kp:Qe->Prop} {m:Nat} (hk:∀H',Qc H' p {S with min:=m} F r->kp H'):StK H 1 (.pointer (some ⟨p,1,none⟩)) (.int .i64 (m:Int)) kp:=by
 obtain ⟨hd,h1,⟨B,V,T,L,len,vtv,vtsv,e,eB,hr,h2,h3⟩⟩:=hB
 rw[st_min hr]
 exact hk _ ⟨hd,h1,⟨B,V,T,L,len,vtv,vtsv,e,eB,Raw.setp hr rfl rfl,h2,h3⟩⟩
theorem Qas {b:UInt8} (hk:1<=r) (hR:∀H',Qc H' p (place [b] S) F (r-1)->R (.tuple #[]) H'):FnS prog 263 #[.pointer (some ⟨p,0,none⟩),.int .u8 (b.toNat:Int)] H R:=by
 obtain ⟨hd,h1,⟨B,V,T,L,len,vtv,vtsv,e,eB,hr,h2,h3⟩⟩:=hB
 have:=hr.lt;have:=hr.hlen
 have e1:IntKind.u32.wrap ((hd:Int)-1)=((hd-1:Nat):Int):=by rw[QT (by omega) (by omega)];omega
 apply w263
 unfold QcX
 simp only[↓Qt,↓Qu,↓Ql (YD hr),↓Yh,e1,↓Qbu hr]
 have hr2:=Raw.setp (S':=S) (head':=hd-1) hr rfl rfl
 simp only[↓Ql (YE hr2),↓Ql (YD hr2),↓ZN hr2 (m:=hd-1) (by omega)]
 refine go_WriteByte hr2.hB (by omega) (by omega) ?_
 refine hR _ ⟨hd-1,by omega,⟨B,V,T,_,len,vtv,vtsv,e,eB,Raw.wr hr2 (Yd _ _ _) rfl rfl rfl,?_,?_⟩⟩
 ·have hl:([b]:List UInt8).length=1:=by simp[Qf]
  simp only[place,List.length_append,hl];omega
 ·have hl:([b]:List UInt8).length=1:=by simp[Qf]
  have:=QaI (xs:=[b]) hr.hlen h2 h3 (by omega)
  rw[hl]at this
  exact this
theorem Qh4 {b:Bool} (hk:1<=r) (hR:∀H',Qc H' p (place [if b then 1 else 0] S) F (r-1)->R (.tuple #[]) H'):FnS prog 274 #[.pointer (some ⟨p,0,none⟩),.bool b] H R:=by
 obtain ⟨hd,h1,⟨B,V,T,L,len,vtv,vtsv,e,eB,hr,h2,h3⟩⟩:=hB
 have:=hr.lt;have:=hr.hlen
 have e1:IntKind.u32.wrap ((hd:Int)-1)=((hd-1:Nat):Int):=by rw[QT (by omega) (by omega)];omega
 apply w274
 unfold QcX
 simp only[↓Qt,↓Qu,↓Ql (YD hr),↓Yh,e1,↓Qbu hr]
 have hr2:=Raw.setp (S':=S) (head':=hd-1) hr rfl rfl
 simp only[↓Ql (YE hr2),↓Ql (YD hr2),↓ZN hr2 (m:=hd-1) (by omega)]
 refine go_WriteBool hr2.hB (by omega) (by omega) ?_
 refine hR _ ⟨hd-1,by omega,⟨B,V,T,_,len,vtv,vtsv,e,eB,Raw.wr hr2 (Yd _ _ _) rfl rfl rfl,?_,?_⟩⟩
 ·have hl:([if b then 1 else 0]:List UInt8).length=1:=by simp[Qf]
  simp only[place,List.length_append,hl];omega
 ·have hl:([if b then 1 else 0]:List UInt8).length=1:=by simp[Qf]
  have:=QaI (xs:=[if b then 1 else 0]) hr.hlen h2 h3 (by omega)
  rw[hl]at this
  exact this
theorem Qh7 {x:Int} (hk:1<=r) (hR:∀H',Qc H' p (place (leB x 1) S) F (r-1)->R (.tuple #[]) H'):FnS prog 378 #[.pointer (some ⟨p,0,none⟩),.int .i8 x] H R:=by
 obtain ⟨hd,h1,⟨B,V,T,L,len,vtv,vtsv,e,eB,hr,h2,h3⟩⟩:=hB
 have:=hr.lt;have:=hr.hlen
 have e1:IntKind.u32.wrap ((hd:Int)-1)=((hd-1:Nat):Int):=by rw[QT (by omega) (by omega)];omega
 apply w378
 unfold QcX
 simp only[↓Qt,↓Qu,↓Ql (YD hr),↓Yh,e1,↓Qbu hr]
 have hr2:=Raw.setp (S':=S) (head':=hd-1) hr rfl rfl
 simp only[↓Ql (YE hr2),↓Ql (YD hr2),↓ZN hr2 (m:=hd-1) (by omega)]
 refine go_WriteInt8 hr2.hB (by omega) (by omega) ?_
 refine hR _ ⟨hd-1,by omega,⟨B,V,T,_,len,vtv,vtsv,e,eB,Raw.wr hr2 (Yd _ _ _) rfl rfl rfl,?_,?_⟩⟩
 ·have hl:((leB x 1):List UInt8).length=1:=by simp[Qf]
  simp only[place,List.length_append,hl];omega
 ·have hl:((leB x 1):List UInt8).length=1:=by simp[Qf]
  have:=QaI (xs:=(leB x 1)) hr.hlen h2 h3 (by omega)
  rw[hl]at this
  exact this
theorem Qgs {x:Int} (hk:2<=r) (hR:∀H',Qc H' p (place (leB x 2) S) F (r-2)->R (.tuple #[]) H'):FnS prog 379 #[.pointer (some ⟨p,0,none⟩),.int .i16 x] H R:=by
 obtain ⟨hd,h1,⟨B,V,T,L,len,vtv,vtsv,e,eB,hr,h2,h3⟩⟩:=hB
 have:=hr.lt;have:=hr.hlen
 have e1:IntKind.u32.wrap ((hd:Int)-2)=((hd-2:Nat):Int):=by rw[QT (by omega) (by omega)];omega
 apply w379
 unfold QcX
 simp only[↓Qt,↓Qu,↓Ql (YD hr),↓Yh,e1,↓Qbu hr]
 have hr2:=Raw.setp (S':=S) (head':=hd-2) hr rfl rfl
 simp only[↓Ql (YE hr2),↓Ql (YD hr2),↓ZN hr2 (m:=hd-2) (by omega)]
 refine go_WriteInt16 hr2.hB (by omega) (by omega) ?_
 refine hR _ ⟨hd-2,by omega,⟨B,V,T,_,len,vtv,vtsv,e,eB,Raw.wr hr2 (Yd _ _ _) rfl rfl rfl,?_,?_⟩⟩
 ·have hl:((leB x 2):List UInt8).length=2:=by simp[Qf]
  simp only[place,List.length_append,hl];omega
 ·have hl:((leB x 2):List UInt8).length=2:=by simp[Qf]
  have:=QaI (xs:=(leB x 2)) hr.hlen h2 h3 (by omega)
  rw[hl]at this
  exact this
theorem Qg9 {x:Int} (hk:2<=r) (hR:∀H',Qc H' p (place (leB x 2) S) F (r-2)->R (.tuple #[]) H'):FnS prog 394 #[.pointer (some ⟨p,0,none⟩),.int .u16 x] H R:=by
 obtain ⟨hd,h1,⟨B,V,T,L,len,vtv,vtsv,e,eB,hr,h2,h3⟩⟩:=hB
 have:=hr.lt;have:=hr.hlen
 have e1:IntKind.u32.wrap ((hd:Int)-2)=((hd-2:Nat):Int):=by rw[QT (by omega) (by omega)];omega
 apply w394
 unfold QcX
 simp only[↓Qt,↓Qu,↓Ql (YD hr),↓Yh,e1,↓Qbu hr]
 have hr2:=Raw.setp (S':=S) (head':=hd-2) hr rfl rfl
 simp only[↓Ql (YE hr2),↓Ql (YD hr2),↓ZN hr2 (m:=hd-2) (by omega)]
 refine Qhh hr2.hB (by omega) (by omega) ?_
 refine hR _ ⟨hd-2,by omega,⟨B,V,T,_,len,vtv,vtsv,e,eB,Raw.wr hr2 (Yd _ _ _) rfl rfl rfl,?_,?_⟩⟩
 ·have hl:((leB x 2):List UInt8).length=2:=by simp[Qf]
  simp only[place,List.length_append,hl];omega
 ·have hl:((leB x 2):List UInt8).length=2:=by simp[Qf]
  have:=QaI (xs:=(leB x 2)) hr.hlen h2 h3 (by omega)
  rw[hl]at this
  exact this
theorem Qf3 {x:Int} (hk:2<=r) (hR:∀H',Qc H' p (place (leB x 2) S) F (r-2)->R (.tuple #[]) H'):FnS prog 398 #[.pointer (some ⟨p,0,none⟩),.int .u16 x] H R:=by
 obtain ⟨hd,h1,⟨B,V,T,L,len,vtv,vtsv,e,eB,hr,h2,h3⟩⟩:=hB
 have:=hr.lt;have:=hr.hlen
 have e1:IntKind.u32.wrap ((hd:Int)-2)=((hd-2:Nat):Int):=by rw[QT (by omega) (by omega)];omega
 apply w398
 unfold QcX
 simp only[↓Qt,↓Qu,↓Ql (YD hr),↓Yh,e1,↓Qbu hr]
 have hr2:=Raw.setp (S':=S) (head':=hd-2) hr rfl rfl
 simp only[↓Ql (YE hr2),↓Ql (YD hr2),↓ZN hr2 (m:=hd-2) (by omega)]
 refine Qjg hr2.hB (by omega) (by omega) ?_
 refine hR _ ⟨hd-2,by omega,⟨B,V,T,_,len,vtv,vtsv,e,eB,Raw.wr hr2 (Yd _ _ _) rfl rfl rfl,?_,?_⟩⟩
 ·have hl:((leB x 2):List UInt8).length=2:=by simp[Qf]
  simp only[place,List.length_append,hl];omega
 ·have hl:((leB x 2):List UInt8).length=2:=by simp[Qf]
  have:=QaI (xs:=(leB x 2)) hr.hlen h2 h3 (by omega)
  rw[hl]at this
  exact this
theorem Qgq {x:Int} (hk:4<=r) (hR:∀H',Qc H' p (place (leB x 4) S) F (r-4)->R (.tuple #[]) H'):FnS prog 383 #[.pointer (some ⟨p,0,none⟩),.int .i32 x] H R:=by
 obtain ⟨hd,h1,⟨B,V,T,L,len,vtv,vtsv,e,eB,hr,h2,h3⟩⟩:=hB
 have:=hr.lt;have:=hr.hlen
 have e1:IntKind.u32.wrap ((hd:Int)-4)=((hd-4:Nat):Int):=by rw[QT (by omega) (by omega)];omega
 apply w383
 unfold QcX
 simp only[↓Qt,↓Qu,↓Ql (YD hr),↓Yh,e1,↓Qbu hr]
 have hr2:=Raw.setp (S':=S) (head':=hd-4) hr rfl rfl
 simp only[↓Ql (YE hr2),↓Ql (YD hr2),↓ZN hr2 (m:=hd-4) (by omega)]
 refine QhN hr2.hB (by omega) (by omega) ?_
 refine hR _ ⟨hd-4,by omega,⟨B,V,T,_,len,vtv,vtsv,e,eB,Raw.wr hr2 (Yd _ _ _) rfl rfl rfl,?_,?_⟩⟩
 ·have hl:((leB x 4):List UInt8).length=4:=by simp[Qf]
  simp only[place,List.length_append,hl];omega
 ·have hl:((leB x 4):List UInt8).length=4:=by simp[Qf]
  have:=QaI (xs:=(leB x 4)) hr.hlen h2 h3 (by omega)
  rw[hl]at this
  exact this
theorem Qg3 {x:Int} (hk:4<=r) (hR:∀H',Qc H' p (place (leB x 4) S) F (r-4)->R (.tuple #[]) H'):FnS prog 381 #[.pointer (some ⟨p,0,none⟩),.int .u32 x] H R:=by
 obtain ⟨hd,h1,⟨B,V,T,L,len,vtv,vtsv,e,eB,hr,h2,h3⟩⟩:=hB
 have:=hr.lt;have:=hr.hlen
 have e1:IntKind.u32.wrap ((hd:Int)-4)=((hd-4:Nat):Int):=by rw[QT (by omega) (by omega)];omega
 apply w381
 unfold QcX
 simp only[↓Qt,↓Qu,↓Ql (YD hr),↓Yh,e1,↓Qbu hr]
 have hr2:=Raw.setp (S':=S) (head':=hd-4) hr rfl rfl
 simp only[↓Ql (YE hr2),↓Ql (YD hr2),↓ZN hr2 (m:=hd-4) (by omega)]
 refine QeL hr2.hB (by omega) (by omega) ?_
 refine hR _ ⟨hd-4,by omega,⟨B,V,T,_,len,vtv,vtsv,e,eB,Raw.wr hr2 (Yd _ _ _) rfl rfl rfl,?_,?_⟩⟩
 ·have hl:((leB x 4):List UInt8).length=4:=by simp[Qf]
  simp only[place,List.length_append,hl];omega
 ·have hl:((leB x 4):List UInt8).length=4:=by simp[Qf]
  have:=QaI (xs:=(leB x 4)) hr.hlen h2 h3 (by omega)
  rw[hl]at this
  exact this
theorem Qcl {x:Int} (hk:4<=r) (hR:∀H',Qc H' p (place (leB x 4) S) F (r-4)->R (.tuple #[]) H'):FnS prog 262 #[.pointer (some ⟨p,0,none⟩),.int .u32 x] H R:=by
 obtain ⟨hd,h1,⟨B,V,T,L,len,vtv,vtsv,e,eB,hr,h2,h3⟩⟩:=hB
 have:=hr.lt;have:=hr.hlen
 have e1:IntKind.u32.wrap ((hd:Int)-4)=((hd-4:Nat):Int):=by rw[QT (by omega) (by omega)];omega
 apply w262
 unfold QcX
 simp only[↓Qt,↓Qu,↓Ql (YD hr),↓Yh,e1,↓Qbu hr]
 have hr2:=Raw.setp (S':=S) (head':=hd-4) hr rfl rfl
 simp only[↓Ql (YE hr2),↓Ql (YD hr2),↓ZN hr2 (m:=hd-4) (by omega)]
 refine Qjd hr2.hB (by omega) (by omega) ?_
 refine hR _ ⟨hd-4,by omega,⟨B,V,T,_,len,vtv,vtsv,e,eB,Raw.wr hr2 (Yd _ _ _) rfl rfl rfl,?_,?_⟩⟩
 ·have hl:((leB x 4):List UInt8).length=4:=by simp[Qf]
  simp only[place,List.length_append,hl];omega
 ·have hl:((leB x 4):List UInt8).length=4:=by simp[Qf]
  have:=QaI (xs:=(leB x 4)) hr.hlen h2 h3 (by omega)
  rw[hl]at this
  exact this
theorem Qfc {x:Int} (hk:4<=r) (hR:∀H',Qc H' p (place (leB x 4) S) F (r-4)->R (.tuple #[]) H'):FnS prog 397 #[.pointer (some ⟨p,0,none⟩),.int .i32 x] H R:=by
 obtain ⟨hd,h1,⟨B,V,T,L,len,vtv,vtsv,e,eB,hr,h2,h3⟩⟩:=hB
 have:=hr.lt;have:=hr.hlen
 have e1:IntKind.u32.wrap ((hd:Int)-4)=((hd-4:Nat):Int):=by rw[QT (by omega) (by omega)];omega
 apply w397
 unfold QcX
 simp only[↓Qt,↓Qu,↓Ql (YD hr),↓Yh,e1,↓Qbu hr]
 have hr2:=Raw.setp (S':=S) (head':=hd-4) hr rfl rfl
 simp only[↓Ql (YE hr2),↓Ql (YD hr2),↓ZN hr2 (m:=hd-4) (by omega)]
 refine QdF hr2.hB (by omega) (by omega) ?_
 refine hR _ ⟨hd-4,by omega,⟨B,V,T,_,len,vtv,vtsv,e,eB,Raw.wr hr2 (Yd _ _ _) rfl rfl rfl,?_,?_⟩⟩
 ·have hl:((leB x 4):List UInt8).length=4:=by simp[Qf]
  simp only[place,List.length_append,hl];omega
 ·have hl:((leB x 4):List UInt8).length=4:=by simp[Qf]
  have:=QaI (xs:=(leB x 4)) hr.hlen h2 h3 (by omega)
  rw[hl]at this
  exact this
theorem QfJ {x:Nat} (hk:4<=r) (hR:∀H',Qc H' p (place (leB x 4) S) F (r-4)->R (.tuple #[]) H'):FnS prog 382 #[.pointer (some ⟨p,0,none⟩),.float .f32 x] H R:=by
 obtain ⟨hd,h1,⟨B,V,T,L,len,vtv,vtsv,e,eB,hr,h2,h3⟩⟩:=hB
 have:=hr.lt;have:=hr.hlen
 have e1:IntKind.u32.wrap ((hd:Int)-4)=((hd-4:Nat):Int):=by rw[QT (by omega) (by omega)];omega
 apply w382
 unfold QcX
 simp only[↓Qt,↓Qu,↓Ql (YD hr),↓Yh,e1,↓Qbu hr]
 have hr2:=Raw.setp (S':=S) (head':=hd-4) hr rfl rfl
 simp only[↓Ql (YE hr2),↓Ql (YD hr2),↓ZN hr2 (m:=hd-4) (by omega)]
 refine go_WriteFloat32 hr2.hB (by omega) (by omega) ?_
 refine hR _ ⟨hd-4,by omega,⟨B,V,T,_,len,vtv,vtsv,e,eB,Raw.wr hr2 (Yd _ _ _) rfl rfl rfl,?_,?_⟩⟩
 ·have hl:((leB x 4):List UInt8).length=4:=by simp[Qf]
  simp only[place,List.length_append,hl];omega
 ·have hl:((leB x 4):List UInt8).length=4:=by simp[Qf]
  have:=QaI (xs:=(leB x 4)) hr.hlen h2 h3 (by omega)
  rw[hl]at this
  exact this
theorem Qgo {x:Int} (hk:8<=r) (hR:∀H',Qc H' p (place (leB x 8) S) F (r-8)->R (.tuple #[]) H'):FnS prog 276 #[.pointer (some ⟨p,0,none⟩),.int .i64 x] H R:=by
 obtain ⟨hd,h1,⟨B,V,T,L,len,vtv,vtsv,e,eB,hr,h2,h3⟩⟩:=hB
 have:=hr.lt;have:=hr.hlen
 have e1:IntKind.u32.wrap ((hd:Int)-8)=((hd-8:Nat):Int):=by rw[QT (by omega) (by omega)];omega
 apply w276
 unfold QcX
 simp only[↓Qt,↓Qu,↓Ql (YD hr),↓Yh,e1,↓Qbu hr]
 have hr2:=Raw.setp (S':=S) (head':=hd-8) hr rfl rfl
 simp only[↓Ql (YE hr2),↓Ql (YD hr2),↓ZN hr2 (m:=hd-8) (by omega)]
 refine go_WriteInt64 hr2.hB (by omega) (by omega) ?_
 refine hR _ ⟨hd-8,by omega,⟨B,V,T,_,len,vtv,vtsv,e,eB,Raw.wr hr2 (Yd _ _ _) rfl rfl rfl,?_,?_⟩⟩
 ·have hl:((leB x 8):List UInt8).length=8:=by simp[Qf]
  simp only[place,List.length_append,hl];omega
 ·have hl:((leB x 8):List UInt8).length=8:=by simp[Qf]
  have:=QaI (xs:=(leB x 8)) hr.hlen h2 h3 (by omega)
  rw[hl]at this
  exact this
theorem Qg2 {x:Int} (hk:8<=r) (hR:∀H',Qc H' p (place (leB x 8) S) F (r-8)->R (.tuple #[]) H'):FnS prog 283 #[.pointer (some ⟨p,0,none⟩),.int .u64 x] H R:=by
 obtain ⟨hd,h1,⟨B,V,T,L,len,vtv,vtsv,e,eB,hr,h2,h3⟩⟩:=hB
 have:=hr.lt;have:=hr.hlen
 have e1:IntKind.u32.wrap ((hd:Int)-8)=((hd-8:Nat):Int):=by rw[QT (by omega) (by omega)];omega
 apply w283
 unfold QcX
 simp only[↓Qt,↓Qu,↓Ql (YD hr),↓Yh,e1,↓Qbu hr]
 have hr2:=Raw.setp (S':=S) (head':=hd-8) hr rfl rfl
 simp only[↓Ql (YE hr2),↓Ql (YD hr2),↓ZN hr2 (m:=hd-8) (by omega)]
 refine Qhf hr2.hB (by omega) (by omega) ?_
 refine hR _ ⟨hd-8,by omega,⟨B,V,T,_,len,vtv,vtsv,e,eB,Raw.wr hr2 (Yd _ _ _) rfl rfl rfl,?_,?_⟩⟩
 ·have hl:((leB x 8):List UInt8).length=8:=by simp[Qf]
  simp only[place,List.length_append,hl];omega
 ·have hl:((leB x 8):List UInt8).length=8:=by simp[Qf]
  have:=QaI (xs:=(leB x 8)) hr.hlen h2 h3 (by omega)
  rw[hl]at this
  exact this
theorem QfN {x:Nat} (hk:8<=r) (hR:∀H',Qc H' p (place (leB x 8) S) F (r-8)->R (.tuple #[]) H'):FnS prog 277 #[.pointer (some ⟨p,0,none⟩),.float .f64 x] H R:=by
 obtain ⟨hd,h1,⟨B,V,T,L,len,vtv,vtsv,e,eB,hr,h2,h3⟩⟩:=hB
 have:=hr.lt;have:=hr.hlen
 have e1:IntKind.u32.wrap ((hd:Int)-8)=((hd-8:Nat):Int):=by rw[QT (by omega) (by omega)];omega
 apply w277
 unfold QcX
 simp only[↓Qt,↓Qu,↓Ql (YD hr),↓Yh,e1,↓Qbu hr]
 have hr2:=Raw.setp (S':=S) (head':=hd-8) hr rfl rfl
 simp only[↓Ql (YE hr2),↓Ql (YD hr2),↓ZN hr2 (m:=hd-8) (by omega)]
 refine go_WriteFloat64 hr2.hB (by omega) (by omega) ?_
 refine hR _ ⟨hd-8,by omega,⟨B,V,T,_,len,vtv,vtsv,e,eB,Raw.wr hr2 (Yd _ _ _) rfl rfl rfl,?_,?_⟩⟩
 ·have hl:((leB x 8):List UInt8).length=8:=by simp[Qf]
  simp only[place,List.length_append,hl];omega
 ·have hl:((leB x 8):List UInt8).length=8:=by simp[Qf]
  have:=QaI (xs:=(leB x 8)) hr.hlen h2 h3 (by omega)
  rw[hl]at this
  exact this
end
end Go.Proofs
namespace Go.Proofs
open Go Go.Vc
open Tryz (prog)
section
variable {H:Qe} {p:Nat} {S:BS} {F:Cut} {r:Nat} (hB:Qc H p S F r) {R:Kn}
include hB
theorem QaV {n:Nat} {x:Int} (hx:x=(n:Nat)) (hn:n<=r) (hR:∀H',Qc H' p (place (List.replicate n 0) S) F (r-n)->R (.tuple #[]) H'):
  FnS prog 260 #[.pointer (some ⟨p,0,none⟩),.int .i64 x] H R:=by
 subst hx
 have hlt:=hB.lt
 apply w260
 unfold s260
 refine ⟨fun m vs h=>∃i:Nat,vs=[.int .i64 (i:Int)]/\i<=n/\m=n-i/\Qc h p (place (List.replicate i 0) S) F (r-i),⟨n,0,rfl,by omega,by omega,?_⟩,fun m=>?_⟩
 ·exact hB
 ·rintro x4 h1 ⟨i,hx,hi,rfl,hb⟩
  cases hx
  rw[Yw]
  have hl2:=hb.lt
  simp only[place,List.length_append,List.length_replicate]at hl2
  by_cases hlt:i<n
  ·rw[QY (by omega)]
   refine Qas (b:=0) hb (by omega) ?_
   intro h2 hb2
   rw[QE,wrap_i64 (by omega) (by omega)]
   refine ⟨n-(i+1),by omega,i+1,rfl,by omega,rfl,?_⟩
   have e1:place [0] (place (List.replicate i 0) S)=place (List.replicate (i+1) 0) S:=by
    simp[place,List.replicate_succ]
   rw[e1]at hb2
   exact hb2.room (by omega)
  ·rw[QK (by omega)]
   have:i=n:=by omega
   subst this
   exact hR _ hb
end
section
variable {H:Qe} {p:Nat} {S:BS} {F:Cut} {B V T:Nat} {L:List UInt8} {len head:Nat} {vtv vtsv:Value} {e eB:TypeId}
 (hr:Raw H p S F B V T L len head vtv vtsv e eB) {R:Kn}
include hr
def grown (n:Nat):Nat:=if n=0 then 1 else 2*n
omit hr in
theorem grow_copy {len:Nat} {L:List UInt8} (h:grown len<=L.length) (h0:len≠0):((Qb9 L len (L.take len)).take (grown len)).drop len=L.take len:=by
 have hg:grown len=2*len:=by unfold grown;rw[if_neg h0]
 have hl:(L.take len).length=len:=by simp;omega
 rw[QeE _ _ _ (by omega),hg,hl]
 rw[List.take_append]
 have h2:(L.take len++L.take len).length=2*len:=by simp;omega
 rw[h2,Nat.sub_self,List.take_zero,List.append_nil,List.take_of_length_le (by omega),List.drop_append,hl,Nat.sub_self,List.drop_zero,List.drop_of_length_le (by omega),List.nil_append]
set_option maxHeartbeats 1000000 in
theorem go_Builder_grow (hlt:len<536870912)
  (hR:∀H' B' L' eB',Raw H' p S F B' V T L' (grown len) head vtv vtsv e eB'->(len=0\/(L'.take (grown len)).drop len=L.take len)->R (.tuple #[]) H'):
  FnS prog 259 #[.pointer (some ⟨p,0,none⟩)] H R:=by
 have hlL:=hr.hlen
 have hg1:1<=grown len:=by unfold grown;split<;>omega
 have hg2:grown len<1073741824:=by unfold grown;split<;>omega
 have hg3:len<grown len:=by unfold grown;split<;>omega
 have hq:(grown len:Int).tdiv 2=(len:Int):=by
  unfold grown;split
  ·rename_i h;subst h;rfl
  ·rw[show ((2*len:Nat):Int)=(len:Int)*2 by omega];exact Int.mul_tdiv_cancel _ (by decide)
 apply w259
 unfold s259
 refine Q8 (fun _ h=>h=H) ?_ ?_
 ·simp only[↓Qt,↓Qu,↓Ql (YE hr),↓QbM,↓QgT,high_and (show len<1073741824 by omega),↓Yo]
  rw[QK (by decide)]
  trivial
 ·rintro h1 rfl
  simp only[↓Qt,↓Qu,↓Ql (YE hr),↓QbM,↓QbE]
  rw[wrap_i64 (n:=(len:Int)*2) (by omega) (by omega)]
  refine Q8 (fun vs h=>vs=[.int .i64 (grown len:Nat)]/\h=h1) ?_ ?_
  ·rw[Yp]
   apply ZV
   ·intro h0
    have h0':len=0:=by omega
    subst h0'
    exact ⟨rfl,rfl⟩
   ·intro h0
    refine ⟨?_,rfl⟩
    unfold grown
    rw[if_neg (by omega),show ((2*len:Nat):Int)=(len:Int)*2 by omega]
  ·rintro x2 h2 ⟨hx,rfl⟩
   cases hx
   refine Q8 (fun _ h=>∃B' L' eB',Raw h p S F B' V T L' (grown len) head vtv vtsv e eB'/\L'.take len=L.take len) ?_ ?_
   ·simp only[↓Qt,↓Qu,↓Ql (YE hr),↓CapK_sl,↓QgW]
    apply ZV
    ·intro hc
     rw[bsl,SlcK_hi (by omega) (by omega),Int.toNat_natCast]
     rw[Qbe hr.hp (by decide:0<9) (by simp) rfl]
     refine ⟨B,L,eB,?_,rfl⟩
     have hset:=Raw.setp (S':=S) (head':=head) hr rfl rfl
     refine ⟨QU hr.hp,?_,?_,?_,hr.pB,hr.pT,hr.BT,?_,by omega,hg2⟩
     ·rw[Qx (Ne.symm hr.pB)];exact hr.hB
     ·rcases hr.hV with g|⟨g,g2,g3,g4⟩
      ·exact Or.inl g
      ·exact Or.inr ⟨g.mono (Qx g2),g2,g3,g4⟩
     ·exact hr.hT.mono (Qx (Ne.symm hr.pT))
     ·intro b o hb
      have:=hr.hF b o hb
      exact ⟨by rw[Qx this.2.1];exact this.1,this.2⟩
    ·intro hc
     simp only[↓QbM,↓Yh]
     rw[wrap_i64 (n:=(grown len:Int)-(len:Int)) (by omega) (by omega),show ((grown len:Int)-(len:Int))=((grown len-len:Nat):Int) by omega]
     refine ⟨by omega,by omega,by omega,by omega,?_⟩
     simp only[Int.toNat_natCast,mk_u8 (z:=z5) rfl]
     obtain ⟨l1,l2,l3,l4⟩:=hr.V_lt
     have hr2:Raw (h2.push (.cells (u8c (List.replicate (grown len-len) 0)) 5)) p S F B V T L len head vtv vtsv e eB:=by
      refine hr.frame ?_ ?_
      ·intro b hb
       rw[Array.getElem?_push,if_neg]
       rcases hb with rfl|rfl|rfl|rfl<;>omega
      ·intro b o hb
       have:=hr.hF b o hb
       exact ⟨YG this.1,this.2⟩
     simp only[↓Ql (YE hr2)]
     refine ⟨fun hh=>by omega,fun _=>⟨by decide,by omega,(L.take len).map u8V,(List.replicate (grown len-len) (0:UInt8)).map u8V,?_,?_,?_⟩⟩
     ·show Zp _ ⟨B,0,none⟩ 0 (len*1)=_
      rw[Nat.mul_one,cellsH_u8 hr2.hB (by omega),List.drop_zero]
     ·show Zp _ ⟨h2.size,0,none⟩ 0 ((grown len-len)*1)=_
      rw[Nat.mul_one,cellsH_u8 (Qg) (by simp)]
      simp
     ·intro c hc1 hc2
      rw[zero_u8 (z:=z5) rfl,<-List.map_append,u8V_arr,u8c_append]
      have hL':(L.take len++List.replicate (grown len-len) 0++List.replicate (c-(len+(grown len-len))) (0:UInt8)).length=c:=by simp;omega
      generalize hLL:L.take len++List.replicate (grown len-len) 0++List.replicate (c-(len+(grown len-len))) (0:UInt8)=L' at hL'
      have htl:L'.take len=L.take len:=by
       rw[<-hLL,List.append_assoc,List.take_append]
       have:(L.take len).length=len:=by simp;omega
       rw[this,Nat.sub_self,List.take_zero,List.append_nil,List.take_of_length_le (by omega)]
      have s2:(h2.push (.cells (u8c (List.replicate (grown len-len) 0)) 5)).size=h2.size+1:=size_push
      generalize hH3:h2.push (.cells (u8c (List.replicate (grown len-len) 0)) 5)=H3 at hr2 s2
      have hr3:Raw (H3.push (.cells (u8c L') 5)) p S F B V T L len head vtv vtsv e eB:=by
       obtain ⟨m1,m2,m3,m4⟩:=hr2.V_lt
       refine hr2.frame ?_ ?_
       ·intro b hb
        rw[Array.getElem?_push,if_neg]
        rcases hb with rfl|rfl|rfl|rfl<;>omega
       ·intro b o hb
        have:=hr2.hF b o hb
        exact ⟨YG this.1,this.2⟩
      rw[show len+(grown len-len)=grown len by omega,Qbe hr3.hp (by decide:0<9) (by simp) rfl]
      refine ⟨H3.size,L',5,?_,htl⟩
      have hset:=Raw.setp (S':=S) (head':=head) hr3 rfl rfl
      obtain ⟨m1,m2,m3,m4⟩:=hr2.V_lt
      refine ⟨?_,?_,?_,?_,by omega,hr.pT,by omega,?_,by omega,hg2⟩
      ·rw[QU hr3.hp,hL'];rfl
      ·rw[Qx (by omega),Qg]
      ·rcases hset.hV with g|⟨g,g2,g3,g4⟩
       ·exact Or.inl g
       ·refine Or.inr ⟨g.mono ?_,g2,by omega,g4⟩
        rw[Qx g2,Qx g2]
      ·refine hset.hT.mono ?_
       rw[Qx (Ne.symm hr.pT),Qx (Ne.symm hr.pT)]
      ·intro b o hb
       have:=hset.hF b o hb
       have hlt':=YB (hr2.hF b o hb).1
       refine ⟨?_,this.2.1,by omega,this.2.2.2⟩
       rw[Qx this.2.1,<-Qx (H:=H3.push (.cells (u8c L') 5)) this.2.1]
       exact this.1
   ·rintro h7 ⟨B',L',eB',hr',htl⟩
    have hlL':=hr'.hlen
    rw[BinK_quo (by decide),hq,wrap_i64 (by omega) (by omega)]
    simp only[↓Qt,↓Qu,↓Ql (YE hr'),↓ZN hr' (m:=len) hg3]
    rw[bsl,SlcK_hi (by omega) (by omega),Int.toNat_natCast]
    have hmin:Nat.min (lenV (.slice (some ⟨B',0,none⟩) len L'.length)) (grown len-len)=len:=by
     show Nat.min len (grown len-len)=len
     apply Nat.min_eq_left
     unfold grown;split<;>omega
    refine ⟨(L'.take len).map u8V,?_,?_⟩
    ·rw[hmin]
     show Zp _ ⟨B',0,none⟩ 0 (len*1)=_
     rw[Nat.mul_one,cellsH_u8 hr'.hB (by omega),List.drop_zero]
    ·have htl2:(L'.take len).length<=len:=by simp;omega
     have hll:len+(L'.take len).length<=L'.length:=by
      by_cases h0:len=0
      ·subst h0;simp
      ·have:grown len=2*len:=by unfold grown;rw[if_neg h0]
       omega
     refine ⟨_,setN_u8 hr'.hB hll,?_⟩
     refine hR _ B' _ eB' (Raw.wr hr' (Yd _ _ _) rfl rfl rfl) ?_
     by_cases h0:len=0
     ·exact Or.inl h0
     ·right;rw[grow_copy hlL' h0,htl]
end
end Go.Proofs
namespace Go.Proofs
open Go Go.Vc
open Tryz (prog)
section
variable {H:Qe} {p:Nat} {S:BS} {F:Cut} {r:Nat} (hB:Qc H p S F r) {R:Kn}
include hB
set_option maxHeartbeats 1000000 in
theorem QV {size add k:Nat} {y:Int} (hsz:size=2^k) (hk:k<=3) (hy:y=(add:Nat)) (hlen:S.buf.length+add+16<=536870912)
  (hR:∀H',Qc H' p (prep size add S) F (Nat.max (r-padOf size (S.buf.length+add)) (size+add+1))->R (.tuple #[]) H'):
  FnS prog 72 #[.pointer (some ⟨p,0,none⟩),.int .i64 (size:Nat),.int .i64 y] H R:=by
 subst hy
 have hs1:1<=size/\size<=8:=by
  rw[hsz]
  have:k=0\/k=1\/k=2\/k=3:=by omega
  rcases this with rfl|rfl|rfl|rfl<;>decide
 apply w72
 unfold s72
 refine Q8 (fun _ h=>Qc h p {S with min:=Nat.max S.min size} F r) ?_ ?_
 ·obtain ⟨hd,h1,⟨B,V,T,L,len,vtv,vtsv,e,eB,hr,h2,h3⟩⟩:=hB
  simp only[↓Qt,↓Qu,↓Ql (ld_min hr),↓QcO]
  apply ZV
  ·intro hlt
   rw[st_min hr]
   have e0:Nat.max S.min size=size:=Nat.max_eq_right (by omega)
   rw[e0]
   exact ⟨hd,h1,⟨B,V,T,L,len,vtv,vtsv,e,eB,Raw.setp hr rfl rfl,h2,h3⟩⟩
  ·intro hlt
   have e0:Nat.max S.min size=S.min:=Nat.max_eq_left (by omega)
   rw[e0]
   exact ⟨hd,h1,⟨B,V,T,L,len,vtv,vtsv,e,eB,hr,h2,h3⟩⟩
 ·intro h2 hb
  have hlt:=hb.lt
  generalize hS1:{S with min:=Nat.max S.min size}=S1 at hb hlt
  have hbuf:S1.buf=S.buf:=by rw[<-hS1]
  obtain ⟨hd,h1,⟨B,V,T,L,len,vtv,vtsv,e,eB,hr,g2,g3⟩⟩:=hb
  have hl:=hr.lt
  have hpl:=Zw (size:=size) (n:=S.buf.length+add) (by omega)
  have hpi:=padOf_int (size:=size) (n:=S.buf.length+add) (by omega)
  simp only[↓Qt,↓Qu,↓Ql (YE hr),↓QbM]
  apply w168
  unfold s168
  simp only[↓Qt,↓Qu,↓Ql (YD hr),Qa,↓QP,↓Yh,↓QE]
  rw[wrap_i64 (n:=(hd:Int)) (by omega) (by omega),wrap_i64 (n:=(len:Int)-(hd:Int)) (by omega) (by omega),wrap_i64 (n:=(len:Int)-(hd:Int)+(add:Int)) (by omega) (by omega)]
  rw[show (len:Int)-(hd:Int)+(add:Int)=((S.buf.length+add:Nat):Int) by rw[hbuf]at g2;omega,PureK_xor,xor_all (by omega)]
  simp only[↓QE,↓Yh,↓QgT]
  rw[wrap_i64 (n:=-((S.buf.length+add:Nat):Int)-1+1) (by omega) (by omega),wrap_i64 (n:=(size:Int)-1) (by omega) (by omega),mask_and _ hsz (by omega)]
  rw[show -((S.buf.length+add:Nat):Int)-1+1=-((S.buf.length+add:Nat):Int) by omega,hpi]
  generalize hpad:padOf size (S.buf.length+add)=pad at hpl hR
  refine Q8 (fun _ h=>∃hd',BuilderH h p S1 F hd'/\r<=hd'/\pad+size+add<hd') ?_ ?_
  ·refine ⟨fun m vs h=>∃hd',BuilderH h p S1 F hd'/\r<=hd'/\m=1073741824-hd',⟨_,hd,⟨B,V,T,L,len,vtv,vtsv,e,eB,hr,g2,g3⟩,h1,rfl⟩,fun m=>?_⟩
   rintro h4 ⟨hd',⟨B,V,T,L,len,vtv,vtsv,e,eB,hr,g2,g3⟩,h1',rfl⟩
   have hl:=hr.lt
   simp only[↓Qt,↓Qu,↓Ql (YD hr),↓QP,↓QE,↓Qi6]
   rw[wrap_i64 (n:=(hd':Int)) (by omega) (by omega),wrap_i64 (n:=(pad:Int)+(size:Int)) (by omega) (by omega),wrap_i64 (n:=(pad:Int)+(size:Int)+(add:Int)) (by omega) (by omega)]
   apply ZV
   ·intro hle
    simp only[↓Ql (YE hr),↓QbM]
    refine go_Builder_grow hr (by rw[hbuf]at g2;omega) ?_
    intro H' B' L' eB' hr' hh
    have hg1:len<grown len:=by unfold grown;split<;>omega
    have hl':=hr'.lt
    simp only[↓Qt,↓Qu,↓Ql (YD hr'),↓Ql (YE hr'),↓QbM,↓Yh,↓QP,↓QE]
    rw[wrap_i64 (n:=(grown len:Int)-(len:Int)) (by omega) (by omega),QT (n:=(grown len:Int)-(len:Int)) (by omega) (by omega),QT (by omega) (by omega)]
    rw[show (hd':Int)+((grown len:Int)-(len:Int))=((hd'+(grown len-len):Nat):Int) by omega,Qbu hr']
    refine ⟨1073741824-(hd'+(grown len-len)),by omega,hd'+(grown len-len),⟨B',V,T,L',grown len,vtv,vtsv,e,eB',Raw.setp hr' rfl rfl,by omega,?_⟩,by omega,rfl⟩
    rcases hh with h0|h0
    ·subst h0
     have hb0:S1.buf=[]:=List.eq_nil_of_length_eq_zero (by omega)
     rw[hb0]
     apply List.drop_of_length_le
     simp[grown];omega
    ·have hgl:len=0\/grown len=2*len:=by unfold grown;split<;>omega
     rcases hgl with h00|hgl
     ·subst h00
      have hb0:S1.buf=[]:=List.eq_nil_of_length_eq_zero (by omega)
      rw[hb0]
      apply List.drop_of_length_le
      simp[grown];omega
     ·rw[show hd'+(grown len-len)=len+hd' by omega,<-List.drop_drop,h0,g3]
   ·intro hle
    exact ⟨hd',⟨B,V,T,L,len,vtv,vtsv,e,eB,hr,g2,g3⟩,h1',by omega⟩
  ·rintro h7 ⟨hd',hbh,h1',h2'⟩
   have hat:Qc h7 p S1 F (Nat.max r (pad+size+add+1)):=⟨hd',Nat.max_le.2 ⟨h1',by omega⟩,hbh⟩
   have hm1:=Nat.le_max_left r (pad+size+add+1)
   have hm2:=Nat.le_max_right r (pad+size+add+1)
   have hm1:r<=Nat.max r (pad+size+add+1):=hm1
   have hm2:pad+size+add+1<=Nat.max r (pad+size+add+1):=hm2
   generalize Nat.max r (pad+size+add+1)=mx at hm1 hm2 hat
   refine QaV (n:=pad) hat rfl (Nat.le_trans (by omega) hm2) ?_
   intro H' hb'
   refine hR H' ?_
   have e1:place (List.replicate pad 0) S1=prep size add S:=by rw[<-hS1,<-hpad];rfl
   rw[e1]at hb'
   exact hb'.room (Nat.max_le.2 ⟨by omega,by omega⟩)
end
end Go.Proofs
namespace Go.Proofs
open Go Go.Vc
open Tryz (prog)
def slot (o:Nat) (S:BS):BS:={S with vt:=S.vt.set o S.buf.length}
def putOff (off:Nat) (S:BS):BS:=place (leB (((prep 4 0 S).buf.length-off+4:Nat):Int) 4) (prep 4 0 S)
def putN (k:Nat) (xs:List UInt8) (S:BS):BS:=place xs (prep k 0 S)
theorem Qar {size add:Nat} {S:BS}:(prep size add S).buf.length=padOf size (S.buf.length+add)+S.buf.length:=by
 simp[prep,place]
section
variable {H:Qe} {p:Nat} {S:BS} {F:Cut} {r:Nat} (hB:Qc H p S F r) {R:Kn}
include hB
theorem QcZ {b:UInt8} (hl:S.buf.length+16<=536870912) (hR:∀H',Qc H' p (putN 1 [b] S) F (Nat.max (r-padOf 1 S.buf.length) (1+1)-1)->R (.tuple #[]) H'):FnS prog 115 #[.pointer (some ⟨p,0,none⟩),.int .u8 (b.toNat:Int)] H R:=by
 apply w115
 unfold tp95
 refine QV (size:=1) (add:=0) (k:=0) hB (by decide) (by decide) rfl (by omega) ?_
 intro H1 h1
 refine Qas h1 (Nat.le_trans (by decide) (Nat.le_max_right _ _)) ?_
 intro H2 h2
 exact hR H2 h2
theorem Qg4 {b:Bool} (hl:S.buf.length+16<=536870912) (hR:∀H',Qc H' p (putN 1 [if b then 1 else 0] S) F (Nat.max (r-padOf 1 S.buf.length) (1+1)-1)->R (.tuple #[]) H'):FnS prog 95 #[.pointer (some ⟨p,0,none⟩),.bool b] H R:=by
 apply w95
 unfold tp95
 refine QV (size:=1) (add:=0) (k:=0) hB (by decide) (by decide) rfl (by omega) ?_
 intro H1 h1
 refine Qh4 h1 (Nat.le_trans (by decide) (Nat.le_max_right _ _)) ?_
 intro H2 h2
 exact hR H2 h2
theorem Qd0 {x:Int} (hl:S.buf.length+16<=536870912) (hR:∀H',Qc H' p (putN 1 (leB x 1) S) F (Nat.max (r-padOf 1 S.buf.length) (1+1)-1)->R (.tuple #[]) H'):FnS prog 344 #[.pointer (some ⟨p,0,none⟩),.int .i8 x] H R:=by
 apply w344
 unfold tp95
 refine QV (size:=1) (add:=0) (k:=0) hB (by decide) (by decide) rfl (by omega) ?_
 intro H1 h1
 refine Qh7 h1 (Nat.le_trans (by decide) (Nat.le_max_right _ _)) ?_
 intro H2 h2
 exact hR H2 h2
theorem QcD {x:Int} (hl:S.buf.length+16<=536870912) (hR:∀H',Qc H' p (putN 2 (leB x 2) S) F (Nat.max (r-padOf 2 S.buf.length) (2+1)-2)->R (.tuple #[]) H'):FnS prog 345 #[.pointer (some ⟨p,0,none⟩),.int .i16 x] H R:=by
 apply w345
 unfold tp95
 refine QV (size:=2) (add:=0) (k:=1) hB (by decide) (by decide) rfl (by omega) ?_
 intro H1 h1
 refine Qgs h1 (Nat.le_trans (by decide) (Nat.le_max_right _ _)) ?_
 intro H2 h2
 exact hR H2 h2
theorem Qfk {x:Int} (hl:S.buf.length+16<=536870912) (hR:∀H',Qc H' p (putN 2 (leB x 2) S) F (Nat.max (r-padOf 2 S.buf.length) (2+1)-2)->R (.tuple #[]) H'):FnS prog 380 #[.pointer (some ⟨p,0,none⟩),.int .u16 x] H R:=by
 apply w380
 unfold tp95
 refine QV (size:=2) (add:=0) (k:=1) hB (by decide) (by decide) rfl (by omega) ?_
 intro H1 h1
 refine Qg9 h1 (Nat.le_trans (by decide) (Nat.le_max_right _ _)) ?_
 intro H2 h2
 exact hR H2 h2
theorem Qa9 {x:Int} (hl:S.buf.length+16<=536870912) (hR:∀H',Qc H' p (putN 2 (leB x 2) S) F (Nat.max (r-padOf 2 S.buf.length) (2+1)-2)->R (.tuple #[]) H'):FnS prog 387 #[.pointer (some ⟨p,0,none⟩),.int .u16 x] H R:=by
 apply w387
 unfold tp95
 refine QV (size:=2) (add:=0) (k:=1) hB (by decide) (by decide) rfl (by omega) ?_
 intro H1 h1
 refine Qf3 h1 (Nat.le_trans (by decide) (Nat.le_max_right _ _)) ?_
 intro H2 h2
 exact hR H2 h2
theorem Qfw {x:Int} (hl:S.buf.length+16<=536870912) (hR:∀H',Qc H' p (putN 4 (leB x 4) S) F (Nat.max (r-padOf 4 S.buf.length) (4+1)-4)->R (.tuple #[]) H'):FnS prog 354 #[.pointer (some ⟨p,0,none⟩),.int .i32 x] H R:=by
 apply w354
 unfold tp95
 refine QV (size:=4) (add:=0) (k:=2) hB (by decide) (by decide) rfl (by omega) ?_
 intro H1 h1
 refine Qgq h1 (Nat.le_trans (by decide) (Nat.le_max_right _ _)) ?_
 intro H2 h2
 exact hR H2 h2
theorem Qcn {x:Int} (hl:S.buf.length+16<=536870912) (hR:∀H',Qc H' p (putN 4 (leB x 4) S) F (Nat.max (r-padOf 4 S.buf.length) (4+1)-4)->R (.tuple #[]) H'):FnS prog 348 #[.pointer (some ⟨p,0,none⟩),.int .u32 x] H R:=by
 apply w348
 unfold tp95
 refine QV (size:=4) (add:=0) (k:=2) hB (by decide) (by decide) rfl (by omega) ?_
 intro H1 h1
 refine Qg3 h1 (Nat.le_trans (by decide) (Nat.le_max_right _ _)) ?_
 intro H2 h2
 exact hR H2 h2
theorem QbR {x:Nat} (hl:S.buf.length+16<=536870912) (hR:∀H',Qc H' p (putN 4 (leB x 4) S) F (Nat.max (r-padOf 4 S.buf.length) (4+1)-4)->R (.tuple #[]) H'):FnS prog 352 #[.pointer (some ⟨p,0,none⟩),.float .f32 x] H R:=by
 apply w352
 unfold tp95
 refine QV (size:=4) (add:=0) (k:=2) hB (by decide) (by decide) rfl (by omega) ?_
 intro H1 h1
 refine QfJ h1 (Nat.le_trans (by decide) (Nat.le_max_right _ _)) ?_
 intro H2 h2
 exact hR H2 h2
theorem Qcx {x:Int} (hl:S.buf.length+16<=536870912) (hR:∀H',Qc H' p (putN 8 (leB x 8) S) F (Nat.max (r-padOf 8 S.buf.length) (8+1)-8)->R (.tuple #[]) H'):FnS prog 101 #[.pointer (some ⟨p,0,none⟩),.int .i64 x] H R:=by
 apply w101
 unfold tp95
 refine QV (size:=8) (add:=0) (k:=3) hB (by decide) (by decide) rfl (by omega) ?_
 intro H1 h1
 refine Qgo h1 (Nat.le_trans (by decide) (Nat.le_max_right _ _)) ?_
 intro H2 h2
 exact hR H2 h2
theorem Qck {x:Int} (hl:S.buf.length+16<=536870912) (hR:∀H',Qc H' p (putN 8 (leB x 8) S) F (Nat.max (r-padOf 8 S.buf.length) (8+1)-8)->R (.tuple #[]) H'):FnS prog 108 #[.pointer (some ⟨p,0,none⟩),.int .u64 x] H R:=by
 apply w108
 unfold tp95
 refine QV (size:=8) (add:=0) (k:=3) hB (by decide) (by decide) rfl (by omega) ?_
 intro H1 h1
 refine Qg2 h1 (Nat.le_trans (by decide) (Nat.le_max_right _ _)) ?_
 intro H2 h2
 exact hR H2 h2
theorem QeJ {x:Nat} (hl:S.buf.length+16<=536870912) (hR:∀H',Qc H' p (putN 8 (leB x 8) S) F (Nat.max (r-padOf 8 S.buf.length) (8+1)-8)->R (.tuple #[]) H'):FnS prog 103 #[.pointer (some ⟨p,0,none⟩),.float .f64 x] H R:=by
 apply w103
 unfold tp95
 refine QV (size:=8) (add:=0) (k:=3) hB (by decide) (by decide) rfl (by omega) ?_
 intro H1 h1
 refine QfN h1 (Nat.le_trans (by decide) (Nat.le_max_right _ _)) ?_
 intro H2 h2
 exact hR H2 h2
theorem Qa5 {off:Nat} (hl:S.buf.length+16<=536870912) (ho:off<=S.buf.length) (hR:∀H',Qc H' p (putOff off S) F (Nat.max (r-padOf 4 S.buf.length) 5-4)->R (.tuple #[]) H'):
  FnS prog 73 #[.pointer (some ⟨p,0,none⟩),.int .u32 (off:Nat)] H R:=by
 apply w73
 unfold s73
 refine QV (size:=4) (add:=0) (k:=2) hB (by decide) (by decide) rfl (by omega) ?_
 intro H1 h1
 have hlen:S.buf.length<=(prep 4 0 S).buf.length:=by rw[Qar];omega
 have hlt:=h1.lt
 refine Q8 (fun _ h=>h=H1) ?_ ?_
 ·refine Yc h1 ?_
  rw[Qi6,Ym,decide_eq_true (by omega),Bool.not_true,Qao]
 ·rintro h2 rfl
  refine Yc h1 ?_
  rw[Yh,QE,QT (n:=((prep 4 0 S).buf.length:Int)-(off:Int)) (by omega) (by omega),QT (by omega) (by omega)]
  rw[show ((prep 4 0 S).buf.length:Int)-(off:Int)+4=(((prep 4 0 S).buf.length-off+4:Nat):Int) by omega]
  refine Qcl h1 (Nat.le_trans (by decide) (Nat.le_max_right _ _)) ?_
  intro H2 h2
  exact hR H2 h2
theorem Qen (hl:S.buf.length+16<=536870912) (hR:∀H',Qc H' p (putOff 0 S) F (Nat.max (r-padOf 4 S.buf.length) 5-4)->R (.tuple #[]) H'):
  FnS prog 384 #[.pointer (some ⟨p,0,none⟩),.int .i32 0] H R:=by
 apply w384
 unfold s384
 refine QV (size:=4) (add:=0) (k:=2) hB (by decide) (by decide) rfl (by omega) ?_
 intro H1 h1
 have hlt:=h1.lt
 refine Q8 (fun _ h=>h=H1) ?_ ?_
 ·rw[QP]
  refine Yc h1 ?_
  rw[Qi6,Ym,decide_eq_true (by rw[show IntKind.u32.wrap 0=0 from rfl];omega),Bool.not_true,Qao]
 ·rintro h2 rfl
  refine Yc h1 ?_
  rw[QP,Yh,QE,Zd (n:=((prep 4 0 S).buf.length:Int)) (by omega) (by omega),Zd (n:=((prep 4 0 S).buf.length:Int)-0) (by omega) (by omega),Zd (by omega) (by omega)]
  rw[show ((prep 4 0 S).buf.length:Int)-0+4=(((prep 4 0 S).buf.length-0+4:Nat):Int) by omega]
  refine Qfc h1 (Nat.le_trans (by decide) (Nat.le_max_right _ _)) ?_
  intro H2 h2
  exact hR H2 h2
theorem YK {o:Nat} (ho:o<S.vt.length) (hR:∀H',Qc H' p (slot o S) F r->R (.tuple #[]) H'):
  FnS prog 353 #[.pointer (some ⟨p,0,none⟩),.int .i64 (o:Nat)] H R:=by
 have hB':=hB
 obtain ⟨hd,h1,⟨B,V,T,L,len,vtv,vtsv,e,eB,hr,h2,h3⟩⟩:=hB
 apply w353
 unfold s353
 simp only[↓Qt,↓Qu,↓Ql (Qie hr)]
 refine Yc hB' ?_
 rw[Qa]
 rcases hr.hV with ⟨rfl,hn,_⟩|⟨⟨W,eW,rfl,hW,hW2,hW3⟩,n1,n2,n3⟩
 ·rw[hn]at ho;simp at ho
 ·rw[QO (by omega) (by omega),Int.toNat_natCast,Nat.mul_one,Nat.zero_add,Qbe hW (by rw[QhI];omega) (by simp) rfl,u32c_set]
  refine hR _ ⟨hd,h1,⟨B,V,T,L,len,.slice (some ⟨V,0,none⟩) S.vt.length W.length,vtsv,e,eB,?_,h2,h3⟩⟩
  refine ⟨by rw[Qx (Ne.symm n1)];exact hr.hp,by rw[Qx (Ne.symm n2)];exact hr.hB,Or.inr ⟨⟨W.set o S.buf.length,eW,by simp[slot],QU hW,?_,?_⟩,n1,n2,n3⟩,hr.hT.mono (Qx (Ne.symm n3)),hr.pB,hr.pT,hr.BT,?_,hr.hlen,hr.lt⟩
  ·simp only[slot,List.length_set]
   rw[List.take_set,hW2]
  ·simp only[slot,List.length_set];exact hW3
  ·intro b o hb
   have:=hr.hF b o hb
   exact ⟨by rw[Qx this.2.2.2.1];exact this.1,this.2⟩
def QF (es n al:Nat) (S:BS):BS:=prep al (es*n) (prep 4 (es*n) {S with nested:=true})
omit hB in
theorem startVec_len {es n al:Nat}:(QF es n al S).buf.length=padOf al (padOf 4 (S.buf.length+es*n)+S.buf.length+es*n)+(padOf 4 (S.buf.length+es*n)+S.buf.length):=by
 unfold QF
 rw[Qar,Qar]
theorem QL {es n al k:Nat} (hn:S.nested=false) (hal:al=2^k) (hk:k<=3) (hl:S.buf.length+es*n+24<=536870912)
  (hR:∀H',Qc H' p (QF es n al S) F (Nat.max ((4+es*n+1)-padOf al ((prep 4 (es*n) {S with nested:=true}).buf.length+es*n)) (al+es*n+1))->R (.int .u32 ((QF es n al S).buf.length:Nat)) H'):
  FnS prog 266 #[.pointer (some ⟨p,0,none⟩),.int .i64 (es:Nat),.int .i64 (n:Nat),.int .i64 (al:Nat)] H R:=by
 have hes:((es:Int)*(n:Int))=((es*n:Nat):Int):=by rw[Int.natCast_mul]
 have hpp:=Zw (size:=4) (n:=S.buf.length+es*n) (by decide)
 apply w266
 unfold s266
 refine YP hB hn ?_
 simp only[↓Qt,↓Qu]
 refine Qce hB ?_
 intro H1 h1
 rw[QbE,hes,wrap_i64 (n:=((es*n:Nat):Int)) (by omega) (by omega)]
 refine QV (size:=4) (add:=es*n) (k:=2) h1 (by decide) (by decide) rfl (by show S.buf.length+es*n+16<=536870912;omega) ?_
 intro H2 h2
 rw[QbE,hes,wrap_i64 (n:=((es*n:Nat):Int)) (by omega) (by omega)]
 refine QV (size:=al) (add:=es*n) (k:=k) h2 hal hk rfl ?_ ?_
 ·rw[Qar]
  show padOf 4 (S.buf.length+es*n)+S.buf.length+es*n+16<=536870912
  omega
 ·intro H3 h3
  refine Yc h3 ?_
  refine hR H3 (h3.room ?_)
  have g1:4+es*n+1<=Nat.max (r-padOf 4 ((({S with nested:=true}:BS)).buf.length+es*n)) (4+es*n+1):=Nat.le_max_right _ _
  generalize Nat.max (r-padOf 4 ((({S with nested:=true}:BS)).buf.length+es*n)) (4+es*n+1)=x at *
  exact Nat.max_le.2 ⟨Nat.le_trans (by omega) (Nat.le_max_left _ _),Nat.le_max_right _ _⟩
def QiT (n:Nat) (S:BS):BS:={place (leB (n:Int) 4) S with nested:=false}
theorem Qat {n:Nat} (hn:S.nested=true) (hr:4<=r) (hlt:n<4294967296) (hR:∀H',Qc H' p (QiT n S) F (r-4)->R (.int .u32 ((QiT n S).buf.length:Nat)) H'):
  FnS prog 90 #[.pointer (some ⟨p,0,none⟩),.int .i64 (n:Nat)] H R:=by
 apply w90
 unfold s90
 refine QaL hB hn ?_
 rw[QP,QT (by omega) (by omega)]
 refine Qcl hB hr ?_
 intro H1 h1
 simp only[↓Qt,↓Qu]
 refine Qce h1 ?_
 intro H2 h2
 refine Yc h2 ?_
 exact hR H2 h2
end
end Go.Proofs
namespace Go.Proofs
open Go Go.Vc
open Tryz (prog)
def createStr (xs:List UInt8) (S:BS):BS:=QiT xs.length (place xs (place [0] (prep 4 (xs.length+1) {S with nested:=true})))
section
variable {H:Qe} {p:Nat} {S:BS} {F:Cut} {r:Nat} (hB:Qc H p S F r) {R:Kn}
include hB
theorem copy_in {xs:List UInt8} {kp:Qe->Prop} {y:Value} {k:Kn} (hx:xs.length<r) (h0:0<S.buf.length)
  (hy:∀H',(∀b o,F b=some o->H'[b]?=some o)->Qj6 H' 1 xs.length y=some (xs.map u8V)) (hly:lenV y=xs.length)
  (hk:∀H',Qc H' p (place xs S) F (r-xs.length)->k (.int .i64 (Nat.min (lenV y) xs.length)) H'):
  LdK H (.pointer (some ⟨p,5,none⟩)) fun x25=>Qr prog .sub 65 x25 (.int .u32 (xs.length:Nat)) fun x27=>
   StK H 1 (.pointer (some ⟨p,5,none⟩)) x27 fun h5=>
   LdK h5 (.pointer (some ⟨p,0,none⟩)) fun x33=>LdK h5 (.pointer (some ⟨p,5,none⟩)) fun x37=>LdK h5 (.pointer (some ⟨p,5,none⟩)) fun x41=>
   Qr prog .add 65 x41 (.int .u32 (xs.length:Nat)) fun x43=>Qg1 1 x33 (some x37) (some x43) fun x44=>CopyK h5 1 x44 y k:=by
 obtain ⟨hd,h1,⟨B,V,T,L,len,vtv,vtsv,e,eB,hr,h2,h3⟩⟩:=hB
 have hl:=hr.lt;have hlL:=hr.hlen
 rw[Ql (YD hr),Yh,QT (by omega) (by omega),show (hd:Int)-(xs.length:Int)=((hd-xs.length:Nat):Int) by omega,Qbu hr]
 have hr2:=Raw.setp (S':=S) (head':=hd-xs.length) hr rfl rfl
 rw[Ql (YE hr2),Ql (YD hr2),Ql (YD hr2),QE,QT (by omega) (by omega),bsl,Qgv (by omega) (by omega) (by omega)]
 have hne:¬L.length=((hd-xs.length:Nat):Int).toNat:=by omega
 rw[if_neg hne]
 simp only[Int.toNat_natCast,Nat.mul_one,Nat.zero_add]
 have hn:(((hd-xs.length:Nat):Int)+(xs.length:Int)).toNat-(hd-xs.length)=xs.length:=by omega
 rw[hn]
 have hmin:Nat.min (lenV y) xs.length=xs.length:=by rw[hly];exact Nat.min_self _
 refine ⟨xs.map u8V,?_,?_⟩
 ·rw[hmin]
  exact hy _ (fun b o hb=>(hr2.hF b o hb).1)
 ·refine ⟨_,setN_u8 hr2.hB (by omega),?_⟩
  refine hk _ ⟨hd-xs.length,by omega,⟨B,V,T,_,len,vtv,vtsv,e,eB,Raw.wr hr2 (Yd _ _ _) rfl rfl rfl,?_,?_⟩⟩
  ·simp only[place,List.length_append];omega
  ·exact QaI hr.hlen h2 h3 (by omega)
omit hB in
theorem byteCells_all (s:ByteArray):(ZH (s.extract 0 s.size)).toList=s.toList.map u8V:=by
 have:s.extract 0 s.size=s:=by simp
 rw[this]
 simp[ZH,ByteArray.toList_eq]
set_option maxHeartbeats 1000000 in
theorem QcR {s:ByteArray} {xs:List UInt8} (hs:s.toList=xs) (hn:S.nested=false) (hl:S.buf.length+xs.length+24<=536870912)
  (hR:∀H',Qc H' p (createStr xs S) F 0->R (.int .u32 ((createStr xs S).buf.length:Nat)) H'):
  FnS prog 85 #[.pointer (some ⟨p,0,none⟩),.string s] H R:=by
 have hsz:s.size=xs.length:=by rw[<-hs,ByteArray.toList_eq,Array.length_toList];rfl
 apply w85
 unfold s85
 refine YP hB hn ?_
 simp only[↓Qt,↓Qu,↓Qfb,hsz]
 refine Qce hB ?_
 intro H1 h1
 rw[QE,QbE,wrap_i64 (n:=(xs.length:Int)+1) (by omega) (by omega),wrap_i64 (by omega) (by omega)]
 refine QV (size:=4) (add:=xs.length+1) (k:=2) h1 (by decide) (by decide) (by omega) (by show S.buf.length+(xs.length+1)+16<=536870912;omega) ?_
 intro H2 h2
 have g1:4+(xs.length+1)+1<=Nat.max (r-padOf 4 ((({S with nested:=true}:BS)).buf.length+(xs.length+1))) (4+(xs.length+1)+1):=Nat.le_max_right _ _
 refine Qas (b:=0) (h2.room g1) (by omega) ?_
 intro H3 h3
 rw[QP,QT (by omega) (by omega)]
 refine copy_in (xs:=xs) (kp:=fun _=>True) h3 (by omega) (by simp[place]) ?_ hsz ?_
 ·intro H' _
  show some (ZH (s.extract 0 xs.length)).toList=_
  rw[<-hsz,byteCells_all,hs]
 ·intro H4 h4
  refine Qat h4 (by simp[place,prep]) (by omega) (by omega) ?_
  intro H5 h5
  exact hR H5 (h5.room (by omega))
set_option maxHeartbeats 1000000 in
theorem Qe1 {xs:List UInt8} {a:Option Addr} {c:Nat} (hs:∀H',(∀b o,F b=some o->H'[b]?=some o)->Qj6 H' 1 xs.length (.slice a xs.length c)=some (xs.map u8V)) (hn:S.nested=false) (hl:S.buf.length+xs.length+24<=536870912)
  (hR:∀H',Qc H' p (createStr xs S) F 0->R (.int .u32 ((createStr xs S).buf.length:Nat)) H'):
  FnS prog 86 #[.pointer (some ⟨p,0,none⟩),.slice a xs.length c] H R:=by
 apply w86
 unfold s86
 refine YP hB hn ?_
 simp only[↓Qt,↓Qu,↓QbM]
 refine Qce hB ?_
 intro H1 h1
 rw[QE,QbE,wrap_i64 (n:=(xs.length:Int)+1) (by omega) (by omega),wrap_i64 (by omega) (by omega)]
 refine QV (size:=4) (add:=xs.length+1) (k:=2) h1 (by decide) (by decide) (by omega) (by show S.buf.length+(xs.length+1)+16<=536870912;omega) ?_
 intro H2 h2
 have g1:4+(xs.length+1)+1<=Nat.max (r-padOf 4 ((({S with nested:=true}:BS)).buf.length+(xs.length+1))) (4+(xs.length+1)+1):=Nat.le_max_right _ _
 refine Qas (b:=0) (h2.room g1) (by omega) ?_
 intro H3 h3
 rw[QP,QT (by omega) (by omega)]
 refine copy_in (xs:=xs) (kp:=fun _=>True) h3 (by omega) (by simp[place]) hs rfl ?_
 intro H4 h4
 refine Qat h4 (by simp[place,prep]) (by omega) (by omega) ?_
 intro H5 h5
 exact hR H5 (h5.room (by omega))
def Qs (n:Nat) (S:BS):BS:={S with nested:=true,vt:=List.replicate n 0,oe:=S.buf.length}
omit hB in
theorem set_rep (n i:Nat) (W:List Nat) (hi:i<n) (hn:n<=W.length) (h:W.take i=List.replicate i 0):(W.set i 0).take (i+1)=List.replicate (i+1) 0:=by
 rw[List.take_set,List.take_add_one,h]
 have:W[i]?.toList=[W[i]'(by omega)]:=by rw[List.getElem?_eq_getElem (by omega)];rfl
 rw[this,List.set_append]
 simp[List.replicate_succ']
set_option maxHeartbeats 1000000 in
theorem YZ {n:Nat} (hn:S.nested=false) (hlt:n<1000)
  (hR:∀H',Qc H' p (Qs n S) F r->R (.tuple #[]) H'):
  FnS prog 284 #[.pointer (some ⟨p,0,none⟩),.int .i64 (n:Nat)] H R:=by
 apply w284
 unfold s284
 refine YP hB hn ?_
 simp only[↓Qt,↓Qu]
 refine Qce hB ?_
 intro H1 h1
 have key:∀H2,Qc H2 p {S with nested:=true,vt:=List.replicate n 0} F r->FnS prog 261 #[.pointer (some ⟨p,0,none⟩)] H2 fun x55 h14=>
   StK h14 1 (.pointer (some ⟨p,3,none⟩)) x55 fun h15=>R (.tuple #[]) h15:=by
  intro H2 h2
  refine Yc h2 ?_
  refine st_oe_at h2 ?_
  intro H3 h3
  exact hR H3 h3
 obtain ⟨hd,hh,⟨B,V,T,L,len,vtv,vtsv,e,eB,hr,g2,g3⟩⟩:=h1
 refine Q8 (fun _ h=>Qc h p {S with nested:=true,vt:=List.replicate n 0} F r) ?_ ?_
 ·simp only[↓Qt,↓Qu,↓Ql (Qie hr)]
  obtain ⟨l1,l2,l3,l4⟩:=hr.V_lt
  have fresh:Qf4 H1 65 4 z65 (.int .i64 (n:Nat)) (.int .i64 (n:Nat)) fun x26 h8=>
    StK h8 1 (.pointer (some ⟨p,2,none⟩)) x26 fun h9=>Qc h9 p {S with nested:=true,vt:=List.replicate n 0} F r:=by
   refine ⟨by omega,by omega,by omega,by omega,?_⟩
   simp only[Int.toNat_natCast]
   rw[mk_u32 (z:=z65) rfl]
   have hp:(H1.push (.cells (Qgf (List.replicate n 0)) 65))[p]?=_:=YG hr.hp
   rw[Qbe hp (by decide:2<9) (by simp) rfl]
   refine ⟨hd,hh,⟨B,H1.size,T,L,len,.slice (some ⟨H1.size,0,none⟩) n n,vtsv,e,eB,?_,g2,g3⟩⟩
   refine ⟨QU hp,?_,Or.inr ⟨⟨List.replicate n 0,65,by simp,?_,by simp,by simp⟩,by omega,by omega,by omega⟩,?_,hr.pB,hr.pT,hr.BT,?_,hr.hlen,hr.lt⟩
   ·rw[Qx (Ne.symm hr.pB)];exact YG hr.hB
   ·rw[Qx (by omega)];exact Qg
   ·refine hr.hT.mono ?_
    rw[Qx (Ne.symm hr.pT),Array.getElem?_push,if_neg (by omega)]
   ·intro b o hb
    have:=hr.hF b o hb
    have hbl:=YB this.1
    exact ⟨by rw[Qx this.2.1];exact YG this.1,this.2.1,this.2.2.1,by omega,this.2.2.2.2⟩
  rcases hr.hV with ⟨rfl,hvn,hVp⟩|⟨⟨W,eW,rfl,hW,hW2,hW3⟩,n1,n2,n3⟩
  ·simp only[↓CapK_sl,↓Yw]
   by_cases h0:((0:Nat):Int)<(n:Int)
   ·simp only[decide_eq_true h0,↓Y4,↓Yr,↓QcN]
    exact fresh
   ·simp only[decide_eq_false h0,↓Y1,↓Qt,↓Qu,↓Ql (Qie hr)]
    rw[BinK_sleq (e:=65) (by kernel_rfl)]
    simp only[Option.isNone_none,↓Qak,↓QcN]
    exact fresh
  ·simp only[↓CapK_sl,↓Yw]
   by_cases h0:(W.length:Int)<(n:Int)
   ·simp only[decide_eq_true h0,↓Y4,↓Yr,↓QcN]
    exact fresh
   ·simp only[decide_eq_false h0,↓Y1,↓Qt,↓Qu,↓Ql (Qie hr)]
    rw[BinK_sleq (e:=65) (by kernel_rfl)]
    simp only[Option.isNone_some,↓Qak,↓Qao]
    rw[SlcK_hi (by omega) (by omega),Int.toNat_natCast,Qbe hr.hp (by decide:2<9) (by simp) rfl]
    have hp2:=QU (o:=.cells ((QfT B len L.length {S with nested:=true} (.slice (some ⟨V,0,none⟩) S.vt.length W.length) vtsv hd).setIfInBounds 2 (.slice (some ⟨V,0,none⟩) n W.length)) e (0,0)) hr.hp
    refine ⟨fun m vs h=>∃i:Nat,vs=[.int .i64 (i:Int)]/\i<=n/\m=n-i/\∃W':List Nat,W'.length=W.length/\W'.take i=List.replicate i 0/\
     Raw h p {S with nested:=true,vt:=W'.take n} F B V T L len hd (.slice (some ⟨V,0,none⟩) n W.length) vtsv e eB/\h[V]?=some (.cells (Qgf W') eW (0,0)),⟨n,0,rfl,by omega,by omega,W,rfl,rfl,?_,?_⟩,fun m=>?_⟩
    ·refine ⟨hp2,?_,Or.inr ⟨⟨W,eW,?_,?_,?_,?_⟩,n1,n2,n3⟩,hr.hT.mono (Qx (Ne.symm hr.pT)),hr.pB,hr.pT,hr.BT,?_,hr.hlen,hr.lt⟩
     ·rw[Qx (Ne.symm hr.pB)];exact hr.hB
     ·have:(W.take n).length=n:=by simp;omega
      rw[this]
     ·rw[Qx n1];exact hW
     ·have:(W.take n).length=n:=by simp;omega
      rw[this]
     ·simp;omega
     ·intro b o hb
      have:=hr.hF b o hb
      exact ⟨by rw[Qx this.2.1];exact this.1,this.2⟩
    ·rw[Qx n1];exact hW
    ·rintro x4 h11 ⟨i,hx,hi,rfl,W',hWl,hWt,hr',hWc⟩
     cases hx
     simp only[↓Ql (Qie hr'),↓QbM,↓Yw]
     apply ZV
     ·intro hlt'
      rw[QO (by omega) (by omega),Int.toNat_natCast,Nat.mul_one,Nat.zero_add]
      have:(Value.int .u32 0)= .int .u32 ((0:Nat):Int):=rfl
      rw[this,Qbe hWc (by rw[QhI];omega) (by simp) rfl,u32c_set,QE,wrap_i64 (by omega) (by omega)]
      refine ⟨n-(i+1),by omega,i+1,rfl,by omega,rfl,W'.set i 0,by simp[hWl],set_rep n i W' (by omega) (by omega) hWt,?_,QU hWc⟩
      refine ⟨by rw[Qx (Ne.symm n1)];exact hr'.hp,by rw[Qx (Ne.symm n2)];exact hr'.hB,Or.inr ⟨⟨W'.set i 0,eW,?_,QU hWc,?_,?_⟩,n1,n2,n3⟩,hr'.hT.mono (Qx (Ne.symm n3)),hr.pB,hr.pT,hr.BT,?_,hr.hlen,hr.lt⟩
      ·have:((W'.set i 0).take n).length=n:=by simp;omega
       rw[this,List.length_set,hWl]
      ·have:((W'.set i 0).take n).length=n:=by simp;omega
       rw[this]
      ·simp;omega
      ·intro b o hb
       have:=hr'.hF b o hb
       exact ⟨by rw[Qx this.2.2.2.1];exact this.1,this.2⟩
     ·intro hge
      have:i=n:=by omega
      subst this
      rw[hWt]at hr'
      exact ⟨hd,hh,⟨B,V,T,L,len,_,vtsv,e,eB,hr',g2,g3⟩⟩
 ·intro h13 hb
  exact key h13 hb
end
end Go.Proofs
namespace Go.Proofs
open Go Go.Vc
open Tryz (prog)
def Z4:List Nat->Nat
 |[]=>0
 |x::xs=>if Z4 xs=0/\x=0 then 0 else Z4 xs+1
theorem QiD:∀l:List Nat,Z4 l<=l.length
 |[]=>by simp[Z4]
 |x::xs=>by
  have:=QiD xs
  simp only[Z4,List.length_cons]
  split<;>omega
theorem QgE:∀(l:List Nat),(∀j,j<l.length->l.getD j 0=0)->Z4 l=0
 |[],_=>rfl
 |x::xs,h=>by
  have h0:x=0:=by simpa using h 0 (by simp)
  have h1:=QgE xs (fun j hj=>by simpa using h (j+1) (by simp;omega))
  simp[Z4,h0,h1]
theorem QiB:∀(l:List Nat) (i:Nat),(∀j,i<=j->j<l.length->l.getD j 0=0)->i<=l.length->(i=0\/l.getD (i-1) 0≠0)->Z4 l=i
 |l,0,h,_,_=>QgE l (fun j hj=>h j (by omega) hj)
 |[],i+1,_,h,_=>by simp at h
 |x::xs,1,h,_,h2=>by
  have h1:=QgE xs (fun j hj=>by simpa using h (j+1) (by omega) (by simp;omega))
  rcases h2 with h2|h2
  ·omega
  ·simp only[Nat.sub_self,List.getD_cons_zero]at h2
   simp[Z4,h1,h2]
 |x::xs,i+2,h,hl,h2=>by
  have h1:=QiB xs (i+1) (fun j hj hj2=>by simpa using h (j+1) (by omega) (by simp;omega)) (by simp at hl;omega) (by
   rcases h2 with h2|h2
   ·omega
   ·right
    have e:i+2-1=(i+1-1)+1:=by omega
    rw[e,List.getD_cons_succ]at h2
    exact h2)
  simp only[Z4,h1]
  rw[if_neg (by omega)]
def VtSl (H:Qe) (V:Nat) (v:Value) (l:List Nat):Prop:=(v= .slice none 0 0/\l=[])\/U32Sl H V v l
theorem VtSl.len {H:Qe} {V:Nat} {v:Value} {l:List Nat} (h:VtSl H V v l) {k:Value->Prop}:YQ v k=k (.int .i64 l.length):=by
 rcases h with ⟨rfl,rfl⟩|⟨W,e,rfl,_⟩<;>rfl
theorem VtSl.idx {H:Qe} {V:Nat} {v:Value} {l:List Nat} (h:VtSl H V v l) {j:Nat} {x:Int} (hx:x=(j:Nat)) (hj:j<l.length):
  (∀k:Value->Prop,Y7 1 v (.int .i64 x) k=k (.pointer (some ⟨V,j,none⟩)))/\Qb2 H ⟨V,j,none⟩=some (.int .u32 (l.getD j 0:Nat)):=by
 subst hx
 rcases h with ⟨rfl,rfl⟩|⟨W,e,rfl,h2,h3,h4⟩
 ·simp at hj
 ·constructor
  ·intro k
   rw[QO (by omega) (by omega),Int.toNat_natCast,Nat.mul_one,Nat.zero_add]
  ·rw[Qj h2,u32c_get (by omega),<-h3]
   congr 2
   simp[List.getD,List.getElem?_take,hj]
theorem Raw.vtSl {H:Qe} {p:Nat} {S:BS} {F:Cut} {B V T:Nat} {L:List UInt8} {len head:Nat} {vtv vtsv:Value} {e eB:TypeId}
  (hr:Raw H p S F B V T L len head vtv vtsv e eB):VtSl H V vtv S.vt:=by
 rcases hr.hV with ⟨h1,h2,_⟩|⟨h,_⟩
 ·exact Or.inl ⟨h1,h2⟩
 ·exact Or.inr h
theorem st_vt_take {H:Qe} {p:Nat} {S:BS} {F:Cut} {B V T:Nat} {L:List UInt8} {len head:Nat} {vtv vtsv:Value} {e eB:TypeId}
  (hr:Raw H p S F B V T L len head vtv vtsv e eB) {i:Nat} {x:Int} (hx:x=(i:Nat)) (hi:i<=S.vt.length) {kp:Qe->Prop}
  (hk:∀H' vtv',Raw H' p {S with vt:=S.vt.take i} F B V T L len head vtv' vtsv e eB->kp H'):
  Qg1 1 vtv none (some (.int .i64 x)) fun x50=>StK H 1 (.pointer (some ⟨p,2,none⟩)) x50 kp:=by
 subst hx
 rcases hr.hV with ⟨rfl,hn,hVp⟩|⟨⟨W,eW,rfl,hW,hW2,hW3⟩,n1,n2,n3⟩
 ·rw[hn]at hi
  have h0:i=0:=by simpa using hi
  subst h0
  rw[SlcK_hi (by omega) (by omega),Qbe hr.hp (by decide:2<9) (by simp) rfl]
  refine hk _ (.slice none 0 0) ?_
  refine ⟨QU hr.hp,?_,Or.inl ⟨rfl,by simp,hVp⟩,hr.hT.mono (Qx (Ne.symm hr.pT)),hr.pB,hr.pT,hr.BT,?_,hr.hlen,hr.lt⟩
  ·rw[Qx (Ne.symm hr.pB)];exact hr.hB
  ·intro b o hb
   have:=hr.hF b o hb
   exact ⟨by rw[Qx this.2.1];exact this.1,this.2⟩
 ·rw[SlcK_hi (by omega) (by omega),Int.toNat_natCast,Qbe hr.hp (by decide:2<9) (by simp) rfl]
  refine hk _ (.slice (some ⟨V,0,none⟩) i W.length) ?_
  have hl:(S.vt.take i).length=i:=by simp;omega
  refine ⟨QU hr.hp,?_,Or.inr ⟨⟨W,eW,?_,?_,?_,?_⟩,n1,n2,n3⟩,hr.hT.mono (Qx (Ne.symm hr.pT)),hr.pB,hr.pT,hr.BT,?_,hr.hlen,hr.lt⟩
  ·rw[Qx (Ne.symm hr.pB)];exact hr.hB
  ·rw[hl]
  ·rw[Qx n1];exact hW
  ·rw[hl,<-hW2,List.take_take,Nat.min_eq_left hi]
  ·rw[hl];omega
  ·intro b o hb
   have:=hr.hF b o hb
   exact ⟨by rw[Qx this.2.1];exact this.1,this.2⟩
def Qib (l:List Nat) (oo:Nat) (bs:List UInt8) (o n:Nat):Bool:=
 decide (2*l.length=n)&&(List.range l.length).all fun i=>(decide (le2 bs (o+2*i)=0)&&decide (l.getD i 0=0))||decide ((le2 bs (o+2*i):Int)=(oo:Int)-(l.getD i 0:Nat))
theorem Qj5 {l:List Nat} {oo n o o':Nat} {bs bs':List UInt8} (h:∀i,i<n->byteN bs (o+i)=byteN bs' (o'+i)):Qib l oo bs o n=Qib l oo bs' o' n:=by
 unfold Qib
 by_cases hl:2*l.length=n
 ·rw[decide_eq_true hl,Bool.true_and,Bool.true_and]
  apply Bool.eq_iff_iff.2
  simp only[List.all_eq_true,List.mem_range]
  have e:∀i,i<l.length->le2 bs (o+2*i)=le2 bs' (o'+2*i):=by
   intro i hi
   unfold le2
   rw[h (2*i) (by omega),Nat.add_assoc o,h (2*i+1) (by omega)]
   rfl
  constructor
  ·intro hh i hi;rw[<-e i hi];exact hh i hi
  ·intro hh i hi;rw[e i hi];exact hh i hi
 ·rw[decide_eq_false hl,Bool.false_and,Bool.false_and]
section
variable {H:Qe} {R:Kn}
set_option maxHeartbeats 1000000 in
theorem go_vtableEqual {V B o n c oo:Nat} {v:Value} {l:List Nat} {bs:List UInt8} (hv:VtSl H V v l) (hb:U8s H B 0 bs) (hn:o+n<=bs.length) (hc:n<=c) (hbn:n<1073741824)
  (hoo:oo<1073741824) (hl:∀j,l.getD j 0<=oo) (hll:l.length<1073741824) (hR:R (.bool (Qib l oo bs o n)) H):
  FnS prog 386 #[v,.int .u32 (oo:Nat),bsl B o n c] H R:=by
 apply w386
 unfold s386
 rw[hv.len,QbE,bsl,QbM,Yo]
 by_cases heq:2*l.length=n
 ·rw[wrap_i64 (by omega) (by omega),QK (by omega)]
  unfold Qib at hR
  rw[decide_eq_true heq,Bool.true_and]at hR
  refine Q8 (fun _ h=>h=H/\(List.range l.length).all (fun i=>(decide (le2 bs (o+2*i)=0)&&decide (l.getD i 0=0))||decide ((le2 bs (o+2*i):Int)=(oo:Int)-(l.getD i 0:Nat)))=true) ?_ ?_
  ·refine ⟨fun m vs h=>∃(i:Nat) (b:Value),vs=[.int .i64 (i:Int),b]/\i<=l.length/\m=l.length-i/\h=H/\
    ∀j,j<i->((decide (le2 bs (o+2*j)=0)&&decide (l.getD j 0=0))||decide ((le2 bs (o+2*j):Int)=(oo:Int)-(l.getD j 0:Nat)))=true,⟨l.length,0,_,rfl,by omega,by omega,rfl,by omega⟩,fun m=>?_⟩
   rintro x7 x6 h1 ⟨i,b,hx,hi,rfl,rfl,hall⟩
   cases hx
   rw[hv.len,Yw]
   by_cases hlt:i<l.length
   ·rw[QY (by omega)]
    obtain ⟨hidx,hcell⟩:=hv.idx (j:=i) rfl hlt
    have h2b:=le2_lt bs (o+2*i)
    have hlj:=hl i
    have again:((decide (le2 bs (o+2*i)=0)&&decide (l.getD i 0=0))||decide ((le2 bs (o+2*i):Int)=(oo:Int)-(l.getD i 0:Nat)))=true->
      Qr prog .add 3 (.int .i64 (i:Int)) (.int .i64 1) fun x21=>QZ (fun m vs h=>∃(i:Nat) (b:Value),vs=[.int .i64 (i:Int),b]/\i<=l.length/\m=l.length-i/\h=h1/\
       ∀j,j<i->((decide (le2 bs (o+2*j)=0)&&decide (l.getD j 0=0))||decide ((le2 bs (o+2*j):Int)=(oo:Int)-(l.getD j 0:Nat)))=true) (l.length-i) [x21,x6] h1:=by
     intro hh
     rw[QE,wrap_i64 (by omega) (by omega)]
     refine ⟨l.length-(i+1),by omega,i+1,x6,rfl,by omega,rfl,rfl,?_⟩
     intro j hj
     by_cases hji:j<i
     ·exact hall j hji
     ·have:j=i:=by omega
      subst this;exact hh
    refine Q8 (fun vs h=>vs=[x6]/\h=h1/\((decide (le2 bs (o+2*i)=0)&&decide (l.getD i 0=0))||decide ((le2 bs (o+2*i):Int)=(oo:Int)-(l.getD i 0:Nat)))=true) ?_ ?_
    ·rw[QbE,QE,QbE,wrap_i64 (n:=(i:Int)*2) (by omega) (by omega),wrap_i64 (n:=(i:Int)+1) (by omega) (by omega),wrap_i64 (by omega) (by omega)]
     rw[Qgv (by omega) (by omega) (by omega)]
     have hne:¬c=((i:Int)*2).toNat:=by omega
     rw[if_neg hne]
     have e1:o+((i:Int)*2).toNat*1=o+2*i:=by omega
     rw[e1]
     refine Qdj hb (by omega) (by omega) ?_
     rw[Yp]
     by_cases hz:le2 bs (o+2*i)=0
     ·simp only[hz,show ((0:Nat):Int)=0 from rfl,decide_true,↓Yb,hidx,↓Ql hcell,↓Yp,↓Yr]
      apply ZV
      ·intro h0
       have h0':l.getD i 0=0:=by omega
       exact ⟨by first|rfl|trivial,by first|rfl|trivial,by rw[h0'];rfl⟩
      ·intro h0
       have h0':¬l.getD i 0=0:=by omega
       simp only[↓QP,↓Yh,↓Yo]
       rw[Zd (n:=(oo:Int)) (by omega) (by omega),Zd (n:=((l.getD i 0:Nat):Int)) (by omega) (by omega),Zd (n:=(oo:Int)-((l.getD i 0:Nat):Int)) (by omega) (by omega),Zd (n:=(0:Int)) (by omega) (by omega)]
       apply ZV
       ·intro hne2
        have hf:(List.range l.length).all (fun i=>(decide (le2 bs (o+2*i)=0)&&decide (l.getD i 0=0))||decide ((le2 bs (o+2*i):Int)=(oo:Int)-(l.getD i 0:Nat)))=false:=by
         rw[List.all_eq_false]
         refine ⟨i,List.mem_range.2 hlt,?_⟩
         rw[hz]
         simp only[decide_true,Bool.true_and,Bool.or_eq_true,decide_eq_true_eq,not_or]
         exact ⟨h0',hne2⟩
        rw[hf]at hR
        exact hR
       ·intro heq2
        refine ⟨by first|rfl|trivial,by first|rfl|trivial,?_⟩
        simp only[Bool.or_eq_true,decide_eq_true_eq]
        right;omega
     ·have hz2:¬(le2 bs (o+2*i):Int)=0:=by omega
      simp only[decide_eq_false hz2,↓Z0,↓Qak,↓Qao]
      simp only[↓QP,hidx,↓Ql hcell,↓Yh,↓Yo]
      rw[Zd (n:=(oo:Int)) (by omega) (by omega),Zd (n:=((l.getD i 0:Nat):Int)) (by omega) (by omega),Zd (n:=(oo:Int)-((l.getD i 0:Nat):Int)) (by omega) (by omega),Zd (n:=(le2 bs (o+2*i):Int)) (by omega) (by omega)]
      apply ZV
      ·intro hne2
       have hf:(List.range l.length).all (fun i=>(decide (le2 bs (o+2*i)=0)&&decide (l.getD i 0=0))||decide ((le2 bs (o+2*i):Int)=(oo:Int)-(l.getD i 0:Nat)))=false:=by
        rw[List.all_eq_false]
        refine ⟨i,List.mem_range.2 hlt,?_⟩
        simp only[decide_eq_false hz,Bool.false_and,Bool.false_or,decide_eq_true_eq]
        exact hne2
       rw[hf]at hR
       exact hR
      ·intro heq2
       refine ⟨by first|rfl|trivial,by first|rfl|trivial,?_⟩
       simp only[decide_eq_false hz,Bool.false_and,Bool.false_or,decide_eq_true_eq]
       omega
    ·rintro x h8 ⟨hx,rfl,hh⟩
     cases hx
     exact again hh
   ·rw[QK (by omega)]
    refine ⟨rfl,?_⟩
    rw[List.all_eq_true]
    intro j hj
    exact hall j (by have:=List.mem_range.1 hj;omega)
  ·rintro x7 x6 h9 ⟨rfl,hh⟩
   rw[hh]at hR
   exact hR
 ·rw[QY]
  ·unfold Qib at hR
   rw[decide_eq_false heq,Bool.false_and]at hR
   exact hR
  ·rw[wrap_i64 (by omega) (by omega)]
   omega
end
end Go.Proofs
namespace Go.Proofs
open Go Go.Vc
open Tryz (prog)
def Qco (f:Nat->Bool):List Nat->Nat
 |[]=>0
 |x::xs=>if Qco f xs≠0 then Qco f xs else if f x=true then x else 0
theorem findVt_snoc (f:Nat->Bool) (x:Nat) (hx:x≠0):∀l:List Nat,Qco f (l++[x])=if f x=true then x else Qco f l
 |[]=>by simp[Qco]
 |y::l=>by
  rw[List.cons_append,Qco,findVt_snoc f x hx l,Qco]
  by_cases h:f x=true
  ·simp[h,hx]
  ·simp[h]
theorem Qiv (f:Nat->Bool):∀l:List Nat,Qco f l≠0->Qco f l∈l/\f (Qco f l)=true
 |[],h=>absurd rfl h
 |x::xs,h=>by
  rw[Qco]at h⊢
  by_cases h1:Qco f xs≠0
  ·rw[if_pos h1]
   have:=Qiv f xs h1
   exact ⟨List.mem_cons_of_mem _ this.1,this.2⟩
  ·rw[if_neg h1]at h⊢
   by_cases h2:f x=true
   ·rw[if_pos h2];exact ⟨List.mem_cons_self,h2⟩
   ·rw[if_neg h2]at h;exact absurd rfl h
def Qa2 (oo:Nat):List Nat->BS->BS
 |[],S=>S
 |v::vs,S=>putN 2 (leB ((if v≠0 then oo-v else 0:Nat):Int) 2) (Qa2 oo vs S)
theorem QhU {k:Nat} {xs:List UInt8} {S:BS}:(putN k xs S).buf.length=xs.length+padOf k S.buf.length+S.buf.length:=by
 simp[putN,place,prep];omega
theorem Qec (oo:Nat):∀(vs:List Nat) (S:BS),(Qa2 oo vs S).vt=S.vt/\(Qa2 oo vs S).vts=S.vts/\(Qa2 oo vs S).oe=S.oe/\(Qa2 oo vs S).nested=S.nested/\(Qa2 oo vs S).fin=S.fin
 |[],S=>⟨rfl,rfl,rfl,rfl,rfl⟩
 |v::vs,S=>Qec oo vs S
theorem wrEnt_len (oo:Nat):∀(vs:List Nat) (S:BS),S.buf.length<=(Qa2 oo vs S).buf.length/\(Qa2 oo vs S).buf.length<=S.buf.length+3*vs.length
 |[],S=>by simp[Qa2]
 |v::vs,S=>by
  have:=wrEnt_len oo vs S
  have h2:=Zw (size:=2) (n:=(Qa2 oo vs S).buf.length) (by decide)
  rw[Qa2,QhU,Qf,List.length_cons]
  omega
def Qds (q:Nat) (x:Int) (S:BS):BS:={S with buf:=Qb9 S.buf q (leB x 4)}
def QaH (vt:List Nat) (oo:Nat) (buf:List UInt8) (o:Nat):Bool:=Qib vt oo buf (oo-o+4) (le2 buf (oo-o)-4)
def endObj (S:BS):BS:=
 let S1:=putOff 0 S
 let oo:=S1.buf.length
 let vt:=S1.vt.take (Z4 S1.vt)
 let ex:=Qco (QaH vt oo S1.buf) S1.vts
 if ex=0 then
  let S2:=putN 2 (leB ((2*(vt.length+2):Nat):Int) 2) (putN 2 (leB ((oo-S.oe:Nat):Int) 2) (Qa2 oo vt {S1 with vt:=vt}))
  {Qds (S2.buf.length-oo) ((S2.buf.length-oo:Nat):Int) S2 with vts:=S2.vts++[S2.buf.length],vt:=[],nested:=false}
 else {Qds 0 ((ex:Int)-(oo:Int)) S1 with vt:=[],nested:=false}
def Qhu (S:BS):Prop:=∀o∈S.vts,0<o/\o<=S.buf.length/\4<=le2 S.buf (S.buf.length-o)/\le2 S.buf (S.buf.length-o)<=o
theorem QhV {L:List UInt8} {len head q:Nat} {buf:List UInt8} (h:(L.take len).drop head=buf) (hq:q<buf.length):byteN L (head+q)=byteN buf q:=by
 unfold byteN
 congr 1
 have hb:buf.length=(L.take len).length-head:=by rw[<-h,List.length_drop]
 have hlt:head+q<(L.take len).length:=by omega
 have h1:buf[q]?=(L.take len)[head+q]?:=by rw[<-h,List.getElem?_drop]
 have h2:(L.take len)[head+q]?=L[head+q]?:=by
  rw[List.getElem?_take,if_pos]
  simp at hlt;omega
 simp only[List.getD,h1,h2]
theorem le2_sub {L:List UInt8} {len head q:Nat} {buf:List UInt8} (h:(L.take len).drop head=buf) (hq:q+2<=buf.length):le2 L (head+q)=le2 buf q:=by
 unfold le2
 rw[QhV h (by omega),Nat.add_assoc,QhV h (by omega)]
theorem put_mid {L:List UInt8} {len head q:Nat} {xs buf:List UInt8} (hl:len<=L.length) (hh:head+buf.length=len) (hb:(L.take len).drop head=buf) (hx:q+xs.length<=buf.length):
  ((Qb9 L (head+q) xs).take len).drop head=Qb9 buf q xs:=by
 rw[QeE _ _ _ (by omega),QeE _ _ _ hx,<-hb]
 apply List.ext_getElem?
 intro i
 simp only[List.getElem?_drop,List.getElem?_take,List.getElem?_append,List.length_append,List.length_take]
 have m1:min (head+q) L.length=head+q:=by omega
 have m2:min q ((L.take len).drop head).length=q:=by simp;omega
 have m3:min (head+q) L.length=head+q:=by omega
 simp only[m1,List.length_drop,List.length_take]
 have m4:min q (min len L.length-head)=q:=by omega
 rw[m4]
 by_cases h1:head+i<len
 ·rw[if_pos h1]
  by_cases h2:head+i<head+q+xs.length
  ·have h2':i<q+xs.length:=by omega
   rw[if_pos h2,if_pos h2']
   by_cases h3:head+i<head+q
   ·have h3':i<q:=by omega
    rw[if_pos h3,if_pos h3',if_pos h3,if_pos h3',if_pos h1]
   ·have h3':¬i<q:=by omega
    rw[if_neg h3,if_neg h3']
    congr 1;omega
  ·have h2':¬i<q+xs.length:=by omega
   rw[if_neg h2,if_neg h2']
   have e:head+(q+xs.length+(i-(q+xs.length)))=head+i:=by omega
   rw[e,if_pos h1]
   congr 1;omega
 ·rw[if_neg h1]
  have h2':¬i<q+xs.length:=by omega
  rw[if_neg h2',if_neg (show ¬head+(q+xs.length+(i-(q+xs.length)))<len by omega)]
theorem QiF (x:Int):leB (IntKind.u16.wrap x) 2=leB x 2:=by
 rw[leB_2,leB_2]
 have h:IntKind.u16.wrap x=x%65536:=by simp[IntKind.wrap,IntKind.bits,IntKind.signed]
 have e0:Zo (x%65536) 0=Zo x 0:=by
  unfold Zo
  congr 2
  first|(simp;done)|(simp;omega)
 have e1:Zo (x%65536) 1=Zo x 1:=by
  unfold Zo
  congr 2
  first|(simp;done)|(simp;omega)
 rw[h,e0,e1]
end Go.Proofs
namespace Go.Proofs
open Go Go.Vc
open Tryz (prog)
theorem app_vts {H:Qe} {p:Nat} {S:BS} {F:Cut} {B V T:Nat} {L:List UInt8} {len head:Nat} {vtv vtsv:Value} {e eB:TypeId}
  (hr:Raw H p S F B V T L len head vtv vtsv e eB) {x Y:Nat} {et:TypeId} {kp:Qe->Prop} (hY:H[Y]?=some (.cells #[.int .u32 (x:Int)] et (0,0))) (hYp:Y≠p/\Y≠B/\Y≠V/\Y≠T) (hlt:S.vts.length<1073741824)
  (hk:∀H' T' vtsv',Raw H' p {S with vts:=S.vts++[x]} F B V T' L len head vtv vtsv' e eB->kp H'):
  QdQ H et 1 4 z65 vtsv (.slice (some ⟨Y,0,none⟩) 1 1) fun x190 h28=>StK h28 1 (.pointer (some ⟨p,4,none⟩)) x190 kp:=by
 obtain ⟨W,eW,rfl,hW,hW2,hW3⟩:=hr.hT
 obtain ⟨l1,l2,l3,l4⟩:=hr.V_lt
 have hnew:Qhb H (1*1) (.slice (some ⟨Y,0,none⟩) 1 1)=some [.int .u32 (x:Int)]:=by
  show Zp H ⟨Y,0,none⟩ 0 1=_
  rw[Q0 hY 1 (by simp)]
  rfl
 constructor
 ·intro hcap
  refine ⟨_,hnew,?_⟩
  have hW':H[T]?=some (.cells (W.map fun (n:Nat)=>Value.int .u32 (n:Int)).toArray eW (0,0)):=hW
  have hs:=Qes [.int .u32 (x:Int)] (o:=S.vts.length) (i:=0) hW' (by simp[Value.oneCell']) (by simp;omega) (by simp)
  have e1:(Qb9 (W.map fun (n:Nat)=>Value.int .u32 (n:Int)) (S.vts.length+0) [.int .u32 (x:Int)]).toArray=Qgf (W.set S.vts.length x):=by
   simp[Qb9,Qgf,List.map_set]
  simp only[e1]at hs
  refine ⟨setB H T (.cells (Qgf (W.set S.vts.length x)) eW (0,0)),?_,?_⟩
  ·rw[QfW,Nat.mul_one,Nat.zero_add]
   exact hs
  ·show StK _ 1 _ _ kp
   have hp:(setB H T (.cells (Qgf (W.set S.vts.length x)) eW (0,0)))[p]?=_:=(Qx hr.pT).trans hr.hp
   rw[Qbe hp (by decide:4<9) (by simp) rfl]
   refine hk _ T (.slice (some ⟨T,0,none⟩) (S.vts.length+1) W.length) ?_
   refine ⟨QU hp,?_,?_,⟨W.set S.vts.length x,eW,?_,?_,?_,?_⟩,hr.pB,hr.pT,hr.BT,?_,hr.hlen,hr.lt⟩
   ·rw[Qx (Ne.symm hr.pB),Qx hr.BT];exact hr.hB
   ·rcases hr.hV with g|⟨g,g2,g3,g4⟩
    ·exact Or.inl g
    ·exact Or.inr ⟨g.mono (by rw[Qx g2,Qx g4]),g2,g3,g4⟩
   ·simp
   ·rw[Qx (Ne.symm hr.pT),QU hW]
   ·simp only[List.length_append,List.length_cons,List.length_nil,Nat.zero_add]
    rw[List.take_set,List.take_add_one,hW2]
    have:W[S.vts.length]?.toList=[W[S.vts.length]'(by omega)]:=by rw[List.getElem?_eq_getElem (by omega)];rfl
    rw[this,List.set_append]
    simp
   ·simp;omega
   ·intro b o hb
    have:=hr.hF b o hb
    exact ⟨by rw[Qx this.2.1,Qx this.2.2.2.2];exact this.1,this.2⟩
 ·intro hcap
  refine ⟨by decide,by omega,(S.vts.map fun (n:Nat)=>Value.int .u32 (n:Int)),_,?_,hnew,?_⟩
  ·show Zp H ⟨T,0,none⟩ 0 (S.vts.length*1)=_
   rw[Nat.mul_one,Q0 hW _ (by rw[QhI];omega)]
   simp only[Nat.zero_add,List.drop_zero,Qgf,Option.some.injEq]
   rw[<-List.map_take,hW2]
  ·intro c hc1 hc2
   have e1:(S.vts.map (fun (n:Nat)=>Value.int .u32 (n:Int))++[Value.int .u32 (x:Int)]).toArray++Builtin.zeroCells z65 (c-(S.vts.length+1))=Qgf (S.vts++[x]++List.replicate (c-(S.vts.length+1)) 0):=by
    rw[zero_u32 (z:=z65) rfl]
    simp[Qgf]
   rw[e1]
   have hp:(H.push (.cells (Qgf (S.vts++[x]++List.replicate (c-(S.vts.length+1)) 0)) et))[p]?=_:=YG hr.hp
   rw[Qbe hp (by decide:4<9) (by simp) rfl]
   refine hk _ H.size (.slice (some ⟨H.size,0,none⟩) (S.vts.length+1) c) ?_
   refine ⟨QU hp,?_,?_,⟨S.vts++[x]++List.replicate (c-(S.vts.length+1)) 0,et,?_,?_,?_,?_⟩,hr.pB,by omega,by omega,?_,hr.hlen,hr.lt⟩
   ·rw[Qx (Ne.symm hr.pB)];exact YG hr.hB
   ·rcases hr.hV with g|⟨g,g2,g3,g4⟩
    ·exact Or.inl g
    ·refine Or.inr ⟨g.mono ?_,g2,g3,by omega⟩
     rw[Qx g2,Array.getElem?_push,if_neg (by omega)]
   ·simp only[List.length_append,List.length_cons,List.length_nil,List.length_replicate];congr 1;omega
   ·rw[Qx (by omega)];exact Qg
   ·simp only[List.length_append,List.length_cons,List.length_nil,Nat.zero_add]
    rw[List.take_append_of_le_length (by simp),List.take_of_length_le (by simp)]
   ·simp only[List.length_append,List.length_cons,List.length_nil,List.length_replicate];omega
   ·intro b o hb
    have:=hr.hF b o hb
    have hbl:=YB this.1
    exact ⟨by rw[Qx this.2.1];exact YG this.1,this.2.1,this.2.2.1,this.2.2.2.1,by omega⟩
theorem QgH (S:BS):∀S1 oo vt ex,S1=putOff 0 S->oo=S1.buf.length->vt=S1.vt.take (Z4 S1.vt)->ex=Qco (QaH vt oo S1.buf) S1.vts->
  endObj S=if ex=0 then
   {Qds ((putN 2 (leB ((2*(vt.length+2):Nat):Int) 2) (putN 2 (leB ((oo-S.oe:Nat):Int) 2) (Qa2 oo vt {S1 with vt:=vt}))).buf.length-oo)
     (((putN 2 (leB ((2*(vt.length+2):Nat):Int) 2) (putN 2 (leB ((oo-S.oe:Nat):Int) 2) (Qa2 oo vt {S1 with vt:=vt}))).buf.length-oo:Nat):Int)
     (putN 2 (leB ((2*(vt.length+2):Nat):Int) 2) (putN 2 (leB ((oo-S.oe:Nat):Int) 2) (Qa2 oo vt {S1 with vt:=vt}))) with
    vts:=S1.vts++[(putN 2 (leB ((2*(vt.length+2):Nat):Int) 2) (putN 2 (leB ((oo-S.oe:Nat):Int) 2) (Qa2 oo vt {S1 with vt:=vt}))).buf.length],vt:=[],nested:=false}
  else {Qds 0 ((ex:Int)-(oo:Int)) S1 with vt:=[],nested:=false}:=by
 rintro S1 oo vt ex rfl rfl rfl rfl
 unfold endObj
 simp only
 split
 ·have:=(Qec (putOff 0 S).buf.length ((putOff 0 S).vt.take (Z4 (putOff 0 S).vt)) {(putOff 0 S) with vt:=(putOff 0 S).vt.take (Z4 (putOff 0 S).vt)}).2.1
  congr 1
  show (Qa2 _ _ _).vts++_=_
  rw[this]
 ·rfl
section
variable {H:Qe} {p:Nat} {S:BS} {F:Cut} {r:Nat} (hB:Qc H p S F r) {R:Kn}
include hB
set_option maxHeartbeats 4000000 in
theorem Qga (hnest:S.nested=true) (hlen:S.buf.length+4096<=536870912) (hvl:S.vt.length<1000) (hvt:∀j,S.vt.getD j 0<=S.buf.length) (hoe:S.oe<=S.buf.length) (hvts:S.vts.length<536870912)
  (hok:Qhu (putOff 0 S))
  (hR:∀H',Qc H' p {endObj S with nested:=true} F 0->R (.int .u32 ((putOff 0 S).buf.length:Nat)) H'):
  FnS prog 355 #[.pointer (some ⟨p,0,none⟩)] H R:=by
 have hS1l:S.buf.length+4<=(putOff 0 S).buf.length/\(putOff 0 S).buf.length<=S.buf.length+7:=by
  have:=Zw (size:=4) (n:=S.buf.length+0) (by decide)
  unfold putOff
  simp only[place,List.length_append,Qf,Qar]
  omega
 have hk1:(putOff 0 S).vt=S.vt/\(putOff 0 S).vts=S.vts/\(putOff 0 S).oe=S.oe/\(putOff 0 S).nested=S.nested:=⟨rfl,rfl,rfl,rfl⟩
 obtain ⟨k1,k2,k3,k4⟩:=hk1
 apply w355
 unfold s355
 refine Qen hB (by omega) ?_
 intro H1 h1
 replace h1:=h1.room (Nat.zero_le _)
 have hend:=QgH S
 generalize hS1:putOff 0 S=S1 at *
 have hlt1:=h1.lt
 refine Yc h1 ?_
 generalize hoo:S1.buf.length=oo at *
 obtain ⟨hd,hh,⟨B,V,T,L,len,vtv,vtsv,e,eB,hr,g2,g3⟩⟩:=h1
 have htl:=QiD S1.vt
 have hvl1:S1.vt.length<1000:=by rw[k1];exact hvl
 have hvts1:S1.vts.length<536870912:=by rw[k2];exact hvts
 have hvt1:∀j,S1.vt.getD j 0<=oo:=fun j=>by rw[k1];exact Nat.le_trans (hvt j) (by omega)
 simp only[↓Qt,↓Qu,↓Ql (Qie hr),↓(Raw.vtSl hr).len,↓Yh]
 rw[wrap_i64 (by omega) (by omega)]
 refine Q8 (fun vs h=>vs=[.int .i64 ((Z4 S1.vt:Int)-1)]/\h=H1) ?_ ?_
 ·refine ⟨fun m vs h=>∃i:Nat,vs=[.int .i64 ((i:Int)-1)]/\i<=S1.vt.length/\m=i/\h=H1/\∀j,i<=j->j<S1.vt.length->S1.vt.getD j 0=0,⟨_,S1.vt.length,rfl,by omega,rfl,rfl,by omega⟩,fun m=>?_⟩
  rintro x5 h3 ⟨i,hx,hi,rfl,rfl,hall⟩
  cases hx
  rw[QgW]
  by_cases h0:0<m
  ·obtain ⟨hidx,hcell⟩:=(Raw.vtSl hr).idx (j:=m-1) (x:=(m:Int)-1) (by omega) (by omega)
   have hge:(0:Int)<=(m:Int)-1:=by omega
   simp only[decide_eq_true hge,↓Yb,↓Qt,↓Qu,↓Ql (Qie hr),hidx,↓Ql hcell,↓Yp,↓Yr]
   apply ZV
   ·intro hz
    rw[Yh,wrap_i64 (by omega) (by omega)]
    refine ⟨m-1,by omega,m-1,?_,by omega,rfl,rfl,?_⟩
    ·congr 2;omega
    ·intro j hj hj2
     by_cases hjm:j=m-1
     ·subst hjm;omega
     ·exact hall j (by omega) hj2
   ·intro hz
    have ht:Z4 S1.vt=m:=QiB S1.vt m hall hi (Or.inr (by omega))
    simp only[ht,and_self]
  ·have hge:¬(0:Int)<=(m:Int)-1:=by omega
   simp only[decide_eq_false hge,↓Z0,↓Qak,↓Qao]
   have hm0:m=0:=by omega
   subst hm0
   have ht:Z4 S1.vt=0:=QiB S1.vt 0 hall hi (Or.inl rfl)
   simp only[ht,and_self]
 ·rintro x5 h12 ⟨hx,rfl⟩
  cases hx
  simp only[↓Qt,↓Qu,↓Ql (Qie hr),↓QE]
  rw[wrap_i64 (by omega) (by omega)]
  refine st_vt_take hr (i:=Z4 S1.vt) (by omega) (by omega) ?_
  intro H2 vtv2 hr2
  generalize hvt2:S1.vt.take (Z4 S1.vt)=vt at *
  have hvl2:vt.length<=1000:=by rw[<-hvt2,List.length_take];omega
  have hvtle:∀j,vt.getD j 0<=oo:=by
   intro j
   have h1:=hvt1 j
   rw[<-hvt2]
   by_cases hj:j<Z4 S1.vt
   ·simp only[List.getD,List.getElem?_take,if_pos hj]at h1⊢;exact h1
   ·simp[List.getD,List.getElem?_take,hj]
  have hVt:VtSl H2 V vtv2 vt:=Raw.vtSl hr2
  refine Q8 (fun vs h=>(∃y,vs=[y,.int .u32 (Qco (QaH vt oo S1.buf) S1.vts:Nat)])/\h=H2) ?_ ?_
  ·obtain ⟨W,eW,rfl,hW,hW2,hW3⟩:=hr2.hT
   have hT:VtSl H2 T (.slice (some ⟨T,0,none⟩) S1.vts.length W.length) S1.vts:=Or.inr ⟨W,eW,rfl,hW,hW2,hW3⟩
   simp only[↓Qt,↓Qu,↓Ql (ld_vts hr2),↓QbM,↓Yh]
   rw[wrap_i64 (by omega) (by omega)]
   refine ⟨fun m vs h=>∃i:Nat,vs=[.int .i64 ((i:Int)-1),.int .u32 0]/\i<=S1.vts.length/\m=i/\h=H2/\Qco (QaH vt oo S1.buf) (S1.vts.take i)=Qco (QaH vt oo S1.buf) S1.vts,⟨_,S1.vts.length,rfl,by omega,rfl,rfl,by rw[List.take_length]⟩,fun m=>?_⟩
   rintro x6 x4 h14 ⟨i,hx,hi,rfl,rfl,hfind⟩
   cases hx
   rw[QgW]
   apply ZV
   ·intro hge
    obtain ⟨hidx,hcell⟩:=hT.idx (j:=m-1) (x:=(m:Int)-1) (by omega) (by omega)
    have hmem:S1.vts.getD (m-1) 0∈S1.vts:=by
     rw[List.getD_eq_getElem?_getD,List.getElem?_eq_getElem (by omega)]
     exact List.getElem_mem _
    obtain ⟨o1,o2,o3,o4⟩:=hok _ hmem
    generalize hov:S1.vts.getD (m-1) 0=o at *
    have htake:S1.vts.take m=S1.vts.take (m-1)++[o]:=by
     have:m=(m-1)+1:=by omega
     rw[this,List.take_add_one,Nat.add_sub_cancel]
     congr 1
     rw[List.getElem?_eq_getElem (by omega)]
     rw[List.getD_eq_getElem?_getD,List.getElem?_eq_getElem (by omega)]at hov
     simpa using hov
    rw[htake,findVt_snoc _ _ (by omega)]at hfind
    have hlo:=hr2.lt
    have hlL:=hr2.hlen
    rw[hoo]at o2 o3 o4
    simp only[↓Qt,↓Qu,↓Ql (ld_vts hr2),hidx,↓Ql hcell,↓Ql (YE hr2),↓QbM,↓QP,↓Yh]
    rw[wrap_i64 (n:=(o:Int)) (by omega) (by omega),wrap_i64 (n:=(len:Int)-(o:Int)) (by omega) (by omega)]
    rw[show (len:Int)-(o:Int)=((hd+(oo-o):Nat):Int) by omega]
    rw[ZN hr2 (m:=hd+(oo-o)) (by omega)]
    refine Qdj (QeD hr2.hB) (by omega) (by omega) ?_
    have hl2:le2 L (hd+(oo-o))=le2 S1.buf (oo-o):=le2_sub g3 (by rw[hoo];omega)
    rw[hl2]
    have hl3:=le2_lt S1.buf (oo-o)
    simp only[↓Qt,↓Qu,↓Ql (YE hr2),↓Ql (Qie hr2),↓QP,↓QE]
    rw[wrap_i64 (n:=(le2 S1.buf (oo-o):Int)) (by omega) (by omega),wrap_i64 (n:=((hd+(oo-o):Nat):Int)+(le2 S1.buf (oo-o):Int)) (by omega) (by omega),wrap_i64 (n:=((hd+(oo-o):Nat):Int)+4) (by omega) (by omega)]
    obtain ⟨o',n',c',hslc,q1,q2,q4,q3⟩:∃o' n' c':Nat,(∀k:Value->Prop,Qg1 1 (bsl B 0 len L.length) (some (.int .i64 (((hd+(oo-o):Nat):Int)+4))) (some (.int .i64 (((hd+(oo-o):Nat):Int)+(le2 S1.buf (oo-o):Int)))) k=k (bsl B o' n' c'))/\
      o'+n'<=L.length/\n'<=c'/\n'<1073741824/\Qib vt oo L o' n'=QaH vt oo S1.buf o:=by
     by_cases hfull:L.length=(((hd+(oo-o):Nat):Int)+4).toNat
     ·refine ⟨0,0,0,?_,by omega,by omega,by omega,?_⟩
      ·intro k
       rw[bsl,Qgv (by omega) (by omega) (by omega),if_pos hfull]
       have e1:(((hd+(oo-o):Nat):Int)+(le2 S1.buf (oo-o):Int)).toNat-(((hd+(oo-o):Nat):Int)+4).toNat=0:=by omega
       rw[e1,show L.length-(((hd+(oo-o):Nat):Int)+4).toNat=0 by omega]
      ·unfold QaH
       rw[show le2 S1.buf (oo-o)-4=0 by omega]
       exact Qj5 (fun i hi=>by omega)
     ·refine ⟨hd+(oo-o)+4,le2 S1.buf (oo-o)-4,L.length-(hd+(oo-o)+4),?_,by omega,by omega,by omega,?_⟩
      ·intro k
       rw[bsl,Qgv (by omega) (by omega) (by omega),if_neg hfull]
       have e1:(((hd+(oo-o):Nat):Int)+(le2 S1.buf (oo-o):Int)).toNat-(((hd+(oo-o):Nat):Int)+4).toNat=le2 S1.buf (oo-o)-4:=by omega
       have e2:(((hd+(oo-o):Nat):Int)+4).toNat=hd+(oo-o)+4:=by omega
       rw[e1,e2,Nat.zero_add,Nat.mul_one]
      ·unfold QaH
       refine Qj5 (fun i hi=>?_)
       rw[show hd+(oo-o)+4+i=hd+(oo-o+4+i) by omega]
       exact QhV g3 (by omega)
    rw[hslc]
    refine go_vtableEqual hVt (QeD hr2.hB) q1 q2 q4 (by omega) hvtle (by omega) ?_
    rw[q3]
    by_cases hs:QaH vt oo S1.buf o=true
    ·rw[hs,if_pos rfl]at hfind
     rw[hs,QcN]
     exact ⟨⟨.int .i64 ((m:Int)-1),by rw[<-hfind]⟩,rfl⟩
    ·rw[if_neg hs]at hfind
     rw[Bool.not_eq_true]at hs
     rw[hs,Qao,wrap_i64 (by omega) (by omega)]
     refine ⟨m-1,by omega,m-1,?_,by omega,rfl,rfl,hfind⟩
     congr 2;omega
   ·intro hge
    have hm0:m=0:=by omega
    subst hm0
    refine ⟨⟨.int .i64 ((0:Nat)-1:Int),?_⟩,rfl⟩
    rw[<-hfind]
    rfl
  ·rintro x6 x4 h17 ⟨⟨y,hx⟩,rfl⟩
   cases hx
   generalize hex:Qco (QaH vt oo S1.buf) S1.vts=ex at *
   have hexle:ex<=oo:=by
    by_cases h0:ex=0
    ·omega
    ·have:=Qiv (QaH vt oo S1.buf) S1.vts (by rw[hex];exact h0)
     rw[hex]at this
     have:=(hok _ this.1).2.1
     omega
   have hlo:=hr2.lt
   have hlL:=hr2.hlen
   have hat:Qc h17 p {S1 with vt:=vt} F 0:=⟨hd,Nat.zero_le _,⟨B,V,T,L,len,vtv2,vtsv,e,eB,hr2,g2,g3⟩⟩
   have hend':=hend S1 oo vt ex rfl hoo.symm hvt2.symm hex.symm
   clear hend
   generalize hS2:({S1 with vt:=vt}:BS)=S2 at hend' hat
   have s2v:S2.vt=vt:=by rw[<-hS2]
   have s2o:S2.oe=S1.oe:=by rw[<-hS2]
   have s2b:S2.buf.length=oo:=by rw[<-hS2];exact hoo
   have s2n:S2.nested=true:=by rw[<-hS2];exact k4.trans hnest
   have s2s:S2.vts=S1.vts:=by rw[<-hS2]
   refine Q8 (fun _ h=>Qc h p {endObj S with nested:=true,vt:=vt} F 0) ?_ ?_
   ·rw[Yp]
    apply ZV
    ·intro h0
     have h0':ex=0:=by omega
     rw[if_pos h0']at hend'
     refine Q8 (fun _ h=>Qc h p (Qa2 oo vt S2) F 0) ?_ ?_
     ·simp only[↓Qt,↓Qu,↓Ql (Qie hr2),↓hVt.len,↓Yh]
      rw[wrap_i64 (by omega) (by omega)]
      refine ⟨fun m vs h=>∃i:Nat,vs=[.int .i64 ((i:Int)-1)]/\i<=vt.length/\m=i/\Qc h p (Qa2 oo (vt.drop i) S2) F 0,⟨_,vt.length,rfl,by omega,rfl,?_⟩,fun m=>?_⟩
      ·rw[List.drop_length];exact hat
      ·rintro x13 h18 ⟨i,hx,hi,rfl,hb⟩
       cases hx
       rw[QgW]
       apply ZV
       ·intro hge
        obtain ⟨w1,w2,w3,w4,w5⟩:=Qec oo (vt.drop m) S2
        have hwl:=wrEnt_len oo (vt.drop m) S2
        rw[List.length_drop]at hwl
        have hvtm:=hvtle (m-1)
        have hdrop:vt.drop (m-1)=vt.getD (m-1) 0::vt.drop m:=by
         rw[List.drop_eq_getElem_cons (by omega),List.getD_eq_getElem?_getD,List.getElem?_eq_getElem (by omega)]
         rw[show m-1+1=m by omega];rfl
        have hb2:=hb
        obtain ⟨hd3,hh3,⟨B3,V3,T3,L3,len3,vtv3,vtsv3,e3,eB3,hr3,g5,g6⟩⟩:=hb
        have hV3:=Raw.vtSl hr3
        rw[w1,s2v]at hV3
        obtain ⟨hidx,hcell⟩:=hV3.idx (j:=m-1) (x:=(m:Int)-1) (by omega) (by omega)
        generalize vt.getD (m-1) 0=v at *
        refine Q8 (fun vs h=>vs=[.int .u32 ((if v≠0 then oo-v else 0:Nat):Int)]/\h=h18) ?_ ?_
        ·simp only[↓Qt,↓Qu,↓Ql (Qie hr3),hidx,↓Ql hcell,↓Yo,↓Yh]
         apply ZV
         ·intro hne
          rw[QT (by omega) (by omega),if_pos (by omega)]
          refine ⟨?_,by first|rfl|trivial⟩
          congr 2;omega
         ·intro hne
          rw[if_neg (by omega)]
          exact ⟨rfl,by first|rfl|trivial⟩
        ·rintro x14 h19 ⟨hx,rfl⟩
         cases hx
         rw[QP]
         refine Qa9 hb2 (by omega) ?_
         intro h20 hb3
         rw[QiF]at hb3
         rw[Yh,wrap_i64 (by omega) (by omega)]
         refine ⟨m-1,by omega,m-1,?_,by omega,rfl,?_⟩
         ·congr 2;omega
         ·rw[hdrop];exact hb3.room (Nat.zero_le _)
       ·intro hge
        have hm0:m=0:=by omega
        subst hm0
        exact hb
     ·intro x13 h21 hb
      obtain ⟨w1,w2,w3,w4,w5⟩:=Qec oo vt S2
      have hwl:=wrEnt_len oo vt S2
      have hb2:=hb
      obtain ⟨hd3,hh3,⟨B3,V3,T3,L3,len3,vtv3,vtsv3,e3,eB3,hr3,g5,g6⟩⟩:=hb
      have e1:(Qa2 oo vt S2).oe=S.oe:=by rw[w3,s2o,k3]
      simp only[↓Qt,↓Qu,↓Ql (ld_oe hr3),e1,↓Yh,↓QP]
      rw[QT (by omega) (by omega),show (oo:Int)-(S.oe:Int)=((oo-S.oe:Nat):Int) by omega]
      refine Qa9 hb2 (by omega) ?_
      intro h22 hb3
      rw[QiF]at hb3
      have hl3:(putN 2 (leB ((oo-S.oe:Nat):Int) 2) (Qa2 oo vt S2)).buf.length<=(Qa2 oo vt S2).buf.length+3:=by
       have:=Zw (size:=2) (n:=(Qa2 oo vt S2).buf.length) (by decide)
       rw[QhU,Qf];omega
      have hl3':(Qa2 oo vt S2).buf.length<=(putN 2 (leB ((oo-S.oe:Nat):Int) 2) (Qa2 oo vt S2)).buf.length:=by rw[QhU];omega
      have v3:(putN 2 (leB ((oo-S.oe:Nat):Int) 2) (Qa2 oo vt S2)).vt=vt:=by show (Qa2 oo vt S2).vt=vt;rw[w1,s2v]
      have v4:(putN 2 (leB ((oo-S.oe:Nat):Int) 2) (Qa2 oo vt S2)).vts=S1.vts:=by show (Qa2 oo vt S2).vts=S1.vts;rw[w2,s2s]
      have v5:(putN 2 (leB ((oo-S.oe:Nat):Int) 2) (Qa2 oo vt S2)).nested=true:=by show (Qa2 oo vt S2).nested=true;rw[w4,s2n]
      generalize putN 2 (leB ((oo-S.oe:Nat):Int) 2) (Qa2 oo vt S2)=S3 at *
      have hb4:=hb3
      obtain ⟨hd4,hh4,⟨B4,V4,T4,L4,len4,vtv4,vtsv4,e4,eB4,hr4,g7,g8⟩⟩:=hb3
      have hV4:=Raw.vtSl hr4
      rw[v3]at hV4
      simp only[↓Qt,↓Qu,↓Ql (Qie hr4),↓hV4.len,↓QE,↓QbE,↓QP]
      rw[wrap_i64 (n:=(vt.length:Int)+2) (by omega) (by omega),wrap_i64 (n:=((vt.length:Int)+2)*2) (by omega) (by omega),show ((vt.length:Int)+2)*2=((2*(vt.length+2):Nat):Int) by omega]
      refine Qa9 hb4 (by omega) ?_
      intro h23 hb5
      rw[QiF]at hb5
      have hl5:(putN 2 (leB ((2*(vt.length+2):Nat):Int) 2) S3).buf.length<=S3.buf.length+3:=by
       have:=Zw (size:=2) (n:=S3.buf.length) (by decide)
       rw[QhU,Qf];omega
      have hl5':S3.buf.length+2<=(putN 2 (leB ((2*(vt.length+2):Nat):Int) 2) S3).buf.length:=by rw[QhU,Qf];omega
      have v6:(putN 2 (leB ((2*(vt.length+2):Nat):Int) 2) S3).vts=S1.vts:=v4
      have v7:(putN 2 (leB ((2*(vt.length+2):Nat):Int) 2) S3).nested=true:=v5
      have v8:(putN 2 (leB ((2*(vt.length+2):Nat):Int) 2) S3).vt=vt:=v3
      generalize putN 2 (leB ((2*(vt.length+2):Nat):Int) 2) S3=S5 at *
      have hb6:=hb5
      obtain ⟨hd6,hh6,⟨B6,V6,T6,L6,len6,vtv6,vtsv6,e6,eB6,hr6,g9,g10⟩⟩:=hb5
      have hl6:=hr6.lt
      have hL6:=hr6.hlen
      simp only[↓Qt,↓Qu,↓Ql (YE hr6),↓QbM,↓QP,↓Yh]
      rw[Zd (n:=(len6:Int)) (by omega) (by omega),Zd (n:=(oo:Int)) (by omega) (by omega),Zd (n:=(len6:Int)-(oo:Int)) (by omega) (by omega)]
      rw[show (len6:Int)-(oo:Int)=((hd6+(S5.buf.length-oo):Nat):Int) by omega,ZN hr6 (m:=hd6+(S5.buf.length-oo)) (by omega)]
      refine Yc hb6 ?_
      rw[Qa,QP,Yh,Zd (n:=(S5.buf.length:Int)) (by omega) (by omega),Zd (n:=(S5.buf.length:Int)-(oo:Int)) (by omega) (by omega),show (S5.buf.length:Int)-(oo:Int)=((S5.buf.length-oo:Nat):Int) by omega]
      refine QdF hr6.hB (by omega) (by omega) ?_
      have hr7:=Raw.wr (S':=Qds (S5.buf.length-oo) ((S5.buf.length-oo:Nat):Int) S5) hr6 (Yd (leB ((S5.buf.length-oo:Nat):Int) 4) L6 (hd6+(S5.buf.length-oo))) rfl rfl rfl
      have hpl:(Qds (S5.buf.length-oo) ((S5.buf.length-oo:Nat):Int) S5).buf.length=S5.buf.length:=by simp[Qds,Yd]
      have g11:((Qb9 L6 (hd6+(S5.buf.length-oo)) (leB ((S5.buf.length-oo:Nat):Int) 4)).take len6).drop hd6=(Qds (S5.buf.length-oo) ((S5.buf.length-oo:Nat):Int) S5).buf:=
       put_mid hL6 g9 g10 (by rw[Qf];omega)
      have vp:(Qds (S5.buf.length-oo) ((S5.buf.length-oo:Nat):Int) S5).vts=S1.vts:=v6
      generalize hH7:wr h23 B6 eB6 (Qb9 L6 (hd6+(S5.buf.length-oo)) (leB ((S5.buf.length-oo:Nat):Int) 4))=H7 at *
      generalize hL7:Qb9 L6 (hd6+(S5.buf.length-oo)) (leB ((S5.buf.length-oo:Nat):Int) 4)=L7 at *
      have hb7:Qc H7 p (Qds (S5.buf.length-oo) ((S5.buf.length-oo:Nat):Int) S5) F 0:=⟨hd6,Nat.zero_le _,⟨B6,V6,T6,L7,len6,vtv6,vtsv6,e6,eB6,hr7,by rw[hpl];exact g9,g11⟩⟩
      simp only[↓Qt,↓Qu,↓Ql (ld_vts hr7)]
      refine Yc hb7 ?_
      rw[Qa,hpl]
      show QN H7 _ 1 [Value.int .u32 0] _ _
      refine Qw (Qai.push _ _).ext ?_
      have hr8:Raw (H7.push (.cells #[.int .u32 (S5.buf.length:Nat)] 65)) p (Qds (S5.buf.length-oo) ((S5.buf.length-oo:Nat):Int) S5) F B6 V6 T6 L7 len6 hd6 vtv6 vtsv6 e6 eB6:=by
       obtain ⟨l1,l2,l3,l4⟩:=hr7.V_lt
       refine hr7.frame ?_ ?_
       ·intro b hb
        rw[Array.getElem?_push,if_neg]
        rcases hb with rfl|rfl|rfl|rfl<;>omega
       ·intro b o hb
        have:=hr7.hF b o hb
        exact ⟨YG this.1,this.2⟩
      obtain ⟨l1,l2,l3,l4⟩:=hr7.V_lt
      refine app_vts hr8 (x:=S5.buf.length) (Y:=H7.size) Qg ⟨by omega,by omega,by omega,by omega⟩ (by rw[vp];omega) ?_
      intro H9 T9 vtsv9 hr9
      rw[hend']
      refine ⟨hd6,Nat.zero_le _,⟨B6,V6,T9,L7,len6,vtv6,vtsv9,e6,eB6,?_,by show hd6+(Qds _ _ S5).buf.length=len6;rw[hpl];exact g9,g11⟩⟩
      have e5:({Qds (S5.buf.length-oo) ((S5.buf.length-oo:Nat):Int) S5 with vts:=(Qds (S5.buf.length-oo) ((S5.buf.length-oo:Nat):Int) S5).vts++[S5.buf.length]}:BS)=
        {Qds (S5.buf.length-oo) ((S5.buf.length-oo:Nat):Int) S5 with vts:=S1.vts++[S5.buf.length],vt:=vt,nested:=true}:=by
       simp only[Qds,v6,v7,v8]
      rw[e5]at hr9
      exact hr9
    ·intro h0
     have h0':¬ex=0:=by omega
     rw[if_neg h0']at hend'
     simp only[↓Qt,↓Qu,↓Ql (YE hr2),↓QbM,↓QP,↓Yh]
     rw[Zd (n:=(len:Int)) (by omega) (by omega),Zd (n:=(oo:Int)) (by omega) (by omega),Zd (n:=(len:Int)-(oo:Int)) (by omega) (by omega),QT (by omega) (by omega)]
     rw[show (len:Int)-(oo:Int)=((hd:Nat):Int) by omega,Qbu hr2]
     have hr3:=Raw.setp (S':={S1 with vt:=vt}) (head':=hd) hr2 rfl rfl
     simp only[↓Ql (YE hr3),↓Ql (YD hr3)]
     rw[ZN hr3 (m:=hd) (by omega),Zd (n:=(ex:Int)) (by omega) (by omega),Zd (n:=(ex:Int)-(oo:Int)) (by omega) (by omega)]
     refine QdF hr3.hB (by omega) (by omega) ?_
     rw[hend']
     have hr4:=Raw.wr (S':={Qds 0 ((ex:Int)-(oo:Int)) S1 with vt:=vt,nested:=true}) hr3 (Yd (leB ((ex:Int)-(oo:Int)) 4) L hd) (by
      show QfT B len L.length _ vtv2 vtsv hd=_
      simp only[QfT,Qds]
      rw[k4,hnest]) rfl rfl
     refine ⟨hd,Nat.zero_le _,⟨B,V,T,_,len,vtv2,vtsv,e,eB,hr4,?_,?_⟩⟩
     ·show hd+(Qds 0 _ S1).buf.length=len
      simp only[Qds,Yd];exact g2
     ·have:=put_mid (q:=0) (xs:=leB ((ex:Int)-(oo:Int)) 4) hlL g2 g3 (by rw[Qf];omega)
      exact this
   ·intro h32 hb
    obtain ⟨hd6,hh6,⟨B6,V6,T6,L6,len6,vtv6,vtsv6,e6,eB6,hr6,g9,g10⟩⟩:=hb
    simp only[↓Qt,↓Qu,↓Ql (Qie hr6)]
    refine st_vt_take hr6 (i:=0) rfl (Nat.zero_le _) ?_
    intro H' vtv' hr'
    refine hR H' ?_
    have ev:(endObj S).vt=[]:=by
     rw[hend'];split<;>rfl
    refine ⟨hd6,Nat.zero_le _,⟨B6,V6,T6,L6,len6,vtv',vtsv6,e6,eB6,?_,g9,g10⟩⟩
    have e7:({endObj S with nested:=true,vt:=vt.take 0}:BS)={endObj S with nested:=true}:=by
     rw[List.take_zero,<-ev]
    have hr'':Raw H' p ({endObj S with nested:=true,vt:=vt.take 0}:BS) F B6 V6 T6 L6 len6 hd6 vtv' vtsv6 e6 eB6:=hr'
    rw[e7]at hr''
    exact hr''
theorem Qh0 (hnest:S.nested=true) (hlen:S.buf.length+4096<=536870912) (hvl:S.vt.length<1000) (hvt:∀j,S.vt.getD j 0<=S.buf.length) (hoe:S.oe<=S.buf.length) (hvts:S.vts.length<536870912)
  (hok:Qhu (putOff 0 S))
  (hR:∀H',Qc H' p (endObj S) F 0->R (.int .u32 ((putOff 0 S).buf.length:Nat)) H'):
  FnS prog 297 #[.pointer (some ⟨p,0,none⟩)] H R:=by
 apply w297
 unfold s297
 refine QaL hB hnest ?_
 refine Qga hB hnest hlen hvl hvt hoe hvts hok ?_
 intro H1 h1
 simp only[↓Qt,↓Qu]
 refine Qce h1 ?_
 intro H2 h2
 refine hR H2 ?_
 have en:(endObj S).nested=false:=by
  rw[QgH S _ _ _ _ rfl rfl rfl rfl];split<;>rfl
 have e8:({({endObj S with nested:=true}:BS) with nested:=false}:BS)=endObj S:=by
  show ({endObj S with nested:=false}:BS)=endObj S
  rw[<-en]
 rw[e8]at h2
 exact h2
end
end Go.Proofs
