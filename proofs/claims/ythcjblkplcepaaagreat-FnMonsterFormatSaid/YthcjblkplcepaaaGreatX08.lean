/- WHAT IS PROVED: the given statement of FnMonsterFormat, whatever the input: this is part 8 of 14. No conditions. -/
import Derived.Test.YthcjblkplcepaaaGreatX07
set_option linter.all false
namespace Go.Proofs
open Go Go.Vc
open Tryz (prog)
set_option maxRecDepth 100000
def s8 (e f:Value) (h:Qe) (R:Kn):Prop:=
 Y8 h (.cells (Value.cells e) 52) fun g i=>
 Y8 i (.cells (Value.cells f) 3) fun j l=>
 Y8 l (.cells z9 9) fun a m=>
 Qa prog 18 #[(.func (.func 19) #[] #[j,g,a])] m fun o b=>
 Zu prog (Op.unary .not o) fun p=>
 Zu prog (Op.unary .not p) fun q=>
 IfK q
 (StK b 1 a (.string ⟨#[]⟩) fun c=>
 LdK c a fun r=>
 R (.tuple #[r,(.bool false)]) c)
 (LdK b a fun s=>
 StK b 1 a s fun d=>
 LdK d a fun t=>
 R (.tuple #[t,(.bool true)]) d)
theorem w8 {a b h R} (H:s8 a b h R):FnS prog 8 #[a,b] h R:=wq Tryz.func8 (by kernel_rfl) H
def s17 (e:Value) (h:Qe) (R:Kn):Prop:=
 Y8 h (.cells (Value.cells e) 9) fun f g=>
 Y8 g (.cells z52 52) fun a i=>
 Qa prog 18 #[(.func (.func 55) #[] #[f,a])] i fun j b=>
 Zu prog (Op.unary .not j) fun l=>
 Zu prog (Op.unary .not l) fun m=>
 IfK m
 (Qu z52.toList [] fun o=>
 StK b 51 a o fun c=>
 LdN c 51 a fun p=>
 R (.tuple #[p,(.bool false)]) c)
 (LdN b 51 a fun q=>
 StK b 51 a q fun d=>
 LdN d 51 a fun r=>
 R (.tuple #[r,(.bool true)]) d)
theorem w17 {a h R} (H:s17 a h R):FnS prog 17 #[a] h R:=wq Tryz.func17 (by kernel_rfl) H
def s19 (d e f:Value) (h:Qe) (R:Kn):Prop:=
 LdK h d fun g=>
 Qa prog 20 #[g] h fun a b=>
 LdN b 51 e fun i=>
 Qa prog 22 #[i] b fun j l=>
 Qa prog 23 #[j,a] l fun m o=>
 Qa prog 21 #[a,m] o fun _x11 p=>
 Qa prog 24 #[a] p fun q c=>
 B2SK c q fun r=>
 StK c 1 f r fun s=>
 R (.tuple #[]) s
theorem w19 {a b c h R} (H:s19 a b c h R):FnS prog 19 #[a,b,c] h R:=wq Tryz.func19 (by kernel_rfl) H
def ob12 (a:Value) (b:Qe) (R:Kn):Prop:=
 R a b
def ob11 (e:Value) (c:Value) (l:Qe) (R:Kn):Prop:=
 QA (fun d=>
 Yu [(.int .i64 0)] l fun f g=>∀b:Value,∀a:Qe,f g [b] a->
 Qf e 49 fun m=>
 LdK a m fun o=>
 QbP o fun p=>
 Qj prog .lss 3 b p fun q=>
 IfK q
 (Q1 c fun r=>
 Qf r 43 fun s=>
 LdK a s fun t=>
 Qf e 49 fun u=>
 LdK a u fun v=>
 Zu prog (Instr.index 9 v b) fun w=>
 Q8 a 136 1 (YY z136.toList 1) [(0,1,w)] fun y i=>
 Qh a i<|
 Qbk i 136 1 1 z136 t y fun z a0=>
 Q1 c fun a1=>
 Qf a1 43 fun a2=>
 StK a0 1 a2 z fun a3=>
 Qj prog .add 3 b (.int .i64 1) fun a4=>
 QQ f g [a4] a3)
 (d [b] a)) fun d=>∀a5:Value,∀j:Qe,d [a5] j->
 ob12 c j R
def ob10 (b:Value) (d:Value) (a:Qe) (R:Kn):Prop:=
 QA (fun c=>
 Qf b 46 fun g=>
 Qf g 0 fun i=>
 LdK a i fun j=>
 Qj prog .neq 5 j (.int .u8 0) fun l=>
 IfK l
 (Qf b 46 fun m=>
 Qf m 0 fun o=>
 LdK a o fun p=>
 Qf b 46 fun q=>
 LdN a 3 q fun r=>
 Qa prog 73 #[r] a fun s e=>
 Qh a e<|
 Qu z177.toList [(0,1,p),(1,1,(.iface 75 s))] fun t=>
 Y8 e (.cells (Value.cells t) 177) fun u v=>
 Q1 d fun w=>
 Qf w 42 fun y=>
 StK v 1 y u fun z=>
 c [] z)
 (c [] a)) fun c=>∀f:Qe,c [] f->
 ob11 b d f R
def ob9 (b:Value) (d:Value) (a:Qe) (R:Kn):Prop:=
 QA (fun c=>
 Qf b 43 fun g=>
 Qf g 0 fun i=>
 LdK a i fun j=>
 Qj prog .neq 5 j (.int .u8 0) fun l=>
 IfK l
 (Qf b 43 fun m=>
 Qf m 0 fun o=>
 LdK a o fun p=>
 Qf b 43 fun q=>
 LdN a 3 q fun r=>
 Qa prog 72 #[r] a fun s e=>
 Qh a e<|
 Qu z173.toList [(0,1,p),(1,1,s)] fun t=>
 Y8 e (.cells (Value.cells t) 173) fun u v=>
 Q1 d fun w=>
 Qf w 41 fun y=>
 StK v 1 y u fun z=>
 c [] z)
 (c [] a)) fun c=>∀f:Qe,c [] f->
 ob10 b d f R
def ob8 (b:Value) (d:Value) (a:Qe) (R:Kn):Prop:=
 QA (fun c=>
 Qf b 6 fun g=>
 Qf g 0 fun i=>
 LdK a i fun j=>
 Qj prog .neq 5 j (.int .u8 0) fun l=>
 IfK l
 (Qf b 6 fun m=>
 Qf m 0 fun o=>
 LdK a o fun p=>
 Qf b 6 fun q=>
 LdN a 3 q fun r=>
 Qa prog 72 #[r] a fun s e=>
 Qh a e<|
 Qu z170.toList [(0,1,p),(1,1,s)] fun t=>
 Y8 e (.cells (Value.cells t) 170) fun u v=>
 Q1 d fun w=>
 Qf w 6 fun y=>
 StK v 1 y u fun z=>
 c [] z)
 (c [] a)) fun c=>∀f:Qe,c [] f->
 ob9 b d f R
def ob7 (c:Value) (d:Value) (b:Qe) (R:Kn):Prop:=
 QA (fun a=>
 Qf c 34 fun f=>
 LdK b f fun g=>
 IfK g
 (Qu z166.toList [] fun i=>
 Y8 b (.cells (Value.cells i) 166) fun j l=>
 Q1 d fun m=>
 Qf m 32 fun o=>
 StK l 1 o j fun p=>
 a [] p)
 (a [] b)) fun a=>∀e:Qe,a [] e->
 ob8 c d e R
def ob6B (b:Value) (d:Value) (e:Value) (a:Qe) (k:Qe->Prop):Prop:=
 Y2 1 d e fun f=>
 LdK a f fun g=>
 Q1 b fun i=>
 Qf i 31 fun j=>
 LdK a j fun l=>
 Qbv prog 71 #[g] fun m=>
 Q8 a 156 1 (YY z156.toList 1) [(0,1,m)] fun o c=>
 Qh a c<|
 Qbk c 156 1 8 z156 l o fun p q=>
 Q1 b fun r=>
 Qf r 31 fun s=>
 StK q 1 s p fun t=>
 k t
def ob6 (a:Value) (b:Value) (c:Qe) (R:Kn):Prop:=
 Qdv prog 3 a 33 c (ob6B b) fun d=>ob7 a b d R
def ob5B (d:Value) (g:Value) (i:Value) (e:Qe) (k:Qe->Prop):Prop:=
 Y2 2 g i fun j=>
 LdN e 2 j fun l=>
 Y8 e (.cells z102 102) fun b m=>
 StK m 2 b l fun a=>
 Q1 d fun o=>
 Qf o 27 fun p=>
 LdK a p fun q=>
 Qf b 0 fun r=>
 LdK a r fun s=>
 Qf b 1 fun t=>
 LdK a t fun u=>
 Qu z164.toList [(0,1,s),(1,1,u)] fun v=>
 Y8 a (.cells (Value.cells v) 164) fun w c=>
 Qh a c<|
 Q8 c 163 1 (YY z163.toList 1) [(0,1,w)] fun y f=>
 Qh c f<|
 Qbk f 163 1 8 z163 q y fun z a0=>
 Q1 d fun a1=>
 Qf a1 27 fun a2=>
 StK a0 1 a2 z fun a3=>
 k a3
def ob5 (a:Value) (b:Value) (c:Qe) (R:Kn):Prop:=
 Qdv prog 3 a 29 c (ob5B b) fun d=>ob6 a b d R
def ob4B (d:Value) (e:Value) (f:Value) (c:Qe) (k:Qe->Prop):Prop:=
 Y2 3 e f fun g=>
 LdN c 3 g fun i=>
 Y8 c (.cells z96 96) fun a j=>
 StK j 3 a i fun b=>
 Qf a 0 fun l=>
 LdK b l fun m=>
 Qf a 1 fun o=>
 LdK b o fun p=>
 Qf a 2 fun q=>
 LdK b q fun r=>
 Qu z162.toList [(0,1,m),(1,1,p),(2,1,r)] fun s=>
 Y8 b (.cells (Value.cells s) 162) fun t u=>
 Q1 d fun v=>
 Qf v 12 fun w=>
 StK u 1 w t fun y=>
 k y
def ob4 (a:Value) (b:Value) (c:Qe) (R:Kn):Prop:=
 Qdv prog 3 a 14 c (ob4B b) fun d=>ob5 a b d R
def ob3B (d:Value) (e:Value) (f:Value) (a:Qe) (k:Qe->Prop):Prop:=
 Y2 51 e f fun g=>
 LdN a 51 g fun i=>
 Y8 a (.cells z52 52) fun b j=>
 StK j 51 b i fun c=>
 LdN c 51 b fun l=>
 Qa prog 22 #[l] c fun m o=>
 Q1 d fun p=>
 Qf p 10 fun q=>
 StK o 1 q m fun r=>
 k r
def ob3 (a:Value) (b:Value) (c:Qe) (R:Kn):Prop:=
 Qdv prog 3 a 12 c (ob3B b) fun d=>ob4 a b d R
def ob2B (c:Value) (g:Value) (i:Value) (d:Qe) (k:Qe->Prop):Prop:=
 Y2 51 g i fun j=>
 LdN d 51 j fun l=>
 Y8 d (.cells z52 52) fun e m=>
 StK m 51 e l fun a=>
 Q1 c fun o=>
 Qf o 9 fun p=>
 LdK a p fun q=>
 LdN a 51 e fun r=>
 Qa prog 22 #[r] a fun s b=>
 Qh a b<|
 Q8 b 75 1 (YY z75.toList 1) [(0,1,s)] fun t f=>
 Qh b f<|
 Qbk f 75 1 8 z75 q t fun u v=>
 Q1 c fun w=>
 Qf w 9 fun y=>
 StK v 1 y u fun z=>
 k z
def ob2 (a:Value) (b:Value) (c:Qe) (R:Kn):Prop:=
 Qdv prog 3 a 11 c (ob2B b) fun d=>ob3 a b d R
def ob1B (e:Value) (f:Value) (g:Value) (c:Qe) (k:Qe->Prop):Prop:=
 Y2 7 f g fun i=>
 LdN c 7 i fun j=>
 Y8 c (.cells z85 85) fun b l=>
 StK l 7 b j fun a=>
 Qf b 0 fun m=>
 LdK a m fun o=>
 Qbv prog 67 #[o] fun p=>
 Qf b 1 fun q=>
 LdK a q fun r=>
 Qbv prog 67 #[r] fun s=>
 Qf b 2 fun t=>
 LdK a t fun u=>
 Qbv prog 67 #[u] fun v=>
 Qf b 3 fun w=>
 LdK a w fun y=>
 Qbv prog 71 #[y] fun z=>
 Qf b 4 fun a0=>
 LdK a a0 fun a1=>
 Qf b 5 fun a2=>
 LdK a a2 fun a3=>
 Qf b 6 fun a4=>
 LdK a a4 fun a5=>
 Qu z159.toList [(0,1,a3),(1,1,a5)] fun a6=>
 Y8 a (.cells (Value.cells a6) 159) fun a7 d=>
 Qh a d<|
 Qu z161.toList [(0,1,p),(1,1,s),(2,1,v),(3,1,z),(4,1,a1),(5,1,a7)] fun a8=>
 Y8 d (.cells (Value.cells a8) 161) fun a9 b0=>
 Q1 e fun b1=>
 Qf b1 0 fun b2=>
 StK b0 1 b2 a9 fun b3=>
 k b3
def ob1 (a:Value) (b:Value) (c:Qe) (R:Kn):Prop:=
 Qdv prog 3 a 0 c (ob1B b) fun d=>ob2 a b d R
def s22 (t:Value) (h:Qe) (R:Kn):Prop:=
 Y8 h (.cells (Value.cells t) 52) fun b a=>
 Qf b 1 fun u=>
 LdK a u fun v=>
 Qf b 2 fun w=>
 LdK a w fun y=>
 Qf b 3 fun z=>
 LdK a z fun a0=>
 Qf b 4 fun a1=>
 LdK a a1 fun a2=>
 Qf b 5 fun a3=>
 LdK a a3 fun a4=>
 Qf b 9 fun a5=>
 LdK a a5 fun a6=>
 Qf b 10 fun a7=>
 LdK a a7 fun a8=>
 Qf b 13 fun a9=>
 LdK a a9 fun b0=>
 Qf b 15 fun b1=>
 LdK a b1 fun b2=>
 Qf b 16 fun b3=>
 LdK a b3 fun b4=>
 Qf b 17 fun b5=>
 LdK a b5 fun b6=>
 Qf b 18 fun b7=>
 LdK a b7 fun b8=>
 Qf b 19 fun b9=>
 LdK a b9 fun c0=>
 Qf b 20 fun c1=>
 LdK a c1 fun c2=>
 Qf b 21 fun c3=>
 LdK a c3 fun c4=>
 Qf b 22 fun c5=>
 LdK a c5 fun c6=>
 Qf b 23 fun c7=>
 LdK a c7 fun c8=>
 Qf b 24 fun c9=>
 LdK a c9 fun d0=>
 Qf b 25 fun d1=>
 LdK a d1 fun d2=>
 Qf b 26 fun d3=>
 LdK a d3 fun d4=>
 Qf b 27 fun d5=>
 LdK a d5 fun d6=>
 Qf b 28 fun d7=>
 LdK a d7 fun d8=>
 Qf b 30 fun d9=>
 LdK a d9 fun e0=>
 Qf b 31 fun e1=>
 LdK a e1 fun e2=>
 Qf b 32 fun e3=>
 LdK a e3 fun e4=>
 Qf b 35 fun e5=>
 LdK a e5 fun e6=>
 Qf b 36 fun e7=>
 LdK a e7 fun e8=>
 Qf b 37 fun e9=>
 LdK a e9 fun f0=>
 Qf b 38 fun f1=>
 LdK a f1 fun f2=>
 Qf b 39 fun f3=>
 LdK a f3 fun f4=>
 Qf b 40 fun f5=>
 LdK a f5 fun f6=>
 Qf b 41 fun f7=>
 LdK a f7 fun f8=>
 Qf b 42 fun f9=>
 LdK a f9 fun g0=>
 Qf b 50 fun g1=>
 LdK a g1 fun g2=>
 Qa prog 63 #[a2] a fun g3 c=>
 Qh a c<|
 Qa prog 64 #[a6] c fun g4 d=>
 Qh c d<|
 Qa prog 65 #[a8] d fun g5 e=>
 Qh d e<|
 Qa prog 63 #[b0] e fun g6 f=>
 Qh e f<|
 Qa prog 66 #[d0] f fun g7 g=>
 Qh f g<|
 Qbv prog 67 #[d2] fun g8=>
 Qbv prog 67 #[d4] fun g9=>
 Qbv prog 67 #[d6] fun i0=>
 Qa prog 65 #[d8] g fun i1 i=>
 Qh g i<|
 Qa prog 63 #[e0] i fun i2 j=>
 Qh i j<|
 Qa prog 64 #[e2] j fun i3 l=>
 Qh j l<|
 Qa prog 68 #[e4] l fun i4 m=>
 Qh l m<|
 Qa prog 69 #[e6] m fun i5 o=>
 Qh m o<|
 Qa prog 70 #[f0] o fun i6 p=>
 Qh o p<|
 Qa prog 69 #[f2] p fun i7 q=>
 Qh p q<|
 Qa prog 70 #[f6] q fun i8 r=>
 Qh q r<|
 Qa prog 70 #[g0] r fun i9 s=>
 Qh r s<|
 Qu z155.toList [(1,1,v),(2,1,y),(3,1,a0),(4,1,g3),(5,1,a4),(7,1,g4),(8,1,g5),(11,1,g6),(13,1,b2),(14,1,b4),(15,1,b6),(16,1,b8),(17,1,c0),(18,1,c2),(19,1,c4),(20,1,c6),(21,1,c8),(22,1,g7),(23,1,g8),(24,1,g9),(25,1,i0),(26,1,i1),(28,1,i2),(29,1,i3),(30,1,i4),(33,1,i5),(34,1,e8),(35,1,i6),(36,1,i7),(37,1,f4),(38,1,i8),(39,1,f8),(40,1,i9),(44,1,g2)] fun j0=>
 Y8 s (.cells (Value.cells j0) 155) fun j1 j2=>
 ob1 b j1 j2 R
theorem w22 {a h R} (H:s22 a h R):FnS prog 22 #[a] h R:=wq Tryz.func22 (by kernel_rfl) H
def s55 (a b:Value) (h:Qe) (R:Kn):Prop:=
 LdK h a fun c=>
 Qa prog 58 #[c] h fun d e=>
 Qa prog 57 #[d,(.int .u32 0)] e fun f g=>
 Qa prog 56 #[f] g fun i j=>
 StK j 51 b i fun l=>
 R (.tuple #[]) l
theorem w55 {a b h R} (H:s55 a b h R):FnS prog 55 #[a,b] h R:=wq Tryz.func55 (by kernel_rfl) H
def rm24 (d:Value) (a:Value) (b:Qe) (R:Kn):Prop:=
 LdN b 51 d fun e=>
 StK b 51 a e fun c=>
 LdN c 51 a fun f=>
 R f c
def rm23B (d:Value) (e:Value) (f:Value) (a:Qe) (k:Qe->Prop):Prop:=
 Qf d 49 fun g=>
 LdK a g fun i=>
 Qa prog 245 #[e,f] a fun j b=>
 Qh a b<|
 Q8 b 5 1 (YY z5.toList 1) [(0,1,j)] fun l c=>
 Qh b c<|
 B2SK c l fun m=>
 Qj prog .add 9 i m fun o=>
 Qf d 49 fun p=>
 StK c 1 p o fun q=>
 k q
def rm23 (a:Value) (b:Value) (c:Value) (d:Qe) (R:Kn):Prop:=
 ZQ prog 3 244 a (rm23B b a) d fun e=>rm24 b c e R
def rm22 (c:Value) (d:Value) (g:Value) (p:Value) (q:Qe) (R:Kn):Prop:=
 QA (fun a=>
 Qa prog 241 #[c] q fun b r=>
 Qa prog 242 #[c,d] r fun e i=>
 Qd e true (fun s=>s b i) i fun t j=>
 Qd e true (fun u=>Qj prog .neq 5 t (.int .u8 0) fun v=>u v j) j fun w l=>
 Yh e w (.bool false) fun y=>
 IfK y
 (Y8 l (.cells z235 235) fun m f=>
 Qf d 0 fun z=>
 LdK f z fun a0=>
 Qf d 1 fun a1=>
 LdK f a1 fun a2=>
 Qa prog 243 #[m,a0,a2] f fun _x417 a3=>
 Qa prog 56 #[m] a3 fun a4 a5=>
 Q8 a5 52 1 (YY z52.toList 1) [(0,51,a4)] fun a6 a7=>
 Qu z47.toList [(0,1,b),(1,1,a6)] fun a8=>
 Qf g 46 fun a9=>
 StK a7 3 a9 a8 fun b0=>
 a [b] b0)
 (a [b] l)) fun a=>∀b1:Value,∀o:Qe,a [b1] o->
 rm23 c g p o R
def rm21 (a:Value) (c:Value) (i:Value) (j:Qe) (R:Kn):Prop:=
 Y8 j (.cells z227 227) fun b l=>
 Qa prog 236 #[a,b] l fun m d=>
 LdN d 2 b fun o=>
 Qa prog 238 #[a] d fun p f=>
 Qh d f<|
 Qa prog 237 #[p,m,o] f fun q r=>
 Qf c 6 fun s=>
 StK r 3 s q fun t=>
 Qa prog 239 #[a,b] t fun u e=>
 LdN e 2 b fun v=>
 Qa prog 240 #[a] e fun w g=>
 Qh e g<|
 Qa prog 237 #[w,u,v] g fun y z=>
 Qf c 43 fun a0=>
 StK z 3 a0 y fun a1=>
 rm22 a b c i a1 R
def rm20B (c:Value) (e:Value) (f:Value) (a:Qe) (k:Qe->Prop):Prop:=
 Qf c 42 fun g=>
 LdK a g fun i=>
 Qa prog 235 #[e,f] a fun j b=>
 Qh a b<|
 Q8 b 31 1 (YY z31.toList 1) [(0,1,j)] fun l d=>
 Qh b d<|
 Qbk d 31 1 8 z31 i l fun m o=>
 Qf c 42 fun p=>
 StK o 1 p m fun q=>
 k q
def rm20 (a:Value) (b:Value) (c:Value) (d:Qe) (R:Kn):Prop:=
 ZQ prog 3 234 a (rm20B b a) d fun e=>rm21 a b c e R
def rm19B (c:Value) (e:Value) (f:Value) (a:Qe) (k:Qe->Prop):Prop:=
 Qf c 40 fun g=>
 LdK a g fun i=>
 Qa prog 233 #[e,f] a fun j b=>
 Qh a b<|
 Q8 b 31 1 (YY z31.toList 1) [(0,1,j)] fun l d=>
 Qh b d<|
 Qbk d 31 1 8 z31 i l fun m o=>
 Qf c 40 fun p=>
 StK o 1 p m fun q=>
 k q
def rm19 (a:Value) (b:Value) (c:Value) (d:Qe) (R:Kn):Prop:=
 ZQ prog 3 232 a (rm19B b a) d fun e=>rm20 a b c e R
def rm18B (f:Value) (c:Value) (g:Value) (i:Qe) (k:Qe->Prop):Prop:=
 Y8 i (.cells z246 246) fun d j=>
 Qa prog 231 #[f,d,g] j fun _x354 a=>
 Qf c 38 fun l=>
 LdK a l fun m=>
 Qa prog 227 #[d] a fun o b=>
 Qh a b<|
 Q8 b 31 1 (YY z31.toList 1) [(0,1,o)] fun p e=>
 Qh b e<|
 Qbk e 31 1 8 z31 m p fun q r=>
 Qf c 38 fun s=>
 StK r 1 s q fun t=>
 k t
def rm18 (a:Value) (b:Value) (c:Value) (d:Qe) (R:Kn):Prop:=
 ZQ prog 3 230 a (rm18B a b) d fun e=>rm19 a b c e R
def rm17B (c:Value) (e:Value) (f:Value) (a:Qe) (k:Qe->Prop):Prop:=
 Qf c 37 fun g=>
 LdK a g fun i=>
 Qa prog 229 #[e,f] a fun j b=>
 Qh a b<|
 Q8 b 31 1 (YY z31.toList 1) [(0,1,j)] fun l d=>
 Qh b d<|
 Qbk d 31 1 8 z31 i l fun m o=>
 Qf c 37 fun p=>
 StK o 1 p m fun q=>
 k q
def rm17 (a:Value) (b:Value) (c:Value) (d:Qe) (R:Kn):Prop:=
 ZQ prog 3 228 a (rm17B b a) d fun e=>rm18 a b c e R
def rm16B (f:Value) (c:Value) (g:Value) (i:Qe) (k:Qe->Prop):Prop:=
 Y8 i (.cells z246 246) fun d j=>
 Qa prog 226 #[f,d,g] j fun _x325 a=>
 Qf c 35 fun l=>
 LdK a l fun m=>
 Qa prog 227 #[d] a fun o b=>
 Qh a b<|
 Q8 b 31 1 (YY z31.toList 1) [(0,1,o)] fun p e=>
 Qh b e<|
 Qbk e 31 1 8 z31 m p fun q r=>
 Qf c 35 fun s=>
 StK r 1 s q fun t=>
 k t
def rm16 (a:Value) (b:Value) (c:Value) (d:Qe) (R:Kn):Prop:=
 ZQ prog 3 225 a (rm16B a b) d fun e=>rm17 a b c e R
def rm15B (c:Value) (e:Value) (f:Value) (a:Qe) (k:Qe->Prop):Prop:=
 Qf c 33 fun g=>
 LdK a g fun i=>
 Qa prog 224 #[e,f] a fun j b=>
 Qh a b<|
 Qbv prog 189 #[j] fun l=>
 Q8 b 31 1 (YY z31.toList 1) [(0,1,l)] fun m d=>
 Qh b d<|
 Qbk d 31 1 8 z31 i m fun o p=>
 Qf c 33 fun q=>
 StK p 1 q o fun r=>
 k r
def rm15 (a:Value) (b:Value) (c:Value) (d:Qe) (R:Kn):Prop:=
 ZQ prog 3 223 a (rm15B b a) d fun e=>rm16 a b c e R
def rm14B (c:Value) (e:Value) (f:Value) (a:Qe) (k:Qe->Prop):Prop:=
 Qf c 32 fun g=>
 LdK a g fun i=>
 Qa prog 222 #[e,f] a fun j b=>
 Qh a b<|
 Q8 b 2 1 (YY z2.toList 1) [(0,1,j)] fun l d=>
 Qh b d<|
 Qbk d 2 1 8 z2 i l fun m o=>
 Qf c 32 fun p=>
 StK o 1 p m fun q=>
 k q
def rm14 (a:Value) (b:Value) (c:Value) (d:Qe) (R:Kn):Prop:=
 ZQ prog 3 221 a (rm14B b a) d fun e=>rm15 a b c e R
def rm13B (g:Value) (e:Value) (i:Value) (j:Qe) (k:Qe->Prop):Prop:=
 Y8 j (.cells z231 231) fun a l=>
 Qa prog 220 #[g,a,i] l fun _x279 b=>
 Qf e 31 fun m=>
 LdK b m fun o=>
 Qa prog 192 #[a] b fun p c=>
 Qh b c<|
 Qa prog 193 #[a] c fun q d=>
 Qh c d<|
 Qu z90.toList [(0,1,p),(1,1,q)] fun r=>
 Q8 d 90 1 (YY z90.toList 1) [(0,2,r)] fun s f=>
 Qh d f<|
 Qbk f 90 2 4 z90 o s fun t u=>
 Qf e 31 fun v=>
 StK u 1 v t fun w=>
 k w
def rm13 (a:Value) (b:Value) (c:Value) (d:Qe) (R:Kn):Prop:=
 ZQ prog 3 219 a (rm13B a b) d fun e=>rm14 a b c e R
def rm12B (d:Value) (e:Value) (f:Value) (a:Qe) (k:Qe->Prop):Prop:=
 Qf d 30 fun g=>
 LdK a g fun i=>
 Qa prog 218 #[e,f] a fun j b=>
 Qh a b<|
 Q8 b 5 1 (YY z5.toList 1) [(0,1,j)] fun l c=>
 Qh b c<|
 B2SK c l fun m=>
 Qj prog .add 9 i m fun o=>
 Qf d 30 fun p=>
 StK c 1 p o fun q=>
 k q
def rm12 (a:Value) (b:Value) (c:Value) (d:Qe) (R:Kn):Prop:=
 ZQ prog 3 217 a (rm12B b a) d fun e=>rm13 a b c e R
def rm11B (g:Value) (e:Value) (i:Value) (j:Qe) (k:Qe->Prop):Prop:=
 Y8 j (.cells z241 241) fun a l=>
 Qa prog 214 #[g,a,i] l fun _x247 b=>
 Qf e 29 fun m=>
 LdK b m fun o=>
 Qa prog 215 #[a] b fun p c=>
 Qh b c<|
 Qa prog 216 #[a] c fun q d=>
 Qh c d<|
 Qu z102.toList [(0,1,p),(1,1,q)] fun r=>
 Q8 d 102 1 (YY z102.toList 1) [(0,2,r)] fun s f=>
 Qh d f<|
 Qbk f 102 2 8 z102 o s fun t u=>
 Qf e 29 fun v=>
 StK u 1 v t fun w=>
 k w
def rm11 (a:Value) (b:Value) (c:Value) (d:Qe) (R:Kn):Prop:=
 ZQ prog 3 213 a (rm11B a b) d fun e=>rm12 a b c e R
def rm10B (c:Value) (e:Value) (f:Value) (b:Qe) (k:Qe->Prop):Prop:=
 Qf c 28 fun g=>
 LdK b g fun i=>
 Qa prog 212 #[e,f] b fun j a=>
 Qh b a<|
 B2SK a j fun l=>
 Q8 a 9 1 (YY z9.toList 1) [(0,1,l)] fun m d=>
 Qh a d<|
 Qbk d 9 1 16 z9 i m fun o p=>
 Qf c 28 fun q=>
 StK p 1 q o fun r=>
 k r
def rm10 (a:Value) (b:Value) (c:Value) (d:Qe) (R:Kn):Prop:=
 ZQ prog 3 211 a (rm10B b a) d fun e=>rm11 a b c e R
def rm9B (c:Value) (e:Value) (f:Value) (a:Qe) (k:Qe->Prop):Prop:=
 Qf c 24 fun g=>
 LdK a g fun i=>
 Qa prog 210 #[e,f] a fun j b=>
 Qh a b<|
 Q8 b 4 1 (YY z4.toList 1) [(0,1,j)] fun l d=>
 Qh b d<|
 Qbk d 4 1 1 z4 i l fun m o=>
 Qf c 24 fun p=>
 StK o 1 p m fun q=>
 k q
def rm9 (a:Value) (b:Value) (c:Value) (d:Qe) (R:Kn):Prop:=
 ZQ prog 3 209 a (rm9B b a) d fun e=>rm10 a b c e R
def rm8 (e:Value) (f:Value) (l:Value) (m:Qe) (R:Kn):Prop:=
 QA (fun b=>
 Qa prog 205 #[e,(.pointer none)] m fun a g=>
 Qj prog .neq 238 a (.pointer none) fun o=>
 IfK o
 (Qa prog 206 #[a] g fun p c=>
 B2SK c p fun q=>
 Qa prog 207 #[a] c fun r d=>
 Qh c d<|
 Qa prog 208 #[a] d fun s i=>
 Qh d i<|
 Qu z96.toList [(0,1,q),(1,1,r),(2,1,s)] fun t=>
 Q8 i 96 1 (YY z96.toList 1) [(0,3,t)] fun u v=>
 Qf f 14 fun w=>
 StK v 1 w u fun y=>
 b [a] y)
 (b [a] g)) fun b=>∀z:Value,∀j:Qe,b [z] j->
 rm9 e f l j R
def rm7B (d:Value) (e:Value) (f:Value) (a:Qe) (k:Qe->Prop):Prop:=
 Qf d 13 fun g=>
 LdK a g fun i=>
 Qa prog 204 #[e,f] a fun j b=>
 Qh a b<|
 Q8 b 5 1 (YY z5.toList 1) [(0,1,j)] fun l c=>
 Qh b c<|
 B2SK c l fun m=>
 Qj prog .add 9 i m fun o=>
 Qf d 13 fun p=>
 StK c 1 p o fun q=>
 k q
def rm7 (a:Value) (b:Value) (c:Value) (d:Qe) (R:Kn):Prop:=
 ZQ prog 3 203 a (rm7B b a) d fun e=>rm8 a b c e R
def rm6 (c:Value) (d:Value) (g:Value) (i:Qe) (R:Kn):Prop:=
 QA (fun a=>
 Qa prog 202 #[c,(.pointer none)] i fun b e=>
 Qj prog .neq 128 b (.pointer none) fun j=>
 IfK j
 (Qa prog 56 #[b] e fun l m=>
 Q8 m 52 1 (YY z52.toList 1) [(0,51,l)] fun o p=>
 Qf d 12 fun q=>
 StK p 1 q o fun r=>
 a [b] r)
 (a [b] e)) fun a=>∀s:Value,∀f:Qe,a [s] f->
 rm7 c d g f R
def rm5B (f:Value) (c:Value) (g:Value) (i:Qe) (k:Qe->Prop):Prop:=
 Y8 i (.cells z235 235) fun d j=>
 Qa prog 201 #[f,d,g] j fun _x166 a=>
 Qf c 11 fun l=>
 LdK a l fun m=>
 Qa prog 56 #[d] a fun o b=>
 Qh a b<|
 Q8 b 52 1 (YY z52.toList 1) [(0,51,o)] fun p e=>
 Qh b e<|
 Qbk e 52 51 736 z52 m p fun q r=>
 Qf c 11 fun s=>
 StK r 1 s q fun t=>
 k t
def rm5 (a:Value) (b:Value) (c:Value) (d:Qe) (R:Kn):Prop:=
 ZQ prog 3 200 a (rm5B a b) d fun e=>rm6 a b c e R
def rm4B (c:Value) (e:Value) (f:Value) (b:Qe) (k:Qe->Prop):Prop:=
 Qf c 10 fun g=>
 LdK b g fun i=>
 Qa prog 199 #[e,f] b fun j a=>
 Qh b a<|
 B2SK a j fun l=>
 Q8 a 9 1 (YY z9.toList 1) [(0,1,l)] fun m d=>
 Qh a d<|
 Qbk d 9 1 16 z9 i m fun o p=>
 Qf c 10 fun q=>
 StK p 1 q o fun r=>
 k r
def rm4 (a:Value) (b:Value) (c:Value) (d:Qe) (R:Kn):Prop:=
 ZQ prog 3 198 a (rm4B b a) d fun e=>rm5 a b c e R
def rm3B (g:Value) (e:Value) (i:Value) (j:Qe) (k:Qe->Prop):Prop:=
 Y8 j (.cells z231 231) fun a l=>
 Qa prog 197 #[g,a,i] l fun _x134 b=>
 Qf e 9 fun m=>
 LdK b m fun o=>
 Qa prog 192 #[a] b fun p c=>
 Qh b c<|
 Qa prog 193 #[a] c fun q d=>
 Qh c d<|
 Qu z90.toList [(0,1,p),(1,1,q)] fun r=>
 Q8 d 90 1 (YY z90.toList 1) [(0,2,r)] fun s f=>
 Qh d f<|
 Qbk f 90 2 4 z90 o s fun t u=>
 Qf e 9 fun v=>
 StK u 1 v t fun w=>
 k w
def rm3 (a:Value) (b:Value) (c:Value) (d:Qe) (R:Kn):Prop:=
 ZQ prog 3 196 a (rm3B a b) d fun e=>rm4 a b c e R
def rm2B (d:Value) (e:Value) (f:Value) (a:Qe) (k:Qe->Prop):Prop:=
 Qf d 4 fun g=>
 LdK a g fun i=>
 Qa prog 195 #[e,f] a fun j b=>
 Qh a b<|
 Q8 b 5 1 (YY z5.toList 1) [(0,1,j)] fun l c=>
 Qh b c<|
 B2SK c l fun m=>
 Qj prog .add 9 i m fun o=>
 Qf d 4 fun p=>
 StK c 1 p o fun q=>
 k q
def rm2 (a:Value) (b:Value) (c:Value) (d:Qe) (R:Kn):Prop:=
 ZQ prog 3 194 a (rm2B b a) d fun e=>rm3 a b c e R
def rm1 (c:Value) (d:Value) (i:Value) (j:Qe) (R:Kn):Prop:=
 QA (fun b=>
 Qa prog 184 #[c,(.pointer none)] j fun a e=>
 Qj prog .neq 217 a (.pointer none) fun l=>
 IfK l
 (Qa prog 185 #[a,(.pointer none)] e fun f m=>
 Qa prog 186 #[a] m fun o p=>
 Qbv prog 175 #[o] fun q=>
 Qa prog 187 #[a] p fun r s=>
 Qbv prog 175 #[r] fun t=>
 Qa prog 188 #[a] s fun u v=>
 Qbv prog 175 #[u] fun w=>
 Qa prog 190 #[a] v fun y z=>
 Qbv prog 189 #[y] fun a0=>
 Qa prog 191 #[a] z fun a1 a2=>
 Qa prog 192 #[f] a2 fun a3 a4=>
 Qa prog 193 #[f] a4 fun a5 a6=>
 Qu z85.toList [(0,1,q),(1,1,t),(2,1,w),(3,1,a0),(4,1,a1),(5,1,a3),(6,1,a5)] fun a7=>
 Q8 a6 85 1 (YY z85.toList 1) [(0,7,a7)] fun a8 a9=>
 Qf d 0 fun b0=>
 StK a9 1 b0 a8 fun b1=>
 b [a] b1)
 (b [a] e)) fun b=>∀b2:Value,∀g:Qe,b [b2] g->
 rm2 c d i g R
def s56 (a:Value) (h:Qe) (R:Kn):Prop:=
 Y8 h (.cells z52 52) fun a73 a23=>
 QA (fun b=>
 (Qa prog 162 #[a] a23 fun c a24=>
 (Qa prog 163 #[a] a24 fun d a25=>
 (Qa prog 164 #[a] a25 fun a74 v=>
 B2SK v a74 fun e=>
 (Qa prog 165 #[a] v fun f w=>
 Qh v w<|
 (Qa prog 166 #[a] w fun g y=>
 Qh w y<|
 (Qa prog 167 #[a] y fun i z=>
 Qh y z<|
 (Qa prog 168 #[a] z fun j a0=>
 Qh z a0<|
 (Qa prog 169 #[a] a0 fun l a1=>
 Qh a0 a1<|
 (Qa prog 170 #[a] a1 fun m a2=>
 Qh a1 a2<|
 (Qa prog 171 #[a] a2 fun o a3=>
 Qh a2 a3<|
 (Qa prog 172 #[a] a3 fun p a4=>
 Qh a3 a4<|
 (Qa prog 173 #[a] a4 fun q a5=>
 Qh a4 a5<|
 (Qa prog 174 #[a] a5 fun r a6=>
 Qh a5 a6<|
 (Qa prog 176 #[a] a6 fun a75 a7=>
 Qh a6 a7<|
 Qbv prog 175 #[a75] fun s=>
 (Qa prog 177 #[a] a7 fun a76 a8=>
 Qh a7 a8<|
 Qbv prog 175 #[a76] fun t=>
 (Qa prog 178 #[a] a8 fun a77 a9=>
 Qh a8 a9<|
 Qbv prog 175 #[a77] fun u=>
 (Qa prog 179 #[a,(.pointer none)] a9 fun a78 b0=>
 Qh a9 b0<|
 Qj prog .neq 214 a78 (.pointer none) fun b1=>
 (Qa prog 180 #[a] b0 fun b5 b2=>
 Qh b0 b2<|
 (Qa prog 181 #[a] b2 fun b6 b3=>
 Qh b2 b3<|
 (Qa prog 182 #[a] b3 fun a26 b4=>
 Qh b3 b4<|
 (Qa prog 183 #[a] b4 fun a79 b7=>
 Qh b4 b7<|
 Qu z52.toList [(1,1,c),(2,1,d),(3,1,e),(5,1,f),(15,1,g),(16,1,i),(17,1,j),(18,1,l),(19,1,m),(20,1,o),(21,1,p),(22,1,q),(23,1,r),(25,1,s),(26,1,t),(27,1,u),(34,1,b1),(36,1,b5),(39,1,b6),(41,1,a26),(50,1,a79)] fun a80=>
 Y8 b7 (.cells z52 52) fun a27 a28=>
 Qh b7 a28<|
 StK a28 51 a27 a80 fun a81=>
 b [a27] a81)/\
 (Y8 b4 (.cells z52 52) fun a29 b8=>
 Qh b4 b8<|
 Qa prog 183 #[a] b8 fun a82 a30=>
 Qh b8 a30<|
 Qu z52.toList [(1,1,c),(2,1,d),(3,1,e),(5,1,f),(15,1,g),(16,1,i),(17,1,j),(18,1,l),(19,1,m),(20,1,o),(21,1,p),(22,1,q),(23,1,r),(25,1,s),(26,1,t),(27,1,u),(34,1,b1),(36,1,b5),(39,1,b6),(41,1,a26),(50,1,a82)] fun a83=>
 StK a30 51 a29 a83 fun a84=>
 b [a29] a84))/\
 (Y8 b3 (.cells z52 52) fun a31 b9=>
 Qh b3 b9<|
 Qa prog 182 #[a] b9 fun a85 c0=>
 Qh b9 c0<|
 Qa prog 183 #[a] c0 fun a86 a32=>
 Qh c0 a32<|
 Qu z52.toList [(1,1,c),(2,1,d),(3,1,e),(5,1,f),(15,1,g),(16,1,i),(17,1,j),(18,1,l),(19,1,m),(20,1,o),(21,1,p),(22,1,q),(23,1,r),(25,1,s),(26,1,t),(27,1,u),(34,1,b1),(36,1,b5),(39,1,b6),(41,1,a85),(50,1,a86)] fun a87=>
 StK a32 51 a31 a87 fun a88=>
 b [a31] a88))/\
 (Y8 b2 (.cells z52 52) fun a33 c1=>
 Qh b2 c1<|
 Qa prog 181 #[a] c1 fun a89 c2=>
 Qh c1 c2<|
 Qa prog 182 #[a] c2 fun a90 c3=>
 Qh c2 c3<|
 Qa prog 183 #[a] c3 fun a91 a34=>
 Qh c3 a34<|
 Qu z52.toList [(1,1,c),(2,1,d),(3,1,e),(5,1,f),(15,1,g),(16,1,i),(17,1,j),(18,1,l),(19,1,m),(20,1,o),(21,1,p),(22,1,q),(23,1,r),(25,1,s),(26,1,t),(27,1,u),(34,1,b1),(36,1,b5),(39,1,a89),(41,1,a90),(50,1,a91)] fun a92=>
 StK a34 51 a33 a92 fun a93=>
 b [a33] a93))/\
 (Y8 b0 (.cells z52 52) fun a35 c4=>
 Qh b0 c4<|
 Qa prog 180 #[a] c4 fun a94 c5=>
 Qh c4 c5<|
 Qa prog 181 #[a] c5 fun a95 c6=>
 Qh c5 c6<|
 Qa prog 182 #[a] c6 fun a96 c7=>
 Qh c6 c7<|
 Qa prog 183 #[a] c7 fun a97 a36=>
 Qh c7 a36<|
 Qu z52.toList [(1,1,c),(2,1,d),(3,1,e),(5,1,f),(15,1,g),(16,1,i),(17,1,j),(18,1,l),(19,1,m),(20,1,o),(21,1,p),(22,1,q),(23,1,r),(25,1,s),(26,1,t),(27,1,u),(34,1,b1),(36,1,a94),(39,1,a95),(41,1,a96),(50,1,a97)] fun a98=>
 StK a36 51 a35 a98 fun a99=>
 b [a35] a99))/\
 (Y8 a9 (.cells z52 52) fun a37 c8=>
 Qh a9 c8<|
 Qa prog 179 #[a,(.pointer none)] c8 fun b00 c9=>
 Qh c8 c9<|
 Qj prog .neq 214 b00 (.pointer none) fun b01=>
 Qa prog 180 #[a] c9 fun b02 d0=>
 Qh c9 d0<|
 Qa prog 181 #[a] d0 fun b03 d1=>
 Qh d0 d1<|
 Qa prog 182 #[a] d1 fun b04 d2=>
 Qh d1 d2<|
 Qa prog 183 #[a] d2 fun b05 a38=>
 Qh d2 a38<|
 Qu z52.toList [(1,1,c),(2,1,d),(3,1,e),(5,1,f),(15,1,g),(16,1,i),(17,1,j),(18,1,l),(19,1,m),(20,1,o),(21,1,p),(22,1,q),(23,1,r),(25,1,s),(26,1,t),(27,1,u),(34,1,b01),(36,1,b02),(39,1,b03),(41,1,b04),(50,1,b05)] fun b06=>
 StK a38 51 a37 b06 fun b07=>
 b [a37] b07))/\
 (Y8 a8 (.cells z52 52) fun a39 d3=>
 Qh a8 d3<|
 Qa prog 178 #[a] d3 fun b08 d4=>
 Qh d3 d4<|
 Qbv prog 175 #[b08] fun b09=>
 Qa prog 179 #[a,(.pointer none)] d4 fun b10 d5=>
 Qh d4 d5<|
 Qj prog .neq 214 b10 (.pointer none) fun b11=>
 Qa prog 180 #[a] d5 fun b12 d6=>
 Qh d5 d6<|
 Qa prog 181 #[a] d6 fun b13 d7=>
 Qh d6 d7<|
 Qa prog 182 #[a] d7 fun b14 d8=>
 Qh d7 d8<|
 Qa prog 183 #[a] d8 fun b15 a40=>
 Qh d8 a40<|
 Qu z52.toList [(1,1,c),(2,1,d),(3,1,e),(5,1,f),(15,1,g),(16,1,i),(17,1,j),(18,1,l),(19,1,m),(20,1,o),(21,1,p),(22,1,q),(23,1,r),(25,1,s),(26,1,t),(27,1,b09),(34,1,b11),(36,1,b12),(39,1,b13),(41,1,b14),(50,1,b15)] fun b16=>
 StK a40 51 a39 b16 fun b17=>
 b [a39] b17))/\
 (Y8 a7 (.cells z52 52) fun a41 d9=>
 Qh a7 d9<|
 Qa prog 177 #[a] d9 fun b18 e0=>
 Qh d9 e0<|
 Qbv prog 175 #[b18] fun b19=>
 Qa prog 178 #[a] e0 fun b20 e1=>
 Qh e0 e1<|
 Qbv prog 175 #[b20] fun b21=>
 Qa prog 179 #[a,(.pointer none)] e1 fun b22 e2=>
 Qh e1 e2<|
 Qj prog .neq 214 b22 (.pointer none) fun b23=>
 Qa prog 180 #[a] e2 fun b24 e3=>
 Qh e2 e3<|
 Qa prog 181 #[a] e3 fun b25 e4=>
 Qh e3 e4<|
 Qa prog 182 #[a] e4 fun b26 e5=>
 Qh e4 e5<|
 Qa prog 183 #[a] e5 fun b27 a42=>
 Qh e5 a42<|
 Qu z52.toList [(1,1,c),(2,1,d),(3,1,e),(5,1,f),(15,1,g),(16,1,i),(17,1,j),(18,1,l),(19,1,m),(20,1,o),(21,1,p),(22,1,q),(23,1,r),(25,1,s),(26,1,b19),(27,1,b21),(34,1,b23),(36,1,b24),(39,1,b25),(41,1,b26),(50,1,b27)] fun b28=>
 StK a42 51 a41 b28 fun b29=>
 b [a41] b29))/\
 (Y8 a6 (.cells z52 52) fun a43 e6=>
 Qh a6 e6<|
 Qa prog 176 #[a] e6 fun b30 e7=>
 Qh e6 e7<|
 Qbv prog 175 #[b30] fun b31=>
 Qa prog 177 #[a] e7 fun b32 e8=>
 Qh e7 e8<|
 Qbv prog 175 #[b32] fun b33=>
 Qa prog 178 #[a] e8 fun b34 e9=>
 Qh e8 e9<|
 Qbv prog 175 #[b34] fun b35=>
 Qa prog 179 #[a,(.pointer none)] e9 fun b36 f0=>
 Qh e9 f0<|
 Qj prog .neq 214 b36 (.pointer none) fun b37=>
 Qa prog 180 #[a] f0 fun b38 f1=>
 Qh f0 f1<|
 Qa prog 181 #[a] f1 fun b39 f2=>
 Qh f1 f2<|
 Qa prog 182 #[a] f2 fun b40 f3=>
 Qh f2 f3<|
 Qa prog 183 #[a] f3 fun b41 a44=>
 Qh f3 a44<|
 Qu z52.toList [(1,1,c),(2,1,d),(3,1,e),(5,1,f),(15,1,g),(16,1,i),(17,1,j),(18,1,l),(19,1,m),(20,1,o),(21,1,p),(22,1,q),(23,1,r),(25,1,b31),(26,1,b33),(27,1,b35),(34,1,b37),(36,1,b38),(39,1,b39),(41,1,b40),(50,1,b41)] fun b42=>
 StK a44 51 a43 b42 fun b43=>
 b [a43] b43))/\
 (Y8 a5 (.cells z52 52) fun a45 f4=>
 Qh a5 f4<|
 Qa prog 174 #[a] f4 fun b44 f5=>
 Qh f4 f5<|
 Qa prog 176 #[a] f5 fun b45 f6=>
 Qh f5 f6<|
 Qbv prog 175 #[b45] fun b46=>
 Qa prog 177 #[a] f6 fun b47 f7=>
 Qh f6 f7<|
 Qbv prog 175 #[b47] fun b48=>
 Qa prog 178 #[a] f7 fun b49 f8=>
 Qh f7 f8<|
 Qbv prog 175 #[b49] fun b50=>
 Qa prog 179 #[a,(.pointer none)] f8 fun b51 f9=>
 Qh f8 f9<|
 Qj prog .neq 214 b51 (.pointer none) fun b52=>
 Qa prog 180 #[a] f9 fun b53 g0=>
 Qh f9 g0<|
 Qa prog 181 #[a] g0 fun b54 g1=>
 Qh g0 g1<|
 Qa prog 182 #[a] g1 fun b55 g2=>
 Qh g1 g2<|
 Qa prog 183 #[a] g2 fun b56 a46=>
 Qh g2 a46<|
 Qu z52.toList [(1,1,c),(2,1,d),(3,1,e),(5,1,f),(15,1,g),(16,1,i),(17,1,j),(18,1,l),(19,1,m),(20,1,o),(21,1,p),(22,1,q),(23,1,b44),(25,1,b46),(26,1,b48),(27,1,b50),(34,1,b52),(36,1,b53),(39,1,b54),(41,1,b55),(50,1,b56)] fun b57=>
 StK a46 51 a45 b57 fun b58=>
 b [a45] b58))/\
 (Y8 a4 (.cells z52 52) fun a47 g3=>
 Qh a4 g3<|
 Qa prog 173 #[a] g3 fun b59 g4=>
 Qh g3 g4<|
 Qa prog 174 #[a] g4 fun b60 g5=>
 Qh g4 g5<|
 Qa prog 176 #[a] g5 fun b61 g6=>
 Qh g5 g6<|
 Qbv prog 175 #[b61] fun b62=>
 Qa prog 177 #[a] g6 fun b63 g7=>
 Qh g6 g7<|
 Qbv prog 175 #[b63] fun b64=>
 Qa prog 178 #[a] g7 fun b65 g8=>
 Qh g7 g8<|
 Qbv prog 175 #[b65] fun b66=>
 Qa prog 179 #[a,(.pointer none)] g8 fun b67 g9=>
 Qh g8 g9<|
 Qj prog .neq 214 b67 (.pointer none) fun b68=>
 Qa prog 180 #[a] g9 fun b69 i0=>
 Qh g9 i0<|
 Qa prog 181 #[a] i0 fun b70 i1=>
 Qh i0 i1<|
 Qa prog 182 #[a] i1 fun b71 i2=>
 Qh i1 i2<|
 Qa prog 183 #[a] i2 fun b72 a48=>
 Qh i2 a48<|
 Qu z52.toList [(1,1,c),(2,1,d),(3,1,e),(5,1,f),(15,1,g),(16,1,i),(17,1,j),(18,1,l),(19,1,m),(20,1,o),(21,1,p),(22,1,b59),(23,1,b60),(25,1,b62),(26,1,b64),(27,1,b66),(34,1,b68),(36,1,b69),(39,1,b70),(41,1,b71),(50,1,b72)] fun b73=>
 StK a48 51 a47 b73 fun b74=>
 b [a47] b74))/\
 (Y8 a3 (.cells z52 52) fun a49 i3=>
 Qh a3 i3<|
 Qa prog 172 #[a] i3 fun b75 i4=>
 Qh i3 i4<|
 Qa prog 173 #[a] i4 fun b76 i5=>
 Qh i4 i5<|
 Qa prog 174 #[a] i5 fun b77 i6=>
 Qh i5 i6<|
 Qa prog 176 #[a] i6 fun b78 i7=>
 Qh i6 i7<|
 Qbv prog 175 #[b78] fun b79=>
 Qa prog 177 #[a] i7 fun b80 i8=>
 Qh i7 i8<|
 Qbv prog 175 #[b80] fun b81=>
 Qa prog 178 #[a] i8 fun b82 i9=>
 Qh i8 i9<|
 Qbv prog 175 #[b82] fun b83=>
 Qa prog 179 #[a,(.pointer none)] i9 fun b84 j0=>
 Qh i9 j0<|
 Qj prog .neq 214 b84 (.pointer none) fun b85=>
 Qa prog 180 #[a] j0 fun b86 j1=>
 Qh j0 j1<|
 Qa prog 181 #[a] j1 fun b87 j2=>
 Qh j1 j2<|
 Qa prog 182 #[a] j2 fun b88 j3=>
 Qh j2 j3<|
 Qa prog 183 #[a] j3 fun b89 a50=>
 Qh j3 a50<|
 Qu z52.toList [(1,1,c),(2,1,d),(3,1,e),(5,1,f),(15,1,g),(16,1,i),(17,1,j),(18,1,l),(19,1,m),(20,1,o),(21,1,b75),(22,1,b76),(23,1,b77),(25,1,b79),(26,1,b81),(27,1,b83),(34,1,b85),(36,1,b86),(39,1,b87),(41,1,b88),(50,1,b89)] fun b90=>
 StK a50 51 a49 b90 fun b91=>
 b [a49] b91))/\
 (Y8 a2 (.cells z52 52) fun a51 j4=>
 Qh a2 j4<|
 Qa prog 171 #[a] j4 fun b92 j5=>
 Qh j4 j5<|
 Qa prog 172 #[a] j5 fun b93 j6=>
 Qh j5 j6<|
 Qa prog 173 #[a] j6 fun b94 j7=>
 Qh j6 j7<|
 Qa prog 174 #[a] j7 fun b95 j8=>
 Qh j7 j8<|
 Qa prog 176 #[a] j8 fun b96 j9=>
 Qh j8 j9<|
 Qbv prog 175 #[b96] fun b97=>
 Qa prog 177 #[a] j9 fun b98 l0=>
 Qh j9 l0<|
 Qbv prog 175 #[b98] fun b99=>
 Qa prog 178 #[a] l0 fun c00 l1=>
 Qh l0 l1<|
 Qbv prog 175 #[c00] fun c01=>
 Qa prog 179 #[a,(.pointer none)] l1 fun c02 l2=>
 Qh l1 l2<|
 Qj prog .neq 214 c02 (.pointer none) fun c03=>
 Qa prog 180 #[a] l2 fun c04 l3=>
 Qh l2 l3<|
 Qa prog 181 #[a] l3 fun c05 l4=>
 Qh l3 l4<|
 Qa prog 182 #[a] l4 fun c06 l5=>
 Qh l4 l5<|
 Qa prog 183 #[a] l5 fun c07 a52=>
 Qh l5 a52<|
 Qu z52.toList [(1,1,c),(2,1,d),(3,1,e),(5,1,f),(15,1,g),(16,1,i),(17,1,j),(18,1,l),(19,1,m),(20,1,b92),(21,1,b93),(22,1,b94),(23,1,b95),(25,1,b97),(26,1,b99),(27,1,c01),(34,1,c03),(36,1,c04),(39,1,c05),(41,1,c06),(50,1,c07)] fun c08=>
 StK a52 51 a51 c08 fun c09=>
 b [a51] c09))/\
 (Y8 a1 (.cells z52 52) fun a53 l6=>
 Qh a1 l6<|
 Qa prog 170 #[a] l6 fun c10 l7=>
 Qh l6 l7<|
 Qa prog 171 #[a] l7 fun c11 l8=>
 Qh l7 l8<|
 Qa prog 172 #[a] l8 fun c12 l9=>
 Qh l8 l9<|
 Qa prog 173 #[a] l9 fun c13 m0=>
 Qh l9 m0<|
 Qa prog 174 #[a] m0 fun c14 m1=>
 Qh m0 m1<|
 Qa prog 176 #[a] m1 fun c15 m2=>
 Qh m1 m2<|
 Qbv prog 175 #[c15] fun c16=>
 Qa prog 177 #[a] m2 fun c17 m3=>
 Qh m2 m3<|
 Qbv prog 175 #[c17] fun c18=>
 Qa prog 178 #[a] m3 fun c19 m4=>
 Qh m3 m4<|
 Qbv prog 175 #[c19] fun c20=>
 Qa prog 179 #[a,(.pointer none)] m4 fun c21 m5=>
 Qh m4 m5<|
 Qj prog .neq 214 c21 (.pointer none) fun c22=>
 Qa prog 180 #[a] m5 fun c23 m6=>
 Qh m5 m6<|
 Qa prog 181 #[a] m6 fun c24 m7=>
 Qh m6 m7<|
 Qa prog 182 #[a] m7 fun c25 m8=>
 Qh m7 m8<|
 Qa prog 183 #[a] m8 fun c26 a54=>
 Qh m8 a54<|
 Qu z52.toList [(1,1,c),(2,1,d),(3,1,e),(5,1,f),(15,1,g),(16,1,i),(17,1,j),(18,1,l),(19,1,c10),(20,1,c11),(21,1,c12),(22,1,c13),(23,1,c14),(25,1,c16),(26,1,c18),(27,1,c20),(34,1,c22),(36,1,c23),(39,1,c24),(41,1,c25),(50,1,c26)] fun c27=>
 StK a54 51 a53 c27 fun c28=>
 b [a53] c28))/\
 (Y8 a0 (.cells z52 52) fun a55 m9=>
 Qh a0 m9<|
 Qa prog 169 #[a] m9 fun c29 o0=>
 Qh m9 o0<|
 Qa prog 170 #[a] o0 fun c30 o1=>
 Qh o0 o1<|
 Qa prog 171 #[a] o1 fun c31 o2=>
 Qh o1 o2<|
 Qa prog 172 #[a] o2 fun c32 o3=>
 Qh o2 o3<|
 Qa prog 173 #[a] o3 fun c33 o4=>
 Qh o3 o4<|
 Qa prog 174 #[a] o4 fun c34 o5=>
 Qh o4 o5<|
 Qa prog 176 #[a] o5 fun c35 o6=>
 Qh o5 o6<|
 Qbv prog 175 #[c35] fun c36=>
 Qa prog 177 #[a] o6 fun c37 o7=>
 Qh o6 o7<|
 Qbv prog 175 #[c37] fun c38=>
 Qa prog 178 #[a] o7 fun c39 o8=>
 Qh o7 o8<|
 Qbv prog 175 #[c39] fun c40=>
 Qa prog 179 #[a,(.pointer none)] o8 fun c41 o9=>
 Qh o8 o9<|
 Qj prog .neq 214 c41 (.pointer none) fun c42=>
 Qa prog 180 #[a] o9 fun c43 p0=>
 Qh o9 p0<|
 Qa prog 181 #[a] p0 fun c44 p1=>
 Qh p0 p1<|
 Qa prog 182 #[a] p1 fun c45 p2=>
 Qh p1 p2<|
 Qa prog 183 #[a] p2 fun c46 a56=>
 Qh p2 a56<|
 Qu z52.toList [(1,1,c),(2,1,d),(3,1,e),(5,1,f),(15,1,g),(16,1,i),(17,1,j),(18,1,c29),(19,1,c30),(20,1,c31),(21,1,c32),(22,1,c33),(23,1,c34),(25,1,c36),(26,1,c38),(27,1,c40),(34,1,c42),(36,1,c43),(39,1,c44),(41,1,c45),(50,1,c46)] fun c47=>
 StK a56 51 a55 c47 fun c48=>
 b [a55] c48))/\
 (Y8 z (.cells z52 52) fun a57 p3=>
 Qh z p3<|
 Qa prog 168 #[a] p3 fun c49 p4=>
 Qh p3 p4<|
 Qa prog 169 #[a] p4 fun c50 p5=>
 Qh p4 p5<|
 Qa prog 170 #[a] p5 fun c51 p6=>
 Qh p5 p6<|
 Qa prog 171 #[a] p6 fun c52 p7=>
 Qh p6 p7<|
 Qa prog 172 #[a] p7 fun c53 p8=>
 Qh p7 p8<|
 Qa prog 173 #[a] p8 fun c54 p9=>
 Qh p8 p9<|
 Qa prog 174 #[a] p9 fun c55 q0=>
 Qh p9 q0<|
 Qa prog 176 #[a] q0 fun c56 q1=>
 Qh q0 q1<|
 Qbv prog 175 #[c56] fun c57=>
 Qa prog 177 #[a] q1 fun c58 q2=>
 Qh q1 q2<|
 Qbv prog 175 #[c58] fun c59=>
 Qa prog 178 #[a] q2 fun c60 q3=>
 Qh q2 q3<|
 Qbv prog 175 #[c60] fun c61=>
 Qa prog 179 #[a,(.pointer none)] q3 fun c62 q4=>
 Qh q3 q4<|
 Qj prog .neq 214 c62 (.pointer none) fun c63=>
 Qa prog 180 #[a] q4 fun c64 q5=>
 Qh q4 q5<|
 Qa prog 181 #[a] q5 fun c65 q6=>
 Qh q5 q6<|
 Qa prog 182 #[a] q6 fun c66 q7=>
 Qh q6 q7<|
 Qa prog 183 #[a] q7 fun c67 a58=>
 Qh q7 a58<|
 Qu z52.toList [(1,1,c),(2,1,d),(3,1,e),(5,1,f),(15,1,g),(16,1,i),(17,1,c49),(18,1,c50),(19,1,c51),(20,1,c52),(21,1,c53),(22,1,c54),(23,1,c55),(25,1,c57),(26,1,c59),(27,1,c61),(34,1,c63),(36,1,c64),(39,1,c65),(41,1,c66),(50,1,c67)] fun c68=>
 StK a58 51 a57 c68 fun c69=>
 b [a57] c69))/\
 (Y8 y (.cells z52 52) fun a59 q8=>
 Qh y q8<|
 Qa prog 167 #[a] q8 fun c70 q9=>
 Qh q8 q9<|
 Qa prog 168 #[a] q9 fun c71 r0=>
 Qh q9 r0<|
 Qa prog 169 #[a] r0 fun c72 r1=>
 Qh r0 r1<|
 Qa prog 170 #[a] r1 fun c73 r2=>
 Qh r1 r2<|
 Qa prog 171 #[a] r2 fun c74 r3=>
 Qh r2 r3<|
 Qa prog 172 #[a] r3 fun c75 r4=>
 Qh r3 r4<|
 Qa prog 173 #[a] r4 fun c76 r5=>
 Qh r4 r5<|
 Qa prog 174 #[a] r5 fun c77 r6=>
 Qh r5 r6<|
 Qa prog 176 #[a] r6 fun c78 r7=>
 Qh r6 r7<|
 Qbv prog 175 #[c78] fun c79=>
 Qa prog 177 #[a] r7 fun c80 r8=>
 Qh r7 r8<|
 Qbv prog 175 #[c80] fun c81=>
 Qa prog 178 #[a] r8 fun c82 r9=>
 Qh r8 r9<|
 Qbv prog 175 #[c82] fun c83=>
 Qa prog 179 #[a,(.pointer none)] r9 fun c84 s0=>
 Qh r9 s0<|
 Qj prog .neq 214 c84 (.pointer none) fun c85=>
 Qa prog 180 #[a] s0 fun c86 s1=>
 Qh s0 s1<|
 Qa prog 181 #[a] s1 fun c87 s2=>
 Qh s1 s2<|
 Qa prog 182 #[a] s2 fun c88 s3=>
 Qh s2 s3<|
 Qa prog 183 #[a] s3 fun c89 a60=>
 Qh s3 a60<|
 Qu z52.toList [(1,1,c),(2,1,d),(3,1,e),(5,1,f),(15,1,g),(16,1,c70),(17,1,c71),(18,1,c72),(19,1,c73),(20,1,c74),(21,1,c75),(22,1,c76),(23,1,c77),(25,1,c79),(26,1,c81),(27,1,c83),(34,1,c85),(36,1,c86),(39,1,c87),(41,1,c88),(50,1,c89)] fun c90=>
 StK a60 51 a59 c90 fun c91=>
 b [a59] c91))/\
 (Y8 w (.cells z52 52) fun a61 s4=>
 Qh w s4<|
 Qa prog 166 #[a] s4 fun c92 s5=>
 Qh s4 s5<|
 Qa prog 167 #[a] s5 fun c93 s6=>
 Qh s5 s6<|
 Qa prog 168 #[a] s6 fun c94 s7=>
 Qh s6 s7<|
 Qa prog 169 #[a] s7 fun c95 s8=>
 Qh s7 s8<|
 Qa prog 170 #[a] s8 fun c96 s9=>
 Qh s8 s9<|
 Qa prog 171 #[a] s9 fun c97 t0=>
 Qh s9 t0<|
 Qa prog 172 #[a] t0 fun c98 t1=>
 Qh t0 t1<|
 Qa prog 173 #[a] t1 fun c99 t2=>
 Qh t1 t2<|
 Qa prog 174 #[a] t2 fun d00 t3=>
 Qh t2 t3<|
 Qa prog 176 #[a] t3 fun d01 t4=>
 Qh t3 t4<|
 Qbv prog 175 #[d01] fun d02=>
 Qa prog 177 #[a] t4 fun d03 t5=>
 Qh t4 t5<|
 Qbv prog 175 #[d03] fun d04=>
 Qa prog 178 #[a] t5 fun d05 t6=>
 Qh t5 t6<|
 Qbv prog 175 #[d05] fun d06=>
 Qa prog 179 #[a,(.pointer none)] t6 fun d07 t7=>
 Qh t6 t7<|
 Qj prog .neq 214 d07 (.pointer none) fun d08=>
 Qa prog 180 #[a] t7 fun d09 t8=>
 Qh t7 t8<|
 Qa prog 181 #[a] t8 fun d10 t9=>
 Qh t8 t9<|
 Qa prog 182 #[a] t9 fun d11 u0=>
 Qh t9 u0<|
 Qa prog 183 #[a] u0 fun d12 a62=>
 Qh u0 a62<|
 Qu z52.toList [(1,1,c),(2,1,d),(3,1,e),(5,1,f),(15,1,c92),(16,1,c93),(17,1,c94),(18,1,c95),(19,1,c96),(20,1,c97),(21,1,c98),(22,1,c99),(23,1,d00),(25,1,d02),(26,1,d04),(27,1,d06),(34,1,d08),(36,1,d09),(39,1,d10),(41,1,d11),(50,1,d12)] fun d13=>
 StK a62 51 a61 d13 fun d14=>
 b [a61] d14))/\
 (Y8 v (.cells z52 52) fun a63 u1=>
 Qh v u1<|
 Qa prog 165 #[a] u1 fun d15 u2=>
 Qh u1 u2<|
 Qa prog 166 #[a] u2 fun d16 u3=>
 Qh u2 u3<|
 Qa prog 167 #[a] u3 fun d17 u4=>
 Qh u3 u4<|
 Qa prog 168 #[a] u4 fun d18 u5=>
 Qh u4 u5<|
 Qa prog 169 #[a] u5 fun d19 u6=>
 Qh u5 u6<|
 Qa prog 170 #[a] u6 fun d20 u7=>
 Qh u6 u7<|
 Qa prog 171 #[a] u7 fun d21 u8=>
 Qh u7 u8<|
 Qa prog 172 #[a] u8 fun d22 u9=>
 Qh u8 u9<|
 Qa prog 173 #[a] u9 fun d23 v0=>
 Qh u9 v0<|
 Qa prog 174 #[a] v0 fun d24 v1=>
 Qh v0 v1<|
 Qa prog 176 #[a] v1 fun d25 v2=>
 Qh v1 v2<|
 Qbv prog 175 #[d25] fun d26=>
 Qa prog 177 #[a] v2 fun d27 v3=>
 Qh v2 v3<|
 Qbv prog 175 #[d27] fun d28=>
 Qa prog 178 #[a] v3 fun d29 v4=>
 Qh v3 v4<|
 Qbv prog 175 #[d29] fun d30=>
 Qa prog 179 #[a,(.pointer none)] v4 fun d31 v5=>
 Qh v4 v5<|
 Qj prog .neq 214 d31 (.pointer none) fun d32=>
 Qa prog 180 #[a] v5 fun d33 v6=>
 Qh v5 v6<|
 Qa prog 181 #[a] v6 fun d34 v7=>
 Qh v6 v7<|
 Qa prog 182 #[a] v7 fun d35 v8=>
 Qh v7 v8<|
 Qa prog 183 #[a] v8 fun d36 a64=>
 Qh v8 a64<|
 Qu z52.toList [(1,1,c),(2,1,d),(3,1,e),(5,1,d15),(15,1,d16),(16,1,d17),(17,1,d18),(18,1,d19),(19,1,d20),(20,1,d21),(21,1,d22),(22,1,d23),(23,1,d24),(25,1,d26),(26,1,d28),(27,1,d30),(34,1,d32),(36,1,d33),(39,1,d34),(41,1,d35),(50,1,d36)] fun d37=>
 StK a64 51 a63 d37 fun d38=>
 b [a63] d38))/\
 (Y8 a25 (.cells z52 52) fun a65 d39=>
 Qa prog 164 #[a] d39 fun d40 v9=>
 B2SK v9 d40 fun d41=>
 Qa prog 165 #[a] v9 fun d42 w0=>
 Qh v9 w0<|
 Qa prog 166 #[a] w0 fun d43 w1=>
 Qh w0 w1<|
 Qa prog 167 #[a] w1 fun d44 w2=>
 Qh w1 w2<|
 Qa prog 168 #[a] w2 fun d45 w3=>
 Qh w2 w3<|
 Qa prog 169 #[a] w3 fun d46 w4=>
 Qh w3 w4<|
 Qa prog 170 #[a] w4 fun d47 w5=>
 Qh w4 w5<|
 Qa prog 171 #[a] w5 fun d48 w6=>
 Qh w5 w6<|
 Qa prog 172 #[a] w6 fun d49 w7=>
 Qh w6 w7<|
 Qa prog 173 #[a] w7 fun d50 w8=>
 Qh w7 w8<|
 Qa prog 174 #[a] w8 fun d51 w9=>
 Qh w8 w9<|
 Qa prog 176 #[a] w9 fun d52 y0=>
 Qh w9 y0<|
 Qbv prog 175 #[d52] fun d53=>
 Qa prog 177 #[a] y0 fun d54 y1=>
 Qh y0 y1<|
 Qbv prog 175 #[d54] fun d55=>
 Qa prog 178 #[a] y1 fun d56 y2=>
 Qh y1 y2<|
 Qbv prog 175 #[d56] fun d57=>
 Qa prog 179 #[a,(.pointer none)] y2 fun d58 y3=>
 Qh y2 y3<|
 Qj prog .neq 214 d58 (.pointer none) fun d59=>
 Qa prog 180 #[a] y3 fun d60 y4=>
 Qh y3 y4<|
 Qa prog 181 #[a] y4 fun d61 y5=>
 Qh y4 y5<|
 Qa prog 182 #[a] y5 fun d62 y6=>
 Qh y5 y6<|
 Qa prog 183 #[a] y6 fun d63 a66=>
 Qh y6 a66<|
 Qu z52.toList [(1,1,c),(2,1,d),(3,1,d41),(5,1,d42),(15,1,d43),(16,1,d44),(17,1,d45),(18,1,d46),(19,1,d47),(20,1,d48),(21,1,d49),(22,1,d50),(23,1,d51),(25,1,d53),(26,1,d55),(27,1,d57),(34,1,d59),(36,1,d60),(39,1,d61),(41,1,d62),(50,1,d63)] fun d64=>
 StK a66 51 a65 d64 fun d65=>
 b [a65] d65))/\
 (Y8 a24 (.cells z52 52) fun a67 d66=>
 Qa prog 163 #[a] d66 fun d67 d68=>
 Qa prog 164 #[a] d68 fun d69 y7=>
 B2SK y7 d69 fun d70=>
 Qa prog 165 #[a] y7 fun d71 y8=>
 Qh y7 y8<|
 Qa prog 166 #[a] y8 fun d72 y9=>
 Qh y8 y9<|
 Qa prog 167 #[a] y9 fun d73 z0=>
 Qh y9 z0<|
 Qa prog 168 #[a] z0 fun d74 z1=>
 Qh z0 z1<|
 Qa prog 169 #[a] z1 fun d75 z2=>
 Qh z1 z2<|
 Qa prog 170 #[a] z2 fun d76 z3=>
 Qh z2 z3<|
 Qa prog 171 #[a] z3 fun d77 z4=>
 Qh z3 z4<|
 Qa prog 172 #[a] z4 fun d78 z5=>
 Qh z4 z5<|
 Qa prog 173 #[a] z5 fun d79 z6=>
 Qh z5 z6<|
 Qa prog 174 #[a] z6 fun d80 z7=>
 Qh z6 z7<|
 Qa prog 176 #[a] z7 fun d81 z8=>
 Qh z7 z8<|
 Qbv prog 175 #[d81] fun d82=>
 Qa prog 177 #[a] z8 fun d83 z9=>
 Qh z8 z9<|
 Qbv prog 175 #[d83] fun d84=>
 Qa prog 178 #[a] z9 fun d85 a00=>
 Qh z9 a00<|
 Qbv prog 175 #[d85] fun d86=>
 Qa prog 179 #[a,(.pointer none)] a00 fun d87 a01=>
 Qh a00 a01<|
 Qj prog .neq 214 d87 (.pointer none) fun d88=>
 Qa prog 180 #[a] a01 fun d89 a02=>
 Qh a01 a02<|
 Qa prog 181 #[a] a02 fun d90 a03=>
 Qh a02 a03<|
 Qa prog 182 #[a] a03 fun d91 a04=>
 Qh a03 a04<|
 Qa prog 183 #[a] a04 fun d92 a68=>
 Qh a04 a68<|
 Qu z52.toList [(1,1,c),(2,1,d67),(3,1,d70),(5,1,d71),(15,1,d72),(16,1,d73),(17,1,d74),(18,1,d75),(19,1,d76),(20,1,d77),(21,1,d78),(22,1,d79),(23,1,d80),(25,1,d82),(26,1,d84),(27,1,d86),(34,1,d88),(36,1,d89),(39,1,d90),(41,1,d91),(50,1,d92)] fun d93=>
 StK a68 51 a67 d93 fun d94=>
 b [a67] d94))/\
 (Y8 a23 (.cells z52 52) fun a69 d95=>
 Qa prog 162 #[a] d95 fun d96 d97=>
 Qa prog 163 #[a] d97 fun d98 d99=>
 Qa prog 164 #[a] d99 fun e00 a05=>
 B2SK a05 e00 fun e01=>
 Qa prog 165 #[a] a05 fun e02 a06=>
 Qh a05 a06<|
 Qa prog 166 #[a] a06 fun e03 a07=>
 Qh a06 a07<|
 Qa prog 167 #[a] a07 fun e04 a08=>
 Qh a07 a08<|
 Qa prog 168 #[a] a08 fun e05 a09=>
 Qh a08 a09<|
 Qa prog 169 #[a] a09 fun e06 a10=>
 Qh a09 a10<|
 Qa prog 170 #[a] a10 fun e07 a11=>
 Qh a10 a11<|
 Qa prog 171 #[a] a11 fun e08 a12=>
 Qh a11 a12<|
 Qa prog 172 #[a] a12 fun e09 a13=>
 Qh a12 a13<|
 Qa prog 173 #[a] a13 fun e10 a14=>
 Qh a13 a14<|
 Qa prog 174 #[a] a14 fun e11 a15=>
 Qh a14 a15<|
 Qa prog 176 #[a] a15 fun e12 a16=>
 Qh a15 a16<|
 Qbv prog 175 #[e12] fun e13=>
 Qa prog 177 #[a] a16 fun e14 a17=>
 Qh a16 a17<|
 Qbv prog 175 #[e14] fun e15=>
 Qa prog 178 #[a] a17 fun e16 a18=>
 Qh a17 a18<|
 Qbv prog 175 #[e16] fun e17=>
 Qa prog 179 #[a,(.pointer none)] a18 fun e18 a19=>
 Qh a18 a19<|
 Qj prog .neq 214 e18 (.pointer none) fun e19=>
 Qa prog 180 #[a] a19 fun e20 a20=>
 Qh a19 a20<|
 Qa prog 181 #[a] a20 fun e21 a21=>
 Qh a20 a21<|
 Qa prog 182 #[a] a21 fun e22 a22=>
 Qh a21 a22<|
 Qa prog 183 #[a] a22 fun e23 a70=>
 Qh a22 a70<|
 Qu z52.toList [(1,1,d96),(2,1,d98),(3,1,e01),(5,1,e02),(15,1,e03),(16,1,e04),(17,1,e05),(18,1,e06),(19,1,e07),(20,1,e08),(21,1,e09),(22,1,e10),(23,1,e11),(25,1,e13),(26,1,e15),(27,1,e17),(34,1,e19),(36,1,e20),(39,1,e21),(41,1,e22),(50,1,e23)] fun e24=>
 StK a70 51 a69 e24 fun e25=>
 b [a69] e25)) fun b=>∀a71:Value,∀a72:Qe,b [a71] a72->
 rm1 a a71 a73 a72 R
theorem w56 {a h R} (H:s56 a h R):FnS prog 56 #[a] h R:=wq Tryz.func56 (by kernel_rfl) H
def s58 (a:Value) (h:Qe) (R:Kn):Prop:=
 QbP a fun b=>
 Qez h 5 1 z5 b b fun c d=>
 CopyK d 1 c a fun _x9 e=>
 R c e
theorem w58 {a h R} (H:s58 a h R):FnS prog 58 #[a] h R:=wq Tryz.func58 (by kernel_rfl) H
def s63 (a:Value) (h:Qe) (R:Kn):Prop:=
 Qj prog .eql 9 a (.string ⟨#[]⟩) fun b=>
 IfK b
 (R (.slice none 0 0) h)
 (S2BK h 5 a fun c d=>
 R c d)
theorem w63 {a h R} (H:s63 a h R):FnS prog 63 #[a] h R:=wq Tryz.func63 (by kernel_rfl) H
def ts2 (a:Value) (b:Qe) (R:Kn):Prop:=
 R a b
def ts1B (d:Value) (e:Value) (f:Value) (c:Qe) (k:Kn):Prop:=
 Y2 2 d e fun g=>
 LdN c 2 g fun i=>
 Y8 c (.cells z90 90) fun a j=>
 StK j 2 a i fun b=>
 Qf a 0 fun l=>
 LdK b l fun m=>
 Qf a 1 fun o=>
 LdK b o fun p=>
 Qu z159.toList [(0,1,m),(1,1,p)] fun q=>
 Y8 b (.cells (Value.cells q) 159) fun r s=>
 Q8 s 158 1 (YY z158.toList 1) [(0,1,r)] fun t u=>
 Qbk u 158 1 8 z158 f t fun v w=>
 k v w
def ts1 (a:Value) (h:Qe) (R:Kn):Prop:=
 Qey prog 3 a h (ts1B a) fun b c=>ts2 b c R
def s64 (a:Value) (h:Qe) (R:Kn):Prop:=
 ts1 a h R
theorem w64 {a h R} (H:s64 a h R):FnS prog 64 #[a] h R:=wq Tryz.func64 (by kernel_rfl) H
theorem w65 {a h R} (H:tp65 a h R):FnS prog 65 #[a] h R:=wq Tryz.func65 (by kernel_rfl) H
theorem w66 {a h R} (H:tp65 a h R):FnS prog 66 #[a] h R:=wq Tryz.func66 (by kernel_rfl) H
theorem w68 {a h R} (H:tp65 a h R):FnS prog 68 #[a] h R:=wq Tryz.func68 (by kernel_rfl) H
def rf2 (a:Value) (b:Qe) (R:Kn):Prop:=
 R a b
def rf1B (b:Value) (c:Value) (d:Value) (a:Qe) (k:Kn):Prop:=
 Y2 1 b c fun e=>
 LdK a e fun f=>
 Qu z260.toList [(0,1,f)] fun g=>
 Y8 a (.cells (Value.cells g) 260) fun i j=>
 Q8 j 185 1 (YY z185.toList 1) [(0,1,i)] fun l m=>
 Qbk m 185 1 8 z185 d l fun o p=>
 k o p
def rf1 (a:Value) (h:Qe) (R:Kn):Prop:=
 Qey prog 3 a h (rf1B a) fun b c=>rf2 b c R
def s69 (a:Value) (h:Qe) (R:Kn):Prop:=
 rf1 a h R
theorem w69 {a h R} (H:s69 a h R):FnS prog 69 #[a] h R:=wq Tryz.func69 (by kernel_rfl) H
theorem w70 {a h R} (H:tp65 a h R):FnS prog 70 #[a] h R:=wq Tryz.func70 (by kernel_rfl) H
def s72 (c:Value) (h:Qe) (R:Kn):Prop:=
 Y8 h (.cells (Value.cells c) 47) fun b a=>
 Qf b 0 fun d=>
 LdK a d fun e=>
 Qj prog .eql 5 e (.int .u8 2) fun f=>
 IfK f
 (Qf b 2 fun g=>
 LdK a g fun i=>
 Qu z263.toList [(0,1,i)] fun j=>
 Y8 a (.cells (Value.cells j) 263) fun l m=>
 R (.iface 261 l) m)
 (LdN a 3 b fun o=>
 Qa prog 73 #[o] a fun p q=>
 R (.iface 75 p) q)
theorem w72 {a h R} (H:s72 a h R):FnS prog 72 #[a] h R:=wq Tryz.func72 (by kernel_rfl) H
def s73 (c:Value) (h:Qe) (R:Kn):Prop:=
 Y8 h (.cells (Value.cells c) 47) fun b a=>
 Qf b 1 fun d=>
 LdK a d fun e=>
 Y1 e fun f=>
 Qj prog .eql 3 f (.int .i64 0) fun g=>
 IfK g
 (R (.pointer none) a)
 (Qf b 1 fun i=>
 LdK a i fun j=>
 Y2 51 j (.int .i64 0) fun l=>
 LdN a 51 l fun m=>
 Qa prog 22 #[m] a fun o p=>
 R o p)
theorem w73 {a h R} (H:s73 a h R):FnS prog 73 #[a] h R:=wq Tryz.func73 (by kernel_rfl) H
def s237 (d v w:Value) (h:Qe) (R:Kn):Prop:=
 Y8 h (.cells (Value.cells w) 227) fun c y=>
 Y8 y (.cells z47 47) fun a i=>
 Zu prog (Op.unary .not v) fun e=>
 Qd e false (fun z=>z d i) i fun a0 j=>
 Qd e false (fun a1=>Qj prog .eql 5 a0 (.int .u8 0) fun a2=>a1 a2 j) j fun a3 l=>
 Yh e (.bool true) a3 fun a4=>
 IfK a4
 (Qu z47.toList [] fun a5=>
 StK l 3 a a5 fun m=>
 LdN m 3 a fun a6=>
 R a6 m)
 (Qu z47.toList [(0,1,d)] fun a7=>
 Y8 l (.cells z47 47) fun b a8=>
 StK a8 3 b a7 fun o=>
 Qj prog .eql 5 d (.int .u8 2) fun a9=>
 IfK a9
 (Y8 o (.cells z303 303) fun p f=>
 Qf c 0 fun b0=>
 LdK f b0 fun b1=>
 Qf c 1 fun b2=>
 LdK f b2 fun b3=>
 Qa prog 311 #[p,b1,b3] f fun _x25 b4=>
 Qa prog 312 #[p] b4 fun b5 b6=>
 Qf b 2 fun b7=>
 StK b6 1 b7 b5 fun q=>
 LdN q 3 b fun b8=>
 StK q 3 a b8 fun r=>
 LdN r 3 a fun b9=>
 R b9 r)
 (Y8 o (.cells z235 235) fun s g=>
 Qf c 0 fun c0=>
 LdK g c0 fun c1=>
 Qf c 1 fun c2=>
 LdK g c2 fun c3=>
 Qa prog 243 #[s,c1,c3] g fun _x33 c4=>
 Qa prog 56 #[s] c4 fun c5 c6=>
 Q8 c6 52 1 (YY z52.toList 1) [(0,51,c5)] fun c7 c8=>
 Qf b 1 fun c9=>
 StK c8 1 c9 c7 fun t=>
 LdN t 3 b fun d0=>
 StK t 3 a d0 fun u=>
 LdN u 3 a fun d1=>
 R d1 u))
theorem w237 {a b c h R} (H:s237 a b c h R):FnS prog 237 #[a,b,c] h R:=wq Tryz.func237 (by kernel_rfl) H
end Go.Proofs
namespace Go.Proofs
open Go Go.Vc
open Tryz (prog)
abbrev RM (G0:Cut) (H0:Qe) (q2 q3:Nat) (G:Cut) (H:Qe) (cells:List Value):Prop:=RS G0 H0 52 (.cells z52 52 (0,0)) q2 q3 G H cells
abbrev ptr (b:Nat):Value:=.pointer (some ⟨b,0,none⟩)
theorem QaH {cells:List Value} {fld:Nat} {v:Value} (h:cells[fld]?=some v):cells.set fld v=cells:=by
 apply List.ext_getElem?
 intro j
 rw[List.getElem?_set]
 split
 ·rename_i e
  subst e
  split
  ·exact h.symm
  ·rename_i hlt;rw[List.getElem?_eq_none (by omega)]
 ·rfl
theorem get_set {cells:List Value} {fld:Nat} {v w:Value} (h:cells[fld]?=some w):(cells.set fld v)[fld]?=some v:=by
 have:fld<cells.length:=by
  rcases Nat.lt_or_ge fld cells.length with hh|hh
  ·exact hh
  ·rw[List.getElem?_eq_none hh]at h;cases h
 simp[this]
theorem Q4 {α:Type} {l:List α} {i:Nat} {a:α} (h:l[i]?=some a):i<l.length:=by
 rcases Nat.lt_or_ge i l.length with hh|hh
 ·exact hh
 ·rw[List.getElem?_eq_none hh]at h;cases h
theorem Qbg {α:Type} {f:α->List Value} {l:List α} {i:Nat} {a:α} (h:l[i]?=some a):(l.take (i+1)).map f=(l.take i).map f++[f a]:=by
 rw[List.take_add_one,h];simp
theorem QeT {α:Type} {l:List α} {i:Nat} {a:α} (h:l[i]?=some a):l.take (i+1)=l.take i++[a]:=by
 rw[List.take_add_one,h];simp
section
variable {G0:Cut} {H0:Qe} {q2 q3:Nat} {G:Cut} {H:Qe} {cells:List Value} (rs:RM G0 H0 q2 q3 G H cells)
include rs
theorem app_loop {P:Program} {t:TypeId} {lenf:FuncId} {x0:Value} {Bd:Value->Qe->(Qe->Prop)->Prop} {K:Qe->Prop} {fld es:Nat} {et:TypeId} {n:Nat} (Items:Cut->Nat->List (List Value)->Prop) (h0:Items G 0 []) (hc:cells[fld]?=some (.slice none 0 0)) (hn:n<4611686018427387904)
  (hlen:∀H' (R:Kn),Qay H0 H'->R (.int .i64 (n:Nat)) H'->FnS P lenf #[x0] H' R)
  (hB:∀i G1 H' c cells' items (k:Qe->Prop),i<n->G.le G1->RM G0 H0 q2 q3 G1 H' cells'->cells'[fld]?=some c->Cur H0 G1 H' et es c items (badq q2 q3)->Items G1 i items->
   (∀G2 H2 c2 items2,G1.le G2->RM G0 H0 q2 q3 G2 H2 (cells'.set fld c2)->Cur H0 G2 H2 et es c2 items2 (badq q2 q3)->Items G2 (i+1) items2->k H2)->Bd (.int .i64 (i:Nat)) H' k)
  (hk:∀G' G1 H' c items,RM G0 H0 q2 q3 G' H' (cells.set fld c)->G.le G'->SlV G' es c items->Items G1 n items->G1.le G'->K H'):ZQ P t lenf x0 Bd H K:=by
 refine cntLoop_of (n:=n) (fun i H'=>∃G1 c items,G.le G1/\RM G0 H0 q2 q3 G1 H' (cells.set fld c)/\Cur H0 G1 H' et es c items (badq q2 q3)/\Items G1 i items) ⟨G,_,[],Cut.le_refl G,by rw[QaH hc];exact rs,Cur.nil,h0⟩ hn ?_ ?_ ?_
 ·rintro i H' R ⟨G1,c,items,_,rs',_⟩ hR
  exact hlen H' R rs'.ext.keep hR
 ·rintro i H' k hlt ⟨G1,c,items,hle,rs',hc',hi⟩ hk'
  refine hB i G1 H' c _ items k hlt hle rs' (get_set hc) hc' hi ?_
  intro G2 H2 c2 items2 hle2 rs2 hc2 hi2
  exact hk' H2 ⟨G2,c2,items2,Cut.le_trans hle hle2,by rw[List.set_set]at rs2;exact rs2,hc2,hi2⟩
 ·rintro H' ⟨G1,c,items,hle,rs',hc',hi⟩
  obtain ⟨G',e',sl,le,hown⟩:=hc'.done rs'.ext
  exact hk G' G1 H' c items ⟨e',hown _ _ (Or.inl rfl) rs'.o2,hown _ _ (Or.inr rfl) rs'.o3,rs'.ne⟩ (Cut.le_trans hle le) sl hi le
theorem Qbd {α:Type} {l:List α} {f:α->List Value} {P:Program} {t:TypeId} {lenf:FuncId} {x0:Value} {Bd:Value->Qe->(Qe->Prop)->Prop} {K:Qe->Prop} {fld es:Nat} {et:TypeId} (hc:cells[fld]?=some (.slice none 0 0)) (hn:l.length<4611686018427387904)
  (hlen:∀H' (R:Kn),Qay H0 H'->R (.int .i64 (l.length:Nat)) H'->FnS P lenf #[x0] H' R)
  (hB:∀i a H' c cells' (k:Qe->Prop),l[i]?=some a->RM G0 H0 q2 q3 G H' cells'->cells'[fld]?=some c->Cur H0 G H' et es c ((l.take i).map f) (badq q2 q3)->((l.take i).map f).length<l.length->
   (∀H2 c2,RM G0 H0 q2 q3 G H2 (cells'.set fld c2)->Cur H0 G H2 et es c2 ((l.take i).map f++[f a]) (badq q2 q3)->k H2)->Bd (.int .i64 (i:Nat)) H' k)
  (hk:∀G' H' c,RM G0 H0 q2 q3 G' H' (cells.set fld c)->G.le G'->SlV G' es c (l.map f)->K H'):ZQ P t lenf x0 Bd H K:=by
 refine app_loop rs (et:=et) (es:=es) (fun G1 i items=>G1=G/\items=(l.take i).map f) ⟨rfl,by simp⟩ hc hn hlen ?_ ?_
 ·rintro i G1 H' c cells' items k hlt _ rs' hc' hcur ⟨rfl,rfl⟩ hk'
  have ha:=List.getElem?_eq_getElem hlt
  refine hB i _ H' c cells' k ha rs' hc' hcur (by rw[List.length_map,List.length_take];omega) ?_
  intro H2 c2 rs2 hc2
  exact hk' _ H2 c2 _ (Cut.le_refl _) rs2 hc2 ⟨rfl,(Qbg ha).symm⟩
 ·rintro G' G1 H' c items rs' hle sl ⟨rfl,rfl⟩ _
  rw[List.take_length]at sl
  exact hk G' H' c rs' hle sl
theorem Qi3 {P:Program} {t:TypeId} {lenf:FuncId} {x0:Value} {Bd:Value->Qe->(Qe->Prop)->Prop} {K:Qe->Prop} {fld:Nat} {xs:List UInt8} (hc:cells[fld]?=some (QW [])) (hn:xs.length<4611686018427387904)
  (hlen:∀H' (R:Kn),Qay H0 H'->R (.int .i64 (xs.length:Nat)) H'->FnS P lenf #[x0] H' R)
  (hB:∀i b H' cells' (k:Qe->Prop),xs[i]?=some b->RM G0 H0 q2 q3 G H' cells'->cells'[fld]?=some (QW (xs.take i))->(xs.take i).length+1<=9223372036854775807->(∀H2,RM G0 H0 q2 q3 G H2 (cells'.set fld (QW (xs.take i++[b])))->k H2)->Bd (.int .i64 (i:Nat)) H' k)
  (hk:∀H',RM G0 H0 q2 q3 G H' (cells.set fld (QW xs))->K H'):ZQ P t lenf x0 Bd H K:=by
 refine cntLoop_of (n:=xs.length) (fun i H'=>RM G0 H0 q2 q3 G H' (cells.set fld (QW (xs.take i)))) (by rw[List.take_zero,QaH hc];exact rs) hn ?_ ?_ ?_
 ·intro i H' R rs' hR
  exact hlen H' R rs'.ext.keep hR
 ·intro i H' k hlt rs' hk'
  have ha:=List.getElem?_eq_getElem hlt
  refine hB i _ H' _ k ha rs' (get_set hc) (by rw[List.length_take];omega) ?_
  intro H2 rs2
  rw[List.set_set,<-QeT ha]at rs2
  exact hk' H2 rs2
 ·intro H' rs'
  rw[List.take_length]at rs'
  exact hk H' rs'
end
theorem bool_at {bs:List UInt8} {p:Nat} {b:Bool} (h:Yp bs p (Qf0 b)):vB (byteN bs p)= .bool b:=by
 have:=h.byte (i:=0) Nat.zero_lt_one
 rw[Nat.add_zero]at this
 rw[this]
 cases b<;>rfl
theorem Zl {zs:List Value} {parts:List (Nat×Nat×Value)} {cs:List Value} {k:Value->Prop} (h:YN zs parts=some cs) (hk:k (.agg cs.toArray)):Qu zs parts k:=by
 unfold Qu;simp only[h];exact hk
section
variable {A p B pos vt:Nat} {bs:List UInt8} {d:QaM} {G0:Cut} {H0:Qe} (ht:Tab H0 p B bs pos) (hv:VT bs pos vt) {q2 q3:Nat} {G:Cut} {H:Qe} {cells:List Value} (rs:RM G0 H0 q2 q3 G H cells) {R:Kn}
include ht hv rs
theorem rm2_ok (own:QF A bs pos vt 14 (d.inventory=[]) (Qbw (StrW d.inventory))) (hc:cells[4]?=some (QW [])) (hk:∀H',RM G0 H0 q2 q3 G H' (cells.set 4 (QW d.inventory))->rm3 (ptr p) (ptr q3) (ptr q2) H' R):rm2 (ptr p) (ptr q3) (ptr q2) H R:=by
 obtain ⟨at_,hf,hi⟩:=own.strW
 have hn:=QhE.n_le hf (by decide)
 have hlt:=ht.lt
 unfold rm2
 refine Qi3 rs (xs:=d.inventory) hc (by omega) (fun H' R hK hR=>QcZ (ht.ext hK.ext) hv hf hR) ?_ hk
 intro i b H' cells' k hb rs' hc' hl hk'
 have hil:=Q4 hb
 have hbv:byteN bs (at_+1*i)=b.toNat:=by
  rw[Nat.one_mul,hi.byte hil];simp[byteN,List.getD,hb]
 unfold rm2B
 rw[Qm,rs'.ld hc']
 refine QeN (rs'.tab ht) hv hf hil ?_
 rw[Qb,hbv]
 exact rs'.push_byte rfl hl (Q4 hc') hk'
theorem rm7_ok (own:QF A bs pos vt 30 (d.nested=[]) (Qbw (StrW d.nested))) (hc:cells[13]?=some (QW [])) (hk:∀H',RM G0 H0 q2 q3 G H' (cells.set 13 (QW d.nested))->rm8 (ptr p) (ptr q3) (ptr q2) H' R):rm7 (ptr p) (ptr q3) (ptr q2) H R:=by
 obtain ⟨at_,hf,hi⟩:=own.strW
 have hn:=QhE.n_le hf (by decide)
 have hlt:=ht.lt
 unfold rm7
 refine Qi3 rs (xs:=d.nested) hc (by omega) (fun H' R hK hR=>QaA (ht.ext hK.ext) hv hf hR) ?_ hk
 intro i b H' cells' k hb rs' hc' hl hk'
 have hil:=Q4 hb
 have hbv:byteN bs (at_+1*i)=b.toNat:=by
  rw[Nat.one_mul,hi.byte hil];simp[byteN,List.getD,hb]
 unfold rm7B
 rw[Qm,rs'.ld hc']
 refine Qby (rs'.tab ht) hv hf hil ?_
 rw[Qb,hbv]
 exact rs'.push_byte rfl hl (Q4 hc') hk'
theorem rm12_ok (own:QF A bs pos vt 64 (d.flex=[]) (Qbw (StrW d.flex))) (hc:cells[30]?=some (QW [])) (hk:∀H',RM G0 H0 q2 q3 G H' (cells.set 30 (QW d.flex))->rm13 (ptr p) (ptr q3) (ptr q2) H' R):rm12 (ptr p) (ptr q3) (ptr q2) H R:=by
 obtain ⟨at_,hf,hi⟩:=own.strW
 have hn:=QhE.n_le hf (by decide)
 have hlt:=ht.lt
 unfold rm12
 refine Qi3 rs (xs:=d.flex) hc (by omega) (fun H' R hK hR=>Qeh (ht.ext hK.ext) hv hf hR) ?_ hk
 intro i b H' cells' k hb rs' hc' hl hk'
 have hil:=Q4 hb
 have hbv:byteN bs (at_+1*i)=b.toNat:=by
  rw[Nat.one_mul,hi.byte hil];simp[byteN,List.getD,hb]
 unfold rm12B
 rw[Qm,rs'.ld hc']
 refine Qh5 (rs'.tab ht) hv hf hil ?_
 rw[Qb,hbv]
 exact rs'.push_byte rfl hl (Q4 hc') hk'
theorem rm9_ok (own:QF A bs pos vt 52 ((d.bools.map Qf0)=[]) (Qbw (Qeo 1 (d.bools.map Qf0)))) (hc:cells[24]?=some (.slice none 0 0)) (hk:∀G' H' c,RM G0 H0 q2 q3 G' H' (cells.set 24 c)->G.le G'->SlV G' 1 c (d.bools.map boolI)->rm10 (ptr p) (ptr q3) (ptr q2) H' R):rm9 (ptr p) (ptr q3) (ptr q2) H R:=by
 obtain ⟨at_,hf,hi⟩:=own.vecW (Yd (fun b:Bool=>(rfl:(Qf0 b).length=1)) (l:=d.bools))
 rw[List.length_map]at hf
 have hn:=QhE.n_le hf (by decide)
 have hlt:=ht.lt
 unfold rm9
 refine Qbd rs (l:=d.bools) (f:=boolI) (et:=4) hc (by omega) (fun H' R hK hR=>Qbi (ht.ext hK.ext) hv hf hR) ?_ hk
 intro i a H' c cells' k ha rs' hc' hcur hil hk'
 have hia:=Q4 ha
 have hby:=hi i _ (by rw[List.getElem?_map,ha];rfl)
 unfold rm9B
 rw[Qm,rs'.ld hc']
 refine QcN (rs'.tab ht) hv hf hia ?_
 rw[Qb,bool_at hby]
 exact rs'.push_item hcur (it:=boolI a) rfl rfl (by intro x hx;simp only[boolI,List.mem_cons,List.not_mem_nil,or_false]at hx;subst hx;rfl) (by decide) rfl (by decide) (by omega) (Q4 hc') hk'
theorem rm14_ok (own:QF A bs pos vt 68 ((d.longs.map Qak)=[]) (Qbw (Qeo 8 (d.longs.map Qak)))) (hc:cells[32]?=some (.slice none 0 0)) (hk:∀G' H' c,RM G0 H0 q2 q3 G' H' (cells.set 32 c)->G.le G'->SlV G' 1 c (d.longs.map i64I)->rm15 (ptr p) (ptr q3) (ptr q2) H' R):rm14 (ptr p) (ptr q3) (ptr q2) H R:=by
 obtain ⟨at_,hf,hi⟩:=own.vecW (Yd (fun x=>Qg _ _))
 rw[List.length_map]at hf
 have hn:=QhE.n_le hf (by decide)
 have hlt:=ht.lt
 unfold rm14
 refine Qbd rs (l:=d.longs) (f:=i64I) (et:=2) hc (by omega) (fun H' R hK hR=>QbS (ht.ext hK.ext) hv hf hR) ?_ hk
 intro i a H' c cells' k ha rs' hc' hcur hil hk'
 have hia:=Q4 ha
 have hby:=hi i _ (by rw[List.getElem?_map,ha];rfl)
 unfold rm14B
 rw[Qm,rs'.ld hc']
 refine Qdw (rs'.tab ht) hv hf hia ?_
 rw[Qb,u64B_at hby]
 exact rs'.push_item hcur (it:=i64I a) rfl rfl (by intro x hx;simp only[i64I,List.mem_cons,List.not_mem_nil,or_false]at hx;subst hx;rfl) (by decide) rfl (by decide) (by omega) (Q4 hc') hk'
theorem rm15_ok (own:QF A bs pos vt 70 ((d.doubles.map Qak)=[]) (Qbw (Qeo 8 (d.doubles.map Qak)))) (hc:cells[33]?=some (.slice none 0 0)) (hk:∀G' H' c,RM G0 H0 q2 q3 G' H' (cells.set 33 c)->G.le G'->SlV G' 1 c (d.doubles.map Qce)->rm16 (ptr p) (ptr q3) (ptr q2) H' R):rm15 (ptr p) (ptr q3) (ptr q2) H R:=by
 obtain ⟨at_,hf,hi⟩:=own.vecW (Yd (fun x=>Qg _ _))
 rw[List.length_map]at hf
 have hn:=QhE.n_le hf (by decide)
 have hlt:=ht.lt
 unfold rm15
 refine Qbd rs (l:=d.doubles) (f:=Qce) (et:=31) hc (by omega) (fun H' R hK hR=>Qbp (ht.ext hK.ext) hv hf hR) ?_ hk
 intro i a H' c cells' k ha rs' hc' hcur hil hk'
 have hia:=Q4 ha
 have hby:=hi i _ (by rw[List.getElem?_map,ha];rfl)
 unfold rm15B
 rw[Qm,rs'.ld hc']
 refine Qd6 (rs'.tab ht) hv hf hia ?_
 rw[Qb,u64B_at hby]
 refine QY (fun w=>Qe6) ?_
 exact rs'.push_item hcur (it:=Qce a) rfl rfl (by intro x hx;simp only[Qce,List.mem_cons,List.not_mem_nil,or_false]at hx;subst hx;rfl) (by decide) rfl (by decide) (by omega) (Q4 hc') hk'
theorem rm17_ok (own:QF A bs pos vt 78 ((d.weak.map Qak)=[]) (Qbw (Qeo 8 (d.weak.map Qak)))) (hc:cells[37]?=some (.slice none 0 0)) (hk:∀G' H' c,RM G0 H0 q2 q3 G' H' (cells.set 37 c)->G.le G'->SlV G' 1 c (d.weak.map Qce)->rm18 (ptr p) (ptr q3) (ptr q2) H' R):rm17 (ptr p) (ptr q3) (ptr q2) H R:=by
 obtain ⟨at_,hf,hi⟩:=own.vecW (Yd (fun x=>Qg _ _))
 rw[List.length_map]at hf
 have hn:=QhE.n_le hf (by decide)
 have hlt:=ht.lt
 unfold rm17
 refine Qbd rs (l:=d.weak) (f:=Qce) (et:=31) hc (by omega) (fun H' R hK hR=>Qah (ht.ext hK.ext) hv hf hR) ?_ hk
 intro i a H' c cells' k ha rs' hc' hcur hil hk'
 have hia:=Q4 ha
 have hby:=hi i _ (by rw[List.getElem?_map,ha];rfl)
 unfold rm17B
 rw[Qm,rs'.ld hc']
 refine Qbj (rs'.tab ht) hv hf hia ?_
 rw[Qb,u64B_at hby]
 exact rs'.push_item hcur (it:=Qce a) rfl rfl (by intro x hx;simp only[Qce,List.mem_cons,List.not_mem_nil,or_false]at hx;subst hx;rfl) (by decide) rfl (by decide) (by omega) (Q4 hc') hk'
theorem rm19_ok (own:QF A bs pos vt 84 ((d.coOwnings.map Qak)=[]) (Qbw (Qeo 8 (d.coOwnings.map Qak)))) (hc:cells[40]?=some (.slice none 0 0)) (hk:∀G' H' c,RM G0 H0 q2 q3 G' H' (cells.set 40 c)->G.le G'->SlV G' 1 c (d.coOwnings.map Qce)->rm20 (ptr p) (ptr q3) (ptr q2) H' R):rm19 (ptr p) (ptr q3) (ptr q2) H R:=by
 obtain ⟨at_,hf,hi⟩:=own.vecW (Yd (fun x=>Qg _ _))
 rw[List.length_map]at hf
 have hn:=QhE.n_le hf (by decide)
 have hlt:=ht.lt
 unfold rm19
 refine Qbd rs (l:=d.coOwnings) (f:=Qce) (et:=31) hc (by omega) (fun H' R hK hR=>Qa2 (ht.ext hK.ext) hv hf hR) ?_ hk
 intro i a H' c cells' k ha rs' hc' hcur hil hk'
 have hia:=Q4 ha
 have hby:=hi i _ (by rw[List.getElem?_map,ha];rfl)
 unfold rm19B
 rw[Qm,rs'.ld hc']
 refine QaC (rs'.tab ht) hv hf hia ?_
 rw[Qb,u64B_at hby]
 exact rs'.push_item hcur (it:=Qce a) rfl rfl (by intro x hx;simp only[Qce,List.mem_cons,List.not_mem_nil,or_false]at hx;subst hx;rfl) (by decide) rfl (by decide) (by omega) (Q4 hc') hk'
theorem rm20_ok (own:QF A bs pos vt 88 ((d.nonOwnings.map Qak)=[]) (Qbw (Qeo 8 (d.nonOwnings.map Qak)))) (hc:cells[42]?=some (.slice none 0 0)) (hk:∀G' H' c,RM G0 H0 q2 q3 G' H' (cells.set 42 c)->G.le G'->SlV G' 1 c (d.nonOwnings.map Qce)->rm21 (ptr p) (ptr q3) (ptr q2) H' R):rm20 (ptr p) (ptr q3) (ptr q2) H R:=by
 obtain ⟨at_,hf,hi⟩:=own.vecW (Yd (fun x=>Qg _ _))
 rw[List.length_map]at hf
 have hn:=QhE.n_le hf (by decide)
 have hlt:=ht.lt
 unfold rm20
 refine Qbd rs (l:=d.nonOwnings) (f:=Qce) (et:=31) hc (by omega) (fun H' R hK hR=>ZV (ht.ext hK.ext) hv hf hR) ?_ hk
 intro i a H' c cells' k ha rs' hc' hcur hil hk'
 have hia:=Q4 ha
 have hby:=hi i _ (by rw[List.getElem?_map,ha];rfl)
 unfold rm20B
 rw[Qm,rs'.ld hc']
 refine Qal (rs'.tab ht) hv hf hia ?_
 rw[Qb,u64B_at hby]
 exact rs'.push_item hcur (it:=Qce a) rfl rfl (by intro x hx;simp only[Qce,List.mem_cons,List.not_mem_nil,or_false]at hx;subst hx;rfl) (by decide) rfl (by decide) (by omega) (Q4 hc') hk'
theorem rm3_ok (own:QF A bs pos vt 22 ((d.test4.map (fun t=>Qao t.a.toNat t.b.toNat))=[]) (Qbw (Qeo 4 (d.test4.map (fun t=>Qao t.a.toNat t.b.toNat))))) (hc:cells[9]?=some (.slice none 0 0)) (hk:∀G' H' c,RM G0 H0 q2 q3 G' H' (cells.set 9 c)->G.le G'->SlV G' 2 c (d.test4.map Zb)->rm4 (ptr p) (ptr q3) (ptr q2) H' R):rm3 (ptr p) (ptr q3) (ptr q2) H R:=by
 obtain ⟨at_,hf,hi⟩:=own.vecW (Yd (fun t:QbB=>Qb1 t.a.toNat t.b.toNat))
 rw[List.length_map]at hf
 have hn:=QhE.n_le hf (by decide)
 have hlt:=ht.lt
 unfold rm3
 refine Qbd rs (l:=d.test4) (f:=Zb) (et:=90) hc (by omega) (fun H' R hK hR=>QdU (ht.ext hK.ext) hv hf hR) ?_ hk
 intro i a H' c cells' k ha rs' hc' hcur hil hk'
 have hia:=Q4 ha
 obtain ⟨b1,b2,b3⟩:=testB_at (hi i _ (by rw[List.getElem?_map,ha];rfl))
 unfold rm3B
 rw[Qx]
 have rs1:=rs'.push (.cells z231 231)
 refine QgA (rs1.tab ht) hv hf hia Qi rfl ?_
 rw[Yc]
 have rs2:=rs'.push (.cells #[bsl B 0 bs.length bs.length,.int .u32 (at_+4*i:Nat)] 231)
 have t2:Tab (H'.push (.cells #[bsl B 0 bs.length bs.length,.int .u32 (at_+4*i:Nat)] 231)) H'.size B bs (at_+4*i):=⟨Qk Qi,Qk Qi,(rs2.tab ht).u8,ht.lt,by omega⟩
 rw[Qm,rs2.ld hc']
 refine QeH t2 (by omega) ?_
 rw[Qb]
 refine QeL t2 (by omega) ?_
 rw[Qb,b2,b3]
 refine Zl (cs:=Zb a) (by kernel_rfl) ?_
 exact rs2.push_item (hcur.push _) (it:=Zb a) rfl rfl (by intro x hx;simp only[Zb,List.mem_cons,List.not_mem_nil,or_false]at hx;rcases hx with rfl|rfl<;>rfl) (by decide) rfl (by decide) (by omega) (Q4 hc') hk'
theorem rm13_ok (own:QF A bs pos vt 66 ((d.test5.map (fun t=>Qao t.a.toNat t.b.toNat))=[]) (Qbw (Qeo 4 (d.test5.map (fun t=>Qao t.a.toNat t.b.toNat))))) (hc:cells[31]?=some (.slice none 0 0)) (hk:∀G' H' c,RM G0 H0 q2 q3 G' H' (cells.set 31 c)->G.le G'->SlV G' 2 c (d.test5.map Zb)->rm14 (ptr p) (ptr q3) (ptr q2) H' R):rm13 (ptr p) (ptr q3) (ptr q2) H R:=by
 obtain ⟨at_,hf,hi⟩:=own.vecW (Yd (fun t:QbB=>Qb1 t.a.toNat t.b.toNat))
 rw[List.length_map]at hf
 have hn:=QhE.n_le hf (by decide)
 have hlt:=ht.lt
 unfold rm13
 refine Qbd rs (l:=d.test5) (f:=Zb) (et:=90) hc (by omega) (fun H' R hK hR=>Qe3 (ht.ext hK.ext) hv hf hR) ?_ hk
 intro i a H' c cells' k ha rs' hc' hcur hil hk'
 have hia:=Q4 ha
 obtain ⟨b1,b2,b3⟩:=testB_at (hi i _ (by rw[List.getElem?_map,ha];rfl))
 unfold rm13B
 rw[Qx]
 have rs1:=rs'.push (.cells z231 231)
 refine Qgf (rs1.tab ht) hv hf hia Qi rfl ?_
 rw[Yc]
 have rs2:=rs'.push (.cells #[bsl B 0 bs.length bs.length,.int .u32 (at_+4*i:Nat)] 231)
 have t2:Tab (H'.push (.cells #[bsl B 0 bs.length bs.length,.int .u32 (at_+4*i:Nat)] 231)) H'.size B bs (at_+4*i):=⟨Qk Qi,Qk Qi,(rs2.tab ht).u8,ht.lt,by omega⟩
 rw[Qm,rs2.ld hc']
 refine QeH t2 (by omega) ?_
 rw[Qb]
 refine QeL t2 (by omega) ?_
 rw[Qb,b2,b3]
 refine Zl (cs:=Zb a) (by kernel_rfl) ?_
 exact rs2.push_item (hcur.push _) (it:=Zb a) rfl rfl (by intro x hx;simp only[Zb,List.mem_cons,List.not_mem_nil,or_false]at hx;rcases hx with rfl|rfl<;>rfl) (by decide) rfl (by decide) (by omega) (Q4 hc') hk'
theorem rm11_ok (own:QF A bs pos vt 62 ((d.abilities.map (fun t=>Z4 t.id.toNat t.dist.toNat))=[]) (Qbw (Qeo 8 (d.abilities.map (fun t=>Z4 t.id.toNat t.dist.toNat))))) (hc:cells[29]?=some (.slice none 0 0)) (hk:∀G' H' c,RM G0 H0 q2 q3 G' H' (cells.set 29 c)->G.le G'->SlV G' 2 c (d.abilities.map QcG)->rm12 (ptr p) (ptr q3) (ptr q2) H' R):rm11 (ptr p) (ptr q3) (ptr q2) H R:=by
 obtain ⟨at_,hf,hi⟩:=own.vecW (Yd (fun t:QgK=>QbZ t.id.toNat t.dist.toNat))
 rw[List.length_map]at hf
 have hn:=QhE.n_le hf (by decide)
 have hlt:=ht.lt
 unfold rm11
 refine Qbd rs (l:=d.abilities) (f:=QcG) (et:=102) hc (by omega) (fun H' R hK hR=>Qad (ht.ext hK.ext) hv hf hR) ?_ hk
 intro i a H' c cells' k ha rs' hc' hcur hil hk'
 have hia:=Q4 ha
 obtain ⟨b1,b2,b3⟩:=abilB_at (hi i _ (by rw[List.getElem?_map,ha];rfl))
 unfold rm11B
 rw[Qx]
 have rs1:=rs'.push (.cells z241 241)
 refine Qb8 (rs1.tab ht) hv hf hia Qi rfl ?_
 rw[Yc]
 have rs2:=rs'.push (.cells #[bsl B 0 bs.length bs.length,.int .u32 (at_+8*i:Nat)] 241)
 have t2:Tab (H'.push (.cells #[bsl B 0 bs.length bs.length,.int .u32 (at_+8*i:Nat)] 241)) H'.size B bs (at_+8*i):=⟨Qk Qi,Qk Qi,(rs2.tab ht).u8,ht.lt,by omega⟩
 rw[Qm,rs2.ld hc']
 refine QhU t2 (by omega) ?_
 rw[Qb]
 refine QeW t2 (by omega) ?_
 rw[Qb,b2,b3]
 refine Zl (cs:=QcG a) (by kernel_rfl) ?_
 exact rs2.push_item (hcur.push _) (it:=QcG a) rfl rfl (by intro x hx;simp only[QcG,List.mem_cons,List.not_mem_nil,or_false]at hx;rcases hx with rfl|rfl<;>rfl) (by decide) rfl (by decide) (by omega) (Q4 hc') hk'
theorem rm4_ok (own:QF A bs pos vt 24 (d.strings=[]) (Qbw (VecTW d.strings StrW))) (hc:cells[10]?=some (.slice none 0 0)) (hk:∀G' H' c,RM G0 H0 q2 q3 G' H' (cells.set 10 c)->G.le G'->SlV G' 1 c (d.strings.map Qhd)->rm5 (ptr p) (ptr q3) (ptr q2) H' R):rm4 (ptr p) (ptr q3) (ptr q2) H R:=by
 obtain ⟨at_,hf,hi⟩:=own.vecTW
 have hn:=QhE.n_le hf (by decide)
 have hlt:=ht.lt
 unfold rm4
 refine Qbd rs (l:=d.strings) (f:=Qhd) (et:=9) hc (by omega) (fun H' R hK hR=>Qb6 (ht.ext hK.ext) hv hf hR) ?_ hk
 intro i a H' c cells' k ha rs' hc' hcur hil hk'
 have hia:=Q4 ha
 obtain ⟨s1,s2⟩:=StrW.at (hi i a ha)
 unfold rm4B
 rw[Qm,rs'.ld hc']
 refine QcE (rs'.tab ht) hv hf hia s1 ?_
 rw[Qb]
 refine (rs'.tab ht).str s2 rfl ?_
 exact rs'.push_item hcur (it:=Qhd a) rfl rfl (by intro x hx;simp only[Qhd,List.mem_cons,List.not_mem_nil,or_false]at hx;subst hx;rfl) (by decide) rfl (by decide) (by omega) (Q4 hc') hk'
theorem rm10_ok (own:QF A bs pos vt 60 (d.strings2=[]) (Qbw (VecTW d.strings2 StrW))) (hc:cells[28]?=some (.slice none 0 0)) (hk:∀G' H' c,RM G0 H0 q2 q3 G' H' (cells.set 28 c)->G.le G'->SlV G' 1 c (d.strings2.map Qhd)->rm11 (ptr p) (ptr q3) (ptr q2) H' R):rm10 (ptr p) (ptr q3) (ptr q2) H R:=by
 obtain ⟨at_,hf,hi⟩:=own.vecTW
 have hn:=QhE.n_le hf (by decide)
 have hlt:=ht.lt
 unfold rm10
 refine Qbd rs (l:=d.strings2) (f:=Qhd) (et:=9) hc (by omega) (fun H' R hK hR=>QaR (ht.ext hK.ext) hv hf hR) ?_ hk
 intro i a H' c cells' k ha rs' hc' hcur hil hk'
 have hia:=Q4 ha
 obtain ⟨s1,s2⟩:=StrW.at (hi i a ha)
 unfold rm10B
 rw[Qm,rs'.ld hc']
 refine Qc6 (rs'.tab ht) hv hf hia s1 ?_
 rw[Qb]
 refine (rs'.tab ht).str s2 rfl ?_
 exact rs'.push_item hcur (it:=Qhd a) rfl rfl (by intro x hx;simp only[Qhd,List.mem_cons,List.not_mem_nil,or_false]at hx;subst hx;rfl) (by decide) rfl (by decide) (by omega) (Q4 hc') hk'
theorem rm16_ok (own:QF A bs pos vt 74 (d.refs=[]) (Qbw (VecTW d.refs RefPW))) (hc:cells[35]?=some (.slice none 0 0)) (hk:∀G' H' c,RM G0 H0 q2 q3 G' H' (cells.set 35 c)->G.le G'->SlV G' 1 c (d.refs.map Qce)->rm17 (ptr p) (ptr q3) (ptr q2) H' R):rm16 (ptr p) (ptr q3) (ptr q2) H R:=by
 obtain ⟨at_,hf,hi⟩:=own.vecTW
 have hn:=QhE.n_le hf (by decide)
 have hlt:=ht.lt
 unfold rm16
 refine Qbd rs (l:=d.refs) (f:=Qce) (et:=31) hc (by omega) (fun H' R hK hR=>QaI (ht.ext hK.ext) hv hf hR) ?_ hk
 intro i a H' c cells' k ha rs' hc' hcur hil hk'
 have hia:=Q4 ha
 obtain ⟨b1,_,b2,vt',b3,b4⟩:=hi i a ha
 unfold rm16B
 rw[Qx]
 have rs1:=rs'.push (.cells z246 246)
 refine QbT (rs1.tab ht) hv hf hia b1 b2 Qi rfl ?_
 rw[Yc]
 have rs2:=rs'.push (.cells #[bsl B 0 bs.length bs.length,.int .u32 (tgt bs (at_+4*i):Nat)] 246)
 have t2:Tab (H'.push (.cells #[bsl B 0 bs.length bs.length,.int .u32 (tgt bs (at_+4*i):Nat)] 246)) H'.size B bs (tgt bs (at_+4*i)):=⟨Qk Qi,Qk Qi,(rs2.tab ht).u8,ht.lt,b2⟩
 rw[Qm,rs2.ld hc']
 refine Qdg t2 b3 b4 ?_
 rw[Qb]
 exact rs2.push_item (hcur.push _) (it:=Qce a) rfl rfl (by intro x hx;simp only[Qce,List.mem_cons,List.not_mem_nil,or_false]at hx;subst hx;rfl) (by decide) rfl (by decide) (by omega) (Q4 hc') hk'
theorem rm18_ok (own:QF A bs pos vt 80 (d.strong=[]) (Qbw (VecTW d.strong RefPW))) (hc:cells[38]?=some (.slice none 0 0)) (hk:∀G' H' c,RM G0 H0 q2 q3 G' H' (cells.set 38 c)->G.le G'->SlV G' 1 c (d.strong.map Qce)->rm19 (ptr p) (ptr q3) (ptr q2) H' R):rm18 (ptr p) (ptr q3) (ptr q2) H R:=by
 obtain ⟨at_,hf,hi⟩:=own.vecTW
 have hn:=QhE.n_le hf (by decide)
 have hlt:=ht.lt
 unfold rm18
 refine Qbd rs (l:=d.strong) (f:=Qce) (et:=31) hc (by omega) (fun H' R hK hR=>Qa3 (ht.ext hK.ext) hv hf hR) ?_ hk
 intro i a H' c cells' k ha rs' hc' hcur hil hk'
 have hia:=Q4 ha
 obtain ⟨b1,_,b2,vt',b3,b4⟩:=hi i a ha
 unfold rm18B
 rw[Qx]
 have rs1:=rs'.push (.cells z246 246)
 refine QaJ (rs1.tab ht) hv hf hia b1 b2 Qi rfl ?_
 rw[Yc]
 have rs2:=rs'.push (.cells #[bsl B 0 bs.length bs.length,.int .u32 (tgt bs (at_+4*i):Nat)] 246)
 have t2:Tab (H'.push (.cells #[bsl B 0 bs.length bs.length,.int .u32 (tgt bs (at_+4*i):Nat)] 246)) H'.size B bs (tgt bs (at_+4*i)):=⟨Qk Qi,Qk Qi,(rs2.tab ht).u8,ht.lt,b2⟩
 rw[Qm,rs2.ld hc']
 refine Qdg t2 b3 b4 ?_
 rw[Qb]
 exact rs2.push_item (hcur.push _) (it:=Qce a) rfl rfl (by intro x hx;simp only[Qce,List.mem_cons,List.not_mem_nil,or_false]at hx;subst hx;rfl) (by decide) rfl (by decide) (by omega) (Q4 hc') hk'
theorem rm23_ok (own:QF A bs pos vt 98 ((d.enums.map fun b=>[b])=[]) (Qbw (Qeo 1 (d.enums.map fun b=>[b])))) (hc:cells[49]?=some (QW [])) (hk:∀H',RM G0 H0 q2 q3 G H' (cells.set 49 (QW d.enums))->rm24 (ptr q3) (ptr q2) H' R):rm23 (ptr p) (ptr q3) (ptr q2) H R:=by
 obtain ⟨at_,hf,hi⟩:=own.vecW (Yd (fun b:UInt8=>(rfl:[b].length=1)) (l:=d.enums))
 rw[List.length_map]at hf
 have hn:=QhE.n_le hf (by decide)
 have hlt:=ht.lt
 unfold rm23
 refine Qi3 rs (xs:=d.enums) hc (by omega) (fun H' R hK hR=>QbR (ht.ext hK.ext) hv hf hR) ?_ hk
 intro i b H' cells' k hb rs' hc' hl hk'
 have hil:=Q4 hb
 have hbv:byteN bs (at_+1*i)=b.toNat:=by
  have:=(hi i [b] (by rw[List.getElem?_map,hb];rfl)).byte (i:=0) Nat.zero_lt_one
  rw[Nat.add_zero]at this
  rw[this];rfl
 unfold rm23B
 rw[Qm,rs'.ld hc']
 refine Qdp (rs'.tab ht) hv hf hil ?_
 rw[Qb,hbv]
 exact rs'.push_byte rfl hl (Q4 hc') hk'
end
end Go.Proofs
namespace Go.Proofs
open Go Go.Vc
open Tryz (prog)
def colR (amb:Bool) (ty color:UInt8):UInt8:=if amb=false/\ty=2 then color else 0
def rdD (d:QaM):QaM:={d with f:=flU d.f 1078530000,f2:=flU d.f2 1077936128,f3:=flU d.f3 0,testColor:=colR false d.testTy d.testColor,uniqColor:=colR false d.uniqTy d.uniqColor,ambColor:=colR true d.ambTy d.ambColor}
def rdU (amb:Bool) (ty:UInt8) (ks:List GM):List GM:=if ty=0\/(amb=false/\ty=2) then [] else ks
mutual
def rdM:Mon->GM
 |.mk d tables enemy test uniq amb=>.mk (rdD d) d.pos.toList d.empty.toList (rdMs tables) (rd1 enemy) (rdU false d.testTy (rd1 test)) (rdU false d.uniqTy (rd1 uniq)) (rdU true d.ambTy (rd1 amb))
def rdMs:List Mon->List GM
 |[]=>[]
 |m::ms=>rdM m::rdMs ms
def rd1:List Mon->List GM
 |[]=>[]
 |m::_=>[rdM m]
end
theorem rdMs_map:∀ms,rdMs ms=ms.map rdM
 |[]=>by rw[rdMs];rfl
 |m::ms=>by rw[rdMs,rdMs_map ms];rfl
def rwD (d:QaM):QaM:={d with testColor:=colR false d.testTy d.testColor,uniqColor:=colR false d.uniqTy d.uniqColor,ambColor:=colR true d.ambTy d.ambColor}
mutual
def rwM:Mon->GM
 |.mk d tables enemy test uniq amb=>.mk (rwD d) d.pos.toList d.empty.toList (rwMs tables) (rw1 enemy) (rdU false d.testTy (rw1 test)) (rdU false d.uniqTy (rw1 uniq)) (rdU true d.ambTy (rw1 amb))
def rwMs:List Mon->List GM
 |[]=>[]
 |m::ms=>rwM m::rwMs ms
def rw1:List Mon->List GM
 |[]=>[]
 |m::_=>[rwM m]
end
theorem rwMs_map:∀ms,rwMs ms=ms.map rwM
 |[]=>by rw[rwMs];rfl
 |m::ms=>by rw[rwMs,rwMs_map ms];rfl
mutual
theorem rw_fl:∀m:Mon,rwM (flM m)=rdM m
 |.mk d tables enemy test uniq amb=>by
  rw[flM,rwM,rdM,rws_fl tables,rw1_fl enemy,rw1_fl test,rw1_fl uniq,rw1_fl amb]
  rfl
theorem rws_fl:∀ms:List Mon,rwMs (Qh2 ms)=rdMs ms
 |[]=>by rw[Qh2,rwMs,rdMs]
 |m::ms=>by rw[Qh2,rwMs,rdMs,rw_fl m,rws_fl ms]
theorem rw1_fl:∀ms:List Mon,rw1 (Qh2 ms)=rd1 ms
 |[]=>by rw[Qh2,rw1,rd1]
 |m::ms=>by rw[Qh2,rw1,rd1,rw_fl m]
end
def Qea (m:Mon):Prop:=∀(A p B pos:Nat) (bs:List UInt8) (G:Cut) (H:Qe) (R:Kn),Tab H p B bs pos->G.In H->RwM m A bs pos->
 (∀v H' G',Ext G H G' H'->QcX G' (rwM m) v->R (.agg v.toArray) H')->FnS prog 56 #[ptr p] H R
theorem QcX.one {F:Cut} {g:GM} {x:List Value} (h:QcX F g x):∀v∈x,v.oneCell'=true:=by
 cases g with
 |mk d pos empty tables enemy test uniq amb=>
  rw[QcX]at h
  obtain ⟨c,rfl,g,⟨_,a1,_⟩,⟨_,a2,_⟩,⟨_,a3,_⟩,⟨_,a4,_⟩,⟨_,a5,_⟩⟩:=h
  intro v hv
  simp only[YK,List.mem_cons,List.not_mem_nil,or_false]at hv
  rcases hv with rfl|rfl|rfl|rfl|rfl|rfl|rfl|rfl|rfl|rfl|rfl|rfl|rfl|rfl|rfl|rfl|rfl|rfl|rfl|rfl|rfl|rfl|rfl|rfl|rfl|rfl|rfl|rfl|rfl|rfl|rfl|rfl|rfl|rfl|rfl|rfl|rfl|rfl|rfl|rfl|rfl|rfl|rfl|rfl|rfl|rfl|rfl|rfl|rfl|rfl|rfl
  all_goals first
   |rfl
   |exact g.pos.one|exact g.test4.one|exact g.strings.one|exact g.empty.one|exact g.bools.one|exact g.strings2.one|exact g.abil.one|exact g.test5.one|exact g.longs.one|exact g.doubles.one|exact g.refs.one|exact g.weak.one|exact g.strong.one|exact g.coOwnings.one|exact g.nonOwnings.one
   |exact a1.one|exact a2.one|exact a3.one|exact a4.one|exact a5.one
theorem RS.put_item {G0:Cut} {H0:Qe} {t:TypeId} {ob:Obj} {q2 q3:Nat} {G:Cut} {H:Qe} {cells:List Value} (rs:RS G0 H0 t ob q2 q3 G H cells) {fld es:Nat} {et:TypeId} {zs:Array Value} {v:Value} {it:List Value} (hv:v.cells.toList=it) (hl:it.length=es) (hz:zs.size=es) (hf:fld<cells.length) {k:Qe->Prop}
  (hk:∀G' H' c,RS G0 H0 t ob q2 q3 G' H' (cells.set fld c)->G.le G'->SlV G' es c [it]->k H'):
  Q8 H et 1 (YY zs.toList 1) [(0,es,v)] fun y h2=>Qf (.pointer (some ⟨q3,0,none⟩)) fld fun a=>StK h2 1 a y k:=by
 have hvs:v.cells.size=es:=by rw[<-hl,<-hv];simp
 have hfill:YN (YY zs.toList 1) [(0,es,v)]=some it:=by
  show (if v.cells.size=es/\0+v.cells.size<=(YY zs.toList 1).length then _ else _)=_
  have hrl:(YY zs.toList 1).length=es:=by simp[YY,hz]
  rw[if_pos ⟨hvs,by rw[hrl];omega⟩]
  show some _=_
  rw[hv,hvs,Nat.zero_add,List.drop_eq_nil_of_le (by omega)];simp
 unfold Q8
 simp only[hfill]
 have hone':∀x∈[it],x.length=es:=fun x hx=>by
  have:x=it:=by simpa using hx
  rw[this];exact hl
 have rs1:RS G0 H0 t ob q2 q3 (G.upd H.size (.cells it.toArray et (0,0))) (H.push (.cells it.toArray et (0,0))) cells:=⟨rs.ext.pushG _,rs.o2.pushG _,rs.o3.pushG _,rs.ne⟩
 refine rs1.store hf rfl ?_
 intro H2 rs2 _
 refine hk _ _ _ rs2 (Cut.le_upd (rs.ext.inn.none (Nat.le_refl _))) ⟨hone',Or.inr ⟨H.size,0,1,it.toArray,et,(0,0),rfl,Cut.upd_same,by simp[hl],by simp[<-hl],Nat.le_refl _⟩⟩
theorem RS.store3 {G0:Cut} {H0:Qe} {t:TypeId} {ob:Obj} {q2 q3:Nat} {G:Cut} {H:Qe} {cells:List Value} (rs:RS G0 H0 t ob q2 q3 G H cells) {i:Nat} {a b c:Value} (hi:i+3<=cells.length) (ha:a.oneCell'=true) (hb:b.oneCell'=true) (hc:c.oneCell'=true) {kp:Qe->Prop}
  (hk:∀H',RS G0 H0 t ob q2 q3 G H' (((cells.set i a).set (i+1) b).set (i+2) c)->H'=setB H q3 (.cells (((cells.set i a).set (i+1) b).set (i+2) c).toArray t (0,0))->kp H'):
  Qf (.pointer (some ⟨q3,0,none⟩)) i fun x=>StK H 3 x (.agg #[a,b,c]) kp:=by
 rw[Qm]
 unfold StK
 refine ⟨rfl,_,QdI (b:=q3) (e:=t) (fr:=(0,0)) [a,b,c] (H:=H) (l:=cells) (o:=i) (i:=0) rs.o3.get (by intro v hv;simp at hv;rcases hv with rfl|rfl|rfl<;>assumption) (by simp;omega) (by simp),?_⟩
 have e:QaF cells (i+0) [a,b,c]=((cells.set i a).set (i+1) b).set (i+2) c:=rfl
 show kp (setB H q3 (.cells (QaF cells (i+0) [a,b,c]).toArray t (0,0)))
 rw[e]
 exact hk _ ⟨rs.ext.set rs.o3.out rs.o3.new _,rs.o2.set_ne rs.ne _,rs.o3.set _,rs.ne⟩ rfl
theorem fill_vec3 (v:Qa9):YN z85.toList [(0,1,Qaw v.x),(1,1,Qaw v.y),(2,1,Qaw v.z),(3,1,QO v.t1),(4,1,u8n v.t2),(5,1,Qdn v.a),(6,1,i8V v.b)]=some (ZP v):=by kernel_rfl
theorem fill_stat (v:ZU):YN z96.toList [(0,1,QW v.id),(1,1,QfW v.val),(2,1,u16V v.count)]=some (Zn v):=by kernel_rfl
section
variable {A p B pos vt:Nat} {bs:List UInt8} {d:QaM} {G0:Cut} {H0:Qe} (ht:Tab H0 p B bs pos) (hv:VT bs pos vt) {q2 q3:Nat} {G:Cut} {H:Qe} {cells:List Value} (rs:RM G0 H0 q2 q3 G H cells) {R:Kn}
include ht hv rs
theorem rm1_ok (own:QF A bs pos vt 4 (d.pos=none) (posW d.pos)) (hc:cells[0]?=some (.slice none 0 0)) (hk:∀G' H' c,RM G0 H0 q2 q3 G' H' (cells.set 0 c)->G.le G'->SlV G' 7 c (d.pos.toList.map ZP)->rm2 (ptr p) (ptr q3) (ptr q2) H' R):rm1 (ptr p) (ptr q3) (ptr q2) H R:=by
 unfold rm1
 refine Q2 (fun _ h=>∃G' c,RM G0 H0 q2 q3 G' h (cells.set 0 c)/\G.le G'/\SlV G' 7 c (d.pos.toList.map ZP)) ?_ (fun _ h hh=>by obtain ⟨G',c,h1,h2,h3⟩:=hh;exact hk G' h c h1 h2 h3)
 refine Qhm (rs.tab ht) hv (fun h0=>?_) (fun h1=>?_)
 ·rw[Yx (by kernel_rfl)]
  show IfK (.bool false) _ _
  rw[YQ,own.zero h0]
  exact ⟨G,_,by rw[QaH hc];exact rs,Cut.le_refl _,SlV.nil _ _⟩
 ·obtain ⟨hn,hq⟩:=own.got h1
  cases hp:d.pos with
  |none=>exact absurd hp hn
  |some v=>
   rw[hp]at hq
   have hq:Yp bs (pos+slotAt bs vt 4) (Qff v):=hq
   obtain ⟨e0,e1,e2,e3,e4,e5,e6,e7⟩:=vec3_at (v:=v) hq
   refine ⟨by omega,?_⟩
   rw[Yx (by kernel_rfl)]
   show IfK (.bool true) _ _
   rw[Qbs]
   have rs1:=rs.push (.cells #[bsl B 0 bs.length bs.length,.int .u32 (pos+slotAt bs vt 4:Nat)] 297)
   have t1:Tab (H.push (.cells #[bsl B 0 bs.length bs.length,.int .u32 (pos+slotAt bs vt 4:Nat)] 297)) H.size B bs (pos+slotAt bs vt 4):=⟨Qk Qi,Qk Qi,(rs1.tab ht).u8,ht.lt,by omega⟩
   generalize H.push (.cells #[bsl B 0 bs.length bs.length,.int .u32 (pos+slotAt bs vt 4:Nat)] 297)=H1 at *
   refine Qif t1 (by omega) ?_
   have rs2:=rs1.push (.cells #[bsl B 0 bs.length bs.length,.int .u32 (pos+slotAt bs vt 4+26:Nat)] 231)
   have t2:=Tab.push t1 (.cells #[bsl B 0 bs.length bs.length,.int .u32 (pos+slotAt bs vt 4+26:Nat)] 231)
   have t3:Tab (H1.push (.cells #[bsl B 0 bs.length bs.length,.int .u32 (pos+slotAt bs vt 4+26:Nat)] 231)) H1.size B bs (pos+slotAt bs vt 4+26):=⟨Qk Qi,Qk Qi,t2.u8,ht.lt,by omega⟩
   generalize H1.push (.cells #[bsl B 0 bs.length bs.length,.int .u32 (pos+slotAt bs vt 4+26:Nat)] 231)=H2 at *
   refine Example_Vec3_X t2 (by omega) ?_
   refine QY (fun w=>Qs) ?_
   refine Example_Vec3_Y t2 (by omega) ?_
   refine QY (fun w=>Qs) ?_
   refine Example_Vec3_Z t2 (by omega) ?_
   refine QY (fun w=>Qs) ?_
   refine Qi0 t2 (by omega) ?_
   refine QY (fun w=>Qe6) ?_
   refine QhY t2 (by omega) ?_
   refine QeH t3 (by omega) ?_
   refine QeL t3 (by omega) ?_
   rw[e1,e2,e3,e4,e5,show pos+slotAt bs vt 4+26+0=pos+slotAt bs vt 4+26 from rfl,e6,show pos+slotAt bs vt 4+26+2=pos+slotAt bs vt 4+28 from rfl,e7]
   have hb:=fill_vec3 v
   unfold Qu
   simp only[hb]
   refine rs2.put_item (v:=.agg (ZP v).toArray) (it:=ZP v) rfl rfl rfl (Q4 hc) ?_
   intro G' H' c rs3 hle sl
   exact ⟨G',c,rs3,hle,sl⟩
theorem rm8_ok (own:QF A bs pos vt 32 (d.empty=none) (Qbw (fun A bs p=>∀s,d.empty=some s->StatW s A bs p))) (hc:cells[14]?=some (.slice none 0 0)) (hk:∀G' H' c,RM G0 H0 q2 q3 G' H' (cells.set 14 c)->G.le G'->SlV G' 3 c (d.empty.toList.map Zn)->rm9 (ptr p) (ptr q3) (ptr q2) H' R):rm8 (ptr p) (ptr q3) (ptr q2) H R:=by
 unfold rm8
 refine Q2 (fun _ h=>∃G' c,RM G0 H0 q2 q3 G' h (cells.set 14 c)/\G.le G'/\SlV G' 3 c (d.empty.toList.map Zn)) ?_ (fun _ h hh=>by obtain ⟨G',c,h1,h2,h3⟩:=hh;exact hk G' h c h1 h2 h3)
 refine QeC (rs.tab ht) hv (fun h0=>?_) (fun h1=>?_)
 ·rw[Yx (by kernel_rfl)]
  show IfK (.bool false) _ _
  rw[YQ,own.zero h0]
  exact ⟨G,_,by rw[QaH hc];exact rs,Cut.le_refl _,SlV.nil _ _⟩
 ·obtain ⟨hn,hq⟩:=own.got h1
  cases hp:d.empty with
  |none=>exact absurd hp hn
  |some s=>
   obtain ⟨q1,_,q2',q3'⟩:=hq
   obtain ⟨vt',s1,s2,s3,s4⟩:=q3' s hp
   refine ⟨q1,q2',?_⟩
   rw[Yx (by kernel_rfl)]
   show IfK (.bool true) _ _
   rw[Qbs]
   have rs1:=rs.push (.cells #[bsl B 0 bs.length bs.length,.int .u32 (tgt bs (pos+slotAt bs vt 32):Nat)] 300)
   have t1:Tab (H.push (.cells #[bsl B 0 bs.length bs.length,.int .u32 (tgt bs (pos+slotAt bs vt 32):Nat)] 300)) H.size B bs (tgt bs (pos+slotAt bs vt 32)):=⟨Qk Qi,Qk Qi,(rs1.tab ht).u8,ht.lt,q2'⟩
   generalize H.push (.cells #[bsl B 0 bs.length bs.length,.int .u32 (tgt bs (pos+slotAt bs vt 32):Nat)] 300)=H1 at *
   obtain ⟨w1,w2⟩:=s2.there
   obtain ⟨w3,w4⟩:=StrW.at w2
   refine Example_Stat_Id t1 s1 (fun h=>absurd h w1) (fun _=>⟨_,w3,?_⟩)
   refine t1.str w4 rfl ?_
   refine Qjk t1 s1 s3 ?_
   rw[Qb]
   refine QhR t1 s1 s4 ?_
   rw[Qb]
   refine Zl (fill_stat s) ?_
   refine rs1.put_item (v:=.agg (Zn s).toArray) (it:=Zn s) rfl rfl rfl (Q4 hc) ?_
   intro G' H' c rs3 hle sl
   exact ⟨G',c,rs3,hle,sl⟩
theorem rm6_ok {enemy:List Mon} (hE:∀k∈enemy,Qea k) (own:QF A bs pos vt 28 (enemy=[]) (Qbw (Rw1 enemy))) (hc:cells[12]?=some (.slice none 0 0)) (hk:∀G' H' c,RM G0 H0 q2 q3 G' H' (cells.set 12 c)->G.le G'->QfQ G' (rw1 enemy) c->rm7 (ptr p) (ptr q3) (ptr q2) H' R):rm6 (ptr p) (ptr q3) (ptr q2) H R:=by
 unfold rm6
 refine Q2 (fun _ h=>∃G' c,RM G0 H0 q2 q3 G' h (cells.set 12 c)/\G.le G'/\QfQ G' (rw1 enemy) c) ?_ (fun _ h hh=>by obtain ⟨G',c,h1,h2,h3⟩:=hh;exact hk G' h c h1 h2 h3)
 refine Qgj (rs.tab ht) hv (fun h0=>?_) (fun h1=>?_)
 ·rw[Yx (by kernel_rfl)]
  show IfK (.bool false) _ _
  have he:=own.zero h0
  subst he
  rw[YQ,rw1]
  exact ⟨G,_,by rw[QaH hc];exact rs,Cut.le_refl _,[],SlV.nil _ _,by rw[Zz];trivial⟩
 ·obtain ⟨hn,q1,_,q2',q3'⟩:=own.got h1
  refine ⟨q1,q2',?_⟩
  rw[Yx (by kernel_rfl)]
  show IfK (.bool true) _ _
  rw[Qbs]
  have rs1:=rs.push (.cells #[bsl B 0 bs.length bs.length,.int .u32 (tgt bs (pos+slotAt bs vt 28):Nat)] 235)
  have t1:Tab (H.push (.cells #[bsl B 0 bs.length bs.length,.int .u32 (tgt bs (pos+slotAt bs vt 28):Nat)] 235)) H.size B bs (tgt bs (pos+slotAt bs vt 28)):=⟨Qk Qi,Qk Qi,(rs1.tab ht).u8,ht.lt,q2'⟩
  generalize H.push (.cells #[bsl B 0 bs.length bs.length,.int .u32 (tgt bs (pos+slotAt bs vt 28):Nat)] 235)=H1 at *
  cases enemy with
  |nil=>exact absurd rfl hn
  |cons m ms=>
   rw[Rw1]at q3'
   refine hE m List.mem_cons_self A _ B _ bs G H1 _ t1 rs1.ext.inn q3' ?_
   intro v H2 G2 e2 hv2
   refine (rs1.next e2).put_item (v:=.agg v.toArray) (it:=v) rfl hv2.len rfl (Q4 hc) ?_
   intro G' H' c rs3 hle sl
   exact ⟨G',c,rs3,Cut.le_trans e2.le hle,[v],sl,by rw[rw1,Zz];exact ⟨hv2.mono hle,by rw[Zz];trivial⟩⟩
theorem rm5_ok {tables:List Mon} (hT:∀k∈tables,Qea k) (own:QF A bs pos vt 26 (tables=[]) (Qbw (fun A bs t=>VecPW 4 tables.length A bs t/\RwL tables A bs (t+4)))) (hc:cells[11]?=some (.slice none 0 0)) (hk:∀G' H' c,RM G0 H0 q2 q3 G' H' (cells.set 11 c)->G.le G'->QfQ G' (rwMs tables) c->rm6 (ptr p) (ptr q3) (ptr q2) H' R):rm5 (ptr p) (ptr q3) (ptr q2) H R:=by
 obtain ⟨at_,hf,hi⟩:∃at_,QhE 4 bs pos vt 26 tables.length at_/\∀(i:Nat) a,tables[i]?=some a->Qbw (RwM a) A bs (at_+4*i):=by
  rcases own with ⟨h1,h2⟩|⟨h1,_,h3⟩
  ·subst h2
   exact ⟨0,Or.inl ⟨h1,rfl⟩,fun i x h=>by simp at h⟩
  ·obtain ⟨q1,q2,q3,⟨v1,v4⟩,q5⟩:=h3
   exact ⟨tgt bs (pos+slotAt bs vt 26)+4,Or.inr ⟨h1,q1,rfl,v4,v1,by omega⟩,RwL_get tables q5⟩
 have hn:=QhE.n_le hf (by decide)
 have hlt:=ht.lt
 unfold rm5
 refine app_loop rs (et:=52) (es:=51) (n:=tables.length) (fun G1 i items=>Zz G1 ((rwMs tables).take i) items) (by rw[List.take_zero,Zz];trivial) hc (by omega) (fun H' R hK hR=>QaX (ht.ext hK.ext) hv hf hR) ?_ ?_
 ·intro i G1 H' c cells' items k hlt' hle rs' hc' hcur hI hk'
  have ha:=List.getElem?_eq_getElem hlt'
  obtain ⟨b1,_,b2,b3⟩:=hi i _ ha
  have hil:items.length<tables.length:=by
   have:=Zz.len hI
   rw[<-this,List.length_take,rwMs_map,List.length_map];omega
  unfold rm5B
  rw[Qx]
  have rs1:=rs'.push (.cells z235 235)
  refine Qcy (rs1.tab ht) hv hf hlt' b1 b2 Qi rfl ?_
  rw[Yc]
  have rs2:=rs'.push (.cells #[bsl B 0 bs.length bs.length,.int .u32 (tgt bs (at_+4*i):Nat)] 235)
  have t2:Tab (H'.push (.cells #[bsl B 0 bs.length bs.length,.int .u32 (tgt bs (at_+4*i):Nat)] 235)) H'.size B bs (tgt bs (at_+4*i)):=⟨Qk Qi,Qk Qi,(rs2.tab ht).u8,ht.lt,b2⟩
  have hcur2:=hcur.push (.cells #[bsl B 0 bs.length bs.length,.int .u32 (tgt bs (at_+4*i):Nat)] 235)
  generalize H'.push (.cells #[bsl B 0 bs.length bs.length,.int .u32 (tgt bs (at_+4*i):Nat)] 235)=H1 at *
  rw[Qm,rs2.ld hc']
  refine hT _ (List.mem_of_getElem? ha) A _ B _ bs G1 H1 _ t2 rs2.ext.inn b3 ?_
  intro v H2 G2 e2 hv2
  refine Qq e2.keep.ext ?_
  refine (rs2.next e2).push_item (hcur2.ext e2) (v:=.agg v.toArray) (it:=v) rfl hv2.len (QcX.one hv2) (by decide) rfl (by decide) (by omega) (Q4 hc') ?_
  intro H3 c3 rs3 hcur3
  refine hk' G2 H3 c3 _ e2.le rs3 hcur3 ?_
  have hr:(rwMs tables)[i]?=some (rwM tables[i]):=by rw[rwMs_map,List.getElem?_map,ha];rfl
  rw[QeT hr]
  exact Zz.snoc (Zz.mono e2.le hI) hv2
 ·intro G' G1 H' c items rs' hle sl hI hle1
  refine hk G' H' c rs' hle ⟨items,sl,?_⟩
  have:(rwMs tables).take tables.length=rwMs tables:=by
   apply List.take_of_length_le
   rw[rwMs_map,List.length_map];exact Nat.le_refl _
  rw[this]at hI
  exact Zz.mono hle1 hI
end
end Go.Proofs
