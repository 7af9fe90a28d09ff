/- WHAT IS PROVED: the given statement of FnMonsterRead, whatever the input: this is part 9 of 13. No conditions. -/
import Derived.Test.YtihojnnfjoldnaaGreatX08
set_option linter.all false
namespace Go.Proofs
open Go Go.Vc
open Tryz (prog)
set_option maxRecDepth 100000
def s7 (e f:Value) (h:Qf) (R:Kn):Prop:=
 YO h (.cells (Value.cells e) 52) fun g i=>
 YO i (.cells (Value.cells f) 3) fun j l=>
 YO l (.cells z9 9) fun a m=>
 Qa prog 16 #[(.func (.func 17) #[] #[j,g,a])] m fun o b=>
 Z1 prog (Op.unary .not o) fun p=>
 Z1 prog (Op.unary .not p) fun q=>
 IfK q
 (StK b 1 a (.string ⟨#[]⟩) fun c=>
 LdK c a fun r=>
 R (.tuple #[r,(.bool false)]) c)
 (LdK b a fun s=>
 StK b 1 a s fun d=>
 LdK d a fun t=>
 R (.tuple #[t,(.bool true)]) d)
theorem w7 {a b h R} (H:s7 a b h R):FnS prog 7 #[a,b] h R:=wq Tryz.func7 (by kernel_rfl) H
def s9 (e:Value) (h:Qf) (R:Kn):Prop:=
 YO h (.cells (Value.cells e) 9) fun f g=>
 YO g (.cells z52 52) fun a i=>
 Qa prog 16 #[(.func (.func 38) #[] #[f,a])] i fun j b=>
 Z1 prog (Op.unary .not j) fun l=>
 Z1 prog (Op.unary .not l) fun m=>
 IfK m
 (QQ z52.toList [] fun o=>
 StK b 51 a o fun c=>
 LdN c 51 a fun p=>
 R (.tuple #[p,(.bool false)]) c)
 (LdN b 51 a fun q=>
 StK b 51 a q fun d=>
 LdN d 51 a fun r=>
 R (.tuple #[r,(.bool true)]) d)
theorem w9 {a h R} (H:s9 a h R):FnS prog 9 #[a] h R:=wq Tryz.func9 (by kernel_rfl) H
def s17 (d e f:Value) (h:Qf) (R:Kn):Prop:=
 LdK h d fun g=>
 Qa prog 18 #[g] h fun a b=>
 LdN b 51 e fun i=>
 Qa prog 20 #[i] b fun j l=>
 Qa prog 21 #[j,a] l fun m o=>
 Qa prog 19 #[a,m] o fun _x11 p=>
 Qa prog 22 #[a] p fun q c=>
 B2SK c q fun r=>
 StK c 1 f r fun s=>
 R (.tuple #[]) s
theorem w17 {a b c h R} (H:s17 a b c h R):FnS prog 17 #[a,b,c] h R:=wq Tryz.func17 (by kernel_rfl) H
def ob12 (a:Value) (b:Qf) (R:Kn):Prop:=
 R a b
def ob11 (e:Value) (c:Value) (l:Qf) (R:Kn):Prop:=
 QO (fun d=>
 Y6 [(.int .i64 0)] l fun f g=>∀b:Value,∀a:Qf,f g [b] a->
 Qg e 49 fun m=>
 LdK a m fun o=>
 Qfo o fun p=>
 Ql prog .lss 3 b p fun q=>
 IfK q
 (Qs c fun r=>
 Qg r 43 fun s=>
 LdK a s fun t=>
 Qg e 49 fun u=>
 LdK a u fun v=>
 Z1 prog (Instr.index 9 v b) fun w=>
 Ya a 136 1 (ZA z136.toList 1) [(0,1,w)] fun y i=>
 Qn a i<|
 QdL i 136 1 1 z136 t y fun z a0=>
 Qs c fun a1=>
 Qg a1 43 fun a2=>
 StK a0 1 a2 z fun a3=>
 Ql prog .add 3 b (.int .i64 1) fun a4=>
 Yb f g [a4] a3)
 (d [b] a)) fun d=>∀a5:Value,∀j:Qf,d [a5] j->
 ob12 c j R
def ob10 (b:Value) (d:Value) (a:Qf) (R:Kn):Prop:=
 QO (fun c=>
 Qg b 46 fun g=>
 Qg g 0 fun i=>
 LdK a i fun j=>
 Ql prog .neq 5 j (.int .u8 0) fun l=>
 IfK l
 (Qg b 46 fun m=>
 Qg m 0 fun o=>
 LdK a o fun p=>
 Qg b 46 fun q=>
 LdN a 3 q fun r=>
 Qa prog 82 #[r] a fun s e=>
 Qn a e<|
 QQ z177.toList [(0,1,p),(1,1,(.iface 69 s))] fun t=>
 YO e (.cells (Value.cells t) 177) fun u v=>
 Qs d fun w=>
 Qg w 42 fun y=>
 StK v 1 y u fun z=>
 c [] z)
 (c [] a)) fun c=>∀f:Qf,c [] f->
 ob11 b d f R
def ob9 (b:Value) (d:Value) (a:Qf) (R:Kn):Prop:=
 QO (fun c=>
 Qg b 43 fun g=>
 Qg g 0 fun i=>
 LdK a i fun j=>
 Ql prog .neq 5 j (.int .u8 0) fun l=>
 IfK l
 (Qg b 43 fun m=>
 Qg m 0 fun o=>
 LdK a o fun p=>
 Qg b 43 fun q=>
 LdN a 3 q fun r=>
 Qa prog 81 #[r] a fun s e=>
 Qn a e<|
 QQ z173.toList [(0,1,p),(1,1,s)] fun t=>
 YO e (.cells (Value.cells t) 173) fun u v=>
 Qs d fun w=>
 Qg w 41 fun y=>
 StK v 1 y u fun z=>
 c [] z)
 (c [] a)) fun c=>∀f:Qf,c [] f->
 ob10 b d f R
def ob8 (b:Value) (d:Value) (a:Qf) (R:Kn):Prop:=
 QO (fun c=>
 Qg b 6 fun g=>
 Qg g 0 fun i=>
 LdK a i fun j=>
 Ql prog .neq 5 j (.int .u8 0) fun l=>
 IfK l
 (Qg b 6 fun m=>
 Qg m 0 fun o=>
 LdK a o fun p=>
 Qg b 6 fun q=>
 LdN a 3 q fun r=>
 Qa prog 81 #[r] a fun s e=>
 Qn a e<|
 QQ z170.toList [(0,1,p),(1,1,s)] fun t=>
 YO e (.cells (Value.cells t) 170) fun u v=>
 Qs d fun w=>
 Qg w 6 fun y=>
 StK v 1 y u fun z=>
 c [] z)
 (c [] a)) fun c=>∀f:Qf,c [] f->
 ob9 b d f R
def ob7 (c:Value) (d:Value) (b:Qf) (R:Kn):Prop:=
 QO (fun a=>
 Qg c 34 fun f=>
 LdK b f fun g=>
 IfK g
 (QQ z166.toList [] fun i=>
 YO b (.cells (Value.cells i) 166) fun j l=>
 Qs d fun m=>
 Qg m 32 fun o=>
 StK l 1 o j fun p=>
 a [] p)
 (a [] b)) fun a=>∀e:Qf,a [] e->
 ob8 c d e R
def ob6B (b:Value) (d:Value) (e:Value) (a:Qf) (k:Qf->Prop):Prop:=
 Yn 1 d e fun f=>
 LdK a f fun g=>
 Qs b fun i=>
 Qg i 31 fun j=>
 LdK a j fun l=>
 Qbc prog 80 #[g] fun m=>
 Ya a 156 1 (ZA z156.toList 1) [(0,1,m)] fun o c=>
 Qn a c<|
 QdL c 156 1 8 z156 l o fun p q=>
 Qs b fun r=>
 Qg r 31 fun s=>
 StK q 1 s p fun t=>
 k t
def ob6 (a:Value) (b:Value) (c:Qf) (R:Kn):Prop:=
 QeK prog 3 a 33 c (ob6B b) fun d=>ob7 a b d R
def ob5B (d:Value) (g:Value) (i:Value) (e:Qf) (k:Qf->Prop):Prop:=
 Yn 2 g i fun j=>
 LdN e 2 j fun l=>
 YO e (.cells z96 96) fun b m=>
 StK m 2 b l fun a=>
 Qs d fun o=>
 Qg o 27 fun p=>
 LdK a p fun q=>
 Qg b 0 fun r=>
 LdK a r fun s=>
 Qg b 1 fun t=>
 LdK a t fun u=>
 QQ z164.toList [(0,1,s),(1,1,u)] fun v=>
 YO a (.cells (Value.cells v) 164) fun w c=>
 Qn a c<|
 Ya c 163 1 (ZA z163.toList 1) [(0,1,w)] fun y f=>
 Qn c f<|
 QdL f 163 1 8 z163 q y fun z a0=>
 Qs d fun a1=>
 Qg a1 27 fun a2=>
 StK a0 1 a2 z fun a3=>
 k a3
def ob5 (a:Value) (b:Value) (c:Qf) (R:Kn):Prop:=
 QeK prog 3 a 29 c (ob5B b) fun d=>ob6 a b d R
def ob4B (d:Value) (e:Value) (f:Value) (c:Qf) (k:Qf->Prop):Prop:=
 Yn 3 e f fun g=>
 LdN c 3 g fun i=>
 YO c (.cells z90 90) fun a j=>
 StK j 3 a i fun b=>
 Qg a 0 fun l=>
 LdK b l fun m=>
 Qg a 1 fun o=>
 LdK b o fun p=>
 Qg a 2 fun q=>
 LdK b q fun r=>
 QQ z162.toList [(0,1,m),(1,1,p),(2,1,r)] fun s=>
 YO b (.cells (Value.cells s) 162) fun t u=>
 Qs d fun v=>
 Qg v 12 fun w=>
 StK u 1 w t fun y=>
 k y
def ob4 (a:Value) (b:Value) (c:Qf) (R:Kn):Prop:=
 QeK prog 3 a 14 c (ob4B b) fun d=>ob5 a b d R
def ob3B (d:Value) (e:Value) (f:Value) (a:Qf) (k:Qf->Prop):Prop:=
 Yn 51 e f fun g=>
 LdN a 51 g fun i=>
 YO a (.cells z52 52) fun b j=>
 StK j 51 b i fun c=>
 LdN c 51 b fun l=>
 Qa prog 20 #[l] c fun m o=>
 Qs d fun p=>
 Qg p 10 fun q=>
 StK o 1 q m fun r=>
 k r
def ob3 (a:Value) (b:Value) (c:Qf) (R:Kn):Prop:=
 QeK prog 3 a 12 c (ob3B b) fun d=>ob4 a b d R
def ob2B (c:Value) (g:Value) (i:Value) (d:Qf) (k:Qf->Prop):Prop:=
 Yn 51 g i fun j=>
 LdN d 51 j fun l=>
 YO d (.cells z52 52) fun e m=>
 StK m 51 e l fun a=>
 Qs c fun o=>
 Qg o 9 fun p=>
 LdK a p fun q=>
 LdN a 51 e fun r=>
 Qa prog 20 #[r] a fun s b=>
 Qn a b<|
 Ya b 69 1 (ZA z69.toList 1) [(0,1,s)] fun t f=>
 Qn b f<|
 QdL f 69 1 8 z69 q t fun u v=>
 Qs c fun w=>
 Qg w 9 fun y=>
 StK v 1 y u fun z=>
 k z
def ob2 (a:Value) (b:Value) (c:Qf) (R:Kn):Prop:=
 QeK prog 3 a 11 c (ob2B b) fun d=>ob3 a b d R
def ob1B (e:Value) (f:Value) (g:Value) (c:Qf) (k:Qf->Prop):Prop:=
 Yn 7 f g fun i=>
 LdN c 7 i fun j=>
 YO c (.cells z79 79) fun b l=>
 StK l 7 b j fun a=>
 Qg b 0 fun m=>
 LdK a m fun o=>
 Qbc prog 76 #[o] fun p=>
 Qg b 1 fun q=>
 LdK a q fun r=>
 Qbc prog 76 #[r] fun s=>
 Qg b 2 fun t=>
 LdK a t fun u=>
 Qbc prog 76 #[u] fun v=>
 Qg b 3 fun w=>
 LdK a w fun y=>
 Qbc prog 80 #[y] fun z=>
 Qg b 4 fun a0=>
 LdK a a0 fun a1=>
 Qg b 5 fun a2=>
 LdK a a2 fun a3=>
 Qg b 6 fun a4=>
 LdK a a4 fun a5=>
 QQ z159.toList [(0,1,a3),(1,1,a5)] fun a6=>
 YO a (.cells (Value.cells a6) 159) fun a7 d=>
 Qn a d<|
 QQ z161.toList [(0,1,p),(1,1,s),(2,1,v),(3,1,z),(4,1,a1),(5,1,a7)] fun a8=>
 YO d (.cells (Value.cells a8) 161) fun a9 b0=>
 Qs e fun b1=>
 Qg b1 0 fun b2=>
 StK b0 1 b2 a9 fun b3=>
 k b3
def ob1 (a:Value) (b:Value) (c:Qf) (R:Kn):Prop:=
 QeK prog 3 a 0 c (ob1B b) fun d=>ob2 a b d R
def s20 (t:Value) (h:Qf) (R:Kn):Prop:=
 YO h (.cells (Value.cells t) 52) fun b a=>
 Qg b 1 fun u=>
 LdK a u fun v=>
 Qg b 2 fun w=>
 LdK a w fun y=>
 Qg b 3 fun z=>
 LdK a z fun a0=>
 Qg b 4 fun a1=>
 LdK a a1 fun a2=>
 Qg b 5 fun a3=>
 LdK a a3 fun a4=>
 Qg b 9 fun a5=>
 LdK a a5 fun a6=>
 Qg b 10 fun a7=>
 LdK a a7 fun a8=>
 Qg b 13 fun a9=>
 LdK a a9 fun b0=>
 Qg b 15 fun b1=>
 LdK a b1 fun b2=>
 Qg b 16 fun b3=>
 LdK a b3 fun b4=>
 Qg b 17 fun b5=>
 LdK a b5 fun b6=>
 Qg b 18 fun b7=>
 LdK a b7 fun b8=>
 Qg b 19 fun b9=>
 LdK a b9 fun c0=>
 Qg b 20 fun c1=>
 LdK a c1 fun c2=>
 Qg b 21 fun c3=>
 LdK a c3 fun c4=>
 Qg b 22 fun c5=>
 LdK a c5 fun c6=>
 Qg b 23 fun c7=>
 LdK a c7 fun c8=>
 Qg b 24 fun c9=>
 LdK a c9 fun d0=>
 Qg b 25 fun d1=>
 LdK a d1 fun d2=>
 Qg b 26 fun d3=>
 LdK a d3 fun d4=>
 Qg b 27 fun d5=>
 LdK a d5 fun d6=>
 Qg b 28 fun d7=>
 LdK a d7 fun d8=>
 Qg b 30 fun d9=>
 LdK a d9 fun e0=>
 Qg b 31 fun e1=>
 LdK a e1 fun e2=>
 Qg b 32 fun e3=>
 LdK a e3 fun e4=>
 Qg b 35 fun e5=>
 LdK a e5 fun e6=>
 Qg b 36 fun e7=>
 LdK a e7 fun e8=>
 Qg b 37 fun e9=>
 LdK a e9 fun f0=>
 Qg b 38 fun f1=>
 LdK a f1 fun f2=>
 Qg b 39 fun f3=>
 LdK a f3 fun f4=>
 Qg b 40 fun f5=>
 LdK a f5 fun f6=>
 Qg b 41 fun f7=>
 LdK a f7 fun f8=>
 Qg b 42 fun f9=>
 LdK a f9 fun g0=>
 Qg b 50 fun g1=>
 LdK a g1 fun g2=>
 Qa prog 72 #[a2] a fun g3 c=>
 Qn a c<|
 Qa prog 73 #[a6] c fun g4 d=>
 Qn c d<|
 Qa prog 74 #[a8] d fun g5 e=>
 Qn d e<|
 Qa prog 72 #[b0] e fun g6 f=>
 Qn e f<|
 Qa prog 75 #[d0] f fun g7 g=>
 Qn f g<|
 Qbc prog 76 #[d2] fun g8=>
 Qbc prog 76 #[d4] fun g9=>
 Qbc prog 76 #[d6] fun i0=>
 Qa prog 74 #[d8] g fun i1 i=>
 Qn g i<|
 Qa prog 72 #[e0] i fun i2 j=>
 Qn i j<|
 Qa prog 73 #[e2] j fun i3 l=>
 Qn j l<|
 Qa prog 77 #[e4] l fun i4 m=>
 Qn l m<|
 Qa prog 78 #[e6] m fun i5 o=>
 Qn m o<|
 Qa prog 79 #[f0] o fun i6 p=>
 Qn o p<|
 Qa prog 78 #[f2] p fun i7 q=>
 Qn p q<|
 Qa prog 79 #[f6] q fun i8 r=>
 Qn q r<|
 Qa prog 79 #[g0] r fun i9 s=>
 Qn r s<|
 QQ z155.toList [(1,1,v),(2,1,y),(3,1,a0),(4,1,g3),(5,1,a4),(7,1,g4),(8,1,g5),(11,1,g6),(13,1,b2),(14,1,b4),(15,1,b6),(16,1,b8),(17,1,c0),(18,1,c2),(19,1,c4),(20,1,c6),(21,1,c8),(22,1,g7),(23,1,g8),(24,1,g9),(25,1,i0),(26,1,i1),(28,1,i2),(29,1,i3),(30,1,i4),(33,1,i5),(34,1,e8),(35,1,i6),(36,1,i7),(37,1,f4),(38,1,i8),(39,1,f8),(40,1,i9),(44,1,g2)] fun j0=>
 YO s (.cells (Value.cells j0) 155) fun j1 j2=>
 ob1 b j1 j2 R
theorem w20 {a h R} (H:s20 a h R):FnS prog 20 #[a] h R:=wq Tryz.func20 (by kernel_rfl) H
def s38 (a b:Value) (h:Qf) (R:Kn):Prop:=
 LdK h a fun c=>
 Qa prog 41 #[c] h fun d e=>
 Qa prog 40 #[d,(.int .u32 0)] e fun f g=>
 Qa prog 39 #[f] g fun i j=>
 StK j 51 b i fun l=>
 R (.tuple #[]) l
theorem w38 {a b h R} (H:s38 a b h R):FnS prog 38 #[a,b] h R:=wq Tryz.func38 (by kernel_rfl) H
def rm24 (d:Value) (a:Value) (b:Qf) (R:Kn):Prop:=
 LdN b 51 d fun e=>
 StK b 51 a e fun c=>
 LdN c 51 a fun f=>
 R f c
def rm23B (d:Value) (e:Value) (f:Value) (a:Qf) (k:Qf->Prop):Prop:=
 Qg d 49 fun g=>
 LdK a g fun i=>
 Qa prog 250 #[e,f] a fun j b=>
 Qn a b<|
 Ya b 5 1 (ZA z5.toList 1) [(0,1,j)] fun l c=>
 Qn b c<|
 B2SK c l fun m=>
 Ql prog .add 9 i m fun o=>
 Qg d 49 fun p=>
 StK c 1 p o fun q=>
 k q
def rm23 (a:Value) (b:Value) (c:Value) (d:Qf) (R:Kn):Prop:=
 ZP prog 3 249 a (rm23B b a) d fun e=>rm24 b c e R
def rm22 (c:Value) (d:Value) (g:Value) (p:Value) (q:Qf) (R:Kn):Prop:=
 QO (fun a=>
 Qa prog 246 #[c] q fun b r=>
 Qa prog 247 #[c,d] r fun e i=>
 Qe e true (fun s=>s b i) i fun t j=>
 Qe e true (fun u=>Ql prog .neq 5 t (.int .u8 0) fun v=>u v j) j fun w l=>
 Yj e w (.bool false) fun y=>
 IfK y
 (YO l (.cells z232 232) fun m f=>
 Qg d 0 fun z=>
 LdK f z fun a0=>
 Qg d 1 fun a1=>
 LdK f a1 fun a2=>
 Qa prog 248 #[m,a0,a2] f fun _x417 a3=>
 Qa prog 39 #[m] a3 fun a4 a5=>
 Ya a5 52 1 (ZA z52.toList 1) [(0,51,a4)] fun a6 a7=>
 QQ z47.toList [(0,1,b),(1,1,a6)] fun a8=>
 Qg g 46 fun a9=>
 StK a7 3 a9 a8 fun b0=>
 a [b] b0)
 (a [b] l)) fun a=>∀b1:Value,∀o:Qf,a [b1] o->
 rm23 c g p o R
def rm21 (a:Value) (c:Value) (i:Value) (j:Qf) (R:Kn):Prop:=
 YO j (.cells z224 224) fun b l=>
 Qa prog 241 #[a,b] l fun m d=>
 LdN d 2 b fun o=>
 Qa prog 243 #[a] d fun p f=>
 Qn d f<|
 Qa prog 242 #[p,m,o] f fun q r=>
 Qg c 6 fun s=>
 StK r 3 s q fun t=>
 Qa prog 244 #[a,b] t fun u e=>
 LdN e 2 b fun v=>
 Qa prog 245 #[a] e fun w g=>
 Qn e g<|
 Qa prog 242 #[w,u,v] g fun y z=>
 Qg c 43 fun a0=>
 StK z 3 a0 y fun a1=>
 rm22 a b c i a1 R
def rm20B (c:Value) (e:Value) (f:Value) (a:Qf) (k:Qf->Prop):Prop:=
 Qg c 42 fun g=>
 LdK a g fun i=>
 Qa prog 240 #[e,f] a fun j b=>
 Qn a b<|
 Ya b 31 1 (ZA z31.toList 1) [(0,1,j)] fun l d=>
 Qn b d<|
 QdL d 31 1 8 z31 i l fun m o=>
 Qg c 42 fun p=>
 StK o 1 p m fun q=>
 k q
def rm20 (a:Value) (b:Value) (c:Value) (d:Qf) (R:Kn):Prop:=
 ZP prog 3 239 a (rm20B b a) d fun e=>rm21 a b c e R
def rm19B (c:Value) (e:Value) (f:Value) (a:Qf) (k:Qf->Prop):Prop:=
 Qg c 40 fun g=>
 LdK a g fun i=>
 Qa prog 238 #[e,f] a fun j b=>
 Qn a b<|
 Ya b 31 1 (ZA z31.toList 1) [(0,1,j)] fun l d=>
 Qn b d<|
 QdL d 31 1 8 z31 i l fun m o=>
 Qg c 40 fun p=>
 StK o 1 p m fun q=>
 k q
def rm19 (a:Value) (b:Value) (c:Value) (d:Qf) (R:Kn):Prop:=
 ZP prog 3 237 a (rm19B b a) d fun e=>rm20 a b c e R
def rm18B (f:Value) (c:Value) (g:Value) (i:Qf) (k:Qf->Prop):Prop:=
 YO i (.cells z243 243) fun d j=>
 Qa prog 236 #[f,d,g] j fun _x354 a=>
 Qg c 38 fun l=>
 LdK a l fun m=>
 Qa prog 232 #[d] a fun o b=>
 Qn a b<|
 Ya b 31 1 (ZA z31.toList 1) [(0,1,o)] fun p e=>
 Qn b e<|
 QdL e 31 1 8 z31 m p fun q r=>
 Qg c 38 fun s=>
 StK r 1 s q fun t=>
 k t
def rm18 (a:Value) (b:Value) (c:Value) (d:Qf) (R:Kn):Prop:=
 ZP prog 3 235 a (rm18B a b) d fun e=>rm19 a b c e R
def rm17B (c:Value) (e:Value) (f:Value) (a:Qf) (k:Qf->Prop):Prop:=
 Qg c 37 fun g=>
 LdK a g fun i=>
 Qa prog 234 #[e,f] a fun j b=>
 Qn a b<|
 Ya b 31 1 (ZA z31.toList 1) [(0,1,j)] fun l d=>
 Qn b d<|
 QdL d 31 1 8 z31 i l fun m o=>
 Qg c 37 fun p=>
 StK o 1 p m fun q=>
 k q
def rm17 (a:Value) (b:Value) (c:Value) (d:Qf) (R:Kn):Prop:=
 ZP prog 3 233 a (rm17B b a) d fun e=>rm18 a b c e R
def rm16B (f:Value) (c:Value) (g:Value) (i:Qf) (k:Qf->Prop):Prop:=
 YO i (.cells z243 243) fun d j=>
 Qa prog 231 #[f,d,g] j fun _x325 a=>
 Qg c 35 fun l=>
 LdK a l fun m=>
 Qa prog 232 #[d] a fun o b=>
 Qn a b<|
 Ya b 31 1 (ZA z31.toList 1) [(0,1,o)] fun p e=>
 Qn b e<|
 QdL e 31 1 8 z31 m p fun q r=>
 Qg c 35 fun s=>
 StK r 1 s q fun t=>
 k t
def rm16 (a:Value) (b:Value) (c:Value) (d:Qf) (R:Kn):Prop:=
 ZP prog 3 230 a (rm16B a b) d fun e=>rm17 a b c e R
def rm15B (c:Value) (e:Value) (f:Value) (a:Qf) (k:Qf->Prop):Prop:=
 Qg c 33 fun g=>
 LdK a g fun i=>
 Qa prog 229 #[e,f] a fun j b=>
 Qn a b<|
 Qbc prog 194 #[j] fun l=>
 Ya b 31 1 (ZA z31.toList 1) [(0,1,l)] fun m d=>
 Qn b d<|
 QdL d 31 1 8 z31 i m fun o p=>
 Qg c 33 fun q=>
 StK p 1 q o fun r=>
 k r
def rm15 (a:Value) (b:Value) (c:Value) (d:Qf) (R:Kn):Prop:=
 ZP prog 3 228 a (rm15B b a) d fun e=>rm16 a b c e R
def rm14B (c:Value) (e:Value) (f:Value) (a:Qf) (k:Qf->Prop):Prop:=
 Qg c 32 fun g=>
 LdK a g fun i=>
 Qa prog 227 #[e,f] a fun j b=>
 Qn a b<|
 Ya b 2 1 (ZA z2.toList 1) [(0,1,j)] fun l d=>
 Qn b d<|
 QdL d 2 1 8 z2 i l fun m o=>
 Qg c 32 fun p=>
 StK o 1 p m fun q=>
 k q
def rm14 (a:Value) (b:Value) (c:Value) (d:Qf) (R:Kn):Prop:=
 ZP prog 3 226 a (rm14B b a) d fun e=>rm15 a b c e R
def rm13B (g:Value) (e:Value) (i:Value) (j:Qf) (k:Qf->Prop):Prop:=
 YO j (.cells z228 228) fun a l=>
 Qa prog 225 #[g,a,i] l fun _x279 b=>
 Qg e 31 fun m=>
 LdK b m fun o=>
 Qa prog 197 #[a] b fun p c=>
 Qn b c<|
 Qa prog 198 #[a] c fun q d=>
 Qn c d<|
 QQ z84.toList [(0,1,p),(1,1,q)] fun r=>
 Ya d 84 1 (ZA z84.toList 1) [(0,2,r)] fun s f=>
 Qn d f<|
 QdL f 84 2 4 z84 o s fun t u=>
 Qg e 31 fun v=>
 StK u 1 v t fun w=>
 k w
def rm13 (a:Value) (b:Value) (c:Value) (d:Qf) (R:Kn):Prop:=
 ZP prog 3 224 a (rm13B a b) d fun e=>rm14 a b c e R
def rm12B (d:Value) (e:Value) (f:Value) (a:Qf) (k:Qf->Prop):Prop:=
 Qg d 30 fun g=>
 LdK a g fun i=>
 Qa prog 223 #[e,f] a fun j b=>
 Qn a b<|
 Ya b 5 1 (ZA z5.toList 1) [(0,1,j)] fun l c=>
 Qn b c<|
 B2SK c l fun m=>
 Ql prog .add 9 i m fun o=>
 Qg d 30 fun p=>
 StK c 1 p o fun q=>
 k q
def rm12 (a:Value) (b:Value) (c:Value) (d:Qf) (R:Kn):Prop:=
 ZP prog 3 222 a (rm12B b a) d fun e=>rm13 a b c e R
def rm11B (g:Value) (e:Value) (i:Value) (j:Qf) (k:Qf->Prop):Prop:=
 YO j (.cells z238 238) fun a l=>
 Qa prog 219 #[g,a,i] l fun _x247 b=>
 Qg e 29 fun m=>
 LdK b m fun o=>
 Qa prog 220 #[a] b fun p c=>
 Qn b c<|
 Qa prog 221 #[a] c fun q d=>
 Qn c d<|
 QQ z96.toList [(0,1,p),(1,1,q)] fun r=>
 Ya d 96 1 (ZA z96.toList 1) [(0,2,r)] fun s f=>
 Qn d f<|
 QdL f 96 2 8 z96 o s fun t u=>
 Qg e 29 fun v=>
 StK u 1 v t fun w=>
 k w
def rm11 (a:Value) (b:Value) (c:Value) (d:Qf) (R:Kn):Prop:=
 ZP prog 3 218 a (rm11B a b) d fun e=>rm12 a b c e R
def rm10B (c:Value) (e:Value) (f:Value) (b:Qf) (k:Qf->Prop):Prop:=
 Qg c 28 fun g=>
 LdK b g fun i=>
 Qa prog 217 #[e,f] b fun j a=>
 Qn b a<|
 B2SK a j fun l=>
 Ya a 9 1 (ZA z9.toList 1) [(0,1,l)] fun m d=>
 Qn a d<|
 QdL d 9 1 16 z9 i m fun o p=>
 Qg c 28 fun q=>
 StK p 1 q o fun r=>
 k r
def rm10 (a:Value) (b:Value) (c:Value) (d:Qf) (R:Kn):Prop:=
 ZP prog 3 216 a (rm10B b a) d fun e=>rm11 a b c e R
def rm9B (c:Value) (e:Value) (f:Value) (a:Qf) (k:Qf->Prop):Prop:=
 Qg c 24 fun g=>
 LdK a g fun i=>
 Qa prog 215 #[e,f] a fun j b=>
 Qn a b<|
 Ya b 4 1 (ZA z4.toList 1) [(0,1,j)] fun l d=>
 Qn b d<|
 QdL d 4 1 1 z4 i l fun m o=>
 Qg c 24 fun p=>
 StK o 1 p m fun q=>
 k q
def rm9 (a:Value) (b:Value) (c:Value) (d:Qf) (R:Kn):Prop:=
 ZP prog 3 214 a (rm9B b a) d fun e=>rm10 a b c e R
def rm8 (e:Value) (f:Value) (l:Value) (m:Qf) (R:Kn):Prop:=
 QO (fun b=>
 Qa prog 210 #[e,(.pointer none)] m fun a g=>
 Ql prog .neq 235 a (.pointer none) fun o=>
 IfK o
 (Qa prog 211 #[a] g fun p c=>
 B2SK c p fun q=>
 Qa prog 212 #[a] c fun r d=>
 Qn c d<|
 Qa prog 213 #[a] d fun s i=>
 Qn d i<|
 QQ z90.toList [(0,1,q),(1,1,r),(2,1,s)] fun t=>
 Ya i 90 1 (ZA z90.toList 1) [(0,3,t)] fun u v=>
 Qg f 14 fun w=>
 StK v 1 w u fun y=>
 b [a] y)
 (b [a] g)) fun b=>∀z:Value,∀j:Qf,b [z] j->
 rm9 e f l j R
def rm7B (d:Value) (e:Value) (f:Value) (a:Qf) (k:Qf->Prop):Prop:=
 Qg d 13 fun g=>
 LdK a g fun i=>
 Qa prog 209 #[e,f] a fun j b=>
 Qn a b<|
 Ya b 5 1 (ZA z5.toList 1) [(0,1,j)] fun l c=>
 Qn b c<|
 B2SK c l fun m=>
 Ql prog .add 9 i m fun o=>
 Qg d 13 fun p=>
 StK c 1 p o fun q=>
 k q
def rm7 (a:Value) (b:Value) (c:Value) (d:Qf) (R:Kn):Prop:=
 ZP prog 3 208 a (rm7B b a) d fun e=>rm8 a b c e R
def rm6 (c:Value) (d:Value) (g:Value) (i:Qf) (R:Kn):Prop:=
 QO (fun a=>
 Qa prog 207 #[c,(.pointer none)] i fun b e=>
 Ql prog .neq 101 b (.pointer none) fun j=>
 IfK j
 (Qa prog 39 #[b] e fun l m=>
 Ya m 52 1 (ZA z52.toList 1) [(0,51,l)] fun o p=>
 Qg d 12 fun q=>
 StK p 1 q o fun r=>
 a [b] r)
 (a [b] e)) fun a=>∀s:Value,∀f:Qf,a [s] f->
 rm7 c d g f R
def rm5B (f:Value) (c:Value) (g:Value) (i:Qf) (k:Qf->Prop):Prop:=
 YO i (.cells z232 232) fun d j=>
 Qa prog 206 #[f,d,g] j fun _x166 a=>
 Qg c 11 fun l=>
 LdK a l fun m=>
 Qa prog 39 #[d] a fun o b=>
 Qn a b<|
 Ya b 52 1 (ZA z52.toList 1) [(0,51,o)] fun p e=>
 Qn b e<|
 QdL e 52 51 736 z52 m p fun q r=>
 Qg c 11 fun s=>
 StK r 1 s q fun t=>
 k t
def rm5 (a:Value) (b:Value) (c:Value) (d:Qf) (R:Kn):Prop:=
 ZP prog 3 205 a (rm5B a b) d fun e=>rm6 a b c e R
def rm4B (c:Value) (e:Value) (f:Value) (b:Qf) (k:Qf->Prop):Prop:=
 Qg c 10 fun g=>
 LdK b g fun i=>
 Qa prog 204 #[e,f] b fun j a=>
 Qn b a<|
 B2SK a j fun l=>
 Ya a 9 1 (ZA z9.toList 1) [(0,1,l)] fun m d=>
 Qn a d<|
 QdL d 9 1 16 z9 i m fun o p=>
 Qg c 10 fun q=>
 StK p 1 q o fun r=>
 k r
def rm4 (a:Value) (b:Value) (c:Value) (d:Qf) (R:Kn):Prop:=
 ZP prog 3 203 a (rm4B b a) d fun e=>rm5 a b c e R
def rm3B (g:Value) (e:Value) (i:Value) (j:Qf) (k:Qf->Prop):Prop:=
 YO j (.cells z228 228) fun a l=>
 Qa prog 202 #[g,a,i] l fun _x134 b=>
 Qg e 9 fun m=>
 LdK b m fun o=>
 Qa prog 197 #[a] b fun p c=>
 Qn b c<|
 Qa prog 198 #[a] c fun q d=>
 Qn c d<|
 QQ z84.toList [(0,1,p),(1,1,q)] fun r=>
 Ya d 84 1 (ZA z84.toList 1) [(0,2,r)] fun s f=>
 Qn d f<|
 QdL f 84 2 4 z84 o s fun t u=>
 Qg e 9 fun v=>
 StK u 1 v t fun w=>
 k w
def rm3 (a:Value) (b:Value) (c:Value) (d:Qf) (R:Kn):Prop:=
 ZP prog 3 201 a (rm3B a b) d fun e=>rm4 a b c e R
def rm2B (d:Value) (e:Value) (f:Value) (a:Qf) (k:Qf->Prop):Prop:=
 Qg d 4 fun g=>
 LdK a g fun i=>
 Qa prog 200 #[e,f] a fun j b=>
 Qn a b<|
 Ya b 5 1 (ZA z5.toList 1) [(0,1,j)] fun l c=>
 Qn b c<|
 B2SK c l fun m=>
 Ql prog .add 9 i m fun o=>
 Qg d 4 fun p=>
 StK c 1 p o fun q=>
 k q
def rm2 (a:Value) (b:Value) (c:Value) (d:Qf) (R:Kn):Prop:=
 ZP prog 3 199 a (rm2B b a) d fun e=>rm3 a b c e R
def rm1 (c:Value) (d:Value) (i:Value) (j:Qf) (R:Kn):Prop:=
 QO (fun b=>
 Qa prog 189 #[c,(.pointer none)] j fun a e=>
 Ql prog .neq 214 a (.pointer none) fun l=>
 IfK l
 (Qa prog 190 #[a,(.pointer none)] e fun f m=>
 Qa prog 191 #[a] m fun o p=>
 Qbc prog 180 #[o] fun q=>
 Qa prog 192 #[a] p fun r s=>
 Qbc prog 180 #[r] fun t=>
 Qa prog 193 #[a] s fun u v=>
 Qbc prog 180 #[u] fun w=>
 Qa prog 195 #[a] v fun y z=>
 Qbc prog 194 #[y] fun a0=>
 Qa prog 196 #[a] z fun a1 a2=>
 Qa prog 197 #[f] a2 fun a3 a4=>
 Qa prog 198 #[f] a4 fun a5 a6=>
 QQ z79.toList [(0,1,q),(1,1,t),(2,1,w),(3,1,a0),(4,1,a1),(5,1,a3),(6,1,a5)] fun a7=>
 Ya a6 79 1 (ZA z79.toList 1) [(0,7,a7)] fun a8 a9=>
 Qg d 0 fun b0=>
 StK a9 1 b0 a8 fun b1=>
 b [a] b1)
 (b [a] e)) fun b=>∀b2:Value,∀g:Qf,b [b2] g->
 rm2 c d i g R
def s39 (a:Value) (h:Qf) (R:Kn):Prop:=
 YO h (.cells z52 52) fun a73 a23=>
 QO (fun b=>
 (Qa prog 167 #[a] a23 fun c a24=>
 (Qa prog 168 #[a] a24 fun d a25=>
 (Qa prog 169 #[a] a25 fun a74 v=>
 B2SK v a74 fun e=>
 (Qa prog 170 #[a] v fun f w=>
 Qn v w<|
 (Qa prog 171 #[a] w fun g y=>
 Qn w y<|
 (Qa prog 172 #[a] y fun i z=>
 Qn y z<|
 (Qa prog 173 #[a] z fun j a0=>
 Qn z a0<|
 (Qa prog 174 #[a] a0 fun l a1=>
 Qn a0 a1<|
 (Qa prog 175 #[a] a1 fun m a2=>
 Qn a1 a2<|
 (Qa prog 176 #[a] a2 fun o a3=>
 Qn a2 a3<|
 (Qa prog 177 #[a] a3 fun p a4=>
 Qn a3 a4<|
 (Qa prog 178 #[a] a4 fun q a5=>
 Qn a4 a5<|
 (Qa prog 179 #[a] a5 fun r a6=>
 Qn a5 a6<|
 (Qa prog 181 #[a] a6 fun a75 a7=>
 Qn a6 a7<|
 Qbc prog 180 #[a75] fun s=>
 (Qa prog 182 #[a] a7 fun a76 a8=>
 Qn a7 a8<|
 Qbc prog 180 #[a76] fun t=>
 (Qa prog 183 #[a] a8 fun a77 a9=>
 Qn a8 a9<|
 Qbc prog 180 #[a77] fun u=>
 (Qa prog 184 #[a,(.pointer none)] a9 fun a78 b0=>
 Qn a9 b0<|
 Ql prog .neq 211 a78 (.pointer none) fun b1=>
 (Qa prog 185 #[a] b0 fun b5 b2=>
 Qn b0 b2<|
 (Qa prog 186 #[a] b2 fun b6 b3=>
 Qn b2 b3<|
 (Qa prog 187 #[a] b3 fun a26 b4=>
 Qn b3 b4<|
 (Qa prog 188 #[a] b4 fun a79 b7=>
 Qn b4 b7<|
 QQ z52.toList [(1,1,c),(2,1,d),(3,1,e),(5,1,f),(15,1,g),(16,1,i),(17,1,j),(18,1,l),(19,1,m),(20,1,o),(21,1,p),(22,1,q),(23,1,r),(25,1,s),(26,1,t),(27,1,u),(34,1,b1),(36,1,b5),(39,1,b6),(41,1,a26),(50,1,a79)] fun a80=>
 YO b7 (.cells z52 52) fun a27 a28=>
 Qn b7 a28<|
 StK a28 51 a27 a80 fun a81=>
 b [a27] a81)/\
 (YO b4 (.cells z52 52) fun a29 b8=>
 Qn b4 b8<|
 Qa prog 188 #[a] b8 fun a82 a30=>
 Qn b8 a30<|
 QQ z52.toList [(1,1,c),(2,1,d),(3,1,e),(5,1,f),(15,1,g),(16,1,i),(17,1,j),(18,1,l),(19,1,m),(20,1,o),(21,1,p),(22,1,q),(23,1,r),(25,1,s),(26,1,t),(27,1,u),(34,1,b1),(36,1,b5),(39,1,b6),(41,1,a26),(50,1,a82)] fun a83=>
 StK a30 51 a29 a83 fun a84=>
 b [a29] a84))/\
 (YO b3 (.cells z52 52) fun a31 b9=>
 Qn b3 b9<|
 Qa prog 187 #[a] b9 fun a85 c0=>
 Qn b9 c0<|
 Qa prog 188 #[a] c0 fun a86 a32=>
 Qn c0 a32<|
 QQ z52.toList [(1,1,c),(2,1,d),(3,1,e),(5,1,f),(15,1,g),(16,1,i),(17,1,j),(18,1,l),(19,1,m),(20,1,o),(21,1,p),(22,1,q),(23,1,r),(25,1,s),(26,1,t),(27,1,u),(34,1,b1),(36,1,b5),(39,1,b6),(41,1,a85),(50,1,a86)] fun a87=>
 StK a32 51 a31 a87 fun a88=>
 b [a31] a88))/\
 (YO b2 (.cells z52 52) fun a33 c1=>
 Qn b2 c1<|
 Qa prog 186 #[a] c1 fun a89 c2=>
 Qn c1 c2<|
 Qa prog 187 #[a] c2 fun a90 c3=>
 Qn c2 c3<|
 Qa prog 188 #[a] c3 fun a91 a34=>
 Qn c3 a34<|
 QQ z52.toList [(1,1,c),(2,1,d),(3,1,e),(5,1,f),(15,1,g),(16,1,i),(17,1,j),(18,1,l),(19,1,m),(20,1,o),(21,1,p),(22,1,q),(23,1,r),(25,1,s),(26,1,t),(27,1,u),(34,1,b1),(36,1,b5),(39,1,a89),(41,1,a90),(50,1,a91)] fun a92=>
 StK a34 51 a33 a92 fun a93=>
 b [a33] a93))/\
 (YO b0 (.cells z52 52) fun a35 c4=>
 Qn b0 c4<|
 Qa prog 185 #[a] c4 fun a94 c5=>
 Qn c4 c5<|
 Qa prog 186 #[a] c5 fun a95 c6=>
 Qn c5 c6<|
 Qa prog 187 #[a] c6 fun a96 c7=>
 Qn c6 c7<|
 Qa prog 188 #[a] c7 fun a97 a36=>
 Qn c7 a36<|
 QQ z52.toList [(1,1,c),(2,1,d),(3,1,e),(5,1,f),(15,1,g),(16,1,i),(17,1,j),(18,1,l),(19,1,m),(20,1,o),(21,1,p),(22,1,q),(23,1,r),(25,1,s),(26,1,t),(27,1,u),(34,1,b1),(36,1,a94),(39,1,a95),(41,1,a96),(50,1,a97)] fun a98=>
 StK a36 51 a35 a98 fun a99=>
 b [a35] a99))/\
 (YO a9 (.cells z52 52) fun a37 c8=>
 Qn a9 c8<|
 Qa prog 184 #[a,(.pointer none)] c8 fun b00 c9=>
 Qn c8 c9<|
 Ql prog .neq 211 b00 (.pointer none) fun b01=>
 Qa prog 185 #[a] c9 fun b02 d0=>
 Qn c9 d0<|
 Qa prog 186 #[a] d0 fun b03 d1=>
 Qn d0 d1<|
 Qa prog 187 #[a] d1 fun b04 d2=>
 Qn d1 d2<|
 Qa prog 188 #[a] d2 fun b05 a38=>
 Qn d2 a38<|
 QQ z52.toList [(1,1,c),(2,1,d),(3,1,e),(5,1,f),(15,1,g),(16,1,i),(17,1,j),(18,1,l),(19,1,m),(20,1,o),(21,1,p),(22,1,q),(23,1,r),(25,1,s),(26,1,t),(27,1,u),(34,1,b01),(36,1,b02),(39,1,b03),(41,1,b04),(50,1,b05)] fun b06=>
 StK a38 51 a37 b06 fun b07=>
 b [a37] b07))/\
 (YO a8 (.cells z52 52) fun a39 d3=>
 Qn a8 d3<|
 Qa prog 183 #[a] d3 fun b08 d4=>
 Qn d3 d4<|
 Qbc prog 180 #[b08] fun b09=>
 Qa prog 184 #[a,(.pointer none)] d4 fun b10 d5=>
 Qn d4 d5<|
 Ql prog .neq 211 b10 (.pointer none) fun b11=>
 Qa prog 185 #[a] d5 fun b12 d6=>
 Qn d5 d6<|
 Qa prog 186 #[a] d6 fun b13 d7=>
 Qn d6 d7<|
 Qa prog 187 #[a] d7 fun b14 d8=>
 Qn d7 d8<|
 Qa prog 188 #[a] d8 fun b15 a40=>
 Qn d8 a40<|
 QQ z52.toList [(1,1,c),(2,1,d),(3,1,e),(5,1,f),(15,1,g),(16,1,i),(17,1,j),(18,1,l),(19,1,m),(20,1,o),(21,1,p),(22,1,q),(23,1,r),(25,1,s),(26,1,t),(27,1,b09),(34,1,b11),(36,1,b12),(39,1,b13),(41,1,b14),(50,1,b15)] fun b16=>
 StK a40 51 a39 b16 fun b17=>
 b [a39] b17))/\
 (YO a7 (.cells z52 52) fun a41 d9=>
 Qn a7 d9<|
 Qa prog 182 #[a] d9 fun b18 e0=>
 Qn d9 e0<|
 Qbc prog 180 #[b18] fun b19=>
 Qa prog 183 #[a] e0 fun b20 e1=>
 Qn e0 e1<|
 Qbc prog 180 #[b20] fun b21=>
 Qa prog 184 #[a,(.pointer none)] e1 fun b22 e2=>
 Qn e1 e2<|
 Ql prog .neq 211 b22 (.pointer none) fun b23=>
 Qa prog 185 #[a] e2 fun b24 e3=>
 Qn e2 e3<|
 Qa prog 186 #[a] e3 fun b25 e4=>
 Qn e3 e4<|
 Qa prog 187 #[a] e4 fun b26 e5=>
 Qn e4 e5<|
 Qa prog 188 #[a] e5 fun b27 a42=>
 Qn e5 a42<|
 QQ z52.toList [(1,1,c),(2,1,d),(3,1,e),(5,1,f),(15,1,g),(16,1,i),(17,1,j),(18,1,l),(19,1,m),(20,1,o),(21,1,p),(22,1,q),(23,1,r),(25,1,s),(26,1,b19),(27,1,b21),(34,1,b23),(36,1,b24),(39,1,b25),(41,1,b26),(50,1,b27)] fun b28=>
 StK a42 51 a41 b28 fun b29=>
 b [a41] b29))/\
 (YO a6 (.cells z52 52) fun a43 e6=>
 Qn a6 e6<|
 Qa prog 181 #[a] e6 fun b30 e7=>
 Qn e6 e7<|
 Qbc prog 180 #[b30] fun b31=>
 Qa prog 182 #[a] e7 fun b32 e8=>
 Qn e7 e8<|
 Qbc prog 180 #[b32] fun b33=>
 Qa prog 183 #[a] e8 fun b34 e9=>
 Qn e8 e9<|
 Qbc prog 180 #[b34] fun b35=>
 Qa prog 184 #[a,(.pointer none)] e9 fun b36 f0=>
 Qn e9 f0<|
 Ql prog .neq 211 b36 (.pointer none) fun b37=>
 Qa prog 185 #[a] f0 fun b38 f1=>
 Qn f0 f1<|
 Qa prog 186 #[a] f1 fun b39 f2=>
 Qn f1 f2<|
 Qa prog 187 #[a] f2 fun b40 f3=>
 Qn f2 f3<|
 Qa prog 188 #[a] f3 fun b41 a44=>
 Qn f3 a44<|
 QQ z52.toList [(1,1,c),(2,1,d),(3,1,e),(5,1,f),(15,1,g),(16,1,i),(17,1,j),(18,1,l),(19,1,m),(20,1,o),(21,1,p),(22,1,q),(23,1,r),(25,1,b31),(26,1,b33),(27,1,b35),(34,1,b37),(36,1,b38),(39,1,b39),(41,1,b40),(50,1,b41)] fun b42=>
 StK a44 51 a43 b42 fun b43=>
 b [a43] b43))/\
 (YO a5 (.cells z52 52) fun a45 f4=>
 Qn a5 f4<|
 Qa prog 179 #[a] f4 fun b44 f5=>
 Qn f4 f5<|
 Qa prog 181 #[a] f5 fun b45 f6=>
 Qn f5 f6<|
 Qbc prog 180 #[b45] fun b46=>
 Qa prog 182 #[a] f6 fun b47 f7=>
 Qn f6 f7<|
 Qbc prog 180 #[b47] fun b48=>
 Qa prog 183 #[a] f7 fun b49 f8=>
 Qn f7 f8<|
 Qbc prog 180 #[b49] fun b50=>
 Qa prog 184 #[a,(.pointer none)] f8 fun b51 f9=>
 Qn f8 f9<|
 Ql prog .neq 211 b51 (.pointer none) fun b52=>
 Qa prog 185 #[a] f9 fun b53 g0=>
 Qn f9 g0<|
 Qa prog 186 #[a] g0 fun b54 g1=>
 Qn g0 g1<|
 Qa prog 187 #[a] g1 fun b55 g2=>
 Qn g1 g2<|
 Qa prog 188 #[a] g2 fun b56 a46=>
 Qn g2 a46<|
 QQ z52.toList [(1,1,c),(2,1,d),(3,1,e),(5,1,f),(15,1,g),(16,1,i),(17,1,j),(18,1,l),(19,1,m),(20,1,o),(21,1,p),(22,1,q),(23,1,b44),(25,1,b46),(26,1,b48),(27,1,b50),(34,1,b52),(36,1,b53),(39,1,b54),(41,1,b55),(50,1,b56)] fun b57=>
 StK a46 51 a45 b57 fun b58=>
 b [a45] b58))/\
 (YO a4 (.cells z52 52) fun a47 g3=>
 Qn a4 g3<|
 Qa prog 178 #[a] g3 fun b59 g4=>
 Qn g3 g4<|
 Qa prog 179 #[a] g4 fun b60 g5=>
 Qn g4 g5<|
 Qa prog 181 #[a] g5 fun b61 g6=>
 Qn g5 g6<|
 Qbc prog 180 #[b61] fun b62=>
 Qa prog 182 #[a] g6 fun b63 g7=>
 Qn g6 g7<|
 Qbc prog 180 #[b63] fun b64=>
 Qa prog 183 #[a] g7 fun b65 g8=>
 Qn g7 g8<|
 Qbc prog 180 #[b65] fun b66=>
 Qa prog 184 #[a,(.pointer none)] g8 fun b67 g9=>
 Qn g8 g9<|
 Ql prog .neq 211 b67 (.pointer none) fun b68=>
 Qa prog 185 #[a] g9 fun b69 i0=>
 Qn g9 i0<|
 Qa prog 186 #[a] i0 fun b70 i1=>
 Qn i0 i1<|
 Qa prog 187 #[a] i1 fun b71 i2=>
 Qn i1 i2<|
 Qa prog 188 #[a] i2 fun b72 a48=>
 Qn i2 a48<|
 QQ z52.toList [(1,1,c),(2,1,d),(3,1,e),(5,1,f),(15,1,g),(16,1,i),(17,1,j),(18,1,l),(19,1,m),(20,1,o),(21,1,p),(22,1,b59),(23,1,b60),(25,1,b62),(26,1,b64),(27,1,b66),(34,1,b68),(36,1,b69),(39,1,b70),(41,1,b71),(50,1,b72)] fun b73=>
 StK a48 51 a47 b73 fun b74=>
 b [a47] b74))/\
 (YO a3 (.cells z52 52) fun a49 i3=>
 Qn a3 i3<|
 Qa prog 177 #[a] i3 fun b75 i4=>
 Qn i3 i4<|
 Qa prog 178 #[a] i4 fun b76 i5=>
 Qn i4 i5<|
 Qa prog 179 #[a] i5 fun b77 i6=>
 Qn i5 i6<|
 Qa prog 181 #[a] i6 fun b78 i7=>
 Qn i6 i7<|
 Qbc prog 180 #[b78] fun b79=>
 Qa prog 182 #[a] i7 fun b80 i8=>
 Qn i7 i8<|
 Qbc prog 180 #[b80] fun b81=>
 Qa prog 183 #[a] i8 fun b82 i9=>
 Qn i8 i9<|
 Qbc prog 180 #[b82] fun b83=>
 Qa prog 184 #[a,(.pointer none)] i9 fun b84 j0=>
 Qn i9 j0<|
 Ql prog .neq 211 b84 (.pointer none) fun b85=>
 Qa prog 185 #[a] j0 fun b86 j1=>
 Qn j0 j1<|
 Qa prog 186 #[a] j1 fun b87 j2=>
 Qn j1 j2<|
 Qa prog 187 #[a] j2 fun b88 j3=>
 Qn j2 j3<|
 Qa prog 188 #[a] j3 fun b89 a50=>
 Qn j3 a50<|
 QQ z52.toList [(1,1,c),(2,1,d),(3,1,e),(5,1,f),(15,1,g),(16,1,i),(17,1,j),(18,1,l),(19,1,m),(20,1,o),(21,1,b75),(22,1,b76),(23,1,b77),(25,1,b79),(26,1,b81),(27,1,b83),(34,1,b85),(36,1,b86),(39,1,b87),(41,1,b88),(50,1,b89)] fun b90=>
 StK a50 51 a49 b90 fun b91=>
 b [a49] b91))/\
 (YO a2 (.cells z52 52) fun a51 j4=>
 Qn a2 j4<|
 Qa prog 176 #[a] j4 fun b92 j5=>
 Qn j4 j5<|
 Qa prog 177 #[a] j5 fun b93 j6=>
 Qn j5 j6<|
 Qa prog 178 #[a] j6 fun b94 j7=>
 Qn j6 j7<|
 Qa prog 179 #[a] j7 fun b95 j8=>
 Qn j7 j8<|
 Qa prog 181 #[a] j8 fun b96 j9=>
 Qn j8 j9<|
 Qbc prog 180 #[b96] fun b97=>
 Qa prog 182 #[a] j9 fun b98 l0=>
 Qn j9 l0<|
 Qbc prog 180 #[b98] fun b99=>
 Qa prog 183 #[a] l0 fun c00 l1=>
 Qn l0 l1<|
 Qbc prog 180 #[c00] fun c01=>
 Qa prog 184 #[a,(.pointer none)] l1 fun c02 l2=>
 Qn l1 l2<|
 Ql prog .neq 211 c02 (.pointer none) fun c03=>
 Qa prog 185 #[a] l2 fun c04 l3=>
 Qn l2 l3<|
 Qa prog 186 #[a] l3 fun c05 l4=>
 Qn l3 l4<|
 Qa prog 187 #[a] l4 fun c06 l5=>
 Qn l4 l5<|
 Qa prog 188 #[a] l5 fun c07 a52=>
 Qn l5 a52<|
 QQ z52.toList [(1,1,c),(2,1,d),(3,1,e),(5,1,f),(15,1,g),(16,1,i),(17,1,j),(18,1,l),(19,1,m),(20,1,b92),(21,1,b93),(22,1,b94),(23,1,b95),(25,1,b97),(26,1,b99),(27,1,c01),(34,1,c03),(36,1,c04),(39,1,c05),(41,1,c06),(50,1,c07)] fun c08=>
 StK a52 51 a51 c08 fun c09=>
 b [a51] c09))/\
 (YO a1 (.cells z52 52) fun a53 l6=>
 Qn a1 l6<|
 Qa prog 175 #[a] l6 fun c10 l7=>
 Qn l6 l7<|
 Qa prog 176 #[a] l7 fun c11 l8=>
 Qn l7 l8<|
 Qa prog 177 #[a] l8 fun c12 l9=>
 Qn l8 l9<|
 Qa prog 178 #[a] l9 fun c13 m0=>
 Qn l9 m0<|
 Qa prog 179 #[a] m0 fun c14 m1=>
 Qn m0 m1<|
 Qa prog 181 #[a] m1 fun c15 m2=>
 Qn m1 m2<|
 Qbc prog 180 #[c15] fun c16=>
 Qa prog 182 #[a] m2 fun c17 m3=>
 Qn m2 m3<|
 Qbc prog 180 #[c17] fun c18=>
 Qa prog 183 #[a] m3 fun c19 m4=>
 Qn m3 m4<|
 Qbc prog 180 #[c19] fun c20=>
 Qa prog 184 #[a,(.pointer none)] m4 fun c21 m5=>
 Qn m4 m5<|
 Ql prog .neq 211 c21 (.pointer none) fun c22=>
 Qa prog 185 #[a] m5 fun c23 m6=>
 Qn m5 m6<|
 Qa prog 186 #[a] m6 fun c24 m7=>
 Qn m6 m7<|
 Qa prog 187 #[a] m7 fun c25 m8=>
 Qn m7 m8<|
 Qa prog 188 #[a] m8 fun c26 a54=>
 Qn m8 a54<|
 QQ z52.toList [(1,1,c),(2,1,d),(3,1,e),(5,1,f),(15,1,g),(16,1,i),(17,1,j),(18,1,l),(19,1,c10),(20,1,c11),(21,1,c12),(22,1,c13),(23,1,c14),(25,1,c16),(26,1,c18),(27,1,c20),(34,1,c22),(36,1,c23),(39,1,c24),(41,1,c25),(50,1,c26)] fun c27=>
 StK a54 51 a53 c27 fun c28=>
 b [a53] c28))/\
 (YO a0 (.cells z52 52) fun a55 m9=>
 Qn a0 m9<|
 Qa prog 174 #[a] m9 fun c29 o0=>
 Qn m9 o0<|
 Qa prog 175 #[a] o0 fun c30 o1=>
 Qn o0 o1<|
 Qa prog 176 #[a] o1 fun c31 o2=>
 Qn o1 o2<|
 Qa prog 177 #[a] o2 fun c32 o3=>
 Qn o2 o3<|
 Qa prog 178 #[a] o3 fun c33 o4=>
 Qn o3 o4<|
 Qa prog 179 #[a] o4 fun c34 o5=>
 Qn o4 o5<|
 Qa prog 181 #[a] o5 fun c35 o6=>
 Qn o5 o6<|
 Qbc prog 180 #[c35] fun c36=>
 Qa prog 182 #[a] o6 fun c37 o7=>
 Qn o6 o7<|
 Qbc prog 180 #[c37] fun c38=>
 Qa prog 183 #[a] o7 fun c39 o8=>
 Qn o7 o8<|
 Qbc prog 180 #[c39] fun c40=>
 Qa prog 184 #[a,(.pointer none)] o8 fun c41 o9=>
 Qn o8 o9<|
 Ql prog .neq 211 c41 (.pointer none) fun c42=>
 Qa prog 185 #[a] o9 fun c43 p0=>
 Qn o9 p0<|
 Qa prog 186 #[a] p0 fun c44 p1=>
 Qn p0 p1<|
 Qa prog 187 #[a] p1 fun c45 p2=>
 Qn p1 p2<|
 Qa prog 188 #[a] p2 fun c46 a56=>
 Qn p2 a56<|
 QQ z52.toList [(1,1,c),(2,1,d),(3,1,e),(5,1,f),(15,1,g),(16,1,i),(17,1,j),(18,1,c29),(19,1,c30),(20,1,c31),(21,1,c32),(22,1,c33),(23,1,c34),(25,1,c36),(26,1,c38),(27,1,c40),(34,1,c42),(36,1,c43),(39,1,c44),(41,1,c45),(50,1,c46)] fun c47=>
 StK a56 51 a55 c47 fun c48=>
 b [a55] c48))/\
 (YO z (.cells z52 52) fun a57 p3=>
 Qn z p3<|
 Qa prog 173 #[a] p3 fun c49 p4=>
 Qn p3 p4<|
 Qa prog 174 #[a] p4 fun c50 p5=>
 Qn p4 p5<|
 Qa prog 175 #[a] p5 fun c51 p6=>
 Qn p5 p6<|
 Qa prog 176 #[a] p6 fun c52 p7=>
 Qn p6 p7<|
 Qa prog 177 #[a] p7 fun c53 p8=>
 Qn p7 p8<|
 Qa prog 178 #[a] p8 fun c54 p9=>
 Qn p8 p9<|
 Qa prog 179 #[a] p9 fun c55 q0=>
 Qn p9 q0<|
 Qa prog 181 #[a] q0 fun c56 q1=>
 Qn q0 q1<|
 Qbc prog 180 #[c56] fun c57=>
 Qa prog 182 #[a] q1 fun c58 q2=>
 Qn q1 q2<|
 Qbc prog 180 #[c58] fun c59=>
 Qa prog 183 #[a] q2 fun c60 q3=>
 Qn q2 q3<|
 Qbc prog 180 #[c60] fun c61=>
 Qa prog 184 #[a,(.pointer none)] q3 fun c62 q4=>
 Qn q3 q4<|
 Ql prog .neq 211 c62 (.pointer none) fun c63=>
 Qa prog 185 #[a] q4 fun c64 q5=>
 Qn q4 q5<|
 Qa prog 186 #[a] q5 fun c65 q6=>
 Qn q5 q6<|
 Qa prog 187 #[a] q6 fun c66 q7=>
 Qn q6 q7<|
 Qa prog 188 #[a] q7 fun c67 a58=>
 Qn q7 a58<|
 QQ z52.toList [(1,1,c),(2,1,d),(3,1,e),(5,1,f),(15,1,g),(16,1,i),(17,1,c49),(18,1,c50),(19,1,c51),(20,1,c52),(21,1,c53),(22,1,c54),(23,1,c55),(25,1,c57),(26,1,c59),(27,1,c61),(34,1,c63),(36,1,c64),(39,1,c65),(41,1,c66),(50,1,c67)] fun c68=>
 StK a58 51 a57 c68 fun c69=>
 b [a57] c69))/\
 (YO y (.cells z52 52) fun a59 q8=>
 Qn y q8<|
 Qa prog 172 #[a] q8 fun c70 q9=>
 Qn q8 q9<|
 Qa prog 173 #[a] q9 fun c71 r0=>
 Qn q9 r0<|
 Qa prog 174 #[a] r0 fun c72 r1=>
 Qn r0 r1<|
 Qa prog 175 #[a] r1 fun c73 r2=>
 Qn r1 r2<|
 Qa prog 176 #[a] r2 fun c74 r3=>
 Qn r2 r3<|
 Qa prog 177 #[a] r3 fun c75 r4=>
 Qn r3 r4<|
 Qa prog 178 #[a] r4 fun c76 r5=>
 Qn r4 r5<|
 Qa prog 179 #[a] r5 fun c77 r6=>
 Qn r5 r6<|
 Qa prog 181 #[a] r6 fun c78 r7=>
 Qn r6 r7<|
 Qbc prog 180 #[c78] fun c79=>
 Qa prog 182 #[a] r7 fun c80 r8=>
 Qn r7 r8<|
 Qbc prog 180 #[c80] fun c81=>
 Qa prog 183 #[a] r8 fun c82 r9=>
 Qn r8 r9<|
 Qbc prog 180 #[c82] fun c83=>
 Qa prog 184 #[a,(.pointer none)] r9 fun c84 s0=>
 Qn r9 s0<|
 Ql prog .neq 211 c84 (.pointer none) fun c85=>
 Qa prog 185 #[a] s0 fun c86 s1=>
 Qn s0 s1<|
 Qa prog 186 #[a] s1 fun c87 s2=>
 Qn s1 s2<|
 Qa prog 187 #[a] s2 fun c88 s3=>
 Qn s2 s3<|
 Qa prog 188 #[a] s3 fun c89 a60=>
 Qn s3 a60<|
 QQ z52.toList [(1,1,c),(2,1,d),(3,1,e),(5,1,f),(15,1,g),(16,1,c70),(17,1,c71),(18,1,c72),(19,1,c73),(20,1,c74),(21,1,c75),(22,1,c76),(23,1,c77),(25,1,c79),(26,1,c81),(27,1,c83),(34,1,c85),(36,1,c86),(39,1,c87),(41,1,c88),(50,1,c89)] fun c90=>
 StK a60 51 a59 c90 fun c91=>
 b [a59] c91))/\
 (YO w (.cells z52 52) fun a61 s4=>
 Qn w s4<|
 Qa prog 171 #[a] s4 fun c92 s5=>
 Qn s4 s5<|
 Qa prog 172 #[a] s5 fun c93 s6=>
 Qn s5 s6<|
 Qa prog 173 #[a] s6 fun c94 s7=>
 Qn s6 s7<|
 Qa prog 174 #[a] s7 fun c95 s8=>
 Qn s7 s8<|
 Qa prog 175 #[a] s8 fun c96 s9=>
 Qn s8 s9<|
 Qa prog 176 #[a] s9 fun c97 t0=>
 Qn s9 t0<|
 Qa prog 177 #[a] t0 fun c98 t1=>
 Qn t0 t1<|
 Qa prog 178 #[a] t1 fun c99 t2=>
 Qn t1 t2<|
 Qa prog 179 #[a] t2 fun d00 t3=>
 Qn t2 t3<|
 Qa prog 181 #[a] t3 fun d01 t4=>
 Qn t3 t4<|
 Qbc prog 180 #[d01] fun d02=>
 Qa prog 182 #[a] t4 fun d03 t5=>
 Qn t4 t5<|
 Qbc prog 180 #[d03] fun d04=>
 Qa prog 183 #[a] t5 fun d05 t6=>
 Qn t5 t6<|
 Qbc prog 180 #[d05] fun d06=>
 Qa prog 184 #[a,(.pointer none)] t6 fun d07 t7=>
 Qn t6 t7<|
 Ql prog .neq 211 d07 (.pointer none) fun d08=>
 Qa prog 185 #[a] t7 fun d09 t8=>
 Qn t7 t8<|
 Qa prog 186 #[a] t8 fun d10 t9=>
 Qn t8 t9<|
 Qa prog 187 #[a] t9 fun d11 u0=>
 Qn t9 u0<|
 Qa prog 188 #[a] u0 fun d12 a62=>
 Qn u0 a62<|
 QQ z52.toList [(1,1,c),(2,1,d),(3,1,e),(5,1,f),(15,1,c92),(16,1,c93),(17,1,c94),(18,1,c95),(19,1,c96),(20,1,c97),(21,1,c98),(22,1,c99),(23,1,d00),(25,1,d02),(26,1,d04),(27,1,d06),(34,1,d08),(36,1,d09),(39,1,d10),(41,1,d11),(50,1,d12)] fun d13=>
 StK a62 51 a61 d13 fun d14=>
 b [a61] d14))/\
 (YO v (.cells z52 52) fun a63 u1=>
 Qn v u1<|
 Qa prog 170 #[a] u1 fun d15 u2=>
 Qn u1 u2<|
 Qa prog 171 #[a] u2 fun d16 u3=>
 Qn u2 u3<|
 Qa prog 172 #[a] u3 fun d17 u4=>
 Qn u3 u4<|
 Qa prog 173 #[a] u4 fun d18 u5=>
 Qn u4 u5<|
 Qa prog 174 #[a] u5 fun d19 u6=>
 Qn u5 u6<|
 Qa prog 175 #[a] u6 fun d20 u7=>
 Qn u6 u7<|
 Qa prog 176 #[a] u7 fun d21 u8=>
 Qn u7 u8<|
 Qa prog 177 #[a] u8 fun d22 u9=>
 Qn u8 u9<|
 Qa prog 178 #[a] u9 fun d23 v0=>
 Qn u9 v0<|
 Qa prog 179 #[a] v0 fun d24 v1=>
 Qn v0 v1<|
 Qa prog 181 #[a] v1 fun d25 v2=>
 Qn v1 v2<|
 Qbc prog 180 #[d25] fun d26=>
 Qa prog 182 #[a] v2 fun d27 v3=>
 Qn v2 v3<|
 Qbc prog 180 #[d27] fun d28=>
 Qa prog 183 #[a] v3 fun d29 v4=>
 Qn v3 v4<|
 Qbc prog 180 #[d29] fun d30=>
 Qa prog 184 #[a,(.pointer none)] v4 fun d31 v5=>
 Qn v4 v5<|
 Ql prog .neq 211 d31 (.pointer none) fun d32=>
 Qa prog 185 #[a] v5 fun d33 v6=>
 Qn v5 v6<|
 Qa prog 186 #[a] v6 fun d34 v7=>
 Qn v6 v7<|
 Qa prog 187 #[a] v7 fun d35 v8=>
 Qn v7 v8<|
 Qa prog 188 #[a] v8 fun d36 a64=>
 Qn v8 a64<|
 QQ z52.toList [(1,1,c),(2,1,d),(3,1,e),(5,1,d15),(15,1,d16),(16,1,d17),(17,1,d18),(18,1,d19),(19,1,d20),(20,1,d21),(21,1,d22),(22,1,d23),(23,1,d24),(25,1,d26),(26,1,d28),(27,1,d30),(34,1,d32),(36,1,d33),(39,1,d34),(41,1,d35),(50,1,d36)] fun d37=>
 StK a64 51 a63 d37 fun d38=>
 b [a63] d38))/\
 (YO a25 (.cells z52 52) fun a65 d39=>
 Qa prog 169 #[a] d39 fun d40 v9=>
 B2SK v9 d40 fun d41=>
 Qa prog 170 #[a] v9 fun d42 w0=>
 Qn v9 w0<|
 Qa prog 171 #[a] w0 fun d43 w1=>
 Qn w0 w1<|
 Qa prog 172 #[a] w1 fun d44 w2=>
 Qn w1 w2<|
 Qa prog 173 #[a] w2 fun d45 w3=>
 Qn w2 w3<|
 Qa prog 174 #[a] w3 fun d46 w4=>
 Qn w3 w4<|
 Qa prog 175 #[a] w4 fun d47 w5=>
 Qn w4 w5<|
 Qa prog 176 #[a] w5 fun d48 w6=>
 Qn w5 w6<|
 Qa prog 177 #[a] w6 fun d49 w7=>
 Qn w6 w7<|
 Qa prog 178 #[a] w7 fun d50 w8=>
 Qn w7 w8<|
 Qa prog 179 #[a] w8 fun d51 w9=>
 Qn w8 w9<|
 Qa prog 181 #[a] w9 fun d52 y0=>
 Qn w9 y0<|
 Qbc prog 180 #[d52] fun d53=>
 Qa prog 182 #[a] y0 fun d54 y1=>
 Qn y0 y1<|
 Qbc prog 180 #[d54] fun d55=>
 Qa prog 183 #[a] y1 fun d56 y2=>
 Qn y1 y2<|
 Qbc prog 180 #[d56] fun d57=>
 Qa prog 184 #[a,(.pointer none)] y2 fun d58 y3=>
 Qn y2 y3<|
 Ql prog .neq 211 d58 (.pointer none) fun d59=>
 Qa prog 185 #[a] y3 fun d60 y4=>
 Qn y3 y4<|
 Qa prog 186 #[a] y4 fun d61 y5=>
 Qn y4 y5<|
 Qa prog 187 #[a] y5 fun d62 y6=>
 Qn y5 y6<|
 Qa prog 188 #[a] y6 fun d63 a66=>
 Qn y6 a66<|
 QQ z52.toList [(1,1,c),(2,1,d),(3,1,d41),(5,1,d42),(15,1,d43),(16,1,d44),(17,1,d45),(18,1,d46),(19,1,d47),(20,1,d48),(21,1,d49),(22,1,d50),(23,1,d51),(25,1,d53),(26,1,d55),(27,1,d57),(34,1,d59),(36,1,d60),(39,1,d61),(41,1,d62),(50,1,d63)] fun d64=>
 StK a66 51 a65 d64 fun d65=>
 b [a65] d65))/\
 (YO a24 (.cells z52 52) fun a67 d66=>
 Qa prog 168 #[a] d66 fun d67 d68=>
 Qa prog 169 #[a] d68 fun d69 y7=>
 B2SK y7 d69 fun d70=>
 Qa prog 170 #[a] y7 fun d71 y8=>
 Qn y7 y8<|
 Qa prog 171 #[a] y8 fun d72 y9=>
 Qn y8 y9<|
 Qa prog 172 #[a] y9 fun d73 z0=>
 Qn y9 z0<|
 Qa prog 173 #[a] z0 fun d74 z1=>
 Qn z0 z1<|
 Qa prog 174 #[a] z1 fun d75 z2=>
 Qn z1 z2<|
 Qa prog 175 #[a] z2 fun d76 z3=>
 Qn z2 z3<|
 Qa prog 176 #[a] z3 fun d77 z4=>
 Qn z3 z4<|
 Qa prog 177 #[a] z4 fun d78 z5=>
 Qn z4 z5<|
 Qa prog 178 #[a] z5 fun d79 z6=>
 Qn z5 z6<|
 Qa prog 179 #[a] z6 fun d80 z7=>
 Qn z6 z7<|
 Qa prog 181 #[a] z7 fun d81 z8=>
 Qn z7 z8<|
 Qbc prog 180 #[d81] fun d82=>
 Qa prog 182 #[a] z8 fun d83 z9=>
 Qn z8 z9<|
 Qbc prog 180 #[d83] fun d84=>
 Qa prog 183 #[a] z9 fun d85 a00=>
 Qn z9 a00<|
 Qbc prog 180 #[d85] fun d86=>
 Qa prog 184 #[a,(.pointer none)] a00 fun d87 a01=>
 Qn a00 a01<|
 Ql prog .neq 211 d87 (.pointer none) fun d88=>
 Qa prog 185 #[a] a01 fun d89 a02=>
 Qn a01 a02<|
 Qa prog 186 #[a] a02 fun d90 a03=>
 Qn a02 a03<|
 Qa prog 187 #[a] a03 fun d91 a04=>
 Qn a03 a04<|
 Qa prog 188 #[a] a04 fun d92 a68=>
 Qn a04 a68<|
 QQ z52.toList [(1,1,c),(2,1,d67),(3,1,d70),(5,1,d71),(15,1,d72),(16,1,d73),(17,1,d74),(18,1,d75),(19,1,d76),(20,1,d77),(21,1,d78),(22,1,d79),(23,1,d80),(25,1,d82),(26,1,d84),(27,1,d86),(34,1,d88),(36,1,d89),(39,1,d90),(41,1,d91),(50,1,d92)] fun d93=>
 StK a68 51 a67 d93 fun d94=>
 b [a67] d94))/\
 (YO a23 (.cells z52 52) fun a69 d95=>
 Qa prog 167 #[a] d95 fun d96 d97=>
 Qa prog 168 #[a] d97 fun d98 d99=>
 Qa prog 169 #[a] d99 fun e00 a05=>
 B2SK a05 e00 fun e01=>
 Qa prog 170 #[a] a05 fun e02 a06=>
 Qn a05 a06<|
 Qa prog 171 #[a] a06 fun e03 a07=>
 Qn a06 a07<|
 Qa prog 172 #[a] a07 fun e04 a08=>
 Qn a07 a08<|
 Qa prog 173 #[a] a08 fun e05 a09=>
 Qn a08 a09<|
 Qa prog 174 #[a] a09 fun e06 a10=>
 Qn a09 a10<|
 Qa prog 175 #[a] a10 fun e07 a11=>
 Qn a10 a11<|
 Qa prog 176 #[a] a11 fun e08 a12=>
 Qn a11 a12<|
 Qa prog 177 #[a] a12 fun e09 a13=>
 Qn a12 a13<|
 Qa prog 178 #[a] a13 fun e10 a14=>
 Qn a13 a14<|
 Qa prog 179 #[a] a14 fun e11 a15=>
 Qn a14 a15<|
 Qa prog 181 #[a] a15 fun e12 a16=>
 Qn a15 a16<|
 Qbc prog 180 #[e12] fun e13=>
 Qa prog 182 #[a] a16 fun e14 a17=>
 Qn a16 a17<|
 Qbc prog 180 #[e14] fun e15=>
 Qa prog 183 #[a] a17 fun e16 a18=>
 Qn a17 a18<|
 Qbc prog 180 #[e16] fun e17=>
 Qa prog 184 #[a,(.pointer none)] a18 fun e18 a19=>
 Qn a18 a19<|
 Ql prog .neq 211 e18 (.pointer none) fun e19=>
 Qa prog 185 #[a] a19 fun e20 a20=>
 Qn a19 a20<|
 Qa prog 186 #[a] a20 fun e21 a21=>
 Qn a20 a21<|
 Qa prog 187 #[a] a21 fun e22 a22=>
 Qn a21 a22<|
 Qa prog 188 #[a] a22 fun e23 a70=>
 Qn a22 a70<|
 QQ z52.toList [(1,1,d96),(2,1,d98),(3,1,e01),(5,1,e02),(15,1,e03),(16,1,e04),(17,1,e05),(18,1,e06),(19,1,e07),(20,1,e08),(21,1,e09),(22,1,e10),(23,1,e11),(25,1,e13),(26,1,e15),(27,1,e17),(34,1,e19),(36,1,e20),(39,1,e21),(41,1,e22),(50,1,e23)] fun e24=>
 StK a70 51 a69 e24 fun e25=>
 b [a69] e25)) fun b=>∀a71:Value,∀a72:Qf,b [a71] a72->
 rm1 a a71 a73 a72 R
theorem w39 {a h R} (H:s39 a h R):FnS prog 39 #[a] h R:=wq Tryz.func39 (by kernel_rfl) H
def s41 (a:Value) (h:Qf) (R:Kn):Prop:=
 Qfo a fun b=>
 Qf5 h 5 1 z5 b b fun c d=>
 CopyK d 1 c a fun _x9 e=>
 R c e
theorem w41 {a h R} (H:s41 a h R):FnS prog 41 #[a] h R:=wq Tryz.func41 (by kernel_rfl) H
def s72 (a:Value) (h:Qf) (R:Kn):Prop:=
 Ql prog .eql 9 a (.string ⟨#[]⟩) fun b=>
 IfK b
 (R (.slice none 0 0) h)
 (S2BK h 5 a fun c d=>
 R c d)
theorem w72 {a h R} (H:s72 a h R):FnS prog 72 #[a] h R:=wq Tryz.func72 (by kernel_rfl) H
def ts2 (a:Value) (b:Qf) (R:Kn):Prop:=
 R a b
def ts1B (d:Value) (e:Value) (f:Value) (c:Qf) (k:Kn):Prop:=
 Yn 2 d e fun g=>
 LdN c 2 g fun i=>
 YO c (.cells z84 84) fun a j=>
 StK j 2 a i fun b=>
 Qg a 0 fun l=>
 LdK b l fun m=>
 Qg a 1 fun o=>
 LdK b o fun p=>
 QQ z159.toList [(0,1,m),(1,1,p)] fun q=>
 YO b (.cells (Value.cells q) 159) fun r s=>
 Ya s 158 1 (ZA z158.toList 1) [(0,1,r)] fun t u=>
 QdL u 158 1 8 z158 f t fun v w=>
 k v w
def ts1 (a:Value) (h:Qf) (R:Kn):Prop:=
 QbE prog 3 a h (ts1B a) fun b c=>ts2 b c R
def s73 (a:Value) (h:Qf) (R:Kn):Prop:=
 ts1 a h R
theorem w73 {a h R} (H:s73 a h R):FnS prog 73 #[a] h R:=wq Tryz.func73 (by kernel_rfl) H
def s74 (a:Value) (h:Qf) (R:Kn):Prop:=
 Y8 a fun b=>
 Ql prog .eql 3 b (.int .i64 0) fun c=>
 IfK c
 (R (.slice none 0 0) h)
 (R a h)
theorem w74 {a h R} (H:s74 a h R):FnS prog 74 #[a] h R:=wq Tryz.func74 (by kernel_rfl) H
def s75 (a:Value) (h:Qf) (R:Kn):Prop:=
 Y8 a fun b=>
 Ql prog .eql 3 b (.int .i64 0) fun c=>
 IfK c
 (R (.slice none 0 0) h)
 (R a h)
theorem w75 {a h R} (H:s75 a h R):FnS prog 75 #[a] h R:=wq Tryz.func75 (by kernel_rfl) H
def s77 (a:Value) (h:Qf) (R:Kn):Prop:=
 Y8 a fun b=>
 Ql prog .eql 3 b (.int .i64 0) fun c=>
 IfK c
 (R (.slice none 0 0) h)
 (R a h)
theorem w77 {a h R} (H:s77 a h R):FnS prog 77 #[a] h R:=wq Tryz.func77 (by kernel_rfl) H
def rf2 (a:Value) (b:Qf) (R:Kn):Prop:=
 R a b
def rf1B (b:Value) (c:Value) (d:Value) (a:Qf) (k:Kn):Prop:=
 Yn 1 b c fun e=>
 LdK a e fun f=>
 QQ z257.toList [(0,1,f)] fun g=>
 YO a (.cells (Value.cells g) 257) fun i j=>
 Ya j 185 1 (ZA z185.toList 1) [(0,1,i)] fun l m=>
 QdL m 185 1 8 z185 d l fun o p=>
 k o p
def rf1 (a:Value) (h:Qf) (R:Kn):Prop:=
 QbE prog 3 a h (rf1B a) fun b c=>rf2 b c R
def s78 (a:Value) (h:Qf) (R:Kn):Prop:=
 rf1 a h R
theorem w78 {a h R} (H:s78 a h R):FnS prog 78 #[a] h R:=wq Tryz.func78 (by kernel_rfl) H
def s79 (a:Value) (h:Qf) (R:Kn):Prop:=
 Y8 a fun b=>
 Ql prog .eql 3 b (.int .i64 0) fun c=>
 IfK c
 (R (.slice none 0 0) h)
 (R a h)
theorem w79 {a h R} (H:s79 a h R):FnS prog 79 #[a] h R:=wq Tryz.func79 (by kernel_rfl) H
def s81 (c:Value) (h:Qf) (R:Kn):Prop:=
 YO h (.cells (Value.cells c) 47) fun b a=>
 Qg b 0 fun d=>
 LdK a d fun e=>
 Ql prog .eql 5 e (.int .u8 2) fun f=>
 IfK f
 (Qg b 2 fun g=>
 LdK a g fun i=>
 QQ z260.toList [(0,1,i)] fun j=>
 YO a (.cells (Value.cells j) 260) fun l m=>
 R (.iface 258 l) m)
 (LdN a 3 b fun o=>
 Qa prog 82 #[o] a fun p q=>
 R (.iface 69 p) q)
theorem w81 {a h R} (H:s81 a h R):FnS prog 81 #[a] h R:=wq Tryz.func81 (by kernel_rfl) H
def s82 (c:Value) (h:Qf) (R:Kn):Prop:=
 YO h (.cells (Value.cells c) 47) fun b a=>
 Qg b 1 fun d=>
 LdK a d fun e=>
 Y8 e fun f=>
 Ql prog .eql 3 f (.int .i64 0) fun g=>
 IfK g
 (R (.pointer none) a)
 (Qg b 1 fun i=>
 LdK a i fun j=>
 Yn 51 j (.int .i64 0) fun l=>
 LdN a 51 l fun m=>
 Qa prog 20 #[m] a fun o p=>
 R o p)
theorem w82 {a h R} (H:s82 a h R):FnS prog 82 #[a] h R:=wq Tryz.func82 (by kernel_rfl) H
def s242 (d v w:Value) (h:Qf) (R:Kn):Prop:=
 YO h (.cells (Value.cells w) 224) fun c y=>
 YO y (.cells z47 47) fun a i=>
 Z1 prog (Op.unary .not v) fun e=>
 Qe e false (fun z=>z d i) i fun a0 j=>
 Qe e false (fun a1=>Ql prog .eql 5 a0 (.int .u8 0) fun a2=>a1 a2 j) j fun a3 l=>
 Yj e (.bool true) a3 fun a4=>
 IfK a4
 (QQ z47.toList [] fun a5=>
 StK l 3 a a5 fun m=>
 LdN m 3 a fun a6=>
 R a6 m)
 (QQ z47.toList [(0,1,d)] fun a7=>
 YO l (.cells z47 47) fun b a8=>
 StK a8 3 b a7 fun o=>
 Ql prog .eql 5 d (.int .u8 2) fun a9=>
 IfK a9
 (YO o (.cells z298 298) fun p f=>
 Qg c 0 fun b0=>
 LdK f b0 fun b1=>
 Qg c 1 fun b2=>
 LdK f b2 fun b3=>
 Qa prog 315 #[p,b1,b3] f fun _x25 b4=>
 Qa prog 316 #[p] b4 fun b5 b6=>
 Qg b 2 fun b7=>
 StK b6 1 b7 b5 fun q=>
 LdN q 3 b fun b8=>
 StK q 3 a b8 fun r=>
 LdN r 3 a fun b9=>
 R b9 r)
 (YO o (.cells z232 232) fun s g=>
 Qg c 0 fun c0=>
 LdK g c0 fun c1=>
 Qg c 1 fun c2=>
 LdK g c2 fun c3=>
 Qa prog 248 #[s,c1,c3] g fun _x33 c4=>
 Qa prog 39 #[s] c4 fun c5 c6=>
 Ya c6 52 1 (ZA z52.toList 1) [(0,51,c5)] fun c7 c8=>
 Qg b 1 fun c9=>
 StK c8 1 c9 c7 fun t=>
 LdN t 3 b fun d0=>
 StK t 3 a d0 fun u=>
 LdN u 3 a fun d1=>
 R d1 u))
theorem w242 {a b c h R} (H:s242 a b c h R):FnS prog 242 #[a,b,c] h R:=wq Tryz.func242 (by kernel_rfl) H
end Go.Proofs
namespace Go.Proofs
open Go Go.Vc
open Tryz (prog)
abbrev RM (G0:Cut) (H0:Qf) (q2 q3:Nat) (G:Cut) (H:Qf) (cells:List Value):Prop:=RS G0 H0 52 (.cells z52 52 (0,0)) q2 q3 G H cells
abbrev ptr (b:Nat):Value:=.pointer (some ⟨b,0,none⟩)
theorem QaV {cells:List Value} {fld:Nat} {v:Value} (h:cells[fld]?=some v):cells.set fld v=cells:=by
 apply List.ext_getElem?
 intro j
 rw[List.getElem?_set]
 split
 ·rename_i e
  subst e
  split
  ·exact h.symm
  ·rename_i hlt;rw[List.getElem?_eq_none (by omega)]
 ·rfl
theorem get_set {cells:List Value} {fld:Nat} {v w:Value} (h:cells[fld]?=some w):(cells.set fld v)[fld]?=some v:=by
 have:fld<cells.length:=by
  rcases Nat.lt_or_ge fld cells.length with hh|hh
  ·exact hh
  ·rw[List.getElem?_eq_none hh]at h;cases h
 simp[this]
theorem Q6 {α:Type} {l:List α} {i:Nat} {a:α} (h:l[i]?=some a):i<l.length:=by
 rcases Nat.lt_or_ge i l.length with hh|hh
 ·exact hh
 ·rw[List.getElem?_eq_none hh]at h;cases h
theorem Zg {α:Type} {f:α->List Value} {l:List α} {i:Nat} {a:α} (h:l[i]?=some a):(l.take (i+1)).map f=(l.take i).map f++[f a]:=by
 rw[List.take_add_one,h];simp
theorem QcG {α:Type} {l:List α} {i:Nat} {a:α} (h:l[i]?=some a):l.take (i+1)=l.take i++[a]:=by
 rw[List.take_add_one,h];simp
section
variable {G0:Cut} {H0:Qf} {q2 q3:Nat} {G:Cut} {H:Qf} {cells:List Value} (rs:RM G0 H0 q2 q3 G H cells)
include rs
theorem app_loop {P:Program} {t:TypeId} {lenf:FuncId} {x0:Value} {Bd:Value->Qf->(Qf->Prop)->Prop} {K:Qf->Prop} {fld es:Nat} {et:TypeId} {n:Nat} (Items:Cut->Nat->List (List Value)->Prop) (h0:Items G 0 []) (hc:cells[fld]?=some (.slice none 0 0)) (hn:n<4611686018427387904)
  (hlen:∀H' (R:Kn),QaB H0 H'->R (.int .i64 (n:Nat)) H'->FnS P lenf #[x0] H' R)
  (hB:∀i G1 H' c cells' items (k:Qf->Prop),i<n->G.le G1->RM G0 H0 q2 q3 G1 H' cells'->cells'[fld]?=some c->Cur H0 G1 H' et es c items (badq q2 q3)->Items G1 i items->
   (∀G2 H2 c2 items2,G1.le G2->RM G0 H0 q2 q3 G2 H2 (cells'.set fld c2)->Cur H0 G2 H2 et es c2 items2 (badq q2 q3)->Items G2 (i+1) items2->k H2)->Bd (.int .i64 (i:Nat)) H' k)
  (hk:∀G' G1 H' c items,RM G0 H0 q2 q3 G' H' (cells.set fld c)->G.le G'->SlV G' es c items->Items G1 n items->G1.le G'->K H'):ZP P t lenf x0 Bd H K:=by
 refine cntLoop_of (n:=n) (fun i H'=>∃G1 c items,G.le G1/\RM G0 H0 q2 q3 G1 H' (cells.set fld c)/\Cur H0 G1 H' et es c items (badq q2 q3)/\Items G1 i items) ⟨G,_,[],Cut.le_refl G,by rw[QaV hc];exact rs,Cur.nil,h0⟩ hn ?_ ?_ ?_
 ·rintro i H' R ⟨G1,c,items,_,rs',_⟩ hR
  exact hlen H' R rs'.ext.keep hR
 ·rintro i H' k hlt ⟨G1,c,items,hle,rs',hc',hi⟩ hk'
  refine hB i G1 H' c _ items k hlt hle rs' (get_set hc) hc' hi ?_
  intro G2 H2 c2 items2 hle2 rs2 hc2 hi2
  exact hk' H2 ⟨G2,c2,items2,Cut.le_trans hle hle2,by rw[List.set_set]at rs2;exact rs2,hc2,hi2⟩
 ·rintro H' ⟨G1,c,items,hle,rs',hc',hi⟩
  obtain ⟨G',e',sl,le,hown⟩:=hc'.done rs'.ext
  exact hk G' G1 H' c items ⟨e',hown _ _ (Or.inl rfl) rs'.o2,hown _ _ (Or.inr rfl) rs'.o3,rs'.ne⟩ (Cut.le_trans hle le) sl hi le
theorem Qb0 {α:Type} {l:List α} {f:α->List Value} {P:Program} {t:TypeId} {lenf:FuncId} {x0:Value} {Bd:Value->Qf->(Qf->Prop)->Prop} {K:Qf->Prop} {fld es:Nat} {et:TypeId} (hc:cells[fld]?=some (.slice none 0 0)) (hn:l.length<4611686018427387904)
  (hlen:∀H' (R:Kn),QaB H0 H'->R (.int .i64 (l.length:Nat)) H'->FnS P lenf #[x0] H' R)
  (hB:∀i a H' c cells' (k:Qf->Prop),l[i]?=some a->RM G0 H0 q2 q3 G H' cells'->cells'[fld]?=some c->Cur H0 G H' et es c ((l.take i).map f) (badq q2 q3)->((l.take i).map f).length<l.length->
   (∀H2 c2,RM G0 H0 q2 q3 G H2 (cells'.set fld c2)->Cur H0 G H2 et es c2 ((l.take i).map f++[f a]) (badq q2 q3)->k H2)->Bd (.int .i64 (i:Nat)) H' k)
  (hk:∀G' H' c,RM G0 H0 q2 q3 G' H' (cells.set fld c)->G.le G'->SlV G' es c (l.map f)->K H'):ZP P t lenf x0 Bd H K:=by
 refine app_loop rs (et:=et) (es:=es) (fun G1 i items=>G1=G/\items=(l.take i).map f) ⟨rfl,by simp⟩ hc hn hlen ?_ ?_
 ·rintro i G1 H' c cells' items k hlt _ rs' hc' hcur ⟨rfl,rfl⟩ hk'
  have ha:=List.getElem?_eq_getElem hlt
  refine hB i _ H' c cells' k ha rs' hc' hcur (by rw[List.length_map,List.length_take];omega) ?_
  intro H2 c2 rs2 hc2
  exact hk' _ H2 c2 _ (Cut.le_refl _) rs2 hc2 ⟨rfl,(Zg ha).symm⟩
 ·rintro G' G1 H' c items rs' hle sl ⟨rfl,rfl⟩ _
  rw[List.take_length]at sl
  exact hk G' H' c rs' hle sl
theorem Qhf {P:Program} {t:TypeId} {lenf:FuncId} {x0:Value} {Bd:Value->Qf->(Qf->Prop)->Prop} {K:Qf->Prop} {fld:Nat} {xs:List UInt8} (hc:cells[fld]?=some (YK [])) (hn:xs.length<4611686018427387904)
  (hlen:∀H' (R:Kn),QaB H0 H'->R (.int .i64 (xs.length:Nat)) H'->FnS P lenf #[x0] H' R)
  (hB:∀i b H' cells' (k:Qf->Prop),xs[i]?=some b->RM G0 H0 q2 q3 G H' cells'->cells'[fld]?=some (YK (xs.take i))->(xs.take i).length+1<=9223372036854775807->(∀H2,RM G0 H0 q2 q3 G H2 (cells'.set fld (YK (xs.take i++[b])))->k H2)->Bd (.int .i64 (i:Nat)) H' k)
  (hk:∀H',RM G0 H0 q2 q3 G H' (cells.set fld (YK xs))->K H'):ZP P t lenf x0 Bd H K:=by
 refine cntLoop_of (n:=xs.length) (fun i H'=>RM G0 H0 q2 q3 G H' (cells.set fld (YK (xs.take i)))) (by rw[List.take_zero,QaV hc];exact rs) hn ?_ ?_ ?_
 ·intro i H' R rs' hR
  exact hlen H' R rs'.ext.keep hR
 ·intro i H' k hlt rs' hk'
  have ha:=List.getElem?_eq_getElem hlt
  refine hB i _ H' _ k ha rs' (get_set hc) (by rw[List.length_take];omega) ?_
  intro H2 rs2
  rw[List.set_set,<-QcG ha]at rs2
  exact hk' H2 rs2
 ·intro H' rs'
  rw[List.take_length]at rs'
  exact hk H' rs'
end
theorem bool_at {bs:List UInt8} {p:Nat} {b:Bool} (h:YI bs p (QeF b)):decide ((byteN bs p:Int)=1)=b:=by
 have:=h.byte (i:=0) Nat.zero_lt_one
 rw[Nat.add_zero]at this
 rw[this]
 cases b<;>decide
theorem QeV {zs:List Value} {parts:List (Nat×Nat×Value)} {cs:List Value} {k:Value->Prop} (h:Z7 zs parts=some cs) (hk:k (.agg cs.toArray)):QQ zs parts k:=by
 unfold QQ;simp only[h];exact hk
section
variable {A p B pos vt:Nat} {bs:List UInt8} {d:QcO} {G0:Cut} {H0:Qf} (ht:Tab H0 p B bs pos) (hv:VT bs pos vt) {q2 q3:Nat} {G:Cut} {H:Qf} {cells:List Value} (rs:RM G0 H0 q2 q3 G H cells) {R:Kn}
include ht hv rs
theorem rm2_ok (own:QJ A bs pos vt 14 (d.inventory=[]) (Z9 (Qb4 d.inventory))) (hc:cells[4]?=some (YK [])) (hk:∀H',RM G0 H0 q2 q3 G H' (cells.set 4 (YK d.inventory))->rm3 (ptr p) (ptr q3) (ptr q2) H' R):rm2 (ptr p) (ptr q3) (ptr q2) H R:=by
 obtain ⟨at_,hf,hi⟩:=own.str
 have hn:=Qc2.n_le hf (by decide)
 have hlt:=ht.lt
 unfold rm2
 refine Qhf rs (xs:=d.inventory) hc (by omega) (fun H' R hK hR=>QcI (ht.ext hK.ext) hv hf hR) ?_ hk
 intro i b H' cells' k hb rs' hc' hl hk'
 have hil:=Q6 hb
 have hbv:byteN bs (at_+1*i)=b.toNat:=by
  rw[Nat.one_mul,hi.byte hil];simp[byteN,List.getD,hb]
 unfold rm2B
 rw[Qh,rs'.ld hc']
 refine Qe0 (rs'.tab ht) hv hf hil ?_
 rw[Qb,hbv]
 exact rs'.push_byte rfl hl (Q6 hc') hk'
theorem rm7_ok (own:QJ A bs pos vt 30 (d.nested=[]) (Z9 (Qb4 d.nested))) (hc:cells[13]?=some (YK [])) (hk:∀H',RM G0 H0 q2 q3 G H' (cells.set 13 (YK d.nested))->rm8 (ptr p) (ptr q3) (ptr q2) H' R):rm7 (ptr p) (ptr q3) (ptr q2) H R:=by
 obtain ⟨at_,hf,hi⟩:=own.str
 have hn:=Qc2.n_le hf (by decide)
 have hlt:=ht.lt
 unfold rm7
 refine Qhf rs (xs:=d.nested) hc (by omega) (fun H' R hK hR=>Qat (ht.ext hK.ext) hv hf hR) ?_ hk
 intro i b H' cells' k hb rs' hc' hl hk'
 have hil:=Q6 hb
 have hbv:byteN bs (at_+1*i)=b.toNat:=by
  rw[Nat.one_mul,hi.byte hil];simp[byteN,List.getD,hb]
 unfold rm7B
 rw[Qh,rs'.ld hc']
 refine Qbs (rs'.tab ht) hv hf hil ?_
 rw[Qb,hbv]
 exact rs'.push_byte rfl hl (Q6 hc') hk'
theorem rm12_ok (own:QJ A bs pos vt 64 (d.flex=[]) (Z9 (Qb4 d.flex))) (hc:cells[30]?=some (YK [])) (hk:∀H',RM G0 H0 q2 q3 G H' (cells.set 30 (YK d.flex))->rm13 (ptr p) (ptr q3) (ptr q2) H' R):rm12 (ptr p) (ptr q3) (ptr q2) H R:=by
 obtain ⟨at_,hf,hi⟩:=own.str
 have hn:=Qc2.n_le hf (by decide)
 have hlt:=ht.lt
 unfold rm12
 refine Qhf rs (xs:=d.flex) hc (by omega) (fun H' R hK hR=>QdM (ht.ext hK.ext) hv hf hR) ?_ hk
 intro i b H' cells' k hb rs' hc' hl hk'
 have hil:=Q6 hb
 have hbv:byteN bs (at_+1*i)=b.toNat:=by
  rw[Nat.one_mul,hi.byte hil];simp[byteN,List.getD,hb]
 unfold rm12B
 rw[Qh,rs'.ld hc']
 refine Qg8 (rs'.tab ht) hv hf hil ?_
 rw[Qb,hbv]
 exact rs'.push_byte rfl hl (Q6 hc') hk'
theorem rm9_ok (own:QJ A bs pos vt 52 ((d.bools.map QeF)=[]) (Z9 (ZX 1 1 (d.bools.map QeF)))) (hc:cells[24]?=some (.slice none 0 0)) (hk:∀G' H' c,RM G0 H0 q2 q3 G' H' (cells.set 24 c)->G.le G'->SlV G' 1 c (d.bools.map Qif)->rm10 (ptr p) (ptr q3) (ptr q2) H' R):rm9 (ptr p) (ptr q3) (ptr q2) H R:=by
 obtain ⟨at_,hf,hi⟩:=own.vec (Yc (fun b:Bool=>(rfl:(QeF b).length=1)) (l:=d.bools))
 rw[List.length_map]at hf
 have hn:=Qc2.n_le hf (by decide)
 have hlt:=ht.lt
 unfold rm9
 refine Qb0 rs (l:=d.bools) (f:=Qif) (et:=4) hc (by omega) (fun H' R hK hR=>Qb7 (ht.ext hK.ext) hv hf hR) ?_ hk
 intro i a H' c cells' k ha rs' hc' hcur hil hk'
 have hia:=Q6 ha
 have hby:=hi i _ (by rw[List.getElem?_map,ha];rfl)
 unfold rm9B
 rw[Qh,rs'.ld hc']
 refine Qcr (rs'.tab ht) hv hf hia ?_
 rw[Qb,bool_at hby]
 exact rs'.push_item hcur (it:=Qif a) rfl rfl (by intro x hx;simp only[Qif,List.mem_cons,List.not_mem_nil,or_false]at hx;subst hx;rfl) (by decide) rfl (by decide) (by omega) (Q6 hc') hk'
theorem rm14_ok (own:QJ A bs pos vt 68 ((d.longs.map Qap)=[]) (Z9 (ZX 8 8 (d.longs.map Qap)))) (hc:cells[32]?=some (.slice none 0 0)) (hk:∀G' H' c,RM G0 H0 q2 q3 G' H' (cells.set 32 c)->G.le G'->SlV G' 1 c (d.longs.map i64I)->rm15 (ptr p) (ptr q3) (ptr q2) H' R):rm14 (ptr p) (ptr q3) (ptr q2) H R:=by
 obtain ⟨at_,hf,hi⟩:=own.vec (Yc (fun x=>Qi _ _))
 rw[List.length_map]at hf
 have hn:=Qc2.n_le hf (by decide)
 have hlt:=ht.lt
 unfold rm14
 refine Qb0 rs (l:=d.longs) (f:=i64I) (et:=2) hc (by omega) (fun H' R hK hR=>QbG (ht.ext hK.ext) hv hf hR) ?_ hk
 intro i a H' c cells' k ha rs' hc' hcur hil hk'
 have hia:=Q6 ha
 have hby:=hi i _ (by rw[List.getElem?_map,ha];rfl)
 unfold rm14B
 rw[Qh,rs'.ld hc']
 refine Qd3 (rs'.tab ht) hv hf hia ?_
 rw[Qb,u64B_at hby]
 exact rs'.push_item hcur (it:=i64I a) rfl rfl (by intro x hx;simp only[i64I,List.mem_cons,List.not_mem_nil,or_false]at hx;subst hx;rfl) (by decide) rfl (by decide) (by omega) (Q6 hc') hk'
theorem rm15_ok (own:QJ A bs pos vt 70 ((d.doubles.map Qap)=[]) (Z9 (ZX 8 8 (d.doubles.map Qap)))) (hc:cells[33]?=some (.slice none 0 0)) (hk:∀G' H' c,RM G0 H0 q2 q3 G' H' (cells.set 33 c)->G.le G'->SlV G' 1 c (d.doubles.map Qdf)->rm16 (ptr p) (ptr q3) (ptr q2) H' R):rm15 (ptr p) (ptr q3) (ptr q2) H R:=by
 obtain ⟨at_,hf,hi⟩:=own.vec (Yc (fun x=>Qi _ _))
 rw[List.length_map]at hf
 have hn:=Qc2.n_le hf (by decide)
 have hlt:=ht.lt
 unfold rm15
 refine Qb0 rs (l:=d.doubles) (f:=Qdf) (et:=31) hc (by omega) (fun H' R hK hR=>Qbg (ht.ext hK.ext) hv hf hR) ?_ hk
 intro i a H' c cells' k ha rs' hc' hcur hil hk'
 have hia:=Q6 ha
 have hby:=hi i _ (by rw[List.getElem?_map,ha];rfl)
 unfold rm15B
 rw[Qh,rs'.ld hc']
 refine QcH (rs'.tab ht) hv hf hia ?_
 rw[Qb,u64B_at hby]
 refine QW (fun w=>Qds) ?_
 exact rs'.push_item hcur (it:=Qdf a) rfl rfl (by intro x hx;simp only[Qdf,List.mem_cons,List.not_mem_nil,or_false]at hx;subst hx;rfl) (by decide) rfl (by decide) (by omega) (Q6 hc') hk'
theorem rm17_ok (own:QJ A bs pos vt 78 ((d.weak.map Qap)=[]) (Z9 (ZX 8 8 (d.weak.map Qap)))) (hc:cells[37]?=some (.slice none 0 0)) (hk:∀G' H' c,RM G0 H0 q2 q3 G' H' (cells.set 37 c)->G.le G'->SlV G' 1 c (d.weak.map Qdf)->rm18 (ptr p) (ptr q3) (ptr q2) H' R):rm17 (ptr p) (ptr q3) (ptr q2) H R:=by
 obtain ⟨at_,hf,hi⟩:=own.vec (Yc (fun x=>Qi _ _))
 rw[List.length_map]at hf
 have hn:=Qc2.n_le hf (by decide)
 have hlt:=ht.lt
 unfold rm17
 refine Qb0 rs (l:=d.weak) (f:=Qdf) (et:=31) hc (by omega) (fun H' R hK hR=>Qaa (ht.ext hK.ext) hv hf hR) ?_ hk
 intro i a H' c cells' k ha rs' hc' hcur hil hk'
 have hia:=Q6 ha
 have hby:=hi i _ (by rw[List.getElem?_map,ha];rfl)
 unfold rm17B
 rw[Qh,rs'.ld hc']
 refine Qb5 (rs'.tab ht) hv hf hia ?_
 rw[Qb,u64B_at hby]
 exact rs'.push_item hcur (it:=Qdf a) rfl rfl (by intro x hx;simp only[Qdf,List.mem_cons,List.not_mem_nil,or_false]at hx;subst hx;rfl) (by decide) rfl (by decide) (by omega) (Q6 hc') hk'
theorem rm19_ok (own:QJ A bs pos vt 84 ((d.coOwnings.map Qap)=[]) (Z9 (ZX 8 8 (d.coOwnings.map Qap)))) (hc:cells[40]?=some (.slice none 0 0)) (hk:∀G' H' c,RM G0 H0 q2 q3 G' H' (cells.set 40 c)->G.le G'->SlV G' 1 c (d.coOwnings.map Qdf)->rm20 (ptr p) (ptr q3) (ptr q2) H' R):rm19 (ptr p) (ptr q3) (ptr q2) H R:=by
 obtain ⟨at_,hf,hi⟩:=own.vec (Yc (fun x=>Qi _ _))
 rw[List.length_map]at hf
 have hn:=Qc2.n_le hf (by decide)
 have hlt:=ht.lt
 unfold rm19
 refine Qb0 rs (l:=d.coOwnings) (f:=Qdf) (et:=31) hc (by omega) (fun H' R hK hR=>ZY (ht.ext hK.ext) hv hf hR) ?_ hk
 intro i a H' c cells' k ha rs' hc' hcur hil hk'
 have hia:=Q6 ha
 have hby:=hi i _ (by rw[List.getElem?_map,ha];rfl)
 unfold rm19B
 rw[Qh,rs'.ld hc']
 refine Qau (rs'.tab ht) hv hf hia ?_
 rw[Qb,u64B_at hby]
 exact rs'.push_item hcur (it:=Qdf a) rfl rfl (by intro x hx;simp only[Qdf,List.mem_cons,List.not_mem_nil,or_false]at hx;subst hx;rfl) (by decide) rfl (by decide) (by omega) (Q6 hc') hk'
theorem rm20_ok (own:QJ A bs pos vt 88 ((d.nonOwnings.map Qap)=[]) (Z9 (ZX 8 8 (d.nonOwnings.map Qap)))) (hc:cells[42]?=some (.slice none 0 0)) (hk:∀G' H' c,RM G0 H0 q2 q3 G' H' (cells.set 42 c)->G.le G'->SlV G' 1 c (d.nonOwnings.map Qdf)->rm21 (ptr p) (ptr q3) (ptr q2) H' R):rm20 (ptr p) (ptr q3) (ptr q2) H R:=by
 obtain ⟨at_,hf,hi⟩:=own.vec (Yc (fun x=>Qi _ _))
 rw[List.length_map]at hf
 have hn:=Qc2.n_le hf (by decide)
 have hlt:=ht.lt
 unfold rm20
 refine Qb0 rs (l:=d.nonOwnings) (f:=Qdf) (et:=31) hc (by omega) (fun H' R hK hR=>ZN (ht.ext hK.ext) hv hf hR) ?_ hk
 intro i a H' c cells' k ha rs' hc' hcur hil hk'
 have hia:=Q6 ha
 have hby:=hi i _ (by rw[List.getElem?_map,ha];rfl)
 unfold rm20B
 rw[Qh,rs'.ld hc']
 refine Qal (rs'.tab ht) hv hf hia ?_
 rw[Qb,u64B_at hby]
 exact rs'.push_item hcur (it:=Qdf a) rfl rfl (by intro x hx;simp only[Qdf,List.mem_cons,List.not_mem_nil,or_false]at hx;subst hx;rfl) (by decide) rfl (by decide) (by omega) (Q6 hc') hk'
theorem rm3_ok (own:QJ A bs pos vt 22 ((d.test4.map (fun t=>QaJ t.a.toNat t.b.toNat))=[]) (Z9 (ZX 4 2 (d.test4.map (fun t=>QaJ t.a.toNat t.b.toNat))))) (hc:cells[9]?=some (.slice none 0 0)) (hk:∀G' H' c,RM G0 H0 q2 q3 G' H' (cells.set 9 c)->G.le G'->SlV G' 2 c (d.test4.map Yu)->rm4 (ptr p) (ptr q3) (ptr q2) H' R):rm3 (ptr p) (ptr q3) (ptr q2) H R:=by
 obtain ⟨at_,hf,hi⟩:=own.vec (Yc (fun t:Qbo=>QaU t.a.toNat t.b.toNat))
 rw[List.length_map]at hf
 have hn:=Qc2.n_le hf (by decide)
 have hlt:=ht.lt
 unfold rm3
 refine Qb0 rs (l:=d.test4) (f:=Yu) (et:=84) hc (by omega) (fun H' R hK hR=>QdG (ht.ext hK.ext) hv hf hR) ?_ hk
 intro i a H' c cells' k ha rs' hc' hcur hil hk'
 have hia:=Q6 ha
 obtain ⟨b1,b2,b3⟩:=testB_at (hi i _ (by rw[List.getElem?_map,ha];rfl))
 unfold rm3B
 rw[QB]
 have rs1:=rs'.push (.cells z228 228)
 refine QfF (rs1.tab ht) hv hf hia Qp rfl ?_
 rw[YZ]
 have rs2:=rs'.push (.cells #[bsl B 0 bs.length bs.length,.int .u32 (at_+4*i:Nat)] 228)
 have t2:Tab (H'.push (.cells #[bsl B 0 bs.length bs.length,.int .u32 (at_+4*i:Nat)] 228)) H'.size B bs (at_+4*i):=⟨Qu Qp,Qu Qp,(rs2.tab ht).u8,ht.lt,by omega⟩
 rw[Qh,rs2.ld hc']
 refine QdV t2 (by omega) ?_
 rw[Qb]
 refine Qeb t2 (by omega) ?_
 rw[Qb,b2,b3]
 refine QeV (cs:=Yu a) (by kernel_rfl) ?_
 exact rs2.push_item (hcur.push _) (it:=Yu a) rfl rfl (by intro x hx;simp only[Yu,List.mem_cons,List.not_mem_nil,or_false]at hx;rcases hx with rfl|rfl<;>rfl) (by decide) rfl (by decide) (by omega) (Q6 hc') hk'
theorem rm13_ok (own:QJ A bs pos vt 66 ((d.test5.map (fun t=>QaJ t.a.toNat t.b.toNat))=[]) (Z9 (ZX 4 2 (d.test5.map (fun t=>QaJ t.a.toNat t.b.toNat))))) (hc:cells[31]?=some (.slice none 0 0)) (hk:∀G' H' c,RM G0 H0 q2 q3 G' H' (cells.set 31 c)->G.le G'->SlV G' 2 c (d.test5.map Yu)->rm14 (ptr p) (ptr q3) (ptr q2) H' R):rm13 (ptr p) (ptr q3) (ptr q2) H R:=by
 obtain ⟨at_,hf,hi⟩:=own.vec (Yc (fun t:Qbo=>QaU t.a.toNat t.b.toNat))
 rw[List.length_map]at hf
 have hn:=Qc2.n_le hf (by decide)
 have hlt:=ht.lt
 unfold rm13
 refine Qb0 rs (l:=d.test5) (f:=Yu) (et:=84) hc (by omega) (fun H' R hK hR=>Qdt (ht.ext hK.ext) hv hf hR) ?_ hk
 intro i a H' c cells' k ha rs' hc' hcur hil hk'
 have hia:=Q6 ha
 obtain ⟨b1,b2,b3⟩:=testB_at (hi i _ (by rw[List.getElem?_map,ha];rfl))
 unfold rm13B
 rw[QB]
 have rs1:=rs'.push (.cells z228 228)
 refine QfQ (rs1.tab ht) hv hf hia Qp rfl ?_
 rw[YZ]
 have rs2:=rs'.push (.cells #[bsl B 0 bs.length bs.length,.int .u32 (at_+4*i:Nat)] 228)
 have t2:Tab (H'.push (.cells #[bsl B 0 bs.length bs.length,.int .u32 (at_+4*i:Nat)] 228)) H'.size B bs (at_+4*i):=⟨Qu Qp,Qu Qp,(rs2.tab ht).u8,ht.lt,by omega⟩
 rw[Qh,rs2.ld hc']
 refine QdV t2 (by omega) ?_
 rw[Qb]
 refine Qeb t2 (by omega) ?_
 rw[Qb,b2,b3]
 refine QeV (cs:=Yu a) (by kernel_rfl) ?_
 exact rs2.push_item (hcur.push _) (it:=Yu a) rfl rfl (by intro x hx;simp only[Yu,List.mem_cons,List.not_mem_nil,or_false]at hx;rcases hx with rfl|rfl<;>rfl) (by decide) rfl (by decide) (by omega) (Q6 hc') hk'
theorem rm11_ok (own:QJ A bs pos vt 62 ((d.abilities.map (fun t=>Zv t.id.toNat t.dist.toNat))=[]) (Z9 (ZX 8 4 (d.abilities.map (fun t=>Zv t.id.toNat t.dist.toNat))))) (hc:cells[29]?=some (.slice none 0 0)) (hk:∀G' H' c,RM G0 H0 q2 q3 G' H' (cells.set 29 c)->G.le G'->SlV G' 2 c (d.abilities.map Zs)->rm12 (ptr p) (ptr q3) (ptr q2) H' R):rm11 (ptr p) (ptr q3) (ptr q2) H R:=by
 obtain ⟨at_,hf,hi⟩:=own.vec (Yc (fun t:Qeu=>QbM t.id.toNat t.dist.toNat))
 rw[List.length_map]at hf
 have hn:=Qc2.n_le hf (by decide)
 have hlt:=ht.lt
 unfold rm11
 refine Qb0 rs (l:=d.abilities) (f:=Zs) (et:=96) hc (by omega) (fun H' R hK hR=>Qa6 (ht.ext hK.ext) hv hf hR) ?_ hk
 intro i a H' c cells' k ha rs' hc' hcur hil hk'
 have hia:=Q6 ha
 obtain ⟨b1,b2,b3⟩:=abilB_at (hi i _ (by rw[List.getElem?_map,ha];rfl))
 unfold rm11B
 rw[QB]
 have rs1:=rs'.push (.cells z238 238)
 refine QaS (rs1.tab ht) hv hf hia Qp rfl ?_
 rw[YZ]
 have rs2:=rs'.push (.cells #[bsl B 0 bs.length bs.length,.int .u32 (at_+8*i:Nat)] 238)
 have t2:Tab (H'.push (.cells #[bsl B 0 bs.length bs.length,.int .u32 (at_+8*i:Nat)] 238)) H'.size B bs (at_+8*i):=⟨Qu Qp,Qu Qp,(rs2.tab ht).u8,ht.lt,by omega⟩
 rw[Qh,rs2.ld hc']
 refine Qh7 t2 (by omega) ?_
 rw[Qb]
 refine Qei t2 (by omega) ?_
 rw[Qb,b2,b3]
 refine QeV (cs:=Zs a) (by kernel_rfl) ?_
 exact rs2.push_item (hcur.push _) (it:=Zs a) rfl rfl (by intro x hx;simp only[Zs,List.mem_cons,List.not_mem_nil,or_false]at hx;rcases hx with rfl|rfl<;>rfl) (by decide) rfl (by decide) (by omega) (Q6 hc') hk'
theorem rm4_ok (own:QJ A bs pos vt 24 (d.strings=[]) (Z9 (QeZ d.strings Qb4))) (hc:cells[10]?=some (.slice none 0 0)) (hk:∀G' H' c,RM G0 H0 q2 q3 G' H' (cells.set 10 c)->G.le G'->SlV G' 1 c (d.strings.map Qg0)->rm5 (ptr p) (ptr q3) (ptr q2) H' R):rm4 (ptr p) (ptr q3) (ptr q2) H R:=by
 obtain ⟨at_,hf,hi⟩:=own.vecT
 have hn:=Qc2.n_le hf (by decide)
 have hlt:=ht.lt
 unfold rm4
 refine Qb0 rs (l:=d.strings) (f:=Qg0) (et:=9) hc (by omega) (fun H' R hK hR=>QaN (ht.ext hK.ext) hv hf hR) ?_ hk
 intro i a H' c cells' k ha rs' hc' hcur hil hk'
 have hia:=Q6 ha
 obtain ⟨s1,s2⟩:=Qb4.at (hi i a ha)
 unfold rm4B
 rw[Qh,rs'.ld hc']
 refine Qce (rs'.tab ht) hv hf hia s1 ?_
 rw[Qb]
 refine (rs'.tab ht).str s2 rfl ?_
 exact rs'.push_item hcur (it:=Qg0 a) rfl rfl (by intro x hx;simp only[Qg0,List.mem_cons,List.not_mem_nil,or_false]at hx;subst hx;rfl) (by decide) rfl (by decide) (by omega) (Q6 hc') hk'
theorem rm10_ok (own:QJ A bs pos vt 60 (d.strings2=[]) (Z9 (QeZ d.strings2 Qb4))) (hc:cells[28]?=some (.slice none 0 0)) (hk:∀G' H' c,RM G0 H0 q2 q3 G' H' (cells.set 28 c)->G.le G'->SlV G' 1 c (d.strings2.map Qg0)->rm11 (ptr p) (ptr q3) (ptr q2) H' R):rm10 (ptr p) (ptr q3) (ptr q2) H R:=by
 obtain ⟨at_,hf,hi⟩:=own.vecT
 have hn:=Qc2.n_le hf (by decide)
 have hlt:=ht.lt
 unfold rm10
 refine Qb0 rs (l:=d.strings2) (f:=Qg0) (et:=9) hc (by omega) (fun H' R hK hR=>QaF (ht.ext hK.ext) hv hf hR) ?_ hk
 intro i a H' c cells' k ha rs' hc' hcur hil hk'
 have hia:=Q6 ha
 obtain ⟨s1,s2⟩:=Qb4.at (hi i a ha)
 unfold rm10B
 rw[Qh,rs'.ld hc']
 refine QbW (rs'.tab ht) hv hf hia s1 ?_
 rw[Qb]
 refine (rs'.tab ht).str s2 rfl ?_
 exact rs'.push_item hcur (it:=Qg0 a) rfl rfl (by intro x hx;simp only[Qg0,List.mem_cons,List.not_mem_nil,or_false]at hx;subst hx;rfl) (by decide) rfl (by decide) (by omega) (Q6 hc') hk'
theorem rm16_ok (own:QJ A bs pos vt 74 (d.refs=[]) (Z9 (QeZ d.refs RefP))) (hc:cells[35]?=some (.slice none 0 0)) (hk:∀G' H' c,RM G0 H0 q2 q3 G' H' (cells.set 35 c)->G.le G'->SlV G' 1 c (d.refs.map Qdf)->rm17 (ptr p) (ptr q3) (ptr q2) H' R):rm16 (ptr p) (ptr q3) (ptr q2) H R:=by
 obtain ⟨at_,hf,hi⟩:=own.vecT
 have hn:=Qc2.n_le hf (by decide)
 have hlt:=ht.lt
 unfold rm16
 refine Qb0 rs (l:=d.refs) (f:=Qdf) (et:=31) hc (by omega) (fun H' R hK hR=>Qay (ht.ext hK.ext) hv hf hR) ?_ hk
 intro i a H' c cells' k ha rs' hc' hcur hil hk'
 have hia:=Q6 ha
 obtain ⟨b1,_,b2,vt',b3,b4⟩:=hi i a ha
 unfold rm16B
 rw[QB]
 have rs1:=rs'.push (.cells z243 243)
 refine QbA (rs1.tab ht) hv hf hia b1 b2 Qp rfl ?_
 rw[YZ]
 have rs2:=rs'.push (.cells #[bsl B 0 bs.length bs.length,.int .u32 (tgt bs (at_+4*i):Nat)] 243)
 have t2:Tab (H'.push (.cells #[bsl B 0 bs.length bs.length,.int .u32 (tgt bs (at_+4*i):Nat)] 243)) H'.size B bs (tgt bs (at_+4*i)):=⟨Qu Qp,Qu Qp,(rs2.tab ht).u8,ht.lt,b2⟩
 rw[Qh,rs2.ld hc']
 refine QcW t2 b3.ok (b4.sc (fun h=>h)) ?_
 rw[Qb]
 exact rs2.push_item (hcur.push _) (it:=Qdf a) rfl rfl (by intro x hx;simp only[Qdf,List.mem_cons,List.not_mem_nil,or_false]at hx;subst hx;rfl) (by decide) rfl (by decide) (by omega) (Q6 hc') hk'
theorem rm18_ok (own:QJ A bs pos vt 80 (d.strong=[]) (Z9 (QeZ d.strong RefP))) (hc:cells[38]?=some (.slice none 0 0)) (hk:∀G' H' c,RM G0 H0 q2 q3 G' H' (cells.set 38 c)->G.le G'->SlV G' 1 c (d.strong.map Qdf)->rm19 (ptr p) (ptr q3) (ptr q2) H' R):rm18 (ptr p) (ptr q3) (ptr q2) H R:=by
 obtain ⟨at_,hf,hi⟩:=own.vecT
 have hn:=Qc2.n_le hf (by decide)
 have hlt:=ht.lt
 unfold rm18
 refine Qb0 rs (l:=d.strong) (f:=Qdf) (et:=31) hc (by omega) (fun H' R hK hR=>Qa1 (ht.ext hK.ext) hv hf hR) ?_ hk
 intro i a H' c cells' k ha rs' hc' hcur hil hk'
 have hia:=Q6 ha
 obtain ⟨b1,_,b2,vt',b3,b4⟩:=hi i a ha
 unfold rm18B
 rw[QB]
 have rs1:=rs'.push (.cells z243 243)
 refine QaA (rs1.tab ht) hv hf hia b1 b2 Qp rfl ?_
 rw[YZ]
 have rs2:=rs'.push (.cells #[bsl B 0 bs.length bs.length,.int .u32 (tgt bs (at_+4*i):Nat)] 243)
 have t2:Tab (H'.push (.cells #[bsl B 0 bs.length bs.length,.int .u32 (tgt bs (at_+4*i):Nat)] 243)) H'.size B bs (tgt bs (at_+4*i)):=⟨Qu Qp,Qu Qp,(rs2.tab ht).u8,ht.lt,b2⟩
 rw[Qh,rs2.ld hc']
 refine QcW t2 b3.ok (b4.sc (fun h=>h)) ?_
 rw[Qb]
 exact rs2.push_item (hcur.push _) (it:=Qdf a) rfl rfl (by intro x hx;simp only[Qdf,List.mem_cons,List.not_mem_nil,or_false]at hx;subst hx;rfl) (by decide) rfl (by decide) (by omega) (Q6 hc') hk'
theorem rm23_ok (own:QJ A bs pos vt 98 ((d.enums.map fun b=>[b])=[]) (Z9 (ZX 1 1 (d.enums.map fun b=>[b])))) (hc:cells[49]?=some (YK [])) (hk:∀H',RM G0 H0 q2 q3 G H' (cells.set 49 (YK d.enums))->rm24 (ptr q3) (ptr q2) H' R):rm23 (ptr p) (ptr q3) (ptr q2) H R:=by
 obtain ⟨at_,hf,hi⟩:=own.vec (Yc (fun b:UInt8=>(rfl:[b].length=1)) (l:=d.enums))
 rw[List.length_map]at hf
 have hn:=Qc2.n_le hf (by decide)
 have hlt:=ht.lt
 unfold rm23
 refine Qhf rs (xs:=d.enums) hc (by omega) (fun H' R hK hR=>QbC (ht.ext hK.ext) hv hf hR) ?_ hk
 intro i b H' cells' k hb rs' hc' hl hk'
 have hil:=Q6 hb
 have hbv:byteN bs (at_+1*i)=b.toNat:=by
  have:=(hi i [b] (by rw[List.getElem?_map,hb];rfl)).byte (i:=0) Nat.zero_lt_one
  rw[Nat.add_zero]at this
  rw[this];rfl
 unfold rm23B
 rw[Qh,rs'.ld hc']
 refine Qd1 (rs'.tab ht) hv hf hil ?_
 rw[Qb,hbv]
 exact rs'.push_byte rfl hl (Q6 hc') hk'
end
end Go.Proofs
namespace Go.Proofs
open Go Go.Vc
open Tryz (prog)
def flU (x D:UInt32):UInt32:=if FloatKind.f32.format.order x.toNat D.toNat=some .eq then D else x
theorem flU_toNat (x D:UInt32):(flU x D).toNat=flR x.toNat D.toNat:=by unfold flU flR;split<;>rfl
def colR (amb:Bool) (ty color:UInt8):UInt8:=if amb=false/\ty=2 then color else 0
def rdD (d:QcO):QcO:={d with f:=flU d.f 1078530000,f2:=flU d.f2 1077936128,f3:=flU d.f3 0,testColor:=colR false d.testTy d.testColor,uniqColor:=colR false d.uniqTy d.uniqColor,ambColor:=colR true d.ambTy d.ambColor}
def rdU (amb:Bool) (ty:UInt8) (ks:List GM):List GM:=if ty=0\/(amb=false/\ty=2) then [] else ks
mutual
def rdM:Mon->GM
 |.mk d tables enemy test uniq amb=>.mk (rdD d) d.pos.toList d.empty.toList (rdMs tables) (rd1 enemy) (rdU false d.testTy (rd1 test)) (rdU false d.uniqTy (rd1 uniq)) (rdU true d.ambTy (rd1 amb))
def rdMs:List Mon->List GM
 |[]=>[]
 |m::ms=>rdM m::rdMs ms
def rd1:List Mon->List GM
 |[]=>[]
 |m::_=>[rdM m]
end
theorem rdMs_map:∀ms,rdMs ms=ms.map rdM
 |[]=>by rw[rdMs];rfl
 |m::ms=>by rw[rdMs,rdMs_map ms];rfl
def QdA (m:Mon):Prop:=∀(A p B pos:Nat) (bs:List UInt8) (G:Cut) (H:Qf) (R:Kn),Tab H p B bs pos->G.In H->RdM m A bs pos->
 (∀v H' G',Ext G H G' H'->QaP G' (rdM m) v->R (.agg v.toArray) H')->FnS prog 39 #[ptr p] H R
theorem QaP.one {F:Cut} {g:GM} {x:List Value} (h:QaP F g x):∀v∈x,v.oneCell'=true:=by
 cases g with
 |mk d pos empty tables enemy test uniq amb=>
  rw[QaP]at h
  obtain ⟨c,rfl,g,⟨_,a1,_⟩,⟨_,a2,_⟩,⟨_,a3,_⟩,⟨_,a4,_⟩,⟨_,a5,_⟩⟩:=h
  intro v hv
  simp only[Ym,List.mem_cons,List.not_mem_nil,or_false]at hv
  rcases hv with rfl|rfl|rfl|rfl|rfl|rfl|rfl|rfl|rfl|rfl|rfl|rfl|rfl|rfl|rfl|rfl|rfl|rfl|rfl|rfl|rfl|rfl|rfl|rfl|rfl|rfl|rfl|rfl|rfl|rfl|rfl|rfl|rfl|rfl|rfl|rfl|rfl|rfl|rfl|rfl|rfl|rfl|rfl|rfl|rfl|rfl|rfl|rfl|rfl|rfl|rfl
  all_goals first
   |rfl
   |exact g.pos.one|exact g.test4.one|exact g.strings.one|exact g.empty.one|exact g.bools.one|exact g.strings2.one|exact g.abil.one|exact g.test5.one|exact g.longs.one|exact g.doubles.one|exact g.refs.one|exact g.weak.one|exact g.strong.one|exact g.coOwnings.one|exact g.nonOwnings.one
   |exact a1.one|exact a2.one|exact a3.one|exact a4.one|exact a5.one
theorem RS.put_item {G0:Cut} {H0:Qf} {t:TypeId} {ob:Obj} {q2 q3:Nat} {G:Cut} {H:Qf} {cells:List Value} (rs:RS G0 H0 t ob q2 q3 G H cells) {fld es:Nat} {et:TypeId} {zs:Array Value} {v:Value} {it:List Value} (hv:v.cells.toList=it) (hl:it.length=es) (hz:zs.size=es) (hf:fld<cells.length) {k:Qf->Prop}
  (hk:∀G' H' c,RS G0 H0 t ob q2 q3 G' H' (cells.set fld c)->G.le G'->SlV G' es c [it]->k H'):
  Ya H et 1 (ZA zs.toList 1) [(0,es,v)] fun y h2=>Qg (.pointer (some ⟨q3,0,none⟩)) fld fun a=>StK h2 1 a y k:=by
 have hvs:v.cells.size=es:=by rw[<-hl,<-hv];simp
 have hfill:Z7 (ZA zs.toList 1) [(0,es,v)]=some it:=by
  show (if v.cells.size=es/\0+v.cells.size<=(ZA zs.toList 1).length then _ else _)=_
  have hrl:(ZA zs.toList 1).length=es:=by simp[ZA,hz]
  rw[if_pos ⟨hvs,by rw[hrl];omega⟩]
  show some _=_
  rw[hv,hvs,Nat.zero_add,List.drop_eq_nil_of_le (by omega)];simp
 unfold Ya
 simp only[hfill]
 have hone':∀x∈[it],x.length=es:=fun x hx=>by
  have:x=it:=by simpa using hx
  rw[this];exact hl
 have rs1:RS G0 H0 t ob q2 q3 (G.upd H.size (.cells it.toArray et (0,0))) (H.push (.cells it.toArray et (0,0))) cells:=⟨rs.ext.pushG _,rs.o2.pushG _,rs.o3.pushG _,rs.ne⟩
 refine rs1.store hf rfl ?_
 intro H2 rs2 _
 refine hk _ _ _ rs2 (Cut.le_upd (rs.ext.inn.none (Nat.le_refl _))) ⟨hone',Or.inr ⟨H.size,0,1,it.toArray,et,(0,0),rfl,Cut.upd_same,by simp[hl],by simp[<-hl],Nat.le_refl _⟩⟩
theorem RS.store3 {G0:Cut} {H0:Qf} {t:TypeId} {ob:Obj} {q2 q3:Nat} {G:Cut} {H:Qf} {cells:List Value} (rs:RS G0 H0 t ob q2 q3 G H cells) {i:Nat} {a b c:Value} (hi:i+3<=cells.length) (ha:a.oneCell'=true) (hb:b.oneCell'=true) (hc:c.oneCell'=true) {kp:Qf->Prop}
  (hk:∀H',RS G0 H0 t ob q2 q3 G H' (((cells.set i a).set (i+1) b).set (i+2) c)->H'=setB H q3 (.cells (((cells.set i a).set (i+1) b).set (i+2) c).toArray t (0,0))->kp H'):
  Qg (.pointer (some ⟨q3,0,none⟩)) i fun x=>StK H 3 x (.agg #[a,b,c]) kp:=by
 rw[Qh]
 unfold StK
 refine ⟨rfl,_,QdU (b:=q3) (e:=t) (fr:=(0,0)) [a,b,c] (H:=H) (l:=cells) (o:=i) (i:=0) rs.o3.get (by intro v hv;simp at hv;rcases hv with rfl|rfl|rfl<;>assumption) (by simp;omega) (by simp),?_⟩
 have e:QaC cells (i+0) [a,b,c]=((cells.set i a).set (i+1) b).set (i+2) c:=rfl
 show kp (setB H q3 (.cells (QaC cells (i+0) [a,b,c]).toArray t (0,0)))
 rw[e]
 exact hk _ ⟨rs.ext.set rs.o3.out rs.o3.new _,rs.o2.set_ne rs.ne _,rs.o3.set _,rs.ne⟩ rfl
theorem fill_vec3 (v:Qbb):Z7 z79.toList [(0,1,ZK v.x),(1,1,ZK v.y),(2,1,ZK v.z),(3,1,ZB v.t1),(4,1,u8n v.t2),(5,1,Qcx v.a),(6,1,i8V v.b)]=some (Zd v):=by kernel_rfl
theorem fill_stat (v:QaX):Z7 z90.toList [(0,1,YK v.id),(1,1,QdX v.val),(2,1,u16V v.count)]=some (YM v):=by kernel_rfl
section
variable {A p B pos vt:Nat} {bs:List UInt8} {d:QcO} {G0:Cut} {H0:Qf} (ht:Tab H0 p B bs pos) (hv:VT bs pos vt) {q2 q3:Nat} {G:Cut} {H:Qf} {cells:List Value} (rs:RM G0 H0 q2 q3 G H cells) {R:Kn}
include ht hv rs
theorem rm1_ok (own:QJ A bs pos vt 4 (d.pos=none) (posQ d.pos)) (hc:cells[0]?=some (.slice none 0 0)) (hk:∀G' H' c,RM G0 H0 q2 q3 G' H' (cells.set 0 c)->G.le G'->SlV G' 7 c (d.pos.toList.map Zd)->rm2 (ptr p) (ptr q3) (ptr q2) H' R):rm1 (ptr p) (ptr q3) (ptr q2) H R:=by
 unfold rm1
 refine QK (fun _ h=>∃G' c,RM G0 H0 q2 q3 G' h (cells.set 0 c)/\G.le G'/\SlV G' 7 c (d.pos.toList.map Zd)) ?_ (fun _ h hh=>by obtain ⟨G',c,h1,h2,h3⟩:=hh;exact hk G' h c h1 h2 h3)
 refine QgH (rs.tab ht) hv (fun h0=>?_) (fun h1=>?_)
 ·rw[Yr (by kernel_rfl)]
  show IfK (.bool false) _ _
  rw[Qbv,own.zero h0]
  exact ⟨G,_,by rw[QaV hc];exact rs,Cut.le_refl _,SlV.nil _ _⟩
 ·obtain ⟨hn,hq⟩:=own.got h1
  cases hp:d.pos with
  |none=>exact absurd hp hn
  |some v=>
   rw[hp]at hq
   have hq:BytesP 8 (Qhi v) A bs (pos+slotAt bs vt 4):=hq
   obtain ⟨e0,e1,e2,e3,e4,e5,e6,e7⟩:=vec3_at (v:=v) ⟨hq.1,hq.2.2⟩
   refine ⟨by omega,?_⟩
   rw[Yr (by kernel_rfl)]
   show IfK (.bool true) _ _
   rw[Qf3]
   have rs1:=rs.push (.cells #[bsl B 0 bs.length bs.length,.int .u32 (pos+slotAt bs vt 4:Nat)] 292)
   have t1:Tab (H.push (.cells #[bsl B 0 bs.length bs.length,.int .u32 (pos+slotAt bs vt 4:Nat)] 292)) H.size B bs (pos+slotAt bs vt 4):=⟨Qu Qp,Qu Qp,(rs1.tab ht).u8,ht.lt,by omega⟩
   generalize H.push (.cells #[bsl B 0 bs.length bs.length,.int .u32 (pos+slotAt bs vt 4:Nat)] 292)=H1 at *
   refine QgN t1 (by omega) ?_
   have rs2:=rs1.push (.cells #[bsl B 0 bs.length bs.length,.int .u32 (pos+slotAt bs vt 4+26:Nat)] 228)
   have t2:=Tab.push t1 (.cells #[bsl B 0 bs.length bs.length,.int .u32 (pos+slotAt bs vt 4+26:Nat)] 228)
   have t3:Tab (H1.push (.cells #[bsl B 0 bs.length bs.length,.int .u32 (pos+slotAt bs vt 4+26:Nat)] 228)) H1.size B bs (pos+slotAt bs vt 4+26):=⟨Qu Qp,Qu Qp,t2.u8,ht.lt,by omega⟩
   generalize H1.push (.cells #[bsl B 0 bs.length bs.length,.int .u32 (pos+slotAt bs vt 4+26:Nat)] 228)=H2 at *
   refine Example_Vec3_X t2 (by omega) ?_
   refine QW (fun w=>Qt) ?_
   refine Example_Vec3_Y t2 (by omega) ?_
   refine QW (fun w=>Qt) ?_
   refine Example_Vec3_Z t2 (by omega) ?_
   refine QW (fun w=>Qt) ?_
   refine QgQ t2 (by omega) ?_
   refine QW (fun w=>Qds) ?_
   refine Qhb t2 (by omega) ?_
   refine QdV t3 (by omega) ?_
   refine Qeb t3 (by omega) ?_
   rw[e1,e2,e3,e4,e5,show pos+slotAt bs vt 4+26+0=pos+slotAt bs vt 4+26 from rfl,e6,show pos+slotAt bs vt 4+26+2=pos+slotAt bs vt 4+28 from rfl,e7]
   have hb:=fill_vec3 v
   unfold QQ
   simp only[hb]
   refine rs2.put_item (v:=.agg (Zd v).toArray) (it:=Zd v) rfl rfl rfl (Q6 hc) ?_
   intro G' H' c rs3 hle sl
   exact ⟨G',c,rs3,hle,sl⟩
theorem rm8_ok (own:QJ A bs pos vt 32 (d.empty=none) (Z9 (fun A bs p=>∀s,d.empty=some s->Qic s A bs p))) (hc:cells[14]?=some (.slice none 0 0)) (hk:∀G' H' c,RM G0 H0 q2 q3 G' H' (cells.set 14 c)->G.le G'->SlV G' 3 c (d.empty.toList.map YM)->rm9 (ptr p) (ptr q3) (ptr q2) H' R):rm8 (ptr p) (ptr q3) (ptr q2) H R:=by
 unfold rm8
 refine QK (fun _ h=>∃G' c,RM G0 H0 q2 q3 G' h (cells.set 14 c)/\G.le G'/\SlV G' 3 c (d.empty.toList.map YM)) ?_ (fun _ h hh=>by obtain ⟨G',c,h1,h2,h3⟩:=hh;exact hk G' h c h1 h2 h3)
 refine Qe9 (rs.tab ht) hv (fun h0=>?_) (fun h1=>?_)
 ·rw[Yr (by kernel_rfl)]
  show IfK (.bool false) _ _
  rw[Qbv,own.zero h0]
  exact ⟨G,_,by rw[QaV hc];exact rs,Cut.le_refl _,SlV.nil _ _⟩
 ·obtain ⟨hn,hq⟩:=own.got h1
  cases hp:d.empty with
  |none=>exact absurd hp hn
  |some s=>
   obtain ⟨q1,_,q2',q3'⟩:=hq
   obtain ⟨vt',s1,s2,s3,s4⟩:=q3' s hp
   refine ⟨q1,q2',?_⟩
   rw[Yr (by kernel_rfl)]
   show IfK (.bool true) _ _
   rw[Qf3]
   have rs1:=rs.push (.cells #[bsl B 0 bs.length bs.length,.int .u32 (tgt bs (pos+slotAt bs vt 32):Nat)] 295)
   have t1:Tab (H.push (.cells #[bsl B 0 bs.length bs.length,.int .u32 (tgt bs (pos+slotAt bs vt 32):Nat)] 295)) H.size B bs (tgt bs (pos+slotAt bs vt 32)):=⟨Qu Qp,Qu Qp,(rs1.tab ht).u8,ht.lt,q2'⟩
   generalize H.push (.cells #[bsl B 0 bs.length bs.length,.int .u32 (tgt bs (pos+slotAt bs vt 32):Nat)] 295)=H1 at *
   obtain ⟨w1,w2⟩:=s2.there
   obtain ⟨w3,w4⟩:=Qb4.at w2
   refine Example_Stat_Id t1 s1.ok (fun h=>absurd h w1) (fun _=>⟨_,w3,?_⟩)
   refine t1.str w4 rfl ?_
   refine Qib t1 s1.ok (s3.sc (fun h=>h)) ?_
   rw[Qb]
   refine QgZ t1 s1.ok (s4.sc (fun h=>h)) ?_
   rw[Qb]
   refine QeV (fill_stat s) ?_
   refine rs1.put_item (v:=.agg (YM s).toArray) (it:=YM s) rfl rfl rfl (Q6 hc) ?_
   intro G' H' c rs3 hle sl
   exact ⟨G',c,rs3,hle,sl⟩
theorem rm6_ok {enemy:List Mon} (hE:∀k∈enemy,QdA k) (own:QJ A bs pos vt 28 (enemy=[]) (Z9 (Rd1 enemy))) (hc:cells[12]?=some (.slice none 0 0)) (hk:∀G' H' c,RM G0 H0 q2 q3 G' H' (cells.set 12 c)->G.le G'->Qah G' (rd1 enemy) c->rm7 (ptr p) (ptr q3) (ptr q2) H' R):rm6 (ptr p) (ptr q3) (ptr q2) H R:=by
 unfold rm6
 refine QK (fun _ h=>∃G' c,RM G0 H0 q2 q3 G' h (cells.set 12 c)/\G.le G'/\Qah G' (rd1 enemy) c) ?_ (fun _ h hh=>by obtain ⟨G',c,h1,h2,h3⟩:=hh;exact hk G' h c h1 h2 h3)
 refine QfL (rs.tab ht) hv (fun h0=>?_) (fun h1=>?_)
 ·rw[Yr (by kernel_rfl)]
  show IfK (.bool false) _ _
  have he:=own.zero h0
  subst he
  rw[Qbv,rd1]
  exact ⟨G,_,by rw[QaV hc];exact rs,Cut.le_refl _,[],SlV.nil _ _,by rw[Za];trivial⟩
 ·obtain ⟨hn,q1,_,q2',q3'⟩:=own.got h1
  refine ⟨q1,q2',?_⟩
  rw[Yr (by kernel_rfl)]
  show IfK (.bool true) _ _
  rw[Qf3]
  have rs1:=rs.push (.cells #[bsl B 0 bs.length bs.length,.int .u32 (tgt bs (pos+slotAt bs vt 28):Nat)] 232)
  have t1:Tab (H.push (.cells #[bsl B 0 bs.length bs.length,.int .u32 (tgt bs (pos+slotAt bs vt 28):Nat)] 232)) H.size B bs (tgt bs (pos+slotAt bs vt 28)):=⟨Qu Qp,Qu Qp,(rs1.tab ht).u8,ht.lt,q2'⟩
  generalize H.push (.cells #[bsl B 0 bs.length bs.length,.int .u32 (tgt bs (pos+slotAt bs vt 28):Nat)] 232)=H1 at *
  cases enemy with
  |nil=>exact absurd rfl hn
  |cons m ms=>
   rw[Rd1]at q3'
   refine hE m List.mem_cons_self A _ B _ bs G H1 _ t1 rs1.ext.inn q3' ?_
   intro v H2 G2 e2 hv2
   refine (rs1.next e2).put_item (v:=.agg v.toArray) (it:=v) rfl hv2.len rfl (Q6 hc) ?_
   intro G' H' c rs3 hle sl
   exact ⟨G',c,rs3,Cut.le_trans e2.le hle,[v],sl,by rw[rd1,Za];exact ⟨hv2.mono hle,by rw[Za];trivial⟩⟩
theorem rm5_ok {tables:List Mon} (hT:∀k∈tables,QdA k) (own:QJ A bs pos vt 26 (tables=[]) (Z9 (fun A bs t=>VecP 4 4 tables.length A bs t/\RdL tables A bs (t+4)))) (hc:cells[11]?=some (.slice none 0 0)) (hk:∀G' H' c,RM G0 H0 q2 q3 G' H' (cells.set 11 c)->G.le G'->Qah G' (rdMs tables) c->rm6 (ptr p) (ptr q3) (ptr q2) H' R):rm5 (ptr p) (ptr q3) (ptr q2) H R:=by
 obtain ⟨at_,hf,hi⟩:∃at_,Qc2 4 bs pos vt 26 tables.length at_/\∀(i:Nat) a,tables[i]?=some a->Z9 (RdM a) A bs (at_+4*i):=by
  rcases own with ⟨h1,h2⟩|⟨h1,_,h3⟩
  ·subst h2
   exact ⟨0,Or.inl ⟨h1,rfl⟩,fun i x h=>by simp at h⟩
  ·obtain ⟨q1,q2,q3,⟨v1,v2,v3,v4⟩,q5⟩:=h3
   exact ⟨tgt bs (pos+slotAt bs vt 26)+4,Or.inr ⟨h1,q1,rfl,v4,v1,by omega⟩,RdL_get tables q5⟩
 have hn:=Qc2.n_le hf (by decide)
 have hlt:=ht.lt
 unfold rm5
 refine app_loop rs (et:=52) (es:=51) (n:=tables.length) (fun G1 i items=>Za G1 ((rdMs tables).take i) items) (by rw[List.take_zero,Za];trivial) hc (by omega) (fun H' R hK hR=>QaM (ht.ext hK.ext) hv hf hR) ?_ ?_
 ·intro i G1 H' c cells' items k hlt' hle rs' hc' hcur hI hk'
  have ha:=List.getElem?_eq_getElem hlt'
  obtain ⟨b1,_,b2,b3⟩:=hi i _ ha
  have hil:items.length<tables.length:=by
   have:=Za.len hI
   rw[<-this,List.length_take,rdMs_map,List.length_map];omega
  unfold rm5B
  rw[QB]
  have rs1:=rs'.push (.cells z232 232)
  refine Qcg (rs1.tab ht) hv hf hlt' b1 b2 Qp rfl ?_
  rw[YZ]
  have rs2:=rs'.push (.cells #[bsl B 0 bs.length bs.length,.int .u32 (tgt bs (at_+4*i):Nat)] 232)
  have t2:Tab (H'.push (.cells #[bsl B 0 bs.length bs.length,.int .u32 (tgt bs (at_+4*i):Nat)] 232)) H'.size B bs (tgt bs (at_+4*i)):=⟨Qu Qp,Qu Qp,(rs2.tab ht).u8,ht.lt,b2⟩
  have hcur2:=hcur.push (.cells #[bsl B 0 bs.length bs.length,.int .u32 (tgt bs (at_+4*i):Nat)] 232)
  generalize H'.push (.cells #[bsl B 0 bs.length bs.length,.int .u32 (tgt bs (at_+4*i):Nat)] 232)=H1 at *
  rw[Qh,rs2.ld hc']
  refine hT _ (List.mem_of_getElem? ha) A _ B _ bs G1 H1 _ t2 rs2.ext.inn b3 ?_
  intro v H2 G2 e2 hv2
  refine Q8 e2.keep.ext ?_
  refine (rs2.next e2).push_item (hcur2.ext e2) (v:=.agg v.toArray) (it:=v) rfl hv2.len (QaP.one hv2) (by decide) rfl (by decide) (by omega) (Q6 hc') ?_
  intro H3 c3 rs3 hcur3
  refine hk' G2 H3 c3 _ e2.le rs3 hcur3 ?_
  have hr:(rdMs tables)[i]?=some (rdM tables[i]):=by rw[rdMs_map,List.getElem?_map,ha];rfl
  rw[QcG hr]
  exact Za.snoc (Za.mono e2.le hI) hv2
 ·intro G' G1 H' c items rs' hle sl hI hle1
  refine hk G' H' c rs' hle ⟨items,sl,?_⟩
  have:(rdMs tables).take tables.length=rdMs tables:=by
   apply List.take_of_length_le
   rw[rdMs_map,List.length_map];exact Nat.le_refl _
  rw[this]at hI
  exact Za.mono hle1 hI
end
end Go.Proofs
