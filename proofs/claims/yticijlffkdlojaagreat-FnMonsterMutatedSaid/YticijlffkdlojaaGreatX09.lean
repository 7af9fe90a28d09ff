/- WHAT IS PROVED: the given statement of FnMonsterMutated, whatever the input: this is part 9 of 14. No conditions. -/
import Derived.Test.YticijlffkdlojaaGreatX08
set_option linter.all false
namespace Go.Proofs
open Go Go.Vc
open Tryz (prog)
set_option maxRecDepth 100000
def s8 (e f:Value) (h:Qf) (R:Kn):Prop:=
 Zb h (.cells (Value.cells e) 53) fun g i=>
 Zb i (.cells (Value.cells f) 3) fun j l=>
 Zb l (.cells z9 9) fun a m=>
 Qb prog 18 #[(.func (.func 19) #[] #[j,g,a])] m fun o b=>
 Z2 prog (Op.unary .not o) fun p=>
 Z2 prog (Op.unary .not p) fun q=>
 IfK q
 (StK b 1 a (.string ⟨#[]⟩) fun c=>
 LdK c a fun r=>
 R (.tuple #[r,(.bool false)]) c)
 (LdK b a fun s=>
 StK b 1 a s fun d=>
 LdK d a fun t=>
 R (.tuple #[t,(.bool true)]) d)
theorem w8 {a b h R} (H:s8 a b h R):FnS prog 8 #[a,b] h R:=wq Tryz.func8 (by kernel_rfl) H
def s10 (f g i:Value) (h:Qf) (R:Kn):Prop:=
 Zb h (.cells (Value.cells g) 5) fun j l=>
 Zb l (.cells (Value.cells i) 31) fun m o=>
 Zb o (.cells z4 4) fun b p=>
 Qb prog 40 #[f] p fun q r=>
 Zb r (.cells z76 76) fun c s=>
 StK s 1 c q fun t=>
 Qb prog 18 #[(.func (.func 41) #[] #[c,j,m,b])] t fun u a=>
 Z2 prog (Op.unary .not u) fun v=>
 Z2 prog (Op.unary .not v) fun w=>
 IfK w
 (StK a 1 b (.bool false) fun d=>
 LdK d b fun y=>
 R (.tuple #[(.string ⟨#[]⟩),y,(.bool false)]) d)
 (LdK a c fun z=>
 B2SK a z fun a0=>
 LdK a b fun a1=>
 Qk a a<|
 StK a 1 b a1 fun e=>
 LdK e b fun a2=>
 R (.tuple #[a0,a2,(.bool true)]) e)
theorem w10 {a b c h R} (H:s10 a b c h R):FnS prog 10 #[a,b,c] h R:=wq Tryz.func10 (by kernel_rfl) H
def s12 (e:Value) (h:Qf) (R:Kn):Prop:=
 Zb h (.cells (Value.cells e) 9) fun f g=>
 Zb g (.cells z53 53) fun a i=>
 Qb prog 18 #[(.func (.func 45) #[] #[f,a])] i fun j b=>
 Z2 prog (Op.unary .not j) fun l=>
 Z2 prog (Op.unary .not l) fun m=>
 IfK m
 (QH z53.toList [] fun o=>
 StK b 51 a o fun c=>
 LdN c 51 a fun p=>
 R (.tuple #[p,(.bool false)]) c)
 (LdN b 51 a fun q=>
 StK b 51 a q fun d=>
 LdN d 51 a fun r=>
 R (.tuple #[r,(.bool true)]) d)
theorem w12 {a h R} (H:s12 a h R):FnS prog 12 #[a] h R:=wq Tryz.func12 (by kernel_rfl) H
def s19 (d e f:Value) (h:Qf) (R:Kn):Prop:=
 LdK h d fun g=>
 Qb prog 20 #[g] h fun a b=>
 LdN b 51 e fun i=>
 Qb prog 22 #[i] b fun j l=>
 Qb prog 23 #[j,a] l fun m o=>
 Qb prog 21 #[a,m] o fun _x11 p=>
 Qb prog 24 #[a] p fun q c=>
 B2SK c q fun r=>
 StK c 1 f r fun s=>
 R (.tuple #[]) s
theorem w19 {a b c h R} (H:s19 a b c h R):FnS prog 19 #[a,b,c] h R:=wq Tryz.func19 (by kernel_rfl) H
def ob12 (a:Value) (b:Qf) (R:Kn):Prop:=
 R a b
def ob11 (e:Value) (c:Value) (l:Qf) (R:Kn):Prop:=
 QN (fun d=>
 YO [(.int .i64 0)] l fun f g=>∀b:Value,∀a:Qf,f g [b] a->
 Qh e 49 fun m=>
 LdK a m fun o=>
 Qf3 o fun p=>
 Qp prog .lss 3 b p fun q=>
 IfK q
 (Q6 c fun r=>
 Qh r 43 fun s=>
 LdK a s fun t=>
 Qh e 49 fun u=>
 LdK a u fun v=>
 Z2 prog (Instr.index 9 v b) fun w=>
 QY a 142 1 (ZP z142.toList 1) [(0,1,w)] fun y i=>
 Qk a i<|
 Qe7 i 142 1 1 z142 t y fun z a0=>
 Q6 c fun a1=>
 Qh a1 43 fun a2=>
 StK a0 1 a2 z fun a3=>
 Qp prog .add 3 b (.int .i64 1) fun a4=>
 Yf f g [a4] a3)
 (d [b] a)) fun d=>∀a5:Value,∀j:Qf,d [a5] j->
 ob12 c j R
def ob10 (b:Value) (d:Value) (a:Qf) (R:Kn):Prop:=
 QN (fun c=>
 Qh b 46 fun g=>
 Qh g 0 fun i=>
 LdK a i fun j=>
 Qp prog .neq 5 j (.int .u8 0) fun l=>
 IfK l
 (Qh b 46 fun m=>
 Qh m 0 fun o=>
 LdK a o fun p=>
 Qh b 46 fun q=>
 LdN a 3 q fun r=>
 Qb prog 86 #[r] a fun s e=>
 Qk a e<|
 QH z183.toList [(0,1,p),(1,1,(.iface 73 s))] fun t=>
 Zb e (.cells (Value.cells t) 183) fun u v=>
 Q6 d fun w=>
 Qh w 42 fun y=>
 StK v 1 y u fun z=>
 c [] z)
 (c [] a)) fun c=>∀f:Qf,c [] f->
 ob11 b d f R
def ob9 (b:Value) (d:Value) (a:Qf) (R:Kn):Prop:=
 QN (fun c=>
 Qh b 43 fun g=>
 Qh g 0 fun i=>
 LdK a i fun j=>
 Qp prog .neq 5 j (.int .u8 0) fun l=>
 IfK l
 (Qh b 43 fun m=>
 Qh m 0 fun o=>
 LdK a o fun p=>
 Qh b 43 fun q=>
 LdN a 3 q fun r=>
 Qb prog 85 #[r] a fun s e=>
 Qk a e<|
 QH z179.toList [(0,1,p),(1,1,s)] fun t=>
 Zb e (.cells (Value.cells t) 179) fun u v=>
 Q6 d fun w=>
 Qh w 41 fun y=>
 StK v 1 y u fun z=>
 c [] z)
 (c [] a)) fun c=>∀f:Qf,c [] f->
 ob10 b d f R
def ob8 (b:Value) (d:Value) (a:Qf) (R:Kn):Prop:=
 QN (fun c=>
 Qh b 6 fun g=>
 Qh g 0 fun i=>
 LdK a i fun j=>
 Qp prog .neq 5 j (.int .u8 0) fun l=>
 IfK l
 (Qh b 6 fun m=>
 Qh m 0 fun o=>
 LdK a o fun p=>
 Qh b 6 fun q=>
 LdN a 3 q fun r=>
 Qb prog 85 #[r] a fun s e=>
 Qk a e<|
 QH z176.toList [(0,1,p),(1,1,s)] fun t=>
 Zb e (.cells (Value.cells t) 176) fun u v=>
 Q6 d fun w=>
 Qh w 6 fun y=>
 StK v 1 y u fun z=>
 c [] z)
 (c [] a)) fun c=>∀f:Qf,c [] f->
 ob9 b d f R
def ob7 (c:Value) (d:Value) (b:Qf) (R:Kn):Prop:=
 QN (fun a=>
 Qh c 34 fun f=>
 LdK b f fun g=>
 IfK g
 (QH z172.toList [] fun i=>
 Zb b (.cells (Value.cells i) 172) fun j l=>
 Q6 d fun m=>
 Qh m 32 fun o=>
 StK l 1 o j fun p=>
 a [] p)
 (a [] b)) fun a=>∀e:Qf,a [] e->
 ob8 c d e R
def ob6B (b:Value) (d:Value) (e:Value) (a:Qf) (k:Qf->Prop):Prop:=
 YG 1 d e fun f=>
 LdK a f fun g=>
 Q6 b fun i=>
 Qh i 31 fun j=>
 LdK a j fun l=>
 Qba prog 84 #[g] fun m=>
 QY a 162 1 (ZP z162.toList 1) [(0,1,m)] fun o c=>
 Qk a c<|
 Qe7 c 162 1 8 z162 l o fun p q=>
 Q6 b fun r=>
 Qh r 31 fun s=>
 StK q 1 s p fun t=>
 k t
def ob6 (a:Value) (b:Value) (c:Qf) (R:Kn):Prop:=
 Qfx prog 3 a 33 c (ob6B b) fun d=>ob7 a b d R
def ob5B (d:Value) (g:Value) (i:Value) (e:Qf) (k:Qf->Prop):Prop:=
 YG 2 g i fun j=>
 LdN e 2 j fun l=>
 Zb e (.cells z101 101) fun b m=>
 StK m 2 b l fun a=>
 Q6 d fun o=>
 Qh o 27 fun p=>
 LdK a p fun q=>
 Qh b 0 fun r=>
 LdK a r fun s=>
 Qh b 1 fun t=>
 LdK a t fun u=>
 QH z170.toList [(0,1,s),(1,1,u)] fun v=>
 Zb a (.cells (Value.cells v) 170) fun w c=>
 Qk a c<|
 QY c 169 1 (ZP z169.toList 1) [(0,1,w)] fun y f=>
 Qk c f<|
 Qe7 f 169 1 8 z169 q y fun z a0=>
 Q6 d fun a1=>
 Qh a1 27 fun a2=>
 StK a0 1 a2 z fun a3=>
 k a3
def ob5 (a:Value) (b:Value) (c:Qf) (R:Kn):Prop:=
 Qfx prog 3 a 29 c (ob5B b) fun d=>ob6 a b d R
def ob4B (d:Value) (e:Value) (f:Value) (c:Qf) (k:Qf->Prop):Prop:=
 YG 3 e f fun g=>
 LdN c 3 g fun i=>
 Zb c (.cells z95 95) fun a j=>
 StK j 3 a i fun b=>
 Qh a 0 fun l=>
 LdK b l fun m=>
 Qh a 1 fun o=>
 LdK b o fun p=>
 Qh a 2 fun q=>
 LdK b q fun r=>
 QH z168.toList [(0,1,m),(1,1,p),(2,1,r)] fun s=>
 Zb b (.cells (Value.cells s) 168) fun t u=>
 Q6 d fun v=>
 Qh v 12 fun w=>
 StK u 1 w t fun y=>
 k y
def ob4 (a:Value) (b:Value) (c:Qf) (R:Kn):Prop:=
 Qfx prog 3 a 14 c (ob4B b) fun d=>ob5 a b d R
def ob3B (d:Value) (e:Value) (f:Value) (a:Qf) (k:Qf->Prop):Prop:=
 YG 51 e f fun g=>
 LdN a 51 g fun i=>
 Zb a (.cells z53 53) fun b j=>
 StK j 51 b i fun c=>
 LdN c 51 b fun l=>
 Qb prog 22 #[l] c fun m o=>
 Q6 d fun p=>
 Qh p 10 fun q=>
 StK o 1 q m fun r=>
 k r
def ob3 (a:Value) (b:Value) (c:Qf) (R:Kn):Prop:=
 Qfx prog 3 a 12 c (ob3B b) fun d=>ob4 a b d R
def ob2B (c:Value) (g:Value) (i:Value) (d:Qf) (k:Qf->Prop):Prop:=
 YG 51 g i fun j=>
 LdN d 51 j fun l=>
 Zb d (.cells z53 53) fun e m=>
 StK m 51 e l fun a=>
 Q6 c fun o=>
 Qh o 9 fun p=>
 LdK a p fun q=>
 LdN a 51 e fun r=>
 Qb prog 22 #[r] a fun s b=>
 Qk a b<|
 QY b 73 1 (ZP z73.toList 1) [(0,1,s)] fun t f=>
 Qk b f<|
 Qe7 f 73 1 8 z73 q t fun u v=>
 Q6 c fun w=>
 Qh w 9 fun y=>
 StK v 1 y u fun z=>
 k z
def ob2 (a:Value) (b:Value) (c:Qf) (R:Kn):Prop:=
 Qfx prog 3 a 11 c (ob2B b) fun d=>ob3 a b d R
def ob1B (e:Value) (f:Value) (g:Value) (c:Qf) (k:Qf->Prop):Prop:=
 YG 7 f g fun i=>
 LdN c 7 i fun j=>
 Zb c (.cells z83 83) fun b l=>
 StK l 7 b j fun a=>
 Qh b 0 fun m=>
 LdK a m fun o=>
 Qba prog 80 #[o] fun p=>
 Qh b 1 fun q=>
 LdK a q fun r=>
 Qba prog 80 #[r] fun s=>
 Qh b 2 fun t=>
 LdK a t fun u=>
 Qba prog 80 #[u] fun v=>
 Qh b 3 fun w=>
 LdK a w fun y=>
 Qba prog 84 #[y] fun z=>
 Qh b 4 fun a0=>
 LdK a a0 fun a1=>
 Qh b 5 fun a2=>
 LdK a a2 fun a3=>
 Qh b 6 fun a4=>
 LdK a a4 fun a5=>
 QH z165.toList [(0,1,a3),(1,1,a5)] fun a6=>
 Zb a (.cells (Value.cells a6) 165) fun a7 d=>
 Qk a d<|
 QH z167.toList [(0,1,p),(1,1,s),(2,1,v),(3,1,z),(4,1,a1),(5,1,a7)] fun a8=>
 Zb d (.cells (Value.cells a8) 167) fun a9 b0=>
 Q6 e fun b1=>
 Qh b1 0 fun b2=>
 StK b0 1 b2 a9 fun b3=>
 k b3
def ob1 (a:Value) (b:Value) (c:Qf) (R:Kn):Prop:=
 Qfx prog 3 a 0 c (ob1B b) fun d=>ob2 a b d R
def s22 (t:Value) (h:Qf) (R:Kn):Prop:=
 Zb h (.cells (Value.cells t) 53) fun b a=>
 Qh b 1 fun u=>
 LdK a u fun v=>
 Qh b 2 fun w=>
 LdK a w fun y=>
 Qh b 3 fun z=>
 LdK a z fun a0=>
 Qh b 4 fun a1=>
 LdK a a1 fun a2=>
 Qh b 5 fun a3=>
 LdK a a3 fun a4=>
 Qh b 9 fun a5=>
 LdK a a5 fun a6=>
 Qh b 10 fun a7=>
 LdK a a7 fun a8=>
 Qh b 13 fun a9=>
 LdK a a9 fun b0=>
 Qh b 15 fun b1=>
 LdK a b1 fun b2=>
 Qh b 16 fun b3=>
 LdK a b3 fun b4=>
 Qh b 17 fun b5=>
 LdK a b5 fun b6=>
 Qh b 18 fun b7=>
 LdK a b7 fun b8=>
 Qh b 19 fun b9=>
 LdK a b9 fun c0=>
 Qh b 20 fun c1=>
 LdK a c1 fun c2=>
 Qh b 21 fun c3=>
 LdK a c3 fun c4=>
 Qh b 22 fun c5=>
 LdK a c5 fun c6=>
 Qh b 23 fun c7=>
 LdK a c7 fun c8=>
 Qh b 24 fun c9=>
 LdK a c9 fun d0=>
 Qh b 25 fun d1=>
 LdK a d1 fun d2=>
 Qh b 26 fun d3=>
 LdK a d3 fun d4=>
 Qh b 27 fun d5=>
 LdK a d5 fun d6=>
 Qh b 28 fun d7=>
 LdK a d7 fun d8=>
 Qh b 30 fun d9=>
 LdK a d9 fun e0=>
 Qh b 31 fun e1=>
 LdK a e1 fun e2=>
 Qh b 32 fun e3=>
 LdK a e3 fun e4=>
 Qh b 35 fun e5=>
 LdK a e5 fun e6=>
 Qh b 36 fun e7=>
 LdK a e7 fun e8=>
 Qh b 37 fun e9=>
 LdK a e9 fun f0=>
 Qh b 38 fun f1=>
 LdK a f1 fun f2=>
 Qh b 39 fun f3=>
 LdK a f3 fun f4=>
 Qh b 40 fun f5=>
 LdK a f5 fun f6=>
 Qh b 41 fun f7=>
 LdK a f7 fun f8=>
 Qh b 42 fun f9=>
 LdK a f9 fun g0=>
 Qh b 50 fun g1=>
 LdK a g1 fun g2=>
 Qb prog 76 #[a2] a fun g3 c=>
 Qk a c<|
 Qb prog 77 #[a6] c fun g4 d=>
 Qk c d<|
 Qb prog 78 #[a8] d fun g5 e=>
 Qk d e<|
 Qb prog 76 #[b0] e fun g6 f=>
 Qk e f<|
 Qb prog 79 #[d0] f fun g7 g=>
 Qk f g<|
 Qba prog 80 #[d2] fun g8=>
 Qba prog 80 #[d4] fun g9=>
 Qba prog 80 #[d6] fun i0=>
 Qb prog 78 #[d8] g fun i1 i=>
 Qk g i<|
 Qb prog 76 #[e0] i fun i2 j=>
 Qk i j<|
 Qb prog 77 #[e2] j fun i3 l=>
 Qk j l<|
 Qb prog 81 #[e4] l fun i4 m=>
 Qk l m<|
 Qb prog 82 #[e6] m fun i5 o=>
 Qk m o<|
 Qb prog 83 #[f0] o fun i6 p=>
 Qk o p<|
 Qb prog 82 #[f2] p fun i7 q=>
 Qk p q<|
 Qb prog 83 #[f6] q fun i8 r=>
 Qk q r<|
 Qb prog 83 #[g0] r fun i9 s=>
 Qk r s<|
 QH z161.toList [(1,1,v),(2,1,y),(3,1,a0),(4,1,g3),(5,1,a4),(7,1,g4),(8,1,g5),(11,1,g6),(13,1,b2),(14,1,b4),(15,1,b6),(16,1,b8),(17,1,c0),(18,1,c2),(19,1,c4),(20,1,c6),(21,1,c8),(22,1,g7),(23,1,g8),(24,1,g9),(25,1,i0),(26,1,i1),(28,1,i2),(29,1,i3),(30,1,i4),(33,1,i5),(34,1,e8),(35,1,i6),(36,1,i7),(37,1,f4),(38,1,i8),(39,1,f8),(40,1,i9),(44,1,g2)] fun j0=>
 Zb s (.cells (Value.cells j0) 161) fun j1 j2=>
 ob1 b j1 j2 R
theorem w22 {a h R} (H:s22 a h R):FnS prog 22 #[a] h R:=wq Tryz.func22 (by kernel_rfl) H
def s40 (a:Value) (h:Qf) (R:Kn):Prop:=
 Qf3 a fun b=>
 Qf0 h 5 1 z5 b b fun c d=>
 CopyK d 1 c a fun _x9 e=>
 R c e
theorem w40 {a h R} (H:s40 a h R):FnS prog 40 #[a] h R:=wq Tryz.func40 (by kernel_rfl) H
def s41 (b c d e:Value) (h:Qf) (R:Kn):Prop:=
 LdK h b fun f=>
 LdK h c fun g=>
 LdK h d fun i=>
 Qb prog 43 #[f,(.int .u32 0)] h fun j a=>
 Qk h a<|
 Qb prog 42 #[j,g,i] a fun l m=>
 StK m 1 e l fun o=>
 R (.tuple #[]) o
theorem w41 {a b c d h R} (H:s41 a b c d h R):FnS prog 41 #[a,b,c,d] h R:=wq Tryz.func41 (by kernel_rfl) H
def s42 (a b c:Value) (h:Qf) (R:Kn):Prop:=
 Qp prog .eql 5 b (.int .u8 0) fun d=>
 IfK d
 (QX .i16 c fun e=>
 Qb prog 171 #[a,e] h fun f g=>
 R f g)
 (Qp prog .eql 5 b (.int .u8 1) fun i=>
 IfK i
 (QX .i16 c fun j=>
 Qb prog 172 #[a,j] h fun l m=>
 R l m)
 (Qp prog .eql 5 b (.int .u8 2) fun o=>
 IfK o
 (QX .u8 c fun p=>
 Qb prog 173 #[a,p] h fun q r=>
 R q r)
 (Qp prog .eql 5 b (.int .u8 3) fun s=>
 IfK s
 (Qp prog .neq 31 c (.int .u64 0) fun t=>
 Qb prog 174 #[a,t] h fun u v=>
 R u v)
 (Qp prog .eql 5 b (.int .u8 4) fun w=>
 IfK w
 (QX .i32 c fun y=>
 Qb prog 175 #[a,y] h fun z a0=>
 R z a0)
 (Qp prog .eql 5 b (.int .u8 5) fun a1=>
 IfK a1
 (QX .u32 c fun a2=>
 Qb prog 176 #[a,a2] h fun a3 a4=>
 R a3 a4)
 (Qp prog .eql 5 b (.int .u8 6) fun a5=>
 IfK a5
 (QX .i64 c fun a6=>
 Qb prog 177 #[a,a6] h fun a7 a8=>
 R a7 a8)
 (Qp prog .eql 5 b (.int .u8 7) fun a9=>
 IfK a9
 (Qb prog 178 #[a,c] h fun b0 b1=>
 R b0 b1)
 (Qp prog .eql 5 b (.int .u8 8) fun b2=>
 IfK b2
 (QX .i32 c fun b3=>
 Qb prog 179 #[a,b3] h fun b4 b5=>
 R b4 b5)
 (Qp prog .eql 5 b (.int .u8 9) fun b6=>
 IfK b6
 (QX .u32 c fun b7=>
 Qb prog 180 #[a,b7] h fun b8 b9=>
 R b8 b9)
 (Qp prog .eql 5 b (.int .u8 10) fun c0=>
 IfK c0
 (QX .i64 c fun c1=>
 Qb prog 181 #[a,c1] h fun c2 c3=>
 R c2 c3)
 (Qp prog .eql 5 b (.int .u8 11) fun c4=>
 IfK c4
 (Qb prog 182 #[a,c] h fun c5 c6=>
 R c5 c6)
 (Qp prog .eql 5 b (.int .u8 12) fun c7=>
 IfK c7
 (QX .u32 c fun c8=>
 Qba prog 80 #[c8] fun c9=>
 Qb prog 183 #[a,c9] h fun d0 d1=>
 R d0 d1)
 (Qp prog .eql 5 b (.int .u8 13) fun d2=>
 IfK d2
 (QX .u32 c fun d3=>
 Qba prog 80 #[d3] fun d4=>
 Qb prog 184 #[a,d4] h fun d5 d6=>
 R d5 d6)
 (Qp prog .eql 5 b (.int .u8 14) fun d7=>
 IfK d7
 (QX .u32 c fun d8=>
 Qba prog 80 #[d8] fun d9=>
 Qb prog 185 #[a,d9] h fun e0 e1=>
 R e0 e1)
 (Qp prog .eql 5 b (.int .u8 15) fun e2=>
 IfK e2
 (Qb prog 186 #[a,c] h fun e3 e4=>
 R e3 e4)
 (Qp prog .eql 5 b (.int .u8 16) fun e5=>
 IfK e5
 (Qb prog 187 #[a,c] h fun e6 e7=>
 R e6 e7)
 (Qp prog .eql 5 b (.int .u8 17) fun e8=>
 IfK e8
 (Qb prog 188 #[a,c] h fun e9 f0=>
 R e9 f0)
 (Qp prog .eql 5 b (.int .u8 18) fun f1=>
 IfK f1
 (QX .i8 c fun f2=>
 Qb prog 189 #[a,f2] h fun f3 f4=>
 R f3 f4)
 (False)))))))))))))))))))
theorem w42 {a b c h R} (H:s42 a b c h R):FnS prog 42 #[a,b,c] h R:=wq Tryz.func42 (by kernel_rfl) H
def s45 (a b:Value) (h:Qf) (R:Kn):Prop:=
 LdK h a fun c=>
 Qb prog 40 #[c] h fun d e=>
 Qb prog 43 #[d,(.int .u32 0)] e fun f g=>
 Qb prog 46 #[f] g fun i j=>
 StK j 51 b i fun l=>
 R (.tuple #[]) l
theorem w45 {a b h R} (H:s45 a b h R):FnS prog 45 #[a,b] h R:=wq Tryz.func45 (by kernel_rfl) H
def rm24 (d:Value) (a:Value) (b:Qf) (R:Kn):Prop:=
 LdN b 51 d fun e=>
 StK b 51 a e fun c=>
 LdN c 51 a fun f=>
 R f c
def rm23B (d:Value) (e:Value) (f:Value) (a:Qf) (k:Qf->Prop):Prop:=
 Qh d 49 fun g=>
 LdK a g fun i=>
 Qb prog 274 #[e,f] a fun j b=>
 Qk a b<|
 QY b 5 1 (ZP z5.toList 1) [(0,1,j)] fun l c=>
 Qk b c<|
 B2SK c l fun m=>
 Qp prog .add 9 i m fun o=>
 Qh d 49 fun p=>
 StK c 1 p o fun q=>
 k q
def rm23 (a:Value) (b:Value) (c:Value) (d:Qf) (R:Kn):Prop:=
 ZX prog 3 273 a (rm23B b a) d fun e=>rm24 b c e R
def rm22 (c:Value) (d:Value) (g:Value) (p:Value) (q:Qf) (R:Kn):Prop:=
 QN (fun a=>
 Qb prog 271 #[c] q fun b r=>
 Qb prog 272 #[c,d] r fun e i=>
 Qe e true (fun s=>s b i) i fun t j=>
 Qe e true (fun u=>Qp prog .neq 5 t (.int .u8 0) fun v=>u v j) j fun w l=>
 Yh e w (.bool false) fun y=>
 IfK y
 (Zb l (.cells z221 221) fun m f=>
 Qh d 0 fun z=>
 LdK f z fun a0=>
 Qh d 1 fun a1=>
 LdK f a1 fun a2=>
 Qb prog 191 #[m,a0,a2] f fun _x417 a3=>
 Qb prog 46 #[m] a3 fun a4 a5=>
 QY a5 53 1 (ZP z53.toList 1) [(0,51,a4)] fun a6 a7=>
 QH z48.toList [(0,1,b),(1,1,a6)] fun a8=>
 Qh g 46 fun a9=>
 StK a7 3 a9 a8 fun b0=>
 a [b] b0)
 (a [b] l)) fun a=>∀b1:Value,∀o:Qf,a [b1] o->
 rm23 c g p o R
def rm21 (a:Value) (c:Value) (i:Value) (j:Qf) (R:Kn):Prop:=
 Zb j (.cells z219 219) fun b l=>
 Qb prog 266 #[a,b] l fun m d=>
 LdN d 2 b fun o=>
 Qb prog 268 #[a] d fun p f=>
 Qk d f<|
 Qb prog 267 #[p,m,o] f fun q r=>
 Qh c 6 fun s=>
 StK r 3 s q fun t=>
 Qb prog 269 #[a,b] t fun u e=>
 LdN e 2 b fun v=>
 Qb prog 270 #[a] e fun w g=>
 Qk e g<|
 Qb prog 267 #[w,u,v] g fun y z=>
 Qh c 43 fun a0=>
 StK z 3 a0 y fun a1=>
 rm22 a b c i a1 R
def rm20B (c:Value) (e:Value) (f:Value) (a:Qf) (k:Qf->Prop):Prop:=
 Qh c 42 fun g=>
 LdK a g fun i=>
 Qb prog 265 #[e,f] a fun j b=>
 Qk a b<|
 QY b 31 1 (ZP z31.toList 1) [(0,1,j)] fun l d=>
 Qk b d<|
 Qe7 d 31 1 8 z31 i l fun m o=>
 Qh c 42 fun p=>
 StK o 1 p m fun q=>
 k q
def rm20 (a:Value) (b:Value) (c:Value) (d:Qf) (R:Kn):Prop:=
 ZX prog 3 264 a (rm20B b a) d fun e=>rm21 a b c e R
def rm19B (c:Value) (e:Value) (f:Value) (a:Qf) (k:Qf->Prop):Prop:=
 Qh c 40 fun g=>
 LdK a g fun i=>
 Qb prog 263 #[e,f] a fun j b=>
 Qk a b<|
 QY b 31 1 (ZP z31.toList 1) [(0,1,j)] fun l d=>
 Qk b d<|
 Qe7 d 31 1 8 z31 i l fun m o=>
 Qh c 40 fun p=>
 StK o 1 p m fun q=>
 k q
def rm19 (a:Value) (b:Value) (c:Value) (d:Qf) (R:Kn):Prop:=
 ZX prog 3 262 a (rm19B b a) d fun e=>rm20 a b c e R
def rm18B (f:Value) (c:Value) (g:Value) (i:Qf) (k:Qf->Prop):Prop:=
 Zb i (.cells z259 259) fun d j=>
 Qb prog 261 #[f,d,g] j fun _x354 a=>
 Qh c 38 fun l=>
 LdK a l fun m=>
 Qb prog 257 #[d] a fun o b=>
 Qk a b<|
 QY b 31 1 (ZP z31.toList 1) [(0,1,o)] fun p e=>
 Qk b e<|
 Qe7 e 31 1 8 z31 m p fun q r=>
 Qh c 38 fun s=>
 StK r 1 s q fun t=>
 k t
def rm18 (a:Value) (b:Value) (c:Value) (d:Qf) (R:Kn):Prop:=
 ZX prog 3 260 a (rm18B a b) d fun e=>rm19 a b c e R
def rm17B (c:Value) (e:Value) (f:Value) (a:Qf) (k:Qf->Prop):Prop:=
 Qh c 37 fun g=>
 LdK a g fun i=>
 Qb prog 259 #[e,f] a fun j b=>
 Qk a b<|
 QY b 31 1 (ZP z31.toList 1) [(0,1,j)] fun l d=>
 Qk b d<|
 Qe7 d 31 1 8 z31 i l fun m o=>
 Qh c 37 fun p=>
 StK o 1 p m fun q=>
 k q
def rm17 (a:Value) (b:Value) (c:Value) (d:Qf) (R:Kn):Prop:=
 ZX prog 3 258 a (rm17B b a) d fun e=>rm18 a b c e R
def rm16B (f:Value) (c:Value) (g:Value) (i:Qf) (k:Qf->Prop):Prop:=
 Zb i (.cells z259 259) fun d j=>
 Qb prog 256 #[f,d,g] j fun _x325 a=>
 Qh c 35 fun l=>
 LdK a l fun m=>
 Qb prog 257 #[d] a fun o b=>
 Qk a b<|
 QY b 31 1 (ZP z31.toList 1) [(0,1,o)] fun p e=>
 Qk b e<|
 Qe7 e 31 1 8 z31 m p fun q r=>
 Qh c 35 fun s=>
 StK r 1 s q fun t=>
 k t
def rm16 (a:Value) (b:Value) (c:Value) (d:Qf) (R:Kn):Prop:=
 ZX prog 3 255 a (rm16B a b) d fun e=>rm17 a b c e R
def rm15B (c:Value) (e:Value) (f:Value) (a:Qf) (k:Qf->Prop):Prop:=
 Qh c 33 fun g=>
 LdK a g fun i=>
 Qb prog 254 #[e,f] a fun j b=>
 Qk a b<|
 Qba prog 219 #[j] fun l=>
 QY b 31 1 (ZP z31.toList 1) [(0,1,l)] fun m d=>
 Qk b d<|
 Qe7 d 31 1 8 z31 i m fun o p=>
 Qh c 33 fun q=>
 StK p 1 q o fun r=>
 k r
def rm15 (a:Value) (b:Value) (c:Value) (d:Qf) (R:Kn):Prop:=
 ZX prog 3 253 a (rm15B b a) d fun e=>rm16 a b c e R
def rm14B (c:Value) (e:Value) (f:Value) (a:Qf) (k:Qf->Prop):Prop:=
 Qh c 32 fun g=>
 LdK a g fun i=>
 Qb prog 252 #[e,f] a fun j b=>
 Qk a b<|
 QY b 2 1 (ZP z2.toList 1) [(0,1,j)] fun l d=>
 Qk b d<|
 Qe7 d 2 1 8 z2 i l fun m o=>
 Qh c 32 fun p=>
 StK o 1 p m fun q=>
 k q
def rm14 (a:Value) (b:Value) (c:Value) (d:Qf) (R:Kn):Prop:=
 ZX prog 3 251 a (rm14B b a) d fun e=>rm15 a b c e R
def rm13B (g:Value) (e:Value) (i:Value) (j:Qf) (k:Qf->Prop):Prop:=
 Zb j (.cells z246 246) fun a l=>
 Qb prog 250 #[g,a,i] l fun _x279 b=>
 Qh e 31 fun m=>
 LdK b m fun o=>
 Qb prog 222 #[a] b fun p c=>
 Qk b c<|
 Qb prog 223 #[a] c fun q d=>
 Qk c d<|
 QH z88.toList [(0,1,p),(1,1,q)] fun r=>
 QY d 88 1 (ZP z88.toList 1) [(0,2,r)] fun s f=>
 Qk d f<|
 Qe7 f 88 2 4 z88 o s fun t u=>
 Qh e 31 fun v=>
 StK u 1 v t fun w=>
 k w
def rm13 (a:Value) (b:Value) (c:Value) (d:Qf) (R:Kn):Prop:=
 ZX prog 3 249 a (rm13B a b) d fun e=>rm14 a b c e R
def rm12B (d:Value) (e:Value) (f:Value) (a:Qf) (k:Qf->Prop):Prop:=
 Qh d 30 fun g=>
 LdK a g fun i=>
 Qb prog 248 #[e,f] a fun j b=>
 Qk a b<|
 QY b 5 1 (ZP z5.toList 1) [(0,1,j)] fun l c=>
 Qk b c<|
 B2SK c l fun m=>
 Qp prog .add 9 i m fun o=>
 Qh d 30 fun p=>
 StK c 1 p o fun q=>
 k q
def rm12 (a:Value) (b:Value) (c:Value) (d:Qf) (R:Kn):Prop:=
 ZX prog 3 247 a (rm12B b a) d fun e=>rm13 a b c e R
def rm11B (g:Value) (e:Value) (i:Value) (j:Qf) (k:Qf->Prop):Prop:=
 Zb j (.cells z254 254) fun a l=>
 Qb prog 244 #[g,a,i] l fun _x247 b=>
 Qh e 29 fun m=>
 LdK b m fun o=>
 Qb prog 245 #[a] b fun p c=>
 Qk b c<|
 Qb prog 246 #[a] c fun q d=>
 Qk c d<|
 QH z101.toList [(0,1,p),(1,1,q)] fun r=>
 QY d 101 1 (ZP z101.toList 1) [(0,2,r)] fun s f=>
 Qk d f<|
 Qe7 f 101 2 8 z101 o s fun t u=>
 Qh e 29 fun v=>
 StK u 1 v t fun w=>
 k w
def rm11 (a:Value) (b:Value) (c:Value) (d:Qf) (R:Kn):Prop:=
 ZX prog 3 243 a (rm11B a b) d fun e=>rm12 a b c e R
def rm10B (c:Value) (e:Value) (f:Value) (b:Qf) (k:Qf->Prop):Prop:=
 Qh c 28 fun g=>
 LdK b g fun i=>
 Qb prog 242 #[e,f] b fun j a=>
 Qk b a<|
 B2SK a j fun l=>
 QY a 9 1 (ZP z9.toList 1) [(0,1,l)] fun m d=>
 Qk a d<|
 Qe7 d 9 1 16 z9 i m fun o p=>
 Qh c 28 fun q=>
 StK p 1 q o fun r=>
 k r
def rm10 (a:Value) (b:Value) (c:Value) (d:Qf) (R:Kn):Prop:=
 ZX prog 3 241 a (rm10B b a) d fun e=>rm11 a b c e R
def rm9B (c:Value) (e:Value) (f:Value) (a:Qf) (k:Qf->Prop):Prop:=
 Qh c 24 fun g=>
 LdK a g fun i=>
 Qb prog 240 #[e,f] a fun j b=>
 Qk a b<|
 QY b 4 1 (ZP z4.toList 1) [(0,1,j)] fun l d=>
 Qk b d<|
 Qe7 d 4 1 1 z4 i l fun m o=>
 Qh c 24 fun p=>
 StK o 1 p m fun q=>
 k q
def rm9 (a:Value) (b:Value) (c:Value) (d:Qf) (R:Kn):Prop:=
 ZX prog 3 239 a (rm9B b a) d fun e=>rm10 a b c e R
def rm8 (e:Value) (f:Value) (l:Value) (m:Qf) (R:Kn):Prop:=
 QN (fun b=>
 Qb prog 235 #[e,(.pointer none)] m fun a g=>
 Qp prog .neq 251 a (.pointer none) fun o=>
 IfK o
 (Qb prog 236 #[a] g fun p c=>
 B2SK c p fun q=>
 Qb prog 237 #[a] c fun r d=>
 Qk c d<|
 Qb prog 238 #[a] d fun s i=>
 Qk d i<|
 QH z95.toList [(0,1,q),(1,1,r),(2,1,s)] fun t=>
 QY i 95 1 (ZP z95.toList 1) [(0,3,t)] fun u v=>
 Qh f 14 fun w=>
 StK v 1 w u fun y=>
 b [a] y)
 (b [a] g)) fun b=>∀z:Value,∀j:Qf,b [z] j->
 rm9 e f l j R
def rm7B (d:Value) (e:Value) (f:Value) (a:Qf) (k:Qf->Prop):Prop:=
 Qh d 13 fun g=>
 LdK a g fun i=>
 Qb prog 234 #[e,f] a fun j b=>
 Qk a b<|
 QY b 5 1 (ZP z5.toList 1) [(0,1,j)] fun l c=>
 Qk b c<|
 B2SK c l fun m=>
 Qp prog .add 9 i m fun o=>
 Qh d 13 fun p=>
 StK c 1 p o fun q=>
 k q
def rm7 (a:Value) (b:Value) (c:Value) (d:Qf) (R:Kn):Prop:=
 ZX prog 3 233 a (rm7B b a) d fun e=>rm8 a b c e R
def rm6 (c:Value) (d:Value) (g:Value) (i:Qf) (R:Kn):Prop:=
 QN (fun a=>
 Qb prog 232 #[c,(.pointer none)] i fun b e=>
 Qp prog .neq 107 b (.pointer none) fun j=>
 IfK j
 (Qb prog 46 #[b] e fun l m=>
 QY m 53 1 (ZP z53.toList 1) [(0,51,l)] fun o p=>
 Qh d 12 fun q=>
 StK p 1 q o fun r=>
 a [b] r)
 (a [b] e)) fun a=>∀s:Value,∀f:Qf,a [s] f->
 rm7 c d g f R
def rm5B (f:Value) (c:Value) (g:Value) (i:Qf) (k:Qf->Prop):Prop:=
 Zb i (.cells z221 221) fun d j=>
 Qb prog 231 #[f,d,g] j fun _x166 a=>
 Qh c 11 fun l=>
 LdK a l fun m=>
 Qb prog 46 #[d] a fun o b=>
 Qk a b<|
 QY b 53 1 (ZP z53.toList 1) [(0,51,o)] fun p e=>
 Qk b e<|
 Qe7 e 53 51 736 z53 m p fun q r=>
 Qh c 11 fun s=>
 StK r 1 s q fun t=>
 k t
def rm5 (a:Value) (b:Value) (c:Value) (d:Qf) (R:Kn):Prop:=
 ZX prog 3 230 a (rm5B a b) d fun e=>rm6 a b c e R
def rm4B (c:Value) (e:Value) (f:Value) (b:Qf) (k:Qf->Prop):Prop:=
 Qh c 10 fun g=>
 LdK b g fun i=>
 Qb prog 229 #[e,f] b fun j a=>
 Qk b a<|
 B2SK a j fun l=>
 QY a 9 1 (ZP z9.toList 1) [(0,1,l)] fun m d=>
 Qk a d<|
 Qe7 d 9 1 16 z9 i m fun o p=>
 Qh c 10 fun q=>
 StK p 1 q o fun r=>
 k r
def rm4 (a:Value) (b:Value) (c:Value) (d:Qf) (R:Kn):Prop:=
 ZX prog 3 228 a (rm4B b a) d fun e=>rm5 a b c e R
def rm3B (g:Value) (e:Value) (i:Value) (j:Qf) (k:Qf->Prop):Prop:=
 Zb j (.cells z246 246) fun a l=>
 Qb prog 227 #[g,a,i] l fun _x134 b=>
 Qh e 9 fun m=>
 LdK b m fun o=>
 Qb prog 222 #[a] b fun p c=>
 Qk b c<|
 Qb prog 223 #[a] c fun q d=>
 Qk c d<|
 QH z88.toList [(0,1,p),(1,1,q)] fun r=>
 QY d 88 1 (ZP z88.toList 1) [(0,2,r)] fun s f=>
 Qk d f<|
 Qe7 f 88 2 4 z88 o s fun t u=>
 Qh e 9 fun v=>
 StK u 1 v t fun w=>
 k w
def rm3 (a:Value) (b:Value) (c:Value) (d:Qf) (R:Kn):Prop:=
 ZX prog 3 226 a (rm3B a b) d fun e=>rm4 a b c e R
def rm2B (d:Value) (e:Value) (f:Value) (a:Qf) (k:Qf->Prop):Prop:=
 Qh d 4 fun g=>
 LdK a g fun i=>
 Qb prog 225 #[e,f] a fun j b=>
 Qk a b<|
 QY b 5 1 (ZP z5.toList 1) [(0,1,j)] fun l c=>
 Qk b c<|
 B2SK c l fun m=>
 Qp prog .add 9 i m fun o=>
 Qh d 4 fun p=>
 StK c 1 p o fun q=>
 k q
def rm2 (a:Value) (b:Value) (c:Value) (d:Qf) (R:Kn):Prop:=
 ZX prog 3 224 a (rm2B b a) d fun e=>rm3 a b c e R
def rm1 (c:Value) (d:Value) (i:Value) (j:Qf) (R:Kn):Prop:=
 QN (fun b=>
 Qb prog 214 #[c,(.pointer none)] j fun a e=>
 Qp prog .neq 234 a (.pointer none) fun l=>
 IfK l
 (Qb prog 215 #[a,(.pointer none)] e fun f m=>
 Qb prog 216 #[a] m fun o p=>
 Qba prog 205 #[o] fun q=>
 Qb prog 217 #[a] p fun r s=>
 Qba prog 205 #[r] fun t=>
 Qb prog 218 #[a] s fun u v=>
 Qba prog 205 #[u] fun w=>
 Qb prog 220 #[a] v fun y z=>
 Qba prog 219 #[y] fun a0=>
 Qb prog 221 #[a] z fun a1 a2=>
 Qb prog 222 #[f] a2 fun a3 a4=>
 Qb prog 223 #[f] a4 fun a5 a6=>
 QH z83.toList [(0,1,q),(1,1,t),(2,1,w),(3,1,a0),(4,1,a1),(5,1,a3),(6,1,a5)] fun a7=>
 QY a6 83 1 (ZP z83.toList 1) [(0,7,a7)] fun a8 a9=>
 Qh d 0 fun b0=>
 StK a9 1 b0 a8 fun b1=>
 b [a] b1)
 (b [a] e)) fun b=>∀b2:Value,∀g:Qf,b [b2] g->
 rm2 c d i g R
def s46 (a:Value) (h:Qf) (R:Kn):Prop:=
 Zb h (.cells z53 53) fun a73 a23=>
 QN (fun b=>
 (Qb prog 192 #[a] a23 fun c a24=>
 (Qb prog 193 #[a] a24 fun d a25=>
 (Qb prog 194 #[a] a25 fun a74 v=>
 B2SK v a74 fun e=>
 (Qb prog 195 #[a] v fun f w=>
 Qk v w<|
 (Qb prog 196 #[a] w fun g y=>
 Qk w y<|
 (Qb prog 197 #[a] y fun i z=>
 Qk y z<|
 (Qb prog 198 #[a] z fun j a0=>
 Qk z a0<|
 (Qb prog 199 #[a] a0 fun l a1=>
 Qk a0 a1<|
 (Qb prog 200 #[a] a1 fun m a2=>
 Qk a1 a2<|
 (Qb prog 201 #[a] a2 fun o a3=>
 Qk a2 a3<|
 (Qb prog 202 #[a] a3 fun p a4=>
 Qk a3 a4<|
 (Qb prog 203 #[a] a4 fun q a5=>
 Qk a4 a5<|
 (Qb prog 204 #[a] a5 fun r a6=>
 Qk a5 a6<|
 (Qb prog 206 #[a] a6 fun a75 a7=>
 Qk a6 a7<|
 Qba prog 205 #[a75] fun s=>
 (Qb prog 207 #[a] a7 fun a76 a8=>
 Qk a7 a8<|
 Qba prog 205 #[a76] fun t=>
 (Qb prog 208 #[a] a8 fun a77 a9=>
 Qk a8 a9<|
 Qba prog 205 #[a77] fun u=>
 (Qb prog 209 #[a,(.pointer none)] a9 fun a78 b0=>
 Qk a9 b0<|
 Qp prog .neq 231 a78 (.pointer none) fun b1=>
 (Qb prog 210 #[a] b0 fun b5 b2=>
 Qk b0 b2<|
 (Qb prog 211 #[a] b2 fun b6 b3=>
 Qk b2 b3<|
 (Qb prog 212 #[a] b3 fun a26 b4=>
 Qk b3 b4<|
 (Qb prog 213 #[a] b4 fun a79 b7=>
 Qk b4 b7<|
 QH z53.toList [(1,1,c),(2,1,d),(3,1,e),(5,1,f),(15,1,g),(16,1,i),(17,1,j),(18,1,l),(19,1,m),(20,1,o),(21,1,p),(22,1,q),(23,1,r),(25,1,s),(26,1,t),(27,1,u),(34,1,b1),(36,1,b5),(39,1,b6),(41,1,a26),(50,1,a79)] fun a80=>
 Zb b7 (.cells z53 53) fun a27 a28=>
 Qk b7 a28<|
 StK a28 51 a27 a80 fun a81=>
 b [a27] a81)/\
 (Zb b4 (.cells z53 53) fun a29 b8=>
 Qk b4 b8<|
 Qb prog 213 #[a] b8 fun a82 a30=>
 Qk b8 a30<|
 QH z53.toList [(1,1,c),(2,1,d),(3,1,e),(5,1,f),(15,1,g),(16,1,i),(17,1,j),(18,1,l),(19,1,m),(20,1,o),(21,1,p),(22,1,q),(23,1,r),(25,1,s),(26,1,t),(27,1,u),(34,1,b1),(36,1,b5),(39,1,b6),(41,1,a26),(50,1,a82)] fun a83=>
 StK a30 51 a29 a83 fun a84=>
 b [a29] a84))/\
 (Zb b3 (.cells z53 53) fun a31 b9=>
 Qk b3 b9<|
 Qb prog 212 #[a] b9 fun a85 c0=>
 Qk b9 c0<|
 Qb prog 213 #[a] c0 fun a86 a32=>
 Qk c0 a32<|
 QH z53.toList [(1,1,c),(2,1,d),(3,1,e),(5,1,f),(15,1,g),(16,1,i),(17,1,j),(18,1,l),(19,1,m),(20,1,o),(21,1,p),(22,1,q),(23,1,r),(25,1,s),(26,1,t),(27,1,u),(34,1,b1),(36,1,b5),(39,1,b6),(41,1,a85),(50,1,a86)] fun a87=>
 StK a32 51 a31 a87 fun a88=>
 b [a31] a88))/\
 (Zb b2 (.cells z53 53) fun a33 c1=>
 Qk b2 c1<|
 Qb prog 211 #[a] c1 fun a89 c2=>
 Qk c1 c2<|
 Qb prog 212 #[a] c2 fun a90 c3=>
 Qk c2 c3<|
 Qb prog 213 #[a] c3 fun a91 a34=>
 Qk c3 a34<|
 QH z53.toList [(1,1,c),(2,1,d),(3,1,e),(5,1,f),(15,1,g),(16,1,i),(17,1,j),(18,1,l),(19,1,m),(20,1,o),(21,1,p),(22,1,q),(23,1,r),(25,1,s),(26,1,t),(27,1,u),(34,1,b1),(36,1,b5),(39,1,a89),(41,1,a90),(50,1,a91)] fun a92=>
 StK a34 51 a33 a92 fun a93=>
 b [a33] a93))/\
 (Zb b0 (.cells z53 53) fun a35 c4=>
 Qk b0 c4<|
 Qb prog 210 #[a] c4 fun a94 c5=>
 Qk c4 c5<|
 Qb prog 211 #[a] c5 fun a95 c6=>
 Qk c5 c6<|
 Qb prog 212 #[a] c6 fun a96 c7=>
 Qk c6 c7<|
 Qb prog 213 #[a] c7 fun a97 a36=>
 Qk c7 a36<|
 QH z53.toList [(1,1,c),(2,1,d),(3,1,e),(5,1,f),(15,1,g),(16,1,i),(17,1,j),(18,1,l),(19,1,m),(20,1,o),(21,1,p),(22,1,q),(23,1,r),(25,1,s),(26,1,t),(27,1,u),(34,1,b1),(36,1,a94),(39,1,a95),(41,1,a96),(50,1,a97)] fun a98=>
 StK a36 51 a35 a98 fun a99=>
 b [a35] a99))/\
 (Zb a9 (.cells z53 53) fun a37 c8=>
 Qk a9 c8<|
 Qb prog 209 #[a,(.pointer none)] c8 fun b00 c9=>
 Qk c8 c9<|
 Qp prog .neq 231 b00 (.pointer none) fun b01=>
 Qb prog 210 #[a] c9 fun b02 d0=>
 Qk c9 d0<|
 Qb prog 211 #[a] d0 fun b03 d1=>
 Qk d0 d1<|
 Qb prog 212 #[a] d1 fun b04 d2=>
 Qk d1 d2<|
 Qb prog 213 #[a] d2 fun b05 a38=>
 Qk d2 a38<|
 QH z53.toList [(1,1,c),(2,1,d),(3,1,e),(5,1,f),(15,1,g),(16,1,i),(17,1,j),(18,1,l),(19,1,m),(20,1,o),(21,1,p),(22,1,q),(23,1,r),(25,1,s),(26,1,t),(27,1,u),(34,1,b01),(36,1,b02),(39,1,b03),(41,1,b04),(50,1,b05)] fun b06=>
 StK a38 51 a37 b06 fun b07=>
 b [a37] b07))/\
 (Zb a8 (.cells z53 53) fun a39 d3=>
 Qk a8 d3<|
 Qb prog 208 #[a] d3 fun b08 d4=>
 Qk d3 d4<|
 Qba prog 205 #[b08] fun b09=>
 Qb prog 209 #[a,(.pointer none)] d4 fun b10 d5=>
 Qk d4 d5<|
 Qp prog .neq 231 b10 (.pointer none) fun b11=>
 Qb prog 210 #[a] d5 fun b12 d6=>
 Qk d5 d6<|
 Qb prog 211 #[a] d6 fun b13 d7=>
 Qk d6 d7<|
 Qb prog 212 #[a] d7 fun b14 d8=>
 Qk d7 d8<|
 Qb prog 213 #[a] d8 fun b15 a40=>
 Qk d8 a40<|
 QH z53.toList [(1,1,c),(2,1,d),(3,1,e),(5,1,f),(15,1,g),(16,1,i),(17,1,j),(18,1,l),(19,1,m),(20,1,o),(21,1,p),(22,1,q),(23,1,r),(25,1,s),(26,1,t),(27,1,b09),(34,1,b11),(36,1,b12),(39,1,b13),(41,1,b14),(50,1,b15)] fun b16=>
 StK a40 51 a39 b16 fun b17=>
 b [a39] b17))/\
 (Zb a7 (.cells z53 53) fun a41 d9=>
 Qk a7 d9<|
 Qb prog 207 #[a] d9 fun b18 e0=>
 Qk d9 e0<|
 Qba prog 205 #[b18] fun b19=>
 Qb prog 208 #[a] e0 fun b20 e1=>
 Qk e0 e1<|
 Qba prog 205 #[b20] fun b21=>
 Qb prog 209 #[a,(.pointer none)] e1 fun b22 e2=>
 Qk e1 e2<|
 Qp prog .neq 231 b22 (.pointer none) fun b23=>
 Qb prog 210 #[a] e2 fun b24 e3=>
 Qk e2 e3<|
 Qb prog 211 #[a] e3 fun b25 e4=>
 Qk e3 e4<|
 Qb prog 212 #[a] e4 fun b26 e5=>
 Qk e4 e5<|
 Qb prog 213 #[a] e5 fun b27 a42=>
 Qk e5 a42<|
 QH z53.toList [(1,1,c),(2,1,d),(3,1,e),(5,1,f),(15,1,g),(16,1,i),(17,1,j),(18,1,l),(19,1,m),(20,1,o),(21,1,p),(22,1,q),(23,1,r),(25,1,s),(26,1,b19),(27,1,b21),(34,1,b23),(36,1,b24),(39,1,b25),(41,1,b26),(50,1,b27)] fun b28=>
 StK a42 51 a41 b28 fun b29=>
 b [a41] b29))/\
 (Zb a6 (.cells z53 53) fun a43 e6=>
 Qk a6 e6<|
 Qb prog 206 #[a] e6 fun b30 e7=>
 Qk e6 e7<|
 Qba prog 205 #[b30] fun b31=>
 Qb prog 207 #[a] e7 fun b32 e8=>
 Qk e7 e8<|
 Qba prog 205 #[b32] fun b33=>
 Qb prog 208 #[a] e8 fun b34 e9=>
 Qk e8 e9<|
 Qba prog 205 #[b34] fun b35=>
 Qb prog 209 #[a,(.pointer none)] e9 fun b36 f0=>
 Qk e9 f0<|
 Qp prog .neq 231 b36 (.pointer none) fun b37=>
 Qb prog 210 #[a] f0 fun b38 f1=>
 Qk f0 f1<|
 Qb prog 211 #[a] f1 fun b39 f2=>
 Qk f1 f2<|
 Qb prog 212 #[a] f2 fun b40 f3=>
 Qk f2 f3<|
 Qb prog 213 #[a] f3 fun b41 a44=>
 Qk f3 a44<|
 QH z53.toList [(1,1,c),(2,1,d),(3,1,e),(5,1,f),(15,1,g),(16,1,i),(17,1,j),(18,1,l),(19,1,m),(20,1,o),(21,1,p),(22,1,q),(23,1,r),(25,1,b31),(26,1,b33),(27,1,b35),(34,1,b37),(36,1,b38),(39,1,b39),(41,1,b40),(50,1,b41)] fun b42=>
 StK a44 51 a43 b42 fun b43=>
 b [a43] b43))/\
 (Zb a5 (.cells z53 53) fun a45 f4=>
 Qk a5 f4<|
 Qb prog 204 #[a] f4 fun b44 f5=>
 Qk f4 f5<|
 Qb prog 206 #[a] f5 fun b45 f6=>
 Qk f5 f6<|
 Qba prog 205 #[b45] fun b46=>
 Qb prog 207 #[a] f6 fun b47 f7=>
 Qk f6 f7<|
 Qba prog 205 #[b47] fun b48=>
 Qb prog 208 #[a] f7 fun b49 f8=>
 Qk f7 f8<|
 Qba prog 205 #[b49] fun b50=>
 Qb prog 209 #[a,(.pointer none)] f8 fun b51 f9=>
 Qk f8 f9<|
 Qp prog .neq 231 b51 (.pointer none) fun b52=>
 Qb prog 210 #[a] f9 fun b53 g0=>
 Qk f9 g0<|
 Qb prog 211 #[a] g0 fun b54 g1=>
 Qk g0 g1<|
 Qb prog 212 #[a] g1 fun b55 g2=>
 Qk g1 g2<|
 Qb prog 213 #[a] g2 fun b56 a46=>
 Qk g2 a46<|
 QH z53.toList [(1,1,c),(2,1,d),(3,1,e),(5,1,f),(15,1,g),(16,1,i),(17,1,j),(18,1,l),(19,1,m),(20,1,o),(21,1,p),(22,1,q),(23,1,b44),(25,1,b46),(26,1,b48),(27,1,b50),(34,1,b52),(36,1,b53),(39,1,b54),(41,1,b55),(50,1,b56)] fun b57=>
 StK a46 51 a45 b57 fun b58=>
 b [a45] b58))/\
 (Zb a4 (.cells z53 53) fun a47 g3=>
 Qk a4 g3<|
 Qb prog 203 #[a] g3 fun b59 g4=>
 Qk g3 g4<|
 Qb prog 204 #[a] g4 fun b60 g5=>
 Qk g4 g5<|
 Qb prog 206 #[a] g5 fun b61 g6=>
 Qk g5 g6<|
 Qba prog 205 #[b61] fun b62=>
 Qb prog 207 #[a] g6 fun b63 g7=>
 Qk g6 g7<|
 Qba prog 205 #[b63] fun b64=>
 Qb prog 208 #[a] g7 fun b65 g8=>
 Qk g7 g8<|
 Qba prog 205 #[b65] fun b66=>
 Qb prog 209 #[a,(.pointer none)] g8 fun b67 g9=>
 Qk g8 g9<|
 Qp prog .neq 231 b67 (.pointer none) fun b68=>
 Qb prog 210 #[a] g9 fun b69 i0=>
 Qk g9 i0<|
 Qb prog 211 #[a] i0 fun b70 i1=>
 Qk i0 i1<|
 Qb prog 212 #[a] i1 fun b71 i2=>
 Qk i1 i2<|
 Qb prog 213 #[a] i2 fun b72 a48=>
 Qk i2 a48<|
 QH z53.toList [(1,1,c),(2,1,d),(3,1,e),(5,1,f),(15,1,g),(16,1,i),(17,1,j),(18,1,l),(19,1,m),(20,1,o),(21,1,p),(22,1,b59),(23,1,b60),(25,1,b62),(26,1,b64),(27,1,b66),(34,1,b68),(36,1,b69),(39,1,b70),(41,1,b71),(50,1,b72)] fun b73=>
 StK a48 51 a47 b73 fun b74=>
 b [a47] b74))/\
 (Zb a3 (.cells z53 53) fun a49 i3=>
 Qk a3 i3<|
 Qb prog 202 #[a] i3 fun b75 i4=>
 Qk i3 i4<|
 Qb prog 203 #[a] i4 fun b76 i5=>
 Qk i4 i5<|
 Qb prog 204 #[a] i5 fun b77 i6=>
 Qk i5 i6<|
 Qb prog 206 #[a] i6 fun b78 i7=>
 Qk i6 i7<|
 Qba prog 205 #[b78] fun b79=>
 Qb prog 207 #[a] i7 fun b80 i8=>
 Qk i7 i8<|
 Qba prog 205 #[b80] fun b81=>
 Qb prog 208 #[a] i8 fun b82 i9=>
 Qk i8 i9<|
 Qba prog 205 #[b82] fun b83=>
 Qb prog 209 #[a,(.pointer none)] i9 fun b84 j0=>
 Qk i9 j0<|
 Qp prog .neq 231 b84 (.pointer none) fun b85=>
 Qb prog 210 #[a] j0 fun b86 j1=>
 Qk j0 j1<|
 Qb prog 211 #[a] j1 fun b87 j2=>
 Qk j1 j2<|
 Qb prog 212 #[a] j2 fun b88 j3=>
 Qk j2 j3<|
 Qb prog 213 #[a] j3 fun b89 a50=>
 Qk j3 a50<|
 QH z53.toList [(1,1,c),(2,1,d),(3,1,e),(5,1,f),(15,1,g),(16,1,i),(17,1,j),(18,1,l),(19,1,m),(20,1,o),(21,1,b75),(22,1,b76),(23,1,b77),(25,1,b79),(26,1,b81),(27,1,b83),(34,1,b85),(36,1,b86),(39,1,b87),(41,1,b88),(50,1,b89)] fun b90=>
 StK a50 51 a49 b90 fun b91=>
 b [a49] b91))/\
 (Zb a2 (.cells z53 53) fun a51 j4=>
 Qk a2 j4<|
 Qb prog 201 #[a] j4 fun b92 j5=>
 Qk j4 j5<|
 Qb prog 202 #[a] j5 fun b93 j6=>
 Qk j5 j6<|
 Qb prog 203 #[a] j6 fun b94 j7=>
 Qk j6 j7<|
 Qb prog 204 #[a] j7 fun b95 j8=>
 Qk j7 j8<|
 Qb prog 206 #[a] j8 fun b96 j9=>
 Qk j8 j9<|
 Qba prog 205 #[b96] fun b97=>
 Qb prog 207 #[a] j9 fun b98 l0=>
 Qk j9 l0<|
 Qba prog 205 #[b98] fun b99=>
 Qb prog 208 #[a] l0 fun c00 l1=>
 Qk l0 l1<|
 Qba prog 205 #[c00] fun c01=>
 Qb prog 209 #[a,(.pointer none)] l1 fun c02 l2=>
 Qk l1 l2<|
 Qp prog .neq 231 c02 (.pointer none) fun c03=>
 Qb prog 210 #[a] l2 fun c04 l3=>
 Qk l2 l3<|
 Qb prog 211 #[a] l3 fun c05 l4=>
 Qk l3 l4<|
 Qb prog 212 #[a] l4 fun c06 l5=>
 Qk l4 l5<|
 Qb prog 213 #[a] l5 fun c07 a52=>
 Qk l5 a52<|
 QH z53.toList [(1,1,c),(2,1,d),(3,1,e),(5,1,f),(15,1,g),(16,1,i),(17,1,j),(18,1,l),(19,1,m),(20,1,b92),(21,1,b93),(22,1,b94),(23,1,b95),(25,1,b97),(26,1,b99),(27,1,c01),(34,1,c03),(36,1,c04),(39,1,c05),(41,1,c06),(50,1,c07)] fun c08=>
 StK a52 51 a51 c08 fun c09=>
 b [a51] c09))/\
 (Zb a1 (.cells z53 53) fun a53 l6=>
 Qk a1 l6<|
 Qb prog 200 #[a] l6 fun c10 l7=>
 Qk l6 l7<|
 Qb prog 201 #[a] l7 fun c11 l8=>
 Qk l7 l8<|
 Qb prog 202 #[a] l8 fun c12 l9=>
 Qk l8 l9<|
 Qb prog 203 #[a] l9 fun c13 m0=>
 Qk l9 m0<|
 Qb prog 204 #[a] m0 fun c14 m1=>
 Qk m0 m1<|
 Qb prog 206 #[a] m1 fun c15 m2=>
 Qk m1 m2<|
 Qba prog 205 #[c15] fun c16=>
 Qb prog 207 #[a] m2 fun c17 m3=>
 Qk m2 m3<|
 Qba prog 205 #[c17] fun c18=>
 Qb prog 208 #[a] m3 fun c19 m4=>
 Qk m3 m4<|
 Qba prog 205 #[c19] fun c20=>
 Qb prog 209 #[a,(.pointer none)] m4 fun c21 m5=>
 Qk m4 m5<|
 Qp prog .neq 231 c21 (.pointer none) fun c22=>
 Qb prog 210 #[a] m5 fun c23 m6=>
 Qk m5 m6<|
 Qb prog 211 #[a] m6 fun c24 m7=>
 Qk m6 m7<|
 Qb prog 212 #[a] m7 fun c25 m8=>
 Qk m7 m8<|
 Qb prog 213 #[a] m8 fun c26 a54=>
 Qk m8 a54<|
 QH z53.toList [(1,1,c),(2,1,d),(3,1,e),(5,1,f),(15,1,g),(16,1,i),(17,1,j),(18,1,l),(19,1,c10),(20,1,c11),(21,1,c12),(22,1,c13),(23,1,c14),(25,1,c16),(26,1,c18),(27,1,c20),(34,1,c22),(36,1,c23),(39,1,c24),(41,1,c25),(50,1,c26)] fun c27=>
 StK a54 51 a53 c27 fun c28=>
 b [a53] c28))/\
 (Zb a0 (.cells z53 53) fun a55 m9=>
 Qk a0 m9<|
 Qb prog 199 #[a] m9 fun c29 o0=>
 Qk m9 o0<|
 Qb prog 200 #[a] o0 fun c30 o1=>
 Qk o0 o1<|
 Qb prog 201 #[a] o1 fun c31 o2=>
 Qk o1 o2<|
 Qb prog 202 #[a] o2 fun c32 o3=>
 Qk o2 o3<|
 Qb prog 203 #[a] o3 fun c33 o4=>
 Qk o3 o4<|
 Qb prog 204 #[a] o4 fun c34 o5=>
 Qk o4 o5<|
 Qb prog 206 #[a] o5 fun c35 o6=>
 Qk o5 o6<|
 Qba prog 205 #[c35] fun c36=>
 Qb prog 207 #[a] o6 fun c37 o7=>
 Qk o6 o7<|
 Qba prog 205 #[c37] fun c38=>
 Qb prog 208 #[a] o7 fun c39 o8=>
 Qk o7 o8<|
 Qba prog 205 #[c39] fun c40=>
 Qb prog 209 #[a,(.pointer none)] o8 fun c41 o9=>
 Qk o8 o9<|
 Qp prog .neq 231 c41 (.pointer none) fun c42=>
 Qb prog 210 #[a] o9 fun c43 p0=>
 Qk o9 p0<|
 Qb prog 211 #[a] p0 fun c44 p1=>
 Qk p0 p1<|
 Qb prog 212 #[a] p1 fun c45 p2=>
 Qk p1 p2<|
 Qb prog 213 #[a] p2 fun c46 a56=>
 Qk p2 a56<|
 QH z53.toList [(1,1,c),(2,1,d),(3,1,e),(5,1,f),(15,1,g),(16,1,i),(17,1,j),(18,1,c29),(19,1,c30),(20,1,c31),(21,1,c32),(22,1,c33),(23,1,c34),(25,1,c36),(26,1,c38),(27,1,c40),(34,1,c42),(36,1,c43),(39,1,c44),(41,1,c45),(50,1,c46)] fun c47=>
 StK a56 51 a55 c47 fun c48=>
 b [a55] c48))/\
 (Zb z (.cells z53 53) fun a57 p3=>
 Qk z p3<|
 Qb prog 198 #[a] p3 fun c49 p4=>
 Qk p3 p4<|
 Qb prog 199 #[a] p4 fun c50 p5=>
 Qk p4 p5<|
 Qb prog 200 #[a] p5 fun c51 p6=>
 Qk p5 p6<|
 Qb prog 201 #[a] p6 fun c52 p7=>
 Qk p6 p7<|
 Qb prog 202 #[a] p7 fun c53 p8=>
 Qk p7 p8<|
 Qb prog 203 #[a] p8 fun c54 p9=>
 Qk p8 p9<|
 Qb prog 204 #[a] p9 fun c55 q0=>
 Qk p9 q0<|
 Qb prog 206 #[a] q0 fun c56 q1=>
 Qk q0 q1<|
 Qba prog 205 #[c56] fun c57=>
 Qb prog 207 #[a] q1 fun c58 q2=>
 Qk q1 q2<|
 Qba prog 205 #[c58] fun c59=>
 Qb prog 208 #[a] q2 fun c60 q3=>
 Qk q2 q3<|
 Qba prog 205 #[c60] fun c61=>
 Qb prog 209 #[a,(.pointer none)] q3 fun c62 q4=>
 Qk q3 q4<|
 Qp prog .neq 231 c62 (.pointer none) fun c63=>
 Qb prog 210 #[a] q4 fun c64 q5=>
 Qk q4 q5<|
 Qb prog 211 #[a] q5 fun c65 q6=>
 Qk q5 q6<|
 Qb prog 212 #[a] q6 fun c66 q7=>
 Qk q6 q7<|
 Qb prog 213 #[a] q7 fun c67 a58=>
 Qk q7 a58<|
 QH z53.toList [(1,1,c),(2,1,d),(3,1,e),(5,1,f),(15,1,g),(16,1,i),(17,1,c49),(18,1,c50),(19,1,c51),(20,1,c52),(21,1,c53),(22,1,c54),(23,1,c55),(25,1,c57),(26,1,c59),(27,1,c61),(34,1,c63),(36,1,c64),(39,1,c65),(41,1,c66),(50,1,c67)] fun c68=>
 StK a58 51 a57 c68 fun c69=>
 b [a57] c69))/\
 (Zb y (.cells z53 53) fun a59 q8=>
 Qk y q8<|
 Qb prog 197 #[a] q8 fun c70 q9=>
 Qk q8 q9<|
 Qb prog 198 #[a] q9 fun c71 r0=>
 Qk q9 r0<|
 Qb prog 199 #[a] r0 fun c72 r1=>
 Qk r0 r1<|
 Qb prog 200 #[a] r1 fun c73 r2=>
 Qk r1 r2<|
 Qb prog 201 #[a] r2 fun c74 r3=>
 Qk r2 r3<|
 Qb prog 202 #[a] r3 fun c75 r4=>
 Qk r3 r4<|
 Qb prog 203 #[a] r4 fun c76 r5=>
 Qk r4 r5<|
 Qb prog 204 #[a] r5 fun c77 r6=>
 Qk r5 r6<|
 Qb prog 206 #[a] r6 fun c78 r7=>
 Qk r6 r7<|
 Qba prog 205 #[c78] fun c79=>
 Qb prog 207 #[a] r7 fun c80 r8=>
 Qk r7 r8<|
 Qba prog 205 #[c80] fun c81=>
 Qb prog 208 #[a] r8 fun c82 r9=>
 Qk r8 r9<|
 Qba prog 205 #[c82] fun c83=>
 Qb prog 209 #[a,(.pointer none)] r9 fun c84 s0=>
 Qk r9 s0<|
 Qp prog .neq 231 c84 (.pointer none) fun c85=>
 Qb prog 210 #[a] s0 fun c86 s1=>
 Qk s0 s1<|
 Qb prog 211 #[a] s1 fun c87 s2=>
 Qk s1 s2<|
 Qb prog 212 #[a] s2 fun c88 s3=>
 Qk s2 s3<|
 Qb prog 213 #[a] s3 fun c89 a60=>
 Qk s3 a60<|
 QH z53.toList [(1,1,c),(2,1,d),(3,1,e),(5,1,f),(15,1,g),(16,1,c70),(17,1,c71),(18,1,c72),(19,1,c73),(20,1,c74),(21,1,c75),(22,1,c76),(23,1,c77),(25,1,c79),(26,1,c81),(27,1,c83),(34,1,c85),(36,1,c86),(39,1,c87),(41,1,c88),(50,1,c89)] fun c90=>
 StK a60 51 a59 c90 fun c91=>
 b [a59] c91))/\
 (Zb w (.cells z53 53) fun a61 s4=>
 Qk w s4<|
 Qb prog 196 #[a] s4 fun c92 s5=>
 Qk s4 s5<|
 Qb prog 197 #[a] s5 fun c93 s6=>
 Qk s5 s6<|
 Qb prog 198 #[a] s6 fun c94 s7=>
 Qk s6 s7<|
 Qb prog 199 #[a] s7 fun c95 s8=>
 Qk s7 s8<|
 Qb prog 200 #[a] s8 fun c96 s9=>
 Qk s8 s9<|
 Qb prog 201 #[a] s9 fun c97 t0=>
 Qk s9 t0<|
 Qb prog 202 #[a] t0 fun c98 t1=>
 Qk t0 t1<|
 Qb prog 203 #[a] t1 fun c99 t2=>
 Qk t1 t2<|
 Qb prog 204 #[a] t2 fun d00 t3=>
 Qk t2 t3<|
 Qb prog 206 #[a] t3 fun d01 t4=>
 Qk t3 t4<|
 Qba prog 205 #[d01] fun d02=>
 Qb prog 207 #[a] t4 fun d03 t5=>
 Qk t4 t5<|
 Qba prog 205 #[d03] fun d04=>
 Qb prog 208 #[a] t5 fun d05 t6=>
 Qk t5 t6<|
 Qba prog 205 #[d05] fun d06=>
 Qb prog 209 #[a,(.pointer none)] t6 fun d07 t7=>
 Qk t6 t7<|
 Qp prog .neq 231 d07 (.pointer none) fun d08=>
 Qb prog 210 #[a] t7 fun d09 t8=>
 Qk t7 t8<|
 Qb prog 211 #[a] t8 fun d10 t9=>
 Qk t8 t9<|
 Qb prog 212 #[a] t9 fun d11 u0=>
 Qk t9 u0<|
 Qb prog 213 #[a] u0 fun d12 a62=>
 Qk u0 a62<|
 QH z53.toList [(1,1,c),(2,1,d),(3,1,e),(5,1,f),(15,1,c92),(16,1,c93),(17,1,c94),(18,1,c95),(19,1,c96),(20,1,c97),(21,1,c98),(22,1,c99),(23,1,d00),(25,1,d02),(26,1,d04),(27,1,d06),(34,1,d08),(36,1,d09),(39,1,d10),(41,1,d11),(50,1,d12)] fun d13=>
 StK a62 51 a61 d13 fun d14=>
 b [a61] d14))/\
 (Zb v (.cells z53 53) fun a63 u1=>
 Qk v u1<|
 Qb prog 195 #[a] u1 fun d15 u2=>
 Qk u1 u2<|
 Qb prog 196 #[a] u2 fun d16 u3=>
 Qk u2 u3<|
 Qb prog 197 #[a] u3 fun d17 u4=>
 Qk u3 u4<|
 Qb prog 198 #[a] u4 fun d18 u5=>
 Qk u4 u5<|
 Qb prog 199 #[a] u5 fun d19 u6=>
 Qk u5 u6<|
 Qb prog 200 #[a] u6 fun d20 u7=>
 Qk u6 u7<|
 Qb prog 201 #[a] u7 fun d21 u8=>
 Qk u7 u8<|
 Qb prog 202 #[a] u8 fun d22 u9=>
 Qk u8 u9<|
 Qb prog 203 #[a] u9 fun d23 v0=>
 Qk u9 v0<|
 Qb prog 204 #[a] v0 fun d24 v1=>
 Qk v0 v1<|
 Qb prog 206 #[a] v1 fun d25 v2=>
 Qk v1 v2<|
 Qba prog 205 #[d25] fun d26=>
 Qb prog 207 #[a] v2 fun d27 v3=>
 Qk v2 v3<|
 Qba prog 205 #[d27] fun d28=>
 Qb prog 208 #[a] v3 fun d29 v4=>
 Qk v3 v4<|
 Qba prog 205 #[d29] fun d30=>
 Qb prog 209 #[a,(.pointer none)] v4 fun d31 v5=>
 Qk v4 v5<|
 Qp prog .neq 231 d31 (.pointer none) fun d32=>
 Qb prog 210 #[a] v5 fun d33 v6=>
 Qk v5 v6<|
 Qb prog 211 #[a] v6 fun d34 v7=>
 Qk v6 v7<|
 Qb prog 212 #[a] v7 fun d35 v8=>
 Qk v7 v8<|
 Qb prog 213 #[a] v8 fun d36 a64=>
 Qk v8 a64<|
 QH z53.toList [(1,1,c),(2,1,d),(3,1,e),(5,1,d15),(15,1,d16),(16,1,d17),(17,1,d18),(18,1,d19),(19,1,d20),(20,1,d21),(21,1,d22),(22,1,d23),(23,1,d24),(25,1,d26),(26,1,d28),(27,1,d30),(34,1,d32),(36,1,d33),(39,1,d34),(41,1,d35),(50,1,d36)] fun d37=>
 StK a64 51 a63 d37 fun d38=>
 b [a63] d38))/\
 (Zb a25 (.cells z53 53) fun a65 d39=>
 Qb prog 194 #[a] d39 fun d40 v9=>
 B2SK v9 d40 fun d41=>
 Qb prog 195 #[a] v9 fun d42 w0=>
 Qk v9 w0<|
 Qb prog 196 #[a] w0 fun d43 w1=>
 Qk w0 w1<|
 Qb prog 197 #[a] w1 fun d44 w2=>
 Qk w1 w2<|
 Qb prog 198 #[a] w2 fun d45 w3=>
 Qk w2 w3<|
 Qb prog 199 #[a] w3 fun d46 w4=>
 Qk w3 w4<|
 Qb prog 200 #[a] w4 fun d47 w5=>
 Qk w4 w5<|
 Qb prog 201 #[a] w5 fun d48 w6=>
 Qk w5 w6<|
 Qb prog 202 #[a] w6 fun d49 w7=>
 Qk w6 w7<|
 Qb prog 203 #[a] w7 fun d50 w8=>
 Qk w7 w8<|
 Qb prog 204 #[a] w8 fun d51 w9=>
 Qk w8 w9<|
 Qb prog 206 #[a] w9 fun d52 y0=>
 Qk w9 y0<|
 Qba prog 205 #[d52] fun d53=>
 Qb prog 207 #[a] y0 fun d54 y1=>
 Qk y0 y1<|
 Qba prog 205 #[d54] fun d55=>
 Qb prog 208 #[a] y1 fun d56 y2=>
 Qk y1 y2<|
 Qba prog 205 #[d56] fun d57=>
 Qb prog 209 #[a,(.pointer none)] y2 fun d58 y3=>
 Qk y2 y3<|
 Qp prog .neq 231 d58 (.pointer none) fun d59=>
 Qb prog 210 #[a] y3 fun d60 y4=>
 Qk y3 y4<|
 Qb prog 211 #[a] y4 fun d61 y5=>
 Qk y4 y5<|
 Qb prog 212 #[a] y5 fun d62 y6=>
 Qk y5 y6<|
 Qb prog 213 #[a] y6 fun d63 a66=>
 Qk y6 a66<|
 QH z53.toList [(1,1,c),(2,1,d),(3,1,d41),(5,1,d42),(15,1,d43),(16,1,d44),(17,1,d45),(18,1,d46),(19,1,d47),(20,1,d48),(21,1,d49),(22,1,d50),(23,1,d51),(25,1,d53),(26,1,d55),(27,1,d57),(34,1,d59),(36,1,d60),(39,1,d61),(41,1,d62),(50,1,d63)] fun d64=>
 StK a66 51 a65 d64 fun d65=>
 b [a65] d65))/\
 (Zb a24 (.cells z53 53) fun a67 d66=>
 Qb prog 193 #[a] d66 fun d67 d68=>
 Qb prog 194 #[a] d68 fun d69 y7=>
 B2SK y7 d69 fun d70=>
 Qb prog 195 #[a] y7 fun d71 y8=>
 Qk y7 y8<|
 Qb prog 196 #[a] y8 fun d72 y9=>
 Qk y8 y9<|
 Qb prog 197 #[a] y9 fun d73 z0=>
 Qk y9 z0<|
 Qb prog 198 #[a] z0 fun d74 z1=>
 Qk z0 z1<|
 Qb prog 199 #[a] z1 fun d75 z2=>
 Qk z1 z2<|
 Qb prog 200 #[a] z2 fun d76 z3=>
 Qk z2 z3<|
 Qb prog 201 #[a] z3 fun d77 z4=>
 Qk z3 z4<|
 Qb prog 202 #[a] z4 fun d78 z5=>
 Qk z4 z5<|
 Qb prog 203 #[a] z5 fun d79 z6=>
 Qk z5 z6<|
 Qb prog 204 #[a] z6 fun d80 z7=>
 Qk z6 z7<|
 Qb prog 206 #[a] z7 fun d81 z8=>
 Qk z7 z8<|
 Qba prog 205 #[d81] fun d82=>
 Qb prog 207 #[a] z8 fun d83 z9=>
 Qk z8 z9<|
 Qba prog 205 #[d83] fun d84=>
 Qb prog 208 #[a] z9 fun d85 a00=>
 Qk z9 a00<|
 Qba prog 205 #[d85] fun d86=>
 Qb prog 209 #[a,(.pointer none)] a00 fun d87 a01=>
 Qk a00 a01<|
 Qp prog .neq 231 d87 (.pointer none) fun d88=>
 Qb prog 210 #[a] a01 fun d89 a02=>
 Qk a01 a02<|
 Qb prog 211 #[a] a02 fun d90 a03=>
 Qk a02 a03<|
 Qb prog 212 #[a] a03 fun d91 a04=>
 Qk a03 a04<|
 Qb prog 213 #[a] a04 fun d92 a68=>
 Qk a04 a68<|
 QH z53.toList [(1,1,c),(2,1,d67),(3,1,d70),(5,1,d71),(15,1,d72),(16,1,d73),(17,1,d74),(18,1,d75),(19,1,d76),(20,1,d77),(21,1,d78),(22,1,d79),(23,1,d80),(25,1,d82),(26,1,d84),(27,1,d86),(34,1,d88),(36,1,d89),(39,1,d90),(41,1,d91),(50,1,d92)] fun d93=>
 StK a68 51 a67 d93 fun d94=>
 b [a67] d94))/\
 (Zb a23 (.cells z53 53) fun a69 d95=>
 Qb prog 192 #[a] d95 fun d96 d97=>
 Qb prog 193 #[a] d97 fun d98 d99=>
 Qb prog 194 #[a] d99 fun e00 a05=>
 B2SK a05 e00 fun e01=>
 Qb prog 195 #[a] a05 fun e02 a06=>
 Qk a05 a06<|
 Qb prog 196 #[a] a06 fun e03 a07=>
 Qk a06 a07<|
 Qb prog 197 #[a] a07 fun e04 a08=>
 Qk a07 a08<|
 Qb prog 198 #[a] a08 fun e05 a09=>
 Qk a08 a09<|
 Qb prog 199 #[a] a09 fun e06 a10=>
 Qk a09 a10<|
 Qb prog 200 #[a] a10 fun e07 a11=>
 Qk a10 a11<|
 Qb prog 201 #[a] a11 fun e08 a12=>
 Qk a11 a12<|
 Qb prog 202 #[a] a12 fun e09 a13=>
 Qk a12 a13<|
 Qb prog 203 #[a] a13 fun e10 a14=>
 Qk a13 a14<|
 Qb prog 204 #[a] a14 fun e11 a15=>
 Qk a14 a15<|
 Qb prog 206 #[a] a15 fun e12 a16=>
 Qk a15 a16<|
 Qba prog 205 #[e12] fun e13=>
 Qb prog 207 #[a] a16 fun e14 a17=>
 Qk a16 a17<|
 Qba prog 205 #[e14] fun e15=>
 Qb prog 208 #[a] a17 fun e16 a18=>
 Qk a17 a18<|
 Qba prog 205 #[e16] fun e17=>
 Qb prog 209 #[a,(.pointer none)] a18 fun e18 a19=>
 Qk a18 a19<|
 Qp prog .neq 231 e18 (.pointer none) fun e19=>
 Qb prog 210 #[a] a19 fun e20 a20=>
 Qk a19 a20<|
 Qb prog 211 #[a] a20 fun e21 a21=>
 Qk a20 a21<|
 Qb prog 212 #[a] a21 fun e22 a22=>
 Qk a21 a22<|
 Qb prog 213 #[a] a22 fun e23 a70=>
 Qk a22 a70<|
 QH z53.toList [(1,1,d96),(2,1,d98),(3,1,e01),(5,1,e02),(15,1,e03),(16,1,e04),(17,1,e05),(18,1,e06),(19,1,e07),(20,1,e08),(21,1,e09),(22,1,e10),(23,1,e11),(25,1,e13),(26,1,e15),(27,1,e17),(34,1,e19),(36,1,e20),(39,1,e21),(41,1,e22),(50,1,e23)] fun e24=>
 StK a70 51 a69 e24 fun e25=>
 b [a69] e25)) fun b=>∀a71:Value,∀a72:Qf,b [a71] a72->
 rm1 a a71 a73 a72 R
theorem w46 {a h R} (H:s46 a h R):FnS prog 46 #[a] h R:=wq Tryz.func46 (by kernel_rfl) H
def s76 (a:Value) (h:Qf) (R:Kn):Prop:=
 Qp prog .eql 9 a (.string ⟨#[]⟩) fun b=>
 IfK b
 (R (.slice none 0 0) h)
 (S2BK h 5 a fun c d=>
 R c d)
theorem w76 {a h R} (H:s76 a h R):FnS prog 76 #[a] h R:=wq Tryz.func76 (by kernel_rfl) H
def ts2 (a:Value) (b:Qf) (R:Kn):Prop:=
 R a b
def ts1B (d:Value) (e:Value) (f:Value) (c:Qf) (k:Kn):Prop:=
 YG 2 d e fun g=>
 LdN c 2 g fun i=>
 Zb c (.cells z88 88) fun a j=>
 StK j 2 a i fun b=>
 Qh a 0 fun l=>
 LdK b l fun m=>
 Qh a 1 fun o=>
 LdK b o fun p=>
 QH z165.toList [(0,1,m),(1,1,p)] fun q=>
 Zb b (.cells (Value.cells q) 165) fun r s=>
 QY s 164 1 (ZP z164.toList 1) [(0,1,r)] fun t u=>
 Qe7 u 164 1 8 z164 f t fun v w=>
 k v w
def ts1 (a:Value) (h:Qf) (R:Kn):Prop:=
 QbS prog 3 a h (ts1B a) fun b c=>ts2 b c R
def s77 (a:Value) (h:Qf) (R:Kn):Prop:=
 ts1 a h R
theorem w77 {a h R} (H:s77 a h R):FnS prog 77 #[a] h R:=wq Tryz.func77 (by kernel_rfl) H
theorem w78 {a h R} (H:tp78 a h R):FnS prog 78 #[a] h R:=wq Tryz.func78 (by kernel_rfl) H
theorem w79 {a h R} (H:tp78 a h R):FnS prog 79 #[a] h R:=wq Tryz.func79 (by kernel_rfl) H
theorem w81 {a h R} (H:tp78 a h R):FnS prog 81 #[a] h R:=wq Tryz.func81 (by kernel_rfl) H
def rf2 (a:Value) (b:Qf) (R:Kn):Prop:=
 R a b
def rf1B (b:Value) (c:Value) (d:Value) (a:Qf) (k:Kn):Prop:=
 YG 1 b c fun e=>
 LdK a e fun f=>
 QH z272.toList [(0,1,f)] fun g=>
 Zb a (.cells (Value.cells g) 272) fun i j=>
 QY j 191 1 (ZP z191.toList 1) [(0,1,i)] fun l m=>
 Qe7 m 191 1 8 z191 d l fun o p=>
 k o p
def rf1 (a:Value) (h:Qf) (R:Kn):Prop:=
 QbS prog 3 a h (rf1B a) fun b c=>rf2 b c R
def s82 (a:Value) (h:Qf) (R:Kn):Prop:=
 rf1 a h R
theorem w82 {a h R} (H:s82 a h R):FnS prog 82 #[a] h R:=wq Tryz.func82 (by kernel_rfl) H
theorem w83 {a h R} (H:tp78 a h R):FnS prog 83 #[a] h R:=wq Tryz.func83 (by kernel_rfl) H
def s85 (c:Value) (h:Qf) (R:Kn):Prop:=
 Zb h (.cells (Value.cells c) 48) fun b a=>
 Qh b 0 fun d=>
 LdK a d fun e=>
 Qp prog .eql 5 e (.int .u8 2) fun f=>
 IfK f
 (Qh b 2 fun g=>
 LdK a g fun i=>
 QH z275.toList [(0,1,i)] fun j=>
 Zb a (.cells (Value.cells j) 275) fun l m=>
 R (.iface 273 l) m)
 (LdN a 3 b fun o=>
 Qb prog 86 #[o] a fun p q=>
 R (.iface 73 p) q)
theorem w85 {a h R} (H:s85 a h R):FnS prog 85 #[a] h R:=wq Tryz.func85 (by kernel_rfl) H
def s86 (c:Value) (h:Qf) (R:Kn):Prop:=
 Zb h (.cells (Value.cells c) 48) fun b a=>
 Qh b 1 fun d=>
 LdK a d fun e=>
 YX e fun f=>
 Qp prog .eql 3 f (.int .i64 0) fun g=>
 IfK g
 (R (.pointer none) a)
 (Qh b 1 fun i=>
 LdK a i fun j=>
 YG 51 j (.int .i64 0) fun l=>
 LdN a 51 l fun m=>
 Qb prog 22 #[m] a fun o p=>
 R o p)
theorem w86 {a h R} (H:s86 a h R):FnS prog 86 #[a] h R:=wq Tryz.func86 (by kernel_rfl) H
def s267 (d v w:Value) (h:Qf) (R:Kn):Prop:=
 Zb h (.cells (Value.cells w) 219) fun c y=>
 Zb y (.cells z48 48) fun a i=>
 Z2 prog (Op.unary .not v) fun e=>
 Qe e false (fun z=>z d i) i fun a0 j=>
 Qe e false (fun a1=>Qp prog .eql 5 a0 (.int .u8 0) fun a2=>a1 a2 j) j fun a3 l=>
 Yh e (.bool true) a3 fun a4=>
 IfK a4
 (QH z48.toList [] fun a5=>
 StK l 3 a a5 fun m=>
 LdN m 3 a fun a6=>
 R a6 m)
 (QH z48.toList [(0,1,d)] fun a7=>
 Zb l (.cells z48 48) fun b a8=>
 StK a8 3 b a7 fun o=>
 Qp prog .eql 5 d (.int .u8 2) fun a9=>
 IfK a9
 (Zb o (.cells z323 323) fun p f=>
 Qh c 0 fun b0=>
 LdK f b0 fun b1=>
 Qh c 1 fun b2=>
 LdK f b2 fun b3=>
 Qb prog 348 #[p,b1,b3] f fun _x25 b4=>
 Qb prog 349 #[p] b4 fun b5 b6=>
 Qh b 2 fun b7=>
 StK b6 1 b7 b5 fun q=>
 LdN q 3 b fun b8=>
 StK q 3 a b8 fun r=>
 LdN r 3 a fun b9=>
 R b9 r)
 (Zb o (.cells z221 221) fun s g=>
 Qh c 0 fun c0=>
 LdK g c0 fun c1=>
 Qh c 1 fun c2=>
 LdK g c2 fun c3=>
 Qb prog 191 #[s,c1,c3] g fun _x33 c4=>
 Qb prog 46 #[s] c4 fun c5 c6=>
 QY c6 53 1 (ZP z53.toList 1) [(0,51,c5)] fun c7 c8=>
 Qh b 1 fun c9=>
 StK c8 1 c9 c7 fun t=>
 LdN t 3 b fun d0=>
 StK t 3 a d0 fun u=>
 LdN u 3 a fun d1=>
 R d1 u))
theorem w267 {a b c h R} (H:s267 a b c h R):FnS prog 267 #[a,b,c] h R:=wq Tryz.func267 (by kernel_rfl) H
end Go.Proofs
namespace Go.Proofs
open Go Go.Vc
open Tryz (prog)
abbrev RM (G0:Cut) (H0:Qf) (q2 q3:Nat) (G:Cut) (H:Qf) (cells:List Value):Prop:=RS G0 H0 53 (.cells z53 53 (0,0)) q2 q3 G H cells
abbrev ptr (b:Nat):Value:=.pointer (some ⟨b,0,none⟩)
theorem Qb7 {cells:List Value} {fld:Nat} {v:Value} (h:cells[fld]?=some v):cells.set fld v=cells:=by
 apply List.ext_getElem?
 intro j
 rw[List.getElem?_set]
 split
 ·rename_i e
  subst e
  split
  ·exact h.symm
  ·rename_i hlt;rw[List.getElem?_eq_none (by omega)]
 ·rfl
theorem get_set {cells:List Value} {fld:Nat} {v w:Value} (h:cells[fld]?=some w):(cells.set fld v)[fld]?=some v:=by
 have:fld<cells.length:=by
  rcases Nat.lt_or_ge fld cells.length with hh|hh
  ·exact hh
  ·rw[List.getElem?_eq_none hh]at h;cases h
 simp[this]
theorem Q0 {α:Type} {l:List α} {i:Nat} {a:α} (h:l[i]?=some a):i<l.length:=by
 rcases Nat.lt_or_ge i l.length with hh|hh
 ·exact hh
 ·rw[List.getElem?_eq_none hh]at h;cases h
theorem Zm {α:Type} {f:α->List Value} {l:List α} {i:Nat} {a:α} (h:l[i]?=some a):(l.take (i+1)).map f=(l.take i).map f++[f a]:=by
 rw[List.take_add_one,h];simp
theorem QcW {α:Type} {l:List α} {i:Nat} {a:α} (h:l[i]?=some a):l.take (i+1)=l.take i++[a]:=by
 rw[List.take_add_one,h];simp
section
variable {G0:Cut} {H0:Qf} {q2 q3:Nat} {G:Cut} {H:Qf} {cells:List Value} (rs:RM G0 H0 q2 q3 G H cells)
include rs
theorem app_loop {P:Program} {t:TypeId} {lenf:FuncId} {x0:Value} {Bd:Value->Qf->(Qf->Prop)->Prop} {K:Qf->Prop} {fld es:Nat} {et:TypeId} {n:Nat} (Items:Cut->Nat->List (List Value)->Prop) (h0:Items G 0 []) (hc:cells[fld]?=some (.slice none 0 0)) (hn:n<4611686018427387904)
  (hlen:∀H' (R:Kn),QaC H0 H'->R (.int .i64 (n:Nat)) H'->FnS P lenf #[x0] H' R)
  (hB:∀i G1 H' c cells' items (k:Qf->Prop),i<n->G.le G1->RM G0 H0 q2 q3 G1 H' cells'->cells'[fld]?=some c->Cur H0 G1 H' et es c items (badq q2 q3)->Items G1 i items->
   (∀G2 H2 c2 items2,G1.le G2->RM G0 H0 q2 q3 G2 H2 (cells'.set fld c2)->Cur H0 G2 H2 et es c2 items2 (badq q2 q3)->Items G2 (i+1) items2->k H2)->Bd (.int .i64 (i:Nat)) H' k)
  (hk:∀G' G1 H' c items,RM G0 H0 q2 q3 G' H' (cells.set fld c)->G.le G'->SlV G' es c items->Items G1 n items->G1.le G'->K H'):ZX P t lenf x0 Bd H K:=by
 refine cntLoop_of (n:=n) (fun i H'=>∃G1 c items,G.le G1/\RM G0 H0 q2 q3 G1 H' (cells.set fld c)/\Cur H0 G1 H' et es c items (badq q2 q3)/\Items G1 i items) ⟨G,_,[],Cut.le_refl G,by rw[Qb7 hc];exact rs,Cur.nil,h0⟩ hn ?_ ?_ ?_
 ·rintro i H' R ⟨G1,c,items,_,rs',_⟩ hR
  exact hlen H' R rs'.ext.keep hR
 ·rintro i H' k hlt ⟨G1,c,items,hle,rs',hc',hi⟩ hk'
  refine hB i G1 H' c _ items k hlt hle rs' (get_set hc) hc' hi ?_
  intro G2 H2 c2 items2 hle2 rs2 hc2 hi2
  exact hk' H2 ⟨G2,c2,items2,Cut.le_trans hle hle2,by rw[List.set_set]at rs2;exact rs2,hc2,hi2⟩
 ·rintro H' ⟨G1,c,items,hle,rs',hc',hi⟩
  obtain ⟨G',e',sl,le,hown⟩:=hc'.done rs'.ext
  exact hk G' G1 H' c items ⟨e',hown _ _ (Or.inl rfl) rs'.o2,hown _ _ (Or.inr rfl) rs'.o3,rs'.ne⟩ (Cut.le_trans hle le) sl hi le
theorem Qbh {α:Type} {l:List α} {f:α->List Value} {P:Program} {t:TypeId} {lenf:FuncId} {x0:Value} {Bd:Value->Qf->(Qf->Prop)->Prop} {K:Qf->Prop} {fld es:Nat} {et:TypeId} (hc:cells[fld]?=some (.slice none 0 0)) (hn:l.length<4611686018427387904)
  (hlen:∀H' (R:Kn),QaC H0 H'->R (.int .i64 (l.length:Nat)) H'->FnS P lenf #[x0] H' R)
  (hB:∀i a H' c cells' (k:Qf->Prop),l[i]?=some a->RM G0 H0 q2 q3 G H' cells'->cells'[fld]?=some c->Cur H0 G H' et es c ((l.take i).map f) (badq q2 q3)->((l.take i).map f).length<l.length->
   (∀H2 c2,RM G0 H0 q2 q3 G H2 (cells'.set fld c2)->Cur H0 G H2 et es c2 ((l.take i).map f++[f a]) (badq q2 q3)->k H2)->Bd (.int .i64 (i:Nat)) H' k)
  (hk:∀G' H' c,RM G0 H0 q2 q3 G' H' (cells.set fld c)->G.le G'->SlV G' es c (l.map f)->K H'):ZX P t lenf x0 Bd H K:=by
 refine app_loop rs (et:=et) (es:=es) (fun G1 i items=>G1=G/\items=(l.take i).map f) ⟨rfl,by simp⟩ hc hn hlen ?_ ?_
 ·rintro i G1 H' c cells' items k hlt _ rs' hc' hcur ⟨rfl,rfl⟩ hk'
  have ha:=List.getElem?_eq_getElem hlt
  refine hB i _ H' c cells' k ha rs' hc' hcur (by rw[List.length_map,List.length_take];omega) ?_
  intro H2 c2 rs2 hc2
  exact hk' _ H2 c2 _ (Cut.le_refl _) rs2 hc2 ⟨rfl,(Zm ha).symm⟩
 ·rintro G' G1 H' c items rs' hle sl ⟨rfl,rfl⟩ _
  rw[List.take_length]at sl
  exact hk G' H' c rs' hle sl
theorem QhD {P:Program} {t:TypeId} {lenf:FuncId} {x0:Value} {Bd:Value->Qf->(Qf->Prop)->Prop} {K:Qf->Prop} {fld:Nat} {xs:List UInt8} (hc:cells[fld]?=some (YM [])) (hn:xs.length<4611686018427387904)
  (hlen:∀H' (R:Kn),QaC H0 H'->R (.int .i64 (xs.length:Nat)) H'->FnS P lenf #[x0] H' R)
  (hB:∀i b H' cells' (k:Qf->Prop),xs[i]?=some b->RM G0 H0 q2 q3 G H' cells'->cells'[fld]?=some (YM (xs.take i))->(xs.take i).length+1<=9223372036854775807->(∀H2,RM G0 H0 q2 q3 G H2 (cells'.set fld (YM (xs.take i++[b])))->k H2)->Bd (.int .i64 (i:Nat)) H' k)
  (hk:∀H',RM G0 H0 q2 q3 G H' (cells.set fld (YM xs))->K H'):ZX P t lenf x0 Bd H K:=by
 refine cntLoop_of (n:=xs.length) (fun i H'=>RM G0 H0 q2 q3 G H' (cells.set fld (YM (xs.take i)))) (by rw[List.take_zero,Qb7 hc];exact rs) hn ?_ ?_ ?_
 ·intro i H' R rs' hR
  exact hlen H' R rs'.ext.keep hR
 ·intro i H' k hlt rs' hk'
  have ha:=List.getElem?_eq_getElem hlt
  refine hB i _ H' _ k ha rs' (get_set hc) (by rw[List.length_take];omega) ?_
  intro H2 rs2
  rw[List.set_set,<-QcW ha]at rs2
  exact hk' H2 rs2
 ·intro H' rs'
  rw[List.take_length]at rs'
  exact hk H' rs'
end
theorem bool_at {bs:List UInt8} {p:Nat} {b:Bool} (h:Yx bs p (Qfe b)):vB (byteN bs p)= .bool b:=by
 have:=h.byte (i:=0) Nat.zero_lt_one
 rw[Nat.add_zero]at this
 rw[this]
 cases b<;>rfl
theorem Qfc {zs:List Value} {parts:List (Nat×Nat×Value)} {cs:List Value} {k:Value->Prop} (h:ZG zs parts=some cs) (hk:k (.agg cs.toArray)):QH zs parts k:=by
 unfold QH;simp only[h];exact hk
section
variable {A p B pos vt:Nat} {bs:List UInt8} {d:ZT} {G0:Cut} {H0:Qf} (ht:Tab H0 p B bs pos) (hv:VT bs pos vt) {q2 q3:Nat} {G:Cut} {H:Qf} {cells:List Value} (rs:RM G0 H0 q2 q3 G H cells) {R:Kn}
include ht hv rs
theorem rm2_ok (own:QM A bs pos vt 14 (d.inventory=[]) (Qby (StrW d.inventory))) (hc:cells[4]?=some (YM [])) (hk:∀H',RM G0 H0 q2 q3 G H' (cells.set 4 (YM d.inventory))->rm3 (ptr p) (ptr q3) (ptr q2) H' R):rm2 (ptr p) (ptr q3) (ptr q2) H R:=by
 obtain ⟨at_,hf,hi⟩:=own.strW
 have hn:=Qhv.n_le hf (by decide)
 have hlt:=ht.lt
 unfold rm2
 refine QhD rs (xs:=d.inventory) hc (by omega) (fun H' R hK hR=>QcS (ht.ext hK.ext) hv hf hR) ?_ hk
 intro i b H' cells' k hb rs' hc' hl hk'
 have hil:=Q0 hb
 have hbv:byteN bs (at_+1*i)=b.toNat:=by
  rw[Nat.one_mul,hi.byte hil];simp[byteN,List.getD,hb]
 unfold rm2B
 rw[Qo,rs'.ld hc']
 refine Qev (rs'.tab ht) hv hf hil ?_
 rw[Qa,hbv]
 exact rs'.push_byte rfl hl (Q0 hc') hk'
theorem rm7_ok (own:QM A bs pos vt 30 (d.nested=[]) (Qby (StrW d.nested))) (hc:cells[13]?=some (YM [])) (hk:∀H',RM G0 H0 q2 q3 G H' (cells.set 13 (YM d.nested))->rm8 (ptr p) (ptr q3) (ptr q2) H' R):rm7 (ptr p) (ptr q3) (ptr q2) H R:=by
 obtain ⟨at_,hf,hi⟩:=own.strW
 have hn:=Qhv.n_le hf (by decide)
 have hlt:=ht.lt
 unfold rm7
 refine QhD rs (xs:=d.nested) hc (by omega) (fun H' R hK hR=>QaH (ht.ext hK.ext) hv hf hR) ?_ hk
 intro i b H' cells' k hb rs' hc' hl hk'
 have hil:=Q0 hb
 have hbv:byteN bs (at_+1*i)=b.toNat:=by
  rw[Nat.one_mul,hi.byte hil];simp[byteN,List.getD,hb]
 unfold rm7B
 rw[Qo,rs'.ld hc']
 refine QbH (rs'.tab ht) hv hf hil ?_
 rw[Qa,hbv]
 exact rs'.push_byte rfl hl (Q0 hc') hk'
theorem rm12_ok (own:QM A bs pos vt 64 (d.flex=[]) (Qby (StrW d.flex))) (hc:cells[30]?=some (YM [])) (hk:∀H',RM G0 H0 q2 q3 G H' (cells.set 30 (YM d.flex))->rm13 (ptr p) (ptr q3) (ptr q2) H' R):rm12 (ptr p) (ptr q3) (ptr q2) H R:=by
 obtain ⟨at_,hf,hi⟩:=own.strW
 have hn:=Qhv.n_le hf (by decide)
 have hlt:=ht.lt
 unfold rm12
 refine QhD rs (xs:=d.flex) hc (by omega) (fun H' R hK hR=>Qe8 (ht.ext hK.ext) hv hf hR) ?_ hk
 intro i b H' cells' k hb rs' hc' hl hk'
 have hil:=Q0 hb
 have hbv:byteN bs (at_+1*i)=b.toNat:=by
  rw[Nat.one_mul,hi.byte hil];simp[byteN,List.getD,hb]
 unfold rm12B
 rw[Qo,rs'.ld hc']
 refine QgQ (rs'.tab ht) hv hf hil ?_
 rw[Qa,hbv]
 exact rs'.push_byte rfl hl (Q0 hc') hk'
theorem rm9_ok (own:QM A bs pos vt 52 ((d.bools.map Qfe)=[]) (Qby (Qed 1 (d.bools.map Qfe)))) (hc:cells[24]?=some (.slice none 0 0)) (hk:∀G' H' c,RM G0 H0 q2 q3 G' H' (cells.set 24 c)->G.le G'->SlV G' 1 c (d.bools.map Qja)->rm10 (ptr p) (ptr q3) (ptr q2) H' R):rm9 (ptr p) (ptr q3) (ptr q2) H R:=by
 obtain ⟨at_,hf,hi⟩:=own.vecW (Yb (fun b:Bool=>(rfl:(Qfe b).length=1)) (l:=d.bools))
 rw[List.length_map]at hf
 have hn:=Qhv.n_le hf (by decide)
 have hlt:=ht.lt
 unfold rm9
 refine Qbh rs (l:=d.bools) (f:=Qja) (et:=4) hc (by omega) (fun H' R hK hR=>Qbj (ht.ext hK.ext) hv hf hR) ?_ hk
 intro i a H' c cells' k ha rs' hc' hcur hil hk'
 have hia:=Q0 ha
 have hby:=hi i _ (by rw[List.getElem?_map,ha];rfl)
 unfold rm9B
 rw[Qo,rs'.ld hc']
 refine QcJ (rs'.tab ht) hv hf hia ?_
 rw[Qa,bool_at hby]
 exact rs'.push_item hcur (it:=Qja a) rfl rfl (by intro x hx;simp only[Qja,List.mem_cons,List.not_mem_nil,or_false]at hx;subst hx;rfl) (by decide) rfl (by decide) (by omega) (Q0 hc') hk'
theorem rm14_ok (own:QM A bs pos vt 68 ((d.longs.map QaB)=[]) (Qby (Qed 8 (d.longs.map QaB)))) (hc:cells[32]?=some (.slice none 0 0)) (hk:∀G' H' c,RM G0 H0 q2 q3 G' H' (cells.set 32 c)->G.le G'->SlV G' 1 c (d.longs.map i64I)->rm15 (ptr p) (ptr q3) (ptr q2) H' R):rm14 (ptr p) (ptr q3) (ptr q2) H R:=by
 obtain ⟨at_,hf,hi⟩:=own.vecW (Yb (fun x=>Qc _ _))
 rw[List.length_map]at hf
 have hn:=Qhv.n_le hf (by decide)
 have hlt:=ht.lt
 unfold rm14
 refine Qbh rs (l:=d.longs) (f:=i64I) (et:=2) hc (by omega) (fun H' R hK hR=>QbP (ht.ext hK.ext) hv hf hR) ?_ hk
 intro i a H' c cells' k ha rs' hc' hcur hil hk'
 have hia:=Q0 ha
 have hby:=hi i _ (by rw[List.getElem?_map,ha];rfl)
 unfold rm14B
 rw[Qo,rs'.ld hc']
 refine Qdq (rs'.tab ht) hv hf hia ?_
 rw[Qa,u64B_at hby]
 exact rs'.push_item hcur (it:=i64I a) rfl rfl (by intro x hx;simp only[i64I,List.mem_cons,List.not_mem_nil,or_false]at hx;subst hx;rfl) (by decide) rfl (by decide) (by omega) (Q0 hc') hk'
theorem rm15_ok (own:QM A bs pos vt 70 ((d.doubles.map QaB)=[]) (Qby (Qed 8 (d.doubles.map QaB)))) (hc:cells[33]?=some (.slice none 0 0)) (hk:∀G' H' c,RM G0 H0 q2 q3 G' H' (cells.set 33 c)->G.le G'->SlV G' 1 c (d.doubles.map Qdw)->rm16 (ptr p) (ptr q3) (ptr q2) H' R):rm15 (ptr p) (ptr q3) (ptr q2) H R:=by
 obtain ⟨at_,hf,hi⟩:=own.vecW (Yb (fun x=>Qc _ _))
 rw[List.length_map]at hf
 have hn:=Qhv.n_le hf (by decide)
 have hlt:=ht.lt
 unfold rm15
 refine Qbh rs (l:=d.doubles) (f:=Qdw) (et:=31) hc (by omega) (fun H' R hK hR=>Qbr (ht.ext hK.ext) hv hf hR) ?_ hk
 intro i a H' c cells' k ha rs' hc' hcur hil hk'
 have hia:=Q0 ha
 have hby:=hi i _ (by rw[List.getElem?_map,ha];rfl)
 unfold rm15B
 rw[Qo,rs'.ld hc']
 refine QcY (rs'.tab ht) hv hf hia ?_
 rw[Qa,u64B_at hby]
 refine QS (fun w=>QdO) ?_
 exact rs'.push_item hcur (it:=Qdw a) rfl rfl (by intro x hx;simp only[Qdw,List.mem_cons,List.not_mem_nil,or_false]at hx;subst hx;rfl) (by decide) rfl (by decide) (by omega) (Q0 hc') hk'
theorem rm17_ok (own:QM A bs pos vt 78 ((d.weak.map QaB)=[]) (Qby (Qed 8 (d.weak.map QaB)))) (hc:cells[37]?=some (.slice none 0 0)) (hk:∀G' H' c,RM G0 H0 q2 q3 G' H' (cells.set 37 c)->G.le G'->SlV G' 1 c (d.weak.map Qdw)->rm18 (ptr p) (ptr q3) (ptr q2) H' R):rm17 (ptr p) (ptr q3) (ptr q2) H R:=by
 obtain ⟨at_,hf,hi⟩:=own.vecW (Yb (fun x=>Qc _ _))
 rw[List.length_map]at hf
 have hn:=Qhv.n_le hf (by decide)
 have hlt:=ht.lt
 unfold rm17
 refine Qbh rs (l:=d.weak) (f:=Qdw) (et:=31) hc (by omega) (fun H' R hK hR=>Qal (ht.ext hK.ext) hv hf hR) ?_ hk
 intro i a H' c cells' k ha rs' hc' hcur hil hk'
 have hia:=Q0 ha
 have hby:=hi i _ (by rw[List.getElem?_map,ha];rfl)
 unfold rm17B
 rw[Qo,rs'.ld hc']
 refine Qbb (rs'.tab ht) hv hf hia ?_
 rw[Qa,u64B_at hby]
 exact rs'.push_item hcur (it:=Qdw a) rfl rfl (by intro x hx;simp only[Qdw,List.mem_cons,List.not_mem_nil,or_false]at hx;subst hx;rfl) (by decide) rfl (by decide) (by omega) (Q0 hc') hk'
theorem rm19_ok (own:QM A bs pos vt 84 ((d.coOwnings.map QaB)=[]) (Qby (Qed 8 (d.coOwnings.map QaB)))) (hc:cells[40]?=some (.slice none 0 0)) (hk:∀G' H' c,RM G0 H0 q2 q3 G' H' (cells.set 40 c)->G.le G'->SlV G' 1 c (d.coOwnings.map Qdw)->rm20 (ptr p) (ptr q3) (ptr q2) H' R):rm19 (ptr p) (ptr q3) (ptr q2) H R:=by
 obtain ⟨at_,hf,hi⟩:=own.vecW (Yb (fun x=>Qc _ _))
 rw[List.length_map]at hf
 have hn:=Qhv.n_le hf (by decide)
 have hlt:=ht.lt
 unfold rm19
 refine Qbh rs (l:=d.coOwnings) (f:=Qdw) (et:=31) hc (by omega) (fun H' R hK hR=>Qa5 (ht.ext hK.ext) hv hf hR) ?_ hk
 intro i a H' c cells' k ha rs' hc' hcur hil hk'
 have hia:=Q0 ha
 have hby:=hi i _ (by rw[List.getElem?_map,ha];rfl)
 unfold rm19B
 rw[Qo,rs'.ld hc']
 refine QaD (rs'.tab ht) hv hf hia ?_
 rw[Qa,u64B_at hby]
 exact rs'.push_item hcur (it:=Qdw a) rfl rfl (by intro x hx;simp only[Qdw,List.mem_cons,List.not_mem_nil,or_false]at hx;subst hx;rfl) (by decide) rfl (by decide) (by omega) (Q0 hc') hk'
theorem rm20_ok (own:QM A bs pos vt 88 ((d.nonOwnings.map QaB)=[]) (Qby (Qed 8 (d.nonOwnings.map QaB)))) (hc:cells[42]?=some (.slice none 0 0)) (hk:∀G' H' c,RM G0 H0 q2 q3 G' H' (cells.set 42 c)->G.le G'->SlV G' 1 c (d.nonOwnings.map Qdw)->rm21 (ptr p) (ptr q3) (ptr q2) H' R):rm20 (ptr p) (ptr q3) (ptr q2) H R:=by
 obtain ⟨at_,hf,hi⟩:=own.vecW (Yb (fun x=>Qc _ _))
 rw[List.length_map]at hf
 have hn:=Qhv.n_le hf (by decide)
 have hlt:=ht.lt
 unfold rm20
 refine Qbh rs (l:=d.nonOwnings) (f:=Qdw) (et:=31) hc (by omega) (fun H' R hK hR=>ZZ (ht.ext hK.ext) hv hf hR) ?_ hk
 intro i a H' c cells' k ha rs' hc' hcur hil hk'
 have hia:=Q0 ha
 have hby:=hi i _ (by rw[List.getElem?_map,ha];rfl)
 unfold rm20B
 rw[Qo,rs'.ld hc']
 refine Qaw (rs'.tab ht) hv hf hia ?_
 rw[Qa,u64B_at hby]
 exact rs'.push_item hcur (it:=Qdw a) rfl rfl (by intro x hx;simp only[Qdw,List.mem_cons,List.not_mem_nil,or_false]at hx;subst hx;rfl) (by decide) rfl (by decide) (by omega) (Q0 hc') hk'
theorem rm3_ok (own:QM A bs pos vt 22 ((d.test4.map (fun t=>QaW t.a.toNat t.b.toNat))=[]) (Qby (Qed 4 (d.test4.map (fun t=>QaW t.a.toNat t.b.toNat))))) (hc:cells[9]?=some (.slice none 0 0)) (hk:∀G' H' c,RM G0 H0 q2 q3 G' H' (cells.set 9 c)->G.le G'->SlV G' 2 c (d.test4.map Yv)->rm4 (ptr p) (ptr q3) (ptr q2) H' R):rm3 (ptr p) (ptr q3) (ptr q2) H R:=by
 obtain ⟨at_,hf,hi⟩:=own.vecW (Yb (fun t:QbF=>Qb1 t.a.toNat t.b.toNat))
 rw[List.length_map]at hf
 have hn:=Qhv.n_le hf (by decide)
 have hlt:=ht.lt
 unfold rm3
 refine Qbh rs (l:=d.test4) (f:=Yv) (et:=88) hc (by omega) (fun H' R hK hR=>QdN (ht.ext hK.ext) hv hf hR) ?_ hk
 intro i a H' c cells' k ha rs' hc' hcur hil hk'
 have hia:=Q0 ha
 obtain ⟨b1,b2,b3⟩:=testB_at (hi i _ (by rw[List.getElem?_map,ha];rfl))
 unfold rm3B
 rw[Q2]
 have rs1:=rs'.push (.cells z246 246)
 refine Qg5 (rs1.tab ht) hv hf hia Qm rfl ?_
 rw[Zh]
 have rs2:=rs'.push (.cells #[bsl B 0 bs.length bs.length,.int .u32 (at_+4*i:Nat)] 246)
 have t2:Tab (H'.push (.cells #[bsl B 0 bs.length bs.length,.int .u32 (at_+4*i:Nat)] 246)) H'.size B bs (at_+4*i):=⟨Qi Qm,Qi Qm,(rs2.tab ht).u8,ht.lt,by omega⟩
 rw[Qo,rs2.ld hc']
 refine Qew t2 (by omega) ?_
 rw[Qa]
 refine Qeu t2 (by omega) ?_
 rw[Qa,b2,b3]
 refine Qfc (cs:=Yv a) (by kernel_rfl) ?_
 exact rs2.push_item (hcur.push _) (it:=Yv a) rfl rfl (by intro x hx;simp only[Yv,List.mem_cons,List.not_mem_nil,or_false]at hx;rcases hx with rfl|rfl<;>rfl) (by decide) rfl (by decide) (by omega) (Q0 hc') hk'
theorem rm13_ok (own:QM A bs pos vt 66 ((d.test5.map (fun t=>QaW t.a.toNat t.b.toNat))=[]) (Qby (Qed 4 (d.test5.map (fun t=>QaW t.a.toNat t.b.toNat))))) (hc:cells[31]?=some (.slice none 0 0)) (hk:∀G' H' c,RM G0 H0 q2 q3 G' H' (cells.set 31 c)->G.le G'->SlV G' 2 c (d.test5.map Yv)->rm14 (ptr p) (ptr q3) (ptr q2) H' R):rm13 (ptr p) (ptr q3) (ptr q2) H R:=by
 obtain ⟨at_,hf,hi⟩:=own.vecW (Yb (fun t:QbF=>Qb1 t.a.toNat t.b.toNat))
 rw[List.length_map]at hf
 have hn:=Qhv.n_le hf (by decide)
 have hlt:=ht.lt
 unfold rm13
 refine Qbh rs (l:=d.test5) (f:=Yv) (et:=88) hc (by omega) (fun H' R hK hR=>QdT (ht.ext hK.ext) hv hf hR) ?_ hk
 intro i a H' c cells' k ha rs' hc' hcur hil hk'
 have hia:=Q0 ha
 obtain ⟨b1,b2,b3⟩:=testB_at (hi i _ (by rw[List.getElem?_map,ha];rfl))
 unfold rm13B
 rw[Q2]
 have rs1:=rs'.push (.cells z246 246)
 refine Qgq (rs1.tab ht) hv hf hia Qm rfl ?_
 rw[Zh]
 have rs2:=rs'.push (.cells #[bsl B 0 bs.length bs.length,.int .u32 (at_+4*i:Nat)] 246)
 have t2:Tab (H'.push (.cells #[bsl B 0 bs.length bs.length,.int .u32 (at_+4*i:Nat)] 246)) H'.size B bs (at_+4*i):=⟨Qi Qm,Qi Qm,(rs2.tab ht).u8,ht.lt,by omega⟩
 rw[Qo,rs2.ld hc']
 refine Qew t2 (by omega) ?_
 rw[Qa]
 refine Qeu t2 (by omega) ?_
 rw[Qa,b2,b3]
 refine Qfc (cs:=Yv a) (by kernel_rfl) ?_
 exact rs2.push_item (hcur.push _) (it:=Yv a) rfl rfl (by intro x hx;simp only[Yv,List.mem_cons,List.not_mem_nil,or_false]at hx;rcases hx with rfl|rfl<;>rfl) (by decide) rfl (by decide) (by omega) (Q0 hc') hk'
theorem rm11_ok (own:QM A bs pos vt 62 ((d.abilities.map (fun t=>Z9 t.id.toNat t.dist.toNat))=[]) (Qby (Qed 8 (d.abilities.map (fun t=>Z9 t.id.toNat t.dist.toNat))))) (hc:cells[29]?=some (.slice none 0 0)) (hk:∀G' H' c,RM G0 H0 q2 q3 G' H' (cells.set 29 c)->G.le G'->SlV G' 2 c (d.abilities.map Z7)->rm12 (ptr p) (ptr q3) (ptr q2) H' R):rm11 (ptr p) (ptr q3) (ptr q2) H R:=by
 obtain ⟨at_,hf,hi⟩:=own.vecW (Yb (fun t:QeD=>Qc1 t.id.toNat t.dist.toNat))
 rw[List.length_map]at hf
 have hn:=Qhv.n_le hf (by decide)
 have hlt:=ht.lt
 unfold rm11
 refine Qbh rs (l:=d.abilities) (f:=Z7) (et:=101) hc (by omega) (fun H' R hK hR=>Qag (ht.ext hK.ext) hv hf hR) ?_ hk
 intro i a H' c cells' k ha rs' hc' hcur hil hk'
 have hia:=Q0 ha
 obtain ⟨b1,b2,b3⟩:=abilB_at (hi i _ (by rw[List.getElem?_map,ha];rfl))
 unfold rm11B
 rw[Q2]
 have rs1:=rs'.push (.cells z254 254)
 refine Qb2 (rs1.tab ht) hv hf hia Qm rfl ?_
 rw[Zh]
 have rs2:=rs'.push (.cells #[bsl B 0 bs.length bs.length,.int .u32 (at_+8*i:Nat)] 254)
 have t2:Tab (H'.push (.cells #[bsl B 0 bs.length bs.length,.int .u32 (at_+8*i:Nat)] 254)) H'.size B bs (at_+8*i):=⟨Qi Qm,Qi Qm,(rs2.tab ht).u8,ht.lt,by omega⟩
 rw[Qo,rs2.ld hc']
 refine QhL t2 (by omega) ?_
 rw[Qa]
 refine QeK t2 (by omega) ?_
 rw[Qa,b2,b3]
 refine Qfc (cs:=Z7 a) (by kernel_rfl) ?_
 exact rs2.push_item (hcur.push _) (it:=Z7 a) rfl rfl (by intro x hx;simp only[Z7,List.mem_cons,List.not_mem_nil,or_false]at hx;rcases hx with rfl|rfl<;>rfl) (by decide) rfl (by decide) (by omega) (Q0 hc') hk'
theorem rm4_ok (own:QM A bs pos vt 24 (d.strings=[]) (Qby (VecTW d.strings StrW))) (hc:cells[10]?=some (.slice none 0 0)) (hk:∀G' H' c,RM G0 H0 q2 q3 G' H' (cells.set 10 c)->G.le G'->SlV G' 1 c (d.strings.map QgD)->rm5 (ptr p) (ptr q3) (ptr q2) H' R):rm4 (ptr p) (ptr q3) (ptr q2) H R:=by
 obtain ⟨at_,hf,hi⟩:=own.vecTW
 have hn:=Qhv.n_le hf (by decide)
 have hlt:=ht.lt
 unfold rm4
 refine Qbh rs (l:=d.strings) (f:=QgD) (et:=9) hc (by omega) (fun H' R hK hR=>Qb8 (ht.ext hK.ext) hv hf hR) ?_ hk
 intro i a H' c cells' k ha rs' hc' hcur hil hk'
 have hia:=Q0 ha
 obtain ⟨s1,s2⟩:=StrW.at (hi i a ha)
 unfold rm4B
 rw[Qo,rs'.ld hc']
 refine Qcx (rs'.tab ht) hv hf hia s1 ?_
 rw[Qa]
 refine (rs'.tab ht).str s2 rfl ?_
 exact rs'.push_item hcur (it:=QgD a) rfl rfl (by intro x hx;simp only[QgD,List.mem_cons,List.not_mem_nil,or_false]at hx;subst hx;rfl) (by decide) rfl (by decide) (by omega) (Q0 hc') hk'
theorem rm10_ok (own:QM A bs pos vt 60 (d.strings2=[]) (Qby (VecTW d.strings2 StrW))) (hc:cells[28]?=some (.slice none 0 0)) (hk:∀G' H' c,RM G0 H0 q2 q3 G' H' (cells.set 28 c)->G.le G'->SlV G' 1 c (d.strings2.map QgD)->rm11 (ptr p) (ptr q3) (ptr q2) H' R):rm10 (ptr p) (ptr q3) (ptr q2) H R:=by
 obtain ⟨at_,hf,hi⟩:=own.vecTW
 have hn:=Qhv.n_le hf (by decide)
 have hlt:=ht.lt
 unfold rm10
 refine Qbh rs (l:=d.strings2) (f:=QgD) (et:=9) hc (by omega) (fun H' R hK hR=>QaT (ht.ext hK.ext) hv hf hR) ?_ hk
 intro i a H' c cells' k ha rs' hc' hcur hil hk'
 have hia:=Q0 ha
 obtain ⟨s1,s2⟩:=StrW.at (hi i a ha)
 unfold rm10B
 rw[Qo,rs'.ld hc']
 refine Qcb (rs'.tab ht) hv hf hia s1 ?_
 rw[Qa]
 refine (rs'.tab ht).str s2 rfl ?_
 exact rs'.push_item hcur (it:=QgD a) rfl rfl (by intro x hx;simp only[QgD,List.mem_cons,List.not_mem_nil,or_false]at hx;subst hx;rfl) (by decide) rfl (by decide) (by omega) (Q0 hc') hk'
theorem rm16_ok (own:QM A bs pos vt 74 (d.refs=[]) (Qby (VecTW d.refs RefPW))) (hc:cells[35]?=some (.slice none 0 0)) (hk:∀G' H' c,RM G0 H0 q2 q3 G' H' (cells.set 35 c)->G.le G'->SlV G' 1 c (d.refs.map Qdw)->rm17 (ptr p) (ptr q3) (ptr q2) H' R):rm16 (ptr p) (ptr q3) (ptr q2) H R:=by
 obtain ⟨at_,hf,hi⟩:=own.vecTW
 have hn:=Qhv.n_le hf (by decide)
 have hlt:=ht.lt
 unfold rm16
 refine Qbh rs (l:=d.refs) (f:=Qdw) (et:=31) hc (by omega) (fun H' R hK hR=>QaM (ht.ext hK.ext) hv hf hR) ?_ hk
 intro i a H' c cells' k ha rs' hc' hcur hil hk'
 have hia:=Q0 ha
 obtain ⟨b1,_,b2,vt',b3,b4⟩:=hi i a ha
 unfold rm16B
 rw[Q2]
 have rs1:=rs'.push (.cells z259 259)
 refine QbR (rs1.tab ht) hv hf hia b1 b2 Qm rfl ?_
 rw[Zh]
 have rs2:=rs'.push (.cells #[bsl B 0 bs.length bs.length,.int .u32 (tgt bs (at_+4*i):Nat)] 259)
 have t2:Tab (H'.push (.cells #[bsl B 0 bs.length bs.length,.int .u32 (tgt bs (at_+4*i):Nat)] 259)) H'.size B bs (tgt bs (at_+4*i)):=⟨Qi Qm,Qi Qm,(rs2.tab ht).u8,ht.lt,b2⟩
 rw[Qo,rs2.ld hc']
 refine Qdd t2 b3 b4 ?_
 rw[Qa]
 exact rs2.push_item (hcur.push _) (it:=Qdw a) rfl rfl (by intro x hx;simp only[Qdw,List.mem_cons,List.not_mem_nil,or_false]at hx;subst hx;rfl) (by decide) rfl (by decide) (by omega) (Q0 hc') hk'
theorem rm18_ok (own:QM A bs pos vt 80 (d.strong=[]) (Qby (VecTW d.strong RefPW))) (hc:cells[38]?=some (.slice none 0 0)) (hk:∀G' H' c,RM G0 H0 q2 q3 G' H' (cells.set 38 c)->G.le G'->SlV G' 1 c (d.strong.map Qdw)->rm19 (ptr p) (ptr q3) (ptr q2) H' R):rm18 (ptr p) (ptr q3) (ptr q2) H R:=by
 obtain ⟨at_,hf,hi⟩:=own.vecTW
 have hn:=Qhv.n_le hf (by decide)
 have hlt:=ht.lt
 unfold rm18
 refine Qbh rs (l:=d.strong) (f:=Qdw) (et:=31) hc (by omega) (fun H' R hK hR=>Qa9 (ht.ext hK.ext) hv hf hR) ?_ hk
 intro i a H' c cells' k ha rs' hc' hcur hil hk'
 have hia:=Q0 ha
 obtain ⟨b1,_,b2,vt',b3,b4⟩:=hi i a ha
 unfold rm18B
 rw[Q2]
 have rs1:=rs'.push (.cells z259 259)
 refine QaN (rs1.tab ht) hv hf hia b1 b2 Qm rfl ?_
 rw[Zh]
 have rs2:=rs'.push (.cells #[bsl B 0 bs.length bs.length,.int .u32 (tgt bs (at_+4*i):Nat)] 259)
 have t2:Tab (H'.push (.cells #[bsl B 0 bs.length bs.length,.int .u32 (tgt bs (at_+4*i):Nat)] 259)) H'.size B bs (tgt bs (at_+4*i)):=⟨Qi Qm,Qi Qm,(rs2.tab ht).u8,ht.lt,b2⟩
 rw[Qo,rs2.ld hc']
 refine Qdd t2 b3 b4 ?_
 rw[Qa]
 exact rs2.push_item (hcur.push _) (it:=Qdw a) rfl rfl (by intro x hx;simp only[Qdw,List.mem_cons,List.not_mem_nil,or_false]at hx;subst hx;rfl) (by decide) rfl (by decide) (by omega) (Q0 hc') hk'
theorem rm23_ok (own:QM A bs pos vt 98 ((d.enums.map fun b=>[b])=[]) (Qby (Qed 1 (d.enums.map fun b=>[b])))) (hc:cells[49]?=some (YM [])) (hk:∀H',RM G0 H0 q2 q3 G H' (cells.set 49 (YM d.enums))->rm24 (ptr q3) (ptr q2) H' R):rm23 (ptr p) (ptr q3) (ptr q2) H R:=by
 obtain ⟨at_,hf,hi⟩:=own.vecW (Yb (fun b:UInt8=>(rfl:[b].length=1)) (l:=d.enums))
 rw[List.length_map]at hf
 have hn:=Qhv.n_le hf (by decide)
 have hlt:=ht.lt
 unfold rm23
 refine QhD rs (xs:=d.enums) hc (by omega) (fun H' R hK hR=>QbN (ht.ext hK.ext) hv hf hR) ?_ hk
 intro i b H' cells' k hb rs' hc' hl hk'
 have hil:=Q0 hb
 have hbv:byteN bs (at_+1*i)=b.toNat:=by
  have:=(hi i [b] (by rw[List.getElem?_map,hb];rfl)).byte (i:=0) Nat.zero_lt_one
  rw[Nat.add_zero]at this
  rw[this];rfl
 unfold rm23B
 rw[Qo,rs'.ld hc']
 refine Qdn (rs'.tab ht) hv hf hil ?_
 rw[Qa,hbv]
 exact rs'.push_byte rfl hl (Q0 hc') hk'
end
end Go.Proofs
namespace Go.Proofs
open Go Go.Vc
open Tryz (prog)
def colR (amb:Bool) (ty color:UInt8):UInt8:=if amb=false/\ty=2 then color else 0
def rdD (d:ZT):ZT:={d with f:=flU d.f 1078530000,f2:=flU d.f2 1077936128,f3:=flU d.f3 0,testColor:=colR false d.testTy d.testColor,uniqColor:=colR false d.uniqTy d.uniqColor,ambColor:=colR true d.ambTy d.ambColor}
def rdU (amb:Bool) (ty:UInt8) (ks:List GM):List GM:=if ty=0\/(amb=false/\ty=2) then [] else ks
mutual
def rdM:Mon->GM
 |.mk d tables enemy test uniq amb=>.mk (rdD d) d.pos.toList d.empty.toList (rdMs tables) (rd1 enemy) (rdU false d.testTy (rd1 test)) (rdU false d.uniqTy (rd1 uniq)) (rdU true d.ambTy (rd1 amb))
def rdMs:List Mon->List GM
 |[]=>[]
 |m::ms=>rdM m::rdMs ms
def rd1:List Mon->List GM
 |[]=>[]
 |m::_=>[rdM m]
end
theorem rdMs_map:∀ms,rdMs ms=ms.map rdM
 |[]=>by rw[rdMs];rfl
 |m::ms=>by rw[rdMs,rdMs_map ms];rfl
def rwD (d:ZT):ZT:={d with testColor:=colR false d.testTy d.testColor,uniqColor:=colR false d.uniqTy d.uniqColor,ambColor:=colR true d.ambTy d.ambColor}
mutual
def rwM:Mon->GM
 |.mk d tables enemy test uniq amb=>.mk (rwD d) d.pos.toList d.empty.toList (rwMs tables) (rw1 enemy) (rdU false d.testTy (rw1 test)) (rdU false d.uniqTy (rw1 uniq)) (rdU true d.ambTy (rw1 amb))
def rwMs:List Mon->List GM
 |[]=>[]
 |m::ms=>rwM m::rwMs ms
def rw1:List Mon->List GM
 |[]=>[]
 |m::_=>[rwM m]
end
theorem rwMs_map:∀ms,rwMs ms=ms.map rwM
 |[]=>by rw[rwMs];rfl
 |m::ms=>by rw[rwMs,rwMs_map ms];rfl
mutual
theorem rw_fl:∀m:Mon,rwM (flM m)=rdM m
 |.mk d tables enemy test uniq amb=>by
  rw[flM,rwM,rdM,rws_fl tables,QiL enemy,QiL test,QiL uniq,QiL amb]
  rfl
theorem rws_fl:∀ms:List Mon,rwMs (QgX ms)=rdMs ms
 |[]=>by rw[QgX,rwMs,rdMs]
 |m::ms=>by rw[QgX,rwMs,rdMs,rw_fl m,rws_fl ms]
theorem QiL:∀ms:List Mon,rw1 (QgX ms)=rd1 ms
 |[]=>by rw[QgX,rw1,rd1]
 |m::ms=>by rw[QgX,rw1,rd1,rw_fl m]
end
def QdL (m:Mon):Prop:=∀(A p B pos:Nat) (bs:List UInt8) (G:Cut) (H:Qf) (R:Kn),Tab H p B bs pos->G.In H->RwM m A bs pos->
 (∀v H' G',Ext G H G' H'->ZV G' (rwM m) v->R (.agg v.toArray) H')->FnS prog 46 #[ptr p] H R
theorem ZV.one {F:Cut} {g:GM} {x:List Value} (h:ZV F g x):∀v∈x,v.oneCell'=true:=by
 cases g with
 |mk d pos empty tables enemy test uniq amb=>
  rw[ZV]at h
  obtain ⟨c,rfl,g,⟨_,a1,_⟩,⟨_,a2,_⟩,⟨_,a3,_⟩,⟨_,a4,_⟩,⟨_,a5,_⟩⟩:=h
  intro v hv
  simp only[QC,List.mem_cons,List.not_mem_nil,or_false]at hv
  rcases hv with rfl|rfl|rfl|rfl|rfl|rfl|rfl|rfl|rfl|rfl|rfl|rfl|rfl|rfl|rfl|rfl|rfl|rfl|rfl|rfl|rfl|rfl|rfl|rfl|rfl|rfl|rfl|rfl|rfl|rfl|rfl|rfl|rfl|rfl|rfl|rfl|rfl|rfl|rfl|rfl|rfl|rfl|rfl|rfl|rfl|rfl|rfl|rfl|rfl|rfl|rfl
  all_goals first
   |rfl
   |exact g.pos.one|exact g.test4.one|exact g.strings.one|exact g.empty.one|exact g.bools.one|exact g.strings2.one|exact g.abil.one|exact g.test5.one|exact g.longs.one|exact g.doubles.one|exact g.refs.one|exact g.weak.one|exact g.strong.one|exact g.coOwnings.one|exact g.nonOwnings.one
   |exact a1.one|exact a2.one|exact a3.one|exact a4.one|exact a5.one
theorem RS.put_item {G0:Cut} {H0:Qf} {t:TypeId} {ob:Obj} {q2 q3:Nat} {G:Cut} {H:Qf} {cells:List Value} (rs:RS G0 H0 t ob q2 q3 G H cells) {fld es:Nat} {et:TypeId} {zs:Array Value} {v:Value} {it:List Value} (hv:v.cells.toList=it) (hl:it.length=es) (hz:zs.size=es) (hf:fld<cells.length) {k:Qf->Prop}
  (hk:∀G' H' c,RS G0 H0 t ob q2 q3 G' H' (cells.set fld c)->G.le G'->SlV G' es c [it]->k H'):
  QY H et 1 (ZP zs.toList 1) [(0,es,v)] fun y h2=>Qh (.pointer (some ⟨q3,0,none⟩)) fld fun a=>StK h2 1 a y k:=by
 have hvs:v.cells.size=es:=by rw[<-hl,<-hv];simp
 have hfill:ZG (ZP zs.toList 1) [(0,es,v)]=some it:=by
  show (if v.cells.size=es/\0+v.cells.size<=(ZP zs.toList 1).length then _ else _)=_
  have hrl:(ZP zs.toList 1).length=es:=by simp[ZP,hz]
  rw[if_pos ⟨hvs,by rw[hrl];omega⟩]
  show some _=_
  rw[hv,hvs,Nat.zero_add,List.drop_eq_nil_of_le (by omega)];simp
 unfold QY
 simp only[hfill]
 have hone':∀x∈[it],x.length=es:=fun x hx=>by
  have:x=it:=by simpa using hx
  rw[this];exact hl
 have rs1:RS G0 H0 t ob q2 q3 (G.upd H.size (.cells it.toArray et (0,0))) (H.push (.cells it.toArray et (0,0))) cells:=⟨rs.ext.pushG _,rs.o2.pushG _,rs.o3.pushG _,rs.ne⟩
 refine rs1.store hf rfl ?_
 intro H2 rs2 _
 refine hk _ _ _ rs2 (Cut.le_upd (rs.ext.inn.none (Nat.le_refl _))) ⟨hone',Or.inr ⟨H.size,0,1,it.toArray,et,(0,0),rfl,Cut.upd_same,by simp[hl],by simp[<-hl],Nat.le_refl _⟩⟩
theorem RS.store3 {G0:Cut} {H0:Qf} {t:TypeId} {ob:Obj} {q2 q3:Nat} {G:Cut} {H:Qf} {cells:List Value} (rs:RS G0 H0 t ob q2 q3 G H cells) {i:Nat} {a b c:Value} (hi:i+3<=cells.length) (ha:a.oneCell'=true) (hb:b.oneCell'=true) (hc:c.oneCell'=true) {kp:Qf->Prop}
  (hk:∀H',RS G0 H0 t ob q2 q3 G H' (((cells.set i a).set (i+1) b).set (i+2) c)->H'=setB H q3 (.cells (((cells.set i a).set (i+1) b).set (i+2) c).toArray t (0,0))->kp H'):
  Qh (.pointer (some ⟨q3,0,none⟩)) i fun x=>StK H 3 x (.agg #[a,b,c]) kp:=by
 rw[Qo]
 unfold StK
 refine ⟨rfl,_,Qei (b:=q3) (e:=t) (fr:=(0,0)) [a,b,c] (H:=H) (l:=cells) (o:=i) (i:=0) rs.o3.get (by intro v hv;simp at hv;rcases hv with rfl|rfl|rfl<;>assumption) (by simp;omega) (by simp),?_⟩
 have e:Qab cells (i+0) [a,b,c]=((cells.set i a).set (i+1) b).set (i+2) c:=rfl
 show kp (setB H q3 (.cells (Qab cells (i+0) [a,b,c]).toArray t (0,0)))
 rw[e]
 exact hk _ ⟨rs.ext.set rs.o3.out rs.o3.new _,rs.o2.set_ne rs.ne _,rs.o3.set _,rs.ne⟩ rfl
theorem fill_vec3 (v:Qaj):ZG z83.toList [(0,1,Z4 v.x),(1,1,Z4 v.y),(2,1,Z4 v.z),(3,1,Zc v.t1),(4,1,u8n v.t2),(5,1,Qce v.a),(6,1,i8V v.b)]=some (Zk v):=by kernel_rfl
theorem fill_stat (v:Qaa):ZG z95.toList [(0,1,YM v.id),(1,1,QdW v.val),(2,1,u16V v.count)]=some (YT v):=by kernel_rfl
section
variable {A p B pos vt:Nat} {bs:List UInt8} {d:ZT} {G0:Cut} {H0:Qf} (ht:Tab H0 p B bs pos) (hv:VT bs pos vt) {q2 q3:Nat} {G:Cut} {H:Qf} {cells:List Value} (rs:RM G0 H0 q2 q3 G H cells) {R:Kn}
include ht hv rs
theorem rm1_ok (own:QM A bs pos vt 4 (d.pos=none) (posW d.pos)) (hc:cells[0]?=some (.slice none 0 0)) (hk:∀G' H' c,RM G0 H0 q2 q3 G' H' (cells.set 0 c)->G.le G'->SlV G' 7 c (d.pos.toList.map Zk)->rm2 (ptr p) (ptr q3) (ptr q2) H' R):rm1 (ptr p) (ptr q3) (ptr q2) H R:=by
 unfold rm1
 refine QB (fun _ h=>∃G' c,RM G0 H0 q2 q3 G' h (cells.set 0 c)/\G.le G'/\SlV G' 7 c (d.pos.toList.map Zk)) ?_ (fun _ h hh=>by obtain ⟨G',c,h1,h2,h3⟩:=hh;exact hk G' h c h1 h2 h3)
 refine Qhh (rs.tab ht) hv (fun h0=>?_) (fun h1=>?_)
 ·rw[Yt (by kernel_rfl)]
  show IfK (.bool false) _ _
  rw[Ql,own.zero h0]
  exact ⟨G,_,by rw[Qb7 hc];exact rs,Cut.le_refl _,SlV.nil _ _⟩
 ·obtain ⟨hn,hq⟩:=own.got h1
  cases hp:d.pos with
  |none=>exact absurd hp hn
  |some v=>
   rw[hp]at hq
   have hq:Yx bs (pos+slotAt bs vt 4) (Qgf v):=hq
   obtain ⟨e0,e1,e2,e3,e4,e5,e6,e7⟩:=vec3_at (v:=v) hq
   refine ⟨by omega,?_⟩
   rw[Yt (by kernel_rfl)]
   show IfK (.bool true) _ _
   rw[Zs]
   have rs1:=rs.push (.cells #[bsl B 0 bs.length bs.length,.int .u32 (pos+slotAt bs vt 4:Nat)] 317)
   have t1:Tab (H.push (.cells #[bsl B 0 bs.length bs.length,.int .u32 (pos+slotAt bs vt 4:Nat)] 317)) H.size B bs (pos+slotAt bs vt 4):=⟨Qi Qm,Qi Qm,(rs1.tab ht).u8,ht.lt,by omega⟩
   generalize H.push (.cells #[bsl B 0 bs.length bs.length,.int .u32 (pos+slotAt bs vt 4:Nat)] 317)=H1 at *
   refine Qhz t1 (by omega) ?_
   have rs2:=rs1.push (.cells #[bsl B 0 bs.length bs.length,.int .u32 (pos+slotAt bs vt 4+26:Nat)] 246)
   have t2:=Tab.push t1 (.cells #[bsl B 0 bs.length bs.length,.int .u32 (pos+slotAt bs vt 4+26:Nat)] 246)
   have t3:Tab (H1.push (.cells #[bsl B 0 bs.length bs.length,.int .u32 (pos+slotAt bs vt 4+26:Nat)] 246)) H1.size B bs (pos+slotAt bs vt 4+26):=⟨Qi Qm,Qi Qm,t2.u8,ht.lt,by omega⟩
   generalize H1.push (.cells #[bsl B 0 bs.length bs.length,.int .u32 (pos+slotAt bs vt 4+26:Nat)] 246)=H2 at *
   refine Example_Vec3_X t2 (by omega) ?_
   refine QS (fun w=>Qs) ?_
   refine Example_Vec3_Y t2 (by omega) ?_
   refine QS (fun w=>Qs) ?_
   refine Example_Vec3_Z t2 (by omega) ?_
   refine QS (fun w=>Qs) ?_
   refine Qi1 t2 (by omega) ?_
   refine QS (fun w=>QdO) ?_
   refine Qhw t2 (by omega) ?_
   refine Qew t3 (by omega) ?_
   refine Qeu t3 (by omega) ?_
   rw[e1,e2,e3,e4,e5,show pos+slotAt bs vt 4+26+0=pos+slotAt bs vt 4+26 from rfl,e6,show pos+slotAt bs vt 4+26+2=pos+slotAt bs vt 4+28 from rfl,e7]
   have hb:=fill_vec3 v
   unfold QH
   simp only[hb]
   refine rs2.put_item (v:=.agg (Zk v).toArray) (it:=Zk v) rfl rfl rfl (Q0 hc) ?_
   intro G' H' c rs3 hle sl
   exact ⟨G',c,rs3,hle,sl⟩
theorem rm8_ok (own:QM A bs pos vt 32 (d.empty=none) (Qby (fun A bs p=>∀s,d.empty=some s->StatW s A bs p))) (hc:cells[14]?=some (.slice none 0 0)) (hk:∀G' H' c,RM G0 H0 q2 q3 G' H' (cells.set 14 c)->G.le G'->SlV G' 3 c (d.empty.toList.map YT)->rm9 (ptr p) (ptr q3) (ptr q2) H' R):rm8 (ptr p) (ptr q3) (ptr q2) H R:=by
 unfold rm8
 refine QB (fun _ h=>∃G' c,RM G0 H0 q2 q3 G' h (cells.set 14 c)/\G.le G'/\SlV G' 3 c (d.empty.toList.map YT)) ?_ (fun _ h hh=>by obtain ⟨G',c,h1,h2,h3⟩:=hh;exact hk G' h c h1 h2 h3)
 refine Qet (rs.tab ht) hv (fun h0=>?_) (fun h1=>?_)
 ·rw[Yt (by kernel_rfl)]
  show IfK (.bool false) _ _
  rw[Ql,own.zero h0]
  exact ⟨G,_,by rw[Qb7 hc];exact rs,Cut.le_refl _,SlV.nil _ _⟩
 ·obtain ⟨hn,hq⟩:=own.got h1
  cases hp:d.empty with
  |none=>exact absurd hp hn
  |some s=>
   obtain ⟨q1,_,q2',q3'⟩:=hq
   obtain ⟨vt',s1,s2,s3,s4⟩:=q3' s hp
   refine ⟨q1,q2',?_⟩
   rw[Yt (by kernel_rfl)]
   show IfK (.bool true) _ _
   rw[Zs]
   have rs1:=rs.push (.cells #[bsl B 0 bs.length bs.length,.int .u32 (tgt bs (pos+slotAt bs vt 32):Nat)] 320)
   have t1:Tab (H.push (.cells #[bsl B 0 bs.length bs.length,.int .u32 (tgt bs (pos+slotAt bs vt 32):Nat)] 320)) H.size B bs (tgt bs (pos+slotAt bs vt 32)):=⟨Qi Qm,Qi Qm,(rs1.tab ht).u8,ht.lt,q2'⟩
   generalize H.push (.cells #[bsl B 0 bs.length bs.length,.int .u32 (tgt bs (pos+slotAt bs vt 32):Nat)] 320)=H1 at *
   obtain ⟨w1,w2⟩:=s2.there
   obtain ⟨w3,w4⟩:=StrW.at w2
   refine Example_Stat_Id t1 s1 (fun h=>absurd h w1) (fun _=>⟨_,w3,?_⟩)
   refine t1.str w4 rfl ?_
   refine Qj7 t1 s1 s3 ?_
   rw[Qa]
   refine QhY t1 s1 s4 ?_
   rw[Qa]
   refine Qfc (fill_stat s) ?_
   refine rs1.put_item (v:=.agg (YT s).toArray) (it:=YT s) rfl rfl rfl (Q0 hc) ?_
   intro G' H' c rs3 hle sl
   exact ⟨G',c,rs3,hle,sl⟩
theorem rm6_ok {enemy:List Mon} (hE:∀k∈enemy,QdL k) (own:QM A bs pos vt 28 (enemy=[]) (Qby (Rw1 enemy))) (hc:cells[12]?=some (.slice none 0 0)) (hk:∀G' H' c,RM G0 H0 q2 q3 G' H' (cells.set 12 c)->G.le G'->QaJ G' (rw1 enemy) c->rm7 (ptr p) (ptr q3) (ptr q2) H' R):rm6 (ptr p) (ptr q3) (ptr q2) H R:=by
 unfold rm6
 refine QB (fun _ h=>∃G' c,RM G0 H0 q2 q3 G' h (cells.set 12 c)/\G.le G'/\QaJ G' (rw1 enemy) c) ?_ (fun _ h hh=>by obtain ⟨G',c,h1,h2,h3⟩:=hh;exact hk G' h c h1 h2 h3)
 refine Qgt (rs.tab ht) hv (fun h0=>?_) (fun h1=>?_)
 ·rw[Yt (by kernel_rfl)]
  show IfK (.bool false) _ _
  have he:=own.zero h0
  subst he
  rw[Ql,rw1]
  exact ⟨G,_,by rw[Qb7 hc];exact rs,Cut.le_refl _,[],SlV.nil _ _,by rw[Zf];trivial⟩
 ·obtain ⟨hn,q1,_,q2',q3'⟩:=own.got h1
  refine ⟨q1,q2',?_⟩
  rw[Yt (by kernel_rfl)]
  show IfK (.bool true) _ _
  rw[Zs]
  have rs1:=rs.push (.cells #[bsl B 0 bs.length bs.length,.int .u32 (tgt bs (pos+slotAt bs vt 28):Nat)] 221)
  have t1:Tab (H.push (.cells #[bsl B 0 bs.length bs.length,.int .u32 (tgt bs (pos+slotAt bs vt 28):Nat)] 221)) H.size B bs (tgt bs (pos+slotAt bs vt 28)):=⟨Qi Qm,Qi Qm,(rs1.tab ht).u8,ht.lt,q2'⟩
  generalize H.push (.cells #[bsl B 0 bs.length bs.length,.int .u32 (tgt bs (pos+slotAt bs vt 28):Nat)] 221)=H1 at *
  cases enemy with
  |nil=>exact absurd rfl hn
  |cons m ms=>
   rw[Rw1]at q3'
   refine hE m List.mem_cons_self A _ B _ bs G H1 _ t1 rs1.ext.inn q3' ?_
   intro v H2 G2 e2 hv2
   refine (rs1.next e2).put_item (v:=.agg v.toArray) (it:=v) rfl hv2.len rfl (Q0 hc) ?_
   intro G' H' c rs3 hle sl
   exact ⟨G',c,rs3,Cut.le_trans e2.le hle,[v],sl,by rw[rw1,Zf];exact ⟨hv2.mono hle,by rw[Zf];trivial⟩⟩
theorem rm5_ok {tables:List Mon} (hT:∀k∈tables,QdL k) (own:QM A bs pos vt 26 (tables=[]) (Qby (fun A bs t=>VecPW 4 tables.length A bs t/\RwL tables A bs (t+4)))) (hc:cells[11]?=some (.slice none 0 0)) (hk:∀G' H' c,RM G0 H0 q2 q3 G' H' (cells.set 11 c)->G.le G'->QaJ G' (rwMs tables) c->rm6 (ptr p) (ptr q3) (ptr q2) H' R):rm5 (ptr p) (ptr q3) (ptr q2) H R:=by
 obtain ⟨at_,hf,hi⟩:∃at_,Qhv 4 bs pos vt 26 tables.length at_/\∀(i:Nat) a,tables[i]?=some a->Qby (RwM a) A bs (at_+4*i):=by
  rcases own with ⟨h1,h2⟩|⟨h1,_,h3⟩
  ·subst h2
   exact ⟨0,Or.inl ⟨h1,rfl⟩,fun i x h=>by simp at h⟩
  ·obtain ⟨q1,q2,q3,⟨v1,v4⟩,q5⟩:=h3
   exact ⟨tgt bs (pos+slotAt bs vt 26)+4,Or.inr ⟨h1,q1,rfl,v4,v1,by omega⟩,RwL_get tables q5⟩
 have hn:=Qhv.n_le hf (by decide)
 have hlt:=ht.lt
 unfold rm5
 refine app_loop rs (et:=53) (es:=51) (n:=tables.length) (fun G1 i items=>Zf G1 ((rwMs tables).take i) items) (by rw[List.take_zero,Zf];trivial) hc (by omega) (fun H' R hK hR=>QaY (ht.ext hK.ext) hv hf hR) ?_ ?_
 ·intro i G1 H' c cells' items k hlt' hle rs' hc' hcur hI hk'
  have ha:=List.getElem?_eq_getElem hlt'
  obtain ⟨b1,_,b2,b3⟩:=hi i _ ha
  have hil:items.length<tables.length:=by
   have:=Zf.len hI
   rw[<-this,List.length_take,rwMs_map,List.length_map];omega
  unfold rm5B
  rw[Q2]
  have rs1:=rs'.push (.cells z221 221)
  refine Qco (rs1.tab ht) hv hf hlt' b1 b2 Qm rfl ?_
  rw[Zh]
  have rs2:=rs'.push (.cells #[bsl B 0 bs.length bs.length,.int .u32 (tgt bs (at_+4*i):Nat)] 221)
  have t2:Tab (H'.push (.cells #[bsl B 0 bs.length bs.length,.int .u32 (tgt bs (at_+4*i):Nat)] 221)) H'.size B bs (tgt bs (at_+4*i)):=⟨Qi Qm,Qi Qm,(rs2.tab ht).u8,ht.lt,b2⟩
  have hcur2:=hcur.push (.cells #[bsl B 0 bs.length bs.length,.int .u32 (tgt bs (at_+4*i):Nat)] 221)
  generalize H'.push (.cells #[bsl B 0 bs.length bs.length,.int .u32 (tgt bs (at_+4*i):Nat)] 221)=H1 at *
  rw[Qo,rs2.ld hc']
  refine hT _ (List.mem_of_getElem? ha) A _ B _ bs G1 H1 _ t2 rs2.ext.inn b3 ?_
  intro v H2 G2 e2 hv2
  refine Q3 e2.keep.ext ?_
  refine (rs2.next e2).push_item (hcur2.ext e2) (v:=.agg v.toArray) (it:=v) rfl hv2.len (ZV.one hv2) (by decide) rfl (by decide) (by omega) (Q0 hc') ?_
  intro H3 c3 rs3 hcur3
  refine hk' G2 H3 c3 _ e2.le rs3 hcur3 ?_
  have hr:(rwMs tables)[i]?=some (rwM tables[i]):=by rw[rwMs_map,List.getElem?_map,ha];rfl
  rw[QcW hr]
  exact Zf.snoc (Zf.mono e2.le hI) hv2
 ·intro G' G1 H' c items rs' hle sl hI hle1
  refine hk G' H' c rs' hle ⟨items,sl,?_⟩
  have:(rwMs tables).take tables.length=rwMs tables:=by
   apply List.take_of_length_le
   rw[rwMs_map,List.length_map];exact Nat.le_refl _
  rw[this]at hI
  exact Zf.mono hle1 hI
end
end Go.Proofs
