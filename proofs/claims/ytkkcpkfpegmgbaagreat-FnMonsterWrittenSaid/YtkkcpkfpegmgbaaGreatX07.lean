/- WHAT IS PROVED: the given statement of FnMonsterWritten, whatever the input: this is part 7 of 14. No conditions. -/
import Derived.Test.YtkkcpkfpegmgbaaGreatX06
set_option linter.all false
namespace Go.Proofs
open Go Go.Vc
open Tryz (prog)
set_option maxRecDepth 100000
theorem w10 {a h R} (H:tp10 29 a h R):FnS prog 10 #[a] h R:=wq Tryz.func10 (by kernel_rfl) H
theorem w11 {a h R} (H:tp10 34 a h R):FnS prog 11 #[a] h R:=wq Tryz.func11 (by kernel_rfl) H
def s18 (e f:Value) (h:Qe) (R:Kn):Prop:=
 Y5 h (.cells (Value.cells e) 55) fun g i=>
 Y5 i (.cells (Value.cells f) 3) fun j l=>
 Y5 l (.cells z9 9) fun a m=>
 Qa prog 28 #[(.func (.func 62) #[] #[j,g,a])] m fun o b=>
 ZI prog (Op.unary .not o) fun p=>
 ZI prog (Op.unary .not p) fun q=>
 IfK q
 (StK b 1 a (.string ⟨#[]⟩) fun c=>
 LdK c a fun r=>
 R (.tuple #[r,(.bool false)]) c)
 (LdK b a fun s=>
 StK b 1 a s fun d=>
 LdK d a fun t=>
 R (.tuple #[t,(.bool true)]) d)
theorem w18 {a b h R} (H:s18 a b h R):FnS prog 18 #[a,b] h R:=wq Tryz.func18 (by kernel_rfl) H
def s29 (a b:Value) (h:Qe) (R:Kn):Prop:=
 LdK h a fun c=>
 Qa prog 32 #[c] h fun d e=>
 Qa prog 31 #[d,(.int .u32 0)] e fun f g=>
 Qa prog 33 #[f] g fun i j=>
 Qa prog 30 #[i] j fun l m=>
 StK m 51 b l fun o=>
 R (.tuple #[]) o
theorem w29 {a b h R} (H:s29 a b h R):FnS prog 29 #[a,b] h R:=wq Tryz.func29 (by kernel_rfl) H
def moB (y0 y1 y2 y3 y4 y5 y6 y7 y8 y9 y10 y11 y12 y13 y14 y15 y16 y17 y18 y19 y20 y21 y22 y23 y24 y25 y26 y27 y28 y29 y30 y31 y32 y33 y34:Value) (K:Value->Prop):Prop:=
 Qz z55.toList [(1,1,y0),(2,1,y1),(3,1,y2),(4,1,y3),(5,1,y4),(9,1,y5),(10,1,y6),(13,1,y7),(15,1,y8),(16,1,y9),(17,1,y10),(18,1,y11),(19,1,y12),(20,1,y13),(21,1,y14),(22,1,y15),(23,1,y16),(24,1,y17),(25,1,y18),(26,1,y19),(27,1,y20),(28,1,y21),(30,1,y22),(31,1,y23),(32,1,y24),(35,1,y25),(36,1,y26),(37,1,y27),(38,1,y28),(39,1,y29),(40,1,y30),(41,1,y31),(42,1,y32),(50,1,y33),(34,1,y34)] K
def mo1 (b:Value) (a:Qe) (K:Kn):Prop:=
 QD (fun c=>
 Qax b 1 a fun d=>
 Qax b 2 a fun e=>
 Qax b 3 a fun f=>
 Qax b 4 a fun e8=>
 QiN a e8 fun g=>
 Qax b 5 a fun i=>
 Qax b 7 a fun d1=>
 Qax b 8 a fun j=>
 Qax b 11 a fun e9=>
 QiN a e9 fun l=>
 Qax b 13 a fun m=>
 Qax b 14 a fun o=>
 Qax b 15 a fun p=>
 Qax b 16 a fun q=>
 Qax b 17 a fun r=>
 Qax b 18 a fun s=>
 Qax b 19 a fun t=>
 Qax b 20 a fun u=>
 Qax b 21 a fun v=>
 Qax b 22 a fun w=>
 Qax b 23 a fun d2=>
 Qax b 24 a fun d3=>
 Qax b 25 a fun d4=>
 Qax b 26 a fun y=>
 Qax b 28 a fun f0=>
 QiN a f0 fun z=>
 Qax b 29 a fun b8=>
 Qax b 30 a fun a0=>
 Qax b 33 a fun b3=>
 Qax b 34 a fun a1=>
 Qax b 35 a fun a2=>
 Qax b 36 a fun a3=>
 Qax b 37 a fun a4=>
 Qax b 38 a fun a5=>
 Qax b 39 a fun a6=>
 Qax b 40 a fun a7=>
 Qax b 44 a fun a8=>
 Qax b 32 a fun f1=>
 Qk prog .neq 153 f1 (.pointer none) fun a9=>
 (Qa prog 73 #[d1] a fun b4 b0=>
 Qi a b0<|
 QaK prog 74 #[d2] fun b5=>
 QaK prog 74 #[d3] fun b6=>
 QaK prog 74 #[d4] fun b7=>
 (Qa prog 73 #[b8] b0 fun b9 b1=>
 Qi b0 b1<|
 (Qa prog 75 #[b3] b1 fun d5 b2=>
 Qi b1 b2<|
 (Qa prog 75 #[a3] b2 fun f2 c0=>
 Qi b2 c0<|
 moB d e f g i b4 j l m o p q r s t u v w b5 b6 b7 y z b9 a0 d5 a1 a2 f2 a4 a5 a6 a7 a8 a9 fun f3=>
 Y5 c0 (.cells z55 55) fun d6 d7=>
 Qi c0 d7<|
 StK d7 51 d6 f3 fun f4=>
 c [d6] f4)/\
 (Y5 b2 (.cells z55 55) fun d8 c1=>
 Qi b2 c1<|
 Qa prog 75 #[a3] c1 fun f5 d9=>
 Qi c1 d9<|
 moB d e f g i b4 j l m o p q r s t u v w b5 b6 b7 y z b9 a0 d5 a1 a2 f5 a4 a5 a6 a7 a8 a9 fun f6=>
 StK d9 51 d8 f6 fun f7=>
 c [d8] f7))/\
 (Y5 b1 (.cells z55 55) fun e0 c2=>
 Qi b1 c2<|
 Qa prog 75 #[b3] c2 fun f8 c3=>
 Qi c2 c3<|
 Qa prog 75 #[a3] c3 fun f9 e1=>
 Qi c3 e1<|
 moB d e f g i b4 j l m o p q r s t u v w b5 b6 b7 y z b9 a0 f8 a1 a2 f9 a4 a5 a6 a7 a8 a9 fun g0=>
 StK e1 51 e0 g0 fun g1=>
 c [e0] g1))/\
 (Y5 b0 (.cells z55 55) fun e2 c4=>
 Qi b0 c4<|
 Qa prog 73 #[b8] c4 fun g2 c5=>
 Qi c4 c5<|
 Qa prog 75 #[b3] c5 fun g3 c6=>
 Qi c5 c6<|
 Qa prog 75 #[a3] c6 fun g4 e3=>
 Qi c6 e3<|
 moB d e f g i b4 j l m o p q r s t u v w b5 b6 b7 y z g2 a0 g3 a1 a2 g4 a4 a5 a6 a7 a8 a9 fun g5=>
 StK e3 51 e2 g5 fun g6=>
 c [e2] g6))/\
 (Y5 a (.cells z55 55) fun e4 c7=>
 Qi a c7<|
 Qa prog 73 #[d1] c7 fun g7 c8=>
 Qi c7 c8<|
 QaK prog 74 #[d2] fun g8=>
 QaK prog 74 #[d3] fun g9=>
 QaK prog 74 #[d4] fun i0=>
 Qa prog 73 #[b8] c8 fun i1 c9=>
 Qi c8 c9<|
 Qa prog 75 #[b3] c9 fun i2 d0=>
 Qi c9 d0<|
 Qa prog 75 #[a3] d0 fun i3 e5=>
 Qi d0 e5<|
 moB d e f g i g7 j l m o p q r s t u v w g8 g9 i0 y z i1 a0 i2 a1 a2 i3 a4 a5 a6 a7 a8 a9 fun i4=>
 StK e5 51 e4 i4 fun i5=>
 c [e4] i5)) fun c=>∀e6:Value,∀e7:Qe,c [e6] e7->
 K e6 e7
def mo2 (u:Value) (v:Value) (c:Qe) (K:Qe->Prop):Prop:=
 QD (fun f=>
 Qax u 0 c fun b=>
 Qk prog .neq 144 b (.pointer none) fun w=>
 IfK w
 (QD (fun g=>
 Qax b 0 c fun y=>
 QaK prog 74 #[y] fun z=>
 Qax b 1 c fun a0=>
 QaK prog 74 #[a0] fun a1=>
 Qax b 2 c fun a2=>
 QaK prog 74 #[a2] fun a3=>
 Qax b 3 c fun a4=>
 QaK prog 76 #[a4] fun a5=>
 Qax b 4 c fun a6=>
 Qz z114.toList [(0,1,z),(1,1,a1),(2,1,a3),(3,1,a5),(4,1,a6)] fun a7=>
 Y5 c (.cells z114 114) fun o p=>
 Qi c p<|
 StK p 7 o a7 fun a8=>
 g [o] a8) fun g=>∀d:Value,∀a:Qe,g [d] a->
 QD (fun e=>
 Qax b 5 a fun a9=>
 Qk prog .neq 165 a9 (.pointer none) fun b0=>
 IfK b0
 (Qax b 5 a fun b1=>
 Qax b1 0 a fun i=>
 Q3 b fun b2=>
 Qg b2 5 fun q=>
 Qg d 5 fun j=>
 (LdK a q fun b3=>
 Qi a a<|
 Q3 b3 fun b4=>
 Qg b4 1 fun r=>
 (LdK a r fun b5=>
 Qi a a<|
 StK a 1 j i fun b6=>
 Qg d 6 fun b7=>
 StK b6 1 b7 b5 fun b8=>
 e [] b8)/\
 (StK a 1 j i fun s=>
 LdK s r fun b9=>
 Qg d 6 fun c0=>
 StK s 1 c0 b9 fun c1=>
 e [] c1))/\
 (StK a 1 j i fun l=>
 LdK l q fun c2=>
 Qax c2 1 l fun c3=>
 Qg d 6 fun c4=>
 StK l 1 c4 c3 fun c5=>
 e [] c5))
 (e [] a)) fun e=>∀m:Qe,e [] m->
 LdN m 7 d fun c6=>
 Q8 m 114 1 (YV z114.toList 1) [(0,7,c6)] fun c7 c8=>
 Qg v 0 fun c9=>
 StK c8 1 c9 c7 fun d0=>
 f [b] d0)
 (f [b] c)) fun f=>∀d1:Value,∀t:Qe,f [d1] t->
 K t
def mo3 (e:Value) (c:Value) (f:Qe) (K:Qe->Prop):Prop:=
 rngF prog 3 e 9 f (fun g a k=>
 Qg c 11 fun i=>
 LdK a i fun j=>
 Qa prog 30 #[g] a fun l b=>
 Qi a b<|
 Q8 b 55 1 (YV z55.toList 1) [(0,51,l)] fun m d=>
 Qi b d<|
 Qbs d 55 51 736 z55 j m fun o p=>
 Qg c 11 fun q=>
 StK p 1 q o fun r=>
 k r) K
def mo4 (c:Value) (e:Value) (a:Qe) (K:Qe->Prop):Prop:=
 QD (fun b=>
 Qax c 10 a fun f=>
 Qk prog .neq 89 f (.pointer none) fun g=>
 IfK g
 (Qax c 10 a fun i=>
 Qa prog 30 #[i] a fun j l=>
 Q8 l 55 1 (YV z55.toList 1) [(0,51,j)] fun m o=>
 Qg e 12 fun p=>
 StK o 1 p m fun q=>
 b [] q)
 (b [] a)) fun b=>∀d:Qe,b [] d->
 K d
def mo5 (e:Value) (f:Value) (a:Qe) (K:Qe->Prop):Prop:=
 QD (fun c=>
 Qax e 12 a fun b=>
 Qk prog .neq 149 b (.pointer none) fun g=>
 IfK g
 (Qax b 0 a fun i=>
 Qax b 1 a fun j=>
 Qax b 2 a fun l=>
 Qz z120.toList [(0,1,i),(1,1,j),(2,1,l)] fun m=>
 Q8 a 120 1 (YV z120.toList 1) [(0,3,m)] fun o p=>
 Qg f 14 fun q=>
 StK p 1 q o fun r=>
 c [b] r)
 (c [b] a)) fun c=>∀s:Value,∀d:Qe,c [s] d->
 K d
def mo6 (e:Value) (b:Value) (f:Qe) (K:Qe->Prop):Prop:=
 rngF prog 3 e 27 f (fun c a k=>
 Qg b 29 fun g=>
 LdK a g fun i=>
 Qax c 0 a fun j=>
 Qax c 1 a fun l=>
 Qz z123.toList [(0,1,j),(1,1,l)] fun m=>
 Q8 a 123 1 (YV z123.toList 1) [(0,2,m)] fun o d=>
 Qi a d<|
 Qbs d 123 2 8 z123 i o fun p q=>
 Qg b 29 fun r=>
 StK q 1 r p fun s=>
 k s) K
def mo7 (d:Value) (b:Value) (e:Qe) (K:Qe->Prop):Prop:=
 rngF prog 3 d 31 e (fun f a k=>
 Qg b 33 fun g=>
 LdK a g fun i=>
 QaK prog 76 #[f] fun j=>
 Q8 a 31 1 (YV z31.toList 1) [(0,1,j)] fun l c=>
 Qi a c<|
 Qbs c 31 1 8 z31 i l fun m o=>
 Qg b 33 fun p=>
 StK o 1 p m fun q=>
 k q) K
def mo8 (c:Value) (e:Value) (a:Qe) (K:Qe->Prop):Prop:=
 QD (fun b=>
 Qax c 6 a fun f=>
 Qk prog .neq 146 f (.pointer none) fun g=>
 IfK g
 (Qax c 6 a fun i=>
 Qax i 0 a fun j=>
 Qax c 6 a fun l=>
 Qax l 1 a fun m=>
 Qa prog 77 #[j,m] a fun o p=>
 Qg e 6 fun q=>
 StK p 3 q o fun r=>
 b [] r)
 (b [] a)) fun b=>∀d:Qe,b [] d->
 K d
def mo9 (c:Value) (e:Value) (a:Qe) (K:Qe->Prop):Prop:=
 QD (fun b=>
 Qax c 41 a fun f=>
 Qk prog .neq 155 f (.pointer none) fun g=>
 IfK g
 (Qax c 41 a fun i=>
 Qax i 0 a fun j=>
 Qax c 41 a fun l=>
 Qax l 1 a fun m=>
 Qa prog 77 #[j,m] a fun o p=>
 Qg e 43 fun q=>
 StK p 3 q o fun r=>
 b [] r)
 (b [] a)) fun b=>∀d:Qe,b [] d->
 K d
def mo10 (c:Value) (e:Value) (a:Qe) (K:Qe->Prop):Prop:=
 QD (fun b=>
 Qax c 42 a fun f=>
 Qk prog .neq 156 f (.pointer none) fun g=>
 IfK g
 (Qax c 42 a fun i=>
 Qax i 0 a fun j=>
 Qax c 42 a fun l=>
 Qax l 1 a fun m=>
 Qa prog 77 #[j,m] a fun o p=>
 Qg e 46 fun q=>
 StK p 3 q o fun r=>
 b [] r)
 (b [] a)) fun b=>∀d:Qe,b [] d->
 K d
def mo11 (d:Value) (a:Value) (e:Qe) (K:Qe->Prop):Prop:=
 rngF prog 3 d 43 e (fun f b k=>
 Qg a 49 fun g=>
 LdK b g fun i=>
 Q8 b 5 1 (YV z5.toList 1) [(0,1,f)] fun j c=>
 QiN c j fun l=>
 Qk prog .add 9 i l fun m=>
 Qg a 49 fun o=>
 StK c 1 o m fun p=>
 k p) K
def s30 (a:Value) (h:Qe) (R:Kn):Prop:=
 Y5 h (.cells z55 55) fun c f=>
 mo1 a f fun b g=>
 mo2 a b g fun i=>
 mo3 a b i fun j=>
 mo4 a b j fun l=>
 mo5 a b l fun m=>
 mo6 a b m fun o=>
 mo7 a b o fun p=>
 mo8 a b p fun q=>
 mo9 a b q fun r=>
 mo10 a b r fun s=>
 mo11 a b s fun d=>
 LdN d 51 b fun t=>
 StK d 51 c t fun e=>
 LdN e 51 c fun u=>
 R u e
theorem w30 {a h R} (H:s30 a h R):FnS prog 30 #[a] h R:=wq Tryz.func30 (by kernel_rfl) H
def s32 (a:Value) (h:Qe) (R:Kn):Prop:=
 QeL a fun b=>
 Qe3 h 5 1 z5 b b fun c d=>
 Qh5 d 1 c a fun _x9 e=>
 R c e
theorem w32 {a h R} (H:s32 a h R):FnS prog 32 #[a] h R:=wq Tryz.func32 (by kernel_rfl) H
def s34 (a b:Value) (h:Qe) (R:Kn):Prop:=
 LdK h a fun c=>
 Qa prog 32 #[c] h fun d e=>
 Qa prog 31 #[d,(.int .u32 0)] e fun f g=>
 Qa prog 35 #[f] g fun i j=>
 StK j 51 b i fun l=>
 R (.tuple #[]) l
theorem w34 {a b h R} (H:s34 a b h R):FnS prog 34 #[a,b] h R:=wq Tryz.func34 (by kernel_rfl) H
def rm24 (d:Value) (a:Value) (b:Qe) (R:Kn):Prop:=
 LdN b 51 d fun e=>
 StK b 51 a e fun c=>
 LdN c 51 a fun f=>
 R f c
def rm23B (d:Value) (e:Value) (f:Value) (a:Qe) (k:Qe->Prop):Prop:=
 Qg d 49 fun g=>
 LdK a g fun i=>
 Qa prog 161 #[e,f] a fun j b=>
 Qi a b<|
 Q8 b 5 1 (YV z5.toList 1) [(0,1,j)] fun l c=>
 Qi b c<|
 QiN c l fun m=>
 Qk prog .add 9 i m fun o=>
 Qg d 49 fun p=>
 StK c 1 p o fun q=>
 k q
def rm23 (a:Value) (b:Value) (c:Value) (d:Qe) (R:Kn):Prop:=
 Qaa prog 3 160 a (rm23B b a) d fun e=>rm24 b c e R
def rm22 (c:Value) (d:Value) (g:Value) (p:Value) (q:Qe) (R:Kn):Prop:=
 QD (fun a=>
 Qa prog 158 #[c] q fun b r=>
 Qa prog 159 #[c,d] r fun e i=>
 Qc e true (fun s=>s b i) i fun t j=>
 Qc e true (fun u=>Qk prog .neq 5 t (.int .u8 0) fun v=>u v j) j fun w l=>
 Yd e w (.bool false) fun y=>
 IfK y
 (Y5 l (.cells z187 187) fun m f=>
 Qg d 0 fun z=>
 LdK f z fun a0=>
 Qg d 1 fun a1=>
 LdK f a1 fun a2=>
 Qa prog 79 #[m,a0,a2] f fun _x417 a3=>
 Qa prog 35 #[m] a3 fun a4 a5=>
 Q8 a5 55 1 (YV z55.toList 1) [(0,51,a4)] fun a6 a7=>
 Qz z50.toList [(0,1,b),(1,1,a6)] fun a8=>
 Qg g 46 fun a9=>
 StK a7 3 a9 a8 fun b0=>
 a [b] b0)
 (a [b] l)) fun a=>∀b1:Value,∀o:Qe,a [b1] o->
 rm23 c g p o R
def rm21 (a:Value) (c:Value) (i:Value) (j:Qe) (R:Kn):Prop:=
 Y5 j (.cells z185 185) fun b l=>
 Qa prog 153 #[a,b] l fun m d=>
 LdN d 2 b fun o=>
 Qa prog 155 #[a] d fun p f=>
 Qi d f<|
 Qa prog 154 #[p,m,o] f fun q r=>
 Qg c 6 fun s=>
 StK r 3 s q fun t=>
 Qa prog 156 #[a,b] t fun u e=>
 LdN e 2 b fun v=>
 Qa prog 157 #[a] e fun w g=>
 Qi e g<|
 Qa prog 154 #[w,u,v] g fun y z=>
 Qg c 43 fun a0=>
 StK z 3 a0 y fun a1=>
 rm22 a b c i a1 R
def rm20B (c:Value) (e:Value) (f:Value) (a:Qe) (k:Qe->Prop):Prop:=
 Qg c 42 fun g=>
 LdK a g fun i=>
 Qa prog 152 #[e,f] a fun j b=>
 Qi a b<|
 Q8 b 31 1 (YV z31.toList 1) [(0,1,j)] fun l d=>
 Qi b d<|
 Qbs d 31 1 8 z31 i l fun m o=>
 Qg c 42 fun p=>
 StK o 1 p m fun q=>
 k q
def rm20 (a:Value) (b:Value) (c:Value) (d:Qe) (R:Kn):Prop:=
 Qaa prog 3 151 a (rm20B b a) d fun e=>rm21 a b c e R
def rm19B (c:Value) (e:Value) (f:Value) (a:Qe) (k:Qe->Prop):Prop:=
 Qg c 40 fun g=>
 LdK a g fun i=>
 Qa prog 150 #[e,f] a fun j b=>
 Qi a b<|
 Q8 b 31 1 (YV z31.toList 1) [(0,1,j)] fun l d=>
 Qi b d<|
 Qbs d 31 1 8 z31 i l fun m o=>
 Qg c 40 fun p=>
 StK o 1 p m fun q=>
 k q
def rm19 (a:Value) (b:Value) (c:Value) (d:Qe) (R:Kn):Prop:=
 Qaa prog 3 149 a (rm19B b a) d fun e=>rm20 a b c e R
def rm18B (f:Value) (c:Value) (g:Value) (i:Qe) (k:Qe->Prop):Prop:=
 Y5 i (.cells z224 224) fun d j=>
 Qa prog 148 #[f,d,g] j fun _x354 a=>
 Qg c 38 fun l=>
 LdK a l fun m=>
 Qa prog 144 #[d] a fun o b=>
 Qi a b<|
 Q8 b 31 1 (YV z31.toList 1) [(0,1,o)] fun p e=>
 Qi b e<|
 Qbs e 31 1 8 z31 m p fun q r=>
 Qg c 38 fun s=>
 StK r 1 s q fun t=>
 k t
def rm18 (a:Value) (b:Value) (c:Value) (d:Qe) (R:Kn):Prop:=
 Qaa prog 3 147 a (rm18B a b) d fun e=>rm19 a b c e R
def rm17B (c:Value) (e:Value) (f:Value) (a:Qe) (k:Qe->Prop):Prop:=
 Qg c 37 fun g=>
 LdK a g fun i=>
 Qa prog 146 #[e,f] a fun j b=>
 Qi a b<|
 Q8 b 31 1 (YV z31.toList 1) [(0,1,j)] fun l d=>
 Qi b d<|
 Qbs d 31 1 8 z31 i l fun m o=>
 Qg c 37 fun p=>
 StK o 1 p m fun q=>
 k q
def rm17 (a:Value) (b:Value) (c:Value) (d:Qe) (R:Kn):Prop:=
 Qaa prog 3 145 a (rm17B b a) d fun e=>rm18 a b c e R
def rm16B (f:Value) (c:Value) (g:Value) (i:Qe) (k:Qe->Prop):Prop:=
 Y5 i (.cells z224 224) fun d j=>
 Qa prog 143 #[f,d,g] j fun _x325 a=>
 Qg c 35 fun l=>
 LdK a l fun m=>
 Qa prog 144 #[d] a fun o b=>
 Qi a b<|
 Q8 b 31 1 (YV z31.toList 1) [(0,1,o)] fun p e=>
 Qi b e<|
 Qbs e 31 1 8 z31 m p fun q r=>
 Qg c 35 fun s=>
 StK r 1 s q fun t=>
 k t
def rm16 (a:Value) (b:Value) (c:Value) (d:Qe) (R:Kn):Prop:=
 Qaa prog 3 142 a (rm16B a b) d fun e=>rm17 a b c e R
def rm15B (c:Value) (e:Value) (f:Value) (a:Qe) (k:Qe->Prop):Prop:=
 Qg c 33 fun g=>
 LdK a g fun i=>
 Qa prog 141 #[e,f] a fun j b=>
 Qi a b<|
 QaK prog 76 #[j] fun l=>
 Q8 b 31 1 (YV z31.toList 1) [(0,1,l)] fun m d=>
 Qi b d<|
 Qbs d 31 1 8 z31 i m fun o p=>
 Qg c 33 fun q=>
 StK p 1 q o fun r=>
 k r
def rm15 (a:Value) (b:Value) (c:Value) (d:Qe) (R:Kn):Prop:=
 Qaa prog 3 140 a (rm15B b a) d fun e=>rm16 a b c e R
def rm14B (c:Value) (e:Value) (f:Value) (a:Qe) (k:Qe->Prop):Prop:=
 Qg c 32 fun g=>
 LdK a g fun i=>
 Qa prog 139 #[e,f] a fun j b=>
 Qi a b<|
 Q8 b 2 1 (YV z2.toList 1) [(0,1,j)] fun l d=>
 Qi b d<|
 Qbs d 2 1 8 z2 i l fun m o=>
 Qg c 32 fun p=>
 StK o 1 p m fun q=>
 k q
def rm14 (a:Value) (b:Value) (c:Value) (d:Qe) (R:Kn):Prop:=
 Qaa prog 3 138 a (rm14B b a) d fun e=>rm15 a b c e R
def rm13B (g:Value) (e:Value) (i:Value) (j:Qe) (k:Qe->Prop):Prop:=
 Y5 j (.cells z211 211) fun a l=>
 Qa prog 137 #[g,a,i] l fun _x279 b=>
 Qg e 31 fun m=>
 LdK b m fun o=>
 Qa prog 109 #[a] b fun p c=>
 Qi b c<|
 Qa prog 110 #[a] c fun q d=>
 Qi c d<|
 Qz z117.toList [(0,1,p),(1,1,q)] fun r=>
 Q8 d 117 1 (YV z117.toList 1) [(0,2,r)] fun s f=>
 Qi d f<|
 Qbs f 117 2 4 z117 o s fun t u=>
 Qg e 31 fun v=>
 StK u 1 v t fun w=>
 k w
def rm13 (a:Value) (b:Value) (c:Value) (d:Qe) (R:Kn):Prop:=
 Qaa prog 3 136 a (rm13B a b) d fun e=>rm14 a b c e R
def rm12B (d:Value) (e:Value) (f:Value) (a:Qe) (k:Qe->Prop):Prop:=
 Qg d 30 fun g=>
 LdK a g fun i=>
 Qa prog 135 #[e,f] a fun j b=>
 Qi a b<|
 Q8 b 5 1 (YV z5.toList 1) [(0,1,j)] fun l c=>
 Qi b c<|
 QiN c l fun m=>
 Qk prog .add 9 i m fun o=>
 Qg d 30 fun p=>
 StK c 1 p o fun q=>
 k q
def rm12 (a:Value) (b:Value) (c:Value) (d:Qe) (R:Kn):Prop:=
 Qaa prog 3 134 a (rm12B b a) d fun e=>rm13 a b c e R
def rm11B (g:Value) (e:Value) (i:Value) (j:Qe) (k:Qe->Prop):Prop:=
 Y5 j (.cells z219 219) fun a l=>
 Qa prog 131 #[g,a,i] l fun _x247 b=>
 Qg e 29 fun m=>
 LdK b m fun o=>
 Qa prog 132 #[a] b fun p c=>
 Qi b c<|
 Qa prog 133 #[a] c fun q d=>
 Qi c d<|
 Qz z123.toList [(0,1,p),(1,1,q)] fun r=>
 Q8 d 123 1 (YV z123.toList 1) [(0,2,r)] fun s f=>
 Qi d f<|
 Qbs f 123 2 8 z123 o s fun t u=>
 Qg e 29 fun v=>
 StK u 1 v t fun w=>
 k w
def rm11 (a:Value) (b:Value) (c:Value) (d:Qe) (R:Kn):Prop:=
 Qaa prog 3 130 a (rm11B a b) d fun e=>rm12 a b c e R
def rm10B (c:Value) (e:Value) (f:Value) (b:Qe) (k:Qe->Prop):Prop:=
 Qg c 28 fun g=>
 LdK b g fun i=>
 Qa prog 129 #[e,f] b fun j a=>
 Qi b a<|
 QiN a j fun l=>
 Q8 a 9 1 (YV z9.toList 1) [(0,1,l)] fun m d=>
 Qi a d<|
 Qbs d 9 1 16 z9 i m fun o p=>
 Qg c 28 fun q=>
 StK p 1 q o fun r=>
 k r
def rm10 (a:Value) (b:Value) (c:Value) (d:Qe) (R:Kn):Prop:=
 Qaa prog 3 128 a (rm10B b a) d fun e=>rm11 a b c e R
def rm9B (c:Value) (e:Value) (f:Value) (a:Qe) (k:Qe->Prop):Prop:=
 Qg c 24 fun g=>
 LdK a g fun i=>
 Qa prog 127 #[e,f] a fun j b=>
 Qi a b<|
 Q8 b 4 1 (YV z4.toList 1) [(0,1,j)] fun l d=>
 Qi b d<|
 Qbs d 4 1 1 z4 i l fun m o=>
 Qg c 24 fun p=>
 StK o 1 p m fun q=>
 k q
def rm9 (a:Value) (b:Value) (c:Value) (d:Qe) (R:Kn):Prop:=
 Qaa prog 3 126 a (rm9B b a) d fun e=>rm10 a b c e R
def rm8 (e:Value) (f:Value) (l:Value) (m:Qe) (R:Kn):Prop:=
 QD (fun b=>
 Qa prog 122 #[e,(.pointer none)] m fun a g=>
 Qk prog .neq 216 a (.pointer none) fun o=>
 IfK o
 (Qa prog 123 #[a] g fun p c=>
 QiN c p fun q=>
 Qa prog 124 #[a] c fun r d=>
 Qi c d<|
 Qa prog 125 #[a] d fun s i=>
 Qi d i<|
 Qz z120.toList [(0,1,q),(1,1,r),(2,1,s)] fun t=>
 Q8 i 120 1 (YV z120.toList 1) [(0,3,t)] fun u v=>
 Qg f 14 fun w=>
 StK v 1 w u fun y=>
 b [a] y)
 (b [a] g)) fun b=>∀z:Value,∀j:Qe,b [z] j->
 rm9 e f l j R
def rm7B (d:Value) (e:Value) (f:Value) (a:Qe) (k:Qe->Prop):Prop:=
 Qg d 13 fun g=>
 LdK a g fun i=>
 Qa prog 121 #[e,f] a fun j b=>
 Qi a b<|
 Q8 b 5 1 (YV z5.toList 1) [(0,1,j)] fun l c=>
 Qi b c<|
 QiN c l fun m=>
 Qk prog .add 9 i m fun o=>
 Qg d 13 fun p=>
 StK c 1 p o fun q=>
 k q
def rm7 (a:Value) (b:Value) (c:Value) (d:Qe) (R:Kn):Prop:=
 Qaa prog 3 120 a (rm7B b a) d fun e=>rm8 a b c e R
def rm6 (c:Value) (d:Value) (g:Value) (i:Qe) (R:Kn):Prop:=
 QD (fun a=>
 Qa prog 119 #[c,(.pointer none)] i fun b e=>
 Qk prog .neq 90 b (.pointer none) fun j=>
 IfK j
 (Qa prog 35 #[b] e fun l m=>
 Q8 m 55 1 (YV z55.toList 1) [(0,51,l)] fun o p=>
 Qg d 12 fun q=>
 StK p 1 q o fun r=>
 a [b] r)
 (a [b] e)) fun a=>∀s:Value,∀f:Qe,a [s] f->
 rm7 c d g f R
def rm5B (f:Value) (c:Value) (g:Value) (i:Qe) (k:Qe->Prop):Prop:=
 Y5 i (.cells z187 187) fun d j=>
 Qa prog 118 #[f,d,g] j fun _x166 a=>
 Qg c 11 fun l=>
 LdK a l fun m=>
 Qa prog 35 #[d] a fun o b=>
 Qi a b<|
 Q8 b 55 1 (YV z55.toList 1) [(0,51,o)] fun p e=>
 Qi b e<|
 Qbs e 55 51 736 z55 m p fun q r=>
 Qg c 11 fun s=>
 StK r 1 s q fun t=>
 k t
def rm5 (a:Value) (b:Value) (c:Value) (d:Qe) (R:Kn):Prop:=
 Qaa prog 3 117 a (rm5B a b) d fun e=>rm6 a b c e R
def rm4B (c:Value) (e:Value) (f:Value) (b:Qe) (k:Qe->Prop):Prop:=
 Qg c 10 fun g=>
 LdK b g fun i=>
 Qa prog 116 #[e,f] b fun j a=>
 Qi b a<|
 QiN a j fun l=>
 Q8 a 9 1 (YV z9.toList 1) [(0,1,l)] fun m d=>
 Qi a d<|
 Qbs d 9 1 16 z9 i m fun o p=>
 Qg c 10 fun q=>
 StK p 1 q o fun r=>
 k r
def rm4 (a:Value) (b:Value) (c:Value) (d:Qe) (R:Kn):Prop:=
 Qaa prog 3 115 a (rm4B b a) d fun e=>rm5 a b c e R
def rm3B (g:Value) (e:Value) (i:Value) (j:Qe) (k:Qe->Prop):Prop:=
 Y5 j (.cells z211 211) fun a l=>
 Qa prog 114 #[g,a,i] l fun _x134 b=>
 Qg e 9 fun m=>
 LdK b m fun o=>
 Qa prog 109 #[a] b fun p c=>
 Qi b c<|
 Qa prog 110 #[a] c fun q d=>
 Qi c d<|
 Qz z117.toList [(0,1,p),(1,1,q)] fun r=>
 Q8 d 117 1 (YV z117.toList 1) [(0,2,r)] fun s f=>
 Qi d f<|
 Qbs f 117 2 4 z117 o s fun t u=>
 Qg e 9 fun v=>
 StK u 1 v t fun w=>
 k w
def rm3 (a:Value) (b:Value) (c:Value) (d:Qe) (R:Kn):Prop:=
 Qaa prog 3 113 a (rm3B a b) d fun e=>rm4 a b c e R
def rm2B (d:Value) (e:Value) (f:Value) (a:Qe) (k:Qe->Prop):Prop:=
 Qg d 4 fun g=>
 LdK a g fun i=>
 Qa prog 112 #[e,f] a fun j b=>
 Qi a b<|
 Q8 b 5 1 (YV z5.toList 1) [(0,1,j)] fun l c=>
 Qi b c<|
 QiN c l fun m=>
 Qk prog .add 9 i m fun o=>
 Qg d 4 fun p=>
 StK c 1 p o fun q=>
 k q
def rm2 (a:Value) (b:Value) (c:Value) (d:Qe) (R:Kn):Prop:=
 Qaa prog 3 111 a (rm2B b a) d fun e=>rm3 a b c e R
def rm1 (c:Value) (d:Value) (i:Value) (j:Qe) (R:Kn):Prop:=
 QD (fun b=>
 Qa prog 102 #[c,(.pointer none)] j fun a e=>
 Qk prog .neq 200 a (.pointer none) fun l=>
 IfK l
 (Qa prog 103 #[a,(.pointer none)] e fun f m=>
 Qa prog 104 #[a] m fun o p=>
 QaK prog 74 #[o] fun q=>
 Qa prog 105 #[a] p fun r s=>
 QaK prog 74 #[r] fun t=>
 Qa prog 106 #[a] s fun u v=>
 QaK prog 74 #[u] fun w=>
 Qa prog 107 #[a] v fun y z=>
 QaK prog 76 #[y] fun a0=>
 Qa prog 108 #[a] z fun a1 a2=>
 Qa prog 109 #[f] a2 fun a3 a4=>
 Qa prog 110 #[f] a4 fun a5 a6=>
 Qz z114.toList [(0,1,q),(1,1,t),(2,1,w),(3,1,a0),(4,1,a1),(5,1,a3),(6,1,a5)] fun a7=>
 Q8 a6 114 1 (YV z114.toList 1) [(0,7,a7)] fun a8 a9=>
 Qg d 0 fun b0=>
 StK a9 1 b0 a8 fun b1=>
 b [a] b1)
 (b [a] e)) fun b=>∀b2:Value,∀g:Qe,b [b2] g->
 rm2 c d i g R
def s35 (a:Value) (h:Qe) (R:Kn):Prop:=
 Y5 h (.cells z55 55) fun a73 a23=>
 QD (fun b=>
 (Qa prog 81 #[a] a23 fun c a24=>
 (Qa prog 82 #[a] a24 fun d a25=>
 (Qa prog 83 #[a] a25 fun a74 v=>
 QiN v a74 fun e=>
 (Qa prog 84 #[a] v fun f w=>
 Qi v w<|
 (Qa prog 85 #[a] w fun g y=>
 Qi w y<|
 (Qa prog 86 #[a] y fun i z=>
 Qi y z<|
 (Qa prog 87 #[a] z fun j a0=>
 Qi z a0<|
 (Qa prog 88 #[a] a0 fun l a1=>
 Qi a0 a1<|
 (Qa prog 89 #[a] a1 fun m a2=>
 Qi a1 a2<|
 (Qa prog 90 #[a] a2 fun o a3=>
 Qi a2 a3<|
 (Qa prog 91 #[a] a3 fun p a4=>
 Qi a3 a4<|
 (Qa prog 92 #[a] a4 fun q a5=>
 Qi a4 a5<|
 (Qa prog 93 #[a] a5 fun r a6=>
 Qi a5 a6<|
 (Qa prog 94 #[a] a6 fun a75 a7=>
 Qi a6 a7<|
 QaK prog 74 #[a75] fun s=>
 (Qa prog 95 #[a] a7 fun a76 a8=>
 Qi a7 a8<|
 QaK prog 74 #[a76] fun t=>
 (Qa prog 96 #[a] a8 fun a77 a9=>
 Qi a8 a9<|
 QaK prog 74 #[a77] fun u=>
 (Qa prog 97 #[a,(.pointer none)] a9 fun a78 b0=>
 Qi a9 b0<|
 Qk prog .neq 197 a78 (.pointer none) fun b1=>
 (Qa prog 98 #[a] b0 fun b5 b2=>
 Qi b0 b2<|
 (Qa prog 99 #[a] b2 fun b6 b3=>
 Qi b2 b3<|
 (Qa prog 100 #[a] b3 fun a26 b4=>
 Qi b3 b4<|
 (Qa prog 101 #[a] b4 fun a79 b7=>
 Qi b4 b7<|
 Qz z55.toList [(1,1,c),(2,1,d),(3,1,e),(5,1,f),(15,1,g),(16,1,i),(17,1,j),(18,1,l),(19,1,m),(20,1,o),(21,1,p),(22,1,q),(23,1,r),(25,1,s),(26,1,t),(27,1,u),(34,1,b1),(36,1,b5),(39,1,b6),(41,1,a26),(50,1,a79)] fun a80=>
 Y5 b7 (.cells z55 55) fun a27 a28=>
 Qi b7 a28<|
 StK a28 51 a27 a80 fun a81=>
 b [a27] a81)/\
 (Y5 b4 (.cells z55 55) fun a29 b8=>
 Qi b4 b8<|
 Qa prog 101 #[a] b8 fun a82 a30=>
 Qi b8 a30<|
 Qz z55.toList [(1,1,c),(2,1,d),(3,1,e),(5,1,f),(15,1,g),(16,1,i),(17,1,j),(18,1,l),(19,1,m),(20,1,o),(21,1,p),(22,1,q),(23,1,r),(25,1,s),(26,1,t),(27,1,u),(34,1,b1),(36,1,b5),(39,1,b6),(41,1,a26),(50,1,a82)] fun a83=>
 StK a30 51 a29 a83 fun a84=>
 b [a29] a84))/\
 (Y5 b3 (.cells z55 55) fun a31 b9=>
 Qi b3 b9<|
 Qa prog 100 #[a] b9 fun a85 c0=>
 Qi b9 c0<|
 Qa prog 101 #[a] c0 fun a86 a32=>
 Qi c0 a32<|
 Qz z55.toList [(1,1,c),(2,1,d),(3,1,e),(5,1,f),(15,1,g),(16,1,i),(17,1,j),(18,1,l),(19,1,m),(20,1,o),(21,1,p),(22,1,q),(23,1,r),(25,1,s),(26,1,t),(27,1,u),(34,1,b1),(36,1,b5),(39,1,b6),(41,1,a85),(50,1,a86)] fun a87=>
 StK a32 51 a31 a87 fun a88=>
 b [a31] a88))/\
 (Y5 b2 (.cells z55 55) fun a33 c1=>
 Qi b2 c1<|
 Qa prog 99 #[a] c1 fun a89 c2=>
 Qi c1 c2<|
 Qa prog 100 #[a] c2 fun a90 c3=>
 Qi c2 c3<|
 Qa prog 101 #[a] c3 fun a91 a34=>
 Qi c3 a34<|
 Qz z55.toList [(1,1,c),(2,1,d),(3,1,e),(5,1,f),(15,1,g),(16,1,i),(17,1,j),(18,1,l),(19,1,m),(20,1,o),(21,1,p),(22,1,q),(23,1,r),(25,1,s),(26,1,t),(27,1,u),(34,1,b1),(36,1,b5),(39,1,a89),(41,1,a90),(50,1,a91)] fun a92=>
 StK a34 51 a33 a92 fun a93=>
 b [a33] a93))/\
 (Y5 b0 (.cells z55 55) fun a35 c4=>
 Qi b0 c4<|
 Qa prog 98 #[a] c4 fun a94 c5=>
 Qi c4 c5<|
 Qa prog 99 #[a] c5 fun a95 c6=>
 Qi c5 c6<|
 Qa prog 100 #[a] c6 fun a96 c7=>
 Qi c6 c7<|
 Qa prog 101 #[a] c7 fun a97 a36=>
 Qi c7 a36<|
 Qz z55.toList [(1,1,c),(2,1,d),(3,1,e),(5,1,f),(15,1,g),(16,1,i),(17,1,j),(18,1,l),(19,1,m),(20,1,o),(21,1,p),(22,1,q),(23,1,r),(25,1,s),(26,1,t),(27,1,u),(34,1,b1),(36,1,a94),(39,1,a95),(41,1,a96),(50,1,a97)] fun a98=>
 StK a36 51 a35 a98 fun a99=>
 b [a35] a99))/\
 (Y5 a9 (.cells z55 55) fun a37 c8=>
 Qi a9 c8<|
 Qa prog 97 #[a,(.pointer none)] c8 fun b00 c9=>
 Qi c8 c9<|
 Qk prog .neq 197 b00 (.pointer none) fun b01=>
 Qa prog 98 #[a] c9 fun b02 d0=>
 Qi c9 d0<|
 Qa prog 99 #[a] d0 fun b03 d1=>
 Qi d0 d1<|
 Qa prog 100 #[a] d1 fun b04 d2=>
 Qi d1 d2<|
 Qa prog 101 #[a] d2 fun b05 a38=>
 Qi d2 a38<|
 Qz z55.toList [(1,1,c),(2,1,d),(3,1,e),(5,1,f),(15,1,g),(16,1,i),(17,1,j),(18,1,l),(19,1,m),(20,1,o),(21,1,p),(22,1,q),(23,1,r),(25,1,s),(26,1,t),(27,1,u),(34,1,b01),(36,1,b02),(39,1,b03),(41,1,b04),(50,1,b05)] fun b06=>
 StK a38 51 a37 b06 fun b07=>
 b [a37] b07))/\
 (Y5 a8 (.cells z55 55) fun a39 d3=>
 Qi a8 d3<|
 Qa prog 96 #[a] d3 fun b08 d4=>
 Qi d3 d4<|
 QaK prog 74 #[b08] fun b09=>
 Qa prog 97 #[a,(.pointer none)] d4 fun b10 d5=>
 Qi d4 d5<|
 Qk prog .neq 197 b10 (.pointer none) fun b11=>
 Qa prog 98 #[a] d5 fun b12 d6=>
 Qi d5 d6<|
 Qa prog 99 #[a] d6 fun b13 d7=>
 Qi d6 d7<|
 Qa prog 100 #[a] d7 fun b14 d8=>
 Qi d7 d8<|
 Qa prog 101 #[a] d8 fun b15 a40=>
 Qi d8 a40<|
 Qz z55.toList [(1,1,c),(2,1,d),(3,1,e),(5,1,f),(15,1,g),(16,1,i),(17,1,j),(18,1,l),(19,1,m),(20,1,o),(21,1,p),(22,1,q),(23,1,r),(25,1,s),(26,1,t),(27,1,b09),(34,1,b11),(36,1,b12),(39,1,b13),(41,1,b14),(50,1,b15)] fun b16=>
 StK a40 51 a39 b16 fun b17=>
 b [a39] b17))/\
 (Y5 a7 (.cells z55 55) fun a41 d9=>
 Qi a7 d9<|
 Qa prog 95 #[a] d9 fun b18 e0=>
 Qi d9 e0<|
 QaK prog 74 #[b18] fun b19=>
 Qa prog 96 #[a] e0 fun b20 e1=>
 Qi e0 e1<|
 QaK prog 74 #[b20] fun b21=>
 Qa prog 97 #[a,(.pointer none)] e1 fun b22 e2=>
 Qi e1 e2<|
 Qk prog .neq 197 b22 (.pointer none) fun b23=>
 Qa prog 98 #[a] e2 fun b24 e3=>
 Qi e2 e3<|
 Qa prog 99 #[a] e3 fun b25 e4=>
 Qi e3 e4<|
 Qa prog 100 #[a] e4 fun b26 e5=>
 Qi e4 e5<|
 Qa prog 101 #[a] e5 fun b27 a42=>
 Qi e5 a42<|
 Qz z55.toList [(1,1,c),(2,1,d),(3,1,e),(5,1,f),(15,1,g),(16,1,i),(17,1,j),(18,1,l),(19,1,m),(20,1,o),(21,1,p),(22,1,q),(23,1,r),(25,1,s),(26,1,b19),(27,1,b21),(34,1,b23),(36,1,b24),(39,1,b25),(41,1,b26),(50,1,b27)] fun b28=>
 StK a42 51 a41 b28 fun b29=>
 b [a41] b29))/\
 (Y5 a6 (.cells z55 55) fun a43 e6=>
 Qi a6 e6<|
 Qa prog 94 #[a] e6 fun b30 e7=>
 Qi e6 e7<|
 QaK prog 74 #[b30] fun b31=>
 Qa prog 95 #[a] e7 fun b32 e8=>
 Qi e7 e8<|
 QaK prog 74 #[b32] fun b33=>
 Qa prog 96 #[a] e8 fun b34 e9=>
 Qi e8 e9<|
 QaK prog 74 #[b34] fun b35=>
 Qa prog 97 #[a,(.pointer none)] e9 fun b36 f0=>
 Qi e9 f0<|
 Qk prog .neq 197 b36 (.pointer none) fun b37=>
 Qa prog 98 #[a] f0 fun b38 f1=>
 Qi f0 f1<|
 Qa prog 99 #[a] f1 fun b39 f2=>
 Qi f1 f2<|
 Qa prog 100 #[a] f2 fun b40 f3=>
 Qi f2 f3<|
 Qa prog 101 #[a] f3 fun b41 a44=>
 Qi f3 a44<|
 Qz z55.toList [(1,1,c),(2,1,d),(3,1,e),(5,1,f),(15,1,g),(16,1,i),(17,1,j),(18,1,l),(19,1,m),(20,1,o),(21,1,p),(22,1,q),(23,1,r),(25,1,b31),(26,1,b33),(27,1,b35),(34,1,b37),(36,1,b38),(39,1,b39),(41,1,b40),(50,1,b41)] fun b42=>
 StK a44 51 a43 b42 fun b43=>
 b [a43] b43))/\
 (Y5 a5 (.cells z55 55) fun a45 f4=>
 Qi a5 f4<|
 Qa prog 93 #[a] f4 fun b44 f5=>
 Qi f4 f5<|
 Qa prog 94 #[a] f5 fun b45 f6=>
 Qi f5 f6<|
 QaK prog 74 #[b45] fun b46=>
 Qa prog 95 #[a] f6 fun b47 f7=>
 Qi f6 f7<|
 QaK prog 74 #[b47] fun b48=>
 Qa prog 96 #[a] f7 fun b49 f8=>
 Qi f7 f8<|
 QaK prog 74 #[b49] fun b50=>
 Qa prog 97 #[a,(.pointer none)] f8 fun b51 f9=>
 Qi f8 f9<|
 Qk prog .neq 197 b51 (.pointer none) fun b52=>
 Qa prog 98 #[a] f9 fun b53 g0=>
 Qi f9 g0<|
 Qa prog 99 #[a] g0 fun b54 g1=>
 Qi g0 g1<|
 Qa prog 100 #[a] g1 fun b55 g2=>
 Qi g1 g2<|
 Qa prog 101 #[a] g2 fun b56 a46=>
 Qi g2 a46<|
 Qz z55.toList [(1,1,c),(2,1,d),(3,1,e),(5,1,f),(15,1,g),(16,1,i),(17,1,j),(18,1,l),(19,1,m),(20,1,o),(21,1,p),(22,1,q),(23,1,b44),(25,1,b46),(26,1,b48),(27,1,b50),(34,1,b52),(36,1,b53),(39,1,b54),(41,1,b55),(50,1,b56)] fun b57=>
 StK a46 51 a45 b57 fun b58=>
 b [a45] b58))/\
 (Y5 a4 (.cells z55 55) fun a47 g3=>
 Qi a4 g3<|
 Qa prog 92 #[a] g3 fun b59 g4=>
 Qi g3 g4<|
 Qa prog 93 #[a] g4 fun b60 g5=>
 Qi g4 g5<|
 Qa prog 94 #[a] g5 fun b61 g6=>
 Qi g5 g6<|
 QaK prog 74 #[b61] fun b62=>
 Qa prog 95 #[a] g6 fun b63 g7=>
 Qi g6 g7<|
 QaK prog 74 #[b63] fun b64=>
 Qa prog 96 #[a] g7 fun b65 g8=>
 Qi g7 g8<|
 QaK prog 74 #[b65] fun b66=>
 Qa prog 97 #[a,(.pointer none)] g8 fun b67 g9=>
 Qi g8 g9<|
 Qk prog .neq 197 b67 (.pointer none) fun b68=>
 Qa prog 98 #[a] g9 fun b69 i0=>
 Qi g9 i0<|
 Qa prog 99 #[a] i0 fun b70 i1=>
 Qi i0 i1<|
 Qa prog 100 #[a] i1 fun b71 i2=>
 Qi i1 i2<|
 Qa prog 101 #[a] i2 fun b72 a48=>
 Qi i2 a48<|
 Qz z55.toList [(1,1,c),(2,1,d),(3,1,e),(5,1,f),(15,1,g),(16,1,i),(17,1,j),(18,1,l),(19,1,m),(20,1,o),(21,1,p),(22,1,b59),(23,1,b60),(25,1,b62),(26,1,b64),(27,1,b66),(34,1,b68),(36,1,b69),(39,1,b70),(41,1,b71),(50,1,b72)] fun b73=>
 StK a48 51 a47 b73 fun b74=>
 b [a47] b74))/\
 (Y5 a3 (.cells z55 55) fun a49 i3=>
 Qi a3 i3<|
 Qa prog 91 #[a] i3 fun b75 i4=>
 Qi i3 i4<|
 Qa prog 92 #[a] i4 fun b76 i5=>
 Qi i4 i5<|
 Qa prog 93 #[a] i5 fun b77 i6=>
 Qi i5 i6<|
 Qa prog 94 #[a] i6 fun b78 i7=>
 Qi i6 i7<|
 QaK prog 74 #[b78] fun b79=>
 Qa prog 95 #[a] i7 fun b80 i8=>
 Qi i7 i8<|
 QaK prog 74 #[b80] fun b81=>
 Qa prog 96 #[a] i8 fun b82 i9=>
 Qi i8 i9<|
 QaK prog 74 #[b82] fun b83=>
 Qa prog 97 #[a,(.pointer none)] i9 fun b84 j0=>
 Qi i9 j0<|
 Qk prog .neq 197 b84 (.pointer none) fun b85=>
 Qa prog 98 #[a] j0 fun b86 j1=>
 Qi j0 j1<|
 Qa prog 99 #[a] j1 fun b87 j2=>
 Qi j1 j2<|
 Qa prog 100 #[a] j2 fun b88 j3=>
 Qi j2 j3<|
 Qa prog 101 #[a] j3 fun b89 a50=>
 Qi j3 a50<|
 Qz z55.toList [(1,1,c),(2,1,d),(3,1,e),(5,1,f),(15,1,g),(16,1,i),(17,1,j),(18,1,l),(19,1,m),(20,1,o),(21,1,b75),(22,1,b76),(23,1,b77),(25,1,b79),(26,1,b81),(27,1,b83),(34,1,b85),(36,1,b86),(39,1,b87),(41,1,b88),(50,1,b89)] fun b90=>
 StK a50 51 a49 b90 fun b91=>
 b [a49] b91))/\
 (Y5 a2 (.cells z55 55) fun a51 j4=>
 Qi a2 j4<|
 Qa prog 90 #[a] j4 fun b92 j5=>
 Qi j4 j5<|
 Qa prog 91 #[a] j5 fun b93 j6=>
 Qi j5 j6<|
 Qa prog 92 #[a] j6 fun b94 j7=>
 Qi j6 j7<|
 Qa prog 93 #[a] j7 fun b95 j8=>
 Qi j7 j8<|
 Qa prog 94 #[a] j8 fun b96 j9=>
 Qi j8 j9<|
 QaK prog 74 #[b96] fun b97=>
 Qa prog 95 #[a] j9 fun b98 l0=>
 Qi j9 l0<|
 QaK prog 74 #[b98] fun b99=>
 Qa prog 96 #[a] l0 fun c00 l1=>
 Qi l0 l1<|
 QaK prog 74 #[c00] fun c01=>
 Qa prog 97 #[a,(.pointer none)] l1 fun c02 l2=>
 Qi l1 l2<|
 Qk prog .neq 197 c02 (.pointer none) fun c03=>
 Qa prog 98 #[a] l2 fun c04 l3=>
 Qi l2 l3<|
 Qa prog 99 #[a] l3 fun c05 l4=>
 Qi l3 l4<|
 Qa prog 100 #[a] l4 fun c06 l5=>
 Qi l4 l5<|
 Qa prog 101 #[a] l5 fun c07 a52=>
 Qi l5 a52<|
 Qz z55.toList [(1,1,c),(2,1,d),(3,1,e),(5,1,f),(15,1,g),(16,1,i),(17,1,j),(18,1,l),(19,1,m),(20,1,b92),(21,1,b93),(22,1,b94),(23,1,b95),(25,1,b97),(26,1,b99),(27,1,c01),(34,1,c03),(36,1,c04),(39,1,c05),(41,1,c06),(50,1,c07)] fun c08=>
 StK a52 51 a51 c08 fun c09=>
 b [a51] c09))/\
 (Y5 a1 (.cells z55 55) fun a53 l6=>
 Qi a1 l6<|
 Qa prog 89 #[a] l6 fun c10 l7=>
 Qi l6 l7<|
 Qa prog 90 #[a] l7 fun c11 l8=>
 Qi l7 l8<|
 Qa prog 91 #[a] l8 fun c12 l9=>
 Qi l8 l9<|
 Qa prog 92 #[a] l9 fun c13 m0=>
 Qi l9 m0<|
 Qa prog 93 #[a] m0 fun c14 m1=>
 Qi m0 m1<|
 Qa prog 94 #[a] m1 fun c15 m2=>
 Qi m1 m2<|
 QaK prog 74 #[c15] fun c16=>
 Qa prog 95 #[a] m2 fun c17 m3=>
 Qi m2 m3<|
 QaK prog 74 #[c17] fun c18=>
 Qa prog 96 #[a] m3 fun c19 m4=>
 Qi m3 m4<|
 QaK prog 74 #[c19] fun c20=>
 Qa prog 97 #[a,(.pointer none)] m4 fun c21 m5=>
 Qi m4 m5<|
 Qk prog .neq 197 c21 (.pointer none) fun c22=>
 Qa prog 98 #[a] m5 fun c23 m6=>
 Qi m5 m6<|
 Qa prog 99 #[a] m6 fun c24 m7=>
 Qi m6 m7<|
 Qa prog 100 #[a] m7 fun c25 m8=>
 Qi m7 m8<|
 Qa prog 101 #[a] m8 fun c26 a54=>
 Qi m8 a54<|
 Qz z55.toList [(1,1,c),(2,1,d),(3,1,e),(5,1,f),(15,1,g),(16,1,i),(17,1,j),(18,1,l),(19,1,c10),(20,1,c11),(21,1,c12),(22,1,c13),(23,1,c14),(25,1,c16),(26,1,c18),(27,1,c20),(34,1,c22),(36,1,c23),(39,1,c24),(41,1,c25),(50,1,c26)] fun c27=>
 StK a54 51 a53 c27 fun c28=>
 b [a53] c28))/\
 (Y5 a0 (.cells z55 55) fun a55 m9=>
 Qi a0 m9<|
 Qa prog 88 #[a] m9 fun c29 o0=>
 Qi m9 o0<|
 Qa prog 89 #[a] o0 fun c30 o1=>
 Qi o0 o1<|
 Qa prog 90 #[a] o1 fun c31 o2=>
 Qi o1 o2<|
 Qa prog 91 #[a] o2 fun c32 o3=>
 Qi o2 o3<|
 Qa prog 92 #[a] o3 fun c33 o4=>
 Qi o3 o4<|
 Qa prog 93 #[a] o4 fun c34 o5=>
 Qi o4 o5<|
 Qa prog 94 #[a] o5 fun c35 o6=>
 Qi o5 o6<|
 QaK prog 74 #[c35] fun c36=>
 Qa prog 95 #[a] o6 fun c37 o7=>
 Qi o6 o7<|
 QaK prog 74 #[c37] fun c38=>
 Qa prog 96 #[a] o7 fun c39 o8=>
 Qi o7 o8<|
 QaK prog 74 #[c39] fun c40=>
 Qa prog 97 #[a,(.pointer none)] o8 fun c41 o9=>
 Qi o8 o9<|
 Qk prog .neq 197 c41 (.pointer none) fun c42=>
 Qa prog 98 #[a] o9 fun c43 p0=>
 Qi o9 p0<|
 Qa prog 99 #[a] p0 fun c44 p1=>
 Qi p0 p1<|
 Qa prog 100 #[a] p1 fun c45 p2=>
 Qi p1 p2<|
 Qa prog 101 #[a] p2 fun c46 a56=>
 Qi p2 a56<|
 Qz z55.toList [(1,1,c),(2,1,d),(3,1,e),(5,1,f),(15,1,g),(16,1,i),(17,1,j),(18,1,c29),(19,1,c30),(20,1,c31),(21,1,c32),(22,1,c33),(23,1,c34),(25,1,c36),(26,1,c38),(27,1,c40),(34,1,c42),(36,1,c43),(39,1,c44),(41,1,c45),(50,1,c46)] fun c47=>
 StK a56 51 a55 c47 fun c48=>
 b [a55] c48))/\
 (Y5 z (.cells z55 55) fun a57 p3=>
 Qi z p3<|
 Qa prog 87 #[a] p3 fun c49 p4=>
 Qi p3 p4<|
 Qa prog 88 #[a] p4 fun c50 p5=>
 Qi p4 p5<|
 Qa prog 89 #[a] p5 fun c51 p6=>
 Qi p5 p6<|
 Qa prog 90 #[a] p6 fun c52 p7=>
 Qi p6 p7<|
 Qa prog 91 #[a] p7 fun c53 p8=>
 Qi p7 p8<|
 Qa prog 92 #[a] p8 fun c54 p9=>
 Qi p8 p9<|
 Qa prog 93 #[a] p9 fun c55 q0=>
 Qi p9 q0<|
 Qa prog 94 #[a] q0 fun c56 q1=>
 Qi q0 q1<|
 QaK prog 74 #[c56] fun c57=>
 Qa prog 95 #[a] q1 fun c58 q2=>
 Qi q1 q2<|
 QaK prog 74 #[c58] fun c59=>
 Qa prog 96 #[a] q2 fun c60 q3=>
 Qi q2 q3<|
 QaK prog 74 #[c60] fun c61=>
 Qa prog 97 #[a,(.pointer none)] q3 fun c62 q4=>
 Qi q3 q4<|
 Qk prog .neq 197 c62 (.pointer none) fun c63=>
 Qa prog 98 #[a] q4 fun c64 q5=>
 Qi q4 q5<|
 Qa prog 99 #[a] q5 fun c65 q6=>
 Qi q5 q6<|
 Qa prog 100 #[a] q6 fun c66 q7=>
 Qi q6 q7<|
 Qa prog 101 #[a] q7 fun c67 a58=>
 Qi q7 a58<|
 Qz z55.toList [(1,1,c),(2,1,d),(3,1,e),(5,1,f),(15,1,g),(16,1,i),(17,1,c49),(18,1,c50),(19,1,c51),(20,1,c52),(21,1,c53),(22,1,c54),(23,1,c55),(25,1,c57),(26,1,c59),(27,1,c61),(34,1,c63),(36,1,c64),(39,1,c65),(41,1,c66),(50,1,c67)] fun c68=>
 StK a58 51 a57 c68 fun c69=>
 b [a57] c69))/\
 (Y5 y (.cells z55 55) fun a59 q8=>
 Qi y q8<|
 Qa prog 86 #[a] q8 fun c70 q9=>
 Qi q8 q9<|
 Qa prog 87 #[a] q9 fun c71 r0=>
 Qi q9 r0<|
 Qa prog 88 #[a] r0 fun c72 r1=>
 Qi r0 r1<|
 Qa prog 89 #[a] r1 fun c73 r2=>
 Qi r1 r2<|
 Qa prog 90 #[a] r2 fun c74 r3=>
 Qi r2 r3<|
 Qa prog 91 #[a] r3 fun c75 r4=>
 Qi r3 r4<|
 Qa prog 92 #[a] r4 fun c76 r5=>
 Qi r4 r5<|
 Qa prog 93 #[a] r5 fun c77 r6=>
 Qi r5 r6<|
 Qa prog 94 #[a] r6 fun c78 r7=>
 Qi r6 r7<|
 QaK prog 74 #[c78] fun c79=>
 Qa prog 95 #[a] r7 fun c80 r8=>
 Qi r7 r8<|
 QaK prog 74 #[c80] fun c81=>
 Qa prog 96 #[a] r8 fun c82 r9=>
 Qi r8 r9<|
 QaK prog 74 #[c82] fun c83=>
 Qa prog 97 #[a,(.pointer none)] r9 fun c84 s0=>
 Qi r9 s0<|
 Qk prog .neq 197 c84 (.pointer none) fun c85=>
 Qa prog 98 #[a] s0 fun c86 s1=>
 Qi s0 s1<|
 Qa prog 99 #[a] s1 fun c87 s2=>
 Qi s1 s2<|
 Qa prog 100 #[a] s2 fun c88 s3=>
 Qi s2 s3<|
 Qa prog 101 #[a] s3 fun c89 a60=>
 Qi s3 a60<|
 Qz z55.toList [(1,1,c),(2,1,d),(3,1,e),(5,1,f),(15,1,g),(16,1,c70),(17,1,c71),(18,1,c72),(19,1,c73),(20,1,c74),(21,1,c75),(22,1,c76),(23,1,c77),(25,1,c79),(26,1,c81),(27,1,c83),(34,1,c85),(36,1,c86),(39,1,c87),(41,1,c88),(50,1,c89)] fun c90=>
 StK a60 51 a59 c90 fun c91=>
 b [a59] c91))/\
 (Y5 w (.cells z55 55) fun a61 s4=>
 Qi w s4<|
 Qa prog 85 #[a] s4 fun c92 s5=>
 Qi s4 s5<|
 Qa prog 86 #[a] s5 fun c93 s6=>
 Qi s5 s6<|
 Qa prog 87 #[a] s6 fun c94 s7=>
 Qi s6 s7<|
 Qa prog 88 #[a] s7 fun c95 s8=>
 Qi s7 s8<|
 Qa prog 89 #[a] s8 fun c96 s9=>
 Qi s8 s9<|
 Qa prog 90 #[a] s9 fun c97 t0=>
 Qi s9 t0<|
 Qa prog 91 #[a] t0 fun c98 t1=>
 Qi t0 t1<|
 Qa prog 92 #[a] t1 fun c99 t2=>
 Qi t1 t2<|
 Qa prog 93 #[a] t2 fun d00 t3=>
 Qi t2 t3<|
 Qa prog 94 #[a] t3 fun d01 t4=>
 Qi t3 t4<|
 QaK prog 74 #[d01] fun d02=>
 Qa prog 95 #[a] t4 fun d03 t5=>
 Qi t4 t5<|
 QaK prog 74 #[d03] fun d04=>
 Qa prog 96 #[a] t5 fun d05 t6=>
 Qi t5 t6<|
 QaK prog 74 #[d05] fun d06=>
 Qa prog 97 #[a,(.pointer none)] t6 fun d07 t7=>
 Qi t6 t7<|
 Qk prog .neq 197 d07 (.pointer none) fun d08=>
 Qa prog 98 #[a] t7 fun d09 t8=>
 Qi t7 t8<|
 Qa prog 99 #[a] t8 fun d10 t9=>
 Qi t8 t9<|
 Qa prog 100 #[a] t9 fun d11 u0=>
 Qi t9 u0<|
 Qa prog 101 #[a] u0 fun d12 a62=>
 Qi u0 a62<|
 Qz z55.toList [(1,1,c),(2,1,d),(3,1,e),(5,1,f),(15,1,c92),(16,1,c93),(17,1,c94),(18,1,c95),(19,1,c96),(20,1,c97),(21,1,c98),(22,1,c99),(23,1,d00),(25,1,d02),(26,1,d04),(27,1,d06),(34,1,d08),(36,1,d09),(39,1,d10),(41,1,d11),(50,1,d12)] fun d13=>
 StK a62 51 a61 d13 fun d14=>
 b [a61] d14))/\
 (Y5 v (.cells z55 55) fun a63 u1=>
 Qi v u1<|
 Qa prog 84 #[a] u1 fun d15 u2=>
 Qi u1 u2<|
 Qa prog 85 #[a] u2 fun d16 u3=>
 Qi u2 u3<|
 Qa prog 86 #[a] u3 fun d17 u4=>
 Qi u3 u4<|
 Qa prog 87 #[a] u4 fun d18 u5=>
 Qi u4 u5<|
 Qa prog 88 #[a] u5 fun d19 u6=>
 Qi u5 u6<|
 Qa prog 89 #[a] u6 fun d20 u7=>
 Qi u6 u7<|
 Qa prog 90 #[a] u7 fun d21 u8=>
 Qi u7 u8<|
 Qa prog 91 #[a] u8 fun d22 u9=>
 Qi u8 u9<|
 Qa prog 92 #[a] u9 fun d23 v0=>
 Qi u9 v0<|
 Qa prog 93 #[a] v0 fun d24 v1=>
 Qi v0 v1<|
 Qa prog 94 #[a] v1 fun d25 v2=>
 Qi v1 v2<|
 QaK prog 74 #[d25] fun d26=>
 Qa prog 95 #[a] v2 fun d27 v3=>
 Qi v2 v3<|
 QaK prog 74 #[d27] fun d28=>
 Qa prog 96 #[a] v3 fun d29 v4=>
 Qi v3 v4<|
 QaK prog 74 #[d29] fun d30=>
 Qa prog 97 #[a,(.pointer none)] v4 fun d31 v5=>
 Qi v4 v5<|
 Qk prog .neq 197 d31 (.pointer none) fun d32=>
 Qa prog 98 #[a] v5 fun d33 v6=>
 Qi v5 v6<|
 Qa prog 99 #[a] v6 fun d34 v7=>
 Qi v6 v7<|
 Qa prog 100 #[a] v7 fun d35 v8=>
 Qi v7 v8<|
 Qa prog 101 #[a] v8 fun d36 a64=>
 Qi v8 a64<|
 Qz z55.toList [(1,1,c),(2,1,d),(3,1,e),(5,1,d15),(15,1,d16),(16,1,d17),(17,1,d18),(18,1,d19),(19,1,d20),(20,1,d21),(21,1,d22),(22,1,d23),(23,1,d24),(25,1,d26),(26,1,d28),(27,1,d30),(34,1,d32),(36,1,d33),(39,1,d34),(41,1,d35),(50,1,d36)] fun d37=>
 StK a64 51 a63 d37 fun d38=>
 b [a63] d38))/\
 (Y5 a25 (.cells z55 55) fun a65 d39=>
 Qa prog 83 #[a] d39 fun d40 v9=>
 QiN v9 d40 fun d41=>
 Qa prog 84 #[a] v9 fun d42 w0=>
 Qi v9 w0<|
 Qa prog 85 #[a] w0 fun d43 w1=>
 Qi w0 w1<|
 Qa prog 86 #[a] w1 fun d44 w2=>
 Qi w1 w2<|
 Qa prog 87 #[a] w2 fun d45 w3=>
 Qi w2 w3<|
 Qa prog 88 #[a] w3 fun d46 w4=>
 Qi w3 w4<|
 Qa prog 89 #[a] w4 fun d47 w5=>
 Qi w4 w5<|
 Qa prog 90 #[a] w5 fun d48 w6=>
 Qi w5 w6<|
 Qa prog 91 #[a] w6 fun d49 w7=>
 Qi w6 w7<|
 Qa prog 92 #[a] w7 fun d50 w8=>
 Qi w7 w8<|
 Qa prog 93 #[a] w8 fun d51 w9=>
 Qi w8 w9<|
 Qa prog 94 #[a] w9 fun d52 y0=>
 Qi w9 y0<|
 QaK prog 74 #[d52] fun d53=>
 Qa prog 95 #[a] y0 fun d54 y1=>
 Qi y0 y1<|
 QaK prog 74 #[d54] fun d55=>
 Qa prog 96 #[a] y1 fun d56 y2=>
 Qi y1 y2<|
 QaK prog 74 #[d56] fun d57=>
 Qa prog 97 #[a,(.pointer none)] y2 fun d58 y3=>
 Qi y2 y3<|
 Qk prog .neq 197 d58 (.pointer none) fun d59=>
 Qa prog 98 #[a] y3 fun d60 y4=>
 Qi y3 y4<|
 Qa prog 99 #[a] y4 fun d61 y5=>
 Qi y4 y5<|
 Qa prog 100 #[a] y5 fun d62 y6=>
 Qi y5 y6<|
 Qa prog 101 #[a] y6 fun d63 a66=>
 Qi y6 a66<|
 Qz z55.toList [(1,1,c),(2,1,d),(3,1,d41),(5,1,d42),(15,1,d43),(16,1,d44),(17,1,d45),(18,1,d46),(19,1,d47),(20,1,d48),(21,1,d49),(22,1,d50),(23,1,d51),(25,1,d53),(26,1,d55),(27,1,d57),(34,1,d59),(36,1,d60),(39,1,d61),(41,1,d62),(50,1,d63)] fun d64=>
 StK a66 51 a65 d64 fun d65=>
 b [a65] d65))/\
 (Y5 a24 (.cells z55 55) fun a67 d66=>
 Qa prog 82 #[a] d66 fun d67 d68=>
 Qa prog 83 #[a] d68 fun d69 y7=>
 QiN y7 d69 fun d70=>
 Qa prog 84 #[a] y7 fun d71 y8=>
 Qi y7 y8<|
 Qa prog 85 #[a] y8 fun d72 y9=>
 Qi y8 y9<|
 Qa prog 86 #[a] y9 fun d73 z0=>
 Qi y9 z0<|
 Qa prog 87 #[a] z0 fun d74 z1=>
 Qi z0 z1<|
 Qa prog 88 #[a] z1 fun d75 z2=>
 Qi z1 z2<|
 Qa prog 89 #[a] z2 fun d76 z3=>
 Qi z2 z3<|
 Qa prog 90 #[a] z3 fun d77 z4=>
 Qi z3 z4<|
 Qa prog 91 #[a] z4 fun d78 z5=>
 Qi z4 z5<|
 Qa prog 92 #[a] z5 fun d79 z6=>
 Qi z5 z6<|
 Qa prog 93 #[a] z6 fun d80 z7=>
 Qi z6 z7<|
 Qa prog 94 #[a] z7 fun d81 z8=>
 Qi z7 z8<|
 QaK prog 74 #[d81] fun d82=>
 Qa prog 95 #[a] z8 fun d83 z9=>
 Qi z8 z9<|
 QaK prog 74 #[d83] fun d84=>
 Qa prog 96 #[a] z9 fun d85 a00=>
 Qi z9 a00<|
 QaK prog 74 #[d85] fun d86=>
 Qa prog 97 #[a,(.pointer none)] a00 fun d87 a01=>
 Qi a00 a01<|
 Qk prog .neq 197 d87 (.pointer none) fun d88=>
 Qa prog 98 #[a] a01 fun d89 a02=>
 Qi a01 a02<|
 Qa prog 99 #[a] a02 fun d90 a03=>
 Qi a02 a03<|
 Qa prog 100 #[a] a03 fun d91 a04=>
 Qi a03 a04<|
 Qa prog 101 #[a] a04 fun d92 a68=>
 Qi a04 a68<|
 Qz z55.toList [(1,1,c),(2,1,d67),(3,1,d70),(5,1,d71),(15,1,d72),(16,1,d73),(17,1,d74),(18,1,d75),(19,1,d76),(20,1,d77),(21,1,d78),(22,1,d79),(23,1,d80),(25,1,d82),(26,1,d84),(27,1,d86),(34,1,d88),(36,1,d89),(39,1,d90),(41,1,d91),(50,1,d92)] fun d93=>
 StK a68 51 a67 d93 fun d94=>
 b [a67] d94))/\
 (Y5 a23 (.cells z55 55) fun a69 d95=>
 Qa prog 81 #[a] d95 fun d96 d97=>
 Qa prog 82 #[a] d97 fun d98 d99=>
 Qa prog 83 #[a] d99 fun e00 a05=>
 QiN a05 e00 fun e01=>
 Qa prog 84 #[a] a05 fun e02 a06=>
 Qi a05 a06<|
 Qa prog 85 #[a] a06 fun e03 a07=>
 Qi a06 a07<|
 Qa prog 86 #[a] a07 fun e04 a08=>
 Qi a07 a08<|
 Qa prog 87 #[a] a08 fun e05 a09=>
 Qi a08 a09<|
 Qa prog 88 #[a] a09 fun e06 a10=>
 Qi a09 a10<|
 Qa prog 89 #[a] a10 fun e07 a11=>
 Qi a10 a11<|
 Qa prog 90 #[a] a11 fun e08 a12=>
 Qi a11 a12<|
 Qa prog 91 #[a] a12 fun e09 a13=>
 Qi a12 a13<|
 Qa prog 92 #[a] a13 fun e10 a14=>
 Qi a13 a14<|
 Qa prog 93 #[a] a14 fun e11 a15=>
 Qi a14 a15<|
 Qa prog 94 #[a] a15 fun e12 a16=>
 Qi a15 a16<|
 QaK prog 74 #[e12] fun e13=>
 Qa prog 95 #[a] a16 fun e14 a17=>
 Qi a16 a17<|
 QaK prog 74 #[e14] fun e15=>
 Qa prog 96 #[a] a17 fun e16 a18=>
 Qi a17 a18<|
 QaK prog 74 #[e16] fun e17=>
 Qa prog 97 #[a,(.pointer none)] a18 fun e18 a19=>
 Qi a18 a19<|
 Qk prog .neq 197 e18 (.pointer none) fun e19=>
 Qa prog 98 #[a] a19 fun e20 a20=>
 Qi a19 a20<|
 Qa prog 99 #[a] a20 fun e21 a21=>
 Qi a20 a21<|
 Qa prog 100 #[a] a21 fun e22 a22=>
 Qi a21 a22<|
 Qa prog 101 #[a] a22 fun e23 a70=>
 Qi a22 a70<|
 Qz z55.toList [(1,1,d96),(2,1,d98),(3,1,e01),(5,1,e02),(15,1,e03),(16,1,e04),(17,1,e05),(18,1,e06),(19,1,e07),(20,1,e08),(21,1,e09),(22,1,e10),(23,1,e11),(25,1,e13),(26,1,e15),(27,1,e17),(34,1,e19),(36,1,e20),(39,1,e21),(41,1,e22),(50,1,e23)] fun e24=>
 StK a70 51 a69 e24 fun e25=>
 b [a69] e25)) fun b=>∀a71:Value,∀a72:Qe,b [a71] a72->
 rm1 a a71 a73 a72 R
theorem w35 {a h R} (H:s35 a h R):FnS prog 35 #[a] h R:=wq Tryz.func35 (by kernel_rfl) H
def s62 (d e f:Value) (h:Qe) (R:Kn):Prop:=
 LdK h d fun g=>
 Qa prog 63 #[g] h fun a b=>
 LdN b 51 e fun i=>
 Qa prog 65 #[i] b fun j l=>
 Qa prog 66 #[j,a] l fun m o=>
 Qa prog 64 #[a,m] o fun _x11 p=>
 Qa prog 67 #[a] p fun q c=>
 QiN c q fun r=>
 StK c 1 f r fun s=>
 R (.tuple #[]) s
theorem w62 {a b c h R} (H:s62 a b c h R):FnS prog 62 #[a,b,c] h R:=wq Tryz.func62 (by kernel_rfl) H
def ob12 (a:Value) (b:Qe) (R:Kn):Prop:=
 R a b
def ob11 (e:Value) (c:Value) (l:Qe) (R:Kn):Prop:=
 QD (fun d=>
 Yu [(.int .i64 0)] l fun f g=>∀b:Value,∀a:Qe,f g [b] a->
 Qg e 49 fun m=>
 LdK a m fun o=>
 QeL o fun p=>
 Qk prog .lss 3 b p fun q=>
 IfK q
 (Q3 c fun r=>
 Qg r 43 fun s=>
 LdK a s fun t=>
 Qg e 49 fun u=>
 LdK a u fun v=>
 ZI prog (Instr.index 9 v b) fun w=>
 Q8 a 145 1 (YV z145.toList 1) [(0,1,w)] fun y i=>
 Qi a i<|
 Qbs i 145 1 1 z145 t y fun z a0=>
 Q3 c fun a1=>
 Qg a1 43 fun a2=>
 StK a0 1 a2 z fun a3=>
 Qk prog .add 3 b (.int .i64 1) fun a4=>
 QS f g [a4] a3)
 (d [b] a)) fun d=>∀a5:Value,∀j:Qe,d [a5] j->
 ob12 c j R
def ob10 (b:Value) (d:Value) (a:Qe) (R:Kn):Prop:=
 QD (fun c=>
 Qg b 46 fun g=>
 Qg g 0 fun i=>
 LdK a i fun j=>
 Qk prog .neq 5 j (.int .u8 0) fun l=>
 IfK l
 (Qg b 46 fun m=>
 Qg m 0 fun o=>
 LdK a o fun p=>
 Qg b 46 fun q=>
 LdN a 3 q fun r=>
 Qa prog 176 #[r] a fun s e=>
 Qi a e<|
 Qz z182.toList [(0,1,p),(1,1,(.iface 89 s))] fun t=>
 Y5 e (.cells (Value.cells t) 182) fun u v=>
 Q3 d fun w=>
 Qg w 42 fun y=>
 StK v 1 y u fun z=>
 c [] z)
 (c [] a)) fun c=>∀f:Qe,c [] f->
 ob11 b d f R
def ob9 (b:Value) (d:Value) (a:Qe) (R:Kn):Prop:=
 QD (fun c=>
 Qg b 43 fun g=>
 Qg g 0 fun i=>
 LdK a i fun j=>
 Qk prog .neq 5 j (.int .u8 0) fun l=>
 IfK l
 (Qg b 43 fun m=>
 Qg m 0 fun o=>
 LdK a o fun p=>
 Qg b 43 fun q=>
 LdN a 3 q fun r=>
 Qa prog 175 #[r] a fun s e=>
 Qi a e<|
 Qz z179.toList [(0,1,p),(1,1,s)] fun t=>
 Y5 e (.cells (Value.cells t) 179) fun u v=>
 Q3 d fun w=>
 Qg w 41 fun y=>
 StK v 1 y u fun z=>
 c [] z)
 (c [] a)) fun c=>∀f:Qe,c [] f->
 ob10 b d f R
def ob8 (b:Value) (d:Value) (a:Qe) (R:Kn):Prop:=
 QD (fun c=>
 Qg b 6 fun g=>
 Qg g 0 fun i=>
 LdK a i fun j=>
 Qk prog .neq 5 j (.int .u8 0) fun l=>
 IfK l
 (Qg b 6 fun m=>
 Qg m 0 fun o=>
 LdK a o fun p=>
 Qg b 6 fun q=>
 LdN a 3 q fun r=>
 Qa prog 175 #[r] a fun s e=>
 Qi a e<|
 Qz z176.toList [(0,1,p),(1,1,s)] fun t=>
 Y5 e (.cells (Value.cells t) 176) fun u v=>
 Q3 d fun w=>
 Qg w 6 fun y=>
 StK v 1 y u fun z=>
 c [] z)
 (c [] a)) fun c=>∀f:Qe,c [] f->
 ob9 b d f R
def ob7 (c:Value) (d:Value) (b:Qe) (R:Kn):Prop:=
 QD (fun a=>
 Qg c 34 fun f=>
 LdK b f fun g=>
 IfK g
 (Qz z249.toList [] fun i=>
 Y5 b (.cells (Value.cells i) 249) fun j l=>
 Q3 d fun m=>
 Qg m 32 fun o=>
 StK l 1 o j fun p=>
 a [] p)
 (a [] b)) fun a=>∀e:Qe,a [] e->
 ob8 c d e R
def ob6B (b:Value) (d:Value) (e:Value) (a:Qe) (k:Qe->Prop):Prop:=
 Y1 1 d e fun f=>
 LdK a f fun g=>
 Q3 b fun i=>
 Qg i 31 fun j=>
 LdK a j fun l=>
 QaK prog 174 #[g] fun m=>
 Q8 a 164 1 (YV z164.toList 1) [(0,1,m)] fun o c=>
 Qi a c<|
 Qbs c 164 1 8 z164 l o fun p q=>
 Q3 b fun r=>
 Qg r 31 fun s=>
 StK q 1 s p fun t=>
 k t
def ob6 (a:Value) (b:Value) (c:Qe) (R:Kn):Prop:=
 Qe4 prog 3 a 33 c (ob6B b) fun d=>ob7 a b d R
def ob5B (d:Value) (g:Value) (i:Value) (e:Qe) (k:Qe->Prop):Prop:=
 Y1 2 g i fun j=>
 LdN e 2 j fun l=>
 Y5 e (.cells z123 123) fun b m=>
 StK m 2 b l fun a=>
 Q3 d fun o=>
 Qg o 27 fun p=>
 LdK a p fun q=>
 Qg b 0 fun r=>
 LdK a r fun s=>
 Qg b 1 fun t=>
 LdK a t fun u=>
 Qz z172.toList [(0,1,s),(1,1,u)] fun v=>
 Y5 a (.cells (Value.cells v) 172) fun w c=>
 Qi a c<|
 Q8 c 171 1 (YV z171.toList 1) [(0,1,w)] fun y f=>
 Qi c f<|
 Qbs f 171 1 8 z171 q y fun z a0=>
 Q3 d fun a1=>
 Qg a1 27 fun a2=>
 StK a0 1 a2 z fun a3=>
 k a3
def ob5 (a:Value) (b:Value) (c:Qe) (R:Kn):Prop:=
 Qe4 prog 3 a 29 c (ob5B b) fun d=>ob6 a b d R
def ob4B (d:Value) (e:Value) (f:Value) (c:Qe) (k:Qe->Prop):Prop:=
 Y1 3 e f fun g=>
 LdN c 3 g fun i=>
 Y5 c (.cells z120 120) fun a j=>
 StK j 3 a i fun b=>
 Qg a 0 fun l=>
 LdK b l fun m=>
 Qg a 1 fun o=>
 LdK b o fun p=>
 Qg a 2 fun q=>
 LdK b q fun r=>
 Qz z170.toList [(0,1,m),(1,1,p),(2,1,r)] fun s=>
 Y5 b (.cells (Value.cells s) 170) fun t u=>
 Q3 d fun v=>
 Qg v 12 fun w=>
 StK u 1 w t fun y=>
 k y
def ob4 (a:Value) (b:Value) (c:Qe) (R:Kn):Prop:=
 Qe4 prog 3 a 14 c (ob4B b) fun d=>ob5 a b d R
def ob3B (d:Value) (e:Value) (f:Value) (a:Qe) (k:Qe->Prop):Prop:=
 Y1 51 e f fun g=>
 LdN a 51 g fun i=>
 Y5 a (.cells z55 55) fun b j=>
 StK j 51 b i fun c=>
 LdN c 51 b fun l=>
 Qa prog 65 #[l] c fun m o=>
 Q3 d fun p=>
 Qg p 10 fun q=>
 StK o 1 q m fun r=>
 k r
def ob3 (a:Value) (b:Value) (c:Qe) (R:Kn):Prop:=
 Qe4 prog 3 a 12 c (ob3B b) fun d=>ob4 a b d R
def ob2B (c:Value) (g:Value) (i:Value) (d:Qe) (k:Qe->Prop):Prop:=
 Y1 51 g i fun j=>
 LdN d 51 j fun l=>
 Y5 d (.cells z55 55) fun e m=>
 StK m 51 e l fun a=>
 Q3 c fun o=>
 Qg o 9 fun p=>
 LdK a p fun q=>
 LdN a 51 e fun r=>
 Qa prog 65 #[r] a fun s b=>
 Qi a b<|
 Q8 b 89 1 (YV z89.toList 1) [(0,1,s)] fun t f=>
 Qi b f<|
 Qbs f 89 1 8 z89 q t fun u v=>
 Q3 c fun w=>
 Qg w 9 fun y=>
 StK v 1 y u fun z=>
 k z
def ob2 (a:Value) (b:Value) (c:Qe) (R:Kn):Prop:=
 Qe4 prog 3 a 11 c (ob2B b) fun d=>ob3 a b d R
def ob1B (e:Value) (f:Value) (g:Value) (c:Qe) (k:Qe->Prop):Prop:=
 Y1 7 f g fun i=>
 LdN c 7 i fun j=>
 Y5 c (.cells z114 114) fun b l=>
 StK l 7 b j fun a=>
 Qg b 0 fun m=>
 LdK a m fun o=>
 QaK prog 170 #[o] fun p=>
 Qg b 1 fun q=>
 LdK a q fun r=>
 QaK prog 170 #[r] fun s=>
 Qg b 2 fun t=>
 LdK a t fun u=>
 QaK prog 170 #[u] fun v=>
 Qg b 3 fun w=>
 LdK a w fun y=>
 QaK prog 174 #[y] fun z=>
 Qg b 4 fun a0=>
 LdK a a0 fun a1=>
 Qg b 5 fun a2=>
 LdK a a2 fun a3=>
 Qg b 6 fun a4=>
 LdK a a4 fun a5=>
 Qz z169.toList [(0,1,a3),(1,1,a5)] fun a6=>
 Y5 a (.cells (Value.cells a6) 169) fun a7 d=>
 Qi a d<|
 Qz z167.toList [(0,1,p),(1,1,s),(2,1,v),(3,1,z),(4,1,a1),(5,1,a7)] fun a8=>
 Y5 d (.cells (Value.cells a8) 167) fun a9 b0=>
 Q3 e fun b1=>
 Qg b1 0 fun b2=>
 StK b0 1 b2 a9 fun b3=>
 k b3
def ob1 (a:Value) (b:Value) (c:Qe) (R:Kn):Prop:=
 Qe4 prog 3 a 0 c (ob1B b) fun d=>ob2 a b d R
def s65 (t:Value) (h:Qe) (R:Kn):Prop:=
 Y5 h (.cells (Value.cells t) 55) fun b a=>
 Qg b 1 fun u=>
 LdK a u fun v=>
 Qg b 2 fun w=>
 LdK a w fun y=>
 Qg b 3 fun z=>
 LdK a z fun a0=>
 Qg b 4 fun a1=>
 LdK a a1 fun a2=>
 Qg b 5 fun a3=>
 LdK a a3 fun a4=>
 Qg b 9 fun a5=>
 LdK a a5 fun a6=>
 Qg b 10 fun a7=>
 LdK a a7 fun a8=>
 Qg b 13 fun a9=>
 LdK a a9 fun b0=>
 Qg b 15 fun b1=>
 LdK a b1 fun b2=>
 Qg b 16 fun b3=>
 LdK a b3 fun b4=>
 Qg b 17 fun b5=>
 LdK a b5 fun b6=>
 Qg b 18 fun b7=>
 LdK a b7 fun b8=>
 Qg b 19 fun b9=>
 LdK a b9 fun c0=>
 Qg b 20 fun c1=>
 LdK a c1 fun c2=>
 Qg b 21 fun c3=>
 LdK a c3 fun c4=>
 Qg b 22 fun c5=>
 LdK a c5 fun c6=>
 Qg b 23 fun c7=>
 LdK a c7 fun c8=>
 Qg b 24 fun c9=>
 LdK a c9 fun d0=>
 Qg b 25 fun d1=>
 LdK a d1 fun d2=>
 Qg b 26 fun d3=>
 LdK a d3 fun d4=>
 Qg b 27 fun d5=>
 LdK a d5 fun d6=>
 Qg b 28 fun d7=>
 LdK a d7 fun d8=>
 Qg b 30 fun d9=>
 LdK a d9 fun e0=>
 Qg b 31 fun e1=>
 LdK a e1 fun e2=>
 Qg b 32 fun e3=>
 LdK a e3 fun e4=>
 Qg b 35 fun e5=>
 LdK a e5 fun e6=>
 Qg b 36 fun e7=>
 LdK a e7 fun e8=>
 Qg b 37 fun e9=>
 LdK a e9 fun f0=>
 Qg b 38 fun f1=>
 LdK a f1 fun f2=>
 Qg b 39 fun f3=>
 LdK a f3 fun f4=>
 Qg b 40 fun f5=>
 LdK a f5 fun f6=>
 Qg b 41 fun f7=>
 LdK a f7 fun f8=>
 Qg b 42 fun f9=>
 LdK a f9 fun g0=>
 Qg b 50 fun g1=>
 LdK a g1 fun g2=>
 Qa prog 166 #[a2] a fun g3 c=>
 Qi a c<|
 Qa prog 167 #[a6] c fun g4 d=>
 Qi c d<|
 Qa prog 168 #[a8] d fun g5 e=>
 Qi d e<|
 Qa prog 166 #[b0] e fun g6 f=>
 Qi e f<|
 Qa prog 169 #[d0] f fun g7 g=>
 Qi f g<|
 QaK prog 170 #[d2] fun g8=>
 QaK prog 170 #[d4] fun g9=>
 QaK prog 170 #[d6] fun i0=>
 Qa prog 168 #[d8] g fun i1 i=>
 Qi g i<|
 Qa prog 166 #[e0] i fun i2 j=>
 Qi i j<|
 Qa prog 167 #[e2] j fun i3 l=>
 Qi j l<|
 Qa prog 171 #[e4] l fun i4 m=>
 Qi l m<|
 Qa prog 172 #[e6] m fun i5 o=>
 Qi m o<|
 Qa prog 173 #[f0] o fun i6 p=>
 Qi o p<|
 Qa prog 172 #[f2] p fun i7 q=>
 Qi p q<|
 Qa prog 173 #[f6] q fun i8 r=>
 Qi q r<|
 Qa prog 173 #[g0] r fun i9 s=>
 Qi r s<|
 Qz z160.toList [(1,1,v),(2,1,y),(3,1,a0),(4,1,g3),(5,1,a4),(7,1,g4),(8,1,g5),(11,1,g6),(13,1,b2),(14,1,b4),(15,1,b6),(16,1,b8),(17,1,c0),(18,1,c2),(19,1,c4),(20,1,c6),(21,1,c8),(22,1,g7),(23,1,g8),(24,1,g9),(25,1,i0),(26,1,i1),(28,1,i2),(29,1,i3),(30,1,i4),(33,1,i5),(34,1,e8),(35,1,i6),(36,1,i7),(37,1,f4),(38,1,i8),(39,1,f8),(40,1,i9),(44,1,g2)] fun j0=>
 Y5 s (.cells (Value.cells j0) 160) fun j1 j2=>
 ob1 b j1 j2 R
theorem w65 {a h R} (H:s65 a h R):FnS prog 65 #[a] h R:=wq Tryz.func65 (by kernel_rfl) H
def tf2 (a:Value) (b:Qe) (R:Kn):Prop:=
 R a b
def tf1B (c:Value) (d:Value) (e:Value) (a:Qe) (k:Kn):Prop:=
 Y1 1 c d fun f=>
 LdK a f fun b=>
 Q3 b fun g=>
 Qg g 0 fun i=>
 LdK a i fun j=>
 Q3 b fun l=>
 Qg l 1 fun m=>
 LdK a m fun o=>
 Qz z117.toList [(0,1,j),(1,1,o)] fun p=>
 Q8 a 117 1 (YV z117.toList 1) [(0,2,p)] fun q r=>
 Qbs r 117 2 4 z117 e q fun s t=>
 k s t
def tf1 (a:Value) (h:Qe) (R:Kn):Prop:=
 Qdc prog 3 a h (tf1B a) fun b c=>tf2 b c R
def s73 (a:Value) (h:Qe) (R:Kn):Prop:=
 tf1 a h R
theorem w73 {a h R} (H:s73 a h R):FnS prog 73 #[a] h R:=wq Tryz.func73 (by kernel_rfl) H
def df2 (a:Value) (b:Qe) (R:Kn):Prop:=
 R a b
def df1B (b:Value) (c:Value) (d:Value) (a:Qe) (k:Kn):Prop:=
 Y1 1 b c fun e=>
 LdK a e fun f=>
 Q3 f fun g=>
 Qg g 0 fun i=>
 LdK a i fun j=>
 Q8 a 31 1 (YV z31.toList 1) [(0,1,j)] fun l m=>
 Qbs m 31 1 8 z31 d l fun o p=>
 k o p
def df1 (a:Value) (h:Qe) (R:Kn):Prop:=
 Qdc prog 3 a h (df1B a) fun b c=>df2 b c R
def s75 (a:Value) (h:Qe) (R:Kn):Prop:=
 df1 a h R
theorem w75 {a h R} (H:s75 a h R):FnS prog 75 #[a] h R:=wq Tryz.func75 (by kernel_rfl) H
def s77 (l e:Value) (h:Qe) (R:Kn):Prop:=
 Y5 h (.cells z50 50) fun f m=>
 Qz z50.toList [(0,1,l)] fun o=>
 Y5 m (.cells z50 50) fun b p=>
 StK p 3 b o fun c=>
 QD (fun a=>
 Qjf 89 true (.pointer none) e fun g=>
 QgT g 1 fun q=>
 QgT g 0 fun r=>
 IfK q
 (Qa prog 30 #[r] c fun s t=>
 Q8 t 55 1 (YV z55.toList 1) [(0,51,s)] fun u v=>
 Qg b 1 fun w=>
 StK v 1 w u fun y=>
 a [] y)
 (Qjf 278 true (.pointer none) e fun i=>
 QgT i 1 fun z=>
 QgT i 0 fun a0=>
 IfK z
 (Qax a0 0 c fun a1=>
 Qg b 2 fun a2=>
 StK c 1 a2 a1 fun a3=>
 a [] a3)
 (a [] c))) fun a=>∀d:Qe,a [] d->
 LdN d 3 b fun a4=>
 StK d 3 f a4 fun j=>
 LdN j 3 f fun a5=>
 R a5 j
theorem w77 {a b h R} (H:s77 a b h R):FnS prog 77 #[a,b] h R:=wq Tryz.func77 (by kernel_rfl) H
def s154 (d v w:Value) (h:Qe) (R:Kn):Prop:=
 Y5 h (.cells (Value.cells w) 185) fun c y=>
 Y5 y (.cells z50 50) fun a i=>
 ZI prog (Op.unary .not v) fun e=>
 Qc e false (fun z=>z d i) i fun a0 j=>
 Qc e false (fun a1=>Qk prog .eql 5 a0 (.int .u8 0) fun a2=>a1 a2 j) j fun a3 l=>
 Yd e (.bool true) a3 fun a4=>
 IfK a4
 (Qz z50.toList [] fun a5=>
 StK l 3 a a5 fun m=>
 LdN m 3 a fun a6=>
 R a6 m)
 (Qz z50.toList [(0,1,d)] fun a7=>
 Y5 l (.cells z50 50) fun b a8=>
 StK a8 3 b a7 fun o=>
 Qk prog .eql 5 d (.int .u8 2) fun a9=>
 IfK a9
 (Y5 o (.cells z312 312) fun p f=>
 Qg c 0 fun b0=>
 LdK f b0 fun b1=>
 Qg c 1 fun b2=>
 LdK f b2 fun b3=>
 Qa prog 297 #[p,b1,b3] f fun _x25 b4=>
 Qa prog 298 #[p] b4 fun b5 b6=>
 Qg b 2 fun b7=>
 StK b6 1 b7 b5 fun q=>
 LdN q 3 b fun b8=>
 StK q 3 a b8 fun r=>
 LdN r 3 a fun b9=>
 R b9 r)
 (Y5 o (.cells z187 187) fun s g=>
 Qg c 0 fun c0=>
 LdK g c0 fun c1=>
 Qg c 1 fun c2=>
 LdK g c2 fun c3=>
 Qa prog 79 #[s,c1,c3] g fun _x33 c4=>
 Qa prog 35 #[s] c4 fun c5 c6=>
 Q8 c6 55 1 (YV z55.toList 1) [(0,51,c5)] fun c7 c8=>
 Qg b 1 fun c9=>
 StK c8 1 c9 c7 fun t=>
 LdN t 3 b fun d0=>
 StK t 3 a d0 fun u=>
 LdN u 3 a fun d1=>
 R d1 u))
theorem w154 {a b c h R} (H:s154 a b c h R):FnS prog 154 #[a,b,c] h R:=wq Tryz.func154 (by kernel_rfl) H
def s166 (a:Value) (h:Qe) (R:Kn):Prop:=
 Qk prog .eql 9 a (.string ⟨#[]⟩) fun b=>
 IfK b
 (R (.slice none 0 0) h)
 (S2BK h 5 a fun c d=>
 R c d)
theorem w166 {a h R} (H:s166 a h R):FnS prog 166 #[a] h R:=wq Tryz.func166 (by kernel_rfl) H
def ts2 (a:Value) (b:Qe) (R:Kn):Prop:=
 R a b
def ts1B (d:Value) (e:Value) (f:Value) (c:Qe) (k:Kn):Prop:=
 Y1 2 d e fun g=>
 LdN c 2 g fun i=>
 Y5 c (.cells z117 117) fun a j=>
 StK j 2 a i fun b=>
 Qg a 0 fun l=>
 LdK b l fun m=>
 Qg a 1 fun o=>
 LdK b o fun p=>
 Qz z169.toList [(0,1,m),(1,1,p)] fun q=>
 Y5 b (.cells (Value.cells q) 169) fun r s=>
 Q8 s 165 1 (YV z165.toList 1) [(0,1,r)] fun t u=>
 Qbs u 165 1 8 z165 f t fun v w=>
 k v w
def ts1 (a:Value) (h:Qe) (R:Kn):Prop:=
 Qdc prog 3 a h (ts1B a) fun b c=>ts2 b c R
def s167 (a:Value) (h:Qe) (R:Kn):Prop:=
 ts1 a h R
theorem w167 {a h R} (H:s167 a h R):FnS prog 167 #[a] h R:=wq Tryz.func167 (by kernel_rfl) H
theorem w168 {a h R} (H:tp168 a h R):FnS prog 168 #[a] h R:=wq Tryz.func168 (by kernel_rfl) H
theorem w169 {a h R} (H:tp168 a h R):FnS prog 169 #[a] h R:=wq Tryz.func169 (by kernel_rfl) H
theorem w171 {a h R} (H:tp168 a h R):FnS prog 171 #[a] h R:=wq Tryz.func171 (by kernel_rfl) H
def rf2 (a:Value) (b:Qe) (R:Kn):Prop:=
 R a b
def rf1B (b:Value) (c:Value) (d:Value) (a:Qe) (k:Kn):Prop:=
 Y1 1 b c fun e=>
 LdK a e fun f=>
 Qz z277.toList [(0,1,f)] fun g=>
 Y5 a (.cells (Value.cells g) 277) fun i j=>
 Q8 j 258 1 (YV z258.toList 1) [(0,1,i)] fun l m=>
 Qbs m 258 1 8 z258 d l fun o p=>
 k o p
def rf1 (a:Value) (h:Qe) (R:Kn):Prop:=
 Qdc prog 3 a h (rf1B a) fun b c=>rf2 b c R
def s172 (a:Value) (h:Qe) (R:Kn):Prop:=
 rf1 a h R
theorem w172 {a h R} (H:s172 a h R):FnS prog 172 #[a] h R:=wq Tryz.func172 (by kernel_rfl) H
theorem w173 {a h R} (H:tp168 a h R):FnS prog 173 #[a] h R:=wq Tryz.func173 (by kernel_rfl) H
def s175 (c:Value) (h:Qe) (R:Kn):Prop:=
 Y5 h (.cells (Value.cells c) 50) fun b a=>
 Qg b 0 fun d=>
 LdK a d fun e=>
 Qk prog .eql 5 e (.int .u8 2) fun f=>
 IfK f
 (Qg b 2 fun g=>
 LdK a g fun i=>
 Qz z280.toList [(0,1,i)] fun j=>
 Y5 a (.cells (Value.cells j) 280) fun l m=>
 R (.iface 278 l) m)
 (LdN a 3 b fun o=>
 Qa prog 176 #[o] a fun p q=>
 R (.iface 89 p) q)
theorem w175 {a h R} (H:s175 a h R):FnS prog 175 #[a] h R:=wq Tryz.func175 (by kernel_rfl) H
def s176 (c:Value) (h:Qe) (R:Kn):Prop:=
 Y5 h (.cells (Value.cells c) 50) fun b a=>
 Qg b 1 fun d=>
 LdK a d fun e=>
 Yv e fun f=>
 Qk prog .eql 3 f (.int .i64 0) fun g=>
 IfK g
 (R (.pointer none) a)
 (Qg b 1 fun i=>
 LdK a i fun j=>
 Y1 51 j (.int .i64 0) fun l=>
 LdN a 51 l fun m=>
 Qa prog 65 #[m] a fun o p=>
 R o p)
theorem w176 {a h R} (H:s176 a h R):FnS prog 176 #[a] h R:=wq Tryz.func176 (by kernel_rfl) H
end Go.Proofs
namespace Go.Proofs
open Go Go.Vc
open Tryz (prog)
abbrev RM (G0:Cut) (H0:Qe) (q2 q3:Nat) (G:Cut) (H:Qe) (cells:List Value):Prop:=RS G0 H0 55 (.cells z55 55 (0,0)) q2 q3 G H cells
abbrev ptr (b:Nat):Value:=.pointer (some ⟨b,0,none⟩)
theorem YT {cells:List Value} {fld:Nat} {v:Value} (h:cells[fld]?=some v):cells.set fld v=cells:=by
 apply List.ext_getElem?
 intro j
 rw[List.getElem?_set]
 split
 ·rename_i e
  subst e
  split
  ·exact h.symm
  ·rename_i hlt;rw[List.getElem?_eq_none (by omega)]
 ·rfl
theorem Qfq {cells:List Value} {fld:Nat} {v w:Value} (h:cells[fld]?=some w):(cells.set fld v)[fld]?=some v:=by
 have:fld<cells.length:=by
  rcases Nat.lt_or_ge fld cells.length with hh|hh
  ·exact hh
  ·rw[List.getElem?_eq_none hh]at h;cases h
 simp[this]
theorem Qo {α:Type} {l:List α} {i:Nat} {a:α} (h:l[i]?=some a):i<l.length:=by
 rcases Nat.lt_or_ge i l.length with hh|hh
 ·exact hh
 ·rw[List.getElem?_eq_none hh]at h;cases h
theorem ZB {α:Type} {f:α->List Value} {l:List α} {i:Nat} {a:α} (h:l[i]?=some a):(l.take (i+1)).map f=(l.take i).map f++[f a]:=by
 rw[List.take_add_one,h];simp
theorem Qdf {α:Type} {l:List α} {i:Nat} {a:α} (h:l[i]?=some a):l.take (i+1)=l.take i++[a]:=by
 rw[List.take_add_one,h];simp
section
variable {G0:Cut} {H0:Qe} {q2 q3:Nat} {G:Cut} {H:Qe} {cells:List Value} (rs:RM G0 H0 q2 q3 G H cells)
include rs
theorem app_loop {P:Program} {t:TypeId} {lenf:FuncId} {x0:Value} {Bd:Value->Qe->(Qe->Prop)->Prop} {K:Qe->Prop} {fld es:Nat} {et:TypeId} {n:Nat} (Items:Cut->Nat->List (List Value)->Prop) (h0:Items G 0 []) (hc:cells[fld]?=some (.slice none 0 0)) (hn:n<4611686018427387904)
  (hlen:∀H' (R:Kn),Qaf H0 H'->R (.int .i64 (n:Nat)) H'->FnS P lenf #[x0] H' R)
  (hB:∀i G1 H' c cells' items (k:Qe->Prop),i<n->G.le G1->RM G0 H0 q2 q3 G1 H' cells'->cells'[fld]?=some c->Cur H0 G1 H' et es c items (badq q2 q3)->Items G1 i items->
   (∀G2 H2 c2 items2,G1.le G2->RM G0 H0 q2 q3 G2 H2 (cells'.set fld c2)->Cur H0 G2 H2 et es c2 items2 (badq q2 q3)->Items G2 (i+1) items2->k H2)->Bd (.int .i64 (i:Nat)) H' k)
  (hk:∀G' G1 H' c items,RM G0 H0 q2 q3 G' H' (cells.set fld c)->G.le G'->SlV G' es c items->Items G1 n items->G1.le G'->K H'):Qaa P t lenf x0 Bd H K:=by
 refine cntLoop_of (n:=n) (fun i H'=>∃G1 c items,G.le G1/\RM G0 H0 q2 q3 G1 H' (cells.set fld c)/\Cur H0 G1 H' et es c items (badq q2 q3)/\Items G1 i items) ⟨G,_,[],Cut.le_refl G,by rw[YT hc];exact rs,Cur.nil,h0⟩ hn ?_ ?_ ?_
 ·rintro i H' R ⟨G1,c,items,_,rs',_⟩ hR
  exact hlen H' R rs'.ext.keep hR
 ·rintro i H' k hlt ⟨G1,c,items,hle,rs',hc',hi⟩ hk'
  refine hB i G1 H' c _ items k hlt hle rs' (Qfq hc) hc' hi ?_
  intro G2 H2 c2 items2 hle2 rs2 hc2 hi2
  exact hk' H2 ⟨G2,c2,items2,Cut.le_trans hle hle2,by rw[List.set_set]at rs2;exact rs2,hc2,hi2⟩
 ·rintro H' ⟨G1,c,items,hle,rs',hc',hi⟩
  obtain ⟨G',e',sl,le,hown⟩:=hc'.done rs'.ext
  exact hk G' G1 H' c items ⟨e',hown _ _ (Or.inl rfl) rs'.o2,hown _ _ (Or.inr rfl) rs'.o3,rs'.ne⟩ (Cut.le_trans hle le) sl hi le
theorem QbD {α:Type} {l:List α} {f:α->List Value} {P:Program} {t:TypeId} {lenf:FuncId} {x0:Value} {Bd:Value->Qe->(Qe->Prop)->Prop} {K:Qe->Prop} {fld es:Nat} {et:TypeId} (hc:cells[fld]?=some (.slice none 0 0)) (hn:l.length<4611686018427387904)
  (hlen:∀H' (R:Kn),Qaf H0 H'->R (.int .i64 (l.length:Nat)) H'->FnS P lenf #[x0] H' R)
  (hB:∀i a H' c cells' (k:Qe->Prop),l[i]?=some a->RM G0 H0 q2 q3 G H' cells'->cells'[fld]?=some c->Cur H0 G H' et es c ((l.take i).map f) (badq q2 q3)->((l.take i).map f).length<l.length->
   (∀H2 c2,RM G0 H0 q2 q3 G H2 (cells'.set fld c2)->Cur H0 G H2 et es c2 ((l.take i).map f++[f a]) (badq q2 q3)->k H2)->Bd (.int .i64 (i:Nat)) H' k)
  (hk:∀G' H' c,RM G0 H0 q2 q3 G' H' (cells.set fld c)->G.le G'->SlV G' es c (l.map f)->K H'):Qaa P t lenf x0 Bd H K:=by
 refine app_loop rs (et:=et) (es:=es) (fun G1 i items=>G1=G/\items=(l.take i).map f) ⟨rfl,by simp⟩ hc hn hlen ?_ ?_
 ·rintro i G1 H' c cells' items k hlt _ rs' hc' hcur ⟨rfl,rfl⟩ hk'
  have ha:=List.getElem?_eq_getElem hlt
  refine hB i _ H' c cells' k ha rs' hc' hcur (by rw[List.length_map,List.length_take];omega) ?_
  intro H2 c2 rs2 hc2
  exact hk' _ H2 c2 _ (Cut.le_refl _) rs2 hc2 ⟨rfl,(ZB ha).symm⟩
 ·rintro G' G1 H' c items rs' hle sl ⟨rfl,rfl⟩ _
  rw[List.take_length]at sl
  exact hk G' H' c rs' hle sl
theorem Qi6 {P:Program} {t:TypeId} {lenf:FuncId} {x0:Value} {Bd:Value->Qe->(Qe->Prop)->Prop} {K:Qe->Prop} {fld:Nat} {xs:List UInt8} (hc:cells[fld]?=some (Yf [])) (hn:xs.length<4611686018427387904)
  (hlen:∀H' (R:Kn),Qaf H0 H'->R (.int .i64 (xs.length:Nat)) H'->FnS P lenf #[x0] H' R)
  (hB:∀i b H' cells' (k:Qe->Prop),xs[i]?=some b->RM G0 H0 q2 q3 G H' cells'->cells'[fld]?=some (Yf (xs.take i))->(xs.take i).length+1<=9223372036854775807->(∀H2,RM G0 H0 q2 q3 G H2 (cells'.set fld (Yf (xs.take i++[b])))->k H2)->Bd (.int .i64 (i:Nat)) H' k)
  (hk:∀H',RM G0 H0 q2 q3 G H' (cells.set fld (Yf xs))->K H'):Qaa P t lenf x0 Bd H K:=by
 refine cntLoop_of (n:=xs.length) (fun i H'=>RM G0 H0 q2 q3 G H' (cells.set fld (Yf (xs.take i)))) (by rw[List.take_zero,YT hc];exact rs) hn ?_ ?_ ?_
 ·intro i H' R rs' hR
  exact hlen H' R rs'.ext.keep hR
 ·intro i H' k hlt rs' hk'
  have ha:=List.getElem?_eq_getElem hlt
  refine hB i _ H' _ k ha rs' (Qfq hc) (by rw[List.length_take];omega) ?_
  intro H2 rs2
  rw[List.set_set,<-Qdf ha]at rs2
  exact hk' H2 rs2
 ·intro H' rs'
  rw[List.take_length]at rs'
  exact hk H' rs'
end
theorem bool_at {bs:List UInt8} {p:Nat} {b:Bool} (h:Qx bs p (Qho b)):vB (byteN bs p)= .bool b:=by
 have:=h.byte (i:=0) Nat.zero_lt_one
 rw[Nat.add_zero]at this
 rw[this]
 cases b<;>rfl
theorem Y6 {zs:List Value} {parts:List (Nat×Nat×Value)} {cs:List Value} {k:Value->Prop} (h:YJ zs parts=some cs) (hk:k (.agg cs.toArray)):Qz zs parts k:=by
 unfold Qz;simp only[h];exact hk
section
variable {A p B pos vt:Nat} {bs:List UInt8} {d:Qbt} {G0:Cut} {H0:Qe} (ht:Tab H0 p B bs pos) (hv:VT bs pos vt) {q2 q3:Nat} {G:Cut} {H:Qe} {cells:List Value} (rs:RM G0 H0 q2 q3 G H cells) {R:Kn}
include ht hv rs
theorem rm2_ok (own:YD A bs pos vt 14 (d.inventory=[]) (Qb3 (QhF d.inventory))) (hc:cells[4]?=some (Yf [])) (hk:∀H',RM G0 H0 q2 q3 G H' (cells.set 4 (Yf d.inventory))->rm3 (ptr p) (ptr q3) (ptr q2) H' R):rm2 (ptr p) (ptr q3) (ptr q2) H R:=by
 obtain ⟨at_,hf,hi⟩:=own.strW
 have hn:=Qej.n_le hf (by decide)
 have hlt:=ht.lt
 unfold rm2
 refine Qi6 rs (xs:=d.inventory) hc (by omega) (fun H' R hK hR=>Qd3 (ht.ext hK.ext) hv hf hR) ?_ hk
 intro i b H' cells' k hb rs' hc' hl hk'
 have hil:=Qo hb
 have hbv:byteN bs (at_+1*i)=b.toNat:=by
  rw[Nat.one_mul,hi.byte hil];simp[byteN,List.getD,hb]
 unfold rm2B
 rw[Qm,rs'.ld hc']
 refine QeM (rs'.tab ht) hv hf hil ?_
 rw[Qb,hbv]
 exact rs'.push_byte rfl hl (Qo hc') hk'
theorem rm7_ok (own:YD A bs pos vt 30 (d.nested=[]) (Qb3 (QhF d.nested))) (hc:cells[13]?=some (Yf [])) (hk:∀H',RM G0 H0 q2 q3 G H' (cells.set 13 (Yf d.nested))->rm8 (ptr p) (ptr q3) (ptr q2) H' R):rm7 (ptr p) (ptr q3) (ptr q2) H R:=by
 obtain ⟨at_,hf,hi⟩:=own.strW
 have hn:=Qej.n_le hf (by decide)
 have hlt:=ht.lt
 unfold rm7
 refine Qi6 rs (xs:=d.nested) hc (by omega) (fun H' R hK hR=>QaN (ht.ext hK.ext) hv hf hR) ?_ hk
 intro i b H' cells' k hb rs' hc' hl hk'
 have hil:=Qo hb
 have hbv:byteN bs (at_+1*i)=b.toNat:=by
  rw[Nat.one_mul,hi.byte hil];simp[byteN,List.getD,hb]
 unfold rm7B
 rw[Qm,rs'.ld hc']
 refine QbU (rs'.tab ht) hv hf hil ?_
 rw[Qb,hbv]
 exact rs'.push_byte rfl hl (Qo hc') hk'
theorem rm12_ok (own:YD A bs pos vt 64 (d.flex=[]) (Qb3 (QhF d.flex))) (hc:cells[30]?=some (Yf [])) (hk:∀H',RM G0 H0 q2 q3 G H' (cells.set 30 (Yf d.flex))->rm13 (ptr p) (ptr q3) (ptr q2) H' R):rm12 (ptr p) (ptr q3) (ptr q2) H R:=by
 obtain ⟨at_,hf,hi⟩:=own.strW
 have hn:=Qej.n_le hf (by decide)
 have hlt:=ht.lt
 unfold rm12
 refine Qi6 rs (xs:=d.flex) hc (by omega) (fun H' R hK hR=>Qen (ht.ext hK.ext) hv hf hR) ?_ hk
 intro i b H' cells' k hb rs' hc' hl hk'
 have hil:=Qo hb
 have hbv:byteN bs (at_+1*i)=b.toNat:=by
  rw[Nat.one_mul,hi.byte hil];simp[byteN,List.getD,hb]
 unfold rm12B
 rw[Qm,rs'.ld hc']
 refine QgY (rs'.tab ht) hv hf hil ?_
 rw[Qb,hbv]
 exact rs'.push_byte rfl hl (Qo hc') hk'
theorem rm9_ok (own:YD A bs pos vt 52 ((d.bools.map Qho)=[]) (Qb3 (QdM 1 (d.bools.map Qho)))) (hc:cells[24]?=some (.slice none 0 0)) (hk:∀G' H' c,RM G0 H0 q2 q3 G' H' (cells.set 24 c)->G.le G'->SlV G' 1 c (d.bools.map QgW)->rm10 (ptr p) (ptr q3) (ptr q2) H' R):rm9 (ptr p) (ptr q3) (ptr q2) H R:=by
 obtain ⟨at_,hf,hi⟩:=own.vecW (Yh (fun b:Bool=>(rfl:(Qho b).length=1)) (l:=d.bools))
 rw[List.length_map]at hf
 have hn:=Qej.n_le hf (by decide)
 have hlt:=ht.lt
 unfold rm9
 refine QbD rs (l:=d.bools) (f:=QgW) (et:=4) hc (by omega) (fun H' R hK hR=>ZK (ht.ext hK.ext) hv hf hR) ?_ hk
 intro i a H' c cells' k ha rs' hc' hcur hil hk'
 have hia:=Qo ha
 have hby:=hi i _ (by rw[List.getElem?_map,ha];rfl)
 unfold rm9B
 rw[Qm,rs'.ld hc']
 refine Qam (rs'.tab ht) hv hf hia ?_
 rw[Qb,bool_at hby]
 exact rs'.push_item hcur (it:=QgW a) rfl rfl (by intro x hx;simp only[QgW,List.mem_cons,List.not_mem_nil,or_false]at hx;subst hx;rfl) (by decide) rfl (by decide) (by omega) (Qo hc') hk'
theorem rm14_ok (own:YD A bs pos vt 68 ((d.longs.map Qdt)=[]) (Qb3 (QdM 8 (d.longs.map Qdt)))) (hc:cells[32]?=some (.slice none 0 0)) (hk:∀G' H' c,RM G0 H0 q2 q3 G' H' (cells.set 32 c)->G.le G'->SlV G' 1 c (d.longs.map i64I)->rm15 (ptr p) (ptr q3) (ptr q2) H' R):rm14 (ptr p) (ptr q3) (ptr q2) H R:=by
 obtain ⟨at_,hf,hi⟩:=own.vecW (Yh (fun x=>Qf _ _))
 rw[List.length_map]at hf
 have hn:=Qej.n_le hf (by decide)
 have hlt:=ht.lt
 unfold rm14
 refine QbD rs (l:=d.longs) (f:=i64I) (et:=2) hc (by omega) (fun H' R hK hR=>Qa0 (ht.ext hK.ext) hv hf hR) ?_ hk
 intro i a H' c cells' k ha rs' hc' hcur hil hk'
 have hia:=Qo ha
 have hby:=hi i _ (by rw[List.getElem?_map,ha];rfl)
 unfold rm14B
 rw[Qm,rs'.ld hc']
 refine QaP (rs'.tab ht) hv hf hia ?_
 rw[Qb,QeF hby]
 exact rs'.push_item hcur (it:=i64I a) rfl rfl (by intro x hx;simp only[i64I,List.mem_cons,List.not_mem_nil,or_false]at hx;subst hx;rfl) (by decide) rfl (by decide) (by omega) (Qo hc') hk'
theorem rm15_ok (own:YD A bs pos vt 70 ((d.doubles.map Qdt)=[]) (Qb3 (QdM 8 (d.doubles.map Qdt)))) (hc:cells[33]?=some (.slice none 0 0)) (hk:∀G' H' c,RM G0 H0 q2 q3 G' H' (cells.set 33 c)->G.le G'->SlV G' 1 c (d.doubles.map Qai)->rm16 (ptr p) (ptr q3) (ptr q2) H' R):rm15 (ptr p) (ptr q3) (ptr q2) H R:=by
 obtain ⟨at_,hf,hi⟩:=own.vecW (Yh (fun x=>Qf _ _))
 rw[List.length_map]at hf
 have hn:=Qej.n_le hf (by decide)
 have hlt:=ht.lt
 unfold rm15
 refine QbD rs (l:=d.doubles) (f:=Qai) (et:=31) hc (by omega) (fun H' R hK hR=>ZQ (ht.ext hK.ext) hv hf hR) ?_ hk
 intro i a H' c cells' k ha rs' hc' hcur hil hk'
 have hia:=Qo ha
 have hby:=hi i _ (by rw[List.getElem?_map,ha];rfl)
 unfold rm15B
 rw[Qm,rs'.ld hc']
 refine Qav (rs'.tab ht) hv hf hia ?_
 rw[Qb,QeF hby]
 refine QL (fun w=>Qbl) ?_
 exact rs'.push_item hcur (it:=Qai a) rfl rfl (by intro x hx;simp only[Qai,List.mem_cons,List.not_mem_nil,or_false]at hx;subst hx;rfl) (by decide) rfl (by decide) (by omega) (Qo hc') hk'
theorem rm17_ok (own:YD A bs pos vt 78 ((d.weak.map Qdt)=[]) (Qb3 (QdM 8 (d.weak.map Qdt)))) (hc:cells[37]?=some (.slice none 0 0)) (hk:∀G' H' c,RM G0 H0 q2 q3 G' H' (cells.set 37 c)->G.le G'->SlV G' 1 c (d.weak.map Qai)->rm18 (ptr p) (ptr q3) (ptr q2) H' R):rm17 (ptr p) (ptr q3) (ptr q2) H R:=by
 obtain ⟨at_,hf,hi⟩:=own.vecW (Yh (fun x=>Qf _ _))
 rw[List.length_map]at hf
 have hn:=Qej.n_le hf (by decide)
 have hlt:=ht.lt
 unfold rm17
 refine QbD rs (l:=d.weak) (f:=Qai) (et:=31) hc (by omega) (fun H' R hK hR=>Zs (ht.ext hK.ext) hv hf hR) ?_ hk
 intro i a H' c cells' k ha rs' hc' hcur hil hk'
 have hia:=Qo ha
 have hby:=hi i _ (by rw[List.getElem?_map,ha];rfl)
 unfold rm17B
 rw[Qm,rs'.ld hc']
 refine ZL (rs'.tab ht) hv hf hia ?_
 rw[Qb,QeF hby]
 exact rs'.push_item hcur (it:=Qai a) rfl rfl (by intro x hx;simp only[Qai,List.mem_cons,List.not_mem_nil,or_false]at hx;subst hx;rfl) (by decide) rfl (by decide) (by omega) (Qo hc') hk'
theorem rm19_ok (own:YD A bs pos vt 84 ((d.coOwnings.map Qdt)=[]) (Qb3 (QdM 8 (d.coOwnings.map Qdt)))) (hc:cells[40]?=some (.slice none 0 0)) (hk:∀G' H' c,RM G0 H0 q2 q3 G' H' (cells.set 40 c)->G.le G'->SlV G' 1 c (d.coOwnings.map Qai)->rm20 (ptr p) (ptr q3) (ptr q2) H' R):rm19 (ptr p) (ptr q3) (ptr q2) H R:=by
 obtain ⟨at_,hf,hi⟩:=own.vecW (Yh (fun x=>Qf _ _))
 rw[List.length_map]at hf
 have hn:=Qej.n_le hf (by decide)
 have hlt:=ht.lt
 unfold rm19
 refine QbD rs (l:=d.coOwnings) (f:=Qai) (et:=31) hc (by omega) (fun H' R hK hR=>Zb (ht.ext hK.ext) hv hf hR) ?_ hk
 intro i a H' c cells' k ha rs' hc' hcur hil hk'
 have hia:=Qo ha
 have hby:=hi i _ (by rw[List.getElem?_map,ha];rfl)
 unfold rm19B
 rw[Qm,rs'.ld hc']
 refine Z0 (rs'.tab ht) hv hf hia ?_
 rw[Qb,QeF hby]
 exact rs'.push_item hcur (it:=Qai a) rfl rfl (by intro x hx;simp only[Qai,List.mem_cons,List.not_mem_nil,or_false]at hx;subst hx;rfl) (by decide) rfl (by decide) (by omega) (Qo hc') hk'
theorem rm20_ok (own:YD A bs pos vt 88 ((d.nonOwnings.map Qdt)=[]) (Qb3 (QdM 8 (d.nonOwnings.map Qdt)))) (hc:cells[42]?=some (.slice none 0 0)) (hk:∀G' H' c,RM G0 H0 q2 q3 G' H' (cells.set 42 c)->G.le G'->SlV G' 1 c (d.nonOwnings.map Qai)->rm21 (ptr p) (ptr q3) (ptr q2) H' R):rm20 (ptr p) (ptr q3) (ptr q2) H R:=by
 obtain ⟨at_,hf,hi⟩:=own.vecW (Yh (fun x=>Qf _ _))
 rw[List.length_map]at hf
 have hn:=Qej.n_le hf (by decide)
 have hlt:=ht.lt
 unfold rm20
 refine QbD rs (l:=d.nonOwnings) (f:=Qai) (et:=31) hc (by omega) (fun H' R hK hR=>YX (ht.ext hK.ext) hv hf hR) ?_ hk
 intro i a H' c cells' k ha rs' hc' hcur hil hk'
 have hia:=Qo ha
 have hby:=hi i _ (by rw[List.getElem?_map,ha];rfl)
 unfold rm20B
 rw[Qm,rs'.ld hc']
 refine Zv (rs'.tab ht) hv hf hia ?_
 rw[Qb,QeF hby]
 exact rs'.push_item hcur (it:=Qai a) rfl rfl (by intro x hx;simp only[Qai,List.mem_cons,List.not_mem_nil,or_false]at hx;subst hx;rfl) (by decide) rfl (by decide) (by omega) (Qo hc') hk'
theorem rm3_ok (own:YD A bs pos vt 22 ((d.test4.map (fun t=>QcB t.a.toNat t.b.toNat))=[]) (Qb3 (QdM 4 (d.test4.map (fun t=>QcB t.a.toNat t.b.toNat))))) (hc:cells[9]?=some (.slice none 0 0)) (hk:∀G' H' c,RM G0 H0 q2 q3 G' H' (cells.set 9 c)->G.le G'->SlV G' 2 c (d.test4.map Yw)->rm4 (ptr p) (ptr q3) (ptr q2) H' R):rm3 (ptr p) (ptr q3) (ptr q2) H R:=by
 obtain ⟨at_,hf,hi⟩:=own.vecW (Yh (fun t:Qb8=>Qbi t.a.toNat t.b.toNat))
 rw[List.length_map]at hf
 have hn:=Qej.n_le hf (by decide)
 have hlt:=ht.lt
 unfold rm3
 refine QbD rs (l:=d.test4) (f:=Yw) (et:=117) hc (by omega) (fun H' R hK hR=>Qbr (ht.ext hK.ext) hv hf hR) ?_ hk
 intro i a H' c cells' k ha rs' hc' hcur hil hk'
 have hia:=Qo ha
 obtain ⟨b1,b2,b3⟩:=testB_at (hi i _ (by rw[List.getElem?_map,ha];rfl))
 unfold rm3B
 rw[Qy]
 have rs1:=rs'.push (.cells z211 211)
 refine Qds (rs1.tab ht) hv hf hia Qh rfl ?_
 rw[Yq]
 have rs2:=rs'.push (.cells #[bsl B 0 bs.length bs.length,.int .u32 (at_+4*i:Nat)] 211)
 have t2:Tab (H'.push (.cells #[bsl B 0 bs.length bs.length,.int .u32 (at_+4*i:Nat)] 211)) H'.size B bs (at_+4*i):=⟨Qj Qh,Qj Qh,(rs2.tab ht).u8,ht.lt,by omega⟩
 rw[Qm,rs2.ld hc']
 refine Qdg t2 (by omega) ?_
 rw[Qb]
 refine Qdj t2 (by omega) ?_
 rw[Qb,b2,b3]
 refine Y6 (cs:=Yw a) (by kernel_rfl) ?_
 exact rs2.push_item (hcur.push _) (it:=Yw a) rfl rfl (by intro x hx;simp only[Yw,List.mem_cons,List.not_mem_nil,or_false]at hx;rcases hx with rfl|rfl<;>rfl) (by decide) rfl (by decide) (by omega) (Qo hc') hk'
theorem rm13_ok (own:YD A bs pos vt 66 ((d.test5.map (fun t=>QcB t.a.toNat t.b.toNat))=[]) (Qb3 (QdM 4 (d.test5.map (fun t=>QcB t.a.toNat t.b.toNat))))) (hc:cells[31]?=some (.slice none 0 0)) (hk:∀G' H' c,RM G0 H0 q2 q3 G' H' (cells.set 31 c)->G.le G'->SlV G' 2 c (d.test5.map Yw)->rm14 (ptr p) (ptr q3) (ptr q2) H' R):rm13 (ptr p) (ptr q3) (ptr q2) H R:=by
 obtain ⟨at_,hf,hi⟩:=own.vecW (Yh (fun t:Qb8=>Qbi t.a.toNat t.b.toNat))
 rw[List.length_map]at hf
 have hn:=Qej.n_le hf (by decide)
 have hlt:=ht.lt
 unfold rm13
 refine QbD rs (l:=d.test5) (f:=Yw) (et:=117) hc (by omega) (fun H' R hK hR=>Qbj (ht.ext hK.ext) hv hf hR) ?_ hk
 intro i a H' c cells' k ha rs' hc' hcur hil hk'
 have hia:=Qo ha
 obtain ⟨b1,b2,b3⟩:=testB_at (hi i _ (by rw[List.getElem?_map,ha];rfl))
 unfold rm13B
 rw[Qy]
 have rs1:=rs'.push (.cells z211 211)
 refine Qdp (rs1.tab ht) hv hf hia Qh rfl ?_
 rw[Yq]
 have rs2:=rs'.push (.cells #[bsl B 0 bs.length bs.length,.int .u32 (at_+4*i:Nat)] 211)
 have t2:Tab (H'.push (.cells #[bsl B 0 bs.length bs.length,.int .u32 (at_+4*i:Nat)] 211)) H'.size B bs (at_+4*i):=⟨Qj Qh,Qj Qh,(rs2.tab ht).u8,ht.lt,by omega⟩
 rw[Qm,rs2.ld hc']
 refine Qdg t2 (by omega) ?_
 rw[Qb]
 refine Qdj t2 (by omega) ?_
 rw[Qb,b2,b3]
 refine Y6 (cs:=Yw a) (by kernel_rfl) ?_
 exact rs2.push_item (hcur.push _) (it:=Yw a) rfl rfl (by intro x hx;simp only[Yw,List.mem_cons,List.not_mem_nil,or_false]at hx;rcases hx with rfl|rfl<;>rfl) (by decide) rfl (by decide) (by omega) (Qo hc') hk'
theorem rm11_ok (own:YD A bs pos vt 62 ((d.abilities.map (fun t=>QaJ t.id.toNat t.dist.toNat))=[]) (Qb3 (QdM 8 (d.abilities.map (fun t=>QaJ t.id.toNat t.dist.toNat))))) (hc:cells[29]?=some (.slice none 0 0)) (hk:∀G' H' c,RM G0 H0 q2 q3 G' H' (cells.set 29 c)->G.le G'->SlV G' 2 c (d.abilities.map ZN)->rm12 (ptr p) (ptr q3) (ptr q2) H' R):rm11 (ptr p) (ptr q3) (ptr q2) H R:=by
 obtain ⟨at_,hf,hi⟩:=own.vecW (Yh (fun t:QeJ=>Qcl t.id.toNat t.dist.toNat))
 rw[List.length_map]at hf
 have hn:=Qej.n_le hf (by decide)
 have hlt:=ht.lt
 unfold rm11
 refine QbD rs (l:=d.abilities) (f:=ZN) (et:=123) hc (by omega) (fun H' R hK hR=>Zn (ht.ext hK.ext) hv hf hR) ?_ hk
 intro i a H' c cells' k ha rs' hc' hcur hil hk'
 have hia:=Qo ha
 obtain ⟨b1,b2,b3⟩:=abilB_at (hi i _ (by rw[List.getElem?_map,ha];rfl))
 unfold rm11B
 rw[Qy]
 have rs1:=rs'.push (.cells z219 219)
 refine ZH (rs1.tab ht) hv hf hia Qh rfl ?_
 rw[Yq]
 have rs2:=rs'.push (.cells #[bsl B 0 bs.length bs.length,.int .u32 (at_+8*i:Nat)] 219)
 have t2:Tab (H'.push (.cells #[bsl B 0 bs.length bs.length,.int .u32 (at_+8*i:Nat)] 219)) H'.size B bs (at_+8*i):=⟨Qj Qh,Qj Qh,(rs2.tab ht).u8,ht.lt,by omega⟩
 rw[Qm,rs2.ld hc']
 refine Qev t2 (by omega) ?_
 rw[Qb]
 refine Qcf t2 (by omega) ?_
 rw[Qb,b2,b3]
 refine Y6 (cs:=ZN a) (by kernel_rfl) ?_
 exact rs2.push_item (hcur.push _) (it:=ZN a) rfl rfl (by intro x hx;simp only[ZN,List.mem_cons,List.not_mem_nil,or_false]at hx;rcases hx with rfl|rfl<;>rfl) (by decide) rfl (by decide) (by omega) (Qo hc') hk'
theorem rm4_ok (own:YD A bs pos vt 24 (d.strings=[]) (Qb3 (VecTW d.strings QhF))) (hc:cells[10]?=some (.slice none 0 0)) (hk:∀G' H' c,RM G0 H0 q2 q3 G' H' (cells.set 10 c)->G.le G'->SlV G' 1 c (d.strings.map Qfd)->rm5 (ptr p) (ptr q3) (ptr q2) H' R):rm4 (ptr p) (ptr q3) (ptr q2) H R:=by
 obtain ⟨at_,hf,hi⟩:=own.vecTW
 have hn:=Qej.n_le hf (by decide)
 have hlt:=ht.lt
 unfold rm4
 refine QbD rs (l:=d.strings) (f:=Qfd) (et:=9) hc (by omega) (fun H' R hK hR=>ZE (ht.ext hK.ext) hv hf hR) ?_ hk
 intro i a H' c cells' k ha rs' hc' hcur hil hk'
 have hia:=Qo ha
 obtain ⟨s1,s2⟩:=QhF.at (hi i a ha)
 unfold rm4B
 rw[Qm,rs'.ld hc']
 refine Qah (rs'.tab ht) hv hf hia s1 ?_
 rw[Qb]
 refine (rs'.tab ht).str s2 rfl ?_
 exact rs'.push_item hcur (it:=Qfd a) rfl rfl (by intro x hx;simp only[Qfd,List.mem_cons,List.not_mem_nil,or_false]at hx;subst hx;rfl) (by decide) rfl (by decide) (by omega) (Qo hc') hk'
theorem rm10_ok (own:YD A bs pos vt 60 (d.strings2=[]) (Qb3 (VecTW d.strings2 QhF))) (hc:cells[28]?=some (.slice none 0 0)) (hk:∀G' H' c,RM G0 H0 q2 q3 G' H' (cells.set 28 c)->G.le G'->SlV G' 1 c (d.strings2.map Qfd)->rm11 (ptr p) (ptr q3) (ptr q2) H' R):rm10 (ptr p) (ptr q3) (ptr q2) H R:=by
 obtain ⟨at_,hf,hi⟩:=own.vecTW
 have hn:=Qej.n_le hf (by decide)
 have hlt:=ht.lt
 unfold rm10
 refine QbD rs (l:=d.strings2) (f:=Qfd) (et:=9) hc (by omega) (fun H' R hK hR=>ZA (ht.ext hK.ext) hv hf hR) ?_ hk
 intro i a H' c cells' k ha rs' hc' hcur hil hk'
 have hia:=Qo ha
 obtain ⟨s1,s2⟩:=QhF.at (hi i a ha)
 unfold rm10B
 rw[Qm,rs'.ld hc']
 refine Qa5 (rs'.tab ht) hv hf hia s1 ?_
 rw[Qb]
 refine (rs'.tab ht).str s2 rfl ?_
 exact rs'.push_item hcur (it:=Qfd a) rfl rfl (by intro x hx;simp only[Qfd,List.mem_cons,List.not_mem_nil,or_false]at hx;subst hx;rfl) (by decide) rfl (by decide) (by omega) (Qo hc') hk'
theorem rm16_ok (own:YD A bs pos vt 74 (d.refs=[]) (Qb3 (VecTW d.refs RefPW))) (hc:cells[35]?=some (.slice none 0 0)) (hk:∀G' H' c,RM G0 H0 q2 q3 G' H' (cells.set 35 c)->G.le G'->SlV G' 1 c (d.refs.map Qai)->rm17 (ptr p) (ptr q3) (ptr q2) H' R):rm16 (ptr p) (ptr q3) (ptr q2) H R:=by
 obtain ⟨at_,hf,hi⟩:=own.vecTW
 have hn:=Qej.n_le hf (by decide)
 have hlt:=ht.lt
 unfold rm16
 refine QbD rs (l:=d.refs) (f:=Qai) (et:=31) hc (by omega) (fun H' R hK hR=>Z6 (ht.ext hK.ext) hv hf hR) ?_ hk
 intro i a H' c cells' k ha rs' hc' hcur hil hk'
 have hia:=Qo ha
 obtain ⟨b1,_,b2,vt',b3,b4⟩:=hi i a ha
 unfold rm16B
 rw[Qy]
 have rs1:=rs'.push (.cells z224 224)
 refine Qa2 (rs1.tab ht) hv hf hia b1 b2 Qh rfl ?_
 rw[Yq]
 have rs2:=rs'.push (.cells #[bsl B 0 bs.length bs.length,.int .u32 (tgt bs (at_+4*i):Nat)] 224)
 have t2:Tab (H'.push (.cells #[bsl B 0 bs.length bs.length,.int .u32 (tgt bs (at_+4*i):Nat)] 224)) H'.size B bs (tgt bs (at_+4*i)):=⟨Qj Qh,Qj Qh,(rs2.tab ht).u8,ht.lt,b2⟩
 rw[Qm,rs2.ld hc']
 refine Qbo t2 b3 b4 ?_
 rw[Qb]
 exact rs2.push_item (hcur.push _) (it:=Qai a) rfl rfl (by intro x hx;simp only[Qai,List.mem_cons,List.not_mem_nil,or_false]at hx;subst hx;rfl) (by decide) rfl (by decide) (by omega) (Qo hc') hk'
theorem rm18_ok (own:YD A bs pos vt 80 (d.strong=[]) (Qb3 (VecTW d.strong RefPW))) (hc:cells[38]?=some (.slice none 0 0)) (hk:∀G' H' c,RM G0 H0 q2 q3 G' H' (cells.set 38 c)->G.le G'->SlV G' 1 c (d.strong.map Qai)->rm19 (ptr p) (ptr q3) (ptr q2) H' R):rm18 (ptr p) (ptr q3) (ptr q2) H R:=by
 obtain ⟨at_,hf,hi⟩:=own.vecTW
 have hn:=Qej.n_le hf (by decide)
 have hlt:=ht.lt
 unfold rm18
 refine QbD rs (l:=d.strong) (f:=Qai) (et:=31) hc (by omega) (fun H' R hK hR=>Ze (ht.ext hK.ext) hv hf hR) ?_ hk
 intro i a H' c cells' k ha rs' hc' hcur hil hk'
 have hia:=Qo ha
 obtain ⟨b1,_,b2,vt',b3,b4⟩:=hi i a ha
 unfold rm18B
 rw[Qy]
 have rs1:=rs'.push (.cells z224 224)
 refine Z4 (rs1.tab ht) hv hf hia b1 b2 Qh rfl ?_
 rw[Yq]
 have rs2:=rs'.push (.cells #[bsl B 0 bs.length bs.length,.int .u32 (tgt bs (at_+4*i):Nat)] 224)
 have t2:Tab (H'.push (.cells #[bsl B 0 bs.length bs.length,.int .u32 (tgt bs (at_+4*i):Nat)] 224)) H'.size B bs (tgt bs (at_+4*i)):=⟨Qj Qh,Qj Qh,(rs2.tab ht).u8,ht.lt,b2⟩
 rw[Qm,rs2.ld hc']
 refine Qbo t2 b3 b4 ?_
 rw[Qb]
 exact rs2.push_item (hcur.push _) (it:=Qai a) rfl rfl (by intro x hx;simp only[Qai,List.mem_cons,List.not_mem_nil,or_false]at hx;subst hx;rfl) (by decide) rfl (by decide) (by omega) (Qo hc') hk'
theorem rm23_ok (own:YD A bs pos vt 98 ((d.enums.map fun b=>[b])=[]) (Qb3 (QdM 1 (d.enums.map fun b=>[b])))) (hc:cells[49]?=some (Yf [])) (hk:∀H',RM G0 H0 q2 q3 G H' (cells.set 49 (Yf d.enums))->rm24 (ptr q3) (ptr q2) H' R):rm23 (ptr p) (ptr q3) (ptr q2) H R:=by
 obtain ⟨at_,hf,hi⟩:=own.vecW (Yh (fun b:UInt8=>(rfl:[b].length=1)) (l:=d.enums))
 rw[List.length_map]at hf
 have hn:=Qej.n_le hf (by decide)
 have hlt:=ht.lt
 unfold rm23
 refine Qi6 rs (xs:=d.enums) hc (by omega) (fun H' R hK hR=>Qa4 (ht.ext hK.ext) hv hf hR) ?_ hk
 intro i b H' cells' k hb rs' hc' hl hk'
 have hil:=Qo hb
 have hbv:byteN bs (at_+1*i)=b.toNat:=by
  have:=(hi i [b] (by rw[List.getElem?_map,hb];rfl)).byte (i:=0) Nat.zero_lt_one
  rw[Nat.add_zero]at this
  rw[this];rfl
 unfold rm23B
 rw[Qm,rs'.ld hc']
 refine QaR (rs'.tab ht) hv hf hil ?_
 rw[Qb,hbv]
 exact rs'.push_byte rfl hl (Qo hc') hk'
end
end Go.Proofs
namespace Go.Proofs
open Go Go.Vc
open Tryz (prog)
def Qh4 (amb:Bool) (ty color:UInt8):UInt8:=if amb=false/\ty=2 then color else 0
def rdD (d:Qbt):Qbt:={d with f:=flU d.f 1078530000,f2:=flU d.f2 1077936128,f3:=flU d.f3 0,testColor:=Qh4 false d.testTy d.testColor,uniqColor:=Qh4 false d.uniqTy d.uniqColor,ambColor:=Qh4 true d.ambTy d.ambColor}
def rdU (amb:Bool) (ty:UInt8) (ks:List GM):List GM:=if ty=0\/(amb=false/\ty=2) then [] else ks
mutual
def rdM:Mon->GM
 |.mk d tables enemy test uniq amb=>.mk (rdD d) d.pos.toList d.empty.toList (rdMs tables) (rd1 enemy) (rdU false d.testTy (rd1 test)) (rdU false d.uniqTy (rd1 uniq)) (rdU true d.ambTy (rd1 amb))
def rdMs:List Mon->List GM
 |[]=>[]
 |m::ms=>rdM m::rdMs ms
def rd1:List Mon->List GM
 |[]=>[]
 |m::_=>[rdM m]
end
theorem rdMs_map:∀ms,rdMs ms=ms.map rdM
 |[]=>by rw[rdMs];rfl
 |m::ms=>by rw[rdMs,rdMs_map ms];rfl
def rwD (d:Qbt):Qbt:={d with testColor:=Qh4 false d.testTy d.testColor,uniqColor:=Qh4 false d.uniqTy d.uniqColor,ambColor:=Qh4 true d.ambTy d.ambColor}
mutual
def rwM:Mon->GM
 |.mk d tables enemy test uniq amb=>.mk (rwD d) d.pos.toList d.empty.toList (rwMs tables) (rw1 enemy) (rdU false d.testTy (rw1 test)) (rdU false d.uniqTy (rw1 uniq)) (rdU true d.ambTy (rw1 amb))
def rwMs:List Mon->List GM
 |[]=>[]
 |m::ms=>rwM m::rwMs ms
def rw1:List Mon->List GM
 |[]=>[]
 |m::_=>[rwM m]
end
theorem QgJ:∀ms,rwMs ms=ms.map rwM
 |[]=>by rw[rwMs];rfl
 |m::ms=>by rw[rwMs,QgJ ms];rfl
mutual
theorem rw_fl:∀m:Mon,rwM (flM m)=rdM m
 |.mk d tables enemy test uniq amb=>by
  rw[flM,rwM,rdM,rws_fl tables,rw1_fl enemy,rw1_fl test,rw1_fl uniq,rw1_fl amb]
  rfl
theorem rws_fl:∀ms:List Mon,rwMs (flMs ms)=rdMs ms
 |[]=>by rw[flMs,rwMs,rdMs]
 |m::ms=>by rw[flMs,rwMs,rdMs,rw_fl m,rws_fl ms]
theorem rw1_fl:∀ms:List Mon,rw1 (flMs ms)=rd1 ms
 |[]=>by rw[flMs,rw1,rd1]
 |m::ms=>by rw[flMs,rw1,rd1,rw_fl m]
end
def Qe2 (m:Mon):Prop:=∀(A p B pos:Nat) (bs:List UInt8) (G:Cut) (H:Qe) (R:Kn),Tab H p B bs pos->G.In H->RwM m A bs pos->
 (∀v H' G',Ext G H G' H'->QaX G' (rwM m) v->R (.agg v.toArray) H')->FnS prog 35 #[ptr p] H R
theorem QaX.one {F:Cut} {g:GM} {x:List Value} (h:QaX F g x):∀v∈x,v.oneCell'=true:=by
 cases g with
 |mk d pos empty tables enemy test uniq amb=>
  rw[QaX]at h
  obtain ⟨c,rfl,g,⟨_,a1,_⟩,⟨_,a2,_⟩,⟨_,a3,_⟩,⟨_,a4,_⟩,⟨_,a5,_⟩⟩:=h
  intro v hv
  simp only[Yk,List.mem_cons,List.not_mem_nil,or_false]at hv
  rcases hv with rfl|rfl|rfl|rfl|rfl|rfl|rfl|rfl|rfl|rfl|rfl|rfl|rfl|rfl|rfl|rfl|rfl|rfl|rfl|rfl|rfl|rfl|rfl|rfl|rfl|rfl|rfl|rfl|rfl|rfl|rfl|rfl|rfl|rfl|rfl|rfl|rfl|rfl|rfl|rfl|rfl|rfl|rfl|rfl|rfl|rfl|rfl|rfl|rfl|rfl|rfl
  all_goals first
   |rfl
   |exact g.pos.one|exact g.test4.one|exact g.strings.one|exact g.empty.one|exact g.bools.one|exact g.strings2.one|exact g.abil.one|exact g.test5.one|exact g.longs.one|exact g.doubles.one|exact g.refs.one|exact g.weak.one|exact g.strong.one|exact g.coOwnings.one|exact g.nonOwnings.one
   |exact a1.one|exact a2.one|exact a3.one|exact a4.one|exact a5.one
theorem RS.put_item {G0:Cut} {H0:Qe} {t:TypeId} {ob:Obj} {q2 q3:Nat} {G:Cut} {H:Qe} {cells:List Value} (rs:RS G0 H0 t ob q2 q3 G H cells) {fld es:Nat} {et:TypeId} {zs:Array Value} {v:Value} {it:List Value} (hv:v.cells.toList=it) (hl:it.length=es) (hz:zs.size=es) (hf:fld<cells.length) {k:Qe->Prop}
  (hk:∀G' H' c,RS G0 H0 t ob q2 q3 G' H' (cells.set fld c)->G.le G'->SlV G' es c [it]->k H'):
  Q8 H et 1 (YV zs.toList 1) [(0,es,v)] fun y h2=>Qg (.pointer (some ⟨q3,0,none⟩)) fld fun a=>StK h2 1 a y k:=by
 have hvs:v.cells.size=es:=by rw[<-hl,<-hv];simp
 have hfill:YJ (YV zs.toList 1) [(0,es,v)]=some it:=by
  show (if v.cells.size=es/\0+v.cells.size<=(YV zs.toList 1).length then _ else _)=_
  have hrl:(YV zs.toList 1).length=es:=by simp[YV,hz]
  rw[if_pos ⟨hvs,by rw[hrl];omega⟩]
  show some _=_
  rw[hv,hvs,Nat.zero_add,List.drop_eq_nil_of_le (by omega)];simp
 unfold Q8
 simp only[hfill]
 have hone':∀x∈[it],x.length=es:=fun x hx=>by
  have:x=it:=by simpa using hx
  rw[this];exact hl
 have rs1:RS G0 H0 t ob q2 q3 (G.upd H.size (.cells it.toArray et (0,0))) (H.push (.cells it.toArray et (0,0))) cells:=⟨rs.ext.pushG _,rs.o2.pushG _,rs.o3.pushG _,rs.ne⟩
 refine rs1.store hf rfl ?_
 intro H2 rs2 _
 refine hk _ _ _ rs2 (Cut.le_upd (rs.ext.inn.none (Nat.le_refl _))) ⟨hone',Or.inr ⟨H.size,0,1,it.toArray,et,(0,0),rfl,Cut.upd_same,by simp[hl],by simp[<-hl],Nat.le_refl _⟩⟩
theorem RS.store3 {G0:Cut} {H0:Qe} {t:TypeId} {ob:Obj} {q2 q3:Nat} {G:Cut} {H:Qe} {cells:List Value} (rs:RS G0 H0 t ob q2 q3 G H cells) {i:Nat} {a b c:Value} (hi:i+3<=cells.length) (ha:a.oneCell'=true) (hb:b.oneCell'=true) (hc:c.oneCell'=true) {kp:Qe->Prop}
  (hk:∀H',RS G0 H0 t ob q2 q3 G H' (((cells.set i a).set (i+1) b).set (i+2) c)->H'=setB H q3 (.cells (((cells.set i a).set (i+1) b).set (i+2) c).toArray t (0,0))->kp H'):
  Qg (.pointer (some ⟨q3,0,none⟩)) i fun x=>StK H 3 x (.agg #[a,b,c]) kp:=by
 rw[Qm]
 unfold StK
 refine ⟨rfl,_,Qes (b:=q3) (e:=t) (fr:=(0,0)) [a,b,c] (H:=H) (l:=cells) (o:=i) (i:=0) rs.o3.get (by intro v hv;simp at hv;rcases hv with rfl|rfl|rfl<;>assumption) (by simp;omega) (by simp),?_⟩
 have e:Zt cells (i+0) [a,b,c]=((cells.set i a).set (i+1) b).set (i+2) c:=rfl
 show kp (setB H q3 (.cells (Zt cells (i+0) [a,b,c]).toArray t (0,0)))
 rw[e]
 exact hk _ ⟨rs.ext.set rs.o3.out rs.o3.new _,rs.o2.set_ne rs.ne _,rs.o3.set _,rs.ne⟩ rfl
theorem fill_vec3 (v:ZO):YJ z114.toList [(0,1,Zz v.x),(1,1,Zz v.y),(2,1,Zz v.z),(3,1,Ya v.t1),(4,1,u8n v.t2),(5,1,Qbc v.a),(6,1,i8V v.b)]=some (Zg v):=by kernel_rfl
theorem fill_stat (v:ZJ):YJ z120.toList [(0,1,Yf v.id),(1,1,Qdw v.val),(2,1,u16V v.count)]=some (YL v):=by kernel_rfl
section
variable {A p B pos vt:Nat} {bs:List UInt8} {d:Qbt} {G0:Cut} {H0:Qe} (ht:Tab H0 p B bs pos) (hv:VT bs pos vt) {q2 q3:Nat} {G:Cut} {H:Qe} {cells:List Value} (rs:RM G0 H0 q2 q3 G H cells) {R:Kn}
include ht hv rs
theorem rm1_ok (own:YD A bs pos vt 4 (d.pos=none) (posW d.pos)) (hc:cells[0]?=some (.slice none 0 0)) (hk:∀G' H' c,RM G0 H0 q2 q3 G' H' (cells.set 0 c)->G.le G'->SlV G' 7 c (d.pos.toList.map Zg)->rm2 (ptr p) (ptr q3) (ptr q2) H' R):rm1 (ptr p) (ptr q3) (ptr q2) H R:=by
 unfold rm1
 refine Q0 (fun _ h=>∃G' c,RM G0 H0 q2 q3 G' h (cells.set 0 c)/\G.le G'/\SlV G' 7 c (d.pos.toList.map Zg)) ?_ (fun _ h hh=>by obtain ⟨G',c,h1,h2,h3⟩:=hh;exact hk G' h c h1 h2 h3)
 refine Qca (rs.tab ht) hv (fun h0=>?_) (fun h1=>?_)
 ·rw[QT (by kernel_rfl)]
  show IfK (.bool false) _ _
  rw[ZG,own.zero h0]
  exact ⟨G,_,by rw[YT hc];exact rs,Cut.le_refl _,SlV.nil _ _⟩
 ·obtain ⟨hn,hq⟩:=own.got h1
  cases hp:d.pos with
  |none=>exact absurd hp hn
  |some v=>
   rw[hp]at hq
   have hq:Qx bs (pos+slotAt bs vt 4) (Qj8 v):=hq
   obtain ⟨e0,e1,e2,e3,e4,e5,e6,e7⟩:=vec3_at (v:=v) hq
   refine ⟨by omega,?_⟩
   rw[QT (by kernel_rfl)]
   show IfK (.bool true) _ _
   rw[QbS]
   have rs1:=rs.push (.cells #[bsl B 0 bs.length bs.length,.int .u32 (pos+slotAt bs vt 4:Nat)] 306)
   have t1:Tab (H.push (.cells #[bsl B 0 bs.length bs.length,.int .u32 (pos+slotAt bs vt 4:Nat)] 306)) H.size B bs (pos+slotAt bs vt 4):=⟨Qj Qh,Qj Qh,(rs1.tab ht).u8,ht.lt,by omega⟩
   generalize H.push (.cells #[bsl B 0 bs.length bs.length,.int .u32 (pos+slotAt bs vt 4:Nat)] 306)=H1 at *
   refine QeA t1 (by omega) ?_
   have rs2:=rs1.push (.cells #[bsl B 0 bs.length bs.length,.int .u32 (pos+slotAt bs vt 4+26:Nat)] 211)
   have t2:=Tab.push t1 (.cells #[bsl B 0 bs.length bs.length,.int .u32 (pos+slotAt bs vt 4+26:Nat)] 211)
   have t3:Tab (H1.push (.cells #[bsl B 0 bs.length bs.length,.int .u32 (pos+slotAt bs vt 4+26:Nat)] 211)) H1.size B bs (pos+slotAt bs vt 4+26):=⟨Qj Qh,Qj Qh,t2.u8,ht.lt,by omega⟩
   generalize H1.push (.cells #[bsl B 0 bs.length bs.length,.int .u32 (pos+slotAt bs vt 4+26:Nat)] 211)=H2 at *
   refine Qh6 t2 (by omega) ?_
   refine QL (fun w=>Qp) ?_
   refine Qhg t2 (by omega) ?_
   refine QL (fun w=>Qp) ?_
   refine Qh8 t2 (by omega) ?_
   refine QL (fun w=>Qp) ?_
   refine Qeq t2 (by omega) ?_
   refine QL (fun w=>Qbl) ?_
   refine Qet t2 (by omega) ?_
   refine Qdg t3 (by omega) ?_
   refine Qdj t3 (by omega) ?_
   rw[e1,e2,e3,e4,e5,show pos+slotAt bs vt 4+26+0=pos+slotAt bs vt 4+26 from rfl,e6,show pos+slotAt bs vt 4+26+2=pos+slotAt bs vt 4+28 from rfl,e7]
   have hb:=fill_vec3 v
   unfold Qz
   simp only[hb]
   refine rs2.put_item (v:=.agg (Zg v).toArray) (it:=Zg v) rfl rfl rfl (Qo hc) ?_
   intro G' H' c rs3 hle sl
   exact ⟨G',c,rs3,hle,sl⟩
theorem rm8_ok (own:YD A bs pos vt 32 (d.empty=none) (Qb3 (fun A bs p=>∀s,d.empty=some s->StatW s A bs p))) (hc:cells[14]?=some (.slice none 0 0)) (hk:∀G' H' c,RM G0 H0 q2 q3 G' H' (cells.set 14 c)->G.le G'->SlV G' 3 c (d.empty.toList.map YL)->rm9 (ptr p) (ptr q3) (ptr q2) H' R):rm8 (ptr p) (ptr q3) (ptr q2) H R:=by
 unfold rm8
 refine Q0 (fun _ h=>∃G' c,RM G0 H0 q2 q3 G' h (cells.set 14 c)/\G.le G'/\SlV G' 3 c (d.empty.toList.map YL)) ?_ (fun _ h hh=>by obtain ⟨G',c,h1,h2,h3⟩:=hh;exact hk G' h c h1 h2 h3)
 refine Qak (rs.tab ht) hv (fun h0=>?_) (fun h1=>?_)
 ·rw[QT (by kernel_rfl)]
  show IfK (.bool false) _ _
  rw[ZG,own.zero h0]
  exact ⟨G,_,by rw[YT hc];exact rs,Cut.le_refl _,SlV.nil _ _⟩
 ·obtain ⟨hn,hq⟩:=own.got h1
  cases hp:d.empty with
  |none=>exact absurd hp hn
  |some s=>
   obtain ⟨q1,_,q2',q3'⟩:=hq
   obtain ⟨vt',s1,s2,s3,s4⟩:=q3' s hp
   refine ⟨q1,q2',?_⟩
   rw[QT (by kernel_rfl)]
   show IfK (.bool true) _ _
   rw[QbS]
   have rs1:=rs.push (.cells #[bsl B 0 bs.length bs.length,.int .u32 (tgt bs (pos+slotAt bs vt 32):Nat)] 309)
   have t1:Tab (H.push (.cells #[bsl B 0 bs.length bs.length,.int .u32 (tgt bs (pos+slotAt bs vt 32):Nat)] 309)) H.size B bs (tgt bs (pos+slotAt bs vt 32)):=⟨Qj Qh,Qj Qh,(rs1.tab ht).u8,ht.lt,q2'⟩
   generalize H.push (.cells #[bsl B 0 bs.length bs.length,.int .u32 (tgt bs (pos+slotAt bs vt 32):Nat)] 309)=H1 at *
   obtain ⟨w1,w2⟩:=s2.there
   obtain ⟨w3,w4⟩:=QhF.at w2
   refine Qgr t1 s1 (fun h=>absurd h w1) (fun _=>⟨_,w3,?_⟩)
   refine t1.str w4 rfl ?_
   refine QfK t1 s1 s3 ?_
   rw[Qb]
   refine Qeu t1 s1 s4 ?_
   rw[Qb]
   refine Y6 (fill_stat s) ?_
   refine rs1.put_item (v:=.agg (YL s).toArray) (it:=YL s) rfl rfl rfl (Qo hc) ?_
   intro G' H' c rs3 hle sl
   exact ⟨G',c,rs3,hle,sl⟩
theorem rm6_ok {enemy:List Mon} (hE:∀k∈enemy,Qe2 k) (own:YD A bs pos vt 28 (enemy=[]) (Qb3 (Rw1 enemy))) (hc:cells[12]?=some (.slice none 0 0)) (hk:∀G' H' c,RM G0 H0 q2 q3 G' H' (cells.set 12 c)->G.le G'->Qbu G' (rw1 enemy) c->rm7 (ptr p) (ptr q3) (ptr q2) H' R):rm6 (ptr p) (ptr q3) (ptr q2) H R:=by
 unfold rm6
 refine Q0 (fun _ h=>∃G' c,RM G0 H0 q2 q3 G' h (cells.set 12 c)/\G.le G'/\Qbu G' (rw1 enemy) c) ?_ (fun _ h hh=>by obtain ⟨G',c,h1,h2,h3⟩:=hh;exact hk G' h c h1 h2 h3)
 refine Qbn (rs.tab ht) hv (fun h0=>?_) (fun h1=>?_)
 ·rw[QT (by kernel_rfl)]
  show IfK (.bool false) _ _
  have he:=own.zero h0
  subst he
  rw[ZG,rw1]
  exact ⟨G,_,by rw[YT hc];exact rs,Cut.le_refl _,[],SlV.nil _ _,by rw[Zh];trivial⟩
 ·obtain ⟨hn,q1,_,q2',q3'⟩:=own.got h1
  refine ⟨q1,q2',?_⟩
  rw[QT (by kernel_rfl)]
  show IfK (.bool true) _ _
  rw[QbS]
  have rs1:=rs.push (.cells #[bsl B 0 bs.length bs.length,.int .u32 (tgt bs (pos+slotAt bs vt 28):Nat)] 187)
  have t1:Tab (H.push (.cells #[bsl B 0 bs.length bs.length,.int .u32 (tgt bs (pos+slotAt bs vt 28):Nat)] 187)) H.size B bs (tgt bs (pos+slotAt bs vt 28)):=⟨Qj Qh,Qj Qh,(rs1.tab ht).u8,ht.lt,q2'⟩
  generalize H.push (.cells #[bsl B 0 bs.length bs.length,.int .u32 (tgt bs (pos+slotAt bs vt 28):Nat)] 187)=H1 at *
  cases enemy with
  |nil=>exact absurd rfl hn
  |cons m ms=>
   rw[Rw1]at q3'
   refine hE m List.mem_cons_self A _ B _ bs G H1 _ t1 rs1.ext.inn q3' ?_
   intro v H2 G2 e2 hv2
   refine (rs1.next e2).put_item (v:=.agg v.toArray) (it:=v) rfl hv2.len rfl (Qo hc) ?_
   intro G' H' c rs3 hle sl
   exact ⟨G',c,rs3,Cut.le_trans e2.le hle,[v],sl,by rw[rw1,Zh];exact ⟨hv2.mono hle,by rw[Zh];trivial⟩⟩
theorem rm5_ok {tables:List Mon} (hT:∀k∈tables,Qe2 k) (own:YD A bs pos vt 26 (tables=[]) (Qb3 (fun A bs t=>VecPW 4 tables.length A bs t/\RwL tables A bs (t+4)))) (hc:cells[11]?=some (.slice none 0 0)) (hk:∀G' H' c,RM G0 H0 q2 q3 G' H' (cells.set 11 c)->G.le G'->Qbu G' (rwMs tables) c->rm6 (ptr p) (ptr q3) (ptr q2) H' R):rm5 (ptr p) (ptr q3) (ptr q2) H R:=by
 obtain ⟨at_,hf,hi⟩:∃at_,Qej 4 bs pos vt 26 tables.length at_/\∀(i:Nat) a,tables[i]?=some a->Qb3 (RwM a) A bs (at_+4*i):=by
  rcases own with ⟨h1,h2⟩|⟨h1,_,h3⟩
  ·subst h2
   exact ⟨0,Or.inl ⟨h1,rfl⟩,fun i x h=>by simp at h⟩
  ·obtain ⟨q1,q2,q3,⟨v1,v4⟩,q5⟩:=h3
   exact ⟨tgt bs (pos+slotAt bs vt 26)+4,Or.inr ⟨h1,q1,rfl,v4,v1,by omega⟩,RwL_get tables q5⟩
 have hn:=Qej.n_le hf (by decide)
 have hlt:=ht.lt
 unfold rm5
 refine app_loop rs (et:=55) (es:=51) (n:=tables.length) (fun G1 i items=>Zh G1 ((rwMs tables).take i) items) (by rw[List.take_zero,Zh];trivial) hc (by omega) (fun H' R hK hR=>ZC (ht.ext hK.ext) hv hf hR) ?_ ?_
 ·intro i G1 H' c cells' items k hlt' hle rs' hc' hcur hI hk'
  have ha:=List.getElem?_eq_getElem hlt'
  obtain ⟨b1,_,b2,b3⟩:=hi i _ ha
  have hil:items.length<tables.length:=by
   have:=Zh.len hI
   rw[<-this,List.length_take,QgJ,List.length_map];omega
  unfold rm5B
  rw[Qy]
  have rs1:=rs'.push (.cells z187 187)
  refine Qae (rs1.tab ht) hv hf hlt' b1 b2 Qh rfl ?_
  rw[Yq]
  have rs2:=rs'.push (.cells #[bsl B 0 bs.length bs.length,.int .u32 (tgt bs (at_+4*i):Nat)] 187)
  have t2:Tab (H'.push (.cells #[bsl B 0 bs.length bs.length,.int .u32 (tgt bs (at_+4*i):Nat)] 187)) H'.size B bs (tgt bs (at_+4*i)):=⟨Qj Qh,Qj Qh,(rs2.tab ht).u8,ht.lt,b2⟩
  have hcur2:=hcur.push (.cells #[bsl B 0 bs.length bs.length,.int .u32 (tgt bs (at_+4*i):Nat)] 187)
  generalize H'.push (.cells #[bsl B 0 bs.length bs.length,.int .u32 (tgt bs (at_+4*i):Nat)] 187)=H1 at *
  rw[Qm,rs2.ld hc']
  refine hT _ (List.mem_of_getElem? ha) A _ B _ bs G1 H1 _ t2 rs2.ext.inn b3 ?_
  intro v H2 G2 e2 hv2
  refine Qn e2.keep.ext ?_
  refine (rs2.next e2).push_item (hcur2.ext e2) (v:=.agg v.toArray) (it:=v) rfl hv2.len (QaX.one hv2) (by decide) rfl (by decide) (by omega) (Qo hc') ?_
  intro H3 c3 rs3 hcur3
  refine hk' G2 H3 c3 _ e2.le rs3 hcur3 ?_
  have hr:(rwMs tables)[i]?=some (rwM tables[i]):=by rw[QgJ,List.getElem?_map,ha];rfl
  rw[Qdf hr]
  exact Zh.snoc (Zh.mono e2.le hI) hv2
 ·intro G' G1 H' c items rs' hle sl hI hle1
  refine hk G' H' c rs' hle ⟨items,sl,?_⟩
  have:(rwMs tables).take tables.length=rwMs tables:=by
   apply List.take_of_length_le
   rw[QgJ,List.length_map];exact Nat.le_refl _
  rw[this]at hI
  exact Zh.mono hle1 hI
end
end Go.Proofs
