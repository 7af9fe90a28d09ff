/- WHAT IS PROVED: the given statement of FnMonsterWritten, whatever the input: this is part 10 of 14. No conditions. -/
import Derived.Test.YtkkcpkfpegmgbaaGreatX09
import Derived.ChangeKeysEq
import Derived.Laws.StructEq
set_option linter.all false
namespace Go.Proofs
open Go Go.Vc
open Tryz (prog)
set_option maxRecDepth 100000
def s6 (a4:Value) (h:Qe) (R:Kn):Prop:=
 Y5 h (.cells (Value.cells a4) 38) fun a g=>
 Qg a 11 fun a5=>
 LdK g a5 fun a6=>
 Yv a6 fun a7=>
 Qk prog .eql 3 a7 (.int .i64 0) fun b=>
 Qc b true (fun a8=>Qg a 12 fun a9=>a8 a9 g) g fun b0 i=>
 Qc b true (fun b1=>LdK i b0 fun b2=>b1 b2 i) i fun b3 p=>
 Qc b true (fun b4=>Yv b3 fun b5=>b4 b5 p) p fun b6 q=>
 Qc b true (fun b7=>Qk prog .eql 3 b6 (.int .i64 0) fun b8=>b7 b8 q) q fun b9 r=>
 Yd b b9 (.bool false) fun c=>
 Qc c true (fun c0=>Qg a 6 fun c1=>c0 c1 r) r fun c2 s=>
 Qc c true (fun c3=>Qg c2 0 fun c4=>c3 c4 s) s fun c5 j=>
 Qc c true (fun c6=>LdK j c5 fun c7=>c6 c7 j) j fun c8 t=>
 Qc c true (fun c9=>Qk prog .eql 5 c8 (.int .u8 0) fun d0=>c9 d0 t) t fun d1 u=>
 Yd c d1 (.bool false) fun d=>
 Qc d true (fun d2=>Qg a 43 fun d3=>d2 d3 u) u fun d4 v=>
 Qc d true (fun d5=>Qg d4 0 fun d6=>d5 d6 v) v fun d7 l=>
 Qc d true (fun d8=>LdK l d7 fun d9=>d8 d9 l) l fun e0 w=>
 Qc d true (fun e1=>Qk prog .eql 5 e0 (.int .u8 0) fun e2=>e1 e2 w) w fun e3 y=>
 Yd d e3 (.bool false) fun e=>
 Qc e true (fun e4=>Qg a 46 fun e5=>e4 e5 y) y fun e6 z=>
 Qc e true (fun e7=>Qg e6 0 fun e8=>e7 e8 z) z fun e9 m=>
 Qc e true (fun f0=>LdK m e9 fun f1=>f0 f1 m) m fun f2 a0=>
 Qc e true (fun f3=>Qk prog .eql 5 f2 (.int .u8 0) fun f4=>f3 f4 a0) a0 fun f5 a1=>
 Yd e f5 (.bool false) fun f=>
 Qc f true (fun f6=>Qg a 29 fun f7=>f6 f7 a1) a1 fun f8 o=>
 Qc f true (fun f9=>LdK o f8 fun g0=>f9 g0 o) o fun g1 a2=>
 Qc f true (fun g2=>Yv g1 fun g3=>g2 g3 a2) a2 fun g4 a3=>
 Qc f true (fun g5=>Qk prog .eql 3 g4 (.int .i64 0) fun g6=>g5 g6 a3) a3 fun g7 g8=>
 Yd f g7 (.bool false) fun g9=>
 R g9 g8
theorem w6 {a h R} (H:s6 a h R):FnS prog 6 #[a] h R:=wq Tryz.func6 (by kernel_rfl) H
def s8 (d:Value) (h:Qe) (R:Kn):Prop:=
 Y5 h (.cells (Value.cells d) 45) fun e f=>
 Qe3 f 5 1 z5 (.int .i64 4) (.int .i64 4) fun g i=>
 Qz z70.toList [(0,1,g)] fun j=>
 Y5 i (.cells (Value.cells j) 70) fun a c=>
 LdN c 7 e fun l=>
 Qa prog 19 #[a,l] c fun m o=>
 QK .u64 m fun p=>
 Qa prog 20 #[a,(.int .i64 0),p,(.int .i64 4)] o fun _x14 b=>
 Q3 a fun q=>
 Qg q 0 fun r=>
 LdK b r fun s=>
 QiN b s fun t=>
 R t b
theorem w8 {a h R} (H:s8 a h R):FnS prog 8 #[a] h R:=wq Tryz.func8 (by kernel_rfl) H
def s9 (i6:Value) (h:Qe) (R:Kn):Prop:=
 Y5 h (.cells (Value.cells i6) 38) fun b i7=>
 Y5 i7 (.cells z45 45) fun f0 i8=>
 Qz z45.toList [(0,1,(.int .u8 17)),(1,1,(.int .u8 8)),(3,1,(.string ⟨#[48,49,50,51,52,53,54,55,48,49,50,51,52,53,54,55,48,49,50,51,52,53,54,55,48,49,50,51,52,53,54,55]⟩))] fun i9=>
 Qz z74.toList [(1,7,i9)] fun j0=>
 Y5 i8 (.cells z74 74) fun i j1=>
 StK j1 9 i j0 fun f1=>
 QD (fun y=>
 Qg b 0 fun j2=>
 LdK f1 j2 fun f2=>
 Yv f2 fun j3=>
 Yu [(.int .i64 0)] f1 fun f3 f4=>∀j:Value,∀l:Qe,f3 f4 [j] l->
 Qk prog .lss 3 j j3 fun j4=>
 IfK j4
 (Y1 7 f2 j fun j5=>
 LdN l 7 j5 fun j6=>
 Y5 l (.cells z76 76) fun d j7=>
 StK j7 7 d j6 fun j8=>
 Qg i 0 fun j9=>
 StK j8 1 j9 (.bool true) fun c=>
 Qg d 0 fun l0=>
 LdK c l0 fun l1=>
 QK .u64 l1 fun l2=>
 Qg d 1 fun l3=>
 LdK c l3 fun l4=>
 QK .u64 l4 fun l5=>
 Qg d 2 fun l6=>
 LdK c l6 fun l7=>
 QK .u64 l7 fun l8=>
 Qg d 3 fun l9=>
 LdK c l9 fun m0=>
 Qg d 4 fun m1=>
 LdK c m1 fun m2=>
 QK .u64 m2 fun m3=>
 Qg d 5 fun m4=>
 LdK c m4 fun m5=>
 QK .u16 m5 fun m6=>
 QK .u64 m6 fun m7=>
 Qg d 6 fun m8=>
 LdK c m8 fun m9=>
 QK .u8 m9 fun o0=>
 QK .u64 o0 fun o1=>
 Qa prog 21 #[l2,(.int .i64 4)] c fun o2 z=>
 Qi c z<|
 Qa prog 21 #[l5,(.int .i64 4)] z fun o3 a0=>
 Qi z a0<|
 Qk prog .add 9 o2 o3 fun o4=>
 Qa prog 21 #[l8,(.int .i64 4)] a0 fun o5 a1=>
 Qi a0 a1<|
 Qk prog .add 9 o4 o5 fun o6=>
 Qk prog .add 9 o6 (.string ⟨#[0,0,0,0]⟩) fun o7=>
 Qa prog 21 #[m0,(.int .i64 8)] a1 fun o8 a2=>
 Qi a1 a2<|
 Qk prog .add 9 o7 o8 fun o9=>
 Qa prog 21 #[m3,(.int .i64 1)] a2 fun p0 a3=>
 Qi a2 a3<|
 Qk prog .add 9 o9 p0 fun p1=>
 Qk prog .add 9 p1 (.string ⟨#[0]⟩) fun p2=>
 Qa prog 21 #[m7,(.int .i64 2)] a3 fun p3 f5=>
 Qi a3 f5<|
 Qk prog .add 9 p2 p3 fun p4=>
 Qa prog 21 #[o1,(.int .i64 1)] f5 fun p5 p6=>
 Qk prog .add 9 p4 p5 fun p7=>
 Qk prog .add 9 p7 (.string ⟨#[0,0,0]⟩) fun p8=>
 Qg i 1 fun p9=>
 Qg p9 3 fun q0=>
 StK p6 1 q0 p8 fun q1=>
 Qk prog .add 3 j (.int .i64 1) fun q2=>
 QS f3 f4 [q2] q1)
 (y [] l)) fun y=>∀f6:Qe,y [] f6->
 Qz z45.toList [(0,1,(.int .u8 15))] fun q3=>
 Qz z74.toList [(1,7,q3)] fun q4=>
 Y5 f6 (.cells z74 74) fun m q5=>
 StK q5 9 m q4 fun f7=>
 QD (fun a4=>
 Qg b 14 fun q6=>
 LdK f7 q6 fun f8=>
 Yv f8 fun q7=>
 Yu [(.int .i64 0)] f7 fun f9 g0=>∀o:Value,∀p:Qe,f9 g0 [o] p->
 Qk prog .lss 3 o q7 fun q8=>
 IfK q8
 (Y1 3 f8 o fun q9=>
 LdN p 3 q9 fun r0=>
 Y5 p (.cells z80 80) fun q r1=>
 StK r1 3 q r0 fun r2=>
 Qg m 0 fun r3=>
 StK r2 1 r3 (.bool true) fun e=>
 Qg q 0 fun r4=>
 LdK e r4 fun r5=>
 Qz z45.toList [(0,1,(.int .u8 11)),(3,1,r5)] fun r6=>
 Qz z74.toList [(0,1,(.bool true)),(1,7,r6)] fun r7=>
 Qg q 1 fun r8=>
 LdK e r8 fun r9=>
 QK .u64 r9 fun s0=>
 Qg q 2 fun s1=>
 LdK e s1 fun s2=>
 QK .u64 s2 fun s3=>
 Qa prog 22 #[(.int .u8 8),s0,(.int .u64 0)] e fun s4 a5=>
 Qi e a5<|
 Qa prog 22 #[(.int .u8 3),s3,(.int .u64 0)] a5 fun s5 g1=>
 Qi a5 g1<|
 Q8 g1 74 3 (YV z74.toList 3) [(0,9,r7),(9,9,s4),(18,9,s5)] fun s6 s7=>
 Qg m 1 fun s8=>
 Qg s8 6 fun t0=>
 StK s7 1 t0 s6 fun t1=>
 Qk prog .add 3 o (.int .i64 1) fun t2=>
 QS f9 g0 [t2] t1)
 (a4 [] p)) fun a4=>∀r:Qe,a4 [] r->
 QD (fun s=>
 Qg b 15 fun t3=>
 LdK r t3 fun t4=>
 IfK t4
 (s [(.int .u64 1)] r)
 (s [(.int .u64 0)] r)) fun s=>∀g2:Value,∀a6:Qe,s [g2] a6->
 QD (fun a7=>
 Qg b 24 fun t5=>
 LdK a6 t5 fun g3=>
 Yv g3 fun t6=>
 Yu [(.int .i64 0),(.slice none 0 0)] a6 fun g4 g5=>∀t a8:Value,∀f:Qe,g4 g5 [t,a8] f->
 Qk prog .lss 3 t t6 fun t7=>
 IfK t7
 (Y1 1 g3 t fun t8=>
 LdK f t8 fun t9=>
 QD (fun u=>
 IfK t9
 (u [(.int .u64 1)] f)
 (u [(.int .u64 0)] f)) fun u=>∀g6:Value,∀g7:Qe,u [g6] g7->
 Q8 g7 31 1 (YV z31.toList 1) [(0,1,g6)] fun u0 u1=>
 Qbs u1 31 1 8 z31 a8 u0 fun u2 u3=>
 Qk prog .add 3 t (.int .i64 1) fun u4=>
 QS g4 g5 [u4,u2] u3)
 (a7 [a8] f)) fun a7=>∀g8:Value,∀a9:Qe,a7 [g8] a9->
 QD (fun b0=>
 Qg b 32 fun u5=>
 LdK a9 u5 fun g9=>
 Yv g9 fun u6=>
 Yu [(.int .i64 0),(.slice none 0 0)] a9 fun i0 i1=>∀v b1:Value,∀w:Qe,i0 i1 [v,b1] w->
 Qk prog .lss 3 v u6 fun u7=>
 IfK u7
 (Y1 1 g9 v fun u9=>
 LdK w u9 fun v0=>
 QK .u64 v0 fun v1=>
 Q8 w 31 1 (YV z31.toList 1) [(0,1,v1)] fun v2 v3=>
 Qbs v3 31 1 8 z31 b1 v2 fun v4 v5=>
 Qk prog .add 3 v (.int .i64 1) fun v6=>
 QS i0 i1 [v6,v4] v5)
 (b0 [b1] w)) fun b0=>∀i2:Value,∀i3:Qe,b0 [i2] i3->
 Qz z45.toList [(0,1,(.int .u8 15))] fun v7=>
 Qz z74.toList [(1,7,v7)] fun v8=>
 Y5 i3 (.cells z74 74) fun g v9=>
 StK v9 9 g v8 fun a=>
 LdN a 9 i fun w0=>
 Qg b 1 fun w1=>
 LdK a w1 fun w2=>
 QK .u64 w2 fun w3=>
 Qg b 2 fun w4=>
 LdK a w4 fun w5=>
 QK .u64 w5 fun w6=>
 Qg b 3 fun w7=>
 LdK a w7 fun w8=>
 Qz z45.toList [(0,1,(.int .u8 11)),(3,1,w8)] fun w9=>
 Qz z74.toList [(0,1,(.bool true)),(1,7,w9)] fun y0=>
 Qg b 4 fun y1=>
 LdK a y1 fun y2=>
 Qg b 5 fun y3=>
 LdK a y3 fun y4=>
 QK .u64 y4 fun y5=>
 LdN a 9 g fun y6=>
 Qg b 9 fun y7=>
 LdK a y7 fun y8=>
 Qg b 10 fun y9=>
 LdK a y9 fun z0=>
 Qz z45.toList [(0,1,(.int .u8 16))] fun z1=>
 Qz z74.toList [(1,7,z1)] fun z2=>
 LdN a 9 g fun z3=>
 Qg b 13 fun z4=>
 LdK a z4 fun z5=>
 LdN a 9 m fun z6=>
 Qg b 16 fun z7=>
 LdK a z7 fun z8=>
 QK .u64 z8 fun z9=>
 Qg b 17 fun a00=>
 LdK a a00 fun a01=>
 QK .u64 a01 fun a02=>
 Qg b 18 fun a03=>
 LdK a a03 fun a04=>
 QK .u64 a04 fun a05=>
 Qg b 19 fun a06=>
 LdK a a06 fun a07=>
 Qg b 20 fun a08=>
 LdK a a08 fun a09=>
 QK .u64 a09 fun a10=>
 Qg b 21 fun a11=>
 LdK a a11 fun a12=>
 QK .u64 a12 fun a13=>
 Qg b 22 fun a14=>
 LdK a a14 fun a15=>
 QK .u64 a15 fun a16=>
 Qg b 23 fun a17=>
 LdK a a17 fun a18=>
 Qg b 25 fun a19=>
 LdK a a19 fun a20=>
 QK .u64 a20 fun a21=>
 Qg b 26 fun a22=>
 LdK a a22 fun a23=>
 QK .u64 a23 fun a24=>
 Qg b 27 fun a25=>
 LdK a a25 fun a26=>
 QK .u64 a26 fun a27=>
 Qg b 28 fun a28=>
 LdK a a28 fun a29=>
 Qz z45.toList [(0,1,(.int .u8 13))] fun a30=>
 Qz z74.toList [(1,7,a30)] fun a31=>
 Qg b 30 fun a32=>
 LdK a a32 fun a33=>
 Qg b 31 fun a34=>
 LdK a a34 fun a35=>
 Qg b 33 fun a36=>
 LdK a a36 fun a37=>
 Qg b 34 fun a38=>
 LdK a a38 fun a39=>
 Qz z45.toList [(0,1,(.int .u8 15))] fun a40=>
 Qz z74.toList [(0,1,a39),(1,7,a40)] fun a41=>
 Qg b 35 fun a42=>
 LdK a a42 fun a43=>
 Qg b 36 fun a44=>
 LdK a a44 fun a45=>
 Qg b 37 fun a46=>
 LdK a a46 fun a47=>
 Qg b 38 fun a48=>
 LdK a a48 fun a49=>
 Qg b 39 fun a50=>
 LdK a a50 fun a51=>
 Qg b 40 fun a52=>
 LdK a a52 fun a53=>
 Qg b 41 fun a54=>
 LdK a a54 fun a55=>
 Qg b 42 fun a56=>
 LdK a a56 fun a57=>
 LdN a 9 g fun a58=>
 LdN a 9 g fun a59=>
 Qg b 49 fun a60=>
 LdK a a60 fun a61=>
 Qg b 50 fun a62=>
 LdK a a62 fun a63=>
 QK .u64 a63 fun a64=>
 Qa prog 22 #[(.int .u8 4),w3,(.int .u64 150)] a fun a65 b2=>
 Qi a b2<|
 Qa prog 22 #[(.int .u8 4),w6,(.int .u64 100)] b2 fun a66 b3=>
 Qi b2 b3<|
 Qa prog 22 #[(.int .u8 0),(.int .u64 0),(.int .u64 0)] b3 fun a67 b4=>
 Qi b3 b4<|
 Qa prog 23 #[y2] b4 fun a68 b5=>
 Qi b4 b5<|
 Qa prog 22 #[(.int .u8 1),y5,(.int .u64 8)] b5 fun a69 b6=>
 Qi b5 b6<|
 Qa prog 22 #[(.int .u8 1),(.int .u64 0),(.int .u64 0)] b6 fun a70 b7=>
 Qi b6 b7<|
 Qa prog 24 #[y8] b7 fun a71 b8=>
 Qi b7 b8<|
 Qa prog 25 #[z0] b8 fun a72 b9=>
 Qi b8 b9<|
 Qa prog 23 #[z5] b9 fun a73 c0=>
 Qi b9 c0<|
 Qa prog 22 #[(.int .u8 0),g2,(.int .u64 0)] c0 fun a74 c1=>
 Qi c0 c1<|
 Qa prog 22 #[(.int .u8 6),z9,(.int .u64 0)] c1 fun a75 c2=>
 Qi c1 c2<|
 Qa prog 22 #[(.int .u8 5),a02,(.int .u64 0)] c2 fun a76 c3=>
 Qi c2 c3<|
 Qa prog 22 #[(.int .u8 8),a05,(.int .u64 0)] c3 fun a77 c4=>
 Qi c3 c4<|
 Qa prog 22 #[(.int .u8 7),a07,(.int .u64 0)] c4 fun a78 c5=>
 Qi c4 c5<|
 Qa prog 22 #[(.int .u8 6),a10,(.int .u64 0)] c5 fun a79 c6=>
 Qi c5 c6<|
 Qa prog 22 #[(.int .u8 5),a13,(.int .u64 0)] c6 fun a80 c7=>
 Qi c6 c7<|
 Qa prog 22 #[(.int .u8 8),a16,(.int .u64 0)] c7 fun a81 c8=>
 Qi c7 c8<|
 Qa prog 22 #[(.int .u8 7),a18,(.int .u64 0)] c8 fun a82 c9=>
 Qi c8 c9<|
 Qa prog 26 #[(.int .u8 0),g8] c9 fun a83 d0=>
 Qi c9 d0<|
 Qa prog 22 #[(.int .u8 9),a21,(.int .u64 1078530000)] d0 fun a84 d1=>
 Qi d0 d1<|
 Qa prog 22 #[(.int .u8 9),a24,(.int .u64 1077936128)] d1 fun a85 d2=>
 Qi d1 d2<|
 Qa prog 22 #[(.int .u8 9),a27,(.int .u64 0)] d2 fun a86 d3=>
 Qi d2 d3<|
 Qa prog 25 #[a29] d3 fun a87 d4=>
 Qi d3 d4<|
 Qa prog 23 #[a33] d4 fun a88 d5=>
 Qi d4 d5<|
 Qa prog 24 #[a35] d5 fun a89 d6=>
 Qi d5 d6<|
 Qa prog 26 #[(.int .u8 8),i2] d6 fun a90 d7=>
 Qi d6 d7<|
 Qa prog 26 #[(.int .u8 10),a37] d7 fun a91 d8=>
 Qi d7 d8<|
 Qa prog 27 #[a43] d8 fun a92 d9=>
 Qi d8 d9<|
 Qa prog 22 #[(.int .u8 7),a45,(.int .u64 0)] d9 fun a93 e0=>
 Qi d9 e0<|
 Qa prog 26 #[(.int .u8 7),a47] e0 fun a94 e1=>
 Qi e0 e1<|
 Qa prog 27 #[a49] e1 fun a95 e2=>
 Qi e1 e2<|
 Qa prog 22 #[(.int .u8 7),a51,(.int .u64 0)] e2 fun a96 e3=>
 Qi e2 e3<|
 Qa prog 26 #[(.int .u8 7),a53] e3 fun a97 e4=>
 Qi e3 e4<|
 Qa prog 22 #[(.int .u8 7),a55,(.int .u64 0)] e4 fun a98 e5=>
 Qi e4 e5<|
 Qa prog 26 #[(.int .u8 7),a57] e5 fun a99 e6=>
 Qi e5 e6<|
 Qa prog 22 #[(.int .u8 1),(.int .u64 0),(.int .u64 0)] e6 fun b00 e7=>
 Qi e6 e7<|
 Qa prog 22 #[(.int .u8 1),(.int .u64 0),(.int .u64 0)] e7 fun b01 e8=>
 Qi e7 e8<|
 Qa prog 23 #[a61] e8 fun b02 e9=>
 Qi e8 e9<|
 Qa prog 22 #[(.int .u8 2),a64,(.int .u64 255)] e9 fun b03 i4=>
 Qi e9 i4<|
 Q8 i4 74 49 (YV z74.toList 49) [(0,9,w0),(9,9,a65),(18,9,a66),(27,9,y0),(36,9,a67),(45,9,a68),(54,9,a69),(63,9,a70),(72,9,y6),(81,9,a71),(90,9,a72),(99,9,z2),(108,9,z3),(117,9,a73),(126,9,z6),(135,9,a74),(144,9,a75),(153,9,a76),(162,9,a77),(171,9,a78),(180,9,a79),(189,9,a80),(198,9,a81),(207,9,a82),(216,9,a83),(225,9,a84),(234,9,a85),(243,9,a86),(252,9,a87),(261,9,a31),(270,9,a88),(279,9,a89),(288,9,a90),(297,9,a91),(306,9,a41),(315,9,a92),(324,9,a93),(333,9,a94),(342,9,a95),(351,9,a96),(360,9,a97),(369,9,a98),(378,9,a99),(387,9,b00),(396,9,a58),(405,9,b01),(414,9,a59),(423,9,b02),(432,9,b03)] fun b04 b05=>
 Qz z45.toList [(0,1,(.int .u8 15)),(6,1,b04)] fun b06=>
 StK b05 7 f0 b06 fun i5=>
 LdN i5 7 f0 fun b07=>
 R b07 i5
theorem w9 {a h R} (H:s9 a h R):FnS prog 9 #[a] h R:=wq Tryz.func9 (by kernel_rfl) H
def s12 (o:Value) (h:Qe) (R:Kn):Prop:=
 Y5 h (.cells (Value.cells o) 38) fun a p=>
 Y5 p (.cells z38 38) fun g e=>
 QD (fun d=>
 Qg a 27 fun q=>
 LdK e q fun r=>
 Qk prog .eql 30 r (.int .u32 2147483648) fun s=>
 IfK s
 (Qg a 27 fun t=>
 StK e 1 t (.int .u32 0) fun u=>
 d [] u)
 (d [] e)) fun d=>∀b:Qe,d [] b->
 Qg a 11 fun v=>
 LdK b v fun w=>
 Qg a 12 fun y=>
 LdK b y fun z=>
 DynK prog (.func (.func 36) #[] #[]) #[w] b fun a0 i=>
 Qi b i<|
 Qg a 11 fun a1=>
 DynK prog (.func (.func 36) #[] #[]) #[z] i fun a2 a3=>
 StK a3 1 a1 a0 fun a4=>
 Qg a 12 fun a5=>
 StK a4 1 a5 a2 fun c=>
 Qg a 6 fun a6=>
 Qg a6 1 fun a7=>
 LdK c a7 fun a8=>
 Qg a 43 fun a9=>
 Qg a9 1 fun b0=>
 LdK c b0 fun b1=>
 Qg a 46 fun b2=>
 Qg b2 1 fun b3=>
 LdK c b3 fun b4=>
 DynK prog (.func (.func 36) #[] #[]) #[a8] c fun b5 f=>
 Qi c f<|
 Qg a 6 fun b6=>
 Qg b6 1 fun b7=>
 DynK prog (.func (.func 36) #[] #[]) #[b1] f fun b8 j=>
 Qi f j<|
 DynK prog (.func (.func 36) #[] #[]) #[b4] j fun b9 c0=>
 StK c0 1 b7 b5 fun c1=>
 Qg a 43 fun c2=>
 Qg c2 1 fun c3=>
 StK c1 1 c3 b8 fun c4=>
 Qg a 46 fun c5=>
 Qg c5 1 fun c6=>
 StK c4 1 c6 b9 fun l=>
 LdN l 51 a fun c7=>
 StK l 51 g c7 fun m=>
 LdN m 51 g fun c8=>
 R c8 m
theorem w12 {a h R} (H:s12 a h R):FnS prog 12 #[a] h R:=wq Tryz.func12 (by kernel_rfl) H
def s13 (a25 a26:Value) (h:Qe) (R:Kn):Prop:=
 Y5 h (.cells (Value.cells a25) 38) fun a a27=>
 Y5 a27 (.cells (Value.cells a26) 38) fun b c4=>
 Qg a 0 fun a28=>
 LdK c4 a28 fun a29=>
 Qg b 0 fun a30=>
 LdK c4 a30 fun a31=>
 Qa prog 37 #[a29,a31] c4 fun c o3=>
 Qc c true (fun a32=>Qg a 1 fun a33=>a32 a33 o3) o3 fun a34 c5=>
 Qc c true (fun a35=>LdK c5 a34 fun a36=>a35 a36 c5) c5 fun a37 o4=>
 Qc c true (fun a38=>Qg b 1 fun a39=>a38 a39 o4) o4 fun a40 c6=>
 Qc c true (fun a41=>LdK c6 a40 fun a42=>a41 a42 c6) c6 fun a43 o5=>
 Qc c true (fun a44=>Qk prog .eql 23 a37 a43 fun a45=>a44 a45 o5) o5 fun a46 o6=>
 Yd c a46 (.bool false) fun d=>
 Qc d true (fun a47=>Qg a 2 fun a48=>a47 a48 o6) o6 fun a49 c7=>
 Qc d true (fun a50=>LdK c7 a49 fun a51=>a50 a51 c7) c7 fun a52 o7=>
 Qc d true (fun a53=>Qg b 2 fun a54=>a53 a54 o7) o7 fun a55 c8=>
 Qc d true (fun a56=>LdK c8 a55 fun a57=>a56 a57 c8) c8 fun a58 o8=>
 Qc d true (fun a59=>Qk prog .eql 23 a52 a58 fun a60=>a59 a60 o8) o8 fun a61 o9=>
 Yd d a61 (.bool false) fun e=>
 Qc e true (fun a62=>Qg a 3 fun a63=>a62 a63 o9) o9 fun a64 c9=>
 Qc e true (fun a65=>LdK c9 a64 fun a66=>a65 a66 c9) c9 fun a67 p0=>
 Qc e true (fun a68=>Qg b 3 fun a69=>a68 a69 p0) p0 fun a70 d0=>
 Qc e true (fun a71=>LdK d0 a70 fun a72=>a71 a72 d0) d0 fun a73 p1=>
 Qc e true (fun a74=>Qk prog .eql 9 a67 a73 fun a75=>a74 a75 p1) p1 fun a76 p2=>
 Yd e a76 (.bool false) fun f=>
 Qc f true (fun a77=>Qg a 4 fun a78=>a77 a78 p2) p2 fun a79 d1=>
 Qc f true (fun a80=>LdK d1 a79 fun a81=>a80 a81 d1) d1 fun a82 p3=>
 Qc f true (fun a83=>Qg b 4 fun a84=>a83 a84 p3) p3 fun a85 d2=>
 Qc f true (fun a86=>LdK d2 a85 fun a87=>a86 a87 d2) d2 fun a88 p4=>
 Qc f true (fun a89=>Qk prog .eql 9 a82 a88 fun a90=>a89 a90 p4) p4 fun a91 p5=>
 Yd f a91 (.bool false) fun g=>
 Qc g true (fun a92=>Qg a 5 fun a93=>a92 a93 p5) p5 fun a94 d3=>
 Qc g true (fun a95=>LdK d3 a94 fun a96=>a95 a96 d3) d3 fun a97 p6=>
 Qc g true (fun a98=>Qg b 5 fun a99=>a98 a99 p6) p6 fun b00 d4=>
 Qc g true (fun b01=>LdK d4 b00 fun b02=>b01 b02 d4) d4 fun b03 p7=>
 Qc g true (fun b04=>Qk prog .eql 5 a97 b03 fun b05=>b04 b05 p7) p7 fun b06 p8=>
 Yd g b06 (.bool false) fun i=>
 Qc i true (fun b07=>Qg a 6 fun b08=>b07 b08 p8) p8 fun b09 d5=>
 Qc i true (fun b10=>LdN d5 3 b09 fun b11=>b10 b11 d5) d5 fun b12 p9=>
 Qc i true (fun b13=>Qg b 6 fun b14=>b13 b14 p9) p9 fun b15 d6=>
 Qc i true (fun b16=>LdN d6 3 b15 fun b17=>b16 b17 d6) d6 fun b18 q0=>
 Qc i true (fun b19=>Qa prog 38 #[b12,b18] q0 fun b20 b21=>b19 b20 b21) q0 fun b22 q1=>
 Yd i b22 (.bool false) fun j=>
 Qc j true (fun b23=>Qg a 9 fun b24=>b23 b24 q1) q1 fun b25 d7=>
 Qc j true (fun b26=>LdK d7 b25 fun b27=>b26 b27 d7) d7 fun b28 q2=>
 Qc j true (fun b29=>Qg b 9 fun b30=>b29 b30 q2) q2 fun b31 d8=>
 Qc j true (fun b32=>LdK d8 b31 fun b33=>b32 b33 d8) d8 fun b34 q3=>
 Qc j true (fun b35=>Qa prog 39 #[b28,b34] q3 fun b36 b37=>b35 b36 b37) q3 fun b38 q4=>
 Yd j b38 (.bool false) fun l=>
 Qc l true (fun b39=>Qg a 10 fun b40=>b39 b40 q4) q4 fun b41 d9=>
 Qc l true (fun b42=>LdK d9 b41 fun b43=>b42 b43 d9) d9 fun b44 q5=>
 Qc l true (fun b45=>Qg b 10 fun b46=>b45 b46 q5) q5 fun b47 e0=>
 Qc l true (fun b48=>LdK e0 b47 fun b49=>b48 b49 e0) e0 fun b50 q6=>
 Qc l true (fun b51=>Qa prog 40 #[b44,b50] q6 fun b52 b53=>b51 b52 b53) q6 fun b54 q7=>
 Yd l b54 (.bool false) fun m=>
 Qc m true (fun b55=>Qg a 11 fun b56=>b55 b56 q7) q7 fun b57 e1=>
 Qc m true (fun b58=>LdK e1 b57 fun b59=>b58 b59 e1) e1 fun b60 q8=>
 Qc m true (fun b61=>Qg b 11 fun b62=>b61 b62 q8) q8 fun b63 e2=>
 Qc m true (fun b64=>LdK e2 b63 fun b65=>b64 b65 e2) e2 fun b66 q9=>
 Qc m true (fun b67=>Qa prog 41 #[b60,b66] q9 fun b68 b69=>b67 b68 b69) q9 fun b70 r0=>
 Yd m b70 (.bool false) fun o=>
 Qc o true (fun b71=>Qg a 12 fun b72=>b71 b72 r0) r0 fun b73 e3=>
 Qc o true (fun b74=>LdK e3 b73 fun b75=>b74 b75 e3) e3 fun b76 r1=>
 Qc o true (fun b77=>Qg b 12 fun b78=>b77 b78 r1) r1 fun b79 e4=>
 Qc o true (fun b80=>LdK e4 b79 fun b81=>b80 b81 e4) e4 fun b82 r2=>
 Qc o true (fun b83=>Qa prog 41 #[b76,b82] r2 fun b84 b85=>b83 b84 b85) r2 fun b86 r3=>
 Yd o b86 (.bool false) fun p=>
 Qc p true (fun b87=>Qg a 13 fun b88=>b87 b88 r3) r3 fun b89 e5=>
 Qc p true (fun b90=>LdK e5 b89 fun b91=>b90 b91 e5) e5 fun b92 r4=>
 Qc p true (fun b93=>Qg b 13 fun b94=>b93 b94 r4) r4 fun b95 e6=>
 Qc p true (fun b96=>LdK e6 b95 fun b97=>b96 b97 e6) e6 fun b98 r5=>
 Qc p true (fun b99=>Qk prog .eql 9 b92 b98 fun c00=>b99 c00 r5) r5 fun c01 r6=>
 Yd p c01 (.bool false) fun q=>
 Qc q true (fun c02=>Qg a 14 fun c03=>c02 c03 r6) r6 fun c04 e7=>
 Qc q true (fun c05=>LdK e7 c04 fun c06=>c05 c06 e7) e7 fun c07 r7=>
 Qc q true (fun c08=>Qg b 14 fun c09=>c08 c09 r7) r7 fun c10 e8=>
 Qc q true (fun c11=>LdK e8 c10 fun c12=>c11 c12 e8) e8 fun c13 r8=>
 Qc q true (fun c14=>Qa prog 42 #[c07,c13] r8 fun c15 c16=>c14 c15 c16) r8 fun c17 r9=>
 Yd q c17 (.bool false) fun r=>
 Qc r true (fun c18=>Qg a 15 fun c19=>c18 c19 r9) r9 fun c20 e9=>
 Qc r true (fun c21=>LdK e9 c20 fun c22=>c21 c22 e9) e9 fun c23 s0=>
 Qc r true (fun c24=>Qg b 15 fun c25=>c24 c25 s0) s0 fun c26 f0=>
 Qc r true (fun c27=>LdK f0 c26 fun c28=>c27 c28 f0) f0 fun c29 s1=>
 Qc r true (fun c30=>Qk prog .eql 4 c23 c29 fun c31=>c30 c31 s1) s1 fun c32 s2=>
 Yd r c32 (.bool false) fun s=>
 Qc s true (fun c33=>Qg a 16 fun c34=>c33 c34 s2) s2 fun c35 f1=>
 Qc s true (fun c36=>LdK f1 c35 fun c37=>c36 c37 f1) f1 fun c38 s3=>
 Qc s true (fun c39=>Qg b 16 fun c40=>c39 c40 s3) s3 fun c41 f2=>
 Qc s true (fun c42=>LdK f2 c41 fun c43=>c42 c43 f2) f2 fun c44 s4=>
 Qc s true (fun c45=>Qk prog .eql 21 c38 c44 fun c46=>c45 c46 s4) s4 fun c47 s5=>
 Yd s c47 (.bool false) fun t=>
 Qc t true (fun c48=>Qg a 17 fun c49=>c48 c49 s5) s5 fun c50 f3=>
 Qc t true (fun c51=>LdK f3 c50 fun c52=>c51 c52 f3) f3 fun c53 s6=>
 Qc t true (fun c54=>Qg b 17 fun c55=>c54 c55 s6) s6 fun c56 f4=>
 Qc t true (fun c57=>LdK f4 c56 fun c58=>c57 c58 f4) f4 fun c59 s7=>
 Qc t true (fun c60=>Qk prog .eql 30 c53 c59 fun c61=>c60 c61 s7) s7 fun c62 s8=>
 Yd t c62 (.bool false) fun u=>
 Qc u true (fun c63=>Qg a 18 fun c64=>c63 c64 s8) s8 fun c65 f5=>
 Qc u true (fun c66=>LdK f5 c65 fun c67=>c66 c67 f5) f5 fun c68 s9=>
 Qc u true (fun c69=>Qg b 18 fun c70=>c69 c70 s9) s9 fun c71 f6=>
 Qc u true (fun c72=>LdK f6 c71 fun c73=>c72 c73 f6) f6 fun c74 t0=>
 Qc u true (fun c75=>Qk prog .eql 2 c68 c74 fun c76=>c75 c76 t0) t0 fun c77 t1=>
 Yd u c77 (.bool false) fun v=>
 Qc v true (fun c78=>Qg a 19 fun c79=>c78 c79 t1) t1 fun c80 f7=>
 Qc v true (fun c81=>LdK f7 c80 fun c82=>c81 c82 f7) f7 fun c83 t2=>
 Qc v true (fun c84=>Qg b 19 fun c85=>c84 c85 t2) t2 fun c86 f8=>
 Qc v true (fun c87=>LdK f8 c86 fun c88=>c87 c88 f8) f8 fun c89 t3=>
 Qc v true (fun c90=>Qk prog .eql 31 c83 c89 fun c91=>c90 c91 t3) t3 fun c92 t4=>
 Yd v c92 (.bool false) fun w=>
 Qc w true (fun c93=>Qg a 20 fun c94=>c93 c94 t4) t4 fun c95 f9=>
 Qc w true (fun c96=>LdK f9 c95 fun c97=>c96 c97 f9) f9 fun c98 t5=>
 Qc w true (fun c99=>Qg b 20 fun d00=>c99 d00 t5) t5 fun d01 g0=>
 Qc w true (fun d02=>LdK g0 d01 fun d03=>d02 d03 g0) g0 fun d04 t6=>
 Qc w true (fun d05=>Qk prog .eql 21 c98 d04 fun d06=>d05 d06 t6) t6 fun d07 t7=>
 Yd w d07 (.bool false) fun y=>
 Qc y true (fun d08=>Qg a 21 fun d09=>d08 d09 t7) t7 fun d10 g1=>
 Qc y true (fun d11=>LdK g1 d10 fun d12=>d11 d12 g1) g1 fun d13 t8=>
 Qc y true (fun d14=>Qg b 21 fun d15=>d14 d15 t8) t8 fun d16 g2=>
 Qc y true (fun d17=>LdK g2 d16 fun d18=>d17 d18 g2) g2 fun d19 t9=>
 Qc y true (fun d20=>Qk prog .eql 30 d13 d19 fun d21=>d20 d21 t9) t9 fun d22 u0=>
 Yd y d22 (.bool false) fun z=>
 Qc z true (fun d23=>Qg a 22 fun d24=>d23 d24 u0) u0 fun d25 g3=>
 Qc z true (fun d26=>LdK g3 d25 fun d27=>d26 d27 g3) g3 fun d28 u1=>
 Qc z true (fun d29=>Qg b 22 fun d30=>d29 d30 u1) u1 fun d31 g4=>
 Qc z true (fun d32=>LdK g4 d31 fun d33=>d32 d33 g4) g4 fun d34 u2=>
 Qc z true (fun d35=>Qk prog .eql 2 d28 d34 fun d36=>d35 d36 u2) u2 fun d37 u3=>
 Yd z d37 (.bool false) fun a0=>
 Qc a0 true (fun d38=>Qg a 23 fun d39=>d38 d39 u3) u3 fun d40 g5=>
 Qc a0 true (fun d41=>LdK g5 d40 fun d42=>d41 d42 g5) g5 fun d43 u4=>
 Qc a0 true (fun d44=>Qg b 23 fun d45=>d44 d45 u4) u4 fun d46 g6=>
 Qc a0 true (fun d47=>LdK g6 d46 fun d48=>d47 d48 g6) g6 fun d49 u5=>
 Qc a0 true (fun d50=>Qk prog .eql 31 d43 d49 fun d51=>d50 d51 u5) u5 fun d52 u6=>
 Yd a0 d52 (.bool false) fun a1=>
 Qc a1 true (fun d53=>Qg a 24 fun d54=>d53 d54 u6) u6 fun d55 g7=>
 Qc a1 true (fun d56=>LdK g7 d55 fun d57=>d56 d57 g7) g7 fun d58 u7=>
 Qc a1 true (fun d59=>Qg b 24 fun d60=>d59 d60 u7) u7 fun d61 g8=>
 Qc a1 true (fun d62=>LdK g8 d61 fun d63=>d62 d63 g8) g8 fun d64 u8=>
 Qc a1 true (fun d65=>Qa prog 43 #[d58,d64] u8 fun d66 d67=>d65 d66 d67) u8 fun d68 u9=>
 Yd a1 d68 (.bool false) fun a2=>
 Qc a2 true (fun d69=>Qg a 25 fun d70=>d69 d70 u9) u9 fun d71 g9=>
 Qc a2 true (fun d72=>LdK g9 d71 fun d73=>d72 d73 g9) g9 fun d74 v0=>
 Qc a2 true (fun d75=>Qg b 25 fun d76=>d75 d76 v0) v0 fun d77 i0=>
 Qc a2 true (fun d78=>LdK i0 d77 fun d79=>d78 d79 i0) i0 fun d80 v1=>
 Qc a2 true (fun d81=>Qk prog .eql 30 d74 d80 fun d82=>d81 d82 v1) v1 fun d83 v2=>
 Yd a2 d83 (.bool false) fun a3=>
 Qc a3 true (fun d84=>Qg a 26 fun d85=>d84 d85 v2) v2 fun d86 i1=>
 Qc a3 true (fun d87=>LdK i1 d86 fun d88=>d87 d88 i1) i1 fun d89 v3=>
 Qc a3 true (fun d90=>Qg b 26 fun d91=>d90 d91 v3) v3 fun d92 i2=>
 Qc a3 true (fun d93=>LdK i2 d92 fun d94=>d93 d94 i2) i2 fun d95 v4=>
 Qc a3 true (fun d96=>Qk prog .eql 30 d89 d95 fun d97=>d96 d97 v4) v4 fun d98 v5=>
 Yd a3 d98 (.bool false) fun a4=>
 Qc a4 true (fun d99=>Qg a 27 fun e00=>d99 e00 v5) v5 fun e01 i3=>
 Qc a4 true (fun e02=>LdK i3 e01 fun e03=>e02 e03 i3) i3 fun e04 v6=>
 Qc a4 true (fun e05=>Qg b 27 fun e06=>e05 e06 v6) v6 fun e07 i4=>
 Qc a4 true (fun e08=>LdK i4 e07 fun e09=>e08 e09 i4) i4 fun e10 v7=>
 Qc a4 true (fun e11=>Qk prog .eql 30 e04 e10 fun e12=>e11 e12 v7) v7 fun e13 v8=>
 Yd a4 e13 (.bool false) fun a5=>
 Qc a5 true (fun e14=>Qg a 28 fun e15=>e14 e15 v8) v8 fun e16 i5=>
 Qc a5 true (fun e17=>LdK i5 e16 fun e18=>e17 e18 i5) i5 fun e19 v9=>
 Qc a5 true (fun e20=>Qg b 28 fun e21=>e20 e21 v9) v9 fun e22 i6=>
 Qc a5 true (fun e23=>LdK i6 e22 fun e24=>e23 e24 i6) i6 fun e25 w0=>
 Qc a5 true (fun e26=>Qa prog 40 #[e19,e25] w0 fun e27 e28=>e26 e27 e28) w0 fun e29 w1=>
 Yd a5 e29 (.bool false) fun a6=>
 Qc a6 true (fun e30=>Qg a 29 fun e31=>e30 e31 w1) w1 fun e32 i7=>
 Qc a6 true (fun e33=>LdK i7 e32 fun e34=>e33 e34 i7) i7 fun e35 w2=>
 Qc a6 true (fun e36=>Qg b 29 fun e37=>e36 e37 w2) w2 fun e38 i8=>
 Qc a6 true (fun e39=>LdK i8 e38 fun e40=>e39 e40 i8) i8 fun e41 w3=>
 Qc a6 true (fun e42=>Qa prog 44 #[e35,e41] w3 fun e43 e44=>e42 e43 e44) w3 fun e45 w4=>
 Yd a6 e45 (.bool false) fun a7=>
 Qc a7 true (fun e46=>Qg a 30 fun e47=>e46 e47 w4) w4 fun e48 i9=>
 Qc a7 true (fun e49=>LdK i9 e48 fun e50=>e49 e50 i9) i9 fun e51 w5=>
 Qc a7 true (fun e52=>Qg b 30 fun e53=>e52 e53 w5) w5 fun e54 j0=>
 Qc a7 true (fun e55=>LdK j0 e54 fun e56=>e55 e56 j0) j0 fun e57 w6=>
 Qc a7 true (fun e58=>Qk prog .eql 9 e51 e57 fun e59=>e58 e59 w6) w6 fun e60 w7=>
 Yd a7 e60 (.bool false) fun a8=>
 Qc a8 true (fun e61=>Qg a 31 fun e62=>e61 e62 w7) w7 fun e63 j1=>
 Qc a8 true (fun e64=>LdK j1 e63 fun e65=>e64 e65 j1) j1 fun e66 w8=>
 Qc a8 true (fun e67=>Qg b 31 fun e68=>e67 e68 w8) w8 fun e69 j2=>
 Qc a8 true (fun e70=>LdK j2 e69 fun e71=>e70 e71 j2) j2 fun e72 w9=>
 Qc a8 true (fun e73=>Qa prog 39 #[e66,e72] w9 fun e74 e75=>e73 e74 e75) w9 fun e76 y0=>
 Yd a8 e76 (.bool false) fun a9=>
 Qc a9 true (fun e77=>Qg a 32 fun e78=>e77 e78 y0) y0 fun e79 j3=>
 Qc a9 true (fun e80=>LdK j3 e79 fun e81=>e80 e81 j3) j3 fun e82 y1=>
 Qc a9 true (fun e83=>Qg b 32 fun e84=>e83 e84 y1) y1 fun e85 j4=>
 Qc a9 true (fun e86=>LdK j4 e85 fun e87=>e86 e87 j4) j4 fun e88 y2=>
 Qc a9 true (fun e89=>Qa prog 45 #[e82,e88] y2 fun e90 e91=>e89 e90 e91) y2 fun e92 y3=>
 Yd a9 e92 (.bool false) fun b0=>
 Qc b0 true (fun e93=>Qg a 33 fun e94=>e93 e94 y3) y3 fun e95 j5=>
 Qc b0 true (fun e96=>LdK j5 e95 fun e97=>e96 e97 j5) j5 fun e98 y4=>
 Qc b0 true (fun e99=>Qg b 33 fun f00=>e99 f00 y4) y4 fun f01 j6=>
 Qc b0 true (fun f02=>LdK j6 f01 fun f03=>f02 f03 j6) j6 fun f04 y5=>
 Qc b0 true (fun f05=>Qa prog 46 #[e98,f04] y5 fun f06 f07=>f05 f06 f07) y5 fun f08 y6=>
 Yd b0 f08 (.bool false) fun b1=>
 Qc b1 true (fun f09=>Qg a 34 fun f10=>f09 f10 y6) y6 fun f11 j7=>
 Qc b1 true (fun f12=>LdK j7 f11 fun f13=>f12 f13 j7) j7 fun f14 y7=>
 Qc b1 true (fun f15=>Qg b 34 fun f16=>f15 f16 y7) y7 fun f17 j8=>
 Qc b1 true (fun f18=>LdK j8 f17 fun f19=>f18 f19 j8) j8 fun f20 y8=>
 Qc b1 true (fun f21=>Qk prog .eql 4 f14 f20 fun f22=>f21 f22 y8) y8 fun f23 y9=>
 Yd b1 f23 (.bool false) fun b2=>
 Qc b2 true (fun f24=>Qg a 35 fun f25=>f24 f25 y9) y9 fun f26 j9=>
 Qc b2 true (fun f27=>LdK j9 f26 fun f28=>f27 f28 j9) j9 fun f29 z0=>
 Qc b2 true (fun f30=>Qg b 35 fun f31=>f30 f31 z0) z0 fun f32 l0=>
 Qc b2 true (fun f33=>LdK l0 f32 fun f34=>f33 f34 l0) l0 fun f35 z1=>
 Qc b2 true (fun f36=>Qa prog 46 #[f29,f35] z1 fun f37 f38=>f36 f37 f38) z1 fun f39 z2=>
 Yd b2 f39 (.bool false) fun b3=>
 Qc b3 true (fun f40=>Qg a 36 fun f41=>f40 f41 z2) z2 fun f42 l1=>
 Qc b3 true (fun f43=>LdK l1 f42 fun f44=>f43 f44 l1) l1 fun f45 z3=>
 Qc b3 true (fun f46=>Qg b 36 fun f47=>f46 f47 z3) z3 fun f48 l2=>
 Qc b3 true (fun f49=>LdK l2 f48 fun f50=>f49 f50 l2) l2 fun f51 z4=>
 Qc b3 true (fun f52=>Qk prog .eql 31 f45 f51 fun f53=>f52 f53 z4) z4 fun f54 z5=>
 Yd b3 f54 (.bool false) fun b4=>
 Qc b4 true (fun f55=>Qg a 37 fun f56=>f55 f56 z5) z5 fun f57 l3=>
 Qc b4 true (fun f58=>LdK l3 f57 fun f59=>f58 f59 l3) l3 fun f60 z6=>
 Qc b4 true (fun f61=>Qg b 37 fun f62=>f61 f62 z6) z6 fun f63 l4=>
 Qc b4 true (fun f64=>LdK l4 f63 fun f65=>f64 f65 l4) l4 fun f66 z7=>
 Qc b4 true (fun f67=>Qa prog 46 #[f60,f66] z7 fun f68 f69=>f67 f68 f69) z7 fun f70 z8=>
 Yd b4 f70 (.bool false) fun b5=>
 Qc b5 true (fun f71=>Qg a 38 fun f72=>f71 f72 z8) z8 fun f73 l5=>
 Qc b5 true (fun f74=>LdK l5 f73 fun f75=>f74 f75 l5) l5 fun f76 z9=>
 Qc b5 true (fun f77=>Qg b 38 fun f78=>f77 f78 z9) z9 fun f79 l6=>
 Qc b5 true (fun f80=>LdK l6 f79 fun f81=>f80 f81 l6) l6 fun f82 a00=>
 Qc b5 true (fun f83=>Qa prog 46 #[f76,f82] a00 fun f84 f85=>f83 f84 f85) a00 fun f86 a01=>
 Yd b5 f86 (.bool false) fun b6=>
 Qc b6 true (fun f87=>Qg a 39 fun f88=>f87 f88 a01) a01 fun f89 l7=>
 Qc b6 true (fun f90=>LdK l7 f89 fun f91=>f90 f91 l7) l7 fun f92 a02=>
 Qc b6 true (fun f93=>Qg b 39 fun f94=>f93 f94 a02) a02 fun f95 l8=>
 Qc b6 true (fun f96=>LdK l8 f95 fun f97=>f96 f97 l8) l8 fun f98 a03=>
 Qc b6 true (fun f99=>Qk prog .eql 31 f92 f98 fun g00=>f99 g00 a03) a03 fun g01 a04=>
 Yd b6 g01 (.bool false) fun b7=>
 Qc b7 true (fun g02=>Qg a 40 fun g03=>g02 g03 a04) a04 fun g04 l9=>
 Qc b7 true (fun g05=>LdK l9 g04 fun g06=>g05 g06 l9) l9 fun g07 a05=>
 Qc b7 true (fun g08=>Qg b 40 fun g09=>g08 g09 a05) a05 fun g10 m0=>
 Qc b7 true (fun g11=>LdK m0 g10 fun g12=>g11 g12 m0) m0 fun g13 a06=>
 Qc b7 true (fun g14=>Qa prog 46 #[g07,g13] a06 fun g15 g16=>g14 g15 g16) a06 fun g17 a07=>
 Yd b7 g17 (.bool false) fun b8=>
 Qc b8 true (fun g18=>Qg a 41 fun g19=>g18 g19 a07) a07 fun g20 m1=>
 Qc b8 true (fun g21=>LdK m1 g20 fun g22=>g21 g22 m1) m1 fun g23 a08=>
 Qc b8 true (fun g24=>Qg b 41 fun g25=>g24 g25 a08) a08 fun g26 m2=>
 Qc b8 true (fun g27=>LdK m2 g26 fun g28=>g27 g28 m2) m2 fun g29 a09=>
 Qc b8 true (fun g30=>Qk prog .eql 31 g23 g29 fun g31=>g30 g31 a09) a09 fun g32 a10=>
 Yd b8 g32 (.bool false) fun b9=>
 Qc b9 true (fun g33=>Qg a 42 fun g34=>g33 g34 a10) a10 fun g35 m3=>
 Qc b9 true (fun g36=>LdK m3 g35 fun g37=>g36 g37 m3) m3 fun g38 a11=>
 Qc b9 true (fun g39=>Qg b 42 fun g40=>g39 g40 a11) a11 fun g41 m4=>
 Qc b9 true (fun g42=>LdK m4 g41 fun g43=>g42 g43 m4) m4 fun g44 a12=>
 Qc b9 true (fun g45=>Qa prog 46 #[g38,g44] a12 fun g46 g47=>g45 g46 g47) a12 fun g48 a13=>
 Yd b9 g48 (.bool false) fun c0=>
 Qc c0 true (fun g49=>Qg a 43 fun g50=>g49 g50 a13) a13 fun g51 m5=>
 Qc c0 true (fun g52=>LdN m5 3 g51 fun g53=>g52 g53 m5) m5 fun g54 a14=>
 Qc c0 true (fun g55=>Qg b 43 fun g56=>g55 g56 a14) a14 fun g57 m6=>
 Qc c0 true (fun g58=>LdN m6 3 g57 fun g59=>g58 g59 m6) m6 fun g60 a15=>
 Qc c0 true (fun g61=>Qa prog 38 #[g54,g60] a15 fun g62 g63=>g61 g62 g63) a15 fun g64 a16=>
 Yd c0 g64 (.bool false) fun c1=>
 Qc c1 true (fun g65=>Qg a 46 fun g66=>g65 g66 a16) a16 fun g67 m7=>
 Qc c1 true (fun g68=>LdN m7 3 g67 fun g69=>g68 g69 m7) m7 fun g70 a17=>
 Qc c1 true (fun g71=>Qg b 46 fun g72=>g71 g72 a17) a17 fun g73 m8=>
 Qc c1 true (fun g74=>LdN m8 3 g73 fun g75=>g74 g75 m8) m8 fun g76 a18=>
 Qc c1 true (fun g77=>Qa prog 38 #[g70,g76] a18 fun g78 g79=>g77 g78 g79) a18 fun g80 a19=>
 Yd c1 g80 (.bool false) fun c2=>
 Qc c2 true (fun g81=>Qg a 49 fun g82=>g81 g82 a19) a19 fun g83 m9=>
 Qc c2 true (fun g84=>LdK m9 g83 fun g85=>g84 g85 m9) m9 fun g86 a20=>
 Qc c2 true (fun g87=>Qg b 49 fun g88=>g87 g88 a20) a20 fun g89 o0=>
 Qc c2 true (fun g90=>LdK o0 g89 fun g91=>g90 g91 o0) o0 fun g92 a21=>
 Qc c2 true (fun g93=>Qk prog .eql 9 g86 g92 fun g94=>g93 g94 a21) a21 fun g95 a22=>
 Yd c2 g95 (.bool false) fun c3=>
 Qc c3 true (fun g96=>Qg a 50 fun g97=>g96 g97 a22) a22 fun g98 o1=>
 Qc c3 true (fun g99=>LdK o1 g98 fun i00=>g99 i00 o1) o1 fun i01 a23=>
 Qc c3 true (fun i02=>Qg b 50 fun i03=>i02 i03 a23) a23 fun i04 o2=>
 Qc c3 true (fun i05=>LdK o2 i04 fun i06=>i05 i06 o2) o2 fun i07 a24=>
 Qc c3 true (fun i08=>Qk prog .eql 36 i01 i07 fun i09=>i08 i09 a24) a24 fun i10 i11=>
 Yd c3 i10 (.bool false) fun i12=>
 R i12 i11
theorem w13 {a b h R} (H:s13 a b h R):FnS prog 13 #[a,b] h R:=wq Tryz.func13 (by kernel_rfl) H
def s17 (o7 d m:Value) (h:Qe) (R:Kn):Prop:=
 Y5 h (.cells (Value.cells o7) 38) fun a e2=>
 Q3 d fun o8=>
 LdK e2 o8 fun o9=>
 Qk prog .sub 3 o9 (.int .i64 1) fun p0=>
 Q3 d fun p1=>
 StK e2 1 p1 p0 fun a9=>
 Q3 d fun p2=>
 LdK a9 p2 fun p3=>
 Qk prog .lss 3 p3 (.int .i64 0) fun b0=>
 Qc b0 false (fun p4=>p4 m a9) a9 fun p5 e3=>
 Qc b0 false (fun p6=>Qk prog .lss 3 p5 (.int .i64 0) fun p7=>p6 p7 e3) e3 fun p8 e4=>
 Yd b0 (.bool true) p8 fun o=>
 Qc o false (fun p9=>Qg a 0 fun q0=>p9 q0 e4) e4 fun q1 b1=>
 Qc o false (fun q2=>LdK b1 q1 fun q3=>q2 q3 b1) b1 fun q4 e5=>
 Qc o false (fun q5=>Yv q4 fun q6=>q5 q6 e5) e5 fun q7 e6=>
 Qc o false (fun q8=>Qk prog .gtr 3 q7 (.int .i64 1) fun q9=>q8 q9 e6) e6 fun r0 e7=>
 Yd o (.bool true) r0 fun p=>
 Qc p false (fun r1=>Qg a 12 fun r2=>r1 r2 e7) e7 fun r3 b2=>
 Qc p false (fun r4=>LdK b2 r3 fun r5=>r4 r5 b2) b2 fun r6 e8=>
 Qc p false (fun r7=>Yv r6 fun r8=>r7 r8 e8) e8 fun r9 e9=>
 Qc p false (fun s0=>Qk prog .gtr 3 r9 (.int .i64 1) fun s1=>s0 s1 e9) e9 fun s2 f0=>
 Yd p (.bool true) s2 fun q=>
 Qc q false (fun s3=>Qg a 14 fun s4=>s3 s4 f0) f0 fun s5 b3=>
 Qc q false (fun s6=>LdK b3 s5 fun s7=>s6 s7 b3) b3 fun s8 f1=>
 Qc q false (fun s9=>Yv s8 fun t0=>s9 t0 f1) f1 fun t1 f2=>
 Qc q false (fun t2=>Qk prog .gtr 3 t1 (.int .i64 1) fun t3=>t2 t3 f2) f2 fun t4 b=>
 Yd q (.bool true) t4 fun t5=>
 IfK t5
 (R (.bool false) b)
 (QD (fun b4=>
 Qg a 9 fun t6=>
 LdK b t6 fun t7=>
 Yv t7 fun t8=>
 Qg a 10 fun t9=>
 LdK b t9 fun u0=>
 Yv u0 fun u1=>
 Qg a 11 fun u2=>
 LdK b u2 fun u3=>
 Yv u3 fun u4=>
 Qg a 24 fun u5=>
 LdK b u5 fun u6=>
 Yv u6 fun u7=>
 Qg a 28 fun u9=>
 LdK b u9 fun v0=>
 Yv v0 fun v1=>
 Qg a 29 fun v2=>
 LdK b v2 fun v3=>
 Yv v3 fun v4=>
 Qg a 31 fun v5=>
 LdK b v5 fun v6=>
 Yv v6 fun v7=>
 Qg a 32 fun v8=>
 LdK b v8 fun v9=>
 Yv v9 fun w0=>
 Qg a 33 fun w1=>
 LdK b w1 fun w2=>
 Yv w2 fun w3=>
 Qg a 35 fun w4=>
 LdK b w4 fun w5=>
 Yv w5 fun w6=>
 Qg a 37 fun w7=>
 LdK b w7 fun w8=>
 Yv w8 fun w9=>
 Qg a 38 fun y0=>
 LdK b y0 fun y1=>
 Yv y1 fun y2=>
 Qg a 40 fun y3=>
 LdK b y3 fun y4=>
 Yv y4 fun y5=>
 Qg a 42 fun y6=>
 LdK b y6 fun y7=>
 Yv y7 fun y8=>
 Q8 b 3 14 (YV z3.toList 14) [(0,1,t8),(1,1,u1),(2,1,u4),(3,1,u7),(4,1,v1),(5,1,v4),(6,1,v7),(7,1,w0),(8,1,w3),(9,1,w6),(10,1,w9),(11,1,y2),(12,1,y5),(13,1,y8)] fun f3 y9=>
 Yv f3 fun z0=>
 Yu [(.int .i64 0),(.bool false)] y9 fun f4 f5=>∀u b5:Value,∀v:Qe,f4 f5 [u,b5] v->
 Qk prog .lss 3 u z0 fun z1=>
 IfK z1
 (Y1 1 f3 u fun z2=>
 LdK v z2 fun z4=>
 Qa prog 59 #[z4] v fun z5 f6=>
 ZI prog (Op.unary .not z5) fun z6=>
 IfK z6
 (R (.bool false) f6)
 (Qk prog .add 3 u (.int .i64 1) fun z7=>
 QS f4 f5 [z7,b5] f6))
 (b4 [b5] v)) fun b4=>∀f7:Value,∀c:Qe,b4 [f7] c->
 Qg a 3 fun z8=>
 LdK c z8 fun a00=>
 Qg a 4 fun a01=>
 LdK c a01 fun a02=>
 Qg a 13 fun a03=>
 LdK c a03 fun a04=>
 Qg a 30 fun a05=>
 LdK c a05 fun a06=>
 Qg a 49 fun a07=>
 LdK c a07 fun a08=>
 Qg a 10 fun a09=>
 LdK c a09 fun a10=>
 Qg a 28 fun a11=>
 LdK c a11 fun a12=>
 Q8 c 9 5 (YV z9.toList 5) [(0,1,a00),(1,1,a02),(2,1,a04),(3,1,a06),(4,1,a08)] fun a13 b6=>
 Qi c b6<|
 Qbs b6 9 1 16 z9 a13 a10 fun a14 f8=>
 Qi b6 f8<|
 Qbs f8 9 1 16 z9 a14 a12 fun a15 f9=>
 QD (fun b7=>
 Qg a 14 fun a16=>
 LdK f9 a16 fun g0=>
 Yv g0 fun a17=>
 Yu [(.int .i64 0),a15] f9 fun g1 g2=>∀w b8:Value,∀y:Qe,g1 g2 [w,b8] y->
 Qk prog .lss 3 w a17 fun a18=>
 IfK a18
 (Y1 3 g0 w fun a19=>
 LdN y 3 a19 fun a20=>
 Y5 y (.cells z80 80) fun g3 a21=>
 StK a21 3 g3 a20 fun g4=>
 Qg g3 0 fun a22=>
 LdK g4 a22 fun a23=>
 Q8 g4 9 1 (YV z9.toList 1) [(0,1,a23)] fun a24 a25=>
 Qbs a25 9 1 16 z9 b8 a24 fun a26 a27=>
 Qk prog .add 3 w (.int .i64 1) fun a28=>
 QS g1 g2 [a28,a26] a27)
 (b7 [b8] y)) fun b7=>∀b9:Value,∀g5:Qe,b7 [b9] g5->
 QD (fun c0=>
 Yv b9 fun a29=>
 Yu [(.int .i64 0),f7] g5 fun g6 g7=>∀z c1:Value,∀r:Qe,g6 g7 [z,c1] r->
 Qk prog .lss 3 z a29 fun a30=>
 IfK a30
 (Y1 1 b9 z fun a31=>
 LdK r a31 fun a32=>
 QeL a32 fun a33=>
 Qk prog .gtr 3 a33 (.int .i64 300) fun a34=>
 IfK a34
 (R (.bool false) r)
 (Qk prog .add 3 z (.int .i64 1) fun a35=>
 QS g6 g7 [a35,c1] r))
 (c0 [c1] r)) fun c0=>∀g8:Value,∀c2:Qe,c0 [g8] c2->
 QD (fun c3=>
 Qg a 0 fun a36=>
 LdK c2 a36 fun g9=>
 Yv g9 fun a37=>
 Yu [(.int .i64 0),g8] c2 fun i0 i1=>∀a0 c4:Value,∀a1:Qe,i0 i1 [a0,c4] a1->
 Qk prog .lss 3 a0 a37 fun a38=>
 IfK a38
 (Y1 7 g9 a0 fun a39=>
 LdN a1 7 a39 fun a40=>
 Y5 a1 (.cells z76 76) fun s a41=>
 StK a41 7 s a40 fun i2=>
 Qg s 0 fun a42=>
 LdK i2 a42 fun a43=>
 QK .u64 a43 fun a44=>
 Qa prog 60 #[(.int .u8 9),a44] i2 fun a45 i3=>
 ZI prog (Op.unary .not a45) fun e=>
 Qc e false (fun a46=>Qg s 1 fun a47=>a46 a47 i3) i3 fun a48 c5=>
 Qc e false (fun a49=>LdK c5 a48 fun a50=>a49 a50 c5) c5 fun a51 i4=>
 Qc e false (fun a52=>QK .u64 a51 fun a53=>a52 a53 i4) i4 fun a54 i5=>
 Qc e false (fun a55=>Qa prog 60 #[(.int .u8 9),a54] i5 fun a56 a57=>a55 a56 a57) i5 fun a58 i6=>
 Qc e false (fun a59=>ZI prog (Op.unary .not a58) fun a60=>a59 a60 i6) i6 fun a61 i7=>
 Yd e (.bool true) a61 fun f=>
 Qc f false (fun a62=>Qg s 2 fun a63=>a62 a63 i7) i7 fun a64 c6=>
 Qc f false (fun a65=>LdK c6 a64 fun a66=>a65 a66 c6) c6 fun a67 i8=>
 Qc f false (fun a68=>QK .u64 a67 fun a69=>a68 a69 i8) i8 fun a70 i9=>
 Qc f false (fun a71=>Qa prog 60 #[(.int .u8 9),a70] i9 fun a72 a73=>a71 a72 a73) i9 fun a74 j0=>
 Qc f false (fun a75=>ZI prog (Op.unary .not a74) fun a76=>a75 a76 j0) j0 fun a77 j1=>
 Yd f (.bool true) a77 fun t=>
 Qc t false (fun a78=>Qg s 3 fun a79=>a78 a79 j1) j1 fun a80 c7=>
 Qc t false (fun a81=>LdK c7 a80 fun a82=>a81 a82 c7) c7 fun a83 j2=>
 Qc t false (fun a84=>Qa prog 60 #[(.int .u8 10),a83] j2 fun a85 a86=>a84 a85 a86) j2 fun a87 j3=>
 Qc t false (fun a88=>ZI prog (Op.unary .not a87) fun a89=>a88 a89 j3) j3 fun a90 j4=>
 Yd t (.bool true) a90 fun a91=>
 IfK a91
 (R (.bool false) j4)
 (Qk prog .add 3 a0 (.int .i64 1) fun a92=>
 QS i0 i1 [a92,c4] j4))
 (c3 [c4] a1)) fun c3=>∀j5:Value,∀c8:Qe,c3 [j5] c8->
 QD (fun c9=>
 Qg a 33 fun a93=>
 LdK c8 a93 fun j6=>
 Yv j6 fun a94=>
 Yu [(.int .i64 0),j5] c8 fun j7 j8=>∀a2 d0:Value,∀a3:Qe,j7 j8 [a2,d0] a3->
 Qk prog .lss 3 a2 a94 fun a95=>
 IfK a95
 (Y1 1 j6 a2 fun a96=>
 LdK a3 a96 fun a97=>
 Qa prog 60 #[(.int .u8 10),a97] a3 fun a98 j9=>
 ZI prog (Op.unary .not a98) fun a99=>
 IfK a99
 (R (.bool false) j9)
 (Qk prog .add 3 a2 (.int .i64 1) fun b00=>
 QS j7 j8 [b00,d0] j9))
 (c9 [d0] a3)) fun c9=>∀l0:Value,∀d1:Qe,c9 [l0] d1->
 Qg a 25 fun b01=>
 LdK d1 b01 fun b02=>
 QK .u64 b02 fun b03=>
 Qa prog 60 #[(.int .u8 9),b03] d1 fun b04 l1=>
 ZI prog (Op.unary .not b04) fun g=>
 Qc g false (fun b05=>Qg a 26 fun b06=>b05 b06 l1) l1 fun b07 d2=>
 Qc g false (fun b08=>LdK d2 b07 fun b09=>b08 b09 d2) d2 fun b10 l2=>
 Qc g false (fun b11=>QK .u64 b10 fun b12=>b11 b12 l2) l2 fun b13 l3=>
 Qc g false (fun b14=>Qa prog 60 #[(.int .u8 9),b13] l3 fun b15 b16=>b14 b15 b16) l3 fun b17 l4=>
 Qc g false (fun b18=>ZI prog (Op.unary .not b17) fun b19=>b18 b19 l4) l4 fun b20 l5=>
 Yd g (.bool true) b20 fun i=>
 Qc i false (fun b21=>Qg a 27 fun b22=>b21 b22 l5) l5 fun b23 d3=>
 Qc i false (fun b24=>LdK d3 b23 fun b25=>b24 b25 d3) d3 fun b26 l6=>
 Qc i false (fun b27=>QK .u64 b26 fun b28=>b27 b28 l6) l6 fun b29 l7=>
 Qc i false (fun b30=>Qa prog 60 #[(.int .u8 9),b29] l7 fun b31 b32=>b30 b31 b32) l7 fun b33 l8=>
 Qc i false (fun b34=>ZI prog (Op.unary .not b33) fun b35=>b34 b35 l8) l8 fun b36 a4=>
 Yd i (.bool true) b36 fun b37=>
 IfK b37
 (R (.bool false) a4)
 (QD (fun d4=>
 Qg a 11 fun b38=>
 LdK a4 b38 fun b39=>
 Qg a 12 fun b40=>
 LdK a4 b40 fun b41=>
 Q8 a4 24 2 (YV z24.toList 2) [(0,1,b39),(1,1,b41)] fun l9 b42=>
 Yv l9 fun b43=>
 Yu [(.int .i64 0),l0] b42 fun m0 m1=>∀a5 d5:Value,∀a6:Qe,m0 m1 [a5,d5] a6->
 Qk prog .lss 3 a5 b43 fun b44=>
 IfK b44
 (QD (fun d6=>
 Y1 1 l9 a5 fun b45=>
 LdK a6 b45 fun d7=>
 Yv d7 fun b46=>
 Yu [(.int .i64 0),d5] a6 fun m2 m3=>∀a7 d8:Value,∀a8:Qe,m2 m3 [a7,d8] a8->
 Qk prog .lss 3 a7 b46 fun b47=>
 IfK b47
 (Y1 51 d7 a7 fun b48=>
 LdN a8 51 b48 fun b49=>
 Y5 a8 (.cells z38 38) fun m4 b50=>
 StK b50 51 m4 b49 fun m5=>
 LdN m5 51 m4 fun b51=>
 Qk prog .sub 3 m (.int .i64 1) fun b52=>
 Qa prog 17 #[b51,d,b52] m5 fun b53 m6=>
 ZI prog (Op.unary .not b53) fun b54=>
 IfK b54
 (R (.bool false) m6)
 (Qk prog .add 3 a7 (.int .i64 1) fun b55=>
 QS m2 m3 [b55,d8] m6))
 (d6 [d7,d8] a8)) fun d6=>∀b56 m7:Value,∀m8:Qe,d6 [b56,m7] m8->
 Qk prog .add 3 a5 (.int .i64 1) fun b57=>
 QS m0 m1 [b57,m7] m8)
 (d4 [d5] a6)) fun d4=>∀b58:Value,∀d9:Qe,d4 [b58] d9->
 Qg a 6 fun b59=>
 LdN d9 3 b59 fun b60=>
 Qa prog 61 #[b60,(.bool false),d,m] d9 fun j m9=>
 Qc j true (fun b61=>Qg a 43 fun b62=>b61 b62 m9) m9 fun b63 e0=>
 Qc j true (fun b64=>LdN e0 3 b63 fun b65=>b64 b65 e0) e0 fun b66 o0=>
 Qc j true (fun b67=>b67 d o0) o0 fun b68 o1=>
 Qc j true (fun b69=>b69 m o1) o1 fun b70 o2=>
 Qc j true (fun b71=>Qa prog 61 #[b66,(.bool false),b68,b70] o2 fun b72 b73=>b71 b72 b73) o2 fun b74 o3=>
 Yd j b74 (.bool false) fun l=>
 Qc l true (fun b75=>Qg a 46 fun b76=>b75 b76 o3) o3 fun b77 e1=>
 Qc l true (fun b78=>LdN e1 3 b77 fun b79=>b78 b79 e1) e1 fun b80 o4=>
 Qc l true (fun b81=>b81 d o4) o4 fun b82 o5=>
 Qc l true (fun b83=>b83 m o5) o5 fun b84 o6=>
 Qc l true (fun b85=>Qa prog 61 #[b80,(.bool true),b82,b84] o6 fun b86 b87=>b85 b86 b87) o6 fun b88 b89=>
 Yd l b88 (.bool false) fun b90=>
 R b90 b89))
theorem w17 {a b c h R} (H:s17 a b c h R):FnS prog 17 #[a,b,c] h R:=wq Tryz.func17 (by kernel_rfl) H
def s19 (a d3:Value) (h:Qe) (R:Kn):Prop:=
 Y5 h (.cells (Value.cells d3) 45) fun y d4=>
 Qa prog 68 #[a,(.int .i64 8)] d4 fun _x16 o=>
 Q3 a fun d5=>
 Qg d5 0 fun d6=>
 LdK o d6 fun d7=>
 Yv d7 fun p=>
 Q3 a fun d8=>
 Qg d8 0 fun d9=>
 LdK o d9 fun e0=>
 Qg y 6 fun e1=>
 LdK o e1 fun e2=>
 Yv e2 fun e3=>
 Qk prog .mul 3 (.int .i64 2) e3 fun e4=>
 Qk prog .add 3 (.int .i64 4) e4 fun e5=>
 AppZK o 5 1 1 z5 e0 e5 fun e6 e7=>
 Q3 a fun e8=>
 Qg e8 0 fun e9=>
 StK e7 1 e9 e6 fun b1=>
 Qg y 6 fun f0=>
 LdK b1 f0 fun f1=>
 Yv f1 fun f2=>
 Qk prog .mul 3 (.int .i64 2) f2 fun f3=>
 Qk prog .add 3 (.int .i64 4) f3 fun f4=>
 QK .u64 f4 fun f5=>
 Qa prog 20 #[a,p,f5,(.int .i64 2)] b1 fun _x43 f6=>
 Qa prog 68 #[a,(.int .i64 8)] f6 fun _x45 z=>
 Q3 a fun f7=>
 Qg f7 0 fun f8=>
 LdK z f8 fun f9=>
 Yv f9 fun j=>
 Q3 a fun g0=>
 Qg g0 0 fun g1=>
 LdK z g1 fun g2=>
 AppZK z 5 1 1 z5 g2 (.int .i64 4) fun g3 g4=>
 Q3 a fun g5=>
 Qg g5 0 fun g6=>
 StK g4 1 g6 g3 fun g7=>
 Qk prog .sub 3 j p fun g8=>
 QK .u32 g8 fun g9=>
 QK .u64 g9 fun i0=>
 Qa prog 20 #[a,j,i0,(.int .i64 4)] g7 fun _x66 b2=>
 QD (fun a0=>
 Qg y 6 fun i1=>
 LdK b2 i1 fun b3=>
 Yv b3 fun i2=>
 Yu [(.int .i64 0),(.slice none 0 0)] b2 fun b4 b5=>∀l g:Value,∀q:Qe,b4 b5 [l,g] q->
 Qk prog .lss 3 l i2 fun i3=>
 IfK i3
 (QD (fun i=>
 Y1 9 b3 l fun i4=>
 LdN q 9 i4 fun i5=>
 Y5 q (.cells z74 74) fun b i6=>
 StK i6 9 b i5 fun a1=>
 Qg b 0 fun i7=>
 LdK a1 i7 fun i8=>
 ZI prog (Op.unary .not i8) fun f=>
 Qc f false (fun i9=>Qg b 1 fun j0=>i9 j0 a1) a1 fun j1 b6=>
 Qc f false (fun j2=>Qg j1 0 fun j3=>j2 j3 b6) b6 fun j4 a2=>
 Qc f false (fun j5=>LdK a2 j4 fun j6=>j5 j6 a2) a2 fun j7 b7=>
 Qc f false (fun j8=>Qk prog .leq 5 j7 (.int .u8 10) fun j9=>j8 j9 b7) b7 fun l0 b8=>
 Qc f false (fun l1=>l1 l0 b8) b8 fun c b9=>
 Qc c true (fun l2=>Qg b 1 fun l3=>l2 l3 b9) b9 fun l4 c0=>
 Qc c true (fun l5=>Qg l4 0 fun l6=>l5 l6 c0) c0 fun l7 a3=>
 Qc c true (fun l8=>LdK a3 l7 fun l9=>l8 l9 a3) a3 fun m0 c1=>
 Qc c true (fun m1=>Qg b 1 fun m2=>m1 m2 c1) c1 fun m3 c2=>
 Qc c true (fun m4=>Qg m3 2 fun m5=>m4 m5 c2) c2 fun m6 a4=>
 Qc c true (fun m7=>LdK a4 m6 fun m8=>m7 m8 a4) a4 fun m9 c3=>
 Qc c true (fun o0=>Qg b 8 fun o1=>o0 o1 c3) c3 fun o2 a5=>
 Qc c true (fun o3=>LdK a5 o2 fun o4=>o3 o4 a5) a5 fun o5 c4=>
 Qc c true (fun o6=>Qa prog 69 #[m0,m9,o5] c4 fun o7 o8=>o6 o7 o8) c4 fun o9 c5=>
 Qc f false (fun p0=>Yd c o9 (.bool false) fun p1=>p0 p1 c5) c5 fun p2 d=>
 Yd f (.bool true) p2 fun p3=>
 IfK p3
 (i [g] d)
 (QD (fun m=>
 Qg b 1 fun p4=>
 Qg p4 0 fun p5=>
 LdK d p5 fun p6=>
 Qk prog .leq 5 p6 (.int .u8 10) fun r=>
 IfK r
 (Qg b 1 fun p7=>
 Qg p7 0 fun p8=>
 LdK d p8 fun p9=>
 Qa prog 70 #[p9] d fun c6 q0=>
 Qa prog 68 #[a,c6] q0 fun _x108 q1=>
 m [r,c6] q1)
 (Qg b 1 fun q2=>
 Qg q2 0 fun q3=>
 LdK d q3 fun q4=>
 Qk prog .eql 5 q4 (.int .u8 17) fun q5=>
 IfK q5
 (Qg b 1 fun q6=>
 Qg q6 3 fun q7=>
 LdK d q7 fun q8=>
 QeL q8 fun q9=>
 Qg b 1 fun r0=>
 Qg r0 1 fun r1=>
 LdK d r1 fun r2=>
 QK .i64 r2 fun r3=>
 Qa prog 68 #[a,r3] d fun _x123 r4=>
 m [r,q9] r4)
 (Qa prog 68 #[a,(.int .i64 4)] d fun _x96 r5=>
 m [r,(.int .i64 4)] r5))) fun m=>∀r6 a6:Value,∀s:Qe,m [r6,a6] s->
 Q3 a fun r7=>
 Qg r7 0 fun r8=>
 LdK s r8 fun r9=>
 Yv r9 fun t=>
 Q3 a fun s0=>
 Qg s0 0 fun s1=>
 LdK s s1 fun s2=>
 AppZK s 5 1 1 z5 s2 a6 fun s3 s4=>
 Q3 a fun s5=>
 Qg s5 0 fun s6=>
 StK s4 1 s6 s3 fun s7=>
 Qk prog .add 3 p (.int .i64 4) fun s8=>
 Qk prog .mul 3 (.int .i64 2) l fun s9=>
 Qk prog .add 3 s8 s9 fun t0=>
 Qk prog .sub 3 t j fun t1=>
 QK .u64 t1 fun t2=>
 Qa prog 20 #[a,t0,t2,(.int .i64 2)] s7 fun _x148 e=>
 Qg b 1 fun t3=>
 Qg t3 0 fun t4=>
 LdK e t4 fun t5=>
 Qk prog .leq 5 t5 (.int .u8 10) fun t6=>
 IfK t6
 (Qg b 1 fun t7=>
 Qg t7 2 fun t8=>
 LdK e t8 fun t9=>
 Qa prog 20 #[a,t,t9,a6] e fun _x167 u0=>
 i [g] u0)
 (Qg b 1 fun u1=>
 Qg u1 0 fun u2=>
 LdK e u2 fun u3=>
 Qk prog .eql 5 u3 (.int .u8 17) fun u4=>
 IfK u4
 (Q3 a fun u5=>
 Qg u5 0 fun u6=>
 LdK e u6 fun u7=>
 Qey 1 u7 (some t) none fun u9=>
 Qg b 1 fun v0=>
 Qg v0 3 fun v1=>
 LdK e v1 fun v2=>
 Qh5 e 1 u9 v2 fun _x182 v3=>
 i [g] v3)
 (Qg b 1 fun v4=>
 LdN e 7 v4 fun v5=>
 Qz z142.toList [(0,1,t),(1,7,v5)] fun v6=>
 Q8 e 142 1 (YV z142.toList 1) [(0,8,v6)] fun v7 v8=>
 Qbs v8 142 8 112 z142 g v7 fun v9 w0=>
 i [v9] w0)))) fun i=>∀c7:Value,∀c8:Qe,i [c7] c8->
 Qk prog .add 3 l (.int .i64 1) fun w1=>
 QS b4 b5 [w1,c7] c8)
 (a0 [g] q)) fun a0=>∀a7:Value,∀a8:Qe,a0 [a7] a8->
 Qk prog .add 3 p (.int .i64 2) fun w2=>
 Q3 a fun w3=>
 Qg w3 0 fun w4=>
 LdK a8 w4 fun w5=>
 Yv w5 fun w6=>
 Qk prog .sub 3 w6 j fun w7=>
 QK .u64 w7 fun w8=>
 Qa prog 20 #[a,w2,w8,(.int .i64 2)] a8 fun _x195 w9=>
 QD (fun a9=>
 Yv a7 fun y0=>
 Yu [(.int .i64 0)] w9 fun c9 d0=>∀u:Value,∀v:Qe,c9 d0 [u] v->
 Qk prog .lss 3 u y0 fun y1=>
 IfK y1
 (Y1 8 a7 u fun y2=>
 LdN v 8 y2 fun y3=>
 Y5 v (.cells z142 142) fun w y4=>
 StK y4 8 w y3 fun d1=>
 Qg w 1 fun y5=>
 LdN d1 7 y5 fun y6=>
 Qa prog 71 #[a,y6] d1 fun y7 b0=>
 Qg w 0 fun y8=>
 LdK b0 y8 fun y9=>
 Qg w 0 fun z0=>
 LdK b0 z0 fun z1=>
 Qk prog .sub 3 y7 z1 fun z2=>
 QK .u64 z2 fun z3=>
 Qa prog 20 #[a,y9,z3,(.int .i64 4)] b0 fun _x214 z4=>
 Qk prog .add 3 u (.int .i64 1) fun z6=>
 QS c9 d0 [z6] z4)
 (a9 [] v)) fun a9=>∀d2:Qe,a9 [] d2->
 R j d2
theorem w19 {a b h R} (H:s19 a b h R):FnS prog 19 #[a,b] h R:=wq Tryz.func19 (by kernel_rfl) H
def s20 (b c d e:Value) (h:Qe) (R:Kn):Prop:=
 Q3 b fun f=>
 Qg f 0 fun g=>
 LdK h g fun i=>
 Qey 1 i (some c) none fun j=>
 Qa prog 21 #[d,e] h fun l a=>
 Qi h a<|
 Qh5 a 1 j l fun _x17 m=>
 R (.tuple #[]) m
theorem w20 {a b c d h R} (H:s20 a b c d h R):FnS prog 20 #[a,b,c,d] h R:=wq Tryz.func20 (by kernel_rfl) H
def s21 (j f:Value) (h:Qe) (R:Kn):Prop:=
 Qe3 h 5 1 z5 f f fun b l=>
 QD (fun c=>
 Yv b fun m=>
 Yu [(.int .i64 0)] l fun g i=>∀a:Value,∀d:Qe,g i [a] d->
 Qk prog .lss 3 a m fun o=>
 IfK o
 (Qk prog .mul 3 (.int .i64 8) a fun p=>
 Qk prog .shr 31 j p fun q=>
 QK .u8 q fun r=>
 Y1 1 b a fun s=>
 StK d 1 s r fun t=>
 Qk prog .add 3 a (.int .i64 1) fun u=>
 QS g i [u] t)
 (c [] d)) fun c=>∀e:Qe,c [] e->
 QiN e b fun v=>
 R v e
theorem w21 {a b h R} (H:s21 a b h R):FnS prog 21 #[a,b] h R:=wq Tryz.func21 (by kernel_rfl) H
def s22 (c d e:Value) (h:Qe) (R:Kn):Prop:=
 Y5 h (.cells z74 74) fun f o=>
 QD (fun b=>
 Qa prog 70 #[c] o fun a g=>
 Qk prog .lss 3 a (.int .i64 8) fun p=>
 IfK p
 (Qk prog .mul 3 (.int .i64 8) a fun q=>
 Qk prog .shl 31 (.int .u64 1) q fun r=>
 Qk prog .sub 31 r (.int .u64 1) fun s=>
 Qk prog .and 31 d s fun t=>
 Qk prog .mul 3 (.int .i64 8) a fun u=>
 Qk prog .shl 31 (.int .u64 1) u fun v=>
 Qk prog .sub 31 v (.int .u64 1) fun w=>
 Qk prog .and 31 e w fun y=>
 b [a,t,y] g)
 (b [a,d,e] g)) fun b=>∀z i j:Value,∀l:Qe,b [z,i,j] l->
 Qz z45.toList [(0,1,c),(2,1,i)] fun a0=>
 Qz z74.toList [(0,1,(.bool true)),(1,7,a0),(8,1,j)] fun a1=>
 StK l 9 f a1 fun m=>
 LdN m 9 f fun a2=>
 R a2 m
theorem w22 {a b c h R} (H:s22 a b c h R):FnS prog 22 #[a,b,c] h R:=wq Tryz.func22 (by kernel_rfl) H
def s23 (a:Value) (h:Qe) (R:Kn):Prop:=
 Y5 h (.cells z74 74) fun b d=>
 Qk prog .neq 9 a (.string ⟨#[]⟩) fun e=>
 Qz z45.toList [(0,1,(.int .u8 12)),(3,1,a)] fun f=>
 Qz z74.toList [(0,1,e),(1,7,f)] fun g=>
 StK d 9 b g fun c=>
 LdN c 9 b fun i=>
 R i c
theorem w23 {a h R} (H:s23 a h R):FnS prog 23 #[a] h R:=wq Tryz.func23 (by kernel_rfl) H
def s24 (g:Value) (h:Qe) (R:Kn):Prop:=
 Y5 h (.cells z74 74) fun i q=>
 QD (fun c=>
 Yv g fun r=>
 Yu [(.int .i64 0),(.slice none 0 0)] q fun j l=>∀a d:Value,∀b:Qe,j l [a,d] b->
 Qk prog .lss 3 a r fun s=>
 IfK s
 (Y1 2 g a fun t=>
 LdN b 2 t fun u=>
 Y5 b (.cells z101 101) fun e v=>
 StK v 2 e u fun f=>
 Qg e 0 fun w=>
 LdK f w fun y=>
 QK .u16 y fun z=>
 QK .u64 z fun a0=>
 Qg e 1 fun a1=>
 LdK f a1 fun a2=>
 QK .u8 a2 fun a3=>
 QK .u64 a3 fun a4=>
 Qk prog .shl 31 a4 (.int .u64 16) fun a5=>
 Qk prog .or 31 a0 a5 fun a6=>
 Q8 f 31 1 (YV z31.toList 1) [(0,1,a6)] fun a7 a8=>
 Qbs a8 31 1 8 z31 d a7 fun a9 b0=>
 Qk prog .add 3 a (.int .i64 1) fun b1=>
 QS j l [b1,a9] b0)
 (c [d] b)) fun c=>∀m:Value,∀o:Qe,c [m] o->
 Qa prog 26 #[(.int .u8 5),m] o fun b2 b3=>
 StK b3 9 i b2 fun p=>
 LdN p 9 i fun b4=>
 R b4 p
theorem w24 {a h R} (H:s24 a h R):FnS prog 24 #[a] h R:=wq Tryz.func24 (by kernel_rfl) H
def s25 (d:Value) (h:Qe) (R:Kn):Prop:=
 Y5 h (.cells z74 74) fun g m=>
 Qz z45.toList [(0,1,(.int .u8 14))] fun o=>
 Y5 m (.cells z45 45) fun b p=>
 StK p 7 b o fun q=>
 QD (fun e=>
 Yv d fun r=>
 Yu [(.int .i64 0)] q fun i j=>∀c:Value,∀a:Qe,i j [c] a->
 Qk prog .lss 3 c r fun s=>
 IfK s
 (Y1 1 d c fun t=>
 LdK a t fun u=>
 Qg b 5 fun v=>
 LdK a v fun w=>
 Qz z45.toList [(0,1,(.int .u8 11)),(3,1,u)] fun y=>
 Q8 a 45 1 (YV z45.toList 1) [(0,7,y)] fun z a0=>
 Qbs a0 45 7 104 z45 w z fun a1 a2=>
 Qg b 5 fun a3=>
 StK a2 1 a3 a1 fun a4=>
 Qk prog .add 3 c (.int .i64 1) fun a5=>
 QS i j [a5] a4)
 (e [] a)) fun e=>∀f:Qe,e [] f->
 Yv d fun a6=>
 Qk prog .gtr 3 a6 (.int .i64 0) fun a7=>
 LdN f 7 b fun a8=>
 Qz z74.toList [(0,1,a7),(1,7,a8)] fun a9=>
 StK f 9 g a9 fun l=>
 LdN l 9 g fun b0=>
 R b0 l
theorem w25 {a h R} (H:s25 a h R):FnS prog 25 #[a] h R:=wq Tryz.func25 (by kernel_rfl) H
def s26 (d a:Value) (h:Qe) (R:Kn):Prop:=
 Y5 h (.cells z74 74) fun b e=>
 Yv a fun f=>
 Qk prog .gtr 3 f (.int .i64 0) fun g=>
 Qz z45.toList [(0,1,(.int .u8 13)),(1,1,d),(4,1,a)] fun i=>
 Qz z74.toList [(0,1,g),(1,7,i)] fun j=>
 StK e 9 b j fun c=>
 LdN c 9 b fun l=>
 R l c
theorem w26 {a b h R} (H:s26 a b h R):FnS prog 26 #[a,b] h R:=wq Tryz.func26 (by kernel_rfl) H
def s27 (d:Value) (h:Qe) (R:Kn):Prop:=
 Y5 h (.cells z74 74) fun j q=>
 Qz z45.toList [(0,1,(.int .u8 16))] fun r=>
 Y5 q (.cells z45 45) fun b s=>
 StK s 7 b r fun t=>
 QD (fun e=>
 Yv d fun u=>
 Yu [(.int .i64 0)] t fun l m=>∀c:Value,∀a:Qe,l m [c] a->
 Qk prog .lss 3 c u fun v=>
 IfK v
 (Y1 1 d c fun w=>
 LdK a w fun y=>
 Qg b 5 fun z=>
 LdK a z fun a0=>
 Qa prog 22 #[(.int .u8 7),y,(.int .u64 0)] a fun a1 f=>
 Qi a f<|
 Q8 f 74 1 (YV z74.toList 1) [(0,9,a1)] fun a2 g=>
 Qi f g<|
 Qz z45.toList [(0,1,(.int .u8 15)),(6,1,a2)] fun a3=>
 Q8 g 45 1 (YV z45.toList 1) [(0,7,a3)] fun a4 o=>
 Qi g o<|
 Qbs o 45 7 104 z45 a0 a4 fun a5 a6=>
 Qg b 5 fun a7=>
 StK a6 1 a7 a5 fun a8=>
 Qk prog .add 3 c (.int .i64 1) fun a9=>
 QS l m [a9] a8)
 (e [] a)) fun e=>∀i:Qe,e [] i->
 Yv d fun b0=>
 Qk prog .gtr 3 b0 (.int .i64 0) fun b1=>
 LdN i 7 b fun b2=>
 Qz z74.toList [(0,1,b1),(1,7,b2)] fun b3=>
 StK i 9 j b3 fun p=>
 LdN p 9 j fun b4=>
 R b4 p
theorem w27 {a h R} (H:s27 a h R):FnS prog 27 #[a] h R:=wq Tryz.func27 (by kernel_rfl) H
def r0a2 (a:Value) (b:Qe) (R:Kn):Prop:=
 R a b
def r0a1B (d:Value) (e:Value) (f:Value) (a:Qe) (k:Kn):Prop:=
 Y1 51 d e fun g=>
 LdN a 51 g fun i=>
 Y5 a (.cells z38 38) fun b j=>
 StK j 51 b i fun c=>
 LdN c 51 b fun l=>
 Qa prog 12 #[l] c fun m o=>
 Q8 o 38 1 (YV z38.toList 1) [(0,51,m)] fun p q=>
 Qbs q 38 51 736 z38 f p fun r s=>
 k r s
def r0a1 (a:Value) (h:Qe) (R:Kn):Prop:=
 Qdc prog 3 a h (r0a1B a) fun b c=>r0a2 b c R
def s36 (a:Value) (h:Qe) (R:Kn):Prop:=
 r0a1 a h R
theorem w36 {a h R} (H:s36 a h R):FnS prog 36 #[a] h R:=wq Tryz.func36 (by kernel_rfl) H
theorem w37 {a b h R} (H:tp37 7 z76 76 a b h R):FnS prog 37 #[a,b] h R:=wq Tryz.func37 (by kernel_rfl) H
def s38 (r s:Value) (h:Qe) (R:Kn):Prop:=
 Y5 h (.cells (Value.cells r) 26) fun d t=>
 Y5 t (.cells (Value.cells s) 26) fun e c=>
 Qg d 0 fun u=>
 LdK c u fun v=>
 Qg e 0 fun w=>
 LdK c w fun y=>
 Qk prog .eql 5 v y fun a=>
 Qc a true (fun z=>Qg d 2 fun a0=>z a0 c) c fun a1 f=>
 Qc a true (fun a2=>LdK f a1 fun a3=>a2 a3 f) f fun a4 l=>
 Qc a true (fun a5=>Qg e 2 fun a6=>a5 a6 l) l fun a7 g=>
 Qc a true (fun a8=>LdK g a7 fun a9=>a8 a9 g) g fun b0 m=>
 Qc a true (fun b1=>Qk prog .eql 5 a4 b0 fun b2=>b1 b2 m) m fun b3 o=>
 Yd a b3 (.bool false) fun b=>
 Qc b true (fun b4=>Qg d 1 fun b5=>b4 b5 o) o fun b6 i=>
 Qc b true (fun b7=>LdK i b6 fun b8=>b7 b8 i) i fun b9 p=>
 Qc b true (fun c0=>Qg e 1 fun c1=>c0 c1 p) p fun c2 j=>
 Qc b true (fun c3=>LdK j c2 fun c4=>c3 c4 j) j fun c5 q=>
 Qc b true (fun c6=>Qa prog 41 #[b9,c5] q fun c7 c8=>c6 c7 c8) q fun c9 d0=>
 Yd b c9 (.bool false) fun d1=>
 R d1 d0
theorem w38 {a b h R} (H:s38 a b h R):FnS prog 38 #[a,b] h R:=wq Tryz.func38 (by kernel_rfl) H
theorem w39 {a b h R} (H:tp37 2 z101 101 a b h R):FnS prog 39 #[a,b] h R:=wq Tryz.func39 (by kernel_rfl) H
theorem w40 {a b h R} (H:tp40 9 a b h R):FnS prog 40 #[a,b] h R:=wq Tryz.func40 (by kernel_rfl) H
def s41 (c g:Value) (h:Qe) (R:Kn):Prop:=
 Yv c fun p=>
 Yv g fun q=>
 Qk prog .neq 3 p q fun r=>
 IfK r
 (R (.bool false) h)
 (QD (fun d=>
 Yv c fun s=>
 Yu [(.int .i64 0),(.bool false)] h fun i j=>∀a e:Value,∀b:Qe,i j [a,e] b->
 Qk prog .lss 3 a s fun t=>
 IfK t
 (Y1 51 c a fun u=>
 LdN b 51 u fun v=>
 Y5 b (.cells z38 38) fun l w=>
 StK w 51 l v fun f=>
 LdN f 51 l fun y=>
 Y1 51 g a fun z=>
 LdN f 51 z fun a0=>
 Qa prog 13 #[y,a0] f fun a1 m=>
 ZI prog (Op.unary .not a1) fun a2=>
 IfK a2
 (R (.bool false) m)
 (Qk prog .add 3 a (.int .i64 1) fun a3=>
 QS i j [a3,e] m))
 (d [e] b)) fun d=>∀a4:Value,∀o:Qe,d [a4] o->
 R (.bool true) o)
theorem w41 {a b h R} (H:s41 a b h R):FnS prog 41 #[a,b] h R:=wq Tryz.func41 (by kernel_rfl) H
theorem w42 {a b h R} (H:tp37 3 z80 80 a b h R):FnS prog 42 #[a,b] h R:=wq Tryz.func42 (by kernel_rfl) H
theorem w43 {a b h R} (H:tp40 4 a b h R):FnS prog 43 #[a,b] h R:=wq Tryz.func43 (by kernel_rfl) H
theorem w44 {a b h R} (H:tp37 2 z108 108 a b h R):FnS prog 44 #[a,b] h R:=wq Tryz.func44 (by kernel_rfl) H
theorem w45 {a b h R} (H:tp40 2 a b h R):FnS prog 45 #[a,b] h R:=wq Tryz.func45 (by kernel_rfl) H
theorem w46 {a b h R} (H:tp40 31 a b h R):FnS prog 46 #[a,b] h R:=wq Tryz.func46 (by kernel_rfl) H
def s59 (a:Value) (h:Qe) (R:Kn):Prop:=
 Qk prog .leq 3 a (.int .i64 50) fun b=>
 R b h
theorem w59 {a h R} (H:s59 a h R):FnS prog 59 #[a] h R:=wq Tryz.func59 (by kernel_rfl) H
def s60 (a b:Value) (h:Qe) (R:Kn):Prop:=
 Qa prog 162 #[a,b] h fun c d=>
 R c d
theorem w60 {a b h R} (H:s60 a b h R):FnS prog 60 #[a,b] h R:=wq Tryz.func60 (by kernel_rfl) H
def s61 (c6 o c7 c8:Value) (h:Qe) (R:Kn):Prop:=
 Y5 h (.cells (Value.cells c6) 26) fun a p=>
 Qg a 0 fun c9=>
 LdK p c9 fun d0=>
 Qk prog .gtr 5 d0 (.int .u8 3) fun d=>
 Qc d false (fun d1=>d1 o p) p fun d2 a0=>
 Qc d false (fun d3=>ZI prog (Op.unary .not d2) fun d4=>d3 d4 a0) a0 fun d5 a1=>
 Qc d false (fun d6=>d6 d5 a1) a1 fun f a2=>
 Qc f true (fun d7=>Qg a 0 fun d8=>d7 d8 a2) a2 fun d9 q=>
 Qc f true (fun e0=>LdK q d9 fun e1=>e0 e1 q) q fun e2 a3=>
 Qc f true (fun e3=>Qk prog .gtr 5 e2 (.int .u8 2) fun e4=>e3 e4 a3) a3 fun e5 a4=>
 Qc d false (fun e6=>Yd f e5 (.bool false) fun e7=>e6 e7 a4) a4 fun e8 a5=>
 Yd d (.bool true) e8 fun e=>
 Qc e false (fun e9=>Qg a 1 fun f0=>e9 f0 a5) a5 fun f1 r=>
 Qc e false (fun f2=>LdK r f1 fun f3=>f2 f3 r) r fun f4 a6=>
 Qc e false (fun f5=>Yv f4 fun f6=>f5 f6 a6) a6 fun f7 a7=>
 Qc e false (fun f8=>Qk prog .gtr 3 f7 (.int .i64 1) fun f9=>f8 f9 a7) a7 fun g0 g=>
 Yd e (.bool true) g0 fun g1=>
 IfK g1
 (R (.bool false) g)
 (Qg a 0 fun g2=>
 LdK g g2 fun g3=>
 Qk prog .eql 5 g3 (.int .u8 1) fun i=>
 Qc i false (fun g4=>g4 o g) g fun g5 a8=>
 Qc i false (fun g6=>g6 g5 a8) a8 fun j a9=>
 Qc j true (fun g7=>Qg a 0 fun g8=>g7 g8 a9) a9 fun g9 s=>
 Qc j true (fun i0=>LdK s g9 fun i1=>i0 i1 s) s fun i2 b0=>
 Qc j true (fun i3=>Qk prog .gtr 5 i2 (.int .u8 0) fun i4=>i3 i4 b0) b0 fun i5 b1=>
 Qc i false (fun i6=>Yd j i5 (.bool false) fun i7=>i6 i7 b1) b1 fun i8 t=>
 Yd i (.bool true) i8 fun b2=>
 Qg a 1 fun i9=>
 LdK t i9 fun j0=>
 Yv j0 fun j1=>
 Qk prog .eql 3 j1 (.int .i64 1) fun j2=>
 Qk prog .neq 4 j2 b2 fun c=>
 Qc c false (fun j3=>j3 o t) t fun j4 b3=>
 Qc c false (fun j5=>j5 j4 b3) b3 fun l b4=>
 Qc l false (fun j6=>Qg a 0 fun j7=>j6 j7 b4) b4 fun j8 u=>
 Qc l false (fun j9=>LdK u j8 fun l0=>j9 l0 u) u fun l1 b5=>
 Qc l false (fun l2=>Qk prog .neq 5 l1 (.int .u8 2) fun l3=>l2 l3 b5) b5 fun l4 b6=>
 Qc c false (fun l5=>Yd l (.bool true) l4 fun l6=>l5 l6 b6) b6 fun l7 b7=>
 Qc c false (fun l8=>l8 l7 b7) b7 fun m b8=>
 Qc m true (fun l9=>Qg a 2 fun m0=>l9 m0 b8) b8 fun m1 v=>
 Qc m true (fun m2=>LdK v m1 fun m3=>m2 m3 v) v fun m4 b9=>
 Qc m true (fun m5=>Qk prog .neq 5 m4 (.int .u8 0) fun m6=>m5 m6 b9) b9 fun m7 c0=>
 Qc c false (fun m8=>Yd m m7 (.bool false) fun m9=>m8 m9 c0) c0 fun o0 w=>
 Yd c (.bool true) o0 fun o1=>
 IfK o1
 (R (.bool false) w)
 (ZI prog (Op.unary .not b2) fun b=>
 Qc b false (fun o2=>Qg a 1 fun o3=>o2 o3 w) w fun o4 y=>
 Qc b false (fun o5=>LdK y o4 fun o6=>o5 o6 y) y fun o7 c1=>
 Qc b false (fun o8=>Y1 51 o7 (.int .i64 0) fun o9=>o8 o9 c1) c1 fun p0 z=>
 Qc b false (fun p1=>LdN z 51 p0 fun p2=>p1 p2 z) z fun p3 c2=>
 Qc b false (fun p4=>p4 c7 c2) c2 fun p5 c3=>
 Qc b false (fun p6=>p6 c8 c3) c3 fun p7 c4=>
 Qc b false (fun p8=>Qk prog .sub 3 p7 (.int .i64 1) fun p9=>p8 p9 c4) c4 fun q0 c5=>
 Qc b false (fun q1=>Qa prog 17 #[p3,p5,q0] c5 fun q2 q3=>q1 q2 q3) c5 fun q4 q5=>
 Yd b (.bool true) q4 fun q6=>
 R q6 q5))
theorem w61 {a b c d h R} (H:s61 a b c d h R):FnS prog 61 #[a,b,c,d] h R:=wq Tryz.func61 (by kernel_rfl) H
def s68 (b e:Value) (h:Qe) (R:Kn):Prop:=
 Yu [] h fun c d=>∀a:Qe,c d [] a->
 Q3 b fun f=>
 Qg f 0 fun g=>
 LdK a g fun i=>
 Yv i fun j=>
 Qk prog .rem 3 j e fun l=>
 Qk prog .neq 3 l (.int .i64 0) fun m=>
 IfK m
 (Q3 b fun o=>
 Qg o 0 fun p=>
 LdK a p fun q=>
 Q8 a 5 1 (YV z5.toList 1) [(0,1,(.int .u8 0))] fun r s=>
 Qbs s 5 1 1 z5 q r fun t u=>
 Q3 b fun v=>
 Qg v 0 fun w=>
 StK u 1 w t fun y=>
 QS c d [] y)
 (R (.tuple #[]) a)
theorem w68 {a b h R} (H:s68 a b h R):FnS prog 68 #[a,b] h R:=wq Tryz.func68 (by kernel_rfl) H
def s69 (g c d:Value) (h:Qe) (R:Kn):Prop:=
 Qk prog .eql 5 g (.int .u8 9) fun z=>
 IfK z
 (Qk prog .eql 31 c d fun a=>
 Qc a false (fun a0=>a0 c h) h fun a1 i=>
 Qc a false (fun a2=>Qk prog .shl 31 a1 (.int .u64 33) fun a3=>a2 a3 i) i fun a4 j=>
 Qc a false (fun a5=>Qk prog .eql 31 a4 (.int .u64 0) fun a6=>a5 a6 j) j fun a7 l=>
 Qc a false (fun a8=>a8 a7 l) l fun e m=>
 Qc e true (fun a9=>a9 d m) m fun b0 o=>
 Qc e true (fun b1=>Qk prog .shl 31 b0 (.int .u64 33) fun b2=>b1 b2 o) o fun b3 p=>
 Qc e true (fun b4=>Qk prog .eql 31 b3 (.int .u64 0) fun b5=>b4 b5 p) p fun b6 q=>
 Qc a false (fun b7=>Yd e b6 (.bool false) fun b8=>b7 b8 q) q fun b9 c0=>
 Yd a (.bool true) b9 fun c1=>
 R c1 c0)
 (Qk prog .eql 5 g (.int .u8 10) fun c2=>
 IfK c2
 (Qk prog .eql 31 c d fun b=>
 Qc b false (fun c3=>c3 c h) h fun c4 r=>
 Qc b false (fun c5=>Qk prog .shl 31 c4 (.int .u64 1) fun c6=>c5 c6 r) r fun c7 s=>
 Qc b false (fun c8=>Qk prog .eql 31 c7 (.int .u64 0) fun c9=>c8 c9 s) s fun d0 t=>
 Qc b false (fun d1=>d1 d0 t) t fun f u=>
 Qc f true (fun d2=>d2 d u) u fun d3 v=>
 Qc f true (fun d4=>Qk prog .shl 31 d3 (.int .u64 1) fun d5=>d4 d5 v) v fun d6 w=>
 Qc f true (fun d7=>Qk prog .eql 31 d6 (.int .u64 0) fun d8=>d7 d8 w) w fun d9 y=>
 Qc b false (fun e0=>Yd f d9 (.bool false) fun e1=>e0 e1 y) y fun e2 e3=>
 Yd b (.bool true) e2 fun e4=>
 R e4 e3)
 (Qk prog .eql 31 c d fun e5=>
 R e5 h))
theorem w69 {a b c h R} (H:s69 a b c h R):FnS prog 69 #[a,b,c] h R:=wq Tryz.func69 (by kernel_rfl) H
def s70 (a:Value) (h:Qe) (R:Kn):Prop:=
 QD (fun b=>
 Qk prog .eql 5 a (.int .u8 0) fun i=>
 IfK i
 (b [i] h)
 (Qk prog .eql 5 a (.int .u8 1) fun j=>
 IfK j
 (b [j] h)
 (Qk prog .eql 5 a (.int .u8 2) fun s=>
 b [s] h))) fun b=>∀l:Value,∀e:Qe,b [l] e->
 IfK l
 (R (.int .i64 1) e)
 (QD (fun f=>
 Qk prog .eql 5 a (.int .u8 3) fun m=>
 IfK m
 (f [m] e)
 (Qk prog .eql 5 a (.int .u8 4) fun t=>
 f [t] e)) fun f=>∀o:Value,∀c:Qe,f [o] c->
 IfK o
 (R (.int .i64 2) c)
 (QD (fun d=>
 Qk prog .eql 5 a (.int .u8 5) fun p=>
 IfK p
 (d [p] c)
 (Qk prog .eql 5 a (.int .u8 6) fun q=>
 IfK q
 (d [q] c)
 (Qk prog .eql 5 a (.int .u8 9) fun u=>
 d [u] c))) fun d=>∀r:Value,∀g:Qe,d [r] g->
 IfK r
 (R (.int .i64 4) g)
 (R (.int .i64 8) g)))
theorem w70 {a h R} (H:s70 a h R):FnS prog 70 #[a] h R:=wq Tryz.func70 (by kernel_rfl) H
def s71 (a b9:Value) (h:Qe) (R:Kn):Prop:=
 Y5 h (.cells (Value.cells b9) 45) fun c b=>
 Qg c 0 fun c0=>
 LdK b c0 fun c1=>
 Qk prog .eql 5 c1 (.int .u8 15) fun c2=>
 IfK c2
 (LdN b 7 c fun c3=>
 Qa prog 19 #[a,c3] b fun c4 c5=>
 R c4 c5)
 (Qg c 3 fun c6=>
 LdK b c6 fun c7=>
 QeL c7 fun c8=>
 Qi b b<|
 QD (fun i=>
 Qg c 0 fun c9=>
 LdK b c9 fun y=>
 Qk prog .eql 5 y (.int .u8 13) fun q=>
 IfK q
 (Qg c 1 fun d0=>
 LdK b d0 fun d1=>
 Qg c 4 fun d2=>
 LdK b d2 fun d3=>
 Yv d3 fun d4=>
 Qa prog 70 #[d1] b fun d5 r=>
 Qi b r<|
 Qi r r<|
 i [q,d4,d5] r)
 (QD (fun s=>
 Qk prog .eql 5 y (.int .u8 14) fun a3=>
 IfK a3
 (s [a3] b)
 (Qk prog .eql 5 y (.int .u8 16) fun d6=>
 s [d6] b)) fun s=>∀a4:Value,∀e:Qe,s [a4] e->
 IfK a4
 (Qg c 5 fun d7=>
 LdK e d7 fun d8=>
 Yv d8 fun d9=>
 Qi e e<|
 i [q,d9,(.int .i64 4)] e)
 (i [q,c8,(.int .i64 1)] e))) fun i=>∀e0 z j:Value,∀a5:Qe,i [e0,z,j] a5->
 Qa prog 68 #[a,(.int .i64 4)] a5 fun _x39 e1=>
 QD (fun a0=>
 Yu [] e1 fun a6 a7=>∀l:Qe,a6 a7 [] l->
 Q3 a fun e2=>
 Qg e2 0 fun e3=>
 LdK l e3 fun e4=>
 Yv e4 fun e5=>
 Qk prog .add 3 e5 (.int .i64 4) fun e6=>
 Qk prog .rem 3 e6 j fun e7=>
 Qk prog .neq 3 e7 (.int .i64 0) fun e8=>
 IfK e8
 (Q3 a fun e9=>
 Qg e9 0 fun f0=>
 LdK l f0 fun f1=>
 Q8 l 5 4 (YV z5.toList 4) [(0,1,(.int .u8 0)),(1,1,(.int .u8 0)),(2,1,(.int .u8 0)),(3,1,(.int .u8 0))] fun f2 f3=>
 Qbs f3 5 1 1 z5 f1 f2 fun f4 f5=>
 Q3 a fun f6=>
 Qg f6 0 fun f7=>
 StK f5 1 f7 f4 fun f8=>
 QS a6 a7 [] f8)
 (a0 [] l)) fun a0=>∀t:Qe,a0 [] t->
 Q3 a fun f9=>
 Qg f9 0 fun g0=>
 LdK t g0 fun g1=>
 Yv g1 fun f=>
 Q3 a fun g2=>
 Qg g2 0 fun g3=>
 LdK t g3 fun g4=>
 Qk prog .mul 3 j z fun g5=>
 Qk prog .add 3 (.int .i64 4) g5 fun g6=>
 AppZK t 5 1 1 z5 g4 g6 fun g7 g8=>
 Q3 a fun g9=>
 Qg g9 0 fun i0=>
 StK g8 1 i0 g7 fun i1=>
 QK .u64 z fun i2=>
 Qa prog 20 #[a,f,i2,(.int .i64 4)] i1 fun _x79 a1=>
 QD (fun m=>
 Qg c 0 fun i3=>
 LdK a1 i3 fun a2=>
 QD (fun u=>
 Qk prog .eql 5 a2 (.int .u8 11) fun a8=>
 IfK a8
 (u [a8] a1)
 (Qk prog .eql 5 a2 (.int .u8 12) fun i4=>
 u [i4] a1)) fun u=>∀o:Value,∀d:Qe,u [o] d->
 IfK o
 (Q3 a fun i5=>
 Qg i5 0 fun i6=>
 LdK d i6 fun i7=>
 Qk prog .add 3 f (.int .i64 4) fun i8=>
 Qey 1 i7 (some i8) none fun i9=>
 Qg c 3 fun j0=>
 LdK d j0 fun j1=>
 Qh5 d 1 i9 j1 fun _x121 a9=>
 Q3 a fun j2=>
 Qg j2 0 fun j3=>
 LdK a9 j3 fun j4=>
 Q8 a9 5 1 (YV z5.toList 1) [(0,1,(.int .u8 0))] fun j5 j6=>
 Qbs j6 5 1 1 z5 j4 j5 fun j7 j8=>
 Q3 a fun j9=>
 Qg j9 0 fun l0=>
 StK j8 1 l0 j7 fun l1=>
 m [o] l1)
 (Qk prog .eql 5 a2 (.int .u8 13) fun l2=>
 IfK l2
 (Qg c 4 fun l3=>
 LdK d l3 fun b0=>
 Yv b0 fun l4=>
 Yu [(.int .i64 0)] d fun b1 b2=>∀p:Value,∀v:Qe,b1 b2 [p] v->
 Qk prog .lss 3 p l4 fun l5=>
 IfK l5
 (Y1 1 b0 p fun l6=>
 LdK v l6 fun l7=>
 Qk prog .add 3 f (.int .i64 4) fun l8=>
 Qk prog .mul 3 j p fun l9=>
 Qk prog .add 3 l8 l9 fun m0=>
 Qa prog 20 #[a,m0,l7,j] v fun _x150 m1=>
 Qk prog .add 3 p (.int .i64 1) fun m2=>
 QS b1 b2 [m2] m1)
 (m [o] v))
 (Qg c 5 fun m3=>
 LdK d m3 fun b3=>
 Yv b3 fun m4=>
 Yu [(.int .i64 0)] d fun b4 b5=>∀g:Value,∀w:Qe,b4 b5 [g] w->
 Qk prog .lss 3 g m4 fun m5=>
 IfK m5
 (Y1 7 b3 g fun m6=>
 LdN w 7 m6 fun m7=>
 Y5 w (.cells z45 45) fun b6 m8=>
 StK m8 7 b6 m7 fun b7=>
 LdN b7 7 b6 fun m9=>
 Qa prog 71 #[a,m9] b7 fun o0 o1=>
 Qk prog .add 3 f (.int .i64 4) fun o2=>
 Qk prog .mul 3 (.int .i64 4) g fun o3=>
 Qk prog .add 3 o2 o3 fun o4=>
 Qk prog .sub 3 o0 f fun o5=>
 Qk prog .sub 3 o5 (.int .i64 4) fun o6=>
 Qk prog .mul 3 (.int .i64 4) g fun o7=>
 Qk prog .sub 3 o6 o7 fun o8=>
 QK .u64 o8 fun o9=>
 Qa prog 20 #[a,o4,o9,(.int .i64 4)] o1 fun _x107 p0=>
 Qk prog .add 3 g (.int .i64 1) fun p1=>
 QS b4 b5 [p1] p0)
 (m [o] w)))) fun m=>∀p2:Value,∀b8:Qe,m [p2] b8->
 R f b8)
theorem w71 {a b h R} (H:s71 a b h R):FnS prog 71 #[a,b] h R:=wq Tryz.func71 (by kernel_rfl) H
def s162 (d b:Value) (h:Qe) (R:Kn):Prop:=
 Qk prog .eql 5 d (.int .u8 0) fun a1=>
 IfK a1
 (Qk prog .leq 31 b (.int .u64 1) fun a2=>
 R a2 h)
 (Qk prog .eql 5 d (.int .u8 9) fun a3=>
 IfK a3
 (Qk prog .lss 31 b (.int .u64 4294967296) fun a=>
 Qc a true (fun a4=>a4 b h) h fun a5 g=>
 Qc a true (fun a6=>Qk prog .shr 31 a5 (.int .u64 23) fun a7=>a6 a7 g) g fun a8 i=>
 Qc a true (fun a9=>Qk prog .and 31 a8 (.int .u64 255) fun b0=>a9 b0 i) i fun b1 j=>
 Qc a true (fun b2=>Qk prog .eql 31 b1 (.int .u64 255) fun b3=>b2 b3 j) j fun b4 l=>
 Qc a true (fun b5=>b5 b4 l) l fun e m=>
 Qc e true (fun b6=>b6 b m) m fun b7 o=>
 Qc e true (fun b8=>Qk prog .and 31 b7 (.int .u64 8388607) fun b9=>b8 b9 o) o fun c0 p=>
 Qc e true (fun c1=>Qk prog .neq 31 c0 (.int .u64 0) fun c2=>c1 c2 p) p fun c3 q=>
 Qc a true (fun c4=>Yd e c3 (.bool false) fun c5=>c4 c5 q) q fun c6 r=>
 Qc a true (fun c7=>ZI prog (Op.unary .not c6) fun c8=>c7 c8 r) r fun c9 d0=>
 Yd a c9 (.bool false) fun d1=>
 R d1 d0)
 (Qk prog .eql 5 d (.int .u8 10) fun d2=>
 IfK d2
 (Qk prog .shr 31 b (.int .u64 52) fun d3=>
 Qk prog .and 31 d3 (.int .u64 2047) fun d4=>
 Qk prog .eql 31 d4 (.int .u64 2047) fun f=>
 Qc f true (fun d5=>d5 b h) h fun d6 s=>
 Qc f true (fun d7=>Qk prog .and 31 d6 (.int .u64 4503599627370495) fun d8=>d7 d8 s) s fun d9 t=>
 Qc f true (fun e0=>Qk prog .neq 31 d9 (.int .u64 0) fun e1=>e0 e1 t) t fun e2 e3=>
 Yd f e2 (.bool false) fun e4=>
 ZI prog (Op.unary .not e4) fun e5=>
 R e5 e3)
 (Qa prog 70 #[d] h fun e6 u=>
 Qk prog .eql 3 e6 (.int .i64 8) fun c=>
 Qc c false (fun e7=>e7 b u) u fun e8 v=>
 Qc c false (fun e9=>e9 d v) v fun f0 w=>
 Qc c false (fun f1=>Qa prog 70 #[f0] w fun f2 f3=>f1 f2 f3) w fun f4 y=>
 Qc c false (fun f5=>Qk prog .mul 3 (.int .i64 8) f4 fun f6=>f5 f6 y) y fun f7 z=>
 Qc c false (fun f8=>Qk prog .shl 31 (.int .u64 1) f7 fun f9=>f8 f9 z) z fun g0 a0=>
 Qc c false (fun g1=>Qk prog .lss 31 e8 g0 fun g2=>g1 g2 a0) a0 fun g3 g4=>
 Yd c (.bool true) g3 fun g5=>
 R g5 g4)))
theorem w162 {a b h R} (H:s162 a b h R):FnS prog 162 #[a,b] h R:=wq Tryz.func162 (by kernel_rfl) H
end Go.Proofs
namespace Go.Proofs
open Go Go.Vc
open Tryz (prog)
def fOk (P:Program) (ks:List Bool) (f:Field):Bool:=
 P.plainKey f.type&&(match P.underlying f.type,ks[f.offset]? with|some (.int _),some true=>true|some .string,some false=>true|_,_=>false)
theorem eqF {P:Program} {d:Nat} {xs:Array Value} {ks:List Bool} (hx:∀i:Nat,ks[i]?=some true->∃k n,xs[i]?=some (.int k n)) (hs:∀i:Nat,ks[i]?=some false->∃s,xs[i]?=some (.string s)) (w:World):
  ∀fs:List Field,fs.all (fOk P ks)=true->(Op.eqFields (d+1) xs xs fs).run P w= .ok true w
 |[],_=>rfl
 |f::fs,h=>by
  rw[List.all_cons,Bool.and_eq_true]at h
  obtain ⟨h1,h2⟩:=h
  have ih:=eqF (d:=d) hx hs w fs h2
  unfold Op.eqFields
  split
  ·unfold fOk at h1
   rw[Bool.and_eq_true]at h1
   obtain ⟨hp,h1⟩:=h1
   split at h1
   ·rename_i k hu hk
    obtain ⟨k',n,hv⟩:=hx _ hk
    simp only[Sem.run_bind,run_part_plain w hp hv,Result.andThen_ok,run_equalIn_int w d f.type k' k n n hu]
    simpa using ih
   ·rename_i hu hk
    obtain ⟨s,hv⟩:=hs _ hk
    simp only[Sem.run_bind,run_part_plain w hp hv,Result.andThen_ok,run_equalIn_string w d f.type s s hu]
    simpa using ih
   ·cases h1
  ·exact ih
theorem Qer {P:Program} {T:TypeId} {xs:Array Value} {ks:List Bool} (h1:P.eqGuardType P.depth T=false) (h2:P.underlying T=some (.struct (P.fieldsOf T))) (h3:P.stoodInHeld T=false) (h4:(P.fieldsOf T).toList.all (fOk P ks)=true)
  (hx:∀i:Nat,ks[i]?=some true->∃k n,xs[i]?=some (.int k n)) (hs:∀i:Nat,ks[i]?=some false->∃s,xs[i]?=some (.string s)) {k:Value->Prop}:Qk P .neq T (.agg xs) (.agg xs) k=k (.bool false):=by
 refine Qgm fun ox oy w=>?_
 simp only[Sem.run_bind,run_eqGuard_agg w .neq T ox oy xs xs h1,Result.andThen_ok,run_neq_struct,run_equalIn_agg w 9999 T xs xs h2 h3,eqF (d:=9998) hx hs w _ h4]
 rfl
theorem neq_Vec3 {t:ZO} {k:Value->Prop}:Qk prog .neq 76 (.agg (Zg t).toArray) (.agg (Zg t).toArray) k=k (.bool false):=by
 refine Qer (ks:=[true,true,true,true,true,true,true]) (by kernel_rfl) (by kernel_rfl) (by kernel_rfl) (by kernel_rfl) (fun i h=>?_) (fun i h=>?_)
 ·have hi:=Qo h
  simp only[List.length_cons,List.length_nil]at hi
  match i,hi,h with
  |0,_,_=>exact ⟨_,_,rfl⟩
  |1,_,_=>exact ⟨_,_,rfl⟩
  |2,_,_=>exact ⟨_,_,rfl⟩
  |3,_,_=>exact ⟨_,_,rfl⟩
  |4,_,_=>exact ⟨_,_,rfl⟩
  |5,_,_=>exact ⟨_,_,rfl⟩
  |6,_,_=>exact ⟨_,_,rfl⟩
 ·have hi:=Qo h
  simp only[List.length_cons,List.length_nil]at hi
  match i,hi,h with
  |0,_,h=>cases h
  |1,_,h=>cases h
  |2,_,h=>cases h
  |3,_,h=>cases h
  |4,_,h=>cases h
  |5,_,h=>cases h
  |6,_,h=>cases h
theorem neq_Test {t:Qb8} {k:Value->Prop}:Qk prog .neq 101 (.agg (Yw t).toArray) (.agg (Yw t).toArray) k=k (.bool false):=by
 refine Qer (ks:=[true,true]) (by kernel_rfl) (by kernel_rfl) (by kernel_rfl) (by kernel_rfl) (fun i h=>?_) (fun i h=>?_)
 ·have hi:=Qo h
  simp only[List.length_cons,List.length_nil]at hi
  match i,hi,h with
  |0,_,_=>exact ⟨_,_,rfl⟩
  |1,_,_=>exact ⟨_,_,rfl⟩
 ·have hi:=Qo h
  simp only[List.length_cons,List.length_nil]at hi
  match i,hi,h with
  |0,_,h=>cases h
  |1,_,h=>cases h
theorem neq_Stat {t:ZJ} {k:Value->Prop}:Qk prog .neq 80 (.agg (YL t).toArray) (.agg (YL t).toArray) k=k (.bool false):=by
 refine Qer (ks:=[false,true,true]) (by kernel_rfl) (by kernel_rfl) (by kernel_rfl) (by kernel_rfl) (fun i h=>?_) (fun i h=>?_)
 ·have hi:=Qo h
  simp only[List.length_cons,List.length_nil]at hi
  match i,hi,h with
  |0,_,h=>cases h
  |1,_,_=>exact ⟨_,_,rfl⟩
  |2,_,_=>exact ⟨_,_,rfl⟩
 ·have hi:=Qo h
  simp only[List.length_cons,List.length_nil]at hi
  match i,hi,h with
  |0,_,_=>exact ⟨_,rfl⟩
  |1,_,h=>cases h
  |2,_,h=>cases h
theorem neq_Ability {t:QeJ} {k:Value->Prop}:Qk prog .neq 108 (.agg (ZN t).toArray) (.agg (ZN t).toArray) k=k (.bool false):=by
 refine Qer (ks:=[true,true]) (by kernel_rfl) (by kernel_rfl) (by kernel_rfl) (by kernel_rfl) (fun i h=>?_) (fun i h=>?_)
 ·have hi:=Qo h
  simp only[List.length_cons,List.length_nil]at hi
  match i,hi,h with
  |0,_,_=>exact ⟨_,_,rfl⟩
  |1,_,_=>exact ⟨_,_,rfl⟩
 ·have hi:=Qo h
  simp only[List.length_cons,List.length_nil]at hi
  match i,hi,h with
  |0,_,h=>cases h
  |1,_,h=>cases h
theorem Qaq {cs:Array Value} {o:Nat} {v:Value} (h:(cs.toList.drop o).take 1=[v]):cs[o]?=some v:=by
 have h5:((cs.toList.drop o).take 1)[0]?=some v:=by rw[h];rfl
 rw[List.getElem?_take]at h5
 have:cs.toList[o]?=some v:=by simpa using h5
 simpa using this
theorem sv_ok {G:Cut} {H:Qe} (hG:G.In H) {l:List ZO} {v1 v2:Value} (h1:SlV G 7 v1 (l.map Zg)) (h2:SlV G 7 v2 (l.map Zg)) (hl:l.length<=50) {R:Kn} (hR:∀H',Ext G H G H'->R (.bool true) H'):FnS prog 37 #[v1,v2] H R:=by
 apply w37
 unfold tp37
 rw[h1.len,h2.len,Yp,QM (fun h=>h rfl)]
 refine Q0 (fun _ h=>Ext G H G h) ?_ (fun _ h he=>hR h he)
 rw[h1.len,List.length_map]
 refine ⟨fun m vs H'=>∃i y,vs=[.int .i64 (i:Nat),y]/\i+m=l.length/\Ext G H G H',⟨l.length,0,_,rfl,by omega,Ext.refl hG⟩,?_⟩
 rintro m x y H' ⟨i,y',hx,him,e⟩
 cases hx
 rw[Yr]
 by_cases hlt:i<l.length
 ·have ha:=List.getElem?_eq_getElem hlt
  rw[Yb (by omega)]
  have hone:∀x∈Zg l[i],x.oneCell'=true:=fun x hx=>by
   simp[Zg]at hx
   first
    |(rcases hx with rfl|rfl|rfl|rfl|rfl|rfl|rfl<;>rfl)
    |(rcases hx with rfl|rfl|rfl<;>rfl)
    |(rcases hx with rfl|rfl<;>rfl)
  refine Z8 h1 e.inn (i:=i) (it:=Zg l[i]) (by rw[List.getElem?_map,ha];rfl) ?_
  refine Qid (es:=7) (it:=Zg l[i]) rfl (by decide) rfl hone ?_
  have e1:=e.push (.cells (Zg l[i]).toArray 76 (0,0))
  generalize H'.push (.cells (Zg l[i]).toArray 76 (0,0))=H2 at *
  refine Z8 h2 e1.inn (i:=i) (it:=Zg l[i]) (by rw[List.getElem?_map,ha];rfl) ?_
  rw[neq_Vec3,ZG,QA,wrap_i64 (by omega) (by omega)]
  exact ⟨m-1,by omega,i+1,y,by simp,by omega,e1⟩
 ·rw[QM (by omega)]
  exact e
theorem st_ok {G:Cut} {H:Qe} (hG:G.In H) {l:List Qb8} {v1 v2:Value} (h1:SlV G 2 v1 (l.map Yw)) (h2:SlV G 2 v2 (l.map Yw)) (hl:l.length<=50) {R:Kn} (hR:∀H',Ext G H G H'->R (.bool true) H'):FnS prog 39 #[v1,v2] H R:=by
 apply w39
 unfold tp37
 rw[h1.len,h2.len,Yp,QM (fun h=>h rfl)]
 refine Q0 (fun _ h=>Ext G H G h) ?_ (fun _ h he=>hR h he)
 rw[h1.len,List.length_map]
 refine ⟨fun m vs H'=>∃i y,vs=[.int .i64 (i:Nat),y]/\i+m=l.length/\Ext G H G H',⟨l.length,0,_,rfl,by omega,Ext.refl hG⟩,?_⟩
 rintro m x y H' ⟨i,y',hx,him,e⟩
 cases hx
 rw[Yr]
 by_cases hlt:i<l.length
 ·have ha:=List.getElem?_eq_getElem hlt
  rw[Yb (by omega)]
  have hone:∀x∈Yw l[i],x.oneCell'=true:=fun x hx=>by
   simp[Yw]at hx
   first
    |(rcases hx with rfl|rfl|rfl|rfl|rfl|rfl|rfl<;>rfl)
    |(rcases hx with rfl|rfl|rfl<;>rfl)
    |(rcases hx with rfl|rfl<;>rfl)
  refine Z8 h1 e.inn (i:=i) (it:=Yw l[i]) (by rw[List.getElem?_map,ha];rfl) ?_
  refine Qid (es:=2) (it:=Yw l[i]) rfl (by decide) rfl hone ?_
  have e1:=e.push (.cells (Yw l[i]).toArray 101 (0,0))
  generalize H'.push (.cells (Yw l[i]).toArray 101 (0,0))=H2 at *
  refine Z8 h2 e1.inn (i:=i) (it:=Yw l[i]) (by rw[List.getElem?_map,ha];rfl) ?_
  rw[neq_Test,ZG,QA,wrap_i64 (by omega) (by omega)]
  exact ⟨m-1,by omega,i+1,y,by simp,by omega,e1⟩
 ·rw[QM (by omega)]
  exact e
theorem ss_ok {G:Cut} {H:Qe} (hG:G.In H) {l:List ZJ} {v1 v2:Value} (h1:SlV G 3 v1 (l.map YL)) (h2:SlV G 3 v2 (l.map YL)) (hl:l.length<=50) {R:Kn} (hR:∀H',Ext G H G H'->R (.bool true) H'):FnS prog 42 #[v1,v2] H R:=by
 apply w42
 unfold tp37
 rw[h1.len,h2.len,Yp,QM (fun h=>h rfl)]
 refine Q0 (fun _ h=>Ext G H G h) ?_ (fun _ h he=>hR h he)
 rw[h1.len,List.length_map]
 refine ⟨fun m vs H'=>∃i y,vs=[.int .i64 (i:Nat),y]/\i+m=l.length/\Ext G H G H',⟨l.length,0,_,rfl,by omega,Ext.refl hG⟩,?_⟩
 rintro m x y H' ⟨i,y',hx,him,e⟩
 cases hx
 rw[Yr]
 by_cases hlt:i<l.length
 ·have ha:=List.getElem?_eq_getElem hlt
  rw[Yb (by omega)]
  have hone:∀x∈YL l[i],x.oneCell'=true:=fun x hx=>by
   simp[YL]at hx
   first
    |(rcases hx with rfl|rfl|rfl|rfl|rfl|rfl|rfl<;>rfl)
    |(rcases hx with rfl|rfl|rfl<;>rfl)
    |(rcases hx with rfl|rfl<;>rfl)
  refine Z8 h1 e.inn (i:=i) (it:=YL l[i]) (by rw[List.getElem?_map,ha];rfl) ?_
  refine Qid (es:=3) (it:=YL l[i]) rfl (by decide) rfl hone ?_
  have e1:=e.push (.cells (YL l[i]).toArray 80 (0,0))
  generalize H'.push (.cells (YL l[i]).toArray 80 (0,0))=H2 at *
  refine Z8 h2 e1.inn (i:=i) (it:=YL l[i]) (by rw[List.getElem?_map,ha];rfl) ?_
  rw[neq_Stat,ZG,QA,wrap_i64 (by omega) (by omega)]
  exact ⟨m-1,by omega,i+1,y,by simp,by omega,e1⟩
 ·rw[QM (by omega)]
  exact e
theorem sa_ok {G:Cut} {H:Qe} (hG:G.In H) {l:List QeJ} {v1 v2:Value} (h1:SlV G 2 v1 (l.map ZN)) (h2:SlV G 2 v2 (l.map ZN)) (hl:l.length<=50) {R:Kn} (hR:∀H',Ext G H G H'->R (.bool true) H'):FnS prog 44 #[v1,v2] H R:=by
 apply w44
 unfold tp37
 rw[h1.len,h2.len,Yp,QM (fun h=>h rfl)]
 refine Q0 (fun _ h=>Ext G H G h) ?_ (fun _ h he=>hR h he)
 rw[h1.len,List.length_map]
 refine ⟨fun m vs H'=>∃i y,vs=[.int .i64 (i:Nat),y]/\i+m=l.length/\Ext G H G H',⟨l.length,0,_,rfl,by omega,Ext.refl hG⟩,?_⟩
 rintro m x y H' ⟨i,y',hx,him,e⟩
 cases hx
 rw[Yr]
 by_cases hlt:i<l.length
 ·have ha:=List.getElem?_eq_getElem hlt
  rw[Yb (by omega)]
  have hone:∀x∈ZN l[i],x.oneCell'=true:=fun x hx=>by
   simp[ZN]at hx
   first
    |(rcases hx with rfl|rfl|rfl|rfl|rfl|rfl|rfl<;>rfl)
    |(rcases hx with rfl|rfl|rfl<;>rfl)
    |(rcases hx with rfl|rfl<;>rfl)
  refine Z8 h1 e.inn (i:=i) (it:=ZN l[i]) (by rw[List.getElem?_map,ha];rfl) ?_
  refine Qid (es:=2) (it:=ZN l[i]) rfl (by decide) rfl hone ?_
  have e1:=e.push (.cells (ZN l[i]).toArray 108 (0,0))
  generalize H'.push (.cells (ZN l[i]).toArray 108 (0,0))=H2 at *
  refine Z8 h2 e1.inn (i:=i) (it:=ZN l[i]) (by rw[List.getElem?_map,ha];rfl) ?_
  rw[neq_Ability,ZG,QA,wrap_i64 (by omega) (by omega)]
  exact ⟨m-1,by omega,i+1,y,by simp,by omega,e1⟩
 ·rw[QM (by omega)]
  exact e
theorem sstr_ok {G:Cut} {H:Qe} (hG:G.In H) {l:List (List UInt8)} {v1 v2:Value} (h1:SlV G 1 v1 (l.map Qfd)) (h2:SlV G 1 v2 (l.map Qfd)) (hl:l.length<=50) {R:Kn} (hR:∀H',Ext G H G H'->R (.bool true) H'):FnS prog 40 #[v1,v2] H R:=by
 apply w40
 unfold tp40
 rw[h1.len,h2.len,Yp,QM (fun h=>h rfl)]
 refine Q0 (fun _ h=>Ext G H G h) ?_ (fun _ h he=>hR h he)
 rw[h1.len,List.length_map]
 refine ⟨fun m vs H'=>∃i y,vs=[.int .i64 (i:Nat),y]/\i+m=l.length/\Ext G H G H',⟨l.length,0,_,rfl,by omega,Ext.refl hG⟩,?_⟩
 rintro m x y H' ⟨i,y',hx,him,e⟩
 cases hx
 rw[Yr]
 by_cases hlt:i<l.length
 ·have ha:=List.getElem?_eq_getElem hlt
  rw[Yb (by omega)]
  obtain ⟨b,o,cs,e',fr,g1,g2,g3,g4⟩:=h1.idx e.inn (i:=i) rfl (it:=Qfd l[i]) (by rw[List.getElem?_map,ha];rfl)
  obtain ⟨b',o',cs',e'',fr',g1',g2',g3',g4'⟩:=h2.idx e.inn (i:=i) rfl (it:=Qfd l[i]) (by rw[List.getElem?_map,ha];rfl)
  rw[g1,Ql ((Qj g2).trans (Qaq g4)),g1',Ql ((Qj g2').trans (Qaq g4'))]
  rw[BinK_strne]
  have:(!((ByteArray.mk l[i].toArray).toList==(ByteArray.mk l[i].toArray).toList))=false:=by simp
  rw[this,ZG,QA,wrap_i64 (by omega) (by omega)]
  exact ⟨m-1,by omega,i+1,y,by simp,by omega,e⟩
 ·rw[QM (by omega)]
  exact e
theorem sbool_ok {G:Cut} {H:Qe} (hG:G.In H) {l:List Bool} {v1 v2:Value} (h1:SlV G 1 v1 (l.map QgW)) (h2:SlV G 1 v2 (l.map QgW)) (hl:l.length<=50) {R:Kn} (hR:∀H',Ext G H G H'->R (.bool true) H'):FnS prog 43 #[v1,v2] H R:=by
 apply w43
 unfold tp40
 rw[h1.len,h2.len,Yp,QM (fun h=>h rfl)]
 refine Q0 (fun _ h=>Ext G H G h) ?_ (fun _ h he=>hR h he)
 rw[h1.len,List.length_map]
 refine ⟨fun m vs H'=>∃i y,vs=[.int .i64 (i:Nat),y]/\i+m=l.length/\Ext G H G H',⟨l.length,0,_,rfl,by omega,Ext.refl hG⟩,?_⟩
 rintro m x y H' ⟨i,y',hx,him,e⟩
 cases hx
 rw[Yr]
 by_cases hlt:i<l.length
 ·have ha:=List.getElem?_eq_getElem hlt
  rw[Yb (by omega)]
  obtain ⟨b,o,cs,e',fr,g1,g2,g3,g4⟩:=h1.idx e.inn (i:=i) rfl (it:=QgW l[i]) (by rw[List.getElem?_map,ha];rfl)
  obtain ⟨b',o',cs',e'',fr',g1',g2',g3',g4'⟩:=h2.idx e.inn (i:=i) rfl (it:=QgW l[i]) (by rw[List.getElem?_map,ha];rfl)
  rw[g1,Ql ((Qj g2).trans (Qaq g4)),g1',Ql ((Qj g2').trans (Qaq g4'))]
  rw[BinK_boolne (by kernel_rfl)]
  have:(!(l[i]==l[i]))=false:=by simp
  rw[this,ZG,QA,wrap_i64 (by omega) (by omega)]
  exact ⟨m-1,by omega,i+1,y,by simp,by omega,e⟩
 ·rw[QM (by omega)]
  exact e
theorem si64_ok {G:Cut} {H:Qe} (hG:G.In H) {l:List UInt64} {v1 v2:Value} (h1:SlV G 1 v1 (l.map i64I)) (h2:SlV G 1 v2 (l.map i64I)) (hl:l.length<=50) {R:Kn} (hR:∀H',Ext G H G H'->R (.bool true) H'):FnS prog 45 #[v1,v2] H R:=by
 apply w45
 unfold tp40
 rw[h1.len,h2.len,Yp,QM (fun h=>h rfl)]
 refine Q0 (fun _ h=>Ext G H G h) ?_ (fun _ h he=>hR h he)
 rw[h1.len,List.length_map]
 refine ⟨fun m vs H'=>∃i y,vs=[.int .i64 (i:Nat),y]/\i+m=l.length/\Ext G H G H',⟨l.length,0,_,rfl,by omega,Ext.refl hG⟩,?_⟩
 rintro m x y H' ⟨i,y',hx,him,e⟩
 cases hx
 rw[Yr]
 by_cases hlt:i<l.length
 ·have ha:=List.getElem?_eq_getElem hlt
  rw[Yb (by omega)]
  obtain ⟨b,o,cs,e',fr,g1,g2,g3,g4⟩:=h1.idx e.inn (i:=i) rfl (it:=i64I l[i]) (by rw[List.getElem?_map,ha];rfl)
  obtain ⟨b',o',cs',e'',fr',g1',g2',g3',g4'⟩:=h2.idx e.inn (i:=i) rfl (it:=i64I l[i]) (by rw[List.getElem?_map,ha];rfl)
  rw[g1,Ql ((Qj g2).trans (Qaq g4)),g1',Ql ((Qj g2').trans (Qaq g4'))]
  rw[Yp,QM (fun h=>h rfl),QA,wrap_i64 (by omega) (by omega)]
  exact ⟨m-1,by omega,i+1,y,by simp,by omega,e⟩
 ·rw[QM (by omega)]
  exact e
theorem QiF {G:Cut} {H:Qe} (hG:G.In H) {l:List UInt64} {v1 v2:Value} (h1:SlV G 1 v1 (l.map Qai)) (h2:SlV G 1 v2 (l.map Qai)) (hl:l.length<=50) {R:Kn} (hR:∀H',Ext G H G H'->R (.bool true) H'):FnS prog 46 #[v1,v2] H R:=by
 apply w46
 unfold tp40
 rw[h1.len,h2.len,Yp,QM (fun h=>h rfl)]
 refine Q0 (fun _ h=>Ext G H G h) ?_ (fun _ h he=>hR h he)
 rw[h1.len,List.length_map]
 refine ⟨fun m vs H'=>∃i y,vs=[.int .i64 (i:Nat),y]/\i+m=l.length/\Ext G H G H',⟨l.length,0,_,rfl,by omega,Ext.refl hG⟩,?_⟩
 rintro m x y H' ⟨i,y',hx,him,e⟩
 cases hx
 rw[Yr]
 by_cases hlt:i<l.length
 ·have ha:=List.getElem?_eq_getElem hlt
  rw[Yb (by omega)]
  obtain ⟨b,o,cs,e',fr,g1,g2,g3,g4⟩:=h1.idx e.inn (i:=i) rfl (it:=Qai l[i]) (by rw[List.getElem?_map,ha];rfl)
  obtain ⟨b',o',cs',e'',fr',g1',g2',g3',g4'⟩:=h2.idx e.inn (i:=i) rfl (it:=Qai l[i]) (by rw[List.getElem?_map,ha];rfl)
  rw[g1,Ql ((Qj g2).trans (Qaq g4)),g1',Ql ((Qj g2').trans (Qaq g4'))]
  rw[Yp,QM (fun h=>h rfl),QA,wrap_i64 (by omega) (by omega)]
  exact ⟨m-1,by omega,i+1,y,by simp,by omega,e⟩
 ·rw[QM (by omega)]
  exact e
def Qhb (g:GM):Prop:=∀(G:Cut) (H:Qe) (c1 c2:List Value) (R:Kn),G.In H->QaX G g c1->QaX G g c2->LenM g->(∀H',Ext G H G H'->R (.bool true) H')->FnS prog 13 #[.agg c1.toArray,.agg c2.toArray] H R
theorem sm_ok {G:Cut} {H:Qe} (hG:G.In H) {gs:List GM} {v1 v2:Value} (h1:Qbu G gs v1) (h2:Qbu G gs v2) (hK:∀g∈gs,Qhb g) (hL:Qii gs) (hl:gs.length<=50) {R:Kn} (hR:∀H',Ext G H G H'->R (.bool true) H'):FnS prog 41 #[v1,v2] H R:=by
 obtain ⟨i1,s1,w1⟩:=h1
 obtain ⟨i2,s2,w2⟩:=h2
 have l1:=Zh.len w1
 have l2:=Zh.len w2
 apply w41
 unfold s41
 rw[s1.len,s2.len,<-l1,<-l2,Yp,QM (fun h=>h rfl)]
 refine Q0 (fun _ h=>Ext G H G h) ?_ (fun _ h he=>hR h he)
 rw[s1.len,<-l1]
 refine ⟨fun m vs H'=>∃i y,vs=[.int .i64 (i:Nat),y]/\i+m=gs.length/\Ext G H G H',⟨gs.length,0,_,rfl,by omega,Ext.refl hG⟩,?_⟩
 rintro m x y H' ⟨i,y',hx,him,e⟩
 cases hx
 rw[Yr]
 by_cases hlt:i<gs.length
 ·have ha:=List.getElem?_eq_getElem hlt
  rw[Yb (by omega)]
  obtain ⟨x1,hx1,hv1⟩:=Zh.get w1 ha
  obtain ⟨x2,hx2,hv2⟩:=Zh.get w2 ha
  refine Z8 s1 e.inn (i:=i) hx1 ?_
  refine Qid hv1.len (by decide) rfl (QaX.one hv1) ?_
  have e1:=e.push (.cells x1.toArray 38 (0,0))
  generalize H'.push (.cells x1.toArray 38 (0,0))=H2 at *
  refine Z8 s2 e1.inn (i:=i) hx2 ?_
  refine hK _ (List.mem_of_getElem? ha) G H2 x1 x2 _ e1.inn hv1 hv2 (Qii.get hL _ (List.mem_of_getElem? ha)) ?_
  intro H3 e3
  rw[Ym]
  show IfK (.bool false) _ _
  rw[ZG,QA,wrap_i64 (by omega) (by omega)]
  exact ⟨m-1,by omega,i+1,y,by simp,by omega,e1.trans e3⟩
 ·rw[QM (by omega)]
  exact e
section
variable {H0:Qe} {G:Cut} {H:Qe} {q2 q3:Nat} {c1 c2:List Value} {t1 t2:TypeId} (o1:Yj H0 G H q2 (.cells c1.toArray t1 (0,0))) (o2:Yj H0 G H q3 (.cells c2.toArray t2 (0,0)))
include o1 o2
theorem QaA {P:Program} {t:TypeId} {i:Nat} {a b:Value} (ha:c1[i]?=some a) (hb:c2[i]?=some b) (he:∀k:Value->Prop,Qk P .eql t a b k=k (.bool true)) {K:Kn} (hk:K (.bool true) H):
  Qc (.bool true) true (fun k1=>Qg (ptr q2) i fun x=>k1 x H) H fun y1 h1=>Qc (.bool true) true (fun k2=>LdK h1 y1 fun x=>k2 x h1) h1 fun y2 h2=>Qc (.bool true) true (fun k3=>Qg (ptr q3) i fun x=>k3 x h2) h2 fun y3 h3=>
   Qc (.bool true) true (fun k4=>LdK h3 y3 fun x=>k4 x h3) h3 fun y4 h4=>Qc (.bool true) true (fun k5=>Qk P .eql t y2 y4 fun x=>k5 x h4) h4 fun y5 h5=>Yd (.bool true) y5 (.bool false) fun x=>K x h5:=by
 rw[QU,Qm]
 dsimp only
 rw[QU,Ql ((Qj o1.get).trans (by simpa using ha))]
 dsimp only
 rw[QU,Qm]
 dsimp only
 rw[QU,Ql ((Qj o2.get).trans (by simpa using hb))]
 dsimp only
 rw[QU,he]
 dsimp only
 rw[Ye]
 exact hk
theorem Qag {P:Program} {f:FuncId} {i:Nat} {a b:Value} (ha:c1[i]?=some a) (hb:c2[i]?=some b) {K:Kn} (hk:FnS P f #[a,b] H fun v h=>Yd (.bool true) v (.bool false) fun x=>K x h):
  Qc (.bool true) true (fun k1=>Qg (ptr q2) i fun x=>k1 x H) H fun y1 h1=>Qc (.bool true) true (fun k2=>LdK h1 y1 fun x=>k2 x h1) h1 fun y2 h2=>Qc (.bool true) true (fun k3=>Qg (ptr q3) i fun x=>k3 x h2) h2 fun y3 h3=>
   Qc (.bool true) true (fun k4=>LdK h3 y3 fun x=>k4 x h3) h3 fun y4 h4=>Qc (.bool true) true (fun k5=>Qa P f #[y2,y4] h4 fun x h=>k5 x h) h4 fun y5 h5=>Yd (.bool true) y5 (.bool false) fun x=>K x h5:=by
 rw[QU,Qm]
 dsimp only
 rw[QU,Ql ((Qj o1.get).trans (by simpa using ha))]
 dsimp only
 rw[QU,Qm]
 dsimp only
 rw[QU,Ql ((Qj o2.get).trans (by simpa using hb))]
 dsimp only
 rw[QU]
 exact hk
theorem cmp_callN {P:Program} {f:FuncId} {i n:Nat} {a b:List Value} (ha:(c1.drop i).take n=a) (hla:i+n<=c1.length) (hb:(c2.drop i).take n=b) (hlb:i+n<=c2.length) {K:Kn} (hk:FnS P f #[.agg a.toArray,.agg b.toArray] H fun v h=>Yd (.bool true) v (.bool false) fun x=>K x h):
  Qc (.bool true) true (fun k1=>Qg (ptr q2) i fun x=>k1 x H) H fun y1 h1=>Qc (.bool true) true (fun k2=>LdN h1 n y1 fun x=>k2 x h1) h1 fun y2 h2=>Qc (.bool true) true (fun k3=>Qg (ptr q3) i fun x=>k3 x h2) h2 fun y3 h3=>
   Qc (.bool true) true (fun k4=>LdN h3 n y3 fun x=>k4 x h3) h3 fun y4 h4=>Qc (.bool true) true (fun k5=>Qa P f #[y2,y4] h4 fun x h=>k5 x h) h4 fun y5 h5=>Yd (.bool true) y5 (.bool false) fun x=>K x h5:=by
 rw[QU,Qm]
 dsimp only
 rw[QU,YI (n:=n) (vs:=a) (by rw[Q4 o1.get n (by simpa using hla),Nat.add_zero];simpa using ha)]
 dsimp only
 rw[QU,Qm]
 dsimp only
 rw[QU,YI (n:=n) (vs:=b) (by rw[Q4 o2.get n (by simpa using hlb),Nat.add_zero];simpa using hb)]
 dsimp only
 rw[QU]
 exact hk
end
theorem QbE {P:Program} {t:TypeId} {κ:IntKind} {a:Int} (k:Value->Prop):Qk P .eql t (.int κ a) (.int κ a) k=k (.bool true):=by rw[Yt,decide_eq_true rfl]
theorem eq_str {P:Program} {t:TypeId} {a:ByteArray} (k:Value->Prop):Qk P .eql t (.string a) (.string a) k=k (.bool true):=by
 rw[BinK_streq]
 have:(a.toList==a.toList)=true:=by simp
 rw[this]
theorem eq_bool {P:Program} {t:TypeId} (ht:P.underlying t=some .bool) {a:Bool} (k:Value->Prop):Qk P .eql t (.bool a) (.bool a) k=k (.bool true):=by
 rw[BinK_booleq ht]
 have:(a==a)=true:=by simp
 rw[this]
theorem Qhx {G:Cut} {H:Qe} (hG:G.In H) {ty color:UInt8} {gs:List GM} {v1 v2:Value} (h1:Qbu G gs v1) (h2:Qbu G gs v2) (hK:∀g∈gs,Qhb g) (hL:Qii gs) (hl:gs.length<=50) {R:Kn} (hR:∀H',Ext G H G H'->R (.bool true) H'):FnS prog 38 #[.agg #[u8n ty,v1,u8n color],.agg #[u8n ty,v2,u8n color]] H R:=by
 apply w38
 unfold s38
 rw[Qy,Qy]
 have e:=Ext.refl hG
 have o1:Yj H G (H.push (.cells (Value.agg #[u8n ty,v1,u8n color]).cells 26)) H.size (.cells [u8n ty,v1,u8n color].toArray 26 (0,0)):=Yj.fresh e _
 have e:=e.push (.cells (Value.agg #[u8n ty,v1,u8n color]).cells 26)
 generalize H.push (.cells (Value.agg #[u8n ty,v1,u8n color]).cells 26)=H1 at *
 have o2:Yj H G (H1.push (.cells (Value.agg #[u8n ty,v2,u8n color]).cells 26)) H1.size (.cells [u8n ty,v2,u8n color].toArray 26 (0,0)):=Yj.fresh e _
 have o1:=o1.push (.cells (Value.agg #[u8n ty,v2,u8n color]).cells 26)
 have e:=e.push (.cells (Value.agg #[u8n ty,v2,u8n color]).cells 26)
 generalize H1.push (.cells (Value.agg #[u8n ty,v2,u8n color]).cells 26)=H2 at *
 refine QF o1 (i:=0) (v:=u8n ty) rfl ?_
 refine QF o2 (i:=0) (v:=u8n ty) rfl ?_
 rw[QbE]
 refine QaA o1 o2 (i:=2) (a:=u8n color) (b:=u8n color) rfl rfl QbE ?_
 refine Qag o1 o2 (i:=1) (a:=v1) (b:=v2) rfl rfl ?_
 refine sm_ok e.inn h1 h2 hK hL hl ?_
 intro H3 e3
 rw[Ye]
 exact hR H3 (e.trans e3)
set_option maxHeartbeats 1000000 in
set_option maxRecDepth 8000 in
theorem sameStep {d:Qbt} {pos:List ZO} {empty:List ZJ} {tables enemy test uniq amb:List GM} (hT:∀k∈tables,Qhb k) (hE:∀k∈enemy,Qhb k) (hU:∀k∈test,Qhb k) (hQ:∀k∈uniq,Qhb k) (hA:∀k∈amb,Qhb k):Qhb (.mk d pos empty tables enemy test uniq amb):=by
 intro G H cells1 cells2 R hG hv1 hv2 hlm hR
 rw[QaX]at hv1 hv2
 obtain ⟨c,rfl,g,wT,wE,wU,wQ,wA⟩:=hv1
 obtain ⟨c',rfl,g',wT',wE',wU',wQ',wA'⟩:=hv2
 rw[LenM]at hlm
 obtain ⟨⟨l0,l1,l2,l3,l4,l5,l6,l7,l8,l9⟩,⟨l10,l11,l12,l13,l14,l15,l16,l17,l18,l19⟩,mT,mE,mU,mQ,mA⟩:=hlm
 apply w13
 unfold s13
 rw[Qy,Qy]
 have e:=Ext.refl hG
 have o1:Yj H G (H.push (.cells (Value.agg (Yk d c).toArray).cells 38)) H.size (.cells (Yk d c).toArray 38 (0,0)):=Yj.fresh e _
 have e:=e.push (.cells (Value.agg (Yk d c).toArray).cells 38)
 generalize H.push (.cells (Value.agg (Yk d c).toArray).cells 38)=H1 at *
 have o2:Yj H G (H1.push (.cells (Value.agg (Yk d c').toArray).cells 38)) H1.size (.cells (Yk d c').toArray 38 (0,0)):=Yj.fresh e _
 have o1:=o1.push (.cells (Value.agg (Yk d c').toArray).cells 38)
 have e:=e.push (.cells (Value.agg (Yk d c').toArray).cells 38)
 generalize H1.push (.cells (Value.agg (Yk d c').toArray).cells 38)=H2 at *
 refine QF o1 (i:=0) (v:=c.pos) rfl ?_
 refine QF o2 (i:=0) (v:=c'.pos) rfl ?_
 refine sv_ok e.inn g.pos g'.pos l0 ?_
 intro H3 e3
 have e:=e.trans e3
 have o1:=o1.ext e3
 have o2:=o2.ext e3
 clear e3
 refine QaA o1 o2 (i:=1) (a:=Qbc d.mana) (b:=Qbc d.mana) rfl rfl (QbE) ?_
 refine QaA o1 o2 (i:=2) (a:=Qbc d.hp) (b:=Qbc d.hp) rfl rfl (QbE) ?_
 refine QaA o1 o2 (i:=3) (a:=Yf d.name) (b:=Yf d.name) rfl rfl (eq_str) ?_
 refine QaA o1 o2 (i:=4) (a:=Yf d.inventory) (b:=Yf d.inventory) rfl rfl (eq_str) ?_
 refine QaA o1 o2 (i:=5) (a:=u8n d.color) (b:=u8n d.color) rfl rfl (QbE) ?_
 refine cmp_callN o1 o2 (i:=6) (n:=3) (a:=[u8n d.testTy,c.test,u8n d.testColor]) (b:=[u8n d.testTy,c'.test,u8n d.testColor]) rfl (by rw[YP];decide) rfl (by rw[YP];decide) ?_
 refine Qhx e.inn wU wU' hU mU l7 ?_
 intro H3 e3
 rw[Ye]
 have e:=e.trans e3
 have o1:=o1.ext e3
 have o2:=o2.ext e3
 clear e3
 refine Qag o1 o2 (i:=9) (a:=c.test4) (b:=c'.test4) rfl rfl ?_
 refine st_ok e.inn g.test4 g'.test4 l2 ?_
 intro H3 e3
 rw[Ye]
 have e:=e.trans e3
 have o1:=o1.ext e3
 have o2:=o2.ext e3
 clear e3
 refine Qag o1 o2 (i:=10) (a:=c.strings) (b:=c'.strings) rfl rfl ?_
 refine sstr_ok e.inn g.strings g'.strings l10 ?_
 intro H3 e3
 rw[Ye]
 have e:=e.trans e3
 have o1:=o1.ext e3
 have o2:=o2.ext e3
 clear e3
 refine Qag o1 o2 (i:=11) (a:=c.tables) (b:=c'.tables) rfl rfl ?_
 refine sm_ok e.inn wT wT' hT mT l5 ?_
 intro H3 e3
 rw[Ye]
 have e:=e.trans e3
 have o1:=o1.ext e3
 have o2:=o2.ext e3
 clear e3
 refine Qag o1 o2 (i:=12) (a:=c.enemy) (b:=c'.enemy) rfl rfl ?_
 refine sm_ok e.inn wE wE' hE mE l6 ?_
 intro H3 e3
 rw[Ye]
 have e:=e.trans e3
 have o1:=o1.ext e3
 have o2:=o2.ext e3
 clear e3
 refine QaA o1 o2 (i:=13) (a:=Yf d.nested) (b:=Yf d.nested) rfl rfl (eq_str) ?_
 refine Qag o1 o2 (i:=14) (a:=c.empty) (b:=c'.empty) rfl rfl ?_
 refine ss_ok e.inn g.empty g'.empty l1 ?_
 intro H3 e3
 rw[Ye]
 have e:=e.trans e3
 have o1:=o1.ext e3
 have o2:=o2.ext e3
 clear e3
 refine QaA o1 o2 (i:=15) (a:=.bool d.bool) (b:=.bool d.bool) rfl rfl (eq_bool (by kernel_rfl)) ?_
 refine QaA o1 o2 (i:=16) (a:=Qfl d.s32) (b:=Qfl d.s32) rfl rfl (QbE) ?_
 refine QaA o1 o2 (i:=17) (a:=Zz d.u32) (b:=Zz d.u32) rfl rfl (QbE) ?_
 refine QaA o1 o2 (i:=18) (a:=Qdw d.s64) (b:=Qdw d.s64) rfl rfl (QbE) ?_
 refine QaA o1 o2 (i:=19) (a:=Ya d.u64) (b:=Ya d.u64) rfl rfl (QbE) ?_
 refine QaA o1 o2 (i:=20) (a:=Qfl d.s32a) (b:=Qfl d.s32a) rfl rfl (QbE) ?_
 refine QaA o1 o2 (i:=21) (a:=Zz d.u32a) (b:=Zz d.u32a) rfl rfl (QbE) ?_
 refine QaA o1 o2 (i:=22) (a:=Qdw d.s64a) (b:=Qdw d.s64a) rfl rfl (QbE) ?_
 refine QaA o1 o2 (i:=23) (a:=Ya d.u64a) (b:=Ya d.u64a) rfl rfl (QbE) ?_
 refine Qag o1 o2 (i:=24) (a:=c.bools) (b:=c'.bools) rfl rfl ?_
 refine sbool_ok e.inn g.bools g'.bools l11 ?_
 intro H3 e3
 rw[Ye]
 have e:=e.trans e3
 have o1:=o1.ext e3
 have o2:=o2.ext e3
 clear e3
 refine QaA o1 o2 (i:=25) (a:=Zz d.f) (b:=Zz d.f) rfl rfl (QbE) ?_
 refine QaA o1 o2 (i:=26) (a:=Zz d.f2) (b:=Zz d.f2) rfl rfl (QbE) ?_
 refine QaA o1 o2 (i:=27) (a:=Zz d.f3) (b:=Zz d.f3) rfl rfl (QbE) ?_
 refine Qag o1 o2 (i:=28) (a:=c.strings2) (b:=c'.strings2) rfl rfl ?_
 refine sstr_ok e.inn g.strings2 g'.strings2 l12 ?_
 intro H3 e3
 rw[Ye]
 have e:=e.trans e3
 have o1:=o1.ext e3
 have o2:=o2.ext e3
 clear e3
 refine Qag o1 o2 (i:=29) (a:=c.abil) (b:=c'.abil) rfl rfl ?_
 refine sa_ok e.inn g.abil g'.abil l3 ?_
 intro H3 e3
 rw[Ye]
 have e:=e.trans e3
 have o1:=o1.ext e3
 have o2:=o2.ext e3
 clear e3
 refine QaA o1 o2 (i:=30) (a:=Yf d.flex) (b:=Yf d.flex) rfl rfl (eq_str) ?_
 refine Qag o1 o2 (i:=31) (a:=c.test5) (b:=c'.test5) rfl rfl ?_
 refine st_ok e.inn g.test5 g'.test5 l4 ?_
 intro H3 e3
 rw[Ye]
 have e:=e.trans e3
 have o1:=o1.ext e3
 have o2:=o2.ext e3
 clear e3
 refine Qag o1 o2 (i:=32) (a:=c.longs) (b:=c'.longs) rfl rfl ?_
 refine si64_ok e.inn g.longs g'.longs l13 ?_
 intro H3 e3
 rw[Ye]
 have e:=e.trans e3
 have o1:=o1.ext e3
 have o2:=o2.ext e3
 clear e3
 refine Qag o1 o2 (i:=33) (a:=c.doubles) (b:=c'.doubles) rfl rfl ?_
 refine QiF e.inn g.doubles g'.doubles l14 ?_
 intro H3 e3
 rw[Ye]
 have e:=e.trans e3
 have o1:=o1.ext e3
 have o2:=o2.ext e3
 clear e3
 refine QaA o1 o2 (i:=34) (a:=.bool d.parent) (b:=.bool d.parent) rfl rfl (eq_bool (by kernel_rfl)) ?_
 refine Qag o1 o2 (i:=35) (a:=c.refs) (b:=c'.refs) rfl rfl ?_
 refine QiF e.inn g.refs g'.refs l15 ?_
 intro H3 e3
 rw[Ye]
 have e:=e.trans e3
 have o1:=o1.ext e3
 have o2:=o2.ext e3
 clear e3
 refine QaA o1 o2 (i:=36) (a:=Ya d.singleWeak) (b:=Ya d.singleWeak) rfl rfl (QbE) ?_
 refine Qag o1 o2 (i:=37) (a:=c.weak) (b:=c'.weak) rfl rfl ?_
 refine QiF e.inn g.weak g'.weak l16 ?_
 intro H3 e3
 rw[Ye]
 have e:=e.trans e3
 have o1:=o1.ext e3
 have o2:=o2.ext e3
 clear e3
 refine Qag o1 o2 (i:=38) (a:=c.strong) (b:=c'.strong) rfl rfl ?_
 refine QiF e.inn g.strong g'.strong l17 ?_
 intro H3 e3
 rw[Ye]
 have e:=e.trans e3
 have o1:=o1.ext e3
 have o2:=o2.ext e3
 clear e3
 refine QaA o1 o2 (i:=39) (a:=Ya d.coOwning) (b:=Ya d.coOwning) rfl rfl (QbE) ?_
 refine Qag o1 o2 (i:=40) (a:=c.coOwnings) (b:=c'.coOwnings) rfl rfl ?_
 refine QiF e.inn g.coOwnings g'.coOwnings l18 ?_
 intro H3 e3
 rw[Ye]
 have e:=e.trans e3
 have o1:=o1.ext e3
 have o2:=o2.ext e3
 clear e3
 refine QaA o1 o2 (i:=41) (a:=Ya d.nonOwning) (b:=Ya d.nonOwning) rfl rfl (QbE) ?_
 refine Qag o1 o2 (i:=42) (a:=c.nonOwnings) (b:=c'.nonOwnings) rfl rfl ?_
 refine QiF e.inn g.nonOwnings g'.nonOwnings l19 ?_
 intro H3 e3
 rw[Ye]
 have e:=e.trans e3
 have o1:=o1.ext e3
 have o2:=o2.ext e3
 clear e3
 refine cmp_callN o1 o2 (i:=43) (n:=3) (a:=[u8n d.uniqTy,c.uniq,u8n d.uniqColor]) (b:=[u8n d.uniqTy,c'.uniq,u8n d.uniqColor]) rfl (by rw[YP];decide) rfl (by rw[YP];decide) ?_
 refine Qhx e.inn wQ wQ' hQ mQ l8 ?_
 intro H3 e3
 rw[Ye]
 have e:=e.trans e3
 have o1:=o1.ext e3
 have o2:=o2.ext e3
 clear e3
 refine cmp_callN o1 o2 (i:=46) (n:=3) (a:=[u8n d.ambTy,c.amb,u8n d.ambColor]) (b:=[u8n d.ambTy,c'.amb,u8n d.ambColor]) rfl (by rw[YP];decide) rfl (by rw[YP];decide) ?_
 refine Qhx e.inn wA wA' hA mA l9 ?_
 intro H3 e3
 rw[Ye]
 have e:=e.trans e3
 have o1:=o1.ext e3
 have o2:=o2.ext e3
 clear e3
 refine QaA o1 o2 (i:=49) (a:=Yf d.enums) (b:=Yf d.enums) rfl rfl (eq_str) ?_
 refine QaA o1 o2 (i:=50) (a:=i8V d.signedEnum) (b:=i8V d.signedEnum) rfl rfl (QbE) ?_
 exact hR _ e
mutual
theorem same_all:∀g:GM,Qhb g
 |.mk d pos empty tables enemy test uniq amb=>sameStep (Qfc tables) (Qfc enemy) (Qfc test) (Qfc uniq) (Qfc amb)
theorem Qfc:∀gs:List GM,∀k∈gs,Qhb k
 |[],k,h=>by simp at h
 |g::gs,k,h=>by
  rcases List.mem_cons.1 h with h|h
  ·rw[h];exact same_all g
  ·exact Qfc gs k h
end
def negZ (x:UInt32):UInt32:=if x=2147483648 then 0 else x
mutual
def QhX:GM->GM
 |.mk d pos empty tables enemy test uniq amb=>.mk {d with f3:=negZ d.f3} pos empty (QbT tables) (QbT enemy) (QbT test) (QbT uniq) (QbT amb)
def QbT:List GM->List GM
 |[]=>[]
 |g::gs=>QhX g::QbT gs
end
theorem QgD:∀gs,QbT gs=gs.map QhX
 |[]=>by rw[QbT];rfl
 |g::gs=>by rw[QbT,QgD gs];rfl
def QfE (g:GM):Prop:=∀(G:Cut) (H:Qe) (cells:List Value) (R:Kn),G.In H->QaX G g cells->LenM g->(∀G' H' cells',Ext G H G' H'->QaX G' (QhX g) cells'->R (.agg cells'.toArray) H')->FnS prog 12 #[.agg cells.toArray] H R
theorem r0a_ok {G:Cut} {H:Qe} (hG:G.In H) {gs:List GM} {v:Value} (hs:Qbu G gs v) (hK:∀g∈gs,QfE g) (hL:Qii gs) (hl:gs.length<=50) {R:Kn} (hR:∀G' H' v',Ext G H G' H'->Qbu G' (QbT gs) v'->R v' H'):FnS prog 36 #[v] H R:=by
 obtain ⟨its,hs,hvs⟩:=hs
 have hil:=Zh.len hvs
 apply w36
 unfold s36 r0a1
 refine QcO hG (et:=38) (es:=51) (n:=gs.length) (fun F i items=>Zh F ((QbT gs).take i) items) (by rw[List.take_zero,Zh];trivial) (by omega) (fun k=>by rw[hs.len,hil]) ?_ ?_
 ·rintro i y G1 H1 items k hlt e c hI hk
  have ha:=List.getElem?_eq_getElem hlt
  obtain ⟨x,hx,hvx⟩:=Zh.get hvs ha
  have hvx:=hvx.mono e.le
  have hilen:=Zh.len hI
  rw[List.length_take]at hilen
  unfold r0a1B
  refine Z8 (hs.mono e.le) e.inn (i:=i) hx ?_
  refine Qid hvx.len (by decide) rfl (QaX.one hvx) ?_
  have e1:=e.push (.cells x.toArray 38 (0,0))
  have c1:=c.push (.cells x.toArray 38 (0,0))
  generalize H1.push (.cells x.toArray 38 (0,0))=H2 at *
  refine hK _ (List.mem_of_getElem? ha) G1 H2 x _ e1.inn hvx (Qii.get hL _ (List.mem_of_getElem? ha)) ?_
  intro G3 H3 x' e3 hv3
  refine QbA (e1.trans e3) (c1.ext e3) (v:=.agg x'.toArray) (it:=x') rfl hv3.len (QaX.one hv3) (by decide) rfl (by decide) (by omega) ?_
  intro c' H' e4 c4
  refine hk c' _ H' _ e4 c4 ?_
  have hr:(QbT gs)[i]?=some (QhX gs[i]):=by rw[QgD,List.getElem?_map,ha];rfl
  rw[Qdf hr]
  exact Zh.snoc (Zh.mono e3.le hI) hv3
 ·rintro y G1 G2 H2 items e2 sl hI hle hnil
  have:(QbT gs).take gs.length=QbT gs:=List.take_of_length_le (by rw[QgD,List.length_map];exact Nat.le_refl _)
  rw[this]at hI
  exact hR G2 H2 y e2 ⟨items,sl,Zh.mono hle hI⟩
section
variable {G0:Cut} {H0:Qe} {t:TypeId} {ob:Obj} {q2 q3:Nat} {G:Cut} {H:Qe} {cells:List Value} (rs:RS G0 H0 t ob q2 q3 G H cells)
include rs
theorem RS.stAt {i:Nat} {v:Value} (hi:i<cells.length) (hv:v.oneCell'=true) {kp:Qe->Prop} (hk:∀H',RS G0 H0 t ob q2 q3 G H' (cells.set i v)->kp H'):StK H 1 (.pointer (some ⟨q3,i,none⟩)) v kp:=by
 rw[Qas rs.o3.get (by simpa using hi) (by simp) hv]
 have e:cells.toArray.setIfInBounds i v=(cells.set i v).toArray:=by simp
 rw[e]
 exact hk _ (rs.st i v)
theorem RS.ldAt {i:Nat} {v:Value} (hi:cells[i]?=some v) {k:Value->Prop} (hk:k v):Qg (ptr q3) i fun a=>LdK H a k:=by
 rw[Qm,rs.ld hi];exact hk
theorem RS.ldAt2 {i j m:Nat} {v:Value} (hm:i+j=m) (hi:cells[m]?=some v) {k:Value->Prop} (hk:k v):Qg (ptr q3) i fun x=>Qg x j fun a=>LdK H a k:=by
 rw[Qm,QhV hm,rs.ld hi];exact hk
end
theorem Qbu.one {F:Cut} {gs:List GM} {v:Value} (h:Qbu F gs v):v.oneCell'=true:=by
 obtain ⟨i,s,_⟩:=h
 exact s.one
theorem read0Step {d:Qbt} {pos:List ZO} {empty:List ZJ} {tables enemy test uniq amb:List GM} (hT:∀k∈tables,QfE k) (hE:∀k∈enemy,QfE k) (hU:∀k∈test,QfE k) (hQ:∀k∈uniq,QfE k) (hA:∀k∈amb,QfE k):QfE (.mk d pos empty tables enemy test uniq amb):=by
 intro G H cells R hG hv hlm hR
 rw[QaX]at hv
 obtain ⟨c,rfl,g,wT,wE,wU,wQ,wA⟩:=hv
 rw[LenM]at hlm
 obtain ⟨⟨l0,l1,l2,l3,l4,l5,l6,l7,l8,l9⟩,_,mT,mE,mU,mQ,mA⟩:=hlm
 apply w12
 unfold s12
 rw[Qy,Qy]
 have e:=Ext.refl hG
 have o1:Yj H G (H.push (.cells (Value.agg (Yk d c).toArray).cells 38)) H.size (.cells (Yk d c).toArray 38 (0,0)):=Yj.fresh e _
 have e:=e.push (.cells (Value.agg (Yk d c).toArray).cells 38)
 generalize H.push (.cells (Value.agg (Yk d c).toArray).cells 38)=H1 at *
 have hne:=o1.ne
 have o2:=Yj.fresh e (.cells z38 38)
 have o1:=o1.push (.cells z38 38)
 have e:=e.push (.cells z38 38)
 generalize H1.push (.cells z38 38)=H2 at *
 have rs:RS G H 38 (.cells z38 38 (0,0)) H1.size H.size G H2 (Yk d c):=⟨e,o2,o1,Ne.symm hne⟩
 have hcell:(Yk d c).set 27 (Zz (negZ d.f3))=Yk {d with f3:=negZ d.f3} c:=rfl
 refine Q0 (fun _ h=>RS G H 38 (.cells z38 38 (0,0)) H1.size H.size G h (Yk {d with f3:=negZ d.f3} c)) ?_ ?_
 ·refine rs.ldAt (i:=27) (v:=Zz d.f3) rfl ?_
  rw[Yt]
  by_cases h0:d.f3=2147483648
  ·rw[Yb (by rw[h0];rfl),Qm]
   refine rs.stAt (i:=27) (v:=.int .u32 0) (by rw[YP];decide) rfl ?_
   intro H' rs'
   have:(Yk d c).set 27 (.int .u32 0)=Yk {d with f3:=negZ d.f3} c:=by
    have hz:negZ d.f3=0:=by unfold negZ;rw[if_pos h0]
    rw[<-hcell,hz];rfl
   rw[this]at rs'
   exact rs'
  ·rw[QM (fun hh=>h0 (UInt32.toNat_inj.1 (by have:=Int.ofNat.inj hh;exact this)))]
   have hz:negZ d.f3=d.f3:=by unfold negZ;rw[if_neg h0]
   rw[hz]
   exact rs
 intro H3 r1
 have gl:∀d c,(Yk d c).length=51:=YP
 refine r1.ldAt (i:=11) (v:=c.tables) rfl ?_
 refine r1.ldAt (i:=12) (v:=c.enemy) rfl ?_
 refine QcL (by kernel_rfl) ?_
 refine r0a_ok r1.ext.inn (Qbu.mono r1.ext.le wT) hT mT l5 ?_
 intro G4 H4 vT e4 fT
 refine Qn e4.keep.ext ?_
 have r2:=r1.next e4
 rw[Qm]
 refine QcL (by kernel_rfl) ?_
 refine r0a_ok r2.ext.inn (Qbu.mono r2.ext.le wE) hE mE l6 ?_
 intro G5 H5 vE e5 fE
 have r3:=r2.next e5
 refine r3.stAt (i:=11) (by rw[gl];decide) (Qbu.one fT) ?_
 intro H6 r4
 rw[Qm]
 refine r4.stAt (i:=12) (by rw[List.length_set,gl];decide) (Qbu.one fE) ?_
 intro H7 r5
 refine r5.ldAt2 (i:=6) (j:=1) (m:=7) (v:=c.test) rfl rfl ?_
 refine r5.ldAt2 (i:=43) (j:=1) (m:=44) (v:=c.uniq) rfl rfl ?_
 refine r5.ldAt2 (i:=46) (j:=1) (m:=47) (v:=c.amb) rfl rfl ?_
 refine QcL (by kernel_rfl) ?_
 refine r0a_ok r5.ext.inn (Qbu.mono r5.ext.le wU) hU mU l7 ?_
 intro G8 H8 vU e8 fU
 refine Qn e8.keep.ext ?_
 have r6:=r5.next e8
 rw[Qm,QhV (m:=7) rfl]
 refine QcL (by kernel_rfl) ?_
 refine r0a_ok r6.ext.inn (Qbu.mono r6.ext.le wQ) hQ mQ l8 ?_
 intro G9 H9 vQ e9 fQ
 refine Qn e9.keep.ext ?_
 have r7:=r6.next e9
 refine QcL (by kernel_rfl) ?_
 refine r0a_ok r7.ext.inn (Qbu.mono r7.ext.le wA) hA mA l9 ?_
 intro G10 H10 vA e10 fA
 have r8:=r7.next e10
 refine r8.stAt (i:=7) (by rw[List.length_set,List.length_set,gl];decide) (Qbu.one fU) ?_
 intro H11 r9
 rw[Qm,QhV (m:=44) rfl]
 refine r9.stAt (i:=44) (by rw[List.length_set,List.length_set,List.length_set,gl];decide) (Qbu.one fQ) ?_
 intro H12 r10
 rw[Qm,QhV (m:=47) rfl]
 refine r10.stAt (i:=47) (by rw[List.length_set,List.length_set,List.length_set,List.length_set,gl];decide) (Qbu.one fA) ?_
 intro H13 r11
 have L9:=e10.le
 have L8:=Cut.le_trans e9.le L9
 have L5:=Cut.le_trans e8.le L8
 have L4:=Cut.le_trans e5.le L5
 have hval:QaX G10 (QhX (.mk d pos empty tables enemy test uniq amb)) (Yk {d with f3:=negZ d.f3} {c with tables:=vT,enemy:=vE,test:=vU,uniq:=vQ,amb:=vA}):=by
  rw[QhX,QaX]
  have g2:=GD.mono r11.ext.le g
  exact ⟨_,rfl,⟨g2.pos,g2.test4,g2.strings,g2.empty,g2.bools,g2.strings2,g2.abil,g2.test5,g2.longs,g2.doubles,g2.refs,g2.weak,g2.strong,g2.coOwnings,g2.nonOwnings⟩,Qbu.mono L4 fT,Qbu.mono L5 fE,Qbu.mono L8 fU,Qbu.mono L9 fQ,fA⟩
 have hce:(((((((Yk {d with f3:=negZ d.f3} c).set 11 vT).set 12 vE).set 7 vU).set 44 vQ)).set 47 vA)=Yk {d with f3:=negZ d.f3} {c with tables:=vT,enemy:=vE,test:=vU,uniq:=vQ,amb:=vA}:=rfl
 rw[hce]at r11
 refine r11.fin (n:=51) rfl rfl (by decide) (QaX.one hval) ?_
 intro H' e'
 exact hR _ H' _ e' hval
mutual
theorem read0_all:∀g:GM,QfE g
 |.mk d pos empty tables enemy test uniq amb=>read0Step (QdT tables) (QdT enemy) (QdT test) (QdT uniq) (QdT amb)
theorem QdT:∀gs:List GM,∀k∈gs,QfE k
 |[],k,h=>by simp at h
 |g::gs,k,h=>by
  rcases List.mem_cons.1 h with h|h
  ·rw[h];exact read0_all g
  ·exact QdT gs k h
end
end Go.Proofs
namespace Go.Proofs
open Go Go.Vc
open Tryz (prog)
theorem QaO {H:Qe} {w:Bool} {op:(Kn)->Prop} {kh:Kn}:Qc undef w op H kh=kh undef H:=by
 cases w<;>exact propext ⟨fun h=>h.ok,fun h=>⟨h⟩⟩
theorem scalar_ok {kind:Int} (hk:kind=9\/kind=10) {n:Int} {H:Qe} {R:Kn} (hR:∀b:Bool,R (.bool b) H):FnS prog 162 #[.int .u8 kind,.int .u64 n] H R:=by
 apply w162
 unfold s162
 rw[Yt,QM (by omega),Yt]
 rcases hk with rfl|rfl
 ·rw[Yb rfl,Yr]
  generalize decide (n<(4294967296:Int))=b1
  cases b1
  ·simp only[Y8,YY,QaO]
   exact hR _
  ·simp only[QU,Zj (show (0:Int)<=23 by decide),Qfk,Yt]
   generalize decide (Qbb .and .u64 _ _=(255:Int))=b2
   cases b2
   ·simp only[Y8,QU,YY,Ye,Ym]
    exact hR _
   ·simp only[QU,Ye,Ym,Qfk,Yp]
    exact hR _
 ·rw[QM (by decide),Yt,Yb rfl,Zj (by decide),Qfk,Yt]
  generalize decide (Qbb .and .u64 _ _=(2047:Int))=b2
  cases b2
  ·simp only[Y8,YY,Ym]
   exact hR _
  ·simp only[QU,Ye,Ym,Qfk,Yp]
   exact hR _
theorem Qig {kind:Int} (hk:kind=9\/kind=10) {n:Int} {H:Qe} {R:Kn} (hR:∀b:Bool,R (.bool b) H):FnS prog 60 #[.int .u8 kind,.int .u64 n] H R:=by
 apply w60
 unfold s60
 exact scalar_ok hk hR
theorem list_ok {n:Int} {H:Qe} {R:Kn} (hR:R (.bool (decide (n<=50))) H):FnS prog 59 #[.int .i64 n] H R:=by
 apply w59
 unfold s59
 rw[Qex]
 exact hR
section
variable {H0:Qe} {G:Cut} {H:Qe} {q:Nat} {cells:List Value} {T:TypeId} (o:Yj H0 G H q (.cells cells.toArray T (0,0)))
include o
theorem QcJ {P:Program} {t:TypeId} {i:Nat} {v:Value} {n:Nat} {m:Int} (hi:cells[i]?=some v) (hl:∀k:Value->Prop,Yv v k=k (.int .i64 n)) {X Y:Prop} (hX:X) (hY:Y):
  Qg (ptr q) i fun a=>LdK H a fun s=>Yv s fun y=>Qk P .gtr t y (.int .i64 m) fun c=>IfK c X Y:=by
 refine QF o hi ?_
 rw[hl,Qbv]
 exact Zd (fun _=>hX) fun _=>hY
theorem Qiv {P:Program} {t:TypeId} {i:Nat} {s:List UInt8} {m:Int} (hi:cells[i]?=some (Yf s)) {X Y:Prop} (hX:X) (hY:Y):
  Qg (ptr q) i fun a=>LdK H a fun s=>QeL s fun y=>Qk P .gtr t y (.int .i64 m) fun c=>IfK c X Y:=by
 refine QF o hi ?_
 rw[Yf,Qdo,Qbv]
 exact Zd (fun _=>hX) fun _=>hY
end
theorem fits4_ok {G:Cut} {H:Qe} (hG:G.In H) {l:List (List UInt8)} {v:Value} (hs:SlV G 1 v (l.map Qfd)) {R:Kn} (hR:∀b:Bool,R (.bool b) H):FnS prog 15 #[v] H R:=by
 apply w15
 unfold s15
 rw[hs.len,Qbv,List.length_map]
 refine Zd (fun _=>hR false) fun hl=>?_
 refine Q0 (fun _ h=>h=H) ?_ (fun _ h he=>by rw[he];exact hR true)
 rw[hs.len,List.length_map]
 refine ⟨fun m vs H'=>∃i y,vs=[.int .i64 (i:Nat),y]/\i+m=l.length/\H'=H,⟨l.length,0,_,rfl,by omega,rfl⟩,?_⟩
 rintro m x y H' ⟨i,y',hx,him,e⟩
 cases hx
 subst e
 rw[Yr]
 by_cases hlt:i<l.length
 ·have ha:=List.getElem?_eq_getElem hlt
  rw[Yb (by omega)]
  obtain ⟨b,o,cs,e',fr,g1,g2,g3,g4⟩:=hs.idx hG (i:=i) rfl (it:=Qfd l[i]) (by rw[List.getElem?_map,ha];rfl)
  rw[g1,Ql ((Qj g2).trans (Qaq g4)),Yf,Qdo,Qbv]
  refine Zd (fun _=>hR false) fun _=>?_
  rw[QA,wrap_i64 (by omega) (by omega)]
  exact ⟨m-1,by omega,i+1,y,by simp,by omega,rfl⟩
 ·rw[QM (by omega)]
theorem fits6_ok {G:Cut} {H:Qe} (hG:G.In H) {t:ZJ} {R:Kn} (hR:∀(b:Bool) H',Ext G H G H'->R (.bool b) H'):FnS prog 58 #[.agg (YL t).toArray] H R:=by
 apply w58
 unfold s58
 rw[Qy]
 have e:=Ext.refl hG
 have o1:Yj H G (H.push (.cells (Value.agg (YL t).toArray).cells 80)) H.size (.cells (YL t).toArray 80 (0,0)):=Yj.fresh e _
 have e:=e.push (.cells (Value.agg (YL t).toArray).cells 80)
 exact Qiv o1 (i:=0) (s:=t.id) rfl (hR _ _ e) (hR _ _ e)
theorem fits5_ok {G:Cut} {H:Qe} (hG:G.In H) {l:List ZJ} {v:Value} (hs:SlV G 3 v (l.map YL)) {R:Kn} (hR:∀(b:Bool) H',Ext G H G H'->R (.bool b) H'):FnS prog 16 #[v] H R:=by
 apply w16
 unfold s16
 have e:=Ext.refl hG
 rw[hs.len,Qbv,List.length_map]
 refine Zd (fun _=>hR _ _ e) fun hl=>?_
 refine Q0 (fun _ h=>Ext G H G h) ?_ (fun _ h he=>hR _ _ he)
 rw[hs.len,List.length_map]
 refine ⟨fun m vs H'=>∃i y,vs=[.int .i64 (i:Nat),y]/\i+m=l.length/\Ext G H G H',⟨l.length,0,_,rfl,by omega,e⟩,?_⟩
 rintro m x y H' ⟨i,y',hx,him,e⟩
 cases hx
 rw[Yr]
 by_cases hlt:i<l.length
 ·have ha:=List.getElem?_eq_getElem hlt
  rw[Yb (by omega)]
  have hone:∀x∈YL l[i],x.oneCell'=true:=fun x hx=>by
   simp[YL]at hx
   rcases hx with rfl|rfl|rfl<;>rfl
  refine Z8 hs e.inn (i:=i) (it:=YL l[i]) (by rw[List.getElem?_map,ha];rfl) ?_
  refine Qid (es:=3) (it:=YL l[i]) rfl (by decide) rfl hone ?_
  have e1:=e.push (.cells (YL l[i]).toArray 80 (0,0))
  generalize H'.push (.cells (YL l[i]).toArray 80 (0,0))=H2 at *
  refine fits6_ok e1.inn fun b H3 e3=>?_
  rw[Ym]
  refine Y9 (fun _=>hR _ _ (e1.trans e3)) fun _=>?_
  rw[QA,wrap_i64 (by omega) (by omega)]
  exact ⟨m-1,by omega,i+1,y,by simp,by omega,e1.trans e3⟩
 ·rw[QM (by omega)]
  exact e
set_option maxRecDepth 8000 in
theorem fits3_ok {G:Cut} {H:Qe} (hG:G.In H) {g:GM} {cells:List Value} (hv:QaX G g cells) {R:Kn} (hR:∀(b:Bool) H',Ext G H G H'->R (.bool b) H'):FnS prog 4 #[.agg cells.toArray] H R:=by
 cases g with
 |mk d pos empty tables enemy test uniq amb=>
 rw[QaX]at hv
 obtain ⟨c,rfl,g,⟨i1,w1,_⟩,⟨i2,w2,_⟩,_⟩:=hv
 apply w4
 unfold s4
 rw[Qy]
 have e:=Ext.refl hG
 have o:Yj H G (H.push (.cells (Value.agg (Yk d c).toArray).cells 38)) H.size (.cells (Yk d c).toArray 38 (0,0)):=Yj.fresh e _
 have e:=e.push (.cells (Value.agg (Yk d c).toArray).cells 38)
 generalize H.push (.cells (Value.agg (Yk d c).toArray).cells 38)=H1 at *
 refine QcJ o (i:=0) (v:=c.pos) rfl (fun k=>g.pos.len) (hR _ _ e) ?_
 refine Qiv o (i:=3) (s:=d.name) rfl (hR _ _ e) ?_
 refine Qiv o (i:=4) (s:=d.inventory) rfl (hR _ _ e) ?_
 refine QcJ o (i:=9) (v:=c.test4) rfl (fun k=>g.test4.len) (hR _ _ e) ?_
 refine QF o (i:=10) (v:=c.strings) rfl ?_
 refine fits4_ok e.inn g.strings fun b=>?_
 rw[Ym]
 refine Y9 (fun _=>hR _ _ e) fun _=>?_
 refine QcJ o (i:=11) (v:=c.tables) rfl (fun k=>w1.len) (hR _ _ e) ?_
 refine QcJ o (i:=12) (v:=c.enemy) rfl (fun k=>w2.len) (hR _ _ e) ?_
 refine Qiv o (i:=13) (s:=d.nested) rfl (hR _ _ e) ?_
 refine QF o (i:=14) (v:=c.empty) rfl ?_
 refine fits5_ok e.inn g.empty fun b H2 e2=>?_
 have e:=e.trans e2
 have o:=o.ext e2
 clear e2
 rw[Ym]
 refine Y9 (fun _=>hR _ _ e) fun _=>?_
 refine QcJ o (i:=24) (v:=c.bools) rfl (fun k=>g.bools.len) (hR _ _ e) ?_
 refine QF o (i:=28) (v:=c.strings2) rfl ?_
 refine fits4_ok e.inn g.strings2 fun b=>?_
 rw[Ym]
 refine Y9 (fun _=>hR _ _ e) fun _=>?_
 refine QcJ o (i:=29) (v:=c.abil) rfl (fun k=>g.abil.len) (hR _ _ e) ?_
 refine Qiv o (i:=30) (s:=d.flex) rfl (hR _ _ e) ?_
 refine QcJ o (i:=31) (v:=c.test5) rfl (fun k=>g.test5.len) (hR _ _ e) ?_
 refine QcJ o (i:=32) (v:=c.longs) rfl (fun k=>g.longs.len) (hR _ _ e) ?_
 refine QcJ o (i:=33) (v:=c.doubles) rfl (fun k=>g.doubles.len) (hR _ _ e) ?_
 refine QcJ o (i:=35) (v:=c.refs) rfl (fun k=>g.refs.len) (hR _ _ e) ?_
 refine QcJ o (i:=37) (v:=c.weak) rfl (fun k=>g.weak.len) (hR _ _ e) ?_
 refine QcJ o (i:=38) (v:=c.strong) rfl (fun k=>g.strong.len) (hR _ _ e) ?_
 refine QcJ o (i:=40) (v:=c.coOwnings) rfl (fun k=>g.coOwnings.len) (hR _ _ e) ?_
 refine QcJ o (i:=42) (v:=c.nonOwnings) rfl (fun k=>g.nonOwnings.len) (hR _ _ e) ?_
 exact Qiv o (i:=49) (s:=d.enums) rfl (hR _ _ e) (hR _ _ e)
end Go.Proofs
