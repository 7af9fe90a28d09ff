/- WHAT IS PROVED: the given statement of FnMonsterFormat, whatever the input: this is part 11 of 14. No conditions. -/
import Derived.Test.YthcjblkplcepaaaGreatX10
import Derived.ChangeKeysEq
import Derived.Laws.StructEq
set_option linter.all false
namespace Go.Proofs
open Go Go.Vc
open Tryz (prog)
set_option maxRecDepth 100000
def s6 (a4:Value) (h:Qe) (R:Kn):Prop:=
 Y8 h (.cells (Value.cells a4) 38) fun a g=>
 Qf a 11 fun a5=>
 LdK g a5 fun a6=>
 Y1 a6 fun a7=>
 Qj prog .eql 3 a7 (.int .i64 0) fun b=>
 Qd b true (fun a8=>Qf a 12 fun a9=>a8 a9 g) g fun b0 i=>
 Qd b true (fun b1=>LdK i b0 fun b2=>b1 b2 i) i fun b3 p=>
 Qd b true (fun b4=>Y1 b3 fun b5=>b4 b5 p) p fun b6 q=>
 Qd b true (fun b7=>Qj prog .eql 3 b6 (.int .i64 0) fun b8=>b7 b8 q) q fun b9 r=>
 Yh b b9 (.bool false) fun c=>
 Qd c true (fun c0=>Qf a 6 fun c1=>c0 c1 r) r fun c2 s=>
 Qd c true (fun c3=>Qf c2 0 fun c4=>c3 c4 s) s fun c5 j=>
 Qd c true (fun c6=>LdK j c5 fun c7=>c6 c7 j) j fun c8 t=>
 Qd c true (fun c9=>Qj prog .eql 5 c8 (.int .u8 0) fun d0=>c9 d0 t) t fun d1 u=>
 Yh c d1 (.bool false) fun d=>
 Qd d true (fun d2=>Qf a 43 fun d3=>d2 d3 u) u fun d4 v=>
 Qd d true (fun d5=>Qf d4 0 fun d6=>d5 d6 v) v fun d7 l=>
 Qd d true (fun d8=>LdK l d7 fun d9=>d8 d9 l) l fun e0 w=>
 Qd d true (fun e1=>Qj prog .eql 5 e0 (.int .u8 0) fun e2=>e1 e2 w) w fun e3 y=>
 Yh d e3 (.bool false) fun e=>
 Qd e true (fun e4=>Qf a 46 fun e5=>e4 e5 y) y fun e6 z=>
 Qd e true (fun e7=>Qf e6 0 fun e8=>e7 e8 z) z fun e9 m=>
 Qd e true (fun f0=>LdK m e9 fun f1=>f0 f1 m) m fun f2 a0=>
 Qd e true (fun f3=>Qj prog .eql 5 f2 (.int .u8 0) fun f4=>f3 f4 a0) a0 fun f5 a1=>
 Yh e f5 (.bool false) fun f=>
 Qd f true (fun f6=>Qf a 29 fun f7=>f6 f7 a1) a1 fun f8 o=>
 Qd f true (fun f9=>LdK o f8 fun g0=>f9 g0 o) o fun g1 a2=>
 Qd f true (fun g2=>Y1 g1 fun g3=>g2 g3 a2) a2 fun g4 a3=>
 Qd f true (fun g5=>Qj prog .eql 3 g4 (.int .i64 0) fun g6=>g5 g6 a3) a3 fun g7 g8=>
 Yh f g7 (.bool false) fun g9=>
 R g9 g8
theorem w6 {a h R} (H:s6 a h R):FnS prog 6 #[a] h R:=wq Tryz.func6 (by kernel_rfl) H
def s10 (i6:Value) (h:Qe) (R:Kn):Prop:=
 Y8 h (.cells (Value.cells i6) 38) fun b i7=>
 Y8 i7 (.cells z57 57) fun f0 i8=>
 Qu z57.toList [(0,1,(.int .u8 17)),(1,1,(.int .u8 8)),(3,1,(.string ⟨#[48,49,50,51,52,53,54,55,48,49,50,51,52,53,54,55,48,49,50,51,52,53,54,55,48,49,50,51,52,53,54,55]⟩))] fun i9=>
 Qu z107.toList [(1,7,i9)] fun j0=>
 Y8 i8 (.cells z107 107) fun i j1=>
 StK j1 9 i j0 fun f1=>
 QA (fun y=>
 Qf b 0 fun j2=>
 LdK f1 j2 fun f2=>
 Y1 f2 fun j3=>
 Yu [(.int .i64 0)] f1 fun f3 f4=>∀j:Value,∀l:Qe,f3 f4 [j] l->
 Qj prog .lss 3 j j3 fun j4=>
 IfK j4
 (Y2 7 f2 j fun j5=>
 LdN l 7 j5 fun j6=>
 Y8 l (.cells z84 84) fun d j7=>
 StK j7 7 d j6 fun j8=>
 Qf i 0 fun j9=>
 StK j8 1 j9 (.bool true) fun c=>
 Qf d 0 fun l0=>
 LdK c l0 fun l1=>
 QG .u64 l1 fun l2=>
 Qf d 1 fun l3=>
 LdK c l3 fun l4=>
 QG .u64 l4 fun l5=>
 Qf d 2 fun l6=>
 LdK c l6 fun l7=>
 QG .u64 l7 fun l8=>
 Qf d 3 fun l9=>
 LdK c l9 fun m0=>
 Qf d 4 fun m1=>
 LdK c m1 fun m2=>
 QG .u64 m2 fun m3=>
 Qf d 5 fun m4=>
 LdK c m4 fun m5=>
 QG .u16 m5 fun m6=>
 QG .u64 m6 fun m7=>
 Qf d 6 fun m8=>
 LdK c m8 fun m9=>
 QG .u8 m9 fun o0=>
 QG .u64 o0 fun o1=>
 Qa prog 40 #[l2,(.int .i64 4)] c fun o2 z=>
 Qh c z<|
 Qa prog 40 #[l5,(.int .i64 4)] z fun o3 a0=>
 Qh z a0<|
 Qj prog .add 9 o2 o3 fun o4=>
 Qa prog 40 #[l8,(.int .i64 4)] a0 fun o5 a1=>
 Qh a0 a1<|
 Qj prog .add 9 o4 o5 fun o6=>
 Qj prog .add 9 o6 (.string ⟨#[0,0,0,0]⟩) fun o7=>
 Qa prog 40 #[m0,(.int .i64 8)] a1 fun o8 a2=>
 Qh a1 a2<|
 Qj prog .add 9 o7 o8 fun o9=>
 Qa prog 40 #[m3,(.int .i64 1)] a2 fun p0 a3=>
 Qh a2 a3<|
 Qj prog .add 9 o9 p0 fun p1=>
 Qj prog .add 9 p1 (.string ⟨#[0]⟩) fun p2=>
 Qa prog 40 #[m7,(.int .i64 2)] a3 fun p3 f5=>
 Qh a3 f5<|
 Qj prog .add 9 p2 p3 fun p4=>
 Qa prog 40 #[o1,(.int .i64 1)] f5 fun p5 p6=>
 Qj prog .add 9 p4 p5 fun p7=>
 Qj prog .add 9 p7 (.string ⟨#[0,0,0]⟩) fun p8=>
 Qf i 1 fun p9=>
 Qf p9 3 fun q0=>
 StK p6 1 q0 p8 fun q1=>
 Qj prog .add 3 j (.int .i64 1) fun q2=>
 QQ f3 f4 [q2] q1)
 (y [] l)) fun y=>∀f6:Qe,y [] f6->
 Qu z57.toList [(0,1,(.int .u8 15))] fun q3=>
 Qu z107.toList [(1,7,q3)] fun q4=>
 Y8 f6 (.cells z107 107) fun m q5=>
 StK q5 9 m q4 fun f7=>
 QA (fun a4=>
 Qf b 14 fun q6=>
 LdK f7 q6 fun f8=>
 Y1 f8 fun q7=>
 Yu [(.int .i64 0)] f7 fun f9 g0=>∀o:Value,∀p:Qe,f9 g0 [o] p->
 Qj prog .lss 3 o q7 fun q8=>
 IfK q8
 (Y2 3 f8 o fun q9=>
 LdN p 3 q9 fun r0=>
 Y8 p (.cells z95 95) fun q r1=>
 StK r1 3 q r0 fun r2=>
 Qf m 0 fun r3=>
 StK r2 1 r3 (.bool true) fun e=>
 Qf q 0 fun r4=>
 LdK e r4 fun r5=>
 Qu z57.toList [(0,1,(.int .u8 11)),(3,1,r5)] fun r6=>
 Qu z107.toList [(0,1,(.bool true)),(1,7,r6)] fun r7=>
 Qf q 1 fun r8=>
 LdK e r8 fun r9=>
 QG .u64 r9 fun s0=>
 Qf q 2 fun s1=>
 LdK e s1 fun s2=>
 QG .u64 s2 fun s3=>
 Qa prog 41 #[(.int .u8 8),s0,(.int .u64 0)] e fun s4 a5=>
 Qh e a5<|
 Qa prog 41 #[(.int .u8 3),s3,(.int .u64 0)] a5 fun s5 g1=>
 Qh a5 g1<|
 Q8 g1 107 3 (YY z107.toList 3) [(0,9,r7),(9,9,s4),(18,9,s5)] fun s6 s7=>
 Qf m 1 fun s8=>
 Qf s8 6 fun s9=>
 StK s7 1 s9 s6 fun t0=>
 Qj prog .add 3 o (.int .i64 1) fun t1=>
 QQ f9 g0 [t1] t0)
 (a4 [] p)) fun a4=>∀r:Qe,a4 [] r->
 QA (fun s=>
 Qf b 15 fun t2=>
 LdK r t2 fun t3=>
 IfK t3
 (s [(.int .u64 1)] r)
 (s [(.int .u64 0)] r)) fun s=>∀g2:Value,∀a6:Qe,s [g2] a6->
 QA (fun a7=>
 Qf b 24 fun t4=>
 LdK a6 t4 fun g3=>
 Y1 g3 fun t5=>
 Yu [(.int .i64 0),(.slice none 0 0)] a6 fun g4 g5=>∀t a8:Value,∀f:Qe,g4 g5 [t,a8] f->
 Qj prog .lss 3 t t5 fun t6=>
 IfK t6
 (Y2 1 g3 t fun t7=>
 LdK f t7 fun t8=>
 QA (fun u=>
 IfK t8
 (u [(.int .u64 1)] f)
 (u [(.int .u64 0)] f)) fun u=>∀g6:Value,∀g7:Qe,u [g6] g7->
 Q8 g7 31 1 (YY z31.toList 1) [(0,1,g6)] fun t9 u0=>
 Qbk u0 31 1 8 z31 a8 t9 fun u1 u2=>
 Qj prog .add 3 t (.int .i64 1) fun u3=>
 QQ g4 g5 [u3,u1] u2)
 (a7 [a8] f)) fun a7=>∀g8:Value,∀a9:Qe,a7 [g8] a9->
 QA (fun b0=>
 Qf b 32 fun u4=>
 LdK a9 u4 fun g9=>
 Y1 g9 fun u5=>
 Yu [(.int .i64 0),(.slice none 0 0)] a9 fun i0 i1=>∀v b1:Value,∀w:Qe,i0 i1 [v,b1] w->
 Qj prog .lss 3 v u5 fun u6=>
 IfK u6
 (Y2 1 g9 v fun u7=>
 LdK w u7 fun u9=>
 QG .u64 u9 fun v0=>
 Q8 w 31 1 (YY z31.toList 1) [(0,1,v0)] fun v1 v2=>
 Qbk v2 31 1 8 z31 b1 v1 fun v3 v4=>
 Qj prog .add 3 v (.int .i64 1) fun v5=>
 QQ i0 i1 [v5,v3] v4)
 (b0 [b1] w)) fun b0=>∀i2:Value,∀i3:Qe,b0 [i2] i3->
 Qu z57.toList [(0,1,(.int .u8 15))] fun v6=>
 Qu z107.toList [(1,7,v6)] fun v7=>
 Y8 i3 (.cells z107 107) fun g v8=>
 StK v8 9 g v7 fun a=>
 LdN a 9 i fun v9=>
 Qf b 1 fun w0=>
 LdK a w0 fun w1=>
 QG .u64 w1 fun w2=>
 Qf b 2 fun w3=>
 LdK a w3 fun w4=>
 QG .u64 w4 fun w5=>
 Qf b 3 fun w6=>
 LdK a w6 fun w7=>
 Qu z57.toList [(0,1,(.int .u8 11)),(3,1,w7)] fun w8=>
 Qu z107.toList [(0,1,(.bool true)),(1,7,w8)] fun w9=>
 Qf b 4 fun y0=>
 LdK a y0 fun y1=>
 Qf b 5 fun y2=>
 LdK a y2 fun y3=>
 QG .u64 y3 fun y4=>
 LdN a 9 g fun y5=>
 Qf b 9 fun y6=>
 LdK a y6 fun y7=>
 Qf b 10 fun y8=>
 LdK a y8 fun y9=>
 Qu z57.toList [(0,1,(.int .u8 16))] fun z0=>
 Qu z107.toList [(1,7,z0)] fun z1=>
 LdN a 9 g fun z2=>
 Qf b 13 fun z3=>
 LdK a z3 fun z4=>
 LdN a 9 m fun z5=>
 Qf b 16 fun z6=>
 LdK a z6 fun z7=>
 QG .u64 z7 fun z8=>
 Qf b 17 fun z9=>
 LdK a z9 fun a00=>
 QG .u64 a00 fun a01=>
 Qf b 18 fun a02=>
 LdK a a02 fun a03=>
 QG .u64 a03 fun a04=>
 Qf b 19 fun a05=>
 LdK a a05 fun a06=>
 Qf b 20 fun a07=>
 LdK a a07 fun a08=>
 QG .u64 a08 fun a09=>
 Qf b 21 fun a10=>
 LdK a a10 fun a11=>
 QG .u64 a11 fun a12=>
 Qf b 22 fun a13=>
 LdK a a13 fun a14=>
 QG .u64 a14 fun a15=>
 Qf b 23 fun a16=>
 LdK a a16 fun a17=>
 Qf b 25 fun a18=>
 LdK a a18 fun a19=>
 QG .u64 a19 fun a20=>
 Qf b 26 fun a21=>
 LdK a a21 fun a22=>
 QG .u64 a22 fun a23=>
 Qf b 27 fun a24=>
 LdK a a24 fun a25=>
 QG .u64 a25 fun a26=>
 Qf b 28 fun a27=>
 LdK a a27 fun a28=>
 Qu z57.toList [(0,1,(.int .u8 13))] fun a29=>
 Qu z107.toList [(1,7,a29)] fun a30=>
 Qf b 30 fun a31=>
 LdK a a31 fun a32=>
 Qf b 31 fun a33=>
 LdK a a33 fun a34=>
 Qf b 33 fun a35=>
 LdK a a35 fun a36=>
 Qf b 34 fun a37=>
 LdK a a37 fun a38=>
 Qu z57.toList [(0,1,(.int .u8 15))] fun a39=>
 Qu z107.toList [(0,1,a38),(1,7,a39)] fun a40=>
 Qf b 35 fun a41=>
 LdK a a41 fun a42=>
 Qf b 36 fun a43=>
 LdK a a43 fun a44=>
 Qf b 37 fun a45=>
 LdK a a45 fun a46=>
 Qf b 38 fun a47=>
 LdK a a47 fun a48=>
 Qf b 39 fun a49=>
 LdK a a49 fun a50=>
 Qf b 40 fun a51=>
 LdK a a51 fun a52=>
 Qf b 41 fun a53=>
 LdK a a53 fun a54=>
 Qf b 42 fun a55=>
 LdK a a55 fun a56=>
 LdN a 9 g fun a57=>
 LdN a 9 g fun a58=>
 Qf b 49 fun a59=>
 LdK a a59 fun a60=>
 Qf b 50 fun a61=>
 LdK a a61 fun a62=>
 QG .u64 a62 fun a63=>
 Qa prog 41 #[(.int .u8 4),w2,(.int .u64 150)] a fun a64 b2=>
 Qh a b2<|
 Qa prog 41 #[(.int .u8 4),w5,(.int .u64 100)] b2 fun a65 b3=>
 Qh b2 b3<|
 Qa prog 41 #[(.int .u8 0),(.int .u64 0),(.int .u64 0)] b3 fun a66 b4=>
 Qh b3 b4<|
 Qa prog 42 #[y1] b4 fun a67 b5=>
 Qh b4 b5<|
 Qa prog 41 #[(.int .u8 1),y4,(.int .u64 8)] b5 fun a68 b6=>
 Qh b5 b6<|
 Qa prog 41 #[(.int .u8 1),(.int .u64 0),(.int .u64 0)] b6 fun a69 b7=>
 Qh b6 b7<|
 Qa prog 43 #[y7] b7 fun a70 b8=>
 Qh b7 b8<|
 Qa prog 44 #[y9] b8 fun a71 b9=>
 Qh b8 b9<|
 Qa prog 42 #[z4] b9 fun a72 c0=>
 Qh b9 c0<|
 Qa prog 41 #[(.int .u8 0),g2,(.int .u64 0)] c0 fun a73 c1=>
 Qh c0 c1<|
 Qa prog 41 #[(.int .u8 6),z8,(.int .u64 0)] c1 fun a74 c2=>
 Qh c1 c2<|
 Qa prog 41 #[(.int .u8 5),a01,(.int .u64 0)] c2 fun a75 c3=>
 Qh c2 c3<|
 Qa prog 41 #[(.int .u8 8),a04,(.int .u64 0)] c3 fun a76 c4=>
 Qh c3 c4<|
 Qa prog 41 #[(.int .u8 7),a06,(.int .u64 0)] c4 fun a77 c5=>
 Qh c4 c5<|
 Qa prog 41 #[(.int .u8 6),a09,(.int .u64 0)] c5 fun a78 c6=>
 Qh c5 c6<|
 Qa prog 41 #[(.int .u8 5),a12,(.int .u64 0)] c6 fun a79 c7=>
 Qh c6 c7<|
 Qa prog 41 #[(.int .u8 8),a15,(.int .u64 0)] c7 fun a80 c8=>
 Qh c7 c8<|
 Qa prog 41 #[(.int .u8 7),a17,(.int .u64 0)] c8 fun a81 c9=>
 Qh c8 c9<|
 Qa prog 45 #[(.int .u8 0),g8] c9 fun a82 d0=>
 Qh c9 d0<|
 Qa prog 41 #[(.int .u8 9),a20,(.int .u64 1078530000)] d0 fun a83 d1=>
 Qh d0 d1<|
 Qa prog 41 #[(.int .u8 9),a23,(.int .u64 1077936128)] d1 fun a84 d2=>
 Qh d1 d2<|
 Qa prog 41 #[(.int .u8 9),a26,(.int .u64 0)] d2 fun a85 d3=>
 Qh d2 d3<|
 Qa prog 44 #[a28] d3 fun a86 d4=>
 Qh d3 d4<|
 Qa prog 42 #[a32] d4 fun a87 d5=>
 Qh d4 d5<|
 Qa prog 43 #[a34] d5 fun a88 d6=>
 Qh d5 d6<|
 Qa prog 45 #[(.int .u8 8),i2] d6 fun a89 d7=>
 Qh d6 d7<|
 Qa prog 45 #[(.int .u8 10),a36] d7 fun a90 d8=>
 Qh d7 d8<|
 Qa prog 46 #[a42] d8 fun a91 d9=>
 Qh d8 d9<|
 Qa prog 41 #[(.int .u8 7),a44,(.int .u64 0)] d9 fun a92 e0=>
 Qh d9 e0<|
 Qa prog 45 #[(.int .u8 7),a46] e0 fun a93 e1=>
 Qh e0 e1<|
 Qa prog 46 #[a48] e1 fun a94 e2=>
 Qh e1 e2<|
 Qa prog 41 #[(.int .u8 7),a50,(.int .u64 0)] e2 fun a95 e3=>
 Qh e2 e3<|
 Qa prog 45 #[(.int .u8 7),a52] e3 fun a96 e4=>
 Qh e3 e4<|
 Qa prog 41 #[(.int .u8 7),a54,(.int .u64 0)] e4 fun a97 e5=>
 Qh e4 e5<|
 Qa prog 45 #[(.int .u8 7),a56] e5 fun a98 e6=>
 Qh e5 e6<|
 Qa prog 41 #[(.int .u8 1),(.int .u64 0),(.int .u64 0)] e6 fun a99 e7=>
 Qh e6 e7<|
 Qa prog 41 #[(.int .u8 1),(.int .u64 0),(.int .u64 0)] e7 fun b00 e8=>
 Qh e7 e8<|
 Qa prog 42 #[a60] e8 fun b01 e9=>
 Qh e8 e9<|
 Qa prog 41 #[(.int .u8 2),a63,(.int .u64 255)] e9 fun b02 i4=>
 Qh e9 i4<|
 Q8 i4 107 49 (YY z107.toList 49) [(0,9,v9),(9,9,a64),(18,9,a65),(27,9,w9),(36,9,a66),(45,9,a67),(54,9,a68),(63,9,a69),(72,9,y5),(81,9,a70),(90,9,a71),(99,9,z1),(108,9,z2),(117,9,a72),(126,9,z5),(135,9,a73),(144,9,a74),(153,9,a75),(162,9,a76),(171,9,a77),(180,9,a78),(189,9,a79),(198,9,a80),(207,9,a81),(216,9,a82),(225,9,a83),(234,9,a84),(243,9,a85),(252,9,a86),(261,9,a30),(270,9,a87),(279,9,a88),(288,9,a89),(297,9,a90),(306,9,a40),(315,9,a91),(324,9,a92),(333,9,a93),(342,9,a94),(351,9,a95),(360,9,a96),(369,9,a97),(378,9,a98),(387,9,a99),(396,9,a57),(405,9,b00),(414,9,a58),(423,9,b01),(432,9,b02)] fun b03 b04=>
 Qu z57.toList [(0,1,(.int .u8 15)),(6,1,b03)] fun b05=>
 StK b04 7 f0 b05 fun i5=>
 LdN i5 7 f0 fun b06=>
 R b06 i5
theorem w10 {a h R} (H:s10 a h R):FnS prog 10 #[a] h R:=wq Tryz.func10 (by kernel_rfl) H
def s11 (w y:Value) (h:Qe) (R:Kn):Prop:=
 Y8 h (.cells (Value.cells y) 57) fun z a0=>
 Y8 a0 (.cells z57 57) fun e a1=>
 Qu z117.toList [(0,1,w)] fun a2=>
 Y8 a1 (.cells (Value.cells a2) 117) fun b c=>
 QA (fun d=>
 LdN c 7 z fun g=>
 (Qa prog 48 #[b,(.int .i64 0)] c fun l f=>
 Qh c f<|
 (Qa prog 47 #[b,l,g] f fun a3 a4=>
 Y8 a4 (.cells z57 57) fun m a5=>
 StK a5 7 m a3 fun a6=>
 d [m] a6)/\
 (Y8 f (.cells z57 57) fun o p=>
 Qh f p<|
 Qa prog 47 #[b,l,g] p fun a7 a8=>
 StK a8 7 o a7 fun a9=>
 d [o] a9))/\
 (Y8 c (.cells z57 57) fun q i=>
 Qh c i<|
 Qa prog 48 #[b,(.int .i64 0)] i fun b0 r=>
 Qh i r<|
 Qa prog 47 #[b,b0,g] r fun b1 b2=>
 StK b2 7 q b1 fun b3=>
 d [q] b3)) fun d=>∀s:Value,∀a:Qe,d [s] a->
 LdN a 7 s fun t=>
 Q1 b fun b4=>
 Qf b4 1 fun u=>
 (LdK a u fun b5=>
 Qh a a<|
 Zu prog (Op.unary .not b5) fun b6=>
 StK a 7 e t fun v=>
 LdN v 7 e fun b7=>
 R (.tuple #[b7,b6]) v)/\
 (StK a 7 e t fun j=>
 LdK j u fun b8=>
 Zu prog (Op.unary .not b8) fun b9=>
 LdN j 7 e fun c0=>
 R (.tuple #[c0,b9]) j)
theorem w11 {a b h R} (H:s11 a b h R):FnS prog 11 #[a,b] h R:=wq Tryz.func11 (by kernel_rfl) H
def s12 (i5 i6:Value) (h:Qe) (R:Kn):Prop:=
 Y8 h (.cells (Value.cells i5) 57) fun c i7=>
 Y8 i7 (.cells (Value.cells i6) 57) fun a s=>
 Qf c 0 fun i8=>
 LdK s i8 fun i9=>
 Qf a 0 fun j0=>
 LdK s j0 fun j1=>
 Qj prog .neq 5 i9 j1 fun l=>
 Qd l false (fun j2=>Qf c 1 fun j3=>j2 j3 s) s fun j4 y=>
 Qd l false (fun j5=>LdK y j4 fun j6=>j5 j6 y) y fun j7 c5=>
 Qd l false (fun j8=>Qf a 1 fun j9=>j8 j9 c5) c5 fun l0 z=>
 Qd l false (fun l1=>LdK z l0 fun l2=>l1 l2 z) z fun l3 c6=>
 Qd l false (fun l4=>Qj prog .neq 5 j7 l3 fun l5=>l4 l5 c6) c6 fun l6 c7=>
 Yh l (.bool true) l6 fun m=>
 Qd m false (fun l7=>Qf c 2 fun l8=>l7 l8 c7) c7 fun l9 a0=>
 Qd m false (fun m0=>LdK a0 l9 fun m1=>m0 m1 a0) a0 fun m2 c8=>
 Qd m false (fun m3=>Qf a 2 fun m4=>m3 m4 c8) c8 fun m5 a1=>
 Qd m false (fun m6=>LdK a1 m5 fun m7=>m6 m7 a1) a1 fun m8 c9=>
 Qd m false (fun m9=>Qj prog .neq 31 m2 m8 fun o0=>m9 o0 c9) c9 fun o1 d0=>
 Yh m (.bool true) o1 fun o=>
 Qd o false (fun o2=>Qf c 3 fun o3=>o2 o3 d0) d0 fun o4 a2=>
 Qd o false (fun o5=>LdK a2 o4 fun o6=>o5 o6 a2) a2 fun o7 d1=>
 Qd o false (fun o8=>Qf a 3 fun o9=>o8 o9 d1) d1 fun p0 a3=>
 Qd o false (fun p1=>LdK a3 p0 fun p2=>p1 p2 a3) a3 fun p3 d2=>
 Qd o false (fun p4=>Qj prog .neq 9 o7 p3 fun p5=>p4 p5 d2) d2 fun p6 d3=>
 Yh o (.bool true) p6 fun e=>
 Qd e false (fun p7=>Qf c 4 fun p8=>p7 p8 d3) d3 fun p9 a4=>
 Qd e false (fun q0=>LdK a4 p9 fun q1=>q0 q1 a4) a4 fun q2 d4=>
 Qd e false (fun q3=>Y1 q2 fun q4=>q3 q4 d4) d4 fun q5 d5=>
 Qd e false (fun q6=>Qf a 4 fun q7=>q6 q7 d5) d5 fun q8 a5=>
 Qd e false (fun q9=>LdK a5 q8 fun r0=>q9 r0 a5) a5 fun r1 d6=>
 Qd e false (fun r2=>Y1 r1 fun r3=>r2 r3 d6) d6 fun r4 d7=>
 Qd e false (fun r5=>Qj prog .neq 3 q5 r4 fun r6=>r5 r6 d7) d7 fun r7 d8=>
 Yh e (.bool true) r7 fun f=>
 Qd f false (fun r8=>Qf c 5 fun r9=>r8 r9 d8) d8 fun s0 a6=>
 Qd f false (fun s1=>LdK a6 s0 fun s2=>s1 s2 a6) a6 fun s3 d9=>
 Qd f false (fun s4=>Y1 s3 fun s5=>s4 s5 d9) d9 fun s6 e0=>
 Qd f false (fun s7=>Qf a 5 fun s8=>s7 s8 e0) e0 fun s9 a7=>
 Qd f false (fun t0=>LdK a7 s9 fun t1=>t0 t1 a7) a7 fun t2 e1=>
 Qd f false (fun t3=>Y1 t2 fun t4=>t3 t4 e1) e1 fun t5 e2=>
 Qd f false (fun t6=>Qj prog .neq 3 s6 t5 fun t7=>t6 t7 e2) e2 fun t8 e3=>
 Yh f (.bool true) t8 fun g=>
 Qd g false (fun t9=>Qf c 6 fun u0=>t9 u0 e3) e3 fun u1 a8=>
 Qd g false (fun u2=>LdK a8 u1 fun u3=>u2 u3 a8) a8 fun u4 e4=>
 Qd g false (fun u5=>Y1 u4 fun u6=>u5 u6 e4) e4 fun u7 e5=>
 Qd g false (fun u8=>Qf a 6 fun u9=>u8 u9 e5) e5 fun v0 a9=>
 Qd g false (fun v1=>LdK a9 v0 fun v2=>v1 v2 a9) a9 fun v3 e6=>
 Qd g false (fun v4=>Y1 v3 fun v5=>v4 v5 e6) e6 fun v6 e7=>
 Qd g false (fun v7=>Qj prog .neq 3 u7 v6 fun v8=>v7 v8 e7) e7 fun v9 b0=>
 Yh g (.bool true) v9 fun w0=>
 IfK w0
 (R (.bool false) b0)
 (QA (fun b1=>
 Qf c 4 fun w1=>
 LdK b0 w1 fun e8=>
 Y1 e8 fun w2=>
 Yu [(.int .i64 0),(.bool false)] b0 fun e9 f0=>∀p b2:Value,∀i:Qe,e9 f0 [p,b2] i->
 Qj prog .lss 3 p w2 fun w3=>
 IfK w3
 (Y2 1 e8 p fun w4=>
 LdK i w4 fun w5=>
 Qf a 4 fun w6=>
 LdK i w6 fun w7=>
 Y2 1 w7 p fun w8=>
 LdK i w8 fun w9=>
 Qj prog .neq 31 w5 w9 fun y0=>
 IfK y0
 (R (.bool false) i)
 (Qj prog .add 3 p (.int .i64 1) fun y1=>
 QQ e9 f0 [y1,b2] i))
 (b1 [b2] i)) fun b1=>∀f1:Value,∀b3:Qe,b1 [f1] b3->
 QA (fun b4=>
 Qf c 5 fun y2=>
 LdK b3 y2 fun f2=>
 Y1 f2 fun y3=>
 Yu [(.int .i64 0),f1] b3 fun f3 f4=>∀q b5:Value,∀t:Qe,f3 f4 [q,b5] t->
 Qj prog .lss 3 q y3 fun y4=>
 IfK y4
 (Y2 7 f2 q fun y5=>
 LdN t 7 y5 fun y6=>
 Y8 t (.cells z57 57) fun f5 y7=>
 StK y7 7 f5 y6 fun u=>
 LdN u 7 f5 fun y8=>
 Qf a 5 fun y9=>
 LdK u y9 fun z0=>
 Y2 7 z0 q fun z1=>
 LdN u 7 z1 fun z2=>
 Qa prog 12 #[y8,z2] u fun z3 f6=>
 Zu prog (Op.unary .not z3) fun z4=>
 IfK z4
 (R (.bool false) f6)
 (Qj prog .add 3 q (.int .i64 1) fun z5=>
 QQ f3 f4 [z5,b5] f6))
 (b4 [b5] t)) fun b4=>∀f7:Value,∀b6:Qe,b4 [f7] b6->
 QA (fun b7=>
 Qf c 6 fun z6=>
 LdK b6 z6 fun f8=>
 Y1 f8 fun z7=>
 Yu [(.int .i64 0),f7] b6 fun f9 g0=>∀j b8:Value,∀v:Qe,f9 g0 [j,b8] v->
 Qj prog .lss 3 j z7 fun z8=>
 IfK z8
 (Y2 9 f8 j fun z9=>
 LdN v 9 z9 fun a00=>
 Y8 v (.cells z107 107) fun w a01=>
 StK a01 9 w a00 fun r=>
 Qf w 0 fun a02=>
 LdK r a02 fun a03=>
 Qf a 6 fun a04=>
 LdK r a04 fun a05=>
 Y2 9 a05 j fun a06=>
 Qf a06 0 fun a07=>
 LdK r a07 fun a08=>
 Qj prog .neq 4 a03 a08 fun d=>
 Qd d false (fun a09=>Qf w 8 fun a10=>a09 a10 r) r fun a11 b9=>
 Qd d false (fun a12=>LdK b9 a11 fun a13=>a12 a13 b9) b9 fun a14 g1=>
 Qd d false (fun a15=>Qf a 6 fun a16=>a15 a16 g1) g1 fun a17 c0=>
 Qd d false (fun a18=>LdK c0 a17 fun a19=>a18 a19 c0) c0 fun a20 g2=>
 Qd d false (fun a21=>a21 j g2) g2 fun a22 g3=>
 Qd d false (fun a23=>Y2 9 a20 a22 fun a24=>a23 a24 g3) g3 fun a25 g4=>
 Qd d false (fun a26=>Qf a25 8 fun a27=>a26 a27 g4) g4 fun a28 c1=>
 Qd d false (fun a29=>LdK c1 a28 fun a30=>a29 a30 c1) c1 fun a31 g5=>
 Qd d false (fun a32=>Qj prog .neq 31 a14 a31 fun a33=>a32 a33 g5) g5 fun a34 g6=>
 Yh d (.bool true) a34 fun b=>
 Qd b false (fun a35=>Qf w 1 fun a36=>a35 a36 g6) g6 fun a37 c2=>
 Qd b false (fun a38=>LdN c2 7 a37 fun a39=>a38 a39 c2) c2 fun a40 g7=>
 Qd b false (fun a41=>Qf a 6 fun a42=>a41 a42 g7) g7 fun a43 c3=>
 Qd b false (fun a44=>LdK c3 a43 fun a45=>a44 a45 c3) c3 fun a46 g8=>
 Qd b false (fun a47=>a47 j g8) g8 fun a48 g9=>
 Qd b false (fun a49=>Y2 9 a46 a48 fun a50=>a49 a50 g9) g9 fun a51 i0=>
 Qd b false (fun a52=>Qf a51 1 fun a53=>a52 a53 i0) i0 fun a54 c4=>
 Qd b false (fun a55=>LdN c4 7 a54 fun a56=>a55 a56 c4) c4 fun a57 i1=>
 Qd b false (fun a58=>Qa prog 12 #[a40,a57] i1 fun a59 a60=>a58 a59 a60) i1 fun a61 i2=>
 Qd b false (fun a62=>Zu prog (Op.unary .not a61) fun a63=>a62 a63 i2) i2 fun a64 i3=>
 Yh b (.bool true) a64 fun a65=>
 IfK a65
 (R (.bool false) i3)
 (Qj prog .add 3 j (.int .i64 1) fun a66=>
 QQ f9 g0 [a66,b8] i3))
 (b7 [b8] v)) fun b7=>∀a67:Value,∀i4:Qe,b7 [a67] i4->
 R (.bool true) i4)
theorem w12 {a b h R} (H:s12 a b h R):FnS prog 12 #[a,b] h R:=wq Tryz.func12 (by kernel_rfl) H
def s13 (d3:Value) (h:Qe) (R:Kn):Prop:=
 Y8 h (.cells (Value.cells d3) 57) fun v d4=>
 Y8 d4 (.cells z57 57) fun a8 a9=>
 LdN a9 7 v fun d5=>
 Y8 a9 (.cells z57 57) fun g d6=>
 StK d6 7 g d5 fun d7=>
 Qf g 5 fun d8=>
 StK d7 1 d8 (.slice none 0 0) fun d9=>
 Qf g 6 fun e0=>
 StK d9 1 e0 (.slice none 0 0) fun b0=>
 QA (fun w=>
 Qf v 5 fun e1=>
 LdK b0 e1 fun b1=>
 Y1 b1 fun e2=>
 Yu [(.int .i64 0)] b0 fun b2 b3=>∀p:Value,∀q:Qe,b2 b3 [p] q->
 Qj prog .lss 3 p e2 fun e3=>
 IfK e3
 (Y2 7 b1 p fun e4=>
 LdN q 7 e4 fun e5=>
 Y8 q (.cells z57 57) fun b4 e6=>
 StK e6 7 b4 e5 fun r=>
 Qf g 5 fun e7=>
 LdK r e7 fun e8=>
 LdN r 7 b4 fun e9=>
 Qa prog 13 #[e9] r fun f0 y=>
 Qh r y<|
 Q8 y 57 1 (YY z57.toList 1) [(0,7,f0)] fun f1 b5=>
 Qh y b5<|
 Qbk b5 57 7 104 z57 e8 f1 fun f2 f3=>
 Qf g 5 fun f4=>
 StK f3 1 f4 f2 fun f5=>
 Qj prog .add 3 p (.int .i64 1) fun f6=>
 QQ b2 b3 [f6] f5)
 (w [] q)) fun w=>∀z:Qe,w [] z->
 QA (fun a0=>
 Qf v 6 fun f7=>
 LdK z f7 fun b6=>
 Y1 b6 fun f8=>
 Yu [(.int .i64 0)] z fun b7 b8=>∀s:Value,∀t:Qe,b7 b8 [s] t->
 Qj prog .lss 3 s f8 fun f9=>
 IfK f9
 (Y2 9 b6 s fun g0=>
 LdN t 9 g0 fun g1=>
 Y8 t (.cells z107 107) fun b g2=>
 StK g2 9 b g1 fun a1=>
 Qf b 0 fun g3=>
 LdK a1 g3 fun g4=>
 Qf b 8 fun g5=>
 LdK a1 g5 fun g6=>
 Qu z107.toList [(0,1,g4),(8,1,g6)] fun g7=>
 Y8 a1 (.cells z107 107) fun c g8=>
 StK g8 9 c g7 fun a2=>
 QA (fun d=>
 Qf b 1 fun g9=>
 Qf g9 0 fun i0=>
 LdK a2 i0 fun i1=>
 Qj prog .leq 5 i1 (.int .u8 10) fun i=>
 Qd i true (fun i2=>Qf b 0 fun i3=>i2 i3 a2) a2 fun i4 a3=>
 Qd i true (fun i5=>LdK a3 i4 fun i6=>i5 i6 a3) a3 fun i7 b9=>
 Qd i true (fun i8=>Zu prog (Op.unary .not i7) fun i9=>i8 i9 b9) b9 fun j0 c0=>
 Qd i true (fun j1=>j1 j0 c0) c0 fun e c1=>
 Qd e false (fun j2=>Qf b 1 fun j3=>j2 j3 c1) c1 fun j4 c2=>
 Qd e false (fun j5=>Qf j4 0 fun j6=>j5 j6 c2) c2 fun j7 a4=>
 Qd e false (fun j8=>LdK a4 j7 fun j9=>j8 j9 a4) a4 fun l0 c3=>
 Qd e false (fun l1=>Qf b 1 fun l2=>l1 l2 c3) c3 fun l3 c4=>
 Qd e false (fun l4=>Qf l3 2 fun l5=>l4 l5 c4) c4 fun l6 a5=>
 Qd e false (fun l7=>LdK a5 l6 fun l8=>l7 l8 a5) a5 fun l9 c5=>
 Qd e false (fun m0=>Qf b 8 fun m1=>m0 m1 c5) c5 fun m2 a6=>
 Qd e false (fun m3=>LdK a6 m2 fun m4=>m3 m4 a6) a6 fun m5 c6=>
 Qd e false (fun m6=>Qa prog 49 #[l0,l9,m5] c6 fun m7 m8=>m6 m7 m8) c6 fun m9 c7=>
 Qd i true (fun o0=>Yh e (.bool true) m9 fun o1=>o0 o1 c7) c7 fun o2 a=>
 Yh i o2 (.bool false) fun f=>
 IfK f
 (Qf b 1 fun o3=>
 Qf o3 0 fun l=>
 Qf b 8 fun m=>
 Qf c 0 fun o=>
 (LdK a l fun c8=>
 (LdK a m fun o4=>
 Qu z57.toList [(0,1,c8),(2,1,o4)] fun o5=>
 StK a 1 o (.bool false) fun o6=>
 Qf c 1 fun o7=>
 StK o6 7 o7 o5 fun o8=>
 d [f] o8)/\
 (StK a 1 o (.bool false) fun c9=>
 LdK c9 m fun o9=>
 Qu z57.toList [(0,1,c8),(2,1,o9)] fun p0=>
 Qf c 1 fun p1=>
 StK c9 7 p1 p0 fun p2=>
 d [f] p2))/\
 (LdK a m fun d0=>
 (LdK a l fun p3=>
 Qu z57.toList [(0,1,p3),(2,1,d0)] fun p4=>
 StK a 1 o (.bool false) fun p5=>
 Qf c 1 fun p6=>
 StK p5 7 p6 p4 fun p7=>
 d [f] p7)/\
 (StK a 1 o (.bool false) fun d1=>
 LdK d1 l fun p8=>
 Qu z57.toList [(0,1,p8),(2,1,d0)] fun p9=>
 Qf c 1 fun q0=>
 StK d1 7 q0 p9 fun q1=>
 d [f] q1))/\
 (StK a 1 o (.bool false) fun j=>
 (LdK j l fun q2=>
 LdK j m fun q3=>
 Qu z57.toList [(0,1,q2),(2,1,q3)] fun q4=>
 Qf c 1 fun q5=>
 StK j 7 q5 q4 fun q6=>
 d [f] q6)/\
 (LdK j m fun q7=>
 LdK j l fun q8=>
 Qu z57.toList [(0,1,q8),(2,1,q7)] fun q9=>
 Qf c 1 fun r0=>
 StK j 7 r0 q9 fun r1=>
 d [f] r1)))
 (Qf b 0 fun r2=>
 LdK a r2 fun r3=>
 IfK r3
 (Qf b 1 fun r4=>
 LdN a 7 r4 fun r5=>
 Qa prog 13 #[r5] a fun r6 r7=>
 Qf c 1 fun r8=>
 StK r7 7 r8 r6 fun r9=>
 d [f] r9)
 (Qf b 1 fun s0=>
 LdN a 7 s0 fun s1=>
 Qa prog 50 #[s1] a fun s2 s3=>
 Qf c 1 fun s4=>
 StK s3 7 s4 s2 fun s5=>
 d [f] s5))) fun d=>∀s6:Value,∀u:Qe,d [s6] u->
 Qf g 6 fun s7=>
 LdK u s7 fun s8=>
 LdN u 9 c fun s9=>
 Q8 u 107 1 (YY z107.toList 1) [(0,9,s9)] fun t0 t1=>
 Qbk t1 107 9 120 z107 s8 t0 fun t2 t3=>
 Qf g 6 fun t4=>
 StK t3 1 t4 t2 fun t5=>
 Qj prog .add 3 s (.int .i64 1) fun t6=>
 QQ b7 b8 [t6] t5)
 (a0 [] t)) fun a0=>∀a7:Qe,a0 [] a7->
 LdN a7 7 g fun t7=>
 StK a7 7 a8 t7 fun d2=>
 LdN d2 7 a8 fun t8=>
 R t8 d2
theorem w13 {a h R} (H:s13 a h R):FnS prog 13 #[a] h R:=wq Tryz.func13 (by kernel_rfl) H
def s16 (o7 d m:Value) (h:Qe) (R:Kn):Prop:=
 Y8 h (.cells (Value.cells o7) 38) fun a e2=>
 Q1 d fun o8=>
 LdK e2 o8 fun o9=>
 Qj prog .sub 3 o9 (.int .i64 1) fun p0=>
 Q1 d fun p1=>
 StK e2 1 p1 p0 fun a9=>
 Q1 d fun p2=>
 LdK a9 p2 fun p3=>
 Qj prog .lss 3 p3 (.int .i64 0) fun b0=>
 Qd b0 false (fun p4=>p4 m a9) a9 fun p5 e3=>
 Qd b0 false (fun p6=>Qj prog .lss 3 p5 (.int .i64 0) fun p7=>p6 p7 e3) e3 fun p8 e4=>
 Yh b0 (.bool true) p8 fun o=>
 Qd o false (fun p9=>Qf a 0 fun q0=>p9 q0 e4) e4 fun q1 b1=>
 Qd o false (fun q2=>LdK b1 q1 fun q3=>q2 q3 b1) b1 fun q4 e5=>
 Qd o false (fun q5=>Y1 q4 fun q6=>q5 q6 e5) e5 fun q7 e6=>
 Qd o false (fun q8=>Qj prog .gtr 3 q7 (.int .i64 1) fun q9=>q8 q9 e6) e6 fun r0 e7=>
 Yh o (.bool true) r0 fun p=>
 Qd p false (fun r1=>Qf a 12 fun r2=>r1 r2 e7) e7 fun r3 b2=>
 Qd p false (fun r4=>LdK b2 r3 fun r5=>r4 r5 b2) b2 fun r6 e8=>
 Qd p false (fun r7=>Y1 r6 fun r8=>r7 r8 e8) e8 fun r9 e9=>
 Qd p false (fun s0=>Qj prog .gtr 3 r9 (.int .i64 1) fun s1=>s0 s1 e9) e9 fun s2 f0=>
 Yh p (.bool true) s2 fun q=>
 Qd q false (fun s3=>Qf a 14 fun s4=>s3 s4 f0) f0 fun s5 b3=>
 Qd q false (fun s6=>LdK b3 s5 fun s7=>s6 s7 b3) b3 fun s8 f1=>
 Qd q false (fun s9=>Y1 s8 fun t0=>s9 t0 f1) f1 fun t1 f2=>
 Qd q false (fun t2=>Qj prog .gtr 3 t1 (.int .i64 1) fun t3=>t2 t3 f2) f2 fun t4 b=>
 Yh q (.bool true) t4 fun t5=>
 IfK t5
 (R (.bool false) b)
 (QA (fun b4=>
 Qf a 9 fun t6=>
 LdK b t6 fun t7=>
 Y1 t7 fun t8=>
 Qf a 10 fun t9=>
 LdK b t9 fun u0=>
 Y1 u0 fun u1=>
 Qf a 11 fun u2=>
 LdK b u2 fun u3=>
 Y1 u3 fun u4=>
 Qf a 24 fun u5=>
 LdK b u5 fun u6=>
 Y1 u6 fun u7=>
 Qf a 28 fun u9=>
 LdK b u9 fun v0=>
 Y1 v0 fun v1=>
 Qf a 29 fun v2=>
 LdK b v2 fun v3=>
 Y1 v3 fun v4=>
 Qf a 31 fun v5=>
 LdK b v5 fun v6=>
 Y1 v6 fun v7=>
 Qf a 32 fun v8=>
 LdK b v8 fun v9=>
 Y1 v9 fun w0=>
 Qf a 33 fun w1=>
 LdK b w1 fun w2=>
 Y1 w2 fun w3=>
 Qf a 35 fun w4=>
 LdK b w4 fun w5=>
 Y1 w5 fun w6=>
 Qf a 37 fun w7=>
 LdK b w7 fun w8=>
 Y1 w8 fun w9=>
 Qf a 38 fun y0=>
 LdK b y0 fun y1=>
 Y1 y1 fun y2=>
 Qf a 40 fun y3=>
 LdK b y3 fun y4=>
 Y1 y4 fun y5=>
 Qf a 42 fun y6=>
 LdK b y6 fun y7=>
 Y1 y7 fun y8=>
 Q8 b 3 14 (YY z3.toList 14) [(0,1,t8),(1,1,u1),(2,1,u4),(3,1,u7),(4,1,v1),(5,1,v4),(6,1,v7),(7,1,w0),(8,1,w3),(9,1,w6),(10,1,w9),(11,1,y2),(12,1,y5),(13,1,y8)] fun f3 y9=>
 Y1 f3 fun z0=>
 Yu [(.int .i64 0),(.bool false)] y9 fun f4 f5=>∀u b5:Value,∀v:Qe,f4 f5 [u,b5] v->
 Qj prog .lss 3 u z0 fun z1=>
 IfK z1
 (Y2 1 f3 u fun z2=>
 LdK v z2 fun z4=>
 Qa prog 52 #[z4] v fun z5 f6=>
 Zu prog (Op.unary .not z5) fun z6=>
 IfK z6
 (R (.bool false) f6)
 (Qj prog .add 3 u (.int .i64 1) fun z7=>
 QQ f4 f5 [z7,b5] f6))
 (b4 [b5] v)) fun b4=>∀f7:Value,∀c:Qe,b4 [f7] c->
 Qf a 3 fun z8=>
 LdK c z8 fun a00=>
 Qf a 4 fun a01=>
 LdK c a01 fun a02=>
 Qf a 13 fun a03=>
 LdK c a03 fun a04=>
 Qf a 30 fun a05=>
 LdK c a05 fun a06=>
 Qf a 49 fun a07=>
 LdK c a07 fun a08=>
 Qf a 10 fun a09=>
 LdK c a09 fun a10=>
 Qf a 28 fun a11=>
 LdK c a11 fun a12=>
 Q8 c 9 5 (YY z9.toList 5) [(0,1,a00),(1,1,a02),(2,1,a04),(3,1,a06),(4,1,a08)] fun a13 b6=>
 Qh c b6<|
 Qbk b6 9 1 16 z9 a13 a10 fun a14 f8=>
 Qh b6 f8<|
 Qbk f8 9 1 16 z9 a14 a12 fun a15 f9=>
 QA (fun b7=>
 Qf a 14 fun a16=>
 LdK f9 a16 fun g0=>
 Y1 g0 fun a17=>
 Yu [(.int .i64 0),a15] f9 fun g1 g2=>∀w b8:Value,∀y:Qe,g1 g2 [w,b8] y->
 Qj prog .lss 3 w a17 fun a18=>
 IfK a18
 (Y2 3 g0 w fun a19=>
 LdN y 3 a19 fun a20=>
 Y8 y (.cells z95 95) fun g3 a21=>
 StK a21 3 g3 a20 fun g4=>
 Qf g3 0 fun a22=>
 LdK g4 a22 fun a23=>
 Q8 g4 9 1 (YY z9.toList 1) [(0,1,a23)] fun a24 a25=>
 Qbk a25 9 1 16 z9 b8 a24 fun a26 a27=>
 Qj prog .add 3 w (.int .i64 1) fun a28=>
 QQ g1 g2 [a28,a26] a27)
 (b7 [b8] y)) fun b7=>∀b9:Value,∀g5:Qe,b7 [b9] g5->
 QA (fun c0=>
 Y1 b9 fun a29=>
 Yu [(.int .i64 0),f7] g5 fun g6 g7=>∀z c1:Value,∀r:Qe,g6 g7 [z,c1] r->
 Qj prog .lss 3 z a29 fun a30=>
 IfK a30
 (Y2 1 b9 z fun a31=>
 LdK r a31 fun a32=>
 QbP a32 fun a33=>
 Qj prog .gtr 3 a33 (.int .i64 300) fun a34=>
 IfK a34
 (R (.bool false) r)
 (Qj prog .add 3 z (.int .i64 1) fun a35=>
 QQ g6 g7 [a35,c1] r))
 (c0 [c1] r)) fun c0=>∀g8:Value,∀c2:Qe,c0 [g8] c2->
 QA (fun c3=>
 Qf a 0 fun a36=>
 LdK c2 a36 fun g9=>
 Y1 g9 fun a37=>
 Yu [(.int .i64 0),g8] c2 fun i0 i1=>∀a0 c4:Value,∀a1:Qe,i0 i1 [a0,c4] a1->
 Qj prog .lss 3 a0 a37 fun a38=>
 IfK a38
 (Y2 7 g9 a0 fun a39=>
 LdN a1 7 a39 fun a40=>
 Y8 a1 (.cells z84 84) fun s a41=>
 StK a41 7 s a40 fun i2=>
 Qf s 0 fun a42=>
 LdK i2 a42 fun a43=>
 QG .u64 a43 fun a44=>
 Qa prog 53 #[(.int .u8 9),a44] i2 fun a45 i3=>
 Zu prog (Op.unary .not a45) fun e=>
 Qd e false (fun a46=>Qf s 1 fun a47=>a46 a47 i3) i3 fun a48 c5=>
 Qd e false (fun a49=>LdK c5 a48 fun a50=>a49 a50 c5) c5 fun a51 i4=>
 Qd e false (fun a52=>QG .u64 a51 fun a53=>a52 a53 i4) i4 fun a54 i5=>
 Qd e false (fun a55=>Qa prog 53 #[(.int .u8 9),a54] i5 fun a56 a57=>a55 a56 a57) i5 fun a58 i6=>
 Qd e false (fun a59=>Zu prog (Op.unary .not a58) fun a60=>a59 a60 i6) i6 fun a61 i7=>
 Yh e (.bool true) a61 fun f=>
 Qd f false (fun a62=>Qf s 2 fun a63=>a62 a63 i7) i7 fun a64 c6=>
 Qd f false (fun a65=>LdK c6 a64 fun a66=>a65 a66 c6) c6 fun a67 i8=>
 Qd f false (fun a68=>QG .u64 a67 fun a69=>a68 a69 i8) i8 fun a70 i9=>
 Qd f false (fun a71=>Qa prog 53 #[(.int .u8 9),a70] i9 fun a72 a73=>a71 a72 a73) i9 fun a74 j0=>
 Qd f false (fun a75=>Zu prog (Op.unary .not a74) fun a76=>a75 a76 j0) j0 fun a77 j1=>
 Yh f (.bool true) a77 fun t=>
 Qd t false (fun a78=>Qf s 3 fun a79=>a78 a79 j1) j1 fun a80 c7=>
 Qd t false (fun a81=>LdK c7 a80 fun a82=>a81 a82 c7) c7 fun a83 j2=>
 Qd t false (fun a84=>Qa prog 53 #[(.int .u8 10),a83] j2 fun a85 a86=>a84 a85 a86) j2 fun a87 j3=>
 Qd t false (fun a88=>Zu prog (Op.unary .not a87) fun a89=>a88 a89 j3) j3 fun a90 j4=>
 Yh t (.bool true) a90 fun a91=>
 IfK a91
 (R (.bool false) j4)
 (Qj prog .add 3 a0 (.int .i64 1) fun a92=>
 QQ i0 i1 [a92,c4] j4))
 (c3 [c4] a1)) fun c3=>∀j5:Value,∀c8:Qe,c3 [j5] c8->
 QA (fun c9=>
 Qf a 33 fun a93=>
 LdK c8 a93 fun j6=>
 Y1 j6 fun a94=>
 Yu [(.int .i64 0),j5] c8 fun j7 j8=>∀a2 d0:Value,∀a3:Qe,j7 j8 [a2,d0] a3->
 Qj prog .lss 3 a2 a94 fun a95=>
 IfK a95
 (Y2 1 j6 a2 fun a96=>
 LdK a3 a96 fun a97=>
 Qa prog 53 #[(.int .u8 10),a97] a3 fun a98 j9=>
 Zu prog (Op.unary .not a98) fun a99=>
 IfK a99
 (R (.bool false) j9)
 (Qj prog .add 3 a2 (.int .i64 1) fun b00=>
 QQ j7 j8 [b00,d0] j9))
 (c9 [d0] a3)) fun c9=>∀l0:Value,∀d1:Qe,c9 [l0] d1->
 Qf a 25 fun b01=>
 LdK d1 b01 fun b02=>
 QG .u64 b02 fun b03=>
 Qa prog 53 #[(.int .u8 9),b03] d1 fun b04 l1=>
 Zu prog (Op.unary .not b04) fun g=>
 Qd g false (fun b05=>Qf a 26 fun b06=>b05 b06 l1) l1 fun b07 d2=>
 Qd g false (fun b08=>LdK d2 b07 fun b09=>b08 b09 d2) d2 fun b10 l2=>
 Qd g false (fun b11=>QG .u64 b10 fun b12=>b11 b12 l2) l2 fun b13 l3=>
 Qd g false (fun b14=>Qa prog 53 #[(.int .u8 9),b13] l3 fun b15 b16=>b14 b15 b16) l3 fun b17 l4=>
 Qd g false (fun b18=>Zu prog (Op.unary .not b17) fun b19=>b18 b19 l4) l4 fun b20 l5=>
 Yh g (.bool true) b20 fun i=>
 Qd i false (fun b21=>Qf a 27 fun b22=>b21 b22 l5) l5 fun b23 d3=>
 Qd i false (fun b24=>LdK d3 b23 fun b25=>b24 b25 d3) d3 fun b26 l6=>
 Qd i false (fun b27=>QG .u64 b26 fun b28=>b27 b28 l6) l6 fun b29 l7=>
 Qd i false (fun b30=>Qa prog 53 #[(.int .u8 9),b29] l7 fun b31 b32=>b30 b31 b32) l7 fun b33 l8=>
 Qd i false (fun b34=>Zu prog (Op.unary .not b33) fun b35=>b34 b35 l8) l8 fun b36 a4=>
 Yh i (.bool true) b36 fun b37=>
 IfK b37
 (R (.bool false) a4)
 (QA (fun d4=>
 Qf a 11 fun b38=>
 LdK a4 b38 fun b39=>
 Qf a 12 fun b40=>
 LdK a4 b40 fun b41=>
 Q8 a4 24 2 (YY z24.toList 2) [(0,1,b39),(1,1,b41)] fun l9 b42=>
 Y1 l9 fun b43=>
 Yu [(.int .i64 0),l0] b42 fun m0 m1=>∀a5 d5:Value,∀a6:Qe,m0 m1 [a5,d5] a6->
 Qj prog .lss 3 a5 b43 fun b44=>
 IfK b44
 (QA (fun d6=>
 Y2 1 l9 a5 fun b45=>
 LdK a6 b45 fun d7=>
 Y1 d7 fun b46=>
 Yu [(.int .i64 0),d5] a6 fun m2 m3=>∀a7 d8:Value,∀a8:Qe,m2 m3 [a7,d8] a8->
 Qj prog .lss 3 a7 b46 fun b47=>
 IfK b47
 (Y2 51 d7 a7 fun b48=>
 LdN a8 51 b48 fun b49=>
 Y8 a8 (.cells z38 38) fun m4 b50=>
 StK b50 51 m4 b49 fun m5=>
 LdN m5 51 m4 fun b51=>
 Qj prog .sub 3 m (.int .i64 1) fun b52=>
 Qa prog 16 #[b51,d,b52] m5 fun b53 m6=>
 Zu prog (Op.unary .not b53) fun b54=>
 IfK b54
 (R (.bool false) m6)
 (Qj prog .add 3 a7 (.int .i64 1) fun b55=>
 QQ m2 m3 [b55,d8] m6))
 (d6 [d7,d8] a8)) fun d6=>∀b56 m7:Value,∀m8:Qe,d6 [b56,m7] m8->
 Qj prog .add 3 a5 (.int .i64 1) fun b57=>
 QQ m0 m1 [b57,m7] m8)
 (d4 [d5] a6)) fun d4=>∀b58:Value,∀d9:Qe,d4 [b58] d9->
 Qf a 6 fun b59=>
 LdN d9 3 b59 fun b60=>
 Qa prog 54 #[b60,(.bool false),d,m] d9 fun j m9=>
 Qd j true (fun b61=>Qf a 43 fun b62=>b61 b62 m9) m9 fun b63 e0=>
 Qd j true (fun b64=>LdN e0 3 b63 fun b65=>b64 b65 e0) e0 fun b66 o0=>
 Qd j true (fun b67=>b67 d o0) o0 fun b68 o1=>
 Qd j true (fun b69=>b69 m o1) o1 fun b70 o2=>
 Qd j true (fun b71=>Qa prog 54 #[b66,(.bool false),b68,b70] o2 fun b72 b73=>b71 b72 b73) o2 fun b74 o3=>
 Yh j b74 (.bool false) fun l=>
 Qd l true (fun b75=>Qf a 46 fun b76=>b75 b76 o3) o3 fun b77 e1=>
 Qd l true (fun b78=>LdN e1 3 b77 fun b79=>b78 b79 e1) e1 fun b80 o4=>
 Qd l true (fun b81=>b81 d o4) o4 fun b82 o5=>
 Qd l true (fun b83=>b83 m o5) o5 fun b84 o6=>
 Qd l true (fun b85=>Qa prog 54 #[b80,(.bool true),b82,b84] o6 fun b86 b87=>b85 b86 b87) o6 fun b88 b89=>
 Yh l b88 (.bool false) fun b90=>
 R b90 b89))
theorem w16 {a b c h R} (H:s16 a b c h R):FnS prog 16 #[a,b,c] h R:=wq Tryz.func16 (by kernel_rfl) H
def s40 (j f:Value) (h:Qe) (R:Kn):Prop:=
 Qez h 5 1 z5 f f fun b l=>
 QA (fun c=>
 Y1 b fun m=>
 Yu [(.int .i64 0)] l fun g i=>∀a:Value,∀d:Qe,g i [a] d->
 Qj prog .lss 3 a m fun o=>
 IfK o
 (Qj prog .mul 3 (.int .i64 8) a fun p=>
 Qj prog .shr 31 j p fun q=>
 QG .u8 q fun r=>
 Y2 1 b a fun s=>
 StK d 1 s r fun t=>
 Qj prog .add 3 a (.int .i64 1) fun u=>
 QQ g i [u] t)
 (c [] d)) fun c=>∀e:Qe,c [] e->
 B2SK e b fun v=>
 R v e
theorem w40 {a b h R} (H:s40 a b h R):FnS prog 40 #[a,b] h R:=wq Tryz.func40 (by kernel_rfl) H
def s41 (c d e:Value) (h:Qe) (R:Kn):Prop:=
 Y8 h (.cells z107 107) fun f o=>
 QA (fun b=>
 Qa prog 158 #[c] o fun a g=>
 Qj prog .lss 3 a (.int .i64 8) fun p=>
 IfK p
 (Qj prog .mul 3 (.int .i64 8) a fun q=>
 Qj prog .shl 31 (.int .u64 1) q fun r=>
 Qj prog .sub 31 r (.int .u64 1) fun s=>
 Qj prog .and 31 d s fun t=>
 Qj prog .mul 3 (.int .i64 8) a fun u=>
 Qj prog .shl 31 (.int .u64 1) u fun v=>
 Qj prog .sub 31 v (.int .u64 1) fun w=>
 Qj prog .and 31 e w fun y=>
 b [a,t,y] g)
 (b [a,d,e] g)) fun b=>∀z i j:Value,∀l:Qe,b [z,i,j] l->
 Qu z57.toList [(0,1,c),(2,1,i)] fun a0=>
 Qu z107.toList [(0,1,(.bool true)),(1,7,a0),(8,1,j)] fun a1=>
 StK l 9 f a1 fun m=>
 LdN m 9 f fun a2=>
 R a2 m
theorem w41 {a b c h R} (H:s41 a b c h R):FnS prog 41 #[a,b,c] h R:=wq Tryz.func41 (by kernel_rfl) H
def s42 (a:Value) (h:Qe) (R:Kn):Prop:=
 Y8 h (.cells z107 107) fun b d=>
 Qj prog .neq 9 a (.string ⟨#[]⟩) fun e=>
 Qu z57.toList [(0,1,(.int .u8 12)),(3,1,a)] fun f=>
 Qu z107.toList [(0,1,e),(1,7,f)] fun g=>
 StK d 9 b g fun c=>
 LdN c 9 b fun i=>
 R i c
theorem w42 {a h R} (H:s42 a h R):FnS prog 42 #[a] h R:=wq Tryz.func42 (by kernel_rfl) H
def s43 (g:Value) (h:Qe) (R:Kn):Prop:=
 Y8 h (.cells z107 107) fun i q=>
 QA (fun c=>
 Y1 g fun r=>
 Yu [(.int .i64 0),(.slice none 0 0)] q fun j l=>∀a d:Value,∀b:Qe,j l [a,d] b->
 Qj prog .lss 3 a r fun s=>
 IfK s
 (Y2 2 g a fun t=>
 LdN b 2 t fun u=>
 Y8 b (.cells z89 89) fun e v=>
 StK v 2 e u fun f=>
 Qf e 0 fun w=>
 LdK f w fun y=>
 QG .u16 y fun z=>
 QG .u64 z fun a0=>
 Qf e 1 fun a1=>
 LdK f a1 fun a2=>
 QG .u8 a2 fun a3=>
 QG .u64 a3 fun a4=>
 Qj prog .shl 31 a4 (.int .u64 16) fun a5=>
 Qj prog .or 31 a0 a5 fun a6=>
 Q8 f 31 1 (YY z31.toList 1) [(0,1,a6)] fun a7 a8=>
 Qbk a8 31 1 8 z31 d a7 fun a9 b0=>
 Qj prog .add 3 a (.int .i64 1) fun b1=>
 QQ j l [b1,a9] b0)
 (c [d] b)) fun c=>∀m:Value,∀o:Qe,c [m] o->
 Qa prog 45 #[(.int .u8 5),m] o fun b2 b3=>
 StK b3 9 i b2 fun p=>
 LdN p 9 i fun b4=>
 R b4 p
theorem w43 {a h R} (H:s43 a h R):FnS prog 43 #[a] h R:=wq Tryz.func43 (by kernel_rfl) H
def s44 (d:Value) (h:Qe) (R:Kn):Prop:=
 Y8 h (.cells z107 107) fun g m=>
 Qu z57.toList [(0,1,(.int .u8 14))] fun o=>
 Y8 m (.cells z57 57) fun b p=>
 StK p 7 b o fun q=>
 QA (fun e=>
 Y1 d fun r=>
 Yu [(.int .i64 0)] q fun i j=>∀c:Value,∀a:Qe,i j [c] a->
 Qj prog .lss 3 c r fun s=>
 IfK s
 (Y2 1 d c fun t=>
 LdK a t fun u=>
 Qf b 5 fun v=>
 LdK a v fun w=>
 Qu z57.toList [(0,1,(.int .u8 11)),(3,1,u)] fun y=>
 Q8 a 57 1 (YY z57.toList 1) [(0,7,y)] fun z a0=>
 Qbk a0 57 7 104 z57 w z fun a1 a2=>
 Qf b 5 fun a3=>
 StK a2 1 a3 a1 fun a4=>
 Qj prog .add 3 c (.int .i64 1) fun a5=>
 QQ i j [a5] a4)
 (e [] a)) fun e=>∀f:Qe,e [] f->
 Y1 d fun a6=>
 Qj prog .gtr 3 a6 (.int .i64 0) fun a7=>
 LdN f 7 b fun a8=>
 Qu z107.toList [(0,1,a7),(1,7,a8)] fun a9=>
 StK f 9 g a9 fun l=>
 LdN l 9 g fun b0=>
 R b0 l
theorem w44 {a h R} (H:s44 a h R):FnS prog 44 #[a] h R:=wq Tryz.func44 (by kernel_rfl) H
def s45 (d a:Value) (h:Qe) (R:Kn):Prop:=
 Y8 h (.cells z107 107) fun b e=>
 Y1 a fun f=>
 Qj prog .gtr 3 f (.int .i64 0) fun g=>
 Qu z57.toList [(0,1,(.int .u8 13)),(1,1,d),(4,1,a)] fun i=>
 Qu z107.toList [(0,1,g),(1,7,i)] fun j=>
 StK e 9 b j fun c=>
 LdN c 9 b fun l=>
 R l c
theorem w45 {a b h R} (H:s45 a b h R):FnS prog 45 #[a,b] h R:=wq Tryz.func45 (by kernel_rfl) H
def s46 (d:Value) (h:Qe) (R:Kn):Prop:=
 Y8 h (.cells z107 107) fun j q=>
 Qu z57.toList [(0,1,(.int .u8 16))] fun r=>
 Y8 q (.cells z57 57) fun b s=>
 StK s 7 b r fun t=>
 QA (fun e=>
 Y1 d fun u=>
 Yu [(.int .i64 0)] t fun l m=>∀c:Value,∀a:Qe,l m [c] a->
 Qj prog .lss 3 c u fun v=>
 IfK v
 (Y2 1 d c fun w=>
 LdK a w fun y=>
 Qf b 5 fun z=>
 LdK a z fun a0=>
 Qa prog 41 #[(.int .u8 7),y,(.int .u64 0)] a fun a1 f=>
 Qh a f<|
 Q8 f 107 1 (YY z107.toList 1) [(0,9,a1)] fun a2 g=>
 Qh f g<|
 Qu z57.toList [(0,1,(.int .u8 15)),(6,1,a2)] fun a3=>
 Q8 g 57 1 (YY z57.toList 1) [(0,7,a3)] fun a4 o=>
 Qh g o<|
 Qbk o 57 7 104 z57 a0 a4 fun a5 a6=>
 Qf b 5 fun a7=>
 StK a6 1 a7 a5 fun a8=>
 Qj prog .add 3 c (.int .i64 1) fun a9=>
 QQ l m [a9] a8)
 (e [] a)) fun e=>∀i:Qe,e [] i->
 Y1 d fun b0=>
 Qj prog .gtr 3 b0 (.int .i64 0) fun b1=>
 LdN i 7 b fun b2=>
 Qu z107.toList [(0,1,b1),(1,7,b2)] fun b3=>
 StK i 9 j b3 fun p=>
 LdN p 9 j fun b4=>
 R b4 p
theorem w46 {a h R} (H:s46 a h R):FnS prog 46 #[a] h R:=wq Tryz.func46 (by kernel_rfl) H
def s47 (a o f0:Value) (h:Qe) (R:Kn):Prop:=
 Y8 h (.cells (Value.cells f0) 57) fun f1 f2=>
 Y8 f2 (.cells z57 57) fun p f3=>
 Qu z57.toList [(0,1,(.int .u8 15))] fun f4=>
 Y8 f3 (.cells z57 57) fun i f5=>
 StK f5 7 i f4 fun f6=>
 Qa prog 159 #[a,o,(.int .i64 4)] f6 fun f7 f8=>
 QG .i32 f7 fun f9=>
 QG .i64 f9 fun g0=>
 Qj prog .sub 3 o g0 fun q=>
 Qa prog 159 #[a,q,(.int .i64 2)] f8 fun g1 g2=>
 QG .i64 g1 fun r=>
 Qj prog .add 3 q (.int .i64 2) fun g3=>
 Qa prog 159 #[a,g3,(.int .i64 2)] g2 fun g4 a1=>
 QG .i64 g4 fun a2=>
 Q1 a fun g5=>
 Qf g5 1 fun g6=>
 LdK a1 g6 fun a3=>
 Qd a3 false (fun g7=>g7 r a1) a1 fun g8 b2=>
 Qd a3 false (fun g9=>Qj prog .lss 3 g8 (.int .i64 4) fun i0=>g9 i0 b2) b2 fun i1 b3=>
 Yh a3 (.bool true) i1 fun s=>
 Qd s false (fun i2=>i2 r b3) b3 fun i3 b4=>
 Qd s false (fun i4=>Qj prog .rem 3 i3 (.int .i64 2) fun i5=>i4 i5 b4) b4 fun i6 b5=>
 Qd s false (fun i7=>Qj prog .neq 3 i6 (.int .i64 0) fun i8=>i7 i8 b5) b5 fun i9 b6=>
 Yh s (.bool true) i9 fun b=>
 Qd b false (fun j0=>j0 q b6) b6 fun j1 b7=>
 Qd b false (fun j2=>j2 r b7) b7 fun j3 b8=>
 Qd b false (fun j4=>Qj prog .add 3 j1 j3 fun j5=>j4 j5 b8) b8 fun j6 b9=>
 Qd b false (fun j7=>j7 a b9) b9 fun j8 c0=>
 Qd b false (fun j9=>Q1 j8 fun l0=>j9 l0 c0) c0 fun l1 c1=>
 Qd b false (fun l2=>Qf l1 0 fun l3=>l2 l3 c1) c1 fun l4 a4=>
 Qd b false (fun l5=>LdK a4 l4 fun l6=>l5 l6 a4) a4 fun l7 c2=>
 Qd b false (fun l8=>QbP l7 fun l9=>l8 l9 c2) c2 fun m0 c3=>
 Qd b false (fun m1=>Qj prog .gtr 3 j6 m0 fun m2=>m1 m2 c3) c3 fun m3 c4=>
 Yh b (.bool true) m3 fun a5=>
 Qd a5 false (fun m4=>m4 a2 c4) c4 fun m5 c5=>
 Qd a5 false (fun m6=>Qj prog .lss 3 m5 (.int .i64 4) fun m7=>m6 m7 c5) c5 fun m8 c6=>
 Yh a5 (.bool true) m8 fun c=>
 Qd c false (fun m9=>m9 o c6) c6 fun o0 c7=>
 Qd c false (fun o1=>o1 a2 c7) c7 fun o2 c8=>
 Qd c false (fun o3=>Qj prog .add 3 o0 o2 fun o4=>o3 o4 c8) c8 fun o5 c9=>
 Qd c false (fun o6=>o6 a c9) c9 fun o7 d0=>
 Qd c false (fun o8=>Q1 o7 fun o9=>o8 o9 d0) d0 fun p0 d1=>
 Qd c false (fun p1=>Qf p0 0 fun p2=>p1 p2 d1) d1 fun p3 a6=>
 Qd c false (fun p4=>LdK a6 p3 fun p5=>p4 p5 a6) a6 fun p6 d2=>
 Qd c false (fun p7=>QbP p6 fun p8=>p7 p8 d2) d2 fun p9 d3=>
 Qd c false (fun q0=>Qj prog .gtr 3 o5 p9 fun q1=>q0 q1 d3) d3 fun q2 a7=>
 Yh c (.bool true) q2 fun q3=>
 IfK q3
 (Q1 a fun q4=>
 Qf q4 1 fun q5=>
 StK a7 1 q5 (.bool true) fun d4=>
 LdN d4 7 i fun q6=>
 StK d4 7 p q6 fun d5=>
 LdN d5 7 p fun q7=>
 R q7 d5)
 (QA (fun a8=>
 Qf f1 6 fun q8=>
 LdK a7 q8 fun d6=>
 Y1 d6 fun q9=>
 Yu [(.int .i64 0)] a7 fun d7 d8=>∀g:Value,∀t:Qe,d7 d8 [g] t->
 Qj prog .lss 3 g q9 fun r0=>
 IfK r0
 (Y2 9 d6 g fun r1=>
 LdN t 9 r1 fun r2=>
 Y8 t (.cells z107 107) fun e r3=>
 StK r3 9 e r2 fun d9=>
 QA (fun u=>
 Qj prog .mul 3 (.int .i64 2) g fun r4=>
 Qj prog .add 3 (.int .i64 4) r4 fun r5=>
 Qj prog .add 3 r5 (.int .i64 2) fun r6=>
 Qj prog .leq 3 r6 r fun r7=>
 IfK r7
 (Qj prog .add 3 q (.int .i64 4) fun r8=>
 Qj prog .mul 3 (.int .i64 2) g fun r9=>
 Qj prog .add 3 r8 r9 fun s0=>
 Qa prog 159 #[a,s0,(.int .i64 2)] d9 fun s1 s2=>
 QG .i64 s1 fun s3=>
 u [s3] s2)
 (u [(.int .i64 0)] d9)) fun u=>∀d:Value,∀a9:Qe,u [d] a9->
 Qj prog .neq 3 d (.int .i64 0) fun s4=>
 Qf e 8 fun s5=>
 LdK a9 s5 fun s6=>
 Qu z107.toList [(0,1,s4),(8,1,s6)] fun s7=>
 Y8 a9 (.cells z107 107) fun j s8=>
 StK s8 9 j s7 fun e0=>
 QA (fun v=>
 Qj prog .neq 3 d (.int .i64 0) fun l=>
 Qd l true (fun s9=>s9 d e0) e0 fun t0 e1=>
 Qd l true (fun t1=>Qj prog .lss 3 t0 (.int .i64 4) fun t2=>t1 t2 e1) e1 fun t3 e2=>
 Qd l true (fun t4=>t4 t3 e2) e2 fun w e3=>
 Qd w false (fun t5=>t5 d e3) e3 fun t6 e4=>
 Qd w false (fun t7=>t7 a2 e4) e4 fun t8 e5=>
 Qd w false (fun t9=>Qj prog .geq 3 t6 t8 fun u0=>t9 u0 e5) e5 fun u1 e6=>
 Qd l true (fun u2=>Yh w (.bool true) u1 fun u3=>u2 u3 e6) e6 fun u4 e7=>
 Yh l u4 (.bool false) fun u5=>
 IfK u5
 (Q1 a fun u6=>
 Qf u6 1 fun u7=>
 StK e7 1 u7 (.bool true) fun u9=>
 v [] u9)
 (v [] e7)) fun v=>∀y:Qe,v [] y->
 QA (fun m=>
 Qf e 1 fun v0=>
 Qf v0 0 fun v1=>
 LdK y v1 fun v2=>
 Qj prog .leq 5 v2 (.int .u8 10) fun b0=>
 Qd b0 true (fun v3=>v3 d y) y fun v4 e8=>
 Qd b0 true (fun v5=>Qj prog .eql 3 v4 (.int .i64 0) fun v6=>v5 v6 e8) e8 fun v7 f=>
 Yh b0 v7 (.bool false) fun z=>
 IfK z
 (Qf e 1 fun v8=>
 Qf v8 0 fun v9=>
 LdK f v9 fun w0=>
 Qf e 8 fun w1=>
 LdK f w1 fun w2=>
 Qu z57.toList [(0,1,w0),(2,1,w2)] fun w3=>
 Qf j 1 fun w4=>
 StK f 7 w4 w3 fun w5=>
 m [z] w5)
 (Qj prog .eql 3 d (.int .i64 0) fun w6=>
 IfK w6
 (Qf e 1 fun w7=>
 LdN f 7 w7 fun w8=>
 Qa prog 50 #[w8] f fun w9 y0=>
 Qf j 1 fun y1=>
 StK y0 7 y1 w9 fun y2=>
 m [z] y2)
 (Qj prog .add 3 o d fun y3=>
 Qf e 1 fun y4=>
 LdN f 7 y4 fun y5=>
 Qa prog 160 #[a,y3,y5] f fun y6 y7=>
 Qf j 1 fun y8=>
 StK y7 7 y8 y6 fun y9=>
 m [z] y9))) fun m=>∀z0:Value,∀a0:Qe,m [z0] a0->
 Qf i 6 fun z1=>
 LdK a0 z1 fun z2=>
 LdN a0 9 j fun z3=>
 Q8 a0 107 1 (YY z107.toList 1) [(0,9,z3)] fun z4 z5=>
 Qbk z5 107 9 120 z107 z2 z4 fun z6 z7=>
 Qf i 6 fun z8=>
 StK z7 1 z8 z6 fun z9=>
 Qj prog .add 3 g (.int .i64 1) fun a00=>
 QQ d7 d8 [a00] z9)
 (a8 [] t)) fun a8=>∀b1:Qe,a8 [] b1->
 LdN b1 7 i fun a01=>
 StK b1 7 p a01 fun e9=>
 LdN e9 7 p fun a02=>
 R a02 e9)
theorem w47 {a b c h R} (H:s47 a b c h R):FnS prog 47 #[a,b,c] h R:=wq Tryz.func47 (by kernel_rfl) H
def s48 (b g:Value) (h:Qe) (R:Kn):Prop:=
 Qa prog 159 #[b,g,(.int .i64 4)] h fun c d=>
 Q1 b fun t=>
 Qf t 1 fun u=>
 LdK d u fun e=>
 Qd e false (fun v=>v c d) d fun w i=>
 Qd e false (fun y=>Qj prog .eql 31 w (.int .u64 0) fun z=>y z i) i fun a0 j=>
 Yh e (.bool true) a0 fun a=>
 Qd a false (fun a1=>a1 c j) j fun a2 l=>
 Qd a false (fun a3=>a3 b l) l fun a4 m=>
 Qd a false (fun a5=>Q1 a4 fun a6=>a5 a6 m) m fun a7 o=>
 Qd a false (fun a8=>Qf a7 0 fun a9=>a8 a9 o) o fun b0 f=>
 Qd a false (fun b1=>LdK f b0 fun b2=>b1 b2 f) f fun b3 p=>
 Qd a false (fun b4=>QbP b3 fun b5=>b4 b5 p) p fun b6 q=>
 Qd a false (fun b7=>QG .u64 b6 fun b8=>b7 b8 q) q fun b9 r=>
 Qd a false (fun c0=>Qj prog .gtr 31 a2 b9 fun c1=>c0 c1 r) r fun c2 s=>
 Yh a (.bool true) c2 fun c3=>
 IfK c3
 (Q1 b fun c4=>
 Qf c4 1 fun c5=>
 StK s 1 c5 (.bool true) fun c6=>
 R (.int .i64 0) c6)
 (QG .i64 c fun c7=>
 Qj prog .add 3 g c7 fun c8=>
 R c8 s)
theorem w48 {a b h R} (H:s48 a b h R):FnS prog 48 #[a,b] h R:=wq Tryz.func48 (by kernel_rfl) H
def s49 (g c d:Value) (h:Qe) (R:Kn):Prop:=
 Qj prog .eql 5 g (.int .u8 9) fun z=>
 IfK z
 (Qj prog .eql 31 c d fun a=>
 Qd a false (fun a0=>a0 c h) h fun a1 i=>
 Qd a false (fun a2=>Qj prog .shl 31 a1 (.int .u64 33) fun a3=>a2 a3 i) i fun a4 j=>
 Qd a false (fun a5=>Qj prog .eql 31 a4 (.int .u64 0) fun a6=>a5 a6 j) j fun a7 l=>
 Qd a false (fun a8=>a8 a7 l) l fun e m=>
 Qd e true (fun a9=>a9 d m) m fun b0 o=>
 Qd e true (fun b1=>Qj prog .shl 31 b0 (.int .u64 33) fun b2=>b1 b2 o) o fun b3 p=>
 Qd e true (fun b4=>Qj prog .eql 31 b3 (.int .u64 0) fun b5=>b4 b5 p) p fun b6 q=>
 Qd a false (fun b7=>Yh e b6 (.bool false) fun b8=>b7 b8 q) q fun b9 c0=>
 Yh a (.bool true) b9 fun c1=>
 R c1 c0)
 (Qj prog .eql 5 g (.int .u8 10) fun c2=>
 IfK c2
 (Qj prog .eql 31 c d fun b=>
 Qd b false (fun c3=>c3 c h) h fun c4 r=>
 Qd b false (fun c5=>Qj prog .shl 31 c4 (.int .u64 1) fun c6=>c5 c6 r) r fun c7 s=>
 Qd b false (fun c8=>Qj prog .eql 31 c7 (.int .u64 0) fun c9=>c8 c9 s) s fun d0 t=>
 Qd b false (fun d1=>d1 d0 t) t fun f u=>
 Qd f true (fun d2=>d2 d u) u fun d3 v=>
 Qd f true (fun d4=>Qj prog .shl 31 d3 (.int .u64 1) fun d5=>d4 d5 v) v fun d6 w=>
 Qd f true (fun d7=>Qj prog .eql 31 d6 (.int .u64 0) fun d8=>d7 d8 w) w fun d9 y=>
 Qd b false (fun e0=>Yh f d9 (.bool false) fun e1=>e0 e1 y) y fun e2 e3=>
 Yh b (.bool true) e2 fun e4=>
 R e4 e3)
 (Qj prog .eql 31 c d fun e5=>
 R e5 h))
theorem w49 {a b c h R} (H:s49 a b c h R):FnS prog 49 #[a,b,c] h R:=wq Tryz.func49 (by kernel_rfl) H
def s50 (e:Value) (h:Qe) (R:Kn):Prop:=
 Y8 h (.cells (Value.cells e) 57) fun b f=>
 Y8 f (.cells z57 57) fun c a=>
 Qf b 0 fun g=>
 LdK a g fun i=>
 Qf b 1 fun j=>
 LdK a j fun l=>
 Qu z57.toList [(0,1,i),(1,1,l)] fun m=>
 StK a 7 c m fun d=>
 LdN d 7 c fun o=>
 R o d
theorem w50 {a h R} (H:s50 a h R):FnS prog 50 #[a] h R:=wq Tryz.func50 (by kernel_rfl) H
def s52 (a:Value) (h:Qe) (R:Kn):Prop:=
 Qj prog .leq 3 a (.int .i64 50) fun b=>
 R b h
theorem w52 {a h R} (H:s52 a h R):FnS prog 52 #[a] h R:=wq Tryz.func52 (by kernel_rfl) H
def s53 (a b:Value) (h:Qe) (R:Kn):Prop:=
 Qa prog 161 #[a,b] h fun c d=>
 R c d
theorem w53 {a b h R} (H:s53 a b h R):FnS prog 53 #[a,b] h R:=wq Tryz.func53 (by kernel_rfl) H
def s54 (c6 o c7 c8:Value) (h:Qe) (R:Kn):Prop:=
 Y8 h (.cells (Value.cells c6) 26) fun a p=>
 Qf a 0 fun c9=>
 LdK p c9 fun d0=>
 Qj prog .gtr 5 d0 (.int .u8 3) fun d=>
 Qd d false (fun d1=>d1 o p) p fun d2 a0=>
 Qd d false (fun d3=>Zu prog (Op.unary .not d2) fun d4=>d3 d4 a0) a0 fun d5 a1=>
 Qd d false (fun d6=>d6 d5 a1) a1 fun f a2=>
 Qd f true (fun d7=>Qf a 0 fun d8=>d7 d8 a2) a2 fun d9 q=>
 Qd f true (fun e0=>LdK q d9 fun e1=>e0 e1 q) q fun e2 a3=>
 Qd f true (fun e3=>Qj prog .gtr 5 e2 (.int .u8 2) fun e4=>e3 e4 a3) a3 fun e5 a4=>
 Qd d false (fun e6=>Yh f e5 (.bool false) fun e7=>e6 e7 a4) a4 fun e8 a5=>
 Yh d (.bool true) e8 fun e=>
 Qd e false (fun e9=>Qf a 1 fun f0=>e9 f0 a5) a5 fun f1 r=>
 Qd e false (fun f2=>LdK r f1 fun f3=>f2 f3 r) r fun f4 a6=>
 Qd e false (fun f5=>Y1 f4 fun f6=>f5 f6 a6) a6 fun f7 a7=>
 Qd e false (fun f8=>Qj prog .gtr 3 f7 (.int .i64 1) fun f9=>f8 f9 a7) a7 fun g0 g=>
 Yh e (.bool true) g0 fun g1=>
 IfK g1
 (R (.bool false) g)
 (Qf a 0 fun g2=>
 LdK g g2 fun g3=>
 Qj prog .eql 5 g3 (.int .u8 1) fun i=>
 Qd i false (fun g4=>g4 o g) g fun g5 a8=>
 Qd i false (fun g6=>g6 g5 a8) a8 fun j a9=>
 Qd j true (fun g7=>Qf a 0 fun g8=>g7 g8 a9) a9 fun g9 s=>
 Qd j true (fun i0=>LdK s g9 fun i1=>i0 i1 s) s fun i2 b0=>
 Qd j true (fun i3=>Qj prog .gtr 5 i2 (.int .u8 0) fun i4=>i3 i4 b0) b0 fun i5 b1=>
 Qd i false (fun i6=>Yh j i5 (.bool false) fun i7=>i6 i7 b1) b1 fun i8 t=>
 Yh i (.bool true) i8 fun b2=>
 Qf a 1 fun i9=>
 LdK t i9 fun j0=>
 Y1 j0 fun j1=>
 Qj prog .eql 3 j1 (.int .i64 1) fun j2=>
 Qj prog .neq 4 j2 b2 fun c=>
 Qd c false (fun j3=>j3 o t) t fun j4 b3=>
 Qd c false (fun j5=>j5 j4 b3) b3 fun l b4=>
 Qd l false (fun j6=>Qf a 0 fun j7=>j6 j7 b4) b4 fun j8 u=>
 Qd l false (fun j9=>LdK u j8 fun l0=>j9 l0 u) u fun l1 b5=>
 Qd l false (fun l2=>Qj prog .neq 5 l1 (.int .u8 2) fun l3=>l2 l3 b5) b5 fun l4 b6=>
 Qd c false (fun l5=>Yh l (.bool true) l4 fun l6=>l5 l6 b6) b6 fun l7 b7=>
 Qd c false (fun l8=>l8 l7 b7) b7 fun m b8=>
 Qd m true (fun l9=>Qf a 2 fun m0=>l9 m0 b8) b8 fun m1 v=>
 Qd m true (fun m2=>LdK v m1 fun m3=>m2 m3 v) v fun m4 b9=>
 Qd m true (fun m5=>Qj prog .neq 5 m4 (.int .u8 0) fun m6=>m5 m6 b9) b9 fun m7 c0=>
 Qd c false (fun m8=>Yh m m7 (.bool false) fun m9=>m8 m9 c0) c0 fun o0 w=>
 Yh c (.bool true) o0 fun o1=>
 IfK o1
 (R (.bool false) w)
 (Zu prog (Op.unary .not b2) fun b=>
 Qd b false (fun o2=>Qf a 1 fun o3=>o2 o3 w) w fun o4 y=>
 Qd b false (fun o5=>LdK y o4 fun o6=>o5 o6 y) y fun o7 c1=>
 Qd b false (fun o8=>Y2 51 o7 (.int .i64 0) fun o9=>o8 o9 c1) c1 fun p0 z=>
 Qd b false (fun p1=>LdN z 51 p0 fun p2=>p1 p2 z) z fun p3 c2=>
 Qd b false (fun p4=>p4 c7 c2) c2 fun p5 c3=>
 Qd b false (fun p6=>p6 c8 c3) c3 fun p7 c4=>
 Qd b false (fun p8=>Qj prog .sub 3 p7 (.int .i64 1) fun p9=>p8 p9 c4) c4 fun q0 c5=>
 Qd b false (fun q1=>Qa prog 16 #[p3,p5,q0] c5 fun q2 q3=>q1 q2 q3) c5 fun q4 q5=>
 Yh b (.bool true) q4 fun q6=>
 R q6 q5))
theorem w54 {a b c d h R} (H:s54 a b c d h R):FnS prog 54 #[a,b,c,d] h R:=wq Tryz.func54 (by kernel_rfl) H
def s158 (a:Value) (h:Qe) (R:Kn):Prop:=
 QA (fun b=>
 Qj prog .eql 5 a (.int .u8 0) fun i=>
 IfK i
 (b [i] h)
 (Qj prog .eql 5 a (.int .u8 1) fun j=>
 IfK j
 (b [j] h)
 (Qj prog .eql 5 a (.int .u8 2) fun s=>
 b [s] h))) fun b=>∀l:Value,∀e:Qe,b [l] e->
 IfK l
 (R (.int .i64 1) e)
 (QA (fun f=>
 Qj prog .eql 5 a (.int .u8 3) fun m=>
 IfK m
 (f [m] e)
 (Qj prog .eql 5 a (.int .u8 4) fun t=>
 f [t] e)) fun f=>∀o:Value,∀c:Qe,f [o] c->
 IfK o
 (R (.int .i64 2) c)
 (QA (fun d=>
 Qj prog .eql 5 a (.int .u8 5) fun p=>
 IfK p
 (d [p] c)
 (Qj prog .eql 5 a (.int .u8 6) fun q=>
 IfK q
 (d [q] c)
 (Qj prog .eql 5 a (.int .u8 9) fun u=>
 d [u] c))) fun d=>∀r:Value,∀g:Qe,d [r] g->
 IfK r
 (R (.int .i64 4) g)
 (R (.int .i64 8) g)))
theorem w158 {a h R} (H:s158 a h R):FnS prog 158 #[a] h R:=wq Tryz.func158 (by kernel_rfl) H
def s159 (d b e:Value) (h:Qe) (R:Kn):Prop:=
 Qj prog .lss 3 b (.int .i64 0) fun a=>
 Qd a false (fun v=>v b h) h fun w i=>
 Qd a false (fun y=>y e i) i fun z j=>
 Qd a false (fun a0=>Qj prog .add 3 w z fun a1=>a0 a1 j) j fun a2 l=>
 Qd a false (fun a3=>a3 d l) l fun a4 m=>
 Qd a false (fun a5=>Q1 a4 fun a6=>a5 a6 m) m fun a7 o=>
 Qd a false (fun a8=>Qf a7 0 fun a9=>a8 a9 o) o fun b0 f=>
 Qd a false (fun b1=>LdK f b0 fun b2=>b1 b2 f) f fun b3 p=>
 Qd a false (fun b4=>QbP b3 fun b5=>b4 b5 p) p fun b6 q=>
 Qd a false (fun b7=>Qj prog .gtr 3 a2 b6 fun b8=>b7 b8 q) q fun b9 r=>
 Yh a (.bool true) b9 fun c=>
 Qd c false (fun c0=>c0 b r) r fun c1 s=>
 Qd c false (fun c2=>c2 e s) s fun c3 t=>
 Qd c false (fun c4=>Qj prog .rem 3 c1 c3 fun c5=>c4 c5 t) t fun c6 u=>
 Qd c false (fun c7=>Qj prog .neq 3 c6 (.int .i64 0) fun c8=>c7 c8 u) u fun c9 g=>
 Yh c (.bool true) c9 fun d0=>
 IfK d0
 (Q1 d fun d1=>
 Qf d1 1 fun d2=>
 StK g 1 d2 (.bool true) fun d3=>
 R (.int .u64 0) d3)
 (Q1 d fun d4=>
 Qf d4 0 fun d5=>
 LdK g d5 fun d6=>
 Qj prog .add 3 b e fun d7=>
 StrSlcK d6 (some b) (some d7) fun d8=>
 Qa prog 286 #[d8] g fun d9 e0=>
 R d9 e0)
theorem w159 {a b c h R} (H:s159 a b c h R):FnS prog 159 #[a,b,c] h R:=wq Tryz.func159 (by kernel_rfl) H
def s160 (a v g0:Value) (h:Qe) (R:Kn):Prop:=
 Y8 h (.cells (Value.cells g0) 57) fun b g1=>
 Y8 g1 (.cells z57 57) fun e j=>
 Q1 a fun g2=>
 Qf g2 1 fun g3=>
 LdK j g3 fun g4=>
 IfK g4
 (Qf b 0 fun g5=>
 LdK j g5 fun g6=>
 Qf b 1 fun g7=>
 LdK j g7 fun g8=>
 Qu z57.toList [(0,1,g6),(1,1,g8)] fun g9=>
 StK j 7 e g9 fun c0=>
 LdN c0 7 e fun i0=>
 R i0 c0)
 (Qf b 0 fun i1=>
 LdK j i1 fun i2=>
 Qf b 1 fun i3=>
 LdK j i3 fun i4=>
 Qu z57.toList [(0,1,i2),(1,1,i4)] fun i5=>
 Y8 j (.cells z57 57) fun c i6=>
 StK i6 7 c i5 fun f=>
 QA (fun a5=>
 Qf b 0 fun i7=>
 LdK f i7 fun l=>
 Qj prog .eql 5 l (.int .u8 17) fun c1=>
 IfK c1
 (QA (fun z=>
 Qf b 1 fun i8=>
 LdK f i8 fun i9=>
 QG .i64 i9 fun j0=>
 Qj prog .rem 3 v j0 fun j1=>
 Qj prog .neq 3 j1 (.int .i64 0) fun j2=>
 IfK j2
 (Q1 a fun j3=>
 Qf j3 1 fun j4=>
 StK f 1 j4 (.bool true) fun j5=>
 z [] j5)
 (z [] f)) fun z=>∀a6:Qe,z [] a6->
 Qf b 3 fun j6=>
 LdK a6 j6 fun j7=>
 QbP j7 fun j8=>
 Qa prog 287 #[a,v,j8] a6 fun j9 l0=>
 Qf c 3 fun l1=>
 StK l0 1 l1 j9 fun c2=>
 LdN c2 7 c fun l2=>
 StK c2 7 e l2 fun c3=>
 LdN c3 7 e fun l3=>
 R l3 c3)
 (QA (fun m=>
 Qj prog .eql 5 l (.int .u8 11) fun c4=>
 IfK c4
 (m [c4] f)
 (Qj prog .eql 5 l (.int .u8 12) fun c5=>
 IfK c5
 (m [c5] f)
 (Qj prog .eql 5 l (.int .u8 13) fun c6=>
 IfK c6
 (m [c6] f)
 (Qj prog .eql 5 l (.int .u8 14) fun c7=>
 IfK c7
 (m [c7] f)
 (Qj prog .eql 5 l (.int .u8 16) fun l4=>
 m [l4] f))))) fun m=>∀a7:Value,∀s:Qe,m [a7] s->
 IfK a7
 (Qa prog 48 #[a,v] s fun o l5=>
 Qa prog 159 #[a,o,(.int .i64 4)] l5 fun l6 a8=>
 QG .i64 l6 fun t=>
 Q1 a fun l7=>
 Qf l7 1 fun l8=>
 LdK a8 l8 fun g=>
 Qd g false (fun l9=>l9 t a8) a8 fun m0 c8=>
 Qd g false (fun m1=>m1 a c8) c8 fun m2 c9=>
 Qd g false (fun m3=>Q1 m2 fun m4=>m3 m4 c9) c9 fun m5 d0=>
 Qd g false (fun m6=>Qf m5 0 fun m7=>m6 m7 d0) d0 fun m8 a9=>
 Qd g false (fun m9=>LdK a9 m8 fun o0=>m9 o0 a9) a9 fun o1 d1=>
 Qd g false (fun o2=>QbP o1 fun o3=>o2 o3 d1) d1 fun o4 d2=>
 Qd g false (fun o5=>Qj prog .gtr 3 m0 o4 fun o6=>o5 o6 d2) d2 fun o7 p=>
 Yh g (.bool true) o7 fun o8=>
 IfK o8
 (Q1 a fun o9=>
 Qf o9 1 fun p0=>
 StK p 1 p0 (.bool true) fun d3=>
 LdN d3 7 c fun p1=>
 StK d3 7 e p1 fun d4=>
 LdN d4 7 e fun p2=>
 R p2 d4)
 (QA (fun q=>
 Qf b 0 fun p3=>
 LdK p p3 fun b0=>
 Qj prog .eql 5 b0 (.int .u8 11) fun u=>
 IfK u
 (Qj prog .add 3 o (.int .i64 4) fun p4=>
 Qa prog 287 #[a,p4,t] p fun p5 p6=>
 Qf c 3 fun p7=>
 StK p6 1 p7 p5 fun b1=>
 Q1 a fun p8=>
 Qf p8 1 fun p9=>
 LdK b1 p9 fun i=>
 Qd i false (fun q0=>q0 a b1) b1 fun q1 d5=>
 Qd i false (fun q2=>q2 o d5) d5 fun q3 d6=>
 Qd i false (fun q4=>Qj prog .add 3 q3 (.int .i64 4) fun q5=>q4 q5 d6) d6 fun q6 d7=>
 Qd i false (fun q7=>q7 t d7) d7 fun q8 d8=>
 Qd i false (fun q9=>Qj prog .add 3 q6 q8 fun r0=>q9 r0 d8) d8 fun r2 d9=>
 Qd i false (fun r3=>Qa prog 287 #[q1,r2,(.int .i64 1)] d9 fun r5 r6=>r3 r5 r6) d9 fun r7 e0=>
 Qd i false (fun r8=>Qj prog .neq 9 r7 (.string ⟨#[0]⟩) fun r9=>r8 r9 e0) e0 fun s0 s1=>
 Yh i (.bool true) s0 fun s2=>
 Q1 a fun s3=>
 Qf s3 1 fun s4=>
 StK s1 1 s4 s2 fun s5=>
 q [u] s5)
 (Qj prog .eql 5 b0 (.int .u8 12) fun s6=>
 IfK s6
 (Qj prog .add 3 o (.int .i64 4) fun s7=>
 Qa prog 287 #[a,s7,t] p fun s8 s9=>
 Qf c 3 fun t0=>
 StK s9 1 t0 s8 fun t1=>
 q [u] t1)
 (Qj prog .eql 5 b0 (.int .u8 13) fun t2=>
 IfK t2
 (Qf b 1 fun t3=>
 LdK p t3 fun t4=>
 Qa prog 158 #[t4] p fun e1 t5=>
 Yu [(.int .i64 0)] t5 fun e2 e3=>∀a0:Value,∀w:Qe,e2 e3 [a0] w->
 Qj prog .lss 3 a0 t fun t6=>
 IfK t6
 (Qf c 4 fun t7=>
 LdK w t7 fun t8=>
 Qj prog .add 3 o (.int .i64 4) fun t9=>
 Qj prog .mul 3 e1 a0 fun u0=>
 Qj prog .add 3 t9 u0 fun u1=>
 Qa prog 159 #[a,u1,e1] w fun u2 b2=>
 Qh w b2<|
 Q8 b2 31 1 (YY z31.toList 1) [(0,1,u2)] fun u3 e4=>
 Qh b2 e4<|
 Qbk e4 31 1 8 z31 t8 u3 fun u4 u5=>
 Qf c 4 fun u6=>
 StK u5 1 u6 u4 fun u7=>
 Qj prog .add 3 a0 (.int .i64 1) fun u9=>
 QQ e2 e3 [u9] u7)
 (q [u] w))
 (Qu z57.toList [(0,1,(.int .u8 11))] fun v0=>
 Y8 p (.cells z57 57) fun a1 v1=>
 StK v1 7 a1 v0 fun b3=>
 QA (fun a2=>
 Qf b 0 fun v2=>
 LdK b3 v2 fun v3=>
 Qj prog .eql 5 v3 (.int .u8 16) fun y=>
 Qd y true (fun v4=>Qf b 5 fun v5=>v4 v5 b3) b3 fun v6 b4=>
 Qd y true (fun v7=>LdK b4 v6 fun v8=>v7 v8 b4) b4 fun v9 e5=>
 Qd y true (fun w0=>Y1 v9 fun w1=>w0 w1 e5) e5 fun w2 e6=>
 Qd y true (fun w3=>Qj prog .gtr 3 w2 (.int .i64 0) fun w4=>w3 w4 e6) e6 fun w5 a3=>
 Yh y w5 (.bool false) fun w6=>
 IfK w6
 (Qf b 5 fun w7=>
 LdK a3 w7 fun w8=>
 Y2 7 w8 (.int .i64 0) fun w9=>
 LdN a3 7 w9 fun y0=>
 StK a3 7 a1 y0 fun y1=>
 a2 [] y1)
 (a2 [] a3)) fun a2=>∀e7:Qe,a2 [] e7->
 Yu [(.int .i64 0)] e7 fun e8 e9=>∀r:Value,∀d:Qe,e8 e9 [r] d->
 Qj prog .lss 3 r t fun y2=>
 IfK y2
 (QA (fun a4=>
 Q1 a fun y3=>
 Qf y3 1 fun y4=>
 LdK d y4 fun y5=>
 IfK y5
 (q [u] d)
 (Qf b 0 fun y6=>
 LdK d y6 fun y7=>
 Qj prog .eql 5 y7 (.int .u8 14) fun y8=>
 IfK y8
 (Qf c 5 fun y9=>
 LdK d y9 fun z0=>
 Qj prog .add 3 o (.int .i64 4) fun z1=>
 Qj prog .mul 3 (.int .i64 4) r fun z2=>
 Qj prog .add 3 z1 z2 fun z3=>
 LdN d 7 a1 fun z4=>
 Qa prog 160 #[a,z3,z4] d fun z5 b5=>
 Qh d b5<|
 Q8 b5 57 1 (YY z57.toList 1) [(0,7,z5)] fun z6 f0=>
 Qh b5 f0<|
 Qbk f0 57 7 104 z57 z0 z6 fun z7 z8=>
 Qf c 5 fun z9=>
 StK z8 1 z9 z7 fun a00=>
 a4 [r] a00)
 (Qf c 5 fun a01=>
 LdK d a01 fun a02=>
 Qj prog .add 3 o (.int .i64 4) fun a03=>
 Qj prog .mul 3 (.int .i64 4) r fun a04=>
 Qj prog .add 3 a03 a04 fun a05=>
 LdN d 7 a1 fun a06=>
 Qa prog 48 #[a,a05] d fun a07 b6=>
 Qh d b6<|
 Qa prog 47 #[a,a07,a06] b6 fun a08 b7=>
 Qh b6 b7<|
 Q8 b7 57 1 (YY z57.toList 1) [(0,7,a08)] fun a09 f1=>
 Qh b7 f1<|
 Qbk f1 57 7 104 z57 a02 a09 fun a10 a11=>
 Qf c 5 fun a12=>
 StK a11 1 a12 a10 fun a13=>
 a4 [r] a13))) fun a4=>∀a14:Value,∀f2:Qe,a4 [a14] f2->
 Qj prog .add 3 r (.int .i64 1) fun a15=>
 QQ e8 e9 [a15] f2)
 (q [u] d))))) fun q=>∀a16:Value,∀b8:Qe,q [a16] b8->
 LdN b8 7 c fun a17=>
 StK b8 7 e a17 fun f3=>
 LdN f3 7 e fun a18=>
 R a18 f3))
 (Qj prog .eql 5 l (.int .u8 15) fun f4=>
 IfK f4
 (LdN s 7 b fun a19=>
 Qa prog 48 #[a,v] s fun a20 f5=>
 Qh s f5<|
 Qa prog 47 #[a,a20,a19] f5 fun a21 a22=>
 StK a22 7 e a21 fun f6=>
 LdN f6 7 e fun a23=>
 R a23 f6)
 (a5 [c1,a7,f4,v] s)))) fun a5=>∀a24 a25 a26 f7:Value,∀b9:Qe,a5 [a24,a25,a26,f7] b9->
 Qf b 0 fun a27=>
 LdK b9 a27 fun a28=>
 Qa prog 158 #[a28] b9 fun a29 a30=>
 Qa prog 159 #[a,f7,a29] a30 fun a31 a32=>
 Qf c 2 fun a33=>
 StK a32 1 a33 a31 fun f8=>
 LdN f8 7 c fun a34=>
 StK f8 7 e a34 fun f9=>
 LdN f9 7 e fun a35=>
 R a35 f9)
theorem w160 {a b c h R} (H:s160 a b c h R):FnS prog 160 #[a,b,c] h R:=wq Tryz.func160 (by kernel_rfl) H
def s161 (d b:Value) (h:Qe) (R:Kn):Prop:=
 Qj prog .eql 5 d (.int .u8 0) fun a1=>
 IfK a1
 (Qj prog .leq 31 b (.int .u64 1) fun a2=>
 R a2 h)
 (Qj prog .eql 5 d (.int .u8 9) fun a3=>
 IfK a3
 (Qj prog .lss 31 b (.int .u64 4294967296) fun a=>
 Qd a true (fun a4=>a4 b h) h fun a5 g=>
 Qd a true (fun a6=>Qj prog .shr 31 a5 (.int .u64 23) fun a7=>a6 a7 g) g fun a8 i=>
 Qd a true (fun a9=>Qj prog .and 31 a8 (.int .u64 255) fun b0=>a9 b0 i) i fun b1 j=>
 Qd a true (fun b2=>Qj prog .eql 31 b1 (.int .u64 255) fun b3=>b2 b3 j) j fun b4 l=>
 Qd a true (fun b5=>b5 b4 l) l fun e m=>
 Qd e true (fun b6=>b6 b m) m fun b7 o=>
 Qd e true (fun b8=>Qj prog .and 31 b7 (.int .u64 8388607) fun b9=>b8 b9 o) o fun c0 p=>
 Qd e true (fun c1=>Qj prog .neq 31 c0 (.int .u64 0) fun c2=>c1 c2 p) p fun c3 q=>
 Qd a true (fun c4=>Yh e c3 (.bool false) fun c5=>c4 c5 q) q fun c6 r=>
 Qd a true (fun c7=>Zu prog (Op.unary .not c6) fun c8=>c7 c8 r) r fun c9 d0=>
 Yh a c9 (.bool false) fun d1=>
 R d1 d0)
 (Qj prog .eql 5 d (.int .u8 10) fun d2=>
 IfK d2
 (Qj prog .shr 31 b (.int .u64 52) fun d3=>
 Qj prog .and 31 d3 (.int .u64 2047) fun d4=>
 Qj prog .eql 31 d4 (.int .u64 2047) fun f=>
 Qd f true (fun d5=>d5 b h) h fun d6 s=>
 Qd f true (fun d7=>Qj prog .and 31 d6 (.int .u64 4503599627370495) fun d8=>d7 d8 s) s fun d9 t=>
 Qd f true (fun e0=>Qj prog .neq 31 d9 (.int .u64 0) fun e1=>e0 e1 t) t fun e2 e3=>
 Yh f e2 (.bool false) fun e4=>
 Zu prog (Op.unary .not e4) fun e5=>
 R e5 e3)
 (Qa prog 158 #[d] h fun e6 u=>
 Qj prog .eql 3 e6 (.int .i64 8) fun c=>
 Qd c false (fun e7=>e7 b u) u fun e8 v=>
 Qd c false (fun e9=>e9 d v) v fun f0 w=>
 Qd c false (fun f1=>Qa prog 158 #[f0] w fun f2 f3=>f1 f2 f3) w fun f4 y=>
 Qd c false (fun f5=>Qj prog .mul 3 (.int .i64 8) f4 fun f6=>f5 f6 y) y fun f7 z=>
 Qd c false (fun f8=>Qj prog .shl 31 (.int .u64 1) f7 fun f9=>f8 f9 z) z fun g0 a0=>
 Qd c false (fun g1=>Qj prog .lss 31 e8 g0 fun g2=>g1 g2 a0) a0 fun g3 g4=>
 Yh c (.bool true) g3 fun g5=>
 R g5 g4)))
theorem w161 {a b h R} (H:s161 a b h R):FnS prog 161 #[a,b] h R:=wq Tryz.func161 (by kernel_rfl) H
def s286 (e:Value) (h:Qe) (R:Kn):Prop:=
 QA (fun b=>
 QbP e fun l=>
 Yu [(.int .i64 0),(.int .u64 0)] h fun f g=>∀a c:Value,∀d:Qe,f g [a,c] d->
 Qj prog .lss 3 a l fun m=>
 IfK m
 (Zu prog (Instr.index 9 e a) fun o=>
 QG .u64 o fun p=>
 Qj prog .mul 3 (.int .i64 8) a fun q=>
 Qj prog .shl 31 p q fun r=>
 Qj prog .or 31 c r fun s=>
 Qj prog .add 3 a (.int .i64 1) fun t=>
 QQ f g [t,s] d)
 (b [c] d)) fun b=>∀i:Value,∀j:Qe,b [i] j->
 R i j
theorem w286 {a h R} (H:s286 a h R):FnS prog 286 #[a] h R:=wq Tryz.func286 (by kernel_rfl) H
def s287 (c d e:Value) (h:Qe) (R:Kn):Prop:=
 Q1 c fun a5=>
 Qf a5 1 fun a6=>
 LdK h a6 fun f=>
 Qd f false (fun a7=>a7 d h) h fun a8 m=>
 Qd f false (fun a9=>Qj prog .lss 3 a8 (.int .i64 0) fun b0=>a9 b0 m) m fun b1 o=>
 Yh f (.bool true) b1 fun g=>
 Qd g false (fun b2=>b2 e o) o fun b3 p=>
 Qd g false (fun b4=>Qj prog .lss 3 b3 (.int .i64 0) fun b5=>b4 b5 p) p fun b6 q=>
 Yh g (.bool true) b6 fun b=>
 Qd b false (fun b7=>b7 e q) q fun b8 r=>
 Qd b false (fun b9=>b9 c r) r fun c0 s=>
 Qd b false (fun c1=>Q1 c0 fun c2=>c1 c2 s) s fun c3 t=>
 Qd b false (fun c4=>Qf c3 0 fun c5=>c4 c5 t) t fun c6 i=>
 Qd b false (fun c7=>LdK i c6 fun c8=>c7 c8 i) i fun c9 u=>
 Qd b false (fun d0=>QbP c9 fun d1=>d0 d1 u) u fun d2 v=>
 Qd b false (fun d3=>Qj prog .gtr 3 b8 d2 fun d4=>d3 d4 v) v fun d5 w=>
 Yh b (.bool true) d5 fun a=>
 Qd a false (fun d6=>d6 d w) w fun d7 y=>
 Qd a false (fun d8=>d8 e y) y fun d9 z=>
 Qd a false (fun e0=>Qj prog .add 3 d7 d9 fun e1=>e0 e1 z) z fun e2 a0=>
 Qd a false (fun e3=>e3 c a0) a0 fun e4 a1=>
 Qd a false (fun e5=>Q1 e4 fun e6=>e5 e6 a1) a1 fun e7 a2=>
 Qd a false (fun e8=>Qf e7 0 fun e9=>e8 e9 a2) a2 fun f0 j=>
 Qd a false (fun f1=>LdK j f0 fun f2=>f1 f2 j) j fun f3 a3=>
 Qd a false (fun f4=>QbP f3 fun f5=>f4 f5 a3) a3 fun f6 a4=>
 Qd a false (fun f7=>Qj prog .gtr 3 e2 f6 fun f8=>f7 f8 a4) a4 fun f9 l=>
 Yh a (.bool true) f9 fun g0=>
 IfK g0
 (Q1 c fun g1=>
 Qf g1 1 fun g2=>
 StK l 1 g2 (.bool true) fun g3=>
 R (.string ⟨#[]⟩) g3)
 (Q1 c fun g4=>
 Qf g4 0 fun g5=>
 LdK l g5 fun g6=>
 Qj prog .add 3 d e fun g7=>
 StrSlcK g6 (some d) (some g7) fun g8=>
 R g8 l)
theorem w287 {a b c h R} (H:s287 a b c h R):FnS prog 287 #[a,b,c] h R:=wq Tryz.func287 (by kernel_rfl) H
end Go.Proofs
namespace Go.Proofs
open Go Go.Vc
open Tryz (prog)
def fOk (P:Program) (ks:List Bool) (f:Field):Bool:=
 P.plainKey f.type&&(match P.underlying f.type,ks[f.offset]? with|some (.int _),some true=>true|some .string,some false=>true|_,_=>false)
theorem eqF {P:Program} {d:Nat} {xs:Array Value} {ks:List Bool} (hx:∀i:Nat,ks[i]?=some true->∃k n,xs[i]?=some (.int k n)) (hs:∀i:Nat,ks[i]?=some false->∃s,xs[i]?=some (.string s)) (w:World):
  ∀fs:List Field,fs.all (fOk P ks)=true->(Op.eqFields (d+1) xs xs fs).run P w= .ok true w
 |[],_=>rfl
 |f::fs,h=>by
  rw[List.all_cons,Bool.and_eq_true]at h
  obtain ⟨h1,h2⟩:=h
  have ih:=eqF (d:=d) hx hs w fs h2
  unfold Op.eqFields
  split
  ·unfold fOk at h1
   rw[Bool.and_eq_true]at h1
   obtain ⟨hp,h1⟩:=h1
   split at h1
   ·rename_i k hu hk
    obtain ⟨k',n,hv⟩:=hx _ hk
    simp only[Sem.run_bind,run_part_plain w hp hv,Result.andThen_ok,run_equalIn_int w d f.type k' k n n hu]
    simpa using ih
   ·rename_i hu hk
    obtain ⟨s,hv⟩:=hs _ hk
    simp only[Sem.run_bind,run_part_plain w hp hv,Result.andThen_ok,run_equalIn_string w d f.type s s hu]
    simpa using ih
   ·cases h1
  ·exact ih
theorem BinK_agg_neq {P:Program} {T:TypeId} {xs:Array Value} {ks:List Bool} (h1:P.eqGuardType P.depth T=false) (h2:P.underlying T=some (.struct (P.fieldsOf T))) (h3:P.stoodInHeld T=false) (h4:(P.fieldsOf T).toList.all (fOk P ks)=true)
  (hx:∀i:Nat,ks[i]?=some true->∃k n,xs[i]?=some (.int k n)) (hs:∀i:Nat,ks[i]?=some false->∃s,xs[i]?=some (.string s)) {k:Value->Prop}:Qj P .neq T (.agg xs) (.agg xs) k=k (.bool false):=by
 refine Qgw fun ox oy w=>?_
 simp only[Sem.run_bind,run_eqGuard_agg w .neq T ox oy xs xs h1,Result.andThen_ok,run_neq_struct,run_equalIn_agg w 9999 T xs xs h2 h3,eqF (d:=9998) hx hs w _ h4]
 rfl
theorem QdD {cs:Array Value} {o:Nat} {v:Value} (h:(cs.toList.drop o).take 1=[v]):cs[o]?=some v:=by
 have h5:((cs.toList.drop o).take 1)[0]?=some v:=by rw[h];rfl
 rw[List.getElem?_take]at h5
 have:cs.toList[o]?=some v:=by simpa using h5
 simpa using this
section
variable {H0:Qe} {G:Cut} {H:Qe} {q2 q3:Nat} {c1 c2:List Value} {t1 t2:TypeId} (o1:Yo H0 G H q2 (.cells c1.toArray t1 (0,0))) (o2:Yo H0 G H q3 (.cells c2.toArray t2 (0,0)))
include o1 o2
end
theorem eq_int {P:Program} {t:TypeId} {κ:IntKind} {a:Int} (k:Value->Prop):Qj P .eql t (.int κ a) (.int κ a) k=k (.bool true):=by rw[Yi,decide_eq_true rfl]
theorem eq_str {P:Program} {t:TypeId} {a:ByteArray} (k:Value->Prop):Qj P .eql t (.string a) (.string a) k=k (.bool true):=by
 rw[BinK_streq]
 have:(a.toList==a.toList)=true:=by simp
 rw[this]
def negZ (x:UInt32):UInt32:=if x=2147483648 then 0 else x
mutual
def read0:GM->GM
 |.mk d pos empty tables enemy test uniq amb=>.mk {d with f3:=negZ d.f3} pos empty (Qdy tables) (Qdy enemy) (Qdy test) (Qdy uniq) (Qdy amb)
def Qdy:List GM->List GM
 |[]=>[]
 |g::gs=>read0 g::Qdy gs
end
theorem read0s_map:∀gs,Qdy gs=gs.map read0
 |[]=>by rw[Qdy];rfl
 |g::gs=>by rw[Qdy,read0s_map gs];rfl
section
variable {G0:Cut} {H0:Qe} {t:TypeId} {ob:Obj} {q2 q3:Nat} {G:Cut} {H:Qe} {cells:List Value} (rs:RS G0 H0 t ob q2 q3 G H cells)
include rs
end
theorem QfQ.one {F:Cut} {gs:List GM} {v:Value} (h:QfQ F gs v):v.oneCell'=true:=by
 obtain ⟨i,s,_⟩:=h
 exact s.one
end Go.Proofs
namespace Go.Proofs
open Go Go.Vc
open Tryz (prog)
theorem Z2 {H:Qe} {w:Bool} {op:(Kn)->Prop} {kh:Kn}:Qd undef w op H kh=kh undef H:=by
 cases w<;>exact propext ⟨fun h=>h.ok,fun h=>⟨h⟩⟩
theorem scalar_ok {kind:Int} (hk:kind=9\/kind=10) {n:Int} {H:Qe} {R:Kn} (hR:∀b:Bool,R (.bool b) H):FnS prog 161 #[.int .u8 kind,.int .u64 n] H R:=by
 apply w161
 unfold s161
 rw[Yi,Yb (by omega),Yi]
 rcases hk with rfl|rfl
 ·rw[Yj rfl,Yw]
  generalize decide (n<(4294967296:Int))=b1
  cases b1
  ·simp only[Yz,Yv,Z2]
   exact hR _
  ·simp only[Ye,Ze (show (0:Int)<=23 by decide),QfL,Yi]
   generalize decide (QaS .and .u64 _ _=(255:Int))=b2
   cases b2
   ·simp only[Yz,Ye,Yv,Y4,Yn]
    exact hR _
   ·simp only[Ye,Y4,Yn,QfL,Y5]
    exact hR _
 ·rw[Yb (by decide),Yi,Yj rfl,Ze (by decide),QfL,Yi]
  generalize decide (QaS .and .u64 _ _=(2047:Int))=b2
  cases b2
  ·simp only[Yz,Yv,Yn]
   exact hR _
  ·simp only[Ye,Y4,Yn,QfL,Y5]
   exact hR _
theorem QhH {kind:Int} (hk:kind=9\/kind=10) {n:Int} {H:Qe} {R:Kn} (hR:∀b:Bool,R (.bool b) H):FnS prog 53 #[.int .u8 kind,.int .u64 n] H R:=by
 apply w53
 unfold s53
 exact scalar_ok hk hR
theorem list_ok {n:Int} {H:Qe} {R:Kn} (hR:R (.bool (decide (n<=50))) H):FnS prog 52 #[.int .i64 n] H R:=by
 apply w52
 unfold s52
 rw[Qep]
 exact hR
section
variable {H0:Qe} {G:Cut} {H:Qe} {q:Nat} {cells:List Value} {T:TypeId} (o:Yo H0 G H q (.cells cells.toArray T (0,0)))
include o
theorem Qcl {P:Program} {t:TypeId} {i:Nat} {v:Value} {n:Nat} {m:Int} (hi:cells[i]?=some v) (hl:∀k:Value->Prop,Y1 v k=k (.int .i64 n)) {X Y:Prop} (hX:X) (hY:Y):
  Qf (ptr q) i fun a=>LdK H a fun s=>Y1 s fun y=>Qj P .gtr t y (.int .i64 m) fun c=>IfK c X Y:=by
 refine QD o hi ?_
 rw[hl,Z3]
 exact Z0 (fun _=>hX) fun _=>hY
theorem QiJ {P:Program} {t:TypeId} {i:Nat} {s:List UInt8} {m:Int} (hi:cells[i]?=some (QW s)) {X Y:Prop} (hX:X) (hY:Y):
  Qf (ptr q) i fun a=>LdK H a fun s=>QbP s fun y=>Qj P .gtr t y (.int .i64 m) fun c=>IfK c X Y:=by
 refine QD o hi ?_
 rw[QW,Qaf,Z3]
 exact Z0 (fun _=>hX) fun _=>hY
end
theorem fits4_ok {G:Cut} {H:Qe} (hG:G.In H) {l:List (List UInt8)} {v:Value} (hs:SlV G 1 v (l.map Qhd)) {R:Kn} (hR:∀b:Bool,R (.bool b) H):FnS prog 14 #[v] H R:=by
 apply w14
 unfold s14
 rw[hs.len,Z3,List.length_map]
 refine Z0 (fun _=>hR false) fun hl=>?_
 refine Q2 (fun _ h=>h=H) ?_ (fun _ h he=>by rw[he];exact hR true)
 rw[hs.len,List.length_map]
 refine ⟨fun m vs H'=>∃i y,vs=[.int .i64 (i:Nat),y]/\i+m=l.length/\H'=H,⟨l.length,0,_,rfl,by omega,rfl⟩,?_⟩
 rintro m x y H' ⟨i,y',hx,him,e⟩
 cases hx
 subst e
 rw[Yw]
 by_cases hlt:i<l.length
 ·have ha:=List.getElem?_eq_getElem hlt
  rw[Yj (by omega)]
  obtain ⟨b,o,cs,e',fr,g1,g2,g3,g4⟩:=hs.idx hG (i:=i) rfl (it:=Qhd l[i]) (by rw[List.getElem?_map,ha];rfl)
  rw[g1,Ql ((Qk g2).trans (QdD g4)),QW,Qaf,Z3]
  refine Z0 (fun _=>hR false) fun _=>?_
  rw[Q5,wrap_i64 (by omega) (by omega)]
  exact ⟨m-1,by omega,i+1,y,by simp,by omega,rfl⟩
 ·rw[Yb (by omega)]
theorem fits6_ok {G:Cut} {H:Qe} (hG:G.In H) {t:ZU} {R:Kn} (hR:∀(b:Bool) H',Ext G H G H'->R (.bool b) H'):FnS prog 51 #[.agg (Zn t).toArray] H R:=by
 apply w51
 unfold s51
 rw[Qx]
 have e:=Ext.refl hG
 have o1:Yo H G (H.push (.cells (Value.agg (Zn t).toArray).cells 95)) H.size (.cells (Zn t).toArray 95 (0,0)):=Yo.fresh e _
 have e:=e.push (.cells (Value.agg (Zn t).toArray).cells 95)
 exact QiJ o1 (i:=0) (s:=t.id) rfl (hR _ _ e) (hR _ _ e)
theorem fits5_ok {G:Cut} {H:Qe} (hG:G.In H) {l:List ZU} {v:Value} (hs:SlV G 3 v (l.map Zn)) {R:Kn} (hR:∀(b:Bool) H',Ext G H G H'->R (.bool b) H'):FnS prog 15 #[v] H R:=by
 apply w15
 unfold s15
 have e:=Ext.refl hG
 rw[hs.len,Z3,List.length_map]
 refine Z0 (fun _=>hR _ _ e) fun hl=>?_
 refine Q2 (fun _ h=>Ext G H G h) ?_ (fun _ h he=>hR _ _ he)
 rw[hs.len,List.length_map]
 refine ⟨fun m vs H'=>∃i y,vs=[.int .i64 (i:Nat),y]/\i+m=l.length/\Ext G H G H',⟨l.length,0,_,rfl,by omega,e⟩,?_⟩
 rintro m x y H' ⟨i,y',hx,him,e⟩
 cases hx
 rw[Yw]
 by_cases hlt:i<l.length
 ·have ha:=List.getElem?_eq_getElem hlt
  rw[Yj (by omega)]
  have hone:∀x∈Zn l[i],x.oneCell'=true:=fun x hx=>by
   simp[Zn]at hx
   rcases hx with rfl|rfl|rfl<;>rfl
  refine Qab hs e.inn (i:=i) (it:=Zn l[i]) (by rw[List.getElem?_map,ha];rfl) ?_
  refine cp_ok (es:=3) (it:=Zn l[i]) rfl (by decide) rfl hone ?_
  have e1:=e.push (.cells (Zn l[i]).toArray 95 (0,0))
  generalize H'.push (.cells (Zn l[i]).toArray 95 (0,0))=H2 at *
  refine fits6_ok e1.inn fun b H3 e3=>?_
  rw[Yn]
  refine Yt (fun _=>hR _ _ (e1.trans e3)) fun _=>?_
  rw[Q5,wrap_i64 (by omega) (by omega)]
  exact ⟨m-1,by omega,i+1,y,by simp,by omega,e1.trans e3⟩
 ·rw[Yb (by omega)]
  exact e
set_option maxRecDepth 8000 in
theorem fits3_ok {G:Cut} {H:Qe} (hG:G.In H) {g:GM} {cells:List Value} (hv:QcX G g cells) {R:Kn} (hR:∀(b:Bool) H',Ext G H G H'->R (.bool b) H'):FnS prog 4 #[.agg cells.toArray] H R:=by
 cases g with
 |mk d pos empty tables enemy test uniq amb=>
 rw[QcX]at hv
 obtain ⟨c,rfl,g,⟨i1,w1,_⟩,⟨i2,w2,_⟩,_⟩:=hv
 apply w4
 unfold s4
 rw[Qx]
 have e:=Ext.refl hG
 have o:Yo H G (H.push (.cells (Value.agg (YK d c).toArray).cells 38)) H.size (.cells (YK d c).toArray 38 (0,0)):=Yo.fresh e _
 have e:=e.push (.cells (Value.agg (YK d c).toArray).cells 38)
 generalize H.push (.cells (Value.agg (YK d c).toArray).cells 38)=H1 at *
 refine Qcl o (i:=0) (v:=c.pos) rfl (fun k=>g.pos.len) (hR _ _ e) ?_
 refine QiJ o (i:=3) (s:=d.name) rfl (hR _ _ e) ?_
 refine QiJ o (i:=4) (s:=d.inventory) rfl (hR _ _ e) ?_
 refine Qcl o (i:=9) (v:=c.test4) rfl (fun k=>g.test4.len) (hR _ _ e) ?_
 refine QD o (i:=10) (v:=c.strings) rfl ?_
 refine fits4_ok e.inn g.strings fun b=>?_
 rw[Yn]
 refine Yt (fun _=>hR _ _ e) fun _=>?_
 refine Qcl o (i:=11) (v:=c.tables) rfl (fun k=>w1.len) (hR _ _ e) ?_
 refine Qcl o (i:=12) (v:=c.enemy) rfl (fun k=>w2.len) (hR _ _ e) ?_
 refine QiJ o (i:=13) (s:=d.nested) rfl (hR _ _ e) ?_
 refine QD o (i:=14) (v:=c.empty) rfl ?_
 refine fits5_ok e.inn g.empty fun b H2 e2=>?_
 have e:=e.trans e2
 have o:=o.ext e2
 clear e2
 rw[Yn]
 refine Yt (fun _=>hR _ _ e) fun _=>?_
 refine Qcl o (i:=24) (v:=c.bools) rfl (fun k=>g.bools.len) (hR _ _ e) ?_
 refine QD o (i:=28) (v:=c.strings2) rfl ?_
 refine fits4_ok e.inn g.strings2 fun b=>?_
 rw[Yn]
 refine Yt (fun _=>hR _ _ e) fun _=>?_
 refine Qcl o (i:=29) (v:=c.abil) rfl (fun k=>g.abil.len) (hR _ _ e) ?_
 refine QiJ o (i:=30) (s:=d.flex) rfl (hR _ _ e) ?_
 refine Qcl o (i:=31) (v:=c.test5) rfl (fun k=>g.test5.len) (hR _ _ e) ?_
 refine Qcl o (i:=32) (v:=c.longs) rfl (fun k=>g.longs.len) (hR _ _ e) ?_
 refine Qcl o (i:=33) (v:=c.doubles) rfl (fun k=>g.doubles.len) (hR _ _ e) ?_
 refine Qcl o (i:=35) (v:=c.refs) rfl (fun k=>g.refs.len) (hR _ _ e) ?_
 refine Qcl o (i:=37) (v:=c.weak) rfl (fun k=>g.weak.len) (hR _ _ e) ?_
 refine Qcl o (i:=38) (v:=c.strong) rfl (fun k=>g.strong.len) (hR _ _ e) ?_
 refine Qcl o (i:=40) (v:=c.coOwnings) rfl (fun k=>g.coOwnings.len) (hR _ _ e) ?_
 refine Qcl o (i:=42) (v:=c.nonOwnings) rfl (fun k=>g.nonOwnings.len) (hR _ _ e) ?_
 exact QiJ o (i:=49) (s:=d.enums) rfl (hR _ _ e) (hR _ _ e)
end Go.Proofs
namespace Go.Proofs
open Go Go.Vc
open Tryz (prog)
mutual
def QgF:GM->Prop
 |.mk d pos empty tables enemy test uniq amb=>SmallD d pos empty/\(tables.length<=50/\enemy.length<=1)/\(GUn false d.testTy test.length/\GUn false d.uniqTy uniq.length/\GUn true d.ambTy amb.length)/\((d.testTy≠2->d.testColor=0)/\(d.uniqTy≠2->d.uniqColor=0)/\d.ambColor=0)/\Zj tables/\Zj enemy/\Zj test/\Zj uniq/\Zj amb
def Zj:List GM->Prop
 |[]=>True
 |g::gs=>QgF g/\Zj gs
end
mutual
def cntM:GM->Nat
 |.mk _ _ _ tables enemy test uniq amb=>1+cntL tables+cntL enemy+cntL test+cntL uniq+cntL amb
def cntL:List GM->Nat
 |[]=>0
 |g::gs=>cntM g+cntL gs
end
theorem Zj.snoc:∀{gs:List GM} {g:GM},Zj gs->QgF g->Zj (gs++[g])
 |[],g,_,h=>by
  show Zj [g]
  rw[Zj,Zj];exact ⟨h,trivial⟩
 |x::xs,g,hs,h=>by
  show Zj (x::(xs++[g]))
  rw[Zj]at hs⊢
  exact ⟨hs.1,Zj.snoc hs.2 h⟩
theorem cntL_snoc:∀(gs:List GM) (g:GM),cntL (gs++[g])=cntL gs+cntM g
 |[],g=>by
  show cntL [g]=_
  simp only[cntL];omega
 |x::xs,g=>by
  show cntL (x::(xs++[g]))=_
  rw[cntL,cntL,cntL_snoc xs g];omega
structure KX (G:Cut) (q:Nat) (H H':Qe):Prop where
 size:H.size<=H'.size
 keep:∀b o,b≠q->H[b]?=some o->H'[b]?=some o
 inn:G.In H'
theorem KX.of_ext {G:Cut} {q:Nat} {H H':Qe} (h:Ext G H G H'):KX G q H H':=⟨h.keep.size,fun b o _ hb=>h.keep b o hb,h.inn⟩
theorem KX.trans {G:Cut} {q:Nat} {A B C:Qe} (h:KX G q A B) (k:KX G q B C):KX G q A C:=⟨Nat.le_trans h.size k.size,fun b o hb ho=>k.keep b o hb (h.keep b o hb ho),k.inn⟩
theorem KX.set {G:Cut} {q:Nat} {H:Qe} (h:G.In H) (hg:G q=none) (o:Obj):KX G q H (setB H q o):=
 ⟨by unfold setB;simp,fun b x hb hx=>by rw[Qw hb];exact hx,fun b x hx=>by
  have:b≠q:=fun e=>by subst e;rw[hg]at hx;cases hx
  rw[Qw this];exact h b x hx⟩
theorem Yo.kx {H0:Qe} {G:Cut} {H H':Qe} {b q:Nat} {o:Obj} (h:Yo H0 G H b o) (hne:b≠q) (k:KX G q H H'):Yo H0 G H' b o:=⟨k.keep b o hne h.get,h.out,h.new⟩
theorem Yo.zero {H0:Qe} {G:Cut} {H:Qe} {b:Nat} {o:Obj} (h:Yo H0 G H b o):Yo #[] G H b o:=⟨h.get,h.out,Nat.zero_le _⟩
abbrev left (n:Int):Obj:=.cells #[.int .i64 n] 3 (0,0)
def QeD (g:GM):Prop:=∀(G:Cut) (H:Qe) (cells:List Value) (q:Nat) (n deep:Int) (R:Kn),G.In H->QcX G g cells->Yo #[] G H q (left n)->0<=n->n<=20->-1<=deep->deep<=5->
 (∀H' k (b:Bool),KX G q H H'->H'[q]?=some (left k)->(b=true->QgF g/\(cntM g:Int)+k<=n/\0<=k)->R (.bool b) H')->FnS prog 16 #[.agg cells.toArray,ptr q,.int .i64 deep] H R
theorem cp_st {H:Qe} {es:Nat} {it:List Value} {z:Array Value} {t:TypeId} (hl:it.length=es) (h0:0<es) (hz:z.size=es) (hone:∀x∈it,x.oneCell'=true) {k:Kn} (hk:k (ptr H.size) (H.push (.cells it.toArray t (0,0)))):
  Y8 H (.cells z t) fun y h2=>StK h2 es y (.agg it.toArray) fun h3=>k y h3:=by
 rw[Qx,QZ (n:=es) (c':=it.toArray) Qi hz (by simpa using hl) h0 (by simpa using hone),Yc]
 exact hk
theorem build1 {H:Qe} {t:TypeId} {z:Array Value} (hz:z.size=1) {v:Value} (hv:v.oneCell'=true) {k:Kn} (hk:k (.slice (some ⟨H.size,0,none⟩) 1 1) (H.push (.cells #[v] t))):Q8 H t 1 (YY z.toList 1) [(0,1,v)] k:=by
 have hfill:YN (YY z.toList 1) [(0,1,v)]=some [v]:=by
  have hc:=QhX hv
  show (if v.cells.size=1/\0+v.cells.size<=(YY z.toList 1).length then _ else _)=_
  have hrl:(YY z.toList 1).length=1:=by simp[YY,hz]
  rw[if_pos ⟨by rw[hc];rfl,by rw[hrl,hc];exact Nat.le_refl 1⟩]
  show some _=_
  rw[hc]
  have:(YY z.toList 1).drop (0+#[v].size)=[]:=List.drop_eq_nil_of_le (by rw[hrl];exact Nat.le_refl 1)
  rw[this];rfl
 unfold Q8
 simp only[hfill]
 exact hk
section
variable {H0:Qe} {G:Cut} {H:Qe} {q:Nat} {cells:List Value} {T:TypeId} (o:Yo H0 G H q (.cells cells.toArray T (0,0)))
include o
theorem or_len {P:Program} {t:TypeId} {b:Bool} {i n:Nat} {m:Int} {v:Value} (hi:cells[i]?=some v) (hl:∀k:Value->Prop,Y1 v k=k (.int .i64 n)) {K:Kn} (hk:K (.bool (b||decide (m<n))) H):
  Qd (.bool b) false (fun k1=>Qf (ptr q) i fun x=>k1 x H) H fun y1 h1=>Qd (.bool b) false (fun k2=>LdK h1 y1 fun x=>k2 x h1) h1 fun y2 h2=>Qd (.bool b) false (fun k3=>Y1 y2 fun x=>k3 x h2) h2 fun y3 h3=>
   Qd (.bool b) false (fun k4=>Qj P .gtr t y3 (.int .i64 m) fun x=>k4 x h3) h3 fun y4 h4=>Yh (.bool b) (.bool true) y4 fun y=>K y h4:=by
 cases b
 ·rw[QJ,Qm]
  dsimp only
  rw[QJ,Ql ((Qk o.get).trans (by simpa using hi))]
  dsimp only
  rw[QJ,hl]
  dsimp only
  rw[QJ,Z3]
  dsimp only
  rw[Yv]
  simpa using hk
 ·rw[Ys,Ys,Ys,Ys,Y4]
  simpa using hk
theorem or_flt {P':Program} {kind:Int} (hkd:kind=9\/kind=10) {b:Bool} {i:Nat} {κ:IntKind} {n:Int} (hP:P'=prog) (hi:cells[i]?=some (.int κ n)) {K:Kn} (hk:∀b:Bool,K (.bool b) H):
  Qd (.bool b) false (fun k1=>Qf (ptr q) i fun x=>k1 x H) H fun y1 h1=>Qd (.bool b) false (fun k2=>LdK h1 y1 fun x=>k2 x h1) h1 fun y2 h2=>Qd (.bool b) false (fun k3=>QG .u64 y2 fun x=>k3 x h2) h2 fun y3 h3=>
   Qd (.bool b) false (fun k4=>Qa P' 53 #[.int .u8 kind,y3] h3 fun x h=>k4 x h) h3 fun y4 h4=>Qd (.bool b) false (fun k5=>Zu P' (Op.unary .not y4) fun x=>k5 x h4) h4 fun y5 h5=>Yh (.bool b) (.bool true) y5 fun y=>K y h5:=by
 subst hP
 cases b
 ·rw[QJ,Qm]
  dsimp only
  rw[QJ,Ql ((Qk o.get).trans (by simpa using hi))]
  dsimp only
  rw[QJ]
  show Qd _ _ _ _ _
  rw[QJ]
  refine QhH hkd fun b=>?_
  dsimp only
  rw[QJ,Yn]
  dsimp only
  rw[Yv]
  exact hk _
 ·rw[Ys,Ys,Ys,Ys,Ys,Y4]
  exact hk _
theorem or_flt8 {P':Program} {kind:Int} (hkd:kind=9\/kind=10) {b:Bool} {i:Nat} {n:Int} (hP:P'=prog) (hi:cells[i]?=some (.int .u64 n)) {K:Kn} (hk:∀b:Bool,K (.bool b) H):
  Qd (.bool b) false (fun k1=>Qf (ptr q) i fun x=>k1 x H) H fun y1 h1=>Qd (.bool b) false (fun k2=>LdK h1 y1 fun x=>k2 x h1) h1 fun y2 h2=>
   Qd (.bool b) false (fun k4=>Qa P' 53 #[.int .u8 kind,y2] h2 fun x h=>k4 x h) h2 fun y4 h4=>Qd (.bool b) false (fun k5=>Zu P' (Op.unary .not y4) fun x=>k5 x h4) h4 fun y5 h5=>Yh (.bool b) (.bool true) y5 fun y=>K y h5:=by
 subst hP
 cases b
 ·rw[QJ,Qm]
  dsimp only
  rw[QJ,Ql ((Qk o.get).trans (by simpa using hi))]
  dsimp only
  rw[QJ]
  refine QhH hkd fun b=>?_
  dsimp only
  rw[QJ,Yn]
  dsimp only
  rw[Yv]
  exact hk _
 ·rw[Ys,Ys,Ys,Ys,Y4]
  exact hk _
end
theorem lens_loop {H:Qe} {b:Nat} {ns:List Nat} {L:Nat} {T:TypeId} {fr:Nat×Nat} {x0:Value} (hb:H[b]?=some (.cells (ns.map fun n=>Value.int .i64 (n:Nat)).toArray T fr)) (hL:ns.length=L) (hl:ns.length<=1000) {RF:Qe->Prop} (hbad:RF H) {M:Kn} (hM:∀y,(∀n∈ns,n<=50)->M y H):
  Y1 (.slice (some ⟨b,0,none⟩) L L) fun n=>Yu [(.int .i64 0),x0] H fun I m=>∀x y:Value,∀h:Qe,I m [x,y] h->Qj prog .lss 3 x n fun c=>IfK c
   (Y2 1 (.slice (some ⟨b,0,none⟩) L L) x fun a=>LdK h a fun v=>Qa prog 52 #[v] h fun r h1=>Zu prog (Op.unary .not r) fun r'=>IfK r' (RF h1) (Qj prog .add 3 x (.int .i64 1) fun x'=>QQ I m [x',y] h1))
   (M y h):=by
 subst hL
 rw[Qbq]
 refine ⟨fun m vs H'=>∃i y,vs=[.int .i64 (i:Nat),y]/\i+m=ns.length/\H'=H/\∀n∈ns.take i,n<=50,⟨ns.length,0,_,rfl,by omega,rfl,by simp⟩,?_⟩
 rintro m x y H' ⟨i,y',hx,him,e,hall⟩
 cases hx
 subst e
 rw[Yw]
 by_cases hlt:i<ns.length
 ·have ha:=List.getElem?_eq_getElem hlt
  rw[Yj (by omega),QP (by omega) (by omega),Ql (v:=.int .i64 (ns[i]:Nat)) ((Qk hb).trans (by simp[ha]))]
  refine list_ok ?_
  rw[Yn]
  refine Yt (fun _=>hbad) fun hle=>?_
  have hle:ns[i]<=50:=by
   have:((ns[i]:Nat):Int)<=50:=by simpa using hle
   omega
  rw[Q5,wrap_i64 (by omega) (by omega)]
  refine ⟨m-1,by omega,i+1,y,by simp,by omega,rfl,fun n hn=>?_⟩
  rw[List.take_succ_eq_append_getElem hlt]at hn
  rcases List.mem_append.1 hn with hn|hn
  ·exact hall n hn
  ·have:n=ns[i]:=by simpa using hn
   rw[this];exact hle
 ·rw[Yb (by omega)]
  have:i=ns.length:=by omega
  subst this
  exact hM y (by rw[List.take_length]at hall;exact hall)
theorem txt_loop {G:Cut} {H:Qe} (hG:G.In H) {l:List (List UInt8)} {v x0:Value} (hs:SlV G 1 v (l.map Qhd)) (hl:l.length<=1000) {RF:Qe->Prop} (hbad:RF H) {M:Kn} (hM:∀y,(∀s∈l,s.length<=300)->M y H):
  Y1 v fun n=>Yu [(.int .i64 0),x0] H fun I m=>∀x y:Value,∀h:Qe,I m [x,y] h->Qj prog .lss 3 x n fun c=>IfK c
   (Y2 1 v x fun a=>LdK h a fun s=>QbP s fun z=>Qj prog .gtr 3 z (.int .i64 300) fun c=>IfK c (RF h) (Qj prog .add 3 x (.int .i64 1) fun x'=>QQ I m [x',y] h))
   (M y h):=by
 rw[hs.len,List.length_map]
 refine ⟨fun m vs H'=>∃i y,vs=[.int .i64 (i:Nat),y]/\i+m=l.length/\H'=H/\∀n∈l.take i,n.length<=300,⟨l.length,0,_,rfl,by omega,rfl,by simp⟩,?_⟩
 rintro m x y H' ⟨i,y',hx,him,e,hall⟩
 cases hx
 subst e
 rw[Yw]
 by_cases hlt:i<l.length
 ·have ha:=List.getElem?_eq_getElem hlt
  rw[Yj (by omega)]
  obtain ⟨b,o,cs,e',fr,g1,g2,g3,g4⟩:=hs.idx hG (i:=i) rfl (it:=Qhd l[i]) (by rw[List.getElem?_map,ha];rfl)
  rw[g1,Ql ((Qk g2).trans (QdD g4)),QW,Qaf,Z3]
  have hsz:(ByteArray.mk l[i].toArray).size=l[i].length:=by simp[ByteArray.size]
  rw[hsz]
  refine Z0 (fun _=>hbad) fun hle=>?_
  have hle:l[i].length<=300:=by omega
  rw[Q5,wrap_i64 (by omega) (by omega)]
  refine ⟨m-1,by omega,i+1,y,by simp,by omega,rfl,fun n hn=>?_⟩
  rw[List.take_succ_eq_append_getElem hlt]at hn
  rcases List.mem_append.1 hn with hn|hn
  ·exact hall n hn
  ·have:n=l[i]:=by simpa using hn
   rw[this];exact hle
 ·rw[Yb (by omega)]
  have:i=l.length:=by omega
  subst this
  exact hM y (by rw[List.take_length]at hall;exact hall)
theorem dbl_loop {G:Cut} {H:Qe} (hG:G.In H) {l:List UInt64} {v x0:Value} (hs:SlV G 1 v (l.map Qce)) (hl:l.length<=1000) {RF:Qe->Prop} (hbad:RF H) {M:Kn} (hM:∀y,M y H):
  Y1 v fun n=>Yu [(.int .i64 0),x0] H fun I m=>∀x y:Value,∀h:Qe,I m [x,y] h->Qj prog .lss 3 x n fun c=>IfK c
   (Y2 1 v x fun a=>LdK h a fun s=>Qa prog 53 #[(.int .u8 10),s] h fun r h1=>Zu prog (Op.unary .not r) fun r'=>IfK r' (RF h1) (Qj prog .add 3 x (.int .i64 1) fun x'=>QQ I m [x',y] h1))
   (M y h):=by
 rw[hs.len,List.length_map]
 refine ⟨fun m vs H'=>∃i y,vs=[.int .i64 (i:Nat),y]/\i+m=l.length/\H'=H,⟨l.length,0,_,rfl,by omega,rfl⟩,?_⟩
 rintro m x y H' ⟨i,y',hx,him,e⟩
 cases hx
 subst e
 rw[Yw]
 by_cases hlt:i<l.length
 ·have ha:=List.getElem?_eq_getElem hlt
  rw[Yj (by omega)]
  obtain ⟨b,o,cs,e',fr,g1,g2,g3,g4⟩:=hs.idx hG (i:=i) rfl (it:=Qce l[i]) (by rw[List.getElem?_map,ha];rfl)
  rw[g1,Ql ((Qk g2).trans (QdD g4)),QO]
  refine QhH (.inr rfl) fun b=>?_
  rw[Yn]
  refine Yt (fun _=>hbad) fun _=>?_
  rw[Q5,wrap_i64 (by omega) (by omega)]
  exact ⟨m-1,by omega,i+1,y,by simp,by omega,rfl⟩
 ·rw[Yb (by omega)]
  exact hM y
end Go.Proofs
namespace Go.Proofs
open Go Go.Vc
open Tryz (prog)
theorem pos_loop {G:Cut} {H:Qe} (hG:G.In H) {l:List Qa9} {v x0:Value} (hs:SlV G 7 v (l.map ZP)) (hl:l.length<=1000) {RF:Qe->Prop} (hbad:∀h,Ext G H G h->RF h) {M:Kn} (hM:∀y h,Ext G H G h->M y h):
  Y1 v fun n=>Yu [(.int .i64 0),x0] H fun I m=>∀x y:Value,∀h32:Qe,I m [x,y] h32->Qj prog .lss 3 x n fun c=>IfK c
   (Y2 7 v x fun x150=>LdN h32 7 x150 fun x151=>Y8 h32 (.cells z84 84) fun x15 h33=>StK h33 7 x15 x151 fun h34=>
 Qf x15 0 fun x152=>
 LdK h34 x152 fun x153=>
 QG .u64 x153 fun x154=>
 Qa prog 53 #[(.int .u8 9),x154] h34 fun x155 h35=>
 Zu prog (Op.unary .not x155) fun x156=>
 Qd x156 false (fun k27=>Qf x15 1 fun x158=>k27 x158 h35) h35 fun x158_1 h36=>
 Qd x156 false (fun k28=>LdK h36 x158_1 fun x159=>k28 x159 h36) h36 fun x159_1 h37=>
 Qd x156 false (fun k29=>QG .u64 x159_1 fun x160=>k29 x160 h37) h37 fun x160_1 h38=>
 Qd x156 false (fun k30=>Qa prog 53 #[(.int .u8 9),x160_1] h38 fun x161 h39=>k30 x161 h39) h38 fun x161_1 h40=>
 Qd x156 false (fun k31=>Zu prog (Op.unary .not x161_1) fun x162=>k31 x162 h40) h40 fun x162_1 h41=>
 Yh x156 (.bool true) x162_1 fun x163=>
 Qd x163 false (fun k32=>Qf x15 2 fun x165=>k32 x165 h41) h41 fun x165_1 h42=>
 Qd x163 false (fun k33=>LdK h42 x165_1 fun x166=>k33 x166 h42) h42 fun x166_1 h43=>
 Qd x163 false (fun k34=>QG .u64 x166_1 fun x167=>k34 x167 h43) h43 fun x167_1 h44=>
 Qd x163 false (fun k35=>Qa prog 53 #[(.int .u8 9),x167_1] h44 fun x168 h45=>k35 x168 h45) h44 fun x168_1 h46=>
 Qd x163 false (fun k36=>Zu prog (Op.unary .not x168_1) fun x169=>k36 x169 h46) h46 fun x169_1 h47=>
 Yh x163 (.bool true) x169_1 fun x170=>
 Qd x170 false (fun k37=>Qf x15 3 fun x172=>k37 x172 h47) h47 fun x172_1 h48=>
 Qd x170 false (fun k38=>LdK h48 x172_1 fun x173=>k38 x173 h48) h48 fun x173_1 h49=>
 Qd x170 false (fun k39=>Qa prog 53 #[(.int .u8 10),x173_1] h49 fun x174 h50=>k39 x174 h50) h49 fun x174_1 h51=>
 Qd x170 false (fun k40=>Zu prog (Op.unary .not x174_1) fun x175=>k40 x175 h51) h51 fun x175_1 h52=>
 Yh x170 (.bool true) x175_1 fun x176=>
 IfK x176 (RF h52) (Qj prog .add 3 x (.int .i64 1) fun x'=>QQ I m [x',y] h52))
   (M y h32):=by
 rw[hs.len,List.length_map]
 refine ⟨fun m vs H'=>∃i y,vs=[.int .i64 (i:Nat),y]/\i+m=l.length/\Ext G H G H',⟨l.length,0,_,rfl,by omega,Ext.refl hG⟩,?_⟩
 rintro m x y H' ⟨i,y',hx,him,e⟩
 cases hx
 rw[Yw]
 by_cases hlt:i<l.length
 ·have ha:=List.getElem?_eq_getElem hlt
  rw[Yj (by omega)]
  have hone:∀x∈ZP l[i],x.oneCell'=true:=fun x hx=>by
   simp[ZP]at hx
   rcases hx with rfl|rfl|rfl|rfl|rfl|rfl|rfl<;>rfl
  refine Qab hs e.inn (i:=i) (it:=ZP l[i]) (by rw[List.getElem?_map,ha];rfl) ?_
  refine cp_st (es:=7) (it:=ZP l[i]) rfl (by decide) rfl hone ?_
  have o:Yo H G (H'.push (.cells (ZP l[i]).toArray 84 (0,0))) H'.size (.cells (ZP l[i]).toArray 84 (0,0)):=Yo.fresh e _
  have e:=e.push (.cells (ZP l[i]).toArray 84 (0,0))
  generalize H'.push (.cells (ZP l[i]).toArray 84 (0,0))=H2 at *
  refine QD o (i:=0) (v:=Qaw l[i].x) rfl ?_
  rw[Qaw,Q7]
  refine QhH (.inl rfl) fun b=>?_
  rw[Yn]
  refine or_flt o (.inl rfl) rfl (i:=1) (by rfl) fun b=>?_
  refine or_flt o (.inl rfl) rfl (i:=2) (by rfl) fun b=>?_
  refine or_flt8 o (.inr rfl) rfl (i:=3) (by rfl) fun b=>?_
  refine Yt (fun _=>hbad _ e) fun _=>?_
  rw[Q5,wrap_i64 (by omega) (by omega)]
  exact ⟨m-1,by omega,i+1,y,by simp,by omega,e⟩
 ·rw[Yb (by omega)]
  exact hM _ _ e
theorem appN {G0:Cut} {H0:Qe} {G:Cut} {H:Qe} {et:TypeId} {es bts:Nat} {zs:Array Value} {b c:Nat} {cs:Array Value} {items its:List (List Value)} {w:Value} (hE:Ext G0 H0 G H) (hall:∀x∈items,x.length=es) (h2:Yo H0 G H b (.cells cs et (0,0))) (h4:items.length*es<=cs.size) (h5:c*es<=cs.size) (h6:cs.toList.take (items.length*es)=items.flatten) (h7:items.length<=c) (hne:items≠[])
  (hw:SlV G es w its) (hone:∀x∈its,∀y∈x,y.oneCell'=true) (hb:0<bts) (hn:(items.length+its.length)*bts<=140737488355328) (hz:zs.size=es) {k:Kn}
  (hk:∀v' H',Ext G0 H0 G H'->Cur H0 G H' et es v' (items++its) (fun _=>False)->(c=items.length->Qay H H')->k v' H'):
  Qbk H et es bts zs (.slice (some ⟨b,0,none⟩) items.length c) w k:=by
 have flen:∀{l:List (List Value)},(∀x∈l,x.length=es)->l.flatten.length=l.length*es:=fun {l} hl=>by
  induction l with
  |nil=>simp
  |cons x xs ih=>
   rw[List.flatten_cons,List.length_append,List.length_cons,ih (fun z hz=>hl z (List.mem_cons_of_mem _ hz)),hl x List.mem_cons_self,Nat.add_mul];omega
 have hil:=flen hall
 have hwl:=flen hw.1
 have hall':∀x∈items++its,x.length=es:=fun x hx=>by
  rcases List.mem_append.1 hx with hx|hx
  ·exact hall x hx
  ·exact hw.1 x hx
 have hone':∀y∈its.flatten,y.oneCell'=true:=fun y hy=>by
  obtain ⟨x,hx,hy⟩:=List.mem_flatten.1 hy
  exact hone x hx y hy
 have hfl:(items++its).flatten=items.flatten++its.flatten:=by simp
 have hlen:(items++its).length=items.length+its.length:=by simp
 obtain ⟨yb,m,yc,rfl,hm,hnew⟩:∃yb m yc,w= .slice yb m yc/\m=its.length/\Qhk H (m*es) (.slice yb m yc)=some its.flatten:=by
  rcases hw.2 with ⟨a,c',rfl,rfl⟩|⟨y,yo,c',cells,e,fr,rfl,g2,g3,g4,g5⟩
  ·refine ⟨a,0,c',rfl,rfl,?_⟩
   rw[Nat.zero_mul]
   cases a<;>rfl
  ·refine ⟨_,_,_,rfl,rfl,?_⟩
   show Zk H ⟨y,yo,none⟩ 0 (its.length*es)=_
   rw[Q0 (hE.inn _ _ g2) _ (by omega),Nat.add_zero,g4]
 subst hm
 have hadd:(items.length+its.length)*es=items.length*es+its.length*es:=Nat.add_mul _ _ _
 refine ⟨fun hc=>⟨its.flatten,hnew,?_⟩,fun hc=>⟨hb,by simpa using hn,items.flatten,its.flatten,?_,hnew,fun c' hc1 _=>?_⟩⟩
 ·have hcm:(items.length+its.length)*es<=c*es:=Nat.mul_le_mul_right _ hc
  have hcs:cs=cs.toList.toArray:=by simp
  have hset:=QdI (b:=b) (e:=et) (fr:=(0,0)) its.flatten (H:=H) (l:=cs.toList) (o:=items.length*es) (i:=0) (by rw[<-hcs];exact h2.get) hone' (by simp only[Array.length_toList,hwl];rw[Nat.add_zero,<-hadd];exact Nat.le_trans hcm h5) (by simp)
  refine ⟨_,by show setN H (Addr.add ⟨b,0,none⟩ (items.length*es)) 0 its.flatten=_;rw[QfP,Nat.zero_add];exact hset,?_⟩
  cases hit:its.flatten with
  |nil=>
   simp only
   rw[hit]at hwl
   refine hk _ _ hE ⟨hall',Or.inr ⟨b,c,cs,by rw[hlen],h2,id,by rw[hlen,hadd,<-hwl];simpa using h4,h5,by rw[hlen,hadd,<-hwl,hfl,hit];simpa using h6,by rw[hlen];exact hc,by simp[hne]⟩⟩ (fun _=>Qay.refl _)
  |cons x xs=>
   simp only[Nat.add_zero]
   rw[hit]at hwl
   refine hk _ _ (hE.set h2.out h2.new _) ⟨hall',Or.inr ⟨b,c,_,by rw[hlen],h2.set _,id,?_,?_,?_,by rw[hlen];exact hc,by simp[hne]⟩⟩ ?_
   ·rw[hlen];simp only[List.size_toArray,Ym,Array.length_toList];exact Nat.le_trans hcm h5
   ·simp only[List.size_toArray,Ym,Array.length_toList];exact h5
   ·rw[hlen,hfl,hadd,<-hwl,<-h6,hit]
    exact putL_take (L:=cs.toList) (xs:=x::xs) (n:=items.length*es) (by rw[Array.length_toList (xs:=cs),hwl,<-hadd];exact Nat.le_trans hcm h5)
   ·intro hcl
    have:its.length=0:=by omega
    rw[this]at hwl
    simp at hwl
 ·show Zk H ⟨b,0,none⟩ 0 (items.length*es)=_
  rw[Q0 h2.get _ (by omega),Nat.add_zero,List.drop_zero,h6]
 ·have hsz:((items.flatten++its.flatten).toArray++Builtin.zeroCells zs (c'-(items.length+its.length))).size=c'*es:=by
   have hz2:(Builtin.zeroCells zs (c'-(items.length+its.length))).size=(c'-(items.length+its.length))*es:=by
    unfold Builtin.zeroCells
    simp[hz]
   rw[Array.size_append,hz2]
   simp only[List.size_toArray,List.length_append,hil,hwl]
   obtain ⟨d,rfl⟩:∃d,c'=items.length+its.length+d:=⟨c'-(items.length+its.length),by omega⟩
   rw[show items.length+its.length+d-(items.length+its.length)=d by omega,Nat.add_mul,Nat.add_mul]
  refine hk _ _ (hE.push _) ⟨hall',Or.inr ⟨H.size,c',_,by rw[hlen],Yo.fresh hE _,id,by rw[hlen,hsz];exact Nat.mul_le_mul_right _ hc1,by rw[hsz];exact Nat.le_refl _,?_,by rw[hlen];exact hc1,by simp[hne]⟩⟩ (fun _=>Qay.push _ _)
  rw[hlen,hfl]
  have e:((items.flatten++its.flatten).toArray++Builtin.zeroCells zs (c'-(items.length+its.length))).toList=(items.flatten++its.flatten)++(Builtin.zeroCells zs (c'-(items.length+its.length))).toList:=by simp
  rw[e,List.take_left' (by rw[List.length_append,hil,hwl,hadd])]
theorem emp_loop {H0:Qe} {G:Cut} {H:Qe} {l:List ZU} {v v0:Value} {base:List (List UInt8)} (hs:SlV G 3 v (l.map Zn)) (hl:l.length<=1) (hE:Ext G H0 G H) (hc:Cur H0 G H 9 1 v0 (base.map Qhd) (fun _=>False)) (hbl:base.length<=1000) {M:Kn}
  (hM:∀y h,Ext G H0 G h->Cur H0 G h 9 1 y ((base++l.map fun s=>s.id).map Qhd) (fun _=>False)->M y h):
  Y1 v fun n=>Yu [(.int .i64 0),v0] H fun I m=>∀x y:Value,∀h24:Qe,I m [x,y] h24->Qj prog .lss 3 x n fun c=>IfK c
   (Y2 3 v x fun x127=>LdN h24 3 x127 fun x128=>Y8 h24 (.cells z95 95) fun x11 h25=>StK h25 3 x11 x128 fun h26=>Qf x11 0 fun x130=>LdK h26 x130 fun x131=>
 Q8 h26 9 1 (YY z9.toList 1) [(0,1,x131)] fun x132 h27=>Qbk h27 9 1 16 z9 y x132 fun x133 h28=>Qj prog .add 3 x (.int .i64 1) fun x'=>QQ I m [x',x133] h28)
   (M y h24):=by
 rw[hs.len,List.length_map]
 refine ⟨fun m vs H'=>∃i y,vs=[.int .i64 (i:Nat),y]/\i+m=l.length/\Ext G H0 G H'/\Cur H0 G H' 9 1 y ((base++(l.take i).map fun s=>s.id).map Qhd) (fun _=>False),⟨l.length,0,_,rfl,by omega,hE,by simpa using hc⟩,?_⟩
 rintro m x y H' ⟨i,y',hx,him,e,hc⟩
 cases hx
 rw[Yw]
 by_cases hlt:i<l.length
 ·have ha:=List.getElem?_eq_getElem hlt
  rw[Yj (by omega)]
  have hone:∀x∈Zn l[i],x.oneCell'=true:=fun x hx=>by
   simp[Zn]at hx
   rcases hx with rfl|rfl|rfl<;>rfl
  refine Qab hs e.inn (i:=i) (it:=Zn l[i]) (by rw[List.getElem?_map,ha];rfl) ?_
  refine cp_st (es:=3) (it:=Zn l[i]) rfl (by decide) rfl hone ?_
  have o:Yo H0 G (H'.push (.cells (Zn l[i]).toArray 95 (0,0))) H'.size (.cells (Zn l[i]).toArray 95 (0,0)):=Yo.fresh e _
  have e:=e.push (.cells (Zn l[i]).toArray 95 (0,0))
  have hc:=hc.push (.cells (Zn l[i]).toArray 95 (0,0))
  generalize H'.push (.cells (Zn l[i]).toArray 95 (0,0))=H2 at *
  refine QD o (i:=0) (v:=QW l[i].id) rfl ?_
  refine build1 rfl rfl ?_
  have e:=e.push (.cells #[QW l[i].id] 9)
  have hc:=hc.push (.cells #[QW l[i].id] 9)
  have hy:(H2.push (.cells #[QW l[i].id] 9))[H2.size]?=some (.cells #[QW l[i].id] 9 (0,0)):=Qi
  generalize H2.push (.cells #[QW l[i].id] 9)=H3 at *
  refine hc.app e hy (Nat.le_refl 1) (it:=Qhd l[i].id) rfl (fun x hx=>by simp[Qhd]at hx;rw[hx];rfl) (by decide) (by decide) (by simp;omega) rfl (fun b hb=>hb.elim) ?_
  intro v' H4 e4 hc4 _
  rw[Q5,wrap_i64 (by omega) (by omega)]
  refine ⟨m-1,by omega,i+1,v',by simp,by omega,e4,?_⟩
  have e1:((base++((l.take i++[l[i]]).map fun s=>s.id)).map Qhd)=(base++(l.take i).map fun s=>s.id).map Qhd++[Qhd l[i].id]:=by simp only[List.map_append,List.map_cons,List.map_nil,List.append_assoc]
  rw[List.take_succ_eq_append_getElem hlt,e1]
  exact hc4
 ·rw[Yb (by omega)]
  have:i=l.length:=by omega
  subst this
  rw[List.take_length]at hc
  exact hM _ _ e hc
theorem cl_loop {G:Cut} {q:Nat} {gs:List GM} {s x0:Value} {n deep:Int} {Hs H:Qe} (hs:QfQ G gs s) (hK:∀g∈gs,QeD g) (hl:gs.length<=50) (hd:0<=deep) (hd5:deep<=5) (kx:KX G q Hs H) (hq:Yo #[] G H q (left n)) (hn:0<=n) (hn2:n<=20)
  {RF:Qe->Prop} (hbad:∀h k,KX G q Hs h->h[q]?=some (left k)->RF h) {M:Kn} (hM:∀y h k,KX G q Hs h->Yo #[] G h q (left k)->Zj gs->(cntL gs:Int)+k<=n->0<=k->M y h):
  Y1 s fun x219=>Yu [(.int .i64 0),x0] H fun I m=>∀x y:Value,∀h72:Qe,I m [x,y] h72->Qj prog .lss 3 x x219 fun c=>IfK c
   (Y2 51 s x fun x222=>LdN h72 51 x222 fun x223=>Y8 h72 (.cells z38 38) fun x21 h73=>StK h73 51 x21 x223 fun h74=>LdN h74 51 x21 fun x224=>Qj prog .sub 3 (.int .i64 deep) (.int .i64 1) fun x227=>
 Qa prog 16 #[x224,ptr q,x227] h74 fun x228 h75=>Zu prog (Op.unary .not x228) fun x229=>IfK x229 (RF h75) (Qj prog .add 3 x (.int .i64 1) fun x230=>QQ I m [x230,y] h75))
   (M y h72):=by
 obtain ⟨its,hs,hvs⟩:=hs
 have hil:=Zz.len hvs
 rw[hs.len,<-hil]
 refine ⟨fun m vs H'=>∃i y k,vs=[.int .i64 (i:Nat),y]/\i+m=gs.length/\KX G q Hs H'/\Yo #[] G H' q (left k)/\Zj (gs.take i)/\(cntL (gs.take i):Int)+k<=n/\0<=k,⟨gs.length,0,_,n,rfl,by omega,kx,hq,by rw[List.take_zero,Zj];trivial,by rw[List.take_zero,cntL];simp,hn⟩,?_⟩
 rintro m x y H' ⟨i,y',k,hx,him,kx,hq,hcl,hcn,hk0⟩
 cases hx
 rw[Yw]
 by_cases hlt:i<gs.length
 ·have ha:=List.getElem?_eq_getElem hlt
  rw[Yj (by omega)]
  obtain ⟨x1,hx1,hv1⟩:=Zz.get hvs ha
  refine Qab hs kx.inn (i:=i) hx1 ?_
  refine cp_ok hv1.len (by decide) rfl (QcX.one hv1) ?_
  have kx:KX G q Hs (H'.push (.cells x1.toArray 38 (0,0))):=kx.trans (KX.of_ext ((Ext.refl kx.inn).push _))
  have hq:=hq.push (.cells x1.toArray 38 (0,0))
  generalize H'.push (.cells x1.toArray 38 (0,0))=H2 at *
  rw[Yg,wrap_i64 (by omega) (by omega)]
  refine hK _ (List.mem_of_getElem? ha) G H2 x1 q k (deep-1) _ kx.inn hv1 hq hk0 (by omega) (by omega) (by omega) ?_
  intro H3 k3 b kx3 hq3 hb
  rw[Yn]
  have kx:=kx.trans kx3
  refine Yt (fun _=>hbad _ _ kx hq3) fun hb'=>?_
  obtain ⟨c1,c2,c3⟩:=hb (by simpa using hb')
  rw[Q5,wrap_i64 (by omega) (by omega)]
  refine ⟨m-1,by omega,i+1,y,k3,by simp,by omega,kx,⟨hq3,hq.out,Nat.zero_le _⟩,?_,?_,c3⟩
  ·rw[List.take_succ_eq_append_getElem hlt];exact hcl.snoc c1
  ·rw[List.take_succ_eq_append_getElem hlt,cntL_snoc];omega
 ·rw[Yb (by omega)]
  have:i=gs.length:=by omega
  subst this
  rw[List.take_length]at hcl hcn
  exact hM _ _ _ kx hq hcl hcn hk0
end Go.Proofs
namespace Go.Proofs
open Go Go.Vc
open Tryz (prog)
section
variable {H0:Qe} {G:Cut} {H:Qe} {q:Nat} {ty color:UInt8} {v:Value} {T:TypeId} (o:Yo H0 G H q (.cells [u8n ty,v,u8n color].toArray T (0,0)))
include o
theorem cc1 {amb:Bool} {K:Kn} (hk:K (.bool (decide ((3:Int)<(ty.toNat:Int))||(!amb&&decide ((2:Int)<(ty.toNat:Int))))) H):
 Qj prog .gtr 5 (u8n ty) (.int .u8 3) fun x12=>
 Qd x12 false (fun k1=>k1 (.bool amb) H) H fun x14 h2=>
 Qd x12 false (fun k2=>Zu prog (Op.unary .not x14) fun x15=>k2 x15 h2) h2 fun x15_1 h3=>
 Qd x12 false (fun k3=>k3 x15_1 h3) h3 fun x16 h4=>
 Qd x16 true (fun k4=>Qf (ptr q) 0 fun x17=>k4 x17 h4) h4 fun x17_1 h5=>
 Qd x16 true (fun k5=>LdK h5 x17_1 fun x18=>k5 x18 h5) h5 fun x18_1 h6=>
 Qd x16 true (fun k6=>Qj prog .gtr 5 x18_1 (.int .u8 2) fun x19=>k6 x19 h6) h6 fun x19_1 h7=>
 Qd x12 false (fun k7=>Yh x16 x19_1 (.bool false) fun x20=>k7 x20 h7) h7 fun x20_1 h8=>
 Yh x12 (.bool true) x20_1 fun x21=>
 K x21 h8:=by
 have h0:∀k:Value->Prop,LdK H (.pointer (some ⟨q,0,none⟩)) k=k (u8n ty):=fun k=>Ql ((Qk o.get).trans rfl)
 rw[Z3]
 generalize decide ((3:Int)<(ty.toNat:Int))=b at *
 cases b<;>cases amb<;>simp only[QJ,Ys,Ye,Yz,Z2,Y4,Yv,Yn,Qm,h0,Z3,Bool.not_true,Bool.not_false]
 all_goals exact hk
theorem cc2 {amb:Bool} {K:Kn} (hk:K (.bool (decide ((ty.toNat:Int)=1)||(amb&&decide ((0:Int)<(ty.toNat:Int))))) H):
 Qj prog .eql 5 (u8n ty) (.int .u8 1) fun x30=>
 Qd x30 false (fun k12=>k12 (.bool amb) H) H fun x32 h13=>
 Qd x30 false (fun k13=>k13 x32 h13) h13 fun x33 h14=>
 Qd x33 true (fun k14=>Qf (ptr q) 0 fun x34=>k14 x34 h14) h14 fun x34_1 h15=>
 Qd x33 true (fun k15=>LdK h15 x34_1 fun x35=>k15 x35 h15) h15 fun x35_1 h16=>
 Qd x33 true (fun k16=>Qj prog .gtr 5 x35_1 (.int .u8 0) fun x36=>k16 x36 h16) h16 fun x36_1 h17=>
 Qd x30 false (fun k17=>Yh x33 x36_1 (.bool false) fun x37=>k17 x37 h17) h17 fun x37_1 h18=>
 Yh x30 (.bool true) x37_1 fun x38=>
 K x38 h18:=by
 have h0:∀k:Value->Prop,LdK H (.pointer (some ⟨q,0,none⟩)) k=k (u8n ty):=fun k=>Ql ((Qk o.get).trans rfl)
 rw[Yi]
 generalize decide ((ty.toNat:Int)=1)=b at *
 cases b<;>cases amb<;>simp only[QJ,Ys,Ye,Yz,Z2,Y4,Yv,Yn,Qm,h0,Z3,Bool.not_true,Bool.not_false]
 all_goals exact hk
theorem cc3 {amb b:Bool} {K:Kn} (hk:K (.bool (b||((amb||decide ((ty.toNat:Int)≠2))&&decide ((color.toNat:Int)≠0)))) H):
 Qd (.bool b) false (fun k18=>k18 (.bool amb) H) H fun x46 h19=>
 Qd (.bool b) false (fun k19=>k19 x46 h19) h19 fun x47 h20=>
 Qd x47 false (fun k20=>Qf (ptr q) 0 fun x48=>k20 x48 h20) h20 fun x48_1 h21=>
 Qd x47 false (fun k21=>LdK h21 x48_1 fun x49=>k21 x49 h21) h21 fun x49_1 h22=>
 Qd x47 false (fun k22=>Qj prog .neq 5 x49_1 (.int .u8 2) fun x50=>k22 x50 h22) h22 fun x50_1 h23=>
 Qd (.bool b) false (fun k23=>Yh x47 (.bool true) x50_1 fun x51=>k23 x51 h23) h23 fun x51_1 h24=>
 Qd (.bool b) false (fun k24=>k24 x51_1 h24) h24 fun x52 h25=>
 Qd x52 true (fun k25=>Qf (ptr q) 2 fun x53=>k25 x53 h25) h25 fun x53_1 h26=>
 Qd x52 true (fun k26=>LdK h26 x53_1 fun x54=>k26 x54 h26) h26 fun x54_1 h27=>
 Qd x52 true (fun k27=>Qj prog .neq 5 x54_1 (.int .u8 0) fun x55=>k27 x55 h27) h27 fun x55_1 h28=>
 Qd (.bool b) false (fun k28=>Yh x52 x55_1 (.bool false) fun x56=>k28 x56 h28) h28 fun x56_1 h29=>
 Yh (.bool b) (.bool true) x56_1 fun x57=>
 K x57 h29:=by
 have h0:∀k:Value->Prop,LdK H (.pointer (some ⟨q,0,none⟩)) k=k (u8n ty):=fun k=>Ql ((Qk o.get).trans rfl)
 have h2:∀k:Value->Prop,LdK H (.pointer (some ⟨q,2,none⟩)) k=k (u8n color):=fun k=>Ql ((Qk o.get).trans rfl)
 cases b
 ·cases amb
  ·simp only[QJ,Ys,Ye,Yz,Z2,Y4,Yv,Qm,h0,h2,Y5]
   generalize decide ((ty.toNat:Int)≠2)=b at *
   cases b<;>simp only[QJ,Ys,Ye,Yz,Z2,Y4,Yv,Qm,h0,h2,Y5]
   all_goals exact hk
  ·simp only[QJ,Ys,Ye,Yz,Z2,Y4,Yv,Qm,h0,h2,Y5]
   exact hk
 ·simp only[QJ,Ys,Ye,Yz,Z2,Y4,Yv,Qm,h0,h2,Y5]
  exact hk
end
theorem u8_eq {a b:UInt8} (h:(a.toNat:Int)=(b.toNat:Int)):a=b:=UInt8.toNat_inj.1 (by omega)
theorem choice_ok {G:Cut} {H:Qe} {q:Nat} {n deep:Int} {amb:Bool} {ty color:UInt8} {gs:List GM} {v:Value} (hG:G.In H) (hs:QfQ G gs v) (hK:∀g∈gs,QeD g) (hq:Yo #[] G H q (left n)) (hn:0<=n) (hn2:n<=20) (hd:0<=deep) (hd5:deep<=5) {R:Kn}
  (hR:∀H' k (b:Bool),KX G q H H'->H'[q]?=some (left k)->(b=true->GUn amb ty gs.length/\(amb=true\/ty≠2->color=0)/\Zj gs/\(cntL gs:Int)+k<=n/\0<=k)->R (.bool b) H'):
  FnS prog 54 #[.agg #[u8n ty,v,u8n color],.bool amb,ptr q,.int .i64 deep] H R:=by
 apply w54
 unfold s54
 rw[Qx]
 have e:=Ext.refl hG
 have o:Yo H G (H.push (.cells (Value.agg #[u8n ty,v,u8n color]).cells 26)) H.size (.cells [u8n ty,v,u8n color].toArray 26 (0,0)):=Yo.fresh e _
 have e:=e.push (.cells (Value.agg #[u8n ty,v,u8n color]).cells 26)
 have hq:=hq.push (.cells (Value.agg #[u8n ty,v,u8n color]).cells 26)
 generalize H.push (.cells (Value.agg #[u8n ty,v,u8n color]).cells 26)=H1 at *
 have kx:KX G q H H1:=KX.of_ext e
 have hF:R (.bool false) H1:=hR H1 n false kx hq.get (fun h=>by cases h)
 obtain ⟨its,hs,hvs⟩:=hs
 have hil:=Zz.len hvs
 have hlen:∀k:Value->Prop,Y1 v k=k (.int .i64 gs.length):=fun k=>by rw[hs.len,hil]
 refine QD o (i:=0) (v:=u8n ty) rfl ?_
 refine cc1 o ?_
 refine or_len o (i:=1) (v:=v) rfl hlen ?_
 refine Yt (fun _=>hF) fun hb1=>?_
 refine QD o (i:=0) (v:=u8n ty) rfl ?_
 refine cc2 o ?_
 generalize hone:(decide ((ty.toNat:Int)=1)||(amb&&decide ((0:Int)<(ty.toNat:Int))))=one at *
 refine QD o (i:=1) (v:=v) rfl ?_
 rw[hlen,Yi,BinK_boolne (by kernel_rfl)]
 refine cc3 o ?_
 refine Yt (fun _=>hF) fun hb2=>?_
 rw[Yn]
 simp only[Bool.or_eq_false_iff,Bool.and_eq_false_iff,Bool.not_eq_false',decide_eq_false_iff_not,beq_iff_eq,Bool.not_eq_eq_eq_not,Bool.not_true,Bool.not_false]at hb1 hb2
 obtain ⟨⟨t3,t2⟩,l1⟩:=hb1
 obtain ⟨hlo,hco⟩:=hb2
 have hco:amb=true\/ty≠2->color=0:=fun h=>by
  rcases hco with ⟨ha,ht⟩|hc
  ·rcases h with h|h
   ·rw[ha]at h;cases h
   ·exact absurd (u8_eq (b:=2) (by simpa using ht)) h
  ·exact u8_eq (b:=0) (by simpa using hc)
 cases one
 ·have hl0:gs.length≠1:=by
   intro h
   rw[h]at hlo;simp at hlo
  have hg:gs=[]:=List.eq_nil_of_length_eq_zero (by omega)
  subst hg
  simp only[Bool.or_eq_false_iff,Bool.and_eq_false_iff,decide_eq_false_iff_not]at hone
  simp only[Bool.not_false,Ys,Y4]
  refine hR H1 n true kx hq.get fun _=>⟨?_,hco,by rw[Zj];trivial,by rw[cntL];simp,hn⟩
  obtain ⟨h1,h0⟩:=hone
  by_cases hz:ty=0
  ·exact Or.inl ⟨hz,rfl⟩
  ·refine Or.inr ⟨hz,Or.inl ?_⟩
   have hz':ty.toNat≠0:=fun h=>hz (u8_eq (b:=0) (by rw[h];rfl))
   rcases h0 with h0|h0
   ·rcases t2 with t2|t2
    ·rw[h0]at t2;cases t2
    ·exact ⟨h0,u8_eq (b:=2) (by show (ty.toNat:Int)=2;omega),rfl⟩
   ·omega
 ·have hl1:gs.length=1:=by
   have:=hlo
   simp only[decide_eq_true_eq]at this
   omega
  obtain ⟨g0,rfl⟩:=List.length_eq_one_iff.1 hl1
  have ha:[g0][0]?=some g0:=rfl
  obtain ⟨x1,hx1,hv1⟩:=Zz.get hvs ha
  have h1:∀k:Value->Prop,LdK H1 (.pointer (some ⟨H.size,1,none⟩)) k=k v:=fun k=>Ql ((Qk o.get).trans rfl)
  obtain ⟨b,bo,cs,e',fr,g1,g2,g3,g4⟩:=hs.idx e.inn (i:=0) (x:=0) rfl hx1
  have g5:∀k:Value->Prop,LdN H1 51 (.pointer (some ⟨b,bo,none⟩)) k=k (.agg x1.toArray):=fun k=>YB (n:=51) (vs:=x1) (by rw[Q0 g2 51 (by omega)];exact congrArg some g4)
  simp only[Bool.not_true,QJ,Qm,h1,g1,g5,Yg,Yv]
  rw[wrap_i64 (by omega) (by omega)]
  refine hK _ (List.mem_of_getElem? ha) G H1 x1 q n (deep-1) _ e.inn hv1 hq hn hn2 (by omega) (by omega) ?_
  intro H3 k3 b kx3 hq3 hb
  refine hR H3 k3 b (kx.trans kx3) hq3 fun h=>?_
  obtain ⟨c1,c2,c3⟩:=hb h
  refine ⟨?_,hco,?_,?_,c3⟩
  ·refine Or.inr ?_
   rw[hl1]
   simp only[Bool.or_eq_true,Bool.and_eq_true,decide_eq_true_eq]at hone
   rcases hone with h1|⟨h1,h0⟩
   ·have:ty=1:=u8_eq (b:=1) (by rw[h1];rfl)
    exact ⟨by rw[this];decide,Or.inr ⟨Or.inl this,rfl⟩⟩
   ·refine ⟨fun h=>by rw[h]at h0;exact absurd h0 (by decide),Or.inr ⟨?_,rfl⟩⟩
    have:ty.toNat=1\/ty.toNat=2\/ty.toNat=3:=by omega
    rcases this with h|h|h
    ·exact Or.inl (u8_eq (b:=1) (by rw[h];rfl))
    ·exact Or.inr ⟨h1,Or.inl (u8_eq (b:=2) (by rw[h];rfl))⟩
    ·exact Or.inr ⟨h1,Or.inr (u8_eq (b:=3) (by rw[h];rfl))⟩
  ·rw[Zj,Zj];exact ⟨c1,trivial⟩
  ·simp only[cntL];omega
end Go.Proofs
