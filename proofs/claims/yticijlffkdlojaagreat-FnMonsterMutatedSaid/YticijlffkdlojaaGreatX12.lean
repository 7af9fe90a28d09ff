/- WHAT IS PROVED: the given statement of FnMonsterMutated, whatever the input: this is part 12 of 14. No conditions. -/
import Derived.Test.YticijlffkdlojaaGreatX11
import Derived.ChangeKeysEq
import Derived.Laws.StructEq
set_option linter.all false
namespace Go.Proofs
open Go Go.Vc
open Tryz (prog)
set_option maxRecDepth 100000
def s5 (m f e:Value) (h:Qf) (R:Kn):Prop:=
 Zb h (.cells (Value.cells m) 38) fun a o=>
 Zb o (.cells z38 38) fun i b=>
 QN (fun c=>
 Qp prog .eql 5 f (.int .u8 0) fun d=>
 IfK d
 (Qh a 1 fun p=>
 LdK b p fun q=>
 Qp prog .neq 23 q (.int .i16 150) fun r=>
 QX .i16 e fun s=>
 Qh a 1 fun t=>
 StK b 1 t s fun u=>
 c [d,r] u)
 (Qp prog .eql 5 f (.int .u8 1) fun v=>
 IfK v
 (Qh a 2 fun w=>
 LdK b w fun y=>
 Qp prog .neq 23 y (.int .i16 100) fun z=>
 QX .i16 e fun a0=>
 Qh a 2 fun a1=>
 StK b 1 a1 a0 fun a2=>
 c [d,z] a2)
 (Qp prog .eql 5 f (.int .u8 2) fun a3=>
 IfK a3
 (Qh a 5 fun a4=>
 LdK b a4 fun a5=>
 Qp prog .neq 5 a5 (.int .u8 8) fun a6=>
 QX .u8 e fun a7=>
 Qh a 5 fun a8=>
 StK b 1 a8 a7 fun a9=>
 c [d,a6] a9)
 (Qp prog .eql 5 f (.int .u8 3) fun b0=>
 IfK b0
 (Qh a 15 fun b1=>
 LdK b b1 fun b2=>
 Qp prog .neq 31 e (.int .u64 0) fun b3=>
 Qh a 15 fun b4=>
 StK b 1 b4 b3 fun b5=>
 c [d,b2] b5)
 (Qp prog .eql 5 f (.int .u8 4) fun b6=>
 IfK b6
 (Qh a 16 fun b7=>
 LdK b b7 fun b8=>
 Qp prog .neq 21 b8 (.int .i32 0) fun b9=>
 QX .i32 e fun c0=>
 Qh a 16 fun c1=>
 StK b 1 c1 c0 fun c2=>
 c [d,b9] c2)
 (Qp prog .eql 5 f (.int .u8 5) fun c3=>
 IfK c3
 (Qh a 17 fun c4=>
 LdK b c4 fun c5=>
 Qp prog .neq 30 c5 (.int .u32 0) fun c6=>
 QX .u32 e fun c7=>
 Qh a 17 fun c8=>
 StK b 1 c8 c7 fun c9=>
 c [d,c6] c9)
 (Qp prog .eql 5 f (.int .u8 6) fun d0=>
 IfK d0
 (Qh a 18 fun d1=>
 LdK b d1 fun d2=>
 Qp prog .neq 2 d2 (.int .i64 0) fun d3=>
 QX .i64 e fun d4=>
 Qh a 18 fun d5=>
 StK b 1 d5 d4 fun d6=>
 c [d,d3] d6)
 (Qp prog .eql 5 f (.int .u8 7) fun d7=>
 IfK d7
 (Qh a 19 fun d8=>
 LdK b d8 fun d9=>
 Qp prog .neq 31 d9 (.int .u64 0) fun e0=>
 Qh a 19 fun e1=>
 StK b 1 e1 e fun e2=>
 c [d,e0] e2)
 (Qp prog .eql 5 f (.int .u8 8) fun e3=>
 IfK e3
 (Qh a 20 fun e4=>
 LdK b e4 fun e5=>
 Qp prog .neq 21 e5 (.int .i32 0) fun e6=>
 QX .i32 e fun e7=>
 Qh a 20 fun e8=>
 StK b 1 e8 e7 fun e9=>
 c [d,e6] e9)
 (Qp prog .eql 5 f (.int .u8 9) fun f0=>
 IfK f0
 (Qh a 21 fun f1=>
 LdK b f1 fun f2=>
 Qp prog .neq 30 f2 (.int .u32 0) fun f3=>
 QX .u32 e fun f4=>
 Qh a 21 fun f5=>
 StK b 1 f5 f4 fun f6=>
 c [d,f3] f6)
 (Qp prog .eql 5 f (.int .u8 10) fun f7=>
 IfK f7
 (Qh a 22 fun f8=>
 LdK b f8 fun f9=>
 Qp prog .neq 2 f9 (.int .i64 0) fun g0=>
 QX .i64 e fun g1=>
 Qh a 22 fun g2=>
 StK b 1 g2 g1 fun g3=>
 c [d,g0] g3)
 (Qp prog .eql 5 f (.int .u8 11) fun g4=>
 IfK g4
 (Qh a 23 fun g5=>
 LdK b g5 fun g6=>
 Qp prog .neq 31 g6 (.int .u64 0) fun g7=>
 Qh a 23 fun g8=>
 StK b 1 g8 e fun g9=>
 c [d,g7] g9)
 (Qp prog .eql 5 f (.int .u8 12) fun i0=>
 IfK i0
 (Qh a 25 fun i1=>
 LdK b i1 fun i2=>
 Qp prog .neq 30 i2 (.int .u32 1078530000) fun i3=>
 QX .u32 e fun i4=>
 Qh a 25 fun i5=>
 StK b 1 i5 i4 fun i6=>
 c [d,i3] i6)
 (Qp prog .eql 5 f (.int .u8 13) fun i7=>
 IfK i7
 (Qh a 26 fun i9=>
 LdK b i9 fun j0=>
 Qp prog .neq 30 j0 (.int .u32 1077936128) fun j1=>
 QX .u32 e fun j2=>
 Qh a 26 fun j3=>
 StK b 1 j3 j2 fun j4=>
 c [d,j1] j4)
 (Qp prog .eql 5 f (.int .u8 14) fun j5=>
 IfK j5
 (Qh a 27 fun j6=>
 LdK b j6 fun j7=>
 Qp prog .shl 30 j7 (.int .u64 1) fun j8=>
 Qp prog .neq 30 j8 (.int .u32 0) fun j9=>
 QX .u32 e fun l0=>
 Qh a 27 fun l1=>
 StK b 1 l1 l0 fun l2=>
 c [d,j9] l2)
 (Qp prog .eql 5 f (.int .u8 15) fun l3=>
 IfK l3
 (Qh a 36 fun l4=>
 LdK b l4 fun l5=>
 Qp prog .neq 31 l5 (.int .u64 0) fun l6=>
 Qh a 36 fun l7=>
 StK b 1 l7 e fun l8=>
 c [d,l6] l8)
 (Qp prog .eql 5 f (.int .u8 16) fun l9=>
 IfK l9
 (Qh a 39 fun m0=>
 LdK b m0 fun m1=>
 Qp prog .neq 31 m1 (.int .u64 0) fun m2=>
 Qh a 39 fun m3=>
 StK b 1 m3 e fun m4=>
 c [d,m2] m4)
 (Qp prog .eql 5 f (.int .u8 17) fun m5=>
 IfK m5
 (Qh a 41 fun m6=>
 LdK b m6 fun m7=>
 Qp prog .neq 31 m7 (.int .u64 0) fun m8=>
 Qh a 41 fun m9=>
 StK b 1 m9 e fun o0=>
 c [d,m8] o0)
 (Qh a 50 fun o1=>
 LdK b o1 fun o2=>
 Qp prog .neq 36 o2 (.int .i8 (-1)) fun o3=>
 QX .i8 e fun o4=>
 Qh a 50 fun o5=>
 StK b 1 o5 o4 fun o6=>
 c [d,o3] o6))))))))))))))))))) fun c=>∀o7 j:Value,∀g:Qf,c [o7,j] g->
 LdN g 51 a fun o8=>
 StK g 51 i o8 fun l=>
 LdN l 51 i fun o9=>
 R (.tuple #[o9,j]) l
theorem w5 {a b c h R} (H:s5 a b c h R):FnS prog 5 #[a,b,c] h R:=wq Tryz.func5 (by kernel_rfl) H
def s11 (o:Value) (h:Qf) (R:Kn):Prop:=
 Zb h (.cells (Value.cells o) 38) fun a p=>
 Zb p (.cells z38 38) fun g e=>
 QN (fun d=>
 Qh a 27 fun q=>
 LdK e q fun r=>
 Qp prog .eql 30 r (.int .u32 2147483648) fun s=>
 IfK s
 (Qh a 27 fun t=>
 StK e 1 t (.int .u32 0) fun u=>
 d [] u)
 (d [] e)) fun d=>∀b:Qf,d [] b->
 Qh a 11 fun v=>
 LdK b v fun w=>
 Qh a 12 fun y=>
 LdK b y fun z=>
 Qjd prog (.func (.func 44) #[] #[]) #[w] b fun a0 i=>
 Qk b i<|
 Qh a 11 fun a1=>
 Qjd prog (.func (.func 44) #[] #[]) #[z] i fun a2 a3=>
 StK a3 1 a1 a0 fun a4=>
 Qh a 12 fun a5=>
 StK a4 1 a5 a2 fun c=>
 Qh a 6 fun a6=>
 Qh a6 1 fun a7=>
 LdK c a7 fun a8=>
 Qh a 43 fun a9=>
 Qh a9 1 fun b0=>
 LdK c b0 fun b1=>
 Qh a 46 fun b2=>
 Qh b2 1 fun b3=>
 LdK c b3 fun b4=>
 Qjd prog (.func (.func 44) #[] #[]) #[a8] c fun b5 f=>
 Qk c f<|
 Qh a 6 fun b6=>
 Qh b6 1 fun b7=>
 Qjd prog (.func (.func 44) #[] #[]) #[b1] f fun b8 j=>
 Qk f j<|
 Qjd prog (.func (.func 44) #[] #[]) #[b4] j fun b9 c0=>
 StK c0 1 b7 b5 fun c1=>
 Qh a 43 fun c2=>
 Qh c2 1 fun c3=>
 StK c1 1 c3 b8 fun c4=>
 Qh a 46 fun c5=>
 Qh c5 1 fun c6=>
 StK c4 1 c6 b9 fun l=>
 LdN l 51 a fun c7=>
 StK l 51 g c7 fun m=>
 LdN m 51 g fun c8=>
 R c8 m
theorem w11 {a h R} (H:s11 a h R):FnS prog 11 #[a] h R:=wq Tryz.func11 (by kernel_rfl) H
def s13 (a25 a26:Value) (h:Qf) (R:Kn):Prop:=
 Zb h (.cells (Value.cells a25) 38) fun a a27=>
 Zb a27 (.cells (Value.cells a26) 38) fun b c4=>
 Qh a 0 fun a28=>
 LdK c4 a28 fun a29=>
 Qh b 0 fun a30=>
 LdK c4 a30 fun a31=>
 Qb prog 47 #[a29,a31] c4 fun c o3=>
 Qe c true (fun a32=>Qh a 1 fun a33=>a32 a33 o3) o3 fun a34 c5=>
 Qe c true (fun a35=>LdK c5 a34 fun a36=>a35 a36 c5) c5 fun a37 o4=>
 Qe c true (fun a38=>Qh b 1 fun a39=>a38 a39 o4) o4 fun a40 c6=>
 Qe c true (fun a41=>LdK c6 a40 fun a42=>a41 a42 c6) c6 fun a43 o5=>
 Qe c true (fun a44=>Qp prog .eql 23 a37 a43 fun a45=>a44 a45 o5) o5 fun a46 o6=>
 Yh c a46 (.bool false) fun d=>
 Qe d true (fun a47=>Qh a 2 fun a48=>a47 a48 o6) o6 fun a49 c7=>
 Qe d true (fun a50=>LdK c7 a49 fun a51=>a50 a51 c7) c7 fun a52 o7=>
 Qe d true (fun a53=>Qh b 2 fun a54=>a53 a54 o7) o7 fun a55 c8=>
 Qe d true (fun a56=>LdK c8 a55 fun a57=>a56 a57 c8) c8 fun a58 o8=>
 Qe d true (fun a59=>Qp prog .eql 23 a52 a58 fun a60=>a59 a60 o8) o8 fun a61 o9=>
 Yh d a61 (.bool false) fun e=>
 Qe e true (fun a62=>Qh a 3 fun a63=>a62 a63 o9) o9 fun a64 c9=>
 Qe e true (fun a65=>LdK c9 a64 fun a66=>a65 a66 c9) c9 fun a67 p0=>
 Qe e true (fun a68=>Qh b 3 fun a69=>a68 a69 p0) p0 fun a70 d0=>
 Qe e true (fun a71=>LdK d0 a70 fun a72=>a71 a72 d0) d0 fun a73 p1=>
 Qe e true (fun a74=>Qp prog .eql 9 a67 a73 fun a75=>a74 a75 p1) p1 fun a76 p2=>
 Yh e a76 (.bool false) fun f=>
 Qe f true (fun a77=>Qh a 4 fun a78=>a77 a78 p2) p2 fun a79 d1=>
 Qe f true (fun a80=>LdK d1 a79 fun a81=>a80 a81 d1) d1 fun a82 p3=>
 Qe f true (fun a83=>Qh b 4 fun a84=>a83 a84 p3) p3 fun a85 d2=>
 Qe f true (fun a86=>LdK d2 a85 fun a87=>a86 a87 d2) d2 fun a88 p4=>
 Qe f true (fun a89=>Qp prog .eql 9 a82 a88 fun a90=>a89 a90 p4) p4 fun a91 p5=>
 Yh f a91 (.bool false) fun g=>
 Qe g true (fun a92=>Qh a 5 fun a93=>a92 a93 p5) p5 fun a94 d3=>
 Qe g true (fun a95=>LdK d3 a94 fun a96=>a95 a96 d3) d3 fun a97 p6=>
 Qe g true (fun a98=>Qh b 5 fun a99=>a98 a99 p6) p6 fun b00 d4=>
 Qe g true (fun b01=>LdK d4 b00 fun b02=>b01 b02 d4) d4 fun b03 p7=>
 Qe g true (fun b04=>Qp prog .eql 5 a97 b03 fun b05=>b04 b05 p7) p7 fun b06 p8=>
 Yh g b06 (.bool false) fun i=>
 Qe i true (fun b07=>Qh a 6 fun b08=>b07 b08 p8) p8 fun b09 d5=>
 Qe i true (fun b10=>LdN d5 3 b09 fun b11=>b10 b11 d5) d5 fun b12 p9=>
 Qe i true (fun b13=>Qh b 6 fun b14=>b13 b14 p9) p9 fun b15 d6=>
 Qe i true (fun b16=>LdN d6 3 b15 fun b17=>b16 b17 d6) d6 fun b18 q0=>
 Qe i true (fun b19=>Qb prog 48 #[b12,b18] q0 fun b20 b21=>b19 b20 b21) q0 fun b22 q1=>
 Yh i b22 (.bool false) fun j=>
 Qe j true (fun b23=>Qh a 9 fun b24=>b23 b24 q1) q1 fun b25 d7=>
 Qe j true (fun b26=>LdK d7 b25 fun b27=>b26 b27 d7) d7 fun b28 q2=>
 Qe j true (fun b29=>Qh b 9 fun b30=>b29 b30 q2) q2 fun b31 d8=>
 Qe j true (fun b32=>LdK d8 b31 fun b33=>b32 b33 d8) d8 fun b34 q3=>
 Qe j true (fun b35=>Qb prog 49 #[b28,b34] q3 fun b36 b37=>b35 b36 b37) q3 fun b38 q4=>
 Yh j b38 (.bool false) fun l=>
 Qe l true (fun b39=>Qh a 10 fun b40=>b39 b40 q4) q4 fun b41 d9=>
 Qe l true (fun b42=>LdK d9 b41 fun b43=>b42 b43 d9) d9 fun b44 q5=>
 Qe l true (fun b45=>Qh b 10 fun b46=>b45 b46 q5) q5 fun b47 e0=>
 Qe l true (fun b48=>LdK e0 b47 fun b49=>b48 b49 e0) e0 fun b50 q6=>
 Qe l true (fun b51=>Qb prog 50 #[b44,b50] q6 fun b52 b53=>b51 b52 b53) q6 fun b54 q7=>
 Yh l b54 (.bool false) fun m=>
 Qe m true (fun b55=>Qh a 11 fun b56=>b55 b56 q7) q7 fun b57 e1=>
 Qe m true (fun b58=>LdK e1 b57 fun b59=>b58 b59 e1) e1 fun b60 q8=>
 Qe m true (fun b61=>Qh b 11 fun b62=>b61 b62 q8) q8 fun b63 e2=>
 Qe m true (fun b64=>LdK e2 b63 fun b65=>b64 b65 e2) e2 fun b66 q9=>
 Qe m true (fun b67=>Qb prog 51 #[b60,b66] q9 fun b68 b69=>b67 b68 b69) q9 fun b70 r0=>
 Yh m b70 (.bool false) fun o=>
 Qe o true (fun b71=>Qh a 12 fun b72=>b71 b72 r0) r0 fun b73 e3=>
 Qe o true (fun b74=>LdK e3 b73 fun b75=>b74 b75 e3) e3 fun b76 r1=>
 Qe o true (fun b77=>Qh b 12 fun b78=>b77 b78 r1) r1 fun b79 e4=>
 Qe o true (fun b80=>LdK e4 b79 fun b81=>b80 b81 e4) e4 fun b82 r2=>
 Qe o true (fun b83=>Qb prog 51 #[b76,b82] r2 fun b84 b85=>b83 b84 b85) r2 fun b86 r3=>
 Yh o b86 (.bool false) fun p=>
 Qe p true (fun b87=>Qh a 13 fun b88=>b87 b88 r3) r3 fun b89 e5=>
 Qe p true (fun b90=>LdK e5 b89 fun b91=>b90 b91 e5) e5 fun b92 r4=>
 Qe p true (fun b93=>Qh b 13 fun b94=>b93 b94 r4) r4 fun b95 e6=>
 Qe p true (fun b96=>LdK e6 b95 fun b97=>b96 b97 e6) e6 fun b98 r5=>
 Qe p true (fun b99=>Qp prog .eql 9 b92 b98 fun c00=>b99 c00 r5) r5 fun c01 r6=>
 Yh p c01 (.bool false) fun q=>
 Qe q true (fun c02=>Qh a 14 fun c03=>c02 c03 r6) r6 fun c04 e7=>
 Qe q true (fun c05=>LdK e7 c04 fun c06=>c05 c06 e7) e7 fun c07 r7=>
 Qe q true (fun c08=>Qh b 14 fun c09=>c08 c09 r7) r7 fun c10 e8=>
 Qe q true (fun c11=>LdK e8 c10 fun c12=>c11 c12 e8) e8 fun c13 r8=>
 Qe q true (fun c14=>Qb prog 52 #[c07,c13] r8 fun c15 c16=>c14 c15 c16) r8 fun c17 r9=>
 Yh q c17 (.bool false) fun r=>
 Qe r true (fun c18=>Qh a 15 fun c19=>c18 c19 r9) r9 fun c20 e9=>
 Qe r true (fun c21=>LdK e9 c20 fun c22=>c21 c22 e9) e9 fun c23 s0=>
 Qe r true (fun c24=>Qh b 15 fun c25=>c24 c25 s0) s0 fun c26 f0=>
 Qe r true (fun c27=>LdK f0 c26 fun c28=>c27 c28 f0) f0 fun c29 s1=>
 Qe r true (fun c30=>Qp prog .eql 4 c23 c29 fun c31=>c30 c31 s1) s1 fun c32 s2=>
 Yh r c32 (.bool false) fun s=>
 Qe s true (fun c33=>Qh a 16 fun c34=>c33 c34 s2) s2 fun c35 f1=>
 Qe s true (fun c36=>LdK f1 c35 fun c37=>c36 c37 f1) f1 fun c38 s3=>
 Qe s true (fun c39=>Qh b 16 fun c40=>c39 c40 s3) s3 fun c41 f2=>
 Qe s true (fun c42=>LdK f2 c41 fun c43=>c42 c43 f2) f2 fun c44 s4=>
 Qe s true (fun c45=>Qp prog .eql 21 c38 c44 fun c46=>c45 c46 s4) s4 fun c47 s5=>
 Yh s c47 (.bool false) fun t=>
 Qe t true (fun c48=>Qh a 17 fun c49=>c48 c49 s5) s5 fun c50 f3=>
 Qe t true (fun c51=>LdK f3 c50 fun c52=>c51 c52 f3) f3 fun c53 s6=>
 Qe t true (fun c54=>Qh b 17 fun c55=>c54 c55 s6) s6 fun c56 f4=>
 Qe t true (fun c57=>LdK f4 c56 fun c58=>c57 c58 f4) f4 fun c59 s7=>
 Qe t true (fun c60=>Qp prog .eql 30 c53 c59 fun c61=>c60 c61 s7) s7 fun c62 s8=>
 Yh t c62 (.bool false) fun u=>
 Qe u true (fun c63=>Qh a 18 fun c64=>c63 c64 s8) s8 fun c65 f5=>
 Qe u true (fun c66=>LdK f5 c65 fun c67=>c66 c67 f5) f5 fun c68 s9=>
 Qe u true (fun c69=>Qh b 18 fun c70=>c69 c70 s9) s9 fun c71 f6=>
 Qe u true (fun c72=>LdK f6 c71 fun c73=>c72 c73 f6) f6 fun c74 t0=>
 Qe u true (fun c75=>Qp prog .eql 2 c68 c74 fun c76=>c75 c76 t0) t0 fun c77 t1=>
 Yh u c77 (.bool false) fun v=>
 Qe v true (fun c78=>Qh a 19 fun c79=>c78 c79 t1) t1 fun c80 f7=>
 Qe v true (fun c81=>LdK f7 c80 fun c82=>c81 c82 f7) f7 fun c83 t2=>
 Qe v true (fun c84=>Qh b 19 fun c85=>c84 c85 t2) t2 fun c86 f8=>
 Qe v true (fun c87=>LdK f8 c86 fun c88=>c87 c88 f8) f8 fun c89 t3=>
 Qe v true (fun c90=>Qp prog .eql 31 c83 c89 fun c91=>c90 c91 t3) t3 fun c92 t4=>
 Yh v c92 (.bool false) fun w=>
 Qe w true (fun c93=>Qh a 20 fun c94=>c93 c94 t4) t4 fun c95 f9=>
 Qe w true (fun c96=>LdK f9 c95 fun c97=>c96 c97 f9) f9 fun c98 t5=>
 Qe w true (fun c99=>Qh b 20 fun d00=>c99 d00 t5) t5 fun d01 g0=>
 Qe w true (fun d02=>LdK g0 d01 fun d03=>d02 d03 g0) g0 fun d04 t6=>
 Qe w true (fun d05=>Qp prog .eql 21 c98 d04 fun d06=>d05 d06 t6) t6 fun d07 t7=>
 Yh w d07 (.bool false) fun y=>
 Qe y true (fun d08=>Qh a 21 fun d09=>d08 d09 t7) t7 fun d10 g1=>
 Qe y true (fun d11=>LdK g1 d10 fun d12=>d11 d12 g1) g1 fun d13 t8=>
 Qe y true (fun d14=>Qh b 21 fun d15=>d14 d15 t8) t8 fun d16 g2=>
 Qe y true (fun d17=>LdK g2 d16 fun d18=>d17 d18 g2) g2 fun d19 t9=>
 Qe y true (fun d20=>Qp prog .eql 30 d13 d19 fun d21=>d20 d21 t9) t9 fun d22 u0=>
 Yh y d22 (.bool false) fun z=>
 Qe z true (fun d23=>Qh a 22 fun d24=>d23 d24 u0) u0 fun d25 g3=>
 Qe z true (fun d26=>LdK g3 d25 fun d27=>d26 d27 g3) g3 fun d28 u1=>
 Qe z true (fun d29=>Qh b 22 fun d30=>d29 d30 u1) u1 fun d31 g4=>
 Qe z true (fun d32=>LdK g4 d31 fun d33=>d32 d33 g4) g4 fun d34 u2=>
 Qe z true (fun d35=>Qp prog .eql 2 d28 d34 fun d36=>d35 d36 u2) u2 fun d37 u3=>
 Yh z d37 (.bool false) fun a0=>
 Qe a0 true (fun d38=>Qh a 23 fun d39=>d38 d39 u3) u3 fun d40 g5=>
 Qe a0 true (fun d41=>LdK g5 d40 fun d42=>d41 d42 g5) g5 fun d43 u4=>
 Qe a0 true (fun d44=>Qh b 23 fun d45=>d44 d45 u4) u4 fun d46 g6=>
 Qe a0 true (fun d47=>LdK g6 d46 fun d48=>d47 d48 g6) g6 fun d49 u5=>
 Qe a0 true (fun d50=>Qp prog .eql 31 d43 d49 fun d51=>d50 d51 u5) u5 fun d52 u6=>
 Yh a0 d52 (.bool false) fun a1=>
 Qe a1 true (fun d53=>Qh a 24 fun d54=>d53 d54 u6) u6 fun d55 g7=>
 Qe a1 true (fun d56=>LdK g7 d55 fun d57=>d56 d57 g7) g7 fun d58 u7=>
 Qe a1 true (fun d59=>Qh b 24 fun d60=>d59 d60 u7) u7 fun d61 g8=>
 Qe a1 true (fun d62=>LdK g8 d61 fun d63=>d62 d63 g8) g8 fun d64 u8=>
 Qe a1 true (fun d65=>Qb prog 53 #[d58,d64] u8 fun d66 d67=>d65 d66 d67) u8 fun d68 u9=>
 Yh a1 d68 (.bool false) fun a2=>
 Qe a2 true (fun d69=>Qh a 25 fun d70=>d69 d70 u9) u9 fun d71 g9=>
 Qe a2 true (fun d72=>LdK g9 d71 fun d73=>d72 d73 g9) g9 fun d74 v0=>
 Qe a2 true (fun d75=>Qh b 25 fun d76=>d75 d76 v0) v0 fun d77 i0=>
 Qe a2 true (fun d78=>LdK i0 d77 fun d79=>d78 d79 i0) i0 fun d80 v1=>
 Qe a2 true (fun d81=>Qp prog .eql 30 d74 d80 fun d82=>d81 d82 v1) v1 fun d83 v2=>
 Yh a2 d83 (.bool false) fun a3=>
 Qe a3 true (fun d84=>Qh a 26 fun d85=>d84 d85 v2) v2 fun d86 i1=>
 Qe a3 true (fun d87=>LdK i1 d86 fun d88=>d87 d88 i1) i1 fun d89 v3=>
 Qe a3 true (fun d90=>Qh b 26 fun d91=>d90 d91 v3) v3 fun d92 i2=>
 Qe a3 true (fun d93=>LdK i2 d92 fun d94=>d93 d94 i2) i2 fun d95 v4=>
 Qe a3 true (fun d96=>Qp prog .eql 30 d89 d95 fun d97=>d96 d97 v4) v4 fun d98 v5=>
 Yh a3 d98 (.bool false) fun a4=>
 Qe a4 true (fun d99=>Qh a 27 fun e00=>d99 e00 v5) v5 fun e01 i3=>
 Qe a4 true (fun e02=>LdK i3 e01 fun e03=>e02 e03 i3) i3 fun e04 v6=>
 Qe a4 true (fun e05=>Qh b 27 fun e06=>e05 e06 v6) v6 fun e07 i4=>
 Qe a4 true (fun e08=>LdK i4 e07 fun e09=>e08 e09 i4) i4 fun e10 v7=>
 Qe a4 true (fun e11=>Qp prog .eql 30 e04 e10 fun e12=>e11 e12 v7) v7 fun e13 v8=>
 Yh a4 e13 (.bool false) fun a5=>
 Qe a5 true (fun e14=>Qh a 28 fun e15=>e14 e15 v8) v8 fun e16 i5=>
 Qe a5 true (fun e17=>LdK i5 e16 fun e18=>e17 e18 i5) i5 fun e19 v9=>
 Qe a5 true (fun e20=>Qh b 28 fun e21=>e20 e21 v9) v9 fun e22 i6=>
 Qe a5 true (fun e23=>LdK i6 e22 fun e24=>e23 e24 i6) i6 fun e25 w0=>
 Qe a5 true (fun e26=>Qb prog 50 #[e19,e25] w0 fun e27 e28=>e26 e27 e28) w0 fun e29 w1=>
 Yh a5 e29 (.bool false) fun a6=>
 Qe a6 true (fun e30=>Qh a 29 fun e31=>e30 e31 w1) w1 fun e32 i7=>
 Qe a6 true (fun e33=>LdK i7 e32 fun e34=>e33 e34 i7) i7 fun e35 w2=>
 Qe a6 true (fun e36=>Qh b 29 fun e37=>e36 e37 w2) w2 fun e38 i8=>
 Qe a6 true (fun e39=>LdK i8 e38 fun e40=>e39 e40 i8) i8 fun e41 w3=>
 Qe a6 true (fun e42=>Qb prog 54 #[e35,e41] w3 fun e43 e44=>e42 e43 e44) w3 fun e45 w4=>
 Yh a6 e45 (.bool false) fun a7=>
 Qe a7 true (fun e46=>Qh a 30 fun e47=>e46 e47 w4) w4 fun e48 i9=>
 Qe a7 true (fun e49=>LdK i9 e48 fun e50=>e49 e50 i9) i9 fun e51 w5=>
 Qe a7 true (fun e52=>Qh b 30 fun e53=>e52 e53 w5) w5 fun e54 j0=>
 Qe a7 true (fun e55=>LdK j0 e54 fun e56=>e55 e56 j0) j0 fun e57 w6=>
 Qe a7 true (fun e58=>Qp prog .eql 9 e51 e57 fun e59=>e58 e59 w6) w6 fun e60 w7=>
 Yh a7 e60 (.bool false) fun a8=>
 Qe a8 true (fun e61=>Qh a 31 fun e62=>e61 e62 w7) w7 fun e63 j1=>
 Qe a8 true (fun e64=>LdK j1 e63 fun e65=>e64 e65 j1) j1 fun e66 w8=>
 Qe a8 true (fun e67=>Qh b 31 fun e68=>e67 e68 w8) w8 fun e69 j2=>
 Qe a8 true (fun e70=>LdK j2 e69 fun e71=>e70 e71 j2) j2 fun e72 w9=>
 Qe a8 true (fun e73=>Qb prog 49 #[e66,e72] w9 fun e74 e75=>e73 e74 e75) w9 fun e76 y0=>
 Yh a8 e76 (.bool false) fun a9=>
 Qe a9 true (fun e77=>Qh a 32 fun e78=>e77 e78 y0) y0 fun e79 j3=>
 Qe a9 true (fun e80=>LdK j3 e79 fun e81=>e80 e81 j3) j3 fun e82 y1=>
 Qe a9 true (fun e83=>Qh b 32 fun e84=>e83 e84 y1) y1 fun e85 j4=>
 Qe a9 true (fun e86=>LdK j4 e85 fun e87=>e86 e87 j4) j4 fun e88 y2=>
 Qe a9 true (fun e89=>Qb prog 55 #[e82,e88] y2 fun e90 e91=>e89 e90 e91) y2 fun e92 y3=>
 Yh a9 e92 (.bool false) fun b0=>
 Qe b0 true (fun e93=>Qh a 33 fun e94=>e93 e94 y3) y3 fun e95 j5=>
 Qe b0 true (fun e96=>LdK j5 e95 fun e97=>e96 e97 j5) j5 fun e98 y4=>
 Qe b0 true (fun e99=>Qh b 33 fun f00=>e99 f00 y4) y4 fun f01 j6=>
 Qe b0 true (fun f02=>LdK j6 f01 fun f03=>f02 f03 j6) j6 fun f04 y5=>
 Qe b0 true (fun f05=>Qb prog 56 #[e98,f04] y5 fun f06 f07=>f05 f06 f07) y5 fun f08 y6=>
 Yh b0 f08 (.bool false) fun b1=>
 Qe b1 true (fun f09=>Qh a 34 fun f10=>f09 f10 y6) y6 fun f11 j7=>
 Qe b1 true (fun f12=>LdK j7 f11 fun f13=>f12 f13 j7) j7 fun f14 y7=>
 Qe b1 true (fun f15=>Qh b 34 fun f16=>f15 f16 y7) y7 fun f17 j8=>
 Qe b1 true (fun f18=>LdK j8 f17 fun f19=>f18 f19 j8) j8 fun f20 y8=>
 Qe b1 true (fun f21=>Qp prog .eql 4 f14 f20 fun f22=>f21 f22 y8) y8 fun f23 y9=>
 Yh b1 f23 (.bool false) fun b2=>
 Qe b2 true (fun f24=>Qh a 35 fun f25=>f24 f25 y9) y9 fun f26 j9=>
 Qe b2 true (fun f27=>LdK j9 f26 fun f28=>f27 f28 j9) j9 fun f29 z0=>
 Qe b2 true (fun f30=>Qh b 35 fun f31=>f30 f31 z0) z0 fun f32 l0=>
 Qe b2 true (fun f33=>LdK l0 f32 fun f34=>f33 f34 l0) l0 fun f35 z1=>
 Qe b2 true (fun f36=>Qb prog 56 #[f29,f35] z1 fun f37 f38=>f36 f37 f38) z1 fun f39 z2=>
 Yh b2 f39 (.bool false) fun b3=>
 Qe b3 true (fun f40=>Qh a 36 fun f41=>f40 f41 z2) z2 fun f42 l1=>
 Qe b3 true (fun f43=>LdK l1 f42 fun f44=>f43 f44 l1) l1 fun f45 z3=>
 Qe b3 true (fun f46=>Qh b 36 fun f47=>f46 f47 z3) z3 fun f48 l2=>
 Qe b3 true (fun f49=>LdK l2 f48 fun f50=>f49 f50 l2) l2 fun f51 z4=>
 Qe b3 true (fun f52=>Qp prog .eql 31 f45 f51 fun f53=>f52 f53 z4) z4 fun f54 z5=>
 Yh b3 f54 (.bool false) fun b4=>
 Qe b4 true (fun f55=>Qh a 37 fun f56=>f55 f56 z5) z5 fun f57 l3=>
 Qe b4 true (fun f58=>LdK l3 f57 fun f59=>f58 f59 l3) l3 fun f60 z6=>
 Qe b4 true (fun f61=>Qh b 37 fun f62=>f61 f62 z6) z6 fun f63 l4=>
 Qe b4 true (fun f64=>LdK l4 f63 fun f65=>f64 f65 l4) l4 fun f66 z7=>
 Qe b4 true (fun f67=>Qb prog 56 #[f60,f66] z7 fun f68 f69=>f67 f68 f69) z7 fun f70 z8=>
 Yh b4 f70 (.bool false) fun b5=>
 Qe b5 true (fun f71=>Qh a 38 fun f72=>f71 f72 z8) z8 fun f73 l5=>
 Qe b5 true (fun f74=>LdK l5 f73 fun f75=>f74 f75 l5) l5 fun f76 z9=>
 Qe b5 true (fun f77=>Qh b 38 fun f78=>f77 f78 z9) z9 fun f79 l6=>
 Qe b5 true (fun f80=>LdK l6 f79 fun f81=>f80 f81 l6) l6 fun f82 a00=>
 Qe b5 true (fun f83=>Qb prog 56 #[f76,f82] a00 fun f84 f85=>f83 f84 f85) a00 fun f86 a01=>
 Yh b5 f86 (.bool false) fun b6=>
 Qe b6 true (fun f87=>Qh a 39 fun f88=>f87 f88 a01) a01 fun f89 l7=>
 Qe b6 true (fun f90=>LdK l7 f89 fun f91=>f90 f91 l7) l7 fun f92 a02=>
 Qe b6 true (fun f93=>Qh b 39 fun f94=>f93 f94 a02) a02 fun f95 l8=>
 Qe b6 true (fun f96=>LdK l8 f95 fun f97=>f96 f97 l8) l8 fun f98 a03=>
 Qe b6 true (fun f99=>Qp prog .eql 31 f92 f98 fun g00=>f99 g00 a03) a03 fun g01 a04=>
 Yh b6 g01 (.bool false) fun b7=>
 Qe b7 true (fun g02=>Qh a 40 fun g03=>g02 g03 a04) a04 fun g04 l9=>
 Qe b7 true (fun g05=>LdK l9 g04 fun g06=>g05 g06 l9) l9 fun g07 a05=>
 Qe b7 true (fun g08=>Qh b 40 fun g09=>g08 g09 a05) a05 fun g10 m0=>
 Qe b7 true (fun g11=>LdK m0 g10 fun g12=>g11 g12 m0) m0 fun g13 a06=>
 Qe b7 true (fun g14=>Qb prog 56 #[g07,g13] a06 fun g15 g16=>g14 g15 g16) a06 fun g17 a07=>
 Yh b7 g17 (.bool false) fun b8=>
 Qe b8 true (fun g18=>Qh a 41 fun g19=>g18 g19 a07) a07 fun g20 m1=>
 Qe b8 true (fun g21=>LdK m1 g20 fun g22=>g21 g22 m1) m1 fun g23 a08=>
 Qe b8 true (fun g24=>Qh b 41 fun g25=>g24 g25 a08) a08 fun g26 m2=>
 Qe b8 true (fun g27=>LdK m2 g26 fun g28=>g27 g28 m2) m2 fun g29 a09=>
 Qe b8 true (fun g30=>Qp prog .eql 31 g23 g29 fun g31=>g30 g31 a09) a09 fun g32 a10=>
 Yh b8 g32 (.bool false) fun b9=>
 Qe b9 true (fun g33=>Qh a 42 fun g34=>g33 g34 a10) a10 fun g35 m3=>
 Qe b9 true (fun g36=>LdK m3 g35 fun g37=>g36 g37 m3) m3 fun g38 a11=>
 Qe b9 true (fun g39=>Qh b 42 fun g40=>g39 g40 a11) a11 fun g41 m4=>
 Qe b9 true (fun g42=>LdK m4 g41 fun g43=>g42 g43 m4) m4 fun g44 a12=>
 Qe b9 true (fun g45=>Qb prog 56 #[g38,g44] a12 fun g46 g47=>g45 g46 g47) a12 fun g48 a13=>
 Yh b9 g48 (.bool false) fun c0=>
 Qe c0 true (fun g49=>Qh a 43 fun g50=>g49 g50 a13) a13 fun g51 m5=>
 Qe c0 true (fun g52=>LdN m5 3 g51 fun g53=>g52 g53 m5) m5 fun g54 a14=>
 Qe c0 true (fun g55=>Qh b 43 fun g56=>g55 g56 a14) a14 fun g57 m6=>
 Qe c0 true (fun g58=>LdN m6 3 g57 fun g59=>g58 g59 m6) m6 fun g60 a15=>
 Qe c0 true (fun g61=>Qb prog 48 #[g54,g60] a15 fun g62 g63=>g61 g62 g63) a15 fun g64 a16=>
 Yh c0 g64 (.bool false) fun c1=>
 Qe c1 true (fun g65=>Qh a 46 fun g66=>g65 g66 a16) a16 fun g67 m7=>
 Qe c1 true (fun g68=>LdN m7 3 g67 fun g69=>g68 g69 m7) m7 fun g70 a17=>
 Qe c1 true (fun g71=>Qh b 46 fun g72=>g71 g72 a17) a17 fun g73 m8=>
 Qe c1 true (fun g74=>LdN m8 3 g73 fun g75=>g74 g75 m8) m8 fun g76 a18=>
 Qe c1 true (fun g77=>Qb prog 48 #[g70,g76] a18 fun g78 g79=>g77 g78 g79) a18 fun g80 a19=>
 Yh c1 g80 (.bool false) fun c2=>
 Qe c2 true (fun g81=>Qh a 49 fun g82=>g81 g82 a19) a19 fun g83 m9=>
 Qe c2 true (fun g84=>LdK m9 g83 fun g85=>g84 g85 m9) m9 fun g86 a20=>
 Qe c2 true (fun g87=>Qh b 49 fun g88=>g87 g88 a20) a20 fun g89 o0=>
 Qe c2 true (fun g90=>LdK o0 g89 fun g91=>g90 g91 o0) o0 fun g92 a21=>
 Qe c2 true (fun g93=>Qp prog .eql 9 g86 g92 fun g94=>g93 g94 a21) a21 fun g95 a22=>
 Yh c2 g95 (.bool false) fun c3=>
 Qe c3 true (fun g96=>Qh a 50 fun g97=>g96 g97 a22) a22 fun g98 o1=>
 Qe c3 true (fun g99=>LdK o1 g98 fun i00=>g99 i00 o1) o1 fun i01 a23=>
 Qe c3 true (fun i02=>Qh b 50 fun i03=>i02 i03 a23) a23 fun i04 o2=>
 Qe c3 true (fun i05=>LdK o2 i04 fun i06=>i05 i06 o2) o2 fun i07 a24=>
 Qe c3 true (fun i08=>Qp prog .eql 36 i01 i07 fun i09=>i08 i09 a24) a24 fun i10 i11=>
 Yh c3 i10 (.bool false) fun i12=>
 R i12 i11
theorem w13 {a b h R} (H:s13 a b h R):FnS prog 13 #[a,b] h R:=wq Tryz.func13 (by kernel_rfl) H
def s17 (o7 d m:Value) (h:Qf) (R:Kn):Prop:=
 Zb h (.cells (Value.cells o7) 38) fun a e2=>
 Q6 d fun o8=>
 LdK e2 o8 fun o9=>
 Qp prog .sub 3 o9 (.int .i64 1) fun p0=>
 Q6 d fun p1=>
 StK e2 1 p1 p0 fun a9=>
 Q6 d fun p2=>
 LdK a9 p2 fun p3=>
 Qp prog .lss 3 p3 (.int .i64 0) fun b0=>
 Qe b0 false (fun p4=>p4 m a9) a9 fun p5 e3=>
 Qe b0 false (fun p6=>Qp prog .lss 3 p5 (.int .i64 0) fun p7=>p6 p7 e3) e3 fun p8 e4=>
 Yh b0 (.bool true) p8 fun o=>
 Qe o false (fun p9=>Qh a 0 fun q0=>p9 q0 e4) e4 fun q1 b1=>
 Qe o false (fun q2=>LdK b1 q1 fun q3=>q2 q3 b1) b1 fun q4 e5=>
 Qe o false (fun q5=>YX q4 fun q6=>q5 q6 e5) e5 fun q7 e6=>
 Qe o false (fun q8=>Qp prog .gtr 3 q7 (.int .i64 1) fun q9=>q8 q9 e6) e6 fun r0 e7=>
 Yh o (.bool true) r0 fun p=>
 Qe p false (fun r1=>Qh a 12 fun r2=>r1 r2 e7) e7 fun r3 b2=>
 Qe p false (fun r4=>LdK b2 r3 fun r5=>r4 r5 b2) b2 fun r6 e8=>
 Qe p false (fun r7=>YX r6 fun r8=>r7 r8 e8) e8 fun r9 e9=>
 Qe p false (fun s0=>Qp prog .gtr 3 r9 (.int .i64 1) fun s1=>s0 s1 e9) e9 fun s2 f0=>
 Yh p (.bool true) s2 fun q=>
 Qe q false (fun s3=>Qh a 14 fun s4=>s3 s4 f0) f0 fun s5 b3=>
 Qe q false (fun s6=>LdK b3 s5 fun s7=>s6 s7 b3) b3 fun s8 f1=>
 Qe q false (fun s9=>YX s8 fun t0=>s9 t0 f1) f1 fun t1 f2=>
 Qe q false (fun t2=>Qp prog .gtr 3 t1 (.int .i64 1) fun t3=>t2 t3 f2) f2 fun t4 b=>
 Yh q (.bool true) t4 fun t5=>
 IfK t5
 (R (.bool false) b)
 (QN (fun b4=>
 Qh a 9 fun t6=>
 LdK b t6 fun t7=>
 YX t7 fun t8=>
 Qh a 10 fun t9=>
 LdK b t9 fun u0=>
 YX u0 fun u1=>
 Qh a 11 fun u2=>
 LdK b u2 fun u3=>
 YX u3 fun u4=>
 Qh a 24 fun u5=>
 LdK b u5 fun u6=>
 YX u6 fun u7=>
 Qh a 28 fun u9=>
 LdK b u9 fun v0=>
 YX v0 fun v1=>
 Qh a 29 fun v2=>
 LdK b v2 fun v3=>
 YX v3 fun v4=>
 Qh a 31 fun v5=>
 LdK b v5 fun v6=>
 YX v6 fun v7=>
 Qh a 32 fun v8=>
 LdK b v8 fun v9=>
 YX v9 fun w0=>
 Qh a 33 fun w1=>
 LdK b w1 fun w2=>
 YX w2 fun w3=>
 Qh a 35 fun w4=>
 LdK b w4 fun w5=>
 YX w5 fun w6=>
 Qh a 37 fun w7=>
 LdK b w7 fun w8=>
 YX w8 fun w9=>
 Qh a 38 fun y0=>
 LdK b y0 fun y1=>
 YX y1 fun y2=>
 Qh a 40 fun y3=>
 LdK b y3 fun y4=>
 YX y4 fun y5=>
 Qh a 42 fun y6=>
 LdK b y6 fun y7=>
 YX y7 fun y8=>
 QY b 3 14 (ZP z3.toList 14) [(0,1,t8),(1,1,u1),(2,1,u4),(3,1,u7),(4,1,v1),(5,1,v4),(6,1,v7),(7,1,w0),(8,1,w3),(9,1,w6),(10,1,w9),(11,1,y2),(12,1,y5),(13,1,y8)] fun f3 y9=>
 YX f3 fun z0=>
 YO [(.int .i64 0),(.bool false)] y9 fun f4 f5=>∀u b5:Value,∀v:Qf,f4 f5 [u,b5] v->
 Qp prog .lss 3 u z0 fun z1=>
 IfK z1
 (YG 1 f3 u fun z2=>
 LdK v z2 fun z4=>
 Qb prog 69 #[z4] v fun z5 f6=>
 Z2 prog (Op.unary .not z5) fun z6=>
 IfK z6
 (R (.bool false) f6)
 (Qp prog .add 3 u (.int .i64 1) fun z7=>
 Yf f4 f5 [z7,b5] f6))
 (b4 [b5] v)) fun b4=>∀f7:Value,∀c:Qf,b4 [f7] c->
 Qh a 3 fun z8=>
 LdK c z8 fun a00=>
 Qh a 4 fun a01=>
 LdK c a01 fun a02=>
 Qh a 13 fun a03=>
 LdK c a03 fun a04=>
 Qh a 30 fun a05=>
 LdK c a05 fun a06=>
 Qh a 49 fun a07=>
 LdK c a07 fun a08=>
 Qh a 10 fun a09=>
 LdK c a09 fun a10=>
 Qh a 28 fun a11=>
 LdK c a11 fun a12=>
 QY c 9 5 (ZP z9.toList 5) [(0,1,a00),(1,1,a02),(2,1,a04),(3,1,a06),(4,1,a08)] fun a13 b6=>
 Qk c b6<|
 Qe7 b6 9 1 16 z9 a13 a10 fun a14 f8=>
 Qk b6 f8<|
 Qe7 f8 9 1 16 z9 a14 a12 fun a15 f9=>
 QN (fun b7=>
 Qh a 14 fun a16=>
 LdK f9 a16 fun g0=>
 YX g0 fun a17=>
 YO [(.int .i64 0),a15] f9 fun g1 g2=>∀w b8:Value,∀y:Qf,g1 g2 [w,b8] y->
 Qp prog .lss 3 w a17 fun a18=>
 IfK a18
 (YG 3 g0 w fun a19=>
 LdN y 3 a19 fun a20=>
 Zb y (.cells z94 94) fun g3 a21=>
 StK a21 3 g3 a20 fun g4=>
 Qh g3 0 fun a22=>
 LdK g4 a22 fun a23=>
 QY g4 9 1 (ZP z9.toList 1) [(0,1,a23)] fun a24 a25=>
 Qe7 a25 9 1 16 z9 b8 a24 fun a26 a27=>
 Qp prog .add 3 w (.int .i64 1) fun a28=>
 Yf g1 g2 [a28,a26] a27)
 (b7 [b8] y)) fun b7=>∀b9:Value,∀g5:Qf,b7 [b9] g5->
 QN (fun c0=>
 YX b9 fun a29=>
 YO [(.int .i64 0),f7] g5 fun g6 g7=>∀z c1:Value,∀r:Qf,g6 g7 [z,c1] r->
 Qp prog .lss 3 z a29 fun a30=>
 IfK a30
 (YG 1 b9 z fun a31=>
 LdK r a31 fun a32=>
 Qf3 a32 fun a33=>
 Qp prog .gtr 3 a33 (.int .i64 300) fun a34=>
 IfK a34
 (R (.bool false) r)
 (Qp prog .add 3 z (.int .i64 1) fun a35=>
 Yf g6 g7 [a35,c1] r))
 (c0 [c1] r)) fun c0=>∀g8:Value,∀c2:Qf,c0 [g8] c2->
 QN (fun c3=>
 Qh a 0 fun a36=>
 LdK c2 a36 fun g9=>
 YX g9 fun a37=>
 YO [(.int .i64 0),g8] c2 fun i0 i1=>∀a0 c4:Value,∀a1:Qf,i0 i1 [a0,c4] a1->
 Qp prog .lss 3 a0 a37 fun a38=>
 IfK a38
 (YG 7 g9 a0 fun a39=>
 LdN a1 7 a39 fun a40=>
 Zb a1 (.cells z82 82) fun s a41=>
 StK a41 7 s a40 fun i2=>
 Qh s 0 fun a42=>
 LdK i2 a42 fun a43=>
 QX .u64 a43 fun a44=>
 Qb prog 70 #[(.int .u8 9),a44] i2 fun a45 i3=>
 Z2 prog (Op.unary .not a45) fun e=>
 Qe e false (fun a46=>Qh s 1 fun a47=>a46 a47 i3) i3 fun a48 c5=>
 Qe e false (fun a49=>LdK c5 a48 fun a50=>a49 a50 c5) c5 fun a51 i4=>
 Qe e false (fun a52=>QX .u64 a51 fun a53=>a52 a53 i4) i4 fun a54 i5=>
 Qe e false (fun a55=>Qb prog 70 #[(.int .u8 9),a54] i5 fun a56 a57=>a55 a56 a57) i5 fun a58 i6=>
 Qe e false (fun a59=>Z2 prog (Op.unary .not a58) fun a60=>a59 a60 i6) i6 fun a61 i7=>
 Yh e (.bool true) a61 fun f=>
 Qe f false (fun a62=>Qh s 2 fun a63=>a62 a63 i7) i7 fun a64 c6=>
 Qe f false (fun a65=>LdK c6 a64 fun a66=>a65 a66 c6) c6 fun a67 i8=>
 Qe f false (fun a68=>QX .u64 a67 fun a69=>a68 a69 i8) i8 fun a70 i9=>
 Qe f false (fun a71=>Qb prog 70 #[(.int .u8 9),a70] i9 fun a72 a73=>a71 a72 a73) i9 fun a74 j0=>
 Qe f false (fun a75=>Z2 prog (Op.unary .not a74) fun a76=>a75 a76 j0) j0 fun a77 j1=>
 Yh f (.bool true) a77 fun t=>
 Qe t false (fun a78=>Qh s 3 fun a79=>a78 a79 j1) j1 fun a80 c7=>
 Qe t false (fun a81=>LdK c7 a80 fun a82=>a81 a82 c7) c7 fun a83 j2=>
 Qe t false (fun a84=>Qb prog 70 #[(.int .u8 10),a83] j2 fun a85 a86=>a84 a85 a86) j2 fun a87 j3=>
 Qe t false (fun a88=>Z2 prog (Op.unary .not a87) fun a89=>a88 a89 j3) j3 fun a90 j4=>
 Yh t (.bool true) a90 fun a91=>
 IfK a91
 (R (.bool false) j4)
 (Qp prog .add 3 a0 (.int .i64 1) fun a92=>
 Yf i0 i1 [a92,c4] j4))
 (c3 [c4] a1)) fun c3=>∀j5:Value,∀c8:Qf,c3 [j5] c8->
 QN (fun c9=>
 Qh a 33 fun a93=>
 LdK c8 a93 fun j6=>
 YX j6 fun a94=>
 YO [(.int .i64 0),j5] c8 fun j7 j8=>∀a2 d0:Value,∀a3:Qf,j7 j8 [a2,d0] a3->
 Qp prog .lss 3 a2 a94 fun a95=>
 IfK a95
 (YG 1 j6 a2 fun a96=>
 LdK a3 a96 fun a97=>
 Qb prog 70 #[(.int .u8 10),a97] a3 fun a98 j9=>
 Z2 prog (Op.unary .not a98) fun a99=>
 IfK a99
 (R (.bool false) j9)
 (Qp prog .add 3 a2 (.int .i64 1) fun b00=>
 Yf j7 j8 [b00,d0] j9))
 (c9 [d0] a3)) fun c9=>∀l0:Value,∀d1:Qf,c9 [l0] d1->
 Qh a 25 fun b01=>
 LdK d1 b01 fun b02=>
 QX .u64 b02 fun b03=>
 Qb prog 70 #[(.int .u8 9),b03] d1 fun b04 l1=>
 Z2 prog (Op.unary .not b04) fun g=>
 Qe g false (fun b05=>Qh a 26 fun b06=>b05 b06 l1) l1 fun b07 d2=>
 Qe g false (fun b08=>LdK d2 b07 fun b09=>b08 b09 d2) d2 fun b10 l2=>
 Qe g false (fun b11=>QX .u64 b10 fun b12=>b11 b12 l2) l2 fun b13 l3=>
 Qe g false (fun b14=>Qb prog 70 #[(.int .u8 9),b13] l3 fun b15 b16=>b14 b15 b16) l3 fun b17 l4=>
 Qe g false (fun b18=>Z2 prog (Op.unary .not b17) fun b19=>b18 b19 l4) l4 fun b20 l5=>
 Yh g (.bool true) b20 fun i=>
 Qe i false (fun b21=>Qh a 27 fun b22=>b21 b22 l5) l5 fun b23 d3=>
 Qe i false (fun b24=>LdK d3 b23 fun b25=>b24 b25 d3) d3 fun b26 l6=>
 Qe i false (fun b27=>QX .u64 b26 fun b28=>b27 b28 l6) l6 fun b29 l7=>
 Qe i false (fun b30=>Qb prog 70 #[(.int .u8 9),b29] l7 fun b31 b32=>b30 b31 b32) l7 fun b33 l8=>
 Qe i false (fun b34=>Z2 prog (Op.unary .not b33) fun b35=>b34 b35 l8) l8 fun b36 a4=>
 Yh i (.bool true) b36 fun b37=>
 IfK b37
 (R (.bool false) a4)
 (QN (fun d4=>
 Qh a 11 fun b38=>
 LdK a4 b38 fun b39=>
 Qh a 12 fun b40=>
 LdK a4 b40 fun b41=>
 QY a4 24 2 (ZP z24.toList 2) [(0,1,b39),(1,1,b41)] fun l9 b42=>
 YX l9 fun b43=>
 YO [(.int .i64 0),l0] b42 fun m0 m1=>∀a5 d5:Value,∀a6:Qf,m0 m1 [a5,d5] a6->
 Qp prog .lss 3 a5 b43 fun b44=>
 IfK b44
 (QN (fun d6=>
 YG 1 l9 a5 fun b45=>
 LdK a6 b45 fun d7=>
 YX d7 fun b46=>
 YO [(.int .i64 0),d5] a6 fun m2 m3=>∀a7 d8:Value,∀a8:Qf,m2 m3 [a7,d8] a8->
 Qp prog .lss 3 a7 b46 fun b47=>
 IfK b47
 (YG 51 d7 a7 fun b48=>
 LdN a8 51 b48 fun b49=>
 Zb a8 (.cells z38 38) fun m4 b50=>
 StK b50 51 m4 b49 fun m5=>
 LdN m5 51 m4 fun b51=>
 Qp prog .sub 3 m (.int .i64 1) fun b52=>
 Qb prog 17 #[b51,d,b52] m5 fun b53 m6=>
 Z2 prog (Op.unary .not b53) fun b54=>
 IfK b54
 (R (.bool false) m6)
 (Qp prog .add 3 a7 (.int .i64 1) fun b55=>
 Yf m2 m3 [b55,d8] m6))
 (d6 [d7,d8] a8)) fun d6=>∀b56 m7:Value,∀m8:Qf,d6 [b56,m7] m8->
 Qp prog .add 3 a5 (.int .i64 1) fun b57=>
 Yf m0 m1 [b57,m7] m8)
 (d4 [d5] a6)) fun d4=>∀b58:Value,∀d9:Qf,d4 [b58] d9->
 Qh a 6 fun b59=>
 LdN d9 3 b59 fun b60=>
 Qb prog 71 #[b60,(.bool false),d,m] d9 fun j m9=>
 Qe j true (fun b61=>Qh a 43 fun b62=>b61 b62 m9) m9 fun b63 e0=>
 Qe j true (fun b64=>LdN e0 3 b63 fun b65=>b64 b65 e0) e0 fun b66 o0=>
 Qe j true (fun b67=>b67 d o0) o0 fun b68 o1=>
 Qe j true (fun b69=>b69 m o1) o1 fun b70 o2=>
 Qe j true (fun b71=>Qb prog 71 #[b66,(.bool false),b68,b70] o2 fun b72 b73=>b71 b72 b73) o2 fun b74 o3=>
 Yh j b74 (.bool false) fun l=>
 Qe l true (fun b75=>Qh a 46 fun b76=>b75 b76 o3) o3 fun b77 e1=>
 Qe l true (fun b78=>LdN e1 3 b77 fun b79=>b78 b79 e1) e1 fun b80 o4=>
 Qe l true (fun b81=>b81 d o4) o4 fun b82 o5=>
 Qe l true (fun b83=>b83 m o5) o5 fun b84 o6=>
 Qe l true (fun b85=>Qb prog 71 #[b80,(.bool true),b82,b84] o6 fun b86 b87=>b85 b86 b87) o6 fun b88 b89=>
 Yh l b88 (.bool false) fun b90=>
 R b90 b89))
theorem w17 {a b c h R} (H:s17 a b c h R):FnS prog 17 #[a,b,c] h R:=wq Tryz.func17 (by kernel_rfl) H
def r0a2 (a:Value) (b:Qf) (R:Kn):Prop:=
 R a b
def r0a1B (d:Value) (e:Value) (f:Value) (a:Qf) (k:Kn):Prop:=
 YG 51 d e fun g=>
 LdN a 51 g fun i=>
 Zb a (.cells z38 38) fun b j=>
 StK j 51 b i fun c=>
 LdN c 51 b fun l=>
 Qb prog 11 #[l] c fun m o=>
 QY o 38 1 (ZP z38.toList 1) [(0,51,m)] fun p q=>
 Qe7 q 38 51 736 z38 f p fun r s=>
 k r s
def r0a1 (a:Value) (h:Qf) (R:Kn):Prop:=
 QbS prog 3 a h (r0a1B a) fun b c=>r0a2 b c R
def s44 (a:Value) (h:Qf) (R:Kn):Prop:=
 r0a1 a h R
theorem w44 {a h R} (H:s44 a h R):FnS prog 44 #[a] h R:=wq Tryz.func44 (by kernel_rfl) H
theorem w47 {a b h R} (H:tp47 7 z82 82 a b h R):FnS prog 47 #[a,b] h R:=wq Tryz.func47 (by kernel_rfl) H
def s48 (r s:Value) (h:Qf) (R:Kn):Prop:=
 Zb h (.cells (Value.cells r) 26) fun d t=>
 Zb t (.cells (Value.cells s) 26) fun e c=>
 Qh d 0 fun u=>
 LdK c u fun v=>
 Qh e 0 fun w=>
 LdK c w fun y=>
 Qp prog .eql 5 v y fun a=>
 Qe a true (fun z=>Qh d 2 fun a0=>z a0 c) c fun a1 f=>
 Qe a true (fun a2=>LdK f a1 fun a3=>a2 a3 f) f fun a4 l=>
 Qe a true (fun a5=>Qh e 2 fun a6=>a5 a6 l) l fun a7 g=>
 Qe a true (fun a8=>LdK g a7 fun a9=>a8 a9 g) g fun b0 m=>
 Qe a true (fun b1=>Qp prog .eql 5 a4 b0 fun b2=>b1 b2 m) m fun b3 o=>
 Yh a b3 (.bool false) fun b=>
 Qe b true (fun b4=>Qh d 1 fun b5=>b4 b5 o) o fun b6 i=>
 Qe b true (fun b7=>LdK i b6 fun b8=>b7 b8 i) i fun b9 p=>
 Qe b true (fun c0=>Qh e 1 fun c1=>c0 c1 p) p fun c2 j=>
 Qe b true (fun c3=>LdK j c2 fun c4=>c3 c4 j) j fun c5 q=>
 Qe b true (fun c6=>Qb prog 51 #[b9,c5] q fun c7 c8=>c6 c7 c8) q fun c9 d0=>
 Yh b c9 (.bool false) fun d1=>
 R d1 d0
theorem w48 {a b h R} (H:s48 a b h R):FnS prog 48 #[a,b] h R:=wq Tryz.func48 (by kernel_rfl) H
theorem w49 {a b h R} (H:tp47 2 z87 87 a b h R):FnS prog 49 #[a,b] h R:=wq Tryz.func49 (by kernel_rfl) H
theorem w50 {a b h R} (H:tp50 9 a b h R):FnS prog 50 #[a,b] h R:=wq Tryz.func50 (by kernel_rfl) H
def s51 (c g:Value) (h:Qf) (R:Kn):Prop:=
 YX c fun p=>
 YX g fun q=>
 Qp prog .neq 3 p q fun r=>
 IfK r
 (R (.bool false) h)
 (QN (fun d=>
 YX c fun s=>
 YO [(.int .i64 0),(.bool false)] h fun i j=>∀a e:Value,∀b:Qf,i j [a,e] b->
 Qp prog .lss 3 a s fun t=>
 IfK t
 (YG 51 c a fun u=>
 LdN b 51 u fun v=>
 Zb b (.cells z38 38) fun l w=>
 StK w 51 l v fun f=>
 LdN f 51 l fun y=>
 YG 51 g a fun z=>
 LdN f 51 z fun a0=>
 Qb prog 13 #[y,a0] f fun a1 m=>
 Z2 prog (Op.unary .not a1) fun a2=>
 IfK a2
 (R (.bool false) m)
 (Qp prog .add 3 a (.int .i64 1) fun a3=>
 Yf i j [a3,e] m))
 (d [e] b)) fun d=>∀a4:Value,∀o:Qf,d [a4] o->
 R (.bool true) o)
theorem w51 {a b h R} (H:s51 a b h R):FnS prog 51 #[a,b] h R:=wq Tryz.func51 (by kernel_rfl) H
theorem w52 {a b h R} (H:tp47 3 z94 94 a b h R):FnS prog 52 #[a,b] h R:=wq Tryz.func52 (by kernel_rfl) H
theorem w53 {a b h R} (H:tp50 4 a b h R):FnS prog 53 #[a,b] h R:=wq Tryz.func53 (by kernel_rfl) H
theorem w54 {a b h R} (H:tp47 2 z100 100 a b h R):FnS prog 54 #[a,b] h R:=wq Tryz.func54 (by kernel_rfl) H
theorem w55 {a b h R} (H:tp50 2 a b h R):FnS prog 55 #[a,b] h R:=wq Tryz.func55 (by kernel_rfl) H
theorem w56 {a b h R} (H:tp50 31 a b h R):FnS prog 56 #[a,b] h R:=wq Tryz.func56 (by kernel_rfl) H
def s69 (a:Value) (h:Qf) (R:Kn):Prop:=
 Qp prog .leq 3 a (.int .i64 50) fun b=>
 R b h
theorem w69 {a h R} (H:s69 a h R):FnS prog 69 #[a] h R:=wq Tryz.func69 (by kernel_rfl) H
def s70 (a b:Value) (h:Qf) (R:Kn):Prop:=
 Qb prog 275 #[a,b] h fun c d=>
 R c d
theorem w70 {a b h R} (H:s70 a b h R):FnS prog 70 #[a,b] h R:=wq Tryz.func70 (by kernel_rfl) H
def s71 (c6 o c7 c8:Value) (h:Qf) (R:Kn):Prop:=
 Zb h (.cells (Value.cells c6) 26) fun a p=>
 Qh a 0 fun c9=>
 LdK p c9 fun d0=>
 Qp prog .gtr 5 d0 (.int .u8 3) fun d=>
 Qe d false (fun d1=>d1 o p) p fun d2 a0=>
 Qe d false (fun d3=>Z2 prog (Op.unary .not d2) fun d4=>d3 d4 a0) a0 fun d5 a1=>
 Qe d false (fun d6=>d6 d5 a1) a1 fun f a2=>
 Qe f true (fun d7=>Qh a 0 fun d8=>d7 d8 a2) a2 fun d9 q=>
 Qe f true (fun e0=>LdK q d9 fun e1=>e0 e1 q) q fun e2 a3=>
 Qe f true (fun e3=>Qp prog .gtr 5 e2 (.int .u8 2) fun e4=>e3 e4 a3) a3 fun e5 a4=>
 Qe d false (fun e6=>Yh f e5 (.bool false) fun e7=>e6 e7 a4) a4 fun e8 a5=>
 Yh d (.bool true) e8 fun e=>
 Qe e false (fun e9=>Qh a 1 fun f0=>e9 f0 a5) a5 fun f1 r=>
 Qe e false (fun f2=>LdK r f1 fun f3=>f2 f3 r) r fun f4 a6=>
 Qe e false (fun f5=>YX f4 fun f6=>f5 f6 a6) a6 fun f7 a7=>
 Qe e false (fun f8=>Qp prog .gtr 3 f7 (.int .i64 1) fun f9=>f8 f9 a7) a7 fun g0 g=>
 Yh e (.bool true) g0 fun g1=>
 IfK g1
 (R (.bool false) g)
 (Qh a 0 fun g2=>
 LdK g g2 fun g3=>
 Qp prog .eql 5 g3 (.int .u8 1) fun i=>
 Qe i false (fun g4=>g4 o g) g fun g5 a8=>
 Qe i false (fun g6=>g6 g5 a8) a8 fun j a9=>
 Qe j true (fun g7=>Qh a 0 fun g8=>g7 g8 a9) a9 fun g9 s=>
 Qe j true (fun i0=>LdK s g9 fun i1=>i0 i1 s) s fun i2 b0=>
 Qe j true (fun i3=>Qp prog .gtr 5 i2 (.int .u8 0) fun i4=>i3 i4 b0) b0 fun i5 b1=>
 Qe i false (fun i6=>Yh j i5 (.bool false) fun i7=>i6 i7 b1) b1 fun i8 t=>
 Yh i (.bool true) i8 fun b2=>
 Qh a 1 fun i9=>
 LdK t i9 fun j0=>
 YX j0 fun j1=>
 Qp prog .eql 3 j1 (.int .i64 1) fun j2=>
 Qp prog .neq 4 j2 b2 fun c=>
 Qe c false (fun j3=>j3 o t) t fun j4 b3=>
 Qe c false (fun j5=>j5 j4 b3) b3 fun l b4=>
 Qe l false (fun j6=>Qh a 0 fun j7=>j6 j7 b4) b4 fun j8 u=>
 Qe l false (fun j9=>LdK u j8 fun l0=>j9 l0 u) u fun l1 b5=>
 Qe l false (fun l2=>Qp prog .neq 5 l1 (.int .u8 2) fun l3=>l2 l3 b5) b5 fun l4 b6=>
 Qe c false (fun l5=>Yh l (.bool true) l4 fun l6=>l5 l6 b6) b6 fun l7 b7=>
 Qe c false (fun l8=>l8 l7 b7) b7 fun m b8=>
 Qe m true (fun l9=>Qh a 2 fun m0=>l9 m0 b8) b8 fun m1 v=>
 Qe m true (fun m2=>LdK v m1 fun m3=>m2 m3 v) v fun m4 b9=>
 Qe m true (fun m5=>Qp prog .neq 5 m4 (.int .u8 0) fun m6=>m5 m6 b9) b9 fun m7 c0=>
 Qe c false (fun m8=>Yh m m7 (.bool false) fun m9=>m8 m9 c0) c0 fun o0 w=>
 Yh c (.bool true) o0 fun o1=>
 IfK o1
 (R (.bool false) w)
 (Z2 prog (Op.unary .not b2) fun b=>
 Qe b false (fun o2=>Qh a 1 fun o3=>o2 o3 w) w fun o4 y=>
 Qe b false (fun o5=>LdK y o4 fun o6=>o5 o6 y) y fun o7 c1=>
 Qe b false (fun o8=>YG 51 o7 (.int .i64 0) fun o9=>o8 o9 c1) c1 fun p0 z=>
 Qe b false (fun p1=>LdN z 51 p0 fun p2=>p1 p2 z) z fun p3 c2=>
 Qe b false (fun p4=>p4 c7 c2) c2 fun p5 c3=>
 Qe b false (fun p6=>p6 c8 c3) c3 fun p7 c4=>
 Qe b false (fun p8=>Qp prog .sub 3 p7 (.int .i64 1) fun p9=>p8 p9 c4) c4 fun q0 c5=>
 Qe b false (fun q1=>Qb prog 17 #[p3,p5,q0] c5 fun q2 q3=>q1 q2 q3) c5 fun q4 q5=>
 Yh b (.bool true) q4 fun q6=>
 R q6 q5))
theorem w71 {a b c d h R} (H:s71 a b c d h R):FnS prog 71 #[a,b,c,d] h R:=wq Tryz.func71 (by kernel_rfl) H
def s275 (d b:Value) (h:Qf) (R:Kn):Prop:=
 Qp prog .eql 5 d (.int .u8 0) fun a1=>
 IfK a1
 (Qp prog .leq 31 b (.int .u64 1) fun a2=>
 R a2 h)
 (Qp prog .eql 5 d (.int .u8 9) fun a3=>
 IfK a3
 (Qp prog .lss 31 b (.int .u64 4294967296) fun a=>
 Qe a true (fun a4=>a4 b h) h fun a5 g=>
 Qe a true (fun a6=>Qp prog .shr 31 a5 (.int .u64 23) fun a7=>a6 a7 g) g fun a8 i=>
 Qe a true (fun a9=>Qp prog .and 31 a8 (.int .u64 255) fun b0=>a9 b0 i) i fun b1 j=>
 Qe a true (fun b2=>Qp prog .eql 31 b1 (.int .u64 255) fun b3=>b2 b3 j) j fun b4 l=>
 Qe a true (fun b5=>b5 b4 l) l fun e m=>
 Qe e true (fun b6=>b6 b m) m fun b7 o=>
 Qe e true (fun b8=>Qp prog .and 31 b7 (.int .u64 8388607) fun b9=>b8 b9 o) o fun c0 p=>
 Qe e true (fun c1=>Qp prog .neq 31 c0 (.int .u64 0) fun c2=>c1 c2 p) p fun c3 q=>
 Qe a true (fun c4=>Yh e c3 (.bool false) fun c5=>c4 c5 q) q fun c6 r=>
 Qe a true (fun c7=>Z2 prog (Op.unary .not c6) fun c8=>c7 c8 r) r fun c9 d0=>
 Yh a c9 (.bool false) fun d1=>
 R d1 d0)
 (Qp prog .eql 5 d (.int .u8 10) fun d2=>
 IfK d2
 (Qp prog .shr 31 b (.int .u64 52) fun d3=>
 Qp prog .and 31 d3 (.int .u64 2047) fun d4=>
 Qp prog .eql 31 d4 (.int .u64 2047) fun f=>
 Qe f true (fun d5=>d5 b h) h fun d6 s=>
 Qe f true (fun d7=>Qp prog .and 31 d6 (.int .u64 4503599627370495) fun d8=>d7 d8 s) s fun d9 t=>
 Qe f true (fun e0=>Qp prog .neq 31 d9 (.int .u64 0) fun e1=>e0 e1 t) t fun e2 e3=>
 Yh f e2 (.bool false) fun e4=>
 Z2 prog (Op.unary .not e4) fun e5=>
 R e5 e3)
 (Qb prog 350 #[d] h fun e6 u=>
 Qp prog .eql 3 e6 (.int .i64 8) fun c=>
 Qe c false (fun e7=>e7 b u) u fun e8 v=>
 Qe c false (fun e9=>e9 d v) v fun f0 w=>
 Qe c false (fun f1=>Qb prog 350 #[f0] w fun f2 f3=>f1 f2 f3) w fun f4 y=>
 Qe c false (fun f5=>Qp prog .mul 3 (.int .i64 8) f4 fun f6=>f5 f6 y) y fun f7 z=>
 Qe c false (fun f8=>Qp prog .shl 31 (.int .u64 1) f7 fun f9=>f8 f9 z) z fun g0 a0=>
 Qe c false (fun g1=>Qp prog .lss 31 e8 g0 fun g2=>g1 g2 a0) a0 fun g3 g4=>
 Yh c (.bool true) g3 fun g5=>
 R g5 g4)))
theorem w275 {a b h R} (H:s275 a b h R):FnS prog 275 #[a,b] h R:=wq Tryz.func275 (by kernel_rfl) H
def s350 (a:Value) (h:Qf) (R:Kn):Prop:=
 QN (fun b=>
 Qp prog .eql 5 a (.int .u8 0) fun i=>
 IfK i
 (b [i] h)
 (Qp prog .eql 5 a (.int .u8 1) fun j=>
 IfK j
 (b [j] h)
 (Qp prog .eql 5 a (.int .u8 2) fun s=>
 b [s] h))) fun b=>∀l:Value,∀e:Qf,b [l] e->
 IfK l
 (R (.int .i64 1) e)
 (QN (fun f=>
 Qp prog .eql 5 a (.int .u8 3) fun m=>
 IfK m
 (f [m] e)
 (Qp prog .eql 5 a (.int .u8 4) fun t=>
 f [t] e)) fun f=>∀o:Value,∀c:Qf,f [o] c->
 IfK o
 (R (.int .i64 2) c)
 (QN (fun d=>
 Qp prog .eql 5 a (.int .u8 5) fun p=>
 IfK p
 (d [p] c)
 (Qp prog .eql 5 a (.int .u8 6) fun q=>
 IfK q
 (d [q] c)
 (Qp prog .eql 5 a (.int .u8 9) fun u=>
 d [u] c))) fun d=>∀r:Value,∀g:Qf,d [r] g->
 IfK r
 (R (.int .i64 4) g)
 (R (.int .i64 8) g)))
end Go.Proofs
namespace Go.Proofs
open Go Go.Vc
open Tryz (prog)
def fOk (P:Program) (ks:List Bool) (f:Field):Bool:=
 P.plainKey f.type&&(match P.underlying f.type,ks[f.offset]? with|some (.int _),some true=>true|some .string,some false=>true|_,_=>false)
theorem eqF {P:Program} {d:Nat} {xs:Array Value} {ks:List Bool} (hx:∀i:Nat,ks[i]?=some true->∃k n,xs[i]?=some (.int k n)) (hs:∀i:Nat,ks[i]?=some false->∃s,xs[i]?=some (.string s)) (w:World):
  ∀fs:List Field,fs.all (fOk P ks)=true->(Op.eqFields (d+1) xs xs fs).run P w= .ok true w
 |[],_=>rfl
 |f::fs,h=>by
  rw[List.all_cons,Bool.and_eq_true]at h
  obtain ⟨h1,h2⟩:=h
  have ih:=eqF (d:=d) hx hs w fs h2
  unfold Op.eqFields
  split
  ·unfold fOk at h1
   rw[Bool.and_eq_true]at h1
   obtain ⟨hp,h1⟩:=h1
   split at h1
   ·rename_i k hu hk
    obtain ⟨k',n,hv⟩:=hx _ hk
    simp only[Sem.run_bind,run_part_plain w hp hv,Result.andThen_ok,run_equalIn_int w d f.type k' k n n hu]
    simpa using ih
   ·rename_i hu hk
    obtain ⟨s,hv⟩:=hs _ hk
    simp only[Sem.run_bind,run_part_plain w hp hv,Result.andThen_ok,run_equalIn_string w d f.type s s hu]
    simpa using ih
   ·cases h1
  ·exact ih
theorem Qeg {P:Program} {T:TypeId} {xs:Array Value} {ks:List Bool} (h1:P.eqGuardType P.depth T=false) (h2:P.underlying T=some (.struct (P.fieldsOf T))) (h3:P.stoodInHeld T=false) (h4:(P.fieldsOf T).toList.all (fOk P ks)=true)
  (hx:∀i:Nat,ks[i]?=some true->∃k n,xs[i]?=some (.int k n)) (hs:∀i:Nat,ks[i]?=some false->∃s,xs[i]?=some (.string s)) {k:Value->Prop}:Qp P .neq T (.agg xs) (.agg xs) k=k (.bool false):=by
 refine Qg2 fun ox oy w=>?_
 simp only[Sem.run_bind,run_eqGuard_agg w .neq T ox oy xs xs h1,Result.andThen_ok,run_neq_struct,run_equalIn_agg w 9999 T xs xs h2 h3,eqF (d:=9998) hx hs w _ h4]
 rfl
theorem neq_Vec3 {t:Qaj} {k:Value->Prop}:Qp prog .neq 82 (.agg (Zk t).toArray) (.agg (Zk t).toArray) k=k (.bool false):=by
 refine Qeg (ks:=[true,true,true,true,true,true,true]) (by kernel_rfl) (by kernel_rfl) (by kernel_rfl) (by kernel_rfl) (fun i h=>?_) (fun i h=>?_)
 ·have hi:=Q0 h
  simp only[List.length_cons,List.length_nil]at hi
  match i,hi,h with
  |0,_,_=>exact ⟨_,_,rfl⟩
  |1,_,_=>exact ⟨_,_,rfl⟩
  |2,_,_=>exact ⟨_,_,rfl⟩
  |3,_,_=>exact ⟨_,_,rfl⟩
  |4,_,_=>exact ⟨_,_,rfl⟩
  |5,_,_=>exact ⟨_,_,rfl⟩
  |6,_,_=>exact ⟨_,_,rfl⟩
 ·have hi:=Q0 h
  simp only[List.length_cons,List.length_nil]at hi
  match i,hi,h with
  |0,_,h=>cases h
  |1,_,h=>cases h
  |2,_,h=>cases h
  |3,_,h=>cases h
  |4,_,h=>cases h
  |5,_,h=>cases h
  |6,_,h=>cases h
theorem neq_Test {t:QbF} {k:Value->Prop}:Qp prog .neq 87 (.agg (Yv t).toArray) (.agg (Yv t).toArray) k=k (.bool false):=by
 refine Qeg (ks:=[true,true]) (by kernel_rfl) (by kernel_rfl) (by kernel_rfl) (by kernel_rfl) (fun i h=>?_) (fun i h=>?_)
 ·have hi:=Q0 h
  simp only[List.length_cons,List.length_nil]at hi
  match i,hi,h with
  |0,_,_=>exact ⟨_,_,rfl⟩
  |1,_,_=>exact ⟨_,_,rfl⟩
 ·have hi:=Q0 h
  simp only[List.length_cons,List.length_nil]at hi
  match i,hi,h with
  |0,_,h=>cases h
  |1,_,h=>cases h
theorem neq_Stat {t:Qaa} {k:Value->Prop}:Qp prog .neq 94 (.agg (YT t).toArray) (.agg (YT t).toArray) k=k (.bool false):=by
 refine Qeg (ks:=[false,true,true]) (by kernel_rfl) (by kernel_rfl) (by kernel_rfl) (by kernel_rfl) (fun i h=>?_) (fun i h=>?_)
 ·have hi:=Q0 h
  simp only[List.length_cons,List.length_nil]at hi
  match i,hi,h with
  |0,_,h=>cases h
  |1,_,_=>exact ⟨_,_,rfl⟩
  |2,_,_=>exact ⟨_,_,rfl⟩
 ·have hi:=Q0 h
  simp only[List.length_cons,List.length_nil]at hi
  match i,hi,h with
  |0,_,_=>exact ⟨_,rfl⟩
  |1,_,h=>cases h
  |2,_,h=>cases h
theorem neq_Ability {t:QeD} {k:Value->Prop}:Qp prog .neq 100 (.agg (Z7 t).toArray) (.agg (Z7 t).toArray) k=k (.bool false):=by
 refine Qeg (ks:=[true,true]) (by kernel_rfl) (by kernel_rfl) (by kernel_rfl) (by kernel_rfl) (fun i h=>?_) (fun i h=>?_)
 ·have hi:=Q0 h
  simp only[List.length_cons,List.length_nil]at hi
  match i,hi,h with
  |0,_,_=>exact ⟨_,_,rfl⟩
  |1,_,_=>exact ⟨_,_,rfl⟩
 ·have hi:=Q0 h
  simp only[List.length_cons,List.length_nil]at hi
  match i,hi,h with
  |0,_,h=>cases h
  |1,_,h=>cases h
theorem QcH {cs:Array Value} {o:Nat} {v:Value} (h:(cs.toList.drop o).take 1=[v]):cs[o]?=some v:=by
 have h5:((cs.toList.drop o).take 1)[0]?=some v:=by rw[h];rfl
 rw[List.getElem?_take]at h5
 have:cs.toList[o]?=some v:=by simpa using h5
 simpa using this
theorem sv_ok {G:Cut} {H:Qf} (hG:G.In H) {l:List Qaj} {v1 v2:Value} (h1:SlV G 7 v1 (l.map Zk)) (h2:SlV G 7 v2 (l.map Zk)) (hl:l.length<=50) {R:Kn} (hR:∀H',Ext G H G H'->R (.bool true) H'):FnS prog 47 #[v1,v2] H R:=by
 apply w47
 unfold tp47
 rw[h1.len,h2.len,QJ,QL (fun h=>h rfl)]
 refine QB (fun _ h=>Ext G H G h) ?_ (fun _ h he=>hR h he)
 rw[h1.len,List.length_map]
 refine ⟨fun m vs H'=>∃i y,vs=[.int .i64 (i:Nat),y]/\i+m=l.length/\Ext G H G H',⟨l.length,0,_,rfl,by omega,Ext.refl hG⟩,?_⟩
 rintro m x y H' ⟨i,y',hx,him,e⟩
 cases hx
 rw[Y9]
 by_cases hlt:i<l.length
 ·have ha:=List.getElem?_eq_getElem hlt
  rw[Yd (by omega)]
  have hone:∀x∈Zk l[i],x.oneCell'=true:=fun x hx=>by
   simp[Zk]at hx
   first
    |(rcases hx with rfl|rfl|rfl|rfl|rfl|rfl|rfl<;>rfl)
    |(rcases hx with rfl|rfl|rfl<;>rfl)
    |(rcases hx with rfl|rfl<;>rfl)
  refine Z3 h1 e.inn (i:=i) (it:=Zk l[i]) (by rw[List.getElem?_map,ha];rfl) ?_
  refine QeC (es:=7) (it:=Zk l[i]) rfl (by decide) rfl hone ?_
  have e1:=e.push (.cells (Zk l[i]).toArray 82 (0,0))
  generalize H'.push (.cells (Zk l[i]).toArray 82 (0,0))=H2 at *
  refine Z3 h2 e1.inn (i:=i) (it:=Zk l[i]) (by rw[List.getElem?_map,ha];rfl) ?_
  rw[neq_Vec3,Ql,QE,wrap_i64 (by omega) (by omega)]
  exact ⟨m-1,by omega,i+1,y,by simp,by omega,e1⟩
 ·rw[QL (by omega)]
  exact e
theorem st_ok {G:Cut} {H:Qf} (hG:G.In H) {l:List QbF} {v1 v2:Value} (h1:SlV G 2 v1 (l.map Yv)) (h2:SlV G 2 v2 (l.map Yv)) (hl:l.length<=50) {R:Kn} (hR:∀H',Ext G H G H'->R (.bool true) H'):FnS prog 49 #[v1,v2] H R:=by
 apply w49
 unfold tp47
 rw[h1.len,h2.len,QJ,QL (fun h=>h rfl)]
 refine QB (fun _ h=>Ext G H G h) ?_ (fun _ h he=>hR h he)
 rw[h1.len,List.length_map]
 refine ⟨fun m vs H'=>∃i y,vs=[.int .i64 (i:Nat),y]/\i+m=l.length/\Ext G H G H',⟨l.length,0,_,rfl,by omega,Ext.refl hG⟩,?_⟩
 rintro m x y H' ⟨i,y',hx,him,e⟩
 cases hx
 rw[Y9]
 by_cases hlt:i<l.length
 ·have ha:=List.getElem?_eq_getElem hlt
  rw[Yd (by omega)]
  have hone:∀x∈Yv l[i],x.oneCell'=true:=fun x hx=>by
   simp[Yv]at hx
   first
    |(rcases hx with rfl|rfl|rfl|rfl|rfl|rfl|rfl<;>rfl)
    |(rcases hx with rfl|rfl|rfl<;>rfl)
    |(rcases hx with rfl|rfl<;>rfl)
  refine Z3 h1 e.inn (i:=i) (it:=Yv l[i]) (by rw[List.getElem?_map,ha];rfl) ?_
  refine QeC (es:=2) (it:=Yv l[i]) rfl (by decide) rfl hone ?_
  have e1:=e.push (.cells (Yv l[i]).toArray 87 (0,0))
  generalize H'.push (.cells (Yv l[i]).toArray 87 (0,0))=H2 at *
  refine Z3 h2 e1.inn (i:=i) (it:=Yv l[i]) (by rw[List.getElem?_map,ha];rfl) ?_
  rw[neq_Test,Ql,QE,wrap_i64 (by omega) (by omega)]
  exact ⟨m-1,by omega,i+1,y,by simp,by omega,e1⟩
 ·rw[QL (by omega)]
  exact e
theorem ss_ok {G:Cut} {H:Qf} (hG:G.In H) {l:List Qaa} {v1 v2:Value} (h1:SlV G 3 v1 (l.map YT)) (h2:SlV G 3 v2 (l.map YT)) (hl:l.length<=50) {R:Kn} (hR:∀H',Ext G H G H'->R (.bool true) H'):FnS prog 52 #[v1,v2] H R:=by
 apply w52
 unfold tp47
 rw[h1.len,h2.len,QJ,QL (fun h=>h rfl)]
 refine QB (fun _ h=>Ext G H G h) ?_ (fun _ h he=>hR h he)
 rw[h1.len,List.length_map]
 refine ⟨fun m vs H'=>∃i y,vs=[.int .i64 (i:Nat),y]/\i+m=l.length/\Ext G H G H',⟨l.length,0,_,rfl,by omega,Ext.refl hG⟩,?_⟩
 rintro m x y H' ⟨i,y',hx,him,e⟩
 cases hx
 rw[Y9]
 by_cases hlt:i<l.length
 ·have ha:=List.getElem?_eq_getElem hlt
  rw[Yd (by omega)]
  have hone:∀x∈YT l[i],x.oneCell'=true:=fun x hx=>by
   simp[YT]at hx
   first
    |(rcases hx with rfl|rfl|rfl|rfl|rfl|rfl|rfl<;>rfl)
    |(rcases hx with rfl|rfl|rfl<;>rfl)
    |(rcases hx with rfl|rfl<;>rfl)
  refine Z3 h1 e.inn (i:=i) (it:=YT l[i]) (by rw[List.getElem?_map,ha];rfl) ?_
  refine QeC (es:=3) (it:=YT l[i]) rfl (by decide) rfl hone ?_
  have e1:=e.push (.cells (YT l[i]).toArray 94 (0,0))
  generalize H'.push (.cells (YT l[i]).toArray 94 (0,0))=H2 at *
  refine Z3 h2 e1.inn (i:=i) (it:=YT l[i]) (by rw[List.getElem?_map,ha];rfl) ?_
  rw[neq_Stat,Ql,QE,wrap_i64 (by omega) (by omega)]
  exact ⟨m-1,by omega,i+1,y,by simp,by omega,e1⟩
 ·rw[QL (by omega)]
  exact e
theorem sa_ok {G:Cut} {H:Qf} (hG:G.In H) {l:List QeD} {v1 v2:Value} (h1:SlV G 2 v1 (l.map Z7)) (h2:SlV G 2 v2 (l.map Z7)) (hl:l.length<=50) {R:Kn} (hR:∀H',Ext G H G H'->R (.bool true) H'):FnS prog 54 #[v1,v2] H R:=by
 apply w54
 unfold tp47
 rw[h1.len,h2.len,QJ,QL (fun h=>h rfl)]
 refine QB (fun _ h=>Ext G H G h) ?_ (fun _ h he=>hR h he)
 rw[h1.len,List.length_map]
 refine ⟨fun m vs H'=>∃i y,vs=[.int .i64 (i:Nat),y]/\i+m=l.length/\Ext G H G H',⟨l.length,0,_,rfl,by omega,Ext.refl hG⟩,?_⟩
 rintro m x y H' ⟨i,y',hx,him,e⟩
 cases hx
 rw[Y9]
 by_cases hlt:i<l.length
 ·have ha:=List.getElem?_eq_getElem hlt
  rw[Yd (by omega)]
  have hone:∀x∈Z7 l[i],x.oneCell'=true:=fun x hx=>by
   simp[Z7]at hx
   first
    |(rcases hx with rfl|rfl|rfl|rfl|rfl|rfl|rfl<;>rfl)
    |(rcases hx with rfl|rfl|rfl<;>rfl)
    |(rcases hx with rfl|rfl<;>rfl)
  refine Z3 h1 e.inn (i:=i) (it:=Z7 l[i]) (by rw[List.getElem?_map,ha];rfl) ?_
  refine QeC (es:=2) (it:=Z7 l[i]) rfl (by decide) rfl hone ?_
  have e1:=e.push (.cells (Z7 l[i]).toArray 100 (0,0))
  generalize H'.push (.cells (Z7 l[i]).toArray 100 (0,0))=H2 at *
  refine Z3 h2 e1.inn (i:=i) (it:=Z7 l[i]) (by rw[List.getElem?_map,ha];rfl) ?_
  rw[neq_Ability,Ql,QE,wrap_i64 (by omega) (by omega)]
  exact ⟨m-1,by omega,i+1,y,by simp,by omega,e1⟩
 ·rw[QL (by omega)]
  exact e
theorem sstr_ok {G:Cut} {H:Qf} (hG:G.In H) {l:List (List UInt8)} {v1 v2:Value} (h1:SlV G 1 v1 (l.map QgD)) (h2:SlV G 1 v2 (l.map QgD)) (hl:l.length<=50) {R:Kn} (hR:∀H',Ext G H G H'->R (.bool true) H'):FnS prog 50 #[v1,v2] H R:=by
 apply w50
 unfold tp50
 rw[h1.len,h2.len,QJ,QL (fun h=>h rfl)]
 refine QB (fun _ h=>Ext G H G h) ?_ (fun _ h he=>hR h he)
 rw[h1.len,List.length_map]
 refine ⟨fun m vs H'=>∃i y,vs=[.int .i64 (i:Nat),y]/\i+m=l.length/\Ext G H G H',⟨l.length,0,_,rfl,by omega,Ext.refl hG⟩,?_⟩
 rintro m x y H' ⟨i,y',hx,him,e⟩
 cases hx
 rw[Y9]
 by_cases hlt:i<l.length
 ·have ha:=List.getElem?_eq_getElem hlt
  rw[Yd (by omega)]
  obtain ⟨b,o,cs,e',fr,g1,g2,g3,g4⟩:=h1.idx e.inn (i:=i) rfl (it:=QgD l[i]) (by rw[List.getElem?_map,ha];rfl)
  obtain ⟨b',o',cs',e'',fr',g1',g2',g3',g4'⟩:=h2.idx e.inn (i:=i) rfl (it:=QgD l[i]) (by rw[List.getElem?_map,ha];rfl)
  rw[g1,Qj ((Qi g2).trans (QcH g4)),g1',Qj ((Qi g2').trans (QcH g4'))]
  rw[BinK_strne]
  have:(!((ByteArray.mk l[i].toArray).toList==(ByteArray.mk l[i].toArray).toList))=false:=by simp
  rw[this,Ql,QE,wrap_i64 (by omega) (by omega)]
  exact ⟨m-1,by omega,i+1,y,by simp,by omega,e⟩
 ·rw[QL (by omega)]
  exact e
theorem sbool_ok {G:Cut} {H:Qf} (hG:G.In H) {l:List Bool} {v1 v2:Value} (h1:SlV G 1 v1 (l.map Qja)) (h2:SlV G 1 v2 (l.map Qja)) (hl:l.length<=50) {R:Kn} (hR:∀H',Ext G H G H'->R (.bool true) H'):FnS prog 53 #[v1,v2] H R:=by
 apply w53
 unfold tp50
 rw[h1.len,h2.len,QJ,QL (fun h=>h rfl)]
 refine QB (fun _ h=>Ext G H G h) ?_ (fun _ h he=>hR h he)
 rw[h1.len,List.length_map]
 refine ⟨fun m vs H'=>∃i y,vs=[.int .i64 (i:Nat),y]/\i+m=l.length/\Ext G H G H',⟨l.length,0,_,rfl,by omega,Ext.refl hG⟩,?_⟩
 rintro m x y H' ⟨i,y',hx,him,e⟩
 cases hx
 rw[Y9]
 by_cases hlt:i<l.length
 ·have ha:=List.getElem?_eq_getElem hlt
  rw[Yd (by omega)]
  obtain ⟨b,o,cs,e',fr,g1,g2,g3,g4⟩:=h1.idx e.inn (i:=i) rfl (it:=Qja l[i]) (by rw[List.getElem?_map,ha];rfl)
  obtain ⟨b',o',cs',e'',fr',g1',g2',g3',g4'⟩:=h2.idx e.inn (i:=i) rfl (it:=Qja l[i]) (by rw[List.getElem?_map,ha];rfl)
  rw[g1,Qj ((Qi g2).trans (QcH g4)),g1',Qj ((Qi g2').trans (QcH g4'))]
  rw[Qhn (by kernel_rfl)]
  have:(!(l[i]==l[i]))=false:=by simp
  rw[this,Ql,QE,wrap_i64 (by omega) (by omega)]
  exact ⟨m-1,by omega,i+1,y,by simp,by omega,e⟩
 ·rw[QL (by omega)]
  exact e
theorem si64_ok {G:Cut} {H:Qf} (hG:G.In H) {l:List UInt64} {v1 v2:Value} (h1:SlV G 1 v1 (l.map i64I)) (h2:SlV G 1 v2 (l.map i64I)) (hl:l.length<=50) {R:Kn} (hR:∀H',Ext G H G H'->R (.bool true) H'):FnS prog 55 #[v1,v2] H R:=by
 apply w55
 unfold tp50
 rw[h1.len,h2.len,QJ,QL (fun h=>h rfl)]
 refine QB (fun _ h=>Ext G H G h) ?_ (fun _ h he=>hR h he)
 rw[h1.len,List.length_map]
 refine ⟨fun m vs H'=>∃i y,vs=[.int .i64 (i:Nat),y]/\i+m=l.length/\Ext G H G H',⟨l.length,0,_,rfl,by omega,Ext.refl hG⟩,?_⟩
 rintro m x y H' ⟨i,y',hx,him,e⟩
 cases hx
 rw[Y9]
 by_cases hlt:i<l.length
 ·have ha:=List.getElem?_eq_getElem hlt
  rw[Yd (by omega)]
  obtain ⟨b,o,cs,e',fr,g1,g2,g3,g4⟩:=h1.idx e.inn (i:=i) rfl (it:=i64I l[i]) (by rw[List.getElem?_map,ha];rfl)
  obtain ⟨b',o',cs',e'',fr',g1',g2',g3',g4'⟩:=h2.idx e.inn (i:=i) rfl (it:=i64I l[i]) (by rw[List.getElem?_map,ha];rfl)
  rw[g1,Qj ((Qi g2).trans (QcH g4)),g1',Qj ((Qi g2').trans (QcH g4'))]
  rw[QJ,QL (fun h=>h rfl),QE,wrap_i64 (by omega) (by omega)]
  exact ⟨m-1,by omega,i+1,y,by simp,by omega,e⟩
 ·rw[QL (by omega)]
  exact e
theorem Qi7 {G:Cut} {H:Qf} (hG:G.In H) {l:List UInt64} {v1 v2:Value} (h1:SlV G 1 v1 (l.map Qdw)) (h2:SlV G 1 v2 (l.map Qdw)) (hl:l.length<=50) {R:Kn} (hR:∀H',Ext G H G H'->R (.bool true) H'):FnS prog 56 #[v1,v2] H R:=by
 apply w56
 unfold tp50
 rw[h1.len,h2.len,QJ,QL (fun h=>h rfl)]
 refine QB (fun _ h=>Ext G H G h) ?_ (fun _ h he=>hR h he)
 rw[h1.len,List.length_map]
 refine ⟨fun m vs H'=>∃i y,vs=[.int .i64 (i:Nat),y]/\i+m=l.length/\Ext G H G H',⟨l.length,0,_,rfl,by omega,Ext.refl hG⟩,?_⟩
 rintro m x y H' ⟨i,y',hx,him,e⟩
 cases hx
 rw[Y9]
 by_cases hlt:i<l.length
 ·have ha:=List.getElem?_eq_getElem hlt
  rw[Yd (by omega)]
  obtain ⟨b,o,cs,e',fr,g1,g2,g3,g4⟩:=h1.idx e.inn (i:=i) rfl (it:=Qdw l[i]) (by rw[List.getElem?_map,ha];rfl)
  obtain ⟨b',o',cs',e'',fr',g1',g2',g3',g4'⟩:=h2.idx e.inn (i:=i) rfl (it:=Qdw l[i]) (by rw[List.getElem?_map,ha];rfl)
  rw[g1,Qj ((Qi g2).trans (QcH g4)),g1',Qj ((Qi g2').trans (QcH g4'))]
  rw[QJ,QL (fun h=>h rfl),QE,wrap_i64 (by omega) (by omega)]
  exact ⟨m-1,by omega,i+1,y,by simp,by omega,e⟩
 ·rw[QL (by omega)]
  exact e
def Qh1 (g:GM):Prop:=∀(G:Cut) (H:Qf) (c1 c2:List Value) (R:Kn),G.In H->ZV G g c1->ZV G g c2->LenM g->(∀H',Ext G H G H'->R (.bool true) H')->FnS prog 13 #[.agg c1.toArray,.agg c2.toArray] H R
theorem sm_ok {G:Cut} {H:Qf} (hG:G.In H) {gs:List GM} {v1 v2:Value} (h1:QaJ G gs v1) (h2:QaJ G gs v2) (hK:∀g∈gs,Qh1 g) (hL:QhB gs) (hl:gs.length<=50) {R:Kn} (hR:∀H',Ext G H G H'->R (.bool true) H'):FnS prog 51 #[v1,v2] H R:=by
 obtain ⟨i1,s1,w1⟩:=h1
 obtain ⟨i2,s2,w2⟩:=h2
 have l1:=Zf.len w1
 have l2:=Zf.len w2
 apply w51
 unfold s51
 rw[s1.len,s2.len,<-l1,<-l2,QJ,QL (fun h=>h rfl)]
 refine QB (fun _ h=>Ext G H G h) ?_ (fun _ h he=>hR h he)
 rw[s1.len,<-l1]
 refine ⟨fun m vs H'=>∃i y,vs=[.int .i64 (i:Nat),y]/\i+m=gs.length/\Ext G H G H',⟨gs.length,0,_,rfl,by omega,Ext.refl hG⟩,?_⟩
 rintro m x y H' ⟨i,y',hx,him,e⟩
 cases hx
 rw[Y9]
 by_cases hlt:i<gs.length
 ·have ha:=List.getElem?_eq_getElem hlt
  rw[Yd (by omega)]
  obtain ⟨x1,hx1,hv1⟩:=Zf.get w1 ha
  obtain ⟨x2,hx2,hv2⟩:=Zf.get w2 ha
  refine Z3 s1 e.inn (i:=i) hx1 ?_
  refine QeC hv1.len (by decide) rfl (ZV.one hv1) ?_
  have e1:=e.push (.cells x1.toArray 38 (0,0))
  generalize H'.push (.cells x1.toArray 38 (0,0))=H2 at *
  refine Z3 s2 e1.inn (i:=i) hx2 ?_
  refine hK _ (List.mem_of_getElem? ha) G H2 x1 x2 _ e1.inn hv1 hv2 (QhB.get hL _ (List.mem_of_getElem? ha)) ?_
  intro H3 e3
  rw[Yl]
  show IfK (.bool false) _ _
  rw[Ql,QE,wrap_i64 (by omega) (by omega)]
  exact ⟨m-1,by omega,i+1,y,by simp,by omega,e1.trans e3⟩
 ·rw[QL (by omega)]
  exact e
section
variable {H0:Qf} {G:Cut} {H:Qf} {q2 q3:Nat} {c1 c2:List Value} {t1 t2:TypeId} (o1:Ym H0 G H q2 (.cells c1.toArray t1 (0,0))) (o2:Ym H0 G H q3 (.cells c2.toArray t2 (0,0)))
include o1 o2
theorem Qap {P:Program} {t:TypeId} {i:Nat} {a b:Value} (ha:c1[i]?=some a) (hb:c2[i]?=some b) (he:∀k:Value->Prop,Qp P .eql t a b k=k (.bool true)) {K:Kn} (hk:K (.bool true) H):
  Qe (.bool true) true (fun k1=>Qh (ptr q2) i fun x=>k1 x H) H fun y1 h1=>Qe (.bool true) true (fun k2=>LdK h1 y1 fun x=>k2 x h1) h1 fun y2 h2=>Qe (.bool true) true (fun k3=>Qh (ptr q3) i fun x=>k3 x h2) h2 fun y3 h3=>
   Qe (.bool true) true (fun k4=>LdK h3 y3 fun x=>k4 x h3) h3 fun y4 h4=>Qe (.bool true) true (fun k5=>Qp P .eql t y2 y4 fun x=>k5 x h4) h4 fun y5 h5=>Yh (.bool true) y5 (.bool false) fun x=>K x h5:=by
 rw[Yc,Qo]
 dsimp only
 rw[Yc,Qj ((Qi o1.get).trans (by simpa using ha))]
 dsimp only
 rw[Yc,Qo]
 dsimp only
 rw[Yc,Qj ((Qi o2.get).trans (by simpa using hb))]
 dsimp only
 rw[Yc,he]
 dsimp only
 rw[Yr]
 exact hk
theorem Qa4 {P:Program} {f:FuncId} {i:Nat} {a b:Value} (ha:c1[i]?=some a) (hb:c2[i]?=some b) {K:Kn} (hk:FnS P f #[a,b] H fun v h=>Yh (.bool true) v (.bool false) fun x=>K x h):
  Qe (.bool true) true (fun k1=>Qh (ptr q2) i fun x=>k1 x H) H fun y1 h1=>Qe (.bool true) true (fun k2=>LdK h1 y1 fun x=>k2 x h1) h1 fun y2 h2=>Qe (.bool true) true (fun k3=>Qh (ptr q3) i fun x=>k3 x h2) h2 fun y3 h3=>
   Qe (.bool true) true (fun k4=>LdK h3 y3 fun x=>k4 x h3) h3 fun y4 h4=>Qe (.bool true) true (fun k5=>Qb P f #[y2,y4] h4 fun x h=>k5 x h) h4 fun y5 h5=>Yh (.bool true) y5 (.bool false) fun x=>K x h5:=by
 rw[Yc,Qo]
 dsimp only
 rw[Yc,Qj ((Qi o1.get).trans (by simpa using ha))]
 dsimp only
 rw[Yc,Qo]
 dsimp only
 rw[Yc,Qj ((Qi o2.get).trans (by simpa using hb))]
 dsimp only
 rw[Yc]
 exact hk
theorem cmp_callN {P:Program} {f:FuncId} {i n:Nat} {a b:List Value} (ha:(c1.drop i).take n=a) (hla:i+n<=c1.length) (hb:(c2.drop i).take n=b) (hlb:i+n<=c2.length) {K:Kn} (hk:FnS P f #[.agg a.toArray,.agg b.toArray] H fun v h=>Yh (.bool true) v (.bool false) fun x=>K x h):
  Qe (.bool true) true (fun k1=>Qh (ptr q2) i fun x=>k1 x H) H fun y1 h1=>Qe (.bool true) true (fun k2=>LdN h1 n y1 fun x=>k2 x h1) h1 fun y2 h2=>Qe (.bool true) true (fun k3=>Qh (ptr q3) i fun x=>k3 x h2) h2 fun y3 h3=>
   Qe (.bool true) true (fun k4=>LdN h3 n y3 fun x=>k4 x h3) h3 fun y4 h4=>Qe (.bool true) true (fun k5=>Qb P f #[y2,y4] h4 fun x h=>k5 x h) h4 fun y5 h5=>Yh (.bool true) y5 (.bool false) fun x=>K x h5:=by
 rw[Yc,Qo]
 dsimp only
 rw[Yc,YL (n:=n) (vs:=a) (by rw[Q5 o1.get n (by simpa using hla),Nat.add_zero];simpa using ha)]
 dsimp only
 rw[Yc,Qo]
 dsimp only
 rw[Yc,YL (n:=n) (vs:=b) (by rw[Q5 o2.get n (by simpa using hlb),Nat.add_zero];simpa using hb)]
 dsimp only
 rw[Yc]
 exact hk
end
theorem Qbl {P:Program} {t:TypeId} {κ:IntKind} {a:Int} (k:Value->Prop):Qp P .eql t (.int κ a) (.int κ a) k=k (.bool true):=by rw[Yo,decide_eq_true rfl]
theorem eq_str {P:Program} {t:TypeId} {a:ByteArray} (k:Value->Prop):Qp P .eql t (.string a) (.string a) k=k (.bool true):=by
 rw[BinK_streq]
 have:(a.toList==a.toList)=true:=by simp
 rw[this]
theorem eq_bool {P:Program} {t:TypeId} (ht:P.underlying t=some .bool) {a:Bool} (k:Value->Prop):Qp P .eql t (.bool a) (.bool a) k=k (.bool true):=by
 rw[BinK_booleq ht]
 have:(a==a)=true:=by simp
 rw[this]
theorem Qho {G:Cut} {H:Qf} (hG:G.In H) {ty color:UInt8} {gs:List GM} {v1 v2:Value} (h1:QaJ G gs v1) (h2:QaJ G gs v2) (hK:∀g∈gs,Qh1 g) (hL:QhB gs) (hl:gs.length<=50) {R:Kn} (hR:∀H',Ext G H G H'->R (.bool true) H'):FnS prog 48 #[.agg #[u8n ty,v1,u8n color],.agg #[u8n ty,v2,u8n color]] H R:=by
 apply w48
 unfold s48
 rw[Q2,Q2]
 have e:=Ext.refl hG
 have o1:Ym H G (H.push (.cells (Value.agg #[u8n ty,v1,u8n color]).cells 26)) H.size (.cells [u8n ty,v1,u8n color].toArray 26 (0,0)):=Ym.fresh e _
 have e:=e.push (.cells (Value.agg #[u8n ty,v1,u8n color]).cells 26)
 generalize H.push (.cells (Value.agg #[u8n ty,v1,u8n color]).cells 26)=H1 at *
 have o2:Ym H G (H1.push (.cells (Value.agg #[u8n ty,v2,u8n color]).cells 26)) H1.size (.cells [u8n ty,v2,u8n color].toArray 26 (0,0)):=Ym.fresh e _
 have o1:=o1.push (.cells (Value.agg #[u8n ty,v2,u8n color]).cells 26)
 have e:=e.push (.cells (Value.agg #[u8n ty,v2,u8n color]).cells 26)
 generalize H1.push (.cells (Value.agg #[u8n ty,v2,u8n color]).cells 26)=H2 at *
 refine Qy o1 (i:=0) (v:=u8n ty) rfl ?_
 refine Qy o2 (i:=0) (v:=u8n ty) rfl ?_
 rw[Qbl]
 refine Qap o1 o2 (i:=2) (a:=u8n color) (b:=u8n color) rfl rfl Qbl ?_
 refine Qa4 o1 o2 (i:=1) (a:=v1) (b:=v2) rfl rfl ?_
 refine sm_ok e.inn h1 h2 hK hL hl ?_
 intro H3 e3
 rw[Yr]
 exact hR H3 (e.trans e3)
set_option maxHeartbeats 1000000 in
set_option maxRecDepth 8000 in
theorem sameStep {d:ZT} {pos:List Qaj} {empty:List Qaa} {tables enemy test uniq amb:List GM} (hT:∀k∈tables,Qh1 k) (hE:∀k∈enemy,Qh1 k) (hU:∀k∈test,Qh1 k) (hQ:∀k∈uniq,Qh1 k) (hA:∀k∈amb,Qh1 k):Qh1 (.mk d pos empty tables enemy test uniq amb):=by
 intro G H cells1 cells2 R hG hv1 hv2 hlm hR
 rw[ZV]at hv1 hv2
 obtain ⟨c,rfl,g,wT,wE,wU,wQ,wA⟩:=hv1
 obtain ⟨c',rfl,g',wT',wE',wU',wQ',wA'⟩:=hv2
 rw[LenM]at hlm
 obtain ⟨⟨l0,l1,l2,l3,l4,l5,l6,l7,l8,l9⟩,⟨l10,l11,l12,l13,l14,l15,l16,l17,l18,l19⟩,mT,mE,mU,mQ,mA⟩:=hlm
 apply w13
 unfold s13
 rw[Q2,Q2]
 have e:=Ext.refl hG
 have o1:Ym H G (H.push (.cells (Value.agg (QC d c).toArray).cells 38)) H.size (.cells (QC d c).toArray 38 (0,0)):=Ym.fresh e _
 have e:=e.push (.cells (Value.agg (QC d c).toArray).cells 38)
 generalize H.push (.cells (Value.agg (QC d c).toArray).cells 38)=H1 at *
 have o2:Ym H G (H1.push (.cells (Value.agg (QC d c').toArray).cells 38)) H1.size (.cells (QC d c').toArray 38 (0,0)):=Ym.fresh e _
 have o1:=o1.push (.cells (Value.agg (QC d c').toArray).cells 38)
 have e:=e.push (.cells (Value.agg (QC d c').toArray).cells 38)
 generalize H1.push (.cells (Value.agg (QC d c').toArray).cells 38)=H2 at *
 refine Qy o1 (i:=0) (v:=c.pos) rfl ?_
 refine Qy o2 (i:=0) (v:=c'.pos) rfl ?_
 refine sv_ok e.inn g.pos g'.pos l0 ?_
 intro H3 e3
 have e:=e.trans e3
 have o1:=o1.ext e3
 have o2:=o2.ext e3
 clear e3
 refine Qap o1 o2 (i:=1) (a:=Qce d.mana) (b:=Qce d.mana) rfl rfl (Qbl) ?_
 refine Qap o1 o2 (i:=2) (a:=Qce d.hp) (b:=Qce d.hp) rfl rfl (Qbl) ?_
 refine Qap o1 o2 (i:=3) (a:=YM d.name) (b:=YM d.name) rfl rfl (eq_str) ?_
 refine Qap o1 o2 (i:=4) (a:=YM d.inventory) (b:=YM d.inventory) rfl rfl (eq_str) ?_
 refine Qap o1 o2 (i:=5) (a:=u8n d.color) (b:=u8n d.color) rfl rfl (Qbl) ?_
 refine cmp_callN o1 o2 (i:=6) (n:=3) (a:=[u8n d.testTy,c.test,u8n d.testColor]) (b:=[u8n d.testTy,c'.test,u8n d.testColor]) rfl (by rw[Y7];decide) rfl (by rw[Y7];decide) ?_
 refine Qho e.inn wU wU' hU mU l7 ?_
 intro H3 e3
 rw[Yr]
 have e:=e.trans e3
 have o1:=o1.ext e3
 have o2:=o2.ext e3
 clear e3
 refine Qa4 o1 o2 (i:=9) (a:=c.test4) (b:=c'.test4) rfl rfl ?_
 refine st_ok e.inn g.test4 g'.test4 l2 ?_
 intro H3 e3
 rw[Yr]
 have e:=e.trans e3
 have o1:=o1.ext e3
 have o2:=o2.ext e3
 clear e3
 refine Qa4 o1 o2 (i:=10) (a:=c.strings) (b:=c'.strings) rfl rfl ?_
 refine sstr_ok e.inn g.strings g'.strings l10 ?_
 intro H3 e3
 rw[Yr]
 have e:=e.trans e3
 have o1:=o1.ext e3
 have o2:=o2.ext e3
 clear e3
 refine Qa4 o1 o2 (i:=11) (a:=c.tables) (b:=c'.tables) rfl rfl ?_
 refine sm_ok e.inn wT wT' hT mT l5 ?_
 intro H3 e3
 rw[Yr]
 have e:=e.trans e3
 have o1:=o1.ext e3
 have o2:=o2.ext e3
 clear e3
 refine Qa4 o1 o2 (i:=12) (a:=c.enemy) (b:=c'.enemy) rfl rfl ?_
 refine sm_ok e.inn wE wE' hE mE l6 ?_
 intro H3 e3
 rw[Yr]
 have e:=e.trans e3
 have o1:=o1.ext e3
 have o2:=o2.ext e3
 clear e3
 refine Qap o1 o2 (i:=13) (a:=YM d.nested) (b:=YM d.nested) rfl rfl (eq_str) ?_
 refine Qa4 o1 o2 (i:=14) (a:=c.empty) (b:=c'.empty) rfl rfl ?_
 refine ss_ok e.inn g.empty g'.empty l1 ?_
 intro H3 e3
 rw[Yr]
 have e:=e.trans e3
 have o1:=o1.ext e3
 have o2:=o2.ext e3
 clear e3
 refine Qap o1 o2 (i:=15) (a:=.bool d.bool) (b:=.bool d.bool) rfl rfl (eq_bool (by kernel_rfl)) ?_
 refine Qap o1 o2 (i:=16) (a:=Qgn d.s32) (b:=Qgn d.s32) rfl rfl (Qbl) ?_
 refine Qap o1 o2 (i:=17) (a:=Z4 d.u32) (b:=Z4 d.u32) rfl rfl (Qbl) ?_
 refine Qap o1 o2 (i:=18) (a:=QdW d.s64) (b:=QdW d.s64) rfl rfl (Qbl) ?_
 refine Qap o1 o2 (i:=19) (a:=Zc d.u64) (b:=Zc d.u64) rfl rfl (Qbl) ?_
 refine Qap o1 o2 (i:=20) (a:=Qgn d.s32a) (b:=Qgn d.s32a) rfl rfl (Qbl) ?_
 refine Qap o1 o2 (i:=21) (a:=Z4 d.u32a) (b:=Z4 d.u32a) rfl rfl (Qbl) ?_
 refine Qap o1 o2 (i:=22) (a:=QdW d.s64a) (b:=QdW d.s64a) rfl rfl (Qbl) ?_
 refine Qap o1 o2 (i:=23) (a:=Zc d.u64a) (b:=Zc d.u64a) rfl rfl (Qbl) ?_
 refine Qa4 o1 o2 (i:=24) (a:=c.bools) (b:=c'.bools) rfl rfl ?_
 refine sbool_ok e.inn g.bools g'.bools l11 ?_
 intro H3 e3
 rw[Yr]
 have e:=e.trans e3
 have o1:=o1.ext e3
 have o2:=o2.ext e3
 clear e3
 refine Qap o1 o2 (i:=25) (a:=Z4 d.f) (b:=Z4 d.f) rfl rfl (Qbl) ?_
 refine Qap o1 o2 (i:=26) (a:=Z4 d.f2) (b:=Z4 d.f2) rfl rfl (Qbl) ?_
 refine Qap o1 o2 (i:=27) (a:=Z4 d.f3) (b:=Z4 d.f3) rfl rfl (Qbl) ?_
 refine Qa4 o1 o2 (i:=28) (a:=c.strings2) (b:=c'.strings2) rfl rfl ?_
 refine sstr_ok e.inn g.strings2 g'.strings2 l12 ?_
 intro H3 e3
 rw[Yr]
 have e:=e.trans e3
 have o1:=o1.ext e3
 have o2:=o2.ext e3
 clear e3
 refine Qa4 o1 o2 (i:=29) (a:=c.abil) (b:=c'.abil) rfl rfl ?_
 refine sa_ok e.inn g.abil g'.abil l3 ?_
 intro H3 e3
 rw[Yr]
 have e:=e.trans e3
 have o1:=o1.ext e3
 have o2:=o2.ext e3
 clear e3
 refine Qap o1 o2 (i:=30) (a:=YM d.flex) (b:=YM d.flex) rfl rfl (eq_str) ?_
 refine Qa4 o1 o2 (i:=31) (a:=c.test5) (b:=c'.test5) rfl rfl ?_
 refine st_ok e.inn g.test5 g'.test5 l4 ?_
 intro H3 e3
 rw[Yr]
 have e:=e.trans e3
 have o1:=o1.ext e3
 have o2:=o2.ext e3
 clear e3
 refine Qa4 o1 o2 (i:=32) (a:=c.longs) (b:=c'.longs) rfl rfl ?_
 refine si64_ok e.inn g.longs g'.longs l13 ?_
 intro H3 e3
 rw[Yr]
 have e:=e.trans e3
 have o1:=o1.ext e3
 have o2:=o2.ext e3
 clear e3
 refine Qa4 o1 o2 (i:=33) (a:=c.doubles) (b:=c'.doubles) rfl rfl ?_
 refine Qi7 e.inn g.doubles g'.doubles l14 ?_
 intro H3 e3
 rw[Yr]
 have e:=e.trans e3
 have o1:=o1.ext e3
 have o2:=o2.ext e3
 clear e3
 refine Qap o1 o2 (i:=34) (a:=.bool d.parent) (b:=.bool d.parent) rfl rfl (eq_bool (by kernel_rfl)) ?_
 refine Qa4 o1 o2 (i:=35) (a:=c.refs) (b:=c'.refs) rfl rfl ?_
 refine Qi7 e.inn g.refs g'.refs l15 ?_
 intro H3 e3
 rw[Yr]
 have e:=e.trans e3
 have o1:=o1.ext e3
 have o2:=o2.ext e3
 clear e3
 refine Qap o1 o2 (i:=36) (a:=Zc d.singleWeak) (b:=Zc d.singleWeak) rfl rfl (Qbl) ?_
 refine Qa4 o1 o2 (i:=37) (a:=c.weak) (b:=c'.weak) rfl rfl ?_
 refine Qi7 e.inn g.weak g'.weak l16 ?_
 intro H3 e3
 rw[Yr]
 have e:=e.trans e3
 have o1:=o1.ext e3
 have o2:=o2.ext e3
 clear e3
 refine Qa4 o1 o2 (i:=38) (a:=c.strong) (b:=c'.strong) rfl rfl ?_
 refine Qi7 e.inn g.strong g'.strong l17 ?_
 intro H3 e3
 rw[Yr]
 have e:=e.trans e3
 have o1:=o1.ext e3
 have o2:=o2.ext e3
 clear e3
 refine Qap o1 o2 (i:=39) (a:=Zc d.coOwning) (b:=Zc d.coOwning) rfl rfl (Qbl) ?_
 refine Qa4 o1 o2 (i:=40) (a:=c.coOwnings) (b:=c'.coOwnings) rfl rfl ?_
 refine Qi7 e.inn g.coOwnings g'.coOwnings l18 ?_
 intro H3 e3
 rw[Yr]
 have e:=e.trans e3
 have o1:=o1.ext e3
 have o2:=o2.ext e3
 clear e3
 refine Qap o1 o2 (i:=41) (a:=Zc d.nonOwning) (b:=Zc d.nonOwning) rfl rfl (Qbl) ?_
 refine Qa4 o1 o2 (i:=42) (a:=c.nonOwnings) (b:=c'.nonOwnings) rfl rfl ?_
 refine Qi7 e.inn g.nonOwnings g'.nonOwnings l19 ?_
 intro H3 e3
 rw[Yr]
 have e:=e.trans e3
 have o1:=o1.ext e3
 have o2:=o2.ext e3
 clear e3
 refine cmp_callN o1 o2 (i:=43) (n:=3) (a:=[u8n d.uniqTy,c.uniq,u8n d.uniqColor]) (b:=[u8n d.uniqTy,c'.uniq,u8n d.uniqColor]) rfl (by rw[Y7];decide) rfl (by rw[Y7];decide) ?_
 refine Qho e.inn wQ wQ' hQ mQ l8 ?_
 intro H3 e3
 rw[Yr]
 have e:=e.trans e3
 have o1:=o1.ext e3
 have o2:=o2.ext e3
 clear e3
 refine cmp_callN o1 o2 (i:=46) (n:=3) (a:=[u8n d.ambTy,c.amb,u8n d.ambColor]) (b:=[u8n d.ambTy,c'.amb,u8n d.ambColor]) rfl (by rw[Y7];decide) rfl (by rw[Y7];decide) ?_
 refine Qho e.inn wA wA' hA mA l9 ?_
 intro H3 e3
 rw[Yr]
 have e:=e.trans e3
 have o1:=o1.ext e3
 have o2:=o2.ext e3
 clear e3
 refine Qap o1 o2 (i:=49) (a:=YM d.enums) (b:=YM d.enums) rfl rfl (eq_str) ?_
 refine Qap o1 o2 (i:=50) (a:=i8V d.signedEnum) (b:=i8V d.signedEnum) rfl rfl (Qbl) ?_
 exact hR _ e
mutual
theorem same_all:∀g:GM,Qh1 g
 |.mk d pos empty tables enemy test uniq amb=>sameStep (QeN tables) (QeN enemy) (QeN test) (QeN uniq) (QeN amb)
theorem QeN:∀gs:List GM,∀k∈gs,Qh1 k
 |[],k,h=>by simp at h
 |g::gs,k,h=>by
  rcases List.mem_cons.1 h with h|h
  ·rw[h];exact same_all g
  ·exact QeN gs k h
end
def negZ (x:UInt32):UInt32:=if x=2147483648 then 0 else x
mutual
def QiA:GM->GM
 |.mk d pos empty tables enemy test uniq amb=>.mk {d with f3:=negZ d.f3} pos empty (Qbz tables) (Qbz enemy) (Qbz test) (Qbz uniq) (Qbz amb)
def Qbz:List GM->List GM
 |[]=>[]
 |g::gs=>QiA g::Qbz gs
end
theorem QgF:∀gs,Qbz gs=gs.map QiA
 |[]=>by rw[Qbz];rfl
 |g::gs=>by rw[Qbz,QgF gs];rfl
def Qfp (g:GM):Prop:=∀(G:Cut) (H:Qf) (cells:List Value) (R:Kn),G.In H->ZV G g cells->LenM g->(∀G' H' cells',Ext G H G' H'->ZV G' (QiA g) cells'->R (.agg cells'.toArray) H')->FnS prog 11 #[.agg cells.toArray] H R
theorem r0a_ok {G:Cut} {H:Qf} (hG:G.In H) {gs:List GM} {v:Value} (hs:QaJ G gs v) (hK:∀g∈gs,Qfp g) (hL:QhB gs) (hl:gs.length<=50) {R:Kn} (hR:∀G' H' v',Ext G H G' H'->QaJ G' (Qbz gs) v'->R v' H'):FnS prog 44 #[v] H R:=by
 obtain ⟨its,hs,hvs⟩:=hs
 have hil:=Zf.len hvs
 apply w44
 unfold s44 r0a1
 refine Qar hG (et:=38) (es:=51) (n:=gs.length) (fun F i items=>Zf F ((Qbz gs).take i) items) (by rw[List.take_zero,Zf];trivial) (by omega) (fun k=>by rw[hs.len,hil]) ?_ ?_
 ·rintro i y G1 H1 items k hlt e c hI hk
  have ha:=List.getElem?_eq_getElem hlt
  obtain ⟨x,hx,hvx⟩:=Zf.get hvs ha
  have hvx:=hvx.mono e.le
  have hilen:=Zf.len hI
  rw[List.length_take]at hilen
  unfold r0a1B
  refine Z3 (hs.mono e.le) e.inn (i:=i) hx ?_
  refine QeC hvx.len (by decide) rfl (ZV.one hvx) ?_
  have e1:=e.push (.cells x.toArray 38 (0,0))
  have c1:=c.push (.cells x.toArray 38 (0,0))
  generalize H1.push (.cells x.toArray 38 (0,0))=H2 at *
  refine hK _ (List.mem_of_getElem? ha) G1 H2 x _ e1.inn hvx (QhB.get hL _ (List.mem_of_getElem? ha)) ?_
  intro G3 H3 x' e3 hv3
  refine Qax (e1.trans e3) (c1.ext e3) (v:=.agg x'.toArray) (it:=x') rfl hv3.len (ZV.one hv3) (by decide) rfl (by decide) (by omega) ?_
  intro c' H' e4 c4
  refine hk c' _ H' _ e4 c4 ?_
  have hr:(Qbz gs)[i]?=some (QiA gs[i]):=by rw[QgF,List.getElem?_map,ha];rfl
  rw[QcW hr]
  exact Zf.snoc (Zf.mono e3.le hI) hv3
 ·rintro y G1 G2 H2 items e2 sl hI hle hnil
  have:(Qbz gs).take gs.length=Qbz gs:=List.take_of_length_le (by rw[QgF,List.length_map];exact Nat.le_refl _)
  rw[this]at hI
  exact hR G2 H2 y e2 ⟨items,sl,Zf.mono hle hI⟩
section
variable {G0:Cut} {H0:Qf} {t:TypeId} {ob:Obj} {q2 q3:Nat} {G:Cut} {H:Qf} {cells:List Value} (rs:RS G0 H0 t ob q2 q3 G H cells)
include rs
theorem RS.stAt {i:Nat} {v:Value} (hi:i<cells.length) (hv:v.oneCell'=true) {kp:Qf->Prop} (hk:∀H',RS G0 H0 t ob q2 q3 G H' (cells.set i v)->kp H'):StK H 1 (.pointer (some ⟨q3,i,none⟩)) v kp:=by
 rw[QaA rs.o3.get (by simpa using hi) (by simp) hv]
 have e:cells.toArray.setIfInBounds i v=(cells.set i v).toArray:=by simp
 rw[e]
 exact hk _ (rs.st i v)
theorem RS.ldAt {i:Nat} {v:Value} (hi:cells[i]?=some v) {k:Value->Prop} (hk:k v):Qh (ptr q3) i fun a=>LdK H a k:=by
 rw[Qo,rs.ld hi];exact hk
theorem RS.ldAt2 {i j m:Nat} {v:Value} (hm:i+j=m) (hi:cells[m]?=some v) {k:Value->Prop} (hk:k v):Qh (ptr q3) i fun x=>Qh x j fun a=>LdK H a k:=by
 rw[Qo,QhH hm,rs.ld hi];exact hk
end
theorem QaJ.one {F:Cut} {gs:List GM} {v:Value} (h:QaJ F gs v):v.oneCell'=true:=by
 obtain ⟨i,s,_⟩:=h
 exact s.one
theorem read0Step {d:ZT} {pos:List Qaj} {empty:List Qaa} {tables enemy test uniq amb:List GM} (hT:∀k∈tables,Qfp k) (hE:∀k∈enemy,Qfp k) (hU:∀k∈test,Qfp k) (hQ:∀k∈uniq,Qfp k) (hA:∀k∈amb,Qfp k):Qfp (.mk d pos empty tables enemy test uniq amb):=by
 intro G H cells R hG hv hlm hR
 rw[ZV]at hv
 obtain ⟨c,rfl,g,wT,wE,wU,wQ,wA⟩:=hv
 rw[LenM]at hlm
 obtain ⟨⟨l0,l1,l2,l3,l4,l5,l6,l7,l8,l9⟩,_,mT,mE,mU,mQ,mA⟩:=hlm
 apply w11
 unfold s11
 rw[Q2,Q2]
 have e:=Ext.refl hG
 have o1:Ym H G (H.push (.cells (Value.agg (QC d c).toArray).cells 38)) H.size (.cells (QC d c).toArray 38 (0,0)):=Ym.fresh e _
 have e:=e.push (.cells (Value.agg (QC d c).toArray).cells 38)
 generalize H.push (.cells (Value.agg (QC d c).toArray).cells 38)=H1 at *
 have hne:=o1.ne
 have o2:=Ym.fresh e (.cells z38 38)
 have o1:=o1.push (.cells z38 38)
 have e:=e.push (.cells z38 38)
 generalize H1.push (.cells z38 38)=H2 at *
 have rs:RS G H 38 (.cells z38 38 (0,0)) H1.size H.size G H2 (QC d c):=⟨e,o2,o1,Ne.symm hne⟩
 have hcell:(QC d c).set 27 (Z4 (negZ d.f3))=QC {d with f3:=negZ d.f3} c:=rfl
 refine QB (fun _ h=>RS G H 38 (.cells z38 38 (0,0)) H1.size H.size G h (QC {d with f3:=negZ d.f3} c)) ?_ ?_
 ·refine rs.ldAt (i:=27) (v:=Z4 d.f3) rfl ?_
  rw[Yo]
  by_cases h0:d.f3=2147483648
  ·rw[Yd (by rw[h0];rfl),Qo]
   refine rs.stAt (i:=27) (v:=.int .u32 0) (by rw[Y7];decide) rfl ?_
   intro H' rs'
   have:(QC d c).set 27 (.int .u32 0)=QC {d with f3:=negZ d.f3} c:=by
    have hz:negZ d.f3=0:=by unfold negZ;rw[if_pos h0]
    rw[<-hcell,hz];rfl
   rw[this]at rs'
   exact rs'
  ·rw[QL (fun hh=>h0 (UInt32.toNat_inj.1 (by have:=Int.ofNat.inj hh;exact this)))]
   have hz:negZ d.f3=d.f3:=by unfold negZ;rw[if_neg h0]
   rw[hz]
   exact rs
 intro H3 r1
 have gl:∀d c,(QC d c).length=51:=Y7
 refine r1.ldAt (i:=11) (v:=c.tables) rfl ?_
 refine r1.ldAt (i:=12) (v:=c.enemy) rfl ?_
 refine ZR (by kernel_rfl) ?_
 refine r0a_ok r1.ext.inn (QaJ.mono r1.ext.le wT) hT mT l5 ?_
 intro G4 H4 vT e4 fT
 refine Q3 e4.keep.ext ?_
 have r2:=r1.next e4
 rw[Qo]
 refine ZR (by kernel_rfl) ?_
 refine r0a_ok r2.ext.inn (QaJ.mono r2.ext.le wE) hE mE l6 ?_
 intro G5 H5 vE e5 fE
 have r3:=r2.next e5
 refine r3.stAt (i:=11) (by rw[gl];decide) (QaJ.one fT) ?_
 intro H6 r4
 rw[Qo]
 refine r4.stAt (i:=12) (by rw[List.length_set,gl];decide) (QaJ.one fE) ?_
 intro H7 r5
 refine r5.ldAt2 (i:=6) (j:=1) (m:=7) (v:=c.test) rfl rfl ?_
 refine r5.ldAt2 (i:=43) (j:=1) (m:=44) (v:=c.uniq) rfl rfl ?_
 refine r5.ldAt2 (i:=46) (j:=1) (m:=47) (v:=c.amb) rfl rfl ?_
 refine ZR (by kernel_rfl) ?_
 refine r0a_ok r5.ext.inn (QaJ.mono r5.ext.le wU) hU mU l7 ?_
 intro G8 H8 vU e8 fU
 refine Q3 e8.keep.ext ?_
 have r6:=r5.next e8
 rw[Qo,QhH (m:=7) rfl]
 refine ZR (by kernel_rfl) ?_
 refine r0a_ok r6.ext.inn (QaJ.mono r6.ext.le wQ) hQ mQ l8 ?_
 intro G9 H9 vQ e9 fQ
 refine Q3 e9.keep.ext ?_
 have r7:=r6.next e9
 refine ZR (by kernel_rfl) ?_
 refine r0a_ok r7.ext.inn (QaJ.mono r7.ext.le wA) hA mA l9 ?_
 intro G10 H10 vA e10 fA
 have r8:=r7.next e10
 refine r8.stAt (i:=7) (by rw[List.length_set,List.length_set,gl];decide) (QaJ.one fU) ?_
 intro H11 r9
 rw[Qo,QhH (m:=44) rfl]
 refine r9.stAt (i:=44) (by rw[List.length_set,List.length_set,List.length_set,gl];decide) (QaJ.one fQ) ?_
 intro H12 r10
 rw[Qo,QhH (m:=47) rfl]
 refine r10.stAt (i:=47) (by rw[List.length_set,List.length_set,List.length_set,List.length_set,gl];decide) (QaJ.one fA) ?_
 intro H13 r11
 have L9:=e10.le
 have L8:=Cut.le_trans e9.le L9
 have L5:=Cut.le_trans e8.le L8
 have L4:=Cut.le_trans e5.le L5
 have hval:ZV G10 (QiA (.mk d pos empty tables enemy test uniq amb)) (QC {d with f3:=negZ d.f3} {c with tables:=vT,enemy:=vE,test:=vU,uniq:=vQ,amb:=vA}):=by
  rw[QiA,ZV]
  have g2:=GD.mono r11.ext.le g
  exact ⟨_,rfl,⟨g2.pos,g2.test4,g2.strings,g2.empty,g2.bools,g2.strings2,g2.abil,g2.test5,g2.longs,g2.doubles,g2.refs,g2.weak,g2.strong,g2.coOwnings,g2.nonOwnings⟩,QaJ.mono L4 fT,QaJ.mono L5 fE,QaJ.mono L8 fU,QaJ.mono L9 fQ,fA⟩
 have hce:(((((((QC {d with f3:=negZ d.f3} c).set 11 vT).set 12 vE).set 7 vU).set 44 vQ)).set 47 vA)=QC {d with f3:=negZ d.f3} {c with tables:=vT,enemy:=vE,test:=vU,uniq:=vQ,amb:=vA}:=rfl
 rw[hce]at r11
 refine r11.fin (n:=51) rfl rfl (by decide) (ZV.one hval) ?_
 intro H' e'
 exact hR _ H' _ e' hval
mutual
theorem read0_all:∀g:GM,Qfp g
 |.mk d pos empty tables enemy test uniq amb=>read0Step (QdE tables) (QdE enemy) (QdE test) (QdE uniq) (QdE amb)
theorem QdE:∀gs:List GM,∀k∈gs,Qfp k
 |[],k,h=>by simp at h
 |g::gs,k,h=>by
  rcases List.mem_cons.1 h with h|h
  ·rw[h];exact read0_all g
  ·exact QdE gs k h
end
end Go.Proofs
namespace Go.Proofs
open Go Go.Vc
open Tryz (prog)
theorem QdZ {H:Qf} {w:Bool} {op:(Kn)->Prop} {kh:Kn}:Qe undef w op H kh=kh undef H:=by
 cases w<;>exact propext ⟨fun h=>h.ok,fun h=>⟨h⟩⟩
theorem scalar_ok {kind:Int} (hk:kind=9\/kind=10) {n:Int} {H:Qf} {R:Kn} (hR:∀b:Bool,R (.bool b) H):FnS prog 275 #[.int .u8 kind,.int .u64 n] H R:=by
 apply w275
 unfold s275
 rw[Yo,QL (by omega),Yo]
 rcases hk with rfl|rfl
 ·rw[Yd rfl,Y9]
  generalize decide (n<(4294967296:Int))=b1
  cases b1
  ·simp only[Zo,ZK,QdZ]
   exact hR _
  ·simp only[Yc,Zi (show (0:Int)<=23 by decide),QgC,Yo]
   generalize decide (QbD .and .u64 _ _=(255:Int))=b2
   cases b2
   ·simp only[Zo,Yc,ZK,Yr,Yl]
    exact hR _
   ·simp only[Yc,Yr,Yl,QgC,QJ]
    exact hR _
 ·rw[QL (by decide),Yo,Yd rfl,Zi (by decide),QgC,Yo]
  generalize decide (QbD .and .u64 _ _=(2047:Int))=b2
  cases b2
  ·simp only[Zo,ZK,Yl]
   exact hR _
  ·simp only[Yc,Yr,Yl,QgC,QJ]
   exact hR _
theorem QhN {kind:Int} (hk:kind=9\/kind=10) {n:Int} {H:Qf} {R:Kn} (hR:∀b:Bool,R (.bool b) H):FnS prog 70 #[.int .u8 kind,.int .u64 n] H R:=by
 apply w70
 unfold s70
 exact scalar_ok hk hR
theorem list_ok {n:Int} {H:Qf} {R:Kn} (hR:R (.bool (decide (n<=50))) H):FnS prog 69 #[.int .i64 n] H R:=by
 apply w69
 unfold s69
 rw[Qi3]
 exact hR
section
variable {H0:Qf} {G:Cut} {H:Qf} {q:Nat} {cells:List Value} {T:TypeId} (o:Ym H0 G H q (.cells cells.toArray T (0,0)))
include o
theorem Qcv {P:Program} {t:TypeId} {i:Nat} {v:Value} {n:Nat} {m:Int} (hi:cells[i]?=some v) (hl:∀k:Value->Prop,YX v k=k (.int .i64 n)) {X Y:Prop} (hX:X) (hY:Y):
  Qh (ptr q) i fun a=>LdK H a fun s=>YX s fun y=>Qp P .gtr t y (.int .i64 m) fun c=>IfK c X Y:=by
 refine Qy o hi ?_
 rw[hl,Qck]
 exact ZI (fun _=>hX) fun _=>hY
theorem Qim {P:Program} {t:TypeId} {i:Nat} {s:List UInt8} {m:Int} (hi:cells[i]?=some (YM s)) {X Y:Prop} (hX:X) (hY:Y):
  Qh (ptr q) i fun a=>LdK H a fun s=>Qf3 s fun y=>Qp P .gtr t y (.int .i64 m) fun c=>IfK c X Y:=by
 refine Qy o hi ?_
 rw[YM,Qe4,Qck]
 exact ZI (fun _=>hX) fun _=>hY
end
theorem fits4_ok {G:Cut} {H:Qf} (hG:G.In H) {l:List (List UInt8)} {v:Value} (hs:SlV G 1 v (l.map QgD)) {R:Kn} (hR:∀b:Bool,R (.bool b) H):FnS prog 15 #[v] H R:=by
 apply w15
 unfold s15
 rw[hs.len,Qck,List.length_map]
 refine ZI (fun _=>hR false) fun hl=>?_
 refine QB (fun _ h=>h=H) ?_ (fun _ h he=>by rw[he];exact hR true)
 rw[hs.len,List.length_map]
 refine ⟨fun m vs H'=>∃i y,vs=[.int .i64 (i:Nat),y]/\i+m=l.length/\H'=H,⟨l.length,0,_,rfl,by omega,rfl⟩,?_⟩
 rintro m x y H' ⟨i,y',hx,him,e⟩
 cases hx
 subst e
 rw[Y9]
 by_cases hlt:i<l.length
 ·have ha:=List.getElem?_eq_getElem hlt
  rw[Yd (by omega)]
  obtain ⟨b,o,cs,e',fr,g1,g2,g3,g4⟩:=hs.idx hG (i:=i) rfl (it:=QgD l[i]) (by rw[List.getElem?_map,ha];rfl)
  rw[g1,Qj ((Qi g2).trans (QcH g4)),YM,Qe4,Qck]
  refine ZI (fun _=>hR false) fun _=>?_
  rw[QE,wrap_i64 (by omega) (by omega)]
  exact ⟨m-1,by omega,i+1,y,by simp,by omega,rfl⟩
 ·rw[QL (by omega)]
theorem fits6_ok {G:Cut} {H:Qf} (hG:G.In H) {t:Qaa} {R:Kn} (hR:∀(b:Bool) H',Ext G H G H'->R (.bool b) H'):FnS prog 68 #[.agg (YT t).toArray] H R:=by
 apply w68
 unfold s68
 rw[Q2]
 have e:=Ext.refl hG
 have o1:Ym H G (H.push (.cells (Value.agg (YT t).toArray).cells 94)) H.size (.cells (YT t).toArray 94 (0,0)):=Ym.fresh e _
 have e:=e.push (.cells (Value.agg (YT t).toArray).cells 94)
 exact Qim o1 (i:=0) (s:=t.id) rfl (hR _ _ e) (hR _ _ e)
theorem fits5_ok {G:Cut} {H:Qf} (hG:G.In H) {l:List Qaa} {v:Value} (hs:SlV G 3 v (l.map YT)) {R:Kn} (hR:∀(b:Bool) H',Ext G H G H'->R (.bool b) H'):FnS prog 16 #[v] H R:=by
 apply w16
 unfold s16
 have e:=Ext.refl hG
 rw[hs.len,Qck,List.length_map]
 refine ZI (fun _=>hR _ _ e) fun hl=>?_
 refine QB (fun _ h=>Ext G H G h) ?_ (fun _ h he=>hR _ _ he)
 rw[hs.len,List.length_map]
 refine ⟨fun m vs H'=>∃i y,vs=[.int .i64 (i:Nat),y]/\i+m=l.length/\Ext G H G H',⟨l.length,0,_,rfl,by omega,e⟩,?_⟩
 rintro m x y H' ⟨i,y',hx,him,e⟩
 cases hx
 rw[Y9]
 by_cases hlt:i<l.length
 ·have ha:=List.getElem?_eq_getElem hlt
  rw[Yd (by omega)]
  have hone:∀x∈YT l[i],x.oneCell'=true:=fun x hx=>by
   simp[YT]at hx
   rcases hx with rfl|rfl|rfl<;>rfl
  refine Z3 hs e.inn (i:=i) (it:=YT l[i]) (by rw[List.getElem?_map,ha];rfl) ?_
  refine QeC (es:=3) (it:=YT l[i]) rfl (by decide) rfl hone ?_
  have e1:=e.push (.cells (YT l[i]).toArray 94 (0,0))
  generalize H'.push (.cells (YT l[i]).toArray 94 (0,0))=H2 at *
  refine fits6_ok e1.inn fun b H3 e3=>?_
  rw[Yl]
  refine ZU (fun _=>hR _ _ (e1.trans e3)) fun _=>?_
  rw[QE,wrap_i64 (by omega) (by omega)]
  exact ⟨m-1,by omega,i+1,y,by simp,by omega,e1.trans e3⟩
 ·rw[QL (by omega)]
  exact e
set_option maxRecDepth 8000 in
theorem fits3_ok {G:Cut} {H:Qf} (hG:G.In H) {g:GM} {cells:List Value} (hv:ZV G g cells) {R:Kn} (hR:∀(b:Bool) H',Ext G H G H'->R (.bool b) H'):FnS prog 4 #[.agg cells.toArray] H R:=by
 cases g with
 |mk d pos empty tables enemy test uniq amb=>
 rw[ZV]at hv
 obtain ⟨c,rfl,g,⟨i1,w1,_⟩,⟨i2,w2,_⟩,_⟩:=hv
 apply w4
 unfold s4
 rw[Q2]
 have e:=Ext.refl hG
 have o:Ym H G (H.push (.cells (Value.agg (QC d c).toArray).cells 38)) H.size (.cells (QC d c).toArray 38 (0,0)):=Ym.fresh e _
 have e:=e.push (.cells (Value.agg (QC d c).toArray).cells 38)
 generalize H.push (.cells (Value.agg (QC d c).toArray).cells 38)=H1 at *
 refine Qcv o (i:=0) (v:=c.pos) rfl (fun k=>g.pos.len) (hR _ _ e) ?_
 refine Qim o (i:=3) (s:=d.name) rfl (hR _ _ e) ?_
 refine Qim o (i:=4) (s:=d.inventory) rfl (hR _ _ e) ?_
 refine Qcv o (i:=9) (v:=c.test4) rfl (fun k=>g.test4.len) (hR _ _ e) ?_
 refine Qy o (i:=10) (v:=c.strings) rfl ?_
 refine fits4_ok e.inn g.strings fun b=>?_
 rw[Yl]
 refine ZU (fun _=>hR _ _ e) fun _=>?_
 refine Qcv o (i:=11) (v:=c.tables) rfl (fun k=>w1.len) (hR _ _ e) ?_
 refine Qcv o (i:=12) (v:=c.enemy) rfl (fun k=>w2.len) (hR _ _ e) ?_
 refine Qim o (i:=13) (s:=d.nested) rfl (hR _ _ e) ?_
 refine Qy o (i:=14) (v:=c.empty) rfl ?_
 refine fits5_ok e.inn g.empty fun b H2 e2=>?_
 have e:=e.trans e2
 have o:=o.ext e2
 clear e2
 rw[Yl]
 refine ZU (fun _=>hR _ _ e) fun _=>?_
 refine Qcv o (i:=24) (v:=c.bools) rfl (fun k=>g.bools.len) (hR _ _ e) ?_
 refine Qy o (i:=28) (v:=c.strings2) rfl ?_
 refine fits4_ok e.inn g.strings2 fun b=>?_
 rw[Yl]
 refine ZU (fun _=>hR _ _ e) fun _=>?_
 refine Qcv o (i:=29) (v:=c.abil) rfl (fun k=>g.abil.len) (hR _ _ e) ?_
 refine Qim o (i:=30) (s:=d.flex) rfl (hR _ _ e) ?_
 refine Qcv o (i:=31) (v:=c.test5) rfl (fun k=>g.test5.len) (hR _ _ e) ?_
 refine Qcv o (i:=32) (v:=c.longs) rfl (fun k=>g.longs.len) (hR _ _ e) ?_
 refine Qcv o (i:=33) (v:=c.doubles) rfl (fun k=>g.doubles.len) (hR _ _ e) ?_
 refine Qcv o (i:=35) (v:=c.refs) rfl (fun k=>g.refs.len) (hR _ _ e) ?_
 refine Qcv o (i:=37) (v:=c.weak) rfl (fun k=>g.weak.len) (hR _ _ e) ?_
 refine Qcv o (i:=38) (v:=c.strong) rfl (fun k=>g.strong.len) (hR _ _ e) ?_
 refine Qcv o (i:=40) (v:=c.coOwnings) rfl (fun k=>g.coOwnings.len) (hR _ _ e) ?_
 refine Qcv o (i:=42) (v:=c.nonOwnings) rfl (fun k=>g.nonOwnings.len) (hR _ _ e) ?_
 exact Qim o (i:=49) (s:=d.enums) rfl (hR _ _ e) (hR _ _ e)
end Go.Proofs
namespace Go.Proofs
open Go Go.Vc
open Tryz (prog)
mutual
def Qg7:GM->Prop
 |.mk d pos empty tables enemy test uniq amb=>SmallD d pos empty/\(tables.length<=50/\enemy.length<=1)/\(GUn false d.testTy test.length/\GUn false d.uniqTy uniq.length/\GUn true d.ambTy amb.length)/\((d.testTy≠2->d.testColor=0)/\(d.uniqTy≠2->d.uniqColor=0)/\d.ambColor=0)/\Zq tables/\Zq enemy/\Zq test/\Zq uniq/\Zq amb
def Zq:List GM->Prop
 |[]=>True
 |g::gs=>Qg7 g/\Zq gs
end
mutual
def cntM:GM->Nat
 |.mk _ _ _ tables enemy test uniq amb=>1+cntL tables+cntL enemy+cntL test+cntL uniq+cntL amb
def cntL:List GM->Nat
 |[]=>0
 |g::gs=>cntM g+cntL gs
end
theorem Zq.snoc:∀{gs:List GM} {g:GM},Zq gs->Qg7 g->Zq (gs++[g])
 |[],g,_,h=>by
  show Zq [g]
  rw[Zq,Zq];exact ⟨h,trivial⟩
 |x::xs,g,hs,h=>by
  show Zq (x::(xs++[g]))
  rw[Zq]at hs⊢
  exact ⟨hs.1,Zq.snoc hs.2 h⟩
theorem cntL_snoc:∀(gs:List GM) (g:GM),cntL (gs++[g])=cntL gs+cntM g
 |[],g=>by
  show cntL [g]=_
  simp only[cntL];omega
 |x::xs,g=>by
  show cntL (x::(xs++[g]))=_
  rw[cntL,cntL,cntL_snoc xs g];omega
structure KX (G:Cut) (q:Nat) (H H':Qf):Prop where
 size:H.size<=H'.size
 keep:∀b o,b≠q->H[b]?=some o->H'[b]?=some o
 inn:G.In H'
theorem KX.of_ext {G:Cut} {q:Nat} {H H':Qf} (h:Ext G H G H'):KX G q H H':=⟨h.keep.size,fun b o _ hb=>h.keep b o hb,h.inn⟩
theorem KX.trans {G:Cut} {q:Nat} {A B C:Qf} (h:KX G q A B) (k:KX G q B C):KX G q A C:=⟨Nat.le_trans h.size k.size,fun b o hb ho=>k.keep b o hb (h.keep b o hb ho),k.inn⟩
theorem KX.set {G:Cut} {q:Nat} {H:Qf} (h:G.In H) (hg:G q=none) (o:Obj):KX G q H (setB H q o):=
 ⟨by unfold setB;simp,fun b x hb hx=>by rw[Qw hb];exact hx,fun b x hx=>by
  have:b≠q:=fun e=>by subst e;rw[hg]at hx;cases hx
  rw[Qw this];exact h b x hx⟩
theorem Ym.kx {H0:Qf} {G:Cut} {H H':Qf} {b q:Nat} {o:Obj} (h:Ym H0 G H b o) (hne:b≠q) (k:KX G q H H'):Ym H0 G H' b o:=⟨k.keep b o hne h.get,h.out,h.new⟩
theorem Ym.zero {H0:Qf} {G:Cut} {H:Qf} {b:Nat} {o:Obj} (h:Ym H0 G H b o):Ym #[] G H b o:=⟨h.get,h.out,Nat.zero_le _⟩
abbrev left (n:Int):Obj:=.cells #[.int .i64 n] 3 (0,0)
def Qep (g:GM):Prop:=∀(G:Cut) (H:Qf) (cells:List Value) (q:Nat) (n deep:Int) (R:Kn),G.In H->ZV G g cells->Ym #[] G H q (left n)->0<=n->n<=20->-1<=deep->deep<=5->
 (∀H' k (b:Bool),KX G q H H'->H'[q]?=some (left k)->(b=true->Qg7 g/\(cntM g:Int)+k<=n/\0<=k)->R (.bool b) H')->FnS prog 17 #[.agg cells.toArray,ptr q,.int .i64 deep] H R
theorem cp_st {H:Qf} {es:Nat} {it:List Value} {z:Array Value} {t:TypeId} (hl:it.length=es) (h0:0<es) (hz:z.size=es) (hone:∀x∈it,x.oneCell'=true) {k:Kn} (hk:k (ptr H.size) (H.push (.cells it.toArray t (0,0)))):
  Zb H (.cells z t) fun y h2=>StK h2 es y (.agg it.toArray) fun h3=>k y h3:=by
 rw[Q2,Yn (n:=es) (c':=it.toArray) Qm hz (by simpa using hl) h0 (by simpa using hone),Zh]
 exact hk
theorem build1 {H:Qf} {t:TypeId} {z:Array Value} (hz:z.size=1) {v:Value} (hv:v.oneCell'=true) {k:Kn} (hk:k (.slice (some ⟨H.size,0,none⟩) 1 1) (H.push (.cells #[v] t))):QY H t 1 (ZP z.toList 1) [(0,1,v)] k:=by
 have hfill:ZG (ZP z.toList 1) [(0,1,v)]=some [v]:=by
  have hc:=QhJ hv
  show (if v.cells.size=1/\0+v.cells.size<=(ZP z.toList 1).length then _ else _)=_
  have hrl:(ZP z.toList 1).length=1:=by simp[ZP,hz]
  rw[if_pos ⟨by rw[hc];rfl,by rw[hrl,hc];exact Nat.le_refl 1⟩]
  show some _=_
  rw[hc]
  have:(ZP z.toList 1).drop (0+#[v].size)=[]:=List.drop_eq_nil_of_le (by rw[hrl];exact Nat.le_refl 1)
  rw[this];rfl
 unfold QY
 simp only[hfill]
 exact hk
section
variable {H0:Qf} {G:Cut} {H:Qf} {q:Nat} {cells:List Value} {T:TypeId} (o:Ym H0 G H q (.cells cells.toArray T (0,0)))
include o
theorem or_len {P:Program} {t:TypeId} {b:Bool} {i n:Nat} {m:Int} {v:Value} (hi:cells[i]?=some v) (hl:∀k:Value->Prop,YX v k=k (.int .i64 n)) {K:Kn} (hk:K (.bool (b||decide (m<n))) H):
  Qe (.bool b) false (fun k1=>Qh (ptr q) i fun x=>k1 x H) H fun y1 h1=>Qe (.bool b) false (fun k2=>LdK h1 y1 fun x=>k2 x h1) h1 fun y2 h2=>Qe (.bool b) false (fun k3=>YX y2 fun x=>k3 x h2) h2 fun y3 h3=>
   Qe (.bool b) false (fun k4=>Qp P .gtr t y3 (.int .i64 m) fun x=>k4 x h3) h3 fun y4 h4=>Yh (.bool b) (.bool true) y4 fun y=>K y h4:=by
 cases b
 ·rw[Y1,Qo]
  dsimp only
  rw[Y1,Qj ((Qi o.get).trans (by simpa using hi))]
  dsimp only
  rw[Y1,hl]
  dsimp only
  rw[Y1,Qck]
  dsimp only
  rw[ZK]
  simpa using hk
 ·rw[Y6,Y6,Y6,Y6,Yr]
  simpa using hk
theorem or_flt {P':Program} {kind:Int} (hkd:kind=9\/kind=10) {b:Bool} {i:Nat} {κ:IntKind} {n:Int} (hP:P'=prog) (hi:cells[i]?=some (.int κ n)) {K:Kn} (hk:∀b:Bool,K (.bool b) H):
  Qe (.bool b) false (fun k1=>Qh (ptr q) i fun x=>k1 x H) H fun y1 h1=>Qe (.bool b) false (fun k2=>LdK h1 y1 fun x=>k2 x h1) h1 fun y2 h2=>Qe (.bool b) false (fun k3=>QX .u64 y2 fun x=>k3 x h2) h2 fun y3 h3=>
   Qe (.bool b) false (fun k4=>Qb P' 70 #[.int .u8 kind,y3] h3 fun x h=>k4 x h) h3 fun y4 h4=>Qe (.bool b) false (fun k5=>Z2 P' (Op.unary .not y4) fun x=>k5 x h4) h4 fun y5 h5=>Yh (.bool b) (.bool true) y5 fun y=>K y h5:=by
 subst hP
 cases b
 ·rw[Y1,Qo]
  dsimp only
  rw[Y1,Qj ((Qi o.get).trans (by simpa using hi))]
  dsimp only
  rw[Y1]
  show Qe _ _ _ _ _
  rw[Y1]
  refine QhN hkd fun b=>?_
  dsimp only
  rw[Y1,Yl]
  dsimp only
  rw[ZK]
  exact hk _
 ·rw[Y6,Y6,Y6,Y6,Y6,Yr]
  exact hk _
theorem or_flt8 {P':Program} {kind:Int} (hkd:kind=9\/kind=10) {b:Bool} {i:Nat} {n:Int} (hP:P'=prog) (hi:cells[i]?=some (.int .u64 n)) {K:Kn} (hk:∀b:Bool,K (.bool b) H):
  Qe (.bool b) false (fun k1=>Qh (ptr q) i fun x=>k1 x H) H fun y1 h1=>Qe (.bool b) false (fun k2=>LdK h1 y1 fun x=>k2 x h1) h1 fun y2 h2=>
   Qe (.bool b) false (fun k4=>Qb P' 70 #[.int .u8 kind,y2] h2 fun x h=>k4 x h) h2 fun y4 h4=>Qe (.bool b) false (fun k5=>Z2 P' (Op.unary .not y4) fun x=>k5 x h4) h4 fun y5 h5=>Yh (.bool b) (.bool true) y5 fun y=>K y h5:=by
 subst hP
 cases b
 ·rw[Y1,Qo]
  dsimp only
  rw[Y1,Qj ((Qi o.get).trans (by simpa using hi))]
  dsimp only
  rw[Y1]
  refine QhN hkd fun b=>?_
  dsimp only
  rw[Y1,Yl]
  dsimp only
  rw[ZK]
  exact hk _
 ·rw[Y6,Y6,Y6,Y6,Yr]
  exact hk _
end
theorem lens_loop {H:Qf} {b:Nat} {ns:List Nat} {L:Nat} {T:TypeId} {fr:Nat×Nat} {x0:Value} (hb:H[b]?=some (.cells (ns.map fun n=>Value.int .i64 (n:Nat)).toArray T fr)) (hL:ns.length=L) (hl:ns.length<=1000) {RF:Qf->Prop} (hbad:RF H) {M:Kn} (hM:∀y,(∀n∈ns,n<=50)->M y H):
  YX (.slice (some ⟨b,0,none⟩) L L) fun n=>YO [(.int .i64 0),x0] H fun I m=>∀x y:Value,∀h:Qf,I m [x,y] h->Qp prog .lss 3 x n fun c=>IfK c
   (YG 1 (.slice (some ⟨b,0,none⟩) L L) x fun a=>LdK h a fun v=>Qb prog 69 #[v] h fun r h1=>Z2 prog (Op.unary .not r) fun r'=>IfK r' (RF h1) (Qp prog .add 3 x (.int .i64 1) fun x'=>Yf I m [x',y] h1))
   (M y h):=by
 subst hL
 rw[Qbw]
 refine ⟨fun m vs H'=>∃i y,vs=[.int .i64 (i:Nat),y]/\i+m=ns.length/\H'=H/\∀n∈ns.take i,n<=50,⟨ns.length,0,_,rfl,by omega,rfl,by simp⟩,?_⟩
 rintro m x y H' ⟨i,y',hx,him,e,hall⟩
 cases hx
 subst e
 rw[Y9]
 by_cases hlt:i<ns.length
 ·have ha:=List.getElem?_eq_getElem hlt
  rw[Yd (by omega),QO (by omega) (by omega),Qj (v:=.int .i64 (ns[i]:Nat)) ((Qi hb).trans (by simp[ha]))]
  refine list_ok ?_
  rw[Yl]
  refine ZU (fun _=>hbad) fun hle=>?_
  have hle:ns[i]<=50:=by
   have:((ns[i]:Nat):Int)<=50:=by simpa using hle
   omega
  rw[QE,wrap_i64 (by omega) (by omega)]
  refine ⟨m-1,by omega,i+1,y,by simp,by omega,rfl,fun n hn=>?_⟩
  rw[List.take_succ_eq_append_getElem hlt]at hn
  rcases List.mem_append.1 hn with hn|hn
  ·exact hall n hn
  ·have:n=ns[i]:=by simpa using hn
   rw[this];exact hle
 ·rw[QL (by omega)]
  have:i=ns.length:=by omega
  subst this
  exact hM y (by rw[List.take_length]at hall;exact hall)
theorem txt_loop {G:Cut} {H:Qf} (hG:G.In H) {l:List (List UInt8)} {v x0:Value} (hs:SlV G 1 v (l.map QgD)) (hl:l.length<=1000) {RF:Qf->Prop} (hbad:RF H) {M:Kn} (hM:∀y,(∀s∈l,s.length<=300)->M y H):
  YX v fun n=>YO [(.int .i64 0),x0] H fun I m=>∀x y:Value,∀h:Qf,I m [x,y] h->Qp prog .lss 3 x n fun c=>IfK c
   (YG 1 v x fun a=>LdK h a fun s=>Qf3 s fun z=>Qp prog .gtr 3 z (.int .i64 300) fun c=>IfK c (RF h) (Qp prog .add 3 x (.int .i64 1) fun x'=>Yf I m [x',y] h))
   (M y h):=by
 rw[hs.len,List.length_map]
 refine ⟨fun m vs H'=>∃i y,vs=[.int .i64 (i:Nat),y]/\i+m=l.length/\H'=H/\∀n∈l.take i,n.length<=300,⟨l.length,0,_,rfl,by omega,rfl,by simp⟩,?_⟩
 rintro m x y H' ⟨i,y',hx,him,e,hall⟩
 cases hx
 subst e
 rw[Y9]
 by_cases hlt:i<l.length
 ·have ha:=List.getElem?_eq_getElem hlt
  rw[Yd (by omega)]
  obtain ⟨b,o,cs,e',fr,g1,g2,g3,g4⟩:=hs.idx hG (i:=i) rfl (it:=QgD l[i]) (by rw[List.getElem?_map,ha];rfl)
  rw[g1,Qj ((Qi g2).trans (QcH g4)),YM,Qe4,Qck]
  have hsz:(ByteArray.mk l[i].toArray).size=l[i].length:=by simp[ByteArray.size]
  rw[hsz]
  refine ZI (fun _=>hbad) fun hle=>?_
  have hle:l[i].length<=300:=by omega
  rw[QE,wrap_i64 (by omega) (by omega)]
  refine ⟨m-1,by omega,i+1,y,by simp,by omega,rfl,fun n hn=>?_⟩
  rw[List.take_succ_eq_append_getElem hlt]at hn
  rcases List.mem_append.1 hn with hn|hn
  ·exact hall n hn
  ·have:n=l[i]:=by simpa using hn
   rw[this];exact hle
 ·rw[QL (by omega)]
  have:i=l.length:=by omega
  subst this
  exact hM y (by rw[List.take_length]at hall;exact hall)
theorem dbl_loop {G:Cut} {H:Qf} (hG:G.In H) {l:List UInt64} {v x0:Value} (hs:SlV G 1 v (l.map Qdw)) (hl:l.length<=1000) {RF:Qf->Prop} (hbad:RF H) {M:Kn} (hM:∀y,M y H):
  YX v fun n=>YO [(.int .i64 0),x0] H fun I m=>∀x y:Value,∀h:Qf,I m [x,y] h->Qp prog .lss 3 x n fun c=>IfK c
   (YG 1 v x fun a=>LdK h a fun s=>Qb prog 70 #[(.int .u8 10),s] h fun r h1=>Z2 prog (Op.unary .not r) fun r'=>IfK r' (RF h1) (Qp prog .add 3 x (.int .i64 1) fun x'=>Yf I m [x',y] h1))
   (M y h):=by
 rw[hs.len,List.length_map]
 refine ⟨fun m vs H'=>∃i y,vs=[.int .i64 (i:Nat),y]/\i+m=l.length/\H'=H,⟨l.length,0,_,rfl,by omega,rfl⟩,?_⟩
 rintro m x y H' ⟨i,y',hx,him,e⟩
 cases hx
 subst e
 rw[Y9]
 by_cases hlt:i<l.length
 ·have ha:=List.getElem?_eq_getElem hlt
  rw[Yd (by omega)]
  obtain ⟨b,o,cs,e',fr,g1,g2,g3,g4⟩:=hs.idx hG (i:=i) rfl (it:=Qdw l[i]) (by rw[List.getElem?_map,ha];rfl)
  rw[g1,Qj ((Qi g2).trans (QcH g4)),Zc]
  refine QhN (.inr rfl) fun b=>?_
  rw[Yl]
  refine ZU (fun _=>hbad) fun _=>?_
  rw[QE,wrap_i64 (by omega) (by omega)]
  exact ⟨m-1,by omega,i+1,y,by simp,by omega,rfl⟩
 ·rw[QL (by omega)]
  exact hM y
end Go.Proofs
namespace Go.Proofs
open Go Go.Vc
open Tryz (prog)
theorem pos_loop {G:Cut} {H:Qf} (hG:G.In H) {l:List Qaj} {v x0:Value} (hs:SlV G 7 v (l.map Zk)) (hl:l.length<=1000) {RF:Qf->Prop} (hbad:∀h,Ext G H G h->RF h) {M:Kn} (hM:∀y h,Ext G H G h->M y h):
  YX v fun n=>YO [(.int .i64 0),x0] H fun I m=>∀x y:Value,∀h32:Qf,I m [x,y] h32->Qp prog .lss 3 x n fun c=>IfK c
   (YG 7 v x fun x150=>LdN h32 7 x150 fun x151=>Zb h32 (.cells z82 82) fun x15 h33=>StK h33 7 x15 x151 fun h34=>
 Qh x15 0 fun x152=>
 LdK h34 x152 fun x153=>
 QX .u64 x153 fun x154=>
 Qb prog 70 #[(.int .u8 9),x154] h34 fun x155 h35=>
 Z2 prog (Op.unary .not x155) fun x156=>
 Qe x156 false (fun k27=>Qh x15 1 fun x158=>k27 x158 h35) h35 fun x158_1 h36=>
 Qe x156 false (fun k28=>LdK h36 x158_1 fun x159=>k28 x159 h36) h36 fun x159_1 h37=>
 Qe x156 false (fun k29=>QX .u64 x159_1 fun x160=>k29 x160 h37) h37 fun x160_1 h38=>
 Qe x156 false (fun k30=>Qb prog 70 #[(.int .u8 9),x160_1] h38 fun x161 h39=>k30 x161 h39) h38 fun x161_1 h40=>
 Qe x156 false (fun k31=>Z2 prog (Op.unary .not x161_1) fun x162=>k31 x162 h40) h40 fun x162_1 h41=>
 Yh x156 (.bool true) x162_1 fun x163=>
 Qe x163 false (fun k32=>Qh x15 2 fun x165=>k32 x165 h41) h41 fun x165_1 h42=>
 Qe x163 false (fun k33=>LdK h42 x165_1 fun x166=>k33 x166 h42) h42 fun x166_1 h43=>
 Qe x163 false (fun k34=>QX .u64 x166_1 fun x167=>k34 x167 h43) h43 fun x167_1 h44=>
 Qe x163 false (fun k35=>Qb prog 70 #[(.int .u8 9),x167_1] h44 fun x168 h45=>k35 x168 h45) h44 fun x168_1 h46=>
 Qe x163 false (fun k36=>Z2 prog (Op.unary .not x168_1) fun x169=>k36 x169 h46) h46 fun x169_1 h47=>
 Yh x163 (.bool true) x169_1 fun x170=>
 Qe x170 false (fun k37=>Qh x15 3 fun x172=>k37 x172 h47) h47 fun x172_1 h48=>
 Qe x170 false (fun k38=>LdK h48 x172_1 fun x173=>k38 x173 h48) h48 fun x173_1 h49=>
 Qe x170 false (fun k39=>Qb prog 70 #[(.int .u8 10),x173_1] h49 fun x174 h50=>k39 x174 h50) h49 fun x174_1 h51=>
 Qe x170 false (fun k40=>Z2 prog (Op.unary .not x174_1) fun x175=>k40 x175 h51) h51 fun x175_1 h52=>
 Yh x170 (.bool true) x175_1 fun x176=>
 IfK x176 (RF h52) (Qp prog .add 3 x (.int .i64 1) fun x'=>Yf I m [x',y] h52))
   (M y h32):=by
 rw[hs.len,List.length_map]
 refine ⟨fun m vs H'=>∃i y,vs=[.int .i64 (i:Nat),y]/\i+m=l.length/\Ext G H G H',⟨l.length,0,_,rfl,by omega,Ext.refl hG⟩,?_⟩
 rintro m x y H' ⟨i,y',hx,him,e⟩
 cases hx
 rw[Y9]
 by_cases hlt:i<l.length
 ·have ha:=List.getElem?_eq_getElem hlt
  rw[Yd (by omega)]
  have hone:∀x∈Zk l[i],x.oneCell'=true:=fun x hx=>by
   simp[Zk]at hx
   rcases hx with rfl|rfl|rfl|rfl|rfl|rfl|rfl<;>rfl
  refine Z3 hs e.inn (i:=i) (it:=Zk l[i]) (by rw[List.getElem?_map,ha];rfl) ?_
  refine cp_st (es:=7) (it:=Zk l[i]) rfl (by decide) rfl hone ?_
  have o:Ym H G (H'.push (.cells (Zk l[i]).toArray 82 (0,0))) H'.size (.cells (Zk l[i]).toArray 82 (0,0)):=Ym.fresh e _
  have e:=e.push (.cells (Zk l[i]).toArray 82 (0,0))
  generalize H'.push (.cells (Zk l[i]).toArray 82 (0,0))=H2 at *
  refine Qy o (i:=0) (v:=Z4 l[i].x) rfl ?_
  rw[Z4,Q1]
  refine QhN (.inl rfl) fun b=>?_
  rw[Yl]
  refine or_flt o (.inl rfl) rfl (i:=1) (by rfl) fun b=>?_
  refine or_flt o (.inl rfl) rfl (i:=2) (by rfl) fun b=>?_
  refine or_flt8 o (.inr rfl) rfl (i:=3) (by rfl) fun b=>?_
  refine ZU (fun _=>hbad _ e) fun _=>?_
  rw[QE,wrap_i64 (by omega) (by omega)]
  exact ⟨m-1,by omega,i+1,y,by simp,by omega,e⟩
 ·rw[QL (by omega)]
  exact hM _ _ e
theorem appN {G0:Cut} {H0:Qf} {G:Cut} {H:Qf} {et:TypeId} {es bts:Nat} {zs:Array Value} {b c:Nat} {cs:Array Value} {items its:List (List Value)} {w:Value} (hE:Ext G0 H0 G H) (hall:∀x∈items,x.length=es) (h2:Ym H0 G H b (.cells cs et (0,0))) (h4:items.length*es<=cs.size) (h5:c*es<=cs.size) (h6:cs.toList.take (items.length*es)=items.flatten) (h7:items.length<=c) (hne:items≠[])
  (hw:SlV G es w its) (hone:∀x∈its,∀y∈x,y.oneCell'=true) (hb:0<bts) (hn:(items.length+its.length)*bts<=140737488355328) (hz:zs.size=es) {k:Kn}
  (hk:∀v' H',Ext G0 H0 G H'->Cur H0 G H' et es v' (items++its) (fun _=>False)->(c=items.length->QaC H H')->k v' H'):
  Qe7 H et es bts zs (.slice (some ⟨b,0,none⟩) items.length c) w k:=by
 have flen:∀{l:List (List Value)},(∀x∈l,x.length=es)->l.flatten.length=l.length*es:=fun {l} hl=>by
  induction l with
  |nil=>simp
  |cons x xs ih=>
   rw[List.flatten_cons,List.length_append,List.length_cons,ih (fun z hz=>hl z (List.mem_cons_of_mem _ hz)),hl x List.mem_cons_self,Nat.add_mul];omega
 have hil:=flen hall
 have hwl:=flen hw.1
 have hall':∀x∈items++its,x.length=es:=fun x hx=>by
  rcases List.mem_append.1 hx with hx|hx
  ·exact hall x hx
  ·exact hw.1 x hx
 have hone':∀y∈its.flatten,y.oneCell'=true:=fun y hy=>by
  obtain ⟨x,hx,hy⟩:=List.mem_flatten.1 hy
  exact hone x hx y hy
 have hfl:(items++its).flatten=items.flatten++its.flatten:=by simp
 have hlen:(items++its).length=items.length+its.length:=by simp
 obtain ⟨yb,m,yc,rfl,hm,hnew⟩:∃yb m yc,w= .slice yb m yc/\m=its.length/\QgY H (m*es) (.slice yb m yc)=some its.flatten:=by
  rcases hw.2 with ⟨a,c',rfl,rfl⟩|⟨y,yo,c',cells,e,fr,rfl,g2,g3,g4,g5⟩
  ·refine ⟨a,0,c',rfl,rfl,?_⟩
   rw[Nat.zero_mul]
   cases a<;>rfl
  ·refine ⟨_,_,_,rfl,rfl,?_⟩
   show Zl H ⟨y,yo,none⟩ 0 (its.length*es)=_
   rw[Q5 (hE.inn _ _ g2) _ (by omega),Nat.add_zero,g4]
 subst hm
 have hadd:(items.length+its.length)*es=items.length*es+its.length*es:=Nat.add_mul _ _ _
 refine ⟨fun hc=>⟨its.flatten,hnew,?_⟩,fun hc=>⟨hb,by simpa using hn,items.flatten,its.flatten,?_,hnew,fun c' hc1 _=>?_⟩⟩
 ·have hcm:(items.length+its.length)*es<=c*es:=Nat.mul_le_mul_right _ hc
  have hcs:cs=cs.toList.toArray:=by simp
  have hset:=Qei (b:=b) (e:=et) (fr:=(0,0)) its.flatten (H:=H) (l:=cs.toList) (o:=items.length*es) (i:=0) (by rw[<-hcs];exact h2.get) hone' (by simp only[Array.length_toList,hwl];rw[Nat.add_zero,<-hadd];exact Nat.le_trans hcm h5) (by simp)
  refine ⟨_,by show setN H (Addr.add ⟨b,0,none⟩ (items.length*es)) 0 its.flatten=_;rw[QfD,Nat.zero_add];exact hset,?_⟩
  cases hit:its.flatten with
  |nil=>
   simp only
   rw[hit]at hwl
   refine hk _ _ hE ⟨hall',Or.inr ⟨b,c,cs,by rw[hlen],h2,id,by rw[hlen,hadd,<-hwl];simpa using h4,h5,by rw[hlen,hadd,<-hwl,hfl,hit];simpa using h6,by rw[hlen];exact hc,by simp[hne]⟩⟩ (fun _=>QaC.refl _)
  |cons x xs=>
   simp only[Nat.add_zero]
   rw[hit]at hwl
   refine hk _ _ (hE.set h2.out h2.new _) ⟨hall',Or.inr ⟨b,c,_,by rw[hlen],h2.set _,id,?_,?_,?_,by rw[hlen];exact hc,by simp[hne]⟩⟩ ?_
   ·rw[hlen];simp only[List.size_toArray,Ye,Array.length_toList];exact Nat.le_trans hcm h5
   ·simp only[List.size_toArray,Ye,Array.length_toList];exact h5
   ·rw[hlen,hfl,hadd,<-hwl,<-h6,hit]
    exact putL_take (L:=cs.toList) (xs:=x::xs) (n:=items.length*es) (by rw[Array.length_toList (xs:=cs),hwl,<-hadd];exact Nat.le_trans hcm h5)
   ·intro hcl
    have:its.length=0:=by omega
    rw[this]at hwl
    simp at hwl
 ·show Zl H ⟨b,0,none⟩ 0 (items.length*es)=_
  rw[Q5 h2.get _ (by omega),Nat.add_zero,List.drop_zero,h6]
 ·have hsz:((items.flatten++its.flatten).toArray++Builtin.zeroCells zs (c'-(items.length+its.length))).size=c'*es:=by
   have hz2:(Builtin.zeroCells zs (c'-(items.length+its.length))).size=(c'-(items.length+its.length))*es:=by
    unfold Builtin.zeroCells
    simp[hz]
   rw[Array.size_append,hz2]
   simp only[List.size_toArray,List.length_append,hil,hwl]
   obtain ⟨d,rfl⟩:∃d,c'=items.length+its.length+d:=⟨c'-(items.length+its.length),by omega⟩
   rw[show items.length+its.length+d-(items.length+its.length)=d by omega,Nat.add_mul,Nat.add_mul]
  refine hk _ _ (hE.push _) ⟨hall',Or.inr ⟨H.size,c',_,by rw[hlen],Ym.fresh hE _,id,by rw[hlen,hsz];exact Nat.mul_le_mul_right _ hc1,by rw[hsz];exact Nat.le_refl _,?_,by rw[hlen];exact hc1,by simp[hne]⟩⟩ (fun _=>QaC.push _ _)
  rw[hlen,hfl]
  have e:((items.flatten++its.flatten).toArray++Builtin.zeroCells zs (c'-(items.length+its.length))).toList=(items.flatten++its.flatten)++(Builtin.zeroCells zs (c'-(items.length+its.length))).toList:=by simp
  rw[e,List.take_left' (by rw[List.length_append,hil,hwl,hadd])]
theorem emp_loop {H0:Qf} {G:Cut} {H:Qf} {l:List Qaa} {v v0:Value} {base:List (List UInt8)} (hs:SlV G 3 v (l.map YT)) (hl:l.length<=1) (hE:Ext G H0 G H) (hc:Cur H0 G H 9 1 v0 (base.map QgD) (fun _=>False)) (hbl:base.length<=1000) {M:Kn}
  (hM:∀y h,Ext G H0 G h->Cur H0 G h 9 1 y ((base++l.map fun s=>s.id).map QgD) (fun _=>False)->M y h):
  YX v fun n=>YO [(.int .i64 0),v0] H fun I m=>∀x y:Value,∀h24:Qf,I m [x,y] h24->Qp prog .lss 3 x n fun c=>IfK c
   (YG 3 v x fun x127=>LdN h24 3 x127 fun x128=>Zb h24 (.cells z94 94) fun x11 h25=>StK h25 3 x11 x128 fun h26=>Qh x11 0 fun x130=>LdK h26 x130 fun x131=>
 QY h26 9 1 (ZP z9.toList 1) [(0,1,x131)] fun x132 h27=>Qe7 h27 9 1 16 z9 y x132 fun x133 h28=>Qp prog .add 3 x (.int .i64 1) fun x'=>Yf I m [x',x133] h28)
   (M y h24):=by
 rw[hs.len,List.length_map]
 refine ⟨fun m vs H'=>∃i y,vs=[.int .i64 (i:Nat),y]/\i+m=l.length/\Ext G H0 G H'/\Cur H0 G H' 9 1 y ((base++(l.take i).map fun s=>s.id).map QgD) (fun _=>False),⟨l.length,0,_,rfl,by omega,hE,by simpa using hc⟩,?_⟩
 rintro m x y H' ⟨i,y',hx,him,e,hc⟩
 cases hx
 rw[Y9]
 by_cases hlt:i<l.length
 ·have ha:=List.getElem?_eq_getElem hlt
  rw[Yd (by omega)]
  have hone:∀x∈YT l[i],x.oneCell'=true:=fun x hx=>by
   simp[YT]at hx
   rcases hx with rfl|rfl|rfl<;>rfl
  refine Z3 hs e.inn (i:=i) (it:=YT l[i]) (by rw[List.getElem?_map,ha];rfl) ?_
  refine cp_st (es:=3) (it:=YT l[i]) rfl (by decide) rfl hone ?_
  have o:Ym H0 G (H'.push (.cells (YT l[i]).toArray 94 (0,0))) H'.size (.cells (YT l[i]).toArray 94 (0,0)):=Ym.fresh e _
  have e:=e.push (.cells (YT l[i]).toArray 94 (0,0))
  have hc:=hc.push (.cells (YT l[i]).toArray 94 (0,0))
  generalize H'.push (.cells (YT l[i]).toArray 94 (0,0))=H2 at *
  refine Qy o (i:=0) (v:=YM l[i].id) rfl ?_
  refine build1 rfl rfl ?_
  have e:=e.push (.cells #[YM l[i].id] 9)
  have hc:=hc.push (.cells #[YM l[i].id] 9)
  have hy:(H2.push (.cells #[YM l[i].id] 9))[H2.size]?=some (.cells #[YM l[i].id] 9 (0,0)):=Qm
  generalize H2.push (.cells #[YM l[i].id] 9)=H3 at *
  refine hc.app e hy (Nat.le_refl 1) (it:=QgD l[i].id) rfl (fun x hx=>by simp[QgD]at hx;rw[hx];rfl) (by decide) (by decide) (by simp;omega) rfl (fun b hb=>hb.elim) ?_
  intro v' H4 e4 hc4 _
  rw[QE,wrap_i64 (by omega) (by omega)]
  refine ⟨m-1,by omega,i+1,v',by simp,by omega,e4,?_⟩
  have e1:((base++((l.take i++[l[i]]).map fun s=>s.id)).map QgD)=(base++(l.take i).map fun s=>s.id).map QgD++[QgD l[i].id]:=by simp only[List.map_append,List.map_cons,List.map_nil,List.append_assoc]
  rw[List.take_succ_eq_append_getElem hlt,e1]
  exact hc4
 ·rw[QL (by omega)]
  have:i=l.length:=by omega
  subst this
  rw[List.take_length]at hc
  exact hM _ _ e hc
theorem cl_loop {G:Cut} {q:Nat} {gs:List GM} {s x0:Value} {n deep:Int} {Hs H:Qf} (hs:QaJ G gs s) (hK:∀g∈gs,Qep g) (hl:gs.length<=50) (hd:0<=deep) (hd5:deep<=5) (kx:KX G q Hs H) (hq:Ym #[] G H q (left n)) (hn:0<=n) (hn2:n<=20)
  {RF:Qf->Prop} (hbad:∀h k,KX G q Hs h->h[q]?=some (left k)->RF h) {M:Kn} (hM:∀y h k,KX G q Hs h->Ym #[] G h q (left k)->Zq gs->(cntL gs:Int)+k<=n->0<=k->M y h):
  YX s fun x219=>YO [(.int .i64 0),x0] H fun I m=>∀x y:Value,∀h72:Qf,I m [x,y] h72->Qp prog .lss 3 x x219 fun c=>IfK c
   (YG 51 s x fun x222=>LdN h72 51 x222 fun x223=>Zb h72 (.cells z38 38) fun x21 h73=>StK h73 51 x21 x223 fun h74=>LdN h74 51 x21 fun x224=>Qp prog .sub 3 (.int .i64 deep) (.int .i64 1) fun x227=>
 Qb prog 17 #[x224,ptr q,x227] h74 fun x228 h75=>Z2 prog (Op.unary .not x228) fun x229=>IfK x229 (RF h75) (Qp prog .add 3 x (.int .i64 1) fun x230=>Yf I m [x230,y] h75))
   (M y h72):=by
 obtain ⟨its,hs,hvs⟩:=hs
 have hil:=Zf.len hvs
 rw[hs.len,<-hil]
 refine ⟨fun m vs H'=>∃i y k,vs=[.int .i64 (i:Nat),y]/\i+m=gs.length/\KX G q Hs H'/\Ym #[] G H' q (left k)/\Zq (gs.take i)/\(cntL (gs.take i):Int)+k<=n/\0<=k,⟨gs.length,0,_,n,rfl,by omega,kx,hq,by rw[List.take_zero,Zq];trivial,by rw[List.take_zero,cntL];simp,hn⟩,?_⟩
 rintro m x y H' ⟨i,y',k,hx,him,kx,hq,hcl,hcn,hk0⟩
 cases hx
 rw[Y9]
 by_cases hlt:i<gs.length
 ·have ha:=List.getElem?_eq_getElem hlt
  rw[Yd (by omega)]
  obtain ⟨x1,hx1,hv1⟩:=Zf.get hvs ha
  refine Z3 hs kx.inn (i:=i) hx1 ?_
  refine QeC hv1.len (by decide) rfl (ZV.one hv1) ?_
  have kx:KX G q Hs (H'.push (.cells x1.toArray 38 (0,0))):=kx.trans (KX.of_ext ((Ext.refl kx.inn).push _))
  have hq:=hq.push (.cells x1.toArray 38 (0,0))
  generalize H'.push (.cells x1.toArray 38 (0,0))=H2 at *
  rw[Yk,wrap_i64 (by omega) (by omega)]
  refine hK _ (List.mem_of_getElem? ha) G H2 x1 q k (deep-1) _ kx.inn hv1 hq hk0 (by omega) (by omega) (by omega) ?_
  intro H3 k3 b kx3 hq3 hb
  rw[Yl]
  have kx:=kx.trans kx3
  refine ZU (fun _=>hbad _ _ kx hq3) fun hb'=>?_
  obtain ⟨c1,c2,c3⟩:=hb (by simpa using hb')
  rw[QE,wrap_i64 (by omega) (by omega)]
  refine ⟨m-1,by omega,i+1,y,k3,by simp,by omega,kx,⟨hq3,hq.out,Nat.zero_le _⟩,?_,?_,c3⟩
  ·rw[List.take_succ_eq_append_getElem hlt];exact hcl.snoc c1
  ·rw[List.take_succ_eq_append_getElem hlt,cntL_snoc];omega
 ·rw[QL (by omega)]
  have:i=gs.length:=by omega
  subst this
  rw[List.take_length]at hcl hcn
  exact hM _ _ _ kx hq hcl hcn hk0
end Go.Proofs
namespace Go.Proofs
open Go Go.Vc
open Tryz (prog)
section
variable {H0:Qf} {G:Cut} {H:Qf} {q:Nat} {ty color:UInt8} {v:Value} {T:TypeId} (o:Ym H0 G H q (.cells [u8n ty,v,u8n color].toArray T (0,0)))
include o
theorem cc1 {amb:Bool} {K:Kn} (hk:K (.bool (decide ((3:Int)<(ty.toNat:Int))||(!amb&&decide ((2:Int)<(ty.toNat:Int))))) H):
 Qp prog .gtr 5 (u8n ty) (.int .u8 3) fun x12=>
 Qe x12 false (fun k1=>k1 (.bool amb) H) H fun x14 h2=>
 Qe x12 false (fun k2=>Z2 prog (Op.unary .not x14) fun x15=>k2 x15 h2) h2 fun x15_1 h3=>
 Qe x12 false (fun k3=>k3 x15_1 h3) h3 fun x16 h4=>
 Qe x16 true (fun k4=>Qh (ptr q) 0 fun x17=>k4 x17 h4) h4 fun x17_1 h5=>
 Qe x16 true (fun k5=>LdK h5 x17_1 fun x18=>k5 x18 h5) h5 fun x18_1 h6=>
 Qe x16 true (fun k6=>Qp prog .gtr 5 x18_1 (.int .u8 2) fun x19=>k6 x19 h6) h6 fun x19_1 h7=>
 Qe x12 false (fun k7=>Yh x16 x19_1 (.bool false) fun x20=>k7 x20 h7) h7 fun x20_1 h8=>
 Yh x12 (.bool true) x20_1 fun x21=>
 K x21 h8:=by
 have h0:∀k:Value->Prop,LdK H (.pointer (some ⟨q,0,none⟩)) k=k (u8n ty):=fun k=>Qj ((Qi o.get).trans rfl)
 rw[Qck]
 generalize decide ((3:Int)<(ty.toNat:Int))=b at *
 cases b<;>cases amb<;>simp only[Y1,Y6,Yc,Zo,QdZ,Yr,ZK,Yl,Qo,h0,Qck,Bool.not_true,Bool.not_false]
 all_goals exact hk
theorem cc2 {amb:Bool} {K:Kn} (hk:K (.bool (decide ((ty.toNat:Int)=1)||(amb&&decide ((0:Int)<(ty.toNat:Int))))) H):
 Qp prog .eql 5 (u8n ty) (.int .u8 1) fun x30=>
 Qe x30 false (fun k12=>k12 (.bool amb) H) H fun x32 h13=>
 Qe x30 false (fun k13=>k13 x32 h13) h13 fun x33 h14=>
 Qe x33 true (fun k14=>Qh (ptr q) 0 fun x34=>k14 x34 h14) h14 fun x34_1 h15=>
 Qe x33 true (fun k15=>LdK h15 x34_1 fun x35=>k15 x35 h15) h15 fun x35_1 h16=>
 Qe x33 true (fun k16=>Qp prog .gtr 5 x35_1 (.int .u8 0) fun x36=>k16 x36 h16) h16 fun x36_1 h17=>
 Qe x30 false (fun k17=>Yh x33 x36_1 (.bool false) fun x37=>k17 x37 h17) h17 fun x37_1 h18=>
 Yh x30 (.bool true) x37_1 fun x38=>
 K x38 h18:=by
 have h0:∀k:Value->Prop,LdK H (.pointer (some ⟨q,0,none⟩)) k=k (u8n ty):=fun k=>Qj ((Qi o.get).trans rfl)
 rw[Yo]
 generalize decide ((ty.toNat:Int)=1)=b at *
 cases b<;>cases amb<;>simp only[Y1,Y6,Yc,Zo,QdZ,Yr,ZK,Yl,Qo,h0,Qck,Bool.not_true,Bool.not_false]
 all_goals exact hk
theorem cc3 {amb b:Bool} {K:Kn} (hk:K (.bool (b||((amb||decide ((ty.toNat:Int)≠2))&&decide ((color.toNat:Int)≠0)))) H):
 Qe (.bool b) false (fun k18=>k18 (.bool amb) H) H fun x46 h19=>
 Qe (.bool b) false (fun k19=>k19 x46 h19) h19 fun x47 h20=>
 Qe x47 false (fun k20=>Qh (ptr q) 0 fun x48=>k20 x48 h20) h20 fun x48_1 h21=>
 Qe x47 false (fun k21=>LdK h21 x48_1 fun x49=>k21 x49 h21) h21 fun x49_1 h22=>
 Qe x47 false (fun k22=>Qp prog .neq 5 x49_1 (.int .u8 2) fun x50=>k22 x50 h22) h22 fun x50_1 h23=>
 Qe (.bool b) false (fun k23=>Yh x47 (.bool true) x50_1 fun x51=>k23 x51 h23) h23 fun x51_1 h24=>
 Qe (.bool b) false (fun k24=>k24 x51_1 h24) h24 fun x52 h25=>
 Qe x52 true (fun k25=>Qh (ptr q) 2 fun x53=>k25 x53 h25) h25 fun x53_1 h26=>
 Qe x52 true (fun k26=>LdK h26 x53_1 fun x54=>k26 x54 h26) h26 fun x54_1 h27=>
 Qe x52 true (fun k27=>Qp prog .neq 5 x54_1 (.int .u8 0) fun x55=>k27 x55 h27) h27 fun x55_1 h28=>
 Qe (.bool b) false (fun k28=>Yh x52 x55_1 (.bool false) fun x56=>k28 x56 h28) h28 fun x56_1 h29=>
 Yh (.bool b) (.bool true) x56_1 fun x57=>
 K x57 h29:=by
 have h0:∀k:Value->Prop,LdK H (.pointer (some ⟨q,0,none⟩)) k=k (u8n ty):=fun k=>Qj ((Qi o.get).trans rfl)
 have h2:∀k:Value->Prop,LdK H (.pointer (some ⟨q,2,none⟩)) k=k (u8n color):=fun k=>Qj ((Qi o.get).trans rfl)
 cases b
 ·cases amb
  ·simp only[Y1,Y6,Yc,Zo,QdZ,Yr,ZK,Qo,h0,h2,QJ]
   generalize decide ((ty.toNat:Int)≠2)=b at *
   cases b<;>simp only[Y1,Y6,Yc,Zo,QdZ,Yr,ZK,Qo,h0,h2,QJ]
   all_goals exact hk
  ·simp only[Y1,Y6,Yc,Zo,QdZ,Yr,ZK,Qo,h0,h2,QJ]
   exact hk
 ·simp only[Y1,Y6,Yc,Zo,QdZ,Yr,ZK,Qo,h0,h2,QJ]
  exact hk
end
theorem u8_eq {a b:UInt8} (h:(a.toNat:Int)=(b.toNat:Int)):a=b:=UInt8.toNat_inj.1 (by omega)
theorem choice_ok {G:Cut} {H:Qf} {q:Nat} {n deep:Int} {amb:Bool} {ty color:UInt8} {gs:List GM} {v:Value} (hG:G.In H) (hs:QaJ G gs v) (hK:∀g∈gs,Qep g) (hq:Ym #[] G H q (left n)) (hn:0<=n) (hn2:n<=20) (hd:0<=deep) (hd5:deep<=5) {R:Kn}
  (hR:∀H' k (b:Bool),KX G q H H'->H'[q]?=some (left k)->(b=true->GUn amb ty gs.length/\(amb=true\/ty≠2->color=0)/\Zq gs/\(cntL gs:Int)+k<=n/\0<=k)->R (.bool b) H'):
  FnS prog 71 #[.agg #[u8n ty,v,u8n color],.bool amb,ptr q,.int .i64 deep] H R:=by
 apply w71
 unfold s71
 rw[Q2]
 have e:=Ext.refl hG
 have o:Ym H G (H.push (.cells (Value.agg #[u8n ty,v,u8n color]).cells 26)) H.size (.cells [u8n ty,v,u8n color].toArray 26 (0,0)):=Ym.fresh e _
 have e:=e.push (.cells (Value.agg #[u8n ty,v,u8n color]).cells 26)
 have hq:=hq.push (.cells (Value.agg #[u8n ty,v,u8n color]).cells 26)
 generalize H.push (.cells (Value.agg #[u8n ty,v,u8n color]).cells 26)=H1 at *
 have kx:KX G q H H1:=KX.of_ext e
 have hF:R (.bool false) H1:=hR H1 n false kx hq.get (fun h=>by cases h)
 obtain ⟨its,hs,hvs⟩:=hs
 have hil:=Zf.len hvs
 have hlen:∀k:Value->Prop,YX v k=k (.int .i64 gs.length):=fun k=>by rw[hs.len,hil]
 refine Qy o (i:=0) (v:=u8n ty) rfl ?_
 refine cc1 o ?_
 refine or_len o (i:=1) (v:=v) rfl hlen ?_
 refine ZU (fun _=>hF) fun hb1=>?_
 refine Qy o (i:=0) (v:=u8n ty) rfl ?_
 refine cc2 o ?_
 generalize hone:(decide ((ty.toNat:Int)=1)||(amb&&decide ((0:Int)<(ty.toNat:Int))))=one at *
 refine Qy o (i:=1) (v:=v) rfl ?_
 rw[hlen,Yo,Qhn (by kernel_rfl)]
 refine cc3 o ?_
 refine ZU (fun _=>hF) fun hb2=>?_
 rw[Yl]
 simp only[Bool.or_eq_false_iff,Bool.and_eq_false_iff,Bool.not_eq_false',decide_eq_false_iff_not,beq_iff_eq,Bool.not_eq_eq_eq_not,Bool.not_true,Bool.not_false]at hb1 hb2
 obtain ⟨⟨t3,t2⟩,l1⟩:=hb1
 obtain ⟨hlo,hco⟩:=hb2
 have hco:amb=true\/ty≠2->color=0:=fun h=>by
  rcases hco with ⟨ha,ht⟩|hc
  ·rcases h with h|h
   ·rw[ha]at h;cases h
   ·exact absurd (u8_eq (b:=2) (by simpa using ht)) h
  ·exact u8_eq (b:=0) (by simpa using hc)
 cases one
 ·have hl0:gs.length≠1:=by
   intro h
   rw[h]at hlo;simp at hlo
  have hg:gs=[]:=List.eq_nil_of_length_eq_zero (by omega)
  subst hg
  simp only[Bool.or_eq_false_iff,Bool.and_eq_false_iff,decide_eq_false_iff_not]at hone
  simp only[Bool.not_false,Y6,Yr]
  refine hR H1 n true kx hq.get fun _=>⟨?_,hco,by rw[Zq];trivial,by rw[cntL];simp,hn⟩
  obtain ⟨h1,h0⟩:=hone
  by_cases hz:ty=0
  ·exact Or.inl ⟨hz,rfl⟩
  ·refine Or.inr ⟨hz,Or.inl ?_⟩
   have hz':ty.toNat≠0:=fun h=>hz (u8_eq (b:=0) (by rw[h];rfl))
   rcases h0 with h0|h0
   ·rcases t2 with t2|t2
    ·rw[h0]at t2;cases t2
    ·exact ⟨h0,u8_eq (b:=2) (by show (ty.toNat:Int)=2;omega),rfl⟩
   ·omega
 ·have hl1:gs.length=1:=by
   have:=hlo
   simp only[decide_eq_true_eq]at this
   omega
  obtain ⟨g0,rfl⟩:=List.length_eq_one_iff.1 hl1
  have ha:[g0][0]?=some g0:=rfl
  obtain ⟨x1,hx1,hv1⟩:=Zf.get hvs ha
  have h1:∀k:Value->Prop,LdK H1 (.pointer (some ⟨H.size,1,none⟩)) k=k v:=fun k=>Qj ((Qi o.get).trans rfl)
  obtain ⟨b,bo,cs,e',fr,g1,g2,g3,g4⟩:=hs.idx e.inn (i:=0) (x:=0) rfl hx1
  have g5:∀k:Value->Prop,LdN H1 51 (.pointer (some ⟨b,bo,none⟩)) k=k (.agg x1.toArray):=fun k=>YL (n:=51) (vs:=x1) (by rw[Q5 g2 51 (by omega)];exact congrArg some g4)
  simp only[Bool.not_true,Y1,Qo,h1,g1,g5,Yk,ZK]
  rw[wrap_i64 (by omega) (by omega)]
  refine hK _ (List.mem_of_getElem? ha) G H1 x1 q n (deep-1) _ e.inn hv1 hq hn hn2 (by omega) (by omega) ?_
  intro H3 k3 b kx3 hq3 hb
  refine hR H3 k3 b (kx.trans kx3) hq3 fun h=>?_
  obtain ⟨c1,c2,c3⟩:=hb h
  refine ⟨?_,hco,?_,?_,c3⟩
  ·refine Or.inr ?_
   rw[hl1]
   simp only[Bool.or_eq_true,Bool.and_eq_true,decide_eq_true_eq]at hone
   rcases hone with h1|⟨h1,h0⟩
   ·have:ty=1:=u8_eq (b:=1) (by rw[h1];rfl)
    exact ⟨by rw[this];decide,Or.inr ⟨Or.inl this,rfl⟩⟩
   ·refine ⟨fun h=>by rw[h]at h0;exact absurd h0 (by decide),Or.inr ⟨?_,rfl⟩⟩
    have:ty.toNat=1\/ty.toNat=2\/ty.toNat=3:=by omega
    rcases this with h|h|h
    ·exact Or.inl (u8_eq (b:=1) (by rw[h];rfl))
    ·exact Or.inr ⟨h1,Or.inl (u8_eq (b:=2) (by rw[h];rfl))⟩
    ·exact Or.inr ⟨h1,Or.inr (u8_eq (b:=3) (by rw[h];rfl))⟩
  ·rw[Zq,Zq];exact ⟨c1,trivial⟩
  ·simp only[cntL];omega
end Go.Proofs
