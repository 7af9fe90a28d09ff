/- WHAT IS PROVED: the given statement of FnMonsterFormat, whatever the input: this is part 14 of 14. No conditions. -/
import Derived.Test.YthcjblkplcepaaaGreatX13
import Derived.Test.YthcjblkplcepaaaGreatRows
import Derived.ProofKit
set_option linter.all false
namespace Go.Proofs
open Go Go.Vc
open Tryz (prog)
def QcL (x0 x1 x5 x6 x7:Value) (h5:Qe) (R:Kn):Prop:=
 QA (fun M2=>
 Qf x5 0 fun x27=>
 LdK h5 x27 fun x28=>
 Qj prog .eql 5 x28 (.int .u8 17) fun x30=>
 IfK x30
 (QA (fun M3=>
 Qf x5 1 fun x32=>
 LdK h5 x32 fun x33=>
 QG .i64 x33 fun x34=>
 Qj prog .rem 3 x1 x34 fun x35=>
 Qj prog .neq 3 x35 (.int .i64 0) fun x36=>
 IfK x36
 (Q1 x0 fun x38=>
 Qf x38 1 fun x39=>
 StK h5 1 x39 (.bool true) fun h6=>
 M3 [] h6)
 (M3 [] h5)) fun M3=>∀h7:Qe,M3 [] h7->
 Qf x5 3 fun x42=>
 LdK h7 x42 fun x43=>
 QbP x43 fun x44=>
 Qa prog 287 #[x0,x1,x44] h7 fun x45 h8=>
 Qf x7 3 fun x46=>
 StK h8 1 x46 x45 fun h9=>
 LdN h9 7 x7 fun x47=>
 StK h9 7 x6 x47 fun h10=>
 LdN h10 7 x6 fun r4=>
 R r4 h10)
 (QA (fun M5=>
 Qj prog .eql 5 x28 (.int .u8 11) fun x49=>
 IfK x49
 (M5 [x49] h5)
 (Qj prog .eql 5 x28 (.int .u8 12) fun x50=>
 IfK x50
 (M5 [x50] h5)
 (Qj prog .eql 5 x28 (.int .u8 13) fun x51=>
 IfK x51
 (M5 [x51] h5)
 (Qj prog .eql 5 x28 (.int .u8 14) fun x52=>
 IfK x52
 (M5 [x52] h5)
 (Qj prog .eql 5 x28 (.int .u8 16) fun x53=>
 M5 [x53] h5))))) fun M5=>∀x48:Value,∀h11:Qe,M5 [x48] h11->
 IfK x48
 (Qa prog 48 #[x0,x1] h11 fun x56 h12=>
 Qa prog 159 #[x0,x56,(.int .i64 4)] h12 fun x59 h13=>
 QG .i64 x59 fun x60=>
 Q1 x0 fun x62=>
 Qf x62 1 fun x63=>
 LdK h13 x63 fun x64=>
 Qd x64 false (fun k6=>k6 x60 h13) h13 fun x66 h14=>
 Qd x64 false (fun k7=>k7 x0 h14) h14 fun x67 h15=>
 Qd x64 false (fun k8=>Q1 x67 fun x68=>k8 x68 h15) h15 fun x68_1 h16=>
 Qd x64 false (fun k9=>Qf x68_1 0 fun x69=>k9 x69 h16) h16 fun x69_1 h17=>
 Qd x64 false (fun k10=>LdK h17 x69_1 fun x70=>k10 x70 h17) h17 fun x70_1 h18=>
 Qd x64 false (fun k11=>QbP x70_1 fun x71=>k11 x71 h18) h18 fun x71_1 h19=>
 Qd x64 false (fun k12=>Qj prog .gtr 3 x66 x71_1 fun x72=>k12 x72 h19) h19 fun x72_1 h20=>
 Yh x64 (.bool true) x72_1 fun x73=>
 IfK x73
 (Q1 x0 fun x75=>
 Qf x75 1 fun x76=>
 StK h20 1 x76 (.bool true) fun h21=>
 LdN h21 7 x7 fun x77=>
 StK h21 7 x6 x77 fun h22=>
 LdN h22 7 x6 fun r13=>
 R r13 h22)
 (QA (fun M14=>
 Qf x5 0 fun x78=>
 LdK h20 x78 fun x79=>
 Qj prog .eql 5 x79 (.int .u8 11) fun x135=>
 IfK x135
 (Qj prog .add 3 x56 (.int .i64 4) fun x138=>
 Qa prog 287 #[x0,x138,x60] h20 fun x140 h23=>
 Qf x7 3 fun x141=>
 StK h23 1 x141 x140 fun h24=>
 Q1 x0 fun x144=>
 Qf x144 1 fun x145=>
 LdK h24 x145 fun x146=>
 Qd x146 false (fun k15=>k15 x0 h24) h24 fun x148 h25=>
 Qd x146 false (fun k16=>k16 x56 h25) h25 fun x149 h26=>
 Qd x146 false (fun k17=>Qj prog .add 3 x149 (.int .i64 4) fun x150=>k17 x150 h26) h26 fun x150_1 h27=>
 Qd x146 false (fun k18=>k18 x60 h27) h27 fun x151 h28=>
 Qd x146 false (fun k19=>Qj prog .add 3 x150_1 x151 fun x152=>k19 x152 h28) h28 fun x152_1 h29=>
 Qd x146 false (fun k20=>Qa prog 287 #[x148,x152_1,(.int .i64 1)] h29 fun x153 h30=>k20 x153 h30) h29 fun x153_1 h31=>
 Qd x146 false (fun k21=>Qj prog .neq 9 x153_1 (.string ⟨#[0]⟩) fun x154=>k21 x154 h31) h31 fun x154_1 h32=>
 Yh x146 (.bool true) x154_1 fun x155=>
 Q1 x0 fun x156=>
 Qf x156 1 fun x157=>
 StK h32 1 x157 x155 fun h33=>
 M14 [x135] h33)
 (Qj prog .eql 5 x79 (.int .u8 12) fun x159=>
 IfK x159
 (Qj prog .add 3 x56 (.int .i64 4) fun x162=>
 Qa prog 287 #[x0,x162,x60] h20 fun x164 h34=>
 Qf x7 3 fun x165=>
 StK h34 1 x165 x164 fun h35=>
 M14 [x135] h35)
 (Qj prog .eql 5 x79 (.int .u8 13) fun x167=>
 IfK x167
 (Qf x5 1 fun x168=>
 LdK h20 x168 fun x169=>
 Qa prog 158 #[x169] h20 fun x170 h36=>
 Yu [(.int .i64 0)] h36 fun I22 n23=>∀x172:Value,∀h37:Qe,I22 n23 [x172] h37->
 Qj prog .lss 3 x172 x60 fun x173=>
 IfK x173
 (Qf x7 4 fun x175=>
 LdK h37 x175 fun x176=>
 Qj prog .add 3 x56 (.int .i64 4) fun x179=>
 Qj prog .mul 3 x170 x172 fun x182=>
 Qj prog .add 3 x179 x182 fun x183=>
 Qa prog 159 #[x0,x183,x170] h37 fun x185 h38=>
 Qh h37 h38<|
 Q8 h38 31 1 (YY z31.toList 1) [(0,1,x185)] fun x186 h39=>
 Qh h38 h39<|
 Qbk h39 31 1 8 z31 x176 x186 fun x187 h40=>
 Qf x7 4 fun x188=>
 StK h40 1 x188 x187 fun h41=>
 Qj prog .add 3 x172 (.int .i64 1) fun x189=>
 QQ I22 n23 [x189] h41)
 (M14 [x135] h37))
 (Qu z57.toList [(0,1,(.int .u8 11))] fun x80=>
 Y8 h20 (.cells z57 57) fun x11 h42=>
 StK h42 7 x11 x80 fun h43=>
 QA (fun M24=>
 Qf x5 0 fun x81=>
 LdK h43 x81 fun x82=>
 Qj prog .eql 5 x82 (.int .u8 16) fun x83=>
 Qd x83 true (fun k25=>Qf x5 5 fun x85=>k25 x85 h43) h43 fun x85_1 h44=>
 Qd x83 true (fun k26=>LdK h44 x85_1 fun x86=>k26 x86 h44) h44 fun x86_1 h45=>
 Qd x83 true (fun k27=>Y1 x86_1 fun x87=>k27 x87 h45) h45 fun x87_1 h46=>
 Qd x83 true (fun k28=>Qj prog .gtr 3 x87_1 (.int .i64 0) fun x88=>k28 x88 h46) h46 fun x88_1 h47=>
 Yh x83 x88_1 (.bool false) fun x89=>
 IfK x89
 (Qf x5 5 fun x90=>
 LdK h47 x90 fun x91=>
 Y2 7 x91 (.int .i64 0) fun x92=>
 LdN h47 7 x92 fun x93=>
 StK h47 7 x11 x93 fun h48=>
 M24 [] h48)
 (M24 [] h47)) fun M24=>∀h49:Qe,M24 [] h49->
 Yu [(.int .i64 0)] h49 fun I29 n30=>∀x95:Value,∀h50:Qe,I29 n30 [x95] h50->
 Qj prog .lss 3 x95 x60 fun x96=>
 IfK x96
 (QA (fun M31=>
 Q1 x0 fun x99=>
 Qf x99 1 fun x100=>
 LdK h50 x100 fun x101=>
 IfK x101
 (M14 [x135] h50)
 (Qf x5 0 fun x102=>
 LdK h50 x102 fun x103=>
 Qj prog .eql 5 x103 (.int .u8 14) fun x104=>
 IfK x104
 (Qf x7 5 fun x105=>
 LdK h50 x105 fun x106=>
 Qj prog .add 3 x56 (.int .i64 4) fun x109=>
 Qj prog .mul 3 (.int .i64 4) x95 fun x111=>
 Qj prog .add 3 x109 x111 fun x112=>
 LdN h50 7 x11 fun x113=>
 Qa prog 160 #[x0,x112,x113] h50 fun x114 h51=>
 Qh h50 h51<|
 Q8 h51 57 1 (YY z57.toList 1) [(0,7,x114)] fun x115 h52=>
 Qh h51 h52<|
 Qbk h52 57 7 104 z57 x106 x115 fun x116 h53=>
 Qf x7 5 fun x117=>
 StK h53 1 x117 x116 fun h54=>
 M31 [x95] h54)
 (Qf x7 5 fun x118=>
 LdK h50 x118 fun x119=>
 Qj prog .add 3 x56 (.int .i64 4) fun x123=>
 Qj prog .mul 3 (.int .i64 4) x95 fun x125=>
 Qj prog .add 3 x123 x125 fun x126=>
 LdN h50 7 x11 fun x128=>
 Qa prog 48 #[x0,x126] h50 fun x127 h55=>
 Qh h50 h55<|
 Qa prog 47 #[x0,x127,x128] h55 fun x129 h56=>
 Qh h55 h56<|
 Q8 h56 57 1 (YY z57.toList 1) [(0,7,x129)] fun x130 h57=>
 Qh h56 h57<|
 Qbk h57 57 7 104 z57 x119 x130 fun x131 h58=>
 Qf x7 5 fun x132=>
 StK h58 1 x132 x131 fun h59=>
 M31 [x95] h59))) fun M31=>∀x12:Value,∀h60:Qe,M31 [x12] h60->
 Qj prog .add 3 x95 (.int .i64 1) fun x133=>
 QQ I29 n30 [x133] h60)
 (M14 [x135] h50))))) fun M14=>∀x134:Value,∀h61:Qe,M14 [x134] h61->
 LdN h61 7 x7 fun x190=>
 StK h61 7 x6 x190 fun h62=>
 LdN h62 7 x6 fun r32=>
 R r32 h62))
 (Qj prog .eql 5 x28 (.int .u8 15) fun x192=>
 IfK x192
 (LdN h11 7 x5 fun x197=>
 Qa prog 48 #[x0,x1] h11 fun x196 h63=>
 Qh h11 h63<|
 Qa prog 47 #[x0,x196,x197] h63 fun x198 h64=>
 StK h64 7 x6 x198 fun h65=>
 LdN h65 7 x6 fun r33=>
 R r33 h65)
 (M2 [x30,x48,x192,x1] h11)))) fun M2=>∀x29 x48_1 x191 x1_1:Value,∀h66:Qe,M2 [x29,x48_1,x191,x1_1] h66->
 Qf x5 0 fun x201=>
 LdK h66 x201 fun x202=>
 Qa prog 158 #[x202] h66 fun x203 h67=>
 Qa prog 159 #[x0,x1_1,x203] h67 fun x204 h68=>
 Qf x7 2 fun x205=>
 StK h68 1 x205 x204 fun h69=>
 LdN h69 7 x7 fun x206=>
 StK h69 7 x6 x206 fun h70=>
 LdN h70 7 x6 fun r34=>
 R r34 h70
def Qip (x0 x5 x6 x7 x56 x60:Value) (h20:Qe) (R:Kn):Prop:=
 QA (fun M14=>
 Qf x5 0 fun x78=>
 LdK h20 x78 fun x79=>
 Qj prog .eql 5 x79 (.int .u8 11) fun x135=>
 IfK x135
 (Qj prog .add 3 x56 (.int .i64 4) fun x138=>
 Qa prog 287 #[x0,x138,x60] h20 fun x140 h23=>
 Qf x7 3 fun x141=>
 StK h23 1 x141 x140 fun h24=>
 Q1 x0 fun x144=>
 Qf x144 1 fun x145=>
 LdK h24 x145 fun x146=>
 Qd x146 false (fun k15=>k15 x0 h24) h24 fun x148 h25=>
 Qd x146 false (fun k16=>k16 x56 h25) h25 fun x149 h26=>
 Qd x146 false (fun k17=>Qj prog .add 3 x149 (.int .i64 4) fun x150=>k17 x150 h26) h26 fun x150_1 h27=>
 Qd x146 false (fun k18=>k18 x60 h27) h27 fun x151 h28=>
 Qd x146 false (fun k19=>Qj prog .add 3 x150_1 x151 fun x152=>k19 x152 h28) h28 fun x152_1 h29=>
 Qd x146 false (fun k20=>Qa prog 287 #[x148,x152_1,(.int .i64 1)] h29 fun x153 h30=>k20 x153 h30) h29 fun x153_1 h31=>
 Qd x146 false (fun k21=>Qj prog .neq 9 x153_1 (.string ⟨#[0]⟩) fun x154=>k21 x154 h31) h31 fun x154_1 h32=>
 Yh x146 (.bool true) x154_1 fun x155=>
 Q1 x0 fun x156=>
 Qf x156 1 fun x157=>
 StK h32 1 x157 x155 fun h33=>
 M14 [x135] h33)
 (Qj prog .eql 5 x79 (.int .u8 12) fun x159=>
 IfK x159
 (Qj prog .add 3 x56 (.int .i64 4) fun x162=>
 Qa prog 287 #[x0,x162,x60] h20 fun x164 h34=>
 Qf x7 3 fun x165=>
 StK h34 1 x165 x164 fun h35=>
 M14 [x135] h35)
 (Qj prog .eql 5 x79 (.int .u8 13) fun x167=>
 IfK x167
 (Qf x5 1 fun x168=>
 LdK h20 x168 fun x169=>
 Qa prog 158 #[x169] h20 fun x170 h36=>
 Yu [(.int .i64 0)] h36 fun I22 n23=>∀x172:Value,∀h37:Qe,I22 n23 [x172] h37->
 Qj prog .lss 3 x172 x60 fun x173=>
 IfK x173
 (Qf x7 4 fun x175=>
 LdK h37 x175 fun x176=>
 Qj prog .add 3 x56 (.int .i64 4) fun x179=>
 Qj prog .mul 3 x170 x172 fun x182=>
 Qj prog .add 3 x179 x182 fun x183=>
 Qa prog 159 #[x0,x183,x170] h37 fun x185 h38=>
 Qh h37 h38<|
 Q8 h38 31 1 (YY z31.toList 1) [(0,1,x185)] fun x186 h39=>
 Qh h38 h39<|
 Qbk h39 31 1 8 z31 x176 x186 fun x187 h40=>
 Qf x7 4 fun x188=>
 StK h40 1 x188 x187 fun h41=>
 Qj prog .add 3 x172 (.int .i64 1) fun x189=>
 QQ I22 n23 [x189] h41)
 (M14 [x135] h37))
 (Qu z57.toList [(0,1,(.int .u8 11))] fun x80=>
 Y8 h20 (.cells z57 57) fun x11 h42=>
 StK h42 7 x11 x80 fun h43=>
 QA (fun M24=>
 Qf x5 0 fun x81=>
 LdK h43 x81 fun x82=>
 Qj prog .eql 5 x82 (.int .u8 16) fun x83=>
 Qd x83 true (fun k25=>Qf x5 5 fun x85=>k25 x85 h43) h43 fun x85_1 h44=>
 Qd x83 true (fun k26=>LdK h44 x85_1 fun x86=>k26 x86 h44) h44 fun x86_1 h45=>
 Qd x83 true (fun k27=>Y1 x86_1 fun x87=>k27 x87 h45) h45 fun x87_1 h46=>
 Qd x83 true (fun k28=>Qj prog .gtr 3 x87_1 (.int .i64 0) fun x88=>k28 x88 h46) h46 fun x88_1 h47=>
 Yh x83 x88_1 (.bool false) fun x89=>
 IfK x89
 (Qf x5 5 fun x90=>
 LdK h47 x90 fun x91=>
 Y2 7 x91 (.int .i64 0) fun x92=>
 LdN h47 7 x92 fun x93=>
 StK h47 7 x11 x93 fun h48=>
 M24 [] h48)
 (M24 [] h47)) fun M24=>∀h49:Qe,M24 [] h49->
 Yu [(.int .i64 0)] h49 fun I29 n30=>∀x95:Value,∀h50:Qe,I29 n30 [x95] h50->
 Qj prog .lss 3 x95 x60 fun x96=>
 IfK x96
 (QA (fun M31=>
 Q1 x0 fun x99=>
 Qf x99 1 fun x100=>
 LdK h50 x100 fun x101=>
 IfK x101
 (M14 [x135] h50)
 (Qf x5 0 fun x102=>
 LdK h50 x102 fun x103=>
 Qj prog .eql 5 x103 (.int .u8 14) fun x104=>
 IfK x104
 (Qf x7 5 fun x105=>
 LdK h50 x105 fun x106=>
 Qj prog .add 3 x56 (.int .i64 4) fun x109=>
 Qj prog .mul 3 (.int .i64 4) x95 fun x111=>
 Qj prog .add 3 x109 x111 fun x112=>
 LdN h50 7 x11 fun x113=>
 Qa prog 160 #[x0,x112,x113] h50 fun x114 h51=>
 Qh h50 h51<|
 Q8 h51 57 1 (YY z57.toList 1) [(0,7,x114)] fun x115 h52=>
 Qh h51 h52<|
 Qbk h52 57 7 104 z57 x106 x115 fun x116 h53=>
 Qf x7 5 fun x117=>
 StK h53 1 x117 x116 fun h54=>
 M31 [x95] h54)
 (Qf x7 5 fun x118=>
 LdK h50 x118 fun x119=>
 Qj prog .add 3 x56 (.int .i64 4) fun x123=>
 Qj prog .mul 3 (.int .i64 4) x95 fun x125=>
 Qj prog .add 3 x123 x125 fun x126=>
 LdN h50 7 x11 fun x128=>
 Qa prog 48 #[x0,x126] h50 fun x127 h55=>
 Qh h50 h55<|
 Qa prog 47 #[x0,x127,x128] h55 fun x129 h56=>
 Qh h55 h56<|
 Q8 h56 57 1 (YY z57.toList 1) [(0,7,x129)] fun x130 h57=>
 Qh h56 h57<|
 Qbk h57 57 7 104 z57 x119 x130 fun x131 h58=>
 Qf x7 5 fun x132=>
 StK h58 1 x132 x131 fun h59=>
 M31 [x95] h59))) fun M31=>∀x12:Value,∀h60:Qe,M31 [x12] h60->
 Qj prog .add 3 x95 (.int .i64 1) fun x133=>
 QQ I29 n30 [x133] h60)
 (M14 [x135] h50))))) fun M14=>∀x134:Value,∀h61:Qe,M14 [x134] h61->
 LdN h61 7 x7 fun x190=>
 StK h61 7 x6 x190 fun h62=>
 LdN h62 7 x6 fun r32=>
 R r32 h62
theorem d11_11:decide ((11:UInt8)=11)=true:=rfl
theorem d12_11:decide ((12:UInt8)=11)=false:=rfl
theorem d12_12:decide ((12:UInt8)=12)=true:=rfl
theorem d13_11:decide ((13:UInt8)=11)=false:=rfl
theorem d13_12:decide ((13:UInt8)=12)=false:=rfl
theorem d13_13:decide ((13:UInt8)=13)=true:=rfl
theorem d14_11:decide ((14:UInt8)=11)=false:=rfl
theorem d14_12:decide ((14:UInt8)=12)=false:=rfl
theorem d14_13:decide ((14:UInt8)=13)=false:=rfl
theorem d14_14:decide ((14:UInt8)=14)=true:=rfl
theorem d14_16:decide ((14:UInt8)=16)=false:=rfl
theorem d15_11:decide ((15:UInt8)=11)=false:=rfl
theorem d15_12:decide ((15:UInt8)=12)=false:=rfl
theorem d15_13:decide ((15:UInt8)=13)=false:=rfl
theorem d15_14:decide ((15:UInt8)=14)=false:=rfl
theorem d15_15:decide ((15:UInt8)=15)=true:=rfl
theorem d15_16:decide ((15:UInt8)=16)=false:=rfl
theorem d15_17:decide ((15:UInt8)=17)=false:=rfl
theorem d16_11:decide ((16:UInt8)=11)=false:=rfl
theorem d16_12:decide ((16:UInt8)=12)=false:=rfl
theorem d16_13:decide ((16:UInt8)=13)=false:=rfl
theorem d16_14:decide ((16:UInt8)=14)=false:=rfl
theorem d16_16:decide ((16:UInt8)=16)=true:=rfl
theorem d17_17:decide ((17:UInt8)=17)=true:=rfl
theorem fill_v11:YN z57.toList [(0,1,(.int .u8 11))]=some (Yq 11 0 0 []):=by kernel_rfl
def QaG:SV->List SL
 |.mk _ _ _ _ _ _ s=>s
inductive QeY (V:VP) (bs:List UInt8) (a:Nat):SV->SV->Prop
 |num {kind elem num text nums kids slots n}:kind<=10->Qdx bs a (sizeK kind) n->QeY V bs a (.mk kind elem num text nums kids slots) (YD kind elem (UInt64.ofNat n) [])
 |struct {elem:UInt8} {num text nums kids slots} {xs:List UInt8}:elem≠0->a%elem.toNat=0->Yp bs a xs->xs.length=text.length->QeY V bs a (.mk 17 elem num text nums kids slots) (YD 17 elem 0 xs)
 |text {elem num text nums kids slots t} {xs:List UInt8}:QfJ bs a t->Qdx bs t 4 xs.length->Yp bs (t+4) xs->Yp bs (t+4+xs.length) [0]->QeY V bs a (.mk 11 elem num text nums kids slots) (YD 11 elem 0 xs)
 |bytes {elem num text nums kids slots t} {xs:List UInt8}:QfJ bs a t->Qdx bs t 4 xs.length->Yp bs (t+4) xs->QeY V bs a (.mk 12 elem num text nums kids slots) (YD 12 elem 0 xs)
 |nums {elem num text nums kids slots t} {ns:List UInt64}:QfJ bs a t->Qdx bs t 4 ns.length->ns.length<=bs.length->ns.length<=100->(∀i x,ns[i]?=some x->Qdx bs (t+4+sizeK elem*i) (sizeK elem) x.toNat)->QeY V bs a (.mk 13 elem num text nums kids slots) (.mk 13 elem 0 [] ns [] [])
 |texts {elem num text nums kids slots t} {ks:List SV}:QfJ bs a t->Qdx bs t 4 ks.length->ks.length<=bs.length->ks.length<=100->(∀i k,ks[i]?=some k->V (t+4+4*i) (YD 11 0 0 []) k)->QeY V bs a (.mk 14 elem num text nums kids slots) (.mk 14 elem 0 [] [] ks [])
 |tables {elem num text nums item its slots t} {ks:List SV}:QfJ bs a t->Qdx bs t 4 ks.length->ks.length<=bs.length->ks.length<=100->(∀i k,ks[i]?=some k->∃p gots,QfJ bs (t+4+4*i) p/\TabRd V bs p (QaG item) gots/\k= .mk 15 0 0 [] [] [] gots)->QeY V bs a (.mk 16 elem num text nums (item::its) slots) (.mk 16 elem 0 [] [] ks [])
 |table {elem num text nums kids slots t gots}:QfJ bs a t->TabRd V bs t slots gots->QeY V bs a (.mk 15 elem num text nums kids slots) (.mk 15 0 0 [] [] [] gots)
abbrev obV:Obj:=.cells z57 57 (0,0)
theorem value_pre {r:Nat} {bs:List UInt8} {G:Cut} {H:Qe} (hr:RdB G r bs) (hG:G.In H) {kind elem:UInt8} {num:UInt64} {text:List UInt8} {cn ck cs:Value} {a:Nat} {R:Kn}
  (hK:∀G1 H5 q5 q2 q3,RS G H 57 obV q2 q3 G1 H5 (Yq kind elem 0 [])->G.le G1->G1 q5=some (.cells #[u8n kind,u8n elem,QO num,QW text,cn,ck,cs] 57 (0,0))->QcL (ptr r) (.int .i64 (a:Nat)) (ptr q5) (ptr q2) (ptr q3) H5 R):
  FnS prog 160 #[ptr r,.int .i64 (a:Nat),.agg #[u8n kind,u8n elem,QO num,QW text,cn,ck,cs]] H R:=by
 apply w160
 unfold s160
 rw[Qx]
 have e1:=(Ext.refl hG).pushG (.cells (Value.agg #[u8n kind,u8n elem,QO num,QW text,cn,ck,cs]).cells 57 (0,0))
 have g5:(G.upd H.size (.cells (Value.agg #[u8n kind,u8n elem,QO num,QW text,cn,ck,cs]).cells 57 (0,0))) H.size=some (.cells #[u8n kind,u8n elem,QO num,QW text,cn,ck,cs] 57 (0,0)):=Cut.upd_same
 show Y8 (H.push (.cells (Value.agg #[u8n kind,u8n elem,QO num,QW text,cn,ck,cs]).cells 57 (0,0))) _ _
 generalize G.upd H.size (.cells (Value.agg #[u8n kind,u8n elem,QO num,QW text,cn,ck,cs]).cells 57 (0,0))=G1 at *
 generalize H.push (.cells (Value.agg #[u8n kind,u8n elem,QO num,QW text,cn,ck,cs]).cells 57 (0,0))=H1 at *
 rw[Qx]
 have e2:=e1.push (.cells z57 57 (0,0))
 have o2:Yo H G1 (H1.push (.cells z57 57 (0,0))) H1.size (.cells z57 57 (0,0)):=Yo.fresh e1 _
 have n1:(H1.push (.cells z57 57 (0,0))).size=H1.size+1:=size_push
 generalize H1.push (.cells z57 57 (0,0))=H2 at *
 have l1:∀k:Value->Prop,LdK H2 (.pointer (some ⟨r,1,none⟩)) k=k (.bool false):=fun k=>RdB.bad (hr.mono e1.le) e2.inn
 have p0:∀k:Value->Prop,LdK H2 (.pointer (some ⟨H.size,0,none⟩)) k=k (u8n kind):=fun k=>Ql ((Qk (e2.inn _ _ g5)).trans rfl)
 have p1:∀k:Value->Prop,LdK H2 (.pointer (some ⟨H.size,1,none⟩)) k=k (u8n elem):=fun k=>Ql ((Qk (e2.inn _ _ g5)).trans rfl)
 have hf:=fill_ke kind elem
 unfold Qu
 simp only[Qp,Qm,l1,YQ,p0,p1,hf]
 rw[Qx,QZ (n:=7) (c':=(Yq kind elem 0 []).toArray) Qi rfl rfl (by decide) (by simpa using (VV.flat G kind elem 0 []).one),Yc]
 have rs:RS G H 57 (.cells z57 57 (0,0)) H1.size H2.size G1 (H2.push (.cells (Yq kind elem 0 []).toArray 57 (0,0))) (Yq kind elem 0 []):=⟨e2.push _,o2.push _,Yo.fresh e2 _,by omega⟩
 exact hK G1 _ _ _ _ rs e1.le g5
theorem StK_same {H:Qe} {b i:Nat} {c:Array Value} {e:TypeId} {v:Value} (h:H[b]?=some (.cells c e (0,0))) (hi:c[i]?=some v) (hv:v.oneCell'=true) {kp:Qe->Prop}:StK H 1 (.pointer (some ⟨b,i,none⟩)) v kp=kp H:=by
 have hl:i<c.size:=by
  rcases Nat.lt_or_ge i c.size with hh|hh
  ·exact hh
  ·rw[Array.getElem?_eq_none hh]at hi;cases hi
 have e1:c.setIfInBounds i v=c:=by
  apply Array.ext_getElem?
  intro j
  rw[Array.getElem?_setIfInBounds]
  split
  ·rename_i hj;subst hj;first|rw[if_pos hl,hi]|rw[hi]|simp[hl,hi]
  ·rfl
 rw[Qax h hl (by simp) hv,e1,setB_same h]
section
variable {V:VP} {r:Nat} {bs:List UInt8} (hbl:bs.length<1073741824) {G:Cut} {H:Qe} {kind elem:UInt8} {num:UInt64} {text:List UInt8} {cn ck cs:Value} {a:Nat} {R:Kn} {got:SV} (hR:∀G' H' c',Ext G H G' H'->VV G' got c'->R (.agg c'.toArray) H')
 {G1:Cut} {H5:Qe} {q5 q2 q3:Nat} (rs:RS G H 57 obV q2 q3 G1 H5 (Yq kind elem 0 [])) (hr:RdB G1 r bs) (g5:G1 q5=some (.cells #[u8n kind,u8n elem,QO num,QW text,cn,ck,cs] 57 (0,0)))
include hbl hR rs hr g5
theorem val_num {n:Nat} (hk:kind<=10) (hn:Qdx bs a (sizeK kind) n) (hg:got=YD kind elem (UInt64.ofNat n) []):QcL (ptr r) (.int .i64 (a:Nat)) (ptr q5) (ptr q2) (ptr q3) H5 R:=by
 have p0:∀{h:Qe},G1.In h->∀k:Value->Prop,LdK h (.pointer (some ⟨q5,0,none⟩)) k=k (u8n kind):=fun hin k=>Ql ((Qk (hin _ _ g5)).trans rfl)
 have dd:∀c:UInt8,10<c->decide (kind=c)=false:=fun c hc=>decide_eq_false fun h=>by
  subst h
  rw[UInt8.le_iff_toNat_le]at hk
  rw[UInt8.lt_iff_toNat_lt]at hc
  omega
 unfold QcL
 refine Q2 (fun vs h=>h=H5/\∃x y w,vs=[x,y,w,.int .i64 (a:Nat)]) ?_ ?_
 ·rw[Qm,p0 rs.ext.inn,eqU (c:=17) (z:=17) rfl,dd 17 (by decide),YQ]
  refine Q2 (fun vs h=>h=H5/\vs=[.bool false]) ?_ ?_
  ·rw[eqU (c:=11) (z:=11) rfl,dd 11 (by decide),YQ,eqU (c:=12) (z:=12) rfl,dd 12 (by decide),YQ,eqU (c:=13) (z:=13) rfl,dd 13 (by decide),YQ,eqU (c:=14) (z:=14) rfl,dd 14 (by decide),YQ,eqU (c:=16) (z:=16) rfl,dd 16 (by decide)]
   exact ⟨rfl,rfl⟩
  rintro x48 h11 ⟨rfl,hx⟩
  cases hx
  rw[YQ,eqU (c:=15) (z:=15) rfl,dd 15 (by decide),YQ]
  exact ⟨rfl,_,_,_,rfl⟩
 rintro x29 x48 x191 x1 h66 ⟨rfl,x,y,w,hx⟩
 cases hx
 rw[Qm,p0 rs.ext.inn]
 refine Size_ok ?_
 have hs:=Qfk kind
 refine num_at hr rs.ext.inn (by omega) hn (by omega) (by omega) ?_
 have hn64:n<18446744073709551616:=by
  have:=hn.lt
  rcases hs with h|h|h|h<;>rw[h]at this<;>omega
 rw[show (Value.int .u64 (n:Nat))=QO (UInt64.ofNat n) by show _=Value.int .u64 _;rw[UInt64.toNat_ofNat_of_lt' (by show _<2^64;omega)]]
 refine rs.store (i:=2) (by simp) rfl ?_
 intro H6 rs6 _
 refine QcF rfl rfl rs6 (got:=got) ?_ hR
 rw[hg]
 exact VV.flat G1 kind elem (UInt64.ofNat n) []
theorem val_struct {xs:List UInt8} (hk:kind=17) (h0:elem≠0) (hm:a%elem.toNat=0) (hb:Yp bs a xs) (hl:xs.length=text.length) (hg:got=YD 17 elem 0 xs):QcL (ptr r) (.int .i64 (a:Nat)) (ptr q5) (ptr q2) (ptr q3) H5 R:=by
 subst hk
 have p0:∀{h:Qe},G1.In h->∀k:Value->Prop,LdK h (.pointer (some ⟨q5,0,none⟩)) k=k (u8n 17):=fun hin k=>Ql ((Qk (hin _ _ g5)).trans rfl)
 have p1:∀{h:Qe},G1.In h->∀k:Value->Prop,LdK h (.pointer (some ⟨q5,1,none⟩)) k=k (u8n elem):=fun hin k=>Ql ((Qk (hin _ _ g5)).trans rfl)
 have p3:∀{h:Qe},G1.In h->∀k:Value->Prop,LdK h (.pointer (some ⟨q5,3,none⟩)) k=k (QW text):=fun hin k=>Ql ((Qk (hin _ _ g5)).trans rfl)
 have he:=elem.toNat_lt
 have he0:elem.toNat≠0:=fun h=>h0 (UInt8.toNat_inj.1 (by simpa using h))
 have hba:=hb.1
 unfold QcL
 refine Q2 (fun _ _=>False) ?_ (fun _ _ _ _ _ h=>h.elim)
 rw[Qm,p0 rs.ext.inn,eqU (c:=17) (z:=17) rfl,d17_17,Qbs]
 refine Q2 (fun _ h=>h=H5) ?_ ?_
 ·have c5:∀k:Value->Prop,Qj prog .rem 3 (.int .i64 (a:Nat)) (.int .i64 (elem.toNat:Int)) k=k (.int .i64 0):=fun k=>by
   rw[BinK_rem (by omega),Int.tmod_eq_emod_of_nonneg (by omega)]
   congr 2
   omega
  rw[Qm,p1 rs.ext.inn,Q7,wrap_i64 (by omega) (by omega),c5,Y5,decide_eq_false (fun h=>h rfl),YQ]
 rintro h7 rfl
 rw[Qm,p3 rs.ext.inn,Qaf,Zs,<-hl]
 refine bytes_ok hr rs.ext.inn (by omega) (n:=xs.length) hba ?_
 rw[hb.2]
 refine rs.store (i:=3) (by simp) rfl ?_
 intro H6 rs6 _
 refine QcF rfl rfl rs6 (got:=got) ?_ hR
 rw[hg]
 exact VV.flat G1 17 elem 0 xs
theorem val_table {slots gots:List SL} {nums:List UInt64} {kids:List SV} {t:Nat} (hV:Qj8 V r bs) (hk:kind=15) (hv:VV G1 (.mk 15 elem num text nums kids slots) [u8n 15,u8n elem,QO num,QW text,cn,ck,cs]) (ho:QfJ bs a t) (hT:TabRd V bs t slots gots) (hg:got= .mk 15 0 0 [] [] [] gots):QcL (ptr r) (.int .i64 (a:Nat)) (ptr q5) (ptr q2) (ptr q3) H5 R:=by
 subst hk
 have p0:∀{h:Qe},G1.In h->∀k:Value->Prop,LdK h (.pointer (some ⟨q5,0,none⟩)) k=k (u8n 15):=fun hin k=>Ql ((Qk (hin _ _ g5)).trans rfl)
 unfold QcL
 refine Q2 (fun _ _=>False) ?_ (fun _ _ _ _ _ h=>h.elim)
 rw[Qm,p0 rs.ext.inn,eqU (c:=17) (z:=17) rfl,d15_17,YQ]
 refine Q2 (fun vs h=>h=H5/\vs=[.bool false]) ?_ ?_
 ·rw[eqU (c:=11) (z:=11) rfl,d15_11,YQ,eqU (c:=12) (z:=12) rfl,d15_12,YQ,eqU (c:=13) (z:=13) rfl,d15_13,YQ,eqU (c:=14) (z:=14) rfl,d15_14,YQ,eqU (c:=16) (z:=16) rfl,d15_16]
  exact ⟨rfl,rfl⟩
 rintro x48 h11 ⟨rfl,hx⟩
 cases hx
 rw[YQ,eqU (c:=15) (z:=15) rfl,d15_15,Qbs]
 show LdN h11 7 (ptr q5) _
 rw[YB (n:=7) (vs:=[u8n 15,u8n elem,QO num,QW text,cn,ck,cs]) (by rw[Q0 (rs.ext.inn _ _ g5) 7 (by simp)];rfl)]
 refine off_at hr rs.ext.inn (by omega) ho ?_
 refine Qq (Qig.refl _) ?_
 refine QhT hV hbl hr rs.ext.inn hv hT ?_
 intro G6 H6 c6 e6 v6
 have o2:=(rs.next e6).o2
 refine Qcv o2 rfl v6.len (by decide) v6.one (rs.next e6).ext (fun H7 e7=>hR G6 H7 c6 e7 (by rw[hg];exact v6))
theorem val_off {t n:Nat} (hk:kind=11\/kind=12\/kind=13\/kind=14\/kind=16) (ho:QfJ bs a t) (hn:Qdx bs t 4 n) (hnl:n<=bs.length)
  (hK:Qip (ptr r) (ptr q5) (ptr q2) (ptr q3) (.int .i64 (t:Nat)) (.int .i64 (n:Nat)) H5 R):QcL (ptr r) (.int .i64 (a:Nat)) (ptr q5) (ptr q2) (ptr q3) H5 R:=by
 have p0:∀{h:Qe},G1.In h->∀k:Value->Prop,LdK h (.pointer (some ⟨q5,0,none⟩)) k=k (u8n kind):=fun hin k=>Ql ((Qk (hin _ _ g5)).trans rfl)
 have dd:∀c:UInt8,c≠11->c≠12->c≠13->c≠14->c≠16->decide (kind=c)=false:=fun c h1 h2 h3 h4 h5=>decide_eq_false fun h=>by
  subst h
  rcases hk with h|h|h|h|h
  ·exact h1 h
  ·exact h2 h
  ·exact h3 h
  ·exact h4 h
  ·exact h5 h
 unfold QcL
 refine Q2 (fun _ _=>False) ?_ (fun _ _ _ _ _ h=>h.elim)
 rw[Qm,p0 rs.ext.inn,eqU (c:=17) (z:=17) rfl,dd 17 (by decide) (by decide) (by decide) (by decide) (by decide),YQ]
 refine Q2 (fun vs h=>h=H5/\vs=[.bool true]) ?_ ?_
 ·rw[eqU (c:=11) (z:=11) rfl]
  refine Yt (fun h=>⟨rfl,by rw[h]⟩) (fun h1=>?_)
  rw[eqU (c:=12) (z:=12) rfl]
  refine Yt (fun h=>⟨rfl,by rw[h]⟩) (fun h2=>?_)
  rw[eqU (c:=13) (z:=13) rfl]
  refine Yt (fun h=>⟨rfl,by rw[h]⟩) (fun h3=>?_)
  rw[eqU (c:=14) (z:=14) rfl]
  refine Yt (fun h=>⟨rfl,by rw[h]⟩) (fun h4=>?_)
  rw[eqU (c:=16) (z:=16) rfl]
  refine ⟨rfl,?_⟩
  rw[decide_eq_true (show kind=16 by
   rcases hk with h|h|h|h|h
   ·exact absurd h (of_decide_eq_false h1)
   ·exact absurd h (of_decide_eq_false h2)
   ·exact absurd h (of_decide_eq_false h3)
   ·exact absurd h (of_decide_eq_false h4)
   ·exact h)]
 rintro x48 h11 ⟨rfl,hx⟩
 cases hx
 rw[Qbs]
 have l0:∀k:Value->Prop,LdK h11 (.pointer (some ⟨r,0,none⟩)) k=k (QW bs):=fun k=>RdB.s hr rs.ext.inn
 have l1:∀k:Value->Prop,LdK h11 (.pointer (some ⟨r,1,none⟩)) k=k (.bool false):=fun k=>RdB.bad hr rs.ext.inn
 have hn32:=hn.lt
 refine off_at hr rs.ext.inn (by omega) ho ?_
 refine num_at hr rs.ext.inn (by omega) hn (by decide) (by decide) ?_
 rw[Q7,wrap_i64 (by omega) (by omega),Qp,Qm,l1,QJ]
 dsimp only
 rw[QJ]
 dsimp only
 rw[QJ]
 dsimp only
 rw[Qp,QJ]
 dsimp only
 rw[Qm,QJ]
 dsimp only
 rw[l0,QJ]
 dsimp only
 rw[Qaf,Zs,QJ]
 dsimp only
 rw[Z3,decide_eq_false (show ¬(n:Int)>(bs.length:Nat) by omega),Yv,YQ]
 exact hK
theorem val_text {t:Nat} {xs:List UInt8} (hk:kind=11) (ho:QfJ bs a t) (hn:Qdx bs t 4 xs.length) (hb:Yp bs (t+4) xs) (hz:Yp bs (t+4+xs.length) [0]) (hg:got=YD 11 elem 0 xs):QcL (ptr r) (.int .i64 (a:Nat)) (ptr q5) (ptr q2) (ptr q3) H5 R:=by
 have hb1:=hb.1
 have hz1:=hz.1
 have hn32:=hn.lt
 rw[List.length_singleton]at hz1
 refine val_off hbl hR rs hr g5 (Or.inl hk) ho hn (by omega) ?_
 subst hk
 have p0:∀{h:Qe},G1.In h->∀k:Value->Prop,LdK h (.pointer (some ⟨q5,0,none⟩)) k=k (u8n 11):=fun hin k=>Ql ((Qk (hin _ _ g5)).trans rfl)
 have c1:IntKind.i64.wrap ((t:Int)+4)=((t+4:Nat):Int):=by rw[wrap_i64 (by omega) (by omega)];omega
 have c2:IntKind.i64.wrap (((t+4:Nat):Int)+(xs.length:Int))=((t+4+xs.length:Nat):Int):=by rw[wrap_i64 (by omega) (by omega)];omega
 unfold Qip
 refine Q2 (fun _ h=>RS G H 57 obV q2 q3 G1 h (Yq 11 elem 0 xs)) ?_ ?_
 ·rw[Qm,p0 rs.ext.inn,eqU (c:=11) (z:=11) rfl,d11_11,Qbs,Q5,c1]
  refine bytes_ok hr rs.ext.inn (by omega) hb1 ?_
  rw[hb.2]
  refine rs.store (i:=3) (by simp) rfl ?_
  intro H6 rs6 _
  have l1:∀k:Value->Prop,LdK H6 (.pointer (some ⟨r,1,none⟩)) k=k (.bool false):=fun k=>RdB.bad hr rs6.ext.inn
  rw[Qp,Qm,l1,QJ]
  dsimp only
  rw[QJ]
  dsimp only
  rw[QJ]
  dsimp only
  rw[Q5,c1,QJ]
  dsimp only
  rw[QJ]
  dsimp only
  rw[Q5,c2,QJ]
  dsimp only
  refine bytes_ok hr rs6.ext.inn (by omega) (n:=1) hz1 ?_
  rw[show ((bs.drop (t+4+xs.length)).take 1)=[0] from hz.2,QJ]
  dsimp only
  rw[show (.string ⟨#[0]⟩:Value)=QW [0] from rfl,sne_self,Yv,Qp,Qm,StK_same (rs6.ext.inn _ _ hr) rfl rfl]
  exact rs6
 intro x134 h61 rs6
 refine QcF rfl rfl rs6 (got:=got) ?_ hR
 rw[hg]
 exact VV.flat G1 11 elem 0 xs
theorem val_bytes {t:Nat} {xs:List UInt8} (hk:kind=12) (ho:QfJ bs a t) (hn:Qdx bs t 4 xs.length) (hb:Yp bs (t+4) xs) (hg:got=YD 12 elem 0 xs):QcL (ptr r) (.int .i64 (a:Nat)) (ptr q5) (ptr q2) (ptr q3) H5 R:=by
 have hb1:=hb.1
 have hn32:=hn.lt
 refine val_off hbl hR rs hr g5 (Or.inr (Or.inl hk)) ho hn (by omega) ?_
 subst hk
 have p0:∀{h:Qe},G1.In h->∀k:Value->Prop,LdK h (.pointer (some ⟨q5,0,none⟩)) k=k (u8n 12):=fun hin k=>Ql ((Qk (hin _ _ g5)).trans rfl)
 have c1:IntKind.i64.wrap ((t:Int)+4)=((t+4:Nat):Int):=by rw[wrap_i64 (by omega) (by omega)];omega
 unfold Qip
 refine Q2 (fun _ h=>RS G H 57 obV q2 q3 G1 h (Yq 12 elem 0 xs)) ?_ ?_
 ·rw[Qm,p0 rs.ext.inn,eqU (c:=11) (z:=11) rfl,d12_11,YQ,eqU (c:=12) (z:=12) rfl,d12_12,Qbs,Q5,c1]
  refine bytes_ok hr rs.ext.inn (by omega) hb1 ?_
  rw[hb.2]
  refine rs.store (i:=3) (by simp) rfl ?_
  intro H6 rs6 _
  exact rs6
 intro x134 h61 rs6
 refine QcF rfl rfl rs6 (got:=got) ?_ hR
 rw[hg]
 exact VV.flat G1 12 elem 0 xs
theorem val_nums {t:Nat} {ns:List UInt64} (hk:kind=13) (ho:QfJ bs a t) (hn:Qdx bs t 4 ns.length) (hnl:ns.length<=bs.length) (hn100:ns.length<=100) (hi:∀i x,ns[i]?=some x->Qdx bs (t+4+sizeK elem*i) (sizeK elem) x.toNat) (hg:got= .mk 13 elem 0 [] ns [] []):QcL (ptr r) (.int .i64 (a:Nat)) (ptr q5) (ptr q2) (ptr q3) H5 R:=by
 refine val_off hbl hR rs hr g5 (Or.inr (Or.inr (Or.inl hk))) ho hn hnl ?_
 subst hk
 have ht:=hn.1
 have p0:∀{h:Qe},G1.In h->∀k:Value->Prop,LdK h (.pointer (some ⟨q5,0,none⟩)) k=k (u8n 13):=fun hin k=>Ql ((Qk (hin _ _ g5)).trans rfl)
 have p1:∀{h:Qe},G1.In h->∀k:Value->Prop,LdK h (.pointer (some ⟨q5,1,none⟩)) k=k (u8n elem):=fun hin k=>Ql ((Qk (hin _ _ g5)).trans rfl)
 have c1:IntKind.i64.wrap ((t:Int)+4)=((t+4:Nat):Int):=by rw[wrap_i64 (by omega) (by omega)];omega
 have hsz:=Qfk elem
 unfold Qip
 refine Q2 (fun _ h=>∃G6 cells,G1.le G6/\RS G H 57 obV q2 q3 G6 h cells/\VV G6 got cells) ?_ ?_
 ·rw[Qm,p0 rs.ext.inn,eqU (c:=11) (z:=11) rfl,d13_11,YQ,eqU (c:=12) (z:=12) rfl,d13_12,YQ,eqU (c:=13) (z:=13) rfl,d13_13,Qbs,Qm,p1 rs.ext.inn]
  refine Size_ok ?_
  refine ⟨fun m vs H'=>∃i,vs=[.int .i64 (i:Nat)]/\i+m=ns.length/\∃c its,RS G H 57 obV q2 q3 G1 H' ((Yq 13 elem 0 []).set 4 c)/\Cur H G1 H' 31 1 c its (badq q2 q3)/\its=(ns.take i).map Qce,⟨ns.length,0,rfl,by omega,_,[],rs,Cur.nil,rfl⟩,?_⟩
  rintro m x H' ⟨i,hx,him,c,its,rs',cur,hits⟩
  cases hx
  rw[Yw]
  by_cases hlt:i<ns.length
  ·rw[Yj (by omega)]
   have ha:=List.getElem?_eq_getElem hlt
   have hni:=hi i _ ha
   have hil:its.length=i:=by rw[hits,List.length_map,List.length_take];omega
   have hle:=hni.1
   have hmul:sizeK elem*i<=800:=by
    have h1:sizeK elem<=8:=by omega
    calc sizeK elem*i<=8*100:=Nat.mul_le_mul h1 (by omega)
     _=800:=rfl
   have c2:IntKind.i64.wrap (((sizeK elem:Nat):Int)*(i:Int))=((sizeK elem*i:Nat):Int):=by
    rw[show ((sizeK elem:Nat):Int)*(i:Int)=((sizeK elem*i:Nat):Int) by push_cast;rfl]
    exact wrap_i64 (by omega) (by omega)
   have c3:IntKind.i64.wrap (((t+4:Nat):Int)+((sizeK elem*i:Nat):Int))=((t+4+sizeK elem*i:Nat):Int):=by rw[wrap_i64 (by omega) (by omega)];omega
   rw[Qm,rs'.ld (i:=4) (v:=c) rfl,Q5,c1,Zx,c2,Q5,c3]
   refine num_at hr rs'.ext.inn (by omega) hni (by omega) (by omega) ?_
   refine Qq (Qig.refl _) ?_
   refine rs'.push_item (bts:=8) (et:=31) (es:=1) (zs:=z31) cur (v:=QO ns[i]) (it:=Qce ns[i]) rfl rfl (by simp[Qce];rfl) (by decide) rfl (by decide) (by omega) (by simp) ?_
   intro H6 c6 rs6 cur6
   rw[Q5,wrap_i64 (by omega) (by omega)]
   refine ⟨m-1,by omega,i+1,by simp,by omega,c6,_,rs6,cur6,?_⟩
   rw[Qan ha,hits]
  ·rw[Yb (by omega)]
   have:i=ns.length:=by omega
   subst this
   rw[List.take_length]at hits
   obtain ⟨G',e',sl,le,hown⟩:=cur.done rs'.ext
   refine ⟨G',_,le,⟨e',hown _ _ (Or.inl rfl) rs'.o2,hown _ _ (Or.inr rfl) rs'.o3,rs'.ne⟩,?_⟩
   rw[hg,VV]
   rw[hits]at sl
   exact ⟨_,_,_,rfl,sl,⟨[],SlV.nil _ 7,by rw[VVs];trivial⟩,⟨[],SlV.nil _ 9,by rw[VLs];trivial⟩⟩
 rintro x134 h61 ⟨G6,cells,_,rs6,hv⟩
 exact QcF rfl rfl rs6 hv hR
theorem val_texts {t:Nat} {ks:List SV} (hV:Qj8 V r bs) (hk:kind=14) (ho:QfJ bs a t) (hn:Qdx bs t 4 ks.length) (hnl:ks.length<=bs.length) (hn100:ks.length<=100) (hi:∀i k,ks[i]?=some k->V (t+4+4*i) (YD 11 0 0 []) k) (hg:got= .mk 14 elem 0 [] [] ks []):QcL (ptr r) (.int .i64 (a:Nat)) (ptr q5) (ptr q2) (ptr q3) H5 R:=by
 refine val_off hbl hR rs hr g5 (Or.inr (Or.inr (Or.inr (Or.inl hk)))) ho hn hnl ?_
 subst hk
 have ht:=hn.1
 have p0:∀{h:Qe},G1.In h->∀k:Value->Prop,LdK h (.pointer (some ⟨q5,0,none⟩)) k=k (u8n 14):=fun hin k=>Ql ((Qk (hin _ _ g5)).trans rfl)
 have c1:IntKind.i64.wrap ((t:Int)+4)=((t+4:Nat):Int):=by rw[wrap_i64 (by omega) (by omega)];omega
 unfold Qip
 refine Q2 (fun _ h=>∃G6 cells,G1.le G6/\RS G H 57 obV q2 q3 G6 h cells/\VV G6 got cells) ?_ ?_
 ·rw[Qm,p0 rs.ext.inn,eqU (c:=11) (z:=11) rfl,d14_11,YQ,eqU (c:=12) (z:=12) rfl,d14_12,YQ,eqU (c:=13) (z:=13) rfl,d14_13,YQ]
  refine Zl (fill_v11) ?_
  rw[Qx,QZ (n:=7) (c':=(Yq 11 0 0 []).toArray) Qi rfl rfl (by decide) (by simpa using (VV.flat G 11 0 0 []).one),Yc]
  have e11:=(Ext.refl rs.ext.inn).pushG (.cells (Yq 11 0 0 []).toArray 57 (0,0))
  have g11:(G1.upd H5.size (.cells (Yq 11 0 0 []).toArray 57 (0,0))) H5.size=some (.cells (Yq 11 0 0 []).toArray 57 (0,0)):=Cut.upd_same
  have rs:=rs.next e11
  have g5:=e11.le _ _ g5
  have hr:=hr.mono e11.le
  have le11:=e11.le
  clear e11
  have p0:∀{h:Qe},(G1.upd H5.size (.cells (Yq 11 0 0 []).toArray 57 (0,0))).In h->∀k:Value->Prop,LdK h (.pointer (some ⟨q5,0,none⟩)) k=k (u8n 14):=fun hin k=>Ql ((Qk (hin _ _ g5)).trans rfl)
  generalize G1.upd H5.size (.cells (Yq 11 0 0 []).toArray 57 (0,0))=G2 at *
  generalize H5.push (.cells (Yq 11 0 0 []).toArray 57 (0,0))=H6 at *
  generalize H5.size=q11 at *
  refine Q2 (fun _ h=>h=H6) ?_ ?_
  ·rw[Qm,p0 rs.ext.inn,eqU (c:=16) (z:=16) rfl,d14_16]
   simp only[Yz,Z2,Yv,YQ]
  rintro h49 rfl
  refine ⟨fun m vs H'=>∃i,vs=[.int .i64 (i:Nat)]/\i+m=ks.length/\∃G3 c its,G2.le G3/\RS G H 57 obV q2 q3 G3 H' ((Yq 14 elem 0 []).set 5 c)/\Cur H G3 H' 57 7 c its (badq q2 q3)/\VVs G3 (ks.take i) its,⟨ks.length,0,rfl,by omega,G2,_,[],Cut.le_refl _,rs,Cur.nil,by rw[List.take_zero,VVs];trivial⟩,?_⟩
  rintro m x H' ⟨i,hx,him,G3,c,its,le3,rs',cur,hits⟩
  cases hx
  rw[Yw]
  by_cases hlt:i<ks.length
  ·rw[Yj (by omega)]
   have ha:=List.getElem?_eq_getElem hlt
   have hil:its.length=i:=by have:=VVs.len hits;rw[List.length_take]at this;omega
   have c2:IntKind.i64.wrap (4*(i:Int))=((4*i:Nat):Int):=by rw[wrap_i64 (by omega) (by omega)];omega
   have c3:IntKind.i64.wrap (((t+4:Nat):Int)+((4*i:Nat):Int))=((t+4+4*i:Nat):Int):=by rw[wrap_i64 (by omega) (by omega)];omega
   have l1:∀k:Value->Prop,LdK H' (.pointer (some ⟨r,1,none⟩)) k=k (.bool false):=fun k=>RdB.bad (hr.mono le3) rs'.ext.inn
   refine Q2 (fun _ h=>∃G4 c its,G2.le G4/\RS G H 57 obV q2 q3 G4 h ((Yq 14 elem 0 []).set 5 c)/\Cur H G4 h 57 7 c its (badq q2 q3)/\VVs G4 (ks.take (i+1)) its) ?_ ?_
   ·rw[Qp,Qm,l1,YQ,Qm,Ql ((Qk (rs'.ext.inn _ _ (le3 _ _ g5))).trans (show (#[u8n 14,u8n elem,QO num,QW text,cn,ck,cs]:Array Value)[0]?=some (u8n 14) from rfl)),eqU (c:=14) (z:=14) rfl,d14_14,Qbs]
    rw[Qm,rs'.ld (i:=5) (v:=c) rfl,Q5,c1,Zx,c2,Q5,c3,YB (n:=7) (vs:=Yq 11 0 0 []) (by rw[Q0 (rs'.ext.inn _ _ (le3 _ _ g11)) 7 (by simp)];rfl)]
    refine hV G3 H' _ _ _ _ _ (hr.mono le3) rs'.ext.inn (VV.flat G3 11 0 0 []) (hi i _ ha) ?_
    intro G5 H7 c7 e7 v7
    refine Qq e7.keep.ext ?_
    refine (rs'.next e7).push_item (bts:=104) (et:=57) (es:=7) (zs:=z57) (cur.ext e7) (v:=.agg c7.toArray) (it:=c7) (by simp[Value.cells]) v7.len v7.one (by decide) rfl (by decide) (by omega) (by simp) ?_
    intro H8 c8 rs8 cur8
    refine ⟨G5,c8,_,Cut.le_trans le3 e7.le,rs8,cur8,?_⟩
    rw[List.take_add_one,ha]
    exact VVs.snoc (VVs.mono e7.le _ _ hits) v7
   rintro x12 h60 ⟨G4,c4,its4,le4,rs4,cur4,hits4⟩
   rw[Q5,wrap_i64 (by omega) (by omega)]
   exact ⟨m-1,by omega,i+1,by simp,by omega,G4,c4,its4,le4,rs4,cur4,hits4⟩
  ·rw[Yb (by omega)]
   have:i=ks.length:=by omega
   subst this
   rw[List.take_length]at hits
   obtain ⟨G',e',sl,le,hown⟩:=cur.done rs'.ext
   refine ⟨G',_,Cut.le_trans le11 (Cut.le_trans le3 le),⟨e',hown _ _ (Or.inl rfl) rs'.o2,hown _ _ (Or.inr rfl) rs'.o3,rs'.ne⟩,?_⟩
   rw[hg,VV]
   exact ⟨_,_,_,rfl,SlV.nil _ 1,⟨_,sl,VVs.mono le _ _ hits⟩,⟨[],SlV.nil _ 9,by rw[VLs];trivial⟩⟩
 rintro x134 h61 ⟨G6,cells,_,rs6,hv⟩
 exact QcF rfl rfl rs6 hv hR
theorem val_tables {t:Nat} {ks:List SV} {item:SV} {its0:List SV} {ki:List (List Value)} (hV:Qj8 V r bs) (hk:kind=16) (hki:SlV G1 7 ck ki) (hkv:VVs G1 (item::its0) ki) (ho:QfJ bs a t) (hn:Qdx bs t 4 ks.length) (hnl:ks.length<=bs.length) (hn100:ks.length<=100)
  (hi:∀i k,ks[i]?=some k->∃p gots,QfJ bs (t+4+4*i) p/\TabRd V bs p (QaG item) gots/\k= .mk 15 0 0 [] [] [] gots) (hg:got= .mk 16 elem 0 [] [] ks []):QcL (ptr r) (.int .i64 (a:Nat)) (ptr q5) (ptr q2) (ptr q3) H5 R:=by
 refine val_off hbl hR rs hr g5 (Or.inr (Or.inr (Or.inr (Or.inr hk)))) ho hn hnl ?_
 subst hk
 have ht:=hn.1
 have p0:∀{h:Qe},G1.In h->∀k:Value->Prop,LdK h (.pointer (some ⟨q5,0,none⟩)) k=k (u8n 16):=fun hin k=>Ql ((Qk (hin _ _ g5)).trans rfl)
 have c1:IntKind.i64.wrap ((t:Int)+4)=((t+4:Nat):Int):=by rw[wrap_i64 (by omega) (by omega)];omega
 obtain ⟨x1,k1,k2⟩:=VVs.get hkv (i:=0) (v:=item) rfl
 unfold Qip
 refine Q2 (fun _ h=>∃G6 cells,G1.le G6/\RS G H 57 obV q2 q3 G6 h cells/\VV G6 got cells) ?_ ?_
 ·rw[Qm,p0 rs.ext.inn,eqU (c:=11) (z:=11) rfl,d16_11,YQ,eqU (c:=12) (z:=12) rfl,d16_12,YQ,eqU (c:=13) (z:=13) rfl,d16_13,YQ]
  refine Zl (fill_v11) ?_
  rw[Qx,QZ (n:=7) (c':=(Yq 11 0 0 []).toArray) Qi rfl rfl (by decide) (by simpa using (VV.flat G 11 0 0 []).one),Yc]
  refine Q2 (fun _ h=>h=H5.push (.cells x1.toArray 57 (0,0))) ?_ ?_
  ·have in1:=rs.ext.inn.push (.cells (Yq 11 0 0 []).toArray 57 (0,0))
   rw[Qm,p0 in1,eqU (c:=16) (z:=16) rfl,d16_16]
   have p5:∀k:Value->Prop,LdK (H5.push (.cells (Yq 11 0 0 []).toArray 57 (0,0))) (.pointer (some ⟨q5,5,none⟩)) k=k ck:=fun k=>Ql ((Qk (in1 _ _ g5)).trans rfl)
   have hlen:∀k:Value->Prop,Y1 ck k=k (.int .i64 ((its0.length+1:Nat):Int)):=fun k=>by rw[hki.len,<-VVs.len hkv,List.length_cons]
   rw[Ye]
   dsimp only
   rw[Qm,Ye]
   dsimp only
   rw[p5,Ye]
   dsimp only
   rw[hlen,Ye]
   dsimp only
   rw[Z3,decide_eq_true (by omega),Y4,Qbs,Qm,p5]
   refine Qab (i:=0) hki in1 k1 ?_
   rw[QZ (n:=7) (c':=x1.toArray) Qi rfl (by simpa using k2.len) (by decide) (by simpa using k2.one),Yc]
  rintro h49 rfl
  have e11:=(Ext.refl rs.ext.inn).pushG (.cells x1.toArray 57 (0,0))
  have g11:(G1.upd H5.size (.cells x1.toArray 57 (0,0))) H5.size=some (.cells x1.toArray 57 (0,0)):=Cut.upd_same
  have rs:=rs.next e11
  have g5:=e11.le _ _ g5
  have hr:=hr.mono e11.le
  have le11:=e11.le
  clear e11
  generalize G1.upd H5.size (.cells x1.toArray 57 (0,0))=G2 at *
  generalize H5.push (.cells x1.toArray 57 (0,0))=H6 at *
  generalize H5.size=q11 at *
  refine ⟨fun m vs H'=>∃i,vs=[.int .i64 (i:Nat)]/\i+m=ks.length/\∃G3 c its,G2.le G3/\RS G H 57 obV q2 q3 G3 H' ((Yq 16 elem 0 []).set 5 c)/\Cur H G3 H' 57 7 c its (badq q2 q3)/\VVs G3 (ks.take i) its,⟨ks.length,0,rfl,by omega,G2,_,[],Cut.le_refl _,rs,Cur.nil,by rw[List.take_zero,VVs];trivial⟩,?_⟩
  rintro m x H' ⟨i,hx,him,G3,c,its,le3,rs',cur,hits⟩
  cases hx
  rw[Yw]
  by_cases hlt:i<ks.length
  ·rw[Yj (by omega)]
   have ha:=List.getElem?_eq_getElem hlt
   have hil:its.length=i:=by have:=VVs.len hits;rw[List.length_take]at this;omega
   have c2:IntKind.i64.wrap (4*(i:Int))=((4*i:Nat):Int):=by rw[wrap_i64 (by omega) (by omega)];omega
   have c3:IntKind.i64.wrap (((t+4:Nat):Int)+((4*i:Nat):Int))=((t+4+4*i:Nat):Int):=by rw[wrap_i64 (by omega) (by omega)];omega
   have l1:∀k:Value->Prop,LdK H' (.pointer (some ⟨r,1,none⟩)) k=k (.bool false):=fun k=>RdB.bad (hr.mono le3) rs'.ext.inn
   obtain ⟨p,gots,hp,hT,hkk⟩:=hi i _ ha
   refine Q2 (fun _ h=>∃G4 c its,G2.le G4/\RS G H 57 obV q2 q3 G4 h ((Yq 16 elem 0 []).set 5 c)/\Cur H G4 h 57 7 c its (badq q2 q3)/\VVs G4 (ks.take (i+1)) its) ?_ ?_
   ·rw[Qp,Qm,l1,YQ,Qm,Ql ((Qk (rs'.ext.inn _ _ (le3 _ _ g5))).trans (show (#[u8n 16,u8n elem,QO num,QW text,cn,ck,cs]:Array Value)[0]?=some (u8n 16) from rfl)),eqU (c:=14) (z:=14) rfl,d16_14,YQ]
    rw[Qm,rs'.ld (i:=5) (v:=c) rfl,Q5,c1,Zx,c2,Q5,c3,YB (n:=7) (vs:=x1) (by rw[Q0 (rs'.ext.inn _ _ (le3 _ _ g11)) 7 (by simp[k2.len])];simp[<-k2.len])]
    refine off_at (hr.mono le3) rs'.ext.inn (by omega) hp ?_
    refine Qq (Qig.refl _) ?_
    obtain ⟨k0,e0,n0,t0,ns0,kk0,s0⟩:=item
    refine QhT hV hbl (hr.mono le3) rs'.ext.inn (VV.mono (Cut.le_trans le11 le3) _ _ k2) hT ?_
    intro G5 H7 c7 e7 v7
    refine Qq e7.keep.ext ?_
    refine (rs'.next e7).push_item (bts:=104) (et:=57) (es:=7) (zs:=z57) (cur.ext e7) (v:=.agg c7.toArray) (it:=c7) (by simp[Value.cells]) v7.len v7.one (by decide) rfl (by decide) (by omega) (by simp) ?_
    intro H8 c8 rs8 cur8
    refine ⟨G5,c8,_,Cut.le_trans le3 e7.le,rs8,cur8,?_⟩
    rw[List.take_add_one,ha]
    refine VVs.snoc (VVs.mono e7.le _ _ hits) ?_
    rw[hkk];exact v7
   rintro x12 h60 ⟨G4,c4,its4,le4,rs4,cur4,hits4⟩
   rw[Q5,wrap_i64 (by omega) (by omega)]
   exact ⟨m-1,by omega,i+1,by simp,by omega,G4,c4,its4,le4,rs4,cur4,hits4⟩
  ·rw[Yb (by omega)]
   have:i=ks.length:=by omega
   subst this
   rw[List.take_length]at hits
   obtain ⟨G',e',sl,le,hown⟩:=cur.done rs'.ext
   refine ⟨G',_,Cut.le_trans le11 (Cut.le_trans le3 le),⟨e',hown _ _ (Or.inl rfl) rs'.o2,hown _ _ (Or.inr rfl) rs'.o3,rs'.ne⟩,?_⟩
   rw[hg,VV]
   exact ⟨_,_,_,rfl,SlV.nil _ 1,⟨_,sl,VVs.mono le _ _ hits⟩,⟨[],SlV.nil _ 9,by rw[VLs];trivial⟩⟩
 rintro x134 h61 ⟨G6,cells,_,rs6,hv⟩
 exact QcF rfl rfl rs6 hv hR
end
theorem value_step {V:VP} {r:Nat} {bs:List UInt8} (hV:Qj8 V r bs) (hbl:bs.length<1073741824):Qj8 (QeY V bs) r bs:=by
 intro G H cells R a sh got hr hG hv hval hR
 obtain ⟨kind,elem,num,text,nums,kids,slots⟩:=sh
 have hv0:=hv
 rw[VV]at hv
 obtain ⟨cn,ck,cs,rfl,_,⟨ki,hki,hkv⟩,_⟩:=hv
 refine value_pre hr hG ?_
 intro G1 H5 q5 q2 q3 rs le g5
 have hr:=hr.mono le
 cases hval with
 |num hk hn=>exact val_num hbl hR rs hr g5 hk hn rfl
 |struct h0 hm hb hl=>exact val_struct hbl hR rs hr g5 rfl h0 hm hb hl rfl
 |text ho hn hb hz=>exact val_text hbl hR rs hr g5 rfl ho hn hb hz rfl
 |bytes ho hn hb=>exact val_bytes hbl hR rs hr g5 rfl ho hn hb rfl
 |nums ho hn hnl h1 hi=>exact val_nums hbl hR rs hr g5 rfl ho hn hnl h1 hi rfl
 |texts ho hn hnl h1 hi=>exact val_texts hbl hR rs hr g5 hV rfl ho hn hnl h1 hi rfl
 |tables ho hn hnl h1 hi=>exact val_tables hbl hR rs hr g5 hV rfl (hki.mono le) (VVs.mono le _ _ hkv) ho hn hnl h1 hi rfl
 |table ho hT=>exact val_table hbl hR rs hr g5 hV rfl (VV.mono le _ _ hv0) ho hT rfl
def RdV (bs:List UInt8):Nat->VP
 |0=>fun _ _ _=>False
 |d+1=>QeY (RdV bs d) bs
theorem value_ok {r:Nat} {bs:List UInt8} (hbl:bs.length<1073741824):∀d,Qj8 (RdV bs d) r bs
 |0=>fun _ _ _ _ _ _ _ _ _ _ h _=>h.elim
 |d+1=>value_step (value_ok hbl d) hbl
end Go.Proofs
namespace Go.Proofs
open Go Go.Vc
open Tryz (prog)
theorem fill_rd (bs:List UInt8):YN z117.toList [(0,1,QW bs)]=some [QW bs,.bool false]:=by kernel_rfl
set_option maxHeartbeats 1000000 in
theorem Read_ok {bs:List UInt8} (hbl:bs.length<1073741824) {G:Cut} {H:Qe} (hG:G.In H) {kind elem:UInt8} {num:UInt64} {text:List UInt8} {nums:List UInt64} {kids:List SV} {slots gots:List SL} {cells:List Value} (hv:VV G (.mk kind elem num text nums kids slots) cells)
  {t d:Nat} (ho:QfJ bs 0 t) (hT:TabRd (RdV bs d) bs t slots gots) {R:Kn} (hR:∀G' H' c',Ext G H G' H'->VV G' (.mk 15 0 0 [] [] [] gots) c'->R (.tuple #[.agg c'.toArray,.bool true]) H'):FnS prog 11 #[QW bs,.agg cells.toArray] H R:=by
 have hvl:=hv.len
 apply w11
 unfold s11
 rw[Qx]
 have e1:=(Ext.refl hG).pushG (.cells (Value.agg cells.toArray).cells 57 (0,0))
 have g3:(G.upd H.size (.cells (Value.agg cells.toArray).cells 57 (0,0))) H.size=some (.cells cells.toArray 57 (0,0)):=Cut.upd_same
 have hv1:=VV.mono e1.le _ _ hv
 show Y8 (H.push (.cells (Value.agg cells.toArray).cells 57 (0,0))) _ _
 generalize G.upd H.size (.cells (Value.agg cells.toArray).cells 57 (0,0))=G1 at *
 generalize H.push (.cells (Value.agg cells.toArray).cells 57 (0,0))=H1 at *
 rw[Qx]
 have e2:=e1.push (.cells z57 57 (0,0))
 have o4:Yo H G1 (H1.push (.cells z57 57 (0,0))) H1.size (.cells z57 57 (0,0)):=Yo.fresh e1 _
 generalize H1.push (.cells z57 57 (0,0))=H2 at *
 generalize H1.size=q4 at *
 refine Zl (fill_rd bs) ?_
 rw[Qx]
 have e3:=(Ext.refl e2.inn).pushG (.cells (Value.agg [QW bs,.bool false].toArray).cells 117 (0,0))
 have hr:RdB (G1.upd H2.size (.cells (Value.agg [QW bs,.bool false].toArray).cells 117 (0,0))) H2.size bs:=Cut.upd_same
 have o4:=o4.ext e3
 have hv2:=VV.mono e3.le _ _ hv1
 have g3:=e3.le _ _ g3
 have e4:=e2.trans e3
 clear e3 e2 e1
 generalize G1.upd H2.size (.cells (Value.agg [QW bs,.bool false].toArray).cells 117 (0,0))=G3 at *
 generalize H2.push (.cells (Value.agg [QW bs,.bool false].toArray).cells 117 (0,0))=H3 at *
 generalize H2.size=r at *
 generalize H.size=q3 at *
 have hld:LdN H3 7 (ptr q3)=fun k=>k (.agg cells.toArray):=by
  funext k
  exact YB (by rw[Q0 (e4.inn _ _ g3) 7 (by simp[hvl])];simp[<-hvl])
 refine Q2 (fun vs h=>∃q7 G6 c,vs=[ptr q7]/\Ext G3 H3 G6 h/\h[q7]?=some (.cells c.toArray 57 (0,0))/\VV G6 (.mk 15 0 0 [] [] [] gots) c) ?_ ?_
 ·rw[hld]
  refine ⟨off_at (a:=0) hr e4.inn (by omega) ho (Qq (Qig.refl _) ⟨?_,?_⟩),?_⟩
  ·refine QhT (value_ok hbl d) hbl hr e4.inn hv2 hT ?_
   intro G5 H5 c5 e5 v5
   rw[Qx,QZ (n:=7) (c':=c5.toArray) Qi rfl (by simpa using v5.len) (by decide) (by simpa using v5.one),Yc]
   exact ⟨_,G5,c5,rfl,e5.push _,Qi,v5⟩
  ·rw[Qx]
   refine Qq (Qay.push _ _).ext ?_
   have ep:=(Ext.refl e4.inn).push (.cells z57 57 (0,0))
   have o7:Yo H3 G3 (H3.push (.cells z57 57 (0,0))) H3.size (.cells z57 57 (0,0)):=Yo.fresh (Ext.refl e4.inn) _
   refine QhT (value_ok hbl d) hbl hr ep.inn hv2 hT ?_
   intro G5 H5 c5 e5 v5
   have o7:=o7.ext e5
   rw[QZ (n:=7) (c':=c5.toArray) o7.get rfl (by simpa using v5.len) (by decide) (by simpa using v5.one)]
   exact ⟨_,G5,c5,rfl,(ep.trans e5).set o7.out o7.new _,(o7.set _).get,v5⟩
  ·rw[Qx]
   refine Qq (Qay.push _ _).ext ?_
   have ep:=(Ext.refl e4.inn).push (.cells z57 57 (0,0))
   have o7:Yo H3 G3 (H3.push (.cells z57 57 (0,0))) H3.size (.cells z57 57 (0,0)):=Yo.fresh (Ext.refl e4.inn) _
   refine off_at (a:=0) hr ep.inn (by omega) ho (Qq (Qig.refl _) ?_)
   refine QhT (value_ok hbl d) hbl hr ep.inn hv2 hT ?_
   intro G5 H5 c5 e5 v5
   have o7:=o7.ext e5
   rw[QZ (n:=7) (c':=c5.toArray) o7.get rfl (by simpa using v5.len) (by decide) (by simpa using v5.one)]
   exact ⟨_,G5,c5,rfl,(ep.trans e5).set o7.out o7.new _,(o7.set _).get,v5⟩
 rintro x7 h15 ⟨q7,G6,c6,hx,e6,g7,v6⟩
 cases hx
 have o4:=o4.ext e6
 have hr6:=hr.mono e6.le
 have l1:∀{h:Qe},G6.In h->∀k:Value->Prop,LdK h (.pointer (some ⟨r,1,none⟩)) k=k (.bool false):=fun hin k=>RdB.bad hr6 hin
 have e7:=e4.trans e6
 rw[YB (n:=7) (vs:=c6) (by rw[Q0 g7 7 (by simp[v6.len])];simp[<-v6.len]),Qp,Qm]
 have hst:∀k:Qe->Prop,StK h15 7 (ptr q4) (.agg c6.toArray) k=k (setB h15 q4 (.cells c6.toArray 57 (0,0))):=fun k=>QZ (n:=7) (c':=c6.toArray) o4.get rfl (by simpa using v6.len) (by decide) (by simpa using v6.one)
 have e8:=e7.set o4.out o4.new (.cells c6.toArray 57 (0,0))
 have o5:=o4.set (.cells c6.toArray 57 (0,0))
 have hl8:∀k:Value->Prop,LdN (setB h15 q4 (.cells c6.toArray 57 (0,0))) 7 (ptr q4) k=k (.agg c6.toArray):=fun k=>YB (by rw[Q0 o5.get 7 (by simp[v6.len])];simp[<-v6.len])
 refine ⟨?_,?_⟩
 ·rw[l1 e6.inn]
  refine Qq (Qig.refl _) ?_
  rw[Yn,hst,hl8]
  exact hR _ _ _ e8 v6
 ·rw[hst,l1 e8.inn,Yn,hl8]
  exact hR _ _ _ e8 v6
end Go.Proofs
namespace Go.Proofs
open Go Go.Vc
open Tryz (prog)
structure Buf (A:Nat) (bs:List UInt8):Prop where
 p2:P2 A
 m:bs.length%A=0
 lt:bs.length<1073741824
theorem P2.cases {k:Nat} (h:P2 k):k=1\/k=2\/k=4\/k=8:=by
 obtain ⟨i,hi,rfl⟩:=h
 rcases i with _|_|_|_|i
 ·exact Or.inl rfl
 ·exact Or.inr (Or.inl rfl)
 ·exact Or.inr (Or.inr (Or.inl rfl))
 ·exact Or.inr (Or.inr (Or.inr rfl))
 ·omega
theorem Qhg {A k:Nat} {bs:List UInt8} {p:Nat} (hb:Buf A bs) (h:Alg A k bs p) (hp:p<=bs.length):p%k=0:=by
 obtain ⟨h1,h2,h3⟩:=h
 have hm:=hb.m
 rcases h1.cases with rfl|rfl|rfl|rfl<;>rcases hb.p2.cases with rfl|rfl|rfl|rfl<;>omega
theorem ZO {bs:List UInt8} {a k:Nat} (h:a<bs.length):numB ((bs.drop a).take (k+1))=byteN bs a+256*numB ((bs.drop (a+1)).take k):=by
 rw[List.drop_eq_getElem_cons h,List.take_succ_cons,numB]
 unfold byteN
 simp[List.getD,h]
theorem QaN {bs:List UInt8} {a k:Nat} (hk:P2 k) (h:a+k<=bs.length):numB ((bs.drop a).take k)=leN k bs a:=by
 rcases hk.cases with rfl|rfl|rfl|rfl
 ·rw[ZO (by omega)];simp[numB,leN]
 ·rw[ZO (by omega),ZO (by omega)];simp[numB,leN,le2]
 ·rw[ZO (by omega),ZO (by omega),ZO (by omega),ZO (by omega)]
  simp only[List.take_zero,numB,leN,le4,le2,Nat.add_assoc,Nat.reduceAdd]
  omega
 ·rw[ZO (by omega),ZO (by omega),ZO (by omega),ZO (by omega),ZO (by omega),ZO (by omega),ZO (by omega),ZO (by omega)]
  simp only[List.take_zero,numB,leN,le8,le4,le2,Nat.add_assoc,Nat.reduceAdd]
  omega
theorem ZK.okk {A k n:Nat} {bs:List UInt8} {p:Nat} (hb:Buf A bs) (h:ZK k n A bs p):Qdx bs p k n:=
 ⟨h.1,Qhg hb h.2.1 (by have:=h.1;omega),by rw[QaN h.2.1.1 h.1,h.2.2]⟩
theorem ZC.off {A:Nat} {bs:List UInt8} {f:Nat} {P:PP} (hb:Buf A bs) (h:ZC P A bs f):QfJ bs f (tgt bs f):=by
 obtain ⟨h1,h2,h3,_⟩:=h
 refine ⟨le4 bs f,⟨h1,Qhg hb h2 (by omega),(QaN h2.1 h1).symm⟩,?_,?_,rfl⟩
 ·unfold tgt at h3;omega
 ·unfold tgt at h3;omega
def valL:SL->SV
 |.mk _ v _=>v
def dfL:SL->UInt64
 |.mk _ _ d=>d
def absL (v:SV) (d:UInt64):SL:=if QfE v<=10 then .mk false (YD (QfE v) 0 d []) d else .mk false (YD (QfE v) (elemV v) 0 []) d
section
variable {A:Nat} {bs:List UInt8} (hb:Buf A bs) {V:VP} {pos vt n:Nat} (tb:Qjm A bs pos vt n)
include hb tb
theorem tab_even:bs.length%2=0/\bs.length%4=0:=by
 have hm:=hb.m
 have h4:=tb.al.2.2
 rcases hb.p2.cases with rfl|rfl|rfl|rfl<;>omega
theorem place_ok {j:Nat}:if 4+2*j+2<=le2 bs vt then Qdx bs (vt+4+2*j) 2 (slotAt bs vt (4+2*j)) else slotAt bs vt (4+2*j)=0:=by
 have he:=tb.ok.he
 have hv:=tb.ok.ev
 have hev:=tab_even hb tb
 have hal:=tb.al
 split
 ·rename_i h
  unfold slotAt
  rw[if_pos (by omega)]
  refine ⟨by omega,by omega,?_⟩
  rw[QaN P2_2 (by omega)]
  show le2 bs (vt+(4+2*j))=le2 bs (vt+4+2*j)
  rw[Nat.add_assoc]
 ·rename_i h
  unfold slotAt
  rw[if_neg (by omega)]
theorem slot_ok {j:Nat} (hj:j<n) {sv:SV} {d:UInt64} {got:SL} {ab:Prop} {Q:PP} (h:QF A bs pos vt (4+2*j) ab Q) (h0:ab->got=absL sv d) (h1:¬ab->Q A bs (pos+slotAt bs vt (4+2*j))->∃w,V (pos+slotAt bs vt (4+2*j)) sv w/\got= .mk true w d):
  Qc2 V bs pos vt (le2 bs vt) (le2 bs (vt+2)) j sv d got:=by
 refine ⟨slotAt bs vt (4+2*j),place_ok hb tb,?_⟩
 rcases h with ⟨h2,h3⟩|⟨h2,h3,h4⟩
 ·exact Or.inl ⟨h2,h0 h3⟩
 ·exact Or.inr ⟨h2,tb.p4 j hj h2,tb.wl j hj,h1 h3 h4⟩
theorem slot_none {j:Nat} {sv:SV} {d:UInt64} {got:SL} (h:slotAt bs vt (4+2*j)=0) (h0:got=absL sv d):Qc2 V bs pos vt (le2 bs vt) (le2 bs (vt+2)) j sv d got:=
 ⟨slotAt bs vt (4+2*j),place_ok hb tb,Or.inl ⟨h,h0⟩⟩
theorem tab_rd {slots gots:List SL} (hl:slots.length=n) (hgl:gots.length=n) (hn:n<=100) (h:∀i has sv d got,slots[i]?=some (.mk has sv d)->gots[i]?=some got->Qc2 V bs pos vt (le2 bs vt) (le2 bs (vt+2)) i sv d got):TabRd V bs pos slots gots:=by
 have he:=tb.ok.he
 have h4:=tb.ok.h4
 have hp:=tb.ok.hp
 have hev:=tab_even hb tb
 have hal:=tb.al
 refine ⟨vt,le2 bs vt,le2 bs (vt+2),le4 bs pos,⟨hp,by omega,(QaN QgV hp).symm⟩,tb.ok.hs,⟨by omega,by omega,(QaN P2_2 (by omega)).symm⟩,⟨by omega,by omega,(QaN P2_2 (by omega)).symm⟩,h4,tb.ok.ev,he,tb.w4.1,tb.w4.2,by omega,by omega,h⟩
end
def QI (V:VP) (bs:List UInt8) (pos vt:Nat):Nat->List SL->List SL->Prop
 |_,[],[]=>True
 |i,s::ss,g::gs=>Qc2 V bs pos vt (le2 bs vt) (le2 bs (vt+2)) i (valL s) (dfL s) g/\QI V bs pos vt (i+1) ss gs
 |_,_,_=>False
theorem QI.get {V:VP} {bs:List UInt8} {pos vt:Nat}:∀{ss gs:List SL} {k:Nat},QI V bs pos vt k ss gs->∀i has sv d got,ss[i]?=some (.mk has sv d)->gs[i]?=some got->Qc2 V bs pos vt (le2 bs vt) (le2 bs (vt+2)) (k+i) sv d got
 |[],[],_,_,i,_,_,_,_,h,_=>by simp at h
 |s::ss,g::gs,k,hs,i,has,sv,d,got,h1,h2=>by
  rw[QI]at hs
  cases i with
  |zero=>
   have e1:s= .mk has sv d:=by simpa using h1
   have e2:g=got:=by simpa using h2
   subst e1 e2
   exact hs.1
  |succ i=>
   have:=QI.get hs.2 i has sv d got (by simpa using h1) (by simpa using h2)
   rwa [show k+(i+1)=k+1+i by omega]
 |[],_::_,_,hs,_,_,_,_,_,_,_=>by simp only[QI]at hs
 |_::_,[],_,hs,_,_,_,_,_,_,_=>by simp only[QI]at hs
theorem Qb4 (k e:UInt8) (n:UInt64) (t:List UInt8):ZM (YD k e n t)=YD k e n t:=by rw[YD,ZM,Qcr,ZR]
theorem Qib (has:Bool) (v:SV) (d:UInt64):Zm (.mk has v d)=if QfE v<=10/\(has=false\/eqK (QfE v) (numV v) d=true) then .mk false (YD (QfE v) 0 d []) d else if has=true then .mk has (ZM v) d else .mk has (YD (QfE v) (elemV v) 0 []) d:=by rw[Zm]
section
variable {A:Nat} {bs:List UInt8} (hb:Buf A bs) {pos vt n:Nat} (tb:Qjm A bs pos vt n) {e:Nat}
include hb tb
theorem YU {j:Nat} (hj:j<n) {k:UInt8} {n0 nn D:UInt64} {x:Nat} {ab:Prop} (hk:k<=10) (hx:(QaV k nn).toNat=x) (h:QF A bs pos vt (4+2*j) ab (ZK (sizeK k) x)) (hab:ab↔eqK k (QaV k nn) (QaV k D)=true):
  Qc2 (RdV bs (e+1)) bs pos vt (le2 bs vt) (le2 bs (vt+2)) j (YD k 0 n0 []) (QaV k D) (Zm (Qag k nn D)):=by
 have hr:Zm (Qag k nn D)=if eqK k (QaV k nn) (QaV k D)=true then absL (YD k 0 n0 []) (QaV k D) else .mk true (YD k 0 (QaV k nn) []) (QaV k D):=by
  rw[Qag,Qib,Qb4]
  unfold absL
  show (if k<=10/\(true=false\/eqK k (QaV k nn) (QaV k D)=true) then _ else _)=if eqK k (QaV k nn) (QaV k D)=true then (if k<=10 then SL.mk false (YD k 0 (QaV k D) []) (QaV k D) else _) else _
  rw[if_pos hk]
  by_cases hq:eqK k (QaV k nn) (QaV k D)=true
  ·rw[if_pos ⟨hk,Or.inr hq⟩,if_pos hq];rfl
  ·rw[if_neg (fun h=>by rcases h.2 with h|h;cases h;exact hq h),if_neg hq,if_pos rfl]
 refine slot_ok hb tb hj h (fun ha=>?_) (fun ha hn=>?_)
 ·rw[hr,if_pos (hab.1 ha)]
 ·refine ⟨YD k 0 (UInt64.ofNat x) [],QeY.num hk (ZK.okk hb hn),?_⟩
  rw[hr,if_neg (fun h=>ha (hab.2 h)),<-hx,UInt64.ofNat_toNat]
theorem QbK {j:Nat} (hj:j<n) {has:Bool} {v:SV} {d:UInt64} {ab:Prop} {Q:PP} (h:QF A bs pos vt (4+2*j) ab Q) (hk:¬QfE v<=10) (hab:ab↔has=false) (hv:has=true->Q A bs (pos+slotAt bs vt (4+2*j))->RdV bs e (pos+slotAt bs vt (4+2*j)) v (ZM v)):
  Qc2 (RdV bs e) bs pos vt (le2 bs vt) (le2 bs (vt+2)) j v d (Zm (.mk has v d)):=by
 have hr:Zm (.mk has v d)=if has=true then .mk has (ZM v) d else absL v d:=by
  rw[Qib,if_neg (fun h=>hk h.1)]
  unfold absL
  rw[if_neg hk]
  cases has<;>rfl
 refine slot_ok hb tb hj h (fun ha=>?_) (fun ha hq=>?_)
 ·rw[hr,hab.1 ha,if_neg (by decide)]
 ·have ht:has=true:=by
   cases hh:has
   ·exact absurd (hab.2 hh) ha
   ·rfl
  exact ⟨_,hv ht hq,by rw[hr,if_pos ht,ht]⟩
omit tb in
theorem str_rd {p:Nat} {xs ys:List UInt8} {num:UInt64} (h:ZC (Qcf xs) A bs p):RdV bs (e+1) p (YD 11 0 num ys) (YD 11 0 0 xs):=by
 obtain ⟨h1,h2,h3,h4,h5⟩:=h.2.2.2
 refine QeY.text (ZC.off hb h) ⟨by omega,Qhg hb h2 (by omega),?_⟩ ⟨by omega,h4⟩ ⟨by rw[List.length_singleton];omega,?_⟩
 ·rw[QaN QgV (by omega)];exact h3.symm
 ·rw[List.length_singleton,List.drop_eq_getElem_cons (by omega),List.take_succ_cons,List.take_zero]
  congr 1
  apply UInt8.toNat_inj.1
  unfold byteN at h5
  rw[<-show (bs.getD (tgt bs p+4+xs.length) 0)=bs[tgt bs p+4+xs.length] by simp[List.getD,show tgt bs p+4+xs.length<bs.length by omega]]
  exact h5
omit tb in
theorem bytes_rd {p:Nat} {xs ys:List UInt8} {num:UInt64} (h:ZC (Qcf xs) A bs p):RdV bs (e+1) p (YD 12 0 num ys) (YD 12 0 0 xs):=by
 obtain ⟨h1,h2,h3,h4,h5⟩:=h.2.2.2
 refine QeY.bytes (ZC.off hb h) ⟨by omega,Qhg hb h2 (by omega),?_⟩ ⟨by omega,h4⟩
 rw[QaN QgV (by omega)];exact h3.symm
omit tb in
theorem enums_rd {p:Nat} {xs ys:List UInt8} {num:UInt64} (h:ZC (QaQ 1 1 (xs.map fun b=>[b])) A bs p):RdV bs (e+1) p (YD 12 0 num ys) (YD 12 0 0 xs):=by
 obtain ⟨⟨h1,h2,h3,h4⟩,h5⟩:=h.2.2.2
 have hf:(xs.map fun b=>[b]).flatten=xs:=by
  clear h h1 h4 h5
  induction xs with
  |nil=>rfl
  |cons x xs ih=>simpa using ih
 rw[hf]at h5
 rw[List.length_map]at h1 h4
 refine QeY.bytes (ZC.off hb h) ⟨by omega,Qhg hb h2 (by omega),?_⟩ ⟨by omega,h5⟩
 rw[QaN QgV (by omega)];exact h4.symm
omit tb in
theorem nums_rd {p sz al:Nat} {k:UInt8} {items:List (List UInt8)} {ns ms:List UInt64} {num:UInt64} {text:List UInt8} (hsz:sizeK k=sz) (hsa:sz=1\/sz=4\/(sz=8/\al=8)) (hi:∀x∈items,x.length=sz) (hl:items.length=ns.length) (hn:ns.length<=100)
  (hv:∀(i:Nat) (x:List UInt8) (y:UInt64),items[i]?=some x->ns[i]?=some y->numB x=y.toNat) (h:ZC (QaQ sz al items) A bs p):RdV bs (e+1) p (.mk 13 k num text ms [] []) (.mk 13 k 0 [] ns [] []):=by
 have hvb:=h.2.2.2
 obtain ⟨⟨h1,h2,h3,h4⟩,h5⟩:=id hvb
 have ht4:=Qhg hb h2 (by omega)
 have hlen:ns.length<=bs.length:=by
  rw[hl]at h1
  rcases hsa with rfl|rfl|⟨rfl,_⟩<;>omega
 refine QeY.nums (ZC.off hb h) ⟨by omega,ht4,?_⟩ hlen hn ?_
 ·rw[QaN QgV (by omega),<-hl];exact h4.symm
 ·intro i y hy
  have hil:i<ns.length:=Q4 hy
  have hx:=List.getElem?_eq_getElem (l:=items) (i:=i) (by omega)
  have hB:=QaQ.at hi hvb hx
  have hxl:=hi _ (List.mem_of_getElem? hx)
  have hnv:=hv i _ y hx hy
  generalize items[i]=x at *
  rw[hsz]
  refine ⟨by have:=hB.1;rw[hxl]at this;exact this,?_,by have:=hB.2;rw[hxl]at this;rw[this,hnv]⟩
  rcases hsa with rfl|rfl|⟨rfl,rfl⟩
  ·omega
  ·omega
  ·have:=Qhg hb h3 (by omega)
   omega
omit tb in
theorem texts_rd {p:Nat} {l:List (List UInt8)} (hl:l.length<=100) (h:ZC (Qgp l Qcf) A bs p):RdV bs (e+2) p (.mk 14 0 0 [] [] (l.map fun s=>YD 11 0 0 s) []) (.mk 14 0 0 [] [] (l.map fun s=>YD 11 0 0 s) []):=by
 obtain ⟨⟨h1,h2,h3,h4⟩,h5⟩:=h.2.2.2
 refine QeY.texts (ZC.off hb h) ⟨by omega,Qhg hb h2 (by omega),?_⟩ (by rw[List.length_map];omega) (by rw[List.length_map];exact hl) ?_
 ·rw[QaN QgV (by omega),List.length_map];exact h4.symm
 ·intro i k hk
  rw[List.getElem?_map]at hk
  cases hx:l[i]? with
  |none=>rw[hx]at hk;cases hk
  |some x=>
   rw[hx]at hk
   have hk:YD 11 0 0 x=k:=by simpa using hk
   subst hk
   exact str_rd hb (h5 i x hx)
theorem Qi6 {ss gs:List SL} (hl:ss.length=n) (hgl:gs.length=n) (hn:n<=100) {V:VP} (h:QI V bs pos vt 0 ss gs):TabRd V bs pos ss gs:=
 tab_rd hb tb hl hgl hn fun i has sv d got h1 h2=>by have:=h.get i has sv d got h1 h2;rwa [Nat.zero_add]at this
omit hb tb in
theorem Qfl (k:UInt8) (n:UInt64):(QaV k n).toNat=n.toNat%2^(8*sizeK k):=by
 unfold QaV
 have h1:=n.toNat_lt
 have h2:n.toNat%2^(8*sizeK k)<=n.toNat:=Nat.mod_le _ _
 rw[UInt64.toNat_ofNat_of_lt' (by show _<2^64;omega)]
omit hb tb in
theorem Qcw {k:UInt8} {a b:UInt64} (h9:k≠9) (h10:k≠10):eqK k a b=true↔a.toNat=b.toNat:=by
 unfold eqK
 rw[if_neg h9,if_neg h10,decide_eq_true_eq]
 exact ⟨fun h=>by rw[h],fun h=>UInt64.toNat_inj.1 h⟩
omit hb tb in
theorem Qdt (x:UInt64):(QaV 7 x).toNat=x.toNat:=by
 have:=x.toNat_lt
 rw[Qfl,show 2^(8*sizeK 7)=18446744073709551616 from rfl];omega
omit hb tb in
theorem QiI (x:UInt64):(QaV 8 (toU (IntKind.i64.wrap (x.toNat:Int)))).toNat=x.toNat:=by
 have h:=x.toNat_lt
 have h2:=QhA (IntKind.i64.wrap (x.toNat:Int))
 generalize toU (IntKind.i64.wrap (x.toNat:Int))=w at h2⊢
 rw[Qfl,show 2^(8*sizeK 8)=18446744073709551616 from rfl]
 simp[IntKind.wrap,IntKind.bits,IntKind.signed]at h2
 omega
omit hb tb in
theorem msk_i32 (x:UInt32):(QaV 6 (toU (IntKind.i32.wrap (x.toNat:Int)))).toNat=x.toNat:=by
 have h:=x.toNat_lt
 have h2:=QhA (IntKind.i32.wrap (x.toNat:Int))
 generalize toU (IntKind.i32.wrap (x.toNat:Int))=w at h2⊢
 rw[Qfl,show 2^(8*sizeK 6)=4294967296 from rfl]
 simp[IntKind.wrap,IntKind.bits,IntKind.signed]at h2
 omega
omit hb tb in
theorem msk_u32 (x:UInt32):(QaV 5 (toU (x.toNat:Int))).toNat=x.toNat:=by
 have h:=x.toNat_lt
 rw[Qfl,show 2^(8*sizeK 5)=4294967296 from rfl,QeM (by omega)];omega
omit hb tb in
theorem QiB (x:UInt32):(QaV 9 (toU (x.toNat:Int))).toNat=x.toNat:=by
 have h:=x.toNat_lt
 rw[Qfl,show 2^(8*sizeK 9)=4294967296 from rfl,QeM (by omega)];omega
omit hb tb in
theorem msk_i16 (x:UInt16):(QaV 4 (toU (IntKind.i16.wrap (x.toNat:Int)))).toNat=x.toNat:=by
 have h:=x.toNat_lt
 have h2:=QhA (IntKind.i16.wrap (x.toNat:Int))
 generalize toU (IntKind.i16.wrap (x.toNat:Int))=w at h2⊢
 rw[Qfl,show 2^(8*sizeK 4)=65536 from rfl]
 simp[IntKind.wrap,IntKind.bits,IntKind.signed]at h2
 omega
omit hb tb in
theorem msk_u16 (x:UInt16):(QaV 3 (toU (x.toNat:Int))).toNat=x.toNat:=by
 have h:=x.toNat_lt
 rw[Qfl,show 2^(8*sizeK 3)=65536 from rfl,QeM (by omega)];omega
omit hb tb in
theorem msk_u8 (x:UInt8):(QaV 1 (toU (x.toNat:Int))).toNat=x.toNat:=by
 have h:=x.toNat_lt
 rw[Qfl,show 2^(8*sizeK 1)=256 from rfl,QeM (by omega)];omega
omit hb tb in
theorem msk_i8 (x:UInt8):(QaV 2 (toU (IntKind.i8.wrap (x.toNat:Int)))).toNat=x.toNat:=by
 have h:=x.toNat_lt
 have h2:=QhA (IntKind.i8.wrap (x.toNat:Int))
 generalize toU (IntKind.i8.wrap (x.toNat:Int))=w at h2⊢
 rw[Qfl,show 2^(8*sizeK 2)=256 from rfl]
 simp[IntKind.wrap,IntKind.bits,IntKind.signed]at h2
 omega
omit hb tb in
theorem msk_bool (b:Bool):(QaV 0 (boolN b)).toNat=if b then 1 else 0:=by cases b<;>decide
omit hb tb in
theorem eqK_f {a b:UInt64}:eqK 9 a b=true↔(a.toNat=b.toNat\/(a.toNat%2^31=0/\b.toNat%2^31=0)):=by
 unfold eqK
 rw[if_pos rfl,Bool.or_eq_true,Bool.and_eq_true,decide_eq_true_eq,decide_eq_true_eq,decide_eq_true_eq]
 exact ⟨fun h=>h.imp (fun h=>by rw[h]) id,fun h=>h.imp (fun h=>UInt64.toNat_inj.1 h) id⟩
omit tb in
theorem idV_rd {p:Nat} {x x0:UInt64} (h:RefP x A bs p):TabRd (RdV bs (e+1)) bs p (QaG (idV x0)) [Zm (Qag 7 x 0)]:=by
 obtain ⟨vt',h1,h2⟩:=h
 refine Qi6 hb h1 (ss:=[Qag 7 x0 0]) rfl rfl (by decide) ⟨?_,trivial⟩
 refine YU hb h1 (j:=0) (by decide) (k:=7) (by decide) (Qdt x) (ab:=x.toNat=0) h2 ?_
 rw[Qcw (by decide) (by decide),Qdt]
 exact Iff.rfl
omit hb tb in
theorem read0_id (x:UInt64):ZM (idV x)= .mk 15 0 0 [] [] [] [Zm (Qag 7 x 0)]:=by rw[idV,ZM,Qcr,ZR,ZR]
omit tb in
theorem ids_rd {p:Nat} {l:List UInt64} (hl:l.length<=100) (hne:l≠[]) (h:ZC (Qgp l RefP) A bs p):RdV bs (e+2) p (.mk 16 0 0 [] [] (l.map idV) []) (.mk 16 0 0 [] [] (l.map fun x=>ZM (idV x)) []):=by
 obtain ⟨⟨h1,h2,h3,h4⟩,h5⟩:=h.2.2.2
 obtain ⟨x0,xs,rfl⟩:=List.exists_cons_of_ne_nil hne
 refine QeY.tables (item:=idV x0) (its:=xs.map idV) (ZC.off hb h) ⟨by omega,Qhg hb h2 (by omega),?_⟩ (by rw[List.length_map];omega) (by rw[List.length_map];exact hl) ?_
 ·rw[QaN QgV (by omega),List.length_map];exact h4.symm
 ·intro i k hk
  rw[List.getElem?_map]at hk
  cases hx:(x0::xs)[i]? with
  |none=>rw[hx]at hk;cases hk
  |some x=>
   rw[hx]at hk
   have hk:ZM (idV x)=k:=by simpa using hk
   subst hk
   have hr:=h5 i x hx
   exact ⟨_,_,ZC.off hb hr,idV_rd hb hr.2.2.2,read0_id x⟩
omit tb in
theorem parentT_rd {p:Nat} (h:ZC Qec A bs p):RdV bs (e+1) p (YD 15 0 0 []) (YD 15 0 0 []):=by
 obtain ⟨vt',h1⟩:=h.2.2.2
 exact QeY.table (ZC.off hb h) (Qi6 hb h1 (ss:=[]) (gs:=[]) rfl rfl (by decide) trivial)
omit tb in
theorem stat_rd {p:Nat} {s:ZU} (h:ZC (Qil s) A bs p):RdV bs (e+2) p (valL (statV s)) (ZM (valL (statV s))):=by
 obtain ⟨vt',h1,h2,h3,h4⟩:=h.2.2.2
 have hr:ZM (valL (statV s))= .mk 15 0 0 [] [] [] [Zm (.mk true (YD 11 0 0 s.id) 0),Zm (Qag 8 (toU (IntKind.i64.wrap (s.val.toNat:Int))) 0),Zm (Qag 3 (toU (s.count.toNat:Int)) 0)]:=by
  rw[statV,valL,ZM,Qcr,ZR,ZR,ZR,ZR]
 rw[hr]
 refine QeY.table (ZC.off hb h) (Qi6 hb h1 (ss:=[.mk true (YD 11 0 0 s.id) 0,Qag 8 (toU (IntKind.i64.wrap (s.val.toNat:Int))) 0,Qag 3 (toU (s.count.toNat:Int)) 0]) rfl rfl (by decide) ⟨?_,?_,?_,trivial⟩)
 ·refine QbK hb h1 (j:=0) (by decide) (v:=YD 11 0 0 s.id) h2 (show ¬(11:UInt8)<=10 by decide) ⟨fun h=>h.elim,fun h=>by cases h⟩ (fun _ hq=>?_)
  rw[Qb4]
  exact str_rd hb hq
 ·refine YU hb h1 (j:=1) (by decide) (k:=8) (by decide) (QiI s.val) (ab:=s.val.toNat=0) h3 ?_
  rw[Qcw (by decide) (by decide),QiI]
  exact Iff.rfl
 ·refine YU hb h1 (j:=2) (by decide) (k:=3) (by decide) (msk_u16 s.count) (ab:=s.count.toNat=0) h4 ?_
  rw[Qcw (by decide) (by decide),msk_u16]
  exact Iff.rfl
end
end Go.Proofs
namespace Go.Proofs
open Go Go.Vc
open Tryz (prog)
theorem QF.gone {A:Nat} {bs:List UInt8} {pos vt vo:Nat} {ab:Prop} {Q:PP} (h:QF A bs pos vt vo ab Q) (ha:ab):slotAt bs vt vo=0:=by
 rcases h with h|h
 ·exact h.1
 ·exact absurd ha h.2.1
theorem QI.cons {V:VP} {bs:List UInt8} {pos vt i:Nat} {s:SL} {ss:List SL} (h1:Qc2 V bs pos vt (le2 bs vt) (le2 bs (vt+2)) i (valL s) (dfL s) (Zm s)) (h2:QI V bs pos vt (i+1) ss (ss.map Zm)):QI V bs pos vt i (s::ss) ((s::ss).map Zm):=⟨h1,h2⟩
theorem QI.nil {V:VP} {bs:List UInt8} {pos vt i:Nat}:QI V bs pos vt i [] (([]:List SL).map Zm):=trivial
theorem Qgh (x:UInt64):numB (Qak x)=x.toNat:=by
 have h:=QaN (bs:=Qak x) (a:=0) (k:=8) QfV (by show 0+8<=(leB _ 8).length;rw[Qg];omega)
 rw[List.drop_zero,List.take_of_length_le (by show (leB _ 8).length<=8;rw[Qg];omega)]at h
 rw[h]
 have h2:=le8_leB (x:=x.toNat) []
 rw[List.append_nil]at h2
 have:=x.toNat_lt
 show le8 (leB (x.toNat:Int) 8) 0=_
 rw[h2];omega
theorem numB_testB (t:QbB):numB (Qao t.a.toNat t.b.toNat)=(testN t).toNat:=by
 have ha:=t.a.toNat_lt
 have hb:=t.b.toNat_lt
 unfold Qao testN
 rw[leB_2,leB_1,UInt64.toNat_ofNat_of_lt' (by show _<2^64;omega)]
 have h0:=Qe1 (t.a.toNat:Int) 0
 have h1:=Qe1 (t.a.toNat:Int) 1
 have h2:=Qe1 (t.b.toNat:Int) 0
 show numB [Za _ 0,Za _ 1,Za _ 0,0]=_
 simp only[numB]
 rw[show (2:Int)^(8*0)=1 from rfl]at h0 h2
 rw[show (2:Int)^(8*1)=256 from rfl]at h1
 have h3:(0:UInt8).toNat=0:=rfl
 omega
theorem numB_boolB (b:Bool):numB (Qf0 b)=(boolN b).toNat:=by cases b<;>decide
theorem longN_nat (x:UInt64):(longN x).toNat=x.toNat:=by
 have h:=x.toNat_lt
 have h2:=QhA (IntKind.i64.wrap (x.toNat:Int))
 unfold longN
 generalize toU (IntKind.i64.wrap (x.toNat:Int))=w at h2⊢
 simp[IntKind.wrap,IntKind.bits,IntKind.signed]at h2
 omega
theorem Qew {α:Type} {β γ:Type} {f:α->β} {g:α->γ} {l:List α} {i:Nat} {x:β} {y:γ} (hx:(l.map f)[i]?=some x) (hy:(l.map g)[i]?=some y):∃a,x=f a/\y=g a:=by
 rw[List.getElem?_map]at hx hy
 cases hl:l[i]? with
 |none=>rw[hl]at hx;cases hx
 |some a=>rw[hl]at hx hy;exact ⟨a,by simpa using hx.symm,by simpa using hy.symm⟩
section
variable {A:Nat} {bs:List UInt8} (hb:Buf A bs) {pos vt n:Nat} (tb:Qjm A bs pos vt n) {e:Nat}
include hb tb
theorem QhV {j:Nat} {k:UInt8} {n0:UInt64} (hk:k<=10) (h:slotAt bs vt (4+2*j)=0):Qc2 (RdV bs e) bs pos vt (le2 bs vt) (le2 bs (vt+2)) j (YD k 0 n0 []) (QaV k 0) (Zm (Qag k 0 0)):=by
 refine slot_none hb tb h ?_
 have hq:eqK k (QaV k 0) (QaV k 0)=true:=by unfold eqK;split<;>simp
 rw[Qag,Qib,if_pos ⟨hk,Or.inr hq⟩]
 unfold absL
 rw[if_pos (show QfE (YD k 0 n0 [])<=10 from hk)]
 rfl
theorem Qfe {j:Nat} {k:UInt8} {ab:Prop} {Q:PP} (hk:¬k<=10) (h:QF A bs pos vt (4+2*j) ab Q) (ha:ab):Qc2 (RdV bs e) bs pos vt (le2 bs vt) (le2 bs (vt+2)) j (YD k 0 0 []) 0 (Zm (.mk false (YD k 0 0 []) 0)):=by
 refine slot_none hb tb (h.gone ha) ?_
 rw[Qib,if_neg (fun h=>hk h.1),if_neg (by decide)]
 unfold absL
 rw[if_neg (show ¬QfE (YD k 0 0 [])<=10 from hk)]
theorem QiN {j:Nat} (hj:j<n) {xs:List UInt8} (h:QF A bs pos vt (4+2*j) (xs=[]) (ZC (Qcf xs))):Qc2 (RdV bs (e+1)) bs pos vt (le2 bs vt) (le2 bs (vt+2)) j (valL (Qgv xs)) (dfL (Qgv xs)) (Zm (Qgv xs)):=
 QbK hb tb hj (v:=YD 12 0 0 xs) h (show ¬(12:UInt8)<=10 by decide) (by rw[decide_eq_false_iff_not];exact ⟨fun h g=>g h,fun h=>Classical.byContradiction h⟩) (fun _ hq=>by rw[Qb4];exact bytes_rd hb hq)
theorem enums_slot {j:Nat} (hj:j<n) {xs:List UInt8} (h:QF A bs pos vt (4+2*j) ((xs.map fun b=>[b])=[]) (ZC (QaQ 1 1 (xs.map fun b=>[b])))):Qc2 (RdV bs (e+1)) bs pos vt (le2 bs vt) (le2 bs (vt+2)) j (valL (Qgv xs)) (dfL (Qgv xs)) (Zm (Qgv xs)):=
 QbK hb tb hj (v:=YD 12 0 0 xs) h (show ¬(12:UInt8)<=10 by decide) (by rw[List.map_eq_nil_iff,decide_eq_false_iff_not];exact ⟨fun h g=>g h,fun h=>Classical.byContradiction h⟩) (fun _ hq=>by rw[Qb4];exact enums_rd hb hq)
theorem Qdj {j:Nat} (hj:j<n) {sz al:Nat} {k:UInt8} {items:List (List UInt8)} {ns:List UInt64} (h:QF A bs pos vt (4+2*j) (items=[]) (ZC (QaQ sz al items))) (hsz:sizeK k=sz) (hsa:sz=1\/sz=4\/(sz=8/\al=8)) (hi:∀x∈items,x.length=sz) (hl:items.length=ns.length) (hn:ns.length<=100)
  (hv:∀(i:Nat) (x:List UInt8) (y:UInt64),items[i]?=some x->ns[i]?=some y->numB x=y.toNat):Qc2 (RdV bs (e+1)) bs pos vt (le2 bs vt) (le2 bs (vt+2)) j (valL (Qgo k ns)) (dfL (Qgo k ns)) (Zm (Qgo k ns)):=
 QbK hb tb hj (v:=.mk 13 k 0 [] ns [] []) h (show ¬(13:UInt8)<=10 by decide) (by rw[decide_eq_false_iff_not,<-List.length_eq_zero_iff,hl];omega) (fun _ hq=>by
  rw[show ZM (.mk 13 k 0 [] ns [] [])= .mk 13 k 0 [] ns [] [] by rw[ZM,Qcr,ZR]]
  exact nums_rd hb hsz hsa hi hl hn hv hq)
theorem texts_slot {j:Nat} (hj:j<n) {l:List (List UInt8)} (hl:l.length<=100) (h:QF A bs pos vt (4+2*j) (l=[]) (ZC (Qgp l Qcf))):Qc2 (RdV bs (e+2)) bs pos vt (le2 bs vt) (le2 bs (vt+2)) j (valL (Qjd l)) (dfL (Qjd l)) (Zm (Qjd l)):=
 QbK hb tb hj (v:=.mk 14 0 0 [] [] (l.map fun s=>YD 11 0 0 s) []) h (show ¬(14:UInt8)<=10 by decide) (by rw[decide_eq_false_iff_not,<-List.length_eq_zero_iff];omega) (fun _ hq=>by
  rw[show ZM (.mk 14 0 0 [] [] (l.map fun s=>YD 11 0 0 s) [])= .mk 14 0 0 [] [] (l.map fun s=>YD 11 0 0 s) [] by
   rw[ZM,Qe2,ZR,List.map_map]
   first|rfl|(congr 1;exact List.map_congr_left fun x _=>Qb4 11 0 0 x)]
  exact texts_rd hb hl hq)
theorem ids_slot {j:Nat} (hj:j<n) {l:List UInt64} (hl:l.length<=100) (h:QF A bs pos vt (4+2*j) (l=[]) (ZC (Qgp l RefP))):Qc2 (RdV bs (e+2)) bs pos vt (le2 bs vt) (le2 bs (vt+2)) j (valL (idsL l)) (dfL (idsL l)) (Zm (idsL l)):=
 QbK hb tb hj (v:=.mk 16 0 0 [] [] (l.map idV) []) h (show ¬(16:UInt8)<=10 by decide) (by rw[decide_eq_false_iff_not,<-List.length_eq_zero_iff];omega) (fun hd hq=>by
  rw[show ZM (.mk 16 0 0 [] [] (l.map idV) [])= .mk 16 0 0 [] [] (l.map fun x=>ZM (idV x)) [] by
   rw[ZM,Qe2,ZR,List.map_map];rfl]
  exact ids_rd hb hl (fun h=>by rw[h]at hd;cases hd) hq)
theorem posT_slot {l:List Qa9} (hn:0<n) (h:QF A bs pos vt 4 (l.head?=none) (posQ l.head?)):Qc2 (RdV bs (e+1)) bs pos vt (le2 bs vt) (le2 bs (vt+2)) 0 (valL (posL l)) (dfL (posL l)) (Zm (posL l)):=by
 cases l with
 |nil=>exact QbK hb tb hn (ab:=(none:Option Qa9)=none) h (show ¬(17:UInt8)<=10 by decide) ⟨fun _=>rfl,fun _=>rfl⟩ (fun hh=>by cases hh)
 |cons v l=>
  refine QbK hb tb hn (v:=YD 17 8 0 (Qff v)) (ab:=some v=none) h (show ¬(17:UInt8)<=10 by decide) ⟨fun h=>(by cases h),fun h=>(by cases h)⟩ (fun _ hq=>?_)
  rw[Qb4]
  have hq:BytesP 8 (Qff v) A bs _:=hq
  exact QeY.struct (by decide) (Qhg hb hq.2.1 (by have:=hq.1;omega)) ⟨hq.1,hq.2.2⟩ rfl
theorem empty_slot {l:List ZU} (hn:14<n) (h:QF A bs pos vt 32 (l.head?=none) (ZC (fun A bs p=>∀s,l.head?=some s->Qil s A bs p))):Qc2 (RdV bs (e+2)) bs pos vt (le2 bs vt) (le2 bs (vt+2)) 14 (valL (emptyL l)) (dfL (emptyL l)) (Zm (emptyL l)):=by
 cases l with
 |nil=>exact QbK hb tb hn (ab:=(none:Option ZU)=none) h (show ¬(15:UInt8)<=10 by decide) ⟨fun _=>rfl,fun _=>rfl⟩ (fun hh=>by cases hh)
 |cons v l=>
  refine QbK hb tb hn (ab:=some v=none) h (show ¬(15:UInt8)<=10 by decide) ⟨fun h=>(by cases h),fun h=>(by cases h)⟩ (fun _ hq=>?_)
  exact stat_rd hb (s:=v) (hq.mono fun g=>g v rfl)
theorem parent_slot {b:Bool} (hn:34<n) (h:QF A bs pos vt 72 (b=false) (ZC Qec)):Qc2 (RdV bs (e+1)) bs pos vt (le2 bs vt) (le2 bs (vt+2)) 34 (YD 15 0 0 []) 0 (Zm (.mk b (YD 15 0 0 []) 0)):=
 QbK hb tb hn h (show ¬(15:UInt8)<=10 by decide) Iff.rfl (fun _ hq=>by rw[Qb4];exact parentT_rd hb hq)
end
theorem order_f (x:UInt32):FloatKind.f32.format.order x.toNat 1078530000=some .eq↔eqK 9 (QaV 9 (toU (x.toNat:Int))) (QaV 9 1078530000)=true:=by
 rw[eqK_f,QiB,show (QaV 9 1078530000).toNat=1078530000 by decide]
 constructor
 ·intro h
  have:=flU_1 x
  unfold flU at this
  rw[if_pos (show FloatKind.f32.format.order x.toNat (1078530000:UInt32).toNat=some .eq from h)]at this
  left;rw[<-this];rfl
 ·rintro (h|⟨_,h⟩)
  ·rw[h];decide
  ·omega
theorem order_f2 (x:UInt32):FloatKind.f32.format.order x.toNat 1077936128=some .eq↔eqK 9 (QaV 9 (toU (x.toNat:Int))) (QaV 9 1077936128)=true:=by
 rw[eqK_f,QiB,show (QaV 9 1077936128).toNat=1077936128 by decide]
 constructor
 ·intro h
  have:=flU_2 x
  unfold flU at this
  rw[if_pos (show FloatKind.f32.format.order x.toNat (1077936128:UInt32).toNat=some .eq from h)]at this
  left;rw[<-this];rfl
 ·rintro (h|⟨_,h⟩)
  ·rw[h];decide
  ·omega
theorem order_f3 (x:UInt32):FloatKind.f32.format.order x.toNat 0=some .eq↔eqK 9 (QaV 9 (toU (x.toNat:Int))) (QaV 9 0)=true:=by
 rw[eqK_f,QiB,show (QaV 9 0).toNat=0 by decide]
 have hx:=x.toNat_lt
 constructor
 ·intro h
  have hr:Ieee.single.read (0:UInt32).toNat= .number false 0 (-149):=by decide
  have h2:(Ieee.single.read x.toNat).order (Ieee.single.read (0:UInt32).toNat)=some .eq:=h
  rw[hr]at h2
  rcases order_zero hx h2 with h|h<;>omega
 ·intro h
  have:x.toNat=0\/x.toNat=2147483648:=by omega
  rcases this with h|h<;>rw[h]<;>decide
set_option maxRecDepth 100000 in
set_option maxHeartbeats 4000000 in
theorem plain_rd {A:Nat} {bs:List UInt8} {p vt:Nat} {d:QaM} {pos:List Qa9} {empty:List ZU} (hb:Buf A bs) (hs:SmallD d pos empty) (own:OwnRd A bs p vt 49 {d with pos:=pos.head?,empty:=empty.head?}) (h1:d.testTy=0) (h2:d.uniqTy=0) (h3:d.ambTy=0) (h4:d.abilities=[])
  {PT PE PU PQ PA:PP} {abT abE:Prop} (hT:abT) (hE:abE) (s26:QF A bs p vt 26 abT PT) (s28:QF A bs p vt 28 abE PE) (s20:QF A bs p vt 20 (d.testTy=0) PU) (s92:QF A bs p vt 92 (d.uniqTy=0) PQ) (s96:QF A bs p vt 96 (d.ambTy=0) PA):
  TabRd (RdV bs 3) bs p (Qhh d pos empty) (ZR (Qhh d pos empty)):=by
 have tb:=own.tab
 obtain ⟨l1,l2,l3,l4,l5,l6,l7,l8,l9,l10,l11,l12,l13⟩:=hs.lists
 rw[Qfj]
 refine Qi6 hb tb rfl rfl (by decide) ?_
 unfold Qhh
 refine QI.cons (posT_slot hb tb (by decide) own.pos0) ?_
 refine QI.cons (YU hb tb (j:=1) (by decide) (k:=4) (by decide) (msk_i16 d.mana) own.mana (by rw[Qcw (by decide) (by decide),msk_i16,show (QaV 4 150).toNat=150 by decide];exact ⟨fun h=>h.1,fun h=>⟨h,by decide⟩⟩)) ?_
 refine QI.cons (YU hb tb (j:=2) (by decide) (k:=4) (by decide) (msk_i16 d.hp) own.hp (by rw[Qcw (by decide) (by decide),msk_i16,show (QaV 4 100).toNat=100 by decide];exact ⟨fun h=>h.1,fun h=>⟨h,by decide⟩⟩)) ?_
 refine QI.cons (QbK hb tb (j:=3) (by decide) (has:=true) (v:=YD 11 0 0 d.name) own.name (show ¬(11:UInt8)<=10 by decide) ⟨fun h=>h.elim,fun h=>by cases h⟩ (fun _ hq=>by rw[Qb4];exact str_rd hb hq)) ?_
 refine QI.cons (QhV hb tb (j:=4) (by decide) own.none4) ?_
 refine QI.cons (QiN hb tb (by decide) own.inventory) ?_
 refine QI.cons (YU hb tb (j:=6) (by decide) (k:=1) (by decide) (msk_u8 d.color) own.color (by rw[Qcw (by decide) (by decide),msk_u8,show (QaV 1 8).toNat=8 by decide];exact ⟨fun h=>h.1,fun h=>⟨h,by decide⟩⟩)) ?_
 refine QI.cons (QhV hb tb (j:=7) (by decide) (own.testTy.gone h1)) ?_
 refine QI.cons (Qfe hb tb (j:=8) (by decide) s20 h1) ?_
 refine QI.cons (Qdj hb tb (j:=9) (by decide) own.test4 rfl (Or.inr (Or.inl rfl)) (fun x hx=>by obtain ⟨t,_,rfl⟩:=List.mem_map.1 hx;simp[Qao,Qg]) (by rw[List.length_map,List.length_map]) (by rw[List.length_map];omega) (fun i x y hx hy=>by obtain ⟨a,rfl,rfl⟩:=Qew hx hy;exact numB_testB a)) ?_
 refine QI.cons (texts_slot hb tb (j:=10) (by decide) (by omega) own.strings) ?_
 refine QI.cons (Qfe hb tb (j:=11) (by decide) s26 hT) ?_
 refine QI.cons (Qfe hb tb (j:=12) (by decide) s28 hE) ?_
 refine QI.cons (QiN hb tb (by decide) own.nested) ?_
 refine QI.cons (empty_slot hb tb (by decide) own.empty) ?_
 refine QI.cons (YU hb tb (j:=15) (by decide) (k:=0) (by decide) (msk_bool d.bool) own.bool (by rw[Qcw (by decide) (by decide),msk_bool,show (QaV 0 0).toNat=0 by decide];exact ⟨fun h=>h.1,fun h=>⟨h,by decide⟩⟩)) ?_
 refine QI.cons (YU hb tb (j:=16) (by decide) (k:=6) (by decide) (msk_i32 d.s32) own.s32 (by rw[Qcw (by decide) (by decide),msk_i32,show (QaV 6 0).toNat=0 by decide];exact ⟨fun h=>h.1,fun h=>⟨h,by decide⟩⟩)) ?_
 refine QI.cons (YU hb tb (j:=17) (by decide) (k:=5) (by decide) (msk_u32 d.u32) own.u32 (by rw[Qcw (by decide) (by decide),msk_u32,show (QaV 5 0).toNat=0 by decide];exact ⟨fun h=>h.1,fun h=>⟨h,by decide⟩⟩)) ?_
 refine QI.cons (YU hb tb (j:=18) (by decide) (k:=8) (by decide) (QiI d.s64) own.s64 (by rw[Qcw (by decide) (by decide),QiI,show (QaV 8 0).toNat=0 by decide];exact ⟨fun h=>h.1,fun h=>⟨h,by decide⟩⟩)) ?_
 refine QI.cons (YU hb tb (j:=19) (by decide) (k:=7) (by decide) (Qdt d.u64) own.u64 (by rw[Qcw (by decide) (by decide),Qdt,show (QaV 7 0).toNat=0 by decide];exact ⟨fun h=>h.1,fun h=>⟨h,by decide⟩⟩)) ?_
 refine QI.cons (YU hb tb (j:=20) (by decide) (k:=6) (by decide) (msk_i32 d.s32a) own.s32a (by rw[Qcw (by decide) (by decide),msk_i32,show (QaV 6 0).toNat=0 by decide];exact ⟨fun h=>h.1,fun h=>⟨h,by decide⟩⟩)) ?_
 refine QI.cons (YU hb tb (j:=21) (by decide) (k:=5) (by decide) (msk_u32 d.u32a) own.u32a (by rw[Qcw (by decide) (by decide),msk_u32,show (QaV 5 0).toNat=0 by decide];exact ⟨fun h=>h.1,fun h=>⟨h,by decide⟩⟩)) ?_
 refine QI.cons (YU hb tb (j:=22) (by decide) (k:=8) (by decide) (QiI d.s64a) own.s64a (by rw[Qcw (by decide) (by decide),QiI,show (QaV 8 0).toNat=0 by decide];exact ⟨fun h=>h.1,fun h=>⟨h,by decide⟩⟩)) ?_
 refine QI.cons (YU hb tb (j:=23) (by decide) (k:=7) (by decide) (Qdt d.u64a) own.u64a (by rw[Qcw (by decide) (by decide),Qdt,show (QaV 7 0).toNat=0 by decide];exact ⟨fun h=>h.1,fun h=>⟨h,by decide⟩⟩)) ?_
 refine QI.cons (Qdj hb tb (j:=24) (by decide) own.bools rfl (Or.inl rfl) (fun x hx=>by obtain ⟨t,_,rfl⟩:=List.mem_map.1 hx;rfl) (by rw[List.length_map,List.length_map]) (by rw[List.length_map];omega) (fun i x y hx hy=>by obtain ⟨a,rfl,rfl⟩:=Qew hx hy;exact numB_boolB a)) ?_
 refine QI.cons (YU hb tb (j:=25) (by decide) (k:=9) (by decide) (QiB d.f) own.f (by rw[<-order_f];exact ⟨fun h=>h.1,fun h=>⟨h,by decide⟩⟩)) ?_
 refine QI.cons (YU hb tb (j:=26) (by decide) (k:=9) (by decide) (QiB d.f2) own.f2 (by rw[<-order_f2];exact ⟨fun h=>h.1,fun h=>⟨h,by decide⟩⟩)) ?_
 refine QI.cons (YU hb tb (j:=27) (by decide) (k:=9) (by decide) (QiB d.f3) own.f3 (by rw[<-order_f3];exact ⟨fun h=>h.1,fun h=>⟨h,by decide⟩⟩)) ?_
 refine QI.cons (texts_slot hb tb (j:=28) (by decide) (by omega) own.strings2) ?_
 refine QI.cons (Qfe hb tb (j:=29) (by decide) own.abilities (by show d.abilities.map _=[];rw[h4];rfl)) ?_
 refine QI.cons (QiN hb tb (by decide) own.flex) ?_
 refine QI.cons (Qdj hb tb (j:=31) (by decide) own.test5 rfl (Or.inr (Or.inl rfl)) (fun x hx=>by obtain ⟨t,_,rfl⟩:=List.mem_map.1 hx;simp[Qao,Qg]) (by rw[List.length_map,List.length_map]) (by rw[List.length_map];omega) (fun i x y hx hy=>by obtain ⟨a,rfl,rfl⟩:=Qew hx hy;exact numB_testB a)) ?_
 refine QI.cons (Qdj hb tb (j:=32) (by decide) own.longs rfl (Or.inr (Or.inr ⟨rfl,rfl⟩)) (fun x hx=>by obtain ⟨t,_,rfl⟩:=List.mem_map.1 hx;exact Qg _ 8) (by rw[List.length_map,List.length_map]) (by rw[List.length_map];omega) (fun i x y hx hy=>by obtain ⟨a,rfl,rfl⟩:=Qew hx hy;rw[Qgh,longN_nat])) ?_
 refine QI.cons (Qdj hb tb (j:=33) (by decide) own.doubles rfl (Or.inr (Or.inr ⟨rfl,rfl⟩)) (fun x hx=>by obtain ⟨t,_,rfl⟩:=List.mem_map.1 hx;exact Qg _ 8) (by rw[List.length_map]) (by omega) (fun i x y hx hy=>by obtain ⟨a,rfl,h⟩:=Qew (g:=id) hx (by rw[List.map_id];exact hy);rw[Qgh,h];rfl)) ?_
 refine QI.cons (parent_slot hb tb (by decide) own.parent) ?_
 refine QI.cons (ids_slot hb tb (j:=35) (by decide) (by omega) own.refs) ?_
 refine QI.cons (YU hb tb (j:=36) (by decide) (k:=7) (by decide) (Qdt d.singleWeak) own.singleWeak (by rw[Qcw (by decide) (by decide),Qdt,show (QaV 7 0).toNat=0 by decide];exact ⟨fun h=>h.1,fun h=>⟨h,by decide⟩⟩)) ?_
 refine QI.cons (Qdj hb tb (j:=37) (by decide) own.weak rfl (Or.inr (Or.inr ⟨rfl,rfl⟩)) (fun x hx=>by obtain ⟨t,_,rfl⟩:=List.mem_map.1 hx;exact Qg _ 8) (by rw[List.length_map]) (by omega) (fun i x y hx hy=>by obtain ⟨a,rfl,h⟩:=Qew (g:=id) hx (by rw[List.map_id];exact hy);rw[Qgh,h];rfl)) ?_
 refine QI.cons (ids_slot hb tb (j:=38) (by decide) (by omega) own.strong) ?_
 refine QI.cons (YU hb tb (j:=39) (by decide) (k:=7) (by decide) (Qdt d.coOwning) own.coOwning (by rw[Qcw (by decide) (by decide),Qdt,show (QaV 7 0).toNat=0 by decide];exact ⟨fun h=>h.1,fun h=>⟨h,by decide⟩⟩)) ?_
 refine QI.cons (Qdj hb tb (j:=40) (by decide) own.coOwnings rfl (Or.inr (Or.inr ⟨rfl,rfl⟩)) (fun x hx=>by obtain ⟨t,_,rfl⟩:=List.mem_map.1 hx;exact Qg _ 8) (by rw[List.length_map]) (by omega) (fun i x y hx hy=>by obtain ⟨a,rfl,h⟩:=Qew (g:=id) hx (by rw[List.map_id];exact hy);rw[Qgh,h];rfl)) ?_
 refine QI.cons (YU hb tb (j:=41) (by decide) (k:=7) (by decide) (Qdt d.nonOwning) own.nonOwning (by rw[Qcw (by decide) (by decide),Qdt,show (QaV 7 0).toNat=0 by decide];exact ⟨fun h=>h.1,fun h=>⟨h,by decide⟩⟩)) ?_
 refine QI.cons (Qdj hb tb (j:=42) (by decide) own.nonOwnings rfl (Or.inr (Or.inr ⟨rfl,rfl⟩)) (fun x hx=>by obtain ⟨t,_,rfl⟩:=List.mem_map.1 hx;exact Qg _ 8) (by rw[List.length_map]) (by omega) (fun i x y hx hy=>by obtain ⟨a,rfl,h⟩:=Qew (g:=id) hx (by rw[List.map_id];exact hy);rw[Qgh,h];rfl)) ?_
 refine QI.cons (QhV hb tb (j:=43) (by decide) (own.uniqTy.gone h2)) ?_
 refine QI.cons (Qfe hb tb (j:=44) (by decide) s92 h2) ?_
 refine QI.cons (QhV hb tb (j:=45) (by decide) (own.ambTy.gone h3)) ?_
 refine QI.cons (Qfe hb tb (j:=46) (by decide) s96 h3) ?_
 refine QI.cons (enums_slot hb tb (by decide) own.enums) ?_
 refine QI.cons (YU hb tb (j:=48) (by decide) (k:=2) (by decide) (msk_i8 d.signedEnum) own.signedEnum (by rw[Qcw (by decide) (by decide),msk_i8,show (QaV 2 255).toNat=255 by decide];exact ⟨fun h=>h.1,fun h=>⟨h,by decide⟩⟩)) ?_
 exact QI.nil
theorem plain_root {bs:List UInt8} {d:QaM} {pos:List Qa9} {empty:List ZU} {tables enemy test uniq amb:List GM} (hs:SmallD d pos empty) (hp:PlainG (.mk d pos empty tables enemy test uniq amb)) (hr:RootRd bs (toM (.mk d pos empty tables enemy test uniq amb))) (hl:bs.length<1073741824):
  ∃t,QfJ bs 0 t/\TabRd (RdV bs 3) bs t (Qhh d pos empty) (ZR (Qhh d pos empty)):=by
 obtain ⟨rfl,rfl,h1,h2,h3,h4⟩:=hp
 obtain ⟨a1,a2,⟨A,p2,a4,am,rd⟩,a5⟩:=hr
 have hb:Buf A bs:=⟨p2,am,hl⟩
 rw[toM,RdMF]at rd
 obtain ⟨vt,own,sT,sE,sU,sQ,sA⟩:=rd
 refine ⟨le4 bs 0,⟨le4 bs 0,⟨by omega,by omega,(QaN QgV (by omega)).symm⟩,by omega,a2,by omega⟩,?_⟩
 exact plain_rd hb hs own h1 h2 h3 h4 rfl rfl sT sE sU sQ sA
end Go.Proofs
namespace Go.Proofs
open Go Go.Vc
open Tryz (prog)
theorem Qcm.len_map {f:SV->SV}:∀{vs:List SV},(∀v∈vs,LenV v->LenV (f v))->Qcm vs->Qcm (vs.map f)
 |[],_,_=>by rw[List.map_nil,Qcm];trivial
 |v::vs,h,hl=>by
  rw[Qcm]at hl
  rw[List.map_cons,Qcm]
  exact ⟨h v List.mem_cons_self hl.1,Qcm.len_map (fun w hw=>h w (List.mem_cons_of_mem _ hw)) hl.2⟩
theorem QhG (k e:UInt8) (n:UInt64) (t:List UInt8):LenV (YD k e n t):=by
 rw[YD,LenV,Qcm,Qbo]
 exact ⟨⟨by decide,by decide,by decide⟩,trivial,trivial⟩
mutual
theorem QiQ:∀v:SV,LenV v->LenV (ZM v)
 |.mk kind elem num text nums kids slots,h=>by
  rw[LenV]at h
  rw[ZM,LenV]
  refine ⟨⟨h.1.1,?_,?_⟩,LenVs_read0 kids h.2.1,LenLs_read0 slots h.2.2⟩
  ·rw[Qe2,List.length_map];exact h.1.2.1
  ·rw[Qfj,List.length_map];exact h.1.2.2
theorem LenVs_read0:∀vs:List SV,Qcm vs->Qcm (Qcr vs)
 |[],_=>by rw[Qcr,Qcm];trivial
 |v::vs,h=>by
  rw[Qcm]at h
  rw[Qcr,Qcm]
  exact ⟨QiQ v h.1,LenVs_read0 vs h.2⟩
theorem LenL_read0:∀l:SL,Qek l->Qek (Zm l)
 |.mk has v d,h=>by
  rw[Qek]at h
  rw[Zm]
  split
  ·rw[Qek];exact QhG _ _ _ _
  ·split
   ·rw[Qek];exact QiQ v h
   ·rw[Qek];exact QhG _ _ _ _
theorem LenLs_read0:∀ls:List SL,Qbo ls->Qbo (ZR ls)
 |[],_=>by rw[ZR,Qbo];trivial
 |l::ls,h=>by
  rw[Qbo]at h
  rw[ZR,Qbo]
  exact ⟨LenL_read0 l h.1,LenLs_read0 ls h.2⟩
end
theorem Qdm (b:Bool) (k e:UInt8) (n:UInt64) (t:List UInt8) (d:UInt64):Qek (.mk b (YD k e n t) d):=by rw[Qek];exact QhG _ _ _ _
theorem LenL_nums {k:UInt8} {l:List UInt64} (h:l.length<=100):Qek (Qgo k l):=by
 rw[Qgo,Qek,LenV,Qcm,Qbo]
 exact ⟨⟨h,by decide,by decide⟩,trivial,trivial⟩
theorem Qhn {α:Type} {f:α->SV} (hf:∀a,LenV (f a)):∀l:List α,Qcm (l.map f)
 |[]=>by rw[List.map_nil,Qcm];trivial
 |a::l=>by rw[List.map_cons,Qcm];exact ⟨hf a,Qhn hf l⟩
theorem LenL_texts {l:List (List UInt8)} (h:l.length<=100):Qek (Qjd l):=by
 rw[Qjd,Qek,LenV,Qbo]
 exact ⟨⟨by decide,by rw[List.length_map];exact h,by decide⟩,Qhn (fun _=>QhG _ _ _ _) l,trivial⟩
theorem LenL_ids {l:List UInt64} (h:l.length<=100):Qek (idsL l):=by
 rw[idsL,Qek,LenV,Qbo]
 refine ⟨⟨by decide,by rw[List.length_map];exact h,by decide⟩,Qhn (fun x=>?_) l,trivial⟩
 rw[idV,LenV,Qcm,Qbo,Qbo,Qag]
 exact ⟨⟨by decide,by decide,by show 1<=100;decide⟩,trivial,Qdm _ _ _ _ _ _,trivial⟩
theorem LenL_pos (l:List Qa9):Qek (posL l):=by
 cases l with
 |nil=>exact Qdm _ _ _ _ _ _
 |cons v l=>exact Qdm _ _ _ _ _ _
theorem LenL_empty (l:List ZU):Qek (emptyL l):=by
 cases l with
 |nil=>exact Qdm _ _ _ _ _ _
 |cons v l=>
  rw[emptyL,statV,Qek,LenV,Qcm,Qbo,Qbo,Qbo,Qbo]
  exact ⟨⟨by decide,by decide,by show 3<=100;decide⟩,trivial,Qdm _ _ _ _ _ _,Qdm _ _ _ _ _ _,Qdm _ _ _ _ _ _,trivial⟩
theorem Qbo.cons' {l:SL} {ls:List SL} (h1:Qek l) (h2:Qbo ls):Qbo (l::ls):=by rw[Qbo];exact ⟨h1,h2⟩
theorem Qbo.nil':Qbo []:=by rw[Qbo];trivial
set_option maxRecDepth 100000 in
theorem LenV_mvalue {d:QaM} {pos:List Qa9} {empty:List ZU} (hs:SmallD d pos empty):LenV (QiX d pos empty):=by
 obtain ⟨l1,l2,l3,l4,l5,l6,l7,l8,l9,l10,l11,l12,l13⟩:=hs.lists
 rw[QiX,LenV,Qcm]
 refine ⟨⟨by decide,by decide,by show 49<=100;decide⟩,trivial,?_⟩
 unfold Qhh
 repeat' first
  |exact Qbo.nil'
  |refine Qbo.cons' ?_ ?_
  |exact Qdm _ _ _ _ _ _
  |exact LenL_nums (by first|(rw[List.length_map];omega)|omega)
  |exact LenL_texts (by omega)
  |exact LenL_ids (by omega)
  |exact LenL_pos _
  |exact LenL_empty _
set_option maxHeartbeats 1000000 in
theorem Qia {g:GM} {cells:List Value} {n:Nat} {G:Cut} {H:Qe} {R:Kn} (hG:G.In H) (hv:QcX G g cells) (_hN:NormM g) (hn:n<65536) (hR:∀H',Qay H H'->R (.bool true) H'):FnS prog 3 #[.agg cells.toArray,.int .u16 (n:Nat)] H R:=by
 apply w3
 unfold s3
 rw[Qx]
 have e:=Ext.refl hG
 have o:Yo H G (H.push (.cells (Value.agg cells.toArray).cells 38)) H.size (.cells cells.toArray 38 (0,0)):=Yo.fresh e _
 have e:=e.push (.cells (Value.agg cells.toArray).cells 38)
 generalize H.push (.cells (Value.agg cells.toArray).cells 38)=H1 at *
 have ld:∀{H':Qe} {G':Cut},Yo H G' H' H.size (.cells cells.toArray 38 (0,0))->∀k:Value->Prop,LdN H' 51 (ptr H.size) k=k (.agg cells.toArray):=fun o k=>YB (n:=51) (vs:=cells) (by rw[Q0 o.get 51 (by simp[hv.len])];simp[<-hv.len])
 rw[ld o]
 refine fits3_ok e.inn hv fun b H2 e2=>?_
 have e:=e.trans e2
 have o:=o.ext e2
 clear e2
 rw[Yn]
 refine Yt (fun _=>hR _ e.keep) fun _=>?_
 rw[ld o]
 refine monsterClean_ok e.inn hv fun b H3 e3 hcl=>?_
 have e:=e.trans e3
 have o:=o.ext e3
 clear e3
 have awake:∀H',Qay H H'->FnS prog 7 #[] H' R:=fun H' k=>awake_ok (In.keep hG k) fun H'' k'=>hR _ (k.trans k')
 rw[Yn]
 have aw:FnS prog 7 #[] H3 fun x19 h6=>R x19 h6:=awake _ e.keep
 cases b
 ·simp only[Bool.not_false,Ys,Z2,Y4,Qbs]
  exact aw
 obtain ⟨hc,hcnt⟩:=hcl rfl
 clear hcl aw
 simp only[Bool.not_true,QJ,Yv]
 rw[ld o]
 refine MonsterPlain_ok e.inn hv fun b H4 e4 hpl=>?_
 have e:=e.trans e4
 have o:=o.ext e4
 clear e4
 have aw:FnS prog 7 #[] H4 fun x19 h6=>R x19 h6:=awake _ e.keep
 rw[Yn]
 cases b
 ·simp only[Bool.not_false,Ys,Z2,Y4,Qbs]
  exact aw
 have hpl:=hpl rfl
 simp only[Bool.not_true,QJ,Yv,Z3]
 refine Z0 (fun _=>aw) fun _=>?_
 clear aw
 rw[ld o]
 have hs:=hc.small
 have hL:=hs.len
 refine To_all g G H4 cells _ e.inn hv hL ?_
 intro G5 H5 cells5 e5 hv5
 have o:=o.ext e5
 have k5:=e.keep.trans e5.keep
 have hw:IntKind.i64.wrap (n:Int)=(n:Int):=wrap_i64 (by omega) (by omega)
 rw[Q7,hw]
 have hcost:=cost_le hs
 have hlen:=packAll_len (toM g)
 obtain ⟨h1,h2,h3⟩:=pack_facts hs hcnt
 have hbl:(Z7 (toM g)).length<1073741824:=by omega
 refine Qhc (n:=n) e5.inn hv5 hs h1 hn ?_
 intro H6 k6
 rw[ExtrK_0,ExtrK_1]
 have in6:=In.keep e5.inn k6
 have o6:Yo H G5 H6 H.size (.cells cells.toArray 38 (0,0)):=⟨k6 _ _ o.get,o.out,o.new⟩
 have hv6:QcX G5 g cells:=hv.mono e5.le
 have kk6:=k5.trans k6
 rw[ld o6]
 obtain ⟨d,pos,empty,tables,enemy,test,uniq,amb⟩:=g
 have hsD:=hs
 rw[QcA]at hsD
 have hsD:=hsD.1
 refine MonsterValue_ok in6 hv6 hsD ?_
 intro G7 H7 cells7 e7 vv7
 have hLV:=LenV_mvalue hsD
 obtain ⟨t,ho,hT⟩:=plain_root hsD hpl h2 hbl
 rw[Qx,QZ (n:=7) (c':=cells7.toArray) Qi rfl (by simpa using vv7.len) (by decide) (by simpa using vv7.one),Yc]
 have e8:=e7.trans ((Ext.refl e7.inn).pushG (.cells cells7.toArray 57 (0,0)))
 have g8:(G7.upd H7.size (.cells cells7.toArray 57 (0,0))) H7.size=some (.cells cells7.toArray 57 (0,0)):=Cut.upd_same
 have vv8:=VV.mono ((Ext.refl e7.inn).pushG (.cells cells7.toArray 57 (0,0))).le _ _ vv7
 generalize G7.upd H7.size (.cells cells7.toArray 57 (0,0))=G8 at *
 generalize H7.push (.cells cells7.toArray 57 (0,0))=H8 at *
 generalize H7.size=q7 at *
 have ld7:∀{G':Cut} {H':Qe},G8.le G'->G'.In H'->∀k:Value->Prop,LdN H' 7 (ptr q7) k=k (.agg cells7.toArray):=fun hle hin k=>YB (n:=7) (vs:=cells7) (by rw[Q0 (hin _ _ (hle _ _ g8)) 7 (by simp[vv8.len])];simp[<-vv8.len])
 rw[ld7 (Cut.le_refl _) e8.inn]
 have vv8':=vv8
 rw[QiX]at vv8'
 refine Read_ok hbl e8.inn vv8' ho hT ?_
 intro G9 H9 cells9 e9 vv9
 rw[ExtrK_0,ExtrK_1,Qx,QZ (n:=7) (c':=cells9.toArray) Qi rfl (by simpa using vv9.len) (by decide) (by simpa using vv9.one),Yc]
 have e10:=e9.trans ((Ext.refl e9.inn).pushG (.cells cells9.toArray 57 (0,0)))
 have g10:(G9.upd H9.size (.cells cells9.toArray 57 (0,0))) H9.size=some (.cells cells9.toArray 57 (0,0)):=Cut.upd_same
 have vv10:=VV.mono ((Ext.refl e9.inn).pushG (.cells cells9.toArray 57 (0,0))).le _ _ vv9
 generalize G9.upd H9.size (.cells cells9.toArray 57 (0,0))=G10 at *
 generalize H9.push (.cells cells9.toArray 57 (0,0))=H10 at *
 generalize H9.size=q9 at *
 have ld9:∀k:Value->Prop,LdN H10 7 (ptr q9) k=k (.agg cells9.toArray):=fun k=>YB (n:=7) (vs:=cells9) (by rw[Q0 (e10.inn _ _ g10) 7 (by simp[vv9.len])];simp[<-vv9.len])
 have l7:=fun k=>ld7 e10.le e10.inn k
 simp only[Ye,Y4,ld9,l7]
 refine QiU _ G10 H10 _ _ e10.inn (VV.mono e10.le _ _ vv8) hLV ?_
 intro G11 H11 cells11 e11 vv11
 refine Qq e11.keep.ext ?_
 have hgot:SV.mk 15 0 0 [] [] [] (ZR (Qhh d pos empty))=ZM (QiX d pos empty):=by rw[QiX,ZM,Qcr]
 rw[hgot]at vv10
 refine sameV_all _ G11 H11 _ _ _ e11.inn (VV.mono e11.le _ _ vv10) vv11 (QiQ _ hLV) ?_
 intro H12 e12
 simp only[Y4,Ye]
 have k12:=(((kk6.trans e8.keep).trans e10.keep).trans e11.keep).trans e12.keep
 exact awake_ok (In.keep hG k12) fun H13 k13=>hR _ (k12.trans k13)
end Go.Proofs
namespace Go.Proofs.YthcjblkplcepaaaGreat
open Go Go.Vc Go.Proofs Go.ChangeShapes Go.WideShapes Go.ChangeAt Go.RowKit
theorem own:ownKnob Tryz.prog.godebug=none:=by kernel_rfl
theorem laidOut:laidOutB Tryz.prog=true:=by kernel_rfl
theorem undM:Tryz.prog.underlying 38=some (.struct (Tryz.prog.fieldsOf 38)):=by kernel_rfl
theorem undN:Tryz.prog.underlying 39=some (.int .u16):=by kernel_rfl
set_option maxRecDepth 100000 in
theorem lifted (os:Os) (started:os.Started) (H:Type) (enc:TypeId×Value->H):
  ReturnsInHanded {} Tryz.checked os 3 .any (Rows.fnMonsterFormatSpec.pre6 enc Tryz.prog Tryz.f3 Rows.fnMonsterFormatRow.domain false) (Rows.fnMonsterFormatSpec.post enc Tryz.prog Tryz.f3 false true false false):=by
 refine returnsInHanded_of_change (C:=Tryz.checked) own started (by kernel_rfl) Tryz.func3
  (ChangeSpec.witness6 (enc:=enc) (C:=Tryz.checked) false ⟨#[],#[.agg z38,.int .u16 0],[]⟩ 8 (by kernel_rfl) (by kernel_rfl) (by kernel_rfl) (by kernel_rfl)) ?_
 intro W base args ds gs before hval0 hW hcnd _
 have hval:∀(j:Nat) t v,Tryz.f3.params[j]?=some t->args[j]?=some v->Value.okWide Tryz.prog W .any base t v:=hval0
 have hW':=hW
 obtain ⟨p,q,hA0,hV,rfl,hfz,hnd⟩:=hW
 have hA:DataW.TrodAll enc Tryz.prog W 0 (fun _=>true) true Tryz.f3.params.toList args.toList ds p:=hA0
 rw[Tryz.params3]at hA hval
 obtain ⟨v0,v1,d0,d1,p0,p1,rfl,rfl,rfl,h0,h1⟩:=trodAll_two hA
 obtain ⟨rfl,rfl⟩:=trodVars_none hV
 have h0k:=h0
 have h1k:=h1
 obtain ⟨n,rfl,rfl,rfl,wn⟩:=open_int undN (hval 1 39 v1 rfl rfl) h1
 clear hA0 hval0
 simp only[List.append_nil]at hW'
 have hlt:∀x∈p0,x.block<W.heap.size:=fun x hx=>by simpa using hW'.lt x (by simpa using hx)
 have ha:∀W':World,Below W.heap.size W W'->DataW.Trod enc Tryz.prog W' 0 (fun b=>decide (b<W.heap.size)) true 38 v0 d0 p0:=
  fun W' hn=>Below.trod laidOut (by kernel_rfl) (of_decide_eq_true (by kernel_rfl)) h0k hn hlt
 have hb:∀W':World,DataW.Trod enc Tryz.prog W' 0 (fun b=>decide (b<W.heap.size)) true 39 (.int .u16 n) (.lit (.int .u16 n)) []:=fun W'=>shut_int undN wn
 obtain ⟨cells,rfl,_⟩:=okWide_struct undM (hval 0 38 v0 rfl rfl)
 obtain ⟨fuel,hf⟩:=h0
 obtain ⟨g,hN,hv⟩:=rd_all (E:=H) (enc:=enc) (w:=W) (base:=0) (spare:=fun _=>true) (held:=true) fuel _ _ hf
 have hv:QcX (Cut.of W.heap) g cells.toList:=hv
 obtain ⟨k,rfl,hk⟩:∃k:Nat,n=(k:Int)/\k<65536:=by
  simp[Lit.wf,IntKind.min,IntKind.max,IntKind.bits,IntKind.signed]at wn
  exact ⟨n.toNat,by omega,by omega⟩
 have main:=Qia (n:=k) (R:=fun v H'=>v= .bool true/\Qay W.heap H') (Cut.of_in W.heap) hv hN hk (fun H' hk=>⟨rfl,hk⟩)
 refine (main W rfl).mono fun e W' ⟨v,he,⟨hvt,hkeep⟩,henv⟩=>?_
 subst he;subst hvt
 have hnx:Below W.heap.size W W':=⟨henv.2.1,henv.1,henv.2.2,hkeep.size,fun i hi=>by
  rw[Array.getElem?_eq_getElem hi]
  exact hkeep i _ (Array.getElem?_eq_getElem hi)⟩
 exact ⟨_,rfl,⟨_,_,_,[],_,[],hW',trodAll_mk1 (shut_bool (by kernel_rfl) true),trodAll_mk2 (ha _ hnx) (hb _),rfl,hnx.frame _,fun h=>by cases h⟩⟩
end Go.Proofs.YthcjblkplcepaaaGreat
namespace Go.Proofs.YthcjblkplcepaaaGreat
open Go Go.Vc Go.Proofs Go.ChangeShapes Go.WideShapes Go.ChangeAt Go.RowKit
theorem limb1:Tryz.prog.inPlace 3=["math.Float32frombits", "math.Float64frombits", "math.Float64bits", "math.Float32bits"]:=by kernel_rfl
theorem limb2:Tryz.prog.unfollowed 3=true:=by kernel_rfl
theorem limb3:Tryz.prog.recurses 3=true:=by kernel_rfl
theorem limb4:Tryz.prog.varsNamed 3=[]:=by kernel_rfl
theorem closed:joinedFacts Tryz.prog 3 Tryz.f3 Rows.fnMonsterFormatSpec Rows.fnMonsterFormatRow=true:=by
 unfold joinedFacts
 rw[limb1,limb2,limb3,limb4]
 kernel_rfl
theorem named:Tryz.prog.funcNamed "pub-tablature/laws.FnMonsterFormat" =some 3:=by kernel_rfl
theorem FnMonsterFormat_holds:Rows.FnMonsterFormatSaid:=
 OpenClaim.holds_of_wide 3 Tryz.f3 rfl rfl rfl rfl rfl rfl rfl ⟨rfl,rfl,rfl,rfl,rfl⟩ rfl rfl rfl rfl rfl named Tryz.func3 closed
  (of_decide_eq_true (by kernel_rfl)) (by unfold Func.isWrapper;first|(rw[if_pos (by decide+kernel)];kernel_rfl)|(rw[if_neg (by decide+kernel)];exact ⟨rfl,rfl⟩))
  (fun os started H enc _=>lifted os started H enc)
end Go.Proofs.YthcjblkplcepaaaGreat
