/- WHAT IS PROVED: the given statement of FnMonsterMutated, whatever the input: this is part 3 of 14. No conditions. -/
import Derived.Test.YticijlffkdlojaaGreatX02
import Derived.Test.YticijlffkdlojaaGreatProg
set_option linter.all false
namespace Go.Proofs
open Go Go.Vc
open Tryz (prog)
set_option maxRecDepth 100000
def callableQ (P:Program) (f:Nat):Bool:=
 match P.funcs[f]? with
 |some fn=>(match fn.body with|some _=>true|none=>false)&&!(fn.name== "runtime.NumGoroutine")
 |none=>false
theorem calOk_of {P:Program} {cal:Nat->Bool} {n:Nat} (h:(List.range n).all (fun f=>!cal f||callableQ P f)=true) (hn:∀f,cal f=true->f<n):CalOk P cal:=by
 intro f hf args w
 have h1:=List.all_eq_true.1 h f (List.mem_range.2 (hn f hf))
 rw[hf]at h1
 simp only[Bool.not_true,Bool.false_or]at h1
 unfold callableQ at h1
 split at h1
 ·rename_i fn hfn
  simp only[Bool.and_eq_true,Bool.not_eq_true',beq_eq_false_iff_ne,ne_eq]at h1
  obtain ⟨hb,hne⟩:=h1
  split at hb
  ·rename_i c hc
   simp[callFunc,hfn,hc,hne]
  ·cases hb
 ·cases h1
def cal (f:Nat):Bool:=Nat.ble 2 f&&(Nat.blt f 416&&!memN f [80,84,205,219])
theorem hcal:CalOk prog cal:=calOk_of (n:=440) (by kernel_rfl) (by
 intro f hf
 simp only[cal,Bool.and_eq_true]at hf
 have:=Nat.le_of_ble_eq_true hf.2.1
 omega)
theorem wq {f:Nat} {fn:Func} (hf:prog.funcs[f]?=some fn) {args:List Value} {h:Qf} {R:Kn} {S:Prop} (e:vcF prog cal fn args h R=S) (H:S):FnS prog f args.toArray h R:=fn_of_vc hcal hf (e.mpr H)
def z2:Array Value:=#[(.int .i64 0)]
def z3:Array Value:=#[(.int .i64 0)]
def z4:Array Value:=#[(.bool false)]
def z5:Array Value:=#[(.int .u8 0)]
def z9:Array Value:=#[(.string ⟨#[]⟩)]
def z24:Array Value:=#[(.slice none 0 0)]
def z26:Array Value:=#[(.int .u8 0),(.slice none 0 0),(.int .u8 0)]
def z31:Array Value:=#[(.int .u64 0)]
def z38:Array Value:=#[(.slice none 0 0),(.int .i16 0),(.int .i16 0),(.string ⟨#[]⟩),(.string ⟨#[]⟩),(.int .u8 0),(.int .u8 0),(.slice none 0 0),(.int .u8 0),(.slice none 0 0),(.slice none 0 0),(.slice none 0 0),(.slice none 0 0),(.string ⟨#[]⟩),(.slice none 0 0),(.bool false),(.int .i32 0),(.int .u32 0),(.int .i64 0),(.int .u64 0),(.int .i32 0),(.int .u32 0),(.int .i64 0),(.int .u64 0),(.slice none 0 0),(.int .u32 0),(.int .u32 0),(.int .u32 0),(.slice none 0 0),(.slice none 0 0),(.string ⟨#[]⟩),(.slice none 0 0),(.slice none 0 0),(.slice none 0 0),(.bool false),(.slice none 0 0),(.int .u64 0),(.slice none 0 0),(.slice none 0 0),(.int .u64 0),(.slice none 0 0),(.int .u64 0),(.slice none 0 0),(.int .u8 0),(.slice none 0 0),(.int .u8 0),(.int .u8 0),(.slice none 0 0),(.int .u8 0),(.string ⟨#[]⟩),(.int .i8 0)]
def z48:Array Value:=#[(.int .u8 0),(.slice none 0 0),(.int .u8 0)]
def z53:Array Value:=#[(.slice none 0 0),(.int .i16 0),(.int .i16 0),(.string ⟨#[]⟩),(.string ⟨#[]⟩),(.int .u8 0),(.int .u8 0),(.slice none 0 0),(.int .u8 0),(.slice none 0 0),(.slice none 0 0),(.slice none 0 0),(.slice none 0 0),(.string ⟨#[]⟩),(.slice none 0 0),(.bool false),(.int .i32 0),(.int .u32 0),(.int .i64 0),(.int .u64 0),(.int .i32 0),(.int .u32 0),(.int .i64 0),(.int .u64 0),(.slice none 0 0),(.int .u32 0),(.int .u32 0),(.int .u32 0),(.slice none 0 0),(.slice none 0 0),(.string ⟨#[]⟩),(.slice none 0 0),(.slice none 0 0),(.slice none 0 0),(.bool false),(.slice none 0 0),(.int .u64 0),(.slice none 0 0),(.slice none 0 0),(.int .u64 0),(.slice none 0 0),(.int .u64 0),(.slice none 0 0),(.int .u8 0),(.slice none 0 0),(.int .u8 0),(.int .u8 0),(.slice none 0 0),(.int .u8 0),(.string ⟨#[]⟩),(.int .i8 0)]
def z72:Array Value:=#[(.int .u32 0)]
def z73:Array Value:=#[(.pointer none)]
def z76:Array Value:=#[(.slice none 0 0)]
def z82:Array Value:=#[(.int .u32 0),(.int .u32 0),(.int .u32 0),(.int .u64 0),(.int .u8 0),(.int .i16 0),(.int .i8 0)]
def z83:Array Value:=#[(.int .u32 0),(.int .u32 0),(.int .u32 0),(.int .u64 0),(.int .u8 0),(.int .i16 0),(.int .i8 0)]
def z87:Array Value:=#[(.int .i16 0),(.int .i8 0)]
def z88:Array Value:=#[(.int .i16 0),(.int .i8 0)]
def z94:Array Value:=#[(.string ⟨#[]⟩),(.int .i64 0),(.int .u16 0)]
def z95:Array Value:=#[(.string ⟨#[]⟩),(.int .i64 0),(.int .u16 0)]
def z100:Array Value:=#[(.int .u32 0),(.int .u32 0)]
def z101:Array Value:=#[(.int .u32 0),(.int .u32 0)]
def z140:Array Value:=#[(.slice none 0 0),(.int .i64 0),(.slice none 0 0),(.int .u32 0),(.slice none 0 0),(.int .u32 0),(.bool false),(.bool false),(.map none)]
def z142:Array Value:=#[(.int .u8 0)]
def z161:Array Value:=#[(.pointer none),(.int .i16 0),(.int .i16 0),(.string ⟨#[]⟩),(.slice none 0 0),(.int .u8 0),(.pointer none),(.slice none 0 0),(.slice none 0 0),(.slice none 0 0),(.pointer none),(.slice none 0 0),(.pointer none),(.bool false),(.int .i32 0),(.int .u32 0),(.int .i64 0),(.int .u64 0),(.int .i32 0),(.int .u32 0),(.int .i64 0),(.int .u64 0),(.slice none 0 0),(.float .f32 0),(.float .f32 0),(.float .f32 0),(.slice none 0 0),(.slice none 0 0),(.slice none 0 0),(.slice none 0 0),(.slice none 0 0),(.slice none 0 0),(.pointer none),(.slice none 0 0),(.int .u64 0),(.slice none 0 0),(.slice none 0 0),(.int .u64 0),(.slice none 0 0),(.int .u64 0),(.slice none 0 0),(.pointer none),(.pointer none),(.slice none 0 0),(.int .i8 0)]
def z162:Array Value:=#[(.float .f64 0)]
def z164:Array Value:=#[(.pointer none)]
def z165:Array Value:=#[(.int .i16 0),(.int .i8 0)]
def z167:Array Value:=#[(.float .f32 0),(.float .f32 0),(.float .f32 0),(.float .f64 0),(.int .u8 0),(.pointer none)]
def z168:Array Value:=#[(.string ⟨#[]⟩),(.int .i64 0),(.int .u16 0)]
def z169:Array Value:=#[(.pointer none)]
def z170:Array Value:=#[(.int .u32 0),(.int .u32 0)]
def z172:Array Value:=#[]
def z176:Array Value:=#[(.int .u8 0),.nilIface]
def z179:Array Value:=#[(.int .u8 0),.nilIface]
def z183:Array Value:=#[(.int .u8 0),.nilIface]
def z191:Array Value:=#[(.pointer none)]
def z219:Array Value:=#[(.slice none 0 0),(.int .u32 0)]
def z221:Array Value:=#[(.slice none 0 0),(.int .u32 0)]
def z246:Array Value:=#[(.slice none 0 0),(.int .u32 0)]
def z254:Array Value:=#[(.slice none 0 0),(.int .u32 0)]
def z259:Array Value:=#[(.slice none 0 0),(.int .u32 0)]
def z272:Array Value:=#[(.int .u64 0)]
def z275:Array Value:=#[(.int .u8 0)]
def z315:Array Value:=#[(.slice none 0 0),(.int .u32 0)]
def z317:Array Value:=#[(.slice none 0 0),(.int .u32 0)]
def z320:Array Value:=#[(.slice none 0 0),(.int .u32 0)]
def z323:Array Value:=#[(.slice none 0 0),(.int .u32 0)]
def tp324 (p0:IntKind) (p1:Nat) (x1:Value) (h:Qf) (R:Kn):Prop:=
 YG 1 x1 (.int .i64 3) fun x2=>
 LdK h x2 fun _x1=>
 YG 1 x1 (.int .i64 0) fun x3=>
 LdK h x3 fun x4=>
 QX p0 x4 fun x5=>
 Qp prog .or p1 (.int p0 0) x5 fun x6=>
 YG 1 x1 (.int .i64 1) fun x7=>
 LdK h x7 fun x8=>
 QX p0 x8 fun x9=>
 Qp prog .shl p1 x9 (.int .u64 8) fun x10=>
 Qp prog .or p1 x6 x10 fun x11=>
 YG 1 x1 (.int .i64 2) fun x12=>
 LdK h x12 fun x13=>
 QX p0 x13 fun x14=>
 Qp prog .shl p1 x14 (.int .u64 16) fun x15=>
 Qp prog .or p1 x11 x15 fun x16=>
 YG 1 x1 (.int .i64 3) fun x17=>
 LdK h x17 fun x18=>
 QX p0 x18 fun x19=>
 Qp prog .shl p1 x19 (.int .u64 24) fun x20=>
 Qp prog .or p1 x16 x20 fun x21=>
 R x21 h
def tp351 (p0:Nat) (x1 x2:Value) (h:Qf) (R:Kn):Prop:=
 Qb prog p0 #[x1,x2] h fun _x1 h1=>
 R (.tuple #[]) h1
def tp363 (p0:Nat) (x1 x2:Value) (h:Qf) (R:Kn):Prop:=
 YG 1 x1 (.int .i64 7) fun x3=>
 LdK h x3 fun _x1=>
 QX .u8 x2 fun x4=>
 YG 1 x1 (.int .i64 0) fun x5=>
 StK h 1 x5 x4 fun h1=>
 Qp prog .shr p0 x2 (.int .u64 8) fun x6=>
 QX .u8 x6 fun x7=>
 YG 1 x1 (.int .i64 1) fun x8=>
 StK h1 1 x8 x7 fun h2=>
 Qp prog .shr p0 x2 (.int .u64 16) fun x9=>
 QX .u8 x9 fun x10=>
 YG 1 x1 (.int .i64 2) fun x11=>
 StK h2 1 x11 x10 fun h3=>
 Qp prog .shr p0 x2 (.int .u64 24) fun x12=>
 QX .u8 x12 fun x13=>
 YG 1 x1 (.int .i64 3) fun x14=>
 StK h3 1 x14 x13 fun h4=>
 Qp prog .shr p0 x2 (.int .u64 32) fun x15=>
 QX .u8 x15 fun x16=>
 YG 1 x1 (.int .i64 4) fun x17=>
 StK h4 1 x17 x16 fun h5=>
 Qp prog .shr p0 x2 (.int .u64 40) fun x18=>
 QX .u8 x18 fun x19=>
 YG 1 x1 (.int .i64 5) fun x20=>
 StK h5 1 x20 x19 fun h6=>
 Qp prog .shr p0 x2 (.int .u64 48) fun x21=>
 QX .u8 x21 fun x22=>
 YG 1 x1 (.int .i64 6) fun x23=>
 StK h6 1 x23 x22 fun h7=>
 Qp prog .shr p0 x2 (.int .u64 56) fun x24=>
 QX .u8 x24 fun x25=>
 YG 1 x1 (.int .i64 7) fun x26=>
 StK h7 1 x26 x25 fun h8=>
 R (.tuple #[]) h8
def tp381 (p0:IntKind) (p1:Nat) (x1:Value) (h:Qf) (R:Kn):Prop:=
 YG 1 x1 (.int .i64 1) fun x2=>
 LdK h x2 fun _x1=>
 YG 1 x1 (.int .i64 0) fun x3=>
 LdK h x3 fun x4=>
 QX p0 x4 fun x5=>
 Qp prog .or p1 (.int p0 0) x5 fun x6=>
 YG 1 x1 (.int .i64 1) fun x7=>
 LdK h x7 fun x8=>
 QX p0 x8 fun x9=>
 Qp prog .shl p1 x9 (.int .u64 8) fun x10=>
 Qp prog .or p1 x6 x10 fun x11=>
 R x11 h
def Qge (p0:Nat) (x1:Value) (h:Qf) (R:Kn):Prop:=
 Qb prog p0 #[x1] h fun x2 h1=>
 R x2 h1
def tp385 (p0:IntKind) (p1:Nat) (x1:Value) (h:Qf) (R:Kn):Prop:=
 YG 1 x1 (.int .i64 7) fun x2=>
 LdK h x2 fun _x1=>
 YG 1 x1 (.int .i64 0) fun x3=>
 LdK h x3 fun x4=>
 QX p0 x4 fun x5=>
 Qp prog .or p1 (.int p0 0) x5 fun x6=>
 YG 1 x1 (.int .i64 1) fun x7=>
 LdK h x7 fun x8=>
 QX p0 x8 fun x9=>
 Qp prog .shl p1 x9 (.int .u64 8) fun x10=>
 Qp prog .or p1 x6 x10 fun x11=>
 YG 1 x1 (.int .i64 2) fun x12=>
 LdK h x12 fun x13=>
 QX p0 x13 fun x14=>
 Qp prog .shl p1 x14 (.int .u64 16) fun x15=>
 Qp prog .or p1 x11 x15 fun x16=>
 YG 1 x1 (.int .i64 3) fun x17=>
 LdK h x17 fun x18=>
 QX p0 x18 fun x19=>
 Qp prog .shl p1 x19 (.int .u64 24) fun x20=>
 Qp prog .or p1 x16 x20 fun x21=>
 YG 1 x1 (.int .i64 4) fun x22=>
 LdK h x22 fun x23=>
 QX p0 x23 fun x24=>
 Qp prog .shl p1 x24 (.int .u64 32) fun x25=>
 Qp prog .or p1 x21 x25 fun x26=>
 YG 1 x1 (.int .i64 5) fun x27=>
 LdK h x27 fun x28=>
 QX p0 x28 fun x29=>
 Qp prog .shl p1 x29 (.int .u64 40) fun x30=>
 Qp prog .or p1 x26 x30 fun x31=>
 YG 1 x1 (.int .i64 6) fun x32=>
 LdK h x32 fun x33=>
 QX p0 x33 fun x34=>
 Qp prog .shl p1 x34 (.int .u64 48) fun x35=>
 Qp prog .or p1 x31 x35 fun x36=>
 YG 1 x1 (.int .i64 7) fun x37=>
 LdK h x37 fun x38=>
 QX p0 x38 fun x39=>
 Qp prog .shl p1 x39 (.int .u64 56) fun x40=>
 Qp prog .or p1 x36 x40 fun x41=>
 R x41 h
def tp392 (p0:Nat) (x1 x2:Value) (h:Qf) (R:Kn):Prop:=
 YG 1 x1 (.int .i64 3) fun x3=>
 LdK h x3 fun _x1=>
 QX .u8 x2 fun x4=>
 YG 1 x1 (.int .i64 0) fun x5=>
 StK h 1 x5 x4 fun h1=>
 Qp prog .shr p0 x2 (.int .u64 8) fun x6=>
 QX .u8 x6 fun x7=>
 YG 1 x1 (.int .i64 1) fun x8=>
 StK h1 1 x8 x7 fun h2=>
 Qp prog .shr p0 x2 (.int .u64 16) fun x9=>
 QX .u8 x9 fun x10=>
 YG 1 x1 (.int .i64 2) fun x11=>
 StK h2 1 x11 x10 fun h3=>
 Qp prog .shr p0 x2 (.int .u64 24) fun x12=>
 QX .u8 x12 fun x13=>
 YG 1 x1 (.int .i64 3) fun x14=>
 StK h3 1 x14 x13 fun h4=>
 R (.tuple #[]) h4
def tp405 (p0:Nat) (x1 x2:Value) (h:Qf) (R:Kn):Prop:=
 YG 1 x1 (.int .i64 1) fun x3=>
 LdK h x3 fun _x1=>
 QX .u8 x2 fun x4=>
 YG 1 x1 (.int .i64 0) fun x5=>
 StK h 1 x5 x4 fun h1=>
 Qp prog .shr p0 x2 (.int .u64 8) fun x6=>
 QX .u8 x6 fun x7=>
 YG 1 x1 (.int .i64 1) fun x8=>
 StK h1 1 x8 x7 fun h2=>
 R (.tuple #[]) h2
def tp315 (p0:Nat) (x1 x2 x3:Value) (h:Qf) (R:Kn):Prop:=
 Qb prog 325 #[x1,x2] h fun x4 h1=>
 Qp prog .neq 293 x4 (.int .u16 0) fun x5=>
 IfK x5
 (Q6 x1 fun x6=>
 Qh x6 1 fun x7=>
 LdK h1 x7 fun x8=>
 QX .u32 x4 fun x9=>
 Qp prog .add 72 x8 x9 fun x10=>
 Qb prog p0 #[x1,x10,x3] h1 fun _x1 h2=>
 R (.bool true) h2)
 (R (.bool false) h1)
def Qcj (p0:Nat) (x1 x2:Value) (h:Qf) (R:Kn):Prop:=
 Q6 x1 fun x3=>
 Qh x3 0 fun x4=>
 LdK h x4 fun x5=>
 QfG 1 x5 (some x2) none fun x6=>
 Qb prog p0 #[x6] h fun x7 h1=>
 R x7 h1
def tp370 (p0:Nat) (x1 x2 x3:Value) (h:Qf) (R:Kn):Prop:=
 Q6 x1 fun x4=>
 Qh x4 0 fun x5=>
 LdK h x5 fun x6=>
 QfG 1 x6 (some x2) none fun x7=>
 Qb prog p0 #[x7,x3] h fun _x1 h1=>
 R (.bool true) h1
def tp97 (p0:Int) (p1:Nat) (x1 x2:Value) (h:Qf) (R:Kn):Prop:=
 Qb prog 74 #[x1,(.int .i64 p0),(.int .i64 0)] h fun _x1 h1=>
 Qb prog p1 #[x1,x2] h1 fun _x2 h2=>
 R (.tuple #[]) h2
def tp169 (p0:Nat) (x1:Value) (h:Qf) (R:Kn):Prop:=
 Q6 x1 fun x2=>
 Qh x2 p0 fun x3=>
 LdK h x3 fun x4=>
 Z2 prog (Op.unary .not x4) fun x5=>
 IfK x5
 (False)
 (R (.tuple #[]) h)
def QcI (p0:Int) (p1:Nat) (x1 x2:Value) (h:Qf) (R:Kn):Prop:=
 Q6 x1 fun x3=>
 Qh x3 5 fun x4=>
 LdK h x4 fun x5=>
 Qp prog .sub 72 x5 (.int .u32 p0) fun x6=>
 Q6 x1 fun x7=>
 Qh x7 5 fun x8=>
 StK h 1 x8 x6 fun h1=>
 Q6 x1 fun x9=>
 Qh x9 0 fun x10=>
 LdK h1 x10 fun x11=>
 Q6 x1 fun x12=>
 Qh x12 5 fun x13=>
 LdK h1 x13 fun x14=>
 QfG 1 x11 (some x14) none fun x15=>
 Qb prog p1 #[x15,x2] h1 fun _x1 h2=>
 R (.tuple #[]) h2
def QeQ (p0:Nat) (p1:Nat) (x1 x2 x3 x4:Value) (h:Qf) (R:Kn):Prop:=
 Qp prog .neq p0 x3 x4 fun x5=>
 IfK x5
 (Qb prog p1 #[x1,x3] h fun _x1 h1=>
 Qb prog 367 #[x1,x2] h1 fun _x2 h2=>
 R (.tuple #[]) h2)
 (R (.tuple #[]) h)
def Qht (p0:Int) (p1:Int) (x1 x2:Value) (h:Qf) (R:Kn):Prop:=
 Qb prog 283 #[x1,(.int .i64 p0),x2,(.int .i64 p1)] h fun x3 h1=>
 R x3 h1
def tp118 (p0:Int) (x1:Value) (h:Qf) (R:Kn):Prop:=
 Qb prog 301 #[x1,(.int .i64 p0)] h fun _x1 h1=>
 R (.tuple #[]) h1
def Yq (p0:Nat) (p1:Int) (p2:IntKind) (p3:Int) (x1 x2:Value) (h:Qf) (R:Kn):Prop:=
 Qb prog p0 #[x1,(.int .i64 p1),x2,(.int p2 p3)] h fun _x1 h1=>
 R (.tuple #[]) h1
def Qeq (p0:Nat) (p1:Int) (x1 x2:Value) (h:Qf) (R:Kn):Prop:=
 Q6 x1 fun x3=>
 Qh x3 0 fun x4=>
 Qb prog p0 #[x4,(.int .u16 p1),x2] h fun x5 h1=>
 R x5 h1
def tp191 (x1 x2 x3:Value) (h:Qf) (R:Kn):Prop:=
 Q6 x1 fun x4=>
 Qh x4 0 fun x5=>
 Qh x5 0 fun x6=>
 StK h 1 x6 x2 fun h1=>
 Q6 x1 fun x7=>
 Qh x7 0 fun x8=>
 Qh x8 1 fun x9=>
 StK h1 1 x9 x3 fun h2=>
 R (.tuple #[]) h2
def Qe9 (p0:Int) (p1:Nat) (p2:IntKind) (p3:Int) (x1:Value) (h:Qf) (R:Kn):Prop:=
 Q6 x1 fun x2=>
 Qh x2 0 fun x3=>
 Qb prog 325 #[x3,(.int .u16 p0)] h fun x4 h1=>
 QX .u32 x4 fun x5=>
 Qp prog .neq 72 x5 (.int .u32 0) fun x6=>
 IfK x6
 (Q6 x1 fun x7=>
 Qh x7 0 fun x8=>
 Q6 x1 fun x9=>
 Qh x9 0 fun x10=>
 Qh x10 1 fun x11=>
 LdK h1 x11 fun x12=>
 Qp prog .add 72 x5 x12 fun x13=>
 Qb prog p1 #[x8,x13] h1 fun x14 h2=>
 R x14 h2)
 (R (.int p2 p3) h1)
def tp194 (p0:Int) (x1:Value) (h:Qf) (R:Kn):Prop:=
 Q6 x1 fun x2=>
 Qh x2 0 fun x3=>
 Qb prog 325 #[x3,(.int .u16 p0)] h fun x4 h1=>
 QX .u32 x4 fun x5=>
 Qp prog .neq 72 x5 (.int .u32 0) fun x6=>
 IfK x6
 (Q6 x1 fun x7=>
 Qh x7 0 fun x8=>
 Q6 x1 fun x9=>
 Qh x9 0 fun x10=>
 Qh x10 1 fun x11=>
 LdK h1 x11 fun x12=>
 Qp prog .add 72 x5 x12 fun x13=>
 Qb prog 327 #[x8,x13] h1 fun x14 h2=>
 R x14 h2)
 (R (.slice none 0 0) h1)
def tp209 (p0:Int) (p1:Nat) (p2:Array Value) (p3:Nat) (p4:Nat) (x1 x2:Value) (h:Qf) (R:Kn):Prop:=
 Q6 x1 fun x3=>
 Qh x3 0 fun x4=>
 Qb prog 325 #[x4,(.int .u16 p0)] h fun x5 h1=>
 QX .u32 x5 fun x6=>
 Qp prog .neq 72 x6 (.int .u32 0) fun x7=>
 IfK x7
 (Q6 x1 fun x8=>
 Qh x8 0 fun x9=>
 Q6 x1 fun x10=>
 Qh x10 0 fun x11=>
 Qh x11 1 fun x12=>
 LdK h1 x12 fun x13=>
 Qp prog .add 72 x6 x13 fun x14=>
 Qb prog 335 #[x9,x14] h1 fun x15 h2=>
 QN (fun M1=>
 Qp prog .eql p1 x2 (.pointer none) fun x16=>
 IfK x16
 (Zb h2 (.cells p2 p3) fun x17 h3=>
 M1 [x17] h3)
 (M1 [x2] h2)) fun M1=>∀x18:Value,∀h4:Qf,M1 [x18] h4->
 Q6 x1 fun x19=>
 Qh x19 0 fun x20=>
 Qh x20 0 fun x21=>
 LdK h4 x21 fun x22=>
 Qb prog p4 #[x18,x22,x15] h4 fun _x1 h5=>
 R x18 h5)
 (R (.pointer none) h1)
def tp216 (p0:Int) (p1:Nat) (x1:Value) (h:Qf) (R:Kn):Prop:=
 Q6 x1 fun x2=>
 Qh x2 0 fun x3=>
 Qh x3 0 fun x4=>
 Q6 x1 fun x5=>
 Qh x5 0 fun x6=>
 Qh x6 0 fun x7=>
 Qh x7 1 fun x8=>
 LdK h x8 fun x9=>
 Qp prog .add 72 x9 (.int .u32 p0) fun x10=>
 Qb prog p1 #[x4,x10] h fun x11 h1=>
 R x11 h1
def QfP (p0:Int) (x1:Value) (h:Qf) (R:Kn):Prop:=
 Q6 x1 fun x2=>
 Qh x2 0 fun x3=>
 Qb prog 325 #[x3,(.int .u16 p0)] h fun x4 h1=>
 QX .u32 x4 fun x5=>
 Qp prog .neq 72 x5 (.int .u32 0) fun x6=>
 IfK x6
 (Q6 x1 fun x7=>
 Qh x7 0 fun x8=>
 Qb prog 341 #[x8,x5] h1 fun x9 h2=>
 R x9 h2)
 (R (.int .i64 0) h1)
def tp225 (p0:Int) (p1:Int) (p2:Nat) (p3:IntKind) (x1 x2:Value) (h:Qf) (R:Kn):Prop:=
 Q6 x1 fun x3=>
 Qh x3 0 fun x4=>
 Qb prog 325 #[x4,(.int .u16 p0)] h fun x5 h1=>
 QX .u32 x5 fun x6=>
 Qp prog .neq 72 x6 (.int .u32 0) fun x7=>
 IfK x7
 (Q6 x1 fun x8=>
 Qh x8 0 fun x9=>
 Qb prog 342 #[x9,x6] h1 fun x10 h2=>
 Q6 x1 fun x11=>
 Qh x11 0 fun x12=>
 Qp prog .mul 3 x2 (.int .i64 p1) fun x13=>
 QX .u32 x13 fun x14=>
 Qp prog .add 72 x10 x14 fun x15=>
 Qb prog p2 #[x12,x15] h2 fun x16 h3=>
 R x16 h3)
 (R (.int p3 0) h1)
def tp227 (p0:Int) (p1:Int) (p2:Nat) (x1 x2 x3:Value) (h:Qf) (R:Kn):Prop:=
 Q6 x1 fun x4=>
 Qh x4 0 fun x5=>
 Qb prog 325 #[x5,(.int .u16 p0)] h fun x6 h1=>
 QX .u32 x6 fun x7=>
 Qp prog .neq 72 x7 (.int .u32 0) fun x8=>
 IfK x8
 (Q6 x1 fun x9=>
 Qh x9 0 fun x10=>
 Qb prog 342 #[x10,x7] h1 fun x11 h2=>
 QX .u32 x3 fun x12=>
 Qp prog .mul 72 x12 (.int .u32 p1) fun x13=>
 Qp prog .add 72 x11 x13 fun x14=>
 Q6 x1 fun x15=>
 Qh x15 0 fun x16=>
 Qh x16 0 fun x17=>
 LdK h2 x17 fun x18=>
 Qb prog p2 #[x2,x18,x14] h2 fun _x1 h3=>
 R (.bool true) h3)
 (R (.bool false) h1)
def tp229 (p0:Int) (x1 x2:Value) (h:Qf) (R:Kn):Prop:=
 Q6 x1 fun x3=>
 Qh x3 0 fun x4=>
 Qb prog 325 #[x4,(.int .u16 p0)] h fun x5 h1=>
 QX .u32 x5 fun x6=>
 Qp prog .neq 72 x6 (.int .u32 0) fun x7=>
 IfK x7
 (Q6 x1 fun x8=>
 Qh x8 0 fun x9=>
 Qb prog 342 #[x9,x6] h1 fun x10 h2=>
 Q6 x1 fun x11=>
 Qh x11 0 fun x12=>
 Qp prog .mul 3 x2 (.int .i64 4) fun x13=>
 QX .u32 x13 fun x14=>
 Qp prog .add 72 x10 x14 fun x15=>
 Qb prog 327 #[x12,x15] h2 fun x16 h3=>
 R x16 h3)
 (R (.slice none 0 0) h1)
def tp231 (p0:Int) (p1:Nat) (x1 x2 x3:Value) (h:Qf) (R:Kn):Prop:=
 Q6 x1 fun x4=>
 Qh x4 0 fun x5=>
 Qb prog 325 #[x5,(.int .u16 p0)] h fun x6 h1=>
 QX .u32 x6 fun x7=>
 Qp prog .neq 72 x7 (.int .u32 0) fun x8=>
 IfK x8
 (Q6 x1 fun x9=>
 Qh x9 0 fun x10=>
 Qb prog 342 #[x10,x7] h1 fun x11 h2=>
 QX .u32 x3 fun x12=>
 Qp prog .mul 72 x12 (.int .u32 4) fun x13=>
 Qp prog .add 72 x11 x13 fun x14=>
 Q6 x1 fun x15=>
 Qh x15 0 fun x16=>
 Qb prog 335 #[x16,x14] h2 fun x17 h3=>
 Q6 x1 fun x18=>
 Qh x18 0 fun x19=>
 Qh x19 0 fun x20=>
 LdK h3 x20 fun x21=>
 Qb prog p1 #[x2,x21,x17] h3 fun _x1 h4=>
 R (.bool true) h4)
 (R (.bool false) h1)
def tp266 (p0:Int) (x1 x2:Value) (h:Qf) (R:Kn):Prop:=
 Q6 x1 fun x3=>
 Qh x3 0 fun x4=>
 Qb prog 325 #[x4,(.int .u16 p0)] h fun x5 h1=>
 QX .u32 x5 fun x6=>
 Qp prog .neq 72 x6 (.int .u32 0) fun x7=>
 IfK x7
 (Q6 x1 fun x8=>
 Qh x8 0 fun x9=>
 Qb prog 347 #[x9,x2,x6] h1 fun _x1 h2=>
 R (.bool true) h2)
 (R (.bool false) h1)
def tp338 (x1 x2 x3:Value) (h:Qf) (R:Kn):Prop:=
 Q6 x1 fun x4=>
 Qh x4 0 fun x5=>
 Qh x5 0 fun x6=>
 Qh x6 0 fun x7=>
 StK h 1 x7 x2 fun h1=>
 Q6 x1 fun x8=>
 Qh x8 0 fun x9=>
 Qh x9 0 fun x10=>
 Qh x10 1 fun x11=>
 StK h1 1 x11 x3 fun h2=>
 R (.tuple #[]) h2
def tp89 (p0:Nat) (p1:Nat) (p2:Nat) (p3:Nat) (p4:Nat) (p5:Nat) (x1 x2:Value) (h:Qf) (R:Kn):Prop:=
 Qp prog .eql p0 x1 (.pointer none) fun x3=>
 IfK x3
 (R (.int .u32 0) h)
 (Q6 x1 fun x4=>
 Qh x4 0 fun x5=>
 LdK h x5 fun x6=>
 Qp prog .eql p1 x6 (.int .u8 1) fun x7=>
 IfK x7
 (Q6 x1 fun x8=>
 Qh x8 1 fun x9=>
 LdK h x9 fun x10=>
 TAssK 73 false (.pointer none) x10 fun x11=>
 Qb prog 23 #[x11,x2] h fun x12 h1=>
 R x12 h1)
 (Qp prog .eql p1 x6 (.int .u8 2) fun x13=>
 IfK x13
 (Q6 x1 fun x14=>
 Qh x14 1 fun x15=>
 LdK h x15 fun x16=>
 TAssK p2 false (.pointer none) x16 fun x17=>
 Qb prog p3 #[x17,x2] h fun x18 h2=>
 R x18 h2)
 (Qp prog .eql p1 x6 (.int .u8 3) fun x19=>
 IfK x19
 (Q6 x1 fun x20=>
 Qh x20 1 fun x21=>
 LdK h x21 fun x22=>
 TAssK p4 false (.pointer none) x22 fun x23=>
 Qb prog p5 #[x23,x2] h fun x24 h3=>
 R x24 h3)
 (R (.int .u32 0) h))))
def tp91 (p0:Nat) (p1:Nat) (x1 x2:Value) (h:Qf) (R:Kn):Prop:=
 Qp prog .eql p0 x1 (.pointer none) fun x3=>
 IfK x3
 (R (.int .u32 0) h)
 (Q6 x1 fun x4=>
 Qh x4 0 fun x5=>
 LdK h x5 fun x6=>
 Q6 x1 fun x7=>
 Qh x7 1 fun x8=>
 LdK h x8 fun x9=>
 Qb prog p1 #[x2,x6,x9] h fun x10 h1=>
 R x10 h1)
def tp106 (p0:Nat) (p1:Nat) (p2:Nat) (x1 x2:Value) (h:Qf) (R:Kn):Prop:=
 Qp prog .eql p0 x1 (.pointer none) fun x3=>
 IfK x3
 (R (.int .u32 0) h)
 (Qb prog p1 #[x2] h fun _x1 h1=>
 Qb prog p2 #[x2] h1 fun x4 h2=>
 R x4 h2)
def tp107 (p0:Nat) (p1:Nat) (p2:Nat) (p3:Nat) (x1 x2:Value) (h:Qf) (R:Kn):Prop:=
 Qp prog .eql p0 x1 (.pointer none) fun x3=>
 IfK x3
 (R (.int .u32 0) h)
 (Qb prog p1 #[x2] h fun _x1 h1=>
 Q6 x1 fun x4=>
 Qh x4 0 fun x5=>
 LdK h1 x5 fun x6=>
 Qb prog p2 #[x2,x6] h1 fun _x2 h2=>
 Qb prog p3 #[x2] h2 fun x7 h3=>
 R x7 h3)
def tp78 (x1:Value) (h:Qf) (R:Kn):Prop:=
 YX x1 fun x2=>
 Qp prog .eql 3 x2 (.int .i64 0) fun x3=>
 IfK x3
 (R (.slice none 0 0) h)
 (R x1 h)
def tp47 (p0:Nat) (p1:Array Value) (p2:Nat) (x1 x2:Value) (h:Qf) (R:Kn):Prop:=
 YX x1 fun x3=>
 YX x2 fun x4=>
 Qp prog .neq 3 x3 x4 fun x5=>
 IfK x5
 (R (.bool false) h)
 (QN (fun M1=>
 YX x1 fun x6=>
 YO [(.int .i64 0),(.bool false)] h fun I1 n1=>∀x7 x8:Value,∀h1:Qf,I1 n1 [x7,x8] h1->
 Qp prog .lss 3 x7 x6 fun x9=>
 IfK x9
 (YG p0 x1 x7 fun x10=>
 LdN h1 p0 x10 fun x11=>
 Zb h1 (.cells p1 p2) fun x12 h2=>
 StK h2 p0 x12 x11 fun h3=>
 LdN h3 p0 x12 fun x13=>
 YG p0 x2 x7 fun x14=>
 LdN h3 p0 x14 fun x15=>
 Qp prog .neq p2 x13 x15 fun x16=>
 IfK x16
 (R (.bool false) h3)
 (Qp prog .add 3 x7 (.int .i64 1) fun x17=>
 Yf I1 n1 [x17,x8] h3))
 (M1 [x8] h1)) fun M1=>∀x18:Value,∀h4:Qf,M1 [x18] h4->
 R (.bool true) h4)
def tp50 (p0:Nat) (x1 x2:Value) (h:Qf) (R:Kn):Prop:=
 YX x1 fun x3=>
 YX x2 fun x4=>
 Qp prog .neq 3 x3 x4 fun x5=>
 IfK x5
 (R (.bool false) h)
 (QN (fun M1=>
 YX x1 fun x6=>
 YO [(.int .i64 0),(.bool false)] h fun I1 n1=>∀x7 x8:Value,∀h1:Qf,I1 n1 [x7,x8] h1->
 Qp prog .lss 3 x7 x6 fun x9=>
 IfK x9
 (YG 1 x1 x7 fun x10=>
 LdK h1 x10 fun x11=>
 YG 1 x2 x7 fun x12=>
 LdK h1 x12 fun x13=>
 Qp prog .neq p0 x11 x13 fun x14=>
 IfK x14
 (R (.bool false) h1)
 (Qp prog .add 3 x7 (.int .i64 1) fun x15=>
 Yf I1 n1 [x15,x8] h1))
 (M1 [x8] h1)) fun M1=>∀x16:Value,∀h2:Qf,M1 [x16] h2->
 R (.bool true) h2)
def tp25 (p0:Nat) (p1:Array Value) (p2:Nat) (p3:Nat) (p4:Nat) (x1:Value) (h:Qf) (R:Kn):Prop:=
 Zb h (.cells (Value.cells x1) p0) fun x2 h1=>
 Zb h1 (.cells p1 p2) fun x3 h2=>
 Qh x2 0 fun x4=>
 LdK h2 x4 fun x5=>
 Qh x2 1 fun x6=>
 LdK h2 x6 fun x7=>
 Qh x2 2 fun x8=>
 LdK h2 x8 fun x9=>
 Qb prog p3 #[x7,(.func (.func p4) #[] #[])] h2 fun x10 h3=>
 Qk h2 h3<|
 QH p1.toList [(0,1,x5),(1,1,x10),(2,1,x9)] fun x11=>
 StK h3 3 x3 x11 fun h4=>
 LdN h4 3 x3 fun r1=>
 R r1 h4
def tp28 (p0:Nat) (p1:Array Value) (p2:Nat) (p3:Nat) (x1:Value) (h:Qf) (R:Kn):Prop:=
 Zb h (.cells (Value.cells x1) p0) fun x2 h1=>
 Zb h1 (.cells p1 p2) fun x3 h2=>
 LdN h2 p3 x2 fun x4=>
 StK h2 p3 x3 x4 fun h3=>
 LdN h3 p3 x3 fun r1=>
 R r1 h3
end Go.Proofs
namespace Go.Proofs
open Go Go.Vc
open Tryz (prog)
set_option maxRecDepth 100000
def s190 (a:Value) (h:Qf) (R:Kn):Prop:=
 Qb prog 324 #[a] h fun b c=>
 QX .u32 b fun d=>
 R d c
theorem w190 {a h R} (H:s190 a h R):FnS prog 190 #[a] h R:=wq Tryz.func190 (by kernel_rfl) H
theorem w324 {a h R} (H:tp324 .i32 21 a h R):FnS prog 324 #[a] h R:=wq Tryz.func324 (by kernel_rfl) H
theorem w351 {a b h R} (H:tp351 392 a b h R):FnS prog 351 #[a,b] h R:=wq Tryz.func351 (by kernel_rfl) H
theorem w352 {a b h R} (H:tp351 393 a b h R):FnS prog 352 #[a,b] h R:=wq Tryz.func352 (by kernel_rfl) H
def s361 (a c:Value) (h:Qf) (R:Kn):Prop:=
 YG 1 a (.int .i64 0) fun d=>
 StK h 1 d (.int .u8 0) fun b=>
 IfK c
 (YG 1 a (.int .i64 0) fun e=>
 StK b 1 e (.int .u8 1) fun f=>
 R (.tuple #[]) f)
 (R (.tuple #[]) b)
theorem w361 {a b h R} (H:s361 a b h R):FnS prog 361 #[a,b] h R:=wq Tryz.func361 (by kernel_rfl) H
theorem w363 {a b h R} (H:tp363 2 a b h R):FnS prog 363 #[a,b] h R:=wq Tryz.func363 (by kernel_rfl) H
def s364 (a b:Value) (h:Qf) (R:Kn):Prop:=
 Qba prog 219 #[b] fun c=>
 Qb prog 365 #[a,c] h fun _x7 d=>
 R (.tuple #[]) d
theorem w364 {a b h R} (H:s364 a b h R):FnS prog 364 #[a,b] h R:=wq Tryz.func364 (by kernel_rfl) H
theorem w365 {a b h R} (H:tp363 31 a b h R):FnS prog 365 #[a,b] h R:=wq Tryz.func365 (by kernel_rfl) H
theorem w381 {a h R} (H:tp381 .i16 23 a h R):FnS prog 381 #[a] h R:=wq Tryz.func381 (by kernel_rfl) H
theorem w382 {a h R} (H:Qge 410 a h R):FnS prog 382 #[a] h R:=wq Tryz.func382 (by kernel_rfl) H
def s383 (a:Value) (h:Qf) (R:Kn):Prop:=
 YG 1 a (.int .i64 0) fun b=>
 LdK h b fun c=>
 Qp prog .eql 5 c (.int .u8 1) fun d=>
 R d h
theorem w383 {a h R} (H:s383 a h R):FnS prog 383 #[a] h R:=wq Tryz.func383 (by kernel_rfl) H
theorem w384 {a h R} (H:tp324 .u32 30 a h R):FnS prog 384 #[a] h R:=wq Tryz.func384 (by kernel_rfl) H
theorem w385 {a h R} (H:tp385 .i64 2 a h R):FnS prog 385 #[a] h R:=wq Tryz.func385 (by kernel_rfl) H
theorem w386 {a h R} (H:tp385 .u64 31 a h R):FnS prog 386 #[a] h R:=wq Tryz.func386 (by kernel_rfl) H
def s387 (a:Value) (h:Qf) (R:Kn):Prop:=
 Qb prog 384 #[a] h fun b c=>
 Qba prog 80 #[b] fun d=>
 R d c
theorem w387 {a h R} (H:s387 a h R):FnS prog 387 #[a] h R:=wq Tryz.func387 (by kernel_rfl) H
def s388 (a:Value) (h:Qf) (R:Kn):Prop:=
 YG 1 a (.int .i64 0) fun b=>
 LdK h b fun c=>
 QX .i8 c fun d=>
 R d h
theorem w388 {a h R} (H:s388 a h R):FnS prog 388 #[a] h R:=wq Tryz.func388 (by kernel_rfl) H
def s389 (a:Value) (h:Qf) (R:Kn):Prop:=
 Qb prog 386 #[a] h fun b c=>
 Qba prog 84 #[b] fun d=>
 R d c
theorem w389 {a h R} (H:s389 a h R):FnS prog 389 #[a] h R:=wq Tryz.func389 (by kernel_rfl) H
theorem w390 {a h R} (H:tp381 .u16 92 a h R):FnS prog 390 #[a] h R:=wq Tryz.func390 (by kernel_rfl) H
theorem w392 {a b h R} (H:tp392 30 a b h R):FnS prog 392 #[a,b] h R:=wq Tryz.func392 (by kernel_rfl) H
def s393 (a b:Value) (h:Qf) (R:Kn):Prop:=
 YG 1 a (.int .i64 0) fun c=>
 StK h 1 c b fun d=>
 R (.tuple #[]) d
theorem w393 {a b h R} (H:s393 a b h R):FnS prog 393 #[a,b] h R:=wq Tryz.func393 (by kernel_rfl) H
theorem w401 {a h R} (H:Qge 390 a h R):FnS prog 401 #[a] h R:=wq Tryz.func401 (by kernel_rfl) H
theorem w404 {a b h R} (H:tp351 406 a b h R):FnS prog 404 #[a,b] h R:=wq Tryz.func404 (by kernel_rfl) H
theorem w405 {a b h R} (H:tp405 23 a b h R):FnS prog 405 #[a,b] h R:=wq Tryz.func405 (by kernel_rfl) H
theorem w406 {a b h R} (H:tp392 21 a b h R):FnS prog 406 #[a,b] h R:=wq Tryz.func406 (by kernel_rfl) H
def s407 (a b:Value) (h:Qf) (R:Kn):Prop:=
 Qba prog 205 #[b] fun c=>
 Qb prog 392 #[a,c] h fun _x7 d=>
 R (.tuple #[]) d
theorem w407 {a b h R} (H:s407 a b h R):FnS prog 407 #[a,b] h R:=wq Tryz.func407 (by kernel_rfl) H
def s408 (a b:Value) (h:Qf) (R:Kn):Prop:=
 QX .u8 b fun c=>
 YG 1 a (.int .i64 0) fun d=>
 StK h 1 d c fun e=>
 R (.tuple #[]) e
theorem w408 {a b h R} (H:s408 a b h R):FnS prog 408 #[a,b] h R:=wq Tryz.func408 (by kernel_rfl) H
theorem w409 {a h R} (H:Qge 324 a h R):FnS prog 409 #[a] h R:=wq Tryz.func409 (by kernel_rfl) H
def s410 (a:Value) (h:Qf) (R:Kn):Prop:=
 YG 1 a (.int .i64 0) fun b=>
 LdK h b fun c=>
 R c h
theorem w410 {a h R} (H:s410 a h R):FnS prog 410 #[a] h R:=wq Tryz.func410 (by kernel_rfl) H
theorem w414 {a b h R} (H:tp405 92 a b h R):FnS prog 414 #[a,b] h R:=wq Tryz.func414 (by kernel_rfl) H
theorem w415 {a b h R} (H:tp351 414 a b h R):FnS prog 415 #[a,b] h R:=wq Tryz.func415 (by kernel_rfl) H
end Go.Proofs
namespace Go.Proofs
open Go Go.Vc
open Tryz (prog)
abbrev bsl (b o n c:Nat):Value:=.slice (some ⟨b,o,none⟩) n c
theorem Z6 {H:Qf} {b:Nat} {bs:List UInt8} (h:U8s H b 0 bs) {o i:Nat} (hi:o+i<bs.length):QaS H ⟨b,o+i,none⟩=some (.int .u8 (byteN bs (o+i))):=
 h.at (by omega) hi
section
variable {H:Qf} {b o n c:Nat} {bs:List UInt8} (hb:U8s H b 0 bs) {R:Kn}
include hb
set_option maxHeartbeats 1000000 in
theorem QiK (hl:o+2<=bs.length) (hn:2<=n) (hR:R (.int .u16 (le2 bs o:Int)) H):FnS prog 390 #[bsl b o n c] H R:=by
 have c0:=Z6 hb (o:=o) (i:=0) (by omega)
 have b0:=YE bs (o+0)
 have i0:(0:Int)<n:=by omega
 have c1:=Z6 hb (o:=o) (i:=1) (by omega)
 have b1:=YE bs (o+1)
 have i1:(1:Int)<n:=by omega
 apply w390
 unfold tp381
 simp only[↓QO (by decide:(0:Int)<=0) i0,↓QO (by decide:(0:Int)<=1) i1,show Int.toNat 0=0 from rfl,show Int.toNat 1=1 from rfl,Nat.zero_mul,Nat.mul_one,Nat.one_mul,↓Qj c0,↓Qj c1,↓Q1,↓Qip,↓Zr (by decide:(0:Int)<=8)]
 have g:=get2_val (κ:=.u16) (by decide) b0 b1
 simp only[Nat.add_zero]at g⊢
 simp only[show Int.toNat 8=8 from rfl]
 rw[g]
 skip
 have e:IntKind.u16.wrap (le2 bs o:Int)=le2 bs o:=wrap_u16 (by omega) (by have:=le2_lt bs o;omega)
 rw[<-e]at hR;exact hR
set_option maxHeartbeats 1000000 in
theorem go_GetInt16 (hl:o+2<=bs.length) (hn:2<=n) (hR:R (.int .i16 (IntKind.i16.wrap (le2 bs o:Int))) H):FnS prog 381 #[bsl b o n c] H R:=by
 have c0:=Z6 hb (o:=o) (i:=0) (by omega)
 have b0:=YE bs (o+0)
 have i0:(0:Int)<n:=by omega
 have c1:=Z6 hb (o:=o) (i:=1) (by omega)
 have b1:=YE bs (o+1)
 have i1:(1:Int)<n:=by omega
 apply w381
 unfold tp381
 simp only[↓QO (by decide:(0:Int)<=0) i0,↓QO (by decide:(0:Int)<=1) i1,show Int.toNat 0=0 from rfl,show Int.toNat 1=1 from rfl,Nat.zero_mul,Nat.mul_one,Nat.one_mul,↓Qj c0,↓Qj c1,↓Q1,↓Qip,↓Zr (by decide:(0:Int)<=8)]
 have g:=get2_val (κ:=.i16) (by decide) b0 b1
 simp only[Nat.add_zero]at g⊢
 simp only[show Int.toNat 8=8 from rfl]
 rw[g]
 skip
 skip
 exact hR
set_option maxHeartbeats 1000000 in
theorem QiQ (hl:o+4<=bs.length) (hn:4<=n) (hR:R (.int .u32 (le4 bs o:Int)) H):FnS prog 384 #[bsl b o n c] H R:=by
 have c0:=Z6 hb (o:=o) (i:=0) (by omega)
 have b0:=YE bs (o+0)
 have i0:(0:Int)<n:=by omega
 have c1:=Z6 hb (o:=o) (i:=1) (by omega)
 have b1:=YE bs (o+1)
 have i1:(1:Int)<n:=by omega
 have c2:=Z6 hb (o:=o) (i:=2) (by omega)
 have b2:=YE bs (o+2)
 have i2:(2:Int)<n:=by omega
 have c3:=Z6 hb (o:=o) (i:=3) (by omega)
 have b3:=YE bs (o+3)
 have i3:(3:Int)<n:=by omega
 apply w384
 unfold tp324
 simp only[↓QO (by decide:(0:Int)<=0) i0,↓QO (by decide:(0:Int)<=1) i1,↓QO (by decide:(0:Int)<=2) i2,↓QO (by decide:(0:Int)<=3) i3,show Int.toNat 0=0 from rfl,show Int.toNat 1=1 from rfl,show Int.toNat 2=2 from rfl,show Int.toNat 3=3 from rfl,Nat.zero_mul,Nat.mul_one,Nat.one_mul,↓Qj c0,↓Qj c1,↓Qj c2,↓Qj c3,↓Q1,↓Qip,↓Zr (by decide:(0:Int)<=8),↓Zr (by decide:(0:Int)<=16),↓Zr (by decide:(0:Int)<=24)]
 have g:=get4_val (κ:=.u32) (by decide) b0 b1 b2 b3
 simp only[Nat.add_zero]at g⊢
 simp only[show Int.toNat 8=8 from rfl,show Int.toNat 16=16 from rfl,show Int.toNat 24=24 from rfl]
 rw[g]
 rw[<-le4_eq]
 have e:IntKind.u32.wrap (le4 bs o:Int)=le4 bs o:=QT (by omega) (by have:=le4_lt bs o;omega)
 rw[<-e]at hR;exact hR
set_option maxHeartbeats 1000000 in
theorem Qhd (hl:o+4<=bs.length) (hn:4<=n) (hR:R (.int .i32 (IntKind.i32.wrap (le4 bs o:Int))) H):FnS prog 324 #[bsl b o n c] H R:=by
 have c0:=Z6 hb (o:=o) (i:=0) (by omega)
 have b0:=YE bs (o+0)
 have i0:(0:Int)<n:=by omega
 have c1:=Z6 hb (o:=o) (i:=1) (by omega)
 have b1:=YE bs (o+1)
 have i1:(1:Int)<n:=by omega
 have c2:=Z6 hb (o:=o) (i:=2) (by omega)
 have b2:=YE bs (o+2)
 have i2:(2:Int)<n:=by omega
 have c3:=Z6 hb (o:=o) (i:=3) (by omega)
 have b3:=YE bs (o+3)
 have i3:(3:Int)<n:=by omega
 apply w324
 unfold tp324
 simp only[↓QO (by decide:(0:Int)<=0) i0,↓QO (by decide:(0:Int)<=1) i1,↓QO (by decide:(0:Int)<=2) i2,↓QO (by decide:(0:Int)<=3) i3,show Int.toNat 0=0 from rfl,show Int.toNat 1=1 from rfl,show Int.toNat 2=2 from rfl,show Int.toNat 3=3 from rfl,Nat.zero_mul,Nat.mul_one,Nat.one_mul,↓Qj c0,↓Qj c1,↓Qj c2,↓Qj c3,↓Q1,↓Qip,↓Zr (by decide:(0:Int)<=8),↓Zr (by decide:(0:Int)<=16),↓Zr (by decide:(0:Int)<=24)]
 have g:=get4_val (κ:=.i32) (by decide) b0 b1 b2 b3
 simp only[Nat.add_zero]at g⊢
 simp only[show Int.toNat 8=8 from rfl,show Int.toNat 16=16 from rfl,show Int.toNat 24=24 from rfl]
 rw[g]
 rw[<-le4_eq]
 skip
 exact hR
set_option maxHeartbeats 1000000 in
theorem QiV (hl:o+8<=bs.length) (hn:8<=n) (hR:R (.int .u64 (le8 bs o:Int)) H):FnS prog 386 #[bsl b o n c] H R:=by
 have c0:=Z6 hb (o:=o) (i:=0) (by omega)
 have b0:=YE bs (o+0)
 have i0:(0:Int)<n:=by omega
 have c1:=Z6 hb (o:=o) (i:=1) (by omega)
 have b1:=YE bs (o+1)
 have i1:(1:Int)<n:=by omega
 have c2:=Z6 hb (o:=o) (i:=2) (by omega)
 have b2:=YE bs (o+2)
 have i2:(2:Int)<n:=by omega
 have c3:=Z6 hb (o:=o) (i:=3) (by omega)
 have b3:=YE bs (o+3)
 have i3:(3:Int)<n:=by omega
 have c4:=Z6 hb (o:=o) (i:=4) (by omega)
 have b4:=YE bs (o+4)
 have i4:(4:Int)<n:=by omega
 have c5:=Z6 hb (o:=o) (i:=5) (by omega)
 have b5:=YE bs (o+5)
 have i5:(5:Int)<n:=by omega
 have c6:=Z6 hb (o:=o) (i:=6) (by omega)
 have b6:=YE bs (o+6)
 have i6:(6:Int)<n:=by omega
 have c7:=Z6 hb (o:=o) (i:=7) (by omega)
 have b7:=YE bs (o+7)
 have i7:(7:Int)<n:=by omega
 apply w386
 unfold tp385
 simp only[↓QO (by decide:(0:Int)<=0) i0,↓QO (by decide:(0:Int)<=1) i1,↓QO (by decide:(0:Int)<=2) i2,↓QO (by decide:(0:Int)<=3) i3,↓QO (by decide:(0:Int)<=4) i4,↓QO (by decide:(0:Int)<=5) i5,↓QO (by decide:(0:Int)<=6) i6,↓QO (by decide:(0:Int)<=7) i7,show Int.toNat 0=0 from rfl,show Int.toNat 1=1 from rfl,show Int.toNat 2=2 from rfl,show Int.toNat 3=3 from rfl,show Int.toNat 4=4 from rfl,show Int.toNat 5=5 from rfl,show Int.toNat 6=6 from rfl,show Int.toNat 7=7 from rfl,Nat.zero_mul,Nat.mul_one,Nat.one_mul,↓Qj c0,↓Qj c1,↓Qj c2,↓Qj c3,↓Qj c4,↓Qj c5,↓Qj c6,↓Qj c7,↓Q1,↓Qip,↓Zr (by decide:(0:Int)<=8),↓Zr (by decide:(0:Int)<=16),↓Zr (by decide:(0:Int)<=24),↓Zr (by decide:(0:Int)<=32),↓Zr (by decide:(0:Int)<=40),↓Zr (by decide:(0:Int)<=48),↓Zr (by decide:(0:Int)<=56)]
 have g:=get8_val (κ:=.u64) (by decide) b0 b1 b2 b3 b4 b5 b6 b7
 simp only[Nat.add_zero]at g⊢
 simp only[show Int.toNat 8=8 from rfl,show Int.toNat 16=16 from rfl,show Int.toNat 24=24 from rfl,show Int.toNat 32=32 from rfl,show Int.toNat 40=40 from rfl,show Int.toNat 48=48 from rfl,show Int.toNat 56=56 from rfl]
 rw[g]
 rw[<-le8_eq]
 have e:IntKind.u64.wrap (le8 bs o:Int)=le8 bs o:=wrap_u64 (by omega) (by have:=le8_lt bs o;omega)
 rw[<-e]at hR;exact hR
set_option maxHeartbeats 1000000 in
theorem go_GetInt64 (hl:o+8<=bs.length) (hn:8<=n) (hR:R (.int .i64 (IntKind.i64.wrap (le8 bs o:Int))) H):FnS prog 385 #[bsl b o n c] H R:=by
 have c0:=Z6 hb (o:=o) (i:=0) (by omega)
 have b0:=YE bs (o+0)
 have i0:(0:Int)<n:=by omega
 have c1:=Z6 hb (o:=o) (i:=1) (by omega)
 have b1:=YE bs (o+1)
 have i1:(1:Int)<n:=by omega
 have c2:=Z6 hb (o:=o) (i:=2) (by omega)
 have b2:=YE bs (o+2)
 have i2:(2:Int)<n:=by omega
 have c3:=Z6 hb (o:=o) (i:=3) (by omega)
 have b3:=YE bs (o+3)
 have i3:(3:Int)<n:=by omega
 have c4:=Z6 hb (o:=o) (i:=4) (by omega)
 have b4:=YE bs (o+4)
 have i4:(4:Int)<n:=by omega
 have c5:=Z6 hb (o:=o) (i:=5) (by omega)
 have b5:=YE bs (o+5)
 have i5:(5:Int)<n:=by omega
 have c6:=Z6 hb (o:=o) (i:=6) (by omega)
 have b6:=YE bs (o+6)
 have i6:(6:Int)<n:=by omega
 have c7:=Z6 hb (o:=o) (i:=7) (by omega)
 have b7:=YE bs (o+7)
 have i7:(7:Int)<n:=by omega
 apply w385
 unfold tp385
 simp only[↓QO (by decide:(0:Int)<=0) i0,↓QO (by decide:(0:Int)<=1) i1,↓QO (by decide:(0:Int)<=2) i2,↓QO (by decide:(0:Int)<=3) i3,↓QO (by decide:(0:Int)<=4) i4,↓QO (by decide:(0:Int)<=5) i5,↓QO (by decide:(0:Int)<=6) i6,↓QO (by decide:(0:Int)<=7) i7,show Int.toNat 0=0 from rfl,show Int.toNat 1=1 from rfl,show Int.toNat 2=2 from rfl,show Int.toNat 3=3 from rfl,show Int.toNat 4=4 from rfl,show Int.toNat 5=5 from rfl,show Int.toNat 6=6 from rfl,show Int.toNat 7=7 from rfl,Nat.zero_mul,Nat.mul_one,Nat.one_mul,↓Qj c0,↓Qj c1,↓Qj c2,↓Qj c3,↓Qj c4,↓Qj c5,↓Qj c6,↓Qj c7,↓Q1,↓Qip,↓Zr (by decide:(0:Int)<=8),↓Zr (by decide:(0:Int)<=16),↓Zr (by decide:(0:Int)<=24),↓Zr (by decide:(0:Int)<=32),↓Zr (by decide:(0:Int)<=40),↓Zr (by decide:(0:Int)<=48),↓Zr (by decide:(0:Int)<=56)]
 have g:=get8_val (κ:=.i64) (by decide) b0 b1 b2 b3 b4 b5 b6 b7
 simp only[Nat.add_zero]at g⊢
 simp only[show Int.toNat 8=8 from rfl,show Int.toNat 16=16 from rfl,show Int.toNat 24=24 from rfl,show Int.toNat 32=32 from rfl,show Int.toNat 40=40 from rfl,show Int.toNat 48=48 from rfl,show Int.toNat 56=56 from rfl]
 rw[g]
 rw[<-le8_eq]
 skip
 exact hR
theorem go_GetUint8 (hl:o+1<=bs.length) (hn:1<=n) (hR:R (.int .u8 (byteN bs o)) H):FnS prog 410 #[bsl b o n c] H R:=by
 have c0:QaS H ⟨b,o,none⟩=some (.int .u8 (byteN bs o)):=hb.at (by omega) (by omega)
 have i0:(0:Int)<n:=by omega
 apply w410
 unfold s410
 simp only[↓QO (Int.le_refl 0) i0,Int.toNat_zero,Nat.zero_mul,↓Qj c0,↓Q1,Nat.add_zero,wrap_u8 (Int.natCast_nonneg _) (by have:=YE bs o;omega:((byteN bs o:Nat):Int)<256)]
 exact hR
theorem go_GetInt8 (hl:o+1<=bs.length) (hn:1<=n) (hR:R (.int .i8 (IntKind.i8.wrap (byteN bs o))) H):FnS prog 388 #[bsl b o n c] H R:=by
 have c0:QaS H ⟨b,o,none⟩=some (.int .u8 (byteN bs o)):=hb.at (by omega) (by omega)
 have i0:(0:Int)<n:=by omega
 apply w388
 unfold s388
 simp only[↓QO (Int.le_refl 0) i0,Int.toNat_zero,Nat.zero_mul,↓Qj c0,↓Q1,Nat.add_zero]
 exact hR
theorem go_GetBool (hl:o+1<=bs.length) (hn:1<=n) (hR:R (.bool (decide ((byteN bs o:Int)=1))) H):FnS prog 383 #[bsl b o n c] H R:=by
 have c0:QaS H ⟨b,o,none⟩=some (.int .u8 (byteN bs o)):=hb.at (by omega) (by omega)
 have i0:(0:Int)<n:=by omega
 apply w383
 unfold s383
 simp only[↓QO (Int.le_refl 0) i0,Int.toNat_zero,Nat.zero_mul,↓Qj c0,↓Yo,Nat.add_zero]
 exact hR
theorem go_GetByte (hl:o+1<=bs.length) (hn:1<=n) (hR:R (.int .u8 (byteN bs o)) H):FnS prog 382 #[bsl b o n c] H R:=by
 apply w382
 unfold Qge
 refine go_GetUint8 hb hl hn ?_
 exact hR
theorem ZN (hl:o+4<=bs.length) (hn:4<=n) (hR:R (.int .u32 (le4 bs o:Int)) H):FnS prog 190 #[bsl b o n c] H R:=by
 apply w190
 unfold s190
 refine Qhd hb hl hn ?_
 have e:IntKind.u32.wrap (IntKind.i32.wrap (le4 bs o:Int))=(le4 bs o:Int):=by
  have h:=QeT .i32 (le4 bs o:Int)
  have h2:=le4_lt bs o
  rw[QiF .u32 (y:=(le4 bs o:Int)) (by exact h)]
  exact QT (by omega) (by omega)
 simp only[↓Q1,e]
 exact hR
theorem go_GetSOffsetT (hl:o+4<=bs.length) (hn:4<=n) (hR:R (.int .i32 (IntKind.i32.wrap (le4 bs o:Int))) H):FnS prog 409 #[bsl b o n c] H R:=by
 apply w409
 unfold Qge
 refine Qhd hb hl hn ?_
 exact hR
theorem Qda (hl:o+2<=bs.length) (hn:2<=n) (hR:R (.int .u16 (le2 bs o:Int)) H):FnS prog 401 #[bsl b o n c] H R:=by
 apply w401
 unfold Qge
 refine QiK hb hl hn ?_
 exact hR
omit hb in
theorem Yz {w:World} {n:Int}:(callFunc 80 #[.int .u32 n]).run prog w= .ok (.value (.float .f32 n.toNat)) w:=by
 rw[run_callFunc_extern (fn:=Tryz.f80) (e:=Extern.MathFloatBits.float32frombits) Tryz.func80 (by kernel_rfl) (by kernel_rfl) (by kernel_rfl) (by kernel_rfl)]
 rfl
omit hb in
theorem QS {P:Program} {f:FuncId} {args:Array Value} {v:Value} {k:Value->Prop} (h:∀w,(callFunc f args).run P w= .ok (.value v) w) (hk:k v):Qba P f args k:=⟨v,h,hk⟩
theorem go_GetFloat32 (hl:o+4<=bs.length) (hn:4<=n) (hR:R (.float .f32 (le4 bs o)) H):FnS prog 387 #[bsl b o n c] H R:=by
 apply w387
 unfold s387
 refine QiQ hb hl hn ?_
 refine QS (fun w=>Yz) ?_
 exact hR
omit hb in
theorem QbX {w:World} {n:Int}:(callFunc 84 #[.int .u64 n]).run prog w= .ok (.value (.float .f64 n.toNat)) w:=by
 rw[run_callFunc_extern (fn:=Tryz.f84) (e:=Extern.MathFloatBits.float64frombits) Tryz.func84 (by kernel_rfl) (by kernel_rfl) (by kernel_rfl) (by kernel_rfl)]
 rfl
theorem go_GetFloat64 (hl:o+8<=bs.length) (hn:8<=n) (hR:R (.float .f64 (le8 bs o)) H):FnS prog 389 #[bsl b o n c] H R:=by
 apply w389
 unfold s389
 refine QiV hb hl hn ?_
 refine QS (fun w=>QbX) ?_
 exact hR
end
end Go.Proofs
namespace Go.Proofs
open Go Go.Vc
open Tryz (prog)
set_option maxRecDepth 100000
theorem w315 {a b c h R} (H:tp315 370 a b c h R):FnS prog 315 #[a,b,c] h R:=wq Tryz.func315 (by kernel_rfl) H
theorem w316 {a b c h R} (H:tp315 371 a b c h R):FnS prog 316 #[a,b,c] h R:=wq Tryz.func316 (by kernel_rfl) H
theorem w317 {a b c h R} (H:tp315 372 a b c h R):FnS prog 317 #[a,b,c] h R:=wq Tryz.func317 (by kernel_rfl) H
theorem w318 {a b c h R} (H:tp315 373 a b c h R):FnS prog 318 #[a,b,c] h R:=wq Tryz.func318 (by kernel_rfl) H
theorem w319 {a b c h R} (H:tp315 374 a b c h R):FnS prog 319 #[a,b,c] h R:=wq Tryz.func319 (by kernel_rfl) H
theorem w320 {a b c h R} (H:tp315 375 a b c h R):FnS prog 320 #[a,b,c] h R:=wq Tryz.func320 (by kernel_rfl) H
theorem w321 {a b c h R} (H:tp315 376 a b c h R):FnS prog 321 #[a,b,c] h R:=wq Tryz.func321 (by kernel_rfl) H
theorem w322 {a b c h R} (H:tp315 377 a b c h R):FnS prog 322 #[a,b,c] h R:=wq Tryz.func322 (by kernel_rfl) H
theorem w323 {a b c h R} (H:tp315 378 a b c h R):FnS prog 323 #[a,b,c] h R:=wq Tryz.func323 (by kernel_rfl) H
def s325 (a b:Value) (h:Qf) (R:Kn):Prop:=
 Q6 a fun f=>
 Qh f 1 fun g=>
 LdK h g fun i=>
 QX .i32 i fun j=>
 Q6 a fun l=>
 Qh l 1 fun m=>
 LdK h m fun o=>
 Qb prog 379 #[a,o] h fun p c=>
 Qk h c<|
 Qp prog .sub 345 j p fun q=>
 QX .u32 q fun d=>
 Qb prog 380 #[a,d] c fun r e=>
 Qp prog .lss 293 b r fun s=>
 IfK s
 (QX .u32 b fun t=>
 Qp prog .add 72 d t fun u=>
 Qb prog 380 #[a,u] e fun v w=>
 R v w)
 (R (.int .u16 0) e)
theorem w325 {a b h R} (H:s325 a b h R):FnS prog 325 #[a,b] h R:=wq Tryz.func325 (by kernel_rfl) H
theorem w326 {a b h R} (H:Qcj 381 a b h R):FnS prog 326 #[a,b] h R:=wq Tryz.func326 (by kernel_rfl) H
def s327 (a b:Value) (h:Qf) (R:Kn):Prop:=
 Q6 a fun g=>
 Qh g 0 fun i=>
 LdK h i fun j=>
 QfG 1 j (some b) none fun l=>
 Qb prog 190 #[l] h fun m c=>
 Qp prog .add 72 b m fun d=>
 Qp prog .add 72 d (.int .u32 4) fun e=>
 Q6 a fun o=>
 Qh o 0 fun p=>
 LdK c p fun q=>
 QfG 1 q (some d) none fun r=>
 Qb prog 190 #[r] c fun s f=>
 Q6 a fun t=>
 Qh t 0 fun u=>
 LdK f u fun v=>
 Qp prog .add 72 e s fun w=>
 QfG 1 v (some e) (some w) fun y=>
 R y f
theorem w327 {a b h R} (H:s327 a b h R):FnS prog 327 #[a,b] h R:=wq Tryz.func327 (by kernel_rfl) H
theorem w328 {a b h R} (H:Qcj 382 a b h R):FnS prog 328 #[a,b] h R:=wq Tryz.func328 (by kernel_rfl) H
theorem w329 {a b h R} (H:Qcj 383 a b h R):FnS prog 329 #[a,b] h R:=wq Tryz.func329 (by kernel_rfl) H
theorem w330 {a b h R} (H:Qcj 324 a b h R):FnS prog 330 #[a,b] h R:=wq Tryz.func330 (by kernel_rfl) H
theorem w331 {a b h R} (H:Qcj 384 a b h R):FnS prog 331 #[a,b] h R:=wq Tryz.func331 (by kernel_rfl) H
theorem w332 {a b h R} (H:Qcj 385 a b h R):FnS prog 332 #[a,b] h R:=wq Tryz.func332 (by kernel_rfl) H
theorem w333 {a b h R} (H:Qcj 386 a b h R):FnS prog 333 #[a,b] h R:=wq Tryz.func333 (by kernel_rfl) H
theorem w334 {a b h R} (H:Qcj 387 a b h R):FnS prog 334 #[a,b] h R:=wq Tryz.func334 (by kernel_rfl) H
def s335 (b a:Value) (h:Qf) (R:Kn):Prop:=
 Q6 b fun c=>
 Qh c 0 fun d=>
 LdK h d fun e=>
 QfG 1 e (some a) none fun f=>
 Qb prog 190 #[f] h fun g i=>
 Qp prog .add 72 a g fun j=>
 R j i
theorem w335 {a b h R} (H:s335 a b h R):FnS prog 335 #[a,b] h R:=wq Tryz.func335 (by kernel_rfl) H
theorem w337 {a b h R} (H:Qcj 388 a b h R):FnS prog 337 #[a,b] h R:=wq Tryz.func337 (by kernel_rfl) H
theorem w340 {a b h R} (H:Qcj 389 a b h R):FnS prog 340 #[a,b] h R:=wq Tryz.func340 (by kernel_rfl) H
def s341 (a d:Value) (h:Qf) (R:Kn):Prop:=
 Q6 a fun e=>
 Qh e 1 fun f=>
 LdK h f fun g=>
 Qp prog .add 72 d g fun b=>
 Q6 a fun i=>
 Qh i 0 fun j=>
 LdK h j fun l=>
 QfG 1 l (some b) none fun m=>
 Qb prog 190 #[m] h fun o c=>
 Qp prog .add 72 b o fun p=>
 Q6 a fun q=>
 Qh q 0 fun r=>
 LdK c r fun s=>
 QfG 1 s (some p) none fun t=>
 Qb prog 190 #[t] c fun u v=>
 QX .i64 u fun w=>
 R w v
theorem w341 {a b h R} (H:s341 a b h R):FnS prog 341 #[a,b] h R:=wq Tryz.func341 (by kernel_rfl) H
def s342 (a c:Value) (h:Qf) (R:Kn):Prop:=
 Q6 a fun d=>
 Qh d 1 fun e=>
 LdK h e fun f=>
 Qp prog .add 72 c f fun b=>
 Q6 a fun g=>
 Qh g 0 fun i=>
 LdK h i fun j=>
 QfG 1 j (some b) none fun l=>
 Qb prog 190 #[l] h fun m o=>
 Qp prog .add 72 b m fun p=>
 Qp prog .add 72 p (.int .u32 4) fun q=>
 R q o
theorem w342 {a b h R} (H:s342 a b h R):FnS prog 342 #[a,b] h R:=wq Tryz.func342 (by kernel_rfl) H
theorem w344 {a b h R} (H:Qcj 390 a b h R):FnS prog 344 #[a,b] h R:=wq Tryz.func344 (by kernel_rfl) H
def s347 (a b e:Value) (h:Qf) (R:Kn):Prop:=
 Q6 a fun f=>
 Qh f 1 fun g=>
 LdK h g fun i=>
 Qp prog .add 72 e i fun c=>
 Qb prog 391 #[a,c] h fun j l=>
 Qp prog .add 72 c j fun m=>
 Q6 b fun o=>
 Qh o 1 fun p=>
 StK l 1 p m fun d=>
 Q6 a fun q=>
 Qh q 0 fun r=>
 LdK d r fun s=>
 Q6 b fun t=>
 Qh t 0 fun u=>
 StK d 1 u s fun v=>
 R (.tuple #[]) v
theorem w347 {a b c h R} (H:s347 a b c h R):FnS prog 347 #[a,b,c] h R:=wq Tryz.func347 (by kernel_rfl) H
theorem w370 {a b c h R} (H:tp370 405 a b c h R):FnS prog 370 #[a,b,c] h R:=wq Tryz.func370 (by kernel_rfl) H
theorem w371 {a b c h R} (H:tp370 352 a b c h R):FnS prog 371 #[a,b,c] h R:=wq Tryz.func371 (by kernel_rfl) H
theorem w372 {a b c h R} (H:tp370 361 a b c h R):FnS prog 372 #[a,b,c] h R:=wq Tryz.func372 (by kernel_rfl) H
theorem w373 {a b c h R} (H:tp370 406 a b c h R):FnS prog 373 #[a,b,c] h R:=wq Tryz.func373 (by kernel_rfl) H
theorem w374 {a b c h R} (H:tp370 392 a b c h R):FnS prog 374 #[a,b,c] h R:=wq Tryz.func374 (by kernel_rfl) H
theorem w375 {a b c h R} (H:tp370 363 a b c h R):FnS prog 375 #[a,b,c] h R:=wq Tryz.func375 (by kernel_rfl) H
theorem w376 {a b c h R} (H:tp370 365 a b c h R):FnS prog 376 #[a,b,c] h R:=wq Tryz.func376 (by kernel_rfl) H
theorem w377 {a b c h R} (H:tp370 407 a b c h R):FnS prog 377 #[a,b,c] h R:=wq Tryz.func377 (by kernel_rfl) H
theorem w378 {a b c h R} (H:tp370 408 a b c h R):FnS prog 378 #[a,b,c] h R:=wq Tryz.func378 (by kernel_rfl) H
theorem w379 {a b h R} (H:Qcj 409 a b h R):FnS prog 379 #[a,b] h R:=wq Tryz.func379 (by kernel_rfl) H
theorem w380 {a b h R} (H:Qcj 401 a b h R):FnS prog 380 #[a,b] h R:=wq Tryz.func380 (by kernel_rfl) H
theorem w391 {a b h R} (H:Qcj 190 a b h R):FnS prog 391 #[a,b] h R:=wq Tryz.func391 (by kernel_rfl) H
end Go.Proofs
namespace Go.Proofs
open Go Go.Vc
open Tryz (prog)
set_option maxRecDepth 100000
def s43 (a b:Value) (h:Qf) (R:Kn):Prop:=
 QfG 1 a (some b) none fun d=>
 Qb prog 190 #[d] h fun e f=>
 QH z221.toList [] fun g=>
 Zb f (.cells (Value.cells g) 221) fun c i=>
 Qp prog .add 72 e b fun j=>
 Qb prog 191 #[c,a,j] i fun _x18 l=>
 R c l
theorem w43 {a b h R} (H:s43 a b h R):FnS prog 43 #[a,b] h R:=wq Tryz.func43 (by kernel_rfl) H
theorem w90 {a b h R} (H:Qht 4 2 a b h R):FnS prog 90 #[a,b] h R:=wq Tryz.func90 (by kernel_rfl) H
theorem w93 {a b h R} (H:Qht 4 4 a b h R):FnS prog 93 #[a,b] h R:=wq Tryz.func93 (by kernel_rfl) H
theorem w94 {a b h R} (H:Qht 4 4 a b h R):FnS prog 94 #[a,b] h R:=wq Tryz.func94 (by kernel_rfl) H
theorem w96 {a b h R} (H:Qht 1 1 a b h R):FnS prog 96 #[a,b] h R:=wq Tryz.func96 (by kernel_rfl) H
theorem w98 {a b h R} (H:Qht 4 4 a b h R):FnS prog 98 #[a,b] h R:=wq Tryz.func98 (by kernel_rfl) H
theorem w99 {a b h R} (H:Qht 8 4 a b h R):FnS prog 99 #[a,b] h R:=wq Tryz.func99 (by kernel_rfl) H
theorem w101 {a b h R} (H:Qht 4 2 a b h R):FnS prog 101 #[a,b] h R:=wq Tryz.func101 (by kernel_rfl) H
theorem w102 {a b h R} (H:Qht 8 8 a b h R):FnS prog 102 #[a,b] h R:=wq Tryz.func102 (by kernel_rfl) H
theorem w104 {a b h R} (H:Qht 8 8 a b h R):FnS prog 104 #[a,b] h R:=wq Tryz.func104 (by kernel_rfl) H
theorem w108 {a b h R} (H:Qht 4 4 a b h R):FnS prog 108 #[a,b] h R:=wq Tryz.func108 (by kernel_rfl) H
theorem w109 {a b h R} (H:Qht 8 8 a b h R):FnS prog 109 #[a,b] h R:=wq Tryz.func109 (by kernel_rfl) H
theorem w111 {a b h R} (H:Qht 4 4 a b h R):FnS prog 111 #[a,b] h R:=wq Tryz.func111 (by kernel_rfl) H
theorem w112 {a b h R} (H:Qht 8 8 a b h R):FnS prog 112 #[a,b] h R:=wq Tryz.func112 (by kernel_rfl) H
theorem w113 {a b h R} (H:Qht 8 8 a b h R):FnS prog 113 #[a,b] h R:=wq Tryz.func113 (by kernel_rfl) H
theorem w116 {a b h R} (H:Qht 1 1 a b h R):FnS prog 116 #[a,b] h R:=wq Tryz.func116 (by kernel_rfl) H
theorem w118 {a h R} (H:tp118 49 a h R):FnS prog 118 #[a] h R:=wq Tryz.func118 (by kernel_rfl) H
theorem w120 {a b h R} (H:Yq 303 0 .u32 0 a b h R):FnS prog 120 #[a,b] h R:=wq Tryz.func120 (by kernel_rfl) H
theorem w121 {a b h R} (H:Yq 304 1 .i16 150 a b h R):FnS prog 121 #[a,b] h R:=wq Tryz.func121 (by kernel_rfl) H
theorem w122 {a b h R} (H:Yq 304 2 .i16 100 a b h R):FnS prog 122 #[a,b] h R:=wq Tryz.func122 (by kernel_rfl) H
theorem w123 {a b h R} (H:Yq 305 3 .u32 0 a b h R):FnS prog 123 #[a,b] h R:=wq Tryz.func123 (by kernel_rfl) H
theorem w124 {a b h R} (H:Yq 305 5 .u32 0 a b h R):FnS prog 124 #[a,b] h R:=wq Tryz.func124 (by kernel_rfl) H
theorem w125 {a b h R} (H:Yq 306 6 .u8 8 a b h R):FnS prog 125 #[a,b] h R:=wq Tryz.func125 (by kernel_rfl) H
theorem w126 {a b h R} (H:Yq 306 7 .u8 0 a b h R):FnS prog 126 #[a,b] h R:=wq Tryz.func126 (by kernel_rfl) H
theorem w127 {a b h R} (H:Yq 305 8 .u32 0 a b h R):FnS prog 127 #[a,b] h R:=wq Tryz.func127 (by kernel_rfl) H
theorem w128 {a b h R} (H:Yq 305 9 .u32 0 a b h R):FnS prog 128 #[a,b] h R:=wq Tryz.func128 (by kernel_rfl) H
theorem w129 {a b h R} (H:Yq 305 10 .u32 0 a b h R):FnS prog 129 #[a,b] h R:=wq Tryz.func129 (by kernel_rfl) H
theorem w130 {a b h R} (H:Yq 305 11 .u32 0 a b h R):FnS prog 130 #[a,b] h R:=wq Tryz.func130 (by kernel_rfl) H
theorem w131 {a b h R} (H:Yq 305 12 .u32 0 a b h R):FnS prog 131 #[a,b] h R:=wq Tryz.func131 (by kernel_rfl) H
theorem w132 {a b h R} (H:Yq 305 13 .u32 0 a b h R):FnS prog 132 #[a,b] h R:=wq Tryz.func132 (by kernel_rfl) H
theorem w133 {a b h R} (H:Yq 305 14 .u32 0 a b h R):FnS prog 133 #[a,b] h R:=wq Tryz.func133 (by kernel_rfl) H
def s134 (a b:Value) (h:Qf) (R:Kn):Prop:=
 Qb prog 307 #[a,(.int .i64 15),b,(.bool false)] h fun _x6 c=>
 R (.tuple #[]) c
theorem w134 {a b h R} (H:s134 a b h R):FnS prog 134 #[a,b] h R:=wq Tryz.func134 (by kernel_rfl) H
theorem w135 {a b h R} (H:Yq 308 16 .i32 0 a b h R):FnS prog 135 #[a,b] h R:=wq Tryz.func135 (by kernel_rfl) H
theorem w136 {a b h R} (H:Yq 309 17 .u32 0 a b h R):FnS prog 136 #[a,b] h R:=wq Tryz.func136 (by kernel_rfl) H
theorem w137 {a b h R} (H:Yq 310 18 .i64 0 a b h R):FnS prog 137 #[a,b] h R:=wq Tryz.func137 (by kernel_rfl) H
theorem w138 {a b h R} (H:Yq 311 19 .u64 0 a b h R):FnS prog 138 #[a,b] h R:=wq Tryz.func138 (by kernel_rfl) H
theorem w139 {a b h R} (H:Yq 308 20 .i32 0 a b h R):FnS prog 139 #[a,b] h R:=wq Tryz.func139 (by kernel_rfl) H
theorem w140 {a b h R} (H:Yq 309 21 .u32 0 a b h R):FnS prog 140 #[a,b] h R:=wq Tryz.func140 (by kernel_rfl) H
theorem w141 {a b h R} (H:Yq 310 22 .i64 0 a b h R):FnS prog 141 #[a,b] h R:=wq Tryz.func141 (by kernel_rfl) H
theorem w142 {a b h R} (H:Yq 311 23 .u64 0 a b h R):FnS prog 142 #[a,b] h R:=wq Tryz.func142 (by kernel_rfl) H
theorem w143 {a b h R} (H:Yq 305 24 .u32 0 a b h R):FnS prog 143 #[a,b] h R:=wq Tryz.func143 (by kernel_rfl) H
def s144 (a b:Value) (h:Qf) (R:Kn):Prop:=
 Qb prog 312 #[a,(.int .i64 25),b,(.float .f32 1078530000)] h fun _x6 c=>
 R (.tuple #[]) c
theorem w144 {a b h R} (H:s144 a b h R):FnS prog 144 #[a,b] h R:=wq Tryz.func144 (by kernel_rfl) H
def s145 (a b:Value) (h:Qf) (R:Kn):Prop:=
 Qb prog 312 #[a,(.int .i64 26),b,(.float .f32 1077936128)] h fun _x6 c=>
 R (.tuple #[]) c
theorem w145 {a b h R} (H:s145 a b h R):FnS prog 145 #[a,b] h R:=wq Tryz.func145 (by kernel_rfl) H
def s146 (a b:Value) (h:Qf) (R:Kn):Prop:=
 Qb prog 312 #[a,(.int .i64 27),b,(.float .f32 0)] h fun _x6 c=>
 R (.tuple #[]) c
theorem w146 {a b h R} (H:s146 a b h R):FnS prog 146 #[a,b] h R:=wq Tryz.func146 (by kernel_rfl) H
theorem w147 {a b h R} (H:Yq 305 28 .u32 0 a b h R):FnS prog 147 #[a,b] h R:=wq Tryz.func147 (by kernel_rfl) H
theorem w148 {a b h R} (H:Yq 305 29 .u32 0 a b h R):FnS prog 148 #[a,b] h R:=wq Tryz.func148 (by kernel_rfl) H
theorem w149 {a b h R} (H:Yq 305 30 .u32 0 a b h R):FnS prog 149 #[a,b] h R:=wq Tryz.func149 (by kernel_rfl) H
theorem w150 {a b h R} (H:Yq 305 31 .u32 0 a b h R):FnS prog 150 #[a,b] h R:=wq Tryz.func150 (by kernel_rfl) H
theorem w151 {a b h R} (H:Yq 305 32 .u32 0 a b h R):FnS prog 151 #[a,b] h R:=wq Tryz.func151 (by kernel_rfl) H
theorem w152 {a b h R} (H:Yq 305 33 .u32 0 a b h R):FnS prog 152 #[a,b] h R:=wq Tryz.func152 (by kernel_rfl) H
theorem w153 {a b h R} (H:Yq 305 34 .u32 0 a b h R):FnS prog 153 #[a,b] h R:=wq Tryz.func153 (by kernel_rfl) H
theorem w154 {a b h R} (H:Yq 305 35 .u32 0 a b h R):FnS prog 154 #[a,b] h R:=wq Tryz.func154 (by kernel_rfl) H
theorem w155 {a b h R} (H:Yq 311 36 .u64 0 a b h R):FnS prog 155 #[a,b] h R:=wq Tryz.func155 (by kernel_rfl) H
theorem w156 {a b h R} (H:Yq 305 37 .u32 0 a b h R):FnS prog 156 #[a,b] h R:=wq Tryz.func156 (by kernel_rfl) H
theorem w157 {a b h R} (H:Yq 305 38 .u32 0 a b h R):FnS prog 157 #[a,b] h R:=wq Tryz.func157 (by kernel_rfl) H
theorem w158 {a b h R} (H:Yq 311 39 .u64 0 a b h R):FnS prog 158 #[a,b] h R:=wq Tryz.func158 (by kernel_rfl) H
theorem w159 {a b h R} (H:Yq 305 40 .u32 0 a b h R):FnS prog 159 #[a,b] h R:=wq Tryz.func159 (by kernel_rfl) H
theorem w160 {a b h R} (H:Yq 311 41 .u64 0 a b h R):FnS prog 160 #[a,b] h R:=wq Tryz.func160 (by kernel_rfl) H
theorem w161 {a b h R} (H:Yq 305 42 .u32 0 a b h R):FnS prog 161 #[a,b] h R:=wq Tryz.func161 (by kernel_rfl) H
theorem w162 {a b h R} (H:Yq 306 43 .u8 0 a b h R):FnS prog 162 #[a,b] h R:=wq Tryz.func162 (by kernel_rfl) H
theorem w163 {a b h R} (H:Yq 305 44 .u32 0 a b h R):FnS prog 163 #[a,b] h R:=wq Tryz.func163 (by kernel_rfl) H
theorem w164 {a b h R} (H:Yq 306 45 .u8 0 a b h R):FnS prog 164 #[a,b] h R:=wq Tryz.func164 (by kernel_rfl) H
theorem w165 {a b h R} (H:Yq 305 46 .u32 0 a b h R):FnS prog 165 #[a,b] h R:=wq Tryz.func165 (by kernel_rfl) H
theorem w166 {a b h R} (H:Yq 305 47 .u32 0 a b h R):FnS prog 166 #[a,b] h R:=wq Tryz.func166 (by kernel_rfl) H
theorem w167 {a b h R} (H:Yq 313 48 .i8 (-1) a b h R):FnS prog 167 #[a,b] h R:=wq Tryz.func167 (by kernel_rfl) H
theorem w168 {a h R} (H:Qge 314 a h R):FnS prog 168 #[a] h R:=wq Tryz.func168 (by kernel_rfl) H
theorem w171 {a b h R} (H:Qeq 315 6 a b h R):FnS prog 171 #[a,b] h R:=wq Tryz.func171 (by kernel_rfl) H
theorem w172 {a b h R} (H:Qeq 315 8 a b h R):FnS prog 172 #[a,b] h R:=wq Tryz.func172 (by kernel_rfl) H
theorem w173 {a b h R} (H:Qeq 316 16 a b h R):FnS prog 173 #[a,b] h R:=wq Tryz.func173 (by kernel_rfl) H
theorem w174 {a b h R} (H:Qeq 317 34 a b h R):FnS prog 174 #[a,b] h R:=wq Tryz.func174 (by kernel_rfl) H
theorem w175 {a b h R} (H:Qeq 318 36 a b h R):FnS prog 175 #[a,b] h R:=wq Tryz.func175 (by kernel_rfl) H
theorem w176 {a b h R} (H:Qeq 319 38 a b h R):FnS prog 176 #[a,b] h R:=wq Tryz.func176 (by kernel_rfl) H
theorem w177 {a b h R} (H:Qeq 320 40 a b h R):FnS prog 177 #[a,b] h R:=wq Tryz.func177 (by kernel_rfl) H
theorem w178 {a b h R} (H:Qeq 321 42 a b h R):FnS prog 178 #[a,b] h R:=wq Tryz.func178 (by kernel_rfl) H
theorem w179 {a b h R} (H:Qeq 318 44 a b h R):FnS prog 179 #[a,b] h R:=wq Tryz.func179 (by kernel_rfl) H
theorem w180 {a b h R} (H:Qeq 319 46 a b h R):FnS prog 180 #[a,b] h R:=wq Tryz.func180 (by kernel_rfl) H
theorem w181 {a b h R} (H:Qeq 320 48 a b h R):FnS prog 181 #[a,b] h R:=wq Tryz.func181 (by kernel_rfl) H
theorem w182 {a b h R} (H:Qeq 321 50 a b h R):FnS prog 182 #[a,b] h R:=wq Tryz.func182 (by kernel_rfl) H
theorem w183 {a b h R} (H:Qeq 322 54 a b h R):FnS prog 183 #[a,b] h R:=wq Tryz.func183 (by kernel_rfl) H
theorem w184 {a b h R} (H:Qeq 322 56 a b h R):FnS prog 184 #[a,b] h R:=wq Tryz.func184 (by kernel_rfl) H
theorem w185 {a b h R} (H:Qeq 322 58 a b h R):FnS prog 185 #[a,b] h R:=wq Tryz.func185 (by kernel_rfl) H
theorem w186 {a b h R} (H:Qeq 321 76 a b h R):FnS prog 186 #[a,b] h R:=wq Tryz.func186 (by kernel_rfl) H
theorem w187 {a b h R} (H:Qeq 321 82 a b h R):FnS prog 187 #[a,b] h R:=wq Tryz.func187 (by kernel_rfl) H
theorem w188 {a b h R} (H:Qeq 321 86 a b h R):FnS prog 188 #[a,b] h R:=wq Tryz.func188 (by kernel_rfl) H
theorem w189 {a b h R} (H:Qeq 323 100 a b h R):FnS prog 189 #[a,b] h R:=wq Tryz.func189 (by kernel_rfl) H
theorem w191 {a b c h R} (H:tp191 a b c h R):FnS prog 191 #[a,b,c] h R:=wq Tryz.func191 (by kernel_rfl) H
theorem w192 {a h R} (H:Qe9 6 326 .i16 150 a h R):FnS prog 192 #[a] h R:=wq Tryz.func192 (by kernel_rfl) H
theorem w193 {a h R} (H:Qe9 8 326 .i16 100 a h R):FnS prog 193 #[a] h R:=wq Tryz.func193 (by kernel_rfl) H
theorem w194 {a h R} (H:tp194 10 a h R):FnS prog 194 #[a] h R:=wq Tryz.func194 (by kernel_rfl) H
theorem w195 {a h R} (H:Qe9 16 328 .u8 8 a h R):FnS prog 195 #[a] h R:=wq Tryz.func195 (by kernel_rfl) H
def s196 (a:Value) (h:Qf) (R:Kn):Prop:=
 Q6 a fun d=>
 Qh d 0 fun e=>
 Qb prog 325 #[e,(.int .u16 34)] h fun f b=>
 QX .u32 f fun c=>
 Qp prog .neq 72 c (.int .u32 0) fun g=>
 IfK g
 (Q6 a fun i=>
 Qh i 0 fun j=>
 Q6 a fun l=>
 Qh l 0 fun m=>
 Qh m 1 fun o=>
 LdK b o fun p=>
 Qp prog .add 72 c p fun q=>
 Qb prog 329 #[j,q] b fun r s=>
 R r s)
 (R (.bool false) b)
theorem w196 {a h R} (H:s196 a h R):FnS prog 196 #[a] h R:=wq Tryz.func196 (by kernel_rfl) H
theorem w197 {a h R} (H:Qe9 36 330 .i32 0 a h R):FnS prog 197 #[a] h R:=wq Tryz.func197 (by kernel_rfl) H
theorem w198 {a h R} (H:Qe9 38 331 .u32 0 a h R):FnS prog 198 #[a] h R:=wq Tryz.func198 (by kernel_rfl) H
theorem w199 {a h R} (H:Qe9 40 332 .i64 0 a h R):FnS prog 199 #[a] h R:=wq Tryz.func199 (by kernel_rfl) H
theorem w200 {a h R} (H:Qe9 42 333 .u64 0 a h R):FnS prog 200 #[a] h R:=wq Tryz.func200 (by kernel_rfl) H
theorem w201 {a h R} (H:Qe9 44 330 .i32 0 a h R):FnS prog 201 #[a] h R:=wq Tryz.func201 (by kernel_rfl) H
theorem w202 {a h R} (H:Qe9 46 331 .u32 0 a h R):FnS prog 202 #[a] h R:=wq Tryz.func202 (by kernel_rfl) H
theorem w203 {a h R} (H:Qe9 48 332 .i64 0 a h R):FnS prog 203 #[a] h R:=wq Tryz.func203 (by kernel_rfl) H
theorem w204 {a h R} (H:Qe9 50 333 .u64 0 a h R):FnS prog 204 #[a] h R:=wq Tryz.func204 (by kernel_rfl) H
def s206 (a:Value) (h:Qf) (R:Kn):Prop:=
 Q6 a fun d=>
 Qh d 0 fun e=>
 Qb prog 325 #[e,(.int .u16 54)] h fun f b=>
 QX .u32 f fun c=>
 Qp prog .neq 72 c (.int .u32 0) fun g=>
 IfK g
 (Q6 a fun i=>
 Qh i 0 fun j=>
 Q6 a fun l=>
 Qh l 0 fun m=>
 Qh m 1 fun o=>
 LdK b o fun p=>
 Qp prog .add 72 c p fun q=>
 Qb prog 334 #[j,q] b fun r s=>
 R r s)
 (R (.float .f32 1078530000) b)
theorem w206 {a h R} (H:s206 a h R):FnS prog 206 #[a] h R:=wq Tryz.func206 (by kernel_rfl) H
def s207 (a:Value) (h:Qf) (R:Kn):Prop:=
 Q6 a fun d=>
 Qh d 0 fun e=>
 Qb prog 325 #[e,(.int .u16 56)] h fun f b=>
 QX .u32 f fun c=>
 Qp prog .neq 72 c (.int .u32 0) fun g=>
 IfK g
 (Q6 a fun i=>
 Qh i 0 fun j=>
 Q6 a fun l=>
 Qh l 0 fun m=>
 Qh m 1 fun o=>
 LdK b o fun p=>
 Qp prog .add 72 c p fun q=>
 Qb prog 334 #[j,q] b fun r s=>
 R r s)
 (R (.float .f32 1077936128) b)
theorem w207 {a h R} (H:s207 a h R):FnS prog 207 #[a] h R:=wq Tryz.func207 (by kernel_rfl) H
def s208 (a:Value) (h:Qf) (R:Kn):Prop:=
 Q6 a fun d=>
 Qh d 0 fun e=>
 Qb prog 325 #[e,(.int .u16 58)] h fun f b=>
 QX .u32 f fun c=>
 Qp prog .neq 72 c (.int .u32 0) fun g=>
 IfK g
 (Q6 a fun i=>
 Qh i 0 fun j=>
 Q6 a fun l=>
 Qh l 0 fun m=>
 Qh m 1 fun o=>
 LdK b o fun p=>
 Qp prog .add 72 c p fun q=>
 Qb prog 334 #[j,q] b fun r s=>
 R r s)
 (R (.float .f32 0) b)
theorem w208 {a h R} (H:s208 a h R):FnS prog 208 #[a] h R:=wq Tryz.func208 (by kernel_rfl) H
theorem w209 {a b h R} (H:tp209 72 231 z315 315 336 a b h R):FnS prog 209 #[a,b] h R:=wq Tryz.func209 (by kernel_rfl) H
theorem w210 {a h R} (H:Qe9 76 333 .u64 0 a h R):FnS prog 210 #[a] h R:=wq Tryz.func210 (by kernel_rfl) H
theorem w211 {a h R} (H:Qe9 82 333 .u64 0 a h R):FnS prog 211 #[a] h R:=wq Tryz.func211 (by kernel_rfl) H
theorem w212 {a h R} (H:Qe9 86 333 .u64 0 a h R):FnS prog 212 #[a] h R:=wq Tryz.func212 (by kernel_rfl) H
theorem w213 {a h R} (H:Qe9 100 337 .i8 (-1) a h R):FnS prog 213 #[a] h R:=wq Tryz.func213 (by kernel_rfl) H
def s214 (c f:Value) (h:Qf) (R:Kn):Prop:=
 Q6 c fun i=>
 Qh i 0 fun j=>
 Qb prog 325 #[j,(.int .u16 4)] h fun l a=>
 QX .u32 l fun g=>
 Qp prog .neq 72 g (.int .u32 0) fun m=>
 IfK m
 (Q6 c fun o=>
 Qh o 0 fun p=>
 Qh p 1 fun q=>
 LdK a q fun r=>
 Qp prog .add 72 g r fun s=>
 QN (fun b=>
 Qp prog .eql 234 f (.pointer none) fun t=>
 IfK t
 (Zb a (.cells z317 317) fun u v=>
 b [u] v)
 (b [f] a)) fun b=>∀d:Value,∀e:Qf,b [d] e->
 Q6 c fun w=>
 Qh w 0 fun y=>
 Qh y 0 fun z=>
 LdK e z fun a0=>
 Qb prog 338 #[d,a0,s] e fun _x31 a1=>
 R d a1)
 (R (.pointer none) a)
theorem w214 {a b h R} (H:s214 a b h R):FnS prog 214 #[a,b] h R:=wq Tryz.func214 (by kernel_rfl) H
def s215 (d e:Value) (h:Qf) (R:Kn):Prop:=
 QN (fun a=>
 Qp prog .eql 236 e (.pointer none) fun f=>
 IfK f
 (Zb h (.cells z246 246) fun g i=>
 a [g] i)
 (a [e] h)) fun a=>∀c:Value,∀b:Qf,a [c] b->
 Q6 d fun j=>
 Qh j 0 fun l=>
 Qh l 0 fun m=>
 Qh m 0 fun o=>
 LdK b o fun p=>
 Q6 d fun q=>
 Qh q 0 fun r=>
 Qh r 0 fun s=>
 Qh s 1 fun t=>
 LdK b t fun u=>
 Qp prog .add 72 u (.int .u32 26) fun v=>
 Qb prog 339 #[c,p,v] b fun _x22 w=>
 R c w
theorem w215 {a b h R} (H:s215 a b h R):FnS prog 215 #[a,b] h R:=wq Tryz.func215 (by kernel_rfl) H
theorem w216 {a h R} (H:tp216 0 334 a h R):FnS prog 216 #[a] h R:=wq Tryz.func216 (by kernel_rfl) H
theorem w217 {a h R} (H:tp216 4 334 a h R):FnS prog 217 #[a] h R:=wq Tryz.func217 (by kernel_rfl) H
theorem w218 {a h R} (H:tp216 8 334 a h R):FnS prog 218 #[a] h R:=wq Tryz.func218 (by kernel_rfl) H
theorem w220 {a h R} (H:tp216 16 340 a h R):FnS prog 220 #[a] h R:=wq Tryz.func220 (by kernel_rfl) H
theorem w221 {a h R} (H:tp216 24 328 a h R):FnS prog 221 #[a] h R:=wq Tryz.func221 (by kernel_rfl) H
theorem w222 {a h R} (H:tp216 0 326 a h R):FnS prog 222 #[a] h R:=wq Tryz.func222 (by kernel_rfl) H
theorem w223 {a h R} (H:tp216 2 337 a h R):FnS prog 223 #[a] h R:=wq Tryz.func223 (by kernel_rfl) H
theorem w224 {a h R} (H:QfP 14 a h R):FnS prog 224 #[a] h R:=wq Tryz.func224 (by kernel_rfl) H
theorem w225 {a b h R} (H:tp225 14 1 328 .u8 a b h R):FnS prog 225 #[a,b] h R:=wq Tryz.func225 (by kernel_rfl) H
theorem w226 {a h R} (H:QfP 22 a h R):FnS prog 226 #[a] h R:=wq Tryz.func226 (by kernel_rfl) H
theorem w227 {a b c h R} (H:tp227 22 4 339 a b c h R):FnS prog 227 #[a,b,c] h R:=wq Tryz.func227 (by kernel_rfl) H
theorem w228 {a h R} (H:QfP 24 a h R):FnS prog 228 #[a] h R:=wq Tryz.func228 (by kernel_rfl) H
theorem w229 {a b h R} (H:tp229 24 a b h R):FnS prog 229 #[a,b] h R:=wq Tryz.func229 (by kernel_rfl) H
theorem w230 {a h R} (H:QfP 26 a h R):FnS prog 230 #[a] h R:=wq Tryz.func230 (by kernel_rfl) H
theorem w231 {a b c h R} (H:tp231 26 191 a b c h R):FnS prog 231 #[a,b,c] h R:=wq Tryz.func231 (by kernel_rfl) H
theorem w232 {a b h R} (H:tp209 28 107 z221 221 191 a b h R):FnS prog 232 #[a,b] h R:=wq Tryz.func232 (by kernel_rfl) H
theorem w233 {a h R} (H:QfP 30 a h R):FnS prog 233 #[a] h R:=wq Tryz.func233 (by kernel_rfl) H
theorem w234 {a b h R} (H:tp225 30 1 328 .u8 a b h R):FnS prog 234 #[a,b] h R:=wq Tryz.func234 (by kernel_rfl) H
theorem w235 {a b h R} (H:tp209 32 251 z320 320 343 a b h R):FnS prog 235 #[a,b] h R:=wq Tryz.func235 (by kernel_rfl) H
theorem w236 {a h R} (H:tp194 4 a h R):FnS prog 236 #[a] h R:=wq Tryz.func236 (by kernel_rfl) H
theorem w237 {a h R} (H:Qe9 6 332 .i64 0 a h R):FnS prog 237 #[a] h R:=wq Tryz.func237 (by kernel_rfl) H
theorem w238 {a h R} (H:Qe9 8 344 .u16 0 a h R):FnS prog 238 #[a] h R:=wq Tryz.func238 (by kernel_rfl) H
theorem w239 {a h R} (H:QfP 52 a h R):FnS prog 239 #[a] h R:=wq Tryz.func239 (by kernel_rfl) H
def s240 (a d:Value) (h:Qf) (R:Kn):Prop:=
 Q6 a fun e=>
 Qh e 0 fun f=>
 Qb prog 325 #[f,(.int .u16 52)] h fun g b=>
 QX .u32 g fun c=>
 Qp prog .neq 72 c (.int .u32 0) fun i=>
 IfK i
 (Q6 a fun j=>
 Qh j 0 fun l=>
 Qb prog 342 #[l,c] b fun m o=>
 Q6 a fun p=>
 Qh p 0 fun q=>
 Qp prog .mul 3 d (.int .i64 1) fun r=>
 QX .u32 r fun s=>
 Qp prog .add 72 m s fun t=>
 Qb prog 329 #[q,t] o fun u v=>
 R u v)
 (R (.bool false) b)
theorem w240 {a b h R} (H:s240 a b h R):FnS prog 240 #[a,b] h R:=wq Tryz.func240 (by kernel_rfl) H
theorem w241 {a h R} (H:QfP 60 a h R):FnS prog 241 #[a] h R:=wq Tryz.func241 (by kernel_rfl) H
theorem w242 {a b h R} (H:tp229 60 a b h R):FnS prog 242 #[a,b] h R:=wq Tryz.func242 (by kernel_rfl) H
theorem w243 {a h R} (H:QfP 62 a h R):FnS prog 243 #[a] h R:=wq Tryz.func243 (by kernel_rfl) H
theorem w244 {a b c h R} (H:tp227 62 8 345 a b c h R):FnS prog 244 #[a,b,c] h R:=wq Tryz.func244 (by kernel_rfl) H
theorem w245 {a h R} (H:tp216 0 331 a h R):FnS prog 245 #[a] h R:=wq Tryz.func245 (by kernel_rfl) H
theorem w246 {a h R} (H:tp216 4 331 a h R):FnS prog 246 #[a] h R:=wq Tryz.func246 (by kernel_rfl) H
theorem w247 {a h R} (H:QfP 64 a h R):FnS prog 247 #[a] h R:=wq Tryz.func247 (by kernel_rfl) H
theorem w248 {a b h R} (H:tp225 64 1 328 .u8 a b h R):FnS prog 248 #[a,b] h R:=wq Tryz.func248 (by kernel_rfl) H
theorem w249 {a h R} (H:QfP 66 a h R):FnS prog 249 #[a] h R:=wq Tryz.func249 (by kernel_rfl) H
theorem w250 {a b c h R} (H:tp227 66 4 339 a b c h R):FnS prog 250 #[a,b,c] h R:=wq Tryz.func250 (by kernel_rfl) H
theorem w251 {a h R} (H:QfP 68 a h R):FnS prog 251 #[a] h R:=wq Tryz.func251 (by kernel_rfl) H
theorem w252 {a b h R} (H:tp225 68 8 332 .i64 a b h R):FnS prog 252 #[a,b] h R:=wq Tryz.func252 (by kernel_rfl) H
theorem w253 {a h R} (H:QfP 70 a h R):FnS prog 253 #[a] h R:=wq Tryz.func253 (by kernel_rfl) H
def s254 (a d:Value) (h:Qf) (R:Kn):Prop:=
 Q6 a fun e=>
 Qh e 0 fun f=>
 Qb prog 325 #[f,(.int .u16 70)] h fun g b=>
 QX .u32 g fun c=>
 Qp prog .neq 72 c (.int .u32 0) fun i=>
 IfK i
 (Q6 a fun j=>
 Qh j 0 fun l=>
 Qb prog 342 #[l,c] b fun m o=>
 Q6 a fun p=>
 Qh p 0 fun q=>
 Qp prog .mul 3 d (.int .i64 8) fun r=>
 QX .u32 r fun s=>
 Qp prog .add 72 m s fun t=>
 Qb prog 340 #[q,t] o fun u v=>
 R u v)
 (R (.float .f64 0) b)
theorem w254 {a b h R} (H:s254 a b h R):FnS prog 254 #[a,b] h R:=wq Tryz.func254 (by kernel_rfl) H
theorem w255 {a h R} (H:QfP 74 a h R):FnS prog 255 #[a] h R:=wq Tryz.func255 (by kernel_rfl) H
theorem w256 {a b c h R} (H:tp231 74 346 a b c h R):FnS prog 256 #[a,b,c] h R:=wq Tryz.func256 (by kernel_rfl) H
theorem w257 {a h R} (H:Qe9 4 333 .u64 0 a h R):FnS prog 257 #[a] h R:=wq Tryz.func257 (by kernel_rfl) H
theorem w258 {a h R} (H:QfP 78 a h R):FnS prog 258 #[a] h R:=wq Tryz.func258 (by kernel_rfl) H
theorem w259 {a b h R} (H:tp225 78 8 333 .u64 a b h R):FnS prog 259 #[a,b] h R:=wq Tryz.func259 (by kernel_rfl) H
theorem w260 {a h R} (H:QfP 80 a h R):FnS prog 260 #[a] h R:=wq Tryz.func260 (by kernel_rfl) H
theorem w261 {a b c h R} (H:tp231 80 346 a b c h R):FnS prog 261 #[a,b,c] h R:=wq Tryz.func261 (by kernel_rfl) H
theorem w262 {a h R} (H:QfP 84 a h R):FnS prog 262 #[a] h R:=wq Tryz.func262 (by kernel_rfl) H
theorem w263 {a b h R} (H:tp225 84 8 333 .u64 a b h R):FnS prog 263 #[a,b] h R:=wq Tryz.func263 (by kernel_rfl) H
theorem w264 {a h R} (H:QfP 88 a h R):FnS prog 264 #[a] h R:=wq Tryz.func264 (by kernel_rfl) H
theorem w265 {a b h R} (H:tp225 88 8 333 .u64 a b h R):FnS prog 265 #[a,b] h R:=wq Tryz.func265 (by kernel_rfl) H
theorem w266 {a b h R} (H:tp266 20 a b h R):FnS prog 266 #[a,b] h R:=wq Tryz.func266 (by kernel_rfl) H
theorem w268 {a h R} (H:Qe9 18 328 .u8 0 a h R):FnS prog 268 #[a] h R:=wq Tryz.func268 (by kernel_rfl) H
theorem w269 {a b h R} (H:tp266 92 a b h R):FnS prog 269 #[a,b] h R:=wq Tryz.func269 (by kernel_rfl) H
theorem w270 {a h R} (H:Qe9 90 328 .u8 0 a h R):FnS prog 270 #[a] h R:=wq Tryz.func270 (by kernel_rfl) H
theorem w271 {a h R} (H:Qe9 94 328 .u8 0 a h R):FnS prog 271 #[a] h R:=wq Tryz.func271 (by kernel_rfl) H
theorem w272 {a b h R} (H:tp266 96 a b h R):FnS prog 272 #[a,b] h R:=wq Tryz.func272 (by kernel_rfl) H
theorem w273 {a h R} (H:QfP 98 a h R):FnS prog 273 #[a] h R:=wq Tryz.func273 (by kernel_rfl) H
theorem w274 {a b h R} (H:tp225 98 1 328 .u8 a b h R):FnS prog 274 #[a,b] h R:=wq Tryz.func274 (by kernel_rfl) H
def s284 (a b c:Value) (h:Qf) (R:Kn):Prop:=
 Qb prog 74 #[a,(.int .i64 2),(.int .i64 4)] h fun _x8 d=>
 Qb prog 277 #[a,(.int .i64 1)] d fun _x10 e=>
 Qb prog 358 #[a,c] e fun _x13 f=>
 Qb prog 359 #[a,b] f fun _x16 g=>
 Qb prog 278 #[a] g fun i j=>
 R i j
theorem w284 {a b c h R} (H:s284 a b c h R):FnS prog 284 #[a,b,c] h R:=wq Tryz.func284 (by kernel_rfl) H
theorem w286 {a h R} (H:tp118 3 a h R):FnS prog 286 #[a] h R:=wq Tryz.func286 (by kernel_rfl) H
theorem w287 {a b h R} (H:Yq 305 0 .u32 0 a b h R):FnS prog 287 #[a,b] h R:=wq Tryz.func287 (by kernel_rfl) H
theorem w288 {a b h R} (H:Yq 310 1 .i64 0 a b h R):FnS prog 288 #[a,b] h R:=wq Tryz.func288 (by kernel_rfl) H
theorem w289 {a b h R} (H:Yq 360 2 .u16 0 a b h R):FnS prog 289 #[a,b] h R:=wq Tryz.func289 (by kernel_rfl) H
theorem w290 {a h R} (H:Qge 314 a h R):FnS prog 290 #[a] h R:=wq Tryz.func290 (by kernel_rfl) H
def s292 (a b c:Value) (h:Qf) (R:Kn):Prop:=
 Qb prog 74 #[a,(.int .i64 4),(.int .i64 8)] h fun _x8 d=>
 Qb prog 362 #[a,c] d fun _x11 e=>
 Qb prog 362 #[a,b] e fun _x14 f=>
 Qb prog 278 #[a] f fun g i=>
 R g i
theorem w292 {a b c h R} (H:s292 a b c h R):FnS prog 292 #[a,b,c] h R:=wq Tryz.func292 (by kernel_rfl) H
theorem w295 {a h R} (H:tp118 0 a h R):FnS prog 295 #[a] h R:=wq Tryz.func295 (by kernel_rfl) H
theorem w296 {a h R} (H:Qge 314 a h R):FnS prog 296 #[a] h R:=wq Tryz.func296 (by kernel_rfl) H
theorem w297 {a h R} (H:tp118 1 a h R):FnS prog 297 #[a] h R:=wq Tryz.func297 (by kernel_rfl) H
theorem w298 {a b h R} (H:Yq 311 0 .u64 0 a b h R):FnS prog 298 #[a,b] h R:=wq Tryz.func298 (by kernel_rfl) H
theorem w299 {a h R} (H:Qge 314 a h R):FnS prog 299 #[a] h R:=wq Tryz.func299 (by kernel_rfl) H
def s302 (a b c d e f g i:Value) (h:Qf) (R:Kn):Prop:=
 Qb prog 74 #[a,(.int .i64 8),(.int .i64 32)] h fun _x18 j=>
 Qb prog 277 #[a,(.int .i64 2)] j fun _x20 l=>
 Qb prog 74 #[a,(.int .i64 2),(.int .i64 4)] l fun _x22 m=>
 Qb prog 277 #[a,(.int .i64 1)] m fun _x24 o=>
 Qb prog 358 #[a,i] o fun _x27 p=>
 Qb prog 359 #[a,g] p fun _x30 q=>
 Qb prog 277 #[a,(.int .i64 1)] q fun _x32 r=>
 Qb prog 117 #[a,f] r fun _x35 s=>
 Qb prog 105 #[a,e] s fun _x38 t=>
 Qb prog 277 #[a,(.int .i64 4)] t fun _x40 u=>
 Qb prog 366 #[a,d] u fun _x43 v=>
 Qb prog 366 #[a,c] v fun _x46 w=>
 Qb prog 366 #[a,b] w fun _x49 y=>
 Qb prog 278 #[a] y fun z a0=>
 R z a0
theorem w302 {a b c d e f g i h R} (H:s302 a b c d e f g i h R):FnS prog 302 #[a,b,c,d,e,f,g,i] h R:=wq Tryz.func302 (by kernel_rfl) H
theorem w336 {a b c h R} (H:tp191 a b c h R):FnS prog 336 #[a,b,c] h R:=wq Tryz.func336 (by kernel_rfl) H
theorem w338 {a b c h R} (H:tp338 a b c h R):FnS prog 338 #[a,b,c] h R:=wq Tryz.func338 (by kernel_rfl) H
theorem w339 {a b c h R} (H:tp338 a b c h R):FnS prog 339 #[a,b,c] h R:=wq Tryz.func339 (by kernel_rfl) H
theorem w343 {a b c h R} (H:tp191 a b c h R):FnS prog 343 #[a,b,c] h R:=wq Tryz.func343 (by kernel_rfl) H
theorem w345 {a b c h R} (H:tp338 a b c h R):FnS prog 345 #[a,b,c] h R:=wq Tryz.func345 (by kernel_rfl) H
theorem w346 {a b c h R} (H:tp191 a b c h R):FnS prog 346 #[a,b,c] h R:=wq Tryz.func346 (by kernel_rfl) H
theorem w348 {a b c h R} (H:tp191 a b c h R):FnS prog 348 #[a,b,c] h R:=wq Tryz.func348 (by kernel_rfl) H
theorem w349 {a h R} (H:Qe9 4 328 .u8 2 a h R):FnS prog 349 #[a] h R:=wq Tryz.func349 (by kernel_rfl) H
theorem w353 {a h R} (H:tp118 1 a h R):FnS prog 353 #[a] h R:=wq Tryz.func353 (by kernel_rfl) H
theorem w354 {a b h R} (H:Yq 306 0 .u8 2 a b h R):FnS prog 354 #[a,b] h R:=wq Tryz.func354 (by kernel_rfl) H
theorem w355 {a h R} (H:Qge 314 a h R):FnS prog 355 #[a] h R:=wq Tryz.func355 (by kernel_rfl) H
theorem w356 {a h R} (H:tp118 0 a h R):FnS prog 356 #[a] h R:=wq Tryz.func356 (by kernel_rfl) H
theorem w357 {a h R} (H:Qge 314 a h R):FnS prog 357 #[a] h R:=wq Tryz.func357 (by kernel_rfl) H
end Go.Proofs
namespace Go.Proofs
open Go Go.Vc
open Tryz (prog)
theorem SlcB {k:Value->Prop} {κ:IntKind} {b n m:Nat} {x:Int} (hx:x=m) (hm:m<n):
  QfG 1 (bsl b 0 n n) (some (.int κ x)) none k=k (bsl b m (n-m) (n-m)):=by
 subst hx
 rw[bsl,SlcK_lo (by omega) (by omega) (Nat.le_refl n)]
 have:¬n=m:=by omega
 simp[this]
structure Tab (H:Qf) (p B:Nat) (bs:List UInt8) (pos:Nat):Prop where
 c0:QaS H ⟨p,0,none⟩=some (bsl B 0 bs.length bs.length)
 c1:QaS H ⟨p,1,none⟩=some (.int .u32 pos)
 u8:U8s H B 0 bs
 lt:bs.length<2147483648
 le:pos<=bs.length
theorem Qir {H H':Qf} (hx:ExtC H H') {b o:Nat} {bs:List UInt8} (h:U8s H b o bs):U8s H' b o bs:=fun i hi=>hx _ _ (h i hi)
theorem Tab.ext {H H':Qf} (hx:ExtC H H') {p B:Nat} {bs:List UInt8} {pos:Nat} (h:Tab H p B bs pos):Tab H' p B bs pos:=
 ⟨hx _ _ h.c0,hx _ _ h.c1,Qir hx h.u8,h.lt,h.le⟩
def leN (k:Nat) (bs:List UInt8) (o:Nat):Nat:=match k with|1=>byteN bs o|2=>le2 bs o|4=>le4 bs o|_=>le8 bs o
structure VT (bs:List UInt8) (pos vt:Nat):Prop where
 hp:pos+4<=bs.length
 hs:(pos:Int)-IntKind.i32.wrap (le4 bs pos)=vt
 he:vt+le2 bs vt<=bs.length
 h4:4<=le2 bs vt
 ev:le2 bs vt%2=0
def slotAt (bs:List UInt8) (vt vo:Nat):Nat:=if vo<le2 bs vt then le2 bs (vt+vo) else 0
theorem slotAt_lt (bs:List UInt8) (vt vo:Nat):slotAt bs vt vo<65536:=by
 unfold slotAt;split
 ·exact le2_lt _ _
 ·omega
section
variable {H:Qf} {p B:Nat} {bs:List UInt8} {pos:Nat} (ht:Tab H p B bs pos) {R:Kn}
include ht
theorem Qgb {vt vo:Nat} (hv:VT bs pos vt) (he:vo%2=0) (hR:R (.int .u16 (slotAt bs vt vo)) H):
  FnS prog 325 #[.pointer (some ⟨p,0,none⟩),.int .u16 vo] H R:=by
 have:=ht.lt;have:=hv.hp;have h4:=hv.h4;have hee:=hv.he;have hev:=hv.ev
 have e1:IntKind.i32.wrap (pos:Int)=pos:=Za (by omega) (by omega)
 have e3:IntKind.u32.wrap (IntKind.i32.wrap ((pos:Int)-IntKind.i32.wrap (le4 bs pos)))=(vt:Int):=by
  rw[hv.hs,Za (by omega) (by omega),QT (by omega) (by omega)]
 apply w325
 unfold s325
 simp only[↓Qu,↓Qo,↓Qj ht.c1,↓Q1,e1]
 apply w379
 unfold Qcj
 simp only[↓Qu,↓Qo,↓Qj ht.c0,↓SlcB (n:=bs.length) (m:=pos) rfl (by omega)]
 refine go_GetSOffsetT ht.u8 (by omega) (by omega) ?_
 rw[Qa]
 simp only[↓Yk,↓Q1,e3]
 apply w380
 unfold Qcj
 simp only[↓Qu,↓Qo,↓Qj ht.c0,↓SlcB (n:=bs.length) (m:=vt) rfl (by omega)]
 refine Qda ht.u8 (by omega) (by omega) ?_
 simp only[↓Y9]
 unfold slotAt at hR
 by_cases hlt:vo<le2 bs vt
 ·rw[Yd (by omega)]
  rw[if_pos hlt]at hR
  have h16:=le2_lt bs vt
  have e4:IntKind.u32.wrap (vo:Int)=vo:=QT (by omega) (by omega)
  have e5:IntKind.u32.wrap ((vt:Int)+vo)=((vt+vo:Nat):Int):=by rw[QT (by omega) (by omega)];omega
  simp only[↓Q1,↓QE,e4,e5]
  apply w380
  unfold Qcj
  simp only[↓Qu,↓Qo,↓Qj ht.c0,↓SlcB (n:=bs.length) (m:=vt+vo) rfl (by omega)]
  exact Qda ht.u8 (by omega) (by omega) hR
 ·rw[QL (by omega)]
  rw[if_neg hlt]at hR
  exact hR
theorem Qd4 {o:Nat} {x:Int} (hx:x=(o:Nat)) (hl:o+2<=bs.length) (hR:R (.int .i16 (IntKind.i16.wrap (le2 bs o:Int))) H):
  FnS prog 326 #[.pointer (some ⟨p,0,none⟩),.int .u32 x] H R:=by
 have:=ht.lt
 subst hx
 apply w326
 unfold Qcj
 simp only[↓Qu,↓Qo,↓Qj ht.c0,↓SlcB (n:=bs.length) (m:=o) rfl (by omega)]
 exact go_GetInt16 ht.u8 (by omega) (by omega) hR
theorem YU {o:Nat} {x:Int} (hx:x=(o:Nat)) (hl:o+1<=bs.length) (hR:R (.int .u8 (byteN bs o:Int)) H):
  FnS prog 328 #[.pointer (some ⟨p,0,none⟩),.int .u32 x] H R:=by
 have:=ht.lt
 subst hx
 apply w328
 unfold Qcj
 simp only[↓Qu,↓Qo,↓Qj ht.c0,↓SlcB (n:=bs.length) (m:=o) rfl (by omega)]
 exact go_GetByte ht.u8 (by omega) (by omega) hR
theorem Qfy {o:Nat} {x:Int} (hx:x=(o:Nat)) (hl:o+1<=bs.length) (hR:R (.bool (decide ((byteN bs o:Int)=1))) H):
  FnS prog 329 #[.pointer (some ⟨p,0,none⟩),.int .u32 x] H R:=by
 have:=ht.lt
 subst hx
 apply w329
 unfold Qcj
 simp only[↓Qu,↓Qo,↓Qj ht.c0,↓SlcB (n:=bs.length) (m:=o) rfl (by omega)]
 exact go_GetBool ht.u8 (by omega) (by omega) hR
theorem QeM {o:Nat} {x:Int} (hx:x=(o:Nat)) (hl:o+4<=bs.length) (hR:R (.int .i32 (IntKind.i32.wrap (le4 bs o:Int))) H):
  FnS prog 330 #[.pointer (some ⟨p,0,none⟩),.int .u32 x] H R:=by
 have:=ht.lt
 subst hx
 apply w330
 unfold Qcj
 simp only[↓Qu,↓Qo,↓Qj ht.c0,↓SlcB (n:=bs.length) (m:=o) rfl (by omega)]
 exact Qhd ht.u8 (by omega) (by omega) hR
theorem QaR {o:Nat} {x:Int} (hx:x=(o:Nat)) (hl:o+4<=bs.length) (hR:R (.int .u32 (le4 bs o:Int)) H):
  FnS prog 331 #[.pointer (some ⟨p,0,none⟩),.int .u32 x] H R:=by
 have:=ht.lt
 subst hx
 apply w331
 unfold Qcj
 simp only[↓Qu,↓Qo,↓Qj ht.c0,↓SlcB (n:=bs.length) (m:=o) rfl (by omega)]
 exact QiQ ht.u8 (by omega) (by omega) hR
theorem Qbk {o:Nat} {x:Int} (hx:x=(o:Nat)) (hl:o+8<=bs.length) (hR:R (.int .i64 (IntKind.i64.wrap (le8 bs o:Int))) H):
  FnS prog 332 #[.pointer (some ⟨p,0,none⟩),.int .u32 x] H R:=by
 have:=ht.lt
 subst hx
 apply w332
 unfold Qcj
 simp only[↓Qu,↓Qo,↓Qj ht.c0,↓SlcB (n:=bs.length) (m:=o) rfl (by omega)]
 exact go_GetInt64 ht.u8 (by omega) (by omega) hR
theorem YP {o:Nat} {x:Int} (hx:x=(o:Nat)) (hl:o+8<=bs.length) (hR:R (.int .u64 (le8 bs o:Int)) H):
  FnS prog 333 #[.pointer (some ⟨p,0,none⟩),.int .u32 x] H R:=by
 have:=ht.lt
 subst hx
 apply w333
 unfold Qcj
 simp only[↓Qu,↓Qo,↓Qj ht.c0,↓SlcB (n:=bs.length) (m:=o) rfl (by omega)]
 exact QiV ht.u8 (by omega) (by omega) hR
theorem Z1 {o:Nat} {x:Int} (hx:x=(o:Nat)) (hl:o+4<=bs.length) (hR:R (.float .f32 (le4 bs o)) H):
  FnS prog 334 #[.pointer (some ⟨p,0,none⟩),.int .u32 x] H R:=by
 have:=ht.lt
 subst hx
 apply w334
 unfold Qcj
 simp only[↓Qu,↓Qo,↓Qj ht.c0,↓SlcB (n:=bs.length) (m:=o) rfl (by omega)]
 exact go_GetFloat32 ht.u8 (by omega) (by omega) hR
theorem Qfz {o:Nat} {x:Int} (hx:x=(o:Nat)) (hl:o+1<=bs.length) (hR:R (.int .i8 (IntKind.i8.wrap (byteN bs o:Int))) H):
  FnS prog 337 #[.pointer (some ⟨p,0,none⟩),.int .u32 x] H R:=by
 have:=ht.lt
 subst hx
 apply w337
 unfold Qcj
 simp only[↓Qu,↓Qo,↓Qj ht.c0,↓SlcB (n:=bs.length) (m:=o) rfl (by omega)]
 exact go_GetInt8 ht.u8 (by omega) (by omega) hR
theorem QdK {o:Nat} {x:Int} (hx:x=(o:Nat)) (hl:o+8<=bs.length) (hR:R (.float .f64 (le8 bs o)) H):
  FnS prog 340 #[.pointer (some ⟨p,0,none⟩),.int .u32 x] H R:=by
 have:=ht.lt
 subst hx
 apply w340
 unfold Qcj
 simp only[↓Qu,↓Qo,↓Qj ht.c0,↓SlcB (n:=bs.length) (m:=o) rfl (by omega)]
 exact go_GetFloat64 ht.u8 (by omega) (by omega) hR
theorem QhC {o:Nat} {x:Int} (hx:x=(o:Nat)) (hl:o+2<=bs.length) (hR:R (.int .u16 (le2 bs o:Int)) H):
  FnS prog 344 #[.pointer (some ⟨p,0,none⟩),.int .u32 x] H R:=by
 have:=ht.lt
 subst hx
 apply w344
 unfold Qcj
 simp only[↓Qu,↓Qo,↓Qj ht.c0,↓SlcB (n:=bs.length) (m:=o) rfl (by omega)]
 exact QiK ht.u8 (by omega) (by omega) hR
theorem QgU {o:Nat} {x:Int} (hx:x=(o:Nat)) (hl:o+4<=bs.length) (hR:R (.int .u32 (le4 bs o:Int)) H):
  FnS prog 391 #[.pointer (some ⟨p,0,none⟩),.int .u32 x] H R:=by
 have:=ht.lt
 subst hx
 apply w391
 unfold Qcj
 simp only[↓Qu,↓Qo,↓Qj ht.c0,↓SlcB (n:=bs.length) (m:=o) rfl (by omega)]
 exact ZN ht.u8 (by omega) (by omega) hR
def tgt (bs:List UInt8) (o:Nat):Nat:=o+le4 bs o
theorem Qbe {o:Nat} {x:Int} (hx:x=(o:Nat)) (hl:o+4<=bs.length) (h2:tgt bs o<=bs.length) (hR:R (.int .u32 (tgt bs o:Nat)) H):
  FnS prog 335 #[.pointer (some ⟨p,0,none⟩),.int .u32 x] H R:=by
 have:=ht.lt
 subst hx
 unfold tgt at h2 hR
 apply w335
 unfold s335
 simp only[↓Qu,↓Qo,↓Qj ht.c0,↓SlcB (n:=bs.length) (m:=o) rfl (by omega)]
 refine ZN ht.u8 (by omega) (by omega) ?_
 rw[QE,QT (by omega) (by omega)]
 rw[show (o:Int)+(le4 bs o:Int)=((o+le4 bs o:Nat):Int) by omega]
 exact hR
theorem QdM {o n:Nat} {x:Int} (hx:x=(o:Nat)) (hl:o+4<=bs.length) (hn:le4 bs (tgt bs o)=n) (h2:tgt bs o+4+n<=bs.length) (h3:tgt bs o+4<bs.length)
  (hR:R (bsl B (tgt bs o+4) n (bs.length-(tgt bs o+4))) H):
  FnS prog 327 #[.pointer (some ⟨p,0,none⟩),.int .u32 x] H R:=by
 have:=ht.lt
 subst hx
 apply w327
 unfold s327
 simp only[↓Qu,↓Qo,↓Qj ht.c0,↓SlcB (n:=bs.length) (m:=o) rfl (by omega)]
 refine ZN ht.u8 (by omega) (by omega) ?_
 have e1:IntKind.u32.wrap ((o:Int)+(le4 bs o:Int))=(tgt bs o:Nat):=by unfold tgt at h2⊢;rw[QT (by omega) (by omega)];omega
 have e2:IntKind.u32.wrap (((tgt bs o:Nat):Int)+4)=((tgt bs o+4:Nat):Int):=by rw[QT (by omega) (by omega)];omega
 simp only[↓QE,e1,e2,↓Qu,↓Qo,↓Qj ht.c0,↓SlcB (n:=bs.length) (m:=tgt bs o) rfl (by omega)]
 refine ZN ht.u8 (by omega) (by omega) ?_
 have e3:IntKind.u32.wrap (((tgt bs o+4:Nat):Int)+(le4 bs (tgt bs o):Int))=((tgt bs o+4+n:Nat):Int):=by rw[QT (by omega) (by omega)];omega
 simp only[↓QE,e3,↓Qu,↓Qo,↓Qj ht.c0]
 rw[bsl,Qg6 (by omega) (by omega) (by omega)]
 have e4:¬bs.length=tgt bs o+4:=by omega
 simp only[Int.toNat_natCast,if_neg e4,Nat.zero_add,Nat.mul_one,show tgt bs o+4+n-(tgt bs o+4)=n by omega]
 exact hR
theorem QhW {o:Nat} {x:Int} (hx:x=(o:Nat)) (hl:pos+o+4<=bs.length) (h2:tgt bs (pos+o)+4<=bs.length)
  (hR:R (.int .i64 (le4 bs (tgt bs (pos+o)):Nat)) H):
  FnS prog 341 #[.pointer (some ⟨p,0,none⟩),.int .u32 x] H R:=by
 have:=ht.lt
 subst hx
 apply w341
 unfold s341
 have e0:IntKind.u32.wrap ((o:Int)+pos)=((pos+o:Nat):Int):=by rw[QT (by omega) (by omega)];omega
 simp only[↓Qu,↓Qo,↓Qj ht.c1,↓Qj ht.c0,↓QE,e0,↓SlcB (n:=bs.length) (m:=pos+o) rfl (by omega)]
 refine ZN ht.u8 (by omega) (by omega) ?_
 have e1:IntKind.u32.wrap (((pos+o:Nat):Int)+(le4 bs (pos+o):Int))=(tgt bs (pos+o):Nat):=by unfold tgt at h2⊢;rw[QT (by omega) (by omega)];omega
 simp only[↓QE,e1,↓Qu,↓Qo,↓Qj ht.c0,↓SlcB (n:=bs.length) (m:=tgt bs (pos+o)) rfl (by omega)]
 refine ZN ht.u8 (by omega) (by omega) ?_
 have h4:=le4_lt bs (tgt bs (pos+o))
 rw[Q1,wrap_i64 (by omega) (by omega)]
 exact hR
theorem Qcg {o:Nat} {x:Int} (hx:x=(o:Nat)) (hl:pos+o+4<=bs.length) (h2:tgt bs (pos+o)+4<=bs.length)
  (hR:R (.int .u32 (tgt bs (pos+o)+4:Nat)) H):
  FnS prog 342 #[.pointer (some ⟨p,0,none⟩),.int .u32 x] H R:=by
 have:=ht.lt
 subst hx
 apply w342
 unfold s342
 have e0:IntKind.u32.wrap ((o:Int)+pos)=((pos+o:Nat):Int):=by rw[QT (by omega) (by omega)];omega
 simp only[↓Qu,↓Qo,↓Qj ht.c1,↓Qj ht.c0,↓QE,e0,↓SlcB (n:=bs.length) (m:=pos+o) rfl (by omega)]
 refine ZN ht.u8 (by omega) (by omega) ?_
 have e1:IntKind.u32.wrap (((pos+o:Nat):Int)+(le4 bs (pos+o):Int))=(tgt bs (pos+o):Nat):=by unfold tgt at h2⊢;rw[QT (by omega) (by omega)];omega
 have e2:IntKind.u32.wrap (((tgt bs (pos+o):Nat):Int)+4)=((tgt bs (pos+o)+4:Nat):Int):=by rw[QT (by omega) (by omega)];omega
 simp only[↓QE,e1,e2]
 exact hR
theorem go_Table_Union {o q:Nat} {x:Int} {c:Array Value} {e:TypeId} (hx:x=(o:Nat)) (hl:pos+o+4<=bs.length) (h2:tgt bs (pos+o)<=bs.length) (hq:H[q]?=some (.cells c e (0,0))) (hc:c.size=2) (hpq:q≠p)
  (hR:R (.tuple #[]) (setB H q (.cells #[bsl B 0 bs.length bs.length,.int .u32 (tgt bs (pos+o):Nat)] e (0,0)))):
  FnS prog 347 #[.pointer (some ⟨p,0,none⟩),.pointer (some ⟨q,0,none⟩),.int .u32 x] H R:=by
 have:=ht.lt
 subst hx
 apply w347
 unfold s347
 have e0:IntKind.u32.wrap ((o:Int)+pos)=((pos+o:Nat):Int):=by rw[QT (by omega) (by omega)];omega
 simp only[↓Qu,↓Qo,↓Qj ht.c1,↓QE,e0]
 refine QgU ht (o:=pos+o) rfl (by omega) ?_
 have e1:IntKind.u32.wrap (((pos+o:Nat):Int)+(le4 bs (pos+o):Int))=(tgt bs (pos+o):Nat):=by unfold tgt at h2⊢;rw[QT (by omega) (by omega)];omega
 have c0:=ht.c0
 obtain ⟨x0,x1,rfl⟩:∃x0 x1,c=#[x0,x1]:=by
  obtain ⟨l⟩:=c
  match l,hc with
  |[x0,x1],_=>exact ⟨x0,x1,rfl⟩
 simp only[↓QE,e1,↓Qu,↓Qo,↓QaA (v:=.int .u32 (tgt bs (pos+o):Nat)) hq (by decide:1<2) (by simp) rfl]
 have hq':=QU (o:=.cells (#[x0,x1].setIfInBounds 1 (.int .u32 (tgt bs (pos+o):Nat))) e (0,0)) hq
 have c0':QaS (setB H q (.cells (#[x0,x1].setIfInBounds 1 (.int .u32 (tgt bs (pos+o):Nat))) e (0,0))) ⟨p,0,none⟩=some (bsl B 0 bs.length bs.length):=by
  rw[<-c0];unfold QaS;rw[Qw (Ne.symm hpq)]
 simp only[↓Qj c0',↓QaA (v:=bsl B 0 bs.length bs.length) hq' (by decide:0<2) (by simp) rfl,Qe0]
 exact hR
end
abbrev QfA (f:Nat):Prop:=∀{H:Qf} {R:Kn} {q:Nat} {c:Array Value} {e:TypeId} {x y:Value} (_:H[q]?=some (.cells c e (0,0))) (_:c.size=2) (_:x.oneCell'=true) (_:y.oneCell'=true)
  (_:R (.tuple #[]) (setB H q (.cells #[x,y] e (0,0)))),FnS prog f #[.pointer (some ⟨q,0,none⟩),x,y] H R
def Init1S (x0 x1 x2:Value) (h:Qf) (R:Kn):Prop:=
 Q6 x0 fun x8=>
 Qh x8 0 fun x9=>
 Qh x9 0 fun x10=>
 StK h 1 x10 x1 fun h1=>
 Q6 x0 fun x13=>
 Qh x13 0 fun x14=>
 Qh x14 1 fun x15=>
 StK h1 1 x15 x2 fun h2=>
 R (.tuple #[]) h2
theorem init1S {f:Nat} (hw:∀{x0 x1 x2 h R},Init1S x0 x1 x2 h R->FnS prog f #[x0,x1,x2] h R):QfA f:=by
 intro H R q c e x y hq hc hx hy hR
 obtain ⟨x0,x1,rfl⟩:∃x0 x1,c=#[x0,x1]:=by
  obtain ⟨l⟩:=c
  match l,hc with
  |[x0,x1],_=>exact ⟨x0,x1,rfl⟩
 apply hw
 unfold Init1S
 have hq':=QU (o:=.cells (#[x0,x1].setIfInBounds 0 x) e (0,0)) hq
 simp only[↓Qu,↓Qo,↓QaA hq (by decide:0<2) (by simp) hx,↓QaA hq' (by decide:1<2) (by simp) hy,Qe0]
 exact hR
def Init2S (x0 x1 x2:Value) (h:Qf) (R:Kn):Prop:=
 Q6 x0 fun x8=>
 Qh x8 0 fun x9=>
 Qh x9 0 fun x10=>
 Qh x10 0 fun x11=>
 StK h 1 x11 x1 fun h1=>
 Q6 x0 fun x14=>
 Qh x14 0 fun x15=>
 Qh x15 0 fun x16=>
 Qh x16 1 fun x17=>
 StK h1 1 x17 x2 fun h2=>
 R (.tuple #[]) h2
theorem init2S {f:Nat} (hw:∀{x0 x1 x2 h R},Init2S x0 x1 x2 h R->FnS prog f #[x0,x1,x2] h R):QfA f:=by
 intro H R q c e x y hq hc hx hy hR
 obtain ⟨x0,x1,rfl⟩:∃x0 x1,c=#[x0,x1]:=by
  obtain ⟨l⟩:=c
  match l,hc with
  |[x0,x1],_=>exact ⟨x0,x1,rfl⟩
 apply hw
 unfold Init2S
 have hq':=QU (o:=.cells (#[x0,x1].setIfInBounds 0 x) e (0,0)) hq
 simp only[↓Qu,↓Qo,↓QaA hq (by decide:0<2) (by simp) hx,↓QaA hq' (by decide:1<2) (by simp) hy,Qe0]
 exact hR
theorem ZC:QfA 191:=init1S w191
theorem Qif:QfA 338:=init2S w338
theorem Qd5:QfA 339:=init2S w339
theorem Qin:QfA 343:=init1S w343
theorem QgR:QfA 345:=init2S w345
theorem Qcm:QfA 346:=init1S w346
theorem QbI:QfA 348:=init1S w348
theorem Qdr:QfA 336:=init1S w336
end Go.Proofs
namespace Go.Proofs
open Go Go.Vc
open Tryz (prog)
def Sc (k:Nat) (bs:List UInt8) (pos vt vo d x:Nat):Prop:=
 (slotAt bs vt vo=0/\x=d)\/(slotAt bs vt vo≠0/\pos+slotAt bs vt vo+k<=bs.length/\x=leN k bs (pos+slotAt bs vt vo))
def Qhv (k:Nat) (bs:List UInt8) (pos vt vo n at_:Nat):Prop:=
 (slotAt bs vt vo=0/\n=0)\/
 (slotAt bs vt vo≠0/\pos+slotAt bs vt vo+4<=bs.length/\at_=tgt bs (pos+slotAt bs vt vo)+4/\le4 bs (tgt bs (pos+slotAt bs vt vo))=n/\at_+k*n<=bs.length/\at_<=bs.length)
def StrAt (bs:List UInt8) (o n:Nat):Prop:=o+4<=bs.length/\le4 bs (tgt bs o)=n/\tgt bs o+4+n<bs.length
theorem Zh {H:Qf} {o o':Obj}:setB (H.push o) H.size o'=H.push o':=by
 apply Array.ext_getElem?
 intro j
 simp only[setB,Array.getElem?_setIfInBounds,Array.getElem?_push,Array.size_push]
 by_cases h:H.size=j
 ·subst h;simp
 ·rw[if_neg h]
  by_cases h2:j=H.size
  ·exact absurd h2.symm h
  ·rw[if_neg h2,if_neg h2]
section
variable {H:Qf} {p B:Nat} {bs:List UInt8} {pos:Nat} (ht:Tab H p B bs pos) {R:Kn}
include ht
theorem Tab.push (o:Obj):Tab (H.push o) p B bs pos:=ht.ext (QaC.push H o).ext
theorem Tab.slot_add {vt vo k:Nat} (h:pos+slotAt bs vt vo+k<=bs.length):IntKind.u32.wrap ((slotAt bs vt vo:Int)+pos)=((pos+slotAt bs vt vo:Nat):Int):=by
 have:=ht.lt
 rw[QT (by omega) (by omega)];omega
theorem Tab.add {o k:Nat} (h:pos+o+k<=bs.length):IntKind.u32.wrap ((pos:Int)+(o:Nat))=((pos+o:Nat):Int):=by
 have:=ht.lt
 rw[QT (by omega) (by omega)];omega
theorem Tab.item {a i k m:Nat} (h:a+k*i+m<=bs.length):IntKind.u32.wrap ((a:Int)+IntKind.u32.wrap (IntKind.i64.wrap ((i:Int)*(k:Nat))))=((a+k*i:Nat):Int):=by
 have:=ht.lt
 have e:(i:Int)*(k:Nat)=((k*i:Nat):Int):=by rw[Int.natCast_mul,Int.mul_comm]
 rw[e,wrap_i64 (by omega) (by omega),QT (n:=((k*i:Nat):Int)) (by omega) (by omega),QT (by omega) (by omega)];omega
theorem Tab.item' {a i k m:Nat} (hi:i<2147483648) (h:a+k*i+m<=bs.length):IntKind.u32.wrap ((a:Int)+IntKind.u32.wrap (IntKind.u32.wrap (i:Int)*(k:Nat)))=((a+k*i:Nat):Int):=by
 have:=ht.lt
 rw[QT (n:=(i:Int)) (by omega) (by omega)]
 have e:(i:Int)*(k:Nat)=((k*i:Nat):Int):=by rw[Int.natCast_mul,Int.mul_comm]
 rw[e,QT (n:=((k*i:Nat):Int)) (by omega) (by omega),QT (by omega) (by omega)];omega
theorem slot_u32 {vt vo:Nat}:IntKind.u32.wrap (slotAt bs vt vo:Int)=(slotAt bs vt vo:Int):=by
 have:=slotAt_lt bs vt vo
 exact QT (by omega) (by omega)
end
abbrev vI16 (x:Nat):Value:=.int .i16 (IntKind.i16.wrap (x:Int))
abbrev vU8 (x:Nat):Value:=.int .u8 (x:Int)
abbrev vB (x:Nat):Value:=.bool (decide ((x:Int)=1))
abbrev vI32 (x:Nat):Value:=.int .i32 (IntKind.i32.wrap (x:Int))
abbrev vU32 (x:Nat):Value:=.int .u32 (x:Int)
abbrev vI64 (x:Nat):Value:=.int .i64 (IntKind.i64.wrap (x:Int))
abbrev vU64 (x:Nat):Value:=.int .u64 (x:Int)
abbrev vF32 (x:Nat):Value:=.float .f32 x
abbrev vI8 (x:Nat):Value:=.int .i8 (IntKind.i8.wrap (x:Int))
abbrev vF64 (x:Nat):Value:=.float .f64 x
abbrev vU16 (x:Nat):Value:=.int .u16 (x:Int)
def OffS (vo:Int) (x0:Value) (h:Qf) (A:Kn) (B:Qf->Prop):Prop:=
 Q6 x0 fun x5=>
 Qh x5 0 fun x6=>
 Qb prog 325 #[x6,(.int .u16 vo)] h fun x7 h1=>
 QX .u32 x7 fun x8=>
 Qp prog .neq 72 x8 (.int .u32 0) fun x10=>
 IfK x10 (A x8 h1) (B h1)
theorem offS {H:Qf} {p B:Nat} {bs:List UInt8} {pos:Nat} (ht:Tab H p B bs pos) {vt vo:Nat} (hv:VT bs pos vt) (he:vo%2=0) {A:Kn} {B:Qf->Prop} (h0:slotAt bs vt vo=0->B H)
  (h1:slotAt bs vt vo≠0->A (.int .u32 (slotAt bs vt vo:Int)) H):OffS vo (.pointer (some ⟨p,0,none⟩)) H A B:=by
 have e0:=slot_u32 ht (vt:=vt) (vo:=vo)
 unfold OffS
 simp only[↓Qu,↓Qo]
 refine Qgb ht hv he ?_
 simp only[↓Q1,↓QJ,e0]
 by_cases hz:slotAt bs vt vo=0
 ·rw[QL (by omega)];exact h0 hz
 ·rw[Yd (by omega)];exact h1 hz
abbrev GetOk (g k:Nat) (v:Nat->Value) (le:List UInt8->Nat->Nat):Prop:=∀{H:Qf} {p B:Nat} {bs:List UInt8} {pos:Nat} (_:Tab H p B bs pos) {R:Kn} {o:Nat} {x:Int} (_:x=(o:Nat)) (_:o+k<=bs.length) (_:R (v (le bs o)) H),FnS prog g #[.pointer (some ⟨p,0,none⟩),.int .u32 x] H R
abbrev Qia (f k vo d:Nat) (v:Nat->Value):Prop:=∀{H:Qf} {p B:Nat} {bs:List UInt8} {pos:Nat} (_:Tab H p B bs pos) {R:Kn} {vt x:Nat} (_:VT bs pos vt) (_:Sc k bs pos vt vo d x) (_:R (v x) H),FnS prog f #[.pointer (some ⟨p,0,none⟩)] H R
abbrev Qfi (f vo:Nat):Prop:=∀{H:Qf} {p B:Nat} {bs:List UInt8} {pos:Nat} (_:Tab H p B bs pos) {R:Kn} {vt k n at_:Nat} (_:VT bs pos vt) (_:Qhv k bs pos vt vo n at_) (_:R (.int .i64 n) H),FnS prog f #[.pointer (some ⟨p,0,none⟩)] H R
abbrev ItOk (f k vo:Nat) (v:Nat->Value) (le:List UInt8->Nat->Nat):Prop:=∀{H:Qf} {p B:Nat} {bs:List UInt8} {pos:Nat} (_:Tab H p B bs pos) {R:Kn} {vt n at_ i:Nat} (_:VT bs pos vt) (_:Qhv k bs pos vt vo n at_) (_:i<n) (_:R (v (le bs (at_+k*i))) H),FnS prog f #[.pointer (some ⟨p,0,none⟩),.int .i64 (i:Nat)] H R
abbrev TItOk (f vo:Nat):Prop:=∀{H:Qf} {p B:Nat} {bs:List UInt8} {pos:Nat} (_:Tab H p B bs pos) {R:Kn} {vt n at_ i m:Nat} (_:VT bs pos vt) (_:Qhv 4 bs pos vt vo n at_) (_:i<n) (_:StrAt bs (at_+4*i) m)
  (_:R (bsl B (tgt bs (at_+4*i)+4) m (bs.length-(tgt bs (at_+4*i)+4))) H),FnS prog f #[.pointer (some ⟨p,0,none⟩),.int .i64 (i:Nat)] H R
abbrev StOk (f off k:Nat) (v:Nat->Value) (le:List UInt8->Nat->Nat):Prop:=∀{H:Qf} {p B:Nat} {bs:List UInt8} {pos:Nat} (_:Tab H p B bs pos) {R:Kn} (_:pos+off+k<=bs.length) (_:R (v (le bs (pos+off))) H),FnS prog f #[.pointer (some ⟨p,0,none⟩)] H R
abbrev BytOk (f vo:Nat):Prop:=∀{H:Qf} {p B:Nat} {bs:List UInt8} {pos:Nat} (_:Tab H p B bs pos) {R:Kn} {vt:Nat} (_:VT bs pos vt) (_:slotAt bs vt vo=0->R (.slice none 0 0) H)
  (_:slotAt bs vt vo≠0->∃n,StrAt bs (pos+slotAt bs vt vo) n/\R (bsl B (tgt bs (pos+slotAt bs vt vo)+4) n (bs.length-(tgt bs (pos+slotAt bs vt vo)+4))) H),FnS prog f #[.pointer (some ⟨p,0,none⟩)] H R
abbrev SubOk (f w vo:Nat):Prop:=∀{H:Qf} {p B:Nat} {bs:List UInt8} {pos:Nat} (_:Tab H p B bs pos) {R:Kn} {vt n at_ i q:Nat} {c:Array Value} {e:TypeId} (_:VT bs pos vt) (_:Qhv w bs pos vt vo n at_) (_:i<n) (_:H[q]?=some (.cells c e (0,0))) (_:c.size=2)
  (_:R (.bool true) (setB H q (.cells #[bsl B 0 bs.length bs.length,.int .u32 (at_+w*i:Nat)] e (0,0)))),FnS prog f #[.pointer (some ⟨p,0,none⟩),.pointer (some ⟨q,0,none⟩),.int .i64 (i:Nat)] H R
abbrev SubtOk (f vo:Nat):Prop:=∀{H:Qf} {p B:Nat} {bs:List UInt8} {pos:Nat} (_:Tab H p B bs pos) {R:Kn} {vt n at_ i q:Nat} {c:Array Value} {e:TypeId} (_:VT bs pos vt) (_:Qhv 4 bs pos vt vo n at_) (_:i<n) (_:at_+4*i+4<=bs.length) (_:tgt bs (at_+4*i)<=bs.length) (_:H[q]?=some (.cells c e (0,0))) (_:c.size=2)
  (_:R (.bool true) (setB H q (.cells #[bsl B 0 bs.length bs.length,.int .u32 (tgt bs (at_+4*i):Nat)] e (0,0)))),FnS prog f #[.pointer (some ⟨p,0,none⟩),.pointer (some ⟨q,0,none⟩),.int .i64 (i:Nat)] H R
abbrev UniOk (f vo:Nat):Prop:=∀{H:Qf} {p B:Nat} {bs:List UInt8} {pos:Nat} (_:Tab H p B bs pos) {R:Kn} {vt q:Nat} {c:Array Value} {e:TypeId} (_:VT bs pos vt) (_:H[q]?=some (.cells c e (0,0))) (_:c.size=2) (_:q≠p) (_:slotAt bs vt vo=0->R (.bool false) H)
  (_:slotAt bs vt vo≠0->pos+slotAt bs vt vo+4<=bs.length/\tgt bs (pos+slotAt bs vt vo)<=bs.length/\R (.bool true) (setB H q (.cells #[bsl B 0 bs.length bs.length,.int .u32 (tgt bs (pos+slotAt bs vt vo):Nat)] e (0,0)))),
  FnS prog f #[.pointer (some ⟨p,0,none⟩),.pointer (some ⟨q,0,none⟩)] H R
def ScS (vo:Int) (g:Nat) (dv:Value) (x0:Value) (h:Qf) (R:Kn):Prop:=OffS vo x0 h (fun x8 h1=>
 Q6 x0 fun x12=>
 Qh x12 0 fun x13=>
 Q6 x0 fun x16=>
 Qh x16 0 fun x17=>
 Qh x17 1 fun x18=>
 LdK h1 x18 fun x19=>
 Qp prog .add 72 x8 x19 fun x20=>
 Qb prog g #[x13,x20] h1 fun x21 h2=>
 R x21 h2) (fun h1=>(R dv h1))
theorem scS {f g vo k d:Nat} {dv:Value} {v:Nat->Value} {le:List UInt8->Nat->Nat} (hw:∀{x0 h R},ScS vo g dv x0 h R->FnS prog f #[x0] h R) (hg:GetOk g k v le) (he:vo%2=0) (hd:dv=v d) (hk:le=leN k):Qia f k vo d v:=by
 subst hd hk
 intro H p B bs pos ht R vt x hv hs hR
 apply hw
 refine offS ht hv he (fun h=>?_) (fun h=>?_)
 all_goals rcases hs with ⟨h0,rfl⟩|⟨h0,h1,rfl⟩
 ·exact hR
 ·exact absurd h h0
 ·exact absurd h0 h
 ·simp only[↓Qu,↓Qo,↓Qj ht.c1,↓QE]
  exact hg ht (Tab.slot_add ht h1) h1 hR
theorem Qdu:Qia 192 2 6 150 vI16:=scS (le:=le2) w192 Qd4 rfl rfl rfl
theorem Qcy:Qia 193 2 8 100 vI16:=scS (le:=le2) w193 Qd4 rfl rfl rfl
def BytS (vo:Int) (x0:Value) (h:Qf) (R:Kn):Prop:=OffS vo x0 h (fun x8 h1=>
 Q6 x0 fun x12=>
 Qh x12 0 fun x13=>
 Q6 x0 fun x16=>
 Qh x16 0 fun x17=>
 Qh x17 1 fun x18=>
 LdK h1 x18 fun x19=>
 Qp prog .add 72 x8 x19 fun x20=>
 Qb prog 327 #[x13,x20] h1 fun x21 h2=>
 R x21 h2) (fun h1=>(R (.slice none 0 0) h1))
theorem bytS {f vo:Nat} (hw:∀{x0 h R},BytS vo x0 h R->FnS prog f #[x0] h R) (he:vo%2=0):BytOk f vo:=by
 intro H p B bs pos ht R vt hv h0 h1
 apply hw
 refine offS ht hv he (fun h=>h0 h) (fun h=>?_)
 obtain ⟨n,⟨g1,g2,g3⟩,hR⟩:=h1 h
 simp only[↓Qu,↓Qo,↓Qj ht.c1,↓QE]
 exact QdM ht (Tab.slot_add ht g1) g1 g2 (by omega) (by omega) hR
theorem Qaf:BytOk 194 10:=bytS w194 rfl
theorem Z8:Qia 195 1 16 8 vU8:=scS (le:=byteN) w195 YU rfl rfl rfl
theorem YR:Qia 196 1 34 0 vB:=scS (le:=byteN) w196 Qfy rfl rfl rfl
theorem Yi:Qia 197 4 36 0 vI32:=scS (le:=le4) w197 QeM rfl rfl rfl
theorem QZ:Qia 198 4 38 0 vU32:=scS (le:=le4) w198 QaR rfl rfl rfl
theorem QR:Qia 199 8 40 0 vI64:=scS (le:=le8) w199 Qbk rfl rfl rfl
theorem QG:Qia 200 8 42 0 vU64:=scS (le:=le8) w200 YP rfl rfl rfl
theorem Q9:Qia 201 4 44 0 vI32:=scS (le:=le4) w201 QeM rfl rfl rfl
theorem Q8:Qia 202 4 46 0 vU32:=scS (le:=le4) w202 QaR rfl rfl rfl
theorem Q7:Qia 203 8 48 0 vI64:=scS (le:=le8) w203 Qbk rfl rfl rfl
theorem Q4:Qia 204 8 50 0 vU64:=scS (le:=le8) w204 YP rfl rfl rfl
theorem QP:Qia 206 4 54 1078530000 vF32:=scS (le:=le4) w206 Z1 rfl rfl rfl
theorem QD:Qia 207 4 56 1077936128 vF32:=scS (le:=le4) w207 Z1 rfl rfl rfl
theorem QA:Qia 208 4 58 0 vF32:=scS (le:=le4) w208 Z1 rfl rfl rfl
theorem QbV {H:Qf} {p B:Nat} {bs:List UInt8} {pos:Nat} (ht:Tab H p B bs pos) {R:Kn} {vt:Nat} (hv:VT bs pos vt) (h0:slotAt bs vt 72=0->R (.pointer none) H)
  (h1:slotAt bs vt 72≠0->pos+slotAt bs vt 72+4<=bs.length/\tgt bs (pos+slotAt bs vt 72)<=bs.length/\R (.pointer (some ⟨H.size,0,none⟩)) (H.push (.cells #[bsl B 0 bs.length bs.length,.int .u32 (tgt bs (pos+slotAt bs vt 72):Nat)] 315))):
  FnS prog 209 #[.pointer (some ⟨p,0,none⟩),.pointer none] H R:=by
 apply w209
 refine offS ht hv (vo:=72) rfl (fun h=>h0 h) (fun h=>?_)
 obtain ⟨g1,g2,hR⟩:=h1 h
 simp only[↓Qu,↓Qo,↓Qj ht.c1,↓QE]
 refine Qbe ht (Tab.slot_add ht g1) g1 g2 ?_
 refine QB (fun vs h=>vs=[.pointer (some ⟨H.size,0,none⟩)]/\h=H.push (.cells z315 315)) ?_ ?_
 ·rw[Y4 (by kernel_rfl)]
  exact ⟨rfl,rfl⟩
 ·rintro x h ⟨hx,rfl⟩
  cases hx
  have ht2:=Tab.push ht (.cells z315 315)
  simp only[↓Qu,↓Qo,↓Qj ht2.c0]
  refine Qdr Qm (by simp[z315]) rfl rfl ?_
  rw[Zh]
  exact hR
theorem Qr:Qia 210 8 76 0 vU64:=scS (le:=le8) w210 YP rfl rfl rfl
theorem Qt:Qia 211 8 82 0 vU64:=scS (le:=le8) w211 YP rfl rfl rfl
theorem Qq:Qia 212 8 86 0 vU64:=scS (le:=le8) w212 YP rfl rfl rfl
theorem Qv:Qia 213 1 100 255 vI8:=scS (le:=byteN) w213 Qfz rfl rfl rfl
theorem Qhh {H:Qf} {p B:Nat} {bs:List UInt8} {pos:Nat} (ht:Tab H p B bs pos) {R:Kn} {vt:Nat} (hv:VT bs pos vt) (h0:slotAt bs vt 4=0->R (.pointer none) H)
  (h1:slotAt bs vt 4≠0->pos+slotAt bs vt 4<=bs.length/\R (.pointer (some ⟨H.size,0,none⟩)) (H.push (.cells #[bsl B 0 bs.length bs.length,.int .u32 (pos+slotAt bs vt 4:Nat)] 317))):
  FnS prog 214 #[.pointer (some ⟨p,0,none⟩),.pointer none] H R:=by
 apply w214
 refine offS ht hv (vo:=4) rfl (fun h=>h0 h) (fun h=>?_)
 obtain ⟨g1,hR⟩:=h1 h
 simp only[↓Qu,↓Qo,↓Qj ht.c1,↓QE]
 rw[Tab.slot_add ht (k:=0) (by omega)]
 refine QB (fun vs h=>vs=[.pointer (some ⟨H.size,0,none⟩)]/\h=H.push (.cells z317 317)) ?_ ?_
 ·rw[Y4 (by kernel_rfl)]
  exact ⟨rfl,rfl⟩
 ·rintro x h ⟨hx,rfl⟩
  cases hx
  have ht2:=Tab.push ht (.cells z317 317)
  simp only[↓Qu,↓Qo,↓Qj ht2.c0]
  refine Qif Qm (by simp[z317]) rfl rfl ?_
  rw[Zh]
  exact hR
theorem Qhz {H:Qf} {p B:Nat} {bs:List UInt8} {pos:Nat} (ht:Tab H p B bs pos) {R:Kn} (hl:pos+26<=bs.length) (hR:R (.pointer (some ⟨H.size,0,none⟩)) (H.push (.cells #[bsl B 0 bs.length bs.length,.int .u32 (pos+26:Nat)] 246))):
  FnS prog 215 #[.pointer (some ⟨p,0,none⟩),.pointer none] H R:=by
 apply w215
 unfold s215
 refine QB (fun vs h=>vs=[.pointer (some ⟨H.size,0,none⟩)]/\h=H.push (.cells z246 246)) ?_ ?_
 ·rw[Y4 (by kernel_rfl)]
  exact ⟨rfl,rfl⟩
 ·rintro x h ⟨hx,rfl⟩
  cases hx
  have ht2:=Tab.push ht (.cells z246 246)
  have ea:=Tab.add ht (o:=26) (k:=0) (by omega)
  simp only[↓Qu,↓Qo,↓Qj ht2.c0,↓Qj ht2.c1,↓QE]
  rw[show ((pos:Int)+(26:Int))=(pos:Int)+((26:Nat):Int) from rfl,ea]
  refine Qd5 Qm (by simp[z246]) rfl rfl ?_
  rw[Zh]
  exact hR
def StS (off:Int) (g:Nat) (x0:Value) (h:Qf) (R:Kn):Prop:=
 Q6 x0 fun x4=>
 Qh x4 0 fun x5=>
 Qh x5 0 fun x6=>
 Q6 x0 fun x8=>
 Qh x8 0 fun x9=>
 Qh x9 0 fun x10=>
 Qh x10 1 fun x11=>
 LdK h x11 fun x12=>
 Qp prog .add 72 x12 (.int .u32 off) fun x13=>
 Qb prog g #[x6,x13] h fun x14 h1=>
 R x14 h1
theorem stS {f g off k:Nat} {v:Nat->Value} {le:List UInt8->Nat->Nat} (hw:∀{x0 h R},StS off g x0 h R->FnS prog f #[x0] h R) (hg:GetOk g k v le):StOk f off k v le:=by
 intro H p B bs pos ht R hl hR
 apply hw
 unfold StS
 have ea:=Tab.add ht (o:=off) (k:=k) hl
 simp only[↓Qu,↓Qo,↓Qj ht.c1,↓QE]
 exact hg ht (o:=pos+off) ea hl hR
theorem Example_Vec3_X:StOk 216 0 4 vF32 le4:=stS w216 Z1
theorem Example_Vec3_Y:StOk 217 4 4 vF32 le4:=stS w217 Z1
theorem Example_Vec3_Z:StOk 218 8 4 vF32 le4:=stS w218 Z1
theorem Qi1:StOk 220 16 8 vF64 le8:=stS w220 QdK
theorem Qhw:StOk 221 24 1 vU8 byteN:=stS w221 YU
theorem Qew:StOk 222 0 2 vI16 le2:=stS w222 Qd4
theorem Qeu:StOk 223 2 1 vI8 byteN:=stS w223 Qfz
def LenS (vo:Int) (x0:Value) (h:Qf) (R:Kn):Prop:=OffS vo x0 h (fun x8 h1=>
 Q6 x0 fun x12=>
 Qh x12 0 fun x13=>
 Qb prog 341 #[x13,x8] h1 fun x15 h2=>
 R x15 h2) (fun h1=>(R (.int .i64 0) h1))
theorem lenS {f vo:Nat} (hw:∀{x0 h R},LenS vo x0 h R->FnS prog f #[x0] h R) (he:vo%2=0):Qfi f vo:=by
 intro H p B bs pos ht R vt k n at_ hv hs hR
 apply hw
 refine offS ht hv he (fun h=>?_) (fun h=>?_)
 all_goals rcases hs with ⟨h0,rfl⟩|⟨h0,h1,rfl,h3,h4,h5⟩
 ·exact hR
 ·exact absurd h h0
 ·exact absurd h0 h
 ·try simp only[↓Qu,↓Qo]
  refine QhW ht rfl (by omega) (by omega) ?_
  rw[h3];exact hR
theorem QcS:Qfi 224 14:=lenS w224 rfl
def ItS (vo k:Int) (g:Nat) (dv:Value) (x0 x1:Value) (h:Qf) (R:Kn):Prop:=OffS vo x0 h (fun x11 h1=>
 Q6 x0 fun x15=>
 Qh x15 0 fun x16=>
 Qb prog 342 #[x16,x11] h1 fun x18 h2=>
 Q6 x0 fun x20=>
 Qh x20 0 fun x21=>
 Qp prog .mul 3 x1 (.int .i64 k) fun x24=>
 QX .u32 x24 fun x25=>
 Qp prog .add 72 x18 x25 fun x26=>
 Qb prog g #[x21,x26] h2 fun x27 h3=>
 R x27 h3) (fun h1=>(R dv h1))
theorem itS {f g vo k:Nat} {dv:Value} {v:Nat->Value} {le:List UInt8->Nat->Nat} (hw:∀{x0 x1 h R},ItS vo k g dv x0 x1 h R->FnS prog f #[x0,x1] h R) (hg:GetOk g k v le) (he:vo%2=0):ItOk f k vo v le:=by
 intro H p B bs pos ht R vt n at_ i hv hs hi hR
 apply hw
 rcases hs with ⟨h0,rfl⟩|⟨h0,h1,rfl,h3,h4,h5⟩
 ·omega
 refine offS ht hv he (fun h=>absurd h h0) (fun h=>?_)
 try simp only[↓Qu,↓Qo]
 refine Qcg ht rfl (by omega) (by omega) ?_
 simp only[↓Qu,↓Qo,↓Qbd,↓QE,↓Q1]
 have h6:tgt bs (pos+slotAt bs vt vo)+4+k*i+k<=bs.length:=by
  have:k*i+k<=k*n:=Nat.le_trans (Nat.le_of_eq (Nat.mul_succ k i).symm) (Nat.mul_le_mul_left k hi)
  omega
 exact hg ht (Tab.item ht h6) h6 hR
theorem Qev:ItOk 225 1 14 vU8 byteN:=itS w225 YU rfl
theorem QdN:Qfi 226 22:=lenS w226 rfl
def SubS (vo w:Int) (g:Nat) (x0 x1 x2:Value) (h:Qf) (R:Kn):Prop:=OffS vo x0 h (fun x13 h1=>
 Q6 x0 fun x17=>
 Qh x17 0 fun x18=>
 Qb prog 342 #[x18,x13] h1 fun x20 h2=>
 QX .u32 x2 fun x23=>
 Qp prog .mul 72 x23 (.int .u32 w) fun x24=>
 Qp prog .add 72 x20 x24 fun x25=>
 Q6 x0 fun x28=>
 Qh x28 0 fun x29=>
 Qh x29 0 fun x30=>
 LdK h2 x30 fun x31=>
 Qb prog g #[x1,x31,x25] h2 fun _x33 h3=>
 R (.bool true) h3) (fun h1=>(R (.bool false) h1))
theorem subS {f g vo w:Nat} (hw:∀{x0 x1 x2 h R},SubS vo w g x0 x1 x2 h R->FnS prog f #[x0,x1,x2] h R) (hg:QfA g) (he:vo%2=0) (hw0:0<w):SubOk f w vo:=by
 intro H p B bs pos ht R vt n at_ i q c e hv hs hi hq hc hR
 apply hw
 rcases hs with ⟨h0,rfl⟩|⟨h0,h1,rfl,h3,h4,h5⟩
 ·omega
 refine offS ht hv he (fun h=>absurd h h0) (fun h=>?_)
 try simp only[↓Qu,↓Qo]
 refine Qcg ht rfl (by omega) (by omega) ?_
 have h6:tgt bs (pos+slotAt bs vt vo)+4+w*i+w<=bs.length:=by
  have:w*i+w<=w*n:=Nat.le_trans (Nat.le_of_eq (Nat.mul_succ w i).symm) (Nat.mul_le_mul_left w hi)
  omega
 have:=ht.lt
 have hi2:i<2147483648:=by
  have:1*i<=w*i:=Nat.mul_le_mul_right i hw0
  omega
 have ea:=Tab.item' ht (a:=tgt bs (pos+slotAt bs vt vo)+4) (k:=w) hi2 h6
 simp only[↓Q1,↓Qbd,↓QE]
 rw[ea]
 try simp only[↓Qu,↓Qo,↓Qj ht.c0]
 exact hg hq hc rfl rfl hR
theorem Qg5:SubOk 227 4 22:=subS w227 Qd5 rfl (by decide)
theorem Qb8:Qfi 228 24:=lenS w228 rfl
def TItS (vo:Int) (x0 x1:Value) (h:Qf) (R:Kn):Prop:=OffS vo x0 h (fun x11 h1=>
 Q6 x0 fun x15=>
 Qh x15 0 fun x16=>
 Qb prog 342 #[x16,x11] h1 fun x18 h2=>
 Q6 x0 fun x20=>
 Qh x20 0 fun x21=>
 Qp prog .mul 3 x1 (.int .i64 4) fun x24=>
 QX .u32 x24 fun x25=>
 Qp prog .add 72 x18 x25 fun x26=>
 Qb prog 327 #[x21,x26] h2 fun x27 h3=>
 R x27 h3) (fun h1=>(R (.slice none 0 0) h1))
theorem titS {f vo:Nat} (hw:∀{x0 x1 h R},TItS vo x0 x1 h R->FnS prog f #[x0,x1] h R) (he:vo%2=0):TItOk f vo:=by
 intro H p B bs pos ht R vt n at_ i m hv hs hi hm hR
 apply hw
 rcases hs with ⟨h0,rfl⟩|⟨h0,h1,rfl,h3,h4,h5⟩
 ·omega
 refine offS ht hv he (fun h=>absurd h h0) (fun h=>?_)
 try simp only[↓Qu,↓Qo]
 refine Qcg ht rfl (by omega) (by omega) ?_
 simp only[↓Qu,↓Qo,↓Qbd,↓QE,↓Q1]
 obtain ⟨g1,g2,g3⟩:=hm
 exact QdM ht (Tab.item ht g1) g1 g2 (Nat.le_of_lt g3) (Nat.lt_of_le_of_lt (Nat.le_add_right _ _) g3) hR
theorem Qcx:TItOk 229 24:=titS w229 rfl
theorem QaY:Qfi 230 26:=lenS w230 rfl
def SubtS (vo:Int) (g:Nat) (x0 x1 x2:Value) (h:Qf) (R:Kn):Prop:=OffS vo x0 h (fun x13 h1=>
 Q6 x0 fun x17=>
 Qh x17 0 fun x18=>
 Qb prog 342 #[x18,x13] h1 fun x20 h2=>
 QX .u32 x2 fun x23=>
 Qp prog .mul 72 x23 (.int .u32 4) fun x24=>
 Qp prog .add 72 x20 x24 fun x25=>
 Q6 x0 fun x27=>
 Qh x27 0 fun x28=>
 Qb prog 335 #[x28,x25] h2 fun x30 h3=>
 Q6 x0 fun x33=>
 Qh x33 0 fun x34=>
 Qh x34 0 fun x35=>
 LdK h3 x35 fun x36=>
 Qb prog g #[x1,x36,x30] h3 fun _x38 h4=>
 R (.bool true) h4) (fun h1=>(R (.bool false) h1))
theorem subtS {f g vo:Nat} (hw:∀{x0 x1 x2 h R},SubtS vo g x0 x1 x2 h R->FnS prog f #[x0,x1,x2] h R) (hg:QfA g) (he:vo%2=0):SubtOk f vo:=by
 intro H p B bs pos ht R vt n at_ i q c e hv hs hi hm hm2 hq hc hR
 apply hw
 rcases hs with ⟨h0,rfl⟩|⟨h0,h1,rfl,h3,h4,h5⟩
 ·omega
 refine offS ht hv he (fun h=>absurd h h0) (fun h=>?_)
 try simp only[↓Qu,↓Qo]
 refine Qcg ht rfl (by omega) (by omega) ?_
 have h6:tgt bs (pos+slotAt bs vt vo)+4+4*i+4<=bs.length:=by omega
 have:=ht.lt
 have ea:=Tab.item' ht (a:=tgt bs (pos+slotAt bs vt vo)+4) (k:=4) (by omega) h6
 simp only[↓Q1,↓Qbd,↓QE]
 rw[show ((4:Int))=((4:Nat):Int) from rfl,ea]
 try simp only[↓Qu,↓Qo,↓Qj ht.c0]
 refine Qbe ht rfl hm hm2 ?_
 try simp only[↓Qu,↓Qo,↓Qj ht.c0]
 exact hg hq hc rfl rfl hR
theorem Qco:SubtOk 231 26:=subtS w231 ZC rfl
theorem Qgt {H:Qf} {p B:Nat} {bs:List UInt8} {pos:Nat} (ht:Tab H p B bs pos) {R:Kn} {vt:Nat} (hv:VT bs pos vt) (h0:slotAt bs vt 28=0->R (.pointer none) H)
  (h1:slotAt bs vt 28≠0->pos+slotAt bs vt 28+4<=bs.length/\tgt bs (pos+slotAt bs vt 28)<=bs.length/\R (.pointer (some ⟨H.size,0,none⟩)) (H.push (.cells #[bsl B 0 bs.length bs.length,.int .u32 (tgt bs (pos+slotAt bs vt 28):Nat)] 221))):
  FnS prog 232 #[.pointer (some ⟨p,0,none⟩),.pointer none] H R:=by
 apply w232
 refine offS ht hv (vo:=28) rfl (fun h=>h0 h) (fun h=>?_)
 obtain ⟨g1,g2,hR⟩:=h1 h
 simp only[↓Qu,↓Qo,↓Qj ht.c1,↓QE]
 refine Qbe ht (Tab.slot_add ht g1) g1 g2 ?_
 refine QB (fun vs h=>vs=[.pointer (some ⟨H.size,0,none⟩)]/\h=H.push (.cells z221 221)) ?_ ?_
 ·rw[Y4 (by kernel_rfl)]
  exact ⟨rfl,rfl⟩
 ·rintro x h ⟨hx,rfl⟩
  cases hx
  have ht2:=Tab.push ht (.cells z221 221)
  simp only[↓Qu,↓Qo,↓Qj ht2.c0]
  refine ZC Qm (by simp[z221]) rfl rfl ?_
  rw[Zh]
  exact hR
theorem QaH:Qfi 233 30:=lenS w233 rfl
theorem QbH:ItOk 234 1 30 vU8 byteN:=itS w234 YU rfl
theorem Qet {H:Qf} {p B:Nat} {bs:List UInt8} {pos:Nat} (ht:Tab H p B bs pos) {R:Kn} {vt:Nat} (hv:VT bs pos vt) (h0:slotAt bs vt 32=0->R (.pointer none) H)
  (h1:slotAt bs vt 32≠0->pos+slotAt bs vt 32+4<=bs.length/\tgt bs (pos+slotAt bs vt 32)<=bs.length/\R (.pointer (some ⟨H.size,0,none⟩)) (H.push (.cells #[bsl B 0 bs.length bs.length,.int .u32 (tgt bs (pos+slotAt bs vt 32):Nat)] 320))):
  FnS prog 235 #[.pointer (some ⟨p,0,none⟩),.pointer none] H R:=by
 apply w235
 refine offS ht hv (vo:=32) rfl (fun h=>h0 h) (fun h=>?_)
 obtain ⟨g1,g2,hR⟩:=h1 h
 simp only[↓Qu,↓Qo,↓Qj ht.c1,↓QE]
 refine Qbe ht (Tab.slot_add ht g1) g1 g2 ?_
 refine QB (fun vs h=>vs=[.pointer (some ⟨H.size,0,none⟩)]/\h=H.push (.cells z320 320)) ?_ ?_
 ·rw[Y4 (by kernel_rfl)]
  exact ⟨rfl,rfl⟩
 ·rintro x h ⟨hx,rfl⟩
  cases hx
  have ht2:=Tab.push ht (.cells z320 320)
  simp only[↓Qu,↓Qo,↓Qj ht2.c0]
  refine Qin Qm (by simp[z320]) rfl rfl ?_
  rw[Zh]
  exact hR
theorem Example_Stat_Id:BytOk 236 4:=bytS w236 rfl
theorem Qj7:Qia 237 8 6 0 vI64:=scS (le:=le8) w237 Qbk rfl rfl rfl
theorem QhY:Qia 238 2 8 0 vU16:=scS (le:=le2) w238 QhC rfl rfl rfl
theorem Qbj:Qfi 239 52:=lenS w239 rfl
theorem QcJ:ItOk 240 1 52 vB byteN:=itS w240 Qfy rfl
theorem QaT:Qfi 241 60:=lenS w241 rfl
theorem Qcb:TItOk 242 60:=titS w242 rfl
theorem Qag:Qfi 243 62:=lenS w243 rfl
theorem Qb2:SubOk 244 8 62:=subS w244 QgR rfl (by decide)
theorem QhL:StOk 245 0 4 vU32 le4:=stS w245 QaR
theorem QeK:StOk 246 4 4 vU32 le4:=stS w246 QaR
theorem Qe8:Qfi 247 64:=lenS w247 rfl
theorem QgQ:ItOk 248 1 64 vU8 byteN:=itS w248 YU rfl
theorem QdT:Qfi 249 66:=lenS w249 rfl
theorem Qgq:SubOk 250 4 66:=subS w250 Qd5 rfl (by decide)
theorem QbP:Qfi 251 68:=lenS w251 rfl
theorem Qdq:ItOk 252 8 68 vI64 le8:=itS w252 Qbk rfl
theorem Qbr:Qfi 253 70:=lenS w253 rfl
theorem QcY:ItOk 254 8 70 vF64 le8:=itS w254 QdK rfl
theorem QaM:Qfi 255 74:=lenS w255 rfl
theorem QbR:SubtOk 256 74:=subtS w256 Qcm rfl
theorem Qdd:Qia 257 8 4 0 vU64:=scS (le:=le8) w257 YP rfl rfl rfl
theorem Qal:Qfi 258 78:=lenS w258 rfl
theorem Qbb:ItOk 259 8 78 vU64 le8:=itS w259 YP rfl
theorem Qa9:Qfi 260 80:=lenS w260 rfl
theorem QaN:SubtOk 261 80:=subtS w261 Qcm rfl
theorem Qa5:Qfi 262 84:=lenS w262 rfl
theorem QaD:ItOk 263 8 84 vU64 le8:=itS w263 YP rfl
theorem ZZ:Qfi 264 88:=lenS w264 rfl
theorem Qaw:ItOk 265 8 88 vU64 le8:=itS w265 YP rfl
def UniS (vo:Int) (x0 x1:Value) (h:Qf) (R:Kn):Prop:=OffS vo x0 h (fun x10 h1=>
 Q6 x0 fun x14=>
 Qh x14 0 fun x15=>
 Qb prog 347 #[x15,x1,x10] h1 fun _x18 h2=>
 R (.bool true) h2) (fun h1=>(R (.bool false) h1))
theorem uniS {f vo:Nat} (hw:∀{x0 x1 h R},UniS vo x0 x1 h R->FnS prog f #[x0,x1] h R) (he:vo%2=0):UniOk f vo:=by
 intro H p B bs pos ht R vt q c e hv hq hc hpq h0 h1
 apply hw
 refine offS ht hv he (fun h=>h0 h) (fun h=>?_)
 obtain ⟨g1,g2,hR⟩:=h1 h
 try simp only[↓Qu,↓Qo]
 exact go_Table_Union ht rfl g1 g2 hq hc hpq hR
theorem QgO:UniOk 266 20:=uniS w266 rfl
theorem QeY:Qia 268 1 18 0 vU8:=scS (le:=byteN) w268 YU rfl rfl rfl
theorem Qen:UniOk 269 92:=uniS w269 rfl
theorem Qdl:Qia 270 1 90 0 vU8:=scS (le:=byteN) w270 YU rfl rfl rfl
theorem QcK:Qia 271 1 94 0 vU8:=scS (le:=byteN) w271 YU rfl rfl rfl
theorem QdC:UniOk 272 96:=uniS w272 rfl
theorem QbN:Qfi 273 98:=lenS w273 rfl
theorem Qdn:ItOk 274 1 98 vU8 byteN:=itS w274 YU rfl
theorem Qbx:Qia 349 1 4 2 vU8:=scS (le:=byteN) w349 YU rfl rfl rfl
end Go.Proofs
