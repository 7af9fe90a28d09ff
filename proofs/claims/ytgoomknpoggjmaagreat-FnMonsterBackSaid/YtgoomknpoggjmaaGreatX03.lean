/- WHAT IS PROVED: the given statement of FnMonsterBack, whatever the input: this is part 3 of 13. No conditions. -/
import Derived.Test.YtgoomknpoggjmaaGreatX02
import Derived.Test.YtgoomknpoggjmaaGreatProg
set_option linter.all false
namespace Go.Proofs
open Go Go.Vc
open Tryz (prog)
set_option maxRecDepth 100000
def callableQ (P:Program) (f:Nat):Bool:=
 match P.funcs[f]? with
 |some fn=>(match fn.body with|some _=>true|none=>false)&&!(fn.name== "runtime.NumGoroutine")
 |none=>false
theorem calOk_of {P:Program} {cal:Nat->Bool} {n:Nat} (h:(List.range n).all (fun f=>!cal f||callableQ P f)=true) (hn:∀f,cal f=true->f<n):CalOk P cal:=by
 intro f hf args w
 have h1:=List.all_eq_true.1 h f (List.mem_range.2 (hn f hf))
 rw[hf]at h1
 simp only[Bool.not_true,Bool.false_or]at h1
 unfold callableQ at h1
 split at h1
 ·rename_i fn hfn
  simp only[Bool.and_eq_true,Bool.not_eq_true',beq_eq_false_iff_ne,ne_eq]at h1
  obtain ⟨hb,hne⟩:=h1
  split at hb
  ·rename_i c hc
   simp[callFunc,hfn,hc,hne]
  ·cases hb
 ·cases h1
def cal (f:Nat):Bool:=Nat.ble 2 f&&(Nat.blt f 403&&!memN f [80,84,172,174])
theorem hcal:CalOk prog cal:=calOk_of (n:=427) (by kernel_rfl) (by
 intro f hf
 simp only[cal,Bool.and_eq_true]at hf
 have:=Nat.le_of_ble_eq_true hf.2.1
 omega)
theorem wq {f:Nat} {fn:Func} (hf:prog.funcs[f]?=some fn) {args:List Value} {h:Qe} {R:Kn} {S:Prop} (e:vcF prog cal fn args h R=S) (H:S):FnS prog f args.toArray h R:=fn_of_vc hcal hf (e.mpr H)
def z2:Array Value:=#[(.int .i64 0)]
def z3:Array Value:=#[(.int .i64 0)]
def z4:Array Value:=#[(.bool false)]
def z5:Array Value:=#[(.int .u8 0)]
def z9:Array Value:=#[(.string ⟨#[]⟩)]
def z24:Array Value:=#[(.slice none 0 0)]
def z26:Array Value:=#[(.int .u8 0),(.slice none 0 0),(.int .u8 0)]
def z31:Array Value:=#[(.int .u64 0)]
def z38:Array Value:=#[(.slice none 0 0),(.int .i16 0),(.int .i16 0),(.string ⟨#[]⟩),(.string ⟨#[]⟩),(.int .u8 0),(.int .u8 0),(.slice none 0 0),(.int .u8 0),(.slice none 0 0),(.slice none 0 0),(.slice none 0 0),(.slice none 0 0),(.string ⟨#[]⟩),(.slice none 0 0),(.bool false),(.int .i32 0),(.int .u32 0),(.int .i64 0),(.int .u64 0),(.int .i32 0),(.int .u32 0),(.int .i64 0),(.int .u64 0),(.slice none 0 0),(.int .u32 0),(.int .u32 0),(.int .u32 0),(.slice none 0 0),(.slice none 0 0),(.string ⟨#[]⟩),(.slice none 0 0),(.slice none 0 0),(.slice none 0 0),(.bool false),(.slice none 0 0),(.int .u64 0),(.slice none 0 0),(.slice none 0 0),(.int .u64 0),(.slice none 0 0),(.int .u64 0),(.slice none 0 0),(.int .u8 0),(.slice none 0 0),(.int .u8 0),(.int .u8 0),(.slice none 0 0),(.int .u8 0),(.string ⟨#[]⟩),(.int .i8 0)]
def z47:Array Value:=#[(.int .u8 0),(.slice none 0 0),(.int .u8 0)]
def z52:Array Value:=#[(.slice none 0 0),(.int .i16 0),(.int .i16 0),(.string ⟨#[]⟩),(.string ⟨#[]⟩),(.int .u8 0),(.int .u8 0),(.slice none 0 0),(.int .u8 0),(.slice none 0 0),(.slice none 0 0),(.slice none 0 0),(.slice none 0 0),(.string ⟨#[]⟩),(.slice none 0 0),(.bool false),(.int .i32 0),(.int .u32 0),(.int .i64 0),(.int .u64 0),(.int .i32 0),(.int .u32 0),(.int .i64 0),(.int .u64 0),(.slice none 0 0),(.int .u32 0),(.int .u32 0),(.int .u32 0),(.slice none 0 0),(.slice none 0 0),(.string ⟨#[]⟩),(.slice none 0 0),(.slice none 0 0),(.slice none 0 0),(.bool false),(.slice none 0 0),(.int .u64 0),(.slice none 0 0),(.slice none 0 0),(.int .u64 0),(.slice none 0 0),(.int .u64 0),(.slice none 0 0),(.int .u8 0),(.slice none 0 0),(.int .u8 0),(.int .u8 0),(.slice none 0 0),(.int .u8 0),(.string ⟨#[]⟩),(.int .i8 0)]
def z68:Array Value:=#[(.int .u32 0)]
def z69:Array Value:=#[(.pointer none)]
def z78:Array Value:=#[(.int .u32 0),(.int .u32 0),(.int .u32 0),(.int .u64 0),(.int .u8 0),(.int .i16 0),(.int .i8 0)]
def z79:Array Value:=#[(.int .u32 0),(.int .u32 0),(.int .u32 0),(.int .u64 0),(.int .u8 0),(.int .i16 0),(.int .i8 0)]
def z83:Array Value:=#[(.int .i16 0),(.int .i8 0)]
def z84:Array Value:=#[(.int .i16 0),(.int .i8 0)]
def z89:Array Value:=#[(.string ⟨#[]⟩),(.int .i64 0),(.int .u16 0)]
def z90:Array Value:=#[(.string ⟨#[]⟩),(.int .i64 0),(.int .u16 0)]
def z95:Array Value:=#[(.int .u32 0),(.int .u32 0)]
def z96:Array Value:=#[(.int .u32 0),(.int .u32 0)]
def z136:Array Value:=#[(.slice none 0 0),(.int .i64 0),(.slice none 0 0),(.int .u32 0),(.slice none 0 0),(.int .u32 0),(.bool false),(.bool false),(.map none)]
def z138:Array Value:=#[(.int .u8 0)]
def z157:Array Value:=#[(.pointer none),(.int .i16 0),(.int .i16 0),(.string ⟨#[]⟩),(.slice none 0 0),(.int .u8 0),(.pointer none),(.slice none 0 0),(.slice none 0 0),(.slice none 0 0),(.pointer none),(.slice none 0 0),(.pointer none),(.bool false),(.int .i32 0),(.int .u32 0),(.int .i64 0),(.int .u64 0),(.int .i32 0),(.int .u32 0),(.int .i64 0),(.int .u64 0),(.slice none 0 0),(.float .f32 0),(.float .f32 0),(.float .f32 0),(.slice none 0 0),(.slice none 0 0),(.slice none 0 0),(.slice none 0 0),(.slice none 0 0),(.slice none 0 0),(.pointer none),(.slice none 0 0),(.int .u64 0),(.slice none 0 0),(.slice none 0 0),(.int .u64 0),(.slice none 0 0),(.int .u64 0),(.slice none 0 0),(.pointer none),(.pointer none),(.slice none 0 0),(.int .i8 0)]
def z158:Array Value:=#[(.float .f64 0)]
def z160:Array Value:=#[(.pointer none)]
def z161:Array Value:=#[(.int .i16 0),(.int .i8 0)]
def z163:Array Value:=#[(.float .f32 0),(.float .f32 0),(.float .f32 0),(.float .f64 0),(.int .u8 0),(.pointer none)]
def z164:Array Value:=#[(.string ⟨#[]⟩),(.int .i64 0),(.int .u16 0)]
def z165:Array Value:=#[(.pointer none)]
def z166:Array Value:=#[(.int .u32 0),(.int .u32 0)]
def z168:Array Value:=#[]
def z172:Array Value:=#[(.int .u8 0),.nilIface]
def z175:Array Value:=#[(.int .u8 0),.nilIface]
def z179:Array Value:=#[(.int .u8 0),.nilIface]
def z187:Array Value:=#[(.pointer none)]
def z211:Array Value:=#[(.slice none 0 0),(.int .u32 0)]
def z213:Array Value:=#[(.slice none 0 0),(.int .u32 0)]
def z237:Array Value:=#[(.slice none 0 0),(.int .u32 0)]
def z245:Array Value:=#[(.slice none 0 0),(.int .u32 0)]
def z250:Array Value:=#[(.slice none 0 0),(.int .u32 0)]
def z263:Array Value:=#[(.int .u64 0)]
def z266:Array Value:=#[(.int .u8 0)]
def z308:Array Value:=#[(.slice none 0 0),(.int .u32 0)]
def z310:Array Value:=#[(.slice none 0 0),(.int .u32 0)]
def z313:Array Value:=#[(.slice none 0 0),(.int .u32 0)]
def z316:Array Value:=#[(.slice none 0 0),(.int .u32 0)]
def tp300 (p0:IntKind) (p1:Nat) (x1:Value) (h:Qe) (R:Kn):Prop:=
 Y7 1 x1 (.int .i64 3) fun x2=>
 LdK h x2 fun _x1=>
 Y7 1 x1 (.int .i64 0) fun x3=>
 LdK h x3 fun x4=>
 Yl p0 x4 fun x5=>
 Qr prog .or p1 (.int p0 0) x5 fun x6=>
 Y7 1 x1 (.int .i64 1) fun x7=>
 LdK h x7 fun x8=>
 Yl p0 x8 fun x9=>
 Qr prog .shl p1 x9 (.int .u64 8) fun x10=>
 Qr prog .or p1 x6 x10 fun x11=>
 Y7 1 x1 (.int .i64 2) fun x12=>
 LdK h x12 fun x13=>
 Yl p0 x13 fun x14=>
 Qr prog .shl p1 x14 (.int .u64 16) fun x15=>
 Qr prog .or p1 x11 x15 fun x16=>
 Y7 1 x1 (.int .i64 3) fun x17=>
 LdK h x17 fun x18=>
 Yl p0 x18 fun x19=>
 Qr prog .shl p1 x19 (.int .u64 24) fun x20=>
 Qr prog .or p1 x16 x20 fun x21=>
 R x21 h
def tp339 (p0:Nat) (x1 x2:Value) (h:Qe) (R:Kn):Prop:=
 Qb prog p0 #[x1,x2] h fun _x1 h1=>
 R (.tuple #[]) h1
def tp351 (p0:Nat) (x1 x2:Value) (h:Qe) (R:Kn):Prop:=
 Y7 1 x1 (.int .i64 7) fun x3=>
 LdK h x3 fun _x1=>
 Yl .u8 x2 fun x4=>
 Y7 1 x1 (.int .i64 0) fun x5=>
 StK h 1 x5 x4 fun h1=>
 Qr prog .shr p0 x2 (.int .u64 8) fun x6=>
 Yl .u8 x6 fun x7=>
 Y7 1 x1 (.int .i64 1) fun x8=>
 StK h1 1 x8 x7 fun h2=>
 Qr prog .shr p0 x2 (.int .u64 16) fun x9=>
 Yl .u8 x9 fun x10=>
 Y7 1 x1 (.int .i64 2) fun x11=>
 StK h2 1 x11 x10 fun h3=>
 Qr prog .shr p0 x2 (.int .u64 24) fun x12=>
 Yl .u8 x12 fun x13=>
 Y7 1 x1 (.int .i64 3) fun x14=>
 StK h3 1 x14 x13 fun h4=>
 Qr prog .shr p0 x2 (.int .u64 32) fun x15=>
 Yl .u8 x15 fun x16=>
 Y7 1 x1 (.int .i64 4) fun x17=>
 StK h4 1 x17 x16 fun h5=>
 Qr prog .shr p0 x2 (.int .u64 40) fun x18=>
 Yl .u8 x18 fun x19=>
 Y7 1 x1 (.int .i64 5) fun x20=>
 StK h5 1 x20 x19 fun h6=>
 Qr prog .shr p0 x2 (.int .u64 48) fun x21=>
 Yl .u8 x21 fun x22=>
 Y7 1 x1 (.int .i64 6) fun x23=>
 StK h6 1 x23 x22 fun h7=>
 Qr prog .shr p0 x2 (.int .u64 56) fun x24=>
 Yl .u8 x24 fun x25=>
 Y7 1 x1 (.int .i64 7) fun x26=>
 StK h7 1 x26 x25 fun h8=>
 R (.tuple #[]) h8
def tp367 (p0:IntKind) (p1:Nat) (x1:Value) (h:Qe) (R:Kn):Prop:=
 Y7 1 x1 (.int .i64 1) fun x2=>
 LdK h x2 fun _x1=>
 Y7 1 x1 (.int .i64 0) fun x3=>
 LdK h x3 fun x4=>
 Yl p0 x4 fun x5=>
 Qr prog .or p1 (.int p0 0) x5 fun x6=>
 Y7 1 x1 (.int .i64 1) fun x7=>
 LdK h x7 fun x8=>
 Yl p0 x8 fun x9=>
 Qr prog .shl p1 x9 (.int .u64 8) fun x10=>
 Qr prog .or p1 x6 x10 fun x11=>
 R x11 h
def Qg2 (p0:Nat) (x1:Value) (h:Qe) (R:Kn):Prop:=
 Qb prog p0 #[x1] h fun x2 h1=>
 R x2 h1
def tp371 (p0:IntKind) (p1:Nat) (x1:Value) (h:Qe) (R:Kn):Prop:=
 Y7 1 x1 (.int .i64 7) fun x2=>
 LdK h x2 fun _x1=>
 Y7 1 x1 (.int .i64 0) fun x3=>
 LdK h x3 fun x4=>
 Yl p0 x4 fun x5=>
 Qr prog .or p1 (.int p0 0) x5 fun x6=>
 Y7 1 x1 (.int .i64 1) fun x7=>
 LdK h x7 fun x8=>
 Yl p0 x8 fun x9=>
 Qr prog .shl p1 x9 (.int .u64 8) fun x10=>
 Qr prog .or p1 x6 x10 fun x11=>
 Y7 1 x1 (.int .i64 2) fun x12=>
 LdK h x12 fun x13=>
 Yl p0 x13 fun x14=>
 Qr prog .shl p1 x14 (.int .u64 16) fun x15=>
 Qr prog .or p1 x11 x15 fun x16=>
 Y7 1 x1 (.int .i64 3) fun x17=>
 LdK h x17 fun x18=>
 Yl p0 x18 fun x19=>
 Qr prog .shl p1 x19 (.int .u64 24) fun x20=>
 Qr prog .or p1 x16 x20 fun x21=>
 Y7 1 x1 (.int .i64 4) fun x22=>
 LdK h x22 fun x23=>
 Yl p0 x23 fun x24=>
 Qr prog .shl p1 x24 (.int .u64 32) fun x25=>
 Qr prog .or p1 x21 x25 fun x26=>
 Y7 1 x1 (.int .i64 5) fun x27=>
 LdK h x27 fun x28=>
 Yl p0 x28 fun x29=>
 Qr prog .shl p1 x29 (.int .u64 40) fun x30=>
 Qr prog .or p1 x26 x30 fun x31=>
 Y7 1 x1 (.int .i64 6) fun x32=>
 LdK h x32 fun x33=>
 Yl p0 x33 fun x34=>
 Qr prog .shl p1 x34 (.int .u64 48) fun x35=>
 Qr prog .or p1 x31 x35 fun x36=>
 Y7 1 x1 (.int .i64 7) fun x37=>
 LdK h x37 fun x38=>
 Yl p0 x38 fun x39=>
 Qr prog .shl p1 x39 (.int .u64 56) fun x40=>
 Qr prog .or p1 x36 x40 fun x41=>
 R x41 h
def tp378 (p0:Nat) (x1 x2:Value) (h:Qe) (R:Kn):Prop:=
 Y7 1 x1 (.int .i64 3) fun x3=>
 LdK h x3 fun _x1=>
 Yl .u8 x2 fun x4=>
 Y7 1 x1 (.int .i64 0) fun x5=>
 StK h 1 x5 x4 fun h1=>
 Qr prog .shr p0 x2 (.int .u64 8) fun x6=>
 Yl .u8 x6 fun x7=>
 Y7 1 x1 (.int .i64 1) fun x8=>
 StK h1 1 x8 x7 fun h2=>
 Qr prog .shr p0 x2 (.int .u64 16) fun x9=>
 Yl .u8 x9 fun x10=>
 Y7 1 x1 (.int .i64 2) fun x11=>
 StK h2 1 x11 x10 fun h3=>
 Qr prog .shr p0 x2 (.int .u64 24) fun x12=>
 Yl .u8 x12 fun x13=>
 Y7 1 x1 (.int .i64 3) fun x14=>
 StK h3 1 x14 x13 fun h4=>
 R (.tuple #[]) h4
def tp395 (p0:Nat) (x1 x2:Value) (h:Qe) (R:Kn):Prop:=
 Y7 1 x1 (.int .i64 1) fun x3=>
 LdK h x3 fun _x1=>
 Yl .u8 x2 fun x4=>
 Y7 1 x1 (.int .i64 0) fun x5=>
 StK h 1 x5 x4 fun h1=>
 Qr prog .shr p0 x2 (.int .u64 8) fun x6=>
 Yl .u8 x6 fun x7=>
 Y7 1 x1 (.int .i64 1) fun x8=>
 StK h1 1 x8 x7 fun h2=>
 R (.tuple #[]) h2
def QcN (p0:Nat) (x1 x2:Value) (h:Qe) (R:Kn):Prop:=
 Q5 x1 fun x3=>
 Qg x3 0 fun x4=>
 LdK h x4 fun x5=>
 QfZ 1 x5 (some x2) none fun x6=>
 Qb prog p0 #[x6] h fun x7 h1=>
 R x7 h1
def tp97 (p0:Int) (p1:Nat) (x1 x2:Value) (h:Qe) (R:Kn):Prop:=
 Qb prog 74 #[x1,(.int .i64 p0),(.int .i64 0)] h fun _x1 h1=>
 Qb prog p1 #[x1,x2] h1 fun _x2 h2=>
 R (.tuple #[]) h2
def tp169 (p0:Nat) (x1:Value) (h:Qe) (R:Kn):Prop:=
 Q5 x1 fun x2=>
 Qg x2 p0 fun x3=>
 LdK h x3 fun x4=>
 ZN prog (Op.unary .not x4) fun x5=>
 IfK x5
 (False)
 (R (.tuple #[]) h)
def QcU (p0:Int) (p1:Nat) (x1 x2:Value) (h:Qe) (R:Kn):Prop:=
 Q5 x1 fun x3=>
 Qg x3 5 fun x4=>
 LdK h x4 fun x5=>
 Qr prog .sub 68 x5 (.int .u32 p0) fun x6=>
 Q5 x1 fun x7=>
 Qg x7 5 fun x8=>
 StK h 1 x8 x6 fun h1=>
 Q5 x1 fun x9=>
 Qg x9 0 fun x10=>
 LdK h1 x10 fun x11=>
 Q5 x1 fun x12=>
 Qg x12 5 fun x13=>
 LdK h1 x13 fun x14=>
 QfZ 1 x11 (some x14) none fun x15=>
 Qb prog p1 #[x15,x2] h1 fun _x1 h2=>
 R (.tuple #[]) h2
def QeZ (p0:Nat) (p1:Nat) (x1 x2 x3 x4:Value) (h:Qe) (R:Kn):Prop:=
 Qr prog .neq p0 x3 x4 fun x5=>
 IfK x5
 (Qb prog p1 #[x1,x3] h fun _x1 h1=>
 Qb prog 355 #[x1,x2] h1 fun _x2 h2=>
 R (.tuple #[]) h2)
 (R (.tuple #[]) h)
def tp43 (p0:Nat) (p1:Array Value) (p2:Nat) (p3:Nat) (x1:Value) (h:Qe) (R:Kn):Prop:=
 Qr prog .eql p0 x1 (.pointer none) fun x2=>
 IfK x2
 (R (.pointer none) h)
 (QA p1.toList [] fun x3=>
 YM h (.cells (Value.cells x3) p2) fun x4 h1=>
 Qb prog p3 #[x1,x4] h1 fun _x1 h2=>
 R x4 h2)
def QhA (p0:Int) (p1:Int) (x1 x2:Value) (h:Qe) (R:Kn):Prop:=
 Qb prog 268 #[x1,(.int .i64 p0),x2,(.int .i64 p1)] h fun x3 h1=>
 R x3 h1
def Qj9 (p0:Int) (x1:Value) (h:Qe) (R:Kn):Prop:=
 Qb prog 286 #[x1,(.int .i64 p0)] h fun _x1 h1=>
 R (.tuple #[]) h1
def Yn (p0:Nat) (p1:Int) (p2:IntKind) (p3:Int) (x1 x2:Value) (h:Qe) (R:Kn):Prop:=
 Qb prog p0 #[x1,(.int .i64 p1),x2,(.int p2 p3)] h fun _x1 h1=>
 R (.tuple #[]) h1
def tp177 (x1 x2 x3:Value) (h:Qe) (R:Kn):Prop:=
 Q5 x1 fun x4=>
 Qg x4 0 fun x5=>
 Qg x5 0 fun x6=>
 StK h 1 x6 x2 fun h1=>
 Q5 x1 fun x7=>
 Qg x7 0 fun x8=>
 Qg x8 1 fun x9=>
 StK h1 1 x9 x3 fun h2=>
 R (.tuple #[]) h2
def Qej (p0:Int) (p1:Nat) (p2:IntKind) (p3:Int) (x1:Value) (h:Qe) (R:Kn):Prop:=
 Q5 x1 fun x2=>
 Qg x2 0 fun x3=>
 Qb prog 314 #[x3,(.int .u16 p0)] h fun x4 h1=>
 Yl .u32 x4 fun x5=>
 Qr prog .neq 68 x5 (.int .u32 0) fun x6=>
 IfK x6
 (Q5 x1 fun x7=>
 Qg x7 0 fun x8=>
 Q5 x1 fun x9=>
 Qg x9 0 fun x10=>
 Qg x10 1 fun x11=>
 LdK h1 x11 fun x12=>
 Qr prog .add 68 x5 x12 fun x13=>
 Qb prog p1 #[x8,x13] h1 fun x14 h2=>
 R x14 h2)
 (R (.int p2 p3) h1)
def tp182 (p0:Int) (x1:Value) (h:Qe) (R:Kn):Prop:=
 Q5 x1 fun x2=>
 Qg x2 0 fun x3=>
 Qb prog 314 #[x3,(.int .u16 p0)] h fun x4 h1=>
 Yl .u32 x4 fun x5=>
 Qr prog .neq 68 x5 (.int .u32 0) fun x6=>
 IfK x6
 (Q5 x1 fun x7=>
 Qg x7 0 fun x8=>
 Q5 x1 fun x9=>
 Qg x9 0 fun x10=>
 Qg x10 1 fun x11=>
 LdK h1 x11 fun x12=>
 Qr prog .add 68 x5 x12 fun x13=>
 Qb prog 316 #[x8,x13] h1 fun x14 h2=>
 R x14 h2)
 (R (.slice none 0 0) h1)
def tp196 (p0:Int) (p1:Nat) (p2:Array Value) (p3:Nat) (p4:Nat) (x1 x2:Value) (h:Qe) (R:Kn):Prop:=
 Q5 x1 fun x3=>
 Qg x3 0 fun x4=>
 Qb prog 314 #[x4,(.int .u16 p0)] h fun x5 h1=>
 Yl .u32 x5 fun x6=>
 Qr prog .neq 68 x6 (.int .u32 0) fun x7=>
 IfK x7
 (Q5 x1 fun x8=>
 Qg x8 0 fun x9=>
 Q5 x1 fun x10=>
 Qg x10 0 fun x11=>
 Qg x11 1 fun x12=>
 LdK h1 x12 fun x13=>
 Qr prog .add 68 x6 x13 fun x14=>
 Qb prog 324 #[x9,x14] h1 fun x15 h2=>
 QG (fun M1=>
 Qr prog .eql p1 x2 (.pointer none) fun x16=>
 IfK x16
 (YM h2 (.cells p2 p3) fun x17 h3=>
 M1 [x17] h3)
 (M1 [x2] h2)) fun M1=>∀x18:Value,∀h4:Qe,M1 [x18] h4->
 Q5 x1 fun x19=>
 Qg x19 0 fun x20=>
 Qg x20 0 fun x21=>
 LdK h4 x21 fun x22=>
 Qb prog p4 #[x18,x22,x15] h4 fun _x1 h5=>
 R x18 h5)
 (R (.pointer none) h1)
def tp203 (p0:Int) (p1:Nat) (x1:Value) (h:Qe) (R:Kn):Prop:=
 Q5 x1 fun x2=>
 Qg x2 0 fun x3=>
 Qg x3 0 fun x4=>
 Q5 x1 fun x5=>
 Qg x5 0 fun x6=>
 Qg x6 0 fun x7=>
 Qg x7 1 fun x8=>
 LdK h x8 fun x9=>
 Qr prog .add 68 x9 (.int .u32 p0) fun x10=>
 Qb prog p1 #[x4,x10] h fun x11 h1=>
 R x11 h1
def QfX (p0:Int) (x1:Value) (h:Qe) (R:Kn):Prop:=
 Q5 x1 fun x2=>
 Qg x2 0 fun x3=>
 Qb prog 314 #[x3,(.int .u16 p0)] h fun x4 h1=>
 Yl .u32 x4 fun x5=>
 Qr prog .neq 68 x5 (.int .u32 0) fun x6=>
 IfK x6
 (Q5 x1 fun x7=>
 Qg x7 0 fun x8=>
 Qb prog 330 #[x8,x5] h1 fun x9 h2=>
 R x9 h2)
 (R (.int .i64 0) h1)
def tp211 (p0:Int) (p1:Int) (p2:Nat) (p3:IntKind) (x1 x2:Value) (h:Qe) (R:Kn):Prop:=
 Q5 x1 fun x3=>
 Qg x3 0 fun x4=>
 Qb prog 314 #[x4,(.int .u16 p0)] h fun x5 h1=>
 Yl .u32 x5 fun x6=>
 Qr prog .neq 68 x6 (.int .u32 0) fun x7=>
 IfK x7
 (Q5 x1 fun x8=>
 Qg x8 0 fun x9=>
 Qb prog 331 #[x9,x6] h1 fun x10 h2=>
 Q5 x1 fun x11=>
 Qg x11 0 fun x12=>
 Qr prog .mul 3 x2 (.int .i64 p1) fun x13=>
 Yl .u32 x13 fun x14=>
 Qr prog .add 68 x10 x14 fun x15=>
 Qb prog p2 #[x12,x15] h2 fun x16 h3=>
 R x16 h3)
 (R (.int p3 0) h1)
def tp213 (p0:Int) (p1:Int) (p2:Nat) (x1 x2 x3:Value) (h:Qe) (R:Kn):Prop:=
 Q5 x1 fun x4=>
 Qg x4 0 fun x5=>
 Qb prog 314 #[x5,(.int .u16 p0)] h fun x6 h1=>
 Yl .u32 x6 fun x7=>
 Qr prog .neq 68 x7 (.int .u32 0) fun x8=>
 IfK x8
 (Q5 x1 fun x9=>
 Qg x9 0 fun x10=>
 Qb prog 331 #[x10,x7] h1 fun x11 h2=>
 Yl .u32 x3 fun x12=>
 Qr prog .mul 68 x12 (.int .u32 p1) fun x13=>
 Qr prog .add 68 x11 x13 fun x14=>
 Q5 x1 fun x15=>
 Qg x15 0 fun x16=>
 Qg x16 0 fun x17=>
 LdK h2 x17 fun x18=>
 Qb prog p2 #[x2,x18,x14] h2 fun _x1 h3=>
 R (.bool true) h3)
 (R (.bool false) h1)
def tp215 (p0:Int) (x1 x2:Value) (h:Qe) (R:Kn):Prop:=
 Q5 x1 fun x3=>
 Qg x3 0 fun x4=>
 Qb prog 314 #[x4,(.int .u16 p0)] h fun x5 h1=>
 Yl .u32 x5 fun x6=>
 Qr prog .neq 68 x6 (.int .u32 0) fun x7=>
 IfK x7
 (Q5 x1 fun x8=>
 Qg x8 0 fun x9=>
 Qb prog 331 #[x9,x6] h1 fun x10 h2=>
 Q5 x1 fun x11=>
 Qg x11 0 fun x12=>
 Qr prog .mul 3 x2 (.int .i64 4) fun x13=>
 Yl .u32 x13 fun x14=>
 Qr prog .add 68 x10 x14 fun x15=>
 Qb prog 316 #[x12,x15] h2 fun x16 h3=>
 R x16 h3)
 (R (.slice none 0 0) h1)
def tp217 (p0:Int) (p1:Nat) (x1 x2 x3:Value) (h:Qe) (R:Kn):Prop:=
 Q5 x1 fun x4=>
 Qg x4 0 fun x5=>
 Qb prog 314 #[x5,(.int .u16 p0)] h fun x6 h1=>
 Yl .u32 x6 fun x7=>
 Qr prog .neq 68 x7 (.int .u32 0) fun x8=>
 IfK x8
 (Q5 x1 fun x9=>
 Qg x9 0 fun x10=>
 Qb prog 331 #[x10,x7] h1 fun x11 h2=>
 Yl .u32 x3 fun x12=>
 Qr prog .mul 68 x12 (.int .u32 4) fun x13=>
 Qr prog .add 68 x11 x13 fun x14=>
 Q5 x1 fun x15=>
 Qg x15 0 fun x16=>
 Qb prog 324 #[x16,x14] h2 fun x17 h3=>
 Q5 x1 fun x18=>
 Qg x18 0 fun x19=>
 Qg x19 0 fun x20=>
 LdK h3 x20 fun x21=>
 Qb prog p1 #[x2,x21,x17] h3 fun _x1 h4=>
 R (.bool true) h4)
 (R (.bool false) h1)
def tp252 (p0:Int) (x1 x2:Value) (h:Qe) (R:Kn):Prop:=
 Q5 x1 fun x3=>
 Qg x3 0 fun x4=>
 Qb prog 314 #[x4,(.int .u16 p0)] h fun x5 h1=>
 Yl .u32 x5 fun x6=>
 Qr prog .neq 68 x6 (.int .u32 0) fun x7=>
 IfK x7
 (Q5 x1 fun x8=>
 Qg x8 0 fun x9=>
 Qb prog 336 #[x9,x2,x6] h1 fun _x1 h2=>
 R (.bool true) h2)
 (R (.bool false) h1)
def tp303 (p0:Nat) (p1:Array Value) (p2:Nat) (p3:Array Value) (p4:Nat) (p5:Nat) (p6:Nat) (x1 x2:Value) (h:Qe) (R:Kn):Prop:=
 YM h (.cells (Value.cells x2) 211) fun x3 h1=>
 Qr prog .eql p0 x1 (.int .u8 1) fun x4=>
 IfK x4
 (LdN h1 2 x3 fun x5=>
 QA z213.toList [(0,2,x5)] fun x6=>
 YM h1 (.cells z213 213) fun x7 h2=>
 StK h2 2 x7 x6 fun h3=>
 Qb prog 43 #[x7] h3 fun x8 h4=>
 QA p1.toList [(0,1,(.int .u8 1)),(1,1,(.iface 69 x8))] fun x9=>
 YM h4 (.cells (Value.cells x9) p2) fun x10 h5=>
 R x10 h5)
 (Qr prog .eql p0 x1 (.int .u8 2) fun x11=>
 IfK x11
 (LdN h1 2 x3 fun x12=>
 QA p3.toList [(0,2,x12)] fun x13=>
 YM h1 (.cells p3 p4) fun x14 h6=>
 StK h6 2 x14 x13 fun h7=>
 Qb prog p5 #[x14] h7 fun x15 h8=>
 QA p1.toList [(0,1,(.int .u8 2)),(1,1,(.iface p6 x15))] fun x16=>
 YM h8 (.cells (Value.cells x16) p2) fun x17 h9=>
 R x17 h9)
 (Qr prog .eql p0 x1 (.int .u8 3) fun x18=>
 IfK x18
 (LdN h1 2 x3 fun x19=>
 QA z213.toList [(0,2,x19)] fun x20=>
 YM h1 (.cells z213 213) fun x21 h10=>
 StK h10 2 x21 x20 fun h11=>
 Qb prog 43 #[x21] h11 fun x22 h12=>
 QA p1.toList [(0,1,(.int .u8 3)),(1,1,(.iface 69 x22))] fun x23=>
 YM h12 (.cells (Value.cells x23) p2) fun x24 h13=>
 R x24 h13)
 (R (.pointer none) h1)))
def tp327 (x1 x2 x3:Value) (h:Qe) (R:Kn):Prop:=
 Q5 x1 fun x4=>
 Qg x4 0 fun x5=>
 Qg x5 0 fun x6=>
 Qg x6 0 fun x7=>
 StK h 1 x7 x2 fun h1=>
 Q5 x1 fun x8=>
 Qg x8 0 fun x9=>
 Qg x9 0 fun x10=>
 Qg x10 1 fun x11=>
 StK h1 1 x11 x3 fun h2=>
 R (.tuple #[]) h2
def tp89 (p0:Nat) (p1:Nat) (p2:Nat) (p3:Nat) (p4:Nat) (p5:Nat) (x1 x2:Value) (h:Qe) (R:Kn):Prop:=
 Qr prog .eql p0 x1 (.pointer none) fun x3=>
 IfK x3
 (R (.int .u32 0) h)
 (Q5 x1 fun x4=>
 Qg x4 0 fun x5=>
 LdK h x5 fun x6=>
 Qr prog .eql p1 x6 (.int .u8 1) fun x7=>
 IfK x7
 (Q5 x1 fun x8=>
 Qg x8 1 fun x9=>
 LdK h x9 fun x10=>
 Qj3 69 false (.pointer none) x10 fun x11=>
 Qb prog 22 #[x11,x2] h fun x12 h1=>
 R x12 h1)
 (Qr prog .eql p1 x6 (.int .u8 2) fun x13=>
 IfK x13
 (Q5 x1 fun x14=>
 Qg x14 1 fun x15=>
 LdK h x15 fun x16=>
 Qj3 p2 false (.pointer none) x16 fun x17=>
 Qb prog p3 #[x17,x2] h fun x18 h2=>
 R x18 h2)
 (Qr prog .eql p1 x6 (.int .u8 3) fun x19=>
 IfK x19
 (Q5 x1 fun x20=>
 Qg x20 1 fun x21=>
 LdK h x21 fun x22=>
 Qj3 p4 false (.pointer none) x22 fun x23=>
 Qb prog p5 #[x23,x2] h fun x24 h3=>
 R x24 h3)
 (R (.int .u32 0) h))))
def tp91 (p0:Nat) (p1:Nat) (x1 x2:Value) (h:Qe) (R:Kn):Prop:=
 Qr prog .eql p0 x1 (.pointer none) fun x3=>
 IfK x3
 (R (.int .u32 0) h)
 (Q5 x1 fun x4=>
 Qg x4 0 fun x5=>
 LdK h x5 fun x6=>
 Q5 x1 fun x7=>
 Qg x7 1 fun x8=>
 LdK h x8 fun x9=>
 Qb prog p1 #[x2,x6,x9] h fun x10 h1=>
 R x10 h1)
def tp106 (p0:Nat) (p1:Nat) (p2:Nat) (x1 x2:Value) (h:Qe) (R:Kn):Prop:=
 Qr prog .eql p0 x1 (.pointer none) fun x3=>
 IfK x3
 (R (.int .u32 0) h)
 (Qb prog p1 #[x2] h fun _x1 h1=>
 Qb prog p2 #[x2] h1 fun x4 h2=>
 R x4 h2)
def tp107 (p0:Nat) (p1:Nat) (p2:Nat) (p3:Nat) (x1 x2:Value) (h:Qe) (R:Kn):Prop:=
 Qr prog .eql p0 x1 (.pointer none) fun x3=>
 IfK x3
 (R (.int .u32 0) h)
 (Qb prog p1 #[x2] h fun _x1 h1=>
 Q5 x1 fun x4=>
 Qg x4 0 fun x5=>
 LdK h1 x5 fun x6=>
 Qb prog p2 #[x2,x6] h1 fun _x2 h2=>
 Qb prog p3 #[x2] h2 fun x7 h3=>
 R x7 h3)
def tp360 (p0:Nat) (p1:Nat) (x1 x2:Value) (h:Qe) (R:Kn):Prop:=
 Qb prog p0 #[x1] h fun x3 h1=>
 Qe0 x2 0 h1 x3 fun h2=>
 Qb prog p1 #[x1] h2 fun x4 h3=>
 Qe0 x2 1 h3 x4 fun h4=>
 R (.tuple #[]) h4
def tp9 (p0:Nat) (x1:Value) (h:Qe) (R:Kn):Prop:=
 YM h (.cells (Value.cells x1) 9) fun x2 h1=>
 YM h1 (.cells z52 52) fun x3 h2=>
 Qb prog 17 #[(.func (.func p0) #[] #[x2,x3])] h2 fun x4 h3=>
 ZN prog (Op.unary .not x4) fun x5=>
 ZN prog (Op.unary .not x5) fun x6=>
 IfK x6
 (QA z52.toList [] fun x7=>
 StK h3 51 x3 x7 fun h4=>
 LdN h4 51 x3 fun r1=>
 R (.tuple #[r1,(.bool false)]) h4)
 (LdN h3 51 x3 fun x8=>
 StK h3 51 x3 x8 fun h5=>
 LdN h5 51 x3 fun r2=>
 R (.tuple #[r2,(.bool true)]) h5)
def tp78 (x1:Value) (h:Qe) (R:Kn):Prop:=
 YR x1 fun x2=>
 Qr prog .eql 3 x2 (.int .i64 0) fun x3=>
 IfK x3
 (R (.slice none 0 0) h)
 (R x1 h)
def tp44 (p0:Nat) (p1:Array Value) (p2:Nat) (x1 x2:Value) (h:Qe) (R:Kn):Prop:=
 YR x1 fun x3=>
 YR x2 fun x4=>
 Qr prog .neq 3 x3 x4 fun x5=>
 IfK x5
 (R (.bool false) h)
 (QG (fun M1=>
 YR x1 fun x6=>
 YH [(.int .i64 0),(.bool false)] h fun I1 n1=>∀x7 x8:Value,∀h1:Qe,I1 n1 [x7,x8] h1->
 Qr prog .lss 3 x7 x6 fun x9=>
 IfK x9
 (Y7 p0 x1 x7 fun x10=>
 LdN h1 p0 x10 fun x11=>
 YM h1 (.cells p1 p2) fun x12 h2=>
 StK h2 p0 x12 x11 fun h3=>
 LdN h3 p0 x12 fun x13=>
 Y7 p0 x2 x7 fun x14=>
 LdN h3 p0 x14 fun x15=>
 Qr prog .neq p2 x13 x15 fun x16=>
 IfK x16
 (R (.bool false) h3)
 (Qr prog .add 3 x7 (.int .i64 1) fun x17=>
 QZ I1 n1 [x17,x8] h3))
 (M1 [x8] h1)) fun M1=>∀x18:Value,∀h4:Qe,M1 [x18] h4->
 R (.bool true) h4)
def tp47 (p0:Nat) (x1 x2:Value) (h:Qe) (R:Kn):Prop:=
 YR x1 fun x3=>
 YR x2 fun x4=>
 Qr prog .neq 3 x3 x4 fun x5=>
 IfK x5
 (R (.bool false) h)
 (QG (fun M1=>
 YR x1 fun x6=>
 YH [(.int .i64 0),(.bool false)] h fun I1 n1=>∀x7 x8:Value,∀h1:Qe,I1 n1 [x7,x8] h1->
 Qr prog .lss 3 x7 x6 fun x9=>
 IfK x9
 (Y7 1 x1 x7 fun x10=>
 LdK h1 x10 fun x11=>
 Y7 1 x2 x7 fun x12=>
 LdK h1 x12 fun x13=>
 Qr prog .neq p0 x11 x13 fun x14=>
 IfK x14
 (R (.bool false) h1)
 (Qr prog .add 3 x7 (.int .i64 1) fun x15=>
 QZ I1 n1 [x15,x8] h1))
 (M1 [x8] h1)) fun M1=>∀x16:Value,∀h2:Qe,M1 [x16] h2->
 R (.bool true) h2)
def tp24 (p0:Nat) (p1:Array Value) (p2:Nat) (p3:Nat) (p4:Nat) (x1:Value) (h:Qe) (R:Kn):Prop:=
 YM h (.cells (Value.cells x1) p0) fun x2 h1=>
 YM h1 (.cells p1 p2) fun x3 h2=>
 Qg x2 0 fun x4=>
 LdK h2 x4 fun x5=>
 Qg x2 1 fun x6=>
 LdK h2 x6 fun x7=>
 Qg x2 2 fun x8=>
 LdK h2 x8 fun x9=>
 Qb prog p3 #[x7,(.func (.func p4) #[] #[])] h2 fun x10 h3=>
 Qi h2 h3<|
 QA p1.toList [(0,1,x5),(1,1,x10),(2,1,x9)] fun x11=>
 StK h3 3 x3 x11 fun h4=>
 LdN h4 3 x3 fun r1=>
 R r1 h4
def tp27 (p0:Nat) (p1:Array Value) (p2:Nat) (p3:Nat) (x1:Value) (h:Qe) (R:Kn):Prop:=
 YM h (.cells (Value.cells x1) p0) fun x2 h1=>
 YM h1 (.cells p1 p2) fun x3 h2=>
 LdN h2 p3 x2 fun x4=>
 StK h2 p3 x3 x4 fun h3=>
 LdN h3 p3 x3 fun r1=>
 R r1 h3
end Go.Proofs
namespace Go.Proofs
open Go Go.Vc
open Tryz (prog)
set_option maxRecDepth 100000
def s176 (a:Value) (h:Qe) (R:Kn):Prop:=
 Qb prog 300 #[a] h fun b c=>
 Yl .u32 b fun d=>
 R d c
theorem w176 {a h R} (H:s176 a h R):FnS prog 176 #[a] h R:=wq Tryz.func176 (by kernel_rfl) H
theorem w300 {a h R} (H:tp300 .i32 21 a h R):FnS prog 300 #[a] h R:=wq Tryz.func300 (by kernel_rfl) H
theorem w339 {a b h R} (H:tp339 378 a b h R):FnS prog 339 #[a,b] h R:=wq Tryz.func339 (by kernel_rfl) H
theorem w340 {a b h R} (H:tp339 379 a b h R):FnS prog 340 #[a,b] h R:=wq Tryz.func340 (by kernel_rfl) H
def s349 (a c:Value) (h:Qe) (R:Kn):Prop:=
 Y7 1 a (.int .i64 0) fun d=>
 StK h 1 d (.int .u8 0) fun b=>
 IfK c
 (Y7 1 a (.int .i64 0) fun e=>
 StK b 1 e (.int .u8 1) fun f=>
 R (.tuple #[]) f)
 (R (.tuple #[]) b)
theorem w349 {a b h R} (H:s349 a b h R):FnS prog 349 #[a,b] h R:=wq Tryz.func349 (by kernel_rfl) H
theorem w351 {a b h R} (H:tp351 2 a b h R):FnS prog 351 #[a,b] h R:=wq Tryz.func351 (by kernel_rfl) H
def s352 (a b:Value) (h:Qe) (R:Kn):Prop:=
 QaO prog 174 #[b] fun c=>
 Qb prog 353 #[a,c] h fun _x7 d=>
 R (.tuple #[]) d
theorem w352 {a b h R} (H:s352 a b h R):FnS prog 352 #[a,b] h R:=wq Tryz.func352 (by kernel_rfl) H
theorem w353 {a b h R} (H:tp351 31 a b h R):FnS prog 353 #[a,b] h R:=wq Tryz.func353 (by kernel_rfl) H
theorem w367 {a h R} (H:tp367 .i16 23 a h R):FnS prog 367 #[a] h R:=wq Tryz.func367 (by kernel_rfl) H
theorem w368 {a h R} (H:Qg2 393 a h R):FnS prog 368 #[a] h R:=wq Tryz.func368 (by kernel_rfl) H
def s369 (a:Value) (h:Qe) (R:Kn):Prop:=
 Y7 1 a (.int .i64 0) fun b=>
 LdK h b fun c=>
 Qr prog .eql 5 c (.int .u8 1) fun d=>
 R d h
theorem w369 {a h R} (H:s369 a h R):FnS prog 369 #[a] h R:=wq Tryz.func369 (by kernel_rfl) H
theorem w370 {a h R} (H:tp300 .u32 30 a h R):FnS prog 370 #[a] h R:=wq Tryz.func370 (by kernel_rfl) H
theorem w371 {a h R} (H:tp371 .i64 2 a h R):FnS prog 371 #[a] h R:=wq Tryz.func371 (by kernel_rfl) H
theorem w372 {a h R} (H:tp371 .u64 31 a h R):FnS prog 372 #[a] h R:=wq Tryz.func372 (by kernel_rfl) H
def s373 (a:Value) (h:Qe) (R:Kn):Prop:=
 Qb prog 370 #[a] h fun b c=>
 QaO prog 80 #[b] fun d=>
 R d c
theorem w373 {a h R} (H:s373 a h R):FnS prog 373 #[a] h R:=wq Tryz.func373 (by kernel_rfl) H
def s374 (a:Value) (h:Qe) (R:Kn):Prop:=
 Y7 1 a (.int .i64 0) fun b=>
 LdK h b fun c=>
 Yl .i8 c fun d=>
 R d h
theorem w374 {a h R} (H:s374 a h R):FnS prog 374 #[a] h R:=wq Tryz.func374 (by kernel_rfl) H
def s375 (a:Value) (h:Qe) (R:Kn):Prop:=
 Qb prog 372 #[a] h fun b c=>
 QaO prog 84 #[b] fun d=>
 R d c
theorem w375 {a h R} (H:s375 a h R):FnS prog 375 #[a] h R:=wq Tryz.func375 (by kernel_rfl) H
theorem w376 {a h R} (H:tp367 .u16 39 a h R):FnS prog 376 #[a] h R:=wq Tryz.func376 (by kernel_rfl) H
theorem w378 {a b h R} (H:tp378 30 a b h R):FnS prog 378 #[a,b] h R:=wq Tryz.func378 (by kernel_rfl) H
def s379 (a b:Value) (h:Qe) (R:Kn):Prop:=
 Y7 1 a (.int .i64 0) fun c=>
 StK h 1 c b fun d=>
 R (.tuple #[]) d
theorem w379 {a b h R} (H:s379 a b h R):FnS prog 379 #[a,b] h R:=wq Tryz.func379 (by kernel_rfl) H
theorem w387 {a h R} (H:Qg2 376 a h R):FnS prog 387 #[a] h R:=wq Tryz.func387 (by kernel_rfl) H
theorem w390 {a b h R} (H:tp339 398 a b h R):FnS prog 390 #[a,b] h R:=wq Tryz.func390 (by kernel_rfl) H
theorem w392 {a h R} (H:Qg2 300 a h R):FnS prog 392 #[a] h R:=wq Tryz.func392 (by kernel_rfl) H
def s393 (a:Value) (h:Qe) (R:Kn):Prop:=
 Y7 1 a (.int .i64 0) fun b=>
 LdK h b fun c=>
 R c h
theorem w393 {a h R} (H:s393 a h R):FnS prog 393 #[a] h R:=wq Tryz.func393 (by kernel_rfl) H
def s394 (a b:Value) (h:Qe) (R:Kn):Prop:=
 Yl .u8 b fun c=>
 Y7 1 a (.int .i64 0) fun d=>
 StK h 1 d c fun e=>
 R (.tuple #[]) e
theorem w394 {a b h R} (H:s394 a b h R):FnS prog 394 #[a,b] h R:=wq Tryz.func394 (by kernel_rfl) H
theorem w395 {a b h R} (H:tp395 23 a b h R):FnS prog 395 #[a,b] h R:=wq Tryz.func395 (by kernel_rfl) H
def s397 (a b:Value) (h:Qe) (R:Kn):Prop:=
 QaO prog 172 #[b] fun c=>
 Qb prog 378 #[a,c] h fun _x7 d=>
 R (.tuple #[]) d
theorem w397 {a b h R} (H:s397 a b h R):FnS prog 397 #[a,b] h R:=wq Tryz.func397 (by kernel_rfl) H
theorem w398 {a b h R} (H:tp378 21 a b h R):FnS prog 398 #[a,b] h R:=wq Tryz.func398 (by kernel_rfl) H
theorem w401 {a b h R} (H:tp395 39 a b h R):FnS prog 401 #[a,b] h R:=wq Tryz.func401 (by kernel_rfl) H
theorem w402 {a b h R} (H:tp339 401 a b h R):FnS prog 402 #[a,b] h R:=wq Tryz.func402 (by kernel_rfl) H
end Go.Proofs
namespace Go.Proofs
open Go Go.Vc
open Tryz (prog)
abbrev bsl (b o n c:Nat):Value:=.slice (some ⟨b,o,none⟩) n c
theorem Z9 {H:Qe} {b:Nat} {bs:List UInt8} (h:U8s H b 0 bs) {o i:Nat} (hi:o+i<bs.length):Qb2 H ⟨b,o+i,none⟩=some (.int .u8 (byteN bs (o+i))):=
 h.at (by omega) hi
section
variable {H:Qe} {b o n c:Nat} {bs:List UInt8} (hb:U8s H b 0 bs) {R:Kn}
include hb
set_option maxHeartbeats 1000000 in
theorem QiV (hl:o+2<=bs.length) (hn:2<=n) (hR:R (.int .u16 (le2 bs o:Int)) H):FnS prog 376 #[bsl b o n c] H R:=by
 have c0:=Z9 hb (o:=o) (i:=0) (by omega)
 have b0:=Y8 bs (o+0)
 have i0:(0:Int)<n:=by omega
 have c1:=Z9 hb (o:=o) (i:=1) (by omega)
 have b1:=Y8 bs (o+1)
 have i1:(1:Int)<n:=by omega
 apply w376
 unfold tp367
 simp only[↓QP (by decide:(0:Int)<=0) i0,↓QP (by decide:(0:Int)<=1) i1,show Int.toNat 0=0 from rfl,show Int.toNat 1=1 from rfl,Nat.zero_mul,Nat.mul_one,Nat.one_mul,↓Ql c0,↓Ql c1,↓QO,↓Qip,↓Zx (by decide:(0:Int)<=8)]
 have g:=get2_val (κ:=.u16) (by decide) b0 b1
 simp only[Nat.add_zero]at g⊢
 simp only[show Int.toNat 8=8 from rfl]
 rw[g]
 skip
 have e:IntKind.u16.wrap (le2 bs o:Int)=le2 bs o:=wrap_u16 (by omega) (by have:=le2_lt bs o;omega)
 rw[<-e]at hR;exact hR
set_option maxHeartbeats 1000000 in
theorem go_GetInt16 (hl:o+2<=bs.length) (hn:2<=n) (hR:R (.int .i16 (IntKind.i16.wrap (le2 bs o:Int))) H):FnS prog 367 #[bsl b o n c] H R:=by
 have c0:=Z9 hb (o:=o) (i:=0) (by omega)
 have b0:=Y8 bs (o+0)
 have i0:(0:Int)<n:=by omega
 have c1:=Z9 hb (o:=o) (i:=1) (by omega)
 have b1:=Y8 bs (o+1)
 have i1:(1:Int)<n:=by omega
 apply w367
 unfold tp367
 simp only[↓QP (by decide:(0:Int)<=0) i0,↓QP (by decide:(0:Int)<=1) i1,show Int.toNat 0=0 from rfl,show Int.toNat 1=1 from rfl,Nat.zero_mul,Nat.mul_one,Nat.one_mul,↓Ql c0,↓Ql c1,↓QO,↓Qip,↓Zx (by decide:(0:Int)<=8)]
 have g:=get2_val (κ:=.i16) (by decide) b0 b1
 simp only[Nat.add_zero]at g⊢
 simp only[show Int.toNat 8=8 from rfl]
 rw[g]
 skip
 skip
 exact hR
set_option maxHeartbeats 1000000 in
theorem QiR (hl:o+4<=bs.length) (hn:4<=n) (hR:R (.int .u32 (le4 bs o:Int)) H):FnS prog 370 #[bsl b o n c] H R:=by
 have c0:=Z9 hb (o:=o) (i:=0) (by omega)
 have b0:=Y8 bs (o+0)
 have i0:(0:Int)<n:=by omega
 have c1:=Z9 hb (o:=o) (i:=1) (by omega)
 have b1:=Y8 bs (o+1)
 have i1:(1:Int)<n:=by omega
 have c2:=Z9 hb (o:=o) (i:=2) (by omega)
 have b2:=Y8 bs (o+2)
 have i2:(2:Int)<n:=by omega
 have c3:=Z9 hb (o:=o) (i:=3) (by omega)
 have b3:=Y8 bs (o+3)
 have i3:(3:Int)<n:=by omega
 apply w370
 unfold tp300
 simp only[↓QP (by decide:(0:Int)<=0) i0,↓QP (by decide:(0:Int)<=1) i1,↓QP (by decide:(0:Int)<=2) i2,↓QP (by decide:(0:Int)<=3) i3,show Int.toNat 0=0 from rfl,show Int.toNat 1=1 from rfl,show Int.toNat 2=2 from rfl,show Int.toNat 3=3 from rfl,Nat.zero_mul,Nat.mul_one,Nat.one_mul,↓Ql c0,↓Ql c1,↓Ql c2,↓Ql c3,↓QO,↓Qip,↓Zx (by decide:(0:Int)<=8),↓Zx (by decide:(0:Int)<=16),↓Zx (by decide:(0:Int)<=24)]
 have g:=get4_val (κ:=.u32) (by decide) b0 b1 b2 b3
 simp only[Nat.add_zero]at g⊢
 simp only[show Int.toNat 8=8 from rfl,show Int.toNat 16=16 from rfl,show Int.toNat 24=24 from rfl]
 rw[g]
 rw[<-le4_eq]
 have e:IntKind.u32.wrap (le4 bs o:Int)=le4 bs o:=QT (by omega) (by have:=le4_lt bs o;omega)
 rw[<-e]at hR;exact hR
set_option maxHeartbeats 1000000 in
theorem Qhk (hl:o+4<=bs.length) (hn:4<=n) (hR:R (.int .i32 (IntKind.i32.wrap (le4 bs o:Int))) H):FnS prog 300 #[bsl b o n c] H R:=by
 have c0:=Z9 hb (o:=o) (i:=0) (by omega)
 have b0:=Y8 bs (o+0)
 have i0:(0:Int)<n:=by omega
 have c1:=Z9 hb (o:=o) (i:=1) (by omega)
 have b1:=Y8 bs (o+1)
 have i1:(1:Int)<n:=by omega
 have c2:=Z9 hb (o:=o) (i:=2) (by omega)
 have b2:=Y8 bs (o+2)
 have i2:(2:Int)<n:=by omega
 have c3:=Z9 hb (o:=o) (i:=3) (by omega)
 have b3:=Y8 bs (o+3)
 have i3:(3:Int)<n:=by omega
 apply w300
 unfold tp300
 simp only[↓QP (by decide:(0:Int)<=0) i0,↓QP (by decide:(0:Int)<=1) i1,↓QP (by decide:(0:Int)<=2) i2,↓QP (by decide:(0:Int)<=3) i3,show Int.toNat 0=0 from rfl,show Int.toNat 1=1 from rfl,show Int.toNat 2=2 from rfl,show Int.toNat 3=3 from rfl,Nat.zero_mul,Nat.mul_one,Nat.one_mul,↓Ql c0,↓Ql c1,↓Ql c2,↓Ql c3,↓QO,↓Qip,↓Zx (by decide:(0:Int)<=8),↓Zx (by decide:(0:Int)<=16),↓Zx (by decide:(0:Int)<=24)]
 have g:=get4_val (κ:=.i32) (by decide) b0 b1 b2 b3
 simp only[Nat.add_zero]at g⊢
 simp only[show Int.toNat 8=8 from rfl,show Int.toNat 16=16 from rfl,show Int.toNat 24=24 from rfl]
 rw[g]
 rw[<-le4_eq]
 skip
 exact hR
set_option maxHeartbeats 1000000 in
theorem QiN (hl:o+8<=bs.length) (hn:8<=n) (hR:R (.int .u64 (le8 bs o:Int)) H):FnS prog 372 #[bsl b o n c] H R:=by
 have c0:=Z9 hb (o:=o) (i:=0) (by omega)
 have b0:=Y8 bs (o+0)
 have i0:(0:Int)<n:=by omega
 have c1:=Z9 hb (o:=o) (i:=1) (by omega)
 have b1:=Y8 bs (o+1)
 have i1:(1:Int)<n:=by omega
 have c2:=Z9 hb (o:=o) (i:=2) (by omega)
 have b2:=Y8 bs (o+2)
 have i2:(2:Int)<n:=by omega
 have c3:=Z9 hb (o:=o) (i:=3) (by omega)
 have b3:=Y8 bs (o+3)
 have i3:(3:Int)<n:=by omega
 have c4:=Z9 hb (o:=o) (i:=4) (by omega)
 have b4:=Y8 bs (o+4)
 have i4:(4:Int)<n:=by omega
 have c5:=Z9 hb (o:=o) (i:=5) (by omega)
 have b5:=Y8 bs (o+5)
 have i5:(5:Int)<n:=by omega
 have c6:=Z9 hb (o:=o) (i:=6) (by omega)
 have b6:=Y8 bs (o+6)
 have i6:(6:Int)<n:=by omega
 have c7:=Z9 hb (o:=o) (i:=7) (by omega)
 have b7:=Y8 bs (o+7)
 have i7:(7:Int)<n:=by omega
 apply w372
 unfold tp371
 simp only[↓QP (by decide:(0:Int)<=0) i0,↓QP (by decide:(0:Int)<=1) i1,↓QP (by decide:(0:Int)<=2) i2,↓QP (by decide:(0:Int)<=3) i3,↓QP (by decide:(0:Int)<=4) i4,↓QP (by decide:(0:Int)<=5) i5,↓QP (by decide:(0:Int)<=6) i6,↓QP (by decide:(0:Int)<=7) i7,show Int.toNat 0=0 from rfl,show Int.toNat 1=1 from rfl,show Int.toNat 2=2 from rfl,show Int.toNat 3=3 from rfl,show Int.toNat 4=4 from rfl,show Int.toNat 5=5 from rfl,show Int.toNat 6=6 from rfl,show Int.toNat 7=7 from rfl,Nat.zero_mul,Nat.mul_one,Nat.one_mul,↓Ql c0,↓Ql c1,↓Ql c2,↓Ql c3,↓Ql c4,↓Ql c5,↓Ql c6,↓Ql c7,↓QO,↓Qip,↓Zx (by decide:(0:Int)<=8),↓Zx (by decide:(0:Int)<=16),↓Zx (by decide:(0:Int)<=24),↓Zx (by decide:(0:Int)<=32),↓Zx (by decide:(0:Int)<=40),↓Zx (by decide:(0:Int)<=48),↓Zx (by decide:(0:Int)<=56)]
 have g:=get8_val (κ:=.u64) (by decide) b0 b1 b2 b3 b4 b5 b6 b7
 simp only[Nat.add_zero]at g⊢
 simp only[show Int.toNat 8=8 from rfl,show Int.toNat 16=16 from rfl,show Int.toNat 24=24 from rfl,show Int.toNat 32=32 from rfl,show Int.toNat 40=40 from rfl,show Int.toNat 48=48 from rfl,show Int.toNat 56=56 from rfl]
 rw[g]
 rw[<-le8_eq]
 have e:IntKind.u64.wrap (le8 bs o:Int)=le8 bs o:=wrap_u64 (by omega) (by have:=le8_lt bs o;omega)
 rw[<-e]at hR;exact hR
set_option maxHeartbeats 1000000 in
theorem go_GetInt64 (hl:o+8<=bs.length) (hn:8<=n) (hR:R (.int .i64 (IntKind.i64.wrap (le8 bs o:Int))) H):FnS prog 371 #[bsl b o n c] H R:=by
 have c0:=Z9 hb (o:=o) (i:=0) (by omega)
 have b0:=Y8 bs (o+0)
 have i0:(0:Int)<n:=by omega
 have c1:=Z9 hb (o:=o) (i:=1) (by omega)
 have b1:=Y8 bs (o+1)
 have i1:(1:Int)<n:=by omega
 have c2:=Z9 hb (o:=o) (i:=2) (by omega)
 have b2:=Y8 bs (o+2)
 have i2:(2:Int)<n:=by omega
 have c3:=Z9 hb (o:=o) (i:=3) (by omega)
 have b3:=Y8 bs (o+3)
 have i3:(3:Int)<n:=by omega
 have c4:=Z9 hb (o:=o) (i:=4) (by omega)
 have b4:=Y8 bs (o+4)
 have i4:(4:Int)<n:=by omega
 have c5:=Z9 hb (o:=o) (i:=5) (by omega)
 have b5:=Y8 bs (o+5)
 have i5:(5:Int)<n:=by omega
 have c6:=Z9 hb (o:=o) (i:=6) (by omega)
 have b6:=Y8 bs (o+6)
 have i6:(6:Int)<n:=by omega
 have c7:=Z9 hb (o:=o) (i:=7) (by omega)
 have b7:=Y8 bs (o+7)
 have i7:(7:Int)<n:=by omega
 apply w371
 unfold tp371
 simp only[↓QP (by decide:(0:Int)<=0) i0,↓QP (by decide:(0:Int)<=1) i1,↓QP (by decide:(0:Int)<=2) i2,↓QP (by decide:(0:Int)<=3) i3,↓QP (by decide:(0:Int)<=4) i4,↓QP (by decide:(0:Int)<=5) i5,↓QP (by decide:(0:Int)<=6) i6,↓QP (by decide:(0:Int)<=7) i7,show Int.toNat 0=0 from rfl,show Int.toNat 1=1 from rfl,show Int.toNat 2=2 from rfl,show Int.toNat 3=3 from rfl,show Int.toNat 4=4 from rfl,show Int.toNat 5=5 from rfl,show Int.toNat 6=6 from rfl,show Int.toNat 7=7 from rfl,Nat.zero_mul,Nat.mul_one,Nat.one_mul,↓Ql c0,↓Ql c1,↓Ql c2,↓Ql c3,↓Ql c4,↓Ql c5,↓Ql c6,↓Ql c7,↓QO,↓Qip,↓Zx (by decide:(0:Int)<=8),↓Zx (by decide:(0:Int)<=16),↓Zx (by decide:(0:Int)<=24),↓Zx (by decide:(0:Int)<=32),↓Zx (by decide:(0:Int)<=40),↓Zx (by decide:(0:Int)<=48),↓Zx (by decide:(0:Int)<=56)]
 have g:=get8_val (κ:=.i64) (by decide) b0 b1 b2 b3 b4 b5 b6 b7
 simp only[Nat.add_zero]at g⊢
 simp only[show Int.toNat 8=8 from rfl,show Int.toNat 16=16 from rfl,show Int.toNat 24=24 from rfl,show Int.toNat 32=32 from rfl,show Int.toNat 40=40 from rfl,show Int.toNat 48=48 from rfl,show Int.toNat 56=56 from rfl]
 rw[g]
 rw[<-le8_eq]
 skip
 exact hR
theorem go_GetUint8 (hl:o+1<=bs.length) (hn:1<=n) (hR:R (.int .u8 (byteN bs o)) H):FnS prog 393 #[bsl b o n c] H R:=by
 have c0:Qb2 H ⟨b,o,none⟩=some (.int .u8 (byteN bs o)):=hb.at (by omega) (by omega)
 have i0:(0:Int)<n:=by omega
 apply w393
 unfold s393
 simp only[↓QP (Int.le_refl 0) i0,Int.toNat_zero,Nat.zero_mul,↓Ql c0,↓QO,Nat.add_zero,wrap_u8 (Int.natCast_nonneg _) (by have:=Y8 bs o;omega:((byteN bs o:Nat):Int)<256)]
 exact hR
theorem go_GetInt8 (hl:o+1<=bs.length) (hn:1<=n) (hR:R (.int .i8 (IntKind.i8.wrap (byteN bs o))) H):FnS prog 374 #[bsl b o n c] H R:=by
 have c0:Qb2 H ⟨b,o,none⟩=some (.int .u8 (byteN bs o)):=hb.at (by omega) (by omega)
 have i0:(0:Int)<n:=by omega
 apply w374
 unfold s374
 simp only[↓QP (Int.le_refl 0) i0,Int.toNat_zero,Nat.zero_mul,↓Ql c0,↓QO,Nat.add_zero]
 exact hR
theorem go_GetBool (hl:o+1<=bs.length) (hn:1<=n) (hR:R (.bool (decide ((byteN bs o:Int)=1))) H):FnS prog 369 #[bsl b o n c] H R:=by
 have c0:Qb2 H ⟨b,o,none⟩=some (.int .u8 (byteN bs o)):=hb.at (by omega) (by omega)
 have i0:(0:Int)<n:=by omega
 apply w369
 unfold s369
 simp only[↓QP (Int.le_refl 0) i0,Int.toNat_zero,Nat.zero_mul,↓Ql c0,↓Yo,Nat.add_zero]
 exact hR
theorem go_GetByte (hl:o+1<=bs.length) (hn:1<=n) (hR:R (.int .u8 (byteN bs o)) H):FnS prog 368 #[bsl b o n c] H R:=by
 apply w368
 unfold Qg2
 refine go_GetUint8 hb hl hn ?_
 exact hR
theorem ZR (hl:o+4<=bs.length) (hn:4<=n) (hR:R (.int .u32 (le4 bs o:Int)) H):FnS prog 176 #[bsl b o n c] H R:=by
 apply w176
 unfold s176
 refine Qhk hb hl hn ?_
 have e:IntKind.u32.wrap (IntKind.i32.wrap (le4 bs o:Int))=(le4 bs o:Int):=by
  have h:=Qdu .i32 (le4 bs o:Int)
  have h2:=le4_lt bs o
  rw[Qf4 .u32 (y:=(le4 bs o:Int)) (by exact h)]
  exact QT (by omega) (by omega)
 simp only[↓QO,e]
 exact hR
theorem go_GetSOffsetT (hl:o+4<=bs.length) (hn:4<=n) (hR:R (.int .i32 (IntKind.i32.wrap (le4 bs o:Int))) H):FnS prog 392 #[bsl b o n c] H R:=by
 apply w392
 unfold Qg2
 refine Qhk hb hl hn ?_
 exact hR
theorem Qdi (hl:o+2<=bs.length) (hn:2<=n) (hR:R (.int .u16 (le2 bs o:Int)) H):FnS prog 387 #[bsl b o n c] H R:=by
 apply w387
 unfold Qg2
 refine QiV hb hl hn ?_
 exact hR
omit hb in
theorem Zh {w:World} {n:Int}:(callFunc 80 #[.int .u32 n]).run prog w= .ok (.value (.float .f32 n.toNat)) w:=by
 rw[run_callFunc_extern (fn:=Tryz.f80) (e:=Extern.MathFloatBits.float32frombits) Tryz.func80 (by kernel_rfl) (by kernel_rfl) (by kernel_rfl) (by kernel_rfl)]
 rfl
omit hb in
theorem QH {P:Program} {f:FuncId} {args:Array Value} {v:Value} {k:Value->Prop} (h:∀w,(callFunc f args).run P w= .ok (.value v) w) (hk:k v):QaO P f args k:=⟨v,h,hk⟩
theorem go_GetFloat32 (hl:o+4<=bs.length) (hn:4<=n) (hR:R (.float .f32 (le4 bs o)) H):FnS prog 373 #[bsl b o n c] H R:=by
 apply w373
 unfold s373
 refine QiR hb hl hn ?_
 refine QH (fun w=>Zh) ?_
 exact hR
omit hb in
theorem Qce {w:World} {n:Int}:(callFunc 84 #[.int .u64 n]).run prog w= .ok (.value (.float .f64 n.toNat)) w:=by
 rw[run_callFunc_extern (fn:=Tryz.f84) (e:=Extern.MathFloatBits.float64frombits) Tryz.func84 (by kernel_rfl) (by kernel_rfl) (by kernel_rfl) (by kernel_rfl)]
 rfl
theorem go_GetFloat64 (hl:o+8<=bs.length) (hn:8<=n) (hR:R (.float .f64 (le8 bs o)) H):FnS prog 375 #[bsl b o n c] H R:=by
 apply w375
 unfold s375
 refine QiN hb hl hn ?_
 refine QH (fun w=>Qce) ?_
 exact hR
end
end Go.Proofs
namespace Go.Proofs
open Go Go.Vc
open Tryz (prog)
set_option maxRecDepth 100000
def s314 (a b:Value) (h:Qe) (R:Kn):Prop:=
 Q5 a fun f=>
 Qg f 1 fun g=>
 LdK h g fun i=>
 Yl .i32 i fun j=>
 Q5 a fun l=>
 Qg l 1 fun m=>
 LdK h m fun o=>
 Qb prog 365 #[a,o] h fun p c=>
 Qi h c<|
 Qr prog .sub 335 j p fun q=>
 Yl .u32 q fun d=>
 Qb prog 366 #[a,d] c fun r e=>
 Qr prog .lss 295 b r fun s=>
 IfK s
 (Yl .u32 b fun t=>
 Qr prog .add 68 d t fun u=>
 Qb prog 366 #[a,u] e fun v w=>
 R v w)
 (R (.int .u16 0) e)
theorem w314 {a b h R} (H:s314 a b h R):FnS prog 314 #[a,b] h R:=wq Tryz.func314 (by kernel_rfl) H
theorem w315 {a b h R} (H:QcN 367 a b h R):FnS prog 315 #[a,b] h R:=wq Tryz.func315 (by kernel_rfl) H
def s316 (a b:Value) (h:Qe) (R:Kn):Prop:=
 Q5 a fun g=>
 Qg g 0 fun i=>
 LdK h i fun j=>
 QfZ 1 j (some b) none fun l=>
 Qb prog 176 #[l] h fun m c=>
 Qr prog .add 68 b m fun d=>
 Qr prog .add 68 d (.int .u32 4) fun e=>
 Q5 a fun o=>
 Qg o 0 fun p=>
 LdK c p fun q=>
 QfZ 1 q (some d) none fun r=>
 Qb prog 176 #[r] c fun s f=>
 Q5 a fun t=>
 Qg t 0 fun u=>
 LdK f u fun v=>
 Qr prog .add 68 e s fun w=>
 QfZ 1 v (some e) (some w) fun y=>
 R y f
theorem w316 {a b h R} (H:s316 a b h R):FnS prog 316 #[a,b] h R:=wq Tryz.func316 (by kernel_rfl) H
theorem w317 {a b h R} (H:QcN 368 a b h R):FnS prog 317 #[a,b] h R:=wq Tryz.func317 (by kernel_rfl) H
theorem w318 {a b h R} (H:QcN 369 a b h R):FnS prog 318 #[a,b] h R:=wq Tryz.func318 (by kernel_rfl) H
theorem w319 {a b h R} (H:QcN 300 a b h R):FnS prog 319 #[a,b] h R:=wq Tryz.func319 (by kernel_rfl) H
theorem w320 {a b h R} (H:QcN 370 a b h R):FnS prog 320 #[a,b] h R:=wq Tryz.func320 (by kernel_rfl) H
theorem w321 {a b h R} (H:QcN 371 a b h R):FnS prog 321 #[a,b] h R:=wq Tryz.func321 (by kernel_rfl) H
theorem w322 {a b h R} (H:QcN 372 a b h R):FnS prog 322 #[a,b] h R:=wq Tryz.func322 (by kernel_rfl) H
theorem w323 {a b h R} (H:QcN 373 a b h R):FnS prog 323 #[a,b] h R:=wq Tryz.func323 (by kernel_rfl) H
def s324 (b a:Value) (h:Qe) (R:Kn):Prop:=
 Q5 b fun c=>
 Qg c 0 fun d=>
 LdK h d fun e=>
 QfZ 1 e (some a) none fun f=>
 Qb prog 176 #[f] h fun g i=>
 Qr prog .add 68 a g fun j=>
 R j i
theorem w324 {a b h R} (H:s324 a b h R):FnS prog 324 #[a,b] h R:=wq Tryz.func324 (by kernel_rfl) H
theorem w326 {a b h R} (H:QcN 374 a b h R):FnS prog 326 #[a,b] h R:=wq Tryz.func326 (by kernel_rfl) H
theorem w329 {a b h R} (H:QcN 375 a b h R):FnS prog 329 #[a,b] h R:=wq Tryz.func329 (by kernel_rfl) H
def s330 (a d:Value) (h:Qe) (R:Kn):Prop:=
 Q5 a fun e=>
 Qg e 1 fun f=>
 LdK h f fun g=>
 Qr prog .add 68 d g fun b=>
 Q5 a fun i=>
 Qg i 0 fun j=>
 LdK h j fun l=>
 QfZ 1 l (some b) none fun m=>
 Qb prog 176 #[m] h fun o c=>
 Qr prog .add 68 b o fun p=>
 Q5 a fun q=>
 Qg q 0 fun r=>
 LdK c r fun s=>
 QfZ 1 s (some p) none fun t=>
 Qb prog 176 #[t] c fun u v=>
 Yl .i64 u fun w=>
 R w v
theorem w330 {a b h R} (H:s330 a b h R):FnS prog 330 #[a,b] h R:=wq Tryz.func330 (by kernel_rfl) H
def s331 (a c:Value) (h:Qe) (R:Kn):Prop:=
 Q5 a fun d=>
 Qg d 1 fun e=>
 LdK h e fun f=>
 Qr prog .add 68 c f fun b=>
 Q5 a fun g=>
 Qg g 0 fun i=>
 LdK h i fun j=>
 QfZ 1 j (some b) none fun l=>
 Qb prog 176 #[l] h fun m o=>
 Qr prog .add 68 b m fun p=>
 Qr prog .add 68 p (.int .u32 4) fun q=>
 R q o
theorem w331 {a b h R} (H:s331 a b h R):FnS prog 331 #[a,b] h R:=wq Tryz.func331 (by kernel_rfl) H
theorem w333 {a b h R} (H:QcN 376 a b h R):FnS prog 333 #[a,b] h R:=wq Tryz.func333 (by kernel_rfl) H
def s336 (a b e:Value) (h:Qe) (R:Kn):Prop:=
 Q5 a fun f=>
 Qg f 1 fun g=>
 LdK h g fun i=>
 Qr prog .add 68 e i fun c=>
 Qb prog 377 #[a,c] h fun j l=>
 Qr prog .add 68 c j fun m=>
 Q5 b fun o=>
 Qg o 1 fun p=>
 StK l 1 p m fun d=>
 Q5 a fun q=>
 Qg q 0 fun r=>
 LdK d r fun s=>
 Q5 b fun t=>
 Qg t 0 fun u=>
 StK d 1 u s fun v=>
 R (.tuple #[]) v
theorem w336 {a b c h R} (H:s336 a b c h R):FnS prog 336 #[a,b,c] h R:=wq Tryz.func336 (by kernel_rfl) H
theorem w365 {a b h R} (H:QcN 392 a b h R):FnS prog 365 #[a,b] h R:=wq Tryz.func365 (by kernel_rfl) H
theorem w366 {a b h R} (H:QcN 387 a b h R):FnS prog 366 #[a,b] h R:=wq Tryz.func366 (by kernel_rfl) H
theorem w377 {a b h R} (H:QcN 176 a b h R):FnS prog 377 #[a,b] h R:=wq Tryz.func377 (by kernel_rfl) H
end Go.Proofs
namespace Go.Proofs
open Go Go.Vc
open Tryz (prog)
set_option maxRecDepth 100000
def s41 (a b:Value) (h:Qe) (R:Kn):Prop:=
 QfZ 1 a (some b) none fun d=>
 Qb prog 176 #[d] h fun e f=>
 QA z213.toList [] fun g=>
 YM f (.cells (Value.cells g) 213) fun c i=>
 Qr prog .add 68 e b fun j=>
 Qb prog 177 #[c,a,j] i fun _x18 l=>
 R c l
theorem w41 {a b h R} (H:s41 a b h R):FnS prog 41 #[a,b] h R:=wq Tryz.func41 (by kernel_rfl) H
theorem w43 {a h R} (H:tp43 101 z157 157 178 a h R):FnS prog 43 #[a] h R:=wq Tryz.func43 (by kernel_rfl) H
theorem w90 {a b h R} (H:QhA 4 2 a b h R):FnS prog 90 #[a,b] h R:=wq Tryz.func90 (by kernel_rfl) H
theorem w93 {a b h R} (H:QhA 4 4 a b h R):FnS prog 93 #[a,b] h R:=wq Tryz.func93 (by kernel_rfl) H
theorem w94 {a b h R} (H:QhA 4 4 a b h R):FnS prog 94 #[a,b] h R:=wq Tryz.func94 (by kernel_rfl) H
theorem w96 {a b h R} (H:QhA 1 1 a b h R):FnS prog 96 #[a,b] h R:=wq Tryz.func96 (by kernel_rfl) H
theorem w98 {a b h R} (H:QhA 4 4 a b h R):FnS prog 98 #[a,b] h R:=wq Tryz.func98 (by kernel_rfl) H
theorem w99 {a b h R} (H:QhA 8 4 a b h R):FnS prog 99 #[a,b] h R:=wq Tryz.func99 (by kernel_rfl) H
theorem w101 {a b h R} (H:QhA 4 2 a b h R):FnS prog 101 #[a,b] h R:=wq Tryz.func101 (by kernel_rfl) H
theorem w102 {a b h R} (H:QhA 8 8 a b h R):FnS prog 102 #[a,b] h R:=wq Tryz.func102 (by kernel_rfl) H
theorem w104 {a b h R} (H:QhA 8 8 a b h R):FnS prog 104 #[a,b] h R:=wq Tryz.func104 (by kernel_rfl) H
theorem w108 {a b h R} (H:QhA 4 4 a b h R):FnS prog 108 #[a,b] h R:=wq Tryz.func108 (by kernel_rfl) H
theorem w109 {a b h R} (H:QhA 8 8 a b h R):FnS prog 109 #[a,b] h R:=wq Tryz.func109 (by kernel_rfl) H
theorem w111 {a b h R} (H:QhA 4 4 a b h R):FnS prog 111 #[a,b] h R:=wq Tryz.func111 (by kernel_rfl) H
theorem w112 {a b h R} (H:QhA 8 8 a b h R):FnS prog 112 #[a,b] h R:=wq Tryz.func112 (by kernel_rfl) H
theorem w113 {a b h R} (H:QhA 8 8 a b h R):FnS prog 113 #[a,b] h R:=wq Tryz.func113 (by kernel_rfl) H
theorem w116 {a b h R} (H:QhA 1 1 a b h R):FnS prog 116 #[a,b] h R:=wq Tryz.func116 (by kernel_rfl) H
theorem w118 {a h R} (H:Qj9 49 a h R):FnS prog 118 #[a] h R:=wq Tryz.func118 (by kernel_rfl) H
theorem w120 {a b h R} (H:Yn 288 0 .u32 0 a b h R):FnS prog 120 #[a,b] h R:=wq Tryz.func120 (by kernel_rfl) H
theorem w121 {a b h R} (H:Yn 289 1 .i16 150 a b h R):FnS prog 121 #[a,b] h R:=wq Tryz.func121 (by kernel_rfl) H
theorem w122 {a b h R} (H:Yn 289 2 .i16 100 a b h R):FnS prog 122 #[a,b] h R:=wq Tryz.func122 (by kernel_rfl) H
theorem w123 {a b h R} (H:Yn 290 3 .u32 0 a b h R):FnS prog 123 #[a,b] h R:=wq Tryz.func123 (by kernel_rfl) H
theorem w124 {a b h R} (H:Yn 290 5 .u32 0 a b h R):FnS prog 124 #[a,b] h R:=wq Tryz.func124 (by kernel_rfl) H
theorem w125 {a b h R} (H:Yn 291 6 .u8 8 a b h R):FnS prog 125 #[a,b] h R:=wq Tryz.func125 (by kernel_rfl) H
theorem w126 {a b h R} (H:Yn 291 7 .u8 0 a b h R):FnS prog 126 #[a,b] h R:=wq Tryz.func126 (by kernel_rfl) H
theorem w127 {a b h R} (H:Yn 290 8 .u32 0 a b h R):FnS prog 127 #[a,b] h R:=wq Tryz.func127 (by kernel_rfl) H
theorem w128 {a b h R} (H:Yn 290 9 .u32 0 a b h R):FnS prog 128 #[a,b] h R:=wq Tryz.func128 (by kernel_rfl) H
theorem w129 {a b h R} (H:Yn 290 10 .u32 0 a b h R):FnS prog 129 #[a,b] h R:=wq Tryz.func129 (by kernel_rfl) H
theorem w130 {a b h R} (H:Yn 290 11 .u32 0 a b h R):FnS prog 130 #[a,b] h R:=wq Tryz.func130 (by kernel_rfl) H
theorem w131 {a b h R} (H:Yn 290 12 .u32 0 a b h R):FnS prog 131 #[a,b] h R:=wq Tryz.func131 (by kernel_rfl) H
theorem w132 {a b h R} (H:Yn 290 13 .u32 0 a b h R):FnS prog 132 #[a,b] h R:=wq Tryz.func132 (by kernel_rfl) H
theorem w133 {a b h R} (H:Yn 290 14 .u32 0 a b h R):FnS prog 133 #[a,b] h R:=wq Tryz.func133 (by kernel_rfl) H
def s134 (a b:Value) (h:Qe) (R:Kn):Prop:=
 Qb prog 292 #[a,(.int .i64 15),b,(.bool false)] h fun _x6 c=>
 R (.tuple #[]) c
theorem w134 {a b h R} (H:s134 a b h R):FnS prog 134 #[a,b] h R:=wq Tryz.func134 (by kernel_rfl) H
theorem w135 {a b h R} (H:Yn 293 16 .i32 0 a b h R):FnS prog 135 #[a,b] h R:=wq Tryz.func135 (by kernel_rfl) H
theorem w136 {a b h R} (H:Yn 294 17 .u32 0 a b h R):FnS prog 136 #[a,b] h R:=wq Tryz.func136 (by kernel_rfl) H
theorem w137 {a b h R} (H:Yn 295 18 .i64 0 a b h R):FnS prog 137 #[a,b] h R:=wq Tryz.func137 (by kernel_rfl) H
theorem w138 {a b h R} (H:Yn 296 19 .u64 0 a b h R):FnS prog 138 #[a,b] h R:=wq Tryz.func138 (by kernel_rfl) H
theorem w139 {a b h R} (H:Yn 293 20 .i32 0 a b h R):FnS prog 139 #[a,b] h R:=wq Tryz.func139 (by kernel_rfl) H
theorem w140 {a b h R} (H:Yn 294 21 .u32 0 a b h R):FnS prog 140 #[a,b] h R:=wq Tryz.func140 (by kernel_rfl) H
theorem w141 {a b h R} (H:Yn 295 22 .i64 0 a b h R):FnS prog 141 #[a,b] h R:=wq Tryz.func141 (by kernel_rfl) H
theorem w142 {a b h R} (H:Yn 296 23 .u64 0 a b h R):FnS prog 142 #[a,b] h R:=wq Tryz.func142 (by kernel_rfl) H
theorem w143 {a b h R} (H:Yn 290 24 .u32 0 a b h R):FnS prog 143 #[a,b] h R:=wq Tryz.func143 (by kernel_rfl) H
def s144 (a b:Value) (h:Qe) (R:Kn):Prop:=
 Qb prog 297 #[a,(.int .i64 25),b,(.float .f32 1078530000)] h fun _x6 c=>
 R (.tuple #[]) c
theorem w144 {a b h R} (H:s144 a b h R):FnS prog 144 #[a,b] h R:=wq Tryz.func144 (by kernel_rfl) H
def s145 (a b:Value) (h:Qe) (R:Kn):Prop:=
 Qb prog 297 #[a,(.int .i64 26),b,(.float .f32 1077936128)] h fun _x6 c=>
 R (.tuple #[]) c
theorem w145 {a b h R} (H:s145 a b h R):FnS prog 145 #[a,b] h R:=wq Tryz.func145 (by kernel_rfl) H
def s146 (a b:Value) (h:Qe) (R:Kn):Prop:=
 Qb prog 297 #[a,(.int .i64 27),b,(.float .f32 0)] h fun _x6 c=>
 R (.tuple #[]) c
theorem w146 {a b h R} (H:s146 a b h R):FnS prog 146 #[a,b] h R:=wq Tryz.func146 (by kernel_rfl) H
theorem w147 {a b h R} (H:Yn 290 28 .u32 0 a b h R):FnS prog 147 #[a,b] h R:=wq Tryz.func147 (by kernel_rfl) H
theorem w148 {a b h R} (H:Yn 290 29 .u32 0 a b h R):FnS prog 148 #[a,b] h R:=wq Tryz.func148 (by kernel_rfl) H
theorem w149 {a b h R} (H:Yn 290 30 .u32 0 a b h R):FnS prog 149 #[a,b] h R:=wq Tryz.func149 (by kernel_rfl) H
theorem w150 {a b h R} (H:Yn 290 31 .u32 0 a b h R):FnS prog 150 #[a,b] h R:=wq Tryz.func150 (by kernel_rfl) H
theorem w151 {a b h R} (H:Yn 290 32 .u32 0 a b h R):FnS prog 151 #[a,b] h R:=wq Tryz.func151 (by kernel_rfl) H
theorem w152 {a b h R} (H:Yn 290 33 .u32 0 a b h R):FnS prog 152 #[a,b] h R:=wq Tryz.func152 (by kernel_rfl) H
theorem w153 {a b h R} (H:Yn 290 34 .u32 0 a b h R):FnS prog 153 #[a,b] h R:=wq Tryz.func153 (by kernel_rfl) H
theorem w154 {a b h R} (H:Yn 290 35 .u32 0 a b h R):FnS prog 154 #[a,b] h R:=wq Tryz.func154 (by kernel_rfl) H
theorem w155 {a b h R} (H:Yn 296 36 .u64 0 a b h R):FnS prog 155 #[a,b] h R:=wq Tryz.func155 (by kernel_rfl) H
theorem w156 {a b h R} (H:Yn 290 37 .u32 0 a b h R):FnS prog 156 #[a,b] h R:=wq Tryz.func156 (by kernel_rfl) H
theorem w157 {a b h R} (H:Yn 290 38 .u32 0 a b h R):FnS prog 157 #[a,b] h R:=wq Tryz.func157 (by kernel_rfl) H
theorem w158 {a b h R} (H:Yn 296 39 .u64 0 a b h R):FnS prog 158 #[a,b] h R:=wq Tryz.func158 (by kernel_rfl) H
theorem w159 {a b h R} (H:Yn 290 40 .u32 0 a b h R):FnS prog 159 #[a,b] h R:=wq Tryz.func159 (by kernel_rfl) H
theorem w160 {a b h R} (H:Yn 296 41 .u64 0 a b h R):FnS prog 160 #[a,b] h R:=wq Tryz.func160 (by kernel_rfl) H
theorem w161 {a b h R} (H:Yn 290 42 .u32 0 a b h R):FnS prog 161 #[a,b] h R:=wq Tryz.func161 (by kernel_rfl) H
theorem w162 {a b h R} (H:Yn 291 43 .u8 0 a b h R):FnS prog 162 #[a,b] h R:=wq Tryz.func162 (by kernel_rfl) H
theorem w163 {a b h R} (H:Yn 290 44 .u32 0 a b h R):FnS prog 163 #[a,b] h R:=wq Tryz.func163 (by kernel_rfl) H
theorem w164 {a b h R} (H:Yn 291 45 .u8 0 a b h R):FnS prog 164 #[a,b] h R:=wq Tryz.func164 (by kernel_rfl) H
theorem w165 {a b h R} (H:Yn 290 46 .u32 0 a b h R):FnS prog 165 #[a,b] h R:=wq Tryz.func165 (by kernel_rfl) H
theorem w166 {a b h R} (H:Yn 290 47 .u32 0 a b h R):FnS prog 166 #[a,b] h R:=wq Tryz.func166 (by kernel_rfl) H
theorem w167 {a b h R} (H:Yn 298 48 .i8 (-1) a b h R):FnS prog 167 #[a,b] h R:=wq Tryz.func167 (by kernel_rfl) H
theorem w168 {a h R} (H:Qg2 299 a h R):FnS prog 168 #[a] h R:=wq Tryz.func168 (by kernel_rfl) H
theorem w177 {a b c h R} (H:tp177 a b c h R):FnS prog 177 #[a,b,c] h R:=wq Tryz.func177 (by kernel_rfl) H
theorem w180 {a h R} (H:Qej 6 315 .i16 150 a h R):FnS prog 180 #[a] h R:=wq Tryz.func180 (by kernel_rfl) H
theorem w181 {a h R} (H:Qej 8 315 .i16 100 a h R):FnS prog 181 #[a] h R:=wq Tryz.func181 (by kernel_rfl) H
theorem w182 {a h R} (H:tp182 10 a h R):FnS prog 182 #[a] h R:=wq Tryz.func182 (by kernel_rfl) H
theorem w183 {a h R} (H:Qej 16 317 .u8 8 a h R):FnS prog 183 #[a] h R:=wq Tryz.func183 (by kernel_rfl) H
def s184 (a:Value) (h:Qe) (R:Kn):Prop:=
 Q5 a fun d=>
 Qg d 0 fun e=>
 Qb prog 314 #[e,(.int .u16 34)] h fun f b=>
 Yl .u32 f fun c=>
 Qr prog .neq 68 c (.int .u32 0) fun g=>
 IfK g
 (Q5 a fun i=>
 Qg i 0 fun j=>
 Q5 a fun l=>
 Qg l 0 fun m=>
 Qg m 1 fun o=>
 LdK b o fun p=>
 Qr prog .add 68 c p fun q=>
 Qb prog 318 #[j,q] b fun r s=>
 R r s)
 (R (.bool false) b)
theorem w184 {a h R} (H:s184 a h R):FnS prog 184 #[a] h R:=wq Tryz.func184 (by kernel_rfl) H
theorem w185 {a h R} (H:Qej 36 319 .i32 0 a h R):FnS prog 185 #[a] h R:=wq Tryz.func185 (by kernel_rfl) H
theorem w186 {a h R} (H:Qej 38 320 .u32 0 a h R):FnS prog 186 #[a] h R:=wq Tryz.func186 (by kernel_rfl) H
theorem w187 {a h R} (H:Qej 40 321 .i64 0 a h R):FnS prog 187 #[a] h R:=wq Tryz.func187 (by kernel_rfl) H
theorem w188 {a h R} (H:Qej 42 322 .u64 0 a h R):FnS prog 188 #[a] h R:=wq Tryz.func188 (by kernel_rfl) H
theorem w189 {a h R} (H:Qej 44 319 .i32 0 a h R):FnS prog 189 #[a] h R:=wq Tryz.func189 (by kernel_rfl) H
theorem w190 {a h R} (H:Qej 46 320 .u32 0 a h R):FnS prog 190 #[a] h R:=wq Tryz.func190 (by kernel_rfl) H
theorem w191 {a h R} (H:Qej 48 321 .i64 0 a h R):FnS prog 191 #[a] h R:=wq Tryz.func191 (by kernel_rfl) H
theorem w192 {a h R} (H:Qej 50 322 .u64 0 a h R):FnS prog 192 #[a] h R:=wq Tryz.func192 (by kernel_rfl) H
def s193 (a:Value) (h:Qe) (R:Kn):Prop:=
 Q5 a fun d=>
 Qg d 0 fun e=>
 Qb prog 314 #[e,(.int .u16 54)] h fun f b=>
 Yl .u32 f fun c=>
 Qr prog .neq 68 c (.int .u32 0) fun g=>
 IfK g
 (Q5 a fun i=>
 Qg i 0 fun j=>
 Q5 a fun l=>
 Qg l 0 fun m=>
 Qg m 1 fun o=>
 LdK b o fun p=>
 Qr prog .add 68 c p fun q=>
 Qb prog 323 #[j,q] b fun r s=>
 R r s)
 (R (.float .f32 1078530000) b)
theorem w193 {a h R} (H:s193 a h R):FnS prog 193 #[a] h R:=wq Tryz.func193 (by kernel_rfl) H
def s194 (a:Value) (h:Qe) (R:Kn):Prop:=
 Q5 a fun d=>
 Qg d 0 fun e=>
 Qb prog 314 #[e,(.int .u16 56)] h fun f b=>
 Yl .u32 f fun c=>
 Qr prog .neq 68 c (.int .u32 0) fun g=>
 IfK g
 (Q5 a fun i=>
 Qg i 0 fun j=>
 Q5 a fun l=>
 Qg l 0 fun m=>
 Qg m 1 fun o=>
 LdK b o fun p=>
 Qr prog .add 68 c p fun q=>
 Qb prog 323 #[j,q] b fun r s=>
 R r s)
 (R (.float .f32 1077936128) b)
theorem w194 {a h R} (H:s194 a h R):FnS prog 194 #[a] h R:=wq Tryz.func194 (by kernel_rfl) H
def s195 (a:Value) (h:Qe) (R:Kn):Prop:=
 Q5 a fun d=>
 Qg d 0 fun e=>
 Qb prog 314 #[e,(.int .u16 58)] h fun f b=>
 Yl .u32 f fun c=>
 Qr prog .neq 68 c (.int .u32 0) fun g=>
 IfK g
 (Q5 a fun i=>
 Qg i 0 fun j=>
 Q5 a fun l=>
 Qg l 0 fun m=>
 Qg m 1 fun o=>
 LdK b o fun p=>
 Qr prog .add 68 c p fun q=>
 Qb prog 323 #[j,q] b fun r s=>
 R r s)
 (R (.float .f32 0) b)
theorem w195 {a h R} (H:s195 a h R):FnS prog 195 #[a] h R:=wq Tryz.func195 (by kernel_rfl) H
theorem w196 {a b h R} (H:tp196 72 223 z308 308 325 a b h R):FnS prog 196 #[a,b] h R:=wq Tryz.func196 (by kernel_rfl) H
theorem w197 {a h R} (H:Qej 76 322 .u64 0 a h R):FnS prog 197 #[a] h R:=wq Tryz.func197 (by kernel_rfl) H
theorem w198 {a h R} (H:Qej 82 322 .u64 0 a h R):FnS prog 198 #[a] h R:=wq Tryz.func198 (by kernel_rfl) H
theorem w199 {a h R} (H:Qej 86 322 .u64 0 a h R):FnS prog 199 #[a] h R:=wq Tryz.func199 (by kernel_rfl) H
theorem w200 {a h R} (H:Qej 100 326 .i8 (-1) a h R):FnS prog 200 #[a] h R:=wq Tryz.func200 (by kernel_rfl) H
def s201 (c f:Value) (h:Qe) (R:Kn):Prop:=
 Q5 c fun i=>
 Qg i 0 fun j=>
 Qb prog 314 #[j,(.int .u16 4)] h fun l a=>
 Yl .u32 l fun g=>
 Qr prog .neq 68 g (.int .u32 0) fun m=>
 IfK m
 (Q5 c fun o=>
 Qg o 0 fun p=>
 Qg p 1 fun q=>
 LdK a q fun r=>
 Qr prog .add 68 g r fun s=>
 QG (fun b=>
 Qr prog .eql 226 f (.pointer none) fun t=>
 IfK t
 (YM a (.cells z310 310) fun u v=>
 b [u] v)
 (b [f] a)) fun b=>∀d:Value,∀e:Qe,b [d] e->
 Q5 c fun w=>
 Qg w 0 fun y=>
 Qg y 0 fun z=>
 LdK e z fun a0=>
 Qb prog 327 #[d,a0,s] e fun _x31 a1=>
 R d a1)
 (R (.pointer none) a)
theorem w201 {a b h R} (H:s201 a b h R):FnS prog 201 #[a,b] h R:=wq Tryz.func201 (by kernel_rfl) H
def s202 (d e:Value) (h:Qe) (R:Kn):Prop:=
 QG (fun a=>
 Qr prog .eql 228 e (.pointer none) fun f=>
 IfK f
 (YM h (.cells z237 237) fun g i=>
 a [g] i)
 (a [e] h)) fun a=>∀c:Value,∀b:Qe,a [c] b->
 Q5 d fun j=>
 Qg j 0 fun l=>
 Qg l 0 fun m=>
 Qg m 0 fun o=>
 LdK b o fun p=>
 Q5 d fun q=>
 Qg q 0 fun r=>
 Qg r 0 fun s=>
 Qg s 1 fun t=>
 LdK b t fun u=>
 Qr prog .add 68 u (.int .u32 26) fun v=>
 Qb prog 328 #[c,p,v] b fun _x22 w=>
 R c w
theorem w202 {a b h R} (H:s202 a b h R):FnS prog 202 #[a,b] h R:=wq Tryz.func202 (by kernel_rfl) H
theorem w203 {a h R} (H:tp203 0 323 a h R):FnS prog 203 #[a] h R:=wq Tryz.func203 (by kernel_rfl) H
theorem w204 {a h R} (H:tp203 4 323 a h R):FnS prog 204 #[a] h R:=wq Tryz.func204 (by kernel_rfl) H
theorem w205 {a h R} (H:tp203 8 323 a h R):FnS prog 205 #[a] h R:=wq Tryz.func205 (by kernel_rfl) H
theorem w206 {a h R} (H:tp203 16 329 a h R):FnS prog 206 #[a] h R:=wq Tryz.func206 (by kernel_rfl) H
theorem w207 {a h R} (H:tp203 24 317 a h R):FnS prog 207 #[a] h R:=wq Tryz.func207 (by kernel_rfl) H
theorem w208 {a h R} (H:tp203 0 315 a h R):FnS prog 208 #[a] h R:=wq Tryz.func208 (by kernel_rfl) H
theorem w209 {a h R} (H:tp203 2 326 a h R):FnS prog 209 #[a] h R:=wq Tryz.func209 (by kernel_rfl) H
theorem w210 {a h R} (H:QfX 14 a h R):FnS prog 210 #[a] h R:=wq Tryz.func210 (by kernel_rfl) H
theorem w211 {a b h R} (H:tp211 14 1 317 .u8 a b h R):FnS prog 211 #[a,b] h R:=wq Tryz.func211 (by kernel_rfl) H
theorem w212 {a h R} (H:QfX 22 a h R):FnS prog 212 #[a] h R:=wq Tryz.func212 (by kernel_rfl) H
theorem w213 {a b c h R} (H:tp213 22 4 328 a b c h R):FnS prog 213 #[a,b,c] h R:=wq Tryz.func213 (by kernel_rfl) H
theorem w214 {a h R} (H:QfX 24 a h R):FnS prog 214 #[a] h R:=wq Tryz.func214 (by kernel_rfl) H
theorem w215 {a b h R} (H:tp215 24 a b h R):FnS prog 215 #[a,b] h R:=wq Tryz.func215 (by kernel_rfl) H
theorem w216 {a h R} (H:QfX 26 a h R):FnS prog 216 #[a] h R:=wq Tryz.func216 (by kernel_rfl) H
theorem w217 {a b c h R} (H:tp217 26 177 a b c h R):FnS prog 217 #[a,b,c] h R:=wq Tryz.func217 (by kernel_rfl) H
theorem w218 {a b h R} (H:tp196 28 101 z213 213 177 a b h R):FnS prog 218 #[a,b] h R:=wq Tryz.func218 (by kernel_rfl) H
theorem w219 {a h R} (H:QfX 30 a h R):FnS prog 219 #[a] h R:=wq Tryz.func219 (by kernel_rfl) H
theorem w220 {a b h R} (H:tp211 30 1 317 .u8 a b h R):FnS prog 220 #[a,b] h R:=wq Tryz.func220 (by kernel_rfl) H
theorem w221 {a b h R} (H:tp196 32 242 z313 313 332 a b h R):FnS prog 221 #[a,b] h R:=wq Tryz.func221 (by kernel_rfl) H
theorem w222 {a h R} (H:tp182 4 a h R):FnS prog 222 #[a] h R:=wq Tryz.func222 (by kernel_rfl) H
theorem w223 {a h R} (H:Qej 6 321 .i64 0 a h R):FnS prog 223 #[a] h R:=wq Tryz.func223 (by kernel_rfl) H
theorem w224 {a h R} (H:Qej 8 333 .u16 0 a h R):FnS prog 224 #[a] h R:=wq Tryz.func224 (by kernel_rfl) H
theorem w225 {a h R} (H:QfX 52 a h R):FnS prog 225 #[a] h R:=wq Tryz.func225 (by kernel_rfl) H
def s226 (a d:Value) (h:Qe) (R:Kn):Prop:=
 Q5 a fun e=>
 Qg e 0 fun f=>
 Qb prog 314 #[f,(.int .u16 52)] h fun g b=>
 Yl .u32 g fun c=>
 Qr prog .neq 68 c (.int .u32 0) fun i=>
 IfK i
 (Q5 a fun j=>
 Qg j 0 fun l=>
 Qb prog 331 #[l,c] b fun m o=>
 Q5 a fun p=>
 Qg p 0 fun q=>
 Qr prog .mul 3 d (.int .i64 1) fun r=>
 Yl .u32 r fun s=>
 Qr prog .add 68 m s fun t=>
 Qb prog 318 #[q,t] o fun u v=>
 R u v)
 (R (.bool false) b)
theorem w226 {a b h R} (H:s226 a b h R):FnS prog 226 #[a,b] h R:=wq Tryz.func226 (by kernel_rfl) H
theorem w227 {a h R} (H:QfX 60 a h R):FnS prog 227 #[a] h R:=wq Tryz.func227 (by kernel_rfl) H
theorem w228 {a b h R} (H:tp215 60 a b h R):FnS prog 228 #[a,b] h R:=wq Tryz.func228 (by kernel_rfl) H
theorem w229 {a h R} (H:QfX 62 a h R):FnS prog 229 #[a] h R:=wq Tryz.func229 (by kernel_rfl) H
theorem w230 {a b c h R} (H:tp213 62 8 334 a b c h R):FnS prog 230 #[a,b,c] h R:=wq Tryz.func230 (by kernel_rfl) H
theorem w231 {a h R} (H:tp203 0 320 a h R):FnS prog 231 #[a] h R:=wq Tryz.func231 (by kernel_rfl) H
theorem w232 {a h R} (H:tp203 4 320 a h R):FnS prog 232 #[a] h R:=wq Tryz.func232 (by kernel_rfl) H
theorem w233 {a h R} (H:QfX 64 a h R):FnS prog 233 #[a] h R:=wq Tryz.func233 (by kernel_rfl) H
theorem w234 {a b h R} (H:tp211 64 1 317 .u8 a b h R):FnS prog 234 #[a,b] h R:=wq Tryz.func234 (by kernel_rfl) H
theorem w235 {a h R} (H:QfX 66 a h R):FnS prog 235 #[a] h R:=wq Tryz.func235 (by kernel_rfl) H
theorem w236 {a b c h R} (H:tp213 66 4 328 a b c h R):FnS prog 236 #[a,b,c] h R:=wq Tryz.func236 (by kernel_rfl) H
theorem w237 {a h R} (H:QfX 68 a h R):FnS prog 237 #[a] h R:=wq Tryz.func237 (by kernel_rfl) H
theorem w238 {a b h R} (H:tp211 68 8 321 .i64 a b h R):FnS prog 238 #[a,b] h R:=wq Tryz.func238 (by kernel_rfl) H
theorem w239 {a h R} (H:QfX 70 a h R):FnS prog 239 #[a] h R:=wq Tryz.func239 (by kernel_rfl) H
def s240 (a d:Value) (h:Qe) (R:Kn):Prop:=
 Q5 a fun e=>
 Qg e 0 fun f=>
 Qb prog 314 #[f,(.int .u16 70)] h fun g b=>
 Yl .u32 g fun c=>
 Qr prog .neq 68 c (.int .u32 0) fun i=>
 IfK i
 (Q5 a fun j=>
 Qg j 0 fun l=>
 Qb prog 331 #[l,c] b fun m o=>
 Q5 a fun p=>
 Qg p 0 fun q=>
 Qr prog .mul 3 d (.int .i64 8) fun r=>
 Yl .u32 r fun s=>
 Qr prog .add 68 m s fun t=>
 Qb prog 329 #[q,t] o fun u v=>
 R u v)
 (R (.float .f64 0) b)
theorem w240 {a b h R} (H:s240 a b h R):FnS prog 240 #[a,b] h R:=wq Tryz.func240 (by kernel_rfl) H
theorem w241 {a h R} (H:QfX 74 a h R):FnS prog 241 #[a] h R:=wq Tryz.func241 (by kernel_rfl) H
theorem w242 {a b c h R} (H:tp217 74 335 a b c h R):FnS prog 242 #[a,b,c] h R:=wq Tryz.func242 (by kernel_rfl) H
theorem w243 {a h R} (H:Qej 4 322 .u64 0 a h R):FnS prog 243 #[a] h R:=wq Tryz.func243 (by kernel_rfl) H
theorem w244 {a h R} (H:QfX 78 a h R):FnS prog 244 #[a] h R:=wq Tryz.func244 (by kernel_rfl) H
theorem w245 {a b h R} (H:tp211 78 8 322 .u64 a b h R):FnS prog 245 #[a,b] h R:=wq Tryz.func245 (by kernel_rfl) H
theorem w246 {a h R} (H:QfX 80 a h R):FnS prog 246 #[a] h R:=wq Tryz.func246 (by kernel_rfl) H
theorem w247 {a b c h R} (H:tp217 80 335 a b c h R):FnS prog 247 #[a,b,c] h R:=wq Tryz.func247 (by kernel_rfl) H
theorem w248 {a h R} (H:QfX 84 a h R):FnS prog 248 #[a] h R:=wq Tryz.func248 (by kernel_rfl) H
theorem w249 {a b h R} (H:tp211 84 8 322 .u64 a b h R):FnS prog 249 #[a,b] h R:=wq Tryz.func249 (by kernel_rfl) H
theorem w250 {a h R} (H:QfX 88 a h R):FnS prog 250 #[a] h R:=wq Tryz.func250 (by kernel_rfl) H
theorem w251 {a b h R} (H:tp211 88 8 322 .u64 a b h R):FnS prog 251 #[a,b] h R:=wq Tryz.func251 (by kernel_rfl) H
theorem w252 {a b h R} (H:tp252 20 a b h R):FnS prog 252 #[a,b] h R:=wq Tryz.func252 (by kernel_rfl) H
theorem w254 {a h R} (H:Qej 18 317 .u8 0 a h R):FnS prog 254 #[a] h R:=wq Tryz.func254 (by kernel_rfl) H
theorem w255 {a b h R} (H:tp252 92 a b h R):FnS prog 255 #[a,b] h R:=wq Tryz.func255 (by kernel_rfl) H
theorem w256 {a h R} (H:Qej 90 317 .u8 0 a h R):FnS prog 256 #[a] h R:=wq Tryz.func256 (by kernel_rfl) H
theorem w257 {a h R} (H:Qej 94 317 .u8 0 a h R):FnS prog 257 #[a] h R:=wq Tryz.func257 (by kernel_rfl) H
theorem w258 {a b h R} (H:tp252 96 a b h R):FnS prog 258 #[a,b] h R:=wq Tryz.func258 (by kernel_rfl) H
theorem w259 {a h R} (H:QfX 98 a h R):FnS prog 259 #[a] h R:=wq Tryz.func259 (by kernel_rfl) H
theorem w260 {a b h R} (H:tp211 98 1 317 .u8 a b h R):FnS prog 260 #[a,b] h R:=wq Tryz.func260 (by kernel_rfl) H
def s269 (a b c:Value) (h:Qe) (R:Kn):Prop:=
 Qb prog 74 #[a,(.int .i64 2),(.int .i64 4)] h fun _x8 d=>
 Qb prog 262 #[a,(.int .i64 1)] d fun _x10 e=>
 Qb prog 346 #[a,c] e fun _x13 f=>
 Qb prog 347 #[a,b] f fun _x16 g=>
 Qb prog 263 #[a] g fun i j=>
 R i j
theorem w269 {a b c h R} (H:s269 a b c h R):FnS prog 269 #[a,b,c] h R:=wq Tryz.func269 (by kernel_rfl) H
theorem w271 {a h R} (H:Qj9 3 a h R):FnS prog 271 #[a] h R:=wq Tryz.func271 (by kernel_rfl) H
theorem w272 {a b h R} (H:Yn 290 0 .u32 0 a b h R):FnS prog 272 #[a,b] h R:=wq Tryz.func272 (by kernel_rfl) H
theorem w273 {a b h R} (H:Yn 295 1 .i64 0 a b h R):FnS prog 273 #[a,b] h R:=wq Tryz.func273 (by kernel_rfl) H
theorem w274 {a b h R} (H:Yn 348 2 .u16 0 a b h R):FnS prog 274 #[a,b] h R:=wq Tryz.func274 (by kernel_rfl) H
theorem w275 {a h R} (H:Qg2 299 a h R):FnS prog 275 #[a] h R:=wq Tryz.func275 (by kernel_rfl) H
def s277 (a b c:Value) (h:Qe) (R:Kn):Prop:=
 Qb prog 74 #[a,(.int .i64 4),(.int .i64 8)] h fun _x8 d=>
 Qb prog 350 #[a,c] d fun _x11 e=>
 Qb prog 350 #[a,b] e fun _x14 f=>
 Qb prog 263 #[a] f fun g i=>
 R g i
theorem w277 {a b c h R} (H:s277 a b c h R):FnS prog 277 #[a,b,c] h R:=wq Tryz.func277 (by kernel_rfl) H
theorem w280 {a h R} (H:Qj9 0 a h R):FnS prog 280 #[a] h R:=wq Tryz.func280 (by kernel_rfl) H
theorem w281 {a h R} (H:Qg2 299 a h R):FnS prog 281 #[a] h R:=wq Tryz.func281 (by kernel_rfl) H
theorem w282 {a h R} (H:Qj9 1 a h R):FnS prog 282 #[a] h R:=wq Tryz.func282 (by kernel_rfl) H
theorem w283 {a b h R} (H:Yn 296 0 .u64 0 a b h R):FnS prog 283 #[a,b] h R:=wq Tryz.func283 (by kernel_rfl) H
theorem w284 {a h R} (H:Qg2 299 a h R):FnS prog 284 #[a] h R:=wq Tryz.func284 (by kernel_rfl) H
def s287 (a b c d e f g i:Value) (h:Qe) (R:Kn):Prop:=
 Qb prog 74 #[a,(.int .i64 8),(.int .i64 32)] h fun _x18 j=>
 Qb prog 262 #[a,(.int .i64 2)] j fun _x20 l=>
 Qb prog 74 #[a,(.int .i64 2),(.int .i64 4)] l fun _x22 m=>
 Qb prog 262 #[a,(.int .i64 1)] m fun _x24 o=>
 Qb prog 346 #[a,i] o fun _x27 p=>
 Qb prog 347 #[a,g] p fun _x30 q=>
 Qb prog 262 #[a,(.int .i64 1)] q fun _x32 r=>
 Qb prog 117 #[a,f] r fun _x35 s=>
 Qb prog 105 #[a,e] s fun _x38 t=>
 Qb prog 262 #[a,(.int .i64 4)] t fun _x40 u=>
 Qb prog 354 #[a,d] u fun _x43 v=>
 Qb prog 354 #[a,c] v fun _x46 w=>
 Qb prog 354 #[a,b] w fun _x49 y=>
 Qb prog 263 #[a] y fun z a0=>
 R z a0
theorem w287 {a b c d e f g i h R} (H:s287 a b c d e f g i h R):FnS prog 287 #[a,b,c,d,e,f,g,i] h R:=wq Tryz.func287 (by kernel_rfl) H
theorem w301 {a h R} (H:tp43 226 z163 163 358 a h R):FnS prog 301 #[a] h R:=wq Tryz.func301 (by kernel_rfl) H
theorem w302 {a h R} (H:tp182 14 a h R):FnS prog 302 #[a] h R:=wq Tryz.func302 (by kernel_rfl) H
theorem w303 {a b h R} (H:tp303 169 z172 172 z316 316 359 264 a b h R):FnS prog 303 #[a,b] h R:=wq Tryz.func303 (by kernel_rfl) H
theorem w304 {a h R} (H:tp43 228 z161 161 360 a h R):FnS prog 304 #[a] h R:=wq Tryz.func304 (by kernel_rfl) H
theorem w305 {a h R} (H:tp182 30 a h R):FnS prog 305 #[a] h R:=wq Tryz.func305 (by kernel_rfl) H
theorem w306 {a h R} (H:tp43 242 z164 164 361 a h R):FnS prog 306 #[a] h R:=wq Tryz.func306 (by kernel_rfl) H
theorem w307 {a h R} (H:tp43 247 z166 166 362 a h R):FnS prog 307 #[a] h R:=wq Tryz.func307 (by kernel_rfl) H
theorem w308 {a h R} (H:tp182 64 a h R):FnS prog 308 #[a] h R:=wq Tryz.func308 (by kernel_rfl) H
theorem w309 {a h R} (H:tp43 223 z168 168 363 a h R):FnS prog 309 #[a] h R:=wq Tryz.func309 (by kernel_rfl) H
theorem w310 {a h R} (H:tp43 252 z263 263 364 a h R):FnS prog 310 #[a] h R:=wq Tryz.func310 (by kernel_rfl) H
theorem w311 {a b h R} (H:tp303 173 z175 175 z316 316 359 264 a b h R):FnS prog 311 #[a,b] h R:=wq Tryz.func311 (by kernel_rfl) H
theorem w312 {a b h R} (H:tp303 176 z179 179 z213 213 43 69 a b h R):FnS prog 312 #[a,b] h R:=wq Tryz.func312 (by kernel_rfl) H
theorem w325 {a b c h R} (H:tp177 a b c h R):FnS prog 325 #[a,b,c] h R:=wq Tryz.func325 (by kernel_rfl) H
theorem w327 {a b c h R} (H:tp327 a b c h R):FnS prog 327 #[a,b,c] h R:=wq Tryz.func327 (by kernel_rfl) H
theorem w328 {a b c h R} (H:tp327 a b c h R):FnS prog 328 #[a,b,c] h R:=wq Tryz.func328 (by kernel_rfl) H
theorem w332 {a b c h R} (H:tp177 a b c h R):FnS prog 332 #[a,b,c] h R:=wq Tryz.func332 (by kernel_rfl) H
theorem w334 {a b c h R} (H:tp327 a b c h R):FnS prog 334 #[a,b,c] h R:=wq Tryz.func334 (by kernel_rfl) H
theorem w335 {a b c h R} (H:tp177 a b c h R):FnS prog 335 #[a,b,c] h R:=wq Tryz.func335 (by kernel_rfl) H
theorem w337 {a b c h R} (H:tp177 a b c h R):FnS prog 337 #[a,b,c] h R:=wq Tryz.func337 (by kernel_rfl) H
theorem w338 {a h R} (H:Qej 4 317 .u8 2 a h R):FnS prog 338 #[a] h R:=wq Tryz.func338 (by kernel_rfl) H
theorem w341 {a h R} (H:Qj9 1 a h R):FnS prog 341 #[a] h R:=wq Tryz.func341 (by kernel_rfl) H
theorem w342 {a b h R} (H:Yn 291 0 .u8 2 a b h R):FnS prog 342 #[a,b] h R:=wq Tryz.func342 (by kernel_rfl) H
theorem w343 {a h R} (H:Qg2 299 a h R):FnS prog 343 #[a] h R:=wq Tryz.func343 (by kernel_rfl) H
theorem w344 {a h R} (H:Qj9 0 a h R):FnS prog 344 #[a] h R:=wq Tryz.func344 (by kernel_rfl) H
theorem w345 {a h R} (H:Qg2 299 a h R):FnS prog 345 #[a] h R:=wq Tryz.func345 (by kernel_rfl) H
theorem w359 {a h R} (H:tp43 348 z266 266 391 a h R):FnS prog 359 #[a] h R:=wq Tryz.func359 (by kernel_rfl) H
end Go.Proofs
namespace Go.Proofs
open Go Go.Vc
open Tryz (prog)
theorem SlcB {k:Value->Prop} {κ:IntKind} {b n m:Nat} {x:Int} (hx:x=m) (hm:m<n):
  QfZ 1 (bsl b 0 n n) (some (.int κ x)) none k=k (bsl b m (n-m) (n-m)):=by
 subst hx
 rw[bsl,SlcK_lo (by omega) (by omega) (Nat.le_refl n)]
 have:¬n=m:=by omega
 simp[this]
structure Tab (H:Qe) (p B:Nat) (bs:List UInt8) (pos:Nat):Prop where
 c0:Qb2 H ⟨p,0,none⟩=some (bsl B 0 bs.length bs.length)
 c1:Qb2 H ⟨p,1,none⟩=some (.int .u32 pos)
 u8:U8s H B 0 bs
 lt:bs.length<2147483648
 le:pos<=bs.length
theorem QeK {H H':Qe} (hx:ExtC H H') {b o:Nat} {bs:List UInt8} (h:U8s H b o bs):U8s H' b o bs:=fun i hi=>hx _ _ (h i hi)
theorem Tab.ext {H H':Qe} (hx:ExtC H H') {p B:Nat} {bs:List UInt8} {pos:Nat} (h:Tab H p B bs pos):Tab H' p B bs pos:=
 ⟨hx _ _ h.c0,hx _ _ h.c1,QeK hx h.u8,h.lt,h.le⟩
def leN (k:Nat) (bs:List UInt8) (o:Nat):Nat:=match k with|1=>byteN bs o|2=>le2 bs o|4=>le4 bs o|_=>le8 bs o
structure VT (bs:List UInt8) (pos vt:Nat):Prop where
 hp:pos+4<=bs.length
 hs:(pos:Int)-IntKind.i32.wrap (le4 bs pos)=vt
 he:vt+le2 bs vt<=bs.length
 h4:4<=le2 bs vt
 ev:le2 bs vt%2=0
def slotAt (bs:List UInt8) (vt vo:Nat):Nat:=if vo<le2 bs vt then le2 bs (vt+vo) else 0
theorem slotAt_lt (bs:List UInt8) (vt vo:Nat):slotAt bs vt vo<65536:=by
 unfold slotAt;split
 ·exact le2_lt _ _
 ·omega
section
variable {H:Qe} {p B:Nat} {bs:List UInt8} {pos:Nat} (ht:Tab H p B bs pos) {R:Kn}
include ht
theorem go_Table_Offset {vt vo:Nat} (hv:VT bs pos vt) (he:vo%2=0) (hR:R (.int .u16 (slotAt bs vt vo)) H):
  FnS prog 314 #[.pointer (some ⟨p,0,none⟩),.int .u16 vo] H R:=by
 have:=ht.lt;have:=hv.hp;have h4:=hv.h4;have hee:=hv.he;have hev:=hv.ev
 have e1:IntKind.i32.wrap (pos:Int)=pos:=Zd (by omega) (by omega)
 have e3:IntKind.u32.wrap (IntKind.i32.wrap ((pos:Int)-IntKind.i32.wrap (le4 bs pos)))=(vt:Int):=by
  rw[hv.hs,Zd (by omega) (by omega),QT (by omega) (by omega)]
 apply w314
 unfold s314
 simp only[↓Qt,↓Qu,↓Ql ht.c1,↓QO,e1]
 apply w365
 unfold QcN
 simp only[↓Qt,↓Qu,↓Ql ht.c0,↓SlcB (n:=bs.length) (m:=pos) rfl (by omega)]
 refine go_GetSOffsetT ht.u8 (by omega) (by omega) ?_
 rw[Qa]
 simp only[↓Yg,↓QO,e3]
 apply w366
 unfold QcN
 simp only[↓Qt,↓Qu,↓Ql ht.c0,↓SlcB (n:=bs.length) (m:=vt) rfl (by omega)]
 refine Qdi ht.u8 (by omega) (by omega) ?_
 simp only[↓Yu]
 unfold slotAt at hR
 by_cases hlt:vo<le2 bs vt
 ·rw[QY (by omega)]
  rw[if_pos hlt]at hR
  have h16:=le2_lt bs vt
  have e4:IntKind.u32.wrap (vo:Int)=vo:=QT (by omega) (by omega)
  have e5:IntKind.u32.wrap ((vt:Int)+vo)=((vt+vo:Nat):Int):=by rw[QT (by omega) (by omega)];omega
  simp only[↓QO,↓QE,e4,e5]
  apply w366
  unfold QcN
  simp only[↓Qt,↓Qu,↓Ql ht.c0,↓SlcB (n:=bs.length) (m:=vt+vo) rfl (by omega)]
  exact Qdi ht.u8 (by omega) (by omega) hR
 ·rw[QJ (by omega)]
  rw[if_neg hlt]at hR
  exact hR
theorem Qd2 {o:Nat} {x:Int} (hx:x=(o:Nat)) (hl:o+2<=bs.length) (hR:R (.int .i16 (IntKind.i16.wrap (le2 bs o:Int))) H):
  FnS prog 315 #[.pointer (some ⟨p,0,none⟩),.int .u32 x] H R:=by
 have:=ht.lt
 subst hx
 apply w315
 unfold QcN
 simp only[↓Qt,↓Qu,↓Ql ht.c0,↓SlcB (n:=bs.length) (m:=o) rfl (by omega)]
 exact go_GetInt16 ht.u8 (by omega) (by omega) hR
theorem YL {o:Nat} {x:Int} (hx:x=(o:Nat)) (hl:o+1<=bs.length) (hR:R (.int .u8 (byteN bs o:Int)) H):
  FnS prog 317 #[.pointer (some ⟨p,0,none⟩),.int .u32 x] H R:=by
 have:=ht.lt
 subst hx
 apply w317
 unfold QcN
 simp only[↓Qt,↓Qu,↓Ql ht.c0,↓SlcB (n:=bs.length) (m:=o) rfl (by omega)]
 exact go_GetByte ht.u8 (by omega) (by omega) hR
theorem QfQ {o:Nat} {x:Int} (hx:x=(o:Nat)) (hl:o+1<=bs.length) (hR:R (.bool (decide ((byteN bs o:Int)=1))) H):
  FnS prog 318 #[.pointer (some ⟨p,0,none⟩),.int .u32 x] H R:=by
 have:=ht.lt
 subst hx
 apply w318
 unfold QcN
 simp only[↓Qt,↓Qu,↓Ql ht.c0,↓SlcB (n:=bs.length) (m:=o) rfl (by omega)]
 exact go_GetBool ht.u8 (by omega) (by omega) hR
theorem QeP {o:Nat} {x:Int} (hx:x=(o:Nat)) (hl:o+4<=bs.length) (hR:R (.int .i32 (IntKind.i32.wrap (le4 bs o:Int))) H):
  FnS prog 319 #[.pointer (some ⟨p,0,none⟩),.int .u32 x] H R:=by
 have:=ht.lt
 subst hx
 apply w319
 unfold QcN
 simp only[↓Qt,↓Qu,↓Ql ht.c0,↓SlcB (n:=bs.length) (m:=o) rfl (by omega)]
 exact Qhk ht.u8 (by omega) (by omega) hR
theorem Qb7 {o:Nat} {x:Int} (hx:x=(o:Nat)) (hl:o+4<=bs.length) (hR:R (.int .u32 (le4 bs o:Int)) H):
  FnS prog 320 #[.pointer (some ⟨p,0,none⟩),.int .u32 x] H R:=by
 have:=ht.lt
 subst hx
 apply w320
 unfold QcN
 simp only[↓Qt,↓Qu,↓Ql ht.c0,↓SlcB (n:=bs.length) (m:=o) rfl (by omega)]
 exact QiR ht.u8 (by omega) (by omega) hR
theorem Qbw {o:Nat} {x:Int} (hx:x=(o:Nat)) (hl:o+8<=bs.length) (hR:R (.int .i64 (IntKind.i64.wrap (le8 bs o:Int))) H):
  FnS prog 321 #[.pointer (some ⟨p,0,none⟩),.int .u32 x] H R:=by
 have:=ht.lt
 subst hx
 apply w321
 unfold QcN
 simp only[↓Qt,↓Qu,↓Ql ht.c0,↓SlcB (n:=bs.length) (m:=o) rfl (by omega)]
 exact go_GetInt64 ht.u8 (by omega) (by omega) hR
theorem YI {o:Nat} {x:Int} (hx:x=(o:Nat)) (hl:o+8<=bs.length) (hR:R (.int .u64 (le8 bs o:Int)) H):
  FnS prog 322 #[.pointer (some ⟨p,0,none⟩),.int .u32 x] H R:=by
 have:=ht.lt
 subst hx
 apply w322
 unfold QcN
 simp only[↓Qt,↓Qu,↓Ql ht.c0,↓SlcB (n:=bs.length) (m:=o) rfl (by omega)]
 exact QiN ht.u8 (by omega) (by omega) hR
theorem Z2 {o:Nat} {x:Int} (hx:x=(o:Nat)) (hl:o+4<=bs.length) (hR:R (.float .f32 (le4 bs o)) H):
  FnS prog 323 #[.pointer (some ⟨p,0,none⟩),.int .u32 x] H R:=by
 have:=ht.lt
 subst hx
 apply w323
 unfold QcN
 simp only[↓Qt,↓Qu,↓Ql ht.c0,↓SlcB (n:=bs.length) (m:=o) rfl (by omega)]
 exact go_GetFloat32 ht.u8 (by omega) (by omega) hR
theorem QfH {o:Nat} {x:Int} (hx:x=(o:Nat)) (hl:o+1<=bs.length) (hR:R (.int .i8 (IntKind.i8.wrap (byteN bs o:Int))) H):
  FnS prog 326 #[.pointer (some ⟨p,0,none⟩),.int .u32 x] H R:=by
 have:=ht.lt
 subst hx
 apply w326
 unfold QcN
 simp only[↓Qt,↓Qu,↓Ql ht.c0,↓SlcB (n:=bs.length) (m:=o) rfl (by omega)]
 exact go_GetInt8 ht.u8 (by omega) (by omega) hR
theorem QdW {o:Nat} {x:Int} (hx:x=(o:Nat)) (hl:o+8<=bs.length) (hR:R (.float .f64 (le8 bs o)) H):
  FnS prog 329 #[.pointer (some ⟨p,0,none⟩),.int .u32 x] H R:=by
 have:=ht.lt
 subst hx
 apply w329
 unfold QcN
 simp only[↓Qt,↓Qu,↓Ql ht.c0,↓SlcB (n:=bs.length) (m:=o) rfl (by omega)]
 exact go_GetFloat64 ht.u8 (by omega) (by omega) hR
theorem QhQ {o:Nat} {x:Int} (hx:x=(o:Nat)) (hl:o+2<=bs.length) (hR:R (.int .u16 (le2 bs o:Int)) H):
  FnS prog 333 #[.pointer (some ⟨p,0,none⟩),.int .u32 x] H R:=by
 have:=ht.lt
 subst hx
 apply w333
 unfold QcN
 simp only[↓Qt,↓Qu,↓Ql ht.c0,↓SlcB (n:=bs.length) (m:=o) rfl (by omega)]
 exact QiV ht.u8 (by omega) (by omega) hR
theorem QgQ {o:Nat} {x:Int} (hx:x=(o:Nat)) (hl:o+4<=bs.length) (hR:R (.int .u32 (le4 bs o:Int)) H):
  FnS prog 377 #[.pointer (some ⟨p,0,none⟩),.int .u32 x] H R:=by
 have:=ht.lt
 subst hx
 apply w377
 unfold QcN
 simp only[↓Qt,↓Qu,↓Ql ht.c0,↓SlcB (n:=bs.length) (m:=o) rfl (by omega)]
 exact ZR ht.u8 (by omega) (by omega) hR
def tgt (bs:List UInt8) (o:Nat):Nat:=o+le4 bs o
theorem QbD {o:Nat} {x:Int} (hx:x=(o:Nat)) (hl:o+4<=bs.length) (h2:tgt bs o<=bs.length) (hR:R (.int .u32 (tgt bs o:Nat)) H):
  FnS prog 324 #[.pointer (some ⟨p,0,none⟩),.int .u32 x] H R:=by
 have:=ht.lt
 subst hx
 unfold tgt at h2 hR
 apply w324
 unfold s324
 simp only[↓Qt,↓Qu,↓Ql ht.c0,↓SlcB (n:=bs.length) (m:=o) rfl (by omega)]
 refine ZR ht.u8 (by omega) (by omega) ?_
 rw[QE,QT (by omega) (by omega)]
 rw[show (o:Int)+(le4 bs o:Int)=((o+le4 bs o:Nat):Int) by omega]
 exact hR
theorem Qe5 {o n:Nat} {x:Int} (hx:x=(o:Nat)) (hl:o+4<=bs.length) (hn:le4 bs (tgt bs o)=n) (h2:tgt bs o+4+n<=bs.length) (h3:tgt bs o+4<bs.length)
  (hR:R (bsl B (tgt bs o+4) n (bs.length-(tgt bs o+4))) H):
  FnS prog 316 #[.pointer (some ⟨p,0,none⟩),.int .u32 x] H R:=by
 have:=ht.lt
 subst hx
 apply w316
 unfold s316
 simp only[↓Qt,↓Qu,↓Ql ht.c0,↓SlcB (n:=bs.length) (m:=o) rfl (by omega)]
 refine ZR ht.u8 (by omega) (by omega) ?_
 have e1:IntKind.u32.wrap ((o:Int)+(le4 bs o:Int))=(tgt bs o:Nat):=by unfold tgt at h2⊢;rw[QT (by omega) (by omega)];omega
 have e2:IntKind.u32.wrap (((tgt bs o:Nat):Int)+4)=((tgt bs o+4:Nat):Int):=by rw[QT (by omega) (by omega)];omega
 simp only[↓QE,e1,e2,↓Qt,↓Qu,↓Ql ht.c0,↓SlcB (n:=bs.length) (m:=tgt bs o) rfl (by omega)]
 refine ZR ht.u8 (by omega) (by omega) ?_
 have e3:IntKind.u32.wrap (((tgt bs o+4:Nat):Int)+(le4 bs (tgt bs o):Int))=((tgt bs o+4+n:Nat):Int):=by rw[QT (by omega) (by omega)];omega
 simp only[↓QE,e3,↓Qt,↓Qu,↓Ql ht.c0]
 rw[bsl,Qgm (by omega) (by omega) (by omega)]
 have e4:¬bs.length=tgt bs o+4:=by omega
 simp only[Int.toNat_natCast,if_neg e4,Nat.zero_add,Nat.mul_one,show tgt bs o+4+n-(tgt bs o+4)=n by omega]
 exact hR
theorem QhL {o:Nat} {x:Int} (hx:x=(o:Nat)) (hl:pos+o+4<=bs.length) (h2:tgt bs (pos+o)+4<=bs.length)
  (hR:R (.int .i64 (le4 bs (tgt bs (pos+o)):Nat)) H):
  FnS prog 330 #[.pointer (some ⟨p,0,none⟩),.int .u32 x] H R:=by
 have:=ht.lt
 subst hx
 apply w330
 unfold s330
 have e0:IntKind.u32.wrap ((o:Int)+pos)=((pos+o:Nat):Int):=by rw[QT (by omega) (by omega)];omega
 simp only[↓Qt,↓Qu,↓Ql ht.c1,↓Ql ht.c0,↓QE,e0,↓SlcB (n:=bs.length) (m:=pos+o) rfl (by omega)]
 refine ZR ht.u8 (by omega) (by omega) ?_
 have e1:IntKind.u32.wrap (((pos+o:Nat):Int)+(le4 bs (pos+o):Int))=(tgt bs (pos+o):Nat):=by unfold tgt at h2⊢;rw[QT (by omega) (by omega)];omega
 simp only[↓QE,e1,↓Qt,↓Qu,↓Ql ht.c0,↓SlcB (n:=bs.length) (m:=tgt bs (pos+o)) rfl (by omega)]
 refine ZR ht.u8 (by omega) (by omega) ?_
 have h4:=le4_lt bs (tgt bs (pos+o))
 rw[QO,wrap_i64 (by omega) (by omega)]
 exact hR
theorem QcC {o:Nat} {x:Int} (hx:x=(o:Nat)) (hl:pos+o+4<=bs.length) (h2:tgt bs (pos+o)+4<=bs.length)
  (hR:R (.int .u32 (tgt bs (pos+o)+4:Nat)) H):
  FnS prog 331 #[.pointer (some ⟨p,0,none⟩),.int .u32 x] H R:=by
 have:=ht.lt
 subst hx
 apply w331
 unfold s331
 have e0:IntKind.u32.wrap ((o:Int)+pos)=((pos+o:Nat):Int):=by rw[QT (by omega) (by omega)];omega
 simp only[↓Qt,↓Qu,↓Ql ht.c1,↓Ql ht.c0,↓QE,e0,↓SlcB (n:=bs.length) (m:=pos+o) rfl (by omega)]
 refine ZR ht.u8 (by omega) (by omega) ?_
 have e1:IntKind.u32.wrap (((pos+o:Nat):Int)+(le4 bs (pos+o):Int))=(tgt bs (pos+o):Nat):=by unfold tgt at h2⊢;rw[QT (by omega) (by omega)];omega
 have e2:IntKind.u32.wrap (((tgt bs (pos+o):Nat):Int)+4)=((tgt bs (pos+o)+4:Nat):Int):=by rw[QT (by omega) (by omega)];omega
 simp only[↓QE,e1,e2]
 exact hR
theorem go_Table_Union {o q:Nat} {x:Int} {c:Array Value} {e:TypeId} (hx:x=(o:Nat)) (hl:pos+o+4<=bs.length) (h2:tgt bs (pos+o)<=bs.length) (hq:H[q]?=some (.cells c e (0,0))) (hc:c.size=2) (hpq:q≠p)
  (hR:R (.tuple #[]) (setB H q (.cells #[bsl B 0 bs.length bs.length,.int .u32 (tgt bs (pos+o):Nat)] e (0,0)))):
  FnS prog 336 #[.pointer (some ⟨p,0,none⟩),.pointer (some ⟨q,0,none⟩),.int .u32 x] H R:=by
 have:=ht.lt
 subst hx
 apply w336
 unfold s336
 have e0:IntKind.u32.wrap ((o:Int)+pos)=((pos+o:Nat):Int):=by rw[QT (by omega) (by omega)];omega
 simp only[↓Qt,↓Qu,↓Ql ht.c1,↓QE,e0]
 refine QgQ ht (o:=pos+o) rfl (by omega) ?_
 have e1:IntKind.u32.wrap (((pos+o:Nat):Int)+(le4 bs (pos+o):Int))=(tgt bs (pos+o):Nat):=by unfold tgt at h2⊢;rw[QT (by omega) (by omega)];omega
 have c0:=ht.c0
 obtain ⟨x0,x1,rfl⟩:∃x0 x1,c=#[x0,x1]:=by
  obtain ⟨l⟩:=c
  match l,hc with
  |[x0,x1],_=>exact ⟨x0,x1,rfl⟩
 simp only[↓QE,e1,↓Qt,↓Qu,↓Qbb (v:=.int .u32 (tgt bs (pos+o):Nat)) hq (by decide:1<2) (by simp) rfl]
 have hq':=QU (o:=.cells (#[x0,x1].setIfInBounds 1 (.int .u32 (tgt bs (pos+o):Nat))) e (0,0)) hq
 have c0':Qb2 (setB H q (.cells (#[x0,x1].setIfInBounds 1 (.int .u32 (tgt bs (pos+o):Nat))) e (0,0))) ⟨p,0,none⟩=some (bsl B 0 bs.length bs.length):=by
  rw[<-c0];unfold Qb2;rw[Qx (Ne.symm hpq)]
 simp only[↓Ql c0',↓Qbb (v:=bsl B 0 bs.length bs.length) hq' (by decide:0<2) (by simp) rfl,Qdq]
 exact hR
end
abbrev QfO (f:Nat):Prop:=∀{H:Qe} {R:Kn} {q:Nat} {c:Array Value} {e:TypeId} {x y:Value} (_:H[q]?=some (.cells c e (0,0))) (_:c.size=2) (_:x.oneCell'=true) (_:y.oneCell'=true)
  (_:R (.tuple #[]) (setB H q (.cells #[x,y] e (0,0)))),FnS prog f #[.pointer (some ⟨q,0,none⟩),x,y] H R
def Init1S (x0 x1 x2:Value) (h:Qe) (R:Kn):Prop:=
 Q5 x0 fun x8=>
 Qg x8 0 fun x9=>
 Qg x9 0 fun x10=>
 StK h 1 x10 x1 fun h1=>
 Q5 x0 fun x13=>
 Qg x13 0 fun x14=>
 Qg x14 1 fun x15=>
 StK h1 1 x15 x2 fun h2=>
 R (.tuple #[]) h2
theorem init1S {f:Nat} (hw:∀{x0 x1 x2 h R},Init1S x0 x1 x2 h R->FnS prog f #[x0,x1,x2] h R):QfO f:=by
 intro H R q c e x y hq hc hx hy hR
 obtain ⟨x0,x1,rfl⟩:∃x0 x1,c=#[x0,x1]:=by
  obtain ⟨l⟩:=c
  match l,hc with
  |[x0,x1],_=>exact ⟨x0,x1,rfl⟩
 apply hw
 unfold Init1S
 have hq':=QU (o:=.cells (#[x0,x1].setIfInBounds 0 x) e (0,0)) hq
 simp only[↓Qt,↓Qu,↓Qbb hq (by decide:0<2) (by simp) hx,↓Qbb hq' (by decide:1<2) (by simp) hy,Qdq]
 exact hR
def Init2S (x0 x1 x2:Value) (h:Qe) (R:Kn):Prop:=
 Q5 x0 fun x8=>
 Qg x8 0 fun x9=>
 Qg x9 0 fun x10=>
 Qg x10 0 fun x11=>
 StK h 1 x11 x1 fun h1=>
 Q5 x0 fun x14=>
 Qg x14 0 fun x15=>
 Qg x15 0 fun x16=>
 Qg x16 1 fun x17=>
 StK h1 1 x17 x2 fun h2=>
 R (.tuple #[]) h2
theorem init2S {f:Nat} (hw:∀{x0 x1 x2 h R},Init2S x0 x1 x2 h R->FnS prog f #[x0,x1,x2] h R):QfO f:=by
 intro H R q c e x y hq hc hx hy hR
 obtain ⟨x0,x1,rfl⟩:∃x0 x1,c=#[x0,x1]:=by
  obtain ⟨l⟩:=c
  match l,hc with
  |[x0,x1],_=>exact ⟨x0,x1,rfl⟩
 apply hw
 unfold Init2S
 have hq':=QU (o:=.cells (#[x0,x1].setIfInBounds 0 x) e (0,0)) hq
 simp only[↓Qt,↓Qu,↓Qbb hq (by decide:0<2) (by simp) hx,↓Qbb hq' (by decide:1<2) (by simp) hy,Qdq]
 exact hR
theorem ZJ:QfO 177:=init1S w177
theorem Qin:QfO 327:=init2S w327
theorem Qd1:QfO 328:=init2S w328
theorem Qiw:QfO 332:=init1S w332
theorem QgY:QfO 334:=init2S w334
theorem QcP:QfO 335:=init1S w335
theorem QbS:QfO 337:=init1S w337
theorem QdA:QfO 325:=init1S w325
end Go.Proofs
namespace Go.Proofs
open Go Go.Vc
open Tryz (prog)
def Sc (k:Nat) (bs:List UInt8) (pos vt vo d x:Nat):Prop:=
 (slotAt bs vt vo=0/\x=d)\/(slotAt bs vt vo≠0/\pos+slotAt bs vt vo+k<=bs.length/\x=leN k bs (pos+slotAt bs vt vo))
def Qec (k:Nat) (bs:List UInt8) (pos vt vo n at_:Nat):Prop:=
 (slotAt bs vt vo=0/\n=0)\/
 (slotAt bs vt vo≠0/\pos+slotAt bs vt vo+4<=bs.length/\at_=tgt bs (pos+slotAt bs vt vo)+4/\le4 bs (tgt bs (pos+slotAt bs vt vo))=n/\at_+k*n<=bs.length/\at_<=bs.length)
def StrAt (bs:List UInt8) (o n:Nat):Prop:=o+4<=bs.length/\le4 bs (tgt bs o)=n/\tgt bs o+4+n<bs.length
theorem YK {H:Qe} {o o':Obj}:setB (H.push o) H.size o'=H.push o':=by
 apply Array.ext_getElem?
 intro j
 simp only[setB,Array.getElem?_setIfInBounds,Array.getElem?_push,Array.size_push]
 by_cases h:H.size=j
 ·subst h;simp
 ·rw[if_neg h]
  by_cases h2:j=H.size
  ·exact absurd h2.symm h
  ·rw[if_neg h2,if_neg h2]
section
variable {H:Qe} {p B:Nat} {bs:List UInt8} {pos:Nat} (ht:Tab H p B bs pos) {R:Kn}
include ht
theorem Tab.push (o:Obj):Tab (H.push o) p B bs pos:=ht.ext (Qam.push H o).ext
theorem Tab.slot_add {vt vo k:Nat} (h:pos+slotAt bs vt vo+k<=bs.length):IntKind.u32.wrap ((slotAt bs vt vo:Int)+pos)=((pos+slotAt bs vt vo:Nat):Int):=by
 have:=ht.lt
 rw[QT (by omega) (by omega)];omega
theorem Tab.add {o k:Nat} (h:pos+o+k<=bs.length):IntKind.u32.wrap ((pos:Int)+(o:Nat))=((pos+o:Nat):Int):=by
 have:=ht.lt
 rw[QT (by omega) (by omega)];omega
theorem Tab.item {a i k m:Nat} (h:a+k*i+m<=bs.length):IntKind.u32.wrap ((a:Int)+IntKind.u32.wrap (IntKind.i64.wrap ((i:Int)*(k:Nat))))=((a+k*i:Nat):Int):=by
 have:=ht.lt
 have e:(i:Int)*(k:Nat)=((k*i:Nat):Int):=by rw[Int.natCast_mul,Int.mul_comm]
 rw[e,wrap_i64 (by omega) (by omega),QT (n:=((k*i:Nat):Int)) (by omega) (by omega),QT (by omega) (by omega)];omega
theorem Tab.item' {a i k m:Nat} (hi:i<2147483648) (h:a+k*i+m<=bs.length):IntKind.u32.wrap ((a:Int)+IntKind.u32.wrap (IntKind.u32.wrap (i:Int)*(k:Nat)))=((a+k*i:Nat):Int):=by
 have:=ht.lt
 rw[QT (n:=(i:Int)) (by omega) (by omega)]
 have e:(i:Int)*(k:Nat)=((k*i:Nat):Int):=by rw[Int.natCast_mul,Int.mul_comm]
 rw[e,QT (n:=((k*i:Nat):Int)) (by omega) (by omega),QT (by omega) (by omega)];omega
theorem slot_u32 {vt vo:Nat}:IntKind.u32.wrap (slotAt bs vt vo:Int)=(slotAt bs vt vo:Int):=by
 have:=slotAt_lt bs vt vo
 exact QT (by omega) (by omega)
end
abbrev vI16 (x:Nat):Value:=.int .i16 (IntKind.i16.wrap (x:Int))
abbrev vU8 (x:Nat):Value:=.int .u8 (x:Int)
abbrev vB (x:Nat):Value:=.bool (decide ((x:Int)=1))
abbrev vI32 (x:Nat):Value:=.int .i32 (IntKind.i32.wrap (x:Int))
abbrev vU32 (x:Nat):Value:=.int .u32 (x:Int)
abbrev vI64 (x:Nat):Value:=.int .i64 (IntKind.i64.wrap (x:Int))
abbrev vU64 (x:Nat):Value:=.int .u64 (x:Int)
abbrev vF32 (x:Nat):Value:=.float .f32 x
abbrev vI8 (x:Nat):Value:=.int .i8 (IntKind.i8.wrap (x:Int))
abbrev vF64 (x:Nat):Value:=.float .f64 x
abbrev vU16 (x:Nat):Value:=.int .u16 (x:Int)
def OffS (vo:Int) (x0:Value) (h:Qe) (A:Kn) (B:Qe->Prop):Prop:=
 Q5 x0 fun x5=>
 Qg x5 0 fun x6=>
 Qb prog 314 #[x6,(.int .u16 vo)] h fun x7 h1=>
 Yl .u32 x7 fun x8=>
 Qr prog .neq 68 x8 (.int .u32 0) fun x10=>
 IfK x10 (A x8 h1) (B h1)
theorem offS {H:Qe} {p B:Nat} {bs:List UInt8} {pos:Nat} (ht:Tab H p B bs pos) {vt vo:Nat} (hv:VT bs pos vt) (he:vo%2=0) {A:Kn} {B:Qe->Prop} (h0:slotAt bs vt vo=0->B H)
  (h1:slotAt bs vt vo≠0->A (.int .u32 (slotAt bs vt vo:Int)) H):OffS vo (.pointer (some ⟨p,0,none⟩)) H A B:=by
 have e0:=slot_u32 ht (vt:=vt) (vo:=vo)
 unfold OffS
 simp only[↓Qt,↓Qu]
 refine go_Table_Offset ht hv he ?_
 simp only[↓QO,↓Yp,e0]
 by_cases hz:slotAt bs vt vo=0
 ·rw[QJ (by omega)];exact h0 hz
 ·rw[QY (by omega)];exact h1 hz
abbrev GetOk (g k:Nat) (v:Nat->Value) (le:List UInt8->Nat->Nat):Prop:=∀{H:Qe} {p B:Nat} {bs:List UInt8} {pos:Nat} (_:Tab H p B bs pos) {R:Kn} {o:Nat} {x:Int} (_:x=(o:Nat)) (_:o+k<=bs.length) (_:R (v (le bs o)) H),FnS prog g #[.pointer (some ⟨p,0,none⟩),.int .u32 x] H R
abbrev Qi6 (f k vo d:Nat) (v:Nat->Value):Prop:=∀{H:Qe} {p B:Nat} {bs:List UInt8} {pos:Nat} (_:Tab H p B bs pos) {R:Kn} {vt x:Nat} (_:VT bs pos vt) (_:Sc k bs pos vt vo d x) (_:R (v x) H),FnS prog f #[.pointer (some ⟨p,0,none⟩)] H R
abbrev QfC (f vo:Nat):Prop:=∀{H:Qe} {p B:Nat} {bs:List UInt8} {pos:Nat} (_:Tab H p B bs pos) {R:Kn} {vt k n at_:Nat} (_:VT bs pos vt) (_:Qec k bs pos vt vo n at_) (_:R (.int .i64 n) H),FnS prog f #[.pointer (some ⟨p,0,none⟩)] H R
abbrev ItOk (f k vo:Nat) (v:Nat->Value) (le:List UInt8->Nat->Nat):Prop:=∀{H:Qe} {p B:Nat} {bs:List UInt8} {pos:Nat} (_:Tab H p B bs pos) {R:Kn} {vt n at_ i:Nat} (_:VT bs pos vt) (_:Qec k bs pos vt vo n at_) (_:i<n) (_:R (v (le bs (at_+k*i))) H),FnS prog f #[.pointer (some ⟨p,0,none⟩),.int .i64 (i:Nat)] H R
abbrev TItOk (f vo:Nat):Prop:=∀{H:Qe} {p B:Nat} {bs:List UInt8} {pos:Nat} (_:Tab H p B bs pos) {R:Kn} {vt n at_ i m:Nat} (_:VT bs pos vt) (_:Qec 4 bs pos vt vo n at_) (_:i<n) (_:StrAt bs (at_+4*i) m)
  (_:R (bsl B (tgt bs (at_+4*i)+4) m (bs.length-(tgt bs (at_+4*i)+4))) H),FnS prog f #[.pointer (some ⟨p,0,none⟩),.int .i64 (i:Nat)] H R
abbrev StOk (f off k:Nat) (v:Nat->Value) (le:List UInt8->Nat->Nat):Prop:=∀{H:Qe} {p B:Nat} {bs:List UInt8} {pos:Nat} (_:Tab H p B bs pos) {R:Kn} (_:pos+off+k<=bs.length) (_:R (v (le bs (pos+off))) H),FnS prog f #[.pointer (some ⟨p,0,none⟩)] H R
abbrev BytOk (f vo:Nat):Prop:=∀{H:Qe} {p B:Nat} {bs:List UInt8} {pos:Nat} (_:Tab H p B bs pos) {R:Kn} {vt:Nat} (_:VT bs pos vt) (_:slotAt bs vt vo=0->R (.slice none 0 0) H)
  (_:slotAt bs vt vo≠0->∃n,StrAt bs (pos+slotAt bs vt vo) n/\R (bsl B (tgt bs (pos+slotAt bs vt vo)+4) n (bs.length-(tgt bs (pos+slotAt bs vt vo)+4))) H),FnS prog f #[.pointer (some ⟨p,0,none⟩)] H R
abbrev SubOk (f w vo:Nat):Prop:=∀{H:Qe} {p B:Nat} {bs:List UInt8} {pos:Nat} (_:Tab H p B bs pos) {R:Kn} {vt n at_ i q:Nat} {c:Array Value} {e:TypeId} (_:VT bs pos vt) (_:Qec w bs pos vt vo n at_) (_:i<n) (_:H[q]?=some (.cells c e (0,0))) (_:c.size=2)
  (_:R (.bool true) (setB H q (.cells #[bsl B 0 bs.length bs.length,.int .u32 (at_+w*i:Nat)] e (0,0)))),FnS prog f #[.pointer (some ⟨p,0,none⟩),.pointer (some ⟨q,0,none⟩),.int .i64 (i:Nat)] H R
abbrev SubtOk (f vo:Nat):Prop:=∀{H:Qe} {p B:Nat} {bs:List UInt8} {pos:Nat} (_:Tab H p B bs pos) {R:Kn} {vt n at_ i q:Nat} {c:Array Value} {e:TypeId} (_:VT bs pos vt) (_:Qec 4 bs pos vt vo n at_) (_:i<n) (_:at_+4*i+4<=bs.length) (_:tgt bs (at_+4*i)<=bs.length) (_:H[q]?=some (.cells c e (0,0))) (_:c.size=2)
  (_:R (.bool true) (setB H q (.cells #[bsl B 0 bs.length bs.length,.int .u32 (tgt bs (at_+4*i):Nat)] e (0,0)))),FnS prog f #[.pointer (some ⟨p,0,none⟩),.pointer (some ⟨q,0,none⟩),.int .i64 (i:Nat)] H R
abbrev UniOk (f vo:Nat):Prop:=∀{H:Qe} {p B:Nat} {bs:List UInt8} {pos:Nat} (_:Tab H p B bs pos) {R:Kn} {vt q:Nat} {c:Array Value} {e:TypeId} (_:VT bs pos vt) (_:H[q]?=some (.cells c e (0,0))) (_:c.size=2) (_:q≠p) (_:slotAt bs vt vo=0->R (.bool false) H)
  (_:slotAt bs vt vo≠0->pos+slotAt bs vt vo+4<=bs.length/\tgt bs (pos+slotAt bs vt vo)<=bs.length/\R (.bool true) (setB H q (.cells #[bsl B 0 bs.length bs.length,.int .u32 (tgt bs (pos+slotAt bs vt vo):Nat)] e (0,0)))),
  FnS prog f #[.pointer (some ⟨p,0,none⟩),.pointer (some ⟨q,0,none⟩)] H R
def ScS (vo:Int) (g:Nat) (dv:Value) (x0:Value) (h:Qe) (R:Kn):Prop:=OffS vo x0 h (fun x8 h1=>
 Q5 x0 fun x12=>
 Qg x12 0 fun x13=>
 Q5 x0 fun x16=>
 Qg x16 0 fun x17=>
 Qg x17 1 fun x18=>
 LdK h1 x18 fun x19=>
 Qr prog .add 68 x8 x19 fun x20=>
 Qb prog g #[x13,x20] h1 fun x21 h2=>
 R x21 h2) (fun h1=>(R dv h1))
theorem scS {f g vo k d:Nat} {dv:Value} {v:Nat->Value} {le:List UInt8->Nat->Nat} (hw:∀{x0 h R},ScS vo g dv x0 h R->FnS prog f #[x0] h R) (hg:GetOk g k v le) (he:vo%2=0) (hd:dv=v d) (hk:le=leN k):Qi6 f k vo d v:=by
 subst hd hk
 intro H p B bs pos ht R vt x hv hs hR
 apply hw
 refine offS ht hv he (fun h=>?_) (fun h=>?_)
 all_goals rcases hs with ⟨h0,rfl⟩|⟨h0,h1,rfl⟩
 ·exact hR
 ·exact absurd h h0
 ·exact absurd h0 h
 ·simp only[↓Qt,↓Qu,↓Ql ht.c1,↓QE]
  exact hg ht (Tab.slot_add ht h1) h1 hR
theorem QbN:Qi6 180 2 6 150 vI16:=scS (le:=le2) w180 Qd2 rfl rfl rfl
theorem Qb9:Qi6 181 2 8 100 vI16:=scS (le:=le2) w181 Qd2 rfl rfl rfl
def BytS (vo:Int) (x0:Value) (h:Qe) (R:Kn):Prop:=OffS vo x0 h (fun x8 h1=>
 Q5 x0 fun x12=>
 Qg x12 0 fun x13=>
 Q5 x0 fun x16=>
 Qg x16 0 fun x17=>
 Qg x17 1 fun x18=>
 LdK h1 x18 fun x19=>
 Qr prog .add 68 x8 x19 fun x20=>
 Qb prog 316 #[x13,x20] h1 fun x21 h2=>
 R x21 h2) (fun h1=>(R (.slice none 0 0) h1))
theorem bytS {f vo:Nat} (hw:∀{x0 h R},BytS vo x0 h R->FnS prog f #[x0] h R) (he:vo%2=0):BytOk f vo:=by
 intro H p B bs pos ht R vt hv h0 h1
 apply hw
 refine offS ht hv he (fun h=>h0 h) (fun h=>?_)
 obtain ⟨n,⟨g1,g2,g3⟩,hR⟩:=h1 h
 simp only[↓Qt,↓Qu,↓Ql ht.c1,↓QE]
 exact Qe5 ht (Tab.slot_add ht g1) g1 g2 (by omega) (by omega) hR
theorem ZI:BytOk 182 10:=bytS w182 rfl
theorem Zk:Qi6 183 1 16 8 vU8:=scS (le:=byteN) w183 YL rfl rfl rfl
theorem Yz:Qi6 184 1 34 0 vB:=scS (le:=byteN) w184 QfQ rfl rfl rfl
theorem QX:Qi6 185 4 36 0 vI32:=scS (le:=le4) w185 QeP rfl rfl rfl
theorem QS:Qi6 186 4 38 0 vU32:=scS (le:=le4) w186 Qb7 rfl rfl rfl
theorem QI:Qi6 187 8 40 0 vI64:=scS (le:=le8) w187 Qbw rfl rfl rfl
theorem QD:Qi6 188 8 42 0 vU64:=scS (le:=le8) w188 YI rfl rfl rfl
theorem Q8:Qi6 189 4 44 0 vI32:=scS (le:=le4) w189 QeP rfl rfl rfl
theorem Q6:Qi6 190 4 46 0 vU32:=scS (le:=le4) w190 Qb7 rfl rfl rfl
theorem Q4:Qi6 191 8 48 0 vI64:=scS (le:=le8) w191 Qbw rfl rfl rfl
theorem Q3:Qi6 192 8 50 0 vU64:=scS (le:=le8) w192 YI rfl rfl rfl
theorem QK:Qi6 193 4 54 1078530000 vF32:=scS (le:=le4) w193 Z2 rfl rfl rfl
theorem QB:Qi6 194 4 56 1077936128 vF32:=scS (le:=le4) w194 Z2 rfl rfl rfl
theorem Q9:Qi6 195 4 58 0 vF32:=scS (le:=le4) w195 Z2 rfl rfl rfl
theorem Zf {H:Qe} {p B:Nat} {bs:List UInt8} {pos:Nat} (ht:Tab H p B bs pos) {R:Kn} {vt:Nat} (hv:VT bs pos vt) (h0:slotAt bs vt 72=0->R (.pointer none) H)
  (h1:slotAt bs vt 72≠0->pos+slotAt bs vt 72+4<=bs.length/\tgt bs (pos+slotAt bs vt 72)<=bs.length/\R (.pointer (some ⟨H.size,0,none⟩)) (H.push (.cells #[bsl B 0 bs.length bs.length,.int .u32 (tgt bs (pos+slotAt bs vt 72):Nat)] 308))):
  FnS prog 196 #[.pointer (some ⟨p,0,none⟩),.pointer none] H R:=by
 apply w196
 refine offS ht hv (vo:=72) rfl (fun h=>h0 h) (fun h=>?_)
 obtain ⟨g1,g2,hR⟩:=h1 h
 simp only[↓Qt,↓Qu,↓Ql ht.c1,↓QE]
 refine QbD ht (Tab.slot_add ht g1) g1 g2 ?_
 refine Q7 (fun vs h=>vs=[.pointer (some ⟨H.size,0,none⟩)]/\h=H.push (.cells z308 308)) ?_ ?_
 ·rw[Ys (by kernel_rfl)]
  exact ⟨rfl,rfl⟩
 ·rintro x h ⟨hx,rfl⟩
  cases hx
  have ht2:=Tab.push ht (.cells z308 308)
  simp only[↓Qt,↓Qu,↓Ql ht2.c0]
  refine QdA Qh (by simp[z308]) rfl rfl ?_
  rw[YK]
  exact hR
theorem Qp:Qi6 197 8 76 0 vU64:=scS (le:=le8) w197 YI rfl rfl rfl
theorem Qq:Qi6 198 8 82 0 vU64:=scS (le:=le8) w198 YI rfl rfl rfl
theorem Qn:Qi6 199 8 86 0 vU64:=scS (le:=le8) w199 YI rfl rfl rfl
theorem Qw:Qi6 200 1 100 255 vI8:=scS (le:=byteN) w200 QfH rfl rfl rfl
theorem Qcb {H:Qe} {p B:Nat} {bs:List UInt8} {pos:Nat} (ht:Tab H p B bs pos) {R:Kn} {vt:Nat} (hv:VT bs pos vt) (h0:slotAt bs vt 4=0->R (.pointer none) H)
  (h1:slotAt bs vt 4≠0->pos+slotAt bs vt 4<=bs.length/\R (.pointer (some ⟨H.size,0,none⟩)) (H.push (.cells #[bsl B 0 bs.length bs.length,.int .u32 (pos+slotAt bs vt 4:Nat)] 310))):
  FnS prog 201 #[.pointer (some ⟨p,0,none⟩),.pointer none] H R:=by
 apply w201
 refine offS ht hv (vo:=4) rfl (fun h=>h0 h) (fun h=>?_)
 obtain ⟨g1,hR⟩:=h1 h
 simp only[↓Qt,↓Qu,↓Ql ht.c1,↓QE]
 rw[Tab.slot_add ht (k:=0) (by omega)]
 refine Q7 (fun vs h=>vs=[.pointer (some ⟨H.size,0,none⟩)]/\h=H.push (.cells z310 310)) ?_ ?_
 ·rw[Ys (by kernel_rfl)]
  exact ⟨rfl,rfl⟩
 ·rintro x h ⟨hx,rfl⟩
  cases hx
  have ht2:=Tab.push ht (.cells z310 310)
  simp only[↓Qt,↓Qu,↓Ql ht2.c0]
  refine Qin Qh (by simp[z310]) rfl rfl ?_
  rw[YK]
  exact hR
theorem Qem {H:Qe} {p B:Nat} {bs:List UInt8} {pos:Nat} (ht:Tab H p B bs pos) {R:Kn} (hl:pos+26<=bs.length) (hR:R (.pointer (some ⟨H.size,0,none⟩)) (H.push (.cells #[bsl B 0 bs.length bs.length,.int .u32 (pos+26:Nat)] 237))):
  FnS prog 202 #[.pointer (some ⟨p,0,none⟩),.pointer none] H R:=by
 apply w202
 unfold s202
 refine Q7 (fun vs h=>vs=[.pointer (some ⟨H.size,0,none⟩)]/\h=H.push (.cells z237 237)) ?_ ?_
 ·rw[Ys (by kernel_rfl)]
  exact ⟨rfl,rfl⟩
 ·rintro x h ⟨hx,rfl⟩
  cases hx
  have ht2:=Tab.push ht (.cells z237 237)
  have ea:=Tab.add ht (o:=26) (k:=0) (by omega)
  simp only[↓Qt,↓Qu,↓Ql ht2.c0,↓Ql ht2.c1,↓QE]
  rw[show ((pos:Int)+(26:Int))=(pos:Int)+((26:Nat):Int) from rfl,ea]
  refine Qd1 Qh (by simp[z237]) rfl rfl ?_
  rw[YK]
  exact hR
def StS (off:Int) (g:Nat) (x0:Value) (h:Qe) (R:Kn):Prop:=
 Q5 x0 fun x4=>
 Qg x4 0 fun x5=>
 Qg x5 0 fun x6=>
 Q5 x0 fun x8=>
 Qg x8 0 fun x9=>
 Qg x9 0 fun x10=>
 Qg x10 1 fun x11=>
 LdK h x11 fun x12=>
 Qr prog .add 68 x12 (.int .u32 off) fun x13=>
 Qb prog g #[x6,x13] h fun x14 h1=>
 R x14 h1
theorem stS {f g off k:Nat} {v:Nat->Value} {le:List UInt8->Nat->Nat} (hw:∀{x0 h R},StS off g x0 h R->FnS prog f #[x0] h R) (hg:GetOk g k v le):StOk f off k v le:=by
 intro H p B bs pos ht R hl hR
 apply hw
 unfold StS
 have ea:=Tab.add ht (o:=off) (k:=k) hl
 simp only[↓Qt,↓Qu,↓Ql ht.c1,↓QE]
 exact hg ht (o:=pos+off) ea hl hR
theorem Qh6:StOk 203 0 4 vF32 le4:=stS w203 Z2
theorem Qh5:StOk 204 4 4 vF32 le4:=stS w204 Z2
theorem Qh0:StOk 205 8 4 vF32 le4:=stS w205 Z2
theorem Qes:StOk 206 16 8 vF64 le8:=stS w206 QdW
theorem Qeo:StOk 207 24 1 vU8 byteN:=stS w207 YL
theorem Qde:StOk 208 0 2 vI16 le2:=stS w208 Qd2
theorem Qdf:StOk 209 2 1 vI8 byteN:=stS w209 QfH
def LenS (vo:Int) (x0:Value) (h:Qe) (R:Kn):Prop:=OffS vo x0 h (fun x8 h1=>
 Q5 x0 fun x12=>
 Qg x12 0 fun x13=>
 Qb prog 330 #[x13,x8] h1 fun x15 h2=>
 R x15 h2) (fun h1=>(R (.int .i64 0) h1))
theorem lenS {f vo:Nat} (hw:∀{x0 h R},LenS vo x0 h R->FnS prog f #[x0] h R) (he:vo%2=0):QfC f vo:=by
 intro H p B bs pos ht R vt k n at_ hv hs hR
 apply hw
 refine offS ht hv he (fun h=>?_) (fun h=>?_)
 all_goals rcases hs with ⟨h0,rfl⟩|⟨h0,h1,rfl,h3,h4,h5⟩
 ·exact hR
 ·exact absurd h h0
 ·exact absurd h0 h
 ·try simp only[↓Qt,↓Qu]
  refine QhL ht rfl (by omega) (by omega) ?_
  rw[h3];exact hR
theorem Qdd:QfC 210 14:=lenS w210 rfl
def ItS (vo k:Int) (g:Nat) (dv:Value) (x0 x1:Value) (h:Qe) (R:Kn):Prop:=OffS vo x0 h (fun x11 h1=>
 Q5 x0 fun x15=>
 Qg x15 0 fun x16=>
 Qb prog 331 #[x16,x11] h1 fun x18 h2=>
 Q5 x0 fun x20=>
 Qg x20 0 fun x21=>
 Qr prog .mul 3 x1 (.int .i64 k) fun x24=>
 Yl .u32 x24 fun x25=>
 Qr prog .add 68 x18 x25 fun x26=>
 Qb prog g #[x21,x26] h2 fun x27 h3=>
 R x27 h3) (fun h1=>(R dv h1))
theorem itS {f g vo k:Nat} {dv:Value} {v:Nat->Value} {le:List UInt8->Nat->Nat} (hw:∀{x0 x1 h R},ItS vo k g dv x0 x1 h R->FnS prog f #[x0,x1] h R) (hg:GetOk g k v le) (he:vo%2=0):ItOk f k vo v le:=by
 intro H p B bs pos ht R vt n at_ i hv hs hi hR
 apply hw
 rcases hs with ⟨h0,rfl⟩|⟨h0,h1,rfl,h3,h4,h5⟩
 ·omega
 refine offS ht hv he (fun h=>absurd h h0) (fun h=>?_)
 try simp only[↓Qt,↓Qu]
 refine QcC ht rfl (by omega) (by omega) ?_
 simp only[↓Qt,↓Qu,↓QbB,↓QE,↓QO]
 have h6:tgt bs (pos+slotAt bs vt vo)+4+k*i+k<=bs.length:=by
  have:k*i+k<=k*n:=Nat.le_trans (Nat.le_of_eq (Nat.mul_succ k i).symm) (Nat.mul_le_mul_left k hi)
  omega
 exact hg ht (Tab.item ht h6) h6 hR
theorem QeF:ItOk 211 1 14 vU8 byteN:=itS w211 YL rfl
theorem Qbo:QfC 212 22:=lenS w212 rfl
def SubS (vo w:Int) (g:Nat) (x0 x1 x2:Value) (h:Qe) (R:Kn):Prop:=OffS vo x0 h (fun x13 h1=>
 Q5 x0 fun x17=>
 Qg x17 0 fun x18=>
 Qb prog 331 #[x18,x13] h1 fun x20 h2=>
 Yl .u32 x2 fun x23=>
 Qr prog .mul 68 x23 (.int .u32 w) fun x24=>
 Qr prog .add 68 x20 x24 fun x25=>
 Q5 x0 fun x28=>
 Qg x28 0 fun x29=>
 Qg x29 0 fun x30=>
 LdK h2 x30 fun x31=>
 Qb prog g #[x1,x31,x25] h2 fun _x33 h3=>
 R (.bool true) h3) (fun h1=>(R (.bool false) h1))
theorem subS {f g vo w:Nat} (hw:∀{x0 x1 x2 h R},SubS vo w g x0 x1 x2 h R->FnS prog f #[x0,x1,x2] h R) (hg:QfO g) (he:vo%2=0) (hw0:0<w):SubOk f w vo:=by
 intro H p B bs pos ht R vt n at_ i q c e hv hs hi hq hc hR
 apply hw
 rcases hs with ⟨h0,rfl⟩|⟨h0,h1,rfl,h3,h4,h5⟩
 ·omega
 refine offS ht hv he (fun h=>absurd h h0) (fun h=>?_)
 try simp only[↓Qt,↓Qu]
 refine QcC ht rfl (by omega) (by omega) ?_
 have h6:tgt bs (pos+slotAt bs vt vo)+4+w*i+w<=bs.length:=by
  have:w*i+w<=w*n:=Nat.le_trans (Nat.le_of_eq (Nat.mul_succ w i).symm) (Nat.mul_le_mul_left w hi)
  omega
 have:=ht.lt
 have hi2:i<2147483648:=by
  have:1*i<=w*i:=Nat.mul_le_mul_right i hw0
  omega
 have ea:=Tab.item' ht (a:=tgt bs (pos+slotAt bs vt vo)+4) (k:=w) hi2 h6
 simp only[↓QO,↓QbB,↓QE]
 rw[ea]
 try simp only[↓Qt,↓Qu,↓Ql ht.c0]
 exact hg hq hc rfl rfl hR
theorem Qds:SubOk 213 4 22:=subS w213 Qd1 rfl (by decide)
theorem Z7:QfC 214 24:=lenS w214 rfl
def TItS (vo:Int) (x0 x1:Value) (h:Qe) (R:Kn):Prop:=OffS vo x0 h (fun x11 h1=>
 Q5 x0 fun x15=>
 Qg x15 0 fun x16=>
 Qb prog 331 #[x16,x11] h1 fun x18 h2=>
 Q5 x0 fun x20=>
 Qg x20 0 fun x21=>
 Qr prog .mul 3 x1 (.int .i64 4) fun x24=>
 Yl .u32 x24 fun x25=>
 Qr prog .add 68 x18 x25 fun x26=>
 Qb prog 316 #[x21,x26] h2 fun x27 h3=>
 R x27 h3) (fun h1=>(R (.slice none 0 0) h1))
theorem titS {f vo:Nat} (hw:∀{x0 x1 h R},TItS vo x0 x1 h R->FnS prog f #[x0,x1] h R) (he:vo%2=0):TItOk f vo:=by
 intro H p B bs pos ht R vt n at_ i m hv hs hi hm hR
 apply hw
 rcases hs with ⟨h0,rfl⟩|⟨h0,h1,rfl,h3,h4,h5⟩
 ·omega
 refine offS ht hv he (fun h=>absurd h h0) (fun h=>?_)
 try simp only[↓Qt,↓Qu]
 refine QcC ht rfl (by omega) (by omega) ?_
 simp only[↓Qt,↓Qu,↓QbB,↓QE,↓QO]
 obtain ⟨g1,g2,g3⟩:=hm
 exact Qe5 ht (Tab.item ht g1) g1 g2 (Nat.le_of_lt g3) (Nat.lt_of_le_of_lt (Nat.le_add_right _ _) g3) hR
theorem Qaj:TItOk 215 24:=titS w215 rfl
theorem ZA:QfC 216 26:=lenS w216 rfl
def SubtS (vo:Int) (g:Nat) (x0 x1 x2:Value) (h:Qe) (R:Kn):Prop:=OffS vo x0 h (fun x13 h1=>
 Q5 x0 fun x17=>
 Qg x17 0 fun x18=>
 Qb prog 331 #[x18,x13] h1 fun x20 h2=>
 Yl .u32 x2 fun x23=>
 Qr prog .mul 68 x23 (.int .u32 4) fun x24=>
 Qr prog .add 68 x20 x24 fun x25=>
 Q5 x0 fun x27=>
 Qg x27 0 fun x28=>
 Qb prog 324 #[x28,x25] h2 fun x30 h3=>
 Q5 x0 fun x33=>
 Qg x33 0 fun x34=>
 Qg x34 0 fun x35=>
 LdK h3 x35 fun x36=>
 Qb prog g #[x1,x36,x30] h3 fun _x38 h4=>
 R (.bool true) h4) (fun h1=>(R (.bool false) h1))
theorem subtS {f g vo:Nat} (hw:∀{x0 x1 x2 h R},SubtS vo g x0 x1 x2 h R->FnS prog f #[x0,x1,x2] h R) (hg:QfO g) (he:vo%2=0):SubtOk f vo:=by
 intro H p B bs pos ht R vt n at_ i q c e hv hs hi hm hm2 hq hc hR
 apply hw
 rcases hs with ⟨h0,rfl⟩|⟨h0,h1,rfl,h3,h4,h5⟩
 ·omega
 refine offS ht hv he (fun h=>absurd h h0) (fun h=>?_)
 try simp only[↓Qt,↓Qu]
 refine QcC ht rfl (by omega) (by omega) ?_
 have h6:tgt bs (pos+slotAt bs vt vo)+4+4*i+4<=bs.length:=by omega
 have:=ht.lt
 have ea:=Tab.item' ht (a:=tgt bs (pos+slotAt bs vt vo)+4) (k:=4) (by omega) h6
 simp only[↓QO,↓QbB,↓QE]
 rw[show ((4:Int))=((4:Nat):Int) from rfl,ea]
 try simp only[↓Qt,↓Qu,↓Ql ht.c0]
 refine QbD ht rfl hm hm2 ?_
 try simp only[↓Qt,↓Qu,↓Ql ht.c0]
 exact hg hq hc rfl rfl hR
theorem Qaf:SubtOk 217 26:=subtS w217 ZJ rfl
theorem Qbv {H:Qe} {p B:Nat} {bs:List UInt8} {pos:Nat} (ht:Tab H p B bs pos) {R:Kn} {vt:Nat} (hv:VT bs pos vt) (h0:slotAt bs vt 28=0->R (.pointer none) H)
  (h1:slotAt bs vt 28≠0->pos+slotAt bs vt 28+4<=bs.length/\tgt bs (pos+slotAt bs vt 28)<=bs.length/\R (.pointer (some ⟨H.size,0,none⟩)) (H.push (.cells #[bsl B 0 bs.length bs.length,.int .u32 (tgt bs (pos+slotAt bs vt 28):Nat)] 213))):
  FnS prog 218 #[.pointer (some ⟨p,0,none⟩),.pointer none] H R:=by
 apply w218
 refine offS ht hv (vo:=28) rfl (fun h=>h0 h) (fun h=>?_)
 obtain ⟨g1,g2,hR⟩:=h1 h
 simp only[↓Qt,↓Qu,↓Ql ht.c1,↓QE]
 refine QbD ht (Tab.slot_add ht g1) g1 g2 ?_
 refine Q7 (fun vs h=>vs=[.pointer (some ⟨H.size,0,none⟩)]/\h=H.push (.cells z213 213)) ?_ ?_
 ·rw[Ys (by kernel_rfl)]
  exact ⟨rfl,rfl⟩
 ·rintro x h ⟨hx,rfl⟩
  cases hx
  have ht2:=Tab.push ht (.cells z213 213)
  simp only[↓Qt,↓Qu,↓Ql ht2.c0]
  refine ZJ Qh (by simp[z213]) rfl rfl ?_
  rw[YK]
  exact hR
theorem QaR:QfC 219 30:=lenS w219 rfl
theorem Qc1:ItOk 220 1 30 vU8 byteN:=itS w220 YL rfl
theorem Qao {H:Qe} {p B:Nat} {bs:List UInt8} {pos:Nat} (ht:Tab H p B bs pos) {R:Kn} {vt:Nat} (hv:VT bs pos vt) (h0:slotAt bs vt 32=0->R (.pointer none) H)
  (h1:slotAt bs vt 32≠0->pos+slotAt bs vt 32+4<=bs.length/\tgt bs (pos+slotAt bs vt 32)<=bs.length/\R (.pointer (some ⟨H.size,0,none⟩)) (H.push (.cells #[bsl B 0 bs.length bs.length,.int .u32 (tgt bs (pos+slotAt bs vt 32):Nat)] 313))):
  FnS prog 221 #[.pointer (some ⟨p,0,none⟩),.pointer none] H R:=by
 apply w221
 refine offS ht hv (vo:=32) rfl (fun h=>h0 h) (fun h=>?_)
 obtain ⟨g1,g2,hR⟩:=h1 h
 simp only[↓Qt,↓Qu,↓Ql ht.c1,↓QE]
 refine QbD ht (Tab.slot_add ht g1) g1 g2 ?_
 refine Q7 (fun vs h=>vs=[.pointer (some ⟨H.size,0,none⟩)]/\h=H.push (.cells z313 313)) ?_ ?_
 ·rw[Ys (by kernel_rfl)]
  exact ⟨rfl,rfl⟩
 ·rintro x h ⟨hx,rfl⟩
  cases hx
  have ht2:=Tab.push ht (.cells z313 313)
  simp only[↓Qt,↓Qu,↓Ql ht2.c0]
  refine Qiw Qh (by simp[z313]) rfl rfl ?_
  rw[YK]
  exact hR
theorem Qgg:BytOk 222 4:=bytS w222 rfl
theorem QfJ:Qi6 223 8 6 0 vI64:=scS (le:=le8) w223 Qbw rfl rfl rfl
theorem Qer:Qi6 224 2 8 0 vU16:=scS (le:=le2) w224 QhQ rfl rfl rfl
theorem ZF:QfC 225 52:=lenS w225 rfl
theorem Qap:ItOk 226 1 52 vB byteN:=itS w226 QfQ rfl
theorem Z6:QfC 227 60:=lenS w227 rfl
theorem Qa6:TItOk 228 60:=titS w228 rfl
theorem Zi:QfC 229 62:=lenS w229 rfl
theorem Z8:SubOk 230 8 62:=subS w230 QgY rfl (by decide)
theorem Qel:StOk 231 0 4 vU32 le4:=stS w231 Qb7
theorem Qcl:StOk 232 4 4 vU32 le4:=stS w232 Qb7
theorem Qef:QfC 233 64:=lenS w233 rfl
theorem QgW:ItOk 234 1 64 vU8 byteN:=itS w234 YL rfl
theorem Qbp:QfC 235 66:=lenS w235 rfl
theorem Qdk:SubOk 236 4 66:=subS w236 Qd1 rfl (by decide)
theorem ZU:QfC 237 68:=lenS w237 rfl
theorem QaP:ItOk 238 8 68 vI64 le8:=itS w238 Qbw rfl
theorem ZH:QfC 239 70:=lenS w239 rfl
theorem Qay:ItOk 240 8 70 vF64 le8:=itS w240 QdW rfl
theorem Z0:QfC 241 74:=lenS w241 rfl
theorem ZY:SubtOk 242 74:=subtS w242 QcP rfl
theorem Qbq:Qi6 243 8 4 0 vU64:=scS (le:=le8) w243 YI rfl rfl rfl
theorem Zm:QfC 244 78:=lenS w244 rfl
theorem ZD:ItOk 245 8 78 vU64 le8:=itS w245 YI rfl
theorem Zb:QfC 246 80:=lenS w246 rfl
theorem Z1:SubtOk 247 80:=subtS w247 QcP rfl
theorem YW:QfC 248 84:=lenS w248 rfl
theorem Zu:ItOk 249 8 84 vU64 le8:=itS w249 YI rfl
theorem YQ:QfC 250 88:=lenS w250 rfl
theorem Zq:ItOk 251 8 88 vU64 le8:=itS w251 YI rfl
def UniS (vo:Int) (x0 x1:Value) (h:Qe) (R:Kn):Prop:=OffS vo x0 h (fun x10 h1=>
 Q5 x0 fun x14=>
 Qg x14 0 fun x15=>
 Qb prog 336 #[x15,x1,x10] h1 fun _x18 h2=>
 R (.bool true) h2) (fun h1=>(R (.bool false) h1))
theorem uniS {f vo:Nat} (hw:∀{x0 x1 h R},UniS vo x0 x1 h R->FnS prog f #[x0,x1] h R) (he:vo%2=0):UniOk f vo:=by
 intro H p B bs pos ht R vt q c e hv hq hc hpq h0 h1
 apply hw
 refine offS ht hv he (fun h=>h0 h) (fun h=>?_)
 obtain ⟨g1,g2,hR⟩:=h1 h
 try simp only[↓Qt,↓Qu]
 exact go_Table_Union ht rfl g1 g2 hq hc hpq hR
theorem QdB:UniOk 252 20:=uniS w252 rfl
theorem Qcj:Qi6 254 1 18 0 vU8:=scS (le:=byteN) w254 YL rfl rfl rfl
theorem QbV:UniOk 255 92:=uniS w255 rfl
theorem QaW:Qi6 256 1 90 0 vU8:=scS (le:=byteN) w256 YL rfl rfl rfl
theorem Qaq:Qi6 257 1 94 0 vU8:=scS (le:=byteN) w257 YL rfl rfl rfl
theorem Qb4:UniOk 258 96:=uniS w258 rfl
theorem ZW:QfC 259 98:=lenS w259 rfl
theorem QaQ:ItOk 260 1 98 vU8 byteN:=itS w260 YL rfl
theorem ZL:Qi6 338 1 4 2 vU8:=scS (le:=byteN) w338 YL rfl rfl rfl
theorem Qdn:BytOk 302 14:=bytS w302 rfl
theorem Qb0:BytOk 305 30:=bytS w305 rfl
theorem Qex:BytOk 308 64:=bytS w308 rfl
end Go.Proofs
namespace Go.Proofs
open Go Go.Vc
open Tryz (prog)
section
variable {H:Qe} {B o n c:Nat} {L:List UInt8} {e:TypeId} (hB:H[B]?=some (.cells (u8c L) e (0,0))) {R:Kn}
include hB
set_option maxHeartbeats 1000000 in
theorem Qh3 {x:Int} (ho:o+2<=L.length) (hn:2<=n) (hR:R (.tuple #[]) (wr H B e (Qb5 L o (leB x 2)))):FnS prog 401 #[bsl B o n c,.int .u16 x] H R:=by
 rw[leB_2]at hR
 have hc:=Z9 (QeJ hB) (o:=o) (i:=1) (by omega)
 have i0:(0:Int)<n:=by omega
 have i1:(1:Int)<n:=by omega
 apply w401
 unfold tp395
 have e0:IntKind.u8.wrap x=((Zn x 0).toNat:Int):=byte_0 x
 have e1:IntKind.u8.wrap (x.fdiv (2^(min (Int.toNat 8) IntKind.u16.bits)))=((Zn x 1).toNat:Int):=Zv x 1
 simp only[↓QP (by decide:(0:Int)<=0) i0,↓QP (by decide:(0:Int)<=1) i1,show Int.toNat 0=0 from rfl,show Int.toNat 1=1 from rfl,Nat.mul_one,Nat.zero_mul,Nat.one_mul,↓Ql hc,↓QO,↓Zl (by decide:(0:Int)<=8),e0,e1]
 rw[<-QeE hB]
 rw[ZQ hB (by simp;omega)]
 rw[ZQ hB (by simp;omega)]
 exact hR
set_option maxHeartbeats 1000000 in
theorem go_WriteInt16 {x:Int} (ho:o+2<=L.length) (hn:2<=n) (hR:R (.tuple #[]) (wr H B e (Qb5 L o (leB x 2)))):FnS prog 395 #[bsl B o n c,.int .i16 x] H R:=by
 rw[leB_2]at hR
 have hc:=Z9 (QeJ hB) (o:=o) (i:=1) (by omega)
 have i0:(0:Int)<n:=by omega
 have i1:(1:Int)<n:=by omega
 apply w395
 unfold tp395
 have e0:IntKind.u8.wrap x=((Zn x 0).toNat:Int):=byte_0 x
 have e1:IntKind.u8.wrap (x.fdiv (2^(min (Int.toNat 8) IntKind.i16.bits)))=((Zn x 1).toNat:Int):=Zv x 1
 simp only[↓QP (by decide:(0:Int)<=0) i0,↓QP (by decide:(0:Int)<=1) i1,show Int.toNat 0=0 from rfl,show Int.toNat 1=1 from rfl,Nat.mul_one,Nat.zero_mul,Nat.one_mul,↓Ql hc,↓QO,↓Zl (by decide:(0:Int)<=8),e0,e1]
 rw[<-QeE hB]
 rw[ZQ hB (by simp;omega)]
 rw[ZQ hB (by simp;omega)]
 exact hR
set_option maxHeartbeats 1000000 in
theorem Qey {x:Int} (ho:o+4<=L.length) (hn:4<=n) (hR:R (.tuple #[]) (wr H B e (Qb5 L o (leB x 4)))):FnS prog 378 #[bsl B o n c,.int .u32 x] H R:=by
 rw[leB_4]at hR
 have hc:=Z9 (QeJ hB) (o:=o) (i:=3) (by omega)
 have i0:(0:Int)<n:=by omega
 have i1:(1:Int)<n:=by omega
 have i2:(2:Int)<n:=by omega
 have i3:(3:Int)<n:=by omega
 apply w378
 unfold tp378
 have e0:IntKind.u8.wrap x=((Zn x 0).toNat:Int):=byte_0 x
 have e1:IntKind.u8.wrap (x.fdiv (2^(min (Int.toNat 8) IntKind.u32.bits)))=((Zn x 1).toNat:Int):=Zv x 1
 have e2:IntKind.u8.wrap (x.fdiv (2^(min (Int.toNat 16) IntKind.u32.bits)))=((Zn x 2).toNat:Int):=Zv x 2
 have e3:IntKind.u8.wrap (x.fdiv (2^(min (Int.toNat 24) IntKind.u32.bits)))=((Zn x 3).toNat:Int):=Zv x 3
 simp only[↓QP (by decide:(0:Int)<=0) i0,↓QP (by decide:(0:Int)<=1) i1,↓QP (by decide:(0:Int)<=2) i2,↓QP (by decide:(0:Int)<=3) i3,show Int.toNat 0=0 from rfl,show Int.toNat 1=1 from rfl,show Int.toNat 2=2 from rfl,show Int.toNat 3=3 from rfl,Nat.mul_one,Nat.zero_mul,Nat.one_mul,↓Ql hc,↓QO,↓Zl (by decide:(0:Int)<=8),↓Zl (by decide:(0:Int)<=16),↓Zl (by decide:(0:Int)<=24),e0,e1,e2,e3]
 rw[<-QeE hB]
 rw[ZQ hB (by simp;omega)]
 rw[ZQ hB (by simp;omega)]
 rw[ZQ hB (by simp;omega)]
 rw[ZQ hB (by simp;omega)]
 exact hR
set_option maxHeartbeats 1000000 in
theorem Qi1 {x:Int} (ho:o+4<=L.length) (hn:4<=n) (hR:R (.tuple #[]) (wr H B e (Qb5 L o (leB x 4)))):FnS prog 398 #[bsl B o n c,.int .i32 x] H R:=by
 rw[leB_4]at hR
 have hc:=Z9 (QeJ hB) (o:=o) (i:=3) (by omega)
 have i0:(0:Int)<n:=by omega
 have i1:(1:Int)<n:=by omega
 have i2:(2:Int)<n:=by omega
 have i3:(3:Int)<n:=by omega
 apply w398
 unfold tp378
 have e0:IntKind.u8.wrap x=((Zn x 0).toNat:Int):=byte_0 x
 have e1:IntKind.u8.wrap (x.fdiv (2^(min (Int.toNat 8) IntKind.i32.bits)))=((Zn x 1).toNat:Int):=Zv x 1
 have e2:IntKind.u8.wrap (x.fdiv (2^(min (Int.toNat 16) IntKind.i32.bits)))=((Zn x 2).toNat:Int):=Zv x 2
 have e3:IntKind.u8.wrap (x.fdiv (2^(min (Int.toNat 24) IntKind.i32.bits)))=((Zn x 3).toNat:Int):=Zv x 3
 simp only[↓QP (by decide:(0:Int)<=0) i0,↓QP (by decide:(0:Int)<=1) i1,↓QP (by decide:(0:Int)<=2) i2,↓QP (by decide:(0:Int)<=3) i3,show Int.toNat 0=0 from rfl,show Int.toNat 1=1 from rfl,show Int.toNat 2=2 from rfl,show Int.toNat 3=3 from rfl,Nat.mul_one,Nat.zero_mul,Nat.one_mul,↓Ql hc,↓QO,↓Zl (by decide:(0:Int)<=8),↓Zl (by decide:(0:Int)<=16),↓Zl (by decide:(0:Int)<=24),e0,e1,e2,e3]
 rw[<-QeE hB]
 rw[ZQ hB (by simp;omega)]
 rw[ZQ hB (by simp;omega)]
 rw[ZQ hB (by simp;omega)]
 rw[ZQ hB (by simp;omega)]
 exact hR
set_option maxHeartbeats 1000000 in
theorem Qh7 {x:Int} (ho:o+8<=L.length) (hn:8<=n) (hR:R (.tuple #[]) (wr H B e (Qb5 L o (leB x 8)))):FnS prog 353 #[bsl B o n c,.int .u64 x] H R:=by
 rw[leB_8]at hR
 have hc:=Z9 (QeJ hB) (o:=o) (i:=7) (by omega)
 have i0:(0:Int)<n:=by omega
 have i1:(1:Int)<n:=by omega
 have i2:(2:Int)<n:=by omega
 have i3:(3:Int)<n:=by omega
 have i4:(4:Int)<n:=by omega
 have i5:(5:Int)<n:=by omega
 have i6:(6:Int)<n:=by omega
 have i7:(7:Int)<n:=by omega
 apply w353
 unfold tp351
 have e0:IntKind.u8.wrap x=((Zn x 0).toNat:Int):=byte_0 x
 have e1:IntKind.u8.wrap (x.fdiv (2^(min (Int.toNat 8) IntKind.u64.bits)))=((Zn x 1).toNat:Int):=Zv x 1
 have e2:IntKind.u8.wrap (x.fdiv (2^(min (Int.toNat 16) IntKind.u64.bits)))=((Zn x 2).toNat:Int):=Zv x 2
 have e3:IntKind.u8.wrap (x.fdiv (2^(min (Int.toNat 24) IntKind.u64.bits)))=((Zn x 3).toNat:Int):=Zv x 3
 have e4:IntKind.u8.wrap (x.fdiv (2^(min (Int.toNat 32) IntKind.u64.bits)))=((Zn x 4).toNat:Int):=Zv x 4
 have e5:IntKind.u8.wrap (x.fdiv (2^(min (Int.toNat 40) IntKind.u64.bits)))=((Zn x 5).toNat:Int):=Zv x 5
 have e6:IntKind.u8.wrap (x.fdiv (2^(min (Int.toNat 48) IntKind.u64.bits)))=((Zn x 6).toNat:Int):=Zv x 6
 have e7:IntKind.u8.wrap (x.fdiv (2^(min (Int.toNat 56) IntKind.u64.bits)))=((Zn x 7).toNat:Int):=Zv x 7
 simp only[↓QP (by decide:(0:Int)<=0) i0,↓QP (by decide:(0:Int)<=1) i1,↓QP (by decide:(0:Int)<=2) i2,↓QP (by decide:(0:Int)<=3) i3,↓QP (by decide:(0:Int)<=4) i4,↓QP (by decide:(0:Int)<=5) i5,↓QP (by decide:(0:Int)<=6) i6,↓QP (by decide:(0:Int)<=7) i7,show Int.toNat 0=0 from rfl,show Int.toNat 1=1 from rfl,show Int.toNat 2=2 from rfl,show Int.toNat 3=3 from rfl,show Int.toNat 4=4 from rfl,show Int.toNat 5=5 from rfl,show Int.toNat 6=6 from rfl,show Int.toNat 7=7 from rfl,Nat.mul_one,Nat.zero_mul,Nat.one_mul,↓Ql hc,↓QO,↓Zl (by decide:(0:Int)<=8),↓Zl (by decide:(0:Int)<=16),↓Zl (by decide:(0:Int)<=24),↓Zl (by decide:(0:Int)<=32),↓Zl (by decide:(0:Int)<=40),↓Zl (by decide:(0:Int)<=48),↓Zl (by decide:(0:Int)<=56),e0,e1,e2,e3,e4,e5,e6,e7]
 rw[<-QeE hB]
 rw[ZQ hB (by simp;omega)]
 rw[ZQ hB (by simp;omega)]
 rw[ZQ hB (by simp;omega)]
 rw[ZQ hB (by simp;omega)]
 rw[ZQ hB (by simp;omega)]
 rw[ZQ hB (by simp;omega)]
 rw[ZQ hB (by simp;omega)]
 rw[ZQ hB (by simp;omega)]
 exact hR
set_option maxHeartbeats 1000000 in
theorem go_WriteInt64 {x:Int} (ho:o+8<=L.length) (hn:8<=n) (hR:R (.tuple #[]) (wr H B e (Qb5 L o (leB x 8)))):FnS prog 351 #[bsl B o n c,.int .i64 x] H R:=by
 rw[leB_8]at hR
 have hc:=Z9 (QeJ hB) (o:=o) (i:=7) (by omega)
 have i0:(0:Int)<n:=by omega
 have i1:(1:Int)<n:=by omega
 have i2:(2:Int)<n:=by omega
 have i3:(3:Int)<n:=by omega
 have i4:(4:Int)<n:=by omega
 have i5:(5:Int)<n:=by omega
 have i6:(6:Int)<n:=by omega
 have i7:(7:Int)<n:=by omega
 apply w351
 unfold tp351
 have e0:IntKind.u8.wrap x=((Zn x 0).toNat:Int):=byte_0 x
 have e1:IntKind.u8.wrap (x.fdiv (2^(min (Int.toNat 8) IntKind.i64.bits)))=((Zn x 1).toNat:Int):=Zv x 1
 have e2:IntKind.u8.wrap (x.fdiv (2^(min (Int.toNat 16) IntKind.i64.bits)))=((Zn x 2).toNat:Int):=Zv x 2
 have e3:IntKind.u8.wrap (x.fdiv (2^(min (Int.toNat 24) IntKind.i64.bits)))=((Zn x 3).toNat:Int):=Zv x 3
 have e4:IntKind.u8.wrap (x.fdiv (2^(min (Int.toNat 32) IntKind.i64.bits)))=((Zn x 4).toNat:Int):=Zv x 4
 have e5:IntKind.u8.wrap (x.fdiv (2^(min (Int.toNat 40) IntKind.i64.bits)))=((Zn x 5).toNat:Int):=Zv x 5
 have e6:IntKind.u8.wrap (x.fdiv (2^(min (Int.toNat 48) IntKind.i64.bits)))=((Zn x 6).toNat:Int):=Zv x 6
 have e7:IntKind.u8.wrap (x.fdiv (2^(min (Int.toNat 56) IntKind.i64.bits)))=((Zn x 7).toNat:Int):=Zv x 7
 simp only[↓QP (by decide:(0:Int)<=0) i0,↓QP (by decide:(0:Int)<=1) i1,↓QP (by decide:(0:Int)<=2) i2,↓QP (by decide:(0:Int)<=3) i3,↓QP (by decide:(0:Int)<=4) i4,↓QP (by decide:(0:Int)<=5) i5,↓QP (by decide:(0:Int)<=6) i6,↓QP (by decide:(0:Int)<=7) i7,show Int.toNat 0=0 from rfl,show Int.toNat 1=1 from rfl,show Int.toNat 2=2 from rfl,show Int.toNat 3=3 from rfl,show Int.toNat 4=4 from rfl,show Int.toNat 5=5 from rfl,show Int.toNat 6=6 from rfl,show Int.toNat 7=7 from rfl,Nat.mul_one,Nat.zero_mul,Nat.one_mul,↓Ql hc,↓QO,↓Zl (by decide:(0:Int)<=8),↓Zl (by decide:(0:Int)<=16),↓Zl (by decide:(0:Int)<=24),↓Zl (by decide:(0:Int)<=32),↓Zl (by decide:(0:Int)<=40),↓Zl (by decide:(0:Int)<=48),↓Zl (by decide:(0:Int)<=56),e0,e1,e2,e3,e4,e5,e6,e7]
 rw[<-QeE hB]
 rw[ZQ hB (by simp;omega)]
 rw[ZQ hB (by simp;omega)]
 rw[ZQ hB (by simp;omega)]
 rw[ZQ hB (by simp;omega)]
 rw[ZQ hB (by simp;omega)]
 rw[ZQ hB (by simp;omega)]
 rw[ZQ hB (by simp;omega)]
 rw[ZQ hB (by simp;omega)]
 exact hR
set_option maxHeartbeats 1000000 in
theorem go_WriteInt8 {x:Int} (ho:o+1<=L.length) (hn:1<=n) (hR:R (.tuple #[]) (wr H B e (Qb5 L o (leB x 1)))):FnS prog 394 #[bsl B o n c,.int .i8 x] H R:=by
 rw[leB_1]at hR
 have hc:=Z9 (QeJ hB) (o:=o) (i:=0) (by omega)
 have i0:(0:Int)<n:=by omega
 apply w394
 unfold s394
 have e0:IntKind.u8.wrap x=((Zn x 0).toNat:Int):=byte_0 x
 simp only[↓QP (by decide:(0:Int)<=0) i0,show Int.toNat 0=0 from rfl,Nat.mul_one,Nat.zero_mul,Nat.one_mul,↓QO,e0]
 rw[<-QeE hB]
 rw[ZQ hB (by simp;omega)]
 exact hR
theorem go_WriteUint8 {b:UInt8} (ho:o+1<=L.length) (hn:1<=n) (hR:R (.tuple #[]) (wr H B e (Qb5 L o [b]))):FnS prog 379 #[bsl B o n c,.int .u8 (b.toNat:Int)] H R:=by
 have i0:(0:Int)<n:=by omega
 apply w379
 unfold s379
 simp only[↓QP (by decide:(0:Int)<=0) i0,show Int.toNat 0=0 from rfl,Nat.zero_mul]
 rw[<-QeE hB,ZQ hB (by omega)]
 exact hR
theorem go_WriteByte {b:UInt8} (ho:o+1<=L.length) (hn:1<=n) (hR:R (.tuple #[]) (wr H B e (Qb5 L o [b]))):FnS prog 340 #[bsl B o n c,.int .u8 (b.toNat:Int)] H R:=by
 apply w340
 unfold tp339
 exact go_WriteUint8 hB ho hn hR
theorem go_WriteBool {b:Bool} (ho:o+1<=L.length) (hn:1<=n) (hR:R (.tuple #[]) (wr H B e (Qb5 L o [if b then 1 else 0]))):FnS prog 349 #[bsl B o n c,.bool b] H R:=by
 have i0:(0:Int)<n:=by omega
 apply w349
 unfold s349
 simp only[↓QP (by decide:(0:Int)<=0) i0,show Int.toNat 0=0 from rfl,Nat.zero_mul]
 have s0:(Value.int .u8 0)= .int .u8 ((0:UInt8).toNat:Int):=rfl
 have s1:(Value.int .u8 1)= .int .u8 ((1:UInt8).toNat:Int):=rfl
 rw[<-QeE hB,s0,ZQ hB (by omega)]
 cases b
 ·exact hR
 ·rw[QcE,s1,ZQ hB (by simp only[List.length_set];omega),Nat.add_zero,List.set_set]
  exact hR
theorem Qj2 {x:Int} (ho:o+4<=L.length) (hn:4<=n) (hR:R (.tuple #[]) (wr H B e (Qb5 L o (leB x 4)))):FnS prog 339 #[bsl B o n c,.int .u32 x] H R:=by
 apply w339
 unfold tp339
 exact Qey hB ho hn hR
theorem Qdz {x:Int} (ho:o+4<=L.length) (hn:4<=n) (hR:R (.tuple #[]) (wr H B e (Qb5 L o (leB x 4)))):FnS prog 390 #[bsl B o n c,.int .i32 x] H R:=by
 apply w390
 unfold tp339
 exact Qi1 hB ho hn hR
theorem Qj6 {x:Int} (ho:o+2<=L.length) (hn:2<=n) (hR:R (.tuple #[]) (wr H B e (Qb5 L o (leB x 2)))):FnS prog 402 #[bsl B o n c,.int .u16 x] H R:=by
 apply w402
 unfold tp339
 exact Qh3 hB ho hn hR
omit hB in
theorem Qk {w:World} {n:Nat}:(callFunc 172 #[.float .f32 n]).run prog w= .ok (.value (.int .u32 n)) w:=by
 simp only[callFunc,Sem.run_bind,run_program,Result.andThen_ok,Tryz.func172]
 rfl
omit hB in
theorem Qbl {w:World} {n:Nat}:(callFunc 174 #[.float .f64 n]).run prog w= .ok (.value (.int .u64 n)) w:=by
 simp only[callFunc,Sem.run_bind,run_program,Result.andThen_ok,Tryz.func174]
 rfl
theorem go_WriteFloat32 {x:Nat} (ho:o+4<=L.length) (hn:4<=n) (hR:R (.tuple #[]) (wr H B e (Qb5 L o (leB x 4)))):FnS prog 397 #[bsl B o n c,.float .f32 x] H R:=by
 apply w397
 unfold s397
 refine QH (fun w=>Qk) ?_
 exact Qey hB ho hn hR
theorem go_WriteFloat64 {x:Nat} (ho:o+8<=L.length) (hn:8<=n) (hR:R (.tuple #[]) (wr H B e (Qb5 L o (leB x 8)))):FnS prog 352 #[bsl B o n c,.float .f64 x] H R:=by
 apply w352
 unfold s352
 refine QH (fun w=>Qbl) ?_
 exact Qh7 hB ho hn hR
end
end Go.Proofs
