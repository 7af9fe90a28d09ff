/- WHAT IS PROVED: the given statement of FnMonsterAgain, whatever the input: this is part 3 of 13. No conditions. -/
import Derived.Test.YtjfnlghdpijgeaaGreatX02
import Derived.Test.YtjfnlghdpijgeaaGreatProg
set_option linter.all false
namespace Go.Proofs
open Go Go.Vc
open Tryz (prog)
set_option maxRecDepth 100000
def callableQ (P:Program) (f:Nat):Bool:=
 match P.funcs[f]? with
 |some fn=>(match fn.body with|some _=>true|none=>false)&&!(fn.name== "runtime.NumGoroutine")
 |none=>false
theorem calOk_of {P:Program} {cal:Nat->Bool} {n:Nat} (h:(List.range n).all (fun f=>!cal f||callableQ P f)=true) (hn:∀f,cal f=true->f<n):CalOk P cal:=by
 intro f hf args w
 have h1:=List.all_eq_true.1 h f (List.mem_range.2 (hn f hf))
 rw[hf]at h1
 simp only[Bool.not_true,Bool.false_or]at h1
 unfold callableQ at h1
 split at h1
 ·rename_i fn hfn
  simp only[Bool.and_eq_true,Bool.not_eq_true',beq_eq_false_iff_ne,ne_eq]at h1
  obtain ⟨hb,hne⟩:=h1
  split at hb
  ·rename_i c hc
   simp[callFunc,hfn,hc,hne]
  ·cases hb
 ·cases h1
def cal (f:Nat):Bool:=Nat.ble 2 f&&(Nat.blt f 401&&!memN f [78,82,170,172])
theorem hcal:CalOk prog cal:=calOk_of (n:=425) (by kernel_rfl) (by
 intro f hf
 simp only[cal,Bool.and_eq_true]at hf
 have:=Nat.le_of_ble_eq_true hf.2.1
 omega)
theorem wq {f:Nat} {fn:Func} (hf:prog.funcs[f]?=some fn) {args:List Value} {h:Qe} {R:Kn} {S:Prop} (e:vcF prog cal fn args h R=S) (H:S):FnS prog f args.toArray h R:=fn_of_vc hcal hf (e.mpr H)
def z2:Array Value:=#[(.int .i64 0)]
def z3:Array Value:=#[(.int .i64 0)]
def z4:Array Value:=#[(.bool false)]
def z5:Array Value:=#[(.int .u8 0)]
def z9:Array Value:=#[(.string ⟨#[]⟩)]
def z24:Array Value:=#[(.slice none 0 0)]
def z26:Array Value:=#[(.int .u8 0),(.slice none 0 0),(.int .u8 0)]
def z31:Array Value:=#[(.int .u64 0)]
def z38:Array Value:=#[(.slice none 0 0),(.int .i16 0),(.int .i16 0),(.string ⟨#[]⟩),(.string ⟨#[]⟩),(.int .u8 0),(.int .u8 0),(.slice none 0 0),(.int .u8 0),(.slice none 0 0),(.slice none 0 0),(.slice none 0 0),(.slice none 0 0),(.string ⟨#[]⟩),(.slice none 0 0),(.bool false),(.int .i32 0),(.int .u32 0),(.int .i64 0),(.int .u64 0),(.int .i32 0),(.int .u32 0),(.int .i64 0),(.int .u64 0),(.slice none 0 0),(.int .u32 0),(.int .u32 0),(.int .u32 0),(.slice none 0 0),(.slice none 0 0),(.string ⟨#[]⟩),(.slice none 0 0),(.slice none 0 0),(.slice none 0 0),(.bool false),(.slice none 0 0),(.int .u64 0),(.slice none 0 0),(.slice none 0 0),(.int .u64 0),(.slice none 0 0),(.int .u64 0),(.slice none 0 0),(.int .u8 0),(.slice none 0 0),(.int .u8 0),(.int .u8 0),(.slice none 0 0),(.int .u8 0),(.string ⟨#[]⟩),(.int .i8 0)]
def z46:Array Value:=#[(.int .u8 0),(.slice none 0 0),(.int .u8 0)]
def z51:Array Value:=#[(.slice none 0 0),(.int .i16 0),(.int .i16 0),(.string ⟨#[]⟩),(.string ⟨#[]⟩),(.int .u8 0),(.int .u8 0),(.slice none 0 0),(.int .u8 0),(.slice none 0 0),(.slice none 0 0),(.slice none 0 0),(.slice none 0 0),(.string ⟨#[]⟩),(.slice none 0 0),(.bool false),(.int .i32 0),(.int .u32 0),(.int .i64 0),(.int .u64 0),(.int .i32 0),(.int .u32 0),(.int .i64 0),(.int .u64 0),(.slice none 0 0),(.int .u32 0),(.int .u32 0),(.int .u32 0),(.slice none 0 0),(.slice none 0 0),(.string ⟨#[]⟩),(.slice none 0 0),(.slice none 0 0),(.slice none 0 0),(.bool false),(.slice none 0 0),(.int .u64 0),(.slice none 0 0),(.slice none 0 0),(.int .u64 0),(.slice none 0 0),(.int .u64 0),(.slice none 0 0),(.int .u8 0),(.slice none 0 0),(.int .u8 0),(.int .u8 0),(.slice none 0 0),(.int .u8 0),(.string ⟨#[]⟩),(.int .i8 0)]
def z65:Array Value:=#[(.int .u32 0)]
def z66:Array Value:=#[(.pointer none)]
def z75:Array Value:=#[(.int .u32 0),(.int .u32 0),(.int .u32 0),(.int .u64 0),(.int .u8 0),(.int .i16 0),(.int .i8 0)]
def z76:Array Value:=#[(.int .u32 0),(.int .u32 0),(.int .u32 0),(.int .u64 0),(.int .u8 0),(.int .i16 0),(.int .i8 0)]
def z80:Array Value:=#[(.int .i16 0),(.int .i8 0)]
def z81:Array Value:=#[(.int .i16 0),(.int .i8 0)]
def z87:Array Value:=#[(.string ⟨#[]⟩),(.int .i64 0),(.int .u16 0)]
def z88:Array Value:=#[(.string ⟨#[]⟩),(.int .i64 0),(.int .u16 0)]
def z93:Array Value:=#[(.int .u32 0),(.int .u32 0)]
def z94:Array Value:=#[(.int .u32 0),(.int .u32 0)]
def z133:Array Value:=#[(.slice none 0 0),(.int .i64 0),(.slice none 0 0),(.int .u32 0),(.slice none 0 0),(.int .u32 0),(.bool false),(.bool false),(.map none)]
def z135:Array Value:=#[(.int .u8 0)]
def z154:Array Value:=#[(.pointer none),(.int .i16 0),(.int .i16 0),(.string ⟨#[]⟩),(.slice none 0 0),(.int .u8 0),(.pointer none),(.slice none 0 0),(.slice none 0 0),(.slice none 0 0),(.pointer none),(.slice none 0 0),(.pointer none),(.bool false),(.int .i32 0),(.int .u32 0),(.int .i64 0),(.int .u64 0),(.int .i32 0),(.int .u32 0),(.int .i64 0),(.int .u64 0),(.slice none 0 0),(.float .f32 0),(.float .f32 0),(.float .f32 0),(.slice none 0 0),(.slice none 0 0),(.slice none 0 0),(.slice none 0 0),(.slice none 0 0),(.slice none 0 0),(.pointer none),(.slice none 0 0),(.int .u64 0),(.slice none 0 0),(.slice none 0 0),(.int .u64 0),(.slice none 0 0),(.int .u64 0),(.slice none 0 0),(.pointer none),(.pointer none),(.slice none 0 0),(.int .i8 0)]
def z155:Array Value:=#[(.float .f64 0)]
def z157:Array Value:=#[(.pointer none)]
def z158:Array Value:=#[(.int .i16 0),(.int .i8 0)]
def z160:Array Value:=#[(.float .f32 0),(.float .f32 0),(.float .f32 0),(.float .f64 0),(.int .u8 0),(.pointer none)]
def z161:Array Value:=#[(.string ⟨#[]⟩),(.int .i64 0),(.int .u16 0)]
def z162:Array Value:=#[(.pointer none)]
def z163:Array Value:=#[(.int .u32 0),(.int .u32 0)]
def z165:Array Value:=#[]
def z169:Array Value:=#[(.int .u8 0),.nilIface]
def z172:Array Value:=#[(.int .u8 0),.nilIface]
def z176:Array Value:=#[(.int .u8 0),.nilIface]
def z184:Array Value:=#[(.pointer none)]
def z208:Array Value:=#[(.slice none 0 0),(.int .u32 0)]
def z210:Array Value:=#[(.slice none 0 0),(.int .u32 0)]
def z234:Array Value:=#[(.slice none 0 0),(.int .u32 0)]
def z242:Array Value:=#[(.slice none 0 0),(.int .u32 0)]
def z247:Array Value:=#[(.slice none 0 0),(.int .u32 0)]
def z260:Array Value:=#[(.int .u64 0)]
def z263:Array Value:=#[(.int .u8 0)]
def z305:Array Value:=#[(.slice none 0 0),(.int .u32 0)]
def z307:Array Value:=#[(.slice none 0 0),(.int .u32 0)]
def z310:Array Value:=#[(.slice none 0 0),(.int .u32 0)]
def z313:Array Value:=#[(.slice none 0 0),(.int .u32 0)]
def tp298 (p0:IntKind) (p1:Nat) (x1:Value) (h:Qe) (R:Kn):Prop:=
 Y7 1 x1 (.int .i64 3) fun x2=>
 LdK h x2 fun _x1=>
 Y7 1 x1 (.int .i64 0) fun x3=>
 LdK h x3 fun x4=>
 Yl p0 x4 fun x5=>
 Qr prog .or p1 (.int p0 0) x5 fun x6=>
 Y7 1 x1 (.int .i64 1) fun x7=>
 LdK h x7 fun x8=>
 Yl p0 x8 fun x9=>
 Qr prog .shl p1 x9 (.int .u64 8) fun x10=>
 Qr prog .or p1 x6 x10 fun x11=>
 Y7 1 x1 (.int .i64 2) fun x12=>
 LdK h x12 fun x13=>
 Yl p0 x13 fun x14=>
 Qr prog .shl p1 x14 (.int .u64 16) fun x15=>
 Qr prog .or p1 x11 x15 fun x16=>
 Y7 1 x1 (.int .i64 3) fun x17=>
 LdK h x17 fun x18=>
 Yl p0 x18 fun x19=>
 Qr prog .shl p1 x19 (.int .u64 24) fun x20=>
 Qr prog .or p1 x16 x20 fun x21=>
 R x21 h
def tp337 (p0:Nat) (x1 x2:Value) (h:Qe) (R:Kn):Prop:=
 Qb prog p0 #[x1,x2] h fun _x1 h1=>
 R (.tuple #[]) h1
def tp349 (p0:Nat) (x1 x2:Value) (h:Qe) (R:Kn):Prop:=
 Y7 1 x1 (.int .i64 7) fun x3=>
 LdK h x3 fun _x1=>
 Yl .u8 x2 fun x4=>
 Y7 1 x1 (.int .i64 0) fun x5=>
 StK h 1 x5 x4 fun h1=>
 Qr prog .shr p0 x2 (.int .u64 8) fun x6=>
 Yl .u8 x6 fun x7=>
 Y7 1 x1 (.int .i64 1) fun x8=>
 StK h1 1 x8 x7 fun h2=>
 Qr prog .shr p0 x2 (.int .u64 16) fun x9=>
 Yl .u8 x9 fun x10=>
 Y7 1 x1 (.int .i64 2) fun x11=>
 StK h2 1 x11 x10 fun h3=>
 Qr prog .shr p0 x2 (.int .u64 24) fun x12=>
 Yl .u8 x12 fun x13=>
 Y7 1 x1 (.int .i64 3) fun x14=>
 StK h3 1 x14 x13 fun h4=>
 Qr prog .shr p0 x2 (.int .u64 32) fun x15=>
 Yl .u8 x15 fun x16=>
 Y7 1 x1 (.int .i64 4) fun x17=>
 StK h4 1 x17 x16 fun h5=>
 Qr prog .shr p0 x2 (.int .u64 40) fun x18=>
 Yl .u8 x18 fun x19=>
 Y7 1 x1 (.int .i64 5) fun x20=>
 StK h5 1 x20 x19 fun h6=>
 Qr prog .shr p0 x2 (.int .u64 48) fun x21=>
 Yl .u8 x21 fun x22=>
 Y7 1 x1 (.int .i64 6) fun x23=>
 StK h6 1 x23 x22 fun h7=>
 Qr prog .shr p0 x2 (.int .u64 56) fun x24=>
 Yl .u8 x24 fun x25=>
 Y7 1 x1 (.int .i64 7) fun x26=>
 StK h7 1 x26 x25 fun h8=>
 R (.tuple #[]) h8
def tp365 (p0:IntKind) (p1:Nat) (x1:Value) (h:Qe) (R:Kn):Prop:=
 Y7 1 x1 (.int .i64 1) fun x2=>
 LdK h x2 fun _x1=>
 Y7 1 x1 (.int .i64 0) fun x3=>
 LdK h x3 fun x4=>
 Yl p0 x4 fun x5=>
 Qr prog .or p1 (.int p0 0) x5 fun x6=>
 Y7 1 x1 (.int .i64 1) fun x7=>
 LdK h x7 fun x8=>
 Yl p0 x8 fun x9=>
 Qr prog .shl p1 x9 (.int .u64 8) fun x10=>
 Qr prog .or p1 x6 x10 fun x11=>
 R x11 h
def Qgg (p0:Nat) (x1:Value) (h:Qe) (R:Kn):Prop:=
 Qb prog p0 #[x1] h fun x2 h1=>
 R x2 h1
def tp369 (p0:IntKind) (p1:Nat) (x1:Value) (h:Qe) (R:Kn):Prop:=
 Y7 1 x1 (.int .i64 7) fun x2=>
 LdK h x2 fun _x1=>
 Y7 1 x1 (.int .i64 0) fun x3=>
 LdK h x3 fun x4=>
 Yl p0 x4 fun x5=>
 Qr prog .or p1 (.int p0 0) x5 fun x6=>
 Y7 1 x1 (.int .i64 1) fun x7=>
 LdK h x7 fun x8=>
 Yl p0 x8 fun x9=>
 Qr prog .shl p1 x9 (.int .u64 8) fun x10=>
 Qr prog .or p1 x6 x10 fun x11=>
 Y7 1 x1 (.int .i64 2) fun x12=>
 LdK h x12 fun x13=>
 Yl p0 x13 fun x14=>
 Qr prog .shl p1 x14 (.int .u64 16) fun x15=>
 Qr prog .or p1 x11 x15 fun x16=>
 Y7 1 x1 (.int .i64 3) fun x17=>
 LdK h x17 fun x18=>
 Yl p0 x18 fun x19=>
 Qr prog .shl p1 x19 (.int .u64 24) fun x20=>
 Qr prog .or p1 x16 x20 fun x21=>
 Y7 1 x1 (.int .i64 4) fun x22=>
 LdK h x22 fun x23=>
 Yl p0 x23 fun x24=>
 Qr prog .shl p1 x24 (.int .u64 32) fun x25=>
 Qr prog .or p1 x21 x25 fun x26=>
 Y7 1 x1 (.int .i64 5) fun x27=>
 LdK h x27 fun x28=>
 Yl p0 x28 fun x29=>
 Qr prog .shl p1 x29 (.int .u64 40) fun x30=>
 Qr prog .or p1 x26 x30 fun x31=>
 Y7 1 x1 (.int .i64 6) fun x32=>
 LdK h x32 fun x33=>
 Yl p0 x33 fun x34=>
 Qr prog .shl p1 x34 (.int .u64 48) fun x35=>
 Qr prog .or p1 x31 x35 fun x36=>
 Y7 1 x1 (.int .i64 7) fun x37=>
 LdK h x37 fun x38=>
 Yl p0 x38 fun x39=>
 Qr prog .shl p1 x39 (.int .u64 56) fun x40=>
 Qr prog .or p1 x36 x40 fun x41=>
 R x41 h
def tp376 (p0:Nat) (x1 x2:Value) (h:Qe) (R:Kn):Prop:=
 Y7 1 x1 (.int .i64 3) fun x3=>
 LdK h x3 fun _x1=>
 Yl .u8 x2 fun x4=>
 Y7 1 x1 (.int .i64 0) fun x5=>
 StK h 1 x5 x4 fun h1=>
 Qr prog .shr p0 x2 (.int .u64 8) fun x6=>
 Yl .u8 x6 fun x7=>
 Y7 1 x1 (.int .i64 1) fun x8=>
 StK h1 1 x8 x7 fun h2=>
 Qr prog .shr p0 x2 (.int .u64 16) fun x9=>
 Yl .u8 x9 fun x10=>
 Y7 1 x1 (.int .i64 2) fun x11=>
 StK h2 1 x11 x10 fun h3=>
 Qr prog .shr p0 x2 (.int .u64 24) fun x12=>
 Yl .u8 x12 fun x13=>
 Y7 1 x1 (.int .i64 3) fun x14=>
 StK h3 1 x14 x13 fun h4=>
 R (.tuple #[]) h4
def tp393 (p0:Nat) (x1 x2:Value) (h:Qe) (R:Kn):Prop:=
 Y7 1 x1 (.int .i64 1) fun x3=>
 LdK h x3 fun _x1=>
 Yl .u8 x2 fun x4=>
 Y7 1 x1 (.int .i64 0) fun x5=>
 StK h 1 x5 x4 fun h1=>
 Qr prog .shr p0 x2 (.int .u64 8) fun x6=>
 Yl .u8 x6 fun x7=>
 Y7 1 x1 (.int .i64 1) fun x8=>
 StK h1 1 x8 x7 fun h2=>
 R (.tuple #[]) h2
def QcG (p0:Nat) (x1 x2:Value) (h:Qe) (R:Kn):Prop:=
 Q5 x1 fun x3=>
 Qh x3 0 fun x4=>
 LdK h x4 fun x5=>
 Qg1 1 x5 (some x2) none fun x6=>
 Qb prog p0 #[x6] h fun x7 h1=>
 R x7 h1
def tp95 (p0:Int) (p1:Nat) (x1 x2:Value) (h:Qe) (R:Kn):Prop:=
 Qb prog 72 #[x1,(.int .i64 p0),(.int .i64 0)] h fun _x1 h1=>
 Qb prog p1 #[x1,x2] h1 fun _x2 h2=>
 R (.tuple #[]) h2
def tp167 (p0:Nat) (x1:Value) (h:Qe) (R:Kn):Prop:=
 Q5 x1 fun x2=>
 Qh x2 p0 fun x3=>
 LdK h x3 fun x4=>
 ZM prog (Op.unary .not x4) fun x5=>
 IfK x5
 (False)
 (R (.tuple #[]) h)
def QcX (p0:Int) (p1:Nat) (x1 x2:Value) (h:Qe) (R:Kn):Prop:=
 Q5 x1 fun x3=>
 Qh x3 5 fun x4=>
 LdK h x4 fun x5=>
 Qr prog .sub 65 x5 (.int .u32 p0) fun x6=>
 Q5 x1 fun x7=>
 Qh x7 5 fun x8=>
 StK h 1 x8 x6 fun h1=>
 Q5 x1 fun x9=>
 Qh x9 0 fun x10=>
 LdK h1 x10 fun x11=>
 Q5 x1 fun x12=>
 Qh x12 5 fun x13=>
 LdK h1 x13 fun x14=>
 Qg1 1 x11 (some x14) none fun x15=>
 Qb prog p1 #[x15,x2] h1 fun _x1 h2=>
 R (.tuple #[]) h2
def Qfj (p0:Nat) (p1:Nat) (x1 x2 x3 x4:Value) (h:Qe) (R:Kn):Prop:=
 Qr prog .neq p0 x3 x4 fun x5=>
 IfK x5
 (Qb prog p1 #[x1,x3] h fun _x1 h1=>
 Qb prog 353 #[x1,x2] h1 fun _x2 h2=>
 R (.tuple #[]) h2)
 (R (.tuple #[]) h)
def tp42 (p0:Nat) (p1:Array Value) (p2:Nat) (p3:Nat) (x1:Value) (h:Qe) (R:Kn):Prop:=
 Qr prog .eql p0 x1 (.pointer none) fun x2=>
 IfK x2
 (R (.pointer none) h)
 (QB p1.toList [] fun x3=>
 YM h (.cells (Value.cells x3) p2) fun x4 h1=>
 Qb prog p3 #[x1,x4] h1 fun _x1 h2=>
 R x4 h2)
def QhH (p0:Int) (p1:Int) (x1 x2:Value) (h:Qe) (R:Kn):Prop:=
 Qb prog 266 #[x1,(.int .i64 p0),x2,(.int .i64 p1)] h fun x3 h1=>
 R x3 h1
def Qja (p0:Int) (x1:Value) (h:Qe) (R:Kn):Prop:=
 Qb prog 284 #[x1,(.int .i64 p0)] h fun _x1 h1=>
 R (.tuple #[]) h1
def Yn (p0:Nat) (p1:Int) (p2:IntKind) (p3:Int) (x1 x2:Value) (h:Qe) (R:Kn):Prop:=
 Qb prog p0 #[x1,(.int .i64 p1),x2,(.int p2 p3)] h fun _x1 h1=>
 R (.tuple #[]) h1
def tp175 (x1 x2 x3:Value) (h:Qe) (R:Kn):Prop:=
 Q5 x1 fun x4=>
 Qh x4 0 fun x5=>
 Qh x5 0 fun x6=>
 StK h 1 x6 x2 fun h1=>
 Q5 x1 fun x7=>
 Qh x7 0 fun x8=>
 Qh x8 1 fun x9=>
 StK h1 1 x9 x3 fun h2=>
 R (.tuple #[]) h2
def Qep (p0:Int) (p1:Nat) (p2:IntKind) (p3:Int) (x1:Value) (h:Qe) (R:Kn):Prop:=
 Q5 x1 fun x2=>
 Qh x2 0 fun x3=>
 Qb prog 312 #[x3,(.int .u16 p0)] h fun x4 h1=>
 Yl .u32 x4 fun x5=>
 Qr prog .neq 65 x5 (.int .u32 0) fun x6=>
 IfK x6
 (Q5 x1 fun x7=>
 Qh x7 0 fun x8=>
 Q5 x1 fun x9=>
 Qh x9 0 fun x10=>
 Qh x10 1 fun x11=>
 LdK h1 x11 fun x12=>
 Qr prog .add 65 x5 x12 fun x13=>
 Qb prog p1 #[x8,x13] h1 fun x14 h2=>
 R x14 h2)
 (R (.int p2 p3) h1)
def tp180 (p0:Int) (x1:Value) (h:Qe) (R:Kn):Prop:=
 Q5 x1 fun x2=>
 Qh x2 0 fun x3=>
 Qb prog 312 #[x3,(.int .u16 p0)] h fun x4 h1=>
 Yl .u32 x4 fun x5=>
 Qr prog .neq 65 x5 (.int .u32 0) fun x6=>
 IfK x6
 (Q5 x1 fun x7=>
 Qh x7 0 fun x8=>
 Q5 x1 fun x9=>
 Qh x9 0 fun x10=>
 Qh x10 1 fun x11=>
 LdK h1 x11 fun x12=>
 Qr prog .add 65 x5 x12 fun x13=>
 Qb prog 314 #[x8,x13] h1 fun x14 h2=>
 R x14 h2)
 (R (.slice none 0 0) h1)
def tp194 (p0:Int) (p1:Nat) (p2:Array Value) (p3:Nat) (p4:Nat) (x1 x2:Value) (h:Qe) (R:Kn):Prop:=
 Q5 x1 fun x3=>
 Qh x3 0 fun x4=>
 Qb prog 312 #[x4,(.int .u16 p0)] h fun x5 h1=>
 Yl .u32 x5 fun x6=>
 Qr prog .neq 65 x6 (.int .u32 0) fun x7=>
 IfK x7
 (Q5 x1 fun x8=>
 Qh x8 0 fun x9=>
 Q5 x1 fun x10=>
 Qh x10 0 fun x11=>
 Qh x11 1 fun x12=>
 LdK h1 x12 fun x13=>
 Qr prog .add 65 x6 x13 fun x14=>
 Qb prog 322 #[x9,x14] h1 fun x15 h2=>
 QG (fun M1=>
 Qr prog .eql p1 x2 (.pointer none) fun x16=>
 IfK x16
 (YM h2 (.cells p2 p3) fun x17 h3=>
 M1 [x17] h3)
 (M1 [x2] h2)) fun M1=>∀x18:Value,∀h4:Qe,M1 [x18] h4->
 Q5 x1 fun x19=>
 Qh x19 0 fun x20=>
 Qh x20 0 fun x21=>
 LdK h4 x21 fun x22=>
 Qb prog p4 #[x18,x22,x15] h4 fun _x1 h5=>
 R x18 h5)
 (R (.pointer none) h1)
def tp201 (p0:Int) (p1:Nat) (x1:Value) (h:Qe) (R:Kn):Prop:=
 Q5 x1 fun x2=>
 Qh x2 0 fun x3=>
 Qh x3 0 fun x4=>
 Q5 x1 fun x5=>
 Qh x5 0 fun x6=>
 Qh x6 0 fun x7=>
 Qh x7 1 fun x8=>
 LdK h x8 fun x9=>
 Qr prog .add 65 x9 (.int .u32 p0) fun x10=>
 Qb prog p1 #[x4,x10] h fun x11 h1=>
 R x11 h1
def Qg7 (p0:Int) (x1:Value) (h:Qe) (R:Kn):Prop:=
 Q5 x1 fun x2=>
 Qh x2 0 fun x3=>
 Qb prog 312 #[x3,(.int .u16 p0)] h fun x4 h1=>
 Yl .u32 x4 fun x5=>
 Qr prog .neq 65 x5 (.int .u32 0) fun x6=>
 IfK x6
 (Q5 x1 fun x7=>
 Qh x7 0 fun x8=>
 Qb prog 328 #[x8,x5] h1 fun x9 h2=>
 R x9 h2)
 (R (.int .i64 0) h1)
def tp209 (p0:Int) (p1:Int) (p2:Nat) (p3:IntKind) (x1 x2:Value) (h:Qe) (R:Kn):Prop:=
 Q5 x1 fun x3=>
 Qh x3 0 fun x4=>
 Qb prog 312 #[x4,(.int .u16 p0)] h fun x5 h1=>
 Yl .u32 x5 fun x6=>
 Qr prog .neq 65 x6 (.int .u32 0) fun x7=>
 IfK x7
 (Q5 x1 fun x8=>
 Qh x8 0 fun x9=>
 Qb prog 329 #[x9,x6] h1 fun x10 h2=>
 Q5 x1 fun x11=>
 Qh x11 0 fun x12=>
 Qr prog .mul 3 x2 (.int .i64 p1) fun x13=>
 Yl .u32 x13 fun x14=>
 Qr prog .add 65 x10 x14 fun x15=>
 Qb prog p2 #[x12,x15] h2 fun x16 h3=>
 R x16 h3)
 (R (.int p3 0) h1)
def tp211 (p0:Int) (p1:Int) (p2:Nat) (x1 x2 x3:Value) (h:Qe) (R:Kn):Prop:=
 Q5 x1 fun x4=>
 Qh x4 0 fun x5=>
 Qb prog 312 #[x5,(.int .u16 p0)] h fun x6 h1=>
 Yl .u32 x6 fun x7=>
 Qr prog .neq 65 x7 (.int .u32 0) fun x8=>
 IfK x8
 (Q5 x1 fun x9=>
 Qh x9 0 fun x10=>
 Qb prog 329 #[x10,x7] h1 fun x11 h2=>
 Yl .u32 x3 fun x12=>
 Qr prog .mul 65 x12 (.int .u32 p1) fun x13=>
 Qr prog .add 65 x11 x13 fun x14=>
 Q5 x1 fun x15=>
 Qh x15 0 fun x16=>
 Qh x16 0 fun x17=>
 LdK h2 x17 fun x18=>
 Qb prog p2 #[x2,x18,x14] h2 fun _x1 h3=>
 R (.bool true) h3)
 (R (.bool false) h1)
def tp213 (p0:Int) (x1 x2:Value) (h:Qe) (R:Kn):Prop:=
 Q5 x1 fun x3=>
 Qh x3 0 fun x4=>
 Qb prog 312 #[x4,(.int .u16 p0)] h fun x5 h1=>
 Yl .u32 x5 fun x6=>
 Qr prog .neq 65 x6 (.int .u32 0) fun x7=>
 IfK x7
 (Q5 x1 fun x8=>
 Qh x8 0 fun x9=>
 Qb prog 329 #[x9,x6] h1 fun x10 h2=>
 Q5 x1 fun x11=>
 Qh x11 0 fun x12=>
 Qr prog .mul 3 x2 (.int .i64 4) fun x13=>
 Yl .u32 x13 fun x14=>
 Qr prog .add 65 x10 x14 fun x15=>
 Qb prog 314 #[x12,x15] h2 fun x16 h3=>
 R x16 h3)
 (R (.slice none 0 0) h1)
def tp215 (p0:Int) (p1:Nat) (x1 x2 x3:Value) (h:Qe) (R:Kn):Prop:=
 Q5 x1 fun x4=>
 Qh x4 0 fun x5=>
 Qb prog 312 #[x5,(.int .u16 p0)] h fun x6 h1=>
 Yl .u32 x6 fun x7=>
 Qr prog .neq 65 x7 (.int .u32 0) fun x8=>
 IfK x8
 (Q5 x1 fun x9=>
 Qh x9 0 fun x10=>
 Qb prog 329 #[x10,x7] h1 fun x11 h2=>
 Yl .u32 x3 fun x12=>
 Qr prog .mul 65 x12 (.int .u32 4) fun x13=>
 Qr prog .add 65 x11 x13 fun x14=>
 Q5 x1 fun x15=>
 Qh x15 0 fun x16=>
 Qb prog 322 #[x16,x14] h2 fun x17 h3=>
 Q5 x1 fun x18=>
 Qh x18 0 fun x19=>
 Qh x19 0 fun x20=>
 LdK h3 x20 fun x21=>
 Qb prog p1 #[x2,x21,x17] h3 fun _x1 h4=>
 R (.bool true) h4)
 (R (.bool false) h1)
def tp250 (p0:Int) (x1 x2:Value) (h:Qe) (R:Kn):Prop:=
 Q5 x1 fun x3=>
 Qh x3 0 fun x4=>
 Qb prog 312 #[x4,(.int .u16 p0)] h fun x5 h1=>
 Yl .u32 x5 fun x6=>
 Qr prog .neq 65 x6 (.int .u32 0) fun x7=>
 IfK x7
 (Q5 x1 fun x8=>
 Qh x8 0 fun x9=>
 Qb prog 334 #[x9,x2,x6] h1 fun _x1 h2=>
 R (.bool true) h2)
 (R (.bool false) h1)
def tp301 (p0:Nat) (p1:Array Value) (p2:Nat) (p3:Array Value) (p4:Nat) (p5:Nat) (p6:Nat) (x1 x2:Value) (h:Qe) (R:Kn):Prop:=
 YM h (.cells (Value.cells x2) 208) fun x3 h1=>
 Qr prog .eql p0 x1 (.int .u8 1) fun x4=>
 IfK x4
 (LdN h1 2 x3 fun x5=>
 QB z210.toList [(0,2,x5)] fun x6=>
 YM h1 (.cells z210 210) fun x7 h2=>
 StK h2 2 x7 x6 fun h3=>
 Qb prog 42 #[x7] h3 fun x8 h4=>
 QB p1.toList [(0,1,(.int .u8 1)),(1,1,(.iface 66 x8))] fun x9=>
 YM h4 (.cells (Value.cells x9) p2) fun x10 h5=>
 R x10 h5)
 (Qr prog .eql p0 x1 (.int .u8 2) fun x11=>
 IfK x11
 (LdN h1 2 x3 fun x12=>
 QB p3.toList [(0,2,x12)] fun x13=>
 YM h1 (.cells p3 p4) fun x14 h6=>
 StK h6 2 x14 x13 fun h7=>
 Qb prog p5 #[x14] h7 fun x15 h8=>
 QB p1.toList [(0,1,(.int .u8 2)),(1,1,(.iface p6 x15))] fun x16=>
 YM h8 (.cells (Value.cells x16) p2) fun x17 h9=>
 R x17 h9)
 (Qr prog .eql p0 x1 (.int .u8 3) fun x18=>
 IfK x18
 (LdN h1 2 x3 fun x19=>
 QB z210.toList [(0,2,x19)] fun x20=>
 YM h1 (.cells z210 210) fun x21 h10=>
 StK h10 2 x21 x20 fun h11=>
 Qb prog 42 #[x21] h11 fun x22 h12=>
 QB p1.toList [(0,1,(.int .u8 3)),(1,1,(.iface 66 x22))] fun x23=>
 YM h12 (.cells (Value.cells x23) p2) fun x24 h13=>
 R x24 h13)
 (R (.pointer none) h1)))
def tp325 (x1 x2 x3:Value) (h:Qe) (R:Kn):Prop:=
 Q5 x1 fun x4=>
 Qh x4 0 fun x5=>
 Qh x5 0 fun x6=>
 Qh x6 0 fun x7=>
 StK h 1 x7 x2 fun h1=>
 Q5 x1 fun x8=>
 Qh x8 0 fun x9=>
 Qh x9 0 fun x10=>
 Qh x10 1 fun x11=>
 StK h1 1 x11 x3 fun h2=>
 R (.tuple #[]) h2
def tp87 (p0:Nat) (p1:Nat) (p2:Nat) (p3:Nat) (p4:Nat) (p5:Nat) (x1 x2:Value) (h:Qe) (R:Kn):Prop:=
 Qr prog .eql p0 x1 (.pointer none) fun x3=>
 IfK x3
 (R (.int .u32 0) h)
 (Q5 x1 fun x4=>
 Qh x4 0 fun x5=>
 LdK h x5 fun x6=>
 Qr prog .eql p1 x6 (.int .u8 1) fun x7=>
 IfK x7
 (Q5 x1 fun x8=>
 Qh x8 1 fun x9=>
 LdK h x9 fun x10=>
 Qjb 66 false (.pointer none) x10 fun x11=>
 Qb prog 21 #[x11,x2] h fun x12 h1=>
 R x12 h1)
 (Qr prog .eql p1 x6 (.int .u8 2) fun x13=>
 IfK x13
 (Q5 x1 fun x14=>
 Qh x14 1 fun x15=>
 LdK h x15 fun x16=>
 Qjb p2 false (.pointer none) x16 fun x17=>
 Qb prog p3 #[x17,x2] h fun x18 h2=>
 R x18 h2)
 (Qr prog .eql p1 x6 (.int .u8 3) fun x19=>
 IfK x19
 (Q5 x1 fun x20=>
 Qh x20 1 fun x21=>
 LdK h x21 fun x22=>
 Qjb p4 false (.pointer none) x22 fun x23=>
 Qb prog p5 #[x23,x2] h fun x24 h3=>
 R x24 h3)
 (R (.int .u32 0) h))))
def tp89 (p0:Nat) (p1:Nat) (x1 x2:Value) (h:Qe) (R:Kn):Prop:=
 Qr prog .eql p0 x1 (.pointer none) fun x3=>
 IfK x3
 (R (.int .u32 0) h)
 (Q5 x1 fun x4=>
 Qh x4 0 fun x5=>
 LdK h x5 fun x6=>
 Q5 x1 fun x7=>
 Qh x7 1 fun x8=>
 LdK h x8 fun x9=>
 Qb prog p1 #[x2,x6,x9] h fun x10 h1=>
 R x10 h1)
def tp104 (p0:Nat) (p1:Nat) (p2:Nat) (x1 x2:Value) (h:Qe) (R:Kn):Prop:=
 Qr prog .eql p0 x1 (.pointer none) fun x3=>
 IfK x3
 (R (.int .u32 0) h)
 (Qb prog p1 #[x2] h fun _x1 h1=>
 Qb prog p2 #[x2] h1 fun x4 h2=>
 R x4 h2)
def tp105 (p0:Nat) (p1:Nat) (p2:Nat) (p3:Nat) (x1 x2:Value) (h:Qe) (R:Kn):Prop:=
 Qr prog .eql p0 x1 (.pointer none) fun x3=>
 IfK x3
 (R (.int .u32 0) h)
 (Qb prog p1 #[x2] h fun _x1 h1=>
 Q5 x1 fun x4=>
 Qh x4 0 fun x5=>
 LdK h1 x5 fun x6=>
 Qb prog p2 #[x2,x6] h1 fun _x2 h2=>
 Qb prog p3 #[x2] h2 fun x7 h3=>
 R x7 h3)
def tp358 (p0:Nat) (p1:Nat) (x1 x2:Value) (h:Qe) (R:Kn):Prop:=
 Qb prog p0 #[x1] h fun x3 h1=>
 Qe8 x2 0 h1 x3 fun h2=>
 Qb prog p1 #[x1] h2 fun x4 h3=>
 Qe8 x2 1 h3 x4 fun h4=>
 R (.tuple #[]) h4
def tp9 (p0:Nat) (x1:Value) (h:Qe) (R:Kn):Prop:=
 YM h (.cells (Value.cells x1) 9) fun x2 h1=>
 YM h1 (.cells z51 51) fun x3 h2=>
 Qb prog 16 #[(.func (.func p0) #[] #[x2,x3])] h2 fun x4 h3=>
 ZM prog (Op.unary .not x4) fun x5=>
 ZM prog (Op.unary .not x5) fun x6=>
 IfK x6
 (QB z51.toList [] fun x7=>
 StK h3 51 x3 x7 fun h4=>
 LdN h4 51 x3 fun r1=>
 R (.tuple #[r1,(.bool false)]) h4)
 (LdN h3 51 x3 fun x8=>
 StK h3 51 x3 x8 fun h5=>
 LdN h5 51 x3 fun r2=>
 R (.tuple #[r2,(.bool true)]) h5)
def tp76 (x1:Value) (h:Qe) (R:Kn):Prop:=
 YQ x1 fun x2=>
 Qr prog .eql 3 x2 (.int .i64 0) fun x3=>
 IfK x3
 (R (.slice none 0 0) h)
 (R x1 h)
def tp43 (p0:Nat) (p1:Array Value) (p2:Nat) (x1 x2:Value) (h:Qe) (R:Kn):Prop:=
 YQ x1 fun x3=>
 YQ x2 fun x4=>
 Qr prog .neq 3 x3 x4 fun x5=>
 IfK x5
 (R (.bool false) h)
 (QG (fun M1=>
 YQ x1 fun x6=>
 YH [(.int .i64 0),(.bool false)] h fun I1 n1=>∀x7 x8:Value,∀h1:Qe,I1 n1 [x7,x8] h1->
 Qr prog .lss 3 x7 x6 fun x9=>
 IfK x9
 (Y7 p0 x1 x7 fun x10=>
 LdN h1 p0 x10 fun x11=>
 YM h1 (.cells p1 p2) fun x12 h2=>
 StK h2 p0 x12 x11 fun h3=>
 LdN h3 p0 x12 fun x13=>
 Y7 p0 x2 x7 fun x14=>
 LdN h3 p0 x14 fun x15=>
 Qr prog .neq p2 x13 x15 fun x16=>
 IfK x16
 (R (.bool false) h3)
 (Qr prog .add 3 x7 (.int .i64 1) fun x17=>
 QZ I1 n1 [x17,x8] h3))
 (M1 [x8] h1)) fun M1=>∀x18:Value,∀h4:Qe,M1 [x18] h4->
 R (.bool true) h4)
def tp46 (p0:Nat) (x1 x2:Value) (h:Qe) (R:Kn):Prop:=
 YQ x1 fun x3=>
 YQ x2 fun x4=>
 Qr prog .neq 3 x3 x4 fun x5=>
 IfK x5
 (R (.bool false) h)
 (QG (fun M1=>
 YQ x1 fun x6=>
 YH [(.int .i64 0),(.bool false)] h fun I1 n1=>∀x7 x8:Value,∀h1:Qe,I1 n1 [x7,x8] h1->
 Qr prog .lss 3 x7 x6 fun x9=>
 IfK x9
 (Y7 1 x1 x7 fun x10=>
 LdK h1 x10 fun x11=>
 Y7 1 x2 x7 fun x12=>
 LdK h1 x12 fun x13=>
 Qr prog .neq p0 x11 x13 fun x14=>
 IfK x14
 (R (.bool false) h1)
 (Qr prog .add 3 x7 (.int .i64 1) fun x15=>
 QZ I1 n1 [x15,x8] h1))
 (M1 [x8] h1)) fun M1=>∀x16:Value,∀h2:Qe,M1 [x16] h2->
 R (.bool true) h2)
def tp23 (p0:Nat) (p1:Array Value) (p2:Nat) (p3:Nat) (p4:Nat) (x1:Value) (h:Qe) (R:Kn):Prop:=
 YM h (.cells (Value.cells x1) p0) fun x2 h1=>
 YM h1 (.cells p1 p2) fun x3 h2=>
 Qh x2 0 fun x4=>
 LdK h2 x4 fun x5=>
 Qh x2 1 fun x6=>
 LdK h2 x6 fun x7=>
 Qh x2 2 fun x8=>
 LdK h2 x8 fun x9=>
 Qb prog p3 #[x7,(.func (.func p4) #[] #[])] h2 fun x10 h3=>
 Qi h2 h3<|
 QB p1.toList [(0,1,x5),(1,1,x10),(2,1,x9)] fun x11=>
 StK h3 3 x3 x11 fun h4=>
 LdN h4 3 x3 fun r1=>
 R r1 h4
def tp26 (p0:Nat) (p1:Array Value) (p2:Nat) (p3:Nat) (x1:Value) (h:Qe) (R:Kn):Prop:=
 YM h (.cells (Value.cells x1) p0) fun x2 h1=>
 YM h1 (.cells p1 p2) fun x3 h2=>
 LdN h2 p3 x2 fun x4=>
 StK h2 p3 x3 x4 fun h3=>
 LdN h3 p3 x3 fun r1=>
 R r1 h3
end Go.Proofs
namespace Go.Proofs
open Go Go.Vc
open Tryz (prog)
set_option maxRecDepth 100000
def s174 (a:Value) (h:Qe) (R:Kn):Prop:=
 Qb prog 298 #[a] h fun b c=>
 Yl .u32 b fun d=>
 R d c
theorem w174 {a h R} (H:s174 a h R):FnS prog 174 #[a] h R:=wq Tryz.func174 (by kernel_rfl) H
theorem w298 {a h R} (H:tp298 .i32 21 a h R):FnS prog 298 #[a] h R:=wq Tryz.func298 (by kernel_rfl) H
theorem w337 {a b h R} (H:tp337 376 a b h R):FnS prog 337 #[a,b] h R:=wq Tryz.func337 (by kernel_rfl) H
theorem w338 {a b h R} (H:tp337 377 a b h R):FnS prog 338 #[a,b] h R:=wq Tryz.func338 (by kernel_rfl) H
def s347 (a c:Value) (h:Qe) (R:Kn):Prop:=
 Y7 1 a (.int .i64 0) fun d=>
 StK h 1 d (.int .u8 0) fun b=>
 IfK c
 (Y7 1 a (.int .i64 0) fun e=>
 StK b 1 e (.int .u8 1) fun f=>
 R (.tuple #[]) f)
 (R (.tuple #[]) b)
theorem w347 {a b h R} (H:s347 a b h R):FnS prog 347 #[a,b] h R:=wq Tryz.func347 (by kernel_rfl) H
theorem w349 {a b h R} (H:tp349 2 a b h R):FnS prog 349 #[a,b] h R:=wq Tryz.func349 (by kernel_rfl) H
def s350 (a b:Value) (h:Qe) (R:Kn):Prop:=
 QaN prog 172 #[b] fun c=>
 Qb prog 351 #[a,c] h fun _x7 d=>
 R (.tuple #[]) d
theorem w350 {a b h R} (H:s350 a b h R):FnS prog 350 #[a,b] h R:=wq Tryz.func350 (by kernel_rfl) H
theorem w351 {a b h R} (H:tp349 31 a b h R):FnS prog 351 #[a,b] h R:=wq Tryz.func351 (by kernel_rfl) H
theorem w365 {a h R} (H:tp365 .i16 23 a h R):FnS prog 365 #[a] h R:=wq Tryz.func365 (by kernel_rfl) H
theorem w366 {a h R} (H:Qgg 391 a h R):FnS prog 366 #[a] h R:=wq Tryz.func366 (by kernel_rfl) H
def s367 (a:Value) (h:Qe) (R:Kn):Prop:=
 Y7 1 a (.int .i64 0) fun b=>
 LdK h b fun c=>
 Qr prog .eql 5 c (.int .u8 1) fun d=>
 R d h
theorem w367 {a h R} (H:s367 a h R):FnS prog 367 #[a] h R:=wq Tryz.func367 (by kernel_rfl) H
theorem w368 {a h R} (H:tp298 .u32 30 a h R):FnS prog 368 #[a] h R:=wq Tryz.func368 (by kernel_rfl) H
theorem w369 {a h R} (H:tp369 .i64 2 a h R):FnS prog 369 #[a] h R:=wq Tryz.func369 (by kernel_rfl) H
theorem w370 {a h R} (H:tp369 .u64 31 a h R):FnS prog 370 #[a] h R:=wq Tryz.func370 (by kernel_rfl) H
def s371 (a:Value) (h:Qe) (R:Kn):Prop:=
 Qb prog 368 #[a] h fun b c=>
 QaN prog 78 #[b] fun d=>
 R d c
theorem w371 {a h R} (H:s371 a h R):FnS prog 371 #[a] h R:=wq Tryz.func371 (by kernel_rfl) H
def s372 (a:Value) (h:Qe) (R:Kn):Prop:=
 Y7 1 a (.int .i64 0) fun b=>
 LdK h b fun c=>
 Yl .i8 c fun d=>
 R d h
theorem w372 {a h R} (H:s372 a h R):FnS prog 372 #[a] h R:=wq Tryz.func372 (by kernel_rfl) H
def s373 (a:Value) (h:Qe) (R:Kn):Prop:=
 Qb prog 370 #[a] h fun b c=>
 QaN prog 82 #[b] fun d=>
 R d c
theorem w373 {a h R} (H:s373 a h R):FnS prog 373 #[a] h R:=wq Tryz.func373 (by kernel_rfl) H
theorem w374 {a h R} (H:tp365 .u16 85 a h R):FnS prog 374 #[a] h R:=wq Tryz.func374 (by kernel_rfl) H
theorem w376 {a b h R} (H:tp376 30 a b h R):FnS prog 376 #[a,b] h R:=wq Tryz.func376 (by kernel_rfl) H
def s377 (a b:Value) (h:Qe) (R:Kn):Prop:=
 Y7 1 a (.int .i64 0) fun c=>
 StK h 1 c b fun d=>
 R (.tuple #[]) d
theorem w377 {a b h R} (H:s377 a b h R):FnS prog 377 #[a,b] h R:=wq Tryz.func377 (by kernel_rfl) H
theorem w385 {a h R} (H:Qgg 374 a h R):FnS prog 385 #[a] h R:=wq Tryz.func385 (by kernel_rfl) H
theorem w388 {a b h R} (H:tp337 396 a b h R):FnS prog 388 #[a,b] h R:=wq Tryz.func388 (by kernel_rfl) H
theorem w390 {a h R} (H:Qgg 298 a h R):FnS prog 390 #[a] h R:=wq Tryz.func390 (by kernel_rfl) H
def s391 (a:Value) (h:Qe) (R:Kn):Prop:=
 Y7 1 a (.int .i64 0) fun b=>
 LdK h b fun c=>
 R c h
theorem w391 {a h R} (H:s391 a h R):FnS prog 391 #[a] h R:=wq Tryz.func391 (by kernel_rfl) H
def s392 (a b:Value) (h:Qe) (R:Kn):Prop:=
 Yl .u8 b fun c=>
 Y7 1 a (.int .i64 0) fun d=>
 StK h 1 d c fun e=>
 R (.tuple #[]) e
theorem w392 {a b h R} (H:s392 a b h R):FnS prog 392 #[a,b] h R:=wq Tryz.func392 (by kernel_rfl) H
theorem w393 {a b h R} (H:tp393 23 a b h R):FnS prog 393 #[a,b] h R:=wq Tryz.func393 (by kernel_rfl) H
def s395 (a b:Value) (h:Qe) (R:Kn):Prop:=
 QaN prog 170 #[b] fun c=>
 Qb prog 376 #[a,c] h fun _x7 d=>
 R (.tuple #[]) d
theorem w395 {a b h R} (H:s395 a b h R):FnS prog 395 #[a,b] h R:=wq Tryz.func395 (by kernel_rfl) H
theorem w396 {a b h R} (H:tp376 21 a b h R):FnS prog 396 #[a,b] h R:=wq Tryz.func396 (by kernel_rfl) H
theorem w399 {a b h R} (H:tp393 85 a b h R):FnS prog 399 #[a,b] h R:=wq Tryz.func399 (by kernel_rfl) H
theorem w400 {a b h R} (H:tp337 399 a b h R):FnS prog 400 #[a,b] h R:=wq Tryz.func400 (by kernel_rfl) H
end Go.Proofs
namespace Go.Proofs
open Go Go.Vc
open Tryz (prog)
abbrev bsl (b o n c:Nat):Value:=.slice (some ⟨b,o,none⟩) n c
theorem ZB {H:Qe} {b:Nat} {bs:List UInt8} (h:U8s H b 0 bs) {o i:Nat} (hi:o+i<bs.length):Qb2 H ⟨b,o+i,none⟩=some (.int .u8 (byteN bs (o+i))):=
 h.at (by omega) hi
section
variable {H:Qe} {b o n c:Nat} {bs:List UInt8} (hb:U8s H b 0 bs) {R:Kn}
include hb
set_option maxHeartbeats 1000000 in
theorem Qj0 (hl:o+2<=bs.length) (hn:2<=n) (hR:R (.int .u16 (le2 bs o:Int)) H):FnS prog 374 #[bsl b o n c] H R:=by
 have c0:=ZB hb (o:=o) (i:=0) (by omega)
 have b0:=Y9 bs (o+0)
 have i0:(0:Int)<n:=by omega
 have c1:=ZB hb (o:=o) (i:=1) (by omega)
 have b1:=Y9 bs (o+1)
 have i1:(1:Int)<n:=by omega
 apply w374
 unfold tp365
 simp only[↓QO (by decide:(0:Int)<=0) i0,↓QO (by decide:(0:Int)<=1) i1,show Int.toNat 0=0 from rfl,show Int.toNat 1=1 from rfl,Nat.zero_mul,Nat.mul_one,Nat.one_mul,↓Ql c0,↓Ql c1,↓QP,↓Qim,↓Zx (by decide:(0:Int)<=8)]
 have g:=get2_val (κ:=.u16) (by decide) b0 b1
 simp only[Nat.add_zero]at g⊢
 simp only[show Int.toNat 8=8 from rfl]
 rw[g]
 skip
 have e:IntKind.u16.wrap (le2 bs o:Int)=le2 bs o:=wrap_u16 (by omega) (by have:=le2_lt bs o;omega)
 rw[<-e]at hR;exact hR
set_option maxHeartbeats 1000000 in
theorem go_GetInt16 (hl:o+2<=bs.length) (hn:2<=n) (hR:R (.int .i16 (IntKind.i16.wrap (le2 bs o:Int))) H):FnS prog 365 #[bsl b o n c] H R:=by
 have c0:=ZB hb (o:=o) (i:=0) (by omega)
 have b0:=Y9 bs (o+0)
 have i0:(0:Int)<n:=by omega
 have c1:=ZB hb (o:=o) (i:=1) (by omega)
 have b1:=Y9 bs (o+1)
 have i1:(1:Int)<n:=by omega
 apply w365
 unfold tp365
 simp only[↓QO (by decide:(0:Int)<=0) i0,↓QO (by decide:(0:Int)<=1) i1,show Int.toNat 0=0 from rfl,show Int.toNat 1=1 from rfl,Nat.zero_mul,Nat.mul_one,Nat.one_mul,↓Ql c0,↓Ql c1,↓QP,↓Qim,↓Zx (by decide:(0:Int)<=8)]
 have g:=get2_val (κ:=.i16) (by decide) b0 b1
 simp only[Nat.add_zero]at g⊢
 simp only[show Int.toNat 8=8 from rfl]
 rw[g]
 skip
 skip
 exact hR
set_option maxHeartbeats 1000000 in
theorem Qj4 (hl:o+4<=bs.length) (hn:4<=n) (hR:R (.int .u32 (le4 bs o:Int)) H):FnS prog 368 #[bsl b o n c] H R:=by
 have c0:=ZB hb (o:=o) (i:=0) (by omega)
 have b0:=Y9 bs (o+0)
 have i0:(0:Int)<n:=by omega
 have c1:=ZB hb (o:=o) (i:=1) (by omega)
 have b1:=Y9 bs (o+1)
 have i1:(1:Int)<n:=by omega
 have c2:=ZB hb (o:=o) (i:=2) (by omega)
 have b2:=Y9 bs (o+2)
 have i2:(2:Int)<n:=by omega
 have c3:=ZB hb (o:=o) (i:=3) (by omega)
 have b3:=Y9 bs (o+3)
 have i3:(3:Int)<n:=by omega
 apply w368
 unfold tp298
 simp only[↓QO (by decide:(0:Int)<=0) i0,↓QO (by decide:(0:Int)<=1) i1,↓QO (by decide:(0:Int)<=2) i2,↓QO (by decide:(0:Int)<=3) i3,show Int.toNat 0=0 from rfl,show Int.toNat 1=1 from rfl,show Int.toNat 2=2 from rfl,show Int.toNat 3=3 from rfl,Nat.zero_mul,Nat.mul_one,Nat.one_mul,↓Ql c0,↓Ql c1,↓Ql c2,↓Ql c3,↓QP,↓Qim,↓Zx (by decide:(0:Int)<=8),↓Zx (by decide:(0:Int)<=16),↓Zx (by decide:(0:Int)<=24)]
 have g:=get4_val (κ:=.u32) (by decide) b0 b1 b2 b3
 simp only[Nat.add_zero]at g⊢
 simp only[show Int.toNat 8=8 from rfl,show Int.toNat 16=16 from rfl,show Int.toNat 24=24 from rfl]
 rw[g]
 rw[<-le4_eq]
 have e:IntKind.u32.wrap (le4 bs o:Int)=le4 bs o:=QT (by omega) (by have:=le4_lt bs o;omega)
 rw[<-e]at hR;exact hR
set_option maxHeartbeats 1000000 in
theorem QhA (hl:o+4<=bs.length) (hn:4<=n) (hR:R (.int .i32 (IntKind.i32.wrap (le4 bs o:Int))) H):FnS prog 298 #[bsl b o n c] H R:=by
 have c0:=ZB hb (o:=o) (i:=0) (by omega)
 have b0:=Y9 bs (o+0)
 have i0:(0:Int)<n:=by omega
 have c1:=ZB hb (o:=o) (i:=1) (by omega)
 have b1:=Y9 bs (o+1)
 have i1:(1:Int)<n:=by omega
 have c2:=ZB hb (o:=o) (i:=2) (by omega)
 have b2:=Y9 bs (o+2)
 have i2:(2:Int)<n:=by omega
 have c3:=ZB hb (o:=o) (i:=3) (by omega)
 have b3:=Y9 bs (o+3)
 have i3:(3:Int)<n:=by omega
 apply w298
 unfold tp298
 simp only[↓QO (by decide:(0:Int)<=0) i0,↓QO (by decide:(0:Int)<=1) i1,↓QO (by decide:(0:Int)<=2) i2,↓QO (by decide:(0:Int)<=3) i3,show Int.toNat 0=0 from rfl,show Int.toNat 1=1 from rfl,show Int.toNat 2=2 from rfl,show Int.toNat 3=3 from rfl,Nat.zero_mul,Nat.mul_one,Nat.one_mul,↓Ql c0,↓Ql c1,↓Ql c2,↓Ql c3,↓QP,↓Qim,↓Zx (by decide:(0:Int)<=8),↓Zx (by decide:(0:Int)<=16),↓Zx (by decide:(0:Int)<=24)]
 have g:=get4_val (κ:=.i32) (by decide) b0 b1 b2 b3
 simp only[Nat.add_zero]at g⊢
 simp only[show Int.toNat 8=8 from rfl,show Int.toNat 16=16 from rfl,show Int.toNat 24=24 from rfl]
 rw[g]
 rw[<-le4_eq]
 skip
 exact hR
set_option maxHeartbeats 1000000 in
theorem QiQ (hl:o+8<=bs.length) (hn:8<=n) (hR:R (.int .u64 (le8 bs o:Int)) H):FnS prog 370 #[bsl b o n c] H R:=by
 have c0:=ZB hb (o:=o) (i:=0) (by omega)
 have b0:=Y9 bs (o+0)
 have i0:(0:Int)<n:=by omega
 have c1:=ZB hb (o:=o) (i:=1) (by omega)
 have b1:=Y9 bs (o+1)
 have i1:(1:Int)<n:=by omega
 have c2:=ZB hb (o:=o) (i:=2) (by omega)
 have b2:=Y9 bs (o+2)
 have i2:(2:Int)<n:=by omega
 have c3:=ZB hb (o:=o) (i:=3) (by omega)
 have b3:=Y9 bs (o+3)
 have i3:(3:Int)<n:=by omega
 have c4:=ZB hb (o:=o) (i:=4) (by omega)
 have b4:=Y9 bs (o+4)
 have i4:(4:Int)<n:=by omega
 have c5:=ZB hb (o:=o) (i:=5) (by omega)
 have b5:=Y9 bs (o+5)
 have i5:(5:Int)<n:=by omega
 have c6:=ZB hb (o:=o) (i:=6) (by omega)
 have b6:=Y9 bs (o+6)
 have i6:(6:Int)<n:=by omega
 have c7:=ZB hb (o:=o) (i:=7) (by omega)
 have b7:=Y9 bs (o+7)
 have i7:(7:Int)<n:=by omega
 apply w370
 unfold tp369
 simp only[↓QO (by decide:(0:Int)<=0) i0,↓QO (by decide:(0:Int)<=1) i1,↓QO (by decide:(0:Int)<=2) i2,↓QO (by decide:(0:Int)<=3) i3,↓QO (by decide:(0:Int)<=4) i4,↓QO (by decide:(0:Int)<=5) i5,↓QO (by decide:(0:Int)<=6) i6,↓QO (by decide:(0:Int)<=7) i7,show Int.toNat 0=0 from rfl,show Int.toNat 1=1 from rfl,show Int.toNat 2=2 from rfl,show Int.toNat 3=3 from rfl,show Int.toNat 4=4 from rfl,show Int.toNat 5=5 from rfl,show Int.toNat 6=6 from rfl,show Int.toNat 7=7 from rfl,Nat.zero_mul,Nat.mul_one,Nat.one_mul,↓Ql c0,↓Ql c1,↓Ql c2,↓Ql c3,↓Ql c4,↓Ql c5,↓Ql c6,↓Ql c7,↓QP,↓Qim,↓Zx (by decide:(0:Int)<=8),↓Zx (by decide:(0:Int)<=16),↓Zx (by decide:(0:Int)<=24),↓Zx (by decide:(0:Int)<=32),↓Zx (by decide:(0:Int)<=40),↓Zx (by decide:(0:Int)<=48),↓Zx (by decide:(0:Int)<=56)]
 have g:=get8_val (κ:=.u64) (by decide) b0 b1 b2 b3 b4 b5 b6 b7
 simp only[Nat.add_zero]at g⊢
 simp only[show Int.toNat 8=8 from rfl,show Int.toNat 16=16 from rfl,show Int.toNat 24=24 from rfl,show Int.toNat 32=32 from rfl,show Int.toNat 40=40 from rfl,show Int.toNat 48=48 from rfl,show Int.toNat 56=56 from rfl]
 rw[g]
 rw[<-le8_eq]
 have e:IntKind.u64.wrap (le8 bs o:Int)=le8 bs o:=wrap_u64 (by omega) (by have:=le8_lt bs o;omega)
 rw[<-e]at hR;exact hR
set_option maxHeartbeats 1000000 in
theorem go_GetInt64 (hl:o+8<=bs.length) (hn:8<=n) (hR:R (.int .i64 (IntKind.i64.wrap (le8 bs o:Int))) H):FnS prog 369 #[bsl b o n c] H R:=by
 have c0:=ZB hb (o:=o) (i:=0) (by omega)
 have b0:=Y9 bs (o+0)
 have i0:(0:Int)<n:=by omega
 have c1:=ZB hb (o:=o) (i:=1) (by omega)
 have b1:=Y9 bs (o+1)
 have i1:(1:Int)<n:=by omega
 have c2:=ZB hb (o:=o) (i:=2) (by omega)
 have b2:=Y9 bs (o+2)
 have i2:(2:Int)<n:=by omega
 have c3:=ZB hb (o:=o) (i:=3) (by omega)
 have b3:=Y9 bs (o+3)
 have i3:(3:Int)<n:=by omega
 have c4:=ZB hb (o:=o) (i:=4) (by omega)
 have b4:=Y9 bs (o+4)
 have i4:(4:Int)<n:=by omega
 have c5:=ZB hb (o:=o) (i:=5) (by omega)
 have b5:=Y9 bs (o+5)
 have i5:(5:Int)<n:=by omega
 have c6:=ZB hb (o:=o) (i:=6) (by omega)
 have b6:=Y9 bs (o+6)
 have i6:(6:Int)<n:=by omega
 have c7:=ZB hb (o:=o) (i:=7) (by omega)
 have b7:=Y9 bs (o+7)
 have i7:(7:Int)<n:=by omega
 apply w369
 unfold tp369
 simp only[↓QO (by decide:(0:Int)<=0) i0,↓QO (by decide:(0:Int)<=1) i1,↓QO (by decide:(0:Int)<=2) i2,↓QO (by decide:(0:Int)<=3) i3,↓QO (by decide:(0:Int)<=4) i4,↓QO (by decide:(0:Int)<=5) i5,↓QO (by decide:(0:Int)<=6) i6,↓QO (by decide:(0:Int)<=7) i7,show Int.toNat 0=0 from rfl,show Int.toNat 1=1 from rfl,show Int.toNat 2=2 from rfl,show Int.toNat 3=3 from rfl,show Int.toNat 4=4 from rfl,show Int.toNat 5=5 from rfl,show Int.toNat 6=6 from rfl,show Int.toNat 7=7 from rfl,Nat.zero_mul,Nat.mul_one,Nat.one_mul,↓Ql c0,↓Ql c1,↓Ql c2,↓Ql c3,↓Ql c4,↓Ql c5,↓Ql c6,↓Ql c7,↓QP,↓Qim,↓Zx (by decide:(0:Int)<=8),↓Zx (by decide:(0:Int)<=16),↓Zx (by decide:(0:Int)<=24),↓Zx (by decide:(0:Int)<=32),↓Zx (by decide:(0:Int)<=40),↓Zx (by decide:(0:Int)<=48),↓Zx (by decide:(0:Int)<=56)]
 have g:=get8_val (κ:=.i64) (by decide) b0 b1 b2 b3 b4 b5 b6 b7
 simp only[Nat.add_zero]at g⊢
 simp only[show Int.toNat 8=8 from rfl,show Int.toNat 16=16 from rfl,show Int.toNat 24=24 from rfl,show Int.toNat 32=32 from rfl,show Int.toNat 40=40 from rfl,show Int.toNat 48=48 from rfl,show Int.toNat 56=56 from rfl]
 rw[g]
 rw[<-le8_eq]
 skip
 exact hR
theorem go_GetUint8 (hl:o+1<=bs.length) (hn:1<=n) (hR:R (.int .u8 (byteN bs o)) H):FnS prog 391 #[bsl b o n c] H R:=by
 have c0:Qb2 H ⟨b,o,none⟩=some (.int .u8 (byteN bs o)):=hb.at (by omega) (by omega)
 have i0:(0:Int)<n:=by omega
 apply w391
 unfold s391
 simp only[↓QO (Int.le_refl 0) i0,Int.toNat_zero,Nat.zero_mul,↓Ql c0,↓QP,Nat.add_zero,wrap_u8 (Int.natCast_nonneg _) (by have:=Y9 bs o;omega:((byteN bs o:Nat):Int)<256)]
 exact hR
theorem go_GetInt8 (hl:o+1<=bs.length) (hn:1<=n) (hR:R (.int .i8 (IntKind.i8.wrap (byteN bs o))) H):FnS prog 372 #[bsl b o n c] H R:=by
 have c0:Qb2 H ⟨b,o,none⟩=some (.int .u8 (byteN bs o)):=hb.at (by omega) (by omega)
 have i0:(0:Int)<n:=by omega
 apply w372
 unfold s372
 simp only[↓QO (Int.le_refl 0) i0,Int.toNat_zero,Nat.zero_mul,↓Ql c0,↓QP,Nat.add_zero]
 exact hR
theorem go_GetBool (hl:o+1<=bs.length) (hn:1<=n) (hR:R (.bool (decide ((byteN bs o:Int)=1))) H):FnS prog 367 #[bsl b o n c] H R:=by
 have c0:Qb2 H ⟨b,o,none⟩=some (.int .u8 (byteN bs o)):=hb.at (by omega) (by omega)
 have i0:(0:Int)<n:=by omega
 apply w367
 unfold s367
 simp only[↓QO (Int.le_refl 0) i0,Int.toNat_zero,Nat.zero_mul,↓Ql c0,↓Yp,Nat.add_zero]
 exact hR
theorem go_GetByte (hl:o+1<=bs.length) (hn:1<=n) (hR:R (.int .u8 (byteN bs o)) H):FnS prog 366 #[bsl b o n c] H R:=by
 apply w366
 unfold Qgg
 refine go_GetUint8 hb hl hn ?_
 exact hR
theorem ZQ (hl:o+4<=bs.length) (hn:4<=n) (hR:R (.int .u32 (le4 bs o:Int)) H):FnS prog 174 #[bsl b o n c] H R:=by
 apply w174
 unfold s174
 refine QhA hb hl hn ?_
 have e:IntKind.u32.wrap (IntKind.i32.wrap (le4 bs o:Int))=(le4 bs o:Int):=by
  have h:=Qdp .i32 (le4 bs o:Int)
  have h2:=le4_lt bs o
  rw[Qf7 .u32 (y:=(le4 bs o:Int)) (by exact h)]
  exact QT (by omega) (by omega)
 simp only[↓QP,e]
 exact hR
theorem go_GetSOffsetT (hl:o+4<=bs.length) (hn:4<=n) (hR:R (.int .i32 (IntKind.i32.wrap (le4 bs o:Int))) H):FnS prog 390 #[bsl b o n c] H R:=by
 apply w390
 unfold Qgg
 refine QhA hb hl hn ?_
 exact hR
theorem Qdj (hl:o+2<=bs.length) (hn:2<=n) (hR:R (.int .u16 (le2 bs o:Int)) H):FnS prog 385 #[bsl b o n c] H R:=by
 apply w385
 unfold Qgg
 refine Qj0 hb hl hn ?_
 exact hR
omit hb in
theorem Zi {w:World} {n:Int}:(callFunc 78 #[.int .u32 n]).run prog w= .ok (.value (.float .f32 n.toNat)) w:=by
 rw[run_callFunc_extern (fn:=Tryz.f78) (e:=Extern.MathFloatBits.float32frombits) Tryz.func78 (by kernel_rfl) (by kernel_rfl) (by kernel_rfl) (by kernel_rfl)]
 rfl
omit hb in
theorem QH {P:Program} {f:FuncId} {args:Array Value} {v:Value} {k:Value->Prop} (h:∀w,(callFunc f args).run P w= .ok (.value v) w) (hk:k v):QaN P f args k:=⟨v,h,hk⟩
theorem go_GetFloat32 (hl:o+4<=bs.length) (hn:4<=n) (hR:R (.float .f32 (le4 bs o)) H):FnS prog 371 #[bsl b o n c] H R:=by
 apply w371
 unfold s371
 refine Qj4 hb hl hn ?_
 refine QH (fun w=>Zi) ?_
 exact hR
omit hb in
theorem Qcc {w:World} {n:Int}:(callFunc 82 #[.int .u64 n]).run prog w= .ok (.value (.float .f64 n.toNat)) w:=by
 rw[run_callFunc_extern (fn:=Tryz.f82) (e:=Extern.MathFloatBits.float64frombits) Tryz.func82 (by kernel_rfl) (by kernel_rfl) (by kernel_rfl) (by kernel_rfl)]
 rfl
theorem go_GetFloat64 (hl:o+8<=bs.length) (hn:8<=n) (hR:R (.float .f64 (le8 bs o)) H):FnS prog 373 #[bsl b o n c] H R:=by
 apply w373
 unfold s373
 refine QiQ hb hl hn ?_
 refine QH (fun w=>Qcc) ?_
 exact hR
end
end Go.Proofs
namespace Go.Proofs
open Go Go.Vc
open Tryz (prog)
set_option maxRecDepth 100000
def s312 (a b:Value) (h:Qe) (R:Kn):Prop:=
 Q5 a fun f=>
 Qh f 1 fun g=>
 LdK h g fun i=>
 Yl .i32 i fun j=>
 Q5 a fun l=>
 Qh l 1 fun m=>
 LdK h m fun o=>
 Qb prog 363 #[a,o] h fun p c=>
 Qi h c<|
 Qr prog .sub 332 j p fun q=>
 Yl .u32 q fun d=>
 Qb prog 364 #[a,d] c fun r e=>
 Qr prog .lss 292 b r fun s=>
 IfK s
 (Yl .u32 b fun t=>
 Qr prog .add 65 d t fun u=>
 Qb prog 364 #[a,u] e fun v w=>
 R v w)
 (R (.int .u16 0) e)
theorem w312 {a b h R} (H:s312 a b h R):FnS prog 312 #[a,b] h R:=wq Tryz.func312 (by kernel_rfl) H
theorem w313 {a b h R} (H:QcG 365 a b h R):FnS prog 313 #[a,b] h R:=wq Tryz.func313 (by kernel_rfl) H
def s314 (a b:Value) (h:Qe) (R:Kn):Prop:=
 Q5 a fun g=>
 Qh g 0 fun i=>
 LdK h i fun j=>
 Qg1 1 j (some b) none fun l=>
 Qb prog 174 #[l] h fun m c=>
 Qr prog .add 65 b m fun d=>
 Qr prog .add 65 d (.int .u32 4) fun e=>
 Q5 a fun o=>
 Qh o 0 fun p=>
 LdK c p fun q=>
 Qg1 1 q (some d) none fun r=>
 Qb prog 174 #[r] c fun s f=>
 Q5 a fun t=>
 Qh t 0 fun u=>
 LdK f u fun v=>
 Qr prog .add 65 e s fun w=>
 Qg1 1 v (some e) (some w) fun y=>
 R y f
theorem w314 {a b h R} (H:s314 a b h R):FnS prog 314 #[a,b] h R:=wq Tryz.func314 (by kernel_rfl) H
theorem w315 {a b h R} (H:QcG 366 a b h R):FnS prog 315 #[a,b] h R:=wq Tryz.func315 (by kernel_rfl) H
theorem w316 {a b h R} (H:QcG 367 a b h R):FnS prog 316 #[a,b] h R:=wq Tryz.func316 (by kernel_rfl) H
theorem w317 {a b h R} (H:QcG 298 a b h R):FnS prog 317 #[a,b] h R:=wq Tryz.func317 (by kernel_rfl) H
theorem w318 {a b h R} (H:QcG 368 a b h R):FnS prog 318 #[a,b] h R:=wq Tryz.func318 (by kernel_rfl) H
theorem w319 {a b h R} (H:QcG 369 a b h R):FnS prog 319 #[a,b] h R:=wq Tryz.func319 (by kernel_rfl) H
theorem w320 {a b h R} (H:QcG 370 a b h R):FnS prog 320 #[a,b] h R:=wq Tryz.func320 (by kernel_rfl) H
theorem w321 {a b h R} (H:QcG 371 a b h R):FnS prog 321 #[a,b] h R:=wq Tryz.func321 (by kernel_rfl) H
def s322 (b a:Value) (h:Qe) (R:Kn):Prop:=
 Q5 b fun c=>
 Qh c 0 fun d=>
 LdK h d fun e=>
 Qg1 1 e (some a) none fun f=>
 Qb prog 174 #[f] h fun g i=>
 Qr prog .add 65 a g fun j=>
 R j i
theorem w322 {a b h R} (H:s322 a b h R):FnS prog 322 #[a,b] h R:=wq Tryz.func322 (by kernel_rfl) H
theorem w324 {a b h R} (H:QcG 372 a b h R):FnS prog 324 #[a,b] h R:=wq Tryz.func324 (by kernel_rfl) H
theorem w327 {a b h R} (H:QcG 373 a b h R):FnS prog 327 #[a,b] h R:=wq Tryz.func327 (by kernel_rfl) H
def s328 (a d:Value) (h:Qe) (R:Kn):Prop:=
 Q5 a fun e=>
 Qh e 1 fun f=>
 LdK h f fun g=>
 Qr prog .add 65 d g fun b=>
 Q5 a fun i=>
 Qh i 0 fun j=>
 LdK h j fun l=>
 Qg1 1 l (some b) none fun m=>
 Qb prog 174 #[m] h fun o c=>
 Qr prog .add 65 b o fun p=>
 Q5 a fun q=>
 Qh q 0 fun r=>
 LdK c r fun s=>
 Qg1 1 s (some p) none fun t=>
 Qb prog 174 #[t] c fun u v=>
 Yl .i64 u fun w=>
 R w v
theorem w328 {a b h R} (H:s328 a b h R):FnS prog 328 #[a,b] h R:=wq Tryz.func328 (by kernel_rfl) H
def s329 (a c:Value) (h:Qe) (R:Kn):Prop:=
 Q5 a fun d=>
 Qh d 1 fun e=>
 LdK h e fun f=>
 Qr prog .add 65 c f fun b=>
 Q5 a fun g=>
 Qh g 0 fun i=>
 LdK h i fun j=>
 Qg1 1 j (some b) none fun l=>
 Qb prog 174 #[l] h fun m o=>
 Qr prog .add 65 b m fun p=>
 Qr prog .add 65 p (.int .u32 4) fun q=>
 R q o
theorem w329 {a b h R} (H:s329 a b h R):FnS prog 329 #[a,b] h R:=wq Tryz.func329 (by kernel_rfl) H
theorem w331 {a b h R} (H:QcG 374 a b h R):FnS prog 331 #[a,b] h R:=wq Tryz.func331 (by kernel_rfl) H
def s334 (a b e:Value) (h:Qe) (R:Kn):Prop:=
 Q5 a fun f=>
 Qh f 1 fun g=>
 LdK h g fun i=>
 Qr prog .add 65 e i fun c=>
 Qb prog 375 #[a,c] h fun j l=>
 Qr prog .add 65 c j fun m=>
 Q5 b fun o=>
 Qh o 1 fun p=>
 StK l 1 p m fun d=>
 Q5 a fun q=>
 Qh q 0 fun r=>
 LdK d r fun s=>
 Q5 b fun t=>
 Qh t 0 fun u=>
 StK d 1 u s fun v=>
 R (.tuple #[]) v
theorem w334 {a b c h R} (H:s334 a b c h R):FnS prog 334 #[a,b,c] h R:=wq Tryz.func334 (by kernel_rfl) H
theorem w363 {a b h R} (H:QcG 390 a b h R):FnS prog 363 #[a,b] h R:=wq Tryz.func363 (by kernel_rfl) H
theorem w364 {a b h R} (H:QcG 385 a b h R):FnS prog 364 #[a,b] h R:=wq Tryz.func364 (by kernel_rfl) H
theorem w375 {a b h R} (H:QcG 174 a b h R):FnS prog 375 #[a,b] h R:=wq Tryz.func375 (by kernel_rfl) H
end Go.Proofs
namespace Go.Proofs
open Go Go.Vc
open Tryz (prog)
set_option maxRecDepth 100000
def s40 (a b:Value) (h:Qe) (R:Kn):Prop:=
 Qg1 1 a (some b) none fun d=>
 Qb prog 174 #[d] h fun e f=>
 QB z210.toList [] fun g=>
 YM f (.cells (Value.cells g) 210) fun c i=>
 Qr prog .add 65 e b fun j=>
 Qb prog 175 #[c,a,j] i fun _x18 l=>
 R c l
theorem w40 {a b h R} (H:s40 a b h R):FnS prog 40 #[a,b] h R:=wq Tryz.func40 (by kernel_rfl) H
theorem w42 {a h R} (H:tp42 99 z154 154 176 a h R):FnS prog 42 #[a] h R:=wq Tryz.func42 (by kernel_rfl) H
theorem w88 {a b h R} (H:QhH 4 2 a b h R):FnS prog 88 #[a,b] h R:=wq Tryz.func88 (by kernel_rfl) H
theorem w91 {a b h R} (H:QhH 4 4 a b h R):FnS prog 91 #[a,b] h R:=wq Tryz.func91 (by kernel_rfl) H
theorem w92 {a b h R} (H:QhH 4 4 a b h R):FnS prog 92 #[a,b] h R:=wq Tryz.func92 (by kernel_rfl) H
theorem w94 {a b h R} (H:QhH 1 1 a b h R):FnS prog 94 #[a,b] h R:=wq Tryz.func94 (by kernel_rfl) H
theorem w96 {a b h R} (H:QhH 4 4 a b h R):FnS prog 96 #[a,b] h R:=wq Tryz.func96 (by kernel_rfl) H
theorem w97 {a b h R} (H:QhH 8 4 a b h R):FnS prog 97 #[a,b] h R:=wq Tryz.func97 (by kernel_rfl) H
theorem w99 {a b h R} (H:QhH 4 2 a b h R):FnS prog 99 #[a,b] h R:=wq Tryz.func99 (by kernel_rfl) H
theorem w100 {a b h R} (H:QhH 8 8 a b h R):FnS prog 100 #[a,b] h R:=wq Tryz.func100 (by kernel_rfl) H
theorem w102 {a b h R} (H:QhH 8 8 a b h R):FnS prog 102 #[a,b] h R:=wq Tryz.func102 (by kernel_rfl) H
theorem w106 {a b h R} (H:QhH 4 4 a b h R):FnS prog 106 #[a,b] h R:=wq Tryz.func106 (by kernel_rfl) H
theorem w107 {a b h R} (H:QhH 8 8 a b h R):FnS prog 107 #[a,b] h R:=wq Tryz.func107 (by kernel_rfl) H
theorem w109 {a b h R} (H:QhH 4 4 a b h R):FnS prog 109 #[a,b] h R:=wq Tryz.func109 (by kernel_rfl) H
theorem w110 {a b h R} (H:QhH 8 8 a b h R):FnS prog 110 #[a,b] h R:=wq Tryz.func110 (by kernel_rfl) H
theorem w111 {a b h R} (H:QhH 8 8 a b h R):FnS prog 111 #[a,b] h R:=wq Tryz.func111 (by kernel_rfl) H
theorem w114 {a b h R} (H:QhH 1 1 a b h R):FnS prog 114 #[a,b] h R:=wq Tryz.func114 (by kernel_rfl) H
theorem w116 {a h R} (H:Qja 49 a h R):FnS prog 116 #[a] h R:=wq Tryz.func116 (by kernel_rfl) H
theorem w118 {a b h R} (H:Yn 286 0 .u32 0 a b h R):FnS prog 118 #[a,b] h R:=wq Tryz.func118 (by kernel_rfl) H
theorem w119 {a b h R} (H:Yn 287 1 .i16 150 a b h R):FnS prog 119 #[a,b] h R:=wq Tryz.func119 (by kernel_rfl) H
theorem w120 {a b h R} (H:Yn 287 2 .i16 100 a b h R):FnS prog 120 #[a,b] h R:=wq Tryz.func120 (by kernel_rfl) H
theorem w121 {a b h R} (H:Yn 288 3 .u32 0 a b h R):FnS prog 121 #[a,b] h R:=wq Tryz.func121 (by kernel_rfl) H
theorem w122 {a b h R} (H:Yn 288 5 .u32 0 a b h R):FnS prog 122 #[a,b] h R:=wq Tryz.func122 (by kernel_rfl) H
theorem w123 {a b h R} (H:Yn 289 6 .u8 8 a b h R):FnS prog 123 #[a,b] h R:=wq Tryz.func123 (by kernel_rfl) H
theorem w124 {a b h R} (H:Yn 289 7 .u8 0 a b h R):FnS prog 124 #[a,b] h R:=wq Tryz.func124 (by kernel_rfl) H
theorem w125 {a b h R} (H:Yn 288 8 .u32 0 a b h R):FnS prog 125 #[a,b] h R:=wq Tryz.func125 (by kernel_rfl) H
theorem w126 {a b h R} (H:Yn 288 9 .u32 0 a b h R):FnS prog 126 #[a,b] h R:=wq Tryz.func126 (by kernel_rfl) H
theorem w127 {a b h R} (H:Yn 288 10 .u32 0 a b h R):FnS prog 127 #[a,b] h R:=wq Tryz.func127 (by kernel_rfl) H
theorem w128 {a b h R} (H:Yn 288 11 .u32 0 a b h R):FnS prog 128 #[a,b] h R:=wq Tryz.func128 (by kernel_rfl) H
theorem w129 {a b h R} (H:Yn 288 12 .u32 0 a b h R):FnS prog 129 #[a,b] h R:=wq Tryz.func129 (by kernel_rfl) H
theorem w130 {a b h R} (H:Yn 288 13 .u32 0 a b h R):FnS prog 130 #[a,b] h R:=wq Tryz.func130 (by kernel_rfl) H
theorem w131 {a b h R} (H:Yn 288 14 .u32 0 a b h R):FnS prog 131 #[a,b] h R:=wq Tryz.func131 (by kernel_rfl) H
def s132 (a b:Value) (h:Qe) (R:Kn):Prop:=
 Qb prog 290 #[a,(.int .i64 15),b,(.bool false)] h fun _x6 c=>
 R (.tuple #[]) c
theorem w132 {a b h R} (H:s132 a b h R):FnS prog 132 #[a,b] h R:=wq Tryz.func132 (by kernel_rfl) H
theorem w133 {a b h R} (H:Yn 291 16 .i32 0 a b h R):FnS prog 133 #[a,b] h R:=wq Tryz.func133 (by kernel_rfl) H
theorem w134 {a b h R} (H:Yn 292 17 .u32 0 a b h R):FnS prog 134 #[a,b] h R:=wq Tryz.func134 (by kernel_rfl) H
theorem w135 {a b h R} (H:Yn 293 18 .i64 0 a b h R):FnS prog 135 #[a,b] h R:=wq Tryz.func135 (by kernel_rfl) H
theorem w136 {a b h R} (H:Yn 294 19 .u64 0 a b h R):FnS prog 136 #[a,b] h R:=wq Tryz.func136 (by kernel_rfl) H
theorem w137 {a b h R} (H:Yn 291 20 .i32 0 a b h R):FnS prog 137 #[a,b] h R:=wq Tryz.func137 (by kernel_rfl) H
theorem w138 {a b h R} (H:Yn 292 21 .u32 0 a b h R):FnS prog 138 #[a,b] h R:=wq Tryz.func138 (by kernel_rfl) H
theorem w139 {a b h R} (H:Yn 293 22 .i64 0 a b h R):FnS prog 139 #[a,b] h R:=wq Tryz.func139 (by kernel_rfl) H
theorem w140 {a b h R} (H:Yn 294 23 .u64 0 a b h R):FnS prog 140 #[a,b] h R:=wq Tryz.func140 (by kernel_rfl) H
theorem w141 {a b h R} (H:Yn 288 24 .u32 0 a b h R):FnS prog 141 #[a,b] h R:=wq Tryz.func141 (by kernel_rfl) H
def s142 (a b:Value) (h:Qe) (R:Kn):Prop:=
 Qb prog 295 #[a,(.int .i64 25),b,(.float .f32 1078530000)] h fun _x6 c=>
 R (.tuple #[]) c
theorem w142 {a b h R} (H:s142 a b h R):FnS prog 142 #[a,b] h R:=wq Tryz.func142 (by kernel_rfl) H
def s143 (a b:Value) (h:Qe) (R:Kn):Prop:=
 Qb prog 295 #[a,(.int .i64 26),b,(.float .f32 1077936128)] h fun _x6 c=>
 R (.tuple #[]) c
theorem w143 {a b h R} (H:s143 a b h R):FnS prog 143 #[a,b] h R:=wq Tryz.func143 (by kernel_rfl) H
def s144 (a b:Value) (h:Qe) (R:Kn):Prop:=
 Qb prog 295 #[a,(.int .i64 27),b,(.float .f32 0)] h fun _x6 c=>
 R (.tuple #[]) c
theorem w144 {a b h R} (H:s144 a b h R):FnS prog 144 #[a,b] h R:=wq Tryz.func144 (by kernel_rfl) H
theorem w145 {a b h R} (H:Yn 288 28 .u32 0 a b h R):FnS prog 145 #[a,b] h R:=wq Tryz.func145 (by kernel_rfl) H
theorem w146 {a b h R} (H:Yn 288 29 .u32 0 a b h R):FnS prog 146 #[a,b] h R:=wq Tryz.func146 (by kernel_rfl) H
theorem w147 {a b h R} (H:Yn 288 30 .u32 0 a b h R):FnS prog 147 #[a,b] h R:=wq Tryz.func147 (by kernel_rfl) H
theorem w148 {a b h R} (H:Yn 288 31 .u32 0 a b h R):FnS prog 148 #[a,b] h R:=wq Tryz.func148 (by kernel_rfl) H
theorem w149 {a b h R} (H:Yn 288 32 .u32 0 a b h R):FnS prog 149 #[a,b] h R:=wq Tryz.func149 (by kernel_rfl) H
theorem w150 {a b h R} (H:Yn 288 33 .u32 0 a b h R):FnS prog 150 #[a,b] h R:=wq Tryz.func150 (by kernel_rfl) H
theorem w151 {a b h R} (H:Yn 288 34 .u32 0 a b h R):FnS prog 151 #[a,b] h R:=wq Tryz.func151 (by kernel_rfl) H
theorem w152 {a b h R} (H:Yn 288 35 .u32 0 a b h R):FnS prog 152 #[a,b] h R:=wq Tryz.func152 (by kernel_rfl) H
theorem w153 {a b h R} (H:Yn 294 36 .u64 0 a b h R):FnS prog 153 #[a,b] h R:=wq Tryz.func153 (by kernel_rfl) H
theorem w154 {a b h R} (H:Yn 288 37 .u32 0 a b h R):FnS prog 154 #[a,b] h R:=wq Tryz.func154 (by kernel_rfl) H
theorem w155 {a b h R} (H:Yn 288 38 .u32 0 a b h R):FnS prog 155 #[a,b] h R:=wq Tryz.func155 (by kernel_rfl) H
theorem w156 {a b h R} (H:Yn 294 39 .u64 0 a b h R):FnS prog 156 #[a,b] h R:=wq Tryz.func156 (by kernel_rfl) H
theorem w157 {a b h R} (H:Yn 288 40 .u32 0 a b h R):FnS prog 157 #[a,b] h R:=wq Tryz.func157 (by kernel_rfl) H
theorem w158 {a b h R} (H:Yn 294 41 .u64 0 a b h R):FnS prog 158 #[a,b] h R:=wq Tryz.func158 (by kernel_rfl) H
theorem w159 {a b h R} (H:Yn 288 42 .u32 0 a b h R):FnS prog 159 #[a,b] h R:=wq Tryz.func159 (by kernel_rfl) H
theorem w160 {a b h R} (H:Yn 289 43 .u8 0 a b h R):FnS prog 160 #[a,b] h R:=wq Tryz.func160 (by kernel_rfl) H
theorem w161 {a b h R} (H:Yn 288 44 .u32 0 a b h R):FnS prog 161 #[a,b] h R:=wq Tryz.func161 (by kernel_rfl) H
theorem w162 {a b h R} (H:Yn 289 45 .u8 0 a b h R):FnS prog 162 #[a,b] h R:=wq Tryz.func162 (by kernel_rfl) H
theorem w163 {a b h R} (H:Yn 288 46 .u32 0 a b h R):FnS prog 163 #[a,b] h R:=wq Tryz.func163 (by kernel_rfl) H
theorem w164 {a b h R} (H:Yn 288 47 .u32 0 a b h R):FnS prog 164 #[a,b] h R:=wq Tryz.func164 (by kernel_rfl) H
theorem w165 {a b h R} (H:Yn 296 48 .i8 (-1) a b h R):FnS prog 165 #[a,b] h R:=wq Tryz.func165 (by kernel_rfl) H
theorem w166 {a h R} (H:Qgg 297 a h R):FnS prog 166 #[a] h R:=wq Tryz.func166 (by kernel_rfl) H
theorem w175 {a b c h R} (H:tp175 a b c h R):FnS prog 175 #[a,b,c] h R:=wq Tryz.func175 (by kernel_rfl) H
theorem w178 {a h R} (H:Qep 6 313 .i16 150 a h R):FnS prog 178 #[a] h R:=wq Tryz.func178 (by kernel_rfl) H
theorem w179 {a h R} (H:Qep 8 313 .i16 100 a h R):FnS prog 179 #[a] h R:=wq Tryz.func179 (by kernel_rfl) H
theorem w180 {a h R} (H:tp180 10 a h R):FnS prog 180 #[a] h R:=wq Tryz.func180 (by kernel_rfl) H
theorem w181 {a h R} (H:Qep 16 315 .u8 8 a h R):FnS prog 181 #[a] h R:=wq Tryz.func181 (by kernel_rfl) H
def s182 (a:Value) (h:Qe) (R:Kn):Prop:=
 Q5 a fun d=>
 Qh d 0 fun e=>
 Qb prog 312 #[e,(.int .u16 34)] h fun f b=>
 Yl .u32 f fun c=>
 Qr prog .neq 65 c (.int .u32 0) fun g=>
 IfK g
 (Q5 a fun i=>
 Qh i 0 fun j=>
 Q5 a fun l=>
 Qh l 0 fun m=>
 Qh m 1 fun o=>
 LdK b o fun p=>
 Qr prog .add 65 c p fun q=>
 Qb prog 316 #[j,q] b fun r s=>
 R r s)
 (R (.bool false) b)
theorem w182 {a h R} (H:s182 a h R):FnS prog 182 #[a] h R:=wq Tryz.func182 (by kernel_rfl) H
theorem w183 {a h R} (H:Qep 36 317 .i32 0 a h R):FnS prog 183 #[a] h R:=wq Tryz.func183 (by kernel_rfl) H
theorem w184 {a h R} (H:Qep 38 318 .u32 0 a h R):FnS prog 184 #[a] h R:=wq Tryz.func184 (by kernel_rfl) H
theorem w185 {a h R} (H:Qep 40 319 .i64 0 a h R):FnS prog 185 #[a] h R:=wq Tryz.func185 (by kernel_rfl) H
theorem w186 {a h R} (H:Qep 42 320 .u64 0 a h R):FnS prog 186 #[a] h R:=wq Tryz.func186 (by kernel_rfl) H
theorem w187 {a h R} (H:Qep 44 317 .i32 0 a h R):FnS prog 187 #[a] h R:=wq Tryz.func187 (by kernel_rfl) H
theorem w188 {a h R} (H:Qep 46 318 .u32 0 a h R):FnS prog 188 #[a] h R:=wq Tryz.func188 (by kernel_rfl) H
theorem w189 {a h R} (H:Qep 48 319 .i64 0 a h R):FnS prog 189 #[a] h R:=wq Tryz.func189 (by kernel_rfl) H
theorem w190 {a h R} (H:Qep 50 320 .u64 0 a h R):FnS prog 190 #[a] h R:=wq Tryz.func190 (by kernel_rfl) H
def s191 (a:Value) (h:Qe) (R:Kn):Prop:=
 Q5 a fun d=>
 Qh d 0 fun e=>
 Qb prog 312 #[e,(.int .u16 54)] h fun f b=>
 Yl .u32 f fun c=>
 Qr prog .neq 65 c (.int .u32 0) fun g=>
 IfK g
 (Q5 a fun i=>
 Qh i 0 fun j=>
 Q5 a fun l=>
 Qh l 0 fun m=>
 Qh m 1 fun o=>
 LdK b o fun p=>
 Qr prog .add 65 c p fun q=>
 Qb prog 321 #[j,q] b fun r s=>
 R r s)
 (R (.float .f32 1078530000) b)
theorem w191 {a h R} (H:s191 a h R):FnS prog 191 #[a] h R:=wq Tryz.func191 (by kernel_rfl) H
def s192 (a:Value) (h:Qe) (R:Kn):Prop:=
 Q5 a fun d=>
 Qh d 0 fun e=>
 Qb prog 312 #[e,(.int .u16 56)] h fun f b=>
 Yl .u32 f fun c=>
 Qr prog .neq 65 c (.int .u32 0) fun g=>
 IfK g
 (Q5 a fun i=>
 Qh i 0 fun j=>
 Q5 a fun l=>
 Qh l 0 fun m=>
 Qh m 1 fun o=>
 LdK b o fun p=>
 Qr prog .add 65 c p fun q=>
 Qb prog 321 #[j,q] b fun r s=>
 R r s)
 (R (.float .f32 1077936128) b)
theorem w192 {a h R} (H:s192 a h R):FnS prog 192 #[a] h R:=wq Tryz.func192 (by kernel_rfl) H
def s193 (a:Value) (h:Qe) (R:Kn):Prop:=
 Q5 a fun d=>
 Qh d 0 fun e=>
 Qb prog 312 #[e,(.int .u16 58)] h fun f b=>
 Yl .u32 f fun c=>
 Qr prog .neq 65 c (.int .u32 0) fun g=>
 IfK g
 (Q5 a fun i=>
 Qh i 0 fun j=>
 Q5 a fun l=>
 Qh l 0 fun m=>
 Qh m 1 fun o=>
 LdK b o fun p=>
 Qr prog .add 65 c p fun q=>
 Qb prog 321 #[j,q] b fun r s=>
 R r s)
 (R (.float .f32 0) b)
theorem w193 {a h R} (H:s193 a h R):FnS prog 193 #[a] h R:=wq Tryz.func193 (by kernel_rfl) H
theorem w194 {a b h R} (H:tp194 72 220 z305 305 323 a b h R):FnS prog 194 #[a,b] h R:=wq Tryz.func194 (by kernel_rfl) H
theorem w195 {a h R} (H:Qep 76 320 .u64 0 a h R):FnS prog 195 #[a] h R:=wq Tryz.func195 (by kernel_rfl) H
theorem w196 {a h R} (H:Qep 82 320 .u64 0 a h R):FnS prog 196 #[a] h R:=wq Tryz.func196 (by kernel_rfl) H
theorem w197 {a h R} (H:Qep 86 320 .u64 0 a h R):FnS prog 197 #[a] h R:=wq Tryz.func197 (by kernel_rfl) H
theorem w198 {a h R} (H:Qep 100 324 .i8 (-1) a h R):FnS prog 198 #[a] h R:=wq Tryz.func198 (by kernel_rfl) H
def s199 (c f:Value) (h:Qe) (R:Kn):Prop:=
 Q5 c fun i=>
 Qh i 0 fun j=>
 Qb prog 312 #[j,(.int .u16 4)] h fun l a=>
 Yl .u32 l fun g=>
 Qr prog .neq 65 g (.int .u32 0) fun m=>
 IfK m
 (Q5 c fun o=>
 Qh o 0 fun p=>
 Qh p 1 fun q=>
 LdK a q fun r=>
 Qr prog .add 65 g r fun s=>
 QG (fun b=>
 Qr prog .eql 223 f (.pointer none) fun t=>
 IfK t
 (YM a (.cells z307 307) fun u v=>
 b [u] v)
 (b [f] a)) fun b=>∀d:Value,∀e:Qe,b [d] e->
 Q5 c fun w=>
 Qh w 0 fun y=>
 Qh y 0 fun z=>
 LdK e z fun a0=>
 Qb prog 325 #[d,a0,s] e fun _x31 a1=>
 R d a1)
 (R (.pointer none) a)
theorem w199 {a b h R} (H:s199 a b h R):FnS prog 199 #[a,b] h R:=wq Tryz.func199 (by kernel_rfl) H
def s200 (d e:Value) (h:Qe) (R:Kn):Prop:=
 QG (fun a=>
 Qr prog .eql 225 e (.pointer none) fun f=>
 IfK f
 (YM h (.cells z234 234) fun g i=>
 a [g] i)
 (a [e] h)) fun a=>∀c:Value,∀b:Qe,a [c] b->
 Q5 d fun j=>
 Qh j 0 fun l=>
 Qh l 0 fun m=>
 Qh m 0 fun o=>
 LdK b o fun p=>
 Q5 d fun q=>
 Qh q 0 fun r=>
 Qh r 0 fun s=>
 Qh s 1 fun t=>
 LdK b t fun u=>
 Qr prog .add 65 u (.int .u32 26) fun v=>
 Qb prog 326 #[c,p,v] b fun _x22 w=>
 R c w
theorem w200 {a b h R} (H:s200 a b h R):FnS prog 200 #[a,b] h R:=wq Tryz.func200 (by kernel_rfl) H
theorem w201 {a h R} (H:tp201 0 321 a h R):FnS prog 201 #[a] h R:=wq Tryz.func201 (by kernel_rfl) H
theorem w202 {a h R} (H:tp201 4 321 a h R):FnS prog 202 #[a] h R:=wq Tryz.func202 (by kernel_rfl) H
theorem w203 {a h R} (H:tp201 8 321 a h R):FnS prog 203 #[a] h R:=wq Tryz.func203 (by kernel_rfl) H
theorem w204 {a h R} (H:tp201 16 327 a h R):FnS prog 204 #[a] h R:=wq Tryz.func204 (by kernel_rfl) H
theorem w205 {a h R} (H:tp201 24 315 a h R):FnS prog 205 #[a] h R:=wq Tryz.func205 (by kernel_rfl) H
theorem w206 {a h R} (H:tp201 0 313 a h R):FnS prog 206 #[a] h R:=wq Tryz.func206 (by kernel_rfl) H
theorem w207 {a h R} (H:tp201 2 324 a h R):FnS prog 207 #[a] h R:=wq Tryz.func207 (by kernel_rfl) H
theorem w208 {a h R} (H:Qg7 14 a h R):FnS prog 208 #[a] h R:=wq Tryz.func208 (by kernel_rfl) H
theorem w209 {a b h R} (H:tp209 14 1 315 .u8 a b h R):FnS prog 209 #[a,b] h R:=wq Tryz.func209 (by kernel_rfl) H
theorem w210 {a h R} (H:Qg7 22 a h R):FnS prog 210 #[a] h R:=wq Tryz.func210 (by kernel_rfl) H
theorem w211 {a b c h R} (H:tp211 22 4 326 a b c h R):FnS prog 211 #[a,b,c] h R:=wq Tryz.func211 (by kernel_rfl) H
theorem w212 {a h R} (H:Qg7 24 a h R):FnS prog 212 #[a] h R:=wq Tryz.func212 (by kernel_rfl) H
theorem w213 {a b h R} (H:tp213 24 a b h R):FnS prog 213 #[a,b] h R:=wq Tryz.func213 (by kernel_rfl) H
theorem w214 {a h R} (H:Qg7 26 a h R):FnS prog 214 #[a] h R:=wq Tryz.func214 (by kernel_rfl) H
theorem w215 {a b c h R} (H:tp215 26 175 a b c h R):FnS prog 215 #[a,b,c] h R:=wq Tryz.func215 (by kernel_rfl) H
theorem w216 {a b h R} (H:tp194 28 99 z210 210 175 a b h R):FnS prog 216 #[a,b] h R:=wq Tryz.func216 (by kernel_rfl) H
theorem w217 {a h R} (H:Qg7 30 a h R):FnS prog 217 #[a] h R:=wq Tryz.func217 (by kernel_rfl) H
theorem w218 {a b h R} (H:tp209 30 1 315 .u8 a b h R):FnS prog 218 #[a,b] h R:=wq Tryz.func218 (by kernel_rfl) H
theorem w219 {a b h R} (H:tp194 32 239 z310 310 330 a b h R):FnS prog 219 #[a,b] h R:=wq Tryz.func219 (by kernel_rfl) H
theorem w220 {a h R} (H:tp180 4 a h R):FnS prog 220 #[a] h R:=wq Tryz.func220 (by kernel_rfl) H
theorem w221 {a h R} (H:Qep 6 319 .i64 0 a h R):FnS prog 221 #[a] h R:=wq Tryz.func221 (by kernel_rfl) H
theorem w222 {a h R} (H:Qep 8 331 .u16 0 a h R):FnS prog 222 #[a] h R:=wq Tryz.func222 (by kernel_rfl) H
theorem w223 {a h R} (H:Qg7 52 a h R):FnS prog 223 #[a] h R:=wq Tryz.func223 (by kernel_rfl) H
def s224 (a d:Value) (h:Qe) (R:Kn):Prop:=
 Q5 a fun e=>
 Qh e 0 fun f=>
 Qb prog 312 #[f,(.int .u16 52)] h fun g b=>
 Yl .u32 g fun c=>
 Qr prog .neq 65 c (.int .u32 0) fun i=>
 IfK i
 (Q5 a fun j=>
 Qh j 0 fun l=>
 Qb prog 329 #[l,c] b fun m o=>
 Q5 a fun p=>
 Qh p 0 fun q=>
 Qr prog .mul 3 d (.int .i64 1) fun r=>
 Yl .u32 r fun s=>
 Qr prog .add 65 m s fun t=>
 Qb prog 316 #[q,t] o fun u v=>
 R u v)
 (R (.bool false) b)
theorem w224 {a b h R} (H:s224 a b h R):FnS prog 224 #[a,b] h R:=wq Tryz.func224 (by kernel_rfl) H
theorem w225 {a h R} (H:Qg7 60 a h R):FnS prog 225 #[a] h R:=wq Tryz.func225 (by kernel_rfl) H
theorem w226 {a b h R} (H:tp213 60 a b h R):FnS prog 226 #[a,b] h R:=wq Tryz.func226 (by kernel_rfl) H
theorem w227 {a h R} (H:Qg7 62 a h R):FnS prog 227 #[a] h R:=wq Tryz.func227 (by kernel_rfl) H
theorem w228 {a b c h R} (H:tp211 62 8 332 a b c h R):FnS prog 228 #[a,b,c] h R:=wq Tryz.func228 (by kernel_rfl) H
theorem w229 {a h R} (H:tp201 0 318 a h R):FnS prog 229 #[a] h R:=wq Tryz.func229 (by kernel_rfl) H
theorem w230 {a h R} (H:tp201 4 318 a h R):FnS prog 230 #[a] h R:=wq Tryz.func230 (by kernel_rfl) H
theorem w231 {a h R} (H:Qg7 64 a h R):FnS prog 231 #[a] h R:=wq Tryz.func231 (by kernel_rfl) H
theorem w232 {a b h R} (H:tp209 64 1 315 .u8 a b h R):FnS prog 232 #[a,b] h R:=wq Tryz.func232 (by kernel_rfl) H
theorem w233 {a h R} (H:Qg7 66 a h R):FnS prog 233 #[a] h R:=wq Tryz.func233 (by kernel_rfl) H
theorem w234 {a b c h R} (H:tp211 66 4 326 a b c h R):FnS prog 234 #[a,b,c] h R:=wq Tryz.func234 (by kernel_rfl) H
theorem w235 {a h R} (H:Qg7 68 a h R):FnS prog 235 #[a] h R:=wq Tryz.func235 (by kernel_rfl) H
theorem w236 {a b h R} (H:tp209 68 8 319 .i64 a b h R):FnS prog 236 #[a,b] h R:=wq Tryz.func236 (by kernel_rfl) H
theorem w237 {a h R} (H:Qg7 70 a h R):FnS prog 237 #[a] h R:=wq Tryz.func237 (by kernel_rfl) H
def s238 (a d:Value) (h:Qe) (R:Kn):Prop:=
 Q5 a fun e=>
 Qh e 0 fun f=>
 Qb prog 312 #[f,(.int .u16 70)] h fun g b=>
 Yl .u32 g fun c=>
 Qr prog .neq 65 c (.int .u32 0) fun i=>
 IfK i
 (Q5 a fun j=>
 Qh j 0 fun l=>
 Qb prog 329 #[l,c] b fun m o=>
 Q5 a fun p=>
 Qh p 0 fun q=>
 Qr prog .mul 3 d (.int .i64 8) fun r=>
 Yl .u32 r fun s=>
 Qr prog .add 65 m s fun t=>
 Qb prog 327 #[q,t] o fun u v=>
 R u v)
 (R (.float .f64 0) b)
theorem w238 {a b h R} (H:s238 a b h R):FnS prog 238 #[a,b] h R:=wq Tryz.func238 (by kernel_rfl) H
theorem w239 {a h R} (H:Qg7 74 a h R):FnS prog 239 #[a] h R:=wq Tryz.func239 (by kernel_rfl) H
theorem w240 {a b c h R} (H:tp215 74 333 a b c h R):FnS prog 240 #[a,b,c] h R:=wq Tryz.func240 (by kernel_rfl) H
theorem w241 {a h R} (H:Qep 4 320 .u64 0 a h R):FnS prog 241 #[a] h R:=wq Tryz.func241 (by kernel_rfl) H
theorem w242 {a h R} (H:Qg7 78 a h R):FnS prog 242 #[a] h R:=wq Tryz.func242 (by kernel_rfl) H
theorem w243 {a b h R} (H:tp209 78 8 320 .u64 a b h R):FnS prog 243 #[a,b] h R:=wq Tryz.func243 (by kernel_rfl) H
theorem w244 {a h R} (H:Qg7 80 a h R):FnS prog 244 #[a] h R:=wq Tryz.func244 (by kernel_rfl) H
theorem w245 {a b c h R} (H:tp215 80 333 a b c h R):FnS prog 245 #[a,b,c] h R:=wq Tryz.func245 (by kernel_rfl) H
theorem w246 {a h R} (H:Qg7 84 a h R):FnS prog 246 #[a] h R:=wq Tryz.func246 (by kernel_rfl) H
theorem w247 {a b h R} (H:tp209 84 8 320 .u64 a b h R):FnS prog 247 #[a,b] h R:=wq Tryz.func247 (by kernel_rfl) H
theorem w248 {a h R} (H:Qg7 88 a h R):FnS prog 248 #[a] h R:=wq Tryz.func248 (by kernel_rfl) H
theorem w249 {a b h R} (H:tp209 88 8 320 .u64 a b h R):FnS prog 249 #[a,b] h R:=wq Tryz.func249 (by kernel_rfl) H
theorem w250 {a b h R} (H:tp250 20 a b h R):FnS prog 250 #[a,b] h R:=wq Tryz.func250 (by kernel_rfl) H
theorem w252 {a h R} (H:Qep 18 315 .u8 0 a h R):FnS prog 252 #[a] h R:=wq Tryz.func252 (by kernel_rfl) H
theorem w253 {a b h R} (H:tp250 92 a b h R):FnS prog 253 #[a,b] h R:=wq Tryz.func253 (by kernel_rfl) H
theorem w254 {a h R} (H:Qep 90 315 .u8 0 a h R):FnS prog 254 #[a] h R:=wq Tryz.func254 (by kernel_rfl) H
theorem w255 {a h R} (H:Qep 94 315 .u8 0 a h R):FnS prog 255 #[a] h R:=wq Tryz.func255 (by kernel_rfl) H
theorem w256 {a b h R} (H:tp250 96 a b h R):FnS prog 256 #[a,b] h R:=wq Tryz.func256 (by kernel_rfl) H
theorem w257 {a h R} (H:Qg7 98 a h R):FnS prog 257 #[a] h R:=wq Tryz.func257 (by kernel_rfl) H
theorem w258 {a b h R} (H:tp209 98 1 315 .u8 a b h R):FnS prog 258 #[a,b] h R:=wq Tryz.func258 (by kernel_rfl) H
def s267 (a b c:Value) (h:Qe) (R:Kn):Prop:=
 Qb prog 72 #[a,(.int .i64 2),(.int .i64 4)] h fun _x8 d=>
 Qb prog 260 #[a,(.int .i64 1)] d fun _x10 e=>
 Qb prog 344 #[a,c] e fun _x13 f=>
 Qb prog 345 #[a,b] f fun _x16 g=>
 Qb prog 261 #[a] g fun i j=>
 R i j
theorem w267 {a b c h R} (H:s267 a b c h R):FnS prog 267 #[a,b,c] h R:=wq Tryz.func267 (by kernel_rfl) H
theorem w269 {a h R} (H:Qja 3 a h R):FnS prog 269 #[a] h R:=wq Tryz.func269 (by kernel_rfl) H
theorem w270 {a b h R} (H:Yn 288 0 .u32 0 a b h R):FnS prog 270 #[a,b] h R:=wq Tryz.func270 (by kernel_rfl) H
theorem w271 {a b h R} (H:Yn 293 1 .i64 0 a b h R):FnS prog 271 #[a,b] h R:=wq Tryz.func271 (by kernel_rfl) H
theorem w272 {a b h R} (H:Yn 346 2 .u16 0 a b h R):FnS prog 272 #[a,b] h R:=wq Tryz.func272 (by kernel_rfl) H
theorem w273 {a h R} (H:Qgg 297 a h R):FnS prog 273 #[a] h R:=wq Tryz.func273 (by kernel_rfl) H
def s275 (a b c:Value) (h:Qe) (R:Kn):Prop:=
 Qb prog 72 #[a,(.int .i64 4),(.int .i64 8)] h fun _x8 d=>
 Qb prog 348 #[a,c] d fun _x11 e=>
 Qb prog 348 #[a,b] e fun _x14 f=>
 Qb prog 261 #[a] f fun g i=>
 R g i
theorem w275 {a b c h R} (H:s275 a b c h R):FnS prog 275 #[a,b,c] h R:=wq Tryz.func275 (by kernel_rfl) H
theorem w278 {a h R} (H:Qja 0 a h R):FnS prog 278 #[a] h R:=wq Tryz.func278 (by kernel_rfl) H
theorem w279 {a h R} (H:Qgg 297 a h R):FnS prog 279 #[a] h R:=wq Tryz.func279 (by kernel_rfl) H
theorem w280 {a h R} (H:Qja 1 a h R):FnS prog 280 #[a] h R:=wq Tryz.func280 (by kernel_rfl) H
theorem w281 {a b h R} (H:Yn 294 0 .u64 0 a b h R):FnS prog 281 #[a,b] h R:=wq Tryz.func281 (by kernel_rfl) H
theorem w282 {a h R} (H:Qgg 297 a h R):FnS prog 282 #[a] h R:=wq Tryz.func282 (by kernel_rfl) H
def s285 (a b c d e f g i:Value) (h:Qe) (R:Kn):Prop:=
 Qb prog 72 #[a,(.int .i64 8),(.int .i64 32)] h fun _x18 j=>
 Qb prog 260 #[a,(.int .i64 2)] j fun _x20 l=>
 Qb prog 72 #[a,(.int .i64 2),(.int .i64 4)] l fun _x22 m=>
 Qb prog 260 #[a,(.int .i64 1)] m fun _x24 o=>
 Qb prog 344 #[a,i] o fun _x27 p=>
 Qb prog 345 #[a,g] p fun _x30 q=>
 Qb prog 260 #[a,(.int .i64 1)] q fun _x32 r=>
 Qb prog 115 #[a,f] r fun _x35 s=>
 Qb prog 103 #[a,e] s fun _x38 t=>
 Qb prog 260 #[a,(.int .i64 4)] t fun _x40 u=>
 Qb prog 352 #[a,d] u fun _x43 v=>
 Qb prog 352 #[a,c] v fun _x46 w=>
 Qb prog 352 #[a,b] w fun _x49 y=>
 Qb prog 261 #[a] y fun z a0=>
 R z a0
theorem w285 {a b c d e f g i h R} (H:s285 a b c d e f g i h R):FnS prog 285 #[a,b,c,d,e,f,g,i] h R:=wq Tryz.func285 (by kernel_rfl) H
theorem w299 {a h R} (H:tp42 223 z160 160 356 a h R):FnS prog 299 #[a] h R:=wq Tryz.func299 (by kernel_rfl) H
theorem w300 {a h R} (H:tp180 14 a h R):FnS prog 300 #[a] h R:=wq Tryz.func300 (by kernel_rfl) H
theorem w301 {a b h R} (H:tp301 166 z169 169 z313 313 357 261 a b h R):FnS prog 301 #[a,b] h R:=wq Tryz.func301 (by kernel_rfl) H
theorem w302 {a h R} (H:tp42 225 z158 158 358 a h R):FnS prog 302 #[a] h R:=wq Tryz.func302 (by kernel_rfl) H
theorem w303 {a h R} (H:tp180 30 a h R):FnS prog 303 #[a] h R:=wq Tryz.func303 (by kernel_rfl) H
theorem w304 {a h R} (H:tp42 239 z161 161 359 a h R):FnS prog 304 #[a] h R:=wq Tryz.func304 (by kernel_rfl) H
theorem w305 {a h R} (H:tp42 244 z163 163 360 a h R):FnS prog 305 #[a] h R:=wq Tryz.func305 (by kernel_rfl) H
theorem w306 {a h R} (H:tp180 64 a h R):FnS prog 306 #[a] h R:=wq Tryz.func306 (by kernel_rfl) H
theorem w307 {a h R} (H:tp42 220 z165 165 361 a h R):FnS prog 307 #[a] h R:=wq Tryz.func307 (by kernel_rfl) H
theorem w308 {a h R} (H:tp42 249 z260 260 362 a h R):FnS prog 308 #[a] h R:=wq Tryz.func308 (by kernel_rfl) H
theorem w309 {a b h R} (H:tp301 170 z172 172 z313 313 357 261 a b h R):FnS prog 309 #[a,b] h R:=wq Tryz.func309 (by kernel_rfl) H
theorem w310 {a b h R} (H:tp301 173 z176 176 z210 210 42 66 a b h R):FnS prog 310 #[a,b] h R:=wq Tryz.func310 (by kernel_rfl) H
theorem w323 {a b c h R} (H:tp175 a b c h R):FnS prog 323 #[a,b,c] h R:=wq Tryz.func323 (by kernel_rfl) H
theorem w325 {a b c h R} (H:tp325 a b c h R):FnS prog 325 #[a,b,c] h R:=wq Tryz.func325 (by kernel_rfl) H
theorem w326 {a b c h R} (H:tp325 a b c h R):FnS prog 326 #[a,b,c] h R:=wq Tryz.func326 (by kernel_rfl) H
theorem w330 {a b c h R} (H:tp175 a b c h R):FnS prog 330 #[a,b,c] h R:=wq Tryz.func330 (by kernel_rfl) H
theorem w332 {a b c h R} (H:tp325 a b c h R):FnS prog 332 #[a,b,c] h R:=wq Tryz.func332 (by kernel_rfl) H
theorem w333 {a b c h R} (H:tp175 a b c h R):FnS prog 333 #[a,b,c] h R:=wq Tryz.func333 (by kernel_rfl) H
theorem w335 {a b c h R} (H:tp175 a b c h R):FnS prog 335 #[a,b,c] h R:=wq Tryz.func335 (by kernel_rfl) H
theorem w336 {a h R} (H:Qep 4 315 .u8 2 a h R):FnS prog 336 #[a] h R:=wq Tryz.func336 (by kernel_rfl) H
theorem w339 {a h R} (H:Qja 1 a h R):FnS prog 339 #[a] h R:=wq Tryz.func339 (by kernel_rfl) H
theorem w340 {a b h R} (H:Yn 289 0 .u8 2 a b h R):FnS prog 340 #[a,b] h R:=wq Tryz.func340 (by kernel_rfl) H
theorem w341 {a h R} (H:Qgg 297 a h R):FnS prog 341 #[a] h R:=wq Tryz.func341 (by kernel_rfl) H
theorem w342 {a h R} (H:Qja 0 a h R):FnS prog 342 #[a] h R:=wq Tryz.func342 (by kernel_rfl) H
theorem w343 {a h R} (H:Qgg 297 a h R):FnS prog 343 #[a] h R:=wq Tryz.func343 (by kernel_rfl) H
theorem w357 {a h R} (H:tp42 345 z263 263 389 a h R):FnS prog 357 #[a] h R:=wq Tryz.func357 (by kernel_rfl) H
end Go.Proofs
namespace Go.Proofs
open Go Go.Vc
open Tryz (prog)
theorem SlcB {k:Value->Prop} {κ:IntKind} {b n m:Nat} {x:Int} (hx:x=m) (hm:m<n):
  Qg1 1 (bsl b 0 n n) (some (.int κ x)) none k=k (bsl b m (n-m) (n-m)):=by
 subst hx
 rw[bsl,SlcK_lo (by omega) (by omega) (Nat.le_refl n)]
 have:¬n=m:=by omega
 simp[this]
structure Tab (H:Qe) (p B:Nat) (bs:List UInt8) (pos:Nat):Prop where
 c0:Qb2 H ⟨p,0,none⟩=some (bsl B 0 bs.length bs.length)
 c1:Qb2 H ⟨p,1,none⟩=some (.int .u32 pos)
 u8:U8s H B 0 bs
 lt:bs.length<2147483648
 le:pos<=bs.length
theorem QeO {H H':Qe} (hx:ExtC H H') {b o:Nat} {bs:List UInt8} (h:U8s H b o bs):U8s H' b o bs:=fun i hi=>hx _ _ (h i hi)
theorem Tab.ext {H H':Qe} (hx:ExtC H H') {p B:Nat} {bs:List UInt8} {pos:Nat} (h:Tab H p B bs pos):Tab H' p B bs pos:=
 ⟨hx _ _ h.c0,hx _ _ h.c1,QeO hx h.u8,h.lt,h.le⟩
def leN (k:Nat) (bs:List UInt8) (o:Nat):Nat:=match k with|1=>byteN bs o|2=>le2 bs o|4=>le4 bs o|_=>le8 bs o
structure VT (bs:List UInt8) (pos vt:Nat):Prop where
 hp:pos+4<=bs.length
 hs:(pos:Int)-IntKind.i32.wrap (le4 bs pos)=vt
 he:vt+le2 bs vt<=bs.length
 h4:4<=le2 bs vt
 ev:le2 bs vt%2=0
def slotAt (bs:List UInt8) (vt vo:Nat):Nat:=if vo<le2 bs vt then le2 bs (vt+vo) else 0
theorem slotAt_lt (bs:List UInt8) (vt vo:Nat):slotAt bs vt vo<65536:=by
 unfold slotAt;split
 ·exact le2_lt _ _
 ·omega
section
variable {H:Qe} {p B:Nat} {bs:List UInt8} {pos:Nat} (ht:Tab H p B bs pos) {R:Kn}
include ht
theorem go_Table_Offset {vt vo:Nat} (hv:VT bs pos vt) (he:vo%2=0) (hR:R (.int .u16 (slotAt bs vt vo)) H):
  FnS prog 312 #[.pointer (some ⟨p,0,none⟩),.int .u16 vo] H R:=by
 have:=ht.lt;have:=hv.hp;have h4:=hv.h4;have hee:=hv.he;have hev:=hv.ev
 have e1:IntKind.i32.wrap (pos:Int)=pos:=Zd (by omega) (by omega)
 have e3:IntKind.u32.wrap (IntKind.i32.wrap ((pos:Int)-IntKind.i32.wrap (le4 bs pos)))=(vt:Int):=by
  rw[hv.hs,Zd (by omega) (by omega),QT (by omega) (by omega)]
 apply w312
 unfold s312
 simp only[↓Qt,↓Qu,↓Ql ht.c1,↓QP,e1]
 apply w363
 unfold QcG
 simp only[↓Qt,↓Qu,↓Ql ht.c0,↓SlcB (n:=bs.length) (m:=pos) rfl (by omega)]
 refine go_GetSOffsetT ht.u8 (by omega) (by omega) ?_
 rw[Qa]
 simp only[↓Yh,↓QP,e3]
 apply w364
 unfold QcG
 simp only[↓Qt,↓Qu,↓Ql ht.c0,↓SlcB (n:=bs.length) (m:=vt) rfl (by omega)]
 refine Qdj ht.u8 (by omega) (by omega) ?_
 simp only[↓Yw]
 unfold slotAt at hR
 by_cases hlt:vo<le2 bs vt
 ·rw[QY (by omega)]
  rw[if_pos hlt]at hR
  have h16:=le2_lt bs vt
  have e4:IntKind.u32.wrap (vo:Int)=vo:=QT (by omega) (by omega)
  have e5:IntKind.u32.wrap ((vt:Int)+vo)=((vt+vo:Nat):Int):=by rw[QT (by omega) (by omega)];omega
  simp only[↓QP,↓QE,e4,e5]
  apply w364
  unfold QcG
  simp only[↓Qt,↓Qu,↓Ql ht.c0,↓SlcB (n:=bs.length) (m:=vt+vo) rfl (by omega)]
  exact Qdj ht.u8 (by omega) (by omega) hR
 ·rw[QK (by omega)]
  rw[if_neg hlt]at hR
  exact hR
theorem Qdc {o:Nat} {x:Int} (hx:x=(o:Nat)) (hl:o+2<=bs.length) (hR:R (.int .i16 (IntKind.i16.wrap (le2 bs o:Int))) H):
  FnS prog 313 #[.pointer (some ⟨p,0,none⟩),.int .u32 x] H R:=by
 have:=ht.lt
 subst hx
 apply w313
 unfold QcG
 simp only[↓Qt,↓Qu,↓Ql ht.c0,↓SlcB (n:=bs.length) (m:=o) rfl (by omega)]
 exact go_GetInt16 ht.u8 (by omega) (by omega) hR
theorem YL {o:Nat} {x:Int} (hx:x=(o:Nat)) (hl:o+1<=bs.length) (hR:R (.int .u8 (byteN bs o:Int)) H):
  FnS prog 315 #[.pointer (some ⟨p,0,none⟩),.int .u32 x] H R:=by
 have:=ht.lt
 subst hx
 apply w315
 unfold QcG
 simp only[↓Qt,↓Qu,↓Ql ht.c0,↓SlcB (n:=bs.length) (m:=o) rfl (by omega)]
 exact go_GetByte ht.u8 (by omega) (by omega) hR
theorem QfQ {o:Nat} {x:Int} (hx:x=(o:Nat)) (hl:o+1<=bs.length) (hR:R (.bool (decide ((byteN bs o:Int)=1))) H):
  FnS prog 316 #[.pointer (some ⟨p,0,none⟩),.int .u32 x] H R:=by
 have:=ht.lt
 subst hx
 apply w316
 unfold QcG
 simp only[↓Qt,↓Qu,↓Ql ht.c0,↓SlcB (n:=bs.length) (m:=o) rfl (by omega)]
 exact go_GetBool ht.u8 (by omega) (by omega) hR
theorem Qfh {o:Nat} {x:Int} (hx:x=(o:Nat)) (hl:o+4<=bs.length) (hR:R (.int .i32 (IntKind.i32.wrap (le4 bs o:Int))) H):
  FnS prog 317 #[.pointer (some ⟨p,0,none⟩),.int .u32 x] H R:=by
 have:=ht.lt
 subst hx
 apply w317
 unfold QcG
 simp only[↓Qt,↓Qu,↓Ql ht.c0,↓SlcB (n:=bs.length) (m:=o) rfl (by omega)]
 exact QhA ht.u8 (by omega) (by omega) hR
theorem Qb5 {o:Nat} {x:Int} (hx:x=(o:Nat)) (hl:o+4<=bs.length) (hR:R (.int .u32 (le4 bs o:Int)) H):
  FnS prog 318 #[.pointer (some ⟨p,0,none⟩),.int .u32 x] H R:=by
 have:=ht.lt
 subst hx
 apply w318
 unfold QcG
 simp only[↓Qt,↓Qu,↓Ql ht.c0,↓SlcB (n:=bs.length) (m:=o) rfl (by omega)]
 exact Qj4 ht.u8 (by omega) (by omega) hR
theorem Qbz {o:Nat} {x:Int} (hx:x=(o:Nat)) (hl:o+8<=bs.length) (hR:R (.int .i64 (IntKind.i64.wrap (le8 bs o:Int))) H):
  FnS prog 319 #[.pointer (some ⟨p,0,none⟩),.int .u32 x] H R:=by
 have:=ht.lt
 subst hx
 apply w319
 unfold QcG
 simp only[↓Qt,↓Qu,↓Ql ht.c0,↓SlcB (n:=bs.length) (m:=o) rfl (by omega)]
 exact go_GetInt64 ht.u8 (by omega) (by omega) hR
theorem YI {o:Nat} {x:Int} (hx:x=(o:Nat)) (hl:o+8<=bs.length) (hR:R (.int .u64 (le8 bs o:Int)) H):
  FnS prog 320 #[.pointer (some ⟨p,0,none⟩),.int .u32 x] H R:=by
 have:=ht.lt
 subst hx
 apply w320
 unfold QcG
 simp only[↓Qt,↓Qu,↓Ql ht.c0,↓SlcB (n:=bs.length) (m:=o) rfl (by omega)]
 exact QiQ ht.u8 (by omega) (by omega) hR
theorem Z5 {o:Nat} {x:Int} (hx:x=(o:Nat)) (hl:o+4<=bs.length) (hR:R (.float .f32 (le4 bs o)) H):
  FnS prog 321 #[.pointer (some ⟨p,0,none⟩),.int .u32 x] H R:=by
 have:=ht.lt
 subst hx
 apply w321
 unfold QcG
 simp only[↓Qt,↓Qu,↓Ql ht.c0,↓SlcB (n:=bs.length) (m:=o) rfl (by omega)]
 exact go_GetFloat32 ht.u8 (by omega) (by omega) hR
theorem QfV {o:Nat} {x:Int} (hx:x=(o:Nat)) (hl:o+1<=bs.length) (hR:R (.int .i8 (IntKind.i8.wrap (byteN bs o:Int))) H):
  FnS prog 324 #[.pointer (some ⟨p,0,none⟩),.int .u32 x] H R:=by
 have:=ht.lt
 subst hx
 apply w324
 unfold QcG
 simp only[↓Qt,↓Qu,↓Ql ht.c0,↓SlcB (n:=bs.length) (m:=o) rfl (by omega)]
 exact go_GetInt8 ht.u8 (by omega) (by omega) hR
theorem Qe4 {o:Nat} {x:Int} (hx:x=(o:Nat)) (hl:o+8<=bs.length) (hR:R (.float .f64 (le8 bs o)) H):
  FnS prog 327 #[.pointer (some ⟨p,0,none⟩),.int .u32 x] H R:=by
 have:=ht.lt
 subst hx
 apply w327
 unfold QcG
 simp only[↓Qt,↓Qu,↓Ql ht.c0,↓SlcB (n:=bs.length) (m:=o) rfl (by omega)]
 exact go_GetFloat64 ht.u8 (by omega) (by omega) hR
theorem Qi5 {o:Nat} {x:Int} (hx:x=(o:Nat)) (hl:o+2<=bs.length) (hR:R (.int .u16 (le2 bs o:Int)) H):
  FnS prog 331 #[.pointer (some ⟨p,0,none⟩),.int .u32 x] H R:=by
 have:=ht.lt
 subst hx
 apply w331
 unfold QcG
 simp only[↓Qt,↓Qu,↓Ql ht.c0,↓SlcB (n:=bs.length) (m:=o) rfl (by omega)]
 exact Qj0 ht.u8 (by omega) (by omega) hR
theorem Qh5 {o:Nat} {x:Int} (hx:x=(o:Nat)) (hl:o+4<=bs.length) (hR:R (.int .u32 (le4 bs o:Int)) H):
  FnS prog 375 #[.pointer (some ⟨p,0,none⟩),.int .u32 x] H R:=by
 have:=ht.lt
 subst hx
 apply w375
 unfold QcG
 simp only[↓Qt,↓Qu,↓Ql ht.c0,↓SlcB (n:=bs.length) (m:=o) rfl (by omega)]
 exact ZQ ht.u8 (by omega) (by omega) hR
def tgt (bs:List UInt8) (o:Nat):Nat:=o+le4 bs o
theorem QbC {o:Nat} {x:Int} (hx:x=(o:Nat)) (hl:o+4<=bs.length) (h2:tgt bs o<=bs.length) (hR:R (.int .u32 (tgt bs o:Nat)) H):
  FnS prog 322 #[.pointer (some ⟨p,0,none⟩),.int .u32 x] H R:=by
 have:=ht.lt
 subst hx
 unfold tgt at h2 hR
 apply w322
 unfold s322
 simp only[↓Qt,↓Qu,↓Ql ht.c0,↓SlcB (n:=bs.length) (m:=o) rfl (by omega)]
 refine ZQ ht.u8 (by omega) (by omega) ?_
 rw[QE,QT (by omega) (by omega)]
 rw[show (o:Int)+(le4 bs o:Int)=((o+le4 bs o:Nat):Int) by omega]
 exact hR
theorem Qed {o n:Nat} {x:Int} (hx:x=(o:Nat)) (hl:o+4<=bs.length) (hn:le4 bs (tgt bs o)=n) (h2:tgt bs o+4+n<=bs.length) (h3:tgt bs o+4<bs.length)
  (hR:R (bsl B (tgt bs o+4) n (bs.length-(tgt bs o+4))) H):
  FnS prog 314 #[.pointer (some ⟨p,0,none⟩),.int .u32 x] H R:=by
 have:=ht.lt
 subst hx
 apply w314
 unfold s314
 simp only[↓Qt,↓Qu,↓Ql ht.c0,↓SlcB (n:=bs.length) (m:=o) rfl (by omega)]
 refine ZQ ht.u8 (by omega) (by omega) ?_
 have e1:IntKind.u32.wrap ((o:Int)+(le4 bs o:Int))=(tgt bs o:Nat):=by unfold tgt at h2⊢;rw[QT (by omega) (by omega)];omega
 have e2:IntKind.u32.wrap (((tgt bs o:Nat):Int)+4)=((tgt bs o+4:Nat):Int):=by rw[QT (by omega) (by omega)];omega
 simp only[↓QE,e1,e2,↓Qt,↓Qu,↓Ql ht.c0,↓SlcB (n:=bs.length) (m:=tgt bs o) rfl (by omega)]
 refine ZQ ht.u8 (by omega) (by omega) ?_
 have e3:IntKind.u32.wrap (((tgt bs o+4:Nat):Int)+(le4 bs (tgt bs o):Int))=((tgt bs o+4+n:Nat):Int):=by rw[QT (by omega) (by omega)];omega
 simp only[↓QE,e3,↓Qt,↓Qu,↓Ql ht.c0]
 rw[bsl,Qgv (by omega) (by omega) (by omega)]
 have e4:¬bs.length=tgt bs o+4:=by omega
 simp only[Int.toNat_natCast,if_neg e4,Nat.zero_add,Nat.mul_one,show tgt bs o+4+n-(tgt bs o+4)=n by omega]
 exact hR
theorem QhK {o:Nat} {x:Int} (hx:x=(o:Nat)) (hl:pos+o+4<=bs.length) (h2:tgt bs (pos+o)+4<=bs.length)
  (hR:R (.int .i64 (le4 bs (tgt bs (pos+o)):Nat)) H):
  FnS prog 328 #[.pointer (some ⟨p,0,none⟩),.int .u32 x] H R:=by
 have:=ht.lt
 subst hx
 apply w328
 unfold s328
 have e0:IntKind.u32.wrap ((o:Int)+pos)=((pos+o:Nat):Int):=by rw[QT (by omega) (by omega)];omega
 simp only[↓Qt,↓Qu,↓Ql ht.c1,↓Ql ht.c0,↓QE,e0,↓SlcB (n:=bs.length) (m:=pos+o) rfl (by omega)]
 refine ZQ ht.u8 (by omega) (by omega) ?_
 have e1:IntKind.u32.wrap (((pos+o:Nat):Int)+(le4 bs (pos+o):Int))=(tgt bs (pos+o):Nat):=by unfold tgt at h2⊢;rw[QT (by omega) (by omega)];omega
 simp only[↓QE,e1,↓Qt,↓Qu,↓Ql ht.c0,↓SlcB (n:=bs.length) (m:=tgt bs (pos+o)) rfl (by omega)]
 refine ZQ ht.u8 (by omega) (by omega) ?_
 have h4:=le4_lt bs (tgt bs (pos+o))
 rw[QP,wrap_i64 (by omega) (by omega)]
 exact hR
theorem Qcy {o:Nat} {x:Int} (hx:x=(o:Nat)) (hl:pos+o+4<=bs.length) (h2:tgt bs (pos+o)+4<=bs.length)
  (hR:R (.int .u32 (tgt bs (pos+o)+4:Nat)) H):
  FnS prog 329 #[.pointer (some ⟨p,0,none⟩),.int .u32 x] H R:=by
 have:=ht.lt
 subst hx
 apply w329
 unfold s329
 have e0:IntKind.u32.wrap ((o:Int)+pos)=((pos+o:Nat):Int):=by rw[QT (by omega) (by omega)];omega
 simp only[↓Qt,↓Qu,↓Ql ht.c1,↓Ql ht.c0,↓QE,e0,↓SlcB (n:=bs.length) (m:=pos+o) rfl (by omega)]
 refine ZQ ht.u8 (by omega) (by omega) ?_
 have e1:IntKind.u32.wrap (((pos+o:Nat):Int)+(le4 bs (pos+o):Int))=(tgt bs (pos+o):Nat):=by unfold tgt at h2⊢;rw[QT (by omega) (by omega)];omega
 have e2:IntKind.u32.wrap (((tgt bs (pos+o):Nat):Int)+4)=((tgt bs (pos+o)+4:Nat):Int):=by rw[QT (by omega) (by omega)];omega
 simp only[↓QE,e1,e2]
 exact hR
theorem go_Table_Union {o q:Nat} {x:Int} {c:Array Value} {e:TypeId} (hx:x=(o:Nat)) (hl:pos+o+4<=bs.length) (h2:tgt bs (pos+o)<=bs.length) (hq:H[q]?=some (.cells c e (0,0))) (hc:c.size=2) (hpq:q≠p)
  (hR:R (.tuple #[]) (setB H q (.cells #[bsl B 0 bs.length bs.length,.int .u32 (tgt bs (pos+o):Nat)] e (0,0)))):
  FnS prog 334 #[.pointer (some ⟨p,0,none⟩),.pointer (some ⟨q,0,none⟩),.int .u32 x] H R:=by
 have:=ht.lt
 subst hx
 apply w334
 unfold s334
 have e0:IntKind.u32.wrap ((o:Int)+pos)=((pos+o:Nat):Int):=by rw[QT (by omega) (by omega)];omega
 simp only[↓Qt,↓Qu,↓Ql ht.c1,↓QE,e0]
 refine Qh5 ht (o:=pos+o) rfl (by omega) ?_
 have e1:IntKind.u32.wrap (((pos+o:Nat):Int)+(le4 bs (pos+o):Int))=(tgt bs (pos+o):Nat):=by unfold tgt at h2⊢;rw[QT (by omega) (by omega)];omega
 have c0:=ht.c0
 obtain ⟨x0,x1,rfl⟩:∃x0 x1,c=#[x0,x1]:=by
  obtain ⟨l⟩:=c
  match l,hc with
  |[x0,x1],_=>exact ⟨x0,x1,rfl⟩
 simp only[↓QE,e1,↓Qt,↓Qu,↓Qbe (v:=.int .u32 (tgt bs (pos+o):Nat)) hq (by decide:1<2) (by simp) rfl]
 have hq':=QU (o:=.cells (#[x0,x1].setIfInBounds 1 (.int .u32 (tgt bs (pos+o):Nat))) e (0,0)) hq
 have c0':Qb2 (setB H q (.cells (#[x0,x1].setIfInBounds 1 (.int .u32 (tgt bs (pos+o):Nat))) e (0,0))) ⟨p,0,none⟩=some (bsl B 0 bs.length bs.length):=by
  rw[<-c0];unfold Qb2;rw[Qx (Ne.symm hpq)]
 simp only[↓Ql c0',↓Qbe (v:=bsl B 0 bs.length bs.length) hq' (by decide:0<2) (by simp) rfl,Qdy]
 exact hR
end
abbrev Qg0 (f:Nat):Prop:=∀{H:Qe} {R:Kn} {q:Nat} {c:Array Value} {e:TypeId} {x y:Value} (_:H[q]?=some (.cells c e (0,0))) (_:c.size=2) (_:x.oneCell'=true) (_:y.oneCell'=true)
  (_:R (.tuple #[]) (setB H q (.cells #[x,y] e (0,0)))),FnS prog f #[.pointer (some ⟨q,0,none⟩),x,y] H R
def Init1S (x0 x1 x2:Value) (h:Qe) (R:Kn):Prop:=
 Q5 x0 fun x8=>
 Qh x8 0 fun x9=>
 Qh x9 0 fun x10=>
 StK h 1 x10 x1 fun h1=>
 Q5 x0 fun x13=>
 Qh x13 0 fun x14=>
 Qh x14 1 fun x15=>
 StK h1 1 x15 x2 fun h2=>
 R (.tuple #[]) h2
theorem init1S {f:Nat} (hw:∀{x0 x1 x2 h R},Init1S x0 x1 x2 h R->FnS prog f #[x0,x1,x2] h R):Qg0 f:=by
 intro H R q c e x y hq hc hx hy hR
 obtain ⟨x0,x1,rfl⟩:∃x0 x1,c=#[x0,x1]:=by
  obtain ⟨l⟩:=c
  match l,hc with
  |[x0,x1],_=>exact ⟨x0,x1,rfl⟩
 apply hw
 unfold Init1S
 have hq':=QU (o:=.cells (#[x0,x1].setIfInBounds 0 x) e (0,0)) hq
 simp only[↓Qt,↓Qu,↓Qbe hq (by decide:0<2) (by simp) hx,↓Qbe hq' (by decide:1<2) (by simp) hy,Qdy]
 exact hR
def Init2S (x0 x1 x2:Value) (h:Qe) (R:Kn):Prop:=
 Q5 x0 fun x8=>
 Qh x8 0 fun x9=>
 Qh x9 0 fun x10=>
 Qh x10 0 fun x11=>
 StK h 1 x11 x1 fun h1=>
 Q5 x0 fun x14=>
 Qh x14 0 fun x15=>
 Qh x15 0 fun x16=>
 Qh x16 1 fun x17=>
 StK h1 1 x17 x2 fun h2=>
 R (.tuple #[]) h2
theorem init2S {f:Nat} (hw:∀{x0 x1 x2 h R},Init2S x0 x1 x2 h R->FnS prog f #[x0,x1,x2] h R):Qg0 f:=by
 intro H R q c e x y hq hc hx hy hR
 obtain ⟨x0,x1,rfl⟩:∃x0 x1,c=#[x0,x1]:=by
  obtain ⟨l⟩:=c
  match l,hc with
  |[x0,x1],_=>exact ⟨x0,x1,rfl⟩
 apply hw
 unfold Init2S
 have hq':=QU (o:=.cells (#[x0,x1].setIfInBounds 0 x) e (0,0)) hq
 simp only[↓Qt,↓Qu,↓Qbe hq (by decide:0<2) (by simp) hx,↓Qbe hq' (by decide:1<2) (by simp) hy,Qdy]
 exact hR
theorem ZG:Qg0 175:=init1S w175
theorem Qij:Qg0 325:=init2S w325
theorem Qda:Qg0 326:=init2S w326
theorem Qih:Qg0 330:=init1S w330
theorem QgZ:Qg0 332:=init2S w332
theorem QcU:Qg0 333:=init1S w333
theorem Qc1:Qg0 335:=init1S w335
theorem QdC:Qg0 323:=init1S w323
end Go.Proofs
namespace Go.Proofs
open Go Go.Vc
open Tryz (prog)
def Sc (k:Nat) (bs:List UInt8) (pos vt vo d x:Nat):Prop:=
 (slotAt bs vt vo=0/\x=d)\/(slotAt bs vt vo≠0/\pos+slotAt bs vt vo+k<=bs.length/\x=leN k bs (pos+slotAt bs vt vo))
def QdU (k:Nat) (bs:List UInt8) (pos vt vo n at_:Nat):Prop:=
 (slotAt bs vt vo=0/\n=0)\/
 (slotAt bs vt vo≠0/\pos+slotAt bs vt vo+4<=bs.length/\at_=tgt bs (pos+slotAt bs vt vo)+4/\le4 bs (tgt bs (pos+slotAt bs vt vo))=n/\at_+k*n<=bs.length/\at_<=bs.length)
def StrAt (bs:List UInt8) (o n:Nat):Prop:=o+4<=bs.length/\le4 bs (tgt bs o)=n/\tgt bs o+4+n<bs.length
theorem YJ {H:Qe} {o o':Obj}:setB (H.push o) H.size o'=H.push o':=by
 apply Array.ext_getElem?
 intro j
 simp only[setB,Array.getElem?_setIfInBounds,Array.getElem?_push,Array.size_push]
 by_cases h:H.size=j
 ·subst h;simp
 ·rw[if_neg h]
  by_cases h2:j=H.size
  ·exact absurd h2.symm h
  ·rw[if_neg h2,if_neg h2]
section
variable {H:Qe} {p B:Nat} {bs:List UInt8} {pos:Nat} (ht:Tab H p B bs pos) {R:Kn}
include ht
theorem Tab.push (o:Obj):Tab (H.push o) p B bs pos:=ht.ext (Qai.push H o).ext
theorem Tab.slot_add {vt vo k:Nat} (h:pos+slotAt bs vt vo+k<=bs.length):IntKind.u32.wrap ((slotAt bs vt vo:Int)+pos)=((pos+slotAt bs vt vo:Nat):Int):=by
 have:=ht.lt
 rw[QT (by omega) (by omega)];omega
theorem Tab.add {o k:Nat} (h:pos+o+k<=bs.length):IntKind.u32.wrap ((pos:Int)+(o:Nat))=((pos+o:Nat):Int):=by
 have:=ht.lt
 rw[QT (by omega) (by omega)];omega
theorem Tab.item {a i k m:Nat} (h:a+k*i+m<=bs.length):IntKind.u32.wrap ((a:Int)+IntKind.u32.wrap (IntKind.i64.wrap ((i:Int)*(k:Nat))))=((a+k*i:Nat):Int):=by
 have:=ht.lt
 have e:(i:Int)*(k:Nat)=((k*i:Nat):Int):=by rw[Int.natCast_mul,Int.mul_comm]
 rw[e,wrap_i64 (by omega) (by omega),QT (n:=((k*i:Nat):Int)) (by omega) (by omega),QT (by omega) (by omega)];omega
theorem Tab.item' {a i k m:Nat} (hi:i<2147483648) (h:a+k*i+m<=bs.length):IntKind.u32.wrap ((a:Int)+IntKind.u32.wrap (IntKind.u32.wrap (i:Int)*(k:Nat)))=((a+k*i:Nat):Int):=by
 have:=ht.lt
 rw[QT (n:=(i:Int)) (by omega) (by omega)]
 have e:(i:Int)*(k:Nat)=((k*i:Nat):Int):=by rw[Int.natCast_mul,Int.mul_comm]
 rw[e,QT (n:=((k*i:Nat):Int)) (by omega) (by omega),QT (by omega) (by omega)];omega
theorem slot_u32 {vt vo:Nat}:IntKind.u32.wrap (slotAt bs vt vo:Int)=(slotAt bs vt vo:Int):=by
 have:=slotAt_lt bs vt vo
 exact QT (by omega) (by omega)
end
abbrev vI16 (x:Nat):Value:=.int .i16 (IntKind.i16.wrap (x:Int))
abbrev vU8 (x:Nat):Value:=.int .u8 (x:Int)
abbrev vB (x:Nat):Value:=.bool (decide ((x:Int)=1))
abbrev vI32 (x:Nat):Value:=.int .i32 (IntKind.i32.wrap (x:Int))
abbrev vU32 (x:Nat):Value:=.int .u32 (x:Int)
abbrev vI64 (x:Nat):Value:=.int .i64 (IntKind.i64.wrap (x:Int))
abbrev vU64 (x:Nat):Value:=.int .u64 (x:Int)
abbrev vF32 (x:Nat):Value:=.float .f32 x
abbrev vI8 (x:Nat):Value:=.int .i8 (IntKind.i8.wrap (x:Int))
abbrev vF64 (x:Nat):Value:=.float .f64 x
abbrev vU16 (x:Nat):Value:=.int .u16 (x:Int)
def OffS (vo:Int) (x0:Value) (h:Qe) (A:Kn) (B:Qe->Prop):Prop:=
 Q5 x0 fun x5=>
 Qh x5 0 fun x6=>
 Qb prog 312 #[x6,(.int .u16 vo)] h fun x7 h1=>
 Yl .u32 x7 fun x8=>
 Qr prog .neq 65 x8 (.int .u32 0) fun x10=>
 IfK x10 (A x8 h1) (B h1)
theorem offS {H:Qe} {p B:Nat} {bs:List UInt8} {pos:Nat} (ht:Tab H p B bs pos) {vt vo:Nat} (hv:VT bs pos vt) (he:vo%2=0) {A:Kn} {B:Qe->Prop} (h0:slotAt bs vt vo=0->B H)
  (h1:slotAt bs vt vo≠0->A (.int .u32 (slotAt bs vt vo:Int)) H):OffS vo (.pointer (some ⟨p,0,none⟩)) H A B:=by
 have e0:=slot_u32 ht (vt:=vt) (vo:=vo)
 unfold OffS
 simp only[↓Qt,↓Qu]
 refine go_Table_Offset ht hv he ?_
 simp only[↓QP,↓Yo,e0]
 by_cases hz:slotAt bs vt vo=0
 ·rw[QK (by omega)];exact h0 hz
 ·rw[QY (by omega)];exact h1 hz
abbrev GetOk (g k:Nat) (v:Nat->Value) (le:List UInt8->Nat->Nat):Prop:=∀{H:Qe} {p B:Nat} {bs:List UInt8} {pos:Nat} (_:Tab H p B bs pos) {R:Kn} {o:Nat} {x:Int} (_:x=(o:Nat)) (_:o+k<=bs.length) (_:R (v (le bs o)) H),FnS prog g #[.pointer (some ⟨p,0,none⟩),.int .u32 x] H R
abbrev Qid (f k vo d:Nat) (v:Nat->Value):Prop:=∀{H:Qe} {p B:Nat} {bs:List UInt8} {pos:Nat} (_:Tab H p B bs pos) {R:Kn} {vt x:Nat} (_:VT bs pos vt) (_:Sc k bs pos vt vo d x) (_:R (v x) H),FnS prog f #[.pointer (some ⟨p,0,none⟩)] H R
abbrev QfH (f vo:Nat):Prop:=∀{H:Qe} {p B:Nat} {bs:List UInt8} {pos:Nat} (_:Tab H p B bs pos) {R:Kn} {vt k n at_:Nat} (_:VT bs pos vt) (_:QdU k bs pos vt vo n at_) (_:R (.int .i64 n) H),FnS prog f #[.pointer (some ⟨p,0,none⟩)] H R
abbrev ItOk (f k vo:Nat) (v:Nat->Value) (le:List UInt8->Nat->Nat):Prop:=∀{H:Qe} {p B:Nat} {bs:List UInt8} {pos:Nat} (_:Tab H p B bs pos) {R:Kn} {vt n at_ i:Nat} (_:VT bs pos vt) (_:QdU k bs pos vt vo n at_) (_:i<n) (_:R (v (le bs (at_+k*i))) H),FnS prog f #[.pointer (some ⟨p,0,none⟩),.int .i64 (i:Nat)] H R
abbrev TItOk (f vo:Nat):Prop:=∀{H:Qe} {p B:Nat} {bs:List UInt8} {pos:Nat} (_:Tab H p B bs pos) {R:Kn} {vt n at_ i m:Nat} (_:VT bs pos vt) (_:QdU 4 bs pos vt vo n at_) (_:i<n) (_:StrAt bs (at_+4*i) m)
  (_:R (bsl B (tgt bs (at_+4*i)+4) m (bs.length-(tgt bs (at_+4*i)+4))) H),FnS prog f #[.pointer (some ⟨p,0,none⟩),.int .i64 (i:Nat)] H R
abbrev StOk (f off k:Nat) (v:Nat->Value) (le:List UInt8->Nat->Nat):Prop:=∀{H:Qe} {p B:Nat} {bs:List UInt8} {pos:Nat} (_:Tab H p B bs pos) {R:Kn} (_:pos+off+k<=bs.length) (_:R (v (le bs (pos+off))) H),FnS prog f #[.pointer (some ⟨p,0,none⟩)] H R
abbrev BytOk (f vo:Nat):Prop:=∀{H:Qe} {p B:Nat} {bs:List UInt8} {pos:Nat} (_:Tab H p B bs pos) {R:Kn} {vt:Nat} (_:VT bs pos vt) (_:slotAt bs vt vo=0->R (.slice none 0 0) H)
  (_:slotAt bs vt vo≠0->∃n,StrAt bs (pos+slotAt bs vt vo) n/\R (bsl B (tgt bs (pos+slotAt bs vt vo)+4) n (bs.length-(tgt bs (pos+slotAt bs vt vo)+4))) H),FnS prog f #[.pointer (some ⟨p,0,none⟩)] H R
abbrev SubOk (f w vo:Nat):Prop:=∀{H:Qe} {p B:Nat} {bs:List UInt8} {pos:Nat} (_:Tab H p B bs pos) {R:Kn} {vt n at_ i q:Nat} {c:Array Value} {e:TypeId} (_:VT bs pos vt) (_:QdU w bs pos vt vo n at_) (_:i<n) (_:H[q]?=some (.cells c e (0,0))) (_:c.size=2)
  (_:R (.bool true) (setB H q (.cells #[bsl B 0 bs.length bs.length,.int .u32 (at_+w*i:Nat)] e (0,0)))),FnS prog f #[.pointer (some ⟨p,0,none⟩),.pointer (some ⟨q,0,none⟩),.int .i64 (i:Nat)] H R
abbrev SubtOk (f vo:Nat):Prop:=∀{H:Qe} {p B:Nat} {bs:List UInt8} {pos:Nat} (_:Tab H p B bs pos) {R:Kn} {vt n at_ i q:Nat} {c:Array Value} {e:TypeId} (_:VT bs pos vt) (_:QdU 4 bs pos vt vo n at_) (_:i<n) (_:at_+4*i+4<=bs.length) (_:tgt bs (at_+4*i)<=bs.length) (_:H[q]?=some (.cells c e (0,0))) (_:c.size=2)
  (_:R (.bool true) (setB H q (.cells #[bsl B 0 bs.length bs.length,.int .u32 (tgt bs (at_+4*i):Nat)] e (0,0)))),FnS prog f #[.pointer (some ⟨p,0,none⟩),.pointer (some ⟨q,0,none⟩),.int .i64 (i:Nat)] H R
abbrev UniOk (f vo:Nat):Prop:=∀{H:Qe} {p B:Nat} {bs:List UInt8} {pos:Nat} (_:Tab H p B bs pos) {R:Kn} {vt q:Nat} {c:Array Value} {e:TypeId} (_:VT bs pos vt) (_:H[q]?=some (.cells c e (0,0))) (_:c.size=2) (_:q≠p) (_:slotAt bs vt vo=0->R (.bool false) H)
  (_:slotAt bs vt vo≠0->pos+slotAt bs vt vo+4<=bs.length/\tgt bs (pos+slotAt bs vt vo)<=bs.length/\R (.bool true) (setB H q (.cells #[bsl B 0 bs.length bs.length,.int .u32 (tgt bs (pos+slotAt bs vt vo):Nat)] e (0,0)))),
  FnS prog f #[.pointer (some ⟨p,0,none⟩),.pointer (some ⟨q,0,none⟩)] H R
def ScS (vo:Int) (g:Nat) (dv:Value) (x0:Value) (h:Qe) (R:Kn):Prop:=OffS vo x0 h (fun x8 h1=>
 Q5 x0 fun x12=>
 Qh x12 0 fun x13=>
 Q5 x0 fun x16=>
 Qh x16 0 fun x17=>
 Qh x17 1 fun x18=>
 LdK h1 x18 fun x19=>
 Qr prog .add 65 x8 x19 fun x20=>
 Qb prog g #[x13,x20] h1 fun x21 h2=>
 R x21 h2) (fun h1=>(R dv h1))
theorem scS {f g vo k d:Nat} {dv:Value} {v:Nat->Value} {le:List UInt8->Nat->Nat} (hw:∀{x0 h R},ScS vo g dv x0 h R->FnS prog f #[x0] h R) (hg:GetOk g k v le) (he:vo%2=0) (hd:dv=v d) (hk:le=leN k):Qid f k vo d v:=by
 subst hd hk
 intro H p B bs pos ht R vt x hv hs hR
 apply hw
 refine offS ht hv he (fun h=>?_) (fun h=>?_)
 all_goals rcases hs with ⟨h0,rfl⟩|⟨h0,h1,rfl⟩
 ·exact hR
 ·exact absurd h h0
 ·exact absurd h0 h
 ·simp only[↓Qt,↓Qu,↓Ql ht.c1,↓QE]
  exact hg ht (Tab.slot_add ht h1) h1 hR
theorem QbN:Qid 178 2 6 150 vI16:=scS (le:=le2) w178 Qdc rfl rfl rfl
theorem Qbc:Qid 179 2 8 100 vI16:=scS (le:=le2) w179 Qdc rfl rfl rfl
def BytS (vo:Int) (x0:Value) (h:Qe) (R:Kn):Prop:=OffS vo x0 h (fun x8 h1=>
 Q5 x0 fun x12=>
 Qh x12 0 fun x13=>
 Q5 x0 fun x16=>
 Qh x16 0 fun x17=>
 Qh x17 1 fun x18=>
 LdK h1 x18 fun x19=>
 Qr prog .add 65 x8 x19 fun x20=>
 Qb prog 314 #[x13,x20] h1 fun x21 h2=>
 R x21 h2) (fun h1=>(R (.slice none 0 0) h1))
theorem bytS {f vo:Nat} (hw:∀{x0 h R},BytS vo x0 h R->FnS prog f #[x0] h R) (he:vo%2=0):BytOk f vo:=by
 intro H p B bs pos ht R vt hv h0 h1
 apply hw
 refine offS ht hv he (fun h=>h0 h) (fun h=>?_)
 obtain ⟨n,⟨g1,g2,g3⟩,hR⟩:=h1 h
 simp only[↓Qt,↓Qu,↓Ql ht.c1,↓QE]
 exact Qed ht (Tab.slot_add ht g1) g1 g2 (by omega) (by omega) hR
theorem ZK:BytOk 180 10:=bytS w180 rfl
theorem Zl:Qid 181 1 16 8 vU8:=scS (le:=byteN) w181 YL rfl rfl rfl
theorem Yz:Qid 182 1 34 0 vB:=scS (le:=byteN) w182 QfQ rfl rfl rfl
theorem QX:Qid 183 4 36 0 vI32:=scS (le:=le4) w183 Qfh rfl rfl rfl
theorem QS:Qid 184 4 38 0 vU32:=scS (le:=le4) w184 Qb5 rfl rfl rfl
theorem QI:Qid 185 8 40 0 vI64:=scS (le:=le8) w185 Qbz rfl rfl rfl
theorem QD:Qid 186 8 42 0 vU64:=scS (le:=le8) w186 YI rfl rfl rfl
theorem Q9:Qid 187 4 44 0 vI32:=scS (le:=le4) w187 Qfh rfl rfl rfl
theorem Q7:Qid 188 4 46 0 vU32:=scS (le:=le4) w188 Qb5 rfl rfl rfl
theorem Q4:Qid 189 8 48 0 vI64:=scS (le:=le8) w189 Qbz rfl rfl rfl
theorem Q2:Qid 190 8 50 0 vU64:=scS (le:=le8) w190 YI rfl rfl rfl
theorem QJ:Qid 191 4 54 1078530000 vF32:=scS (le:=le4) w191 Z5 rfl rfl rfl
theorem QC:Qid 192 4 56 1077936128 vF32:=scS (le:=le4) w192 Z5 rfl rfl rfl
theorem QA:Qid 193 4 58 0 vF32:=scS (le:=le4) w193 Z5 rfl rfl rfl
theorem Zg {H:Qe} {p B:Nat} {bs:List UInt8} {pos:Nat} (ht:Tab H p B bs pos) {R:Kn} {vt:Nat} (hv:VT bs pos vt) (h0:slotAt bs vt 72=0->R (.pointer none) H)
  (h1:slotAt bs vt 72≠0->pos+slotAt bs vt 72+4<=bs.length/\tgt bs (pos+slotAt bs vt 72)<=bs.length/\R (.pointer (some ⟨H.size,0,none⟩)) (H.push (.cells #[bsl B 0 bs.length bs.length,.int .u32 (tgt bs (pos+slotAt bs vt 72):Nat)] 305))):
  FnS prog 194 #[.pointer (some ⟨p,0,none⟩),.pointer none] H R:=by
 apply w194
 refine offS ht hv (vo:=72) rfl (fun h=>h0 h) (fun h=>?_)
 obtain ⟨g1,g2,hR⟩:=h1 h
 simp only[↓Qt,↓Qu,↓Ql ht.c1,↓QE]
 refine QbC ht (Tab.slot_add ht g1) g1 g2 ?_
 refine Q8 (fun vs h=>vs=[.pointer (some ⟨H.size,0,none⟩)]/\h=H.push (.cells z305 305)) ?_ ?_
 ·rw[Ys (by kernel_rfl)]
  exact ⟨rfl,rfl⟩
 ·rintro x h ⟨hx,rfl⟩
  cases hx
  have ht2:=Tab.push ht (.cells z305 305)
  simp only[↓Qt,↓Qu,↓Ql ht2.c0]
  refine QdC Qg (by simp[z305]) rfl rfl ?_
  rw[YJ]
  exact hR
theorem Qp:Qid 195 8 76 0 vU64:=scS (le:=le8) w195 YI rfl rfl rfl
theorem Qq:Qid 196 8 82 0 vU64:=scS (le:=le8) w196 YI rfl rfl rfl
theorem Qn:Qid 197 8 86 0 vU64:=scS (le:=le8) w197 YI rfl rfl rfl
theorem Qv:Qid 198 1 100 255 vI8:=scS (le:=byteN) w198 QfV rfl rfl rfl
theorem Qcd {H:Qe} {p B:Nat} {bs:List UInt8} {pos:Nat} (ht:Tab H p B bs pos) {R:Kn} {vt:Nat} (hv:VT bs pos vt) (h0:slotAt bs vt 4=0->R (.pointer none) H)
  (h1:slotAt bs vt 4≠0->pos+slotAt bs vt 4<=bs.length/\R (.pointer (some ⟨H.size,0,none⟩)) (H.push (.cells #[bsl B 0 bs.length bs.length,.int .u32 (pos+slotAt bs vt 4:Nat)] 307))):
  FnS prog 199 #[.pointer (some ⟨p,0,none⟩),.pointer none] H R:=by
 apply w199
 refine offS ht hv (vo:=4) rfl (fun h=>h0 h) (fun h=>?_)
 obtain ⟨g1,hR⟩:=h1 h
 simp only[↓Qt,↓Qu,↓Ql ht.c1,↓QE]
 rw[Tab.slot_add ht (k:=0) (by omega)]
 refine Q8 (fun vs h=>vs=[.pointer (some ⟨H.size,0,none⟩)]/\h=H.push (.cells z307 307)) ?_ ?_
 ·rw[Ys (by kernel_rfl)]
  exact ⟨rfl,rfl⟩
 ·rintro x h ⟨hx,rfl⟩
  cases hx
  have ht2:=Tab.push ht (.cells z307 307)
  simp only[↓Qt,↓Qu,↓Ql ht2.c0]
  refine Qij Qg (by simp[z307]) rfl rfl ?_
  rw[YJ]
  exact hR
theorem Qex {H:Qe} {p B:Nat} {bs:List UInt8} {pos:Nat} (ht:Tab H p B bs pos) {R:Kn} (hl:pos+26<=bs.length) (hR:R (.pointer (some ⟨H.size,0,none⟩)) (H.push (.cells #[bsl B 0 bs.length bs.length,.int .u32 (pos+26:Nat)] 234))):
  FnS prog 200 #[.pointer (some ⟨p,0,none⟩),.pointer none] H R:=by
 apply w200
 unfold s200
 refine Q8 (fun vs h=>vs=[.pointer (some ⟨H.size,0,none⟩)]/\h=H.push (.cells z234 234)) ?_ ?_
 ·rw[Ys (by kernel_rfl)]
  exact ⟨rfl,rfl⟩
 ·rintro x h ⟨hx,rfl⟩
  cases hx
  have ht2:=Tab.push ht (.cells z234 234)
  have ea:=Tab.add ht (o:=26) (k:=0) (by omega)
  simp only[↓Qt,↓Qu,↓Ql ht2.c0,↓Ql ht2.c1,↓QE]
  rw[show ((pos:Int)+(26:Int))=(pos:Int)+((26:Nat):Int) from rfl,ea]
  refine Qda Qg (by simp[z234]) rfl rfl ?_
  rw[YJ]
  exact hR
def StS (off:Int) (g:Nat) (x0:Value) (h:Qe) (R:Kn):Prop:=
 Q5 x0 fun x4=>
 Qh x4 0 fun x5=>
 Qh x5 0 fun x6=>
 Q5 x0 fun x8=>
 Qh x8 0 fun x9=>
 Qh x9 0 fun x10=>
 Qh x10 1 fun x11=>
 LdK h x11 fun x12=>
 Qr prog .add 65 x12 (.int .u32 off) fun x13=>
 Qb prog g #[x6,x13] h fun x14 h1=>
 R x14 h1
theorem stS {f g off k:Nat} {v:Nat->Value} {le:List UInt8->Nat->Nat} (hw:∀{x0 h R},StS off g x0 h R->FnS prog f #[x0] h R) (hg:GetOk g k v le):StOk f off k v le:=by
 intro H p B bs pos ht R hl hR
 apply hw
 unfold StS
 have ea:=Tab.add ht (o:=off) (k:=k) hl
 simp only[↓Qt,↓Qu,↓Ql ht.c1,↓QE]
 exact hg ht (o:=pos+off) ea hl hR
theorem Qhi:StOk 201 0 4 vF32 le4:=stS w201 Z5
theorem Qhe:StOk 202 4 4 vF32 le4:=stS w202 Z5
theorem Qhg:StOk 203 8 4 vF32 le4:=stS w203 Z5
theorem Qey:StOk 204 16 8 vF64 le8:=stS w204 Qe4
theorem Qer:StOk 205 24 1 vU8 byteN:=stS w205 YL
theorem Qdm:StOk 206 0 2 vI16 le2:=stS w206 Qdc
theorem Qdl:StOk 207 2 1 vI8 byteN:=stS w207 QfV
def LenS (vo:Int) (x0:Value) (h:Qe) (R:Kn):Prop:=OffS vo x0 h (fun x8 h1=>
 Q5 x0 fun x12=>
 Qh x12 0 fun x13=>
 Qb prog 328 #[x13,x8] h1 fun x15 h2=>
 R x15 h2) (fun h1=>(R (.int .i64 0) h1))
theorem lenS {f vo:Nat} (hw:∀{x0 h R},LenS vo x0 h R->FnS prog f #[x0] h R) (he:vo%2=0):QfH f vo:=by
 intro H p B bs pos ht R vt k n at_ hv hs hR
 apply hw
 refine offS ht hv he (fun h=>?_) (fun h=>?_)
 all_goals rcases hs with ⟨h0,rfl⟩|⟨h0,h1,rfl,h3,h4,h5⟩
 ·exact hR
 ·exact absurd h h0
 ·exact absurd h0 h
 ·try simp only[↓Qt,↓Qu]
  refine QhK ht rfl (by omega) (by omega) ?_
  rw[h3];exact hR
theorem Qd4:QfH 208 14:=lenS w208 rfl
def ItS (vo k:Int) (g:Nat) (dv:Value) (x0 x1:Value) (h:Qe) (R:Kn):Prop:=OffS vo x0 h (fun x11 h1=>
 Q5 x0 fun x15=>
 Qh x15 0 fun x16=>
 Qb prog 329 #[x16,x11] h1 fun x18 h2=>
 Q5 x0 fun x20=>
 Qh x20 0 fun x21=>
 Qr prog .mul 3 x1 (.int .i64 k) fun x24=>
 Yl .u32 x24 fun x25=>
 Qr prog .add 65 x18 x25 fun x26=>
 Qb prog g #[x21,x26] h2 fun x27 h3=>
 R x27 h3) (fun h1=>(R dv h1))
theorem itS {f g vo k:Nat} {dv:Value} {v:Nat->Value} {le:List UInt8->Nat->Nat} (hw:∀{x0 x1 h R},ItS vo k g dv x0 x1 h R->FnS prog f #[x0,x1] h R) (hg:GetOk g k v le) (he:vo%2=0):ItOk f k vo v le:=by
 intro H p B bs pos ht R vt n at_ i hv hs hi hR
 apply hw
 rcases hs with ⟨h0,rfl⟩|⟨h0,h1,rfl,h3,h4,h5⟩
 ·omega
 refine offS ht hv he (fun h=>absurd h h0) (fun h=>?_)
 try simp only[↓Qt,↓Qu]
 refine Qcy ht rfl (by omega) (by omega) ?_
 simp only[↓Qt,↓Qu,↓QbE,↓QE,↓QP]
 have h6:tgt bs (pos+slotAt bs vt vo)+4+k*i+k<=bs.length:=by
  have:k*i+k<=k*n:=Nat.le_trans (Nat.le_of_eq (Nat.mul_succ k i).symm) (Nat.mul_le_mul_left k hi)
  omega
 exact hg ht (Tab.item ht h6) h6 hR
theorem QeP:ItOk 209 1 14 vU8 byteN:=itS w209 YL rfl
theorem Qbj:QfH 210 22:=lenS w210 rfl
def SubS (vo w:Int) (g:Nat) (x0 x1 x2:Value) (h:Qe) (R:Kn):Prop:=OffS vo x0 h (fun x13 h1=>
 Q5 x0 fun x17=>
 Qh x17 0 fun x18=>
 Qb prog 329 #[x18,x13] h1 fun x20 h2=>
 Yl .u32 x2 fun x23=>
 Qr prog .mul 65 x23 (.int .u32 w) fun x24=>
 Qr prog .add 65 x20 x24 fun x25=>
 Q5 x0 fun x28=>
 Qh x28 0 fun x29=>
 Qh x29 0 fun x30=>
 LdK h2 x30 fun x31=>
 Qb prog g #[x1,x31,x25] h2 fun _x33 h3=>
 R (.bool true) h3) (fun h1=>(R (.bool false) h1))
theorem subS {f g vo w:Nat} (hw:∀{x0 x1 x2 h R},SubS vo w g x0 x1 x2 h R->FnS prog f #[x0,x1,x2] h R) (hg:Qg0 g) (he:vo%2=0) (hw0:0<w):SubOk f w vo:=by
 intro H p B bs pos ht R vt n at_ i q c e hv hs hi hq hc hR
 apply hw
 rcases hs with ⟨h0,rfl⟩|⟨h0,h1,rfl,h3,h4,h5⟩
 ·omega
 refine offS ht hv he (fun h=>absurd h h0) (fun h=>?_)
 try simp only[↓Qt,↓Qu]
 refine Qcy ht rfl (by omega) (by omega) ?_
 have h6:tgt bs (pos+slotAt bs vt vo)+4+w*i+w<=bs.length:=by
  have:w*i+w<=w*n:=Nat.le_trans (Nat.le_of_eq (Nat.mul_succ w i).symm) (Nat.mul_le_mul_left w hi)
  omega
 have:=ht.lt
 have hi2:i<2147483648:=by
  have:1*i<=w*i:=Nat.mul_le_mul_right i hw0
  omega
 have ea:=Tab.item' ht (a:=tgt bs (pos+slotAt bs vt vo)+4) (k:=w) hi2 h6
 simp only[↓QP,↓QbE,↓QE]
 rw[ea]
 try simp only[↓Qt,↓Qu,↓Ql ht.c0]
 exact hg hq hc rfl rfl hR
theorem Qdr:SubOk 211 4 22:=subS w211 Qda rfl (by decide)
theorem Z9:QfH 212 24:=lenS w212 rfl
def TItS (vo:Int) (x0 x1:Value) (h:Qe) (R:Kn):Prop:=OffS vo x0 h (fun x11 h1=>
 Q5 x0 fun x15=>
 Qh x15 0 fun x16=>
 Qb prog 329 #[x16,x11] h1 fun x18 h2=>
 Q5 x0 fun x20=>
 Qh x20 0 fun x21=>
 Qr prog .mul 3 x1 (.int .i64 4) fun x24=>
 Yl .u32 x24 fun x25=>
 Qr prog .add 65 x18 x25 fun x26=>
 Qb prog 314 #[x21,x26] h2 fun x27 h3=>
 R x27 h3) (fun h1=>(R (.slice none 0 0) h1))
theorem titS {f vo:Nat} (hw:∀{x0 x1 h R},TItS vo x0 x1 h R->FnS prog f #[x0,x1] h R) (he:vo%2=0):TItOk f vo:=by
 intro H p B bs pos ht R vt n at_ i m hv hs hi hm hR
 apply hw
 rcases hs with ⟨h0,rfl⟩|⟨h0,h1,rfl,h3,h4,h5⟩
 ·omega
 refine offS ht hv he (fun h=>absurd h h0) (fun h=>?_)
 try simp only[↓Qt,↓Qu]
 refine Qcy ht rfl (by omega) (by omega) ?_
 simp only[↓Qt,↓Qu,↓QbE,↓QE,↓QP]
 obtain ⟨g1,g2,g3⟩:=hm
 exact Qed ht (Tab.item ht g1) g1 g2 (Nat.le_of_lt g3) (Nat.lt_of_le_of_lt (Nat.le_add_right _ _) g3) hR
theorem Qag:TItOk 213 24:=titS w213 rfl
theorem Z7:QfH 214 26:=lenS w214 rfl
def SubtS (vo:Int) (g:Nat) (x0 x1 x2:Value) (h:Qe) (R:Kn):Prop:=OffS vo x0 h (fun x13 h1=>
 Q5 x0 fun x17=>
 Qh x17 0 fun x18=>
 Qb prog 329 #[x18,x13] h1 fun x20 h2=>
 Yl .u32 x2 fun x23=>
 Qr prog .mul 65 x23 (.int .u32 4) fun x24=>
 Qr prog .add 65 x20 x24 fun x25=>
 Q5 x0 fun x27=>
 Qh x27 0 fun x28=>
 Qb prog 322 #[x28,x25] h2 fun x30 h3=>
 Q5 x0 fun x33=>
 Qh x33 0 fun x34=>
 Qh x34 0 fun x35=>
 LdK h3 x35 fun x36=>
 Qb prog g #[x1,x36,x30] h3 fun _x38 h4=>
 R (.bool true) h4) (fun h1=>(R (.bool false) h1))
theorem subtS {f g vo:Nat} (hw:∀{x0 x1 x2 h R},SubtS vo g x0 x1 x2 h R->FnS prog f #[x0,x1,x2] h R) (hg:Qg0 g) (he:vo%2=0):SubtOk f vo:=by
 intro H p B bs pos ht R vt n at_ i q c e hv hs hi hm hm2 hq hc hR
 apply hw
 rcases hs with ⟨h0,rfl⟩|⟨h0,h1,rfl,h3,h4,h5⟩
 ·omega
 refine offS ht hv he (fun h=>absurd h h0) (fun h=>?_)
 try simp only[↓Qt,↓Qu]
 refine Qcy ht rfl (by omega) (by omega) ?_
 have h6:tgt bs (pos+slotAt bs vt vo)+4+4*i+4<=bs.length:=by omega
 have:=ht.lt
 have ea:=Tab.item' ht (a:=tgt bs (pos+slotAt bs vt vo)+4) (k:=4) (by omega) h6
 simp only[↓QP,↓QbE,↓QE]
 rw[show ((4:Int))=((4:Nat):Int) from rfl,ea]
 try simp only[↓Qt,↓Qu,↓Ql ht.c0]
 refine QbC ht rfl hm hm2 ?_
 try simp only[↓Qt,↓Qu,↓Ql ht.c0]
 exact hg hq hc rfl rfl hR
theorem Qad:SubtOk 215 26:=subtS w215 ZG rfl
theorem Qbt {H:Qe} {p B:Nat} {bs:List UInt8} {pos:Nat} (ht:Tab H p B bs pos) {R:Kn} {vt:Nat} (hv:VT bs pos vt) (h0:slotAt bs vt 28=0->R (.pointer none) H)
  (h1:slotAt bs vt 28≠0->pos+slotAt bs vt 28+4<=bs.length/\tgt bs (pos+slotAt bs vt 28)<=bs.length/\R (.pointer (some ⟨H.size,0,none⟩)) (H.push (.cells #[bsl B 0 bs.length bs.length,.int .u32 (tgt bs (pos+slotAt bs vt 28):Nat)] 210))):
  FnS prog 216 #[.pointer (some ⟨p,0,none⟩),.pointer none] H R:=by
 apply w216
 refine offS ht hv (vo:=28) rfl (fun h=>h0 h) (fun h=>?_)
 obtain ⟨g1,g2,hR⟩:=h1 h
 simp only[↓Qt,↓Qu,↓Ql ht.c1,↓QE]
 refine QbC ht (Tab.slot_add ht g1) g1 g2 ?_
 refine Q8 (fun vs h=>vs=[.pointer (some ⟨H.size,0,none⟩)]/\h=H.push (.cells z210 210)) ?_ ?_
 ·rw[Ys (by kernel_rfl)]
  exact ⟨rfl,rfl⟩
 ·rintro x h ⟨hx,rfl⟩
  cases hx
  have ht2:=Tab.push ht (.cells z210 210)
  simp only[↓Qt,↓Qu,↓Ql ht2.c0]
  refine ZG Qg (by simp[z210]) rfl rfl ?_
  rw[YJ]
  exact hR
theorem QaQ:QfH 217 30:=lenS w217 rfl
theorem QbX:ItOk 218 1 30 vU8 byteN:=itS w218 YL rfl
theorem Qaj {H:Qe} {p B:Nat} {bs:List UInt8} {pos:Nat} (ht:Tab H p B bs pos) {R:Kn} {vt:Nat} (hv:VT bs pos vt) (h0:slotAt bs vt 32=0->R (.pointer none) H)
  (h1:slotAt bs vt 32≠0->pos+slotAt bs vt 32+4<=bs.length/\tgt bs (pos+slotAt bs vt 32)<=bs.length/\R (.pointer (some ⟨H.size,0,none⟩)) (H.push (.cells #[bsl B 0 bs.length bs.length,.int .u32 (tgt bs (pos+slotAt bs vt 32):Nat)] 310))):
  FnS prog 219 #[.pointer (some ⟨p,0,none⟩),.pointer none] H R:=by
 apply w219
 refine offS ht hv (vo:=32) rfl (fun h=>h0 h) (fun h=>?_)
 obtain ⟨g1,g2,hR⟩:=h1 h
 simp only[↓Qt,↓Qu,↓Ql ht.c1,↓QE]
 refine QbC ht (Tab.slot_add ht g1) g1 g2 ?_
 refine Q8 (fun vs h=>vs=[.pointer (some ⟨H.size,0,none⟩)]/\h=H.push (.cells z310 310)) ?_ ?_
 ·rw[Ys (by kernel_rfl)]
  exact ⟨rfl,rfl⟩
 ·rintro x h ⟨hx,rfl⟩
  cases hx
  have ht2:=Tab.push ht (.cells z310 310)
  simp only[↓Qt,↓Qu,↓Ql ht2.c0]
  refine Qih Qg (by simp[z310]) rfl rfl ?_
  rw[YJ]
  exact hR
theorem Qgw:BytOk 220 4:=bytS w220 rfl
theorem QfX:Qid 221 8 6 0 vI64:=scS (le:=le8) w221 Qbz rfl rfl rfl
theorem Qet:Qid 222 2 8 0 vU16:=scS (le:=le2) w222 Qi5 rfl rfl rfl
theorem ZD:QfH 223 52:=lenS w223 rfl
theorem Qal:ItOk 224 1 52 vB byteN:=itS w224 QfQ rfl
theorem Z6:QfH 225 60:=lenS w225 rfl
theorem Qa4:TItOk 226 60:=titS w226 rfl
theorem Zk:QfH 227 62:=lenS w227 rfl
theorem Z8:SubOk 228 8 62:=subS w228 QgZ rfl (by decide)
theorem QeA:StOk 229 0 4 vU32 le4:=stS w229 Qb5
theorem Qch:StOk 230 4 4 vU32 le4:=stS w230 Qb5
theorem Qel:QfH 231 64:=lenS w231 rfl
theorem Qh1:ItOk 232 1 64 vU8 byteN:=itS w232 YL rfl
theorem Qbm:QfH 233 66:=lenS w233 rfl
theorem Qdv:SubOk 234 4 66:=subS w234 Qda rfl (by decide)
theorem ZU:QfH 235 68:=lenS w235 rfl
theorem QaS:ItOk 236 8 68 vI64 le8:=itS w236 Qbz rfl
theorem ZJ:QfH 237 70:=lenS w237 rfl
theorem Qau:ItOk 238 8 70 vF64 le8:=itS w238 Qe4 rfl
theorem Zz:QfH 239 74:=lenS w239 rfl
theorem ZZ:SubtOk 240 74:=subtS w240 QcU rfl
theorem Qbn:Qid 241 8 4 0 vU64:=scS (le:=le8) w241 YI rfl rfl rfl
theorem Zn:QfH 242 78:=lenS w242 rfl
theorem ZE:ItOk 243 8 78 vU64 le8:=itS w243 YI rfl
theorem Zc:QfH 244 80:=lenS w244 rfl
theorem Z1:SubtOk 245 80:=subtS w245 QcU rfl
theorem YW:QfH 246 84:=lenS w246 rfl
theorem Zu:ItOk 247 8 84 vU64 le8:=itS w247 YI rfl
theorem YO:QfH 248 88:=lenS w248 rfl
theorem Zq:ItOk 249 8 88 vU64 le8:=itS w249 YI rfl
def UniS (vo:Int) (x0 x1:Value) (h:Qe) (R:Kn):Prop:=OffS vo x0 h (fun x10 h1=>
 Q5 x0 fun x14=>
 Qh x14 0 fun x15=>
 Qb prog 334 #[x15,x1,x10] h1 fun _x18 h2=>
 R (.bool true) h2) (fun h1=>(R (.bool false) h1))
theorem uniS {f vo:Nat} (hw:∀{x0 x1 h R},UniS vo x0 x1 h R->FnS prog f #[x0,x1] h R) (he:vo%2=0):UniOk f vo:=by
 intro H p B bs pos ht R vt q c e hv hq hc hpq h0 h1
 apply hw
 refine offS ht hv he (fun h=>h0 h) (fun h=>?_)
 obtain ⟨g1,g2,hR⟩:=h1 h
 try simp only[↓Qt,↓Qu]
 exact go_Table_Union ht rfl g1 g2 hq hc hpq hR
theorem QdH:UniOk 250 20:=uniS w250 rfl
theorem Qcg:Qid 252 1 18 0 vU8:=scS (le:=byteN) w252 YL rfl rfl rfl
theorem Qc3:UniOk 253 92:=uniS w253 rfl
theorem QaP:Qid 254 1 90 0 vU8:=scS (le:=byteN) w254 YL rfl rfl rfl
theorem Qam:Qid 255 1 94 0 vU8:=scS (le:=byteN) w255 YL rfl rfl rfl
theorem Qb7:UniOk 256 96:=uniS w256 rfl
theorem ZW:QfH 257 98:=lenS w257 rfl
theorem QaU:ItOk 258 1 98 vU8 byteN:=itS w258 YL rfl
theorem ZI:Qid 336 1 4 2 vU8:=scS (le:=byteN) w336 YL rfl rfl rfl
theorem QdA:BytOk 300 14:=bytS w300 rfl
theorem Qb4:BytOk 303 30:=bytS w303 rfl
theorem QeM:BytOk 306 64:=bytS w306 rfl
end Go.Proofs
namespace Go.Proofs
open Go Go.Vc
open Tryz (prog)
section
variable {H:Qe} {B o n c:Nat} {L:List UInt8} {e:TypeId} (hB:H[B]?=some (.cells (u8c L) e (0,0))) {R:Kn}
include hB
set_option maxHeartbeats 1000000 in
theorem Qhh {x:Int} (ho:o+2<=L.length) (hn:2<=n) (hR:R (.tuple #[]) (wr H B e (Qb9 L o (leB x 2)))):FnS prog 399 #[bsl B o n c,.int .u16 x] H R:=by
 rw[leB_2]at hR
 have hc:=ZB (QeD hB) (o:=o) (i:=1) (by omega)
 have i0:(0:Int)<n:=by omega
 have i1:(1:Int)<n:=by omega
 apply w399
 unfold tp393
 have e0:IntKind.u8.wrap x=((Zo x 0).toNat:Int):=byte_0 x
 have e1:IntKind.u8.wrap (x.fdiv (2^(min (Int.toNat 8) IntKind.u16.bits)))=((Zo x 1).toNat:Int):=Zy x 1
 simp only[↓QO (by decide:(0:Int)<=0) i0,↓QO (by decide:(0:Int)<=1) i1,show Int.toNat 0=0 from rfl,show Int.toNat 1=1 from rfl,Nat.mul_one,Nat.zero_mul,Nat.one_mul,↓Ql hc,↓QP,↓Zm (by decide:(0:Int)<=8),e0,e1]
 rw[<-QeC hB]
 rw[ZR hB (by simp;omega)]
 rw[ZR hB (by simp;omega)]
 exact hR
set_option maxHeartbeats 1000000 in
theorem go_WriteInt16 {x:Int} (ho:o+2<=L.length) (hn:2<=n) (hR:R (.tuple #[]) (wr H B e (Qb9 L o (leB x 2)))):FnS prog 393 #[bsl B o n c,.int .i16 x] H R:=by
 rw[leB_2]at hR
 have hc:=ZB (QeD hB) (o:=o) (i:=1) (by omega)
 have i0:(0:Int)<n:=by omega
 have i1:(1:Int)<n:=by omega
 apply w393
 unfold tp393
 have e0:IntKind.u8.wrap x=((Zo x 0).toNat:Int):=byte_0 x
 have e1:IntKind.u8.wrap (x.fdiv (2^(min (Int.toNat 8) IntKind.i16.bits)))=((Zo x 1).toNat:Int):=Zy x 1
 simp only[↓QO (by decide:(0:Int)<=0) i0,↓QO (by decide:(0:Int)<=1) i1,show Int.toNat 0=0 from rfl,show Int.toNat 1=1 from rfl,Nat.mul_one,Nat.zero_mul,Nat.one_mul,↓Ql hc,↓QP,↓Zm (by decide:(0:Int)<=8),e0,e1]
 rw[<-QeC hB]
 rw[ZR hB (by simp;omega)]
 rw[ZR hB (by simp;omega)]
 exact hR
set_option maxHeartbeats 1000000 in
theorem QeL {x:Int} (ho:o+4<=L.length) (hn:4<=n) (hR:R (.tuple #[]) (wr H B e (Qb9 L o (leB x 4)))):FnS prog 376 #[bsl B o n c,.int .u32 x] H R:=by
 rw[leB_4]at hR
 have hc:=ZB (QeD hB) (o:=o) (i:=3) (by omega)
 have i0:(0:Int)<n:=by omega
 have i1:(1:Int)<n:=by omega
 have i2:(2:Int)<n:=by omega
 have i3:(3:Int)<n:=by omega
 apply w376
 unfold tp376
 have e0:IntKind.u8.wrap x=((Zo x 0).toNat:Int):=byte_0 x
 have e1:IntKind.u8.wrap (x.fdiv (2^(min (Int.toNat 8) IntKind.u32.bits)))=((Zo x 1).toNat:Int):=Zy x 1
 have e2:IntKind.u8.wrap (x.fdiv (2^(min (Int.toNat 16) IntKind.u32.bits)))=((Zo x 2).toNat:Int):=Zy x 2
 have e3:IntKind.u8.wrap (x.fdiv (2^(min (Int.toNat 24) IntKind.u32.bits)))=((Zo x 3).toNat:Int):=Zy x 3
 simp only[↓QO (by decide:(0:Int)<=0) i0,↓QO (by decide:(0:Int)<=1) i1,↓QO (by decide:(0:Int)<=2) i2,↓QO (by decide:(0:Int)<=3) i3,show Int.toNat 0=0 from rfl,show Int.toNat 1=1 from rfl,show Int.toNat 2=2 from rfl,show Int.toNat 3=3 from rfl,Nat.mul_one,Nat.zero_mul,Nat.one_mul,↓Ql hc,↓QP,↓Zm (by decide:(0:Int)<=8),↓Zm (by decide:(0:Int)<=16),↓Zm (by decide:(0:Int)<=24),e0,e1,e2,e3]
 rw[<-QeC hB]
 rw[ZR hB (by simp;omega)]
 rw[ZR hB (by simp;omega)]
 rw[ZR hB (by simp;omega)]
 rw[ZR hB (by simp;omega)]
 exact hR
set_option maxHeartbeats 1000000 in
theorem QhN {x:Int} (ho:o+4<=L.length) (hn:4<=n) (hR:R (.tuple #[]) (wr H B e (Qb9 L o (leB x 4)))):FnS prog 396 #[bsl B o n c,.int .i32 x] H R:=by
 rw[leB_4]at hR
 have hc:=ZB (QeD hB) (o:=o) (i:=3) (by omega)
 have i0:(0:Int)<n:=by omega
 have i1:(1:Int)<n:=by omega
 have i2:(2:Int)<n:=by omega
 have i3:(3:Int)<n:=by omega
 apply w396
 unfold tp376
 have e0:IntKind.u8.wrap x=((Zo x 0).toNat:Int):=byte_0 x
 have e1:IntKind.u8.wrap (x.fdiv (2^(min (Int.toNat 8) IntKind.i32.bits)))=((Zo x 1).toNat:Int):=Zy x 1
 have e2:IntKind.u8.wrap (x.fdiv (2^(min (Int.toNat 16) IntKind.i32.bits)))=((Zo x 2).toNat:Int):=Zy x 2
 have e3:IntKind.u8.wrap (x.fdiv (2^(min (Int.toNat 24) IntKind.i32.bits)))=((Zo x 3).toNat:Int):=Zy x 3
 simp only[↓QO (by decide:(0:Int)<=0) i0,↓QO (by decide:(0:Int)<=1) i1,↓QO (by decide:(0:Int)<=2) i2,↓QO (by decide:(0:Int)<=3) i3,show Int.toNat 0=0 from rfl,show Int.toNat 1=1 from rfl,show Int.toNat 2=2 from rfl,show Int.toNat 3=3 from rfl,Nat.mul_one,Nat.zero_mul,Nat.one_mul,↓Ql hc,↓QP,↓Zm (by decide:(0:Int)<=8),↓Zm (by decide:(0:Int)<=16),↓Zm (by decide:(0:Int)<=24),e0,e1,e2,e3]
 rw[<-QeC hB]
 rw[ZR hB (by simp;omega)]
 rw[ZR hB (by simp;omega)]
 rw[ZR hB (by simp;omega)]
 rw[ZR hB (by simp;omega)]
 exact hR
set_option maxHeartbeats 1000000 in
theorem Qhf {x:Int} (ho:o+8<=L.length) (hn:8<=n) (hR:R (.tuple #[]) (wr H B e (Qb9 L o (leB x 8)))):FnS prog 351 #[bsl B o n c,.int .u64 x] H R:=by
 rw[leB_8]at hR
 have hc:=ZB (QeD hB) (o:=o) (i:=7) (by omega)
 have i0:(0:Int)<n:=by omega
 have i1:(1:Int)<n:=by omega
 have i2:(2:Int)<n:=by omega
 have i3:(3:Int)<n:=by omega
 have i4:(4:Int)<n:=by omega
 have i5:(5:Int)<n:=by omega
 have i6:(6:Int)<n:=by omega
 have i7:(7:Int)<n:=by omega
 apply w351
 unfold tp349
 have e0:IntKind.u8.wrap x=((Zo x 0).toNat:Int):=byte_0 x
 have e1:IntKind.u8.wrap (x.fdiv (2^(min (Int.toNat 8) IntKind.u64.bits)))=((Zo x 1).toNat:Int):=Zy x 1
 have e2:IntKind.u8.wrap (x.fdiv (2^(min (Int.toNat 16) IntKind.u64.bits)))=((Zo x 2).toNat:Int):=Zy x 2
 have e3:IntKind.u8.wrap (x.fdiv (2^(min (Int.toNat 24) IntKind.u64.bits)))=((Zo x 3).toNat:Int):=Zy x 3
 have e4:IntKind.u8.wrap (x.fdiv (2^(min (Int.toNat 32) IntKind.u64.bits)))=((Zo x 4).toNat:Int):=Zy x 4
 have e5:IntKind.u8.wrap (x.fdiv (2^(min (Int.toNat 40) IntKind.u64.bits)))=((Zo x 5).toNat:Int):=Zy x 5
 have e6:IntKind.u8.wrap (x.fdiv (2^(min (Int.toNat 48) IntKind.u64.bits)))=((Zo x 6).toNat:Int):=Zy x 6
 have e7:IntKind.u8.wrap (x.fdiv (2^(min (Int.toNat 56) IntKind.u64.bits)))=((Zo x 7).toNat:Int):=Zy x 7
 simp only[↓QO (by decide:(0:Int)<=0) i0,↓QO (by decide:(0:Int)<=1) i1,↓QO (by decide:(0:Int)<=2) i2,↓QO (by decide:(0:Int)<=3) i3,↓QO (by decide:(0:Int)<=4) i4,↓QO (by decide:(0:Int)<=5) i5,↓QO (by decide:(0:Int)<=6) i6,↓QO (by decide:(0:Int)<=7) i7,show Int.toNat 0=0 from rfl,show Int.toNat 1=1 from rfl,show Int.toNat 2=2 from rfl,show Int.toNat 3=3 from rfl,show Int.toNat 4=4 from rfl,show Int.toNat 5=5 from rfl,show Int.toNat 6=6 from rfl,show Int.toNat 7=7 from rfl,Nat.mul_one,Nat.zero_mul,Nat.one_mul,↓Ql hc,↓QP,↓Zm (by decide:(0:Int)<=8),↓Zm (by decide:(0:Int)<=16),↓Zm (by decide:(0:Int)<=24),↓Zm (by decide:(0:Int)<=32),↓Zm (by decide:(0:Int)<=40),↓Zm (by decide:(0:Int)<=48),↓Zm (by decide:(0:Int)<=56),e0,e1,e2,e3,e4,e5,e6,e7]
 rw[<-QeC hB]
 rw[ZR hB (by simp;omega)]
 rw[ZR hB (by simp;omega)]
 rw[ZR hB (by simp;omega)]
 rw[ZR hB (by simp;omega)]
 rw[ZR hB (by simp;omega)]
 rw[ZR hB (by simp;omega)]
 rw[ZR hB (by simp;omega)]
 rw[ZR hB (by simp;omega)]
 exact hR
set_option maxHeartbeats 1000000 in
theorem go_WriteInt64 {x:Int} (ho:o+8<=L.length) (hn:8<=n) (hR:R (.tuple #[]) (wr H B e (Qb9 L o (leB x 8)))):FnS prog 349 #[bsl B o n c,.int .i64 x] H R:=by
 rw[leB_8]at hR
 have hc:=ZB (QeD hB) (o:=o) (i:=7) (by omega)
 have i0:(0:Int)<n:=by omega
 have i1:(1:Int)<n:=by omega
 have i2:(2:Int)<n:=by omega
 have i3:(3:Int)<n:=by omega
 have i4:(4:Int)<n:=by omega
 have i5:(5:Int)<n:=by omega
 have i6:(6:Int)<n:=by omega
 have i7:(7:Int)<n:=by omega
 apply w349
 unfold tp349
 have e0:IntKind.u8.wrap x=((Zo x 0).toNat:Int):=byte_0 x
 have e1:IntKind.u8.wrap (x.fdiv (2^(min (Int.toNat 8) IntKind.i64.bits)))=((Zo x 1).toNat:Int):=Zy x 1
 have e2:IntKind.u8.wrap (x.fdiv (2^(min (Int.toNat 16) IntKind.i64.bits)))=((Zo x 2).toNat:Int):=Zy x 2
 have e3:IntKind.u8.wrap (x.fdiv (2^(min (Int.toNat 24) IntKind.i64.bits)))=((Zo x 3).toNat:Int):=Zy x 3
 have e4:IntKind.u8.wrap (x.fdiv (2^(min (Int.toNat 32) IntKind.i64.bits)))=((Zo x 4).toNat:Int):=Zy x 4
 have e5:IntKind.u8.wrap (x.fdiv (2^(min (Int.toNat 40) IntKind.i64.bits)))=((Zo x 5).toNat:Int):=Zy x 5
 have e6:IntKind.u8.wrap (x.fdiv (2^(min (Int.toNat 48) IntKind.i64.bits)))=((Zo x 6).toNat:Int):=Zy x 6
 have e7:IntKind.u8.wrap (x.fdiv (2^(min (Int.toNat 56) IntKind.i64.bits)))=((Zo x 7).toNat:Int):=Zy x 7
 simp only[↓QO (by decide:(0:Int)<=0) i0,↓QO (by decide:(0:Int)<=1) i1,↓QO (by decide:(0:Int)<=2) i2,↓QO (by decide:(0:Int)<=3) i3,↓QO (by decide:(0:Int)<=4) i4,↓QO (by decide:(0:Int)<=5) i5,↓QO (by decide:(0:Int)<=6) i6,↓QO (by decide:(0:Int)<=7) i7,show Int.toNat 0=0 from rfl,show Int.toNat 1=1 from rfl,show Int.toNat 2=2 from rfl,show Int.toNat 3=3 from rfl,show Int.toNat 4=4 from rfl,show Int.toNat 5=5 from rfl,show Int.toNat 6=6 from rfl,show Int.toNat 7=7 from rfl,Nat.mul_one,Nat.zero_mul,Nat.one_mul,↓Ql hc,↓QP,↓Zm (by decide:(0:Int)<=8),↓Zm (by decide:(0:Int)<=16),↓Zm (by decide:(0:Int)<=24),↓Zm (by decide:(0:Int)<=32),↓Zm (by decide:(0:Int)<=40),↓Zm (by decide:(0:Int)<=48),↓Zm (by decide:(0:Int)<=56),e0,e1,e2,e3,e4,e5,e6,e7]
 rw[<-QeC hB]
 rw[ZR hB (by simp;omega)]
 rw[ZR hB (by simp;omega)]
 rw[ZR hB (by simp;omega)]
 rw[ZR hB (by simp;omega)]
 rw[ZR hB (by simp;omega)]
 rw[ZR hB (by simp;omega)]
 rw[ZR hB (by simp;omega)]
 rw[ZR hB (by simp;omega)]
 exact hR
set_option maxHeartbeats 1000000 in
theorem go_WriteInt8 {x:Int} (ho:o+1<=L.length) (hn:1<=n) (hR:R (.tuple #[]) (wr H B e (Qb9 L o (leB x 1)))):FnS prog 392 #[bsl B o n c,.int .i8 x] H R:=by
 rw[leB_1]at hR
 have hc:=ZB (QeD hB) (o:=o) (i:=0) (by omega)
 have i0:(0:Int)<n:=by omega
 apply w392
 unfold s392
 have e0:IntKind.u8.wrap x=((Zo x 0).toNat:Int):=byte_0 x
 simp only[↓QO (by decide:(0:Int)<=0) i0,show Int.toNat 0=0 from rfl,Nat.mul_one,Nat.zero_mul,Nat.one_mul,↓QP,e0]
 rw[<-QeC hB]
 rw[ZR hB (by simp;omega)]
 exact hR
theorem go_WriteUint8 {b:UInt8} (ho:o+1<=L.length) (hn:1<=n) (hR:R (.tuple #[]) (wr H B e (Qb9 L o [b]))):FnS prog 377 #[bsl B o n c,.int .u8 (b.toNat:Int)] H R:=by
 have i0:(0:Int)<n:=by omega
 apply w377
 unfold s377
 simp only[↓QO (by decide:(0:Int)<=0) i0,show Int.toNat 0=0 from rfl,Nat.zero_mul]
 rw[<-QeC hB,ZR hB (by omega)]
 exact hR
theorem go_WriteByte {b:UInt8} (ho:o+1<=L.length) (hn:1<=n) (hR:R (.tuple #[]) (wr H B e (Qb9 L o [b]))):FnS prog 338 #[bsl B o n c,.int .u8 (b.toNat:Int)] H R:=by
 apply w338
 unfold tp337
 exact go_WriteUint8 hB ho hn hR
theorem go_WriteBool {b:Bool} (ho:o+1<=L.length) (hn:1<=n) (hR:R (.tuple #[]) (wr H B e (Qb9 L o [if b then 1 else 0]))):FnS prog 347 #[bsl B o n c,.bool b] H R:=by
 have i0:(0:Int)<n:=by omega
 apply w347
 unfold s347
 simp only[↓QO (by decide:(0:Int)<=0) i0,show Int.toNat 0=0 from rfl,Nat.zero_mul]
 have s0:(Value.int .u8 0)= .int .u8 ((0:UInt8).toNat:Int):=rfl
 have s1:(Value.int .u8 1)= .int .u8 ((1:UInt8).toNat:Int):=rfl
 rw[<-QeC hB,s0,ZR hB (by omega)]
 cases b
 ·exact hR
 ·rw[QcN,s1,ZR hB (by simp only[List.length_set];omega),Nat.add_zero,List.set_set]
  exact hR
theorem Qjd {x:Int} (ho:o+4<=L.length) (hn:4<=n) (hR:R (.tuple #[]) (wr H B e (Qb9 L o (leB x 4)))):FnS prog 337 #[bsl B o n c,.int .u32 x] H R:=by
 apply w337
 unfold tp337
 exact QeL hB ho hn hR
theorem QdF {x:Int} (ho:o+4<=L.length) (hn:4<=n) (hR:R (.tuple #[]) (wr H B e (Qb9 L o (leB x 4)))):FnS prog 388 #[bsl B o n c,.int .i32 x] H R:=by
 apply w388
 unfold tp337
 exact QhN hB ho hn hR
theorem Qjg {x:Int} (ho:o+2<=L.length) (hn:2<=n) (hR:R (.tuple #[]) (wr H B e (Qb9 L o (leB x 2)))):FnS prog 400 #[bsl B o n c,.int .u16 x] H R:=by
 apply w400
 unfold tp337
 exact Qhh hB ho hn hR
omit hB in
theorem Qk {w:World} {n:Nat}:(callFunc 170 #[.float .f32 n]).run prog w= .ok (.value (.int .u32 n)) w:=by
 simp only[callFunc,Sem.run_bind,run_program,Result.andThen_ok,Tryz.func170]
 rfl
omit hB in
theorem Qbk {w:World} {n:Nat}:(callFunc 172 #[.float .f64 n]).run prog w= .ok (.value (.int .u64 n)) w:=by
 simp only[callFunc,Sem.run_bind,run_program,Result.andThen_ok,Tryz.func172]
 rfl
theorem go_WriteFloat32 {x:Nat} (ho:o+4<=L.length) (hn:4<=n) (hR:R (.tuple #[]) (wr H B e (Qb9 L o (leB x 4)))):FnS prog 395 #[bsl B o n c,.float .f32 x] H R:=by
 apply w395
 unfold s395
 refine QH (fun w=>Qk) ?_
 exact QeL hB ho hn hR
theorem go_WriteFloat64 {x:Nat} (ho:o+8<=L.length) (hn:8<=n) (hR:R (.tuple #[]) (wr H B e (Qb9 L o (leB x 8)))):FnS prog 350 #[bsl B o n c,.float .f64 x] H R:=by
 apply w350
 unfold s350
 refine QH (fun w=>Qbk) ?_
 exact Qhf hB ho hn hR
end
end Go.Proofs
