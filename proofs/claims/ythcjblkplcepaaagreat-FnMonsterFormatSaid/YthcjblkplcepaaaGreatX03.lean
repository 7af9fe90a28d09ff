/- WHAT IS PROVED: the given statement of FnMonsterFormat, whatever the input: this is part 3 of 14. No conditions. -/
import Derived.Test.YthcjblkplcepaaaGreatX02
import Derived.Test.YthcjblkplcepaaaGreatProg
set_option linter.all false
namespace Go.Proofs
open Go Go.Vc
open Tryz (prog)
set_option maxRecDepth 100000
def callableQ (P:Program) (f:Nat):Bool:=
 match P.funcs[f]? with
 |some fn=>(match fn.body with|some _=>true|none=>false)&&!(fn.name== "runtime.NumGoroutine")
 |none=>false
theorem calOk_of {P:Program} {cal:Nat->Bool} {n:Nat} (h:(List.range n).all (fun f=>!cal f||callableQ P f)=true) (hn:∀f,cal f=true->f<n):CalOk P cal:=by
 intro f hf args w
 have h1:=List.all_eq_true.1 h f (List.mem_range.2 (hn f hf))
 rw[hf]at h1
 simp only[Bool.not_true,Bool.false_or]at h1
 unfold callableQ at h1
 split at h1
 ·rename_i fn hfn
  simp only[Bool.and_eq_true,Bool.not_eq_true',beq_eq_false_iff_ne,ne_eq]at h1
  obtain ⟨hb,hne⟩:=h1
  split at hb
  ·rename_i c hc
   simp[callFunc,hfn,hc,hne]
  ·cases hb
 ·cases h1
def cal (f:Nat):Bool:=Nat.ble 2 f&&(Nat.blt f 370&&!memN f [67,71,175,189])
theorem hcal:CalOk prog cal:=calOk_of (n:=394) (by kernel_rfl) (by
 intro f hf
 simp only[cal,Bool.and_eq_true]at hf
 have:=Nat.le_of_ble_eq_true hf.2.1
 omega)
theorem wq {f:Nat} {fn:Func} (hf:prog.funcs[f]?=some fn) {args:List Value} {h:Qe} {R:Kn} {S:Prop} (e:vcF prog cal fn args h R=S) (H:S):FnS prog f args.toArray h R:=fn_of_vc hcal hf (e.mpr H)
def z2:Array Value:=#[(.int .i64 0)]
def z3:Array Value:=#[(.int .i64 0)]
def z4:Array Value:=#[(.bool false)]
def z5:Array Value:=#[(.int .u8 0)]
def z9:Array Value:=#[(.string ⟨#[]⟩)]
def z24:Array Value:=#[(.slice none 0 0)]
def z31:Array Value:=#[(.int .u64 0)]
def z38:Array Value:=#[(.slice none 0 0),(.int .i16 0),(.int .i16 0),(.string ⟨#[]⟩),(.string ⟨#[]⟩),(.int .u8 0),(.int .u8 0),(.slice none 0 0),(.int .u8 0),(.slice none 0 0),(.slice none 0 0),(.slice none 0 0),(.slice none 0 0),(.string ⟨#[]⟩),(.slice none 0 0),(.bool false),(.int .i32 0),(.int .u32 0),(.int .i64 0),(.int .u64 0),(.int .i32 0),(.int .u32 0),(.int .i64 0),(.int .u64 0),(.slice none 0 0),(.int .u32 0),(.int .u32 0),(.int .u32 0),(.slice none 0 0),(.slice none 0 0),(.string ⟨#[]⟩),(.slice none 0 0),(.slice none 0 0),(.slice none 0 0),(.bool false),(.slice none 0 0),(.int .u64 0),(.slice none 0 0),(.slice none 0 0),(.int .u64 0),(.slice none 0 0),(.int .u64 0),(.slice none 0 0),(.int .u8 0),(.slice none 0 0),(.int .u8 0),(.int .u8 0),(.slice none 0 0),(.int .u8 0),(.string ⟨#[]⟩),(.int .i8 0)]
def z47:Array Value:=#[(.int .u8 0),(.slice none 0 0),(.int .u8 0)]
def z52:Array Value:=#[(.slice none 0 0),(.int .i16 0),(.int .i16 0),(.string ⟨#[]⟩),(.string ⟨#[]⟩),(.int .u8 0),(.int .u8 0),(.slice none 0 0),(.int .u8 0),(.slice none 0 0),(.slice none 0 0),(.slice none 0 0),(.slice none 0 0),(.string ⟨#[]⟩),(.slice none 0 0),(.bool false),(.int .i32 0),(.int .u32 0),(.int .i64 0),(.int .u64 0),(.int .i32 0),(.int .u32 0),(.int .i64 0),(.int .u64 0),(.slice none 0 0),(.int .u32 0),(.int .u32 0),(.int .u32 0),(.slice none 0 0),(.slice none 0 0),(.string ⟨#[]⟩),(.slice none 0 0),(.slice none 0 0),(.slice none 0 0),(.bool false),(.slice none 0 0),(.int .u64 0),(.slice none 0 0),(.slice none 0 0),(.int .u64 0),(.slice none 0 0),(.int .u64 0),(.slice none 0 0),(.int .u8 0),(.slice none 0 0),(.int .u8 0),(.int .u8 0),(.slice none 0 0),(.int .u8 0),(.string ⟨#[]⟩),(.int .i8 0)]
def z57:Array Value:=#[(.int .u8 0),(.int .u8 0),(.int .u64 0),(.string ⟨#[]⟩),(.slice none 0 0),(.slice none 0 0),(.slice none 0 0)]
def z74:Array Value:=#[(.int .u32 0)]
def z75:Array Value:=#[(.pointer none)]
def z84:Array Value:=#[(.int .u32 0),(.int .u32 0),(.int .u32 0),(.int .u64 0),(.int .u8 0),(.int .i16 0),(.int .i8 0)]
def z85:Array Value:=#[(.int .u32 0),(.int .u32 0),(.int .u32 0),(.int .u64 0),(.int .u8 0),(.int .i16 0),(.int .i8 0)]
def z89:Array Value:=#[(.int .i16 0),(.int .i8 0)]
def z90:Array Value:=#[(.int .i16 0),(.int .i8 0)]
def z95:Array Value:=#[(.string ⟨#[]⟩),(.int .i64 0),(.int .u16 0)]
def z96:Array Value:=#[(.string ⟨#[]⟩),(.int .i64 0),(.int .u16 0)]
def z101:Array Value:=#[(.int .u32 0),(.int .u32 0)]
def z102:Array Value:=#[(.int .u32 0),(.int .u32 0)]
def z107:Array Value:=#[(.bool false),(.int .u8 0),(.int .u8 0),(.int .u64 0),(.string ⟨#[]⟩),(.slice none 0 0),(.slice none 0 0),(.slice none 0 0),(.int .u64 0)]
def z117:Array Value:=#[(.string ⟨#[]⟩),(.bool false)]
def z134:Array Value:=#[(.slice none 0 0),(.int .i64 0),(.slice none 0 0),(.int .u32 0),(.slice none 0 0),(.int .u32 0),(.bool false),(.bool false),(.map none)]
def z136:Array Value:=#[(.int .u8 0)]
def z155:Array Value:=#[(.pointer none),(.int .i16 0),(.int .i16 0),(.string ⟨#[]⟩),(.slice none 0 0),(.int .u8 0),(.pointer none),(.slice none 0 0),(.slice none 0 0),(.slice none 0 0),(.pointer none),(.slice none 0 0),(.pointer none),(.bool false),(.int .i32 0),(.int .u32 0),(.int .i64 0),(.int .u64 0),(.int .i32 0),(.int .u32 0),(.int .i64 0),(.int .u64 0),(.slice none 0 0),(.float .f32 0),(.float .f32 0),(.float .f32 0),(.slice none 0 0),(.slice none 0 0),(.slice none 0 0),(.slice none 0 0),(.slice none 0 0),(.slice none 0 0),(.pointer none),(.slice none 0 0),(.int .u64 0),(.slice none 0 0),(.slice none 0 0),(.int .u64 0),(.slice none 0 0),(.int .u64 0),(.slice none 0 0),(.pointer none),(.pointer none),(.slice none 0 0),(.int .i8 0)]
def z156:Array Value:=#[(.float .f64 0)]
def z158:Array Value:=#[(.pointer none)]
def z159:Array Value:=#[(.int .i16 0),(.int .i8 0)]
def z161:Array Value:=#[(.float .f32 0),(.float .f32 0),(.float .f32 0),(.float .f64 0),(.int .u8 0),(.pointer none)]
def z162:Array Value:=#[(.string ⟨#[]⟩),(.int .i64 0),(.int .u16 0)]
def z163:Array Value:=#[(.pointer none)]
def z164:Array Value:=#[(.int .u32 0),(.int .u32 0)]
def z166:Array Value:=#[]
def z170:Array Value:=#[(.int .u8 0),.nilIface]
def z173:Array Value:=#[(.int .u8 0),.nilIface]
def z177:Array Value:=#[(.int .u8 0),.nilIface]
def z185:Array Value:=#[(.pointer none)]
def z227:Array Value:=#[(.slice none 0 0),(.int .u32 0)]
def z231:Array Value:=#[(.slice none 0 0),(.int .u32 0)]
def z235:Array Value:=#[(.slice none 0 0),(.int .u32 0)]
def z241:Array Value:=#[(.slice none 0 0),(.int .u32 0)]
def z246:Array Value:=#[(.slice none 0 0),(.int .u32 0)]
def z260:Array Value:=#[(.int .u64 0)]
def z263:Array Value:=#[(.int .u8 0)]
def z295:Array Value:=#[(.slice none 0 0),(.int .u32 0)]
def z297:Array Value:=#[(.slice none 0 0),(.int .u32 0)]
def z300:Array Value:=#[(.slice none 0 0),(.int .u32 0)]
def z303:Array Value:=#[(.slice none 0 0),(.int .u32 0)]
def tp313 (p0:IntKind) (p1:Nat) (x1:Value) (h:Qe) (R:Kn):Prop:=
 Y2 1 x1 (.int .i64 3) fun x2=>
 LdK h x2 fun _x1=>
 Y2 1 x1 (.int .i64 0) fun x3=>
 LdK h x3 fun x4=>
 QG p0 x4 fun x5=>
 Qj prog .or p1 (.int p0 0) x5 fun x6=>
 Y2 1 x1 (.int .i64 1) fun x7=>
 LdK h x7 fun x8=>
 QG p0 x8 fun x9=>
 Qj prog .shl p1 x9 (.int .u64 8) fun x10=>
 Qj prog .or p1 x6 x10 fun x11=>
 Y2 1 x1 (.int .i64 2) fun x12=>
 LdK h x12 fun x13=>
 QG p0 x13 fun x14=>
 Qj prog .shl p1 x14 (.int .u64 16) fun x15=>
 Qj prog .or p1 x11 x15 fun x16=>
 Y2 1 x1 (.int .i64 3) fun x17=>
 LdK h x17 fun x18=>
 QG p0 x18 fun x19=>
 Qj prog .shl p1 x19 (.int .u64 24) fun x20=>
 Qj prog .or p1 x16 x20 fun x21=>
 R x21 h
def tp314 (p0:Nat) (x1 x2:Value) (h:Qe) (R:Kn):Prop:=
 Qa prog p0 #[x1,x2] h fun _x1 h1=>
 R (.tuple #[]) h1
def tp326 (p0:Nat) (x1 x2:Value) (h:Qe) (R:Kn):Prop:=
 Y2 1 x1 (.int .i64 7) fun x3=>
 LdK h x3 fun _x1=>
 QG .u8 x2 fun x4=>
 Y2 1 x1 (.int .i64 0) fun x5=>
 StK h 1 x5 x4 fun h1=>
 Qj prog .shr p0 x2 (.int .u64 8) fun x6=>
 QG .u8 x6 fun x7=>
 Y2 1 x1 (.int .i64 1) fun x8=>
 StK h1 1 x8 x7 fun h2=>
 Qj prog .shr p0 x2 (.int .u64 16) fun x9=>
 QG .u8 x9 fun x10=>
 Y2 1 x1 (.int .i64 2) fun x11=>
 StK h2 1 x11 x10 fun h3=>
 Qj prog .shr p0 x2 (.int .u64 24) fun x12=>
 QG .u8 x12 fun x13=>
 Y2 1 x1 (.int .i64 3) fun x14=>
 StK h3 1 x14 x13 fun h4=>
 Qj prog .shr p0 x2 (.int .u64 32) fun x15=>
 QG .u8 x15 fun x16=>
 Y2 1 x1 (.int .i64 4) fun x17=>
 StK h4 1 x17 x16 fun h5=>
 Qj prog .shr p0 x2 (.int .u64 40) fun x18=>
 QG .u8 x18 fun x19=>
 Y2 1 x1 (.int .i64 5) fun x20=>
 StK h5 1 x20 x19 fun h6=>
 Qj prog .shr p0 x2 (.int .u64 48) fun x21=>
 QG .u8 x21 fun x22=>
 Y2 1 x1 (.int .i64 6) fun x23=>
 StK h6 1 x23 x22 fun h7=>
 Qj prog .shr p0 x2 (.int .u64 56) fun x24=>
 QG .u8 x24 fun x25=>
 Y2 1 x1 (.int .i64 7) fun x26=>
 StK h7 1 x26 x25 fun h8=>
 R (.tuple #[]) h8
def tp335 (p0:IntKind) (p1:Nat) (x1:Value) (h:Qe) (R:Kn):Prop:=
 Y2 1 x1 (.int .i64 1) fun x2=>
 LdK h x2 fun _x1=>
 Y2 1 x1 (.int .i64 0) fun x3=>
 LdK h x3 fun x4=>
 QG p0 x4 fun x5=>
 Qj prog .or p1 (.int p0 0) x5 fun x6=>
 Y2 1 x1 (.int .i64 1) fun x7=>
 LdK h x7 fun x8=>
 QG p0 x8 fun x9=>
 Qj prog .shl p1 x9 (.int .u64 8) fun x10=>
 Qj prog .or p1 x6 x10 fun x11=>
 R x11 h
def Qgs (p0:Nat) (x1:Value) (h:Qe) (R:Kn):Prop:=
 Qa prog p0 #[x1] h fun x2 h1=>
 R x2 h1
def tp339 (p0:IntKind) (p1:Nat) (x1:Value) (h:Qe) (R:Kn):Prop:=
 Y2 1 x1 (.int .i64 7) fun x2=>
 LdK h x2 fun _x1=>
 Y2 1 x1 (.int .i64 0) fun x3=>
 LdK h x3 fun x4=>
 QG p0 x4 fun x5=>
 Qj prog .or p1 (.int p0 0) x5 fun x6=>
 Y2 1 x1 (.int .i64 1) fun x7=>
 LdK h x7 fun x8=>
 QG p0 x8 fun x9=>
 Qj prog .shl p1 x9 (.int .u64 8) fun x10=>
 Qj prog .or p1 x6 x10 fun x11=>
 Y2 1 x1 (.int .i64 2) fun x12=>
 LdK h x12 fun x13=>
 QG p0 x13 fun x14=>
 Qj prog .shl p1 x14 (.int .u64 16) fun x15=>
 Qj prog .or p1 x11 x15 fun x16=>
 Y2 1 x1 (.int .i64 3) fun x17=>
 LdK h x17 fun x18=>
 QG p0 x18 fun x19=>
 Qj prog .shl p1 x19 (.int .u64 24) fun x20=>
 Qj prog .or p1 x16 x20 fun x21=>
 Y2 1 x1 (.int .i64 4) fun x22=>
 LdK h x22 fun x23=>
 QG p0 x23 fun x24=>
 Qj prog .shl p1 x24 (.int .u64 32) fun x25=>
 Qj prog .or p1 x21 x25 fun x26=>
 Y2 1 x1 (.int .i64 5) fun x27=>
 LdK h x27 fun x28=>
 QG p0 x28 fun x29=>
 Qj prog .shl p1 x29 (.int .u64 40) fun x30=>
 Qj prog .or p1 x26 x30 fun x31=>
 Y2 1 x1 (.int .i64 6) fun x32=>
 LdK h x32 fun x33=>
 QG p0 x33 fun x34=>
 Qj prog .shl p1 x34 (.int .u64 48) fun x35=>
 Qj prog .or p1 x31 x35 fun x36=>
 Y2 1 x1 (.int .i64 7) fun x37=>
 LdK h x37 fun x38=>
 QG p0 x38 fun x39=>
 Qj prog .shl p1 x39 (.int .u64 56) fun x40=>
 Qj prog .or p1 x36 x40 fun x41=>
 R x41 h
def tp346 (p0:Nat) (x1 x2:Value) (h:Qe) (R:Kn):Prop:=
 Y2 1 x1 (.int .i64 3) fun x3=>
 LdK h x3 fun _x1=>
 QG .u8 x2 fun x4=>
 Y2 1 x1 (.int .i64 0) fun x5=>
 StK h 1 x5 x4 fun h1=>
 Qj prog .shr p0 x2 (.int .u64 8) fun x6=>
 QG .u8 x6 fun x7=>
 Y2 1 x1 (.int .i64 1) fun x8=>
 StK h1 1 x8 x7 fun h2=>
 Qj prog .shr p0 x2 (.int .u64 16) fun x9=>
 QG .u8 x9 fun x10=>
 Y2 1 x1 (.int .i64 2) fun x11=>
 StK h2 1 x11 x10 fun h3=>
 Qj prog .shr p0 x2 (.int .u64 24) fun x12=>
 QG .u8 x12 fun x13=>
 Y2 1 x1 (.int .i64 3) fun x14=>
 StK h3 1 x14 x13 fun h4=>
 R (.tuple #[]) h4
def tp362 (p0:Nat) (x1 x2:Value) (h:Qe) (R:Kn):Prop:=
 Y2 1 x1 (.int .i64 1) fun x3=>
 LdK h x3 fun _x1=>
 QG .u8 x2 fun x4=>
 Y2 1 x1 (.int .i64 0) fun x5=>
 StK h 1 x5 x4 fun h1=>
 Qj prog .shr p0 x2 (.int .u64 8) fun x6=>
 QG .u8 x6 fun x7=>
 Y2 1 x1 (.int .i64 1) fun x8=>
 StK h1 1 x8 x7 fun h2=>
 R (.tuple #[]) h2
def Qcj (p0:Nat) (x1 x2:Value) (h:Qe) (R:Kn):Prop:=
 Q1 x1 fun x3=>
 Qf x3 0 fun x4=>
 LdK h x4 fun x5=>
 Qg4 1 x5 (some x2) none fun x6=>
 Qa prog p0 #[x6] h fun x7 h1=>
 R x7 h1
def tp84 (p0:Int) (p1:Nat) (x1 x2:Value) (h:Qe) (R:Kn):Prop:=
 Qa prog 61 #[x1,(.int .i64 p0),(.int .i64 0)] h fun _x1 h1=>
 Qa prog p1 #[x1,x2] h1 fun _x2 h2=>
 R (.tuple #[]) h2
def tp156 (p0:Nat) (x1:Value) (h:Qe) (R:Kn):Prop:=
 Q1 x1 fun x2=>
 Qf x2 p0 fun x3=>
 LdK h x3 fun x4=>
 Zu prog (Op.unary .not x4) fun x5=>
 IfK x5
 (False)
 (R (.tuple #[]) h)
def QcM (p0:Int) (p1:Nat) (x1 x2:Value) (h:Qe) (R:Kn):Prop:=
 Q1 x1 fun x3=>
 Qf x3 5 fun x4=>
 LdK h x4 fun x5=>
 Qj prog .sub 74 x5 (.int .u32 p0) fun x6=>
 Q1 x1 fun x7=>
 Qf x7 5 fun x8=>
 StK h 1 x8 x6 fun h1=>
 Q1 x1 fun x9=>
 Qf x9 0 fun x10=>
 LdK h1 x10 fun x11=>
 Q1 x1 fun x12=>
 Qf x12 5 fun x13=>
 LdK h1 x13 fun x14=>
 Qg4 1 x11 (some x14) none fun x15=>
 Qa prog p1 #[x15,x2] h1 fun _x1 h2=>
 R (.tuple #[]) h2
def QeR (p0:Nat) (p1:Nat) (x1 x2 x3 x4:Value) (h:Qe) (R:Kn):Prop:=
 Qj prog .neq p0 x3 x4 fun x5=>
 IfK x5
 (Qa prog p1 #[x1,x3] h fun _x1 h1=>
 Qa prog 330 #[x1,x2] h1 fun _x2 h2=>
 R (.tuple #[]) h2)
 (R (.tuple #[]) h)
def QhD (p0:Int) (p1:Int) (x1 x2:Value) (h:Qe) (R:Kn):Prop:=
 Qa prog 254 #[x1,(.int .i64 p0),x2,(.int .i64 p1)] h fun x3 h1=>
 R x3 h1
def tp105 (p0:Int) (x1:Value) (h:Qe) (R:Kn):Prop:=
 Qa prog 272 #[x1,(.int .i64 p0)] h fun _x1 h1=>
 R (.tuple #[]) h1
def Yr (p0:Nat) (p1:Int) (p2:IntKind) (p3:Int) (x1 x2:Value) (h:Qe) (R:Kn):Prop:=
 Qa prog p0 #[x1,(.int .i64 p1),x2,(.int p2 p3)] h fun _x1 h1=>
 R (.tuple #[]) h1
def Qej (p0:Int) (p1:Nat) (p2:IntKind) (p3:Int) (x1:Value) (h:Qe) (R:Kn):Prop:=
 Q1 x1 fun x2=>
 Qf x2 0 fun x3=>
 Qa prog 288 #[x3,(.int .u16 p0)] h fun x4 h1=>
 QG .u32 x4 fun x5=>
 Qj prog .neq 74 x5 (.int .u32 0) fun x6=>
 IfK x6
 (Q1 x1 fun x7=>
 Qf x7 0 fun x8=>
 Q1 x1 fun x9=>
 Qf x9 0 fun x10=>
 Qf x10 1 fun x11=>
 LdK h1 x11 fun x12=>
 Qj prog .add 74 x5 x12 fun x13=>
 Qa prog p1 #[x8,x13] h1 fun x14 h2=>
 R x14 h2)
 (R (.int p2 p3) h1)
def tp164 (p0:Int) (x1:Value) (h:Qe) (R:Kn):Prop:=
 Q1 x1 fun x2=>
 Qf x2 0 fun x3=>
 Qa prog 288 #[x3,(.int .u16 p0)] h fun x4 h1=>
 QG .u32 x4 fun x5=>
 Qj prog .neq 74 x5 (.int .u32 0) fun x6=>
 IfK x6
 (Q1 x1 fun x7=>
 Qf x7 0 fun x8=>
 Q1 x1 fun x9=>
 Qf x9 0 fun x10=>
 Qf x10 1 fun x11=>
 LdK h1 x11 fun x12=>
 Qj prog .add 74 x5 x12 fun x13=>
 Qa prog 290 #[x8,x13] h1 fun x14 h2=>
 R x14 h2)
 (R (.slice none 0 0) h1)
def tp179 (p0:Int) (p1:Nat) (p2:Array Value) (p3:Nat) (p4:Nat) (x1 x2:Value) (h:Qe) (R:Kn):Prop:=
 Q1 x1 fun x3=>
 Qf x3 0 fun x4=>
 Qa prog 288 #[x4,(.int .u16 p0)] h fun x5 h1=>
 QG .u32 x5 fun x6=>
 Qj prog .neq 74 x6 (.int .u32 0) fun x7=>
 IfK x7
 (Q1 x1 fun x8=>
 Qf x8 0 fun x9=>
 Q1 x1 fun x10=>
 Qf x10 0 fun x11=>
 Qf x11 1 fun x12=>
 LdK h1 x12 fun x13=>
 Qj prog .add 74 x6 x13 fun x14=>
 Qa prog 298 #[x9,x14] h1 fun x15 h2=>
 QA (fun M1=>
 Qj prog .eql p1 x2 (.pointer none) fun x16=>
 IfK x16
 (Y8 h2 (.cells p2 p3) fun x17 h3=>
 M1 [x17] h3)
 (M1 [x2] h2)) fun M1=>∀x18:Value,∀h4:Qe,M1 [x18] h4->
 Q1 x1 fun x19=>
 Qf x19 0 fun x20=>
 Qf x20 0 fun x21=>
 LdK h4 x21 fun x22=>
 Qa prog p4 #[x18,x22,x15] h4 fun _x1 h5=>
 R x18 h5)
 (R (.pointer none) h1)
def tp186 (p0:Int) (p1:Nat) (x1:Value) (h:Qe) (R:Kn):Prop:=
 Q1 x1 fun x2=>
 Qf x2 0 fun x3=>
 Qf x3 0 fun x4=>
 Q1 x1 fun x5=>
 Qf x5 0 fun x6=>
 Qf x6 0 fun x7=>
 Qf x7 1 fun x8=>
 LdK h x8 fun x9=>
 Qj prog .add 74 x9 (.int .u32 p0) fun x10=>
 Qa prog p1 #[x4,x10] h fun x11 h1=>
 R x11 h1
def Qg2 (p0:Int) (x1:Value) (h:Qe) (R:Kn):Prop:=
 Q1 x1 fun x2=>
 Qf x2 0 fun x3=>
 Qa prog 288 #[x3,(.int .u16 p0)] h fun x4 h1=>
 QG .u32 x4 fun x5=>
 Qj prog .neq 74 x5 (.int .u32 0) fun x6=>
 IfK x6
 (Q1 x1 fun x7=>
 Qf x7 0 fun x8=>
 Qa prog 304 #[x8,x5] h1 fun x9 h2=>
 R x9 h2)
 (R (.int .i64 0) h1)
def tp195 (p0:Int) (p1:Int) (p2:Nat) (p3:IntKind) (x1 x2:Value) (h:Qe) (R:Kn):Prop:=
 Q1 x1 fun x3=>
 Qf x3 0 fun x4=>
 Qa prog 288 #[x4,(.int .u16 p0)] h fun x5 h1=>
 QG .u32 x5 fun x6=>
 Qj prog .neq 74 x6 (.int .u32 0) fun x7=>
 IfK x7
 (Q1 x1 fun x8=>
 Qf x8 0 fun x9=>
 Qa prog 305 #[x9,x6] h1 fun x10 h2=>
 Q1 x1 fun x11=>
 Qf x11 0 fun x12=>
 Qj prog .mul 3 x2 (.int .i64 p1) fun x13=>
 QG .u32 x13 fun x14=>
 Qj prog .add 74 x10 x14 fun x15=>
 Qa prog p2 #[x12,x15] h2 fun x16 h3=>
 R x16 h3)
 (R (.int p3 0) h1)
def tp197 (p0:Int) (p1:Int) (p2:Nat) (x1 x2 x3:Value) (h:Qe) (R:Kn):Prop:=
 Q1 x1 fun x4=>
 Qf x4 0 fun x5=>
 Qa prog 288 #[x5,(.int .u16 p0)] h fun x6 h1=>
 QG .u32 x6 fun x7=>
 Qj prog .neq 74 x7 (.int .u32 0) fun x8=>
 IfK x8
 (Q1 x1 fun x9=>
 Qf x9 0 fun x10=>
 Qa prog 305 #[x10,x7] h1 fun x11 h2=>
 QG .u32 x3 fun x12=>
 Qj prog .mul 74 x12 (.int .u32 p1) fun x13=>
 Qj prog .add 74 x11 x13 fun x14=>
 Q1 x1 fun x15=>
 Qf x15 0 fun x16=>
 Qf x16 0 fun x17=>
 LdK h2 x17 fun x18=>
 Qa prog p2 #[x2,x18,x14] h2 fun _x1 h3=>
 R (.bool true) h3)
 (R (.bool false) h1)
def tp199 (p0:Int) (x1 x2:Value) (h:Qe) (R:Kn):Prop:=
 Q1 x1 fun x3=>
 Qf x3 0 fun x4=>
 Qa prog 288 #[x4,(.int .u16 p0)] h fun x5 h1=>
 QG .u32 x5 fun x6=>
 Qj prog .neq 74 x6 (.int .u32 0) fun x7=>
 IfK x7
 (Q1 x1 fun x8=>
 Qf x8 0 fun x9=>
 Qa prog 305 #[x9,x6] h1 fun x10 h2=>
 Q1 x1 fun x11=>
 Qf x11 0 fun x12=>
 Qj prog .mul 3 x2 (.int .i64 4) fun x13=>
 QG .u32 x13 fun x14=>
 Qj prog .add 74 x10 x14 fun x15=>
 Qa prog 290 #[x12,x15] h2 fun x16 h3=>
 R x16 h3)
 (R (.slice none 0 0) h1)
def tp201 (p0:Int) (p1:Nat) (x1 x2 x3:Value) (h:Qe) (R:Kn):Prop:=
 Q1 x1 fun x4=>
 Qf x4 0 fun x5=>
 Qa prog 288 #[x5,(.int .u16 p0)] h fun x6 h1=>
 QG .u32 x6 fun x7=>
 Qj prog .neq 74 x7 (.int .u32 0) fun x8=>
 IfK x8
 (Q1 x1 fun x9=>
 Qf x9 0 fun x10=>
 Qa prog 305 #[x10,x7] h1 fun x11 h2=>
 QG .u32 x3 fun x12=>
 Qj prog .mul 74 x12 (.int .u32 4) fun x13=>
 Qj prog .add 74 x11 x13 fun x14=>
 Q1 x1 fun x15=>
 Qf x15 0 fun x16=>
 Qa prog 298 #[x16,x14] h2 fun x17 h3=>
 Q1 x1 fun x18=>
 Qf x18 0 fun x19=>
 Qf x19 0 fun x20=>
 LdK h3 x20 fun x21=>
 Qa prog p1 #[x2,x21,x17] h3 fun _x1 h4=>
 R (.bool true) h4)
 (R (.bool false) h1)
def tp236 (p0:Int) (x1 x2:Value) (h:Qe) (R:Kn):Prop:=
 Q1 x1 fun x3=>
 Qf x3 0 fun x4=>
 Qa prog 288 #[x4,(.int .u16 p0)] h fun x5 h1=>
 QG .u32 x5 fun x6=>
 Qj prog .neq 74 x6 (.int .u32 0) fun x7=>
 IfK x7
 (Q1 x1 fun x8=>
 Qf x8 0 fun x9=>
 Qa prog 310 #[x9,x2,x6] h1 fun _x1 h2=>
 R (.bool true) h2)
 (R (.bool false) h1)
def tp243 (x1 x2 x3:Value) (h:Qe) (R:Kn):Prop:=
 Q1 x1 fun x4=>
 Qf x4 0 fun x5=>
 Qf x5 0 fun x6=>
 StK h 1 x6 x2 fun h1=>
 Q1 x1 fun x7=>
 Qf x7 0 fun x8=>
 Qf x8 1 fun x9=>
 StK h1 1 x9 x3 fun h2=>
 R (.tuple #[]) h2
def tp301 (x1 x2 x3:Value) (h:Qe) (R:Kn):Prop:=
 Q1 x1 fun x4=>
 Qf x4 0 fun x5=>
 Qf x5 0 fun x6=>
 Qf x6 0 fun x7=>
 StK h 1 x7 x2 fun h1=>
 Q1 x1 fun x8=>
 Qf x8 0 fun x9=>
 Qf x9 0 fun x10=>
 Qf x10 1 fun x11=>
 StK h1 1 x11 x3 fun h2=>
 R (.tuple #[]) h2
def tp76 (p0:Nat) (p1:Nat) (p2:Nat) (p3:Nat) (p4:Nat) (p5:Nat) (x1 x2:Value) (h:Qe) (R:Kn):Prop:=
 Qj prog .eql p0 x1 (.pointer none) fun x3=>
 IfK x3
 (R (.int .u32 0) h)
 (Q1 x1 fun x4=>
 Qf x4 0 fun x5=>
 LdK h x5 fun x6=>
 Qj prog .eql p1 x6 (.int .u8 1) fun x7=>
 IfK x7
 (Q1 x1 fun x8=>
 Qf x8 1 fun x9=>
 LdK h x9 fun x10=>
 TAssK 75 false (.pointer none) x10 fun x11=>
 Qa prog 23 #[x11,x2] h fun x12 h1=>
 R x12 h1)
 (Qj prog .eql p1 x6 (.int .u8 2) fun x13=>
 IfK x13
 (Q1 x1 fun x14=>
 Qf x14 1 fun x15=>
 LdK h x15 fun x16=>
 TAssK p2 false (.pointer none) x16 fun x17=>
 Qa prog p3 #[x17,x2] h fun x18 h2=>
 R x18 h2)
 (Qj prog .eql p1 x6 (.int .u8 3) fun x19=>
 IfK x19
 (Q1 x1 fun x20=>
 Qf x20 1 fun x21=>
 LdK h x21 fun x22=>
 TAssK p4 false (.pointer none) x22 fun x23=>
 Qa prog p5 #[x23,x2] h fun x24 h3=>
 R x24 h3)
 (R (.int .u32 0) h))))
def tp78 (p0:Nat) (p1:Nat) (x1 x2:Value) (h:Qe) (R:Kn):Prop:=
 Qj prog .eql p0 x1 (.pointer none) fun x3=>
 IfK x3
 (R (.int .u32 0) h)
 (Q1 x1 fun x4=>
 Qf x4 0 fun x5=>
 LdK h x5 fun x6=>
 Q1 x1 fun x7=>
 Qf x7 1 fun x8=>
 LdK h x8 fun x9=>
 Qa prog p1 #[x2,x6,x9] h fun x10 h1=>
 R x10 h1)
def tp93 (p0:Nat) (p1:Nat) (p2:Nat) (x1 x2:Value) (h:Qe) (R:Kn):Prop:=
 Qj prog .eql p0 x1 (.pointer none) fun x3=>
 IfK x3
 (R (.int .u32 0) h)
 (Qa prog p1 #[x2] h fun _x1 h1=>
 Qa prog p2 #[x2] h1 fun x4 h2=>
 R x4 h2)
def tp94 (p0:Nat) (p1:Nat) (p2:Nat) (p3:Nat) (x1 x2:Value) (h:Qe) (R:Kn):Prop:=
 Qj prog .eql p0 x1 (.pointer none) fun x3=>
 IfK x3
 (R (.int .u32 0) h)
 (Qa prog p1 #[x2] h fun _x1 h1=>
 Q1 x1 fun x4=>
 Qf x4 0 fun x5=>
 LdK h1 x5 fun x6=>
 Qa prog p2 #[x2,x6] h1 fun _x2 h2=>
 Qa prog p3 #[x2] h2 fun x7 h3=>
 R x7 h3)
def tp65 (x1:Value) (h:Qe) (R:Kn):Prop:=
 Y1 x1 fun x2=>
 Qj prog .eql 3 x2 (.int .i64 0) fun x3=>
 IfK x3
 (R (.slice none 0 0) h)
 (R x1 h)
def tp28 (p0:Nat) (p1:Array Value) (p2:Nat) (p3:Nat) (x1:Value) (h:Qe) (R:Kn):Prop:=
 Y8 h (.cells (Value.cells x1) p0) fun x2 h1=>
 Y8 h1 (.cells p1 p2) fun x3 h2=>
 LdN h2 p3 x2 fun x4=>
 StK h2 p3 x3 x4 fun h3=>
 LdN h3 p3 x3 fun r1=>
 R r1 h3
end Go.Proofs
namespace Go.Proofs
open Go Go.Vc
open Tryz (prog)
set_option maxRecDepth 100000
def s246 (a:Value) (h:Qe) (R:Kn):Prop:=
 Qa prog 313 #[a] h fun b c=>
 QG .u32 b fun d=>
 R d c
theorem w246 {a h R} (H:s246 a h R):FnS prog 246 #[a] h R:=wq Tryz.func246 (by kernel_rfl) H
theorem w313 {a h R} (H:tp313 .i32 21 a h R):FnS prog 313 #[a] h R:=wq Tryz.func313 (by kernel_rfl) H
theorem w314 {a b h R} (H:tp314 346 a b h R):FnS prog 314 #[a,b] h R:=wq Tryz.func314 (by kernel_rfl) H
theorem w315 {a b h R} (H:tp314 347 a b h R):FnS prog 315 #[a,b] h R:=wq Tryz.func315 (by kernel_rfl) H
def s324 (a c:Value) (h:Qe) (R:Kn):Prop:=
 Y2 1 a (.int .i64 0) fun d=>
 StK h 1 d (.int .u8 0) fun b=>
 IfK c
 (Y2 1 a (.int .i64 0) fun e=>
 StK b 1 e (.int .u8 1) fun f=>
 R (.tuple #[]) f)
 (R (.tuple #[]) b)
theorem w324 {a b h R} (H:s324 a b h R):FnS prog 324 #[a,b] h R:=wq Tryz.func324 (by kernel_rfl) H
theorem w326 {a b h R} (H:tp326 2 a b h R):FnS prog 326 #[a,b] h R:=wq Tryz.func326 (by kernel_rfl) H
def s327 (a b:Value) (h:Qe) (R:Kn):Prop:=
 Qbv prog 189 #[b] fun c=>
 Qa prog 328 #[a,c] h fun _x7 d=>
 R (.tuple #[]) d
theorem w327 {a b h R} (H:s327 a b h R):FnS prog 327 #[a,b] h R:=wq Tryz.func327 (by kernel_rfl) H
theorem w328 {a b h R} (H:tp326 31 a b h R):FnS prog 328 #[a,b] h R:=wq Tryz.func328 (by kernel_rfl) H
theorem w335 {a h R} (H:tp335 .i16 23 a h R):FnS prog 335 #[a] h R:=wq Tryz.func335 (by kernel_rfl) H
theorem w336 {a h R} (H:Qgs 360 a h R):FnS prog 336 #[a] h R:=wq Tryz.func336 (by kernel_rfl) H
def s337 (a:Value) (h:Qe) (R:Kn):Prop:=
 Y2 1 a (.int .i64 0) fun b=>
 LdK h b fun c=>
 Qj prog .eql 5 c (.int .u8 1) fun d=>
 R d h
theorem w337 {a h R} (H:s337 a h R):FnS prog 337 #[a] h R:=wq Tryz.func337 (by kernel_rfl) H
theorem w338 {a h R} (H:tp313 .u32 30 a h R):FnS prog 338 #[a] h R:=wq Tryz.func338 (by kernel_rfl) H
theorem w339 {a h R} (H:tp339 .i64 2 a h R):FnS prog 339 #[a] h R:=wq Tryz.func339 (by kernel_rfl) H
theorem w340 {a h R} (H:tp339 .u64 31 a h R):FnS prog 340 #[a] h R:=wq Tryz.func340 (by kernel_rfl) H
def s341 (a:Value) (h:Qe) (R:Kn):Prop:=
 Qa prog 338 #[a] h fun b c=>
 Qbv prog 67 #[b] fun d=>
 R d c
theorem w341 {a h R} (H:s341 a h R):FnS prog 341 #[a] h R:=wq Tryz.func341 (by kernel_rfl) H
def s342 (a:Value) (h:Qe) (R:Kn):Prop:=
 Y2 1 a (.int .i64 0) fun b=>
 LdK h b fun c=>
 QG .i8 c fun d=>
 R d h
theorem w342 {a h R} (H:s342 a h R):FnS prog 342 #[a] h R:=wq Tryz.func342 (by kernel_rfl) H
def s343 (a:Value) (h:Qe) (R:Kn):Prop:=
 Qa prog 340 #[a] h fun b c=>
 Qbv prog 71 #[b] fun d=>
 R d c
theorem w343 {a h R} (H:s343 a h R):FnS prog 343 #[a] h R:=wq Tryz.func343 (by kernel_rfl) H
theorem w344 {a h R} (H:tp335 .u16 39 a h R):FnS prog 344 #[a] h R:=wq Tryz.func344 (by kernel_rfl) H
theorem w346 {a b h R} (H:tp346 30 a b h R):FnS prog 346 #[a,b] h R:=wq Tryz.func346 (by kernel_rfl) H
def s347 (a b:Value) (h:Qe) (R:Kn):Prop:=
 Y2 1 a (.int .i64 0) fun c=>
 StK h 1 c b fun d=>
 R (.tuple #[]) d
theorem w347 {a b h R} (H:s347 a b h R):FnS prog 347 #[a,b] h R:=wq Tryz.func347 (by kernel_rfl) H
theorem w355 {a h R} (H:Qgs 344 a h R):FnS prog 355 #[a] h R:=wq Tryz.func355 (by kernel_rfl) H
theorem w358 {a b h R} (H:tp314 365 a b h R):FnS prog 358 #[a,b] h R:=wq Tryz.func358 (by kernel_rfl) H
theorem w359 {a h R} (H:Qgs 313 a h R):FnS prog 359 #[a] h R:=wq Tryz.func359 (by kernel_rfl) H
def s360 (a:Value) (h:Qe) (R:Kn):Prop:=
 Y2 1 a (.int .i64 0) fun b=>
 LdK h b fun c=>
 R c h
theorem w360 {a h R} (H:s360 a h R):FnS prog 360 #[a] h R:=wq Tryz.func360 (by kernel_rfl) H
def s361 (a b:Value) (h:Qe) (R:Kn):Prop:=
 QG .u8 b fun c=>
 Y2 1 a (.int .i64 0) fun d=>
 StK h 1 d c fun e=>
 R (.tuple #[]) e
theorem w361 {a b h R} (H:s361 a b h R):FnS prog 361 #[a,b] h R:=wq Tryz.func361 (by kernel_rfl) H
theorem w362 {a b h R} (H:tp362 23 a b h R):FnS prog 362 #[a,b] h R:=wq Tryz.func362 (by kernel_rfl) H
def s364 (a b:Value) (h:Qe) (R:Kn):Prop:=
 Qbv prog 175 #[b] fun c=>
 Qa prog 346 #[a,c] h fun _x7 d=>
 R (.tuple #[]) d
theorem w364 {a b h R} (H:s364 a b h R):FnS prog 364 #[a,b] h R:=wq Tryz.func364 (by kernel_rfl) H
theorem w365 {a b h R} (H:tp346 21 a b h R):FnS prog 365 #[a,b] h R:=wq Tryz.func365 (by kernel_rfl) H
theorem w368 {a b h R} (H:tp362 39 a b h R):FnS prog 368 #[a,b] h R:=wq Tryz.func368 (by kernel_rfl) H
theorem w369 {a b h R} (H:tp314 368 a b h R):FnS prog 369 #[a,b] h R:=wq Tryz.func369 (by kernel_rfl) H
end Go.Proofs
namespace Go.Proofs
open Go Go.Vc
open Tryz (prog)
abbrev bsl (b o n c:Nat):Value:=.slice (some ⟨b,o,none⟩) n c
theorem Zy {H:Qe} {b:Nat} {bs:List UInt8} (h:U8s H b 0 bs) {o i:Nat} (hi:o+i<bs.length):QaU H ⟨b,o+i,none⟩=some (.int .u8 (byteN bs (o+i))):=
 h.at (by omega) hi
section
variable {H:Qe} {b o n c:Nat} {bs:List UInt8} (hb:U8s H b 0 bs) {R:Kn}
include hb
set_option maxHeartbeats 1000000 in
theorem Qj2 (hl:o+2<=bs.length) (hn:2<=n) (hR:R (.int .u16 (le2 bs o:Int)) H):FnS prog 344 #[bsl b o n c] H R:=by
 have c0:=Zy hb (o:=o) (i:=0) (by omega)
 have b0:=YF bs (o+0)
 have i0:(0:Int)<n:=by omega
 have c1:=Zy hb (o:=o) (i:=1) (by omega)
 have b1:=YF bs (o+1)
 have i1:(1:Int)<n:=by omega
 apply w344
 unfold tp335
 simp only[↓QP (by decide:(0:Int)<=0) i0,↓QP (by decide:(0:Int)<=1) i1,show Int.toNat 0=0 from rfl,show Int.toNat 1=1 from rfl,Nat.zero_mul,Nat.mul_one,Nat.one_mul,↓Ql c0,↓Ql c1,↓Q7,↓Qgg,↓YX (by decide:(0:Int)<=8)]
 have g:=get2_val (κ:=.u16) (by decide) b0 b1
 simp only[Nat.add_zero]at g⊢
 simp only[show Int.toNat 8=8 from rfl]
 rw[g]
 skip
 have e:IntKind.u16.wrap (le2 bs o:Int)=le2 bs o:=wrap_u16 (by omega) (by have:=le2_lt bs o;omega)
 rw[<-e]at hR;exact hR
set_option maxHeartbeats 1000000 in
theorem go_GetInt16 (hl:o+2<=bs.length) (hn:2<=n) (hR:R (.int .i16 (IntKind.i16.wrap (le2 bs o:Int))) H):FnS prog 335 #[bsl b o n c] H R:=by
 have c0:=Zy hb (o:=o) (i:=0) (by omega)
 have b0:=YF bs (o+0)
 have i0:(0:Int)<n:=by omega
 have c1:=Zy hb (o:=o) (i:=1) (by omega)
 have b1:=YF bs (o+1)
 have i1:(1:Int)<n:=by omega
 apply w335
 unfold tp335
 simp only[↓QP (by decide:(0:Int)<=0) i0,↓QP (by decide:(0:Int)<=1) i1,show Int.toNat 0=0 from rfl,show Int.toNat 1=1 from rfl,Nat.zero_mul,Nat.mul_one,Nat.one_mul,↓Ql c0,↓Ql c1,↓Q7,↓Qgg,↓YX (by decide:(0:Int)<=8)]
 have g:=get2_val (κ:=.i16) (by decide) b0 b1
 simp only[Nat.add_zero]at g⊢
 simp only[show Int.toNat 8=8 from rfl]
 rw[g]
 skip
 skip
 exact hR
set_option maxHeartbeats 1000000 in
theorem QiY (hl:o+4<=bs.length) (hn:4<=n) (hR:R (.int .u32 (le4 bs o:Int)) H):FnS prog 338 #[bsl b o n c] H R:=by
 have c0:=Zy hb (o:=o) (i:=0) (by omega)
 have b0:=YF bs (o+0)
 have i0:(0:Int)<n:=by omega
 have c1:=Zy hb (o:=o) (i:=1) (by omega)
 have b1:=YF bs (o+1)
 have i1:(1:Int)<n:=by omega
 have c2:=Zy hb (o:=o) (i:=2) (by omega)
 have b2:=YF bs (o+2)
 have i2:(2:Int)<n:=by omega
 have c3:=Zy hb (o:=o) (i:=3) (by omega)
 have b3:=YF bs (o+3)
 have i3:(3:Int)<n:=by omega
 apply w338
 unfold tp313
 simp only[↓QP (by decide:(0:Int)<=0) i0,↓QP (by decide:(0:Int)<=1) i1,↓QP (by decide:(0:Int)<=2) i2,↓QP (by decide:(0:Int)<=3) i3,show Int.toNat 0=0 from rfl,show Int.toNat 1=1 from rfl,show Int.toNat 2=2 from rfl,show Int.toNat 3=3 from rfl,Nat.zero_mul,Nat.mul_one,Nat.one_mul,↓Ql c0,↓Ql c1,↓Ql c2,↓Ql c3,↓Q7,↓Qgg,↓YX (by decide:(0:Int)<=8),↓YX (by decide:(0:Int)<=16),↓YX (by decide:(0:Int)<=24)]
 have g:=get4_val (κ:=.u32) (by decide) b0 b1 b2 b3
 simp only[Nat.add_zero]at g⊢
 simp only[show Int.toNat 8=8 from rfl,show Int.toNat 16=16 from rfl,show Int.toNat 24=24 from rfl]
 rw[g]
 rw[<-le4_eq]
 have e:IntKind.u32.wrap (le4 bs o:Int)=le4 bs o:=QU (by omega) (by have:=le4_lt bs o;omega)
 rw[<-e]at hR;exact hR
set_option maxHeartbeats 1000000 in
theorem Qhs (hl:o+4<=bs.length) (hn:4<=n) (hR:R (.int .i32 (IntKind.i32.wrap (le4 bs o:Int))) H):FnS prog 313 #[bsl b o n c] H R:=by
 have c0:=Zy hb (o:=o) (i:=0) (by omega)
 have b0:=YF bs (o+0)
 have i0:(0:Int)<n:=by omega
 have c1:=Zy hb (o:=o) (i:=1) (by omega)
 have b1:=YF bs (o+1)
 have i1:(1:Int)<n:=by omega
 have c2:=Zy hb (o:=o) (i:=2) (by omega)
 have b2:=YF bs (o+2)
 have i2:(2:Int)<n:=by omega
 have c3:=Zy hb (o:=o) (i:=3) (by omega)
 have b3:=YF bs (o+3)
 have i3:(3:Int)<n:=by omega
 apply w313
 unfold tp313
 simp only[↓QP (by decide:(0:Int)<=0) i0,↓QP (by decide:(0:Int)<=1) i1,↓QP (by decide:(0:Int)<=2) i2,↓QP (by decide:(0:Int)<=3) i3,show Int.toNat 0=0 from rfl,show Int.toNat 1=1 from rfl,show Int.toNat 2=2 from rfl,show Int.toNat 3=3 from rfl,Nat.zero_mul,Nat.mul_one,Nat.one_mul,↓Ql c0,↓Ql c1,↓Ql c2,↓Ql c3,↓Q7,↓Qgg,↓YX (by decide:(0:Int)<=8),↓YX (by decide:(0:Int)<=16),↓YX (by decide:(0:Int)<=24)]
 have g:=get4_val (κ:=.i32) (by decide) b0 b1 b2 b3
 simp only[Nat.add_zero]at g⊢
 simp only[show Int.toNat 8=8 from rfl,show Int.toNat 16=16 from rfl,show Int.toNat 24=24 from rfl]
 rw[g]
 rw[<-le4_eq]
 skip
 exact hR
set_option maxHeartbeats 1000000 in
theorem Qj9 (hl:o+8<=bs.length) (hn:8<=n) (hR:R (.int .u64 (le8 bs o:Int)) H):FnS prog 340 #[bsl b o n c] H R:=by
 have c0:=Zy hb (o:=o) (i:=0) (by omega)
 have b0:=YF bs (o+0)
 have i0:(0:Int)<n:=by omega
 have c1:=Zy hb (o:=o) (i:=1) (by omega)
 have b1:=YF bs (o+1)
 have i1:(1:Int)<n:=by omega
 have c2:=Zy hb (o:=o) (i:=2) (by omega)
 have b2:=YF bs (o+2)
 have i2:(2:Int)<n:=by omega
 have c3:=Zy hb (o:=o) (i:=3) (by omega)
 have b3:=YF bs (o+3)
 have i3:(3:Int)<n:=by omega
 have c4:=Zy hb (o:=o) (i:=4) (by omega)
 have b4:=YF bs (o+4)
 have i4:(4:Int)<n:=by omega
 have c5:=Zy hb (o:=o) (i:=5) (by omega)
 have b5:=YF bs (o+5)
 have i5:(5:Int)<n:=by omega
 have c6:=Zy hb (o:=o) (i:=6) (by omega)
 have b6:=YF bs (o+6)
 have i6:(6:Int)<n:=by omega
 have c7:=Zy hb (o:=o) (i:=7) (by omega)
 have b7:=YF bs (o+7)
 have i7:(7:Int)<n:=by omega
 apply w340
 unfold tp339
 simp only[↓QP (by decide:(0:Int)<=0) i0,↓QP (by decide:(0:Int)<=1) i1,↓QP (by decide:(0:Int)<=2) i2,↓QP (by decide:(0:Int)<=3) i3,↓QP (by decide:(0:Int)<=4) i4,↓QP (by decide:(0:Int)<=5) i5,↓QP (by decide:(0:Int)<=6) i6,↓QP (by decide:(0:Int)<=7) i7,show Int.toNat 0=0 from rfl,show Int.toNat 1=1 from rfl,show Int.toNat 2=2 from rfl,show Int.toNat 3=3 from rfl,show Int.toNat 4=4 from rfl,show Int.toNat 5=5 from rfl,show Int.toNat 6=6 from rfl,show Int.toNat 7=7 from rfl,Nat.zero_mul,Nat.mul_one,Nat.one_mul,↓Ql c0,↓Ql c1,↓Ql c2,↓Ql c3,↓Ql c4,↓Ql c5,↓Ql c6,↓Ql c7,↓Q7,↓Qgg,↓YX (by decide:(0:Int)<=8),↓YX (by decide:(0:Int)<=16),↓YX (by decide:(0:Int)<=24),↓YX (by decide:(0:Int)<=32),↓YX (by decide:(0:Int)<=40),↓YX (by decide:(0:Int)<=48),↓YX (by decide:(0:Int)<=56)]
 have g:=get8_val (κ:=.u64) (by decide) b0 b1 b2 b3 b4 b5 b6 b7
 simp only[Nat.add_zero]at g⊢
 simp only[show Int.toNat 8=8 from rfl,show Int.toNat 16=16 from rfl,show Int.toNat 24=24 from rfl,show Int.toNat 32=32 from rfl,show Int.toNat 40=40 from rfl,show Int.toNat 48=48 from rfl,show Int.toNat 56=56 from rfl]
 rw[g]
 rw[<-le8_eq]
 have e:IntKind.u64.wrap (le8 bs o:Int)=le8 bs o:=Qct (by omega) (by have:=le8_lt bs o;omega)
 rw[<-e]at hR;exact hR
set_option maxHeartbeats 1000000 in
theorem go_GetInt64 (hl:o+8<=bs.length) (hn:8<=n) (hR:R (.int .i64 (IntKind.i64.wrap (le8 bs o:Int))) H):FnS prog 339 #[bsl b o n c] H R:=by
 have c0:=Zy hb (o:=o) (i:=0) (by omega)
 have b0:=YF bs (o+0)
 have i0:(0:Int)<n:=by omega
 have c1:=Zy hb (o:=o) (i:=1) (by omega)
 have b1:=YF bs (o+1)
 have i1:(1:Int)<n:=by omega
 have c2:=Zy hb (o:=o) (i:=2) (by omega)
 have b2:=YF bs (o+2)
 have i2:(2:Int)<n:=by omega
 have c3:=Zy hb (o:=o) (i:=3) (by omega)
 have b3:=YF bs (o+3)
 have i3:(3:Int)<n:=by omega
 have c4:=Zy hb (o:=o) (i:=4) (by omega)
 have b4:=YF bs (o+4)
 have i4:(4:Int)<n:=by omega
 have c5:=Zy hb (o:=o) (i:=5) (by omega)
 have b5:=YF bs (o+5)
 have i5:(5:Int)<n:=by omega
 have c6:=Zy hb (o:=o) (i:=6) (by omega)
 have b6:=YF bs (o+6)
 have i6:(6:Int)<n:=by omega
 have c7:=Zy hb (o:=o) (i:=7) (by omega)
 have b7:=YF bs (o+7)
 have i7:(7:Int)<n:=by omega
 apply w339
 unfold tp339
 simp only[↓QP (by decide:(0:Int)<=0) i0,↓QP (by decide:(0:Int)<=1) i1,↓QP (by decide:(0:Int)<=2) i2,↓QP (by decide:(0:Int)<=3) i3,↓QP (by decide:(0:Int)<=4) i4,↓QP (by decide:(0:Int)<=5) i5,↓QP (by decide:(0:Int)<=6) i6,↓QP (by decide:(0:Int)<=7) i7,show Int.toNat 0=0 from rfl,show Int.toNat 1=1 from rfl,show Int.toNat 2=2 from rfl,show Int.toNat 3=3 from rfl,show Int.toNat 4=4 from rfl,show Int.toNat 5=5 from rfl,show Int.toNat 6=6 from rfl,show Int.toNat 7=7 from rfl,Nat.zero_mul,Nat.mul_one,Nat.one_mul,↓Ql c0,↓Ql c1,↓Ql c2,↓Ql c3,↓Ql c4,↓Ql c5,↓Ql c6,↓Ql c7,↓Q7,↓Qgg,↓YX (by decide:(0:Int)<=8),↓YX (by decide:(0:Int)<=16),↓YX (by decide:(0:Int)<=24),↓YX (by decide:(0:Int)<=32),↓YX (by decide:(0:Int)<=40),↓YX (by decide:(0:Int)<=48),↓YX (by decide:(0:Int)<=56)]
 have g:=get8_val (κ:=.i64) (by decide) b0 b1 b2 b3 b4 b5 b6 b7
 simp only[Nat.add_zero]at g⊢
 simp only[show Int.toNat 8=8 from rfl,show Int.toNat 16=16 from rfl,show Int.toNat 24=24 from rfl,show Int.toNat 32=32 from rfl,show Int.toNat 40=40 from rfl,show Int.toNat 48=48 from rfl,show Int.toNat 56=56 from rfl]
 rw[g]
 rw[<-le8_eq]
 skip
 exact hR
theorem go_GetUint8 (hl:o+1<=bs.length) (hn:1<=n) (hR:R (.int .u8 (byteN bs o)) H):FnS prog 360 #[bsl b o n c] H R:=by
 have c0:QaU H ⟨b,o,none⟩=some (.int .u8 (byteN bs o)):=hb.at (by omega) (by omega)
 have i0:(0:Int)<n:=by omega
 apply w360
 unfold s360
 simp only[↓QP (Int.le_refl 0) i0,Int.toNat_zero,Nat.zero_mul,↓Ql c0,↓Q7,Nat.add_zero,wrap_u8 (Int.natCast_nonneg _) (by have:=YF bs o;omega:((byteN bs o:Nat):Int)<256)]
 exact hR
theorem go_GetInt8 (hl:o+1<=bs.length) (hn:1<=n) (hR:R (.int .i8 (IntKind.i8.wrap (byteN bs o))) H):FnS prog 342 #[bsl b o n c] H R:=by
 have c0:QaU H ⟨b,o,none⟩=some (.int .u8 (byteN bs o)):=hb.at (by omega) (by omega)
 have i0:(0:Int)<n:=by omega
 apply w342
 unfold s342
 simp only[↓QP (Int.le_refl 0) i0,Int.toNat_zero,Nat.zero_mul,↓Ql c0,↓Q7,Nat.add_zero]
 exact hR
theorem go_GetBool (hl:o+1<=bs.length) (hn:1<=n) (hR:R (.bool (decide ((byteN bs o:Int)=1))) H):FnS prog 337 #[bsl b o n c] H R:=by
 have c0:QaU H ⟨b,o,none⟩=some (.int .u8 (byteN bs o)):=hb.at (by omega) (by omega)
 have i0:(0:Int)<n:=by omega
 apply w337
 unfold s337
 simp only[↓QP (Int.le_refl 0) i0,Int.toNat_zero,Nat.zero_mul,↓Ql c0,↓Yi,Nat.add_zero]
 exact hR
theorem go_GetByte (hl:o+1<=bs.length) (hn:1<=n) (hR:R (.int .u8 (byteN bs o)) H):FnS prog 336 #[bsl b o n c] H R:=by
 apply w336
 unfold Qgs
 refine go_GetUint8 hb hl hn ?_
 exact hR
theorem ZG (hl:o+4<=bs.length) (hn:4<=n) (hR:R (.int .u32 (le4 bs o:Int)) H):FnS prog 246 #[bsl b o n c] H R:=by
 apply w246
 unfold s246
 refine Qhs hb hl hn ?_
 have e:IntKind.u32.wrap (IntKind.i32.wrap (le4 bs o:Int))=(le4 bs o:Int):=by
  have h:=QeX .i32 (le4 bs o:Int)
  have h2:=le4_lt bs o
  rw[QiT .u32 (y:=(le4 bs o:Int)) (by exact h)]
  exact QU (by omega) (by omega)
 simp only[↓Q7,e]
 exact hR
theorem go_GetSOffsetT (hl:o+4<=bs.length) (hn:4<=n) (hR:R (.int .i32 (IntKind.i32.wrap (le4 bs o:Int))) H):FnS prog 359 #[bsl b o n c] H R:=by
 apply w359
 unfold Qgs
 refine Qhs hb hl hn ?_
 exact hR
theorem Qd7 (hl:o+2<=bs.length) (hn:2<=n) (hR:R (.int .u16 (le2 bs o:Int)) H):FnS prog 355 #[bsl b o n c] H R:=by
 apply w355
 unfold Qgs
 refine Qj2 hb hl hn ?_
 exact hR
omit hb in
theorem Zf {w:World} {n:Int}:(callFunc 67 #[.int .u32 n]).run prog w= .ok (.value (.float .f32 n.toNat)) w:=by
 rw[run_callFunc_extern (fn:=Tryz.f67) (e:=Extern.MathFloatBits.float32frombits) Tryz.func67 (by kernel_rfl) (by kernel_rfl) (by kernel_rfl) (by kernel_rfl)]
 rfl
omit hb in
theorem QY {P:Program} {f:FuncId} {args:Array Value} {v:Value} {k:Value->Prop} (h:∀w,(callFunc f args).run P w= .ok (.value v) w) (hk:k v):Qbv P f args k:=⟨v,h,hk⟩
theorem go_GetFloat32 (hl:o+4<=bs.length) (hn:4<=n) (hR:R (.float .f32 (le4 bs o)) H):FnS prog 341 #[bsl b o n c] H R:=by
 apply w341
 unfold s341
 refine QiY hb hl hn ?_
 refine QY (fun w=>Zf) ?_
 exact hR
omit hb in
theorem QbU {w:World} {n:Int}:(callFunc 71 #[.int .u64 n]).run prog w= .ok (.value (.float .f64 n.toNat)) w:=by
 rw[run_callFunc_extern (fn:=Tryz.f71) (e:=Extern.MathFloatBits.float64frombits) Tryz.func71 (by kernel_rfl) (by kernel_rfl) (by kernel_rfl) (by kernel_rfl)]
 rfl
theorem go_GetFloat64 (hl:o+8<=bs.length) (hn:8<=n) (hR:R (.float .f64 (le8 bs o)) H):FnS prog 343 #[bsl b o n c] H R:=by
 apply w343
 unfold s343
 refine Qj9 hb hl hn ?_
 refine QY (fun w=>QbU) ?_
 exact hR
end
end Go.Proofs
namespace Go.Proofs
open Go Go.Vc
open Tryz (prog)
set_option maxRecDepth 100000
def s288 (a b:Value) (h:Qe) (R:Kn):Prop:=
 Q1 a fun f=>
 Qf f 1 fun g=>
 LdK h g fun i=>
 QG .i32 i fun j=>
 Q1 a fun l=>
 Qf l 1 fun m=>
 LdK h m fun o=>
 Qa prog 333 #[a,o] h fun p c=>
 Qh h c<|
 Qj prog .sub 316 j p fun q=>
 QG .u32 q fun d=>
 Qa prog 334 #[a,d] c fun r e=>
 Qj prog .lss 282 b r fun s=>
 IfK s
 (QG .u32 b fun t=>
 Qj prog .add 74 d t fun u=>
 Qa prog 334 #[a,u] e fun v w=>
 R v w)
 (R (.int .u16 0) e)
theorem w288 {a b h R} (H:s288 a b h R):FnS prog 288 #[a,b] h R:=wq Tryz.func288 (by kernel_rfl) H
theorem w289 {a b h R} (H:Qcj 335 a b h R):FnS prog 289 #[a,b] h R:=wq Tryz.func289 (by kernel_rfl) H
def s290 (a b:Value) (h:Qe) (R:Kn):Prop:=
 Q1 a fun g=>
 Qf g 0 fun i=>
 LdK h i fun j=>
 Qg4 1 j (some b) none fun l=>
 Qa prog 246 #[l] h fun m c=>
 Qj prog .add 74 b m fun d=>
 Qj prog .add 74 d (.int .u32 4) fun e=>
 Q1 a fun o=>
 Qf o 0 fun p=>
 LdK c p fun q=>
 Qg4 1 q (some d) none fun r=>
 Qa prog 246 #[r] c fun s f=>
 Q1 a fun t=>
 Qf t 0 fun u=>
 LdK f u fun v=>
 Qj prog .add 74 e s fun w=>
 Qg4 1 v (some e) (some w) fun y=>
 R y f
theorem w290 {a b h R} (H:s290 a b h R):FnS prog 290 #[a,b] h R:=wq Tryz.func290 (by kernel_rfl) H
theorem w291 {a b h R} (H:Qcj 336 a b h R):FnS prog 291 #[a,b] h R:=wq Tryz.func291 (by kernel_rfl) H
theorem w292 {a b h R} (H:Qcj 337 a b h R):FnS prog 292 #[a,b] h R:=wq Tryz.func292 (by kernel_rfl) H
theorem w293 {a b h R} (H:Qcj 313 a b h R):FnS prog 293 #[a,b] h R:=wq Tryz.func293 (by kernel_rfl) H
theorem w294 {a b h R} (H:Qcj 338 a b h R):FnS prog 294 #[a,b] h R:=wq Tryz.func294 (by kernel_rfl) H
theorem w295 {a b h R} (H:Qcj 339 a b h R):FnS prog 295 #[a,b] h R:=wq Tryz.func295 (by kernel_rfl) H
theorem w296 {a b h R} (H:Qcj 340 a b h R):FnS prog 296 #[a,b] h R:=wq Tryz.func296 (by kernel_rfl) H
theorem w297 {a b h R} (H:Qcj 341 a b h R):FnS prog 297 #[a,b] h R:=wq Tryz.func297 (by kernel_rfl) H
def s298 (b a:Value) (h:Qe) (R:Kn):Prop:=
 Q1 b fun c=>
 Qf c 0 fun d=>
 LdK h d fun e=>
 Qg4 1 e (some a) none fun f=>
 Qa prog 246 #[f] h fun g i=>
 Qj prog .add 74 a g fun j=>
 R j i
theorem w298 {a b h R} (H:s298 a b h R):FnS prog 298 #[a,b] h R:=wq Tryz.func298 (by kernel_rfl) H
theorem w300 {a b h R} (H:Qcj 342 a b h R):FnS prog 300 #[a,b] h R:=wq Tryz.func300 (by kernel_rfl) H
theorem w303 {a b h R} (H:Qcj 343 a b h R):FnS prog 303 #[a,b] h R:=wq Tryz.func303 (by kernel_rfl) H
def s304 (a d:Value) (h:Qe) (R:Kn):Prop:=
 Q1 a fun e=>
 Qf e 1 fun f=>
 LdK h f fun g=>
 Qj prog .add 74 d g fun b=>
 Q1 a fun i=>
 Qf i 0 fun j=>
 LdK h j fun l=>
 Qg4 1 l (some b) none fun m=>
 Qa prog 246 #[m] h fun o c=>
 Qj prog .add 74 b o fun p=>
 Q1 a fun q=>
 Qf q 0 fun r=>
 LdK c r fun s=>
 Qg4 1 s (some p) none fun t=>
 Qa prog 246 #[t] c fun u v=>
 QG .i64 u fun w=>
 R w v
theorem w304 {a b h R} (H:s304 a b h R):FnS prog 304 #[a,b] h R:=wq Tryz.func304 (by kernel_rfl) H
def s305 (a c:Value) (h:Qe) (R:Kn):Prop:=
 Q1 a fun d=>
 Qf d 1 fun e=>
 LdK h e fun f=>
 Qj prog .add 74 c f fun b=>
 Q1 a fun g=>
 Qf g 0 fun i=>
 LdK h i fun j=>
 Qg4 1 j (some b) none fun l=>
 Qa prog 246 #[l] h fun m o=>
 Qj prog .add 74 b m fun p=>
 Qj prog .add 74 p (.int .u32 4) fun q=>
 R q o
theorem w305 {a b h R} (H:s305 a b h R):FnS prog 305 #[a,b] h R:=wq Tryz.func305 (by kernel_rfl) H
theorem w307 {a b h R} (H:Qcj 344 a b h R):FnS prog 307 #[a,b] h R:=wq Tryz.func307 (by kernel_rfl) H
def s310 (a b e:Value) (h:Qe) (R:Kn):Prop:=
 Q1 a fun f=>
 Qf f 1 fun g=>
 LdK h g fun i=>
 Qj prog .add 74 e i fun c=>
 Qa prog 345 #[a,c] h fun j l=>
 Qj prog .add 74 c j fun m=>
 Q1 b fun o=>
 Qf o 1 fun p=>
 StK l 1 p m fun d=>
 Q1 a fun q=>
 Qf q 0 fun r=>
 LdK d r fun s=>
 Q1 b fun t=>
 Qf t 0 fun u=>
 StK d 1 u s fun v=>
 R (.tuple #[]) v
theorem w310 {a b c h R} (H:s310 a b c h R):FnS prog 310 #[a,b,c] h R:=wq Tryz.func310 (by kernel_rfl) H
theorem w333 {a b h R} (H:Qcj 359 a b h R):FnS prog 333 #[a,b] h R:=wq Tryz.func333 (by kernel_rfl) H
theorem w334 {a b h R} (H:Qcj 355 a b h R):FnS prog 334 #[a,b] h R:=wq Tryz.func334 (by kernel_rfl) H
theorem w345 {a b h R} (H:Qcj 246 a b h R):FnS prog 345 #[a,b] h R:=wq Tryz.func345 (by kernel_rfl) H
end Go.Proofs
namespace Go.Proofs
open Go Go.Vc
open Tryz (prog)
set_option maxRecDepth 100000
def s57 (a b:Value) (h:Qe) (R:Kn):Prop:=
 Qg4 1 a (some b) none fun d=>
 Qa prog 246 #[d] h fun e f=>
 Qu z235.toList [] fun g=>
 Y8 f (.cells (Value.cells g) 235) fun c i=>
 Qj prog .add 74 e b fun j=>
 Qa prog 243 #[c,a,j] i fun _x18 l=>
 R c l
theorem w57 {a b h R} (H:s57 a b h R):FnS prog 57 #[a,b] h R:=wq Tryz.func57 (by kernel_rfl) H
theorem w77 {a b h R} (H:QhD 4 2 a b h R):FnS prog 77 #[a,b] h R:=wq Tryz.func77 (by kernel_rfl) H
theorem w80 {a b h R} (H:QhD 4 4 a b h R):FnS prog 80 #[a,b] h R:=wq Tryz.func80 (by kernel_rfl) H
theorem w81 {a b h R} (H:QhD 4 4 a b h R):FnS prog 81 #[a,b] h R:=wq Tryz.func81 (by kernel_rfl) H
theorem w83 {a b h R} (H:QhD 1 1 a b h R):FnS prog 83 #[a,b] h R:=wq Tryz.func83 (by kernel_rfl) H
theorem w85 {a b h R} (H:QhD 4 4 a b h R):FnS prog 85 #[a,b] h R:=wq Tryz.func85 (by kernel_rfl) H
theorem w86 {a b h R} (H:QhD 8 4 a b h R):FnS prog 86 #[a,b] h R:=wq Tryz.func86 (by kernel_rfl) H
theorem w88 {a b h R} (H:QhD 4 2 a b h R):FnS prog 88 #[a,b] h R:=wq Tryz.func88 (by kernel_rfl) H
theorem w89 {a b h R} (H:QhD 8 8 a b h R):FnS prog 89 #[a,b] h R:=wq Tryz.func89 (by kernel_rfl) H
theorem w91 {a b h R} (H:QhD 8 8 a b h R):FnS prog 91 #[a,b] h R:=wq Tryz.func91 (by kernel_rfl) H
theorem w95 {a b h R} (H:QhD 4 4 a b h R):FnS prog 95 #[a,b] h R:=wq Tryz.func95 (by kernel_rfl) H
theorem w96 {a b h R} (H:QhD 8 8 a b h R):FnS prog 96 #[a,b] h R:=wq Tryz.func96 (by kernel_rfl) H
theorem w98 {a b h R} (H:QhD 4 4 a b h R):FnS prog 98 #[a,b] h R:=wq Tryz.func98 (by kernel_rfl) H
theorem w99 {a b h R} (H:QhD 8 8 a b h R):FnS prog 99 #[a,b] h R:=wq Tryz.func99 (by kernel_rfl) H
theorem w100 {a b h R} (H:QhD 8 8 a b h R):FnS prog 100 #[a,b] h R:=wq Tryz.func100 (by kernel_rfl) H
theorem w103 {a b h R} (H:QhD 1 1 a b h R):FnS prog 103 #[a,b] h R:=wq Tryz.func103 (by kernel_rfl) H
theorem w105 {a h R} (H:tp105 49 a h R):FnS prog 105 #[a] h R:=wq Tryz.func105 (by kernel_rfl) H
theorem w107 {a b h R} (H:Yr 274 0 .u32 0 a b h R):FnS prog 107 #[a,b] h R:=wq Tryz.func107 (by kernel_rfl) H
theorem w108 {a b h R} (H:Yr 275 1 .i16 150 a b h R):FnS prog 108 #[a,b] h R:=wq Tryz.func108 (by kernel_rfl) H
theorem w109 {a b h R} (H:Yr 275 2 .i16 100 a b h R):FnS prog 109 #[a,b] h R:=wq Tryz.func109 (by kernel_rfl) H
theorem w110 {a b h R} (H:Yr 276 3 .u32 0 a b h R):FnS prog 110 #[a,b] h R:=wq Tryz.func110 (by kernel_rfl) H
theorem w111 {a b h R} (H:Yr 276 5 .u32 0 a b h R):FnS prog 111 #[a,b] h R:=wq Tryz.func111 (by kernel_rfl) H
theorem w112 {a b h R} (H:Yr 277 6 .u8 8 a b h R):FnS prog 112 #[a,b] h R:=wq Tryz.func112 (by kernel_rfl) H
theorem w113 {a b h R} (H:Yr 277 7 .u8 0 a b h R):FnS prog 113 #[a,b] h R:=wq Tryz.func113 (by kernel_rfl) H
theorem w114 {a b h R} (H:Yr 276 8 .u32 0 a b h R):FnS prog 114 #[a,b] h R:=wq Tryz.func114 (by kernel_rfl) H
theorem w115 {a b h R} (H:Yr 276 9 .u32 0 a b h R):FnS prog 115 #[a,b] h R:=wq Tryz.func115 (by kernel_rfl) H
theorem w116 {a b h R} (H:Yr 276 10 .u32 0 a b h R):FnS prog 116 #[a,b] h R:=wq Tryz.func116 (by kernel_rfl) H
theorem w117 {a b h R} (H:Yr 276 11 .u32 0 a b h R):FnS prog 117 #[a,b] h R:=wq Tryz.func117 (by kernel_rfl) H
theorem w118 {a b h R} (H:Yr 276 12 .u32 0 a b h R):FnS prog 118 #[a,b] h R:=wq Tryz.func118 (by kernel_rfl) H
theorem w119 {a b h R} (H:Yr 276 13 .u32 0 a b h R):FnS prog 119 #[a,b] h R:=wq Tryz.func119 (by kernel_rfl) H
theorem w120 {a b h R} (H:Yr 276 14 .u32 0 a b h R):FnS prog 120 #[a,b] h R:=wq Tryz.func120 (by kernel_rfl) H
def s121 (a b:Value) (h:Qe) (R:Kn):Prop:=
 Qa prog 278 #[a,(.int .i64 15),b,(.bool false)] h fun _x6 c=>
 R (.tuple #[]) c
theorem w121 {a b h R} (H:s121 a b h R):FnS prog 121 #[a,b] h R:=wq Tryz.func121 (by kernel_rfl) H
theorem w122 {a b h R} (H:Yr 279 16 .i32 0 a b h R):FnS prog 122 #[a,b] h R:=wq Tryz.func122 (by kernel_rfl) H
theorem w123 {a b h R} (H:Yr 280 17 .u32 0 a b h R):FnS prog 123 #[a,b] h R:=wq Tryz.func123 (by kernel_rfl) H
theorem w124 {a b h R} (H:Yr 281 18 .i64 0 a b h R):FnS prog 124 #[a,b] h R:=wq Tryz.func124 (by kernel_rfl) H
theorem w125 {a b h R} (H:Yr 282 19 .u64 0 a b h R):FnS prog 125 #[a,b] h R:=wq Tryz.func125 (by kernel_rfl) H
theorem w126 {a b h R} (H:Yr 279 20 .i32 0 a b h R):FnS prog 126 #[a,b] h R:=wq Tryz.func126 (by kernel_rfl) H
theorem w127 {a b h R} (H:Yr 280 21 .u32 0 a b h R):FnS prog 127 #[a,b] h R:=wq Tryz.func127 (by kernel_rfl) H
theorem w128 {a b h R} (H:Yr 281 22 .i64 0 a b h R):FnS prog 128 #[a,b] h R:=wq Tryz.func128 (by kernel_rfl) H
theorem w129 {a b h R} (H:Yr 282 23 .u64 0 a b h R):FnS prog 129 #[a,b] h R:=wq Tryz.func129 (by kernel_rfl) H
theorem w130 {a b h R} (H:Yr 276 24 .u32 0 a b h R):FnS prog 130 #[a,b] h R:=wq Tryz.func130 (by kernel_rfl) H
def s131 (a b:Value) (h:Qe) (R:Kn):Prop:=
 Qa prog 283 #[a,(.int .i64 25),b,(.float .f32 1078530000)] h fun _x6 c=>
 R (.tuple #[]) c
theorem w131 {a b h R} (H:s131 a b h R):FnS prog 131 #[a,b] h R:=wq Tryz.func131 (by kernel_rfl) H
def s132 (a b:Value) (h:Qe) (R:Kn):Prop:=
 Qa prog 283 #[a,(.int .i64 26),b,(.float .f32 1077936128)] h fun _x6 c=>
 R (.tuple #[]) c
theorem w132 {a b h R} (H:s132 a b h R):FnS prog 132 #[a,b] h R:=wq Tryz.func132 (by kernel_rfl) H
def s133 (a b:Value) (h:Qe) (R:Kn):Prop:=
 Qa prog 283 #[a,(.int .i64 27),b,(.float .f32 0)] h fun _x6 c=>
 R (.tuple #[]) c
theorem w133 {a b h R} (H:s133 a b h R):FnS prog 133 #[a,b] h R:=wq Tryz.func133 (by kernel_rfl) H
theorem w134 {a b h R} (H:Yr 276 28 .u32 0 a b h R):FnS prog 134 #[a,b] h R:=wq Tryz.func134 (by kernel_rfl) H
theorem w135 {a b h R} (H:Yr 276 29 .u32 0 a b h R):FnS prog 135 #[a,b] h R:=wq Tryz.func135 (by kernel_rfl) H
theorem w136 {a b h R} (H:Yr 276 30 .u32 0 a b h R):FnS prog 136 #[a,b] h R:=wq Tryz.func136 (by kernel_rfl) H
theorem w137 {a b h R} (H:Yr 276 31 .u32 0 a b h R):FnS prog 137 #[a,b] h R:=wq Tryz.func137 (by kernel_rfl) H
theorem w138 {a b h R} (H:Yr 276 32 .u32 0 a b h R):FnS prog 138 #[a,b] h R:=wq Tryz.func138 (by kernel_rfl) H
theorem w139 {a b h R} (H:Yr 276 33 .u32 0 a b h R):FnS prog 139 #[a,b] h R:=wq Tryz.func139 (by kernel_rfl) H
theorem w140 {a b h R} (H:Yr 276 34 .u32 0 a b h R):FnS prog 140 #[a,b] h R:=wq Tryz.func140 (by kernel_rfl) H
theorem w141 {a b h R} (H:Yr 276 35 .u32 0 a b h R):FnS prog 141 #[a,b] h R:=wq Tryz.func141 (by kernel_rfl) H
theorem w142 {a b h R} (H:Yr 282 36 .u64 0 a b h R):FnS prog 142 #[a,b] h R:=wq Tryz.func142 (by kernel_rfl) H
theorem w143 {a b h R} (H:Yr 276 37 .u32 0 a b h R):FnS prog 143 #[a,b] h R:=wq Tryz.func143 (by kernel_rfl) H
theorem w144 {a b h R} (H:Yr 276 38 .u32 0 a b h R):FnS prog 144 #[a,b] h R:=wq Tryz.func144 (by kernel_rfl) H
theorem w145 {a b h R} (H:Yr 282 39 .u64 0 a b h R):FnS prog 145 #[a,b] h R:=wq Tryz.func145 (by kernel_rfl) H
theorem w146 {a b h R} (H:Yr 276 40 .u32 0 a b h R):FnS prog 146 #[a,b] h R:=wq Tryz.func146 (by kernel_rfl) H
theorem w147 {a b h R} (H:Yr 282 41 .u64 0 a b h R):FnS prog 147 #[a,b] h R:=wq Tryz.func147 (by kernel_rfl) H
theorem w148 {a b h R} (H:Yr 276 42 .u32 0 a b h R):FnS prog 148 #[a,b] h R:=wq Tryz.func148 (by kernel_rfl) H
theorem w149 {a b h R} (H:Yr 277 43 .u8 0 a b h R):FnS prog 149 #[a,b] h R:=wq Tryz.func149 (by kernel_rfl) H
theorem w150 {a b h R} (H:Yr 276 44 .u32 0 a b h R):FnS prog 150 #[a,b] h R:=wq Tryz.func150 (by kernel_rfl) H
theorem w151 {a b h R} (H:Yr 277 45 .u8 0 a b h R):FnS prog 151 #[a,b] h R:=wq Tryz.func151 (by kernel_rfl) H
theorem w152 {a b h R} (H:Yr 276 46 .u32 0 a b h R):FnS prog 152 #[a,b] h R:=wq Tryz.func152 (by kernel_rfl) H
theorem w153 {a b h R} (H:Yr 276 47 .u32 0 a b h R):FnS prog 153 #[a,b] h R:=wq Tryz.func153 (by kernel_rfl) H
theorem w154 {a b h R} (H:Yr 284 48 .i8 (-1) a b h R):FnS prog 154 #[a,b] h R:=wq Tryz.func154 (by kernel_rfl) H
theorem w155 {a h R} (H:Qgs 285 a h R):FnS prog 155 #[a] h R:=wq Tryz.func155 (by kernel_rfl) H
theorem w162 {a h R} (H:Qej 6 289 .i16 150 a h R):FnS prog 162 #[a] h R:=wq Tryz.func162 (by kernel_rfl) H
theorem w163 {a h R} (H:Qej 8 289 .i16 100 a h R):FnS prog 163 #[a] h R:=wq Tryz.func163 (by kernel_rfl) H
theorem w164 {a h R} (H:tp164 10 a h R):FnS prog 164 #[a] h R:=wq Tryz.func164 (by kernel_rfl) H
theorem w165 {a h R} (H:Qej 16 291 .u8 8 a h R):FnS prog 165 #[a] h R:=wq Tryz.func165 (by kernel_rfl) H
def s166 (a:Value) (h:Qe) (R:Kn):Prop:=
 Q1 a fun d=>
 Qf d 0 fun e=>
 Qa prog 288 #[e,(.int .u16 34)] h fun f b=>
 QG .u32 f fun c=>
 Qj prog .neq 74 c (.int .u32 0) fun g=>
 IfK g
 (Q1 a fun i=>
 Qf i 0 fun j=>
 Q1 a fun l=>
 Qf l 0 fun m=>
 Qf m 1 fun o=>
 LdK b o fun p=>
 Qj prog .add 74 c p fun q=>
 Qa prog 292 #[j,q] b fun r s=>
 R r s)
 (R (.bool false) b)
theorem w166 {a h R} (H:s166 a h R):FnS prog 166 #[a] h R:=wq Tryz.func166 (by kernel_rfl) H
theorem w167 {a h R} (H:Qej 36 293 .i32 0 a h R):FnS prog 167 #[a] h R:=wq Tryz.func167 (by kernel_rfl) H
theorem w168 {a h R} (H:Qej 38 294 .u32 0 a h R):FnS prog 168 #[a] h R:=wq Tryz.func168 (by kernel_rfl) H
theorem w169 {a h R} (H:Qej 40 295 .i64 0 a h R):FnS prog 169 #[a] h R:=wq Tryz.func169 (by kernel_rfl) H
theorem w170 {a h R} (H:Qej 42 296 .u64 0 a h R):FnS prog 170 #[a] h R:=wq Tryz.func170 (by kernel_rfl) H
theorem w171 {a h R} (H:Qej 44 293 .i32 0 a h R):FnS prog 171 #[a] h R:=wq Tryz.func171 (by kernel_rfl) H
theorem w172 {a h R} (H:Qej 46 294 .u32 0 a h R):FnS prog 172 #[a] h R:=wq Tryz.func172 (by kernel_rfl) H
theorem w173 {a h R} (H:Qej 48 295 .i64 0 a h R):FnS prog 173 #[a] h R:=wq Tryz.func173 (by kernel_rfl) H
theorem w174 {a h R} (H:Qej 50 296 .u64 0 a h R):FnS prog 174 #[a] h R:=wq Tryz.func174 (by kernel_rfl) H
def s176 (a:Value) (h:Qe) (R:Kn):Prop:=
 Q1 a fun d=>
 Qf d 0 fun e=>
 Qa prog 288 #[e,(.int .u16 54)] h fun f b=>
 QG .u32 f fun c=>
 Qj prog .neq 74 c (.int .u32 0) fun g=>
 IfK g
 (Q1 a fun i=>
 Qf i 0 fun j=>
 Q1 a fun l=>
 Qf l 0 fun m=>
 Qf m 1 fun o=>
 LdK b o fun p=>
 Qj prog .add 74 c p fun q=>
 Qa prog 297 #[j,q] b fun r s=>
 R r s)
 (R (.float .f32 1078530000) b)
theorem w176 {a h R} (H:s176 a h R):FnS prog 176 #[a] h R:=wq Tryz.func176 (by kernel_rfl) H
def s177 (a:Value) (h:Qe) (R:Kn):Prop:=
 Q1 a fun d=>
 Qf d 0 fun e=>
 Qa prog 288 #[e,(.int .u16 56)] h fun f b=>
 QG .u32 f fun c=>
 Qj prog .neq 74 c (.int .u32 0) fun g=>
 IfK g
 (Q1 a fun i=>
 Qf i 0 fun j=>
 Q1 a fun l=>
 Qf l 0 fun m=>
 Qf m 1 fun o=>
 LdK b o fun p=>
 Qj prog .add 74 c p fun q=>
 Qa prog 297 #[j,q] b fun r s=>
 R r s)
 (R (.float .f32 1077936128) b)
theorem w177 {a h R} (H:s177 a h R):FnS prog 177 #[a] h R:=wq Tryz.func177 (by kernel_rfl) H
def s178 (a:Value) (h:Qe) (R:Kn):Prop:=
 Q1 a fun d=>
 Qf d 0 fun e=>
 Qa prog 288 #[e,(.int .u16 58)] h fun f b=>
 QG .u32 f fun c=>
 Qj prog .neq 74 c (.int .u32 0) fun g=>
 IfK g
 (Q1 a fun i=>
 Qf i 0 fun j=>
 Q1 a fun l=>
 Qf l 0 fun m=>
 Qf m 1 fun o=>
 LdK b o fun p=>
 Qj prog .add 74 c p fun q=>
 Qa prog 297 #[j,q] b fun r s=>
 R r s)
 (R (.float .f32 0) b)
theorem w178 {a h R} (H:s178 a h R):FnS prog 178 #[a] h R:=wq Tryz.func178 (by kernel_rfl) H
theorem w179 {a b h R} (H:tp179 72 214 z295 295 299 a b h R):FnS prog 179 #[a,b] h R:=wq Tryz.func179 (by kernel_rfl) H
theorem w180 {a h R} (H:Qej 76 296 .u64 0 a h R):FnS prog 180 #[a] h R:=wq Tryz.func180 (by kernel_rfl) H
theorem w181 {a h R} (H:Qej 82 296 .u64 0 a h R):FnS prog 181 #[a] h R:=wq Tryz.func181 (by kernel_rfl) H
theorem w182 {a h R} (H:Qej 86 296 .u64 0 a h R):FnS prog 182 #[a] h R:=wq Tryz.func182 (by kernel_rfl) H
theorem w183 {a h R} (H:Qej 100 300 .i8 (-1) a h R):FnS prog 183 #[a] h R:=wq Tryz.func183 (by kernel_rfl) H
def s184 (c f:Value) (h:Qe) (R:Kn):Prop:=
 Q1 c fun i=>
 Qf i 0 fun j=>
 Qa prog 288 #[j,(.int .u16 4)] h fun l a=>
 QG .u32 l fun g=>
 Qj prog .neq 74 g (.int .u32 0) fun m=>
 IfK m
 (Q1 c fun o=>
 Qf o 0 fun p=>
 Qf p 1 fun q=>
 LdK a q fun r=>
 Qj prog .add 74 g r fun s=>
 QA (fun b=>
 Qj prog .eql 217 f (.pointer none) fun t=>
 IfK t
 (Y8 a (.cells z297 297) fun u v=>
 b [u] v)
 (b [f] a)) fun b=>∀d:Value,∀e:Qe,b [d] e->
 Q1 c fun w=>
 Qf w 0 fun y=>
 Qf y 0 fun z=>
 LdK e z fun a0=>
 Qa prog 301 #[d,a0,s] e fun _x31 a1=>
 R d a1)
 (R (.pointer none) a)
theorem w184 {a b h R} (H:s184 a b h R):FnS prog 184 #[a,b] h R:=wq Tryz.func184 (by kernel_rfl) H
def s185 (d e:Value) (h:Qe) (R:Kn):Prop:=
 QA (fun a=>
 Qj prog .eql 219 e (.pointer none) fun f=>
 IfK f
 (Y8 h (.cells z231 231) fun g i=>
 a [g] i)
 (a [e] h)) fun a=>∀c:Value,∀b:Qe,a [c] b->
 Q1 d fun j=>
 Qf j 0 fun l=>
 Qf l 0 fun m=>
 Qf m 0 fun o=>
 LdK b o fun p=>
 Q1 d fun q=>
 Qf q 0 fun r=>
 Qf r 0 fun s=>
 Qf s 1 fun t=>
 LdK b t fun u=>
 Qj prog .add 74 u (.int .u32 26) fun v=>
 Qa prog 302 #[c,p,v] b fun _x22 w=>
 R c w
theorem w185 {a b h R} (H:s185 a b h R):FnS prog 185 #[a,b] h R:=wq Tryz.func185 (by kernel_rfl) H
theorem w186 {a h R} (H:tp186 0 297 a h R):FnS prog 186 #[a] h R:=wq Tryz.func186 (by kernel_rfl) H
theorem w187 {a h R} (H:tp186 4 297 a h R):FnS prog 187 #[a] h R:=wq Tryz.func187 (by kernel_rfl) H
theorem w188 {a h R} (H:tp186 8 297 a h R):FnS prog 188 #[a] h R:=wq Tryz.func188 (by kernel_rfl) H
theorem w190 {a h R} (H:tp186 16 303 a h R):FnS prog 190 #[a] h R:=wq Tryz.func190 (by kernel_rfl) H
theorem w191 {a h R} (H:tp186 24 291 a h R):FnS prog 191 #[a] h R:=wq Tryz.func191 (by kernel_rfl) H
theorem w192 {a h R} (H:tp186 0 289 a h R):FnS prog 192 #[a] h R:=wq Tryz.func192 (by kernel_rfl) H
theorem w193 {a h R} (H:tp186 2 300 a h R):FnS prog 193 #[a] h R:=wq Tryz.func193 (by kernel_rfl) H
theorem w194 {a h R} (H:Qg2 14 a h R):FnS prog 194 #[a] h R:=wq Tryz.func194 (by kernel_rfl) H
theorem w195 {a b h R} (H:tp195 14 1 291 .u8 a b h R):FnS prog 195 #[a,b] h R:=wq Tryz.func195 (by kernel_rfl) H
theorem w196 {a h R} (H:Qg2 22 a h R):FnS prog 196 #[a] h R:=wq Tryz.func196 (by kernel_rfl) H
theorem w197 {a b c h R} (H:tp197 22 4 302 a b c h R):FnS prog 197 #[a,b,c] h R:=wq Tryz.func197 (by kernel_rfl) H
theorem w198 {a h R} (H:Qg2 24 a h R):FnS prog 198 #[a] h R:=wq Tryz.func198 (by kernel_rfl) H
theorem w199 {a b h R} (H:tp199 24 a b h R):FnS prog 199 #[a,b] h R:=wq Tryz.func199 (by kernel_rfl) H
theorem w200 {a h R} (H:Qg2 26 a h R):FnS prog 200 #[a] h R:=wq Tryz.func200 (by kernel_rfl) H
theorem w201 {a b c h R} (H:tp201 26 243 a b c h R):FnS prog 201 #[a,b,c] h R:=wq Tryz.func201 (by kernel_rfl) H
theorem w202 {a b h R} (H:tp179 28 128 z235 235 243 a b h R):FnS prog 202 #[a,b] h R:=wq Tryz.func202 (by kernel_rfl) H
theorem w203 {a h R} (H:Qg2 30 a h R):FnS prog 203 #[a] h R:=wq Tryz.func203 (by kernel_rfl) H
theorem w204 {a b h R} (H:tp195 30 1 291 .u8 a b h R):FnS prog 204 #[a,b] h R:=wq Tryz.func204 (by kernel_rfl) H
theorem w205 {a b h R} (H:tp179 32 238 z300 300 306 a b h R):FnS prog 205 #[a,b] h R:=wq Tryz.func205 (by kernel_rfl) H
theorem w206 {a h R} (H:tp164 4 a h R):FnS prog 206 #[a] h R:=wq Tryz.func206 (by kernel_rfl) H
theorem w207 {a h R} (H:Qej 6 295 .i64 0 a h R):FnS prog 207 #[a] h R:=wq Tryz.func207 (by kernel_rfl) H
theorem w208 {a h R} (H:Qej 8 307 .u16 0 a h R):FnS prog 208 #[a] h R:=wq Tryz.func208 (by kernel_rfl) H
theorem w209 {a h R} (H:Qg2 52 a h R):FnS prog 209 #[a] h R:=wq Tryz.func209 (by kernel_rfl) H
def s210 (a d:Value) (h:Qe) (R:Kn):Prop:=
 Q1 a fun e=>
 Qf e 0 fun f=>
 Qa prog 288 #[f,(.int .u16 52)] h fun g b=>
 QG .u32 g fun c=>
 Qj prog .neq 74 c (.int .u32 0) fun i=>
 IfK i
 (Q1 a fun j=>
 Qf j 0 fun l=>
 Qa prog 305 #[l,c] b fun m o=>
 Q1 a fun p=>
 Qf p 0 fun q=>
 Qj prog .mul 3 d (.int .i64 1) fun r=>
 QG .u32 r fun s=>
 Qj prog .add 74 m s fun t=>
 Qa prog 292 #[q,t] o fun u v=>
 R u v)
 (R (.bool false) b)
theorem w210 {a b h R} (H:s210 a b h R):FnS prog 210 #[a,b] h R:=wq Tryz.func210 (by kernel_rfl) H
theorem w211 {a h R} (H:Qg2 60 a h R):FnS prog 211 #[a] h R:=wq Tryz.func211 (by kernel_rfl) H
theorem w212 {a b h R} (H:tp199 60 a b h R):FnS prog 212 #[a,b] h R:=wq Tryz.func212 (by kernel_rfl) H
theorem w213 {a h R} (H:Qg2 62 a h R):FnS prog 213 #[a] h R:=wq Tryz.func213 (by kernel_rfl) H
theorem w214 {a b c h R} (H:tp197 62 8 308 a b c h R):FnS prog 214 #[a,b,c] h R:=wq Tryz.func214 (by kernel_rfl) H
theorem w215 {a h R} (H:tp186 0 294 a h R):FnS prog 215 #[a] h R:=wq Tryz.func215 (by kernel_rfl) H
theorem w216 {a h R} (H:tp186 4 294 a h R):FnS prog 216 #[a] h R:=wq Tryz.func216 (by kernel_rfl) H
theorem w217 {a h R} (H:Qg2 64 a h R):FnS prog 217 #[a] h R:=wq Tryz.func217 (by kernel_rfl) H
theorem w218 {a b h R} (H:tp195 64 1 291 .u8 a b h R):FnS prog 218 #[a,b] h R:=wq Tryz.func218 (by kernel_rfl) H
theorem w219 {a h R} (H:Qg2 66 a h R):FnS prog 219 #[a] h R:=wq Tryz.func219 (by kernel_rfl) H
theorem w220 {a b c h R} (H:tp197 66 4 302 a b c h R):FnS prog 220 #[a,b,c] h R:=wq Tryz.func220 (by kernel_rfl) H
theorem w221 {a h R} (H:Qg2 68 a h R):FnS prog 221 #[a] h R:=wq Tryz.func221 (by kernel_rfl) H
theorem w222 {a b h R} (H:tp195 68 8 295 .i64 a b h R):FnS prog 222 #[a,b] h R:=wq Tryz.func222 (by kernel_rfl) H
theorem w223 {a h R} (H:Qg2 70 a h R):FnS prog 223 #[a] h R:=wq Tryz.func223 (by kernel_rfl) H
def s224 (a d:Value) (h:Qe) (R:Kn):Prop:=
 Q1 a fun e=>
 Qf e 0 fun f=>
 Qa prog 288 #[f,(.int .u16 70)] h fun g b=>
 QG .u32 g fun c=>
 Qj prog .neq 74 c (.int .u32 0) fun i=>
 IfK i
 (Q1 a fun j=>
 Qf j 0 fun l=>
 Qa prog 305 #[l,c] b fun m o=>
 Q1 a fun p=>
 Qf p 0 fun q=>
 Qj prog .mul 3 d (.int .i64 8) fun r=>
 QG .u32 r fun s=>
 Qj prog .add 74 m s fun t=>
 Qa prog 303 #[q,t] o fun u v=>
 R u v)
 (R (.float .f64 0) b)
theorem w224 {a b h R} (H:s224 a b h R):FnS prog 224 #[a,b] h R:=wq Tryz.func224 (by kernel_rfl) H
theorem w225 {a h R} (H:Qg2 74 a h R):FnS prog 225 #[a] h R:=wq Tryz.func225 (by kernel_rfl) H
theorem w226 {a b c h R} (H:tp201 74 309 a b c h R):FnS prog 226 #[a,b,c] h R:=wq Tryz.func226 (by kernel_rfl) H
theorem w227 {a h R} (H:Qej 4 296 .u64 0 a h R):FnS prog 227 #[a] h R:=wq Tryz.func227 (by kernel_rfl) H
theorem w228 {a h R} (H:Qg2 78 a h R):FnS prog 228 #[a] h R:=wq Tryz.func228 (by kernel_rfl) H
theorem w229 {a b h R} (H:tp195 78 8 296 .u64 a b h R):FnS prog 229 #[a,b] h R:=wq Tryz.func229 (by kernel_rfl) H
theorem w230 {a h R} (H:Qg2 80 a h R):FnS prog 230 #[a] h R:=wq Tryz.func230 (by kernel_rfl) H
theorem w231 {a b c h R} (H:tp201 80 309 a b c h R):FnS prog 231 #[a,b,c] h R:=wq Tryz.func231 (by kernel_rfl) H
theorem w232 {a h R} (H:Qg2 84 a h R):FnS prog 232 #[a] h R:=wq Tryz.func232 (by kernel_rfl) H
theorem w233 {a b h R} (H:tp195 84 8 296 .u64 a b h R):FnS prog 233 #[a,b] h R:=wq Tryz.func233 (by kernel_rfl) H
theorem w234 {a h R} (H:Qg2 88 a h R):FnS prog 234 #[a] h R:=wq Tryz.func234 (by kernel_rfl) H
theorem w235 {a b h R} (H:tp195 88 8 296 .u64 a b h R):FnS prog 235 #[a,b] h R:=wq Tryz.func235 (by kernel_rfl) H
theorem w236 {a b h R} (H:tp236 20 a b h R):FnS prog 236 #[a,b] h R:=wq Tryz.func236 (by kernel_rfl) H
theorem w238 {a h R} (H:Qej 18 291 .u8 0 a h R):FnS prog 238 #[a] h R:=wq Tryz.func238 (by kernel_rfl) H
theorem w239 {a b h R} (H:tp236 92 a b h R):FnS prog 239 #[a,b] h R:=wq Tryz.func239 (by kernel_rfl) H
theorem w240 {a h R} (H:Qej 90 291 .u8 0 a h R):FnS prog 240 #[a] h R:=wq Tryz.func240 (by kernel_rfl) H
theorem w241 {a h R} (H:Qej 94 291 .u8 0 a h R):FnS prog 241 #[a] h R:=wq Tryz.func241 (by kernel_rfl) H
theorem w242 {a b h R} (H:tp236 96 a b h R):FnS prog 242 #[a,b] h R:=wq Tryz.func242 (by kernel_rfl) H
theorem w243 {a b c h R} (H:tp243 a b c h R):FnS prog 243 #[a,b,c] h R:=wq Tryz.func243 (by kernel_rfl) H
theorem w244 {a h R} (H:Qg2 98 a h R):FnS prog 244 #[a] h R:=wq Tryz.func244 (by kernel_rfl) H
theorem w245 {a b h R} (H:tp195 98 1 291 .u8 a b h R):FnS prog 245 #[a,b] h R:=wq Tryz.func245 (by kernel_rfl) H
def s255 (a b c:Value) (h:Qe) (R:Kn):Prop:=
 Qa prog 61 #[a,(.int .i64 2),(.int .i64 4)] h fun _x8 d=>
 Qa prog 248 #[a,(.int .i64 1)] d fun _x10 e=>
 Qa prog 321 #[a,c] e fun _x13 f=>
 Qa prog 322 #[a,b] f fun _x16 g=>
 Qa prog 249 #[a] g fun i j=>
 R i j
theorem w255 {a b c h R} (H:s255 a b c h R):FnS prog 255 #[a,b,c] h R:=wq Tryz.func255 (by kernel_rfl) H
theorem w257 {a h R} (H:tp105 3 a h R):FnS prog 257 #[a] h R:=wq Tryz.func257 (by kernel_rfl) H
theorem w258 {a b h R} (H:Yr 276 0 .u32 0 a b h R):FnS prog 258 #[a,b] h R:=wq Tryz.func258 (by kernel_rfl) H
theorem w259 {a b h R} (H:Yr 281 1 .i64 0 a b h R):FnS prog 259 #[a,b] h R:=wq Tryz.func259 (by kernel_rfl) H
theorem w260 {a b h R} (H:Yr 323 2 .u16 0 a b h R):FnS prog 260 #[a,b] h R:=wq Tryz.func260 (by kernel_rfl) H
theorem w261 {a h R} (H:Qgs 285 a h R):FnS prog 261 #[a] h R:=wq Tryz.func261 (by kernel_rfl) H
def s263 (a b c:Value) (h:Qe) (R:Kn):Prop:=
 Qa prog 61 #[a,(.int .i64 4),(.int .i64 8)] h fun _x8 d=>
 Qa prog 325 #[a,c] d fun _x11 e=>
 Qa prog 325 #[a,b] e fun _x14 f=>
 Qa prog 249 #[a] f fun g i=>
 R g i
theorem w263 {a b c h R} (H:s263 a b c h R):FnS prog 263 #[a,b,c] h R:=wq Tryz.func263 (by kernel_rfl) H
theorem w266 {a h R} (H:tp105 0 a h R):FnS prog 266 #[a] h R:=wq Tryz.func266 (by kernel_rfl) H
theorem w267 {a h R} (H:Qgs 285 a h R):FnS prog 267 #[a] h R:=wq Tryz.func267 (by kernel_rfl) H
theorem w268 {a h R} (H:tp105 1 a h R):FnS prog 268 #[a] h R:=wq Tryz.func268 (by kernel_rfl) H
theorem w269 {a b h R} (H:Yr 282 0 .u64 0 a b h R):FnS prog 269 #[a,b] h R:=wq Tryz.func269 (by kernel_rfl) H
theorem w270 {a h R} (H:Qgs 285 a h R):FnS prog 270 #[a] h R:=wq Tryz.func270 (by kernel_rfl) H
def s273 (a b c d e f g i:Value) (h:Qe) (R:Kn):Prop:=
 Qa prog 61 #[a,(.int .i64 8),(.int .i64 32)] h fun _x18 j=>
 Qa prog 248 #[a,(.int .i64 2)] j fun _x20 l=>
 Qa prog 61 #[a,(.int .i64 2),(.int .i64 4)] l fun _x22 m=>
 Qa prog 248 #[a,(.int .i64 1)] m fun _x24 o=>
 Qa prog 321 #[a,i] o fun _x27 p=>
 Qa prog 322 #[a,g] p fun _x30 q=>
 Qa prog 248 #[a,(.int .i64 1)] q fun _x32 r=>
 Qa prog 104 #[a,f] r fun _x35 s=>
 Qa prog 92 #[a,e] s fun _x38 t=>
 Qa prog 248 #[a,(.int .i64 4)] t fun _x40 u=>
 Qa prog 329 #[a,d] u fun _x43 v=>
 Qa prog 329 #[a,c] v fun _x46 w=>
 Qa prog 329 #[a,b] w fun _x49 y=>
 Qa prog 249 #[a] y fun z a0=>
 R z a0
theorem w273 {a b c d e f g i h R} (H:s273 a b c d e f g i h R):FnS prog 273 #[a,b,c,d,e,f,g,i] h R:=wq Tryz.func273 (by kernel_rfl) H
theorem w299 {a b c h R} (H:tp243 a b c h R):FnS prog 299 #[a,b,c] h R:=wq Tryz.func299 (by kernel_rfl) H
theorem w301 {a b c h R} (H:tp301 a b c h R):FnS prog 301 #[a,b,c] h R:=wq Tryz.func301 (by kernel_rfl) H
theorem w302 {a b c h R} (H:tp301 a b c h R):FnS prog 302 #[a,b,c] h R:=wq Tryz.func302 (by kernel_rfl) H
theorem w306 {a b c h R} (H:tp243 a b c h R):FnS prog 306 #[a,b,c] h R:=wq Tryz.func306 (by kernel_rfl) H
theorem w308 {a b c h R} (H:tp301 a b c h R):FnS prog 308 #[a,b,c] h R:=wq Tryz.func308 (by kernel_rfl) H
theorem w309 {a b c h R} (H:tp243 a b c h R):FnS prog 309 #[a,b,c] h R:=wq Tryz.func309 (by kernel_rfl) H
theorem w311 {a b c h R} (H:tp243 a b c h R):FnS prog 311 #[a,b,c] h R:=wq Tryz.func311 (by kernel_rfl) H
theorem w312 {a h R} (H:Qej 4 291 .u8 2 a h R):FnS prog 312 #[a] h R:=wq Tryz.func312 (by kernel_rfl) H
theorem w316 {a h R} (H:tp105 1 a h R):FnS prog 316 #[a] h R:=wq Tryz.func316 (by kernel_rfl) H
theorem w317 {a b h R} (H:Yr 277 0 .u8 2 a b h R):FnS prog 317 #[a,b] h R:=wq Tryz.func317 (by kernel_rfl) H
theorem w318 {a h R} (H:Qgs 285 a h R):FnS prog 318 #[a] h R:=wq Tryz.func318 (by kernel_rfl) H
theorem w319 {a h R} (H:tp105 0 a h R):FnS prog 319 #[a] h R:=wq Tryz.func319 (by kernel_rfl) H
theorem w320 {a h R} (H:Qgs 285 a h R):FnS prog 320 #[a] h R:=wq Tryz.func320 (by kernel_rfl) H
end Go.Proofs
namespace Go.Proofs
open Go Go.Vc
open Tryz (prog)
theorem SlcB {k:Value->Prop} {κ:IntKind} {b n m:Nat} {x:Int} (hx:x=m) (hm:m<n):
  Qg4 1 (bsl b 0 n n) (some (.int κ x)) none k=k (bsl b m (n-m) (n-m)):=by
 subst hx
 rw[bsl,SlcK_lo (by omega) (by omega) (Nat.le_refl n)]
 have:¬n=m:=by omega
 simp[this]
structure Tab (H:Qe) (p B:Nat) (bs:List UInt8) (pos:Nat):Prop where
 c0:QaU H ⟨p,0,none⟩=some (bsl B 0 bs.length bs.length)
 c1:QaU H ⟨p,1,none⟩=some (.int .u32 pos)
 u8:U8s H B 0 bs
 lt:bs.length<2147483648
 le:pos<=bs.length
theorem U8s_ext {H H':Qe} (hx:Qig H H') {b o:Nat} {bs:List UInt8} (h:U8s H b o bs):U8s H' b o bs:=fun i hi=>hx _ _ (h i hi)
theorem Tab.ext {H H':Qe} (hx:Qig H H') {p B:Nat} {bs:List UInt8} {pos:Nat} (h:Tab H p B bs pos):Tab H' p B bs pos:=
 ⟨hx _ _ h.c0,hx _ _ h.c1,U8s_ext hx h.u8,h.lt,h.le⟩
def leN (k:Nat) (bs:List UInt8) (o:Nat):Nat:=match k with|1=>byteN bs o|2=>le2 bs o|4=>le4 bs o|_=>le8 bs o
structure VT (bs:List UInt8) (pos vt:Nat):Prop where
 hp:pos+4<=bs.length
 hs:(pos:Int)-IntKind.i32.wrap (le4 bs pos)=vt
 he:vt+le2 bs vt<=bs.length
 h4:4<=le2 bs vt
 ev:le2 bs vt%2=0
def slotAt (bs:List UInt8) (vt vo:Nat):Nat:=if vo<le2 bs vt then le2 bs (vt+vo) else 0
theorem slotAt_lt (bs:List UInt8) (vt vo:Nat):slotAt bs vt vo<65536:=by
 unfold slotAt;split
 ·exact le2_lt _ _
 ·omega
section
variable {H:Qe} {p B:Nat} {bs:List UInt8} {pos:Nat} (ht:Tab H p B bs pos) {R:Kn}
include ht
theorem go_Table_Offset {vt vo:Nat} (hv:VT bs pos vt) (he:vo%2=0) (hR:R (.int .u16 (slotAt bs vt vo)) H):
  FnS prog 288 #[.pointer (some ⟨p,0,none⟩),.int .u16 vo] H R:=by
 have:=ht.lt;have:=hv.hp;have h4:=hv.h4;have hee:=hv.he;have hev:=hv.ev
 have e1:IntKind.i32.wrap (pos:Int)=pos:=Zd (by omega) (by omega)
 have e3:IntKind.u32.wrap (IntKind.i32.wrap ((pos:Int)-IntKind.i32.wrap (le4 bs pos)))=(vt:Int):=by
  rw[hv.hs,Zd (by omega) (by omega),QU (by omega) (by omega)]
 apply w288
 unfold s288
 simp only[↓Qp,↓Qm,↓Ql ht.c1,↓Q7,e1]
 apply w333
 unfold Qcj
 simp only[↓Qp,↓Qm,↓Ql ht.c0,↓SlcB (n:=bs.length) (m:=pos) rfl (by omega)]
 refine go_GetSOffsetT ht.u8 (by omega) (by omega) ?_
 rw[Qb]
 simp only[↓Yg,↓Q7,e3]
 apply w334
 unfold Qcj
 simp only[↓Qp,↓Qm,↓Ql ht.c0,↓SlcB (n:=bs.length) (m:=vt) rfl (by omega)]
 refine Qd7 ht.u8 (by omega) (by omega) ?_
 simp only[↓Yw]
 unfold slotAt at hR
 by_cases hlt:vo<le2 bs vt
 ·rw[Yj (by omega)]
  rw[if_pos hlt]at hR
  have h16:=le2_lt bs vt
  have e4:IntKind.u32.wrap (vo:Int)=vo:=QU (by omega) (by omega)
  have e5:IntKind.u32.wrap ((vt:Int)+vo)=((vt+vo:Nat):Int):=by rw[QU (by omega) (by omega)];omega
  simp only[↓Q7,↓Q5,e4,e5]
  apply w334
  unfold Qcj
  simp only[↓Qp,↓Qm,↓Ql ht.c0,↓SlcB (n:=bs.length) (m:=vt+vo) rfl (by omega)]
  exact Qd7 ht.u8 (by omega) (by omega) hR
 ·rw[Yb (by omega)]
  rw[if_neg hlt]at hR
  exact hR
theorem QcU {o:Nat} {x:Int} (hx:x=(o:Nat)) (hl:o+2<=bs.length) (hR:R (.int .i16 (IntKind.i16.wrap (le2 bs o:Int))) H):
  FnS prog 289 #[.pointer (some ⟨p,0,none⟩),.int .u32 x] H R:=by
 have:=ht.lt
 subst hx
 apply w289
 unfold Qcj
 simp only[↓Qp,↓Qm,↓Ql ht.c0,↓SlcB (n:=bs.length) (m:=o) rfl (by omega)]
 exact go_GetInt16 ht.u8 (by omega) (by omega) hR
theorem YS {o:Nat} {x:Int} (hx:x=(o:Nat)) (hl:o+1<=bs.length) (hR:R (.int .u8 (byteN bs o:Int)) H):
  FnS prog 291 #[.pointer (some ⟨p,0,none⟩),.int .u32 x] H R:=by
 have:=ht.lt
 subst hx
 apply w291
 unfold Qcj
 simp only[↓Qp,↓Qm,↓Ql ht.c0,↓SlcB (n:=bs.length) (m:=o) rfl (by omega)]
 exact go_GetByte ht.u8 (by omega) (by omega) hR
theorem QfX {o:Nat} {x:Int} (hx:x=(o:Nat)) (hl:o+1<=bs.length) (hR:R (.bool (decide ((byteN bs o:Int)=1))) H):
  FnS prog 292 #[.pointer (some ⟨p,0,none⟩),.int .u32 x] H R:=by
 have:=ht.lt
 subst hx
 apply w292
 unfold Qcj
 simp only[↓Qp,↓Qm,↓Ql ht.c0,↓SlcB (n:=bs.length) (m:=o) rfl (by omega)]
 exact go_GetBool ht.u8 (by omega) (by omega) hR
theorem Qf1 {o:Nat} {x:Int} (hx:x=(o:Nat)) (hl:o+4<=bs.length) (hR:R (.int .i32 (IntKind.i32.wrap (le4 bs o:Int))) H):
  FnS prog 293 #[.pointer (some ⟨p,0,none⟩),.int .u32 x] H R:=by
 have:=ht.lt
 subst hx
 apply w293
 unfold Qcj
 simp only[↓Qp,↓Qm,↓Ql ht.c0,↓SlcB (n:=bs.length) (m:=o) rfl (by omega)]
 exact Qhs ht.u8 (by omega) (by omega) hR
theorem QaO {o:Nat} {x:Int} (hx:x=(o:Nat)) (hl:o+4<=bs.length) (hR:R (.int .u32 (le4 bs o:Int)) H):
  FnS prog 294 #[.pointer (some ⟨p,0,none⟩),.int .u32 x] H R:=by
 have:=ht.lt
 subst hx
 apply w294
 unfold Qcj
 simp only[↓Qp,↓Qm,↓Ql ht.c0,↓SlcB (n:=bs.length) (m:=o) rfl (by omega)]
 exact QiY ht.u8 (by omega) (by omega) hR
theorem Qbb {o:Nat} {x:Int} (hx:x=(o:Nat)) (hl:o+8<=bs.length) (hR:R (.int .i64 (IntKind.i64.wrap (le8 bs o:Int))) H):
  FnS prog 295 #[.pointer (some ⟨p,0,none⟩),.int .u32 x] H R:=by
 have:=ht.lt
 subst hx
 apply w295
 unfold Qcj
 simp only[↓Qp,↓Qm,↓Ql ht.c0,↓SlcB (n:=bs.length) (m:=o) rfl (by omega)]
 exact go_GetInt64 ht.u8 (by omega) (by omega) hR
theorem YO {o:Nat} {x:Int} (hx:x=(o:Nat)) (hl:o+8<=bs.length) (hR:R (.int .u64 (le8 bs o:Int)) H):
  FnS prog 296 #[.pointer (some ⟨p,0,none⟩),.int .u32 x] H R:=by
 have:=ht.lt
 subst hx
 apply w296
 unfold Qcj
 simp only[↓Qp,↓Qm,↓Ql ht.c0,↓SlcB (n:=bs.length) (m:=o) rfl (by omega)]
 exact Qj9 ht.u8 (by omega) (by omega) hR
theorem Zw {o:Nat} {x:Int} (hx:x=(o:Nat)) (hl:o+4<=bs.length) (hR:R (.float .f32 (le4 bs o)) H):
  FnS prog 297 #[.pointer (some ⟨p,0,none⟩),.int .u32 x] H R:=by
 have:=ht.lt
 subst hx
 apply w297
 unfold Qcj
 simp only[↓Qp,↓Qm,↓Ql ht.c0,↓SlcB (n:=bs.length) (m:=o) rfl (by omega)]
 exact go_GetFloat32 ht.u8 (by omega) (by omega) hR
theorem QfR {o:Nat} {x:Int} (hx:x=(o:Nat)) (hl:o+1<=bs.length) (hR:R (.int .i8 (IntKind.i8.wrap (byteN bs o:Int))) H):
  FnS prog 300 #[.pointer (some ⟨p,0,none⟩),.int .u32 x] H R:=by
 have:=ht.lt
 subst hx
 apply w300
 unfold Qcj
 simp only[↓Qp,↓Qm,↓Ql ht.c0,↓SlcB (n:=bs.length) (m:=o) rfl (by omega)]
 exact go_GetInt8 ht.u8 (by omega) (by omega) hR
theorem QdW {o:Nat} {x:Int} (hx:x=(o:Nat)) (hl:o+8<=bs.length) (hR:R (.float .f64 (le8 bs o)) H):
  FnS prog 303 #[.pointer (some ⟨p,0,none⟩),.int .u32 x] H R:=by
 have:=ht.lt
 subst hx
 apply w303
 unfold Qcj
 simp only[↓Qp,↓Qm,↓Ql ht.c0,↓SlcB (n:=bs.length) (m:=o) rfl (by omega)]
 exact go_GetFloat64 ht.u8 (by omega) (by omega) hR
theorem QhM {o:Nat} {x:Int} (hx:x=(o:Nat)) (hl:o+2<=bs.length) (hR:R (.int .u16 (le2 bs o:Int)) H):
  FnS prog 307 #[.pointer (some ⟨p,0,none⟩),.int .u32 x] H R:=by
 have:=ht.lt
 subst hx
 apply w307
 unfold Qcj
 simp only[↓Qp,↓Qm,↓Ql ht.c0,↓SlcB (n:=bs.length) (m:=o) rfl (by omega)]
 exact Qj2 ht.u8 (by omega) (by omega) hR
theorem Qh4 {o:Nat} {x:Int} (hx:x=(o:Nat)) (hl:o+4<=bs.length) (hR:R (.int .u32 (le4 bs o:Int)) H):
  FnS prog 345 #[.pointer (some ⟨p,0,none⟩),.int .u32 x] H R:=by
 have:=ht.lt
 subst hx
 apply w345
 unfold Qcj
 simp only[↓Qp,↓Qm,↓Ql ht.c0,↓SlcB (n:=bs.length) (m:=o) rfl (by omega)]
 exact ZG ht.u8 (by omega) (by omega) hR
def tgt (bs:List UInt8) (o:Nat):Nat:=o+le4 bs o
theorem Qbh {o:Nat} {x:Int} (hx:x=(o:Nat)) (hl:o+4<=bs.length) (h2:tgt bs o<=bs.length) (hR:R (.int .u32 (tgt bs o:Nat)) H):
  FnS prog 298 #[.pointer (some ⟨p,0,none⟩),.int .u32 x] H R:=by
 have:=ht.lt
 subst hx
 unfold tgt at h2 hR
 apply w298
 unfold s298
 simp only[↓Qp,↓Qm,↓Ql ht.c0,↓SlcB (n:=bs.length) (m:=o) rfl (by omega)]
 refine ZG ht.u8 (by omega) (by omega) ?_
 rw[Q5,QU (by omega) (by omega)]
 rw[show (o:Int)+(le4 bs o:Int)=((o+le4 bs o:Nat):Int) by omega]
 exact hR
theorem QdS {o n:Nat} {x:Int} (hx:x=(o:Nat)) (hl:o+4<=bs.length) (hn:le4 bs (tgt bs o)=n) (h2:tgt bs o+4+n<=bs.length) (h3:tgt bs o+4<bs.length)
  (hR:R (bsl B (tgt bs o+4) n (bs.length-(tgt bs o+4))) H):
  FnS prog 290 #[.pointer (some ⟨p,0,none⟩),.int .u32 x] H R:=by
 have:=ht.lt
 subst hx
 apply w290
 unfold s290
 simp only[↓Qp,↓Qm,↓Ql ht.c0,↓SlcB (n:=bs.length) (m:=o) rfl (by omega)]
 refine ZG ht.u8 (by omega) (by omega) ?_
 have e1:IntKind.u32.wrap ((o:Int)+(le4 bs o:Int))=(tgt bs o:Nat):=by unfold tgt at h2⊢;rw[QU (by omega) (by omega)];omega
 have e2:IntKind.u32.wrap (((tgt bs o:Nat):Int)+4)=((tgt bs o+4:Nat):Int):=by rw[QU (by omega) (by omega)];omega
 simp only[↓Q5,e1,e2,↓Qp,↓Qm,↓Ql ht.c0,↓SlcB (n:=bs.length) (m:=tgt bs o) rfl (by omega)]
 refine ZG ht.u8 (by omega) (by omega) ?_
 have e3:IntKind.u32.wrap (((tgt bs o+4:Nat):Int)+(le4 bs (tgt bs o):Int))=((tgt bs o+4+n:Nat):Int):=by rw[QU (by omega) (by omega)];omega
 simp only[↓Q5,e3,↓Qp,↓Qm,↓Ql ht.c0]
 rw[bsl,Qgq (by omega) (by omega) (by omega)]
 have e4:¬bs.length=tgt bs o+4:=by omega
 simp only[Int.toNat_natCast,if_neg e4,Nat.zero_add,Nat.mul_one,show tgt bs o+4+n-(tgt bs o+4)=n by omega]
 exact hR
theorem QhL {o:Nat} {x:Int} (hx:x=(o:Nat)) (hl:pos+o+4<=bs.length) (h2:tgt bs (pos+o)+4<=bs.length)
  (hR:R (.int .i64 (le4 bs (tgt bs (pos+o)):Nat)) H):
  FnS prog 304 #[.pointer (some ⟨p,0,none⟩),.int .u32 x] H R:=by
 have:=ht.lt
 subst hx
 apply w304
 unfold s304
 have e0:IntKind.u32.wrap ((o:Int)+pos)=((pos+o:Nat):Int):=by rw[QU (by omega) (by omega)];omega
 simp only[↓Qp,↓Qm,↓Ql ht.c1,↓Ql ht.c0,↓Q5,e0,↓SlcB (n:=bs.length) (m:=pos+o) rfl (by omega)]
 refine ZG ht.u8 (by omega) (by omega) ?_
 have e1:IntKind.u32.wrap (((pos+o:Nat):Int)+(le4 bs (pos+o):Int))=(tgt bs (pos+o):Nat):=by unfold tgt at h2⊢;rw[QU (by omega) (by omega)];omega
 simp only[↓Q5,e1,↓Qp,↓Qm,↓Ql ht.c0,↓SlcB (n:=bs.length) (m:=tgt bs (pos+o)) rfl (by omega)]
 refine ZG ht.u8 (by omega) (by omega) ?_
 have h4:=le4_lt bs (tgt bs (pos+o))
 rw[Q7,wrap_i64 (by omega) (by omega)]
 exact hR
theorem QcB {o:Nat} {x:Int} (hx:x=(o:Nat)) (hl:pos+o+4<=bs.length) (h2:tgt bs (pos+o)+4<=bs.length)
  (hR:R (.int .u32 (tgt bs (pos+o)+4:Nat)) H):
  FnS prog 305 #[.pointer (some ⟨p,0,none⟩),.int .u32 x] H R:=by
 have:=ht.lt
 subst hx
 apply w305
 unfold s305
 have e0:IntKind.u32.wrap ((o:Int)+pos)=((pos+o:Nat):Int):=by rw[QU (by omega) (by omega)];omega
 simp only[↓Qp,↓Qm,↓Ql ht.c1,↓Ql ht.c0,↓Q5,e0,↓SlcB (n:=bs.length) (m:=pos+o) rfl (by omega)]
 refine ZG ht.u8 (by omega) (by omega) ?_
 have e1:IntKind.u32.wrap (((pos+o:Nat):Int)+(le4 bs (pos+o):Int))=(tgt bs (pos+o):Nat):=by unfold tgt at h2⊢;rw[QU (by omega) (by omega)];omega
 have e2:IntKind.u32.wrap (((tgt bs (pos+o):Nat):Int)+4)=((tgt bs (pos+o)+4:Nat):Int):=by rw[QU (by omega) (by omega)];omega
 simp only[↓Q5,e1,e2]
 exact hR
theorem go_Table_Union {o q:Nat} {x:Int} {c:Array Value} {e:TypeId} (hx:x=(o:Nat)) (hl:pos+o+4<=bs.length) (h2:tgt bs (pos+o)<=bs.length) (hq:H[q]?=some (.cells c e (0,0))) (hc:c.size=2) (hpq:q≠p)
  (hR:R (.tuple #[]) (setB H q (.cells #[bsl B 0 bs.length bs.length,.int .u32 (tgt bs (pos+o):Nat)] e (0,0)))):
  FnS prog 310 #[.pointer (some ⟨p,0,none⟩),.pointer (some ⟨q,0,none⟩),.int .u32 x] H R:=by
 have:=ht.lt
 subst hx
 apply w310
 unfold s310
 have e0:IntKind.u32.wrap ((o:Int)+pos)=((pos+o:Nat):Int):=by rw[QU (by omega) (by omega)];omega
 simp only[↓Qp,↓Qm,↓Ql ht.c1,↓Q5,e0]
 refine Qh4 ht (o:=pos+o) rfl (by omega) ?_
 have e1:IntKind.u32.wrap (((pos+o:Nat):Int)+(le4 bs (pos+o):Int))=(tgt bs (pos+o):Nat):=by unfold tgt at h2⊢;rw[QU (by omega) (by omega)];omega
 have c0:=ht.c0
 obtain ⟨x0,x1,rfl⟩:∃x0 x1,c=#[x0,x1]:=by
  obtain ⟨l⟩:=c
  match l,hc with
  |[x0,x1],_=>exact ⟨x0,x1,rfl⟩
 simp only[↓Q5,e1,↓Qp,↓Qm,↓Qax (v:=.int .u32 (tgt bs (pos+o):Nat)) hq (by decide:1<2) (by simp) rfl]
 have hq':=QV (o:=.cells (#[x0,x1].setIfInBounds 1 (.int .u32 (tgt bs (pos+o):Nat))) e (0,0)) hq
 have c0':QaU (setB H q (.cells (#[x0,x1].setIfInBounds 1 (.int .u32 (tgt bs (pos+o):Nat))) e (0,0))) ⟨p,0,none⟩=some (bsl B 0 bs.length bs.length):=by
  rw[<-c0];unfold QaU;rw[Qw (Ne.symm hpq)]
 simp only[↓Ql c0',↓Qax (v:=bsl B 0 bs.length bs.length) hq' (by decide:0<2) (by simp) rfl,Qef]
 exact hR
end
abbrev QfY (f:Nat):Prop:=∀{H:Qe} {R:Kn} {q:Nat} {c:Array Value} {e:TypeId} {x y:Value} (_:H[q]?=some (.cells c e (0,0))) (_:c.size=2) (_:x.oneCell'=true) (_:y.oneCell'=true)
  (_:R (.tuple #[]) (setB H q (.cells #[x,y] e (0,0)))),FnS prog f #[.pointer (some ⟨q,0,none⟩),x,y] H R
def Init1S (x0 x1 x2:Value) (h:Qe) (R:Kn):Prop:=
 Q1 x0 fun x8=>
 Qf x8 0 fun x9=>
 Qf x9 0 fun x10=>
 StK h 1 x10 x1 fun h1=>
 Q1 x0 fun x13=>
 Qf x13 0 fun x14=>
 Qf x14 1 fun x15=>
 StK h1 1 x15 x2 fun h2=>
 R (.tuple #[]) h2
theorem init1S {f:Nat} (hw:∀{x0 x1 x2 h R},Init1S x0 x1 x2 h R->FnS prog f #[x0,x1,x2] h R):QfY f:=by
 intro H R q c e x y hq hc hx hy hR
 obtain ⟨x0,x1,rfl⟩:∃x0 x1,c=#[x0,x1]:=by
  obtain ⟨l⟩:=c
  match l,hc with
  |[x0,x1],_=>exact ⟨x0,x1,rfl⟩
 apply hw
 unfold Init1S
 have hq':=QV (o:=.cells (#[x0,x1].setIfInBounds 0 x) e (0,0)) hq
 simp only[↓Qp,↓Qm,↓Qax hq (by decide:0<2) (by simp) hx,↓Qax hq' (by decide:1<2) (by simp) hy,Qef]
 exact hR
def Init2S (x0 x1 x2:Value) (h:Qe) (R:Kn):Prop:=
 Q1 x0 fun x8=>
 Qf x8 0 fun x9=>
 Qf x9 0 fun x10=>
 Qf x10 0 fun x11=>
 StK h 1 x11 x1 fun h1=>
 Q1 x0 fun x14=>
 Qf x14 0 fun x15=>
 Qf x15 0 fun x16=>
 Qf x16 1 fun x17=>
 StK h1 1 x17 x2 fun h2=>
 R (.tuple #[]) h2
theorem init2S {f:Nat} (hw:∀{x0 x1 x2 h R},Init2S x0 x1 x2 h R->FnS prog f #[x0,x1,x2] h R):QfY f:=by
 intro H R q c e x y hq hc hx hy hR
 obtain ⟨x0,x1,rfl⟩:∃x0 x1,c=#[x0,x1]:=by
  obtain ⟨l⟩:=c
  match l,hc with
  |[x0,x1],_=>exact ⟨x0,x1,rfl⟩
 apply hw
 unfold Init2S
 have hq':=QV (o:=.cells (#[x0,x1].setIfInBounds 0 x) e (0,0)) hq
 simp only[↓Qp,↓Qm,↓Qax hq (by decide:0<2) (by simp) hx,↓Qax hq' (by decide:1<2) (by simp) hy,Qef]
 exact hR
theorem ZB:QfY 243:=init1S w243
theorem QiH:QfY 301:=init2S w301
theorem Qd1:QfY 302:=init2S w302
theorem Qiu:QfY 306:=init1S w306
theorem Qha:QfY 308:=init2S w308
theorem QcJ:QfY 309:=init1S w309
theorem QbA:QfY 311:=init1S w311
theorem Qdu:QfY 299:=init1S w299
end Go.Proofs
namespace Go.Proofs
open Go Go.Vc
open Tryz (prog)
def Sc (k:Nat) (bs:List UInt8) (pos vt vo d x:Nat):Prop:=
 (slotAt bs vt vo=0/\x=d)\/(slotAt bs vt vo≠0/\pos+slotAt bs vt vo+k<=bs.length/\x=leN k bs (pos+slotAt bs vt vo))
def QhE (k:Nat) (bs:List UInt8) (pos vt vo n at_:Nat):Prop:=
 (slotAt bs vt vo=0/\n=0)\/
 (slotAt bs vt vo≠0/\pos+slotAt bs vt vo+4<=bs.length/\at_=tgt bs (pos+slotAt bs vt vo)+4/\le4 bs (tgt bs (pos+slotAt bs vt vo))=n/\at_+k*n<=bs.length/\at_<=bs.length)
def StrAt (bs:List UInt8) (o n:Nat):Prop:=o+4<=bs.length/\le4 bs (tgt bs o)=n/\tgt bs o+4+n<bs.length
theorem Yc {H:Qe} {o o':Obj}:setB (H.push o) H.size o'=H.push o':=by
 apply Array.ext_getElem?
 intro j
 simp only[setB,Array.getElem?_setIfInBounds,Array.getElem?_push,Array.size_push]
 by_cases h:H.size=j
 ·subst h;simp
 ·rw[if_neg h]
  by_cases h2:j=H.size
  ·exact absurd h2.symm h
  ·rw[if_neg h2,if_neg h2]
section
variable {H:Qe} {p B:Nat} {bs:List UInt8} {pos:Nat} (ht:Tab H p B bs pos) {R:Kn}
include ht
theorem Tab.push (o:Obj):Tab (H.push o) p B bs pos:=ht.ext (Qay.push H o).ext
theorem Tab.slot_add {vt vo k:Nat} (h:pos+slotAt bs vt vo+k<=bs.length):IntKind.u32.wrap ((slotAt bs vt vo:Int)+pos)=((pos+slotAt bs vt vo:Nat):Int):=by
 have:=ht.lt
 rw[QU (by omega) (by omega)];omega
theorem Tab.add {o k:Nat} (h:pos+o+k<=bs.length):IntKind.u32.wrap ((pos:Int)+(o:Nat))=((pos+o:Nat):Int):=by
 have:=ht.lt
 rw[QU (by omega) (by omega)];omega
theorem Tab.item {a i k m:Nat} (h:a+k*i+m<=bs.length):IntKind.u32.wrap ((a:Int)+IntKind.u32.wrap (IntKind.i64.wrap ((i:Int)*(k:Nat))))=((a+k*i:Nat):Int):=by
 have:=ht.lt
 have e:(i:Int)*(k:Nat)=((k*i:Nat):Int):=by rw[Int.natCast_mul,Int.mul_comm]
 rw[e,wrap_i64 (by omega) (by omega),QU (n:=((k*i:Nat):Int)) (by omega) (by omega),QU (by omega) (by omega)];omega
theorem Tab.item' {a i k m:Nat} (hi:i<2147483648) (h:a+k*i+m<=bs.length):IntKind.u32.wrap ((a:Int)+IntKind.u32.wrap (IntKind.u32.wrap (i:Int)*(k:Nat)))=((a+k*i:Nat):Int):=by
 have:=ht.lt
 rw[QU (n:=(i:Int)) (by omega) (by omega)]
 have e:(i:Int)*(k:Nat)=((k*i:Nat):Int):=by rw[Int.natCast_mul,Int.mul_comm]
 rw[e,QU (n:=((k*i:Nat):Int)) (by omega) (by omega),QU (by omega) (by omega)];omega
theorem slot_u32 {vt vo:Nat}:IntKind.u32.wrap (slotAt bs vt vo:Int)=(slotAt bs vt vo:Int):=by
 have:=slotAt_lt bs vt vo
 exact QU (by omega) (by omega)
end
abbrev vI16 (x:Nat):Value:=.int .i16 (IntKind.i16.wrap (x:Int))
abbrev vU8 (x:Nat):Value:=.int .u8 (x:Int)
abbrev vB (x:Nat):Value:=.bool (decide ((x:Int)=1))
abbrev vI32 (x:Nat):Value:=.int .i32 (IntKind.i32.wrap (x:Int))
abbrev vU32 (x:Nat):Value:=.int .u32 (x:Int)
abbrev vI64 (x:Nat):Value:=.int .i64 (IntKind.i64.wrap (x:Int))
abbrev vU64 (x:Nat):Value:=.int .u64 (x:Int)
abbrev vF32 (x:Nat):Value:=.float .f32 x
abbrev vI8 (x:Nat):Value:=.int .i8 (IntKind.i8.wrap (x:Int))
abbrev vF64 (x:Nat):Value:=.float .f64 x
abbrev vU16 (x:Nat):Value:=.int .u16 (x:Int)
def OffS (vo:Int) (x0:Value) (h:Qe) (A:Kn) (B:Qe->Prop):Prop:=
 Q1 x0 fun x5=>
 Qf x5 0 fun x6=>
 Qa prog 288 #[x6,(.int .u16 vo)] h fun x7 h1=>
 QG .u32 x7 fun x8=>
 Qj prog .neq 74 x8 (.int .u32 0) fun x10=>
 IfK x10 (A x8 h1) (B h1)
theorem offS {H:Qe} {p B:Nat} {bs:List UInt8} {pos:Nat} (ht:Tab H p B bs pos) {vt vo:Nat} (hv:VT bs pos vt) (he:vo%2=0) {A:Kn} {B:Qe->Prop} (h0:slotAt bs vt vo=0->B H)
  (h1:slotAt bs vt vo≠0->A (.int .u32 (slotAt bs vt vo:Int)) H):OffS vo (.pointer (some ⟨p,0,none⟩)) H A B:=by
 have e0:=slot_u32 ht (vt:=vt) (vo:=vo)
 unfold OffS
 simp only[↓Qp,↓Qm]
 refine go_Table_Offset ht hv he ?_
 simp only[↓Q7,↓Y5,e0]
 by_cases hz:slotAt bs vt vo=0
 ·rw[Yb (by omega)];exact h0 hz
 ·rw[Yj (by omega)];exact h1 hz
abbrev GetOk (g k:Nat) (v:Nat->Value) (le:List UInt8->Nat->Nat):Prop:=∀{H:Qe} {p B:Nat} {bs:List UInt8} {pos:Nat} (_:Tab H p B bs pos) {R:Kn} {o:Nat} {x:Int} (_:x=(o:Nat)) (_:o+k<=bs.length) (_:R (v (le bs o)) H),FnS prog g #[.pointer (some ⟨p,0,none⟩),.int .u32 x] H R
abbrev QiF (f k vo d:Nat) (v:Nat->Value):Prop:=∀{H:Qe} {p B:Nat} {bs:List UInt8} {pos:Nat} (_:Tab H p B bs pos) {R:Kn} {vt x:Nat} (_:VT bs pos vt) (_:Sc k bs pos vt vo d x) (_:R (v x) H),FnS prog f #[.pointer (some ⟨p,0,none⟩)] H R
abbrev Qfq (f vo:Nat):Prop:=∀{H:Qe} {p B:Nat} {bs:List UInt8} {pos:Nat} (_:Tab H p B bs pos) {R:Kn} {vt k n at_:Nat} (_:VT bs pos vt) (_:QhE k bs pos vt vo n at_) (_:R (.int .i64 n) H),FnS prog f #[.pointer (some ⟨p,0,none⟩)] H R
abbrev ItOk (f k vo:Nat) (v:Nat->Value) (le:List UInt8->Nat->Nat):Prop:=∀{H:Qe} {p B:Nat} {bs:List UInt8} {pos:Nat} (_:Tab H p B bs pos) {R:Kn} {vt n at_ i:Nat} (_:VT bs pos vt) (_:QhE k bs pos vt vo n at_) (_:i<n) (_:R (v (le bs (at_+k*i))) H),FnS prog f #[.pointer (some ⟨p,0,none⟩),.int .i64 (i:Nat)] H R
abbrev TItOk (f vo:Nat):Prop:=∀{H:Qe} {p B:Nat} {bs:List UInt8} {pos:Nat} (_:Tab H p B bs pos) {R:Kn} {vt n at_ i m:Nat} (_:VT bs pos vt) (_:QhE 4 bs pos vt vo n at_) (_:i<n) (_:StrAt bs (at_+4*i) m)
  (_:R (bsl B (tgt bs (at_+4*i)+4) m (bs.length-(tgt bs (at_+4*i)+4))) H),FnS prog f #[.pointer (some ⟨p,0,none⟩),.int .i64 (i:Nat)] H R
abbrev StOk (f off k:Nat) (v:Nat->Value) (le:List UInt8->Nat->Nat):Prop:=∀{H:Qe} {p B:Nat} {bs:List UInt8} {pos:Nat} (_:Tab H p B bs pos) {R:Kn} (_:pos+off+k<=bs.length) (_:R (v (le bs (pos+off))) H),FnS prog f #[.pointer (some ⟨p,0,none⟩)] H R
abbrev BytOk (f vo:Nat):Prop:=∀{H:Qe} {p B:Nat} {bs:List UInt8} {pos:Nat} (_:Tab H p B bs pos) {R:Kn} {vt:Nat} (_:VT bs pos vt) (_:slotAt bs vt vo=0->R (.slice none 0 0) H)
  (_:slotAt bs vt vo≠0->∃n,StrAt bs (pos+slotAt bs vt vo) n/\R (bsl B (tgt bs (pos+slotAt bs vt vo)+4) n (bs.length-(tgt bs (pos+slotAt bs vt vo)+4))) H),FnS prog f #[.pointer (some ⟨p,0,none⟩)] H R
abbrev SubOk (f w vo:Nat):Prop:=∀{H:Qe} {p B:Nat} {bs:List UInt8} {pos:Nat} (_:Tab H p B bs pos) {R:Kn} {vt n at_ i q:Nat} {c:Array Value} {e:TypeId} (_:VT bs pos vt) (_:QhE w bs pos vt vo n at_) (_:i<n) (_:H[q]?=some (.cells c e (0,0))) (_:c.size=2)
  (_:R (.bool true) (setB H q (.cells #[bsl B 0 bs.length bs.length,.int .u32 (at_+w*i:Nat)] e (0,0)))),FnS prog f #[.pointer (some ⟨p,0,none⟩),.pointer (some ⟨q,0,none⟩),.int .i64 (i:Nat)] H R
abbrev SubtOk (f vo:Nat):Prop:=∀{H:Qe} {p B:Nat} {bs:List UInt8} {pos:Nat} (_:Tab H p B bs pos) {R:Kn} {vt n at_ i q:Nat} {c:Array Value} {e:TypeId} (_:VT bs pos vt) (_:QhE 4 bs pos vt vo n at_) (_:i<n) (_:at_+4*i+4<=bs.length) (_:tgt bs (at_+4*i)<=bs.length) (_:H[q]?=some (.cells c e (0,0))) (_:c.size=2)
  (_:R (.bool true) (setB H q (.cells #[bsl B 0 bs.length bs.length,.int .u32 (tgt bs (at_+4*i):Nat)] e (0,0)))),FnS prog f #[.pointer (some ⟨p,0,none⟩),.pointer (some ⟨q,0,none⟩),.int .i64 (i:Nat)] H R
abbrev UniOk (f vo:Nat):Prop:=∀{H:Qe} {p B:Nat} {bs:List UInt8} {pos:Nat} (_:Tab H p B bs pos) {R:Kn} {vt q:Nat} {c:Array Value} {e:TypeId} (_:VT bs pos vt) (_:H[q]?=some (.cells c e (0,0))) (_:c.size=2) (_:q≠p) (_:slotAt bs vt vo=0->R (.bool false) H)
  (_:slotAt bs vt vo≠0->pos+slotAt bs vt vo+4<=bs.length/\tgt bs (pos+slotAt bs vt vo)<=bs.length/\R (.bool true) (setB H q (.cells #[bsl B 0 bs.length bs.length,.int .u32 (tgt bs (pos+slotAt bs vt vo):Nat)] e (0,0)))),
  FnS prog f #[.pointer (some ⟨p,0,none⟩),.pointer (some ⟨q,0,none⟩)] H R
def ScS (vo:Int) (g:Nat) (dv:Value) (x0:Value) (h:Qe) (R:Kn):Prop:=OffS vo x0 h (fun x8 h1=>
 Q1 x0 fun x12=>
 Qf x12 0 fun x13=>
 Q1 x0 fun x16=>
 Qf x16 0 fun x17=>
 Qf x17 1 fun x18=>
 LdK h1 x18 fun x19=>
 Qj prog .add 74 x8 x19 fun x20=>
 Qa prog g #[x13,x20] h1 fun x21 h2=>
 R x21 h2) (fun h1=>(R dv h1))
theorem scS {f g vo k d:Nat} {dv:Value} {v:Nat->Value} {le:List UInt8->Nat->Nat} (hw:∀{x0 h R},ScS vo g dv x0 h R->FnS prog f #[x0] h R) (hg:GetOk g k v le) (he:vo%2=0) (hd:dv=v d) (hk:le=leN k):QiF f k vo d v:=by
 subst hd hk
 intro H p B bs pos ht R vt x hv hs hR
 apply hw
 refine offS ht hv he (fun h=>?_) (fun h=>?_)
 all_goals rcases hs with ⟨h0,rfl⟩|⟨h0,h1,rfl⟩
 ·exact hR
 ·exact absurd h h0
 ·exact absurd h0 h
 ·simp only[↓Qp,↓Qm,↓Ql ht.c1,↓Q5]
  exact hg ht (Tab.slot_add ht h1) h1 hR
theorem QdA:QiF 162 2 6 150 vI16:=scS (le:=le2) w162 QcU rfl rfl rfl
theorem Qcn:QiF 163 2 8 100 vI16:=scS (le:=le2) w163 QcU rfl rfl rfl
def BytS (vo:Int) (x0:Value) (h:Qe) (R:Kn):Prop:=OffS vo x0 h (fun x8 h1=>
 Q1 x0 fun x12=>
 Qf x12 0 fun x13=>
 Q1 x0 fun x16=>
 Qf x16 0 fun x17=>
 Qf x17 1 fun x18=>
 LdK h1 x18 fun x19=>
 Qj prog .add 74 x8 x19 fun x20=>
 Qa prog 290 #[x13,x20] h1 fun x21 h2=>
 R x21 h2) (fun h1=>(R (.slice none 0 0) h1))
theorem bytS {f vo:Nat} (hw:∀{x0 h R},BytS vo x0 h R->FnS prog f #[x0] h R) (he:vo%2=0):BytOk f vo:=by
 intro H p B bs pos ht R vt hv h0 h1
 apply hw
 refine offS ht hv he (fun h=>h0 h) (fun h=>?_)
 obtain ⟨n,⟨g1,g2,g3⟩,hR⟩:=h1 h
 simp only[↓Qp,↓Qm,↓Ql ht.c1,↓Q5]
 exact QdS ht (Tab.slot_add ht g1) g1 g2 (by omega) (by omega) hR
theorem Qa8:BytOk 164 10:=bytS w164 rfl
theorem Z1:QiF 165 1 16 8 vU8:=scS (le:=byteN) w165 YS rfl rfl rfl
theorem YP:QiF 166 1 34 0 vB:=scS (le:=byteN) w166 QfX rfl rfl rfl
theorem Yk:QiF 167 4 36 0 vI32:=scS (le:=le4) w167 Qf1 rfl rfl rfl
theorem Ya:QiF 168 4 38 0 vU32:=scS (le:=le4) w168 QaO rfl rfl rfl
theorem QT:QiF 169 8 40 0 vI64:=scS (le:=le8) w169 Qbb rfl rfl rfl
theorem QL:QiF 170 8 42 0 vU64:=scS (le:=le8) w170 YO rfl rfl rfl
theorem QC:QiF 171 4 44 0 vI32:=scS (le:=le4) w171 Qf1 rfl rfl rfl
theorem Q9:QiF 172 4 46 0 vU32:=scS (le:=le4) w172 QaO rfl rfl rfl
theorem Q6:QiF 173 8 48 0 vI64:=scS (le:=le8) w173 Qbb rfl rfl rfl
theorem Q3:QiF 174 8 50 0 vU64:=scS (le:=le8) w174 YO rfl rfl rfl
theorem QR:QiF 176 4 54 1078530000 vF32:=scS (le:=le4) w176 Zw rfl rfl rfl
theorem QH:QiF 177 4 56 1077936128 vF32:=scS (le:=le4) w177 Zw rfl rfl rfl
theorem QE:QiF 178 4 58 0 vF32:=scS (le:=le4) w178 Zw rfl rfl rfl
theorem QbL {H:Qe} {p B:Nat} {bs:List UInt8} {pos:Nat} (ht:Tab H p B bs pos) {R:Kn} {vt:Nat} (hv:VT bs pos vt) (h0:slotAt bs vt 72=0->R (.pointer none) H)
  (h1:slotAt bs vt 72≠0->pos+slotAt bs vt 72+4<=bs.length/\tgt bs (pos+slotAt bs vt 72)<=bs.length/\R (.pointer (some ⟨H.size,0,none⟩)) (H.push (.cells #[bsl B 0 bs.length bs.length,.int .u32 (tgt bs (pos+slotAt bs vt 72):Nat)] 295))):
  FnS prog 179 #[.pointer (some ⟨p,0,none⟩),.pointer none] H R:=by
 apply w179
 refine offS ht hv (vo:=72) rfl (fun h=>h0 h) (fun h=>?_)
 obtain ⟨g1,g2,hR⟩:=h1 h
 simp only[↓Qp,↓Qm,↓Ql ht.c1,↓Q5]
 refine Qbh ht (Tab.slot_add ht g1) g1 g2 ?_
 refine Q2 (fun vs h=>vs=[.pointer (some ⟨H.size,0,none⟩)]/\h=H.push (.cells z295 295)) ?_ ?_
 ·rw[Y6 (by kernel_rfl)]
  exact ⟨rfl,rfl⟩
 ·rintro x h ⟨hx,rfl⟩
  cases hx
  have ht2:=Tab.push ht (.cells z295 295)
  simp only[↓Qp,↓Qm,↓Ql ht2.c0]
  refine Qdu Qi (by simp[z295]) rfl rfl ?_
  rw[Yc]
  exact hR
theorem Qr:QiF 180 8 76 0 vU64:=scS (le:=le8) w180 YO rfl rfl rfl
theorem Qt:QiF 181 8 82 0 vU64:=scS (le:=le8) w181 YO rfl rfl rfl
theorem Qo:QiF 182 8 86 0 vU64:=scS (le:=le8) w182 YO rfl rfl rfl
theorem Qv:QiF 183 1 100 255 vI8:=scS (le:=byteN) w183 QfR rfl rfl rfl
theorem Qhm {H:Qe} {p B:Nat} {bs:List UInt8} {pos:Nat} (ht:Tab H p B bs pos) {R:Kn} {vt:Nat} (hv:VT bs pos vt) (h0:slotAt bs vt 4=0->R (.pointer none) H)
  (h1:slotAt bs vt 4≠0->pos+slotAt bs vt 4<=bs.length/\R (.pointer (some ⟨H.size,0,none⟩)) (H.push (.cells #[bsl B 0 bs.length bs.length,.int .u32 (pos+slotAt bs vt 4:Nat)] 297))):
  FnS prog 184 #[.pointer (some ⟨p,0,none⟩),.pointer none] H R:=by
 apply w184
 refine offS ht hv (vo:=4) rfl (fun h=>h0 h) (fun h=>?_)
 obtain ⟨g1,hR⟩:=h1 h
 simp only[↓Qp,↓Qm,↓Ql ht.c1,↓Q5]
 rw[Tab.slot_add ht (k:=0) (by omega)]
 refine Q2 (fun vs h=>vs=[.pointer (some ⟨H.size,0,none⟩)]/\h=H.push (.cells z297 297)) ?_ ?_
 ·rw[Y6 (by kernel_rfl)]
  exact ⟨rfl,rfl⟩
 ·rintro x h ⟨hx,rfl⟩
  cases hx
  have ht2:=Tab.push ht (.cells z297 297)
  simp only[↓Qp,↓Qm,↓Ql ht2.c0]
  refine QiH Qi (by simp[z297]) rfl rfl ?_
  rw[Yc]
  exact hR
theorem Qif {H:Qe} {p B:Nat} {bs:List UInt8} {pos:Nat} (ht:Tab H p B bs pos) {R:Kn} (hl:pos+26<=bs.length) (hR:R (.pointer (some ⟨H.size,0,none⟩)) (H.push (.cells #[bsl B 0 bs.length bs.length,.int .u32 (pos+26:Nat)] 231))):
  FnS prog 185 #[.pointer (some ⟨p,0,none⟩),.pointer none] H R:=by
 apply w185
 unfold s185
 refine Q2 (fun vs h=>vs=[.pointer (some ⟨H.size,0,none⟩)]/\h=H.push (.cells z231 231)) ?_ ?_
 ·rw[Y6 (by kernel_rfl)]
  exact ⟨rfl,rfl⟩
 ·rintro x h ⟨hx,rfl⟩
  cases hx
  have ht2:=Tab.push ht (.cells z231 231)
  have ea:=Tab.add ht (o:=26) (k:=0) (by omega)
  simp only[↓Qp,↓Qm,↓Ql ht2.c0,↓Ql ht2.c1,↓Q5]
  rw[show ((pos:Int)+(26:Int))=(pos:Int)+((26:Nat):Int) from rfl,ea]
  refine Qd1 Qi (by simp[z231]) rfl rfl ?_
  rw[Yc]
  exact hR
def StS (off:Int) (g:Nat) (x0:Value) (h:Qe) (R:Kn):Prop:=
 Q1 x0 fun x4=>
 Qf x4 0 fun x5=>
 Qf x5 0 fun x6=>
 Q1 x0 fun x8=>
 Qf x8 0 fun x9=>
 Qf x9 0 fun x10=>
 Qf x10 1 fun x11=>
 LdK h x11 fun x12=>
 Qj prog .add 74 x12 (.int .u32 off) fun x13=>
 Qa prog g #[x6,x13] h fun x14 h1=>
 R x14 h1
theorem stS {f g off k:Nat} {v:Nat->Value} {le:List UInt8->Nat->Nat} (hw:∀{x0 h R},StS off g x0 h R->FnS prog f #[x0] h R) (hg:GetOk g k v le):StOk f off k v le:=by
 intro H p B bs pos ht R hl hR
 apply hw
 unfold StS
 have ea:=Tab.add ht (o:=off) (k:=k) hl
 simp only[↓Qp,↓Qm,↓Ql ht.c1,↓Q5]
 exact hg ht (o:=pos+off) ea hl hR
theorem Example_Vec3_X:StOk 186 0 4 vF32 le4:=stS w186 Zw
theorem Example_Vec3_Y:StOk 187 4 4 vF32 le4:=stS w187 Zw
theorem Example_Vec3_Z:StOk 188 8 4 vF32 le4:=stS w188 Zw
theorem Qi0:StOk 190 16 8 vF64 le8:=stS w190 QdW
theorem QhY:StOk 191 24 1 vU8 byteN:=stS w191 YS
theorem QeH:StOk 192 0 2 vI16 le2:=stS w192 QcU
theorem QeL:StOk 193 2 1 vI8 byteN:=stS w193 QfR
def LenS (vo:Int) (x0:Value) (h:Qe) (R:Kn):Prop:=OffS vo x0 h (fun x8 h1=>
 Q1 x0 fun x12=>
 Qf x12 0 fun x13=>
 Qa prog 304 #[x13,x8] h1 fun x15 h2=>
 R x15 h2) (fun h1=>(R (.int .i64 0) h1))
theorem lenS {f vo:Nat} (hw:∀{x0 h R},LenS vo x0 h R->FnS prog f #[x0] h R) (he:vo%2=0):Qfq f vo:=by
 intro H p B bs pos ht R vt k n at_ hv hs hR
 apply hw
 refine offS ht hv he (fun h=>?_) (fun h=>?_)
 all_goals rcases hs with ⟨h0,rfl⟩|⟨h0,h1,rfl,h3,h4,h5⟩
 ·exact hR
 ·exact absurd h h0
 ·exact absurd h0 h
 ·try simp only[↓Qp,↓Qm]
  refine QhL ht rfl (by omega) (by omega) ?_
  rw[h3];exact hR
theorem QcZ:Qfq 194 14:=lenS w194 rfl
def ItS (vo k:Int) (g:Nat) (dv:Value) (x0 x1:Value) (h:Qe) (R:Kn):Prop:=OffS vo x0 h (fun x11 h1=>
 Q1 x0 fun x15=>
 Qf x15 0 fun x16=>
 Qa prog 305 #[x16,x11] h1 fun x18 h2=>
 Q1 x0 fun x20=>
 Qf x20 0 fun x21=>
 Qj prog .mul 3 x1 (.int .i64 k) fun x24=>
 QG .u32 x24 fun x25=>
 Qj prog .add 74 x18 x25 fun x26=>
 Qa prog g #[x21,x26] h2 fun x27 h3=>
 R x27 h3) (fun h1=>(R dv h1))
theorem itS {f g vo k:Nat} {dv:Value} {v:Nat->Value} {le:List UInt8->Nat->Nat} (hw:∀{x0 x1 h R},ItS vo k g dv x0 x1 h R->FnS prog f #[x0,x1] h R) (hg:GetOk g k v le) (he:vo%2=0):ItOk f k vo v le:=by
 intro H p B bs pos ht R vt n at_ i hv hs hi hR
 apply hw
 rcases hs with ⟨h0,rfl⟩|⟨h0,h1,rfl,h3,h4,h5⟩
 ·omega
 refine offS ht hv he (fun h=>absurd h h0) (fun h=>?_)
 try simp only[↓Qp,↓Qm]
 refine QcB ht rfl (by omega) (by omega) ?_
 simp only[↓Qp,↓Qm,↓Zx,↓Q5,↓Q7]
 have h6:tgt bs (pos+slotAt bs vt vo)+4+k*i+k<=bs.length:=by
  have:k*i+k<=k*n:=Nat.le_trans (Nat.le_of_eq (Nat.mul_succ k i).symm) (Nat.mul_le_mul_left k hi)
  omega
 exact hg ht (Tab.item ht h6) h6 hR
theorem QeN:ItOk 195 1 14 vU8 byteN:=itS w195 YS rfl
theorem QdU:Qfq 196 22:=lenS w196 rfl
def SubS (vo w:Int) (g:Nat) (x0 x1 x2:Value) (h:Qe) (R:Kn):Prop:=OffS vo x0 h (fun x13 h1=>
 Q1 x0 fun x17=>
 Qf x17 0 fun x18=>
 Qa prog 305 #[x18,x13] h1 fun x20 h2=>
 QG .u32 x2 fun x23=>
 Qj prog .mul 74 x23 (.int .u32 w) fun x24=>
 Qj prog .add 74 x20 x24 fun x25=>
 Q1 x0 fun x28=>
 Qf x28 0 fun x29=>
 Qf x29 0 fun x30=>
 LdK h2 x30 fun x31=>
 Qa prog g #[x1,x31,x25] h2 fun _x33 h3=>
 R (.bool true) h3) (fun h1=>(R (.bool false) h1))
theorem subS {f g vo w:Nat} (hw:∀{x0 x1 x2 h R},SubS vo w g x0 x1 x2 h R->FnS prog f #[x0,x1,x2] h R) (hg:QfY g) (he:vo%2=0) (hw0:0<w):SubOk f w vo:=by
 intro H p B bs pos ht R vt n at_ i q c e hv hs hi hq hc hR
 apply hw
 rcases hs with ⟨h0,rfl⟩|⟨h0,h1,rfl,h3,h4,h5⟩
 ·omega
 refine offS ht hv he (fun h=>absurd h h0) (fun h=>?_)
 try simp only[↓Qp,↓Qm]
 refine QcB ht rfl (by omega) (by omega) ?_
 have h6:tgt bs (pos+slotAt bs vt vo)+4+w*i+w<=bs.length:=by
  have:w*i+w<=w*n:=Nat.le_trans (Nat.le_of_eq (Nat.mul_succ w i).symm) (Nat.mul_le_mul_left w hi)
  omega
 have:=ht.lt
 have hi2:i<2147483648:=by
  have:1*i<=w*i:=Nat.mul_le_mul_right i hw0
  omega
 have ea:=Tab.item' ht (a:=tgt bs (pos+slotAt bs vt vo)+4) (k:=w) hi2 h6
 simp only[↓Q7,↓Zx,↓Q5]
 rw[ea]
 try simp only[↓Qp,↓Qm,↓Ql ht.c0]
 exact hg hq hc rfl rfl hR
theorem QgA:SubOk 197 4 22:=subS w197 Qd1 rfl (by decide)
theorem Qb6:Qfq 198 24:=lenS w198 rfl
def TItS (vo:Int) (x0 x1:Value) (h:Qe) (R:Kn):Prop:=OffS vo x0 h (fun x11 h1=>
 Q1 x0 fun x15=>
 Qf x15 0 fun x16=>
 Qa prog 305 #[x16,x11] h1 fun x18 h2=>
 Q1 x0 fun x20=>
 Qf x20 0 fun x21=>
 Qj prog .mul 3 x1 (.int .i64 4) fun x24=>
 QG .u32 x24 fun x25=>
 Qj prog .add 74 x18 x25 fun x26=>
 Qa prog 290 #[x21,x26] h2 fun x27 h3=>
 R x27 h3) (fun h1=>(R (.slice none 0 0) h1))
theorem titS {f vo:Nat} (hw:∀{x0 x1 h R},TItS vo x0 x1 h R->FnS prog f #[x0,x1] h R) (he:vo%2=0):TItOk f vo:=by
 intro H p B bs pos ht R vt n at_ i m hv hs hi hm hR
 apply hw
 rcases hs with ⟨h0,rfl⟩|⟨h0,h1,rfl,h3,h4,h5⟩
 ·omega
 refine offS ht hv he (fun h=>absurd h h0) (fun h=>?_)
 try simp only[↓Qp,↓Qm]
 refine QcB ht rfl (by omega) (by omega) ?_
 simp only[↓Qp,↓Qm,↓Zx,↓Q5,↓Q7]
 obtain ⟨g1,g2,g3⟩:=hm
 exact QdS ht (Tab.item ht g1) g1 g2 (Nat.le_of_lt g3) (Nat.lt_of_le_of_lt (Nat.le_add_right _ _) g3) hR
theorem QcE:TItOk 199 24:=titS w199 rfl
theorem QaX:Qfq 200 26:=lenS w200 rfl
def SubtS (vo:Int) (g:Nat) (x0 x1 x2:Value) (h:Qe) (R:Kn):Prop:=OffS vo x0 h (fun x13 h1=>
 Q1 x0 fun x17=>
 Qf x17 0 fun x18=>
 Qa prog 305 #[x18,x13] h1 fun x20 h2=>
 QG .u32 x2 fun x23=>
 Qj prog .mul 74 x23 (.int .u32 4) fun x24=>
 Qj prog .add 74 x20 x24 fun x25=>
 Q1 x0 fun x27=>
 Qf x27 0 fun x28=>
 Qa prog 298 #[x28,x25] h2 fun x30 h3=>
 Q1 x0 fun x33=>
 Qf x33 0 fun x34=>
 Qf x34 0 fun x35=>
 LdK h3 x35 fun x36=>
 Qa prog g #[x1,x36,x30] h3 fun _x38 h4=>
 R (.bool true) h4) (fun h1=>(R (.bool false) h1))
theorem subtS {f g vo:Nat} (hw:∀{x0 x1 x2 h R},SubtS vo g x0 x1 x2 h R->FnS prog f #[x0,x1,x2] h R) (hg:QfY g) (he:vo%2=0):SubtOk f vo:=by
 intro H p B bs pos ht R vt n at_ i q c e hv hs hi hm hm2 hq hc hR
 apply hw
 rcases hs with ⟨h0,rfl⟩|⟨h0,h1,rfl,h3,h4,h5⟩
 ·omega
 refine offS ht hv he (fun h=>absurd h h0) (fun h=>?_)
 try simp only[↓Qp,↓Qm]
 refine QcB ht rfl (by omega) (by omega) ?_
 have h6:tgt bs (pos+slotAt bs vt vo)+4+4*i+4<=bs.length:=by omega
 have:=ht.lt
 have ea:=Tab.item' ht (a:=tgt bs (pos+slotAt bs vt vo)+4) (k:=4) (by omega) h6
 simp only[↓Q7,↓Zx,↓Q5]
 rw[show ((4:Int))=((4:Nat):Int) from rfl,ea]
 try simp only[↓Qp,↓Qm,↓Ql ht.c0]
 refine Qbh ht rfl hm hm2 ?_
 try simp only[↓Qp,↓Qm,↓Ql ht.c0]
 exact hg hq hc rfl rfl hR
theorem Qcy:SubtOk 201 26:=subtS w201 ZB rfl
theorem Qgj {H:Qe} {p B:Nat} {bs:List UInt8} {pos:Nat} (ht:Tab H p B bs pos) {R:Kn} {vt:Nat} (hv:VT bs pos vt) (h0:slotAt bs vt 28=0->R (.pointer none) H)
  (h1:slotAt bs vt 28≠0->pos+slotAt bs vt 28+4<=bs.length/\tgt bs (pos+slotAt bs vt 28)<=bs.length/\R (.pointer (some ⟨H.size,0,none⟩)) (H.push (.cells #[bsl B 0 bs.length bs.length,.int .u32 (tgt bs (pos+slotAt bs vt 28):Nat)] 235))):
  FnS prog 202 #[.pointer (some ⟨p,0,none⟩),.pointer none] H R:=by
 apply w202
 refine offS ht hv (vo:=28) rfl (fun h=>h0 h) (fun h=>?_)
 obtain ⟨g1,g2,hR⟩:=h1 h
 simp only[↓Qp,↓Qm,↓Ql ht.c1,↓Q5]
 refine Qbh ht (Tab.slot_add ht g1) g1 g2 ?_
 refine Q2 (fun vs h=>vs=[.pointer (some ⟨H.size,0,none⟩)]/\h=H.push (.cells z235 235)) ?_ ?_
 ·rw[Y6 (by kernel_rfl)]
  exact ⟨rfl,rfl⟩
 ·rintro x h ⟨hx,rfl⟩
  cases hx
  have ht2:=Tab.push ht (.cells z235 235)
  simp only[↓Qp,↓Qm,↓Ql ht2.c0]
  refine ZB Qi (by simp[z235]) rfl rfl ?_
  rw[Yc]
  exact hR
theorem QaA:Qfq 203 30:=lenS w203 rfl
theorem Qby:ItOk 204 1 30 vU8 byteN:=itS w204 YS rfl
theorem QeC {H:Qe} {p B:Nat} {bs:List UInt8} {pos:Nat} (ht:Tab H p B bs pos) {R:Kn} {vt:Nat} (hv:VT bs pos vt) (h0:slotAt bs vt 32=0->R (.pointer none) H)
  (h1:slotAt bs vt 32≠0->pos+slotAt bs vt 32+4<=bs.length/\tgt bs (pos+slotAt bs vt 32)<=bs.length/\R (.pointer (some ⟨H.size,0,none⟩)) (H.push (.cells #[bsl B 0 bs.length bs.length,.int .u32 (tgt bs (pos+slotAt bs vt 32):Nat)] 300))):
  FnS prog 205 #[.pointer (some ⟨p,0,none⟩),.pointer none] H R:=by
 apply w205
 refine offS ht hv (vo:=32) rfl (fun h=>h0 h) (fun h=>?_)
 obtain ⟨g1,g2,hR⟩:=h1 h
 simp only[↓Qp,↓Qm,↓Ql ht.c1,↓Q5]
 refine Qbh ht (Tab.slot_add ht g1) g1 g2 ?_
 refine Q2 (fun vs h=>vs=[.pointer (some ⟨H.size,0,none⟩)]/\h=H.push (.cells z300 300)) ?_ ?_
 ·rw[Y6 (by kernel_rfl)]
  exact ⟨rfl,rfl⟩
 ·rintro x h ⟨hx,rfl⟩
  cases hx
  have ht2:=Tab.push ht (.cells z300 300)
  simp only[↓Qp,↓Qm,↓Ql ht2.c0]
  refine Qiu Qi (by simp[z300]) rfl rfl ?_
  rw[Yc]
  exact hR
theorem Example_Stat_Id:BytOk 206 4:=bytS w206 rfl
theorem Qjk:QiF 207 8 6 0 vI64:=scS (le:=le8) w207 Qbb rfl rfl rfl
theorem QhR:QiF 208 2 8 0 vU16:=scS (le:=le2) w208 QhM rfl rfl rfl
theorem Qbi:Qfq 209 52:=lenS w209 rfl
theorem QcN:ItOk 210 1 52 vB byteN:=itS w210 QfX rfl
theorem QaR:Qfq 211 60:=lenS w211 rfl
theorem Qc6:TItOk 212 60:=titS w212 rfl
theorem Qad:Qfq 213 62:=lenS w213 rfl
theorem Qb8:SubOk 214 8 62:=subS w214 Qha rfl (by decide)
theorem QhU:StOk 215 0 4 vU32 le4:=stS w215 QaO
theorem QeW:StOk 216 4 4 vU32 le4:=stS w216 QaO
theorem Qeh:Qfq 217 64:=lenS w217 rfl
theorem Qh5:ItOk 218 1 64 vU8 byteN:=itS w218 YS rfl
theorem Qe3:Qfq 219 66:=lenS w219 rfl
theorem Qgf:SubOk 220 4 66:=subS w220 Qd1 rfl (by decide)
theorem QbS:Qfq 221 68:=lenS w221 rfl
theorem Qdw:ItOk 222 8 68 vI64 le8:=itS w222 Qbb rfl
theorem Qbp:Qfq 223 70:=lenS w223 rfl
theorem Qd6:ItOk 224 8 70 vF64 le8:=itS w224 QdW rfl
theorem QaI:Qfq 225 74:=lenS w225 rfl
theorem QbT:SubtOk 226 74:=subtS w226 QcJ rfl
theorem Qdg:QiF 227 8 4 0 vU64:=scS (le:=le8) w227 YO rfl rfl rfl
theorem Qah:Qfq 228 78:=lenS w228 rfl
theorem Qbj:ItOk 229 8 78 vU64 le8:=itS w229 YO rfl
theorem Qa3:Qfq 230 80:=lenS w230 rfl
theorem QaJ:SubtOk 231 80:=subtS w231 QcJ rfl
theorem Qa2:Qfq 232 84:=lenS w232 rfl
theorem QaC:ItOk 233 8 84 vU64 le8:=itS w233 YO rfl
theorem ZV:Qfq 234 88:=lenS w234 rfl
theorem Qal:ItOk 235 8 88 vU64 le8:=itS w235 YO rfl
def UniS (vo:Int) (x0 x1:Value) (h:Qe) (R:Kn):Prop:=OffS vo x0 h (fun x10 h1=>
 Q1 x0 fun x14=>
 Qf x14 0 fun x15=>
 Qa prog 310 #[x15,x1,x10] h1 fun _x18 h2=>
 R (.bool true) h2) (fun h1=>(R (.bool false) h1))
theorem uniS {f vo:Nat} (hw:∀{x0 x1 h R},UniS vo x0 x1 h R->FnS prog f #[x0,x1] h R) (he:vo%2=0):UniOk f vo:=by
 intro H p B bs pos ht R vt q c e hv hq hc hpq h0 h1
 apply hw
 refine offS ht hv he (fun h=>h0 h) (fun h=>?_)
 obtain ⟨g1,g2,hR⟩:=h1 h
 try simp only[↓Qp,↓Qm]
 exact go_Table_Union ht rfl g1 g2 hq hc hpq hR
theorem Qh8:UniOk 236 20:=uniS w236 rfl
theorem Qf6:QiF 238 1 18 0 vU8:=scS (le:=byteN) w238 YS rfl rfl rfl
theorem QeE:UniOk 239 92:=uniS w239 rfl
theorem Qdq:QiF 240 1 90 0 vU8:=scS (le:=byteN) w240 YS rfl rfl rfl
theorem QcO:QiF 241 1 94 0 vU8:=scS (le:=byteN) w241 YS rfl rfl rfl
theorem QdJ:UniOk 242 96:=uniS w242 rfl
theorem QbR:Qfq 244 98:=lenS w244 rfl
theorem Qdp:ItOk 245 1 98 vU8 byteN:=itS w245 YS rfl
theorem Qbm:QiF 312 1 4 2 vU8:=scS (le:=byteN) w312 YS rfl rfl rfl
end Go.Proofs
namespace Go.Proofs
open Go Go.Vc
open Tryz (prog)
section
variable {H:Qe} {B o n c:Nat} {L:List UInt8} {e:TypeId} (hB:H[B]?=some (.cells (u8c L) e (0,0))) {R:Kn}
include hB
set_option maxHeartbeats 1000000 in
theorem Qhb {x:Int} (ho:o+2<=L.length) (hn:2<=n) (hR:R (.tuple #[]) (wr H B e (QaF L o (leB x 2)))):FnS prog 368 #[bsl B o n c,.int .u16 x] H R:=by
 rw[leB_2]at hR
 have hc:=Zy (QdZ hB) (o:=o) (i:=1) (by omega)
 have i0:(0:Int)<n:=by omega
 have i1:(1:Int)<n:=by omega
 apply w368
 unfold tp362
 have e0:IntKind.u8.wrap x=((Za x 0).toNat:Int):=byte_0 x
 have e1:IntKind.u8.wrap (x.fdiv (2^(min (Int.toNat 8) IntKind.u16.bits)))=((Za x 1).toNat:Int):=Zh x 1
 simp only[↓QP (by decide:(0:Int)<=0) i0,↓QP (by decide:(0:Int)<=1) i1,show Int.toNat 0=0 from rfl,show Int.toNat 1=1 from rfl,Nat.mul_one,Nat.zero_mul,Nat.one_mul,↓Ql hc,↓Q7,↓Ze (by decide:(0:Int)<=8),e0,e1]
 rw[<-Qe4 hB]
 rw[ZA hB (by simp;omega)]
 rw[ZA hB (by simp;omega)]
 exact hR
set_option maxHeartbeats 1000000 in
theorem go_WriteInt16 {x:Int} (ho:o+2<=L.length) (hn:2<=n) (hR:R (.tuple #[]) (wr H B e (QaF L o (leB x 2)))):FnS prog 362 #[bsl B o n c,.int .i16 x] H R:=by
 rw[leB_2]at hR
 have hc:=Zy (QdZ hB) (o:=o) (i:=1) (by omega)
 have i0:(0:Int)<n:=by omega
 have i1:(1:Int)<n:=by omega
 apply w362
 unfold tp362
 have e0:IntKind.u8.wrap x=((Za x 0).toNat:Int):=byte_0 x
 have e1:IntKind.u8.wrap (x.fdiv (2^(min (Int.toNat 8) IntKind.i16.bits)))=((Za x 1).toNat:Int):=Zh x 1
 simp only[↓QP (by decide:(0:Int)<=0) i0,↓QP (by decide:(0:Int)<=1) i1,show Int.toNat 0=0 from rfl,show Int.toNat 1=1 from rfl,Nat.mul_one,Nat.zero_mul,Nat.one_mul,↓Ql hc,↓Q7,↓Ze (by decide:(0:Int)<=8),e0,e1]
 rw[<-Qe4 hB]
 rw[ZA hB (by simp;omega)]
 rw[ZA hB (by simp;omega)]
 exact hR
set_option maxHeartbeats 1000000 in
theorem QeK {x:Int} (ho:o+4<=L.length) (hn:4<=n) (hR:R (.tuple #[]) (wr H B e (QaF L o (leB x 4)))):FnS prog 346 #[bsl B o n c,.int .u32 x] H R:=by
 rw[leB_4]at hR
 have hc:=Zy (QdZ hB) (o:=o) (i:=3) (by omega)
 have i0:(0:Int)<n:=by omega
 have i1:(1:Int)<n:=by omega
 have i2:(2:Int)<n:=by omega
 have i3:(3:Int)<n:=by omega
 apply w346
 unfold tp346
 have e0:IntKind.u8.wrap x=((Za x 0).toNat:Int):=byte_0 x
 have e1:IntKind.u8.wrap (x.fdiv (2^(min (Int.toNat 8) IntKind.u32.bits)))=((Za x 1).toNat:Int):=Zh x 1
 have e2:IntKind.u8.wrap (x.fdiv (2^(min (Int.toNat 16) IntKind.u32.bits)))=((Za x 2).toNat:Int):=Zh x 2
 have e3:IntKind.u8.wrap (x.fdiv (2^(min (Int.toNat 24) IntKind.u32.bits)))=((Za x 3).toNat:Int):=Zh x 3
 simp only[↓QP (by decide:(0:Int)<=0) i0,↓QP (by decide:(0:Int)<=1) i1,↓QP (by decide:(0:Int)<=2) i2,↓QP (by decide:(0:Int)<=3) i3,show Int.toNat 0=0 from rfl,show Int.toNat 1=1 from rfl,show Int.toNat 2=2 from rfl,show Int.toNat 3=3 from rfl,Nat.mul_one,Nat.zero_mul,Nat.one_mul,↓Ql hc,↓Q7,↓Ze (by decide:(0:Int)<=8),↓Ze (by decide:(0:Int)<=16),↓Ze (by decide:(0:Int)<=24),e0,e1,e2,e3]
 rw[<-Qe4 hB]
 rw[ZA hB (by simp;omega)]
 rw[ZA hB (by simp;omega)]
 rw[ZA hB (by simp;omega)]
 rw[ZA hB (by simp;omega)]
 exact hR
set_option maxHeartbeats 1000000 in
theorem QhN {x:Int} (ho:o+4<=L.length) (hn:4<=n) (hR:R (.tuple #[]) (wr H B e (QaF L o (leB x 4)))):FnS prog 365 #[bsl B o n c,.int .i32 x] H R:=by
 rw[leB_4]at hR
 have hc:=Zy (QdZ hB) (o:=o) (i:=3) (by omega)
 have i0:(0:Int)<n:=by omega
 have i1:(1:Int)<n:=by omega
 have i2:(2:Int)<n:=by omega
 have i3:(3:Int)<n:=by omega
 apply w365
 unfold tp346
 have e0:IntKind.u8.wrap x=((Za x 0).toNat:Int):=byte_0 x
 have e1:IntKind.u8.wrap (x.fdiv (2^(min (Int.toNat 8) IntKind.i32.bits)))=((Za x 1).toNat:Int):=Zh x 1
 have e2:IntKind.u8.wrap (x.fdiv (2^(min (Int.toNat 16) IntKind.i32.bits)))=((Za x 2).toNat:Int):=Zh x 2
 have e3:IntKind.u8.wrap (x.fdiv (2^(min (Int.toNat 24) IntKind.i32.bits)))=((Za x 3).toNat:Int):=Zh x 3
 simp only[↓QP (by decide:(0:Int)<=0) i0,↓QP (by decide:(0:Int)<=1) i1,↓QP (by decide:(0:Int)<=2) i2,↓QP (by decide:(0:Int)<=3) i3,show Int.toNat 0=0 from rfl,show Int.toNat 1=1 from rfl,show Int.toNat 2=2 from rfl,show Int.toNat 3=3 from rfl,Nat.mul_one,Nat.zero_mul,Nat.one_mul,↓Ql hc,↓Q7,↓Ze (by decide:(0:Int)<=8),↓Ze (by decide:(0:Int)<=16),↓Ze (by decide:(0:Int)<=24),e0,e1,e2,e3]
 rw[<-Qe4 hB]
 rw[ZA hB (by simp;omega)]
 rw[ZA hB (by simp;omega)]
 rw[ZA hB (by simp;omega)]
 rw[ZA hB (by simp;omega)]
 exact hR
set_option maxHeartbeats 1000000 in
theorem Qhj {x:Int} (ho:o+8<=L.length) (hn:8<=n) (hR:R (.tuple #[]) (wr H B e (QaF L o (leB x 8)))):FnS prog 328 #[bsl B o n c,.int .u64 x] H R:=by
 rw[leB_8]at hR
 have hc:=Zy (QdZ hB) (o:=o) (i:=7) (by omega)
 have i0:(0:Int)<n:=by omega
 have i1:(1:Int)<n:=by omega
 have i2:(2:Int)<n:=by omega
 have i3:(3:Int)<n:=by omega
 have i4:(4:Int)<n:=by omega
 have i5:(5:Int)<n:=by omega
 have i6:(6:Int)<n:=by omega
 have i7:(7:Int)<n:=by omega
 apply w328
 unfold tp326
 have e0:IntKind.u8.wrap x=((Za x 0).toNat:Int):=byte_0 x
 have e1:IntKind.u8.wrap (x.fdiv (2^(min (Int.toNat 8) IntKind.u64.bits)))=((Za x 1).toNat:Int):=Zh x 1
 have e2:IntKind.u8.wrap (x.fdiv (2^(min (Int.toNat 16) IntKind.u64.bits)))=((Za x 2).toNat:Int):=Zh x 2
 have e3:IntKind.u8.wrap (x.fdiv (2^(min (Int.toNat 24) IntKind.u64.bits)))=((Za x 3).toNat:Int):=Zh x 3
 have e4:IntKind.u8.wrap (x.fdiv (2^(min (Int.toNat 32) IntKind.u64.bits)))=((Za x 4).toNat:Int):=Zh x 4
 have e5:IntKind.u8.wrap (x.fdiv (2^(min (Int.toNat 40) IntKind.u64.bits)))=((Za x 5).toNat:Int):=Zh x 5
 have e6:IntKind.u8.wrap (x.fdiv (2^(min (Int.toNat 48) IntKind.u64.bits)))=((Za x 6).toNat:Int):=Zh x 6
 have e7:IntKind.u8.wrap (x.fdiv (2^(min (Int.toNat 56) IntKind.u64.bits)))=((Za x 7).toNat:Int):=Zh x 7
 simp only[↓QP (by decide:(0:Int)<=0) i0,↓QP (by decide:(0:Int)<=1) i1,↓QP (by decide:(0:Int)<=2) i2,↓QP (by decide:(0:Int)<=3) i3,↓QP (by decide:(0:Int)<=4) i4,↓QP (by decide:(0:Int)<=5) i5,↓QP (by decide:(0:Int)<=6) i6,↓QP (by decide:(0:Int)<=7) i7,show Int.toNat 0=0 from rfl,show Int.toNat 1=1 from rfl,show Int.toNat 2=2 from rfl,show Int.toNat 3=3 from rfl,show Int.toNat 4=4 from rfl,show Int.toNat 5=5 from rfl,show Int.toNat 6=6 from rfl,show Int.toNat 7=7 from rfl,Nat.mul_one,Nat.zero_mul,Nat.one_mul,↓Ql hc,↓Q7,↓Ze (by decide:(0:Int)<=8),↓Ze (by decide:(0:Int)<=16),↓Ze (by decide:(0:Int)<=24),↓Ze (by decide:(0:Int)<=32),↓Ze (by decide:(0:Int)<=40),↓Ze (by decide:(0:Int)<=48),↓Ze (by decide:(0:Int)<=56),e0,e1,e2,e3,e4,e5,e6,e7]
 rw[<-Qe4 hB]
 rw[ZA hB (by simp;omega)]
 rw[ZA hB (by simp;omega)]
 rw[ZA hB (by simp;omega)]
 rw[ZA hB (by simp;omega)]
 rw[ZA hB (by simp;omega)]
 rw[ZA hB (by simp;omega)]
 rw[ZA hB (by simp;omega)]
 rw[ZA hB (by simp;omega)]
 exact hR
set_option maxHeartbeats 1000000 in
theorem go_WriteInt64 {x:Int} (ho:o+8<=L.length) (hn:8<=n) (hR:R (.tuple #[]) (wr H B e (QaF L o (leB x 8)))):FnS prog 326 #[bsl B o n c,.int .i64 x] H R:=by
 rw[leB_8]at hR
 have hc:=Zy (QdZ hB) (o:=o) (i:=7) (by omega)
 have i0:(0:Int)<n:=by omega
 have i1:(1:Int)<n:=by omega
 have i2:(2:Int)<n:=by omega
 have i3:(3:Int)<n:=by omega
 have i4:(4:Int)<n:=by omega
 have i5:(5:Int)<n:=by omega
 have i6:(6:Int)<n:=by omega
 have i7:(7:Int)<n:=by omega
 apply w326
 unfold tp326
 have e0:IntKind.u8.wrap x=((Za x 0).toNat:Int):=byte_0 x
 have e1:IntKind.u8.wrap (x.fdiv (2^(min (Int.toNat 8) IntKind.i64.bits)))=((Za x 1).toNat:Int):=Zh x 1
 have e2:IntKind.u8.wrap (x.fdiv (2^(min (Int.toNat 16) IntKind.i64.bits)))=((Za x 2).toNat:Int):=Zh x 2
 have e3:IntKind.u8.wrap (x.fdiv (2^(min (Int.toNat 24) IntKind.i64.bits)))=((Za x 3).toNat:Int):=Zh x 3
 have e4:IntKind.u8.wrap (x.fdiv (2^(min (Int.toNat 32) IntKind.i64.bits)))=((Za x 4).toNat:Int):=Zh x 4
 have e5:IntKind.u8.wrap (x.fdiv (2^(min (Int.toNat 40) IntKind.i64.bits)))=((Za x 5).toNat:Int):=Zh x 5
 have e6:IntKind.u8.wrap (x.fdiv (2^(min (Int.toNat 48) IntKind.i64.bits)))=((Za x 6).toNat:Int):=Zh x 6
 have e7:IntKind.u8.wrap (x.fdiv (2^(min (Int.toNat 56) IntKind.i64.bits)))=((Za x 7).toNat:Int):=Zh x 7
 simp only[↓QP (by decide:(0:Int)<=0) i0,↓QP (by decide:(0:Int)<=1) i1,↓QP (by decide:(0:Int)<=2) i2,↓QP (by decide:(0:Int)<=3) i3,↓QP (by decide:(0:Int)<=4) i4,↓QP (by decide:(0:Int)<=5) i5,↓QP (by decide:(0:Int)<=6) i6,↓QP (by decide:(0:Int)<=7) i7,show Int.toNat 0=0 from rfl,show Int.toNat 1=1 from rfl,show Int.toNat 2=2 from rfl,show Int.toNat 3=3 from rfl,show Int.toNat 4=4 from rfl,show Int.toNat 5=5 from rfl,show Int.toNat 6=6 from rfl,show Int.toNat 7=7 from rfl,Nat.mul_one,Nat.zero_mul,Nat.one_mul,↓Ql hc,↓Q7,↓Ze (by decide:(0:Int)<=8),↓Ze (by decide:(0:Int)<=16),↓Ze (by decide:(0:Int)<=24),↓Ze (by decide:(0:Int)<=32),↓Ze (by decide:(0:Int)<=40),↓Ze (by decide:(0:Int)<=48),↓Ze (by decide:(0:Int)<=56),e0,e1,e2,e3,e4,e5,e6,e7]
 rw[<-Qe4 hB]
 rw[ZA hB (by simp;omega)]
 rw[ZA hB (by simp;omega)]
 rw[ZA hB (by simp;omega)]
 rw[ZA hB (by simp;omega)]
 rw[ZA hB (by simp;omega)]
 rw[ZA hB (by simp;omega)]
 rw[ZA hB (by simp;omega)]
 rw[ZA hB (by simp;omega)]
 exact hR
set_option maxHeartbeats 1000000 in
theorem go_WriteInt8 {x:Int} (ho:o+1<=L.length) (hn:1<=n) (hR:R (.tuple #[]) (wr H B e (QaF L o (leB x 1)))):FnS prog 361 #[bsl B o n c,.int .i8 x] H R:=by
 rw[leB_1]at hR
 have hc:=Zy (QdZ hB) (o:=o) (i:=0) (by omega)
 have i0:(0:Int)<n:=by omega
 apply w361
 unfold s361
 have e0:IntKind.u8.wrap x=((Za x 0).toNat:Int):=byte_0 x
 simp only[↓QP (by decide:(0:Int)<=0) i0,show Int.toNat 0=0 from rfl,Nat.mul_one,Nat.zero_mul,Nat.one_mul,↓Q7,e0]
 rw[<-Qe4 hB]
 rw[ZA hB (by simp;omega)]
 exact hR
theorem go_WriteUint8 {b:UInt8} (ho:o+1<=L.length) (hn:1<=n) (hR:R (.tuple #[]) (wr H B e (QaF L o [b]))):FnS prog 347 #[bsl B o n c,.int .u8 (b.toNat:Int)] H R:=by
 have i0:(0:Int)<n:=by omega
 apply w347
 unfold s347
 simp only[↓QP (by decide:(0:Int)<=0) i0,show Int.toNat 0=0 from rfl,Nat.zero_mul]
 rw[<-Qe4 hB,ZA hB (by omega)]
 exact hR
theorem go_WriteByte {b:UInt8} (ho:o+1<=L.length) (hn:1<=n) (hR:R (.tuple #[]) (wr H B e (QaF L o [b]))):FnS prog 315 #[bsl B o n c,.int .u8 (b.toNat:Int)] H R:=by
 apply w315
 unfold tp314
 exact go_WriteUint8 hB ho hn hR
theorem go_WriteBool {b:Bool} (ho:o+1<=L.length) (hn:1<=n) (hR:R (.tuple #[]) (wr H B e (QaF L o [if b then 1 else 0]))):FnS prog 324 #[bsl B o n c,.bool b] H R:=by
 have i0:(0:Int)<n:=by omega
 apply w324
 unfold s324
 simp only[↓QP (by decide:(0:Int)<=0) i0,show Int.toNat 0=0 from rfl,Nat.zero_mul]
 have s0:(Value.int .u8 0)= .int .u8 ((0:UInt8).toNat:Int):=rfl
 have s1:(Value.int .u8 1)= .int .u8 ((1:UInt8).toNat:Int):=rfl
 rw[<-Qe4 hB,s0,ZA hB (by omega)]
 cases b
 ·exact hR
 ·rw[Qbs,s1,ZA hB (by simp only[List.length_set];omega),Nat.add_zero,List.set_set]
  exact hR
theorem Qjn {x:Int} (ho:o+4<=L.length) (hn:4<=n) (hR:R (.tuple #[]) (wr H B e (QaF L o (leB x 4)))):FnS prog 314 #[bsl B o n c,.int .u32 x] H R:=by
 apply w314
 unfold tp314
 exact QeK hB ho hn hR
theorem Qdr {x:Int} (ho:o+4<=L.length) (hn:4<=n) (hR:R (.tuple #[]) (wr H B e (QaF L o (leB x 4)))):FnS prog 358 #[bsl B o n c,.int .i32 x] H R:=by
 apply w358
 unfold tp314
 exact QhN hB ho hn hR
theorem Qjo {x:Int} (ho:o+2<=L.length) (hn:2<=n) (hR:R (.tuple #[]) (wr H B e (QaF L o (leB x 2)))):FnS prog 369 #[bsl B o n c,.int .u16 x] H R:=by
 apply w369
 unfold tp314
 exact Qhb hB ho hn hR
omit hB in
theorem Qs {w:World} {n:Nat}:(callFunc 175 #[.float .f32 n]).run prog w= .ok (.value (.int .u32 n)) w:=by
 simp only[callFunc,Sem.run_bind,run_program,Result.andThen_ok,Tryz.func175]
 rfl
omit hB in
theorem Qe6 {w:World} {n:Nat}:(callFunc 189 #[.float .f64 n]).run prog w= .ok (.value (.int .u64 n)) w:=by
 simp only[callFunc,Sem.run_bind,run_program,Result.andThen_ok,Tryz.func189]
 rfl
theorem go_WriteFloat32 {x:Nat} (ho:o+4<=L.length) (hn:4<=n) (hR:R (.tuple #[]) (wr H B e (QaF L o (leB x 4)))):FnS prog 364 #[bsl B o n c,.float .f32 x] H R:=by
 apply w364
 unfold s364
 refine QY (fun w=>Qs) ?_
 exact QeK hB ho hn hR
theorem go_WriteFloat64 {x:Nat} (ho:o+8<=L.length) (hn:8<=n) (hR:R (.tuple #[]) (wr H B e (QaF L o (leB x 8)))):FnS prog 327 #[bsl B o n c,.float .f64 x] H R:=by
 apply w327
 unfold s327
 refine QY (fun w=>Qe6) ?_
 exact Qhj hB ho hn hR
end
end Go.Proofs
