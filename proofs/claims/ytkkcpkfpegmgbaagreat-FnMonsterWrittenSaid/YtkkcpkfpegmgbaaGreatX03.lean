/- WHAT IS PROVED: the given statement of FnMonsterWritten, whatever the input: this is part 3 of 14. No conditions. -/
import Derived.Test.YtkkcpkfpegmgbaaGreatX02
import Derived.Test.YtkkcpkfpegmgbaaGreatProg
set_option linter.all false
namespace Go.Proofs
open Go Go.Vc
open Tryz (prog)
set_option maxRecDepth 100000
def callableQ (P:Program) (f:Nat):Bool:=
 match P.funcs[f]? with
 |some fn=>(match fn.body with|some _=>true|none=>false)&&!(fn.name== "runtime.NumGoroutine")
 |none=>false
theorem calOk_of {P:Program} {cal:Nat->Bool} {n:Nat} (h:(List.range n).all (fun f=>!cal f||callableQ P f)=true) (hn:∀f,cal f=true->f<n):CalOk P cal:=by
 intro f hf args w
 have h1:=List.all_eq_true.1 h f (List.mem_range.2 (hn f hf))
 rw[hf]at h1
 simp only[Bool.not_true,Bool.false_or]at h1
 unfold callableQ at h1
 split at h1
 ·rename_i fn hfn
  simp only[Bool.and_eq_true,Bool.not_eq_true',beq_eq_false_iff_ne,ne_eq]at h1
  obtain ⟨hb,hne⟩:=h1
  split at hb
  ·rename_i c hc
   simp[callFunc,hfn,hc,hne]
  ·cases hb
 ·cases h1
def cal (f:Nat):Bool:=Nat.ble 2 f&&(Nat.blt f 402&&!memN f [74,76,170,174])
theorem hcal:CalOk prog cal:=calOk_of (n:=426) (by kernel_rfl) (by
 intro f hf
 simp only[cal,Bool.and_eq_true]at hf
 have:=Nat.le_of_ble_eq_true hf.2.1
 omega)
theorem wq {f:Nat} {fn:Func} (hf:prog.funcs[f]?=some fn) {args:List Value} {h:Qe} {R:Kn} {S:Prop} (e:vcF prog cal fn args h R=S) (H:S):FnS prog f args.toArray h R:=fn_of_vc hcal hf (e.mpr H)
def z2:Array Value:=#[(.int .i64 0)]
def z3:Array Value:=#[(.int .i64 0)]
def z4:Array Value:=#[(.bool false)]
def z5:Array Value:=#[(.int .u8 0)]
def z9:Array Value:=#[(.string ⟨#[]⟩)]
def z24:Array Value:=#[(.slice none 0 0)]
def z26:Array Value:=#[(.int .u8 0),(.slice none 0 0),(.int .u8 0)]
def z31:Array Value:=#[(.int .u64 0)]
def z38:Array Value:=#[(.slice none 0 0),(.int .i16 0),(.int .i16 0),(.string ⟨#[]⟩),(.string ⟨#[]⟩),(.int .u8 0),(.int .u8 0),(.slice none 0 0),(.int .u8 0),(.slice none 0 0),(.slice none 0 0),(.slice none 0 0),(.slice none 0 0),(.string ⟨#[]⟩),(.slice none 0 0),(.bool false),(.int .i32 0),(.int .u32 0),(.int .i64 0),(.int .u64 0),(.int .i32 0),(.int .u32 0),(.int .i64 0),(.int .u64 0),(.slice none 0 0),(.int .u32 0),(.int .u32 0),(.int .u32 0),(.slice none 0 0),(.slice none 0 0),(.string ⟨#[]⟩),(.slice none 0 0),(.slice none 0 0),(.slice none 0 0),(.bool false),(.slice none 0 0),(.int .u64 0),(.slice none 0 0),(.slice none 0 0),(.int .u64 0),(.slice none 0 0),(.int .u64 0),(.slice none 0 0),(.int .u8 0),(.slice none 0 0),(.int .u8 0),(.int .u8 0),(.slice none 0 0),(.int .u8 0),(.string ⟨#[]⟩),(.int .i8 0)]
def z45:Array Value:=#[(.int .u8 0),(.int .u8 0),(.int .u64 0),(.string ⟨#[]⟩),(.slice none 0 0),(.slice none 0 0),(.slice none 0 0)]
def z50:Array Value:=#[(.int .u8 0),(.slice none 0 0),(.int .u8 0)]
def z55:Array Value:=#[(.slice none 0 0),(.int .i16 0),(.int .i16 0),(.string ⟨#[]⟩),(.string ⟨#[]⟩),(.int .u8 0),(.int .u8 0),(.slice none 0 0),(.int .u8 0),(.slice none 0 0),(.slice none 0 0),(.slice none 0 0),(.slice none 0 0),(.string ⟨#[]⟩),(.slice none 0 0),(.bool false),(.int .i32 0),(.int .u32 0),(.int .i64 0),(.int .u64 0),(.int .i32 0),(.int .u32 0),(.int .i64 0),(.int .u64 0),(.slice none 0 0),(.int .u32 0),(.int .u32 0),(.int .u32 0),(.slice none 0 0),(.slice none 0 0),(.string ⟨#[]⟩),(.slice none 0 0),(.slice none 0 0),(.slice none 0 0),(.bool false),(.slice none 0 0),(.int .u64 0),(.slice none 0 0),(.slice none 0 0),(.int .u64 0),(.slice none 0 0),(.int .u64 0),(.slice none 0 0),(.int .u8 0),(.slice none 0 0),(.int .u8 0),(.int .u8 0),(.slice none 0 0),(.int .u8 0),(.string ⟨#[]⟩),(.int .i8 0)]
def z70:Array Value:=#[(.slice none 0 0)]
def z74:Array Value:=#[(.bool false),(.int .u8 0),(.int .u8 0),(.int .u64 0),(.string ⟨#[]⟩),(.slice none 0 0),(.slice none 0 0),(.slice none 0 0),(.int .u64 0)]
def z76:Array Value:=#[(.int .u32 0),(.int .u32 0),(.int .u32 0),(.int .u64 0),(.int .u8 0),(.int .i16 0),(.int .i8 0)]
def z80:Array Value:=#[(.string ⟨#[]⟩),(.int .i64 0),(.int .u16 0)]
def z89:Array Value:=#[(.pointer none)]
def z93:Array Value:=#[(.int .u32 0)]
def z101:Array Value:=#[(.int .i16 0),(.int .i8 0)]
def z108:Array Value:=#[(.int .u32 0),(.int .u32 0)]
def z114:Array Value:=#[(.int .u32 0),(.int .u32 0),(.int .u32 0),(.int .u64 0),(.int .u8 0),(.int .i16 0),(.int .i8 0)]
def z117:Array Value:=#[(.int .i16 0),(.int .i8 0)]
def z120:Array Value:=#[(.string ⟨#[]⟩),(.int .i64 0),(.int .u16 0)]
def z123:Array Value:=#[(.int .u32 0),(.int .u32 0)]
def z142:Array Value:=#[(.int .i64 0),(.int .u8 0),(.int .u8 0),(.int .u64 0),(.string ⟨#[]⟩),(.slice none 0 0),(.slice none 0 0),(.slice none 0 0)]
def z145:Array Value:=#[(.int .u8 0)]
def z160:Array Value:=#[(.pointer none),(.int .i16 0),(.int .i16 0),(.string ⟨#[]⟩),(.slice none 0 0),(.int .u8 0),(.pointer none),(.slice none 0 0),(.slice none 0 0),(.slice none 0 0),(.pointer none),(.slice none 0 0),(.pointer none),(.bool false),(.int .i32 0),(.int .u32 0),(.int .i64 0),(.int .u64 0),(.int .i32 0),(.int .u32 0),(.int .i64 0),(.int .u64 0),(.slice none 0 0),(.float .f32 0),(.float .f32 0),(.float .f32 0),(.slice none 0 0),(.slice none 0 0),(.slice none 0 0),(.slice none 0 0),(.slice none 0 0),(.slice none 0 0),(.pointer none),(.slice none 0 0),(.int .u64 0),(.slice none 0 0),(.slice none 0 0),(.int .u64 0),(.slice none 0 0),(.int .u64 0),(.slice none 0 0),(.pointer none),(.pointer none),(.slice none 0 0),(.int .i8 0)]
def z164:Array Value:=#[(.float .f64 0)]
def z165:Array Value:=#[(.pointer none)]
def z167:Array Value:=#[(.float .f32 0),(.float .f32 0),(.float .f32 0),(.float .f64 0),(.int .u8 0),(.pointer none)]
def z169:Array Value:=#[(.int .i16 0),(.int .i8 0)]
def z170:Array Value:=#[(.string ⟨#[]⟩),(.int .i64 0),(.int .u16 0)]
def z171:Array Value:=#[(.pointer none)]
def z172:Array Value:=#[(.int .u32 0),(.int .u32 0)]
def z176:Array Value:=#[(.int .u8 0),.nilIface]
def z179:Array Value:=#[(.int .u8 0),.nilIface]
def z182:Array Value:=#[(.int .u8 0),.nilIface]
def z185:Array Value:=#[(.slice none 0 0),(.int .u32 0)]
def z187:Array Value:=#[(.slice none 0 0),(.int .u32 0)]
def z211:Array Value:=#[(.slice none 0 0),(.int .u32 0)]
def z219:Array Value:=#[(.slice none 0 0),(.int .u32 0)]
def z224:Array Value:=#[(.slice none 0 0),(.int .u32 0)]
def z238:Array Value:=#[(.slice none 0 0),(.int .i64 0),(.slice none 0 0),(.int .u32 0),(.slice none 0 0),(.int .u32 0),(.bool false),(.bool false),(.map none)]
def z249:Array Value:=#[]
def z258:Array Value:=#[(.pointer none)]
def z277:Array Value:=#[(.int .u64 0)]
def z280:Array Value:=#[(.int .u8 0)]
def z304:Array Value:=#[(.slice none 0 0),(.int .u32 0)]
def z306:Array Value:=#[(.slice none 0 0),(.int .u32 0)]
def z309:Array Value:=#[(.slice none 0 0),(.int .u32 0)]
def z312:Array Value:=#[(.slice none 0 0),(.int .u32 0)]
def tp261 (p0:IntKind) (p1:Nat) (x1:Value) (h:Qe) (R:Kn):Prop:=
 Y1 1 x1 (.int .i64 3) fun x2=>
 LdK h x2 fun _x1=>
 Y1 1 x1 (.int .i64 0) fun x3=>
 LdK h x3 fun x4=>
 QK p0 x4 fun x5=>
 Qk prog .or p1 (.int p0 0) x5 fun x6=>
 Y1 1 x1 (.int .i64 1) fun x7=>
 LdK h x7 fun x8=>
 QK p0 x8 fun x9=>
 Qk prog .shl p1 x9 (.int .u64 8) fun x10=>
 Qk prog .or p1 x6 x10 fun x11=>
 Y1 1 x1 (.int .i64 2) fun x12=>
 LdK h x12 fun x13=>
 QK p0 x13 fun x14=>
 Qk prog .shl p1 x14 (.int .u64 16) fun x15=>
 Qk prog .or p1 x11 x15 fun x16=>
 Y1 1 x1 (.int .i64 3) fun x17=>
 LdK h x17 fun x18=>
 QK p0 x18 fun x19=>
 Qk prog .shl p1 x19 (.int .u64 24) fun x20=>
 Qk prog .or p1 x16 x20 fun x21=>
 R x21 h
def tp347 (p0:IntKind) (p1:Nat) (x1:Value) (h:Qe) (R:Kn):Prop:=
 Y1 1 x1 (.int .i64 1) fun x2=>
 LdK h x2 fun _x1=>
 Y1 1 x1 (.int .i64 0) fun x3=>
 LdK h x3 fun x4=>
 QK p0 x4 fun x5=>
 Qk prog .or p1 (.int p0 0) x5 fun x6=>
 Y1 1 x1 (.int .i64 1) fun x7=>
 LdK h x7 fun x8=>
 QK p0 x8 fun x9=>
 Qk prog .shl p1 x9 (.int .u64 8) fun x10=>
 Qk prog .or p1 x6 x10 fun x11=>
 R x11 h
def QgZ (p0:Nat) (x1:Value) (h:Qe) (R:Kn):Prop:=
 Qa prog p0 #[x1] h fun x2 h1=>
 R x2 h1
def tp351 (p0:IntKind) (p1:Nat) (x1:Value) (h:Qe) (R:Kn):Prop:=
 Y1 1 x1 (.int .i64 7) fun x2=>
 LdK h x2 fun _x1=>
 Y1 1 x1 (.int .i64 0) fun x3=>
 LdK h x3 fun x4=>
 QK p0 x4 fun x5=>
 Qk prog .or p1 (.int p0 0) x5 fun x6=>
 Y1 1 x1 (.int .i64 1) fun x7=>
 LdK h x7 fun x8=>
 QK p0 x8 fun x9=>
 Qk prog .shl p1 x9 (.int .u64 8) fun x10=>
 Qk prog .or p1 x6 x10 fun x11=>
 Y1 1 x1 (.int .i64 2) fun x12=>
 LdK h x12 fun x13=>
 QK p0 x13 fun x14=>
 Qk prog .shl p1 x14 (.int .u64 16) fun x15=>
 Qk prog .or p1 x11 x15 fun x16=>
 Y1 1 x1 (.int .i64 3) fun x17=>
 LdK h x17 fun x18=>
 QK p0 x18 fun x19=>
 Qk prog .shl p1 x19 (.int .u64 24) fun x20=>
 Qk prog .or p1 x16 x20 fun x21=>
 Y1 1 x1 (.int .i64 4) fun x22=>
 LdK h x22 fun x23=>
 QK p0 x23 fun x24=>
 Qk prog .shl p1 x24 (.int .u64 32) fun x25=>
 Qk prog .or p1 x21 x25 fun x26=>
 Y1 1 x1 (.int .i64 5) fun x27=>
 LdK h x27 fun x28=>
 QK p0 x28 fun x29=>
 Qk prog .shl p1 x29 (.int .u64 40) fun x30=>
 Qk prog .or p1 x26 x30 fun x31=>
 Y1 1 x1 (.int .i64 6) fun x32=>
 LdK h x32 fun x33=>
 QK p0 x33 fun x34=>
 Qk prog .shl p1 x34 (.int .u64 48) fun x35=>
 Qk prog .or p1 x31 x35 fun x36=>
 Y1 1 x1 (.int .i64 7) fun x37=>
 LdK h x37 fun x38=>
 QK p0 x38 fun x39=>
 Qk prog .shl p1 x39 (.int .u64 56) fun x40=>
 Qk prog .or p1 x36 x40 fun x41=>
 R x41 h
def tp358 (p0:Nat) (x1 x2:Value) (h:Qe) (R:Kn):Prop:=
 Qa prog p0 #[x1,x2] h fun _x1 h1=>
 R (.tuple #[]) h1
def tp370 (p0:Nat) (x1 x2:Value) (h:Qe) (R:Kn):Prop:=
 Y1 1 x1 (.int .i64 7) fun x3=>
 LdK h x3 fun _x1=>
 QK .u8 x2 fun x4=>
 Y1 1 x1 (.int .i64 0) fun x5=>
 StK h 1 x5 x4 fun h1=>
 Qk prog .shr p0 x2 (.int .u64 8) fun x6=>
 QK .u8 x6 fun x7=>
 Y1 1 x1 (.int .i64 1) fun x8=>
 StK h1 1 x8 x7 fun h2=>
 Qk prog .shr p0 x2 (.int .u64 16) fun x9=>
 QK .u8 x9 fun x10=>
 Y1 1 x1 (.int .i64 2) fun x11=>
 StK h2 1 x11 x10 fun h3=>
 Qk prog .shr p0 x2 (.int .u64 24) fun x12=>
 QK .u8 x12 fun x13=>
 Y1 1 x1 (.int .i64 3) fun x14=>
 StK h3 1 x14 x13 fun h4=>
 Qk prog .shr p0 x2 (.int .u64 32) fun x15=>
 QK .u8 x15 fun x16=>
 Y1 1 x1 (.int .i64 4) fun x17=>
 StK h4 1 x17 x16 fun h5=>
 Qk prog .shr p0 x2 (.int .u64 40) fun x18=>
 QK .u8 x18 fun x19=>
 Y1 1 x1 (.int .i64 5) fun x20=>
 StK h5 1 x20 x19 fun h6=>
 Qk prog .shr p0 x2 (.int .u64 48) fun x21=>
 QK .u8 x21 fun x22=>
 Y1 1 x1 (.int .i64 6) fun x23=>
 StK h6 1 x23 x22 fun h7=>
 Qk prog .shr p0 x2 (.int .u64 56) fun x24=>
 QK .u8 x24 fun x25=>
 Y1 1 x1 (.int .i64 7) fun x26=>
 StK h7 1 x26 x25 fun h8=>
 R (.tuple #[]) h8
def tp381 (p0:Nat) (x1 x2:Value) (h:Qe) (R:Kn):Prop:=
 Y1 1 x1 (.int .i64 3) fun x3=>
 LdK h x3 fun _x1=>
 QK .u8 x2 fun x4=>
 Y1 1 x1 (.int .i64 0) fun x5=>
 StK h 1 x5 x4 fun h1=>
 Qk prog .shr p0 x2 (.int .u64 8) fun x6=>
 QK .u8 x6 fun x7=>
 Y1 1 x1 (.int .i64 1) fun x8=>
 StK h1 1 x8 x7 fun h2=>
 Qk prog .shr p0 x2 (.int .u64 16) fun x9=>
 QK .u8 x9 fun x10=>
 Y1 1 x1 (.int .i64 2) fun x11=>
 StK h2 1 x11 x10 fun h3=>
 Qk prog .shr p0 x2 (.int .u64 24) fun x12=>
 QK .u8 x12 fun x13=>
 Y1 1 x1 (.int .i64 3) fun x14=>
 StK h3 1 x14 x13 fun h4=>
 R (.tuple #[]) h4
def tp394 (p0:Nat) (x1 x2:Value) (h:Qe) (R:Kn):Prop:=
 Y1 1 x1 (.int .i64 1) fun x3=>
 LdK h x3 fun _x1=>
 QK .u8 x2 fun x4=>
 Y1 1 x1 (.int .i64 0) fun x5=>
 StK h 1 x5 x4 fun h1=>
 Qk prog .shr p0 x2 (.int .u64 8) fun x6=>
 QK .u8 x6 fun x7=>
 Y1 1 x1 (.int .i64 1) fun x8=>
 StK h1 1 x8 x7 fun h2=>
 R (.tuple #[]) h2
def QcC (p0:Nat) (x1 x2:Value) (h:Qe) (R:Kn):Prop:=
 Q3 x1 fun x3=>
 Qg x3 0 fun x4=>
 LdK h x4 fun x5=>
 Qey 1 x5 (some x2) none fun x6=>
 Qa prog p0 #[x6] h fun x7 h1=>
 R x7 h1
def QdI (p0:Int) (p1:Nat) (x1 x2:Value) (h:Qe) (R:Kn):Prop:=
 Qa prog 164 #[x1,(.int .i64 p0),(.int .i64 0)] h fun _x1 h1=>
 Qa prog p1 #[x1,x2] h1 fun _x2 h2=>
 R (.tuple #[]) h2
def tp259 (p0:Nat) (x1:Value) (h:Qe) (R:Kn):Prop:=
 Q3 x1 fun x2=>
 Qg x2 p0 fun x3=>
 LdK h x3 fun x4=>
 ZI prog (Op.unary .not x4) fun x5=>
 IfK x5
 (False)
 (R (.tuple #[]) h)
def QcX (p0:Int) (p1:Nat) (x1 x2:Value) (h:Qe) (R:Kn):Prop:=
 Q3 x1 fun x3=>
 Qg x3 5 fun x4=>
 LdK h x4 fun x5=>
 Qk prog .sub 93 x5 (.int .u32 p0) fun x6=>
 Q3 x1 fun x7=>
 Qg x7 5 fun x8=>
 StK h 1 x8 x6 fun h1=>
 Q3 x1 fun x9=>
 Qg x9 0 fun x10=>
 LdK h1 x10 fun x11=>
 Q3 x1 fun x12=>
 Qg x12 5 fun x13=>
 LdK h1 x13 fun x14=>
 Qey 1 x11 (some x14) none fun x15=>
 Qa prog p1 #[x15,x2] h1 fun _x1 h2=>
 R (.tuple #[]) h2
def QeW (p0:Nat) (p1:Nat) (x1 x2 x3 x4:Value) (h:Qe) (R:Kn):Prop:=
 Qk prog .neq p0 x3 x4 fun x5=>
 IfK x5
 (Qa prog p1 #[x1,x3] h fun _x1 h1=>
 Qa prog 374 #[x1,x2] h1 fun _x2 h2=>
 R (.tuple #[]) h2)
 (R (.tuple #[]) h)
def tp33 (p0:Nat) (p1:Array Value) (p2:Nat) (p3:Nat) (x1:Value) (h:Qe) (R:Kn):Prop:=
 Qk prog .eql p0 x1 (.pointer none) fun x2=>
 IfK x2
 (R (.pointer none) h)
 (Qz p1.toList [] fun x3=>
 Y5 h (.cells (Value.cells x3) p2) fun x4 h1=>
 Qa prog p3 #[x1,x4] h1 fun _x1 h2=>
 R x4 h2)
def tp79 (x1 x2 x3:Value) (h:Qe) (R:Kn):Prop:=
 Q3 x1 fun x4=>
 Qg x4 0 fun x5=>
 Qg x5 0 fun x6=>
 StK h 1 x6 x2 fun h1=>
 Q3 x1 fun x7=>
 Qg x7 0 fun x8=>
 Qg x8 1 fun x9=>
 StK h1 1 x9 x3 fun h2=>
 R (.tuple #[]) h2
def tp81 (p0:Int) (p1:Nat) (p2:IntKind) (p3:Int) (x1:Value) (h:Qe) (R:Kn):Prop:=
 Q3 x1 fun x2=>
 Qg x2 0 fun x3=>
 Qa prog 274 #[x3,(.int .u16 p0)] h fun x4 h1=>
 QK .u32 x4 fun x5=>
 Qk prog .neq 93 x5 (.int .u32 0) fun x6=>
 IfK x6
 (Q3 x1 fun x7=>
 Qg x7 0 fun x8=>
 Q3 x1 fun x9=>
 Qg x9 0 fun x10=>
 Qg x10 1 fun x11=>
 LdK h1 x11 fun x12=>
 Qk prog .add 93 x5 x12 fun x13=>
 Qa prog p1 #[x8,x13] h1 fun x14 h2=>
 R x14 h2)
 (R (.int p2 p3) h1)
def tp83 (p0:Int) (x1:Value) (h:Qe) (R:Kn):Prop:=
 Q3 x1 fun x2=>
 Qg x2 0 fun x3=>
 Qa prog 274 #[x3,(.int .u16 p0)] h fun x4 h1=>
 QK .u32 x4 fun x5=>
 Qk prog .neq 93 x5 (.int .u32 0) fun x6=>
 IfK x6
 (Q3 x1 fun x7=>
 Qg x7 0 fun x8=>
 Q3 x1 fun x9=>
 Qg x9 0 fun x10=>
 Qg x10 1 fun x11=>
 LdK h1 x11 fun x12=>
 Qk prog .add 93 x5 x12 fun x13=>
 Qa prog 276 #[x8,x13] h1 fun x14 h2=>
 R x14 h2)
 (R (.slice none 0 0) h1)
def tp97 (p0:Int) (p1:Nat) (p2:Array Value) (p3:Nat) (p4:Nat) (x1 x2:Value) (h:Qe) (R:Kn):Prop:=
 Q3 x1 fun x3=>
 Qg x3 0 fun x4=>
 Qa prog 274 #[x4,(.int .u16 p0)] h fun x5 h1=>
 QK .u32 x5 fun x6=>
 Qk prog .neq 93 x6 (.int .u32 0) fun x7=>
 IfK x7
 (Q3 x1 fun x8=>
 Qg x8 0 fun x9=>
 Q3 x1 fun x10=>
 Qg x10 0 fun x11=>
 Qg x11 1 fun x12=>
 LdK h1 x12 fun x13=>
 Qk prog .add 93 x6 x13 fun x14=>
 Qa prog 284 #[x9,x14] h1 fun x15 h2=>
 QD (fun M1=>
 Qk prog .eql p1 x2 (.pointer none) fun x16=>
 IfK x16
 (Y5 h2 (.cells p2 p3) fun x17 h3=>
 M1 [x17] h3)
 (M1 [x2] h2)) fun M1=>∀x18:Value,∀h4:Qe,M1 [x18] h4->
 Q3 x1 fun x19=>
 Qg x19 0 fun x20=>
 Qg x20 0 fun x21=>
 LdK h4 x21 fun x22=>
 Qa prog p4 #[x18,x22,x15] h4 fun _x1 h5=>
 R x18 h5)
 (R (.pointer none) h1)
def tp104 (p0:Int) (p1:Nat) (x1:Value) (h:Qe) (R:Kn):Prop:=
 Q3 x1 fun x2=>
 Qg x2 0 fun x3=>
 Qg x3 0 fun x4=>
 Q3 x1 fun x5=>
 Qg x5 0 fun x6=>
 Qg x6 0 fun x7=>
 Qg x7 1 fun x8=>
 LdK h x8 fun x9=>
 Qk prog .add 93 x9 (.int .u32 p0) fun x10=>
 Qa prog p1 #[x4,x10] h fun x11 h1=>
 R x11 h1
def QfY (p0:Int) (x1:Value) (h:Qe) (R:Kn):Prop:=
 Q3 x1 fun x2=>
 Qg x2 0 fun x3=>
 Qa prog 274 #[x3,(.int .u16 p0)] h fun x4 h1=>
 QK .u32 x4 fun x5=>
 Qk prog .neq 93 x5 (.int .u32 0) fun x6=>
 IfK x6
 (Q3 x1 fun x7=>
 Qg x7 0 fun x8=>
 Qa prog 290 #[x8,x5] h1 fun x9 h2=>
 R x9 h2)
 (R (.int .i64 0) h1)
def tp112 (p0:Int) (p1:Int) (p2:Nat) (p3:IntKind) (x1 x2:Value) (h:Qe) (R:Kn):Prop:=
 Q3 x1 fun x3=>
 Qg x3 0 fun x4=>
 Qa prog 274 #[x4,(.int .u16 p0)] h fun x5 h1=>
 QK .u32 x5 fun x6=>
 Qk prog .neq 93 x6 (.int .u32 0) fun x7=>
 IfK x7
 (Q3 x1 fun x8=>
 Qg x8 0 fun x9=>
 Qa prog 291 #[x9,x6] h1 fun x10 h2=>
 Q3 x1 fun x11=>
 Qg x11 0 fun x12=>
 Qk prog .mul 3 x2 (.int .i64 p1) fun x13=>
 QK .u32 x13 fun x14=>
 Qk prog .add 93 x10 x14 fun x15=>
 Qa prog p2 #[x12,x15] h2 fun x16 h3=>
 R x16 h3)
 (R (.int p3 0) h1)
def tp114 (p0:Int) (p1:Int) (p2:Nat) (x1 x2 x3:Value) (h:Qe) (R:Kn):Prop:=
 Q3 x1 fun x4=>
 Qg x4 0 fun x5=>
 Qa prog 274 #[x5,(.int .u16 p0)] h fun x6 h1=>
 QK .u32 x6 fun x7=>
 Qk prog .neq 93 x7 (.int .u32 0) fun x8=>
 IfK x8
 (Q3 x1 fun x9=>
 Qg x9 0 fun x10=>
 Qa prog 291 #[x10,x7] h1 fun x11 h2=>
 QK .u32 x3 fun x12=>
 Qk prog .mul 93 x12 (.int .u32 p1) fun x13=>
 Qk prog .add 93 x11 x13 fun x14=>
 Q3 x1 fun x15=>
 Qg x15 0 fun x16=>
 Qg x16 0 fun x17=>
 LdK h2 x17 fun x18=>
 Qa prog p2 #[x2,x18,x14] h2 fun _x1 h3=>
 R (.bool true) h3)
 (R (.bool false) h1)
def tp116 (p0:Int) (x1 x2:Value) (h:Qe) (R:Kn):Prop:=
 Q3 x1 fun x3=>
 Qg x3 0 fun x4=>
 Qa prog 274 #[x4,(.int .u16 p0)] h fun x5 h1=>
 QK .u32 x5 fun x6=>
 Qk prog .neq 93 x6 (.int .u32 0) fun x7=>
 IfK x7
 (Q3 x1 fun x8=>
 Qg x8 0 fun x9=>
 Qa prog 291 #[x9,x6] h1 fun x10 h2=>
 Q3 x1 fun x11=>
 Qg x11 0 fun x12=>
 Qk prog .mul 3 x2 (.int .i64 4) fun x13=>
 QK .u32 x13 fun x14=>
 Qk prog .add 93 x10 x14 fun x15=>
 Qa prog 276 #[x12,x15] h2 fun x16 h3=>
 R x16 h3)
 (R (.slice none 0 0) h1)
def tp118 (p0:Int) (p1:Nat) (x1 x2 x3:Value) (h:Qe) (R:Kn):Prop:=
 Q3 x1 fun x4=>
 Qg x4 0 fun x5=>
 Qa prog 274 #[x5,(.int .u16 p0)] h fun x6 h1=>
 QK .u32 x6 fun x7=>
 Qk prog .neq 93 x7 (.int .u32 0) fun x8=>
 IfK x8
 (Q3 x1 fun x9=>
 Qg x9 0 fun x10=>
 Qa prog 291 #[x10,x7] h1 fun x11 h2=>
 QK .u32 x3 fun x12=>
 Qk prog .mul 93 x12 (.int .u32 4) fun x13=>
 Qk prog .add 93 x11 x13 fun x14=>
 Q3 x1 fun x15=>
 Qg x15 0 fun x16=>
 Qa prog 284 #[x16,x14] h2 fun x17 h3=>
 Q3 x1 fun x18=>
 Qg x18 0 fun x19=>
 Qg x19 0 fun x20=>
 LdK h3 x20 fun x21=>
 Qa prog p1 #[x2,x21,x17] h3 fun _x1 h4=>
 R (.bool true) h4)
 (R (.bool false) h1)
def tp153 (p0:Int) (x1 x2:Value) (h:Qe) (R:Kn):Prop:=
 Q3 x1 fun x3=>
 Qg x3 0 fun x4=>
 Qa prog 274 #[x4,(.int .u16 p0)] h fun x5 h1=>
 QK .u32 x5 fun x6=>
 Qk prog .neq 93 x6 (.int .u32 0) fun x7=>
 IfK x7
 (Q3 x1 fun x8=>
 Qg x8 0 fun x9=>
 Qa prog 296 #[x9,x2,x6] h1 fun _x1 h2=>
 R (.bool true) h2)
 (R (.bool false) h1)
def Qcs (p0:Int) (p1:Int) (x1 x2:Value) (h:Qe) (R:Kn):Prop:=
 Qa prog 306 #[x1,(.int .i64 p0),x2,(.int .i64 p1)] h fun x3 h1=>
 R x3 h1
def tp208 (p0:Int) (x1:Value) (h:Qe) (R:Kn):Prop:=
 Qa prog 324 #[x1,(.int .i64 p0)] h fun _x1 h1=>
 R (.tuple #[]) h1
def Ys (p0:Nat) (p1:Int) (p2:IntKind) (p3:Int) (x1 x2:Value) (h:Qe) (R:Kn):Prop:=
 Qa prog p0 #[x1,(.int .i64 p1),x2,(.int p2 p3)] h fun _x1 h1=>
 R (.tuple #[]) h1
def tp264 (p0:Nat) (p1:Array Value) (p2:Nat) (p3:Array Value) (p4:Nat) (p5:Nat) (p6:Nat) (x1 x2:Value) (h:Qe) (R:Kn):Prop:=
 Y5 h (.cells (Value.cells x2) 185) fun x3 h1=>
 Qk prog .eql p0 x1 (.int .u8 1) fun x4=>
 IfK x4
 (LdN h1 2 x3 fun x5=>
 Qz z187.toList [(0,2,x5)] fun x6=>
 Y5 h1 (.cells z187 187) fun x7 h2=>
 StK h2 2 x7 x6 fun h3=>
 Qa prog 33 #[x7] h3 fun x8 h4=>
 Qz p1.toList [(0,1,(.int .u8 1)),(1,1,(.iface 89 x8))] fun x9=>
 Y5 h4 (.cells (Value.cells x9) p2) fun x10 h5=>
 R x10 h5)
 (Qk prog .eql p0 x1 (.int .u8 2) fun x11=>
 IfK x11
 (LdN h1 2 x3 fun x12=>
 Qz p3.toList [(0,2,x12)] fun x13=>
 Y5 h1 (.cells p3 p4) fun x14 h6=>
 StK h6 2 x14 x13 fun h7=>
 Qa prog p5 #[x14] h7 fun x15 h8=>
 Qz p1.toList [(0,1,(.int .u8 2)),(1,1,(.iface p6 x15))] fun x16=>
 Y5 h8 (.cells (Value.cells x16) p2) fun x17 h9=>
 R x17 h9)
 (Qk prog .eql p0 x1 (.int .u8 3) fun x18=>
 IfK x18
 (LdN h1 2 x3 fun x19=>
 Qz z187.toList [(0,2,x19)] fun x20=>
 Y5 h1 (.cells z187 187) fun x21 h10=>
 StK h10 2 x21 x20 fun h11=>
 Qa prog 33 #[x21] h11 fun x22 h12=>
 Qz p1.toList [(0,1,(.int .u8 3)),(1,1,(.iface 89 x22))] fun x23=>
 Y5 h12 (.cells (Value.cells x23) p2) fun x24 h13=>
 R x24 h13)
 (R (.pointer none) h1)))
def tp287 (x1 x2 x3:Value) (h:Qe) (R:Kn):Prop:=
 Q3 x1 fun x4=>
 Qg x4 0 fun x5=>
 Qg x5 0 fun x6=>
 Qg x6 0 fun x7=>
 StK h 1 x7 x2 fun h1=>
 Q3 x1 fun x8=>
 Qg x8 0 fun x9=>
 Qg x9 0 fun x10=>
 Qg x10 1 fun x11=>
 StK h1 1 x11 x3 fun h2=>
 R (.tuple #[]) h2
def tp179 (p0:Nat) (p1:Nat) (p2:Nat) (p3:Nat) (p4:Nat) (p5:Nat) (x1 x2:Value) (h:Qe) (R:Kn):Prop:=
 Qk prog .eql p0 x1 (.pointer none) fun x3=>
 IfK x3
 (R (.int .u32 0) h)
 (Q3 x1 fun x4=>
 Qg x4 0 fun x5=>
 LdK h x5 fun x6=>
 Qk prog .eql p1 x6 (.int .u8 1) fun x7=>
 IfK x7
 (Q3 x1 fun x8=>
 Qg x8 1 fun x9=>
 LdK h x9 fun x10=>
 Qjf 89 false (.pointer none) x10 fun x11=>
 Qa prog 66 #[x11,x2] h fun x12 h1=>
 R x12 h1)
 (Qk prog .eql p1 x6 (.int .u8 2) fun x13=>
 IfK x13
 (Q3 x1 fun x14=>
 Qg x14 1 fun x15=>
 LdK h x15 fun x16=>
 Qjf p2 false (.pointer none) x16 fun x17=>
 Qa prog p3 #[x17,x2] h fun x18 h2=>
 R x18 h2)
 (Qk prog .eql p1 x6 (.int .u8 3) fun x19=>
 IfK x19
 (Q3 x1 fun x20=>
 Qg x20 1 fun x21=>
 LdK h x21 fun x22=>
 Qjf p4 false (.pointer none) x22 fun x23=>
 Qa prog p5 #[x23,x2] h fun x24 h3=>
 R x24 h3)
 (R (.int .u32 0) h))))
def tp181 (p0:Nat) (p1:Nat) (x1 x2:Value) (h:Qe) (R:Kn):Prop:=
 Qk prog .eql p0 x1 (.pointer none) fun x3=>
 IfK x3
 (R (.int .u32 0) h)
 (Q3 x1 fun x4=>
 Qg x4 0 fun x5=>
 LdK h x5 fun x6=>
 Q3 x1 fun x7=>
 Qg x7 1 fun x8=>
 LdK h x8 fun x9=>
 Qa prog p1 #[x2,x6,x9] h fun x10 h1=>
 R x10 h1)
def tp196 (p0:Nat) (p1:Nat) (p2:Nat) (x1 x2:Value) (h:Qe) (R:Kn):Prop:=
 Qk prog .eql p0 x1 (.pointer none) fun x3=>
 IfK x3
 (R (.int .u32 0) h)
 (Qa prog p1 #[x2] h fun _x1 h1=>
 Qa prog p2 #[x2] h1 fun x4 h2=>
 R x4 h2)
def tp197 (p0:Nat) (p1:Nat) (p2:Nat) (p3:Nat) (x1 x2:Value) (h:Qe) (R:Kn):Prop:=
 Qk prog .eql p0 x1 (.pointer none) fun x3=>
 IfK x3
 (R (.int .u32 0) h)
 (Qa prog p1 #[x2] h fun _x1 h1=>
 Q3 x1 fun x4=>
 Qg x4 0 fun x5=>
 LdK h1 x5 fun x6=>
 Qa prog p2 #[x2,x6] h1 fun _x2 h2=>
 Qa prog p3 #[x2] h2 fun x7 h3=>
 R x7 h3)
def tp340 (p0:Nat) (p1:Nat) (x1 x2:Value) (h:Qe) (R:Kn):Prop:=
 Qa prog p0 #[x1] h fun x3 h1=>
 Qe5 x2 0 h1 x3 fun h2=>
 Qa prog p1 #[x1] h2 fun x4 h3=>
 Qe5 x2 1 h3 x4 fun h4=>
 R (.tuple #[]) h4
def tp10 (p0:Nat) (x1:Value) (h:Qe) (R:Kn):Prop:=
 Y5 h (.cells (Value.cells x1) 9) fun x2 h1=>
 Y5 h1 (.cells z55 55) fun x3 h2=>
 Qa prog 28 #[(.func (.func p0) #[] #[x2,x3])] h2 fun x4 h3=>
 ZI prog (Op.unary .not x4) fun x5=>
 ZI prog (Op.unary .not x5) fun x6=>
 IfK x6
 (Qz z55.toList [] fun x7=>
 StK h3 51 x3 x7 fun h4=>
 LdN h4 51 x3 fun r1=>
 R (.tuple #[r1,(.bool false)]) h4)
 (LdN h3 51 x3 fun x8=>
 StK h3 51 x3 x8 fun h5=>
 LdN h5 51 x3 fun r2=>
 R (.tuple #[r2,(.bool true)]) h5)
def tp168 (x1:Value) (h:Qe) (R:Kn):Prop:=
 Yv x1 fun x2=>
 Qk prog .eql 3 x2 (.int .i64 0) fun x3=>
 IfK x3
 (R (.slice none 0 0) h)
 (R x1 h)
def tp37 (p0:Nat) (p1:Array Value) (p2:Nat) (x1 x2:Value) (h:Qe) (R:Kn):Prop:=
 Yv x1 fun x3=>
 Yv x2 fun x4=>
 Qk prog .neq 3 x3 x4 fun x5=>
 IfK x5
 (R (.bool false) h)
 (QD (fun M1=>
 Yv x1 fun x6=>
 Yu [(.int .i64 0),(.bool false)] h fun I1 n1=>∀x7 x8:Value,∀h1:Qe,I1 n1 [x7,x8] h1->
 Qk prog .lss 3 x7 x6 fun x9=>
 IfK x9
 (Y1 p0 x1 x7 fun x10=>
 LdN h1 p0 x10 fun x11=>
 Y5 h1 (.cells p1 p2) fun x12 h2=>
 StK h2 p0 x12 x11 fun h3=>
 LdN h3 p0 x12 fun x13=>
 Y1 p0 x2 x7 fun x14=>
 LdN h3 p0 x14 fun x15=>
 Qk prog .neq p2 x13 x15 fun x16=>
 IfK x16
 (R (.bool false) h3)
 (Qk prog .add 3 x7 (.int .i64 1) fun x17=>
 QS I1 n1 [x17,x8] h3))
 (M1 [x8] h1)) fun M1=>∀x18:Value,∀h4:Qe,M1 [x18] h4->
 R (.bool true) h4)
def tp40 (p0:Nat) (x1 x2:Value) (h:Qe) (R:Kn):Prop:=
 Yv x1 fun x3=>
 Yv x2 fun x4=>
 Qk prog .neq 3 x3 x4 fun x5=>
 IfK x5
 (R (.bool false) h)
 (QD (fun M1=>
 Yv x1 fun x6=>
 Yu [(.int .i64 0),(.bool false)] h fun I1 n1=>∀x7 x8:Value,∀h1:Qe,I1 n1 [x7,x8] h1->
 Qk prog .lss 3 x7 x6 fun x9=>
 IfK x9
 (Y1 1 x1 x7 fun x10=>
 LdK h1 x10 fun x11=>
 Y1 1 x2 x7 fun x12=>
 LdK h1 x12 fun x13=>
 Qk prog .neq p0 x11 x13 fun x14=>
 IfK x14
 (R (.bool false) h1)
 (Qk prog .add 3 x7 (.int .i64 1) fun x15=>
 QS I1 n1 [x15,x8] h1))
 (M1 [x8] h1)) fun M1=>∀x16:Value,∀h2:Qe,M1 [x16] h2->
 R (.bool true) h2)
def tp50 (p0:Nat) (p1:Array Value) (p2:Nat) (p3:Nat) (x1:Value) (h:Qe) (R:Kn):Prop:=
 Y5 h (.cells (Value.cells x1) p0) fun x2 h1=>
 Y5 h1 (.cells p1 p2) fun x3 h2=>
 LdN h2 p3 x2 fun x4=>
 StK h2 p3 x3 x4 fun h3=>
 LdN h3 p3 x3 fun r1=>
 R r1 h3
end Go.Proofs
namespace Go.Proofs
open Go Go.Vc
open Tryz (prog)
set_option maxRecDepth 100000
def s78 (a:Value) (h:Qe) (R:Kn):Prop:=
 Qa prog 261 #[a] h fun b c=>
 QK .u32 b fun d=>
 R d c
theorem w78 {a h R} (H:s78 a h R):FnS prog 78 #[a] h R:=wq Tryz.func78 (by kernel_rfl) H
theorem w261 {a h R} (H:tp261 .i32 21 a h R):FnS prog 261 #[a] h R:=wq Tryz.func261 (by kernel_rfl) H
theorem w347 {a h R} (H:tp347 .i16 23 a h R):FnS prog 347 #[a] h R:=wq Tryz.func347 (by kernel_rfl) H
theorem w348 {a h R} (H:QgZ 380 a h R):FnS prog 348 #[a] h R:=wq Tryz.func348 (by kernel_rfl) H
def s349 (a:Value) (h:Qe) (R:Kn):Prop:=
 Y1 1 a (.int .i64 0) fun b=>
 LdK h b fun c=>
 Qk prog .eql 5 c (.int .u8 1) fun d=>
 R d h
theorem w349 {a h R} (H:s349 a h R):FnS prog 349 #[a] h R:=wq Tryz.func349 (by kernel_rfl) H
theorem w350 {a h R} (H:tp261 .u32 30 a h R):FnS prog 350 #[a] h R:=wq Tryz.func350 (by kernel_rfl) H
theorem w351 {a h R} (H:tp351 .i64 2 a h R):FnS prog 351 #[a] h R:=wq Tryz.func351 (by kernel_rfl) H
theorem w352 {a h R} (H:tp351 .u64 31 a h R):FnS prog 352 #[a] h R:=wq Tryz.func352 (by kernel_rfl) H
def s353 (a:Value) (h:Qe) (R:Kn):Prop:=
 Qa prog 350 #[a] h fun b c=>
 QaK prog 170 #[b] fun d=>
 R d c
theorem w353 {a h R} (H:s353 a h R):FnS prog 353 #[a] h R:=wq Tryz.func353 (by kernel_rfl) H
def s354 (a:Value) (h:Qe) (R:Kn):Prop:=
 Y1 1 a (.int .i64 0) fun b=>
 LdK h b fun c=>
 QK .i8 c fun d=>
 R d h
theorem w354 {a h R} (H:s354 a h R):FnS prog 354 #[a] h R:=wq Tryz.func354 (by kernel_rfl) H
def s355 (a:Value) (h:Qe) (R:Kn):Prop:=
 Qa prog 352 #[a] h fun b c=>
 QaK prog 174 #[b] fun d=>
 R d c
theorem w355 {a h R} (H:s355 a h R):FnS prog 355 #[a] h R:=wq Tryz.func355 (by kernel_rfl) H
theorem w356 {a h R} (H:tp347 .u16 78 a h R):FnS prog 356 #[a] h R:=wq Tryz.func356 (by kernel_rfl) H
theorem w358 {a b h R} (H:tp358 381 a b h R):FnS prog 358 #[a,b] h R:=wq Tryz.func358 (by kernel_rfl) H
theorem w359 {a b h R} (H:tp358 382 a b h R):FnS prog 359 #[a,b] h R:=wq Tryz.func359 (by kernel_rfl) H
def s368 (a c:Value) (h:Qe) (R:Kn):Prop:=
 Y1 1 a (.int .i64 0) fun d=>
 StK h 1 d (.int .u8 0) fun b=>
 IfK c
 (Y1 1 a (.int .i64 0) fun e=>
 StK b 1 e (.int .u8 1) fun f=>
 R (.tuple #[]) f)
 (R (.tuple #[]) b)
theorem w368 {a b h R} (H:s368 a b h R):FnS prog 368 #[a,b] h R:=wq Tryz.func368 (by kernel_rfl) H
theorem w370 {a b h R} (H:tp370 2 a b h R):FnS prog 370 #[a,b] h R:=wq Tryz.func370 (by kernel_rfl) H
def s371 (a b:Value) (h:Qe) (R:Kn):Prop:=
 QaK prog 76 #[b] fun c=>
 Qa prog 372 #[a,c] h fun _x7 d=>
 R (.tuple #[]) d
theorem w371 {a b h R} (H:s371 a b h R):FnS prog 371 #[a,b] h R:=wq Tryz.func371 (by kernel_rfl) H
theorem w372 {a b h R} (H:tp370 31 a b h R):FnS prog 372 #[a,b] h R:=wq Tryz.func372 (by kernel_rfl) H
theorem w378 {a h R} (H:QgZ 261 a h R):FnS prog 378 #[a] h R:=wq Tryz.func378 (by kernel_rfl) H
theorem w379 {a h R} (H:QgZ 356 a h R):FnS prog 379 #[a] h R:=wq Tryz.func379 (by kernel_rfl) H
def s380 (a:Value) (h:Qe) (R:Kn):Prop:=
 Y1 1 a (.int .i64 0) fun b=>
 LdK h b fun c=>
 R c h
theorem w380 {a h R} (H:s380 a h R):FnS prog 380 #[a] h R:=wq Tryz.func380 (by kernel_rfl) H
theorem w381 {a b h R} (H:tp381 30 a b h R):FnS prog 381 #[a,b] h R:=wq Tryz.func381 (by kernel_rfl) H
def s382 (a b:Value) (h:Qe) (R:Kn):Prop:=
 Y1 1 a (.int .i64 0) fun c=>
 StK h 1 c b fun d=>
 R (.tuple #[]) d
theorem w382 {a b h R} (H:s382 a b h R):FnS prog 382 #[a,b] h R:=wq Tryz.func382 (by kernel_rfl) H
theorem w392 {a b h R} (H:tp358 397 a b h R):FnS prog 392 #[a,b] h R:=wq Tryz.func392 (by kernel_rfl) H
def s393 (a b:Value) (h:Qe) (R:Kn):Prop:=
 QK .u8 b fun c=>
 Y1 1 a (.int .i64 0) fun d=>
 StK h 1 d c fun e=>
 R (.tuple #[]) e
theorem w393 {a b h R} (H:s393 a b h R):FnS prog 393 #[a,b] h R:=wq Tryz.func393 (by kernel_rfl) H
theorem w394 {a b h R} (H:tp394 23 a b h R):FnS prog 394 #[a,b] h R:=wq Tryz.func394 (by kernel_rfl) H
def s396 (a b:Value) (h:Qe) (R:Kn):Prop:=
 QaK prog 74 #[b] fun c=>
 Qa prog 381 #[a,c] h fun _x7 d=>
 R (.tuple #[]) d
theorem w396 {a b h R} (H:s396 a b h R):FnS prog 396 #[a,b] h R:=wq Tryz.func396 (by kernel_rfl) H
theorem w397 {a b h R} (H:tp381 21 a b h R):FnS prog 397 #[a,b] h R:=wq Tryz.func397 (by kernel_rfl) H
theorem w400 {a b h R} (H:tp394 78 a b h R):FnS prog 400 #[a,b] h R:=wq Tryz.func400 (by kernel_rfl) H
theorem w401 {a b h R} (H:tp358 400 a b h R):FnS prog 401 #[a,b] h R:=wq Tryz.func401 (by kernel_rfl) H
end Go.Proofs
namespace Go.Proofs
open Go Go.Vc
open Tryz (prog)
abbrev bsl (b o n c:Nat):Value:=.slice (some ⟨b,o,none⟩) n c
theorem ZF {H:Qe} {b:Nat} {bs:List UInt8} (h:U8s H b 0 bs) {o i:Nat} (hi:o+i<bs.length):QaW H ⟨b,o+i,none⟩=some (.int .u8 (byteN bs (o+i))):=
 h.at (by omega) hi
section
variable {H:Qe} {b o n c:Nat} {bs:List UInt8} (hb:U8s H b 0 bs) {R:Kn}
include hb
set_option maxHeartbeats 1000000 in
theorem QiR (hl:o+2<=bs.length) (hn:2<=n) (hR:R (.int .u16 (le2 bs o:Int)) H):FnS prog 356 #[bsl b o n c] H R:=by
 have c0:=ZF hb (o:=o) (i:=0) (by omega)
 have b0:=YG bs (o+0)
 have i0:(0:Int)<n:=by omega
 have c1:=ZF hb (o:=o) (i:=1) (by omega)
 have b1:=YG bs (o+1)
 have i1:(1:Int)<n:=by omega
 apply w356
 unfold tp347
 simp only[↓QR (by decide:(0:Int)<=0) i0,↓QR (by decide:(0:Int)<=1) i1,show Int.toNat 0=0 from rfl,show Int.toNat 1=1 from rfl,Nat.zero_mul,Nat.mul_one,Nat.one_mul,↓Ql c0,↓Ql c1,↓QH,↓QhB,↓Zi (by decide:(0:Int)<=8)]
 have g:=get2_val (κ:=.u16) (by decide) b0 b1
 simp only[Nat.add_zero]at g⊢
 simp only[show Int.toNat 8=8 from rfl]
 rw[g]
 skip
 have e:IntKind.u16.wrap (le2 bs o:Int)=le2 bs o:=wrap_u16 (by omega) (by have:=le2_lt bs o;omega)
 rw[<-e]at hR;exact hR
set_option maxHeartbeats 1000000 in
theorem go_GetInt16 (hl:o+2<=bs.length) (hn:2<=n) (hR:R (.int .i16 (IntKind.i16.wrap (le2 bs o:Int))) H):FnS prog 347 #[bsl b o n c] H R:=by
 have c0:=ZF hb (o:=o) (i:=0) (by omega)
 have b0:=YG bs (o+0)
 have i0:(0:Int)<n:=by omega
 have c1:=ZF hb (o:=o) (i:=1) (by omega)
 have b1:=YG bs (o+1)
 have i1:(1:Int)<n:=by omega
 apply w347
 unfold tp347
 simp only[↓QR (by decide:(0:Int)<=0) i0,↓QR (by decide:(0:Int)<=1) i1,show Int.toNat 0=0 from rfl,show Int.toNat 1=1 from rfl,Nat.zero_mul,Nat.mul_one,Nat.one_mul,↓Ql c0,↓Ql c1,↓QH,↓QhB,↓Zi (by decide:(0:Int)<=8)]
 have g:=get2_val (κ:=.i16) (by decide) b0 b1
 simp only[Nat.add_zero]at g⊢
 simp only[show Int.toNat 8=8 from rfl]
 rw[g]
 skip
 skip
 exact hR
set_option maxHeartbeats 1000000 in
theorem QiW (hl:o+4<=bs.length) (hn:4<=n) (hR:R (.int .u32 (le4 bs o:Int)) H):FnS prog 350 #[bsl b o n c] H R:=by
 have c0:=ZF hb (o:=o) (i:=0) (by omega)
 have b0:=YG bs (o+0)
 have i0:(0:Int)<n:=by omega
 have c1:=ZF hb (o:=o) (i:=1) (by omega)
 have b1:=YG bs (o+1)
 have i1:(1:Int)<n:=by omega
 have c2:=ZF hb (o:=o) (i:=2) (by omega)
 have b2:=YG bs (o+2)
 have i2:(2:Int)<n:=by omega
 have c3:=ZF hb (o:=o) (i:=3) (by omega)
 have b3:=YG bs (o+3)
 have i3:(3:Int)<n:=by omega
 apply w350
 unfold tp261
 simp only[↓QR (by decide:(0:Int)<=0) i0,↓QR (by decide:(0:Int)<=1) i1,↓QR (by decide:(0:Int)<=2) i2,↓QR (by decide:(0:Int)<=3) i3,show Int.toNat 0=0 from rfl,show Int.toNat 1=1 from rfl,show Int.toNat 2=2 from rfl,show Int.toNat 3=3 from rfl,Nat.zero_mul,Nat.mul_one,Nat.one_mul,↓Ql c0,↓Ql c1,↓Ql c2,↓Ql c3,↓QH,↓QhB,↓Zi (by decide:(0:Int)<=8),↓Zi (by decide:(0:Int)<=16),↓Zi (by decide:(0:Int)<=24)]
 have g:=get4_val (κ:=.u32) (by decide) b0 b1 b2 b3
 simp only[Nat.add_zero]at g⊢
 simp only[show Int.toNat 8=8 from rfl,show Int.toNat 16=16 from rfl,show Int.toNat 24=24 from rfl]
 rw[g]
 rw[<-le4_eq]
 have e:IntKind.u32.wrap (le4 bs o:Int)=le4 bs o:=QW (by omega) (by have:=le4_lt bs o;omega)
 rw[<-e]at hR;exact hR
set_option maxHeartbeats 1000000 in
theorem Qhs (hl:o+4<=bs.length) (hn:4<=n) (hR:R (.int .i32 (IntKind.i32.wrap (le4 bs o:Int))) H):FnS prog 261 #[bsl b o n c] H R:=by
 have c0:=ZF hb (o:=o) (i:=0) (by omega)
 have b0:=YG bs (o+0)
 have i0:(0:Int)<n:=by omega
 have c1:=ZF hb (o:=o) (i:=1) (by omega)
 have b1:=YG bs (o+1)
 have i1:(1:Int)<n:=by omega
 have c2:=ZF hb (o:=o) (i:=2) (by omega)
 have b2:=YG bs (o+2)
 have i2:(2:Int)<n:=by omega
 have c3:=ZF hb (o:=o) (i:=3) (by omega)
 have b3:=YG bs (o+3)
 have i3:(3:Int)<n:=by omega
 apply w261
 unfold tp261
 simp only[↓QR (by decide:(0:Int)<=0) i0,↓QR (by decide:(0:Int)<=1) i1,↓QR (by decide:(0:Int)<=2) i2,↓QR (by decide:(0:Int)<=3) i3,show Int.toNat 0=0 from rfl,show Int.toNat 1=1 from rfl,show Int.toNat 2=2 from rfl,show Int.toNat 3=3 from rfl,Nat.zero_mul,Nat.mul_one,Nat.one_mul,↓Ql c0,↓Ql c1,↓Ql c2,↓Ql c3,↓QH,↓QhB,↓Zi (by decide:(0:Int)<=8),↓Zi (by decide:(0:Int)<=16),↓Zi (by decide:(0:Int)<=24)]
 have g:=get4_val (κ:=.i32) (by decide) b0 b1 b2 b3
 simp only[Nat.add_zero]at g⊢
 simp only[show Int.toNat 8=8 from rfl,show Int.toNat 16=16 from rfl,show Int.toNat 24=24 from rfl]
 rw[g]
 rw[<-le4_eq]
 skip
 exact hR
set_option maxHeartbeats 1000000 in
theorem Qjb (hl:o+8<=bs.length) (hn:8<=n) (hR:R (.int .u64 (le8 bs o:Int)) H):FnS prog 352 #[bsl b o n c] H R:=by
 have c0:=ZF hb (o:=o) (i:=0) (by omega)
 have b0:=YG bs (o+0)
 have i0:(0:Int)<n:=by omega
 have c1:=ZF hb (o:=o) (i:=1) (by omega)
 have b1:=YG bs (o+1)
 have i1:(1:Int)<n:=by omega
 have c2:=ZF hb (o:=o) (i:=2) (by omega)
 have b2:=YG bs (o+2)
 have i2:(2:Int)<n:=by omega
 have c3:=ZF hb (o:=o) (i:=3) (by omega)
 have b3:=YG bs (o+3)
 have i3:(3:Int)<n:=by omega
 have c4:=ZF hb (o:=o) (i:=4) (by omega)
 have b4:=YG bs (o+4)
 have i4:(4:Int)<n:=by omega
 have c5:=ZF hb (o:=o) (i:=5) (by omega)
 have b5:=YG bs (o+5)
 have i5:(5:Int)<n:=by omega
 have c6:=ZF hb (o:=o) (i:=6) (by omega)
 have b6:=YG bs (o+6)
 have i6:(6:Int)<n:=by omega
 have c7:=ZF hb (o:=o) (i:=7) (by omega)
 have b7:=YG bs (o+7)
 have i7:(7:Int)<n:=by omega
 apply w352
 unfold tp351
 simp only[↓QR (by decide:(0:Int)<=0) i0,↓QR (by decide:(0:Int)<=1) i1,↓QR (by decide:(0:Int)<=2) i2,↓QR (by decide:(0:Int)<=3) i3,↓QR (by decide:(0:Int)<=4) i4,↓QR (by decide:(0:Int)<=5) i5,↓QR (by decide:(0:Int)<=6) i6,↓QR (by decide:(0:Int)<=7) i7,show Int.toNat 0=0 from rfl,show Int.toNat 1=1 from rfl,show Int.toNat 2=2 from rfl,show Int.toNat 3=3 from rfl,show Int.toNat 4=4 from rfl,show Int.toNat 5=5 from rfl,show Int.toNat 6=6 from rfl,show Int.toNat 7=7 from rfl,Nat.zero_mul,Nat.mul_one,Nat.one_mul,↓Ql c0,↓Ql c1,↓Ql c2,↓Ql c3,↓Ql c4,↓Ql c5,↓Ql c6,↓Ql c7,↓QH,↓QhB,↓Zi (by decide:(0:Int)<=8),↓Zi (by decide:(0:Int)<=16),↓Zi (by decide:(0:Int)<=24),↓Zi (by decide:(0:Int)<=32),↓Zi (by decide:(0:Int)<=40),↓Zi (by decide:(0:Int)<=48),↓Zi (by decide:(0:Int)<=56)]
 have g:=get8_val (κ:=.u64) (by decide) b0 b1 b2 b3 b4 b5 b6 b7
 simp only[Nat.add_zero]at g⊢
 simp only[show Int.toNat 8=8 from rfl,show Int.toNat 16=16 from rfl,show Int.toNat 24=24 from rfl,show Int.toNat 32=32 from rfl,show Int.toNat 40=40 from rfl,show Int.toNat 48=48 from rfl,show Int.toNat 56=56 from rfl]
 rw[g]
 rw[<-le8_eq]
 have e:IntKind.u64.wrap (le8 bs o:Int)=le8 bs o:=QfC (by omega) (by have:=le8_lt bs o;omega)
 rw[<-e]at hR;exact hR
set_option maxHeartbeats 1000000 in
theorem go_GetInt64 (hl:o+8<=bs.length) (hn:8<=n) (hR:R (.int .i64 (IntKind.i64.wrap (le8 bs o:Int))) H):FnS prog 351 #[bsl b o n c] H R:=by
 have c0:=ZF hb (o:=o) (i:=0) (by omega)
 have b0:=YG bs (o+0)
 have i0:(0:Int)<n:=by omega
 have c1:=ZF hb (o:=o) (i:=1) (by omega)
 have b1:=YG bs (o+1)
 have i1:(1:Int)<n:=by omega
 have c2:=ZF hb (o:=o) (i:=2) (by omega)
 have b2:=YG bs (o+2)
 have i2:(2:Int)<n:=by omega
 have c3:=ZF hb (o:=o) (i:=3) (by omega)
 have b3:=YG bs (o+3)
 have i3:(3:Int)<n:=by omega
 have c4:=ZF hb (o:=o) (i:=4) (by omega)
 have b4:=YG bs (o+4)
 have i4:(4:Int)<n:=by omega
 have c5:=ZF hb (o:=o) (i:=5) (by omega)
 have b5:=YG bs (o+5)
 have i5:(5:Int)<n:=by omega
 have c6:=ZF hb (o:=o) (i:=6) (by omega)
 have b6:=YG bs (o+6)
 have i6:(6:Int)<n:=by omega
 have c7:=ZF hb (o:=o) (i:=7) (by omega)
 have b7:=YG bs (o+7)
 have i7:(7:Int)<n:=by omega
 apply w351
 unfold tp351
 simp only[↓QR (by decide:(0:Int)<=0) i0,↓QR (by decide:(0:Int)<=1) i1,↓QR (by decide:(0:Int)<=2) i2,↓QR (by decide:(0:Int)<=3) i3,↓QR (by decide:(0:Int)<=4) i4,↓QR (by decide:(0:Int)<=5) i5,↓QR (by decide:(0:Int)<=6) i6,↓QR (by decide:(0:Int)<=7) i7,show Int.toNat 0=0 from rfl,show Int.toNat 1=1 from rfl,show Int.toNat 2=2 from rfl,show Int.toNat 3=3 from rfl,show Int.toNat 4=4 from rfl,show Int.toNat 5=5 from rfl,show Int.toNat 6=6 from rfl,show Int.toNat 7=7 from rfl,Nat.zero_mul,Nat.mul_one,Nat.one_mul,↓Ql c0,↓Ql c1,↓Ql c2,↓Ql c3,↓Ql c4,↓Ql c5,↓Ql c6,↓Ql c7,↓QH,↓QhB,↓Zi (by decide:(0:Int)<=8),↓Zi (by decide:(0:Int)<=16),↓Zi (by decide:(0:Int)<=24),↓Zi (by decide:(0:Int)<=32),↓Zi (by decide:(0:Int)<=40),↓Zi (by decide:(0:Int)<=48),↓Zi (by decide:(0:Int)<=56)]
 have g:=get8_val (κ:=.i64) (by decide) b0 b1 b2 b3 b4 b5 b6 b7
 simp only[Nat.add_zero]at g⊢
 simp only[show Int.toNat 8=8 from rfl,show Int.toNat 16=16 from rfl,show Int.toNat 24=24 from rfl,show Int.toNat 32=32 from rfl,show Int.toNat 40=40 from rfl,show Int.toNat 48=48 from rfl,show Int.toNat 56=56 from rfl]
 rw[g]
 rw[<-le8_eq]
 skip
 exact hR
theorem go_GetUint8 (hl:o+1<=bs.length) (hn:1<=n) (hR:R (.int .u8 (byteN bs o)) H):FnS prog 380 #[bsl b o n c] H R:=by
 have c0:QaW H ⟨b,o,none⟩=some (.int .u8 (byteN bs o)):=hb.at (by omega) (by omega)
 have i0:(0:Int)<n:=by omega
 apply w380
 unfold s380
 simp only[↓QR (Int.le_refl 0) i0,Int.toNat_zero,Nat.zero_mul,↓Ql c0,↓QH,Nat.add_zero,wrap_u8 (Int.natCast_nonneg _) (by have:=YG bs o;omega:((byteN bs o:Nat):Int)<256)]
 exact hR
theorem go_GetInt8 (hl:o+1<=bs.length) (hn:1<=n) (hR:R (.int .i8 (IntKind.i8.wrap (byteN bs o))) H):FnS prog 354 #[bsl b o n c] H R:=by
 have c0:QaW H ⟨b,o,none⟩=some (.int .u8 (byteN bs o)):=hb.at (by omega) (by omega)
 have i0:(0:Int)<n:=by omega
 apply w354
 unfold s354
 simp only[↓QR (Int.le_refl 0) i0,Int.toNat_zero,Nat.zero_mul,↓Ql c0,↓QH,Nat.add_zero]
 exact hR
theorem go_GetBool (hl:o+1<=bs.length) (hn:1<=n) (hR:R (.bool (decide ((byteN bs o:Int)=1))) H):FnS prog 349 #[bsl b o n c] H R:=by
 have c0:QaW H ⟨b,o,none⟩=some (.int .u8 (byteN bs o)):=hb.at (by omega) (by omega)
 have i0:(0:Int)<n:=by omega
 apply w349
 unfold s349
 simp only[↓QR (Int.le_refl 0) i0,Int.toNat_zero,Nat.zero_mul,↓Ql c0,↓Yt,Nat.add_zero]
 exact hR
theorem go_GetByte (hl:o+1<=bs.length) (hn:1<=n) (hR:R (.int .u8 (byteN bs o)) H):FnS prog 348 #[bsl b o n c] H R:=by
 apply w348
 unfold QgZ
 refine go_GetUint8 hb hl hn ?_
 exact hR
theorem ZW (hl:o+4<=bs.length) (hn:4<=n) (hR:R (.int .u32 (le4 bs o:Int)) H):FnS prog 78 #[bsl b o n c] H R:=by
 apply w78
 unfold s78
 refine Qhs hb hl hn ?_
 have e:IntKind.u32.wrap (IntKind.i32.wrap (le4 bs o:Int))=(le4 bs o:Int):=by
  have h:=Qfa .i32 (le4 bs o:Int)
  have h2:=le4_lt bs o
  rw[wrap_congr .u32 (y:=(le4 bs o:Int)) (by exact h)]
  exact QW (by omega) (by omega)
 simp only[↓QH,e]
 exact hR
theorem go_GetSOffsetT (hl:o+4<=bs.length) (hn:4<=n) (hR:R (.int .i32 (IntKind.i32.wrap (le4 bs o:Int))) H):FnS prog 378 #[bsl b o n c] H R:=by
 apply w378
 unfold QgZ
 refine Qhs hb hl hn ?_
 exact hR
theorem Qdh (hl:o+2<=bs.length) (hn:2<=n) (hR:R (.int .u16 (le2 bs o:Int)) H):FnS prog 379 #[bsl b o n c] H R:=by
 apply w379
 unfold QgZ
 refine QiR hb hl hn ?_
 exact hR
omit hb in
theorem Zl {w:World} {n:Int}:(callFunc 170 #[.int .u32 n]).run prog w= .ok (.value (.float .f32 n.toNat)) w:=by
 rw[run_callFunc_extern (fn:=Tryz.f170) (e:=Extern.MathFloatBits.float32frombits) Tryz.func170 (by kernel_rfl) (by kernel_rfl) (by kernel_rfl) (by kernel_rfl)]
 rfl
omit hb in
theorem QL {P:Program} {f:FuncId} {args:Array Value} {v:Value} {k:Value->Prop} (h:∀w,(callFunc f args).run P w= .ok (.value v) w) (hk:k v):QaK P f args k:=⟨v,h,hk⟩
theorem go_GetFloat32 (hl:o+4<=bs.length) (hn:4<=n) (hR:R (.float .f32 (le4 bs o)) H):FnS prog 353 #[bsl b o n c] H R:=by
 apply w353
 unfold s353
 refine QiW hb hl hn ?_
 refine QL (fun w=>Zl) ?_
 exact hR
omit hb in
theorem Qc6 {w:World} {n:Int}:(callFunc 174 #[.int .u64 n]).run prog w= .ok (.value (.float .f64 n.toNat)) w:=by
 rw[run_callFunc_extern (fn:=Tryz.f174) (e:=Extern.MathFloatBits.float64frombits) Tryz.func174 (by kernel_rfl) (by kernel_rfl) (by kernel_rfl) (by kernel_rfl)]
 rfl
theorem go_GetFloat64 (hl:o+8<=bs.length) (hn:8<=n) (hR:R (.float .f64 (le8 bs o)) H):FnS prog 355 #[bsl b o n c] H R:=by
 apply w355
 unfold s355
 refine Qjb hb hl hn ?_
 refine QL (fun w=>Qc6) ?_
 exact hR
end
end Go.Proofs
namespace Go.Proofs
open Go Go.Vc
open Tryz (prog)
set_option maxRecDepth 100000
def s274 (a b:Value) (h:Qe) (R:Kn):Prop:=
 Q3 a fun f=>
 Qg f 1 fun g=>
 LdK h g fun i=>
 QK .i32 i fun j=>
 Q3 a fun l=>
 Qg l 1 fun m=>
 LdK h m fun o=>
 Qa prog 345 #[a,o] h fun p c=>
 Qi h c<|
 Qk prog .sub 336 j p fun q=>
 QK .u32 q fun d=>
 Qa prog 346 #[a,d] c fun r e=>
 Qk prog .lss 291 b r fun s=>
 IfK s
 (QK .u32 b fun t=>
 Qk prog .add 93 d t fun u=>
 Qa prog 346 #[a,u] e fun v w=>
 R v w)
 (R (.int .u16 0) e)
theorem w274 {a b h R} (H:s274 a b h R):FnS prog 274 #[a,b] h R:=wq Tryz.func274 (by kernel_rfl) H
theorem w275 {a b h R} (H:QcC 347 a b h R):FnS prog 275 #[a,b] h R:=wq Tryz.func275 (by kernel_rfl) H
def s276 (a b:Value) (h:Qe) (R:Kn):Prop:=
 Q3 a fun g=>
 Qg g 0 fun i=>
 LdK h i fun j=>
 Qey 1 j (some b) none fun l=>
 Qa prog 78 #[l] h fun m c=>
 Qk prog .add 93 b m fun d=>
 Qk prog .add 93 d (.int .u32 4) fun e=>
 Q3 a fun o=>
 Qg o 0 fun p=>
 LdK c p fun q=>
 Qey 1 q (some d) none fun r=>
 Qa prog 78 #[r] c fun s f=>
 Q3 a fun t=>
 Qg t 0 fun u=>
 LdK f u fun v=>
 Qk prog .add 93 e s fun w=>
 Qey 1 v (some e) (some w) fun y=>
 R y f
theorem w276 {a b h R} (H:s276 a b h R):FnS prog 276 #[a,b] h R:=wq Tryz.func276 (by kernel_rfl) H
theorem w277 {a b h R} (H:QcC 348 a b h R):FnS prog 277 #[a,b] h R:=wq Tryz.func277 (by kernel_rfl) H
theorem w278 {a b h R} (H:QcC 349 a b h R):FnS prog 278 #[a,b] h R:=wq Tryz.func278 (by kernel_rfl) H
theorem w279 {a b h R} (H:QcC 261 a b h R):FnS prog 279 #[a,b] h R:=wq Tryz.func279 (by kernel_rfl) H
theorem w280 {a b h R} (H:QcC 350 a b h R):FnS prog 280 #[a,b] h R:=wq Tryz.func280 (by kernel_rfl) H
theorem w281 {a b h R} (H:QcC 351 a b h R):FnS prog 281 #[a,b] h R:=wq Tryz.func281 (by kernel_rfl) H
theorem w282 {a b h R} (H:QcC 352 a b h R):FnS prog 282 #[a,b] h R:=wq Tryz.func282 (by kernel_rfl) H
theorem w283 {a b h R} (H:QcC 353 a b h R):FnS prog 283 #[a,b] h R:=wq Tryz.func283 (by kernel_rfl) H
def s284 (b a:Value) (h:Qe) (R:Kn):Prop:=
 Q3 b fun c=>
 Qg c 0 fun d=>
 LdK h d fun e=>
 Qey 1 e (some a) none fun f=>
 Qa prog 78 #[f] h fun g i=>
 Qk prog .add 93 a g fun j=>
 R j i
theorem w284 {a b h R} (H:s284 a b h R):FnS prog 284 #[a,b] h R:=wq Tryz.func284 (by kernel_rfl) H
theorem w286 {a b h R} (H:QcC 354 a b h R):FnS prog 286 #[a,b] h R:=wq Tryz.func286 (by kernel_rfl) H
theorem w289 {a b h R} (H:QcC 355 a b h R):FnS prog 289 #[a,b] h R:=wq Tryz.func289 (by kernel_rfl) H
def s290 (a d:Value) (h:Qe) (R:Kn):Prop:=
 Q3 a fun e=>
 Qg e 1 fun f=>
 LdK h f fun g=>
 Qk prog .add 93 d g fun b=>
 Q3 a fun i=>
 Qg i 0 fun j=>
 LdK h j fun l=>
 Qey 1 l (some b) none fun m=>
 Qa prog 78 #[m] h fun o c=>
 Qk prog .add 93 b o fun p=>
 Q3 a fun q=>
 Qg q 0 fun r=>
 LdK c r fun s=>
 Qey 1 s (some p) none fun t=>
 Qa prog 78 #[t] c fun u v=>
 QK .i64 u fun w=>
 R w v
theorem w290 {a b h R} (H:s290 a b h R):FnS prog 290 #[a,b] h R:=wq Tryz.func290 (by kernel_rfl) H
def s291 (a c:Value) (h:Qe) (R:Kn):Prop:=
 Q3 a fun d=>
 Qg d 1 fun e=>
 LdK h e fun f=>
 Qk prog .add 93 c f fun b=>
 Q3 a fun g=>
 Qg g 0 fun i=>
 LdK h i fun j=>
 Qey 1 j (some b) none fun l=>
 Qa prog 78 #[l] h fun m o=>
 Qk prog .add 93 b m fun p=>
 Qk prog .add 93 p (.int .u32 4) fun q=>
 R q o
theorem w291 {a b h R} (H:s291 a b h R):FnS prog 291 #[a,b] h R:=wq Tryz.func291 (by kernel_rfl) H
theorem w293 {a b h R} (H:QcC 356 a b h R):FnS prog 293 #[a,b] h R:=wq Tryz.func293 (by kernel_rfl) H
def s296 (a b e:Value) (h:Qe) (R:Kn):Prop:=
 Q3 a fun f=>
 Qg f 1 fun g=>
 LdK h g fun i=>
 Qk prog .add 93 e i fun c=>
 Qa prog 357 #[a,c] h fun j l=>
 Qk prog .add 93 c j fun m=>
 Q3 b fun o=>
 Qg o 1 fun p=>
 StK l 1 p m fun d=>
 Q3 a fun q=>
 Qg q 0 fun r=>
 LdK d r fun s=>
 Q3 b fun t=>
 Qg t 0 fun u=>
 StK d 1 u s fun v=>
 R (.tuple #[]) v
theorem w296 {a b c h R} (H:s296 a b c h R):FnS prog 296 #[a,b,c] h R:=wq Tryz.func296 (by kernel_rfl) H
theorem w345 {a b h R} (H:QcC 378 a b h R):FnS prog 345 #[a,b] h R:=wq Tryz.func345 (by kernel_rfl) H
theorem w346 {a b h R} (H:QcC 379 a b h R):FnS prog 346 #[a,b] h R:=wq Tryz.func346 (by kernel_rfl) H
theorem w357 {a b h R} (H:QcC 78 a b h R):FnS prog 357 #[a,b] h R:=wq Tryz.func357 (by kernel_rfl) H
end Go.Proofs
namespace Go.Proofs
open Go Go.Vc
open Tryz (prog)
set_option maxRecDepth 100000
def s31 (a b:Value) (h:Qe) (R:Kn):Prop:=
 Qey 1 a (some b) none fun d=>
 Qa prog 78 #[d] h fun e f=>
 Qz z187.toList [] fun g=>
 Y5 f (.cells (Value.cells g) 187) fun c i=>
 Qk prog .add 93 e b fun j=>
 Qa prog 79 #[c,a,j] i fun _x18 l=>
 R c l
theorem w31 {a b h R} (H:s31 a b h R):FnS prog 31 #[a,b] h R:=wq Tryz.func31 (by kernel_rfl) H
theorem w33 {a h R} (H:tp33 90 z160 160 80 a h R):FnS prog 33 #[a] h R:=wq Tryz.func33 (by kernel_rfl) H
theorem w79 {a b c h R} (H:tp79 a b c h R):FnS prog 79 #[a,b,c] h R:=wq Tryz.func79 (by kernel_rfl) H
theorem w81 {a h R} (H:tp81 6 275 .i16 150 a h R):FnS prog 81 #[a] h R:=wq Tryz.func81 (by kernel_rfl) H
theorem w82 {a h R} (H:tp81 8 275 .i16 100 a h R):FnS prog 82 #[a] h R:=wq Tryz.func82 (by kernel_rfl) H
theorem w83 {a h R} (H:tp83 10 a h R):FnS prog 83 #[a] h R:=wq Tryz.func83 (by kernel_rfl) H
theorem w84 {a h R} (H:tp81 16 277 .u8 8 a h R):FnS prog 84 #[a] h R:=wq Tryz.func84 (by kernel_rfl) H
def s85 (a:Value) (h:Qe) (R:Kn):Prop:=
 Q3 a fun d=>
 Qg d 0 fun e=>
 Qa prog 274 #[e,(.int .u16 34)] h fun f b=>
 QK .u32 f fun c=>
 Qk prog .neq 93 c (.int .u32 0) fun g=>
 IfK g
 (Q3 a fun i=>
 Qg i 0 fun j=>
 Q3 a fun l=>
 Qg l 0 fun m=>
 Qg m 1 fun o=>
 LdK b o fun p=>
 Qk prog .add 93 c p fun q=>
 Qa prog 278 #[j,q] b fun r s=>
 R r s)
 (R (.bool false) b)
theorem w85 {a h R} (H:s85 a h R):FnS prog 85 #[a] h R:=wq Tryz.func85 (by kernel_rfl) H
theorem w86 {a h R} (H:tp81 36 279 .i32 0 a h R):FnS prog 86 #[a] h R:=wq Tryz.func86 (by kernel_rfl) H
theorem w87 {a h R} (H:tp81 38 280 .u32 0 a h R):FnS prog 87 #[a] h R:=wq Tryz.func87 (by kernel_rfl) H
theorem w88 {a h R} (H:tp81 40 281 .i64 0 a h R):FnS prog 88 #[a] h R:=wq Tryz.func88 (by kernel_rfl) H
theorem w89 {a h R} (H:tp81 42 282 .u64 0 a h R):FnS prog 89 #[a] h R:=wq Tryz.func89 (by kernel_rfl) H
theorem w90 {a h R} (H:tp81 44 279 .i32 0 a h R):FnS prog 90 #[a] h R:=wq Tryz.func90 (by kernel_rfl) H
theorem w91 {a h R} (H:tp81 46 280 .u32 0 a h R):FnS prog 91 #[a] h R:=wq Tryz.func91 (by kernel_rfl) H
theorem w92 {a h R} (H:tp81 48 281 .i64 0 a h R):FnS prog 92 #[a] h R:=wq Tryz.func92 (by kernel_rfl) H
theorem w93 {a h R} (H:tp81 50 282 .u64 0 a h R):FnS prog 93 #[a] h R:=wq Tryz.func93 (by kernel_rfl) H
def s94 (a:Value) (h:Qe) (R:Kn):Prop:=
 Q3 a fun d=>
 Qg d 0 fun e=>
 Qa prog 274 #[e,(.int .u16 54)] h fun f b=>
 QK .u32 f fun c=>
 Qk prog .neq 93 c (.int .u32 0) fun g=>
 IfK g
 (Q3 a fun i=>
 Qg i 0 fun j=>
 Q3 a fun l=>
 Qg l 0 fun m=>
 Qg m 1 fun o=>
 LdK b o fun p=>
 Qk prog .add 93 c p fun q=>
 Qa prog 283 #[j,q] b fun r s=>
 R r s)
 (R (.float .f32 1078530000) b)
theorem w94 {a h R} (H:s94 a h R):FnS prog 94 #[a] h R:=wq Tryz.func94 (by kernel_rfl) H
def s95 (a:Value) (h:Qe) (R:Kn):Prop:=
 Q3 a fun d=>
 Qg d 0 fun e=>
 Qa prog 274 #[e,(.int .u16 56)] h fun f b=>
 QK .u32 f fun c=>
 Qk prog .neq 93 c (.int .u32 0) fun g=>
 IfK g
 (Q3 a fun i=>
 Qg i 0 fun j=>
 Q3 a fun l=>
 Qg l 0 fun m=>
 Qg m 1 fun o=>
 LdK b o fun p=>
 Qk prog .add 93 c p fun q=>
 Qa prog 283 #[j,q] b fun r s=>
 R r s)
 (R (.float .f32 1077936128) b)
theorem w95 {a h R} (H:s95 a h R):FnS prog 95 #[a] h R:=wq Tryz.func95 (by kernel_rfl) H
def s96 (a:Value) (h:Qe) (R:Kn):Prop:=
 Q3 a fun d=>
 Qg d 0 fun e=>
 Qa prog 274 #[e,(.int .u16 58)] h fun f b=>
 QK .u32 f fun c=>
 Qk prog .neq 93 c (.int .u32 0) fun g=>
 IfK g
 (Q3 a fun i=>
 Qg i 0 fun j=>
 Q3 a fun l=>
 Qg l 0 fun m=>
 Qg m 1 fun o=>
 LdK b o fun p=>
 Qk prog .add 93 c p fun q=>
 Qa prog 283 #[j,q] b fun r s=>
 R r s)
 (R (.float .f32 0) b)
theorem w96 {a h R} (H:s96 a h R):FnS prog 96 #[a] h R:=wq Tryz.func96 (by kernel_rfl) H
theorem w97 {a b h R} (H:tp97 72 197 z304 304 285 a b h R):FnS prog 97 #[a,b] h R:=wq Tryz.func97 (by kernel_rfl) H
theorem w98 {a h R} (H:tp81 76 282 .u64 0 a h R):FnS prog 98 #[a] h R:=wq Tryz.func98 (by kernel_rfl) H
theorem w99 {a h R} (H:tp81 82 282 .u64 0 a h R):FnS prog 99 #[a] h R:=wq Tryz.func99 (by kernel_rfl) H
theorem w100 {a h R} (H:tp81 86 282 .u64 0 a h R):FnS prog 100 #[a] h R:=wq Tryz.func100 (by kernel_rfl) H
theorem w101 {a h R} (H:tp81 100 286 .i8 (-1) a h R):FnS prog 101 #[a] h R:=wq Tryz.func101 (by kernel_rfl) H
def s102 (c f:Value) (h:Qe) (R:Kn):Prop:=
 Q3 c fun i=>
 Qg i 0 fun j=>
 Qa prog 274 #[j,(.int .u16 4)] h fun l a=>
 QK .u32 l fun g=>
 Qk prog .neq 93 g (.int .u32 0) fun m=>
 IfK m
 (Q3 c fun o=>
 Qg o 0 fun p=>
 Qg p 1 fun q=>
 LdK a q fun r=>
 Qk prog .add 93 g r fun s=>
 QD (fun b=>
 Qk prog .eql 200 f (.pointer none) fun t=>
 IfK t
 (Y5 a (.cells z306 306) fun u v=>
 b [u] v)
 (b [f] a)) fun b=>∀d:Value,∀e:Qe,b [d] e->
 Q3 c fun w=>
 Qg w 0 fun y=>
 Qg y 0 fun z=>
 LdK e z fun a0=>
 Qa prog 287 #[d,a0,s] e fun _x31 a1=>
 R d a1)
 (R (.pointer none) a)
theorem w102 {a b h R} (H:s102 a b h R):FnS prog 102 #[a,b] h R:=wq Tryz.func102 (by kernel_rfl) H
def s103 (d e:Value) (h:Qe) (R:Kn):Prop:=
 QD (fun a=>
 Qk prog .eql 202 e (.pointer none) fun f=>
 IfK f
 (Y5 h (.cells z211 211) fun g i=>
 a [g] i)
 (a [e] h)) fun a=>∀c:Value,∀b:Qe,a [c] b->
 Q3 d fun j=>
 Qg j 0 fun l=>
 Qg l 0 fun m=>
 Qg m 0 fun o=>
 LdK b o fun p=>
 Q3 d fun q=>
 Qg q 0 fun r=>
 Qg r 0 fun s=>
 Qg s 1 fun t=>
 LdK b t fun u=>
 Qk prog .add 93 u (.int .u32 26) fun v=>
 Qa prog 288 #[c,p,v] b fun _x22 w=>
 R c w
theorem w103 {a b h R} (H:s103 a b h R):FnS prog 103 #[a,b] h R:=wq Tryz.func103 (by kernel_rfl) H
theorem w104 {a h R} (H:tp104 0 283 a h R):FnS prog 104 #[a] h R:=wq Tryz.func104 (by kernel_rfl) H
theorem w105 {a h R} (H:tp104 4 283 a h R):FnS prog 105 #[a] h R:=wq Tryz.func105 (by kernel_rfl) H
theorem w106 {a h R} (H:tp104 8 283 a h R):FnS prog 106 #[a] h R:=wq Tryz.func106 (by kernel_rfl) H
theorem w107 {a h R} (H:tp104 16 289 a h R):FnS prog 107 #[a] h R:=wq Tryz.func107 (by kernel_rfl) H
theorem w108 {a h R} (H:tp104 24 277 a h R):FnS prog 108 #[a] h R:=wq Tryz.func108 (by kernel_rfl) H
theorem w109 {a h R} (H:tp104 0 275 a h R):FnS prog 109 #[a] h R:=wq Tryz.func109 (by kernel_rfl) H
theorem w110 {a h R} (H:tp104 2 286 a h R):FnS prog 110 #[a] h R:=wq Tryz.func110 (by kernel_rfl) H
theorem w111 {a h R} (H:QfY 14 a h R):FnS prog 111 #[a] h R:=wq Tryz.func111 (by kernel_rfl) H
theorem w112 {a b h R} (H:tp112 14 1 277 .u8 a b h R):FnS prog 112 #[a,b] h R:=wq Tryz.func112 (by kernel_rfl) H
theorem w113 {a h R} (H:QfY 22 a h R):FnS prog 113 #[a] h R:=wq Tryz.func113 (by kernel_rfl) H
theorem w114 {a b c h R} (H:tp114 22 4 288 a b c h R):FnS prog 114 #[a,b,c] h R:=wq Tryz.func114 (by kernel_rfl) H
theorem w115 {a h R} (H:QfY 24 a h R):FnS prog 115 #[a] h R:=wq Tryz.func115 (by kernel_rfl) H
theorem w116 {a b h R} (H:tp116 24 a b h R):FnS prog 116 #[a,b] h R:=wq Tryz.func116 (by kernel_rfl) H
theorem w117 {a h R} (H:QfY 26 a h R):FnS prog 117 #[a] h R:=wq Tryz.func117 (by kernel_rfl) H
theorem w118 {a b c h R} (H:tp118 26 79 a b c h R):FnS prog 118 #[a,b,c] h R:=wq Tryz.func118 (by kernel_rfl) H
theorem w119 {a b h R} (H:tp97 28 90 z187 187 79 a b h R):FnS prog 119 #[a,b] h R:=wq Tryz.func119 (by kernel_rfl) H
theorem w120 {a h R} (H:QfY 30 a h R):FnS prog 120 #[a] h R:=wq Tryz.func120 (by kernel_rfl) H
theorem w121 {a b h R} (H:tp112 30 1 277 .u8 a b h R):FnS prog 121 #[a,b] h R:=wq Tryz.func121 (by kernel_rfl) H
theorem w122 {a b h R} (H:tp97 32 216 z309 309 292 a b h R):FnS prog 122 #[a,b] h R:=wq Tryz.func122 (by kernel_rfl) H
theorem w123 {a h R} (H:tp83 4 a h R):FnS prog 123 #[a] h R:=wq Tryz.func123 (by kernel_rfl) H
theorem w124 {a h R} (H:tp81 6 281 .i64 0 a h R):FnS prog 124 #[a] h R:=wq Tryz.func124 (by kernel_rfl) H
theorem w125 {a h R} (H:tp81 8 293 .u16 0 a h R):FnS prog 125 #[a] h R:=wq Tryz.func125 (by kernel_rfl) H
theorem w126 {a h R} (H:QfY 52 a h R):FnS prog 126 #[a] h R:=wq Tryz.func126 (by kernel_rfl) H
def s127 (a d:Value) (h:Qe) (R:Kn):Prop:=
 Q3 a fun e=>
 Qg e 0 fun f=>
 Qa prog 274 #[f,(.int .u16 52)] h fun g b=>
 QK .u32 g fun c=>
 Qk prog .neq 93 c (.int .u32 0) fun i=>
 IfK i
 (Q3 a fun j=>
 Qg j 0 fun l=>
 Qa prog 291 #[l,c] b fun m o=>
 Q3 a fun p=>
 Qg p 0 fun q=>
 Qk prog .mul 3 d (.int .i64 1) fun r=>
 QK .u32 r fun s=>
 Qk prog .add 93 m s fun t=>
 Qa prog 278 #[q,t] o fun u v=>
 R u v)
 (R (.bool false) b)
theorem w127 {a b h R} (H:s127 a b h R):FnS prog 127 #[a,b] h R:=wq Tryz.func127 (by kernel_rfl) H
theorem w128 {a h R} (H:QfY 60 a h R):FnS prog 128 #[a] h R:=wq Tryz.func128 (by kernel_rfl) H
theorem w129 {a b h R} (H:tp116 60 a b h R):FnS prog 129 #[a,b] h R:=wq Tryz.func129 (by kernel_rfl) H
theorem w130 {a h R} (H:QfY 62 a h R):FnS prog 130 #[a] h R:=wq Tryz.func130 (by kernel_rfl) H
theorem w131 {a b c h R} (H:tp114 62 8 294 a b c h R):FnS prog 131 #[a,b,c] h R:=wq Tryz.func131 (by kernel_rfl) H
theorem w132 {a h R} (H:tp104 0 280 a h R):FnS prog 132 #[a] h R:=wq Tryz.func132 (by kernel_rfl) H
theorem w133 {a h R} (H:tp104 4 280 a h R):FnS prog 133 #[a] h R:=wq Tryz.func133 (by kernel_rfl) H
theorem w134 {a h R} (H:QfY 64 a h R):FnS prog 134 #[a] h R:=wq Tryz.func134 (by kernel_rfl) H
theorem w135 {a b h R} (H:tp112 64 1 277 .u8 a b h R):FnS prog 135 #[a,b] h R:=wq Tryz.func135 (by kernel_rfl) H
theorem w136 {a h R} (H:QfY 66 a h R):FnS prog 136 #[a] h R:=wq Tryz.func136 (by kernel_rfl) H
theorem w137 {a b c h R} (H:tp114 66 4 288 a b c h R):FnS prog 137 #[a,b,c] h R:=wq Tryz.func137 (by kernel_rfl) H
theorem w138 {a h R} (H:QfY 68 a h R):FnS prog 138 #[a] h R:=wq Tryz.func138 (by kernel_rfl) H
theorem w139 {a b h R} (H:tp112 68 8 281 .i64 a b h R):FnS prog 139 #[a,b] h R:=wq Tryz.func139 (by kernel_rfl) H
theorem w140 {a h R} (H:QfY 70 a h R):FnS prog 140 #[a] h R:=wq Tryz.func140 (by kernel_rfl) H
def s141 (a d:Value) (h:Qe) (R:Kn):Prop:=
 Q3 a fun e=>
 Qg e 0 fun f=>
 Qa prog 274 #[f,(.int .u16 70)] h fun g b=>
 QK .u32 g fun c=>
 Qk prog .neq 93 c (.int .u32 0) fun i=>
 IfK i
 (Q3 a fun j=>
 Qg j 0 fun l=>
 Qa prog 291 #[l,c] b fun m o=>
 Q3 a fun p=>
 Qg p 0 fun q=>
 Qk prog .mul 3 d (.int .i64 8) fun r=>
 QK .u32 r fun s=>
 Qk prog .add 93 m s fun t=>
 Qa prog 289 #[q,t] o fun u v=>
 R u v)
 (R (.float .f64 0) b)
theorem w141 {a b h R} (H:s141 a b h R):FnS prog 141 #[a,b] h R:=wq Tryz.func141 (by kernel_rfl) H
theorem w142 {a h R} (H:QfY 74 a h R):FnS prog 142 #[a] h R:=wq Tryz.func142 (by kernel_rfl) H
theorem w143 {a b c h R} (H:tp118 74 295 a b c h R):FnS prog 143 #[a,b,c] h R:=wq Tryz.func143 (by kernel_rfl) H
theorem w144 {a h R} (H:tp81 4 282 .u64 0 a h R):FnS prog 144 #[a] h R:=wq Tryz.func144 (by kernel_rfl) H
theorem w145 {a h R} (H:QfY 78 a h R):FnS prog 145 #[a] h R:=wq Tryz.func145 (by kernel_rfl) H
theorem w146 {a b h R} (H:tp112 78 8 282 .u64 a b h R):FnS prog 146 #[a,b] h R:=wq Tryz.func146 (by kernel_rfl) H
theorem w147 {a h R} (H:QfY 80 a h R):FnS prog 147 #[a] h R:=wq Tryz.func147 (by kernel_rfl) H
theorem w148 {a b c h R} (H:tp118 80 295 a b c h R):FnS prog 148 #[a,b,c] h R:=wq Tryz.func148 (by kernel_rfl) H
theorem w149 {a h R} (H:QfY 84 a h R):FnS prog 149 #[a] h R:=wq Tryz.func149 (by kernel_rfl) H
theorem w150 {a b h R} (H:tp112 84 8 282 .u64 a b h R):FnS prog 150 #[a,b] h R:=wq Tryz.func150 (by kernel_rfl) H
theorem w151 {a h R} (H:QfY 88 a h R):FnS prog 151 #[a] h R:=wq Tryz.func151 (by kernel_rfl) H
theorem w152 {a b h R} (H:tp112 88 8 282 .u64 a b h R):FnS prog 152 #[a,b] h R:=wq Tryz.func152 (by kernel_rfl) H
theorem w153 {a b h R} (H:tp153 20 a b h R):FnS prog 153 #[a,b] h R:=wq Tryz.func153 (by kernel_rfl) H
theorem w155 {a h R} (H:tp81 18 277 .u8 0 a h R):FnS prog 155 #[a] h R:=wq Tryz.func155 (by kernel_rfl) H
theorem w156 {a b h R} (H:tp153 92 a b h R):FnS prog 156 #[a,b] h R:=wq Tryz.func156 (by kernel_rfl) H
theorem w157 {a h R} (H:tp81 90 277 .u8 0 a h R):FnS prog 157 #[a] h R:=wq Tryz.func157 (by kernel_rfl) H
theorem w158 {a h R} (H:tp81 94 277 .u8 0 a h R):FnS prog 158 #[a] h R:=wq Tryz.func158 (by kernel_rfl) H
theorem w159 {a b h R} (H:tp153 96 a b h R):FnS prog 159 #[a,b] h R:=wq Tryz.func159 (by kernel_rfl) H
theorem w160 {a h R} (H:QfY 98 a h R):FnS prog 160 #[a] h R:=wq Tryz.func160 (by kernel_rfl) H
theorem w161 {a b h R} (H:tp112 98 1 277 .u8 a b h R):FnS prog 161 #[a,b] h R:=wq Tryz.func161 (by kernel_rfl) H
theorem w180 {a b h R} (H:Qcs 4 2 a b h R):FnS prog 180 #[a,b] h R:=wq Tryz.func180 (by kernel_rfl) H
theorem w183 {a b h R} (H:Qcs 4 4 a b h R):FnS prog 183 #[a,b] h R:=wq Tryz.func183 (by kernel_rfl) H
theorem w184 {a b h R} (H:Qcs 4 4 a b h R):FnS prog 184 #[a,b] h R:=wq Tryz.func184 (by kernel_rfl) H
theorem w186 {a b h R} (H:Qcs 1 1 a b h R):FnS prog 186 #[a,b] h R:=wq Tryz.func186 (by kernel_rfl) H
theorem w188 {a b h R} (H:Qcs 4 4 a b h R):FnS prog 188 #[a,b] h R:=wq Tryz.func188 (by kernel_rfl) H
theorem w189 {a b h R} (H:Qcs 8 4 a b h R):FnS prog 189 #[a,b] h R:=wq Tryz.func189 (by kernel_rfl) H
theorem w191 {a b h R} (H:Qcs 4 2 a b h R):FnS prog 191 #[a,b] h R:=wq Tryz.func191 (by kernel_rfl) H
theorem w192 {a b h R} (H:Qcs 8 8 a b h R):FnS prog 192 #[a,b] h R:=wq Tryz.func192 (by kernel_rfl) H
theorem w194 {a b h R} (H:Qcs 8 8 a b h R):FnS prog 194 #[a,b] h R:=wq Tryz.func194 (by kernel_rfl) H
theorem w198 {a b h R} (H:Qcs 4 4 a b h R):FnS prog 198 #[a,b] h R:=wq Tryz.func198 (by kernel_rfl) H
theorem w199 {a b h R} (H:Qcs 8 8 a b h R):FnS prog 199 #[a,b] h R:=wq Tryz.func199 (by kernel_rfl) H
theorem w201 {a b h R} (H:Qcs 4 4 a b h R):FnS prog 201 #[a,b] h R:=wq Tryz.func201 (by kernel_rfl) H
theorem w202 {a b h R} (H:Qcs 8 8 a b h R):FnS prog 202 #[a,b] h R:=wq Tryz.func202 (by kernel_rfl) H
theorem w203 {a b h R} (H:Qcs 8 8 a b h R):FnS prog 203 #[a,b] h R:=wq Tryz.func203 (by kernel_rfl) H
theorem w206 {a b h R} (H:Qcs 1 1 a b h R):FnS prog 206 #[a,b] h R:=wq Tryz.func206 (by kernel_rfl) H
theorem w208 {a h R} (H:tp208 49 a h R):FnS prog 208 #[a] h R:=wq Tryz.func208 (by kernel_rfl) H
theorem w210 {a b h R} (H:Ys 326 0 .u32 0 a b h R):FnS prog 210 #[a,b] h R:=wq Tryz.func210 (by kernel_rfl) H
theorem w211 {a b h R} (H:Ys 327 1 .i16 150 a b h R):FnS prog 211 #[a,b] h R:=wq Tryz.func211 (by kernel_rfl) H
theorem w212 {a b h R} (H:Ys 327 2 .i16 100 a b h R):FnS prog 212 #[a,b] h R:=wq Tryz.func212 (by kernel_rfl) H
theorem w213 {a b h R} (H:Ys 328 3 .u32 0 a b h R):FnS prog 213 #[a,b] h R:=wq Tryz.func213 (by kernel_rfl) H
theorem w214 {a b h R} (H:Ys 328 5 .u32 0 a b h R):FnS prog 214 #[a,b] h R:=wq Tryz.func214 (by kernel_rfl) H
theorem w215 {a b h R} (H:Ys 329 6 .u8 8 a b h R):FnS prog 215 #[a,b] h R:=wq Tryz.func215 (by kernel_rfl) H
theorem w216 {a b h R} (H:Ys 329 7 .u8 0 a b h R):FnS prog 216 #[a,b] h R:=wq Tryz.func216 (by kernel_rfl) H
theorem w217 {a b h R} (H:Ys 328 8 .u32 0 a b h R):FnS prog 217 #[a,b] h R:=wq Tryz.func217 (by kernel_rfl) H
theorem w218 {a b h R} (H:Ys 328 9 .u32 0 a b h R):FnS prog 218 #[a,b] h R:=wq Tryz.func218 (by kernel_rfl) H
theorem w219 {a b h R} (H:Ys 328 10 .u32 0 a b h R):FnS prog 219 #[a,b] h R:=wq Tryz.func219 (by kernel_rfl) H
theorem w220 {a b h R} (H:Ys 328 11 .u32 0 a b h R):FnS prog 220 #[a,b] h R:=wq Tryz.func220 (by kernel_rfl) H
theorem w221 {a b h R} (H:Ys 328 12 .u32 0 a b h R):FnS prog 221 #[a,b] h R:=wq Tryz.func221 (by kernel_rfl) H
theorem w222 {a b h R} (H:Ys 328 13 .u32 0 a b h R):FnS prog 222 #[a,b] h R:=wq Tryz.func222 (by kernel_rfl) H
theorem w223 {a b h R} (H:Ys 328 14 .u32 0 a b h R):FnS prog 223 #[a,b] h R:=wq Tryz.func223 (by kernel_rfl) H
def s224 (a b:Value) (h:Qe) (R:Kn):Prop:=
 Qa prog 330 #[a,(.int .i64 15),b,(.bool false)] h fun _x6 c=>
 R (.tuple #[]) c
theorem w224 {a b h R} (H:s224 a b h R):FnS prog 224 #[a,b] h R:=wq Tryz.func224 (by kernel_rfl) H
theorem w225 {a b h R} (H:Ys 331 16 .i32 0 a b h R):FnS prog 225 #[a,b] h R:=wq Tryz.func225 (by kernel_rfl) H
theorem w226 {a b h R} (H:Ys 332 17 .u32 0 a b h R):FnS prog 226 #[a,b] h R:=wq Tryz.func226 (by kernel_rfl) H
theorem w227 {a b h R} (H:Ys 333 18 .i64 0 a b h R):FnS prog 227 #[a,b] h R:=wq Tryz.func227 (by kernel_rfl) H
theorem w228 {a b h R} (H:Ys 334 19 .u64 0 a b h R):FnS prog 228 #[a,b] h R:=wq Tryz.func228 (by kernel_rfl) H
theorem w229 {a b h R} (H:Ys 331 20 .i32 0 a b h R):FnS prog 229 #[a,b] h R:=wq Tryz.func229 (by kernel_rfl) H
theorem w230 {a b h R} (H:Ys 332 21 .u32 0 a b h R):FnS prog 230 #[a,b] h R:=wq Tryz.func230 (by kernel_rfl) H
theorem w231 {a b h R} (H:Ys 333 22 .i64 0 a b h R):FnS prog 231 #[a,b] h R:=wq Tryz.func231 (by kernel_rfl) H
theorem w232 {a b h R} (H:Ys 334 23 .u64 0 a b h R):FnS prog 232 #[a,b] h R:=wq Tryz.func232 (by kernel_rfl) H
theorem w233 {a b h R} (H:Ys 328 24 .u32 0 a b h R):FnS prog 233 #[a,b] h R:=wq Tryz.func233 (by kernel_rfl) H
def s234 (a b:Value) (h:Qe) (R:Kn):Prop:=
 Qa prog 335 #[a,(.int .i64 25),b,(.float .f32 1078530000)] h fun _x6 c=>
 R (.tuple #[]) c
theorem w234 {a b h R} (H:s234 a b h R):FnS prog 234 #[a,b] h R:=wq Tryz.func234 (by kernel_rfl) H
def s235 (a b:Value) (h:Qe) (R:Kn):Prop:=
 Qa prog 335 #[a,(.int .i64 26),b,(.float .f32 1077936128)] h fun _x6 c=>
 R (.tuple #[]) c
theorem w235 {a b h R} (H:s235 a b h R):FnS prog 235 #[a,b] h R:=wq Tryz.func235 (by kernel_rfl) H
def s236 (a b:Value) (h:Qe) (R:Kn):Prop:=
 Qa prog 335 #[a,(.int .i64 27),b,(.float .f32 0)] h fun _x6 c=>
 R (.tuple #[]) c
theorem w236 {a b h R} (H:s236 a b h R):FnS prog 236 #[a,b] h R:=wq Tryz.func236 (by kernel_rfl) H
theorem w237 {a b h R} (H:Ys 328 28 .u32 0 a b h R):FnS prog 237 #[a,b] h R:=wq Tryz.func237 (by kernel_rfl) H
theorem w238 {a b h R} (H:Ys 328 29 .u32 0 a b h R):FnS prog 238 #[a,b] h R:=wq Tryz.func238 (by kernel_rfl) H
theorem w239 {a b h R} (H:Ys 328 30 .u32 0 a b h R):FnS prog 239 #[a,b] h R:=wq Tryz.func239 (by kernel_rfl) H
theorem w240 {a b h R} (H:Ys 328 31 .u32 0 a b h R):FnS prog 240 #[a,b] h R:=wq Tryz.func240 (by kernel_rfl) H
theorem w241 {a b h R} (H:Ys 328 32 .u32 0 a b h R):FnS prog 241 #[a,b] h R:=wq Tryz.func241 (by kernel_rfl) H
theorem w242 {a b h R} (H:Ys 328 33 .u32 0 a b h R):FnS prog 242 #[a,b] h R:=wq Tryz.func242 (by kernel_rfl) H
theorem w243 {a b h R} (H:Ys 328 34 .u32 0 a b h R):FnS prog 243 #[a,b] h R:=wq Tryz.func243 (by kernel_rfl) H
theorem w244 {a b h R} (H:Ys 328 35 .u32 0 a b h R):FnS prog 244 #[a,b] h R:=wq Tryz.func244 (by kernel_rfl) H
theorem w245 {a b h R} (H:Ys 334 36 .u64 0 a b h R):FnS prog 245 #[a,b] h R:=wq Tryz.func245 (by kernel_rfl) H
theorem w246 {a b h R} (H:Ys 328 37 .u32 0 a b h R):FnS prog 246 #[a,b] h R:=wq Tryz.func246 (by kernel_rfl) H
theorem w247 {a b h R} (H:Ys 328 38 .u32 0 a b h R):FnS prog 247 #[a,b] h R:=wq Tryz.func247 (by kernel_rfl) H
theorem w248 {a b h R} (H:Ys 334 39 .u64 0 a b h R):FnS prog 248 #[a,b] h R:=wq Tryz.func248 (by kernel_rfl) H
theorem w249 {a b h R} (H:Ys 328 40 .u32 0 a b h R):FnS prog 249 #[a,b] h R:=wq Tryz.func249 (by kernel_rfl) H
theorem w250 {a b h R} (H:Ys 334 41 .u64 0 a b h R):FnS prog 250 #[a,b] h R:=wq Tryz.func250 (by kernel_rfl) H
theorem w251 {a b h R} (H:Ys 328 42 .u32 0 a b h R):FnS prog 251 #[a,b] h R:=wq Tryz.func251 (by kernel_rfl) H
theorem w252 {a b h R} (H:Ys 329 43 .u8 0 a b h R):FnS prog 252 #[a,b] h R:=wq Tryz.func252 (by kernel_rfl) H
theorem w253 {a b h R} (H:Ys 328 44 .u32 0 a b h R):FnS prog 253 #[a,b] h R:=wq Tryz.func253 (by kernel_rfl) H
theorem w254 {a b h R} (H:Ys 329 45 .u8 0 a b h R):FnS prog 254 #[a,b] h R:=wq Tryz.func254 (by kernel_rfl) H
theorem w255 {a b h R} (H:Ys 328 46 .u32 0 a b h R):FnS prog 255 #[a,b] h R:=wq Tryz.func255 (by kernel_rfl) H
theorem w256 {a b h R} (H:Ys 328 47 .u32 0 a b h R):FnS prog 256 #[a,b] h R:=wq Tryz.func256 (by kernel_rfl) H
theorem w257 {a b h R} (H:Ys 336 48 .i8 (-1) a b h R):FnS prog 257 #[a,b] h R:=wq Tryz.func257 (by kernel_rfl) H
theorem w258 {a h R} (H:QgZ 337 a h R):FnS prog 258 #[a] h R:=wq Tryz.func258 (by kernel_rfl) H
theorem w262 {a h R} (H:tp33 200 z167 167 338 a h R):FnS prog 262 #[a] h R:=wq Tryz.func262 (by kernel_rfl) H
theorem w263 {a h R} (H:tp83 14 a h R):FnS prog 263 #[a] h R:=wq Tryz.func263 (by kernel_rfl) H
theorem w264 {a b h R} (H:tp264 174 z176 176 z312 312 339 278 a b h R):FnS prog 264 #[a,b] h R:=wq Tryz.func264 (by kernel_rfl) H
theorem w265 {a h R} (H:tp33 202 z169 169 340 a h R):FnS prog 265 #[a] h R:=wq Tryz.func265 (by kernel_rfl) H
theorem w266 {a h R} (H:tp83 30 a h R):FnS prog 266 #[a] h R:=wq Tryz.func266 (by kernel_rfl) H
theorem w267 {a h R} (H:tp33 216 z170 170 341 a h R):FnS prog 267 #[a] h R:=wq Tryz.func267 (by kernel_rfl) H
theorem w268 {a h R} (H:tp33 221 z172 172 342 a h R):FnS prog 268 #[a] h R:=wq Tryz.func268 (by kernel_rfl) H
theorem w269 {a h R} (H:tp83 64 a h R):FnS prog 269 #[a] h R:=wq Tryz.func269 (by kernel_rfl) H
theorem w270 {a h R} (H:tp33 197 z249 249 343 a h R):FnS prog 270 #[a] h R:=wq Tryz.func270 (by kernel_rfl) H
theorem w271 {a h R} (H:tp33 226 z277 277 344 a h R):FnS prog 271 #[a] h R:=wq Tryz.func271 (by kernel_rfl) H
theorem w272 {a b h R} (H:tp264 177 z179 179 z312 312 339 278 a b h R):FnS prog 272 #[a,b] h R:=wq Tryz.func272 (by kernel_rfl) H
theorem w273 {a b h R} (H:tp264 180 z182 182 z187 187 33 89 a b h R):FnS prog 273 #[a,b] h R:=wq Tryz.func273 (by kernel_rfl) H
theorem w285 {a b c h R} (H:tp79 a b c h R):FnS prog 285 #[a,b,c] h R:=wq Tryz.func285 (by kernel_rfl) H
theorem w287 {a b c h R} (H:tp287 a b c h R):FnS prog 287 #[a,b,c] h R:=wq Tryz.func287 (by kernel_rfl) H
theorem w288 {a b c h R} (H:tp287 a b c h R):FnS prog 288 #[a,b,c] h R:=wq Tryz.func288 (by kernel_rfl) H
theorem w292 {a b c h R} (H:tp79 a b c h R):FnS prog 292 #[a,b,c] h R:=wq Tryz.func292 (by kernel_rfl) H
theorem w294 {a b c h R} (H:tp287 a b c h R):FnS prog 294 #[a,b,c] h R:=wq Tryz.func294 (by kernel_rfl) H
theorem w295 {a b c h R} (H:tp79 a b c h R):FnS prog 295 #[a,b,c] h R:=wq Tryz.func295 (by kernel_rfl) H
theorem w297 {a b c h R} (H:tp79 a b c h R):FnS prog 297 #[a,b,c] h R:=wq Tryz.func297 (by kernel_rfl) H
theorem w298 {a h R} (H:tp81 4 277 .u8 2 a h R):FnS prog 298 #[a] h R:=wq Tryz.func298 (by kernel_rfl) H
def s307 (a b c:Value) (h:Qe) (R:Kn):Prop:=
 Qa prog 164 #[a,(.int .i64 2),(.int .i64 4)] h fun _x8 d=>
 Qa prog 300 #[a,(.int .i64 1)] d fun _x10 e=>
 Qa prog 365 #[a,c] e fun _x13 f=>
 Qa prog 366 #[a,b] f fun _x16 g=>
 Qa prog 301 #[a] g fun i j=>
 R i j
theorem w307 {a b c h R} (H:s307 a b c h R):FnS prog 307 #[a,b,c] h R:=wq Tryz.func307 (by kernel_rfl) H
theorem w309 {a h R} (H:tp208 3 a h R):FnS prog 309 #[a] h R:=wq Tryz.func309 (by kernel_rfl) H
theorem w310 {a b h R} (H:Ys 328 0 .u32 0 a b h R):FnS prog 310 #[a,b] h R:=wq Tryz.func310 (by kernel_rfl) H
theorem w311 {a b h R} (H:Ys 333 1 .i64 0 a b h R):FnS prog 311 #[a,b] h R:=wq Tryz.func311 (by kernel_rfl) H
theorem w312 {a b h R} (H:Ys 367 2 .u16 0 a b h R):FnS prog 312 #[a,b] h R:=wq Tryz.func312 (by kernel_rfl) H
theorem w313 {a h R} (H:QgZ 337 a h R):FnS prog 313 #[a] h R:=wq Tryz.func313 (by kernel_rfl) H
def s315 (a b c:Value) (h:Qe) (R:Kn):Prop:=
 Qa prog 164 #[a,(.int .i64 4),(.int .i64 8)] h fun _x8 d=>
 Qa prog 369 #[a,c] d fun _x11 e=>
 Qa prog 369 #[a,b] e fun _x14 f=>
 Qa prog 301 #[a] f fun g i=>
 R g i
theorem w315 {a b c h R} (H:s315 a b c h R):FnS prog 315 #[a,b,c] h R:=wq Tryz.func315 (by kernel_rfl) H
theorem w318 {a h R} (H:tp208 0 a h R):FnS prog 318 #[a] h R:=wq Tryz.func318 (by kernel_rfl) H
theorem w319 {a h R} (H:QgZ 337 a h R):FnS prog 319 #[a] h R:=wq Tryz.func319 (by kernel_rfl) H
theorem w320 {a h R} (H:tp208 1 a h R):FnS prog 320 #[a] h R:=wq Tryz.func320 (by kernel_rfl) H
theorem w321 {a b h R} (H:Ys 334 0 .u64 0 a b h R):FnS prog 321 #[a,b] h R:=wq Tryz.func321 (by kernel_rfl) H
theorem w322 {a h R} (H:QgZ 337 a h R):FnS prog 322 #[a] h R:=wq Tryz.func322 (by kernel_rfl) H
def s325 (a b c d e f g i:Value) (h:Qe) (R:Kn):Prop:=
 Qa prog 164 #[a,(.int .i64 8),(.int .i64 32)] h fun _x18 j=>
 Qa prog 300 #[a,(.int .i64 2)] j fun _x20 l=>
 Qa prog 164 #[a,(.int .i64 2),(.int .i64 4)] l fun _x22 m=>
 Qa prog 300 #[a,(.int .i64 1)] m fun _x24 o=>
 Qa prog 365 #[a,i] o fun _x27 p=>
 Qa prog 366 #[a,g] p fun _x30 q=>
 Qa prog 300 #[a,(.int .i64 1)] q fun _x32 r=>
 Qa prog 207 #[a,f] r fun _x35 s=>
 Qa prog 195 #[a,e] s fun _x38 t=>
 Qa prog 300 #[a,(.int .i64 4)] t fun _x40 u=>
 Qa prog 373 #[a,d] u fun _x43 v=>
 Qa prog 373 #[a,c] v fun _x46 w=>
 Qa prog 373 #[a,b] w fun _x49 y=>
 Qa prog 301 #[a] y fun z a0=>
 R z a0
theorem w325 {a b c d e f g i h R} (H:s325 a b c d e f g i h R):FnS prog 325 #[a,b,c,d,e,f,g,i] h R:=wq Tryz.func325 (by kernel_rfl) H
theorem w339 {a h R} (H:tp33 349 z280 280 377 a h R):FnS prog 339 #[a] h R:=wq Tryz.func339 (by kernel_rfl) H
theorem w360 {a h R} (H:tp208 1 a h R):FnS prog 360 #[a] h R:=wq Tryz.func360 (by kernel_rfl) H
theorem w361 {a b h R} (H:Ys 329 0 .u8 2 a b h R):FnS prog 361 #[a,b] h R:=wq Tryz.func361 (by kernel_rfl) H
theorem w362 {a h R} (H:QgZ 337 a h R):FnS prog 362 #[a] h R:=wq Tryz.func362 (by kernel_rfl) H
end Go.Proofs
namespace Go.Proofs
open Go Go.Vc
open Tryz (prog)
theorem SlcB {k:Value->Prop} {κ:IntKind} {b n m:Nat} {x:Int} (hx:x=m) (hm:m<n):
  Qey 1 (bsl b 0 n n) (some (.int κ x)) none k=k (bsl b m (n-m) (n-m)):=by
 subst hx
 rw[bsl,SlcK_lo (by omega) (by omega) (Nat.le_refl n)]
 have:¬n=m:=by omega
 simp[this]
structure Tab (H:Qe) (p B:Nat) (bs:List UInt8) (pos:Nat):Prop where
 c0:QaW H ⟨p,0,none⟩=some (bsl B 0 bs.length bs.length)
 c1:QaW H ⟨p,1,none⟩=some (.int .u32 pos)
 u8:U8s H B 0 bs
 lt:bs.length<2147483648
 le:pos<=bs.length
theorem QeO {H H':Qe} (hx:Qji H H') {b o:Nat} {bs:List UInt8} (h:U8s H b o bs):U8s H' b o bs:=fun i hi=>hx _ _ (h i hi)
theorem Tab.ext {H H':Qe} (hx:Qji H H') {p B:Nat} {bs:List UInt8} {pos:Nat} (h:Tab H p B bs pos):Tab H' p B bs pos:=
 ⟨hx _ _ h.c0,hx _ _ h.c1,QeO hx h.u8,h.lt,h.le⟩
def leN (k:Nat) (bs:List UInt8) (o:Nat):Nat:=match k with|1=>byteN bs o|2=>le2 bs o|4=>le4 bs o|_=>le8 bs o
structure VT (bs:List UInt8) (pos vt:Nat):Prop where
 hp:pos+4<=bs.length
 hs:(pos:Int)-IntKind.i32.wrap (le4 bs pos)=vt
 he:vt+le2 bs vt<=bs.length
 h4:4<=le2 bs vt
 ev:le2 bs vt%2=0
def slotAt (bs:List UInt8) (vt vo:Nat):Nat:=if vo<le2 bs vt then le2 bs (vt+vo) else 0
theorem slotAt_lt (bs:List UInt8) (vt vo:Nat):slotAt bs vt vo<65536:=by
 unfold slotAt;split
 ·exact le2_lt _ _
 ·omega
section
variable {H:Qe} {p B:Nat} {bs:List UInt8} {pos:Nat} (ht:Tab H p B bs pos) {R:Kn}
include ht
theorem go_Table_Offset {vt vo:Nat} (hv:VT bs pos vt) (he:vo%2=0) (hR:R (.int .u16 (slotAt bs vt vo)) H):
  FnS prog 274 #[.pointer (some ⟨p,0,none⟩),.int .u16 vo] H R:=by
 have:=ht.lt;have:=hv.hp;have h4:=hv.h4;have hee:=hv.he;have hev:=hv.ev
 have e1:IntKind.i32.wrap (pos:Int)=pos:=Zq (by omega) (by omega)
 have e3:IntKind.u32.wrap (IntKind.i32.wrap ((pos:Int)-IntKind.i32.wrap (le4 bs pos)))=(vt:Int):=by
  rw[hv.hs,Zq (by omega) (by omega),QW (by omega) (by omega)]
 apply w274
 unfold s274
 simp only[↓Qs,↓Qm,↓Ql ht.c1,↓QH,e1]
 apply w345
 unfold QcC
 simp only[↓Qs,↓Qm,↓Ql ht.c0,↓SlcB (n:=bs.length) (m:=pos) rfl (by omega)]
 refine go_GetSOffsetT ht.u8 (by omega) (by omega) ?_
 rw[Qb]
 simp only[↓QZ,↓QH,e3]
 apply w346
 unfold QcC
 simp only[↓Qs,↓Qm,↓Ql ht.c0,↓SlcB (n:=bs.length) (m:=vt) rfl (by omega)]
 refine Qdh ht.u8 (by omega) (by omega) ?_
 simp only[↓Yr]
 unfold slotAt at hR
 by_cases hlt:vo<le2 bs vt
 ·rw[Yb (by omega)]
  rw[if_pos hlt]at hR
  have h16:=le2_lt bs vt
  have e4:IntKind.u32.wrap (vo:Int)=vo:=QW (by omega) (by omega)
  have e5:IntKind.u32.wrap ((vt:Int)+vo)=((vt+vo:Nat):Int):=by rw[QW (by omega) (by omega)];omega
  simp only[↓QH,↓QA,e4,e5]
  apply w346
  unfold QcC
  simp only[↓Qs,↓Qm,↓Ql ht.c0,↓SlcB (n:=bs.length) (m:=vt+vo) rfl (by omega)]
  exact Qdh ht.u8 (by omega) (by omega) hR
 ·rw[QM (by omega)]
  rw[if_neg hlt]at hR
  exact hR
theorem Qd4 {o:Nat} {x:Int} (hx:x=(o:Nat)) (hl:o+2<=bs.length) (hR:R (.int .i16 (IntKind.i16.wrap (le2 bs o:Int))) H):
  FnS prog 275 #[.pointer (some ⟨p,0,none⟩),.int .u32 x] H R:=by
 have:=ht.lt
 subst hx
 apply w275
 unfold QcC
 simp only[↓Qs,↓Qm,↓Ql ht.c0,↓SlcB (n:=bs.length) (m:=o) rfl (by omega)]
 exact go_GetInt16 ht.u8 (by omega) (by omega) hR
theorem YR {o:Nat} {x:Int} (hx:x=(o:Nat)) (hl:o+1<=bs.length) (hR:R (.int .u8 (byteN bs o:Int)) H):
  FnS prog 277 #[.pointer (some ⟨p,0,none⟩),.int .u32 x] H R:=by
 have:=ht.lt
 subst hx
 apply w277
 unfold QcC
 simp only[↓Qs,↓Qm,↓Ql ht.c0,↓SlcB (n:=bs.length) (m:=o) rfl (by omega)]
 exact go_GetByte ht.u8 (by omega) (by omega) hR
theorem QfM {o:Nat} {x:Int} (hx:x=(o:Nat)) (hl:o+1<=bs.length) (hR:R (.bool (decide ((byteN bs o:Int)=1))) H):
  FnS prog 278 #[.pointer (some ⟨p,0,none⟩),.int .u32 x] H R:=by
 have:=ht.lt
 subst hx
 apply w278
 unfold QcC
 simp only[↓Qs,↓Qm,↓Ql ht.c0,↓SlcB (n:=bs.length) (m:=o) rfl (by omega)]
 exact go_GetBool ht.u8 (by omega) (by omega) hR
theorem Qf7 {o:Nat} {x:Int} (hx:x=(o:Nat)) (hl:o+4<=bs.length) (hR:R (.int .i32 (IntKind.i32.wrap (le4 bs o:Int))) H):
  FnS prog 279 #[.pointer (some ⟨p,0,none⟩),.int .u32 x] H R:=by
 have:=ht.lt
 subst hx
 apply w279
 unfold QcC
 simp only[↓Qs,↓Qm,↓Ql ht.c0,↓SlcB (n:=bs.length) (m:=o) rfl (by omega)]
 exact Qhs ht.u8 (by omega) (by omega) hR
theorem Qb4 {o:Nat} {x:Int} (hx:x=(o:Nat)) (hl:o+4<=bs.length) (hR:R (.int .u32 (le4 bs o:Int)) H):
  FnS prog 280 #[.pointer (some ⟨p,0,none⟩),.int .u32 x] H R:=by
 have:=ht.lt
 subst hx
 apply w280
 unfold QcC
 simp only[↓Qs,↓Qm,↓Ql ht.c0,↓SlcB (n:=bs.length) (m:=o) rfl (by omega)]
 exact QiW ht.u8 (by omega) (by omega) hR
theorem QbB {o:Nat} {x:Int} (hx:x=(o:Nat)) (hl:o+8<=bs.length) (hR:R (.int .i64 (IntKind.i64.wrap (le8 bs o:Int))) H):
  FnS prog 281 #[.pointer (some ⟨p,0,none⟩),.int .u32 x] H R:=by
 have:=ht.lt
 subst hx
 apply w281
 unfold QcC
 simp only[↓Qs,↓Qm,↓Ql ht.c0,↓SlcB (n:=bs.length) (m:=o) rfl (by omega)]
 exact go_GetInt64 ht.u8 (by omega) (by omega) hR
theorem YO {o:Nat} {x:Int} (hx:x=(o:Nat)) (hl:o+8<=bs.length) (hR:R (.int .u64 (le8 bs o:Int)) H):
  FnS prog 282 #[.pointer (some ⟨p,0,none⟩),.int .u32 x] H R:=by
 have:=ht.lt
 subst hx
 apply w282
 unfold QcC
 simp only[↓Qs,↓Qm,↓Ql ht.c0,↓SlcB (n:=bs.length) (m:=o) rfl (by omega)]
 exact Qjb ht.u8 (by omega) (by omega) hR
theorem Z9 {o:Nat} {x:Int} (hx:x=(o:Nat)) (hl:o+4<=bs.length) (hR:R (.float .f32 (le4 bs o)) H):
  FnS prog 283 #[.pointer (some ⟨p,0,none⟩),.int .u32 x] H R:=by
 have:=ht.lt
 subst hx
 apply w283
 unfold QcC
 simp only[↓Qs,↓Qm,↓Ql ht.c0,↓SlcB (n:=bs.length) (m:=o) rfl (by omega)]
 exact go_GetFloat32 ht.u8 (by omega) (by omega) hR
theorem QfO {o:Nat} {x:Int} (hx:x=(o:Nat)) (hl:o+1<=bs.length) (hR:R (.int .i8 (IntKind.i8.wrap (byteN bs o:Int))) H):
  FnS prog 286 #[.pointer (some ⟨p,0,none⟩),.int .u32 x] H R:=by
 have:=ht.lt
 subst hx
 apply w286
 unfold QcC
 simp only[↓Qs,↓Qm,↓Ql ht.c0,↓SlcB (n:=bs.length) (m:=o) rfl (by omega)]
 exact go_GetInt8 ht.u8 (by omega) (by omega) hR
theorem Qeg {o:Nat} {x:Int} (hx:x=(o:Nat)) (hl:o+8<=bs.length) (hR:R (.float .f64 (le8 bs o)) H):
  FnS prog 289 #[.pointer (some ⟨p,0,none⟩),.int .u32 x] H R:=by
 have:=ht.lt
 subst hx
 apply w289
 unfold QcC
 simp only[↓Qs,↓Qm,↓Ql ht.c0,↓SlcB (n:=bs.length) (m:=o) rfl (by omega)]
 exact go_GetFloat64 ht.u8 (by omega) (by omega) hR
theorem Qi5 {o:Nat} {x:Int} (hx:x=(o:Nat)) (hl:o+2<=bs.length) (hR:R (.int .u16 (le2 bs o:Int)) H):
  FnS prog 293 #[.pointer (some ⟨p,0,none⟩),.int .u32 x] H R:=by
 have:=ht.lt
 subst hx
 apply w293
 unfold QcC
 simp only[↓Qs,↓Qm,↓Ql ht.c0,↓SlcB (n:=bs.length) (m:=o) rfl (by omega)]
 exact QiR ht.u8 (by omega) (by omega) hR
theorem QgQ {o:Nat} {x:Int} (hx:x=(o:Nat)) (hl:o+4<=bs.length) (hR:R (.int .u32 (le4 bs o:Int)) H):
  FnS prog 357 #[.pointer (some ⟨p,0,none⟩),.int .u32 x] H R:=by
 have:=ht.lt
 subst hx
 apply w357
 unfold QcC
 simp only[↓Qs,↓Qm,↓Ql ht.c0,↓SlcB (n:=bs.length) (m:=o) rfl (by omega)]
 exact ZW ht.u8 (by omega) (by omega) hR
def tgt (bs:List UInt8) (o:Nat):Nat:=o+le4 bs o
theorem Qbw {o:Nat} {x:Int} (hx:x=(o:Nat)) (hl:o+4<=bs.length) (h2:tgt bs o<=bs.length) (hR:R (.int .u32 (tgt bs o:Nat)) H):
  FnS prog 284 #[.pointer (some ⟨p,0,none⟩),.int .u32 x] H R:=by
 have:=ht.lt
 subst hx
 unfold tgt at h2 hR
 apply w284
 unfold s284
 simp only[↓Qs,↓Qm,↓Ql ht.c0,↓SlcB (n:=bs.length) (m:=o) rfl (by omega)]
 refine ZW ht.u8 (by omega) (by omega) ?_
 rw[QA,QW (by omega) (by omega)]
 rw[show (o:Int)+(le4 bs o:Int)=((o+le4 bs o:Nat):Int) by omega]
 exact hR
theorem Qe0 {o n:Nat} {x:Int} (hx:x=(o:Nat)) (hl:o+4<=bs.length) (hn:le4 bs (tgt bs o)=n) (h2:tgt bs o+4+n<=bs.length) (h3:tgt bs o+4<bs.length)
  (hR:R (bsl B (tgt bs o+4) n (bs.length-(tgt bs o+4))) H):
  FnS prog 276 #[.pointer (some ⟨p,0,none⟩),.int .u32 x] H R:=by
 have:=ht.lt
 subst hx
 apply w276
 unfold s276
 simp only[↓Qs,↓Qm,↓Ql ht.c0,↓SlcB (n:=bs.length) (m:=o) rfl (by omega)]
 refine ZW ht.u8 (by omega) (by omega) ?_
 have e1:IntKind.u32.wrap ((o:Int)+(le4 bs o:Int))=(tgt bs o:Nat):=by unfold tgt at h2⊢;rw[QW (by omega) (by omega)];omega
 have e2:IntKind.u32.wrap (((tgt bs o:Nat):Int)+4)=((tgt bs o+4:Nat):Int):=by rw[QW (by omega) (by omega)];omega
 simp only[↓QA,e1,e2,↓Qs,↓Qm,↓Ql ht.c0,↓SlcB (n:=bs.length) (m:=tgt bs o) rfl (by omega)]
 refine ZW ht.u8 (by omega) (by omega) ?_
 have e3:IntKind.u32.wrap (((tgt bs o+4:Nat):Int)+(le4 bs (tgt bs o):Int))=((tgt bs o+4+n:Nat):Int):=by rw[QW (by omega) (by omega)];omega
 simp only[↓QA,e3,↓Qs,↓Qm,↓Ql ht.c0]
 rw[bsl,Qgv (by omega) (by omega) (by omega)]
 have e4:¬bs.length=tgt bs o+4:=by omega
 simp only[Int.toNat_natCast,if_neg e4,Nat.zero_add,Nat.mul_one,show tgt bs o+4+n-(tgt bs o+4)=n by omega]
 exact hR
theorem Qi2 {o:Nat} {x:Int} (hx:x=(o:Nat)) (hl:pos+o+4<=bs.length) (h2:tgt bs (pos+o)+4<=bs.length)
  (hR:R (.int .i64 (le4 bs (tgt bs (pos+o)):Nat)) H):
  FnS prog 290 #[.pointer (some ⟨p,0,none⟩),.int .u32 x] H R:=by
 have:=ht.lt
 subst hx
 apply w290
 unfold s290
 have e0:IntKind.u32.wrap ((o:Int)+pos)=((pos+o:Nat):Int):=by rw[QW (by omega) (by omega)];omega
 simp only[↓Qs,↓Qm,↓Ql ht.c1,↓Ql ht.c0,↓QA,e0,↓SlcB (n:=bs.length) (m:=pos+o) rfl (by omega)]
 refine ZW ht.u8 (by omega) (by omega) ?_
 have e1:IntKind.u32.wrap (((pos+o:Nat):Int)+(le4 bs (pos+o):Int))=(tgt bs (pos+o):Nat):=by unfold tgt at h2⊢;rw[QW (by omega) (by omega)];omega
 simp only[↓QA,e1,↓Qs,↓Qm,↓Ql ht.c0,↓SlcB (n:=bs.length) (m:=tgt bs (pos+o)) rfl (by omega)]
 refine ZW ht.u8 (by omega) (by omega) ?_
 have h4:=le4_lt bs (tgt bs (pos+o))
 rw[QH,wrap_i64 (by omega) (by omega)]
 exact hR
theorem QcN {o:Nat} {x:Int} (hx:x=(o:Nat)) (hl:pos+o+4<=bs.length) (h2:tgt bs (pos+o)+4<=bs.length)
  (hR:R (.int .u32 (tgt bs (pos+o)+4:Nat)) H):
  FnS prog 291 #[.pointer (some ⟨p,0,none⟩),.int .u32 x] H R:=by
 have:=ht.lt
 subst hx
 apply w291
 unfold s291
 have e0:IntKind.u32.wrap ((o:Int)+pos)=((pos+o:Nat):Int):=by rw[QW (by omega) (by omega)];omega
 simp only[↓Qs,↓Qm,↓Ql ht.c1,↓Ql ht.c0,↓QA,e0,↓SlcB (n:=bs.length) (m:=pos+o) rfl (by omega)]
 refine ZW ht.u8 (by omega) (by omega) ?_
 have e1:IntKind.u32.wrap (((pos+o:Nat):Int)+(le4 bs (pos+o):Int))=(tgt bs (pos+o):Nat):=by unfold tgt at h2⊢;rw[QW (by omega) (by omega)];omega
 have e2:IntKind.u32.wrap (((tgt bs (pos+o):Nat):Int)+4)=((tgt bs (pos+o)+4:Nat):Int):=by rw[QW (by omega) (by omega)];omega
 simp only[↓QA,e1,e2]
 exact hR
theorem go_Table_Union {o q:Nat} {x:Int} {c:Array Value} {e:TypeId} (hx:x=(o:Nat)) (hl:pos+o+4<=bs.length) (h2:tgt bs (pos+o)<=bs.length) (hq:H[q]?=some (.cells c e (0,0))) (hc:c.size=2) (hpq:q≠p)
  (hR:R (.tuple #[]) (setB H q (.cells #[bsl B 0 bs.length bs.length,.int .u32 (tgt bs (pos+o):Nat)] e (0,0)))):
  FnS prog 296 #[.pointer (some ⟨p,0,none⟩),.pointer (some ⟨q,0,none⟩),.int .u32 x] H R:=by
 have:=ht.lt
 subst hx
 apply w296
 unfold s296
 have e0:IntKind.u32.wrap ((o:Int)+pos)=((pos+o:Nat):Int):=by rw[QW (by omega) (by omega)];omega
 simp only[↓Qs,↓Qm,↓Ql ht.c1,↓QA,e0]
 refine QgQ ht (o:=pos+o) rfl (by omega) ?_
 have e1:IntKind.u32.wrap (((pos+o:Nat):Int)+(le4 bs (pos+o):Int))=(tgt bs (pos+o):Nat):=by unfold tgt at h2⊢;rw[QW (by omega) (by omega)];omega
 have c0:=ht.c0
 obtain ⟨x0,x1,rfl⟩:∃x0 x1,c=#[x0,x1]:=by
  obtain ⟨l⟩:=c
  match l,hc with
  |[x0,x1],_=>exact ⟨x0,x1,rfl⟩
 simp only[↓QA,e1,↓Qs,↓Qm,↓Qas (v:=.int .u32 (tgt bs (pos+o):Nat)) hq (by decide:1<2) (by simp) rfl]
 have hq':=QV (o:=.cells (#[x0,x1].setIfInBounds 1 (.int .u32 (tgt bs (pos+o):Nat))) e (0,0)) hq
 have c0':QaW (setB H q (.cells (#[x0,x1].setIfInBounds 1 (.int .u32 (tgt bs (pos+o):Nat))) e (0,0))) ⟨p,0,none⟩=some (bsl B 0 bs.length bs.length):=by
  rw[<-c0];unfold QaW;rw[Qw (Ne.symm hpq)]
 simp only[↓Ql c0',↓Qas (v:=bsl B 0 bs.length bs.length) hq' (by decide:0<2) (by simp) rfl,Qe9]
 exact hR
end
abbrev QfQ (f:Nat):Prop:=∀{H:Qe} {R:Kn} {q:Nat} {c:Array Value} {e:TypeId} {x y:Value} (_:H[q]?=some (.cells c e (0,0))) (_:c.size=2) (_:x.oneCell'=true) (_:y.oneCell'=true)
  (_:R (.tuple #[]) (setB H q (.cells #[x,y] e (0,0)))),FnS prog f #[.pointer (some ⟨q,0,none⟩),x,y] H R
def Init1S (x0 x1 x2:Value) (h:Qe) (R:Kn):Prop:=
 Q3 x0 fun x8=>
 Qg x8 0 fun x9=>
 Qg x9 0 fun x10=>
 StK h 1 x10 x1 fun h1=>
 Q3 x0 fun x13=>
 Qg x13 0 fun x14=>
 Qg x14 1 fun x15=>
 StK h1 1 x15 x2 fun h2=>
 R (.tuple #[]) h2
theorem init1S {f:Nat} (hw:∀{x0 x1 x2 h R},Init1S x0 x1 x2 h R->FnS prog f #[x0,x1,x2] h R):QfQ f:=by
 intro H R q c e x y hq hc hx hy hR
 obtain ⟨x0,x1,rfl⟩:∃x0 x1,c=#[x0,x1]:=by
  obtain ⟨l⟩:=c
  match l,hc with
  |[x0,x1],_=>exact ⟨x0,x1,rfl⟩
 apply hw
 unfold Init1S
 have hq':=QV (o:=.cells (#[x0,x1].setIfInBounds 0 x) e (0,0)) hq
 simp only[↓Qs,↓Qm,↓Qas hq (by decide:0<2) (by simp) hx,↓Qas hq' (by decide:1<2) (by simp) hy,Qe9]
 exact hR
def Init2S (x0 x1 x2:Value) (h:Qe) (R:Kn):Prop:=
 Q3 x0 fun x8=>
 Qg x8 0 fun x9=>
 Qg x9 0 fun x10=>
 Qg x10 0 fun x11=>
 StK h 1 x11 x1 fun h1=>
 Q3 x0 fun x14=>
 Qg x14 0 fun x15=>
 Qg x15 0 fun x16=>
 Qg x16 1 fun x17=>
 StK h1 1 x17 x2 fun h2=>
 R (.tuple #[]) h2
theorem init2S {f:Nat} (hw:∀{x0 x1 x2 h R},Init2S x0 x1 x2 h R->FnS prog f #[x0,x1,x2] h R):QfQ f:=by
 intro H R q c e x y hq hc hx hy hR
 obtain ⟨x0,x1,rfl⟩:∃x0 x1,c=#[x0,x1]:=by
  obtain ⟨l⟩:=c
  match l,hc with
  |[x0,x1],_=>exact ⟨x0,x1,rfl⟩
 apply hw
 unfold Init2S
 have hq':=QV (o:=.cells (#[x0,x1].setIfInBounds 0 x) e (0,0)) hq
 simp only[↓Qs,↓Qm,↓Qas hq (by decide:0<2) (by simp) hx,↓Qas hq' (by decide:1<2) (by simp) hy,Qe9]
 exact hR
theorem ZT:QfQ 79:=init1S w79
theorem Qip:QfQ 287:=init2S w287
theorem Qd5:QfQ 288:=init2S w288
theorem QiC:QfQ 292:=init1S w292
theorem QgS:QfQ 294:=init2S w294
theorem Qcz:QfQ 295:=init1S w295
theorem QbW:QfQ 297:=init1S w297
theorem Qdz:QfQ 285:=init1S w285
end Go.Proofs
namespace Go.Proofs
open Go Go.Vc
open Tryz (prog)
def Sc (k:Nat) (bs:List UInt8) (pos vt vo d x:Nat):Prop:=
 (slotAt bs vt vo=0/\x=d)\/(slotAt bs vt vo≠0/\pos+slotAt bs vt vo+k<=bs.length/\x=leN k bs (pos+slotAt bs vt vo))
def Qej (k:Nat) (bs:List UInt8) (pos vt vo n at_:Nat):Prop:=
 (slotAt bs vt vo=0/\n=0)\/
 (slotAt bs vt vo≠0/\pos+slotAt bs vt vo+4<=bs.length/\at_=tgt bs (pos+slotAt bs vt vo)+4/\le4 bs (tgt bs (pos+slotAt bs vt vo))=n/\at_+k*n<=bs.length/\at_<=bs.length)
def StrAt (bs:List UInt8) (o n:Nat):Prop:=o+4<=bs.length/\le4 bs (tgt bs o)=n/\tgt bs o+4+n<bs.length
theorem Yq {H:Qe} {o o':Obj}:setB (H.push o) H.size o'=H.push o':=by
 apply Array.ext_getElem?
 intro j
 simp only[setB,Array.getElem?_setIfInBounds,Array.getElem?_push,Array.size_push]
 by_cases h:H.size=j
 ·subst h;simp
 ·rw[if_neg h]
  by_cases h2:j=H.size
  ·exact absurd h2.symm h
  ·rw[if_neg h2,if_neg h2]
section
variable {H:Qe} {p B:Nat} {bs:List UInt8} {pos:Nat} (ht:Tab H p B bs pos) {R:Kn}
include ht
theorem Tab.push (o:Obj):Tab (H.push o) p B bs pos:=ht.ext (Qaf.push H o).ext
theorem Tab.slot_add {vt vo k:Nat} (h:pos+slotAt bs vt vo+k<=bs.length):IntKind.u32.wrap ((slotAt bs vt vo:Int)+pos)=((pos+slotAt bs vt vo:Nat):Int):=by
 have:=ht.lt
 rw[QW (by omega) (by omega)];omega
theorem Tab.add {o k:Nat} (h:pos+o+k<=bs.length):IntKind.u32.wrap ((pos:Int)+(o:Nat))=((pos+o:Nat):Int):=by
 have:=ht.lt
 rw[QW (by omega) (by omega)];omega
theorem Tab.item {a i k m:Nat} (h:a+k*i+m<=bs.length):IntKind.u32.wrap ((a:Int)+IntKind.u32.wrap (IntKind.i64.wrap ((i:Int)*(k:Nat))))=((a+k*i:Nat):Int):=by
 have:=ht.lt
 have e:(i:Int)*(k:Nat)=((k*i:Nat):Int):=by rw[Int.natCast_mul,Int.mul_comm]
 rw[e,wrap_i64 (by omega) (by omega),QW (n:=((k*i:Nat):Int)) (by omega) (by omega),QW (by omega) (by omega)];omega
theorem Tab.item' {a i k m:Nat} (hi:i<2147483648) (h:a+k*i+m<=bs.length):IntKind.u32.wrap ((a:Int)+IntKind.u32.wrap (IntKind.u32.wrap (i:Int)*(k:Nat)))=((a+k*i:Nat):Int):=by
 have:=ht.lt
 rw[QW (n:=(i:Int)) (by omega) (by omega)]
 have e:(i:Int)*(k:Nat)=((k*i:Nat):Int):=by rw[Int.natCast_mul,Int.mul_comm]
 rw[e,QW (n:=((k*i:Nat):Int)) (by omega) (by omega),QW (by omega) (by omega)];omega
theorem slot_u32 {vt vo:Nat}:IntKind.u32.wrap (slotAt bs vt vo:Int)=(slotAt bs vt vo:Int):=by
 have:=slotAt_lt bs vt vo
 exact QW (by omega) (by omega)
end
abbrev vI16 (x:Nat):Value:=.int .i16 (IntKind.i16.wrap (x:Int))
abbrev vU8 (x:Nat):Value:=.int .u8 (x:Int)
abbrev vB (x:Nat):Value:=.bool (decide ((x:Int)=1))
abbrev vI32 (x:Nat):Value:=.int .i32 (IntKind.i32.wrap (x:Int))
abbrev vU32 (x:Nat):Value:=.int .u32 (x:Int)
abbrev vI64 (x:Nat):Value:=.int .i64 (IntKind.i64.wrap (x:Int))
abbrev vU64 (x:Nat):Value:=.int .u64 (x:Int)
abbrev vF32 (x:Nat):Value:=.float .f32 x
abbrev vI8 (x:Nat):Value:=.int .i8 (IntKind.i8.wrap (x:Int))
abbrev vF64 (x:Nat):Value:=.float .f64 x
abbrev vU16 (x:Nat):Value:=.int .u16 (x:Int)
def OffS (vo:Int) (x0:Value) (h:Qe) (A:Kn) (B:Qe->Prop):Prop:=
 Q3 x0 fun x5=>
 Qg x5 0 fun x6=>
 Qa prog 274 #[x6,(.int .u16 vo)] h fun x7 h1=>
 QK .u32 x7 fun x8=>
 Qk prog .neq 93 x8 (.int .u32 0) fun x10=>
 IfK x10 (A x8 h1) (B h1)
theorem offS {H:Qe} {p B:Nat} {bs:List UInt8} {pos:Nat} (ht:Tab H p B bs pos) {vt vo:Nat} (hv:VT bs pos vt) (he:vo%2=0) {A:Kn} {B:Qe->Prop} (h0:slotAt bs vt vo=0->B H)
  (h1:slotAt bs vt vo≠0->A (.int .u32 (slotAt bs vt vo:Int)) H):OffS vo (.pointer (some ⟨p,0,none⟩)) H A B:=by
 have e0:=slot_u32 ht (vt:=vt) (vo:=vo)
 unfold OffS
 simp only[↓Qs,↓Qm]
 refine go_Table_Offset ht hv he ?_
 simp only[↓QH,↓Yp,e0]
 by_cases hz:slotAt bs vt vo=0
 ·rw[QM (by omega)];exact h0 hz
 ·rw[Yb (by omega)];exact h1 hz
abbrev GetOk (g k:Nat) (v:Nat->Value) (le:List UInt8->Nat->Nat):Prop:=∀{H:Qe} {p B:Nat} {bs:List UInt8} {pos:Nat} (_:Tab H p B bs pos) {R:Kn} {o:Nat} {x:Int} (_:x=(o:Nat)) (_:o+k<=bs.length) (_:R (v (le bs o)) H),FnS prog g #[.pointer (some ⟨p,0,none⟩),.int .u32 x] H R
abbrev Qih (f k vo d:Nat) (v:Nat->Value):Prop:=∀{H:Qe} {p B:Nat} {bs:List UInt8} {pos:Nat} (_:Tab H p B bs pos) {R:Kn} {vt x:Nat} (_:VT bs pos vt) (_:Sc k bs pos vt vo d x) (_:R (v x) H),FnS prog f #[.pointer (some ⟨p,0,none⟩)] H R
abbrev QfI (f vo:Nat):Prop:=∀{H:Qe} {p B:Nat} {bs:List UInt8} {pos:Nat} (_:Tab H p B bs pos) {R:Kn} {vt k n at_:Nat} (_:VT bs pos vt) (_:Qej k bs pos vt vo n at_) (_:R (.int .i64 n) H),FnS prog f #[.pointer (some ⟨p,0,none⟩)] H R
abbrev ItOk (f k vo:Nat) (v:Nat->Value) (le:List UInt8->Nat->Nat):Prop:=∀{H:Qe} {p B:Nat} {bs:List UInt8} {pos:Nat} (_:Tab H p B bs pos) {R:Kn} {vt n at_ i:Nat} (_:VT bs pos vt) (_:Qej k bs pos vt vo n at_) (_:i<n) (_:R (v (le bs (at_+k*i))) H),FnS prog f #[.pointer (some ⟨p,0,none⟩),.int .i64 (i:Nat)] H R
abbrev TItOk (f vo:Nat):Prop:=∀{H:Qe} {p B:Nat} {bs:List UInt8} {pos:Nat} (_:Tab H p B bs pos) {R:Kn} {vt n at_ i m:Nat} (_:VT bs pos vt) (_:Qej 4 bs pos vt vo n at_) (_:i<n) (_:StrAt bs (at_+4*i) m)
  (_:R (bsl B (tgt bs (at_+4*i)+4) m (bs.length-(tgt bs (at_+4*i)+4))) H),FnS prog f #[.pointer (some ⟨p,0,none⟩),.int .i64 (i:Nat)] H R
abbrev StOk (f off k:Nat) (v:Nat->Value) (le:List UInt8->Nat->Nat):Prop:=∀{H:Qe} {p B:Nat} {bs:List UInt8} {pos:Nat} (_:Tab H p B bs pos) {R:Kn} (_:pos+off+k<=bs.length) (_:R (v (le bs (pos+off))) H),FnS prog f #[.pointer (some ⟨p,0,none⟩)] H R
abbrev BytOk (f vo:Nat):Prop:=∀{H:Qe} {p B:Nat} {bs:List UInt8} {pos:Nat} (_:Tab H p B bs pos) {R:Kn} {vt:Nat} (_:VT bs pos vt) (_:slotAt bs vt vo=0->R (.slice none 0 0) H)
  (_:slotAt bs vt vo≠0->∃n,StrAt bs (pos+slotAt bs vt vo) n/\R (bsl B (tgt bs (pos+slotAt bs vt vo)+4) n (bs.length-(tgt bs (pos+slotAt bs vt vo)+4))) H),FnS prog f #[.pointer (some ⟨p,0,none⟩)] H R
abbrev SubOk (f w vo:Nat):Prop:=∀{H:Qe} {p B:Nat} {bs:List UInt8} {pos:Nat} (_:Tab H p B bs pos) {R:Kn} {vt n at_ i q:Nat} {c:Array Value} {e:TypeId} (_:VT bs pos vt) (_:Qej w bs pos vt vo n at_) (_:i<n) (_:H[q]?=some (.cells c e (0,0))) (_:c.size=2)
  (_:R (.bool true) (setB H q (.cells #[bsl B 0 bs.length bs.length,.int .u32 (at_+w*i:Nat)] e (0,0)))),FnS prog f #[.pointer (some ⟨p,0,none⟩),.pointer (some ⟨q,0,none⟩),.int .i64 (i:Nat)] H R
abbrev SubtOk (f vo:Nat):Prop:=∀{H:Qe} {p B:Nat} {bs:List UInt8} {pos:Nat} (_:Tab H p B bs pos) {R:Kn} {vt n at_ i q:Nat} {c:Array Value} {e:TypeId} (_:VT bs pos vt) (_:Qej 4 bs pos vt vo n at_) (_:i<n) (_:at_+4*i+4<=bs.length) (_:tgt bs (at_+4*i)<=bs.length) (_:H[q]?=some (.cells c e (0,0))) (_:c.size=2)
  (_:R (.bool true) (setB H q (.cells #[bsl B 0 bs.length bs.length,.int .u32 (tgt bs (at_+4*i):Nat)] e (0,0)))),FnS prog f #[.pointer (some ⟨p,0,none⟩),.pointer (some ⟨q,0,none⟩),.int .i64 (i:Nat)] H R
abbrev UniOk (f vo:Nat):Prop:=∀{H:Qe} {p B:Nat} {bs:List UInt8} {pos:Nat} (_:Tab H p B bs pos) {R:Kn} {vt q:Nat} {c:Array Value} {e:TypeId} (_:VT bs pos vt) (_:H[q]?=some (.cells c e (0,0))) (_:c.size=2) (_:q≠p) (_:slotAt bs vt vo=0->R (.bool false) H)
  (_:slotAt bs vt vo≠0->pos+slotAt bs vt vo+4<=bs.length/\tgt bs (pos+slotAt bs vt vo)<=bs.length/\R (.bool true) (setB H q (.cells #[bsl B 0 bs.length bs.length,.int .u32 (tgt bs (pos+slotAt bs vt vo):Nat)] e (0,0)))),
  FnS prog f #[.pointer (some ⟨p,0,none⟩),.pointer (some ⟨q,0,none⟩)] H R
def ScS (vo:Int) (g:Nat) (dv:Value) (x0:Value) (h:Qe) (R:Kn):Prop:=OffS vo x0 h (fun x8 h1=>
 Q3 x0 fun x12=>
 Qg x12 0 fun x13=>
 Q3 x0 fun x16=>
 Qg x16 0 fun x17=>
 Qg x17 1 fun x18=>
 LdK h1 x18 fun x19=>
 Qk prog .add 93 x8 x19 fun x20=>
 Qa prog g #[x13,x20] h1 fun x21 h2=>
 R x21 h2) (fun h1=>(R dv h1))
theorem scS {f g vo k d:Nat} {dv:Value} {v:Nat->Value} {le:List UInt8->Nat->Nat} (hw:∀{x0 h R},ScS vo g dv x0 h R->FnS prog f #[x0] h R) (hg:GetOk g k v le) (he:vo%2=0) (hd:dv=v d) (hk:le=leN k):Qih f k vo d v:=by
 subst hd hk
 intro H p B bs pos ht R vt x hv hs hR
 apply hw
 refine offS ht hv he (fun h=>?_) (fun h=>?_)
 all_goals rcases hs with ⟨h0,rfl⟩|⟨h0,h1,rfl⟩
 ·exact hR
 ·exact absurd h h0
 ·exact absurd h0 h
 ·simp only[↓Qs,↓Qm,↓Ql ht.c1,↓QA]
  exact hg ht (Tab.slot_add ht h1) h1 hR
theorem QbI:Qih 81 2 6 150 vI16:=scS (le:=le2) w81 Qd4 rfl rfl rfl
theorem Qb5:Qih 82 2 8 100 vI16:=scS (le:=le2) w82 Qd4 rfl rfl rfl
def BytS (vo:Int) (x0:Value) (h:Qe) (R:Kn):Prop:=OffS vo x0 h (fun x8 h1=>
 Q3 x0 fun x12=>
 Qg x12 0 fun x13=>
 Q3 x0 fun x16=>
 Qg x16 0 fun x17=>
 Qg x17 1 fun x18=>
 LdK h1 x18 fun x19=>
 Qk prog .add 93 x8 x19 fun x20=>
 Qa prog 276 #[x13,x20] h1 fun x21 h2=>
 R x21 h2) (fun h1=>(R (.slice none 0 0) h1))
theorem bytS {f vo:Nat} (hw:∀{x0 h R},BytS vo x0 h R->FnS prog f #[x0] h R) (he:vo%2=0):BytOk f vo:=by
 intro H p B bs pos ht R vt hv h0 h1
 apply hw
 refine offS ht hv he (fun h=>h0 h) (fun h=>?_)
 obtain ⟨n,⟨g1,g2,g3⟩,hR⟩:=h1 h
 simp only[↓Qs,↓Qm,↓Ql ht.c1,↓QA]
 exact Qe0 ht (Tab.slot_add ht g1) g1 g2 (by omega) (by omega) hR
theorem ZP:BytOk 83 10:=bytS w83 rfl
theorem Zo:Qih 84 1 16 8 vU8:=scS (le:=byteN) w84 YR rfl rfl rfl
theorem YB:Qih 85 1 34 0 vB:=scS (le:=byteN) w85 QfM rfl rfl rfl
theorem Yc:Qih 86 4 36 0 vI32:=scS (le:=le4) w86 Qf7 rfl rfl rfl
theorem QX:Qih 87 4 38 0 vU32:=scS (le:=le4) w87 Qb4 rfl rfl rfl
theorem QN:Qih 88 8 40 0 vI64:=scS (le:=le8) w88 QbB rfl rfl rfl
theorem QJ:Qih 89 8 42 0 vU64:=scS (le:=le8) w89 YO rfl rfl rfl
theorem QC:Qih 90 4 44 0 vI32:=scS (le:=le4) w90 Qf7 rfl rfl rfl
theorem Q9:Qih 91 4 46 0 vU32:=scS (le:=le4) w91 Qb4 rfl rfl rfl
theorem Q6:Qih 92 8 48 0 vI64:=scS (le:=le8) w92 QbB rfl rfl rfl
theorem Q2:Qih 93 8 50 0 vU64:=scS (le:=le8) w93 YO rfl rfl rfl
theorem QO:Qih 94 4 54 1078530000 vF32:=scS (le:=le4) w94 Z9 rfl rfl rfl
theorem QI:Qih 95 4 56 1077936128 vF32:=scS (le:=le4) w95 Z9 rfl rfl rfl
theorem QE:Qih 96 4 58 0 vF32:=scS (le:=le4) w96 Z9 rfl rfl rfl
theorem Zm {H:Qe} {p B:Nat} {bs:List UInt8} {pos:Nat} (ht:Tab H p B bs pos) {R:Kn} {vt:Nat} (hv:VT bs pos vt) (h0:slotAt bs vt 72=0->R (.pointer none) H)
  (h1:slotAt bs vt 72≠0->pos+slotAt bs vt 72+4<=bs.length/\tgt bs (pos+slotAt bs vt 72)<=bs.length/\R (.pointer (some ⟨H.size,0,none⟩)) (H.push (.cells #[bsl B 0 bs.length bs.length,.int .u32 (tgt bs (pos+slotAt bs vt 72):Nat)] 304))):
  FnS prog 97 #[.pointer (some ⟨p,0,none⟩),.pointer none] H R:=by
 apply w97
 refine offS ht hv (vo:=72) rfl (fun h=>h0 h) (fun h=>?_)
 obtain ⟨g1,g2,hR⟩:=h1 h
 simp only[↓Qs,↓Qm,↓Ql ht.c1,↓QA]
 refine Qbw ht (Tab.slot_add ht g1) g1 g2 ?_
 refine Q0 (fun vs h=>vs=[.pointer (some ⟨H.size,0,none⟩)]/\h=H.push (.cells z304 304)) ?_ ?_
 ·rw[Y2 (by kernel_rfl)]
  exact ⟨rfl,rfl⟩
 ·rintro x h ⟨hx,rfl⟩
  cases hx
  have ht2:=Tab.push ht (.cells z304 304)
  simp only[↓Qs,↓Qm,↓Ql ht2.c0]
  refine Qdz Qh (by simp[z304]) rfl rfl ?_
  rw[Yq]
  exact hR
theorem Qt:Qih 98 8 76 0 vU64:=scS (le:=le8) w98 YO rfl rfl rfl
theorem Qu:Qih 99 8 82 0 vU64:=scS (le:=le8) w99 YO rfl rfl rfl
theorem Qr:Qih 100 8 86 0 vU64:=scS (le:=le8) w100 YO rfl rfl rfl
theorem Qv:Qih 101 1 100 255 vI8:=scS (le:=byteN) w101 QfO rfl rfl rfl
theorem Qca {H:Qe} {p B:Nat} {bs:List UInt8} {pos:Nat} (ht:Tab H p B bs pos) {R:Kn} {vt:Nat} (hv:VT bs pos vt) (h0:slotAt bs vt 4=0->R (.pointer none) H)
  (h1:slotAt bs vt 4≠0->pos+slotAt bs vt 4<=bs.length/\R (.pointer (some ⟨H.size,0,none⟩)) (H.push (.cells #[bsl B 0 bs.length bs.length,.int .u32 (pos+slotAt bs vt 4:Nat)] 306))):
  FnS prog 102 #[.pointer (some ⟨p,0,none⟩),.pointer none] H R:=by
 apply w102
 refine offS ht hv (vo:=4) rfl (fun h=>h0 h) (fun h=>?_)
 obtain ⟨g1,hR⟩:=h1 h
 simp only[↓Qs,↓Qm,↓Ql ht.c1,↓QA]
 rw[Tab.slot_add ht (k:=0) (by omega)]
 refine Q0 (fun vs h=>vs=[.pointer (some ⟨H.size,0,none⟩)]/\h=H.push (.cells z306 306)) ?_ ?_
 ·rw[Y2 (by kernel_rfl)]
  exact ⟨rfl,rfl⟩
 ·rintro x h ⟨hx,rfl⟩
  cases hx
  have ht2:=Tab.push ht (.cells z306 306)
  simp only[↓Qs,↓Qm,↓Ql ht2.c0]
  refine Qip Qh (by simp[z306]) rfl rfl ?_
  rw[Yq]
  exact hR
theorem QeA {H:Qe} {p B:Nat} {bs:List UInt8} {pos:Nat} (ht:Tab H p B bs pos) {R:Kn} (hl:pos+26<=bs.length) (hR:R (.pointer (some ⟨H.size,0,none⟩)) (H.push (.cells #[bsl B 0 bs.length bs.length,.int .u32 (pos+26:Nat)] 211))):
  FnS prog 103 #[.pointer (some ⟨p,0,none⟩),.pointer none] H R:=by
 apply w103
 unfold s103
 refine Q0 (fun vs h=>vs=[.pointer (some ⟨H.size,0,none⟩)]/\h=H.push (.cells z211 211)) ?_ ?_
 ·rw[Y2 (by kernel_rfl)]
  exact ⟨rfl,rfl⟩
 ·rintro x h ⟨hx,rfl⟩
  cases hx
  have ht2:=Tab.push ht (.cells z211 211)
  have ea:=Tab.add ht (o:=26) (k:=0) (by omega)
  simp only[↓Qs,↓Qm,↓Ql ht2.c0,↓Ql ht2.c1,↓QA]
  rw[show ((pos:Int)+(26:Int))=(pos:Int)+((26:Nat):Int) from rfl,ea]
  refine Qd5 Qh (by simp[z211]) rfl rfl ?_
  rw[Yq]
  exact hR
def StS (off:Int) (g:Nat) (x0:Value) (h:Qe) (R:Kn):Prop:=
 Q3 x0 fun x4=>
 Qg x4 0 fun x5=>
 Qg x5 0 fun x6=>
 Q3 x0 fun x8=>
 Qg x8 0 fun x9=>
 Qg x9 0 fun x10=>
 Qg x10 1 fun x11=>
 LdK h x11 fun x12=>
 Qk prog .add 93 x12 (.int .u32 off) fun x13=>
 Qa prog g #[x6,x13] h fun x14 h1=>
 R x14 h1
theorem stS {f g off k:Nat} {v:Nat->Value} {le:List UInt8->Nat->Nat} (hw:∀{x0 h R},StS off g x0 h R->FnS prog f #[x0] h R) (hg:GetOk g k v le):StOk f off k v le:=by
 intro H p B bs pos ht R hl hR
 apply hw
 unfold StS
 have ea:=Tab.add ht (o:=off) (k:=k) hl
 simp only[↓Qs,↓Qm,↓Ql ht.c1,↓QA]
 exact hg ht (o:=pos+off) ea hl hR
theorem Qh6:StOk 104 0 4 vF32 le4:=stS w104 Z9
theorem Qhg:StOk 105 4 4 vF32 le4:=stS w105 Z9
theorem Qh8:StOk 106 8 4 vF32 le4:=stS w106 Z9
theorem Qeq:StOk 107 16 8 vF64 le8:=stS w107 Qeg
theorem Qet:StOk 108 24 1 vU8 byteN:=stS w108 YR
theorem Qdg:StOk 109 0 2 vI16 le2:=stS w109 Qd4
theorem Qdj:StOk 110 2 1 vI8 byteN:=stS w110 QfO
def LenS (vo:Int) (x0:Value) (h:Qe) (R:Kn):Prop:=OffS vo x0 h (fun x8 h1=>
 Q3 x0 fun x12=>
 Qg x12 0 fun x13=>
 Qa prog 290 #[x13,x8] h1 fun x15 h2=>
 R x15 h2) (fun h1=>(R (.int .i64 0) h1))
theorem lenS {f vo:Nat} (hw:∀{x0 h R},LenS vo x0 h R->FnS prog f #[x0] h R) (he:vo%2=0):QfI f vo:=by
 intro H p B bs pos ht R vt k n at_ hv hs hR
 apply hw
 refine offS ht hv he (fun h=>?_) (fun h=>?_)
 all_goals rcases hs with ⟨h0,rfl⟩|⟨h0,h1,rfl,h3,h4,h5⟩
 ·exact hR
 ·exact absurd h h0
 ·exact absurd h0 h
 ·try simp only[↓Qs,↓Qm]
  refine Qi2 ht rfl (by omega) (by omega) ?_
  rw[h3];exact hR
theorem Qd3:QfI 111 14:=lenS w111 rfl
def ItS (vo k:Int) (g:Nat) (dv:Value) (x0 x1:Value) (h:Qe) (R:Kn):Prop:=OffS vo x0 h (fun x11 h1=>
 Q3 x0 fun x15=>
 Qg x15 0 fun x16=>
 Qa prog 291 #[x16,x11] h1 fun x18 h2=>
 Q3 x0 fun x20=>
 Qg x20 0 fun x21=>
 Qk prog .mul 3 x1 (.int .i64 k) fun x24=>
 QK .u32 x24 fun x25=>
 Qk prog .add 93 x18 x25 fun x26=>
 Qa prog g #[x21,x26] h2 fun x27 h3=>
 R x27 h3) (fun h1=>(R dv h1))
theorem itS {f g vo k:Nat} {dv:Value} {v:Nat->Value} {le:List UInt8->Nat->Nat} (hw:∀{x0 x1 h R},ItS vo k g dv x0 x1 h R->FnS prog f #[x0,x1] h R) (hg:GetOk g k v le) (he:vo%2=0):ItOk f k vo v le:=by
 intro H p B bs pos ht R vt n at_ i hv hs hi hR
 apply hw
 rcases hs with ⟨h0,rfl⟩|⟨h0,h1,rfl,h3,h4,h5⟩
 ·omega
 refine offS ht hv he (fun h=>absurd h h0) (fun h=>?_)
 try simp only[↓Qs,↓Qm]
 refine QcN ht rfl (by omega) (by omega) ?_
 simp only[↓Qs,↓Qm,↓Z1,↓QA,↓QH]
 have h6:tgt bs (pos+slotAt bs vt vo)+4+k*i+k<=bs.length:=by
  have:k*i+k<=k*n:=Nat.le_trans (Nat.le_of_eq (Nat.mul_succ k i).symm) (Nat.mul_le_mul_left k hi)
  omega
 exact hg ht (Tab.item ht h6) h6 hR
theorem QeM:ItOk 112 1 14 vU8 byteN:=itS w112 YR rfl
theorem Qbr:QfI 113 22:=lenS w113 rfl
def SubS (vo w:Int) (g:Nat) (x0 x1 x2:Value) (h:Qe) (R:Kn):Prop:=OffS vo x0 h (fun x13 h1=>
 Q3 x0 fun x17=>
 Qg x17 0 fun x18=>
 Qa prog 291 #[x18,x13] h1 fun x20 h2=>
 QK .u32 x2 fun x23=>
 Qk prog .mul 93 x23 (.int .u32 w) fun x24=>
 Qk prog .add 93 x20 x24 fun x25=>
 Q3 x0 fun x28=>
 Qg x28 0 fun x29=>
 Qg x29 0 fun x30=>
 LdK h2 x30 fun x31=>
 Qa prog g #[x1,x31,x25] h2 fun _x33 h3=>
 R (.bool true) h3) (fun h1=>(R (.bool false) h1))
theorem subS {f g vo w:Nat} (hw:∀{x0 x1 x2 h R},SubS vo w g x0 x1 x2 h R->FnS prog f #[x0,x1,x2] h R) (hg:QfQ g) (he:vo%2=0) (hw0:0<w):SubOk f w vo:=by
 intro H p B bs pos ht R vt n at_ i q c e hv hs hi hq hc hR
 apply hw
 rcases hs with ⟨h0,rfl⟩|⟨h0,h1,rfl,h3,h4,h5⟩
 ·omega
 refine offS ht hv he (fun h=>absurd h h0) (fun h=>?_)
 try simp only[↓Qs,↓Qm]
 refine QcN ht rfl (by omega) (by omega) ?_
 have h6:tgt bs (pos+slotAt bs vt vo)+4+w*i+w<=bs.length:=by
  have:w*i+w<=w*n:=Nat.le_trans (Nat.le_of_eq (Nat.mul_succ w i).symm) (Nat.mul_le_mul_left w hi)
  omega
 have:=ht.lt
 have hi2:i<2147483648:=by
  have:1*i<=w*i:=Nat.mul_le_mul_right i hw0
  omega
 have ea:=Tab.item' ht (a:=tgt bs (pos+slotAt bs vt vo)+4) (k:=w) hi2 h6
 simp only[↓QH,↓Z1,↓QA]
 rw[ea]
 try simp only[↓Qs,↓Qm,↓Ql ht.c0]
 exact hg hq hc rfl rfl hR
theorem Qds:SubOk 114 4 22:=subS w114 Qd5 rfl (by decide)
theorem ZE:QfI 115 24:=lenS w115 rfl
def TItS (vo:Int) (x0 x1:Value) (h:Qe) (R:Kn):Prop:=OffS vo x0 h (fun x11 h1=>
 Q3 x0 fun x15=>
 Qg x15 0 fun x16=>
 Qa prog 291 #[x16,x11] h1 fun x18 h2=>
 Q3 x0 fun x20=>
 Qg x20 0 fun x21=>
 Qk prog .mul 3 x1 (.int .i64 4) fun x24=>
 QK .u32 x24 fun x25=>
 Qk prog .add 93 x18 x25 fun x26=>
 Qa prog 276 #[x21,x26] h2 fun x27 h3=>
 R x27 h3) (fun h1=>(R (.slice none 0 0) h1))
theorem titS {f vo:Nat} (hw:∀{x0 x1 h R},TItS vo x0 x1 h R->FnS prog f #[x0,x1] h R) (he:vo%2=0):TItOk f vo:=by
 intro H p B bs pos ht R vt n at_ i m hv hs hi hm hR
 apply hw
 rcases hs with ⟨h0,rfl⟩|⟨h0,h1,rfl,h3,h4,h5⟩
 ·omega
 refine offS ht hv he (fun h=>absurd h h0) (fun h=>?_)
 try simp only[↓Qs,↓Qm]
 refine QcN ht rfl (by omega) (by omega) ?_
 simp only[↓Qs,↓Qm,↓Z1,↓QA,↓QH]
 obtain ⟨g1,g2,g3⟩:=hm
 exact Qe0 ht (Tab.item ht g1) g1 g2 (Nat.le_of_lt g3) (Nat.lt_of_le_of_lt (Nat.le_add_right _ _) g3) hR
theorem Qah:TItOk 116 24:=titS w116 rfl
theorem ZC:QfI 117 26:=lenS w117 rfl
def SubtS (vo:Int) (g:Nat) (x0 x1 x2:Value) (h:Qe) (R:Kn):Prop:=OffS vo x0 h (fun x13 h1=>
 Q3 x0 fun x17=>
 Qg x17 0 fun x18=>
 Qa prog 291 #[x18,x13] h1 fun x20 h2=>
 QK .u32 x2 fun x23=>
 Qk prog .mul 93 x23 (.int .u32 4) fun x24=>
 Qk prog .add 93 x20 x24 fun x25=>
 Q3 x0 fun x27=>
 Qg x27 0 fun x28=>
 Qa prog 284 #[x28,x25] h2 fun x30 h3=>
 Q3 x0 fun x33=>
 Qg x33 0 fun x34=>
 Qg x34 0 fun x35=>
 LdK h3 x35 fun x36=>
 Qa prog g #[x1,x36,x30] h3 fun _x38 h4=>
 R (.bool true) h4) (fun h1=>(R (.bool false) h1))
theorem subtS {f g vo:Nat} (hw:∀{x0 x1 x2 h R},SubtS vo g x0 x1 x2 h R->FnS prog f #[x0,x1,x2] h R) (hg:QfQ g) (he:vo%2=0):SubtOk f vo:=by
 intro H p B bs pos ht R vt n at_ i q c e hv hs hi hm hm2 hq hc hR
 apply hw
 rcases hs with ⟨h0,rfl⟩|⟨h0,h1,rfl,h3,h4,h5⟩
 ·omega
 refine offS ht hv he (fun h=>absurd h h0) (fun h=>?_)
 try simp only[↓Qs,↓Qm]
 refine QcN ht rfl (by omega) (by omega) ?_
 have h6:tgt bs (pos+slotAt bs vt vo)+4+4*i+4<=bs.length:=by omega
 have:=ht.lt
 have ea:=Tab.item' ht (a:=tgt bs (pos+slotAt bs vt vo)+4) (k:=4) (by omega) h6
 simp only[↓QH,↓Z1,↓QA]
 rw[show ((4:Int))=((4:Nat):Int) from rfl,ea]
 try simp only[↓Qs,↓Qm,↓Ql ht.c0]
 refine Qbw ht rfl hm hm2 ?_
 try simp only[↓Qs,↓Qm,↓Ql ht.c0]
 exact hg hq hc rfl rfl hR
theorem Qae:SubtOk 118 26:=subtS w118 ZT rfl
theorem Qbn {H:Qe} {p B:Nat} {bs:List UInt8} {pos:Nat} (ht:Tab H p B bs pos) {R:Kn} {vt:Nat} (hv:VT bs pos vt) (h0:slotAt bs vt 28=0->R (.pointer none) H)
  (h1:slotAt bs vt 28≠0->pos+slotAt bs vt 28+4<=bs.length/\tgt bs (pos+slotAt bs vt 28)<=bs.length/\R (.pointer (some ⟨H.size,0,none⟩)) (H.push (.cells #[bsl B 0 bs.length bs.length,.int .u32 (tgt bs (pos+slotAt bs vt 28):Nat)] 187))):
  FnS prog 119 #[.pointer (some ⟨p,0,none⟩),.pointer none] H R:=by
 apply w119
 refine offS ht hv (vo:=28) rfl (fun h=>h0 h) (fun h=>?_)
 obtain ⟨g1,g2,hR⟩:=h1 h
 simp only[↓Qs,↓Qm,↓Ql ht.c1,↓QA]
 refine Qbw ht (Tab.slot_add ht g1) g1 g2 ?_
 refine Q0 (fun vs h=>vs=[.pointer (some ⟨H.size,0,none⟩)]/\h=H.push (.cells z187 187)) ?_ ?_
 ·rw[Y2 (by kernel_rfl)]
  exact ⟨rfl,rfl⟩
 ·rintro x h ⟨hx,rfl⟩
  cases hx
  have ht2:=Tab.push ht (.cells z187 187)
  simp only[↓Qs,↓Qm,↓Ql ht2.c0]
  refine ZT Qh (by simp[z187]) rfl rfl ?_
  rw[Yq]
  exact hR
theorem QaN:QfI 120 30:=lenS w120 rfl
theorem QbU:ItOk 121 1 30 vU8 byteN:=itS w121 YR rfl
theorem Qak {H:Qe} {p B:Nat} {bs:List UInt8} {pos:Nat} (ht:Tab H p B bs pos) {R:Kn} {vt:Nat} (hv:VT bs pos vt) (h0:slotAt bs vt 32=0->R (.pointer none) H)
  (h1:slotAt bs vt 32≠0->pos+slotAt bs vt 32+4<=bs.length/\tgt bs (pos+slotAt bs vt 32)<=bs.length/\R (.pointer (some ⟨H.size,0,none⟩)) (H.push (.cells #[bsl B 0 bs.length bs.length,.int .u32 (tgt bs (pos+slotAt bs vt 32):Nat)] 309))):
  FnS prog 122 #[.pointer (some ⟨p,0,none⟩),.pointer none] H R:=by
 apply w122
 refine offS ht hv (vo:=32) rfl (fun h=>h0 h) (fun h=>?_)
 obtain ⟨g1,g2,hR⟩:=h1 h
 simp only[↓Qs,↓Qm,↓Ql ht.c1,↓QA]
 refine Qbw ht (Tab.slot_add ht g1) g1 g2 ?_
 refine Q0 (fun vs h=>vs=[.pointer (some ⟨H.size,0,none⟩)]/\h=H.push (.cells z309 309)) ?_ ?_
 ·rw[Y2 (by kernel_rfl)]
  exact ⟨rfl,rfl⟩
 ·rintro x h ⟨hx,rfl⟩
  cases hx
  have ht2:=Tab.push ht (.cells z309 309)
  simp only[↓Qs,↓Qm,↓Ql ht2.c0]
  refine QiC Qh (by simp[z309]) rfl rfl ?_
  rw[Yq]
  exact hR
theorem Qgr:BytOk 123 4:=bytS w123 rfl
theorem QfK:Qih 124 8 6 0 vI64:=scS (le:=le8) w124 QbB rfl rfl rfl
theorem Qeu:Qih 125 2 8 0 vU16:=scS (le:=le2) w125 Qi5 rfl rfl rfl
theorem ZK:QfI 126 52:=lenS w126 rfl
theorem Qam:ItOk 127 1 52 vB byteN:=itS w127 QfM rfl
theorem ZA:QfI 128 60:=lenS w128 rfl
theorem Qa5:TItOk 129 60:=titS w129 rfl
theorem Zn:QfI 130 62:=lenS w130 rfl
theorem ZH:SubOk 131 8 62:=subS w131 QgS rfl (by decide)
theorem Qev:StOk 132 0 4 vU32 le4:=stS w132 Qb4
theorem Qcf:StOk 133 4 4 vU32 le4:=stS w133 Qb4
theorem Qen:QfI 134 64:=lenS w134 rfl
theorem QgY:ItOk 135 1 64 vU8 byteN:=itS w135 YR rfl
theorem Qbj:QfI 136 66:=lenS w136 rfl
theorem Qdp:SubOk 137 4 66:=subS w137 Qd5 rfl (by decide)
theorem Qa0:QfI 138 68:=lenS w138 rfl
theorem QaP:ItOk 139 8 68 vI64 le8:=itS w139 QbB rfl
theorem ZQ:QfI 140 70:=lenS w140 rfl
theorem Qav:ItOk 141 8 70 vF64 le8:=itS w141 Qeg rfl
theorem Z6:QfI 142 74:=lenS w142 rfl
theorem Qa2:SubtOk 143 74:=subtS w143 Qcz rfl
theorem Qbo:Qih 144 8 4 0 vU64:=scS (le:=le8) w144 YO rfl rfl rfl
theorem Zs:QfI 145 78:=lenS w145 rfl
theorem ZL:ItOk 146 8 78 vU64 le8:=itS w146 YO rfl
theorem Ze:QfI 147 80:=lenS w147 rfl
theorem Z4:SubtOk 148 80:=subtS w148 Qcz rfl
theorem Zb:QfI 149 84:=lenS w149 rfl
theorem Z0:ItOk 150 8 84 vU64 le8:=itS w150 YO rfl
theorem YX:QfI 151 88:=lenS w151 rfl
theorem Zv:ItOk 152 8 88 vU64 le8:=itS w152 YO rfl
def UniS (vo:Int) (x0 x1:Value) (h:Qe) (R:Kn):Prop:=OffS vo x0 h (fun x10 h1=>
 Q3 x0 fun x14=>
 Qg x14 0 fun x15=>
 Qa prog 296 #[x15,x1,x10] h1 fun _x18 h2=>
 R (.bool true) h2) (fun h1=>(R (.bool false) h1))
theorem uniS {f vo:Nat} (hw:∀{x0 x1 h R},UniS vo x0 x1 h R->FnS prog f #[x0,x1] h R) (he:vo%2=0):UniOk f vo:=by
 intro H p B bs pos ht R vt q c e hv hq hc hpq h0 h1
 apply hw
 refine offS ht hv he (fun h=>h0 h) (fun h=>?_)
 obtain ⟨g1,g2,hR⟩:=h1 h
 try simp only[↓Qs,↓Qm]
 exact go_Table_Union ht rfl g1 g2 hq hc hpq hR
theorem QdE:UniOk 153 20:=uniS w153 rfl
theorem Qcj:Qih 155 1 18 0 vU8:=scS (le:=byteN) w155 YR rfl rfl rfl
theorem QbP:UniOk 156 92:=uniS w156 rfl
theorem QaM:Qih 157 1 90 0 vU8:=scS (le:=byteN) w157 YR rfl rfl rfl
theorem Qal:Qih 158 1 94 0 vU8:=scS (le:=byteN) w158 YR rfl rfl rfl
theorem Qb7:UniOk 159 96:=uniS w159 rfl
theorem Qa4:QfI 160 98:=lenS w160 rfl
theorem QaR:ItOk 161 1 98 vU8 byteN:=itS w161 YR rfl
theorem ZS:Qih 298 1 4 2 vU8:=scS (le:=byteN) w298 YR rfl rfl rfl
theorem Qdv:BytOk 263 14:=bytS w263 rfl
theorem QaY:BytOk 266 30:=bytS w266 rfl
theorem QeN:BytOk 269 64:=bytS w269 rfl
end Go.Proofs
namespace Go.Proofs
open Go Go.Vc
open Tryz (prog)
section
variable {H:Qe} {B o n c:Nat} {L:List UInt8} {e:TypeId} (hB:H[B]?=some (.cells (u8c L) e (0,0))) {R:Kn}
include hB
set_option maxHeartbeats 1000000 in
theorem Qh9 {x:Int} (ho:o+2<=L.length) (hn:2<=n) (hR:R (.tuple #[]) (wr H B e (Zt L o (leB x 2)))):FnS prog 400 #[bsl B o n c,.int .u16 x] H R:=by
 rw[leB_2]at hR
 have hc:=ZF (QdX hB) (o:=o) (i:=1) (by omega)
 have i0:(0:Int)<n:=by omega
 have i1:(1:Int)<n:=by omega
 apply w400
 unfold tp394
 have e0:IntKind.u8.wrap x=((YU x 0).toNat:Int):=byte_0 x
 have e1:IntKind.u8.wrap (x.fdiv (2^(min (Int.toNat 8) IntKind.u16.bits)))=((YU x 1).toNat:Int):=Zy x 1
 simp only[↓QR (by decide:(0:Int)<=0) i0,↓QR (by decide:(0:Int)<=1) i1,show Int.toNat 0=0 from rfl,show Int.toNat 1=1 from rfl,Nat.mul_one,Nat.zero_mul,Nat.one_mul,↓Ql hc,↓QH,↓Zj (by decide:(0:Int)<=8),e0,e1]
 rw[<-QdC hB]
 rw[ZR hB (by simp;omega)]
 rw[ZR hB (by simp;omega)]
 exact hR
set_option maxHeartbeats 1000000 in
theorem go_WriteInt16 {x:Int} (ho:o+2<=L.length) (hn:2<=n) (hR:R (.tuple #[]) (wr H B e (Zt L o (leB x 2)))):FnS prog 394 #[bsl B o n c,.int .i16 x] H R:=by
 rw[leB_2]at hR
 have hc:=ZF (QdX hB) (o:=o) (i:=1) (by omega)
 have i0:(0:Int)<n:=by omega
 have i1:(1:Int)<n:=by omega
 apply w394
 unfold tp394
 have e0:IntKind.u8.wrap x=((YU x 0).toNat:Int):=byte_0 x
 have e1:IntKind.u8.wrap (x.fdiv (2^(min (Int.toNat 8) IntKind.i16.bits)))=((YU x 1).toNat:Int):=Zy x 1
 simp only[↓QR (by decide:(0:Int)<=0) i0,↓QR (by decide:(0:Int)<=1) i1,show Int.toNat 0=0 from rfl,show Int.toNat 1=1 from rfl,Nat.mul_one,Nat.zero_mul,Nat.one_mul,↓Ql hc,↓QH,↓Zj (by decide:(0:Int)<=8),e0,e1]
 rw[<-QdC hB]
 rw[ZR hB (by simp;omega)]
 rw[ZR hB (by simp;omega)]
 exact hR
set_option maxHeartbeats 1000000 in
theorem QeK {x:Int} (ho:o+4<=L.length) (hn:4<=n) (hR:R (.tuple #[]) (wr H B e (Zt L o (leB x 4)))):FnS prog 381 #[bsl B o n c,.int .u32 x] H R:=by
 rw[leB_4]at hR
 have hc:=ZF (QdX hB) (o:=o) (i:=3) (by omega)
 have i0:(0:Int)<n:=by omega
 have i1:(1:Int)<n:=by omega
 have i2:(2:Int)<n:=by omega
 have i3:(3:Int)<n:=by omega
 apply w381
 unfold tp381
 have e0:IntKind.u8.wrap x=((YU x 0).toNat:Int):=byte_0 x
 have e1:IntKind.u8.wrap (x.fdiv (2^(min (Int.toNat 8) IntKind.u32.bits)))=((YU x 1).toNat:Int):=Zy x 1
 have e2:IntKind.u8.wrap (x.fdiv (2^(min (Int.toNat 16) IntKind.u32.bits)))=((YU x 2).toNat:Int):=Zy x 2
 have e3:IntKind.u8.wrap (x.fdiv (2^(min (Int.toNat 24) IntKind.u32.bits)))=((YU x 3).toNat:Int):=Zy x 3
 simp only[↓QR (by decide:(0:Int)<=0) i0,↓QR (by decide:(0:Int)<=1) i1,↓QR (by decide:(0:Int)<=2) i2,↓QR (by decide:(0:Int)<=3) i3,show Int.toNat 0=0 from rfl,show Int.toNat 1=1 from rfl,show Int.toNat 2=2 from rfl,show Int.toNat 3=3 from rfl,Nat.mul_one,Nat.zero_mul,Nat.one_mul,↓Ql hc,↓QH,↓Zj (by decide:(0:Int)<=8),↓Zj (by decide:(0:Int)<=16),↓Zj (by decide:(0:Int)<=24),e0,e1,e2,e3]
 rw[<-QdC hB]
 rw[ZR hB (by simp;omega)]
 rw[ZR hB (by simp;omega)]
 rw[ZR hB (by simp;omega)]
 rw[ZR hB (by simp;omega)]
 exact hR
set_option maxHeartbeats 1000000 in
theorem Qif {x:Int} (ho:o+4<=L.length) (hn:4<=n) (hR:R (.tuple #[]) (wr H B e (Zt L o (leB x 4)))):FnS prog 397 #[bsl B o n c,.int .i32 x] H R:=by
 rw[leB_4]at hR
 have hc:=ZF (QdX hB) (o:=o) (i:=3) (by omega)
 have i0:(0:Int)<n:=by omega
 have i1:(1:Int)<n:=by omega
 have i2:(2:Int)<n:=by omega
 have i3:(3:Int)<n:=by omega
 apply w397
 unfold tp381
 have e0:IntKind.u8.wrap x=((YU x 0).toNat:Int):=byte_0 x
 have e1:IntKind.u8.wrap (x.fdiv (2^(min (Int.toNat 8) IntKind.i32.bits)))=((YU x 1).toNat:Int):=Zy x 1
 have e2:IntKind.u8.wrap (x.fdiv (2^(min (Int.toNat 16) IntKind.i32.bits)))=((YU x 2).toNat:Int):=Zy x 2
 have e3:IntKind.u8.wrap (x.fdiv (2^(min (Int.toNat 24) IntKind.i32.bits)))=((YU x 3).toNat:Int):=Zy x 3
 simp only[↓QR (by decide:(0:Int)<=0) i0,↓QR (by decide:(0:Int)<=1) i1,↓QR (by decide:(0:Int)<=2) i2,↓QR (by decide:(0:Int)<=3) i3,show Int.toNat 0=0 from rfl,show Int.toNat 1=1 from rfl,show Int.toNat 2=2 from rfl,show Int.toNat 3=3 from rfl,Nat.mul_one,Nat.zero_mul,Nat.one_mul,↓Ql hc,↓QH,↓Zj (by decide:(0:Int)<=8),↓Zj (by decide:(0:Int)<=16),↓Zj (by decide:(0:Int)<=24),e0,e1,e2,e3]
 rw[<-QdC hB]
 rw[ZR hB (by simp;omega)]
 rw[ZR hB (by simp;omega)]
 rw[ZR hB (by simp;omega)]
 rw[ZR hB (by simp;omega)]
 exact hR
set_option maxHeartbeats 1000000 in
theorem Qha {x:Int} (ho:o+8<=L.length) (hn:8<=n) (hR:R (.tuple #[]) (wr H B e (Zt L o (leB x 8)))):FnS prog 372 #[bsl B o n c,.int .u64 x] H R:=by
 rw[leB_8]at hR
 have hc:=ZF (QdX hB) (o:=o) (i:=7) (by omega)
 have i0:(0:Int)<n:=by omega
 have i1:(1:Int)<n:=by omega
 have i2:(2:Int)<n:=by omega
 have i3:(3:Int)<n:=by omega
 have i4:(4:Int)<n:=by omega
 have i5:(5:Int)<n:=by omega
 have i6:(6:Int)<n:=by omega
 have i7:(7:Int)<n:=by omega
 apply w372
 unfold tp370
 have e0:IntKind.u8.wrap x=((YU x 0).toNat:Int):=byte_0 x
 have e1:IntKind.u8.wrap (x.fdiv (2^(min (Int.toNat 8) IntKind.u64.bits)))=((YU x 1).toNat:Int):=Zy x 1
 have e2:IntKind.u8.wrap (x.fdiv (2^(min (Int.toNat 16) IntKind.u64.bits)))=((YU x 2).toNat:Int):=Zy x 2
 have e3:IntKind.u8.wrap (x.fdiv (2^(min (Int.toNat 24) IntKind.u64.bits)))=((YU x 3).toNat:Int):=Zy x 3
 have e4:IntKind.u8.wrap (x.fdiv (2^(min (Int.toNat 32) IntKind.u64.bits)))=((YU x 4).toNat:Int):=Zy x 4
 have e5:IntKind.u8.wrap (x.fdiv (2^(min (Int.toNat 40) IntKind.u64.bits)))=((YU x 5).toNat:Int):=Zy x 5
 have e6:IntKind.u8.wrap (x.fdiv (2^(min (Int.toNat 48) IntKind.u64.bits)))=((YU x 6).toNat:Int):=Zy x 6
 have e7:IntKind.u8.wrap (x.fdiv (2^(min (Int.toNat 56) IntKind.u64.bits)))=((YU x 7).toNat:Int):=Zy x 7
 simp only[↓QR (by decide:(0:Int)<=0) i0,↓QR (by decide:(0:Int)<=1) i1,↓QR (by decide:(0:Int)<=2) i2,↓QR (by decide:(0:Int)<=3) i3,↓QR (by decide:(0:Int)<=4) i4,↓QR (by decide:(0:Int)<=5) i5,↓QR (by decide:(0:Int)<=6) i6,↓QR (by decide:(0:Int)<=7) i7,show Int.toNat 0=0 from rfl,show Int.toNat 1=1 from rfl,show Int.toNat 2=2 from rfl,show Int.toNat 3=3 from rfl,show Int.toNat 4=4 from rfl,show Int.toNat 5=5 from rfl,show Int.toNat 6=6 from rfl,show Int.toNat 7=7 from rfl,Nat.mul_one,Nat.zero_mul,Nat.one_mul,↓Ql hc,↓QH,↓Zj (by decide:(0:Int)<=8),↓Zj (by decide:(0:Int)<=16),↓Zj (by decide:(0:Int)<=24),↓Zj (by decide:(0:Int)<=32),↓Zj (by decide:(0:Int)<=40),↓Zj (by decide:(0:Int)<=48),↓Zj (by decide:(0:Int)<=56),e0,e1,e2,e3,e4,e5,e6,e7]
 rw[<-QdC hB]
 rw[ZR hB (by simp;omega)]
 rw[ZR hB (by simp;omega)]
 rw[ZR hB (by simp;omega)]
 rw[ZR hB (by simp;omega)]
 rw[ZR hB (by simp;omega)]
 rw[ZR hB (by simp;omega)]
 rw[ZR hB (by simp;omega)]
 rw[ZR hB (by simp;omega)]
 exact hR
set_option maxHeartbeats 1000000 in
theorem go_WriteInt64 {x:Int} (ho:o+8<=L.length) (hn:8<=n) (hR:R (.tuple #[]) (wr H B e (Zt L o (leB x 8)))):FnS prog 370 #[bsl B o n c,.int .i64 x] H R:=by
 rw[leB_8]at hR
 have hc:=ZF (QdX hB) (o:=o) (i:=7) (by omega)
 have i0:(0:Int)<n:=by omega
 have i1:(1:Int)<n:=by omega
 have i2:(2:Int)<n:=by omega
 have i3:(3:Int)<n:=by omega
 have i4:(4:Int)<n:=by omega
 have i5:(5:Int)<n:=by omega
 have i6:(6:Int)<n:=by omega
 have i7:(7:Int)<n:=by omega
 apply w370
 unfold tp370
 have e0:IntKind.u8.wrap x=((YU x 0).toNat:Int):=byte_0 x
 have e1:IntKind.u8.wrap (x.fdiv (2^(min (Int.toNat 8) IntKind.i64.bits)))=((YU x 1).toNat:Int):=Zy x 1
 have e2:IntKind.u8.wrap (x.fdiv (2^(min (Int.toNat 16) IntKind.i64.bits)))=((YU x 2).toNat:Int):=Zy x 2
 have e3:IntKind.u8.wrap (x.fdiv (2^(min (Int.toNat 24) IntKind.i64.bits)))=((YU x 3).toNat:Int):=Zy x 3
 have e4:IntKind.u8.wrap (x.fdiv (2^(min (Int.toNat 32) IntKind.i64.bits)))=((YU x 4).toNat:Int):=Zy x 4
 have e5:IntKind.u8.wrap (x.fdiv (2^(min (Int.toNat 40) IntKind.i64.bits)))=((YU x 5).toNat:Int):=Zy x 5
 have e6:IntKind.u8.wrap (x.fdiv (2^(min (Int.toNat 48) IntKind.i64.bits)))=((YU x 6).toNat:Int):=Zy x 6
 have e7:IntKind.u8.wrap (x.fdiv (2^(min (Int.toNat 56) IntKind.i64.bits)))=((YU x 7).toNat:Int):=Zy x 7
 simp only[↓QR (by decide:(0:Int)<=0) i0,↓QR (by decide:(0:Int)<=1) i1,↓QR (by decide:(0:Int)<=2) i2,↓QR (by decide:(0:Int)<=3) i3,↓QR (by decide:(0:Int)<=4) i4,↓QR (by decide:(0:Int)<=5) i5,↓QR (by decide:(0:Int)<=6) i6,↓QR (by decide:(0:Int)<=7) i7,show Int.toNat 0=0 from rfl,show Int.toNat 1=1 from rfl,show Int.toNat 2=2 from rfl,show Int.toNat 3=3 from rfl,show Int.toNat 4=4 from rfl,show Int.toNat 5=5 from rfl,show Int.toNat 6=6 from rfl,show Int.toNat 7=7 from rfl,Nat.mul_one,Nat.zero_mul,Nat.one_mul,↓Ql hc,↓QH,↓Zj (by decide:(0:Int)<=8),↓Zj (by decide:(0:Int)<=16),↓Zj (by decide:(0:Int)<=24),↓Zj (by decide:(0:Int)<=32),↓Zj (by decide:(0:Int)<=40),↓Zj (by decide:(0:Int)<=48),↓Zj (by decide:(0:Int)<=56),e0,e1,e2,e3,e4,e5,e6,e7]
 rw[<-QdC hB]
 rw[ZR hB (by simp;omega)]
 rw[ZR hB (by simp;omega)]
 rw[ZR hB (by simp;omega)]
 rw[ZR hB (by simp;omega)]
 rw[ZR hB (by simp;omega)]
 rw[ZR hB (by simp;omega)]
 rw[ZR hB (by simp;omega)]
 rw[ZR hB (by simp;omega)]
 exact hR
set_option maxHeartbeats 1000000 in
theorem go_WriteInt8 {x:Int} (ho:o+1<=L.length) (hn:1<=n) (hR:R (.tuple #[]) (wr H B e (Zt L o (leB x 1)))):FnS prog 393 #[bsl B o n c,.int .i8 x] H R:=by
 rw[leB_1]at hR
 have hc:=ZF (QdX hB) (o:=o) (i:=0) (by omega)
 have i0:(0:Int)<n:=by omega
 apply w393
 unfold s393
 have e0:IntKind.u8.wrap x=((YU x 0).toNat:Int):=byte_0 x
 simp only[↓QR (by decide:(0:Int)<=0) i0,show Int.toNat 0=0 from rfl,Nat.mul_one,Nat.zero_mul,Nat.one_mul,↓QH,e0]
 rw[<-QdC hB]
 rw[ZR hB (by simp;omega)]
 exact hR
theorem go_WriteUint8 {b:UInt8} (ho:o+1<=L.length) (hn:1<=n) (hR:R (.tuple #[]) (wr H B e (Zt L o [b]))):FnS prog 382 #[bsl B o n c,.int .u8 (b.toNat:Int)] H R:=by
 have i0:(0:Int)<n:=by omega
 apply w382
 unfold s382
 simp only[↓QR (by decide:(0:Int)<=0) i0,show Int.toNat 0=0 from rfl,Nat.zero_mul]
 rw[<-QdC hB,ZR hB (by omega)]
 exact hR
theorem go_WriteByte {b:UInt8} (ho:o+1<=L.length) (hn:1<=n) (hR:R (.tuple #[]) (wr H B e (Zt L o [b]))):FnS prog 359 #[bsl B o n c,.int .u8 (b.toNat:Int)] H R:=by
 apply w359
 unfold tp358
 exact go_WriteUint8 hB ho hn hR
theorem go_WriteBool {b:Bool} (ho:o+1<=L.length) (hn:1<=n) (hR:R (.tuple #[]) (wr H B e (Zt L o [if b then 1 else 0]))):FnS prog 368 #[bsl B o n c,.bool b] H R:=by
 have i0:(0:Int)<n:=by omega
 apply w368
 unfold s368
 simp only[↓QR (by decide:(0:Int)<=0) i0,show Int.toNat 0=0 from rfl,Nat.zero_mul]
 have s0:(Value.int .u8 0)= .int .u8 ((0:UInt8).toNat:Int):=rfl
 have s1:(Value.int .u8 1)= .int .u8 ((1:UInt8).toNat:Int):=rfl
 rw[<-QdC hB,s0,ZR hB (by omega)]
 cases b
 ·exact hR
 ·rw[QbS,s1,ZR hB (by simp only[List.length_set];omega),Nat.add_zero,List.set_set]
  exact hR
theorem Qjh {x:Int} (ho:o+4<=L.length) (hn:4<=n) (hR:R (.tuple #[]) (wr H B e (Zt L o (leB x 4)))):FnS prog 358 #[bsl B o n c,.int .u32 x] H R:=by
 apply w358
 unfold tp358
 exact QeK hB ho hn hR
theorem Qdy {x:Int} (ho:o+4<=L.length) (hn:4<=n) (hR:R (.tuple #[]) (wr H B e (Zt L o (leB x 4)))):FnS prog 392 #[bsl B o n c,.int .i32 x] H R:=by
 apply w392
 unfold tp358
 exact Qif hB ho hn hR
theorem Qjk {x:Int} (ho:o+2<=L.length) (hn:2<=n) (hR:R (.tuple #[]) (wr H B e (Zt L o (leB x 2)))):FnS prog 401 #[bsl B o n c,.int .u16 x] H R:=by
 apply w401
 unfold tp358
 exact Qh9 hB ho hn hR
omit hB in
theorem Qp {w:World} {n:Nat}:(callFunc 74 #[.float .f32 n]).run prog w= .ok (.value (.int .u32 n)) w:=by
 simp only[callFunc,Sem.run_bind,run_program,Result.andThen_ok,Tryz.func74]
 rfl
omit hB in
theorem Qbl {w:World} {n:Nat}:(callFunc 76 #[.float .f64 n]).run prog w= .ok (.value (.int .u64 n)) w:=by
 simp only[callFunc,Sem.run_bind,run_program,Result.andThen_ok,Tryz.func76]
 rfl
theorem go_WriteFloat32 {x:Nat} (ho:o+4<=L.length) (hn:4<=n) (hR:R (.tuple #[]) (wr H B e (Zt L o (leB x 4)))):FnS prog 396 #[bsl B o n c,.float .f32 x] H R:=by
 apply w396
 unfold s396
 refine QL (fun w=>Qp) ?_
 exact QeK hB ho hn hR
theorem go_WriteFloat64 {x:Nat} (ho:o+8<=L.length) (hn:8<=n) (hR:R (.tuple #[]) (wr H B e (Zt L o (leB x 8)))):FnS prog 371 #[bsl B o n c,.float .f64 x] H R:=by
 apply w371
 unfold s371
 refine QL (fun w=>Qbl) ?_
 exact Qha hB ho hn hR
end
end Go.Proofs
