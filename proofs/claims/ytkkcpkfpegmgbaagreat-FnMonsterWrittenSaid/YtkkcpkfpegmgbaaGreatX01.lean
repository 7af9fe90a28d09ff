/- WHAT IS PROVED: the given statement of FnMonsterWritten, whatever the input: this is part 1 of 14. No conditions. -/
import Derived.Calls
import Derived.Orders
import Derived.Laws.Sem
import Derived.Laws.Externs
import Derived.Laws.BytesString
import Derived.Laws.Append
import Derived.Laws.MakeOwn
import Derived.KernelRfl
import Derived.Tactics
set_option linter.all false
namespace Go.Vc
open Go
abbrev Qe:=Array Obj
abbrev Kn:=Value->Qe->Prop
abbrev Fr:=List (Nat×Value)
def QaW (H:Qe) (a:Addr):Option Value:=
 match H[a.block]? with
 |some (.cells c _ _)=>if a.spot.isSome then none else c[a.off]?
 |_=>none
def frozenH (H:Qe) (a:Addr):Bool:=
 match H[a.block]? with
 |some (.cells _ _ (lo,hi))=>lo<=a.off&&a.off<hi
 |_=>false
def setH (H:Qe) (a:Addr) (v:Value):Qe:=
 H.modify a.block fun
  |.cells c elem frozen=>.cells (if a.spot.isSome then c else c.setIfInBounds a.off v) elem frozen
  |o=>o
theorem cell?_eq (w:World) (a:Addr):w.cell? a=QaW w.heap a:=rfl
theorem frozen?_eq (w:World) (a:Addr):w.frozen? a=frozenH w.heap a:=rfl
theorem Qj0 (w:World) (a:Addr) (v:Value):(w.setCell a v).heap=setH w.heap a v:=rfl
def Env (w w':World):Prop:=w'.tape=w.tape/\w'.os=w.os/\w'.output=w.output
theorem Env.refl (w:World):Env w w:=⟨rfl,rfl,rfl⟩
theorem Env.trans {a b c:World} (h:Env a b) (g:Env b c):Env a c:=⟨g.1.trans h.1,g.2.1.trans h.2.1,g.2.2.trans h.2.2⟩
theorem Env.heap (w:World) (H:Qe):Env w {w with heap:=H}:=⟨rfl,rfl,rfl⟩
theorem Env.drew (w:World) (n:Nat) (H:Qe):Env w {w with drawn:=n,heap:=H}:=⟨rfl,rfl,rfl⟩
def Qji (H H':Qe):Prop:=∀a v,QaW H a=some v->QaW H' a=some v
theorem Qji.refl (H:Qe):Qji H H:=fun _ _ h=>h
theorem Qji.trans {A B C:Qe} (h:Qji A B) (g:Qji B C):Qji A C:=fun a v x=>g a v (h a v x)
def FnS (P:Program) (f:FuncId) (args:Array Value) (H:Qe) (R:Value->Qe->Prop):Prop:=
 ∀w:World,w.heap=H->Calls P f args w fun e w'=>∃v,e= .returned v/\R v w'.heap/\Env w w'
def Q3 (x:Value) (k:Value->Prop):Prop:=
 match x with
 |.pointer (some a)=>k (.pointer (some a))
 |_=>False
def Qg (x:Value) (off:Nat) (k:Value->Prop):Prop:=
 match x with
 |.pointer (some a)=>k (.pointer (some (a.add off)))
 |_=>False
def LdK (H:Qe) (x:Value) (k:Value->Prop):Prop:=
 match x with
 |.pointer (some a)=>match QaW H a with
  |some v=>k v
  |none=>False
 |_=>False
def Zf (H:Qe) (a:Addr):Nat->Nat->Option (List Value)
 |_,0=>some []
 |i,n+1=>match QaW H (a.add i) with
  |some v=>match Zf H a (i+1) n with
   |some vs=>some (v::vs)
   |none=>none
  |none=>none
def LdN (H:Qe) (n:Nat) (x:Value) (k:Value->Prop):Prop:=
 match x with
 |.pointer (some a)=>match Zf H a 0 n with
  |some vs=>k (.agg vs.toArray)
  |none=>False
 |_=>False
def setN (H:Qe) (a:Addr):Nat->List Value->Option Qe
 |_,[]=>some H
 |i,v::vs=>if v.oneCell'=true/\(QaW H (a.add i)).isSome=true/\frozenH H (a.add i)=false then setN (setH H (a.add i) v) a (i+1) vs else none
def StK (H:Qe) (n:Nat) (x v:Value) (k:Qe->Prop):Prop:=
 match x with
 |.pointer (some a)=>v.cells.size=n/\∃H',setN H a 0 v.cells.toList=some H'/\k H'
 |_=>False
def Y5 (H:Qe) (o:Obj) (k:Value->Qe->Prop):Prop:=k (.pointer (some ⟨H.size,0,none⟩)) (H.push o)
def ZI (P:Program) (s:Sem Value) (k:Value->Prop):Prop:=∃v,(∀w,s.run P w= .ok v w)/\k v
def Qk (P:Program) (op:BinOp) (t:TypeId) (x y:Value) (k:Value->Prop):Prop:=
 ∃v,(∀(ox oy:Operand) (w:World),(do eqGuard op t ox oy x y;binOp op t x y:Sem Value).run P w= .ok v w)/\k v
def QK (dst:IntKind) (x:Value) (k:Value->Prop):Prop:=
 match x with
 |.int _ n=>k (.int dst (dst.wrap n))
 |_=>False
def Z2 (s:ByteArray):Array Value:=s.data.map fun b=>.int .u8 b.toNat
def S2BK (H:Qe) (elem:TypeId) (x:Value) (k:Value->Qe->Prop):Prop:=
 match x with
 |.string s=>∀cap,s.size<=cap->k (.slice (some ⟨H.size,0,none⟩) s.size cap)
   (H.push (.cells (Z2 s++Array.replicate (cap-s.size) (.int .u8 0)) elem (cap,cap+1)))
 |_=>False
def QiN (H:Qe) (x:Value) (k:Value->Prop):Prop:=
 match x with
 |.slice none _ _=>k (.string .empty)
 |.slice (some a) len _=>∃ns:List Int,Zf H a 0 len=some (ns.map (Value.int .u8))/\k (.string (ns.foldl (fun r n=>r.push (UInt8.ofNat n.toNat)) ByteArray.empty))
 |_=>False
def Qbm:Option Value->Nat->Option Int
 |none,d=>some d
 |some (.int _ n),_=>some n
 |_,_=>none
def Qey (es:Nat) (x:Value) (lo hi:Option Value) (k:Value->Prop):Prop:=
 match x with
 |.slice a len cap=>match Qbm lo 0,Qbm hi len with
  |some l,some h=>0<=l/\l<=h/\h<=cap/\k (.slice (if cap=l.toNat then a else a.map (·.add (l.toNat*es))) (h.toNat-l.toNat) (cap-l.toNat))
  |_,_=>False
 |_=>False
def StrSlcK (x:Value) (lo hi:Option Value) (k:Value->Prop):Prop:=
 match x with
 |.string s=>match Qbm lo 0,Qbm hi s.size with
  |some l,some h=>0<=l/\l<=h/\h<=s.size/\k (.string (s.extract l.toNat h.toNat))
  |_,_=>False
 |_=>False
def Y1 (es:Nat) (x i:Value) (k:Value->Prop):Prop:=
 match x,i with
 |.slice (some a) len _,.int _ i=>0<=i/\i<len/\k (.pointer (some (a.add (i.toNat*es))))
 |_,_=>False
def Yv (x:Value) (k:Value->Prop):Prop:=
 match x with
 |.slice _ n _=>k (.int .i64 n)
 |_=>False
def QeL (x:Value) (k:Value->Prop):Prop:=
 match x with
 |.string s=>k (.int .i64 s.size)
 |_=>False
def CapK (x:Value) (k:Value->Prop):Prop:=
 match x with
 |.slice _ _ n=>k (.int .i64 n)
 |_=>False
def QgT (x:Value) (i:Nat) (k:Value->Prop):Prop:=
 match x with
 |.tuple vs=>match vs[i]? with
  |some v=>k v
  |none=>False
 |_=>False
def Yd (c a b:Value) (k:Value->Prop):Prop:=
 match c with
 |.bool true=>k a
 |.bool false=>k b
 |_=>False
def YJ:List Value->List (Nat×Nat×Value)->Option (List Value)
 |cells,[]=>some cells
 |cells,(off,size,v)::rest=>
  if v.cells.size=size/\off+v.cells.size<=cells.length then YJ (cells.take off++v.cells.toList++cells.drop (off+v.cells.size)) rest else none
def Qz (zs:List Value) (parts:List (Nat×Nat×Value)) (k:Value->Prop):Prop:=
 match YJ zs parts with
 |some cs=>k (.agg cs.toArray)
 |none=>False
def Q8 (H:Qe) (et len:Nat) (zs:List Value) (parts:List (Nat×Nat×Value)) (k:Value->Qe->Prop):Prop:=
 match YJ zs parts with
 |some cs=>k (.slice (some ⟨H.size,0,none⟩) len len) (H.push (.cells cs.toArray et))
 |none=>False
def Qe3 (H:Qe) (et bts:Nat) (zs:Array Value) (len cap:Value) (k:Value->Qe->Prop):Prop:=
 match len,cap with
 |.int _ l,.int _ c=>0<=l/\l<=c/\(bts:Int)*c<=2^48/\c<2^63/\
   k (.slice (some ⟨H.size,0,none⟩) l.toNat c.toNat) (H.push (.cells ((Array.range (c.toNat*zs.size)).map (zs[·%zs.size]!)) et))
 |_,_=>False
def Qgs (H:Qe) (n:Nat):Value->Option (List Value)
 |.slice (some a) _ _=>Zf H a 0 n
 |.slice none _ _=>some []
 |_=>none
def Qbs (H:Qe) (et es bts:Nat) (zs:Array Value) (x y:Value) (k:Value->Qe->Prop):Prop:=
 match x,y with
 |.slice base n cap,.slice yb m yc=>
  (n+m<=cap->∃new,Qgs H (m*es) (.slice yb m yc)=some new/\
   match base with
   |some a=>∃H',setN H (a.add (n*es)) 0 new=some H'/\k (.slice base (n+m) cap) H'
   |none=>k (.slice none (n+m) cap) H)/\
  (cap<n+m->0<bts/\(n+m)*bts<=2^47/\∃old new,Qgs H (n*es) (.slice base n cap)=some old/\Qgs H (m*es) (.slice yb m yc)=some new/\
   ∀c,n+m<=c->c<2^63->k (.slice (some ⟨H.size,0,none⟩) (n+m) c) (H.push (.cells ((old++new).toArray++Builtin.zeroCells zs (c-(n+m))) et)))
 |_,_=>False
def AppZK (H:Qe) (et es bts:Nat) (zs:Array Value) (x y:Value) (k:Value->Qe->Prop):Prop:=
 match x,y with
 |.slice base n cap,.int _ m=>
  0<=m/\m*bts<=2^47/\0<bts/\
  (n+m.toNat<=cap->
   match base with
   |some a=>∃H',setN H (a.add (n*es)) 0 (Builtin.zeroCells zs m.toNat).toList=some H'/\k (.slice base (n+m.toNat) cap) H'
   |none=>k (.slice none (n+m.toNat) cap) H)/\
  (cap<n+m.toNat->(n+m.toNat)*bts<=2^47/\∃old,Qgs H (n*es) (.slice base n cap)=some old/\
   ∀c,n+m.toNat<=c->c<2^63->k (.slice (some ⟨H.size,0,none⟩) (n+m.toNat) c) (H.push (.cells ((old).toArray++Builtin.zeroCells zs m.toNat++Builtin.zeroCells zs (c-(n+m.toNat))) et)))
 |_,_=>False
def lenV:Value->Nat
 |.slice _ n _=>n
 |.string s=>s.size
 |_=>0
def QhN (H:Qe) (es n:Nat):Value->Option (List Value)
 |.slice (some a) _ _=>Zf H a 0 (n*es)
 |.slice none _ _=>some []
 |.string s=>some (Z2 (s.extract 0 n)).toList
 |_=>none
def Qh5 (H:Qe) (es:Nat) (x y:Value) (k:Value->Qe->Prop):Prop:=
 match x with
 |.slice base n _=>∃new,QhN H es (Nat.min (lenV y) n) y=some new/\
   match base with
   |some a=>∃H',setN H a 0 new=some H'/\k (.int .i64 (Nat.min (lenV y) n)) H'
   |none=>k (.int .i64 (Nat.min (lenV y) n)) H
 |_=>False
def Qa (P:Program) (f:FuncId) (args:Array Value) (H:Qe) (k:Value->Qe->Prop):Prop:=FnS P f args H k
def QaK (P:Program) (f:FuncId) (args:Array Value) (k:Value->Prop):Prop:=
 ∃v,(∀w,(callFunc f args).run P w= .ok (.value v) w)/\k v
def DynK (P:Program) (fv:Value) (args:Array Value) (H:Qe) (k:Value->Qe->Prop):Prop:=
 match fv with
 |.func (.func f) first captured=>(P.funcs[f]?).any (fun fn=>fn.body.isSome&&fn.name != "runtime.NumGoroutine")=true/\Qa P f (first++args++captured) H k
 |_=>False
def Qjf (t:TypeId) (ok:Bool) (z:Value) (x:Value) (k:Value->Prop):Prop:=
 match x with
 |.iface u v=>if u=t then k (if ok then .tuple #[v,.bool true] else v) else (ok=true/\k (.tuple #[z,.bool false]))
 |.nilIface=>ok=true/\k (.tuple #[z,.bool false])
 |_=>False
def QgF (g:Value) (want:Bool):Bool:=
 match g with
 |.bool b=>b==want
 |_=>false
structure Qc (g:Value) (want:Bool) (op:(Value->Qe->Prop)->Prop) (H:Qe) (k:Value->Qe->Prop):Prop where
 ok:if QgF g want=true then op k else k undef H
def IfK (c:Value) (t e:Prop):Prop:=
 match c with
 |.bool true=>t
 |.bool false=>e
 |_=>False
def Qi (H H':Qe) (k:Prop):Prop:=Qji H H'/\k
def QD (first:(List Value->Qe->Prop)->Prop) (rest:(List Value->Qe->Prop)->Prop):Prop:=
 ∃M:List Value->Qe->Prop,first M/\rest M
def Yu (vs:List Value) (H:Qe) (body:(Nat->List Value->Qe->Prop)->Nat->Prop):Prop:=
 ∃I:Nat->List Value->Qe->Prop,(∃n,I n vs H)/\∀n,body I n
def QS (I:Nat->List Value->Qe->Prop) (n:Nat) (vs:List Value) (H:Qe):Prop:=∃m,m<n/\I m vs H
def allV:Nat->(List Value->Prop)->Prop
 |0,p=>p []
 |n+1,p=>∀v,allV n fun vs=>p (v::vs)
end Go.Vc
namespace Go.Vc
open Go
def QdD:Fr->Nat->Option Value
 |[],_=>none
 |(t,v)::L,n=>cond (Nat.beq t n) (some v) (QdD L n)
def ev (L:Fr):Operand->Option Value
 |.tmp t=>QdD L t
 |.const v=>some v
 |.global g=>some (.pointer (some ⟨g,0,none⟩))
 |.func f=>some (.func (.func f) #[] #[])
def evK (L:Fr) (x:Operand) (k:Value->Prop):Prop:=
 match ev L x with
 |some v=>k v
 |none=>False
def evsK (L:Fr):List Operand->(List Value->Prop)->Prop
 |[],k=>k []
 |x::xs,k=>evK L x fun v=>evsK L xs fun vs=>k (v::vs)
def evoK (L:Fr):Option Operand->(Option Value->Prop)->Prop
 |none,k=>k none
 |some x,k=>evK L x fun v=>k (some v)
def evpK (L:Fr):List (Nat×Operand)->(List (Nat×Value)->Prop)->Prop
 |[],k=>k []
 |(i,x)::xs,k=>evK L x fun v=>evpK L xs fun vs=>k ((i,v)::vs)
def aggQ (P:Program) (t:TypeId):Option Bool:=
 match P.underlying t with
 |some (.struct _)=>some true
 |some (.array _ _)=>some true
 |some _=>some false
 |none=>none
def QeT (P:Program) (t:TypeId):Option Nat:=(P.info? t).map (·.size)
def Qjl (P:Program) (t:TypeId):Option Value:=(P.info? t).bind (·.zero)
def fieldQ (P:Program) (s:TypeId) (f:Nat):Option Nat:=
 match P.underlying s with
 |some (.struct fs)=>match fs[f]? with
  |some fd=>match QeT P fd.type with
   |some 0=>none
   |some _=>some fd.offset
   |none=>none
  |none=>none
 |_=>none
def placesQ (P:Program) (t:TypeId):Option (List (Nat×Nat)):=
 match P.underlying t with
 |some (.struct fs)=>fs.toList.mapM fun f=>(QeT P f.type).map fun s=>(f.offset,s)
 |_=>none
def atQ (places:List (Nat×Nat)):List (Nat×Value)->Option (List (Nat×Nat×Value))
 |[]=>some []
 |(i,v)::ps=>match places[i]? with
  |some (off,s)=>(atQ places ps).map ((off,s,v)::·)
  |none=>none
def YV (zs:List Value):Nat->List Value
 |0=>[]
 |n+1=>zs++YV zs n
def vop (P:Program) (cal:FuncId->Bool) (o:Oper) (L:Fr) (H:Qe) (K:Kn):Prop:=
 match o.op with
 |.move x=>evK L x fun v=>K v H
 |.assign x=>evK L x fun v=>K v H
 |.pick c a b=>evK L c fun c=>evK L a fun a=>evK L b fun b=>Yd c a b fun v=>K v H
 |.alloc t=>match Qjl P t with
  |some z=>Y5 H (.cells z.cells t) K
  |none=>False
 |.box t x=>evK L x fun v=>Y5 H (.cells v.cells t) K
 |.build t parts=>evpK L parts.toList fun ps=>match Qjl P t,placesQ P t with
  |some z,some places=>match atQ places ps with
   |some qs=>Qz z.cells.toList qs fun v=>K v H
   |none=>False
  |_,_=>False
 |.buildSlice t len parts=>evpK L parts.toList fun ps=>match P.underlying t with
  |some (.slice e)=>match Qjl P e,QeT P e with
   |some z,some s=>cond (Nat.beq z.cells.size s&&Nat.ble 1 (len*s)&&Nat.ble (len*s) 16777216)
     (Q8 H e len (YV z.cells.toList len) (ps.map fun p=>(p.1*s,s,p.2)) K) False
   |_,_=>False
  |_=>False
 |.load t x=>evK L x fun a=>match aggQ P t,QeT P t with
  |some true,some n=>LdN H n a fun v=>K v H
  |some false,_=>LdK H a fun v=>K v H
  |_,_=>False
 |.store t x y=>evK L x fun a=>evK L y fun v=>match QeT P t with
  |some n=>StK H n a v fun H'=>K undef H'
  |none=>False
 |.nilCheck x=>evK L x fun v=>Q3 v fun v=>K v H
 |.binOp op t x y _=>evK L x fun a=>evK L y fun b=>Qk P op t a b fun v=>K v H
 |.unOp op _ x=>evK L x fun a=>ZI P (Op.unary op a) fun v=>K v H
 |.convert s d x=>evK L x fun a=>match P.underlying s,P.underlying d with
  |some (.slice e),some .string=>match P.underlying e with
   |some (.int .u8)=>QiN H a fun v=>K v H
   |_=>False
  |some .string,some (.slice e)=>match P.underlying e with
   |some (.int .u8)=>S2BK H e a K
   |_=>False
  |some (.int _),some (.int k)=>QK k a fun v=>K v H
  |_,_=>False
 |.makeInterface t x=>evK L x fun a=>match P.underlying t with
  |some (.interface _)=>False
  |some _=>K (.iface t a) H
  |none=>False
 |.makeFunc fn first captured=>evsK L first.toList fun fs=>evsK L captured.toList fun cs=>K (.func fn fs.toArray cs.toArray) H
 |.makeSlice t l c=>evK L l fun l=>evK L c fun c=>match P.underlying t with
  |some (.slice e)=>match P.info? e with
   |some i=>match i.zero with
    |some z=>cond (Nat.beq z.cells.size i.size) (Qe3 H e i.bytes z.cells l c K) False
    |none=>False
   |none=>False
  |_=>False
 |.slice t x lo hi none=>evK L x fun a=>evoK L lo fun lo=>evoK L hi fun hi=>match P.underlying t with
  |some (.slice e)=>match QeT P e with
   |some s=>Qey s a lo hi fun v=>K v H
   |none=>False
  |some .string=>StrSlcK a lo hi fun v=>K v H
  |_=>False
 |.fieldAddr s x f=>evK L x fun a=>match fieldQ P s f with
  |some off=>Qg a off fun v=>K v H
  |none=>False
 |.indexAddr t x i=>evK L x fun a=>evK L i fun i=>match P.underlying t with
  |some (.slice e)=>match QeT P e with
   |some s=>Y1 s a i fun v=>K v H
   |none=>False
  |_=>False
 |.index t x i=>evK L x fun a=>evK L i fun i=>ZI P (Instr.index t a i) fun v=>K v H
 |.extract x i=>evK L x fun a=>QgT a i fun v=>K v H
 |.typeAssert x _ t ok=>evK L x fun a=>match P.underlying t,Qjl P t with
  |some (.pointer _),some z=>Qjf t ok z a fun v=>K v H
  |_,_=>False
 |.call c=>match c.callee with
  |.builtin b=>evsK L c.args.toList fun vs=>match b,vs with
   |.len,[x]=>match (c.argTypes[0]?).bind P.underlying with
    |some (.slice _)=>Yv x fun v=>K v H
    |some .string=>QeL x fun v=>K v H
    |_=>False
   |.cap,[x]=>match (c.argTypes[0]?).bind P.underlying with
    |some (.slice _)=>CapK x fun v=>K v H
    |_=>False
   |.append,[x,y]=>match (c.argTypes[0]?).bind P.underlying,(c.argTypes[1]?).bind P.underlying with
    |some (.slice e),some (.slice _)=>match P.info? e with
     |some i=>match i.zero with
      |some z=>cond (Nat.beq z.cells.size i.size) (Qbs H e i.size i.bytes z.cells x y K) False
      |none=>False
     |none=>False
    |some (.slice e),some (.int _)=>match P.info? e with
     |some i=>match i.zero with
      |some z=>cond (Nat.beq z.cells.size i.size) (AppZK H e i.size i.bytes z.cells x y K) False
      |none=>False
     |none=>False
    |_,_=>False
   |.copy,[x,y]=>match (c.argTypes[0]?).bind P.underlying with
    |some (.slice e)=>match QeT P e with
     |some s=>Qh5 H s x y K
     |none=>False
    |_=>False
   |_,_=>False
  |.value (.func f)=>evsK L c.args.toList fun vs=>cond (cal f) (Qa P f vs.toArray H K) (QaK P f vs.toArray fun v=>K v H)
  |.value x=>evK L x fun fv=>evsK L c.args.toList fun vs=>DynK P fv vs.toArray H K
  |.invoke _ _=>False
 |_=>False
def cls (P:Program) (cal:FuncId->Bool) (o:Oper):Nat:=
 match o.op with
 |.move _|.pick ..|.nilCheck _|.binOp ..|.unOp ..|.makeInterface ..|.makeFunc ..|.slice ..|.fieldAddr ..|.indexAddr ..|.index ..
 |.extract ..|.build ..|.typeAssert ..=>0
 |.load ..=>1
 |.convert s d _=>match P.underlying s,P.underlying d with
  |some (.slice _),_=>1
  |some .string,some (.slice _)=>2
  |_,_=>0
 |.call c=>match c.callee with
  |.builtin .len=>0
  |.builtin .cap=>0
  |.value (.func f)=>cond (cal f) 2 0
  |_=>2
 |_=>2
def CalOk (P:Program) (cal:FuncId->Bool):Prop:=∀f,cal f=true->∀args w,(callFunc f args).run P w= .ok (.enter f args) w
theorem QeH {L:Fr} {x:Operand} {k:Value->Prop}:evK L x k↔∃v,ev L x=some v/\k v:=by
 unfold evK
 cases ev L x<;>simp
def EvAll (L:Fr):List Operand->List Value->Prop
 |[],[]=>True
 |x::xs,v::vs=>ev L x=some v/\EvAll L xs vs
 |_,_=>False
theorem QeB {L:Fr}:∀{xs:List Operand} {k:List Value->Prop},evsK L xs k↔∃vs,EvAll L xs vs/\k vs
 |[],k=>by
  simp only[evsK]
  constructor
  ·intro h;exact ⟨[],trivial,h⟩
  ·rintro ⟨vs,h,hk⟩
   cases vs with
   |nil=>exact hk
   |cons v vs=>exact h.elim
 |x::xs,k=>by
  simp only[evsK,QeH,QeB (xs:=xs)]
  constructor
  ·rintro ⟨v,hv,vs,hvs,hk⟩;exact ⟨v::vs,⟨hv,hvs⟩,hk⟩
  ·rintro ⟨vs,h,hk⟩
   cases vs with
   |nil=>exact h.elim
   |cons v vs=>exact ⟨v,h.1,vs,h.2,hk⟩
theorem EvAll.map {L:Fr} {ρ:Operand->Value}:∀{xs:List Operand} {vs:List Value},EvAll L xs vs->(∀x∈xs,∀v,ev L x=some v->ρ x=v)->xs.map ρ=vs
 |[],[],_,_=>rfl
 |x::xs,v::vs,h,hρ=>by
  rw[List.map_cons,hρ x (by simp) v h.1,EvAll.map h.2 fun y hy=>hρ y (by simp[hy])]
 |[],_::_,h,_=>h.elim
 |_::_,[],h,_=>h.elim
def EvPs (L:Fr):List (Nat×Operand)->List (Nat×Value)->Prop
 |[],[]=>True
 |(i,x)::xs,(j,v)::vs=>i=j/\ev L x=some v/\EvPs L xs vs
 |_,_=>False
theorem evpK_iff {L:Fr}:∀{xs:List (Nat×Operand)} {k:List (Nat×Value)->Prop},evpK L xs k↔∃vs,EvPs L xs vs/\k vs
 |[],k=>by
  simp only[evpK]
  constructor
  ·intro h;exact ⟨[],trivial,h⟩
  ·rintro ⟨vs,h,hk⟩
   cases vs with
   |nil=>exact hk
   |cons v vs=>exact h.elim
 |(i,x)::xs,k=>by
  simp only[evpK,QeH,evpK_iff (xs:=xs)]
  constructor
  ·rintro ⟨v,hv,vs,hvs,hk⟩;exact ⟨(i,v)::vs,⟨rfl,hv,hvs⟩,hk⟩
  ·rintro ⟨vs,h,hk⟩
   cases vs with
   |nil=>exact h.elim
   |cons v vs=>
    obtain ⟨j,v⟩:=v
    obtain ⟨rfl,h1,h2⟩:=h
    exact ⟨v,h1,vs,h2,hk⟩
theorem EvPs.map {L:Fr} {ρ:Operand->Value}:∀{xs:List (Nat×Operand)} {vs:List (Nat×Value)},EvPs L xs vs->(∀p∈xs,∀v,ev L p.2=some v->ρ p.2=v)->
  xs.map (fun p=>(p.1,ρ p.2))=vs
 |[],[],_,_=>rfl
 |(i,x)::xs,(j,v)::vs,h,hρ=>by
  obtain ⟨rfl,h1,h2⟩:=h
  rw[List.map_cons,hρ (i,x) (by simp) v h1,EvPs.map h2 fun y hy=>hρ y (by simp[hy])]
 |[],_::_,h,_=>h.elim
 |_::_,[],h,_=>h.elim
section runs
variable {P:Program} {w:World}
theorem Qfi {a:Addr} {v:Value} (h:QaW w.heap a=some v):(load a).run P w= .ok v w:=by
 rw[run_load,cell?_eq,h]
theorem Qhz {H H':Qe} (hx:Qji H H') {a:Addr}:∀{n i:Nat} {vs:List Value},Zf H a i n=some vs->Zf H' a i n=some vs
 |0,_,_,h=>h
 |n+1,i,vs,h=>by
  unfold Zf at h⊢
  cases hc:QaW H (a.add i) with
  |none=>simp[hc]at h
  |some v=>
   simp only[hc]at h
   rw[hx _ _ hc]
   cases hr:Zf H a (i+1) n with
   |none=>simp[hr]at h
   |some us=>
    simp only[hr]at h
    simp only[Qhz hx hr]
    exact h
theorem QeU {a:Addr}:∀{n i:Nat} {vs:List Value} {acc:Array Value},Zf w.heap a i n=some vs->
  (loadCellsFrom a i n acc).run P w= .ok (acc++vs.toArray) w
 |0,i,vs,acc,h=>by
  simp only[Zf,Option.some.injEq]at h
  subst h
  simp[loadCellsFrom]
 |n+1,i,vs,acc,h=>by
  unfold Zf at h
  cases hc:QaW w.heap (a.add i) with
  |none=>simp[hc]at h
  |some v=>
   simp only[hc]at h
   cases hr:Zf w.heap a (i+1) n with
   |none=>simp[hr]at h
   |some us=>
    simp only[hr,Option.some.injEq]at h
    subst h
    simp only[loadCellsFrom,Sem.run_bind,Qfi hc,Result.andThen_ok,QeU hr]
    simp
theorem QcK {a:Addr} {n:Nat} {vs:List Value} (h:Zf w.heap a 0 n=some vs):(loadCells a n).run P w= .ok vs.toArray w:=by
 unfold loadCells
 rw[QeU h];simp
theorem QbY {a:Addr}:∀{vs:List Value} {i:Nat} {w:World} {H':Qe},setN w.heap a i vs=some H'->
  (storeCells a vs i).run P w= .ok () {w with heap:=H'}
 |[],i,w,H',h=>by
  simp only[setN,Option.some.injEq]at h
  subst h
  simp[storeCells]
 |v::vs,i,w,H',h=>by
  unfold setN at h
  split at h
  ·rename_i hc
   obtain ⟨h1,h2,h3⟩:=hc
   obtain ⟨u,hu⟩:=Option.isSome_iff_exists.1 h2
   have:(store (a.add i) v).run P w= .ok () (w.setCell (a.add i) v):=by
    rw[run_store P w _ _ _ h1,cell?_eq,hu,frozen?_eq,h3];simp
   simp only[storeCells,Sem.run_bind,this,Result.andThen_ok]
   rw[QbY (w:=w.setCell (a.add i) v) (H':=H') (by rw[Qj0];exact h)]
   rfl
  ·cases h
theorem Q1 {t:TypeId} {d:TypeDesc} (h:P.underlying t=some d):(underlying t).run P w= .ok d w:=by
 simp[underlying,h]
theorem QdL {t:TypeId} {i:TypeInfo} (h:P.info? t=some i):(typeInfo t).run P w= .ok i w:=by
 simp[typeInfo,h]
theorem YZ {t:TypeId} {n:Nat} (h:QeT P t=some n):(sizeOf t).run P w= .ok n w:=by
 unfold QeT at h
 obtain ⟨i,hi,rfl⟩:=Option.map_eq_some_iff.1 h
 simp[sizeOf,QdL hi]
theorem ZX {t:TypeId} {z:Value} (h:Qjl P t=some z):(zeroValue t).run P w= .ok z w:=by
 unfold Qjl at h
 obtain ⟨i,hi,hz⟩:=Option.bind_eq_some_iff.1 h
 simp[zeroValue,QdL hi,hz]
theorem QgO {t:TypeId} {b:Bool} (h:aggQ P t=some b):(isAgg t).run P w= .ok b w:=by
 unfold aggQ at h
 cases hd:P.underlying t with
 |none=>simp[hd]at h
 |some d=>
  simp only[hd]at h
  cases d<;>simp_all[isAgg,Q1 hd]
end runs
end Go.Vc
namespace Go.Vc
open Go
def Agree (L:Fr) (o:Oper) (a:Act):Prop:=∀x∈o.op.operands,∀v,ev L x=some v->a.eval x=v
theorem forIn_bytes {P:Program} {w:World} {a:Addr} {len cap:Nat} {ns:List Int} (h:Zf w.heap a 0 len=some (ns.map (Value.int .u8))):
  (Conv.bytesToString (.slice (some a) len cap)).run P w= .ok (.string (ns.foldl (fun r n=>r.push (UInt8.ofNat n.toNat)) ByteArray.empty)) w:=
 run_bytesToString w a len cap ns (QcK h)
section
variable {P:Program} {w:World}
theorem run_build {t:TypeId} {z:Value} {fs:Array Field} {places:List (Nat×Nat)} {ps:List (Nat×Value)} {qs:List (Nat×Nat×Value)} {cs:List Value}
  (hz:Qjl P t=some z) (ht:P.underlying t=some (.struct fs)) (hp:placesQ P t=some places) (hq:atQ places ps=some qs) (hf:YJ z.cells.toList qs=some cs):
  (Instr.build t ps.toArray).run P w= .ok (.agg cs.toArray) w:=by
 have key:∀(ps:List (Nat×Value)) (qs:List (Nat×Nat×Value)) (zs cs:List Value),atQ places ps=some qs->YJ zs qs=some cs->
   Instr.fill (places.toArray[·]?) zs.toArray ps=some cs.toArray:=by
  intro ps
  induction ps with
  |nil=>
   intro qs zs cs hq hf
   simp only[atQ,Option.some.injEq]at hq;subst hq
   simp only[YJ,Option.some.injEq]at hf;subst hf
   rfl
  |cons p ps ih=>
   intro qs zs cs hq hf
   obtain ⟨i,v⟩:=p
   unfold atQ at hq
   cases hpl:places[i]? with
   |none=>simp[hpl]at hq
   |some os=>
    obtain ⟨off,s⟩:=os
    simp only[hpl]at hq
    obtain ⟨qs',hqs',rfl⟩:=Option.map_eq_some_iff.1 hq
    unfold YJ at hf
    split at hf
    ·rename_i hc
     obtain ⟨hc1,hc2⟩:=hc
     have hpl':places.toArray[i]?=some (off,s):=by simpa using hpl
     have e:(v.cells.zipIdx.foldl (fun cs (c,j)=>cs.setIfInBounds (off+j) c) zs.toArray)=(zs.take off++v.cells.toList++zs.drop (off+v.cells.size)).toArray:=by
      have gen:∀(l:List Value) (j:Nat) (zs:List Value),off+j+l.length<=zs.length->
        ((l.zipIdx j).foldl (fun (cs:Array Value) (c,j)=>cs.setIfInBounds (off+j) c) zs.toArray)=(zs.take (off+j)++l++zs.drop (off+j+l.length)).toArray:=by
       intro l
       induction l with
       |nil=>intro j zs _;simp
       |cons c l ihl=>
        intro j zs hl
        simp only[List.length_cons]at hl
        simp only[List.zipIdx_cons,List.foldl_cons]
        have hset:zs.toArray.setIfInBounds (off+j) c=(zs.set (off+j) c).toArray:=by simp
        rw[hset,ihl (j+1) (zs.set (off+j) c) (by simp;omega)]
        congr 1
        apply List.ext_getElem
        ·simp;omega
        ·intro n h1 h2
         simp only[List.getElem_append,List.length_take,List.length_set,List.length_append,List.length_cons,List.getElem_take,List.getElem_set,List.getElem_drop,List.getElem_cons]
         simp at h1 h2
         repeat' split
         all_goals first
          |rfl
          |(exfalso;omega)
          |(congr 1;omega)
          |skip
      have:=gen v.cells.toList 0 zs (by simpa using hc2)
      rw[<-Array.foldl_toList]
      simpa using this
     unfold Instr.fill
     simp only[hpl']
     have h2:¬(off+v.cells.size>zs.toArray.size):=by simpa using hc2
     rw[if_neg (by simp[hc1];simpa [hc1]using hc2)]
     exact (congrArg (fun z=>Instr.fill (places.toArray[·]?) z ps) e).trans (ih qs' _ cs hqs' hf)
    ·cases hf
 unfold placesQ at hp
 simp only[ht]at hp
 have hm:∀(l:List Field) (places:List (Nat×Nat)),l.mapM (fun f=>(QeT P f.type).map fun s=>(f.offset,s))=some places->
   (l.mapM (fun f:Field=>(do pure (f.offset,<-sizeOf f.type):Sem (Nat×Nat)))).run P w= .ok places w:=by
  intro l
  induction l with
  |nil=>intro places h;simp at h;subst h;simp
  |cons f l ih=>
   intro places h
   simp only[List.mapM_cons]at h
   cases hs:QeT P f.type with
   |none=>simp[hs]at h
   |some s=>
    cases hr:l.mapM (fun f=>(QeT P f.type).map fun s=>(f.offset,s)) with
    |none=>simp[hs,hr]at h
    |some r=>
     simp[hs,hr]at h
     subst h
     simp only[List.mapM_cons,Sem.run_bind,YZ hs,Result.andThen_ok,Sem.run_pure,ih r hr]
 have hk:=key ps qs z.cells.toList cs hq hf
 unfold Instr.build
 simp only[Sem.run_bind,ZX hz,Result.andThen_ok,Q1 ht]
 rw[Array.mapM_eq_mapM_toList]
 simp only[Sem.run_map,hm _ _ hp,Result.andThen_ok]
 simp only[Array.toArray_toList,List.getElem?_toArray]at hk
 simp[hk]
theorem Qdk {x:Int} {y:Nat} {k:IntKind} {c:BoundsCode} (h0:0<=x) (h1:x<=y):(Instr.sliceBound (.int k x) y c).run P w= .ok x.toNat w:=by
 simp[Instr.sliceBound,asIntOf,h0,h1]
theorem Qg5 {d:Nat} {l:Int} (h:Qbm none d=some l):l=d:=by simpa [Qbm]using h.symm
theorem Qgh {v:Value} {d:Nat} {l:Int} (h:Qbm (some v) d=some l):∃k,v= .int k l:=by
 cases v<;>simp[Qbm]at h
 exact ⟨_,by rw[h]⟩
theorem Qgk {b:Bool} {len cap:Nat} {lo hi:Option Value} {l h:Int} (hl:Qbm lo 0=some l) (hh:Qbm hi len=some h) (h0:0<=l) (h1:l<=h) (h2:h<=cap):
  (Instr.sliceBounds b len cap lo hi none).run P w= .ok (l.toNat,h.toNat,cap) w:=by
 have g0:0<=h:=by omega
 have g1:l<=(h.toNat:Int):=by omega
 unfold Instr.sliceBounds
 cases lo with
 |none=>
  have:=Qg5 hl;subst this
  cases hi with
  |none=>
   have:=Qg5 hh;subst this
   simp
  |some v=>
   obtain ⟨k,rfl⟩:=Qgh hh
   simp[Qdk g0 h2]
 |some u=>
  obtain ⟨j,rfl⟩:=Qgh hl
  cases hi with
  |none=>
   have:=Qg5 hh;subst this
   simp only[Int.toNat_natCast]at g1
   simp[Qdk h0 g1]
  |some v=>
   obtain ⟨k,rfl⟩:=Qgh hh
   simp[Qdk g0 h2,Qdk h0 g1]
end
end Go.Vc
namespace Go.Vc
open Go
theorem slice_noRun {P:Program} {w:World} {t e:TypeId} {n:Nat} {a:Option Addr} {len cap:Nat} {lo hi:Option Value} {l h:Int}
  (ht:P.underlying t=some (.slice e)) (hs:QeT P e=some n) (hl:Qbm lo 0=some l) (hh:Qbm hi len=some h) (h0:0<=l) (h1:l<=h) (h2:h<=cap):
  (Instr.sliceAt t (.slice a len cap) lo hi none).run P w=
   .ok (.slice (if cap=l.toNat then a else a.map (·.add (l.toNat*n))) (h.toNat-l.toNat) (cap-l.toNat)) w:=by
 simp[Instr.sliceAt,Instr.slice,Q1 ht,Qgk hl hh h0 h1 h2,YZ hs]
theorem slice_strRun {P:Program} {w:World} {t:TypeId} {s:ByteArray} {lo hi:Option Value} {l h:Int}
  (ht:P.underlying t=some .string) (hl:Qbm lo 0=some l) (hh:Qbm hi s.size=some h) (h0:0<=l) (h1:l<=h) (h2:h<=s.size):
  (Instr.sliceAt t (.string s) lo hi none).run P w= .ok (.string (s.extract l.toNat h.toNat)) w:=by
 simp[Instr.sliceAt,Instr.slice,Q1 ht,Qgk hl hh h0 h1 h2]
theorem evoK_iff {L:Fr} {x:Option Operand} {k:Option Value->Prop}:evoK L x k↔∃v:Option Value,(match x,v with|none,none=>True|some x,some v=>ev L x=some v|_,_=>False)/\k v:=by
 cases x with
 |none=>
  simp only[evoK]
  constructor
  ·intro h;exact ⟨none,trivial,h⟩
  ·rintro ⟨v,h,hk⟩;cases v<;>simp_all
 |some x=>
  simp only[evoK,QeH]
  constructor
  ·rintro ⟨v,hv,hk⟩;exact ⟨some v,hv,hk⟩
  ·rintro ⟨v,h,hk⟩
   cases v with
   |none=>exact h.elim
   |some v=>exact ⟨v,h,hk⟩
theorem QgL {L:Fr} {ρ:Operand->Value} {x:Option Operand} {v:Option Value}
  (h:(match x,v with|none,none=>True|some x,some v=>ev L x=some v|_,_=>False)) (hρ:∀y,x=some y->∀v,ev L y=some v->ρ y=v):x.map ρ=v:=by
 cases x<;>cases v<;>simp_all
theorem vop_reader {P:Program} {cal:FuncId->Bool} {o:Oper} {L:Fr} {H:Qe} {K:Kn} (hc:cls P cal o≠2) (h:vop P cal o L H K):
  ∃v,K v H/\∀(a:Act) (w:World),Agree L o a->(cls P cal o=0\/Qji H w.heap)->(execOp a.eval o).run P w= .ok (.value v) w:=by
 obtain ⟨dst,op,type,pos,after,guard⟩:=o
 unfold Agree
 cases op<;>simp only[cls,ne_eq,not_true_eq_false]at hc<;>simp only[vop,QeH,evpK_iff,QeB,evoK_iff]at h
 case move x=>
  obtain ⟨v,hv,hk⟩:=h
  refine ⟨v,hk,fun a w hag _=>?_⟩
  simp only[execOp,Sem.run_pure]
  rw[hag x (by simp[Op.operands]) v hv]
 case pick c x y=>
  obtain ⟨c',hc',x',hx',y',hy',hk⟩:=h
  unfold Yd at hk
  split at hk
  ·refine ⟨x',hk,fun a w hag _=>?_⟩
   simp only[execOp]
   rw[hag c (by simp[Op.operands]) _ hc',hag x (by simp[Op.operands]) _ hx']
   simp[asBool]
  ·refine ⟨y',hk,fun a w hag _=>?_⟩
   simp only[execOp]
   rw[hag c (by simp[Op.operands]) _ hc',hag y (by simp[Op.operands]) _ hy']
   simp[asBool]
  ·exact hk.elim
 case build t parts=>
  obtain ⟨ps,hps,h⟩:=h
  split at h
  ·rename_i z places hz hp
   split at h
   ·rename_i qs hq
    unfold Qz at h
    split at h
    ·rename_i cs hf
     refine ⟨_,h,fun a w hag _=>?_⟩
     have hm:parts.map (fun p=>(p.1,a.eval p.2))=ps.toArray:=by
      have:=hps.map (ρ:=a.eval) fun p hp v hv=>hag p.2 (by simp only[Op.operands];simp;exact ⟨p.1,by simpa using hp⟩) v hv
      rw[<-this];apply Array.ext';simp
     simp only[execOp]
     have hm':(parts.map fun x=>match x with|(i,x)=>(i,a.eval x))=ps.toArray:=hm
     rw[hm']
     have hst:∃fs,P.underlying t=some (.struct fs):=by
      unfold placesQ at hp
      split at hp
      ·rename_i fs hfs;exact ⟨fs,hfs⟩
      ·cases hp
     obtain ⟨fs,hfs⟩:=hst
     simp[run_build hz hfs hp hq hf]
    ·exact h.elim
   ·exact h.elim
  ·exact h.elim
 case load t x=>
  obtain ⟨v,hv,h⟩:=h
  split at h
  ·rename_i n ha hs
   unfold LdN at h
   split at h
   ·rename_i ad
    split at h
    ·rename_i vs hvs
     refine ⟨_,h,fun a w hag hx=>?_⟩
     simp only[execOp]
     rw[hag x (by simp[Op.operands]) _ hv]
     have hx':=hx.resolve_left (by simp[cls])
     simp[Instr.loadAt,Instr.sureAddr,loadVar,QgO ha,YZ hs,QcK (Qhz hx' hvs)]
    ·exact h.elim
   ·exact h.elim
  ·rename_i ha
   unfold LdK at h
   split at h
   ·rename_i ad
    split at h
    ·rename_i u hu
     refine ⟨_,h,fun a w hag hx=>?_⟩
     simp only[execOp]
     rw[hag x (by simp[Op.operands]) _ hv]
     have hx':=hx.resolve_left (by simp[cls])
     have hl:=Qfi (P:=P) (hx' _ _ hu)
     simp only[Instr.loadAt,Instr.sureAddr,loadVar,Sem.run_bind,Sem.run_pure,Result.andThen_ok,QgO ha,Bool.false_eq_true,if_false]
     rw[hl];rfl
    ·exact h.elim
   ·exact h.elim
  ·exact h.elim
 case nilCheck x=>
  obtain ⟨v,hv,h⟩:=h
  unfold Q3 at h
  split at h
  ·refine ⟨_,h,fun a w hag _=>?_⟩
   simp only[execOp]
   rw[hag x (by simp[Op.operands]) _ hv]
   rfl
  ·exact h.elim
 case binOp op t x y yt=>
  obtain ⟨u,hu,v,hv,r,hr,hk⟩:=h
  refine ⟨r,hk,fun a w hag _=>?_⟩
  simp only[execOp]
  rw[hag x (by simp[Op.operands]) _ hu,hag y (by simp[Op.operands]) _ hv]
  have:=hr x y w
  simp only[Sem.run_bind]at this⊢
  rw[this];rfl
 case unOp op t x=>
  obtain ⟨u,hu,r,hr,hk⟩:=h
  refine ⟨r,hk,fun a w hag _=>?_⟩
  simp only[execOp]
  rw[hag x (by simp[Op.operands]) _ hu]
  simp[hr]
 case convert s d x=>
  obtain ⟨u,hu,h⟩:=h
  split at h
  ·rename_i e hs hd
   split at h
   ·rename_i he
    unfold QiN at h
    split at h
    ·refine ⟨_,h,fun a w hag _=>?_⟩
     simp only[execOp]
     rw[hag x (by simp[Op.operands]) _ hu]
     simp[convert,Q1 hs,Q1 hd,Q1 he,Conv.bytesToString]
    ·obtain ⟨ns,hns,hk⟩:=h
     refine ⟨_,hk,fun a w hag hx=>?_⟩
     simp only[execOp]
     rw[hag x (by simp[Op.operands]) _ hu]
     have hx':=hx.resolve_left (by simp[cls,hs,hd])
     rename_i ad len cap
     have:=forIn_bytes (P:=P) (cap:=cap) (Qhz hx' hns)
     simp only[convert,Sem.run_bind,Q1 hs,Q1 hd,Q1 he,Result.andThen_ok,this,Sem.run_pure]
    ·exact h.elim
   ·exact h.elim
  ·rename_i e hs hd
   simp[hs,hd]at hc
  ·rename_i k1 k2 hs hd
   unfold QK at h
   split at h
   ·refine ⟨_,h,fun a w hag _=>?_⟩
    simp only[execOp]
    rw[hag x (by simp[Op.operands]) _ hu]
    simp[convert,Q1 hs,Q1 hd,Conv.intToInt]
   ·exact h.elim
  ·exact h.elim
 case makeInterface t x=>
  obtain ⟨u,hu,h⟩:=h
  split at h
  ·exact h.elim
  ·rename_i d hne hd
   refine ⟨_,h,fun a w hag _=>?_⟩
   simp only[execOp]
   rw[hag x (by simp[Op.operands]) _ hu]
   simp only[Instr.makeInterface,Sem.run_bind,Q1 hd,Result.andThen_ok]
   cases d<;>simp_all
  ·exact h.elim
 case makeFunc fn first captured=>
  obtain ⟨fs,hfs,cs,hcs,hk⟩:=h
  refine ⟨_,hk,fun a w hag _=>?_⟩
  simp only[execOp]
  have h1:first.map a.eval=fs.toArray:=by
   have:=hfs.map (ρ:=a.eval) fun x hx v hv=>hag x (by simp only[Op.operands];simp;exact .inl (by simpa using hx)) v hv
   rw[<-this];apply Array.ext';simp
  have h2:captured.map a.eval=cs.toArray:=by
   have:=hcs.map (ρ:=a.eval) fun x hx v hv=>hag x (by simp only[Op.operands];simp;exact .inr (by simpa using hx)) v hv
   rw[<-this];apply Array.ext';simp
  simp[h1,h2,Instr.makeFunc]
 case slice t x lo hi mx=>
  cases mx with
  |some _=>exact h.elim
  |none=>
   simp only[QeH,evoK_iff]at h
   obtain ⟨u,hu,lo',hlo,hi',hhi,h⟩:=h
   split at h
   ·rename_i e ht
    split at h
    ·rename_i n hs
     unfold Qey at h
     split at h
     ·split at h
      ·rename_i l hh hl1 hh1
       obtain ⟨h0,h1,h2,hk⟩:=h
       refine ⟨_,hk,fun a w hag _=>?_⟩
       simp only[execOp]
       rw[hag x (by simp[Op.operands]) _ hu,QgL hlo fun y hy=>hag y (by subst hy;simp[Op.operands]),QgL hhi fun y hy=>hag y (by subst hy;simp[Op.operands])]
       simp[slice_noRun ht hs hl1 hh1 h0 h1 h2]
      ·exact h.elim
     ·exact h.elim
    ·exact h.elim
   ·rename_i ht
    unfold StrSlcK at h
    split at h
    ·split at h
     ·rename_i l hh hl1 hh1
      obtain ⟨h0,h1,h2,hk⟩:=h
      refine ⟨_,hk,fun a w hag _=>?_⟩
      simp only[execOp]
      rw[hag x (by simp[Op.operands]) _ hu,QgL hlo fun y hy=>hag y (by subst hy;simp[Op.operands]),QgL hhi fun y hy=>hag y (by subst hy;simp[Op.operands])]
      simp[slice_strRun ht hl1 hh1 h0 h1 h2]
     ·exact h.elim
    ·exact h.elim
   ·exact h.elim
 case fieldAddr s x f=>
  obtain ⟨u,hu,h⟩:=h
  split at h
  ·rename_i off hf
   unfold Qg at h
   split at h
   ·rename_i ad
    refine ⟨_,h,fun a w hag _=>?_⟩
    simp only[execOp]
    rw[hag x (by simp[Op.operands]) _ hu]
    unfold fieldQ at hf
    split at hf
    ·rename_i fs hfs
     split at hf
     ·rename_i fd hfd
      split at hf
      ·cases hf
      ·rename_i n hne hn
       simp only[Option.some.injEq]at hf
       subst hf
       have hn0:n≠0:=fun e=>by subst e;exact hne rfl
       simp[Instr.fieldAt,Q1 hfs,hfd,Instr.sureAddr,fieldPlace,YZ hn,hn0]
      ·cases hf
     ·cases hf
    ·cases hf
   ·exact h.elim
  ·exact h.elim
 case indexAddr t x i=>
  obtain ⟨u,hu,j,hj,h⟩:=h
  split at h
  ·rename_i e ht
   split at h
   ·rename_i n hs
    unfold Y1 at h
    split at h
    ·obtain ⟨h0,h1,hk⟩:=h
     refine ⟨_,hk,fun a w hag _=>?_⟩
     simp only[execOp]
     rw[hag x (by simp[Op.operands]) _ hu,hag i (by simp[Op.operands]) _ hj]
     simp[Instr.indexAt,asIntOf,Q1 ht,h0,h1,YZ hs]
    ·exact h.elim
   ·exact h.elim
  ·exact h.elim
 case index t x i=>
  obtain ⟨u,hu,j,hj,r,hr,hk⟩:=h
  refine ⟨r,hk,fun a w hag _=>?_⟩
  simp only[execOp]
  rw[hag x (by simp[Op.operands]) _ hu,hag i (by simp[Op.operands]) _ hj]
  simp[hr]
 case extract x i=>
  obtain ⟨u,hu,h⟩:=h
  unfold QgT at h
  split at h
  ·split at h
   ·rename_i vs v hv
    refine ⟨v,h,fun a w hag _=>?_⟩
    simp only[execOp]
    rw[hag x (by simp[Op.operands]) _ hu]
    simp[Instr.extract,hv]
   ·exact h.elim
  ·exact h.elim
 case typeAssert x xt t ok=>
  obtain ⟨u,hu,h⟩:=h
  split at h
  ·rename_i e z ht hz
   unfold Qjf at h
   split at h
   ·split at h
    ·rename_i t' v heq
     subst heq
     refine ⟨_,h,fun a w hag _=>?_⟩
     simp only[execOp]
     rw[hag x (by simp[Op.operands]) _ hu]
     simp[Instr.typeAssert,Q1 ht]
    ·rename_i t' v hne
     obtain ⟨rfl,hk⟩:=h
     refine ⟨_,hk,fun a w hag _=>?_⟩
     simp only[execOp]
     rw[hag x (by simp[Op.operands]) _ hu]
     simp[Instr.typeAssert,Q1 ht,hne,ZX hz]
   ·obtain ⟨rfl,hk⟩:=h
    refine ⟨_,hk,fun a w hag _=>?_⟩
    simp only[execOp]
    rw[hag x (by simp[Op.operands]) _ hu]
    simp[Instr.typeAssert,Q1 ht,ZX hz]
   ·exact h.elim
  ·exact h.elim
 case call c=>
  obtain ⟨callee,args,argTypes⟩:=c
  have hops:∀x∈args,x∈(Op.call {callee,args,argTypes}).operands:=fun x hx=>by simp[Op.operands,Call.operands,hx]
  cases callee with
  |invoke r m=>exact h.elim
  |builtin b=>
   simp only[QeB]at h
   obtain ⟨vs,hvs,h⟩:=h
   have hm:∀a:Act,(∀x∈(Op.call {callee:=.builtin b,args,argTypes}).operands,∀v,ev L x=some v->a.eval x=v)->args.map a.eval=vs.toArray:=fun a hag=>by
    have:=hvs.map (ρ:=a.eval) fun x hx v hv=>hag x (hops x (by simpa using hx)) v hv
    rw[<-this];apply Array.ext';simp
   cases b<;>simp only[not_true_eq_false]at hc
   case len=>
    match vs,h with
    |[x],h=>
     simp only at h
     split at h
     ·rename_i e ht
      obtain ⟨t0,ht0,ht1⟩:=Option.bind_eq_some_iff.1 ht
      unfold Yv at h
      split at h
      ·refine ⟨_,h,fun a w hag _=>?_⟩
       simp[execOp,resolve,hm a hag,invoke,builtin,Builtin.len_,ht0,Q1 ht1,goInt]
      ·exact h.elim
     ·rename_i ht
      obtain ⟨t0,ht0,ht1⟩:=Option.bind_eq_some_iff.1 ht
      unfold QeL at h
      split at h
      ·refine ⟨_,h,fun a w hag _=>?_⟩
       simp[execOp,resolve,hm a hag,invoke,builtin,Builtin.len_,ht0,Q1 ht1,goInt]
      ·exact h.elim
     ·exact h.elim
   case cap=>
    match vs,h with
    |[x],h=>
     simp only at h
     split at h
     ·rename_i e ht
      obtain ⟨t0,ht0,ht1⟩:=Option.bind_eq_some_iff.1 ht
      unfold CapK at h
      split at h
      ·refine ⟨_,h,fun a w hag _=>?_⟩
       simp[execOp,resolve,hm a hag,invoke,builtin,Builtin.cap_,ht0,Q1 ht1,goInt]
      ·exact h.elim
     ·exact h.elim
  |value x=>
   cases x with
   |func f=>
    simp only[QeB]at h
    obtain ⟨vs,hvs,h⟩:=h
    have hm:∀a:Act,(∀x∈(Op.call {callee:=.value (.func f),args,argTypes}).operands,∀v,ev L x=some v->a.eval x=v)->args.map a.eval=vs.toArray:=fun a hag=>by
     have:=hvs.map (ρ:=a.eval) fun x hx v hv=>hag x (hops x (by simpa using hx)) v hv
     rw[<-this];apply Array.ext';simp
    cases hcal:cal f with
    |true=>simp[hcal]at hc
    |false=>
     simp only[hcal,cond_false]at h
     obtain ⟨r,hr,hk⟩:=h
     refine ⟨r,hk,fun a w hag _=>?_⟩
     simp[execOp,resolve,hm a hag,Act.eval,Deferred.ofValue,invoke,hr]
   |tmp t=>simp at hc
   |const v=>simp at hc
   |global g=>simp at hc
end Go.Vc
namespace Go.Vc
open Go
def OpPost (o:Oper) (a:Act) (w:World) (K:Kn) (a':Act) (w':World):Prop:=
 ∃v,a'=a.put o.dst v/\K v w'.heap/\Env w w'
theorem QcI {P:Program} {o:Oper} {a:Act} {w w':World} {K:Kn} {Q:Exit->Act->World->Prop} {v:Value}
  (hr:(execOp a.eval o).run P w= .ok (.value v) w') (hk:K v w'.heap) (he:Env w w'):o.wp P a w (OpPost o a w K) Q:=by
 unfold Oper.wp
 rw[hr,Oper.upon_value]
 exact ⟨v,rfl,hk,he⟩
theorem wp_skipped {P:Program} {o:Oper} {a:Act} {w w':World} {K:Kn} {Q:Exit->Act->World->Prop}
  (hr:(execOp a.eval o).run P w= .ok .skip w') (hk:K undef w'.heap) (he:Env w w'):o.wp P a w (OpPost o a w K) Q:=by
 unfold Oper.wp
 rw[hr,Oper.upon_skip]
 exact ⟨undef,rfl,hk,he⟩
theorem wp_calls {P:Program} {o:Oper} {a:Act} {w:World} {K:Kn} {Q:Exit->Act->World->Prop} {f:FuncId} {args:Array Value}
  (hr:(execOp a.eval o).run P w= .ok (.enter f args) w) (hk:FnS P f args w.heap K):o.wp P a w (OpPost o a w K) Q:=by
 unfold Oper.wp
 rw[hr,Oper.upon_enter]
 refine (hk w rfl).mono ?_
 rintro e w' ⟨v,rfl,hv,he⟩
 exact ⟨v,rfl,hv,he⟩
section
variable {P:Program} {w:World}
theorem QdU {e:TypeId} {cs:Array Value}:(newRow e cs).run P w= .ok ⟨w.heap.size,0,none⟩ {w with heap:=w.heap.push (.cells cs e)}:=by
 simp[newRow]
theorem QbO {n size:Nat} {a:Option Addr} {len cap:Nat} {vs:List Value} (h:Qgs w.heap (n*size) (.slice a len cap)=some vs):
  (Builtin.firstCells size n (.slice a len cap)).run P w= .ok vs.toArray w:=by
 cases a with
 |none=>simp only[Qgs,Option.some.injEq]at h;subst h;simp[Builtin.firstCells]
 |some ad=>simp only[Qgs]at h;simp[Builtin.firstCells,QcK h]
theorem run_firstS {n size:Nat} {x:Value} {vs:List Value} (h:QhN w.heap size n x=some vs):(Builtin.firstCells size n x).run P w= .ok vs.toArray w:=by
 cases x<;>simp only[QhN,reduceCtorEq]at h
 case string s=>simp only[Option.some.injEq]at h;subst h;simp only[Builtin.firstCells,Z2,Sem.run_pure,Array.toArray_toList]
 case slice a len cap=>cases a with
  |none=>simp only[Option.some.injEq]at h;subst h;simp[Builtin.firstCells]
  |some ad=>simp only at h;simp[Builtin.firstCells,QcK h]
theorem run_lenOf {x:Value} {vs:List Value} {size n:Nat} (h:QhN w.heap size n x=some vs):(Builtin.lenOf x).run P w= .ok (lenV x) w:=by
 cases x<;>simp only[QhN,reduceCtorEq]at h<;>simp[Builtin.lenOf,lenV]
theorem zeros_repQ (z:List Value) (n:Nat) (hz:z≠[]):(Builtin.zeroCells z.toArray n)=(YV z n).toArray:=by
 have hpos:0<z.length:=List.length_pos_iff.2 hz
 have hlen:∀n,(YV z n).length=n*z.length:=by
  intro n;induction n with
  |zero=>simp[YV]
  |succ n ih=>simp only[YV,List.length_append,ih];rw[Nat.succ_mul];omega
 have hget:∀n i,(h:i<(YV z n).length)->(YV z n)[i]=z[i%z.length]'(Nat.mod_lt _ hpos):=by
  intro n
  induction n with
  |zero=>intro i h;simp[YV]at h
  |succ n ih=>
   intro i h
   simp only[YV,List.getElem_append]
   split
   ·rename_i hi
    congr 1;rw[Nat.mod_eq_of_lt hi]
   ·rename_i hi
    rw[ih]
    congr 1
    have:i=(i-z.length)+z.length:=by omega
    conv=>rhs;rw[this]
    rw[Nat.add_mod_right]
 apply Array.ext
 ·simp[Builtin.zeroCells,hlen]
 ·intro i h1 h2
  simp[Builtin.zeroCells]at h1
  have h3:i<(YV z n).length:=by rw[hlen];exact h1
  simp only[Builtin.zeroCells,List.size_toArray,Array.getElem_map,Array.getElem_range,List.getElem_toArray]
  rw[hget n i h3]
  have:i%z.length<z.length:=Nat.mod_lt _ hpos
  simp[this]
theorem run_buildSlice {t e:TypeId} {len s:Nat} {z:Value} {ps:List (Nat×Value)} {cs:List Value}
  (ht:P.underlying t=some (.slice e)) (hz:Qjl P e=some z) (hs:QeT P e=some s) (hzs:z.cells.size=s) (h1:1<=len*s) (h2:len*s<=16777216)
  (hf:YJ (YV z.cells.toList len) (ps.map fun p=>(p.1*s,s,p.2))=some cs):
  (Instr.buildSlice t len ps.toArray).run P w= .ok (.slice (some ⟨w.heap.size,0,none⟩) len len) {w with heap:=w.heap.push (.cells cs.toArray e)}:=by
 have key:∀(ps:List (Nat×Value)) (zs cs:List Value),YJ zs (ps.map fun p=>(p.1*s,s,p.2))=some cs->
   Instr.fill (fun i=>some (i*s,s)) zs.toArray ps=some cs.toArray:=by
  intro ps
  induction ps with
  |nil=>intro zs cs hf;simp only[List.map_nil,YJ,Option.some.injEq]at hf;subst hf;rfl
  |cons p ps ih=>
   intro zs cs hf
   obtain ⟨i,v⟩:=p
   simp only[List.map_cons]at hf
   unfold YJ at hf
   split at hf
   ·rename_i hc
    obtain ⟨hc1,hc2⟩:=hc
    have gen:∀(off:Nat) (l:List Value) (j:Nat) (zs:List Value),off+j+l.length<=zs.length->
      ((l.zipIdx j).foldl (fun (cs:Array Value) (c,j)=>cs.setIfInBounds (off+j) c) zs.toArray)=(zs.take (off+j)++l++zs.drop (off+j+l.length)).toArray:=by
     intro off l
     induction l with
     |nil=>intro j zs _;simp
     |cons c l ihl=>
      intro j zs hl
      simp only[List.length_cons]at hl
      simp only[List.zipIdx_cons,List.foldl_cons]
      have hset:zs.toArray.setIfInBounds (off+j) c=(zs.set (off+j) c).toArray:=by simp
      rw[hset,ihl (j+1) (zs.set (off+j) c) (by simp;omega)]
      congr 1
      apply List.ext_getElem
      ·simp;omega
      ·intro n h1 h2
       simp only[List.getElem_append,List.length_take,List.length_set,List.length_append,List.length_cons,List.getElem_take,List.getElem_set,List.getElem_drop,List.getElem_cons]
       simp at h1 h2
       repeat' split
       all_goals first
        |rfl
        |(exfalso;omega)
        |(congr 1;omega)
        |skip
    have e:(v.cells.zipIdx.foldl (fun cs (c,j)=>cs.setIfInBounds (i*s+j) c) zs.toArray)=(zs.take (i*s)++v.cells.toList++zs.drop (i*s+v.cells.size)).toArray:=by
     have:=gen (i*s) v.cells.toList 0 zs (by simpa using hc2)
     rw[<-Array.foldl_toList]
     simpa using this
    unfold Instr.fill
    simp only
    rw[if_neg (by simp[hc1];simpa [hc1]using hc2)]
    exact (congrArg (fun z=>Instr.fill (fun i=>some (i*s,s)) z ps) e).trans (ih _ cs hf)
   ·cases hf
 have hne:z.cells.toList≠[]:=by
  intro h
  have:z.cells.size=0:=by simpa using congrArg List.length h
  rw[<-hzs,this]at h1;simp at h1
 have hzc:(Array.range (len*s)).map (fun x=>z.cells[x%z.cells.size]!)=(YV z.cells.toList len).toArray:=by
  rw[<-zeros_repQ _ _ hne,<-hzs];simp[Builtin.zeroCells]
 have hk:=key ps _ cs hf
 unfold Instr.buildSlice
 have n1:¬(len*s>2^24):=by omega
 have n2:¬(len*s=0):=by omega
 simp only[Sem.run_bind,Q1 ht,Result.andThen_ok,YZ hs,n1,if_false,Sem.run_pure,n2,ZX hz,hzc,hk,QdU]
theorem run_makeSl {t e:TypeId} {i:TypeInfo} {z:Value} {k1 k2:IntKind} {l c:Int} (ht:P.underlying t=some (.slice e)) (hi:P.info? e=some i) (hz:i.zero=some z)
  (hs:z.cells.size=i.size) (h0:0<=l) (h1:l<=c) (h2:(i.bytes:Int)*c<=2^48) (h3:c<2^63):
  (Instr.makeSlice t (.int k1 l) (.int k2 c)).run P w=
   .ok (.slice (some ⟨w.heap.size,0,none⟩) l.toNat c.toNat) {w with heap:=w.heap.push (.cells ((Array.range (c.toNat*z.cells.size)).map (z.cells[·%z.cells.size]!)) e)}:=by
 have:=run_make (P:=P) w t e i z ht hi hz k1 k2 l c h0 h1 (by simpa using h2) (by omega)
 rw[this,hs];simp only[madeCells];rw[<-hs];rfl
theorem wrap_i64_in {l:Int} (h0:0<=l) (h3:l<2^63):IntKind.i64.wrap l=l:=by rw[IntKind.wrap_i64];omega
theorem run_append {c:Array TypeId} {t0 t1 e ty:TypeId} {d1:TypeId} {i:TypeInfo} {z:Value} {x y:Value} {K:Kn}
  (h0:c[0]?=some t0) (ht:P.underlying t0=some (.slice e)) (h1:c[1]?=some t1) (ht1:P.underlying t1=some (.slice d1)) (hi:P.info? e=some i) (hz:i.zero=some z)
  (_hs:z.cells.size=i.size) (h:Qbs w.heap e i.size i.bytes z.cells x y K):
  ∃v w',(Builtin.append_ c ty #[x,y]).run P w= .ok v w'/\K v w'.heap/\Env w w':=by
 unfold Qbs at h
 split at h
 ·rename_i base n cap yb m yc
  obtain ⟨hin,hout⟩:=h
  have hsz:QeT P e=some i.size:=by simp[QeT,hi]
  have hzq:Qjl P e=some z:=by simp[Qjl,hi,hz]
  by_cases hfit:n+m<=cap
  ·obtain ⟨new,hnew,hb⟩:=hin hfit
   cases base with
   |none=>
    refine ⟨_,w,?_,hb,Env.refl w⟩
    simp[Builtin.append_,h0,h1,Q1 ht,Q1 ht1,YZ hsz,Builtin.lenOf,hfit,QbO hnew]
   |some a=>
    obtain ⟨H',hH,hk⟩:=hb
    refine ⟨_,{w with heap:=H'},?_,hk,Env.heap w H'⟩
    have hst:=QbY (P:=P) hH
    simp[Builtin.append_,h0,h1,Q1 ht,Q1 ht1,YZ hsz,Builtin.lenOf,hfit,QbO hnew,hst]
  ·obtain ⟨hb0,hb1,old,new,hold,hnew,hk⟩:=hout (by omega)
   have hlt:cap<n+m:=by omega
   have hb2:=growslice_fits (old:=cap) (bytes:=i.bytes) hlt (by simpa using hb1)
   have hneed:n+m<2^63:=by
    have:(n+m)*1<=(n+m)*i.bytes:=Nat.mul_le_mul_left _ hb0
    omega
   have hk':=hk (n+m+w.tape w.drawn (.appendCap (n+m) cap e)%(2^63-(n+m))) (by omega) (by
    have:w.tape w.drawn (.appendCap (n+m) cap e)%(2^63-(n+m))<2^63-(n+m):=Nat.mod_lt _ (by omega)
    omega)
   refine ⟨_,_,?_,hk',Env.drew w (w.drawn+1) _⟩
   have n1:¬(((n+m:Nat):Int)>IntKind.i64.max/\(false=true\/i.bytes=0)):=by
    rintro ⟨_,h|h⟩
    ·cases h
    ·omega
   have n2:¬(Builtin.nextslicecap (n+m) cap*i.bytes>2^48):=by omega
   have hold':(Builtin.firstCells i.size n (.slice base n cap)).run P {w with drawn:=w.drawn+1}= .ok old.toArray {w with drawn:=w.drawn+1}:=QbO (w:={w with drawn:=w.drawn+1}) hold
   have hnew':(Builtin.firstCells i.size m (.slice yb m yc)).run P {w with drawn:=w.drawn+1}= .ok new.toArray {w with drawn:=w.drawn+1}:=QbO (w:={w with drawn:=w.drawn+1}) hnew
   have hzv:∀w,(zeroValue e).run P w= .ok z w:=fun w=>ZX hzq
   have hti:∀w,(typeInfo e).run P w= .ok i w:=fun w=>QdL hi
   unfold Builtin.append_
   simp only[h0,h1,List.getElem?_toArray,List.getElem?_cons_zero,List.getElem?_cons_succ,Sem.run_bind,Sem.run_pure,Result.andThen_ok,Q1 ht,Q1 ht1,YZ hsz,Builtin.lenOf,
    hfit,if_false,Bool.false_eq_true,false_or,hti,n2,run_choose,Question.forced,Question.cut,run_askRoom]
   rw[if_neg (by rintro ⟨_,h⟩;omega)]
   simp only[Sem.run_bind,Sem.run_pure,Result.andThen_ok,hti,n2,if_false,run_choose,Question.forced,Question.cut,run_askRoom,Bool.false_eq_true]
   simp only[hold',hnew',Bool.not_false,if_true,Result.andThen_ok,hzv,QdU,Sem.run_bind,Sem.run_pure]
   rw[show (old++new).toArray=old.toArray++new.toArray by simp]
   rfl
 ·exact h.elim
theorem run_appendZ {c:Array TypeId} {t0 t1 e ty:TypeId} {k1:IntKind} {i:TypeInfo} {z:Value} {x y:Value} {K:Kn}
  (h0:c[0]?=some t0) (ht:P.underlying t0=some (.slice e)) (h1:c[1]?=some t1) (ht1:P.underlying t1=some (.int k1)) (hi:P.info? e=some i) (hz:i.zero=some z)
  (hs:z.cells.size=i.size) (h:AppZK w.heap e i.size i.bytes z.cells x y K):
  ∃v w',(Builtin.append_ c ty #[x,y]).run P w= .ok v w'/\K v w'.heap/\Env w w':=by
 unfold AppZK at h
 split at h
 ·rename_i base n cap κ m
  obtain ⟨hm0,hmb,hb0,hin,hout⟩:=h
  have hsz:QeT P e=some i.size:=by simp[QeT,hi]
  have hzq:Qjl P e=some z:=by simp[Qjl,hi,hz]
  have hm63:m<2^63:=by
   have:m*1<=m*i.bytes:=Int.mul_le_mul_of_nonneg_left (by omega) hm0
   omega
  have hwm:IntKind.i64.wrap m=m:=wrap_i64_in hm0 hm63
  have hn0:¬m<0:=by omega
  have hn1:¬(m*(i.bytes:Int)>2^48):=by omega
  have hzc:∀w,(if m.toNat*i.size=0 then pure #[] else do pure (Builtin.zeroCells (<-zeroValue e).cells m.toNat):Sem (Array Value)).run P w= .ok (Builtin.zeroCells z.cells m.toNat) w:=by
   intro w
   split
   ·rename_i h0
    have:Builtin.zeroCells z.cells m.toNat=#[]:=by
     simp[Builtin.zeroCells,hs,h0,Array.range_zero']
    rw[this];rfl
   ·simp[ZX hzq]
  have hti:∀w,(typeInfo e).run P w= .ok i w:=fun w=>QdL hi
  by_cases hfit:n+m.toNat<=cap
  ·have hb:=hin hfit
   cases base with
   |none=>
    refine ⟨_,w,?_,hb,Env.refl w⟩
    unfold Builtin.append_
    simp only[h0,h1,List.getElem?_toArray,List.getElem?_cons_zero,List.getElem?_cons_succ,Sem.run_bind,Sem.run_pure,Result.andThen_ok,Q1 ht,Q1 ht1,YZ hsz,if_true,asInt,asIntOf,
     hwm,hn0,hn1,if_false,hti,hfit,Bool.not_true,Bool.false_eq_true,hzc]
   |some a=>
    obtain ⟨H',hH,hk⟩:=hb
    refine ⟨_,{w with heap:=H'},?_,hk,Env.heap w H'⟩
    have hst:=QbY (P:=P) hH
    unfold Builtin.append_
    simp only[h0,h1,List.getElem?_toArray,List.getElem?_cons_zero,List.getElem?_cons_succ,Sem.run_bind,Sem.run_pure,Result.andThen_ok,Q1 ht,Q1 ht1,YZ hsz,if_true,asInt,asIntOf,
     hwm,hn0,hn1,if_false,hti,hfit,Bool.not_true,Bool.false_eq_true,hzc,hst]
  ·obtain ⟨hb1,old,hold,hk⟩:=hout (by omega)
   have hlt:cap<n+m.toNat:=by omega
   have hb2:=growslice_fits (old:=cap) (bytes:=i.bytes) hlt (by simpa using hb1)
   have hneed:n+m.toNat<2^63:=by
    have:(n+m.toNat)*1<=(n+m.toNat)*i.bytes:=Nat.mul_le_mul_left _ hb0
    omega
   have hk':=hk (n+m.toNat+w.tape w.drawn (.appendCap (n+m.toNat) cap e)%(2^63-(n+m.toNat))) (by omega) (by
    have:w.tape w.drawn (.appendCap (n+m.toNat) cap e)%(2^63-(n+m.toNat))<2^63-(n+m.toNat):=Nat.mod_lt _ (by omega)
    omega)
   refine ⟨_,_,?_,hk',Env.drew w (w.drawn+1) _⟩
   have n2:¬(Builtin.nextslicecap (n+m.toNat) cap*i.bytes>2^48):=by omega
   have n3:¬(((n+m.toNat:Nat):Int)>IntKind.i64.max):=by
    have:IntKind.i64.max=9223372036854775807:=by decide
    rw[this];omega
   have hold':(Builtin.firstCells i.size n (.slice base n cap)).run P {w with drawn:=w.drawn+1}= .ok old.toArray {w with drawn:=w.drawn+1}:=QbO (w:={w with drawn:=w.drawn+1}) hold
   have hzv:∀w,(zeroValue e).run P w= .ok z w:=fun w=>ZX hzq
   unfold Builtin.append_
   simp only[h0,h1,List.getElem?_toArray,List.getElem?_cons_zero,List.getElem?_cons_succ,Sem.run_bind,Sem.run_pure,Result.andThen_ok,Q1 ht,Q1 ht1,YZ hsz,if_true,asInt,asIntOf,
    hwm,hn0,hn1,if_false,hti,hfit,n3,false_and,n2,run_choose,Question.forced,Question.cut,run_askRoom,Bool.false_eq_true,hold',Bool.not_true,hzc,hzv,QdU]
   rfl
 ·exact h.elim
end
theorem vop_sound {P:Program} {cal:FuncId->Bool} (hcal:CalOk P cal) {o:Oper} {L:Fr} {K:Kn} {Q:Exit->Act->World->Prop} {a:Act} {w:World}
  (hag:Agree L o a) (h:vop P cal o L w.heap K):o.wp P a w (OpPost o a w K) Q:=by
 by_cases hc:cls P cal o≠2
 ·obtain ⟨v,hk,hr⟩:=vop_reader hc h
  exact QcI (hr a w hag (.inr (Qji.refl _))) hk (Env.refl w)
 replace hc:cls P cal o=2:=by simpa using hc
 obtain ⟨dst,op,type,pos,after,guard⟩:=o
 unfold Agree at hag
 cases op<;>simp only[cls,reduceCtorEq,Nat.reduceEqDiff]at hc<;>simp only[vop,QeH,QeB,evpK_iff]at h
 case assign x=>
  obtain ⟨v,hv,hk⟩:=h
  refine QcI (w':=w) (v:=v) ?_ hk (Env.refl w)
  simp only[execOp,Sem.run_pure]
  rw[hag x (by simp[Op.operands]) v hv]
 case alloc t=>
  split at h
  ·rename_i z hz
   refine QcI (v:=.pointer (some ⟨w.heap.size,0,none⟩)) (w':={w with heap:=w.heap.push (.cells z.cells t)}) ?_ h (Env.heap w _)
   simp[execOp,Instr.alloc,ZX hz,newVar,QdU]
  ·exact h.elim
 case box t x=>
  obtain ⟨v,hv,hk⟩:=h
  refine QcI (v:=.pointer (some ⟨w.heap.size,0,none⟩)) (w':={w with heap:=w.heap.push (.cells v.cells t)}) ?_ hk (Env.heap w _)
  simp only[execOp]
  rw[hag x (by simp[Op.operands]) v hv]
  simp[Instr.box,newVar,QdU]
 case buildSlice t len parts=>
  obtain ⟨ps,hps,h⟩:=h
  split at h
  ·rename_i e ht
   split at h
   ·rename_i z s hz hs
    cases hb:(Nat.beq z.cells.size s&&Nat.ble 1 (len*s)&&Nat.ble (len*s) 16777216) with
    |false=>simp[hb]at h
    |true=>
     simp only[hb,cond_true]at h
     simp only[Bool.and_eq_true,Nat.ble_eq]at hb
     unfold Q8 at h
     split at h
     ·rename_i cs hf
      have hm:parts.map (fun p=>(p.1,a.eval p.2))=ps.toArray:=by
       have:=hps.map (ρ:=a.eval) fun p hp v hv=>hag p.2 (by simp only[Op.operands];simp;exact ⟨p.1,by simpa using hp⟩) v hv
       rw[<-this];apply Array.ext';simp
      have hm':(parts.map fun x=>match x with|(i,x)=>(i,a.eval x))=ps.toArray:=hm
      refine QcI (v:=_) (w':={w with heap:=w.heap.push (.cells cs.toArray e)}) ?_ h (Env.heap w _)
      simp only[execOp]
      rw[hm']
      simp only[Sem.run_bind,run_buildSlice ht hz hs (Nat.eq_of_beq_eq_true hb.1.1) hb.1.2 hb.2 hf,Result.andThen_ok,Sem.run_pure]
     ·exact h.elim
   ·exact h.elim
  ·exact h.elim
 case store t x y=>
  obtain ⟨u,hu,v,hv,h⟩:=h
  split at h
  ·rename_i n hs
   unfold StK at h
   split at h
   ·rename_i ad
    obtain ⟨hn,H',hH,hk⟩:=h
    refine wp_skipped (w':={w with heap:=H'}) ?_ hk (Env.heap w H')
    simp only[execOp]
    rw[hag x (by simp[Op.operands]) _ hu,hag y (by simp[Op.operands]) _ hv]
    simp[Instr.storeAt,Instr.sureAddr,storeVar,YZ hs,hn,QbY (P:=P) hH]
   ·exact h.elim
  ·exact h.elim
 case convert s d x=>
  obtain ⟨u,hu,h⟩:=h
  split at h
  ·rename_i hs hd;simp[hs,hd]at hc
  ·rename_i e hs hd
   split at h
   ·rename_i he
    unfold S2BK at h
    split at h
    ·rename_i str
     have hq:(Question.appendCap str.size 0 e).forced=false:=rfl
     have hk:=h (str.size+w.tape w.drawn (.appendCap str.size 0 e)%(2^63-str.size)) (by omega)
     refine QcI (v:=_) (w':={w with drawn:=w.drawn+1,heap:=_}) ?_ hk (Env.drew w (w.drawn+1) _)
     simp only[execOp]
     rw[hag x (by simp[Op.operands]) _ hu]
     have hlen:(Z2 str).size=str.size:=by simp[Z2]
     generalize hcap:str.size+w.tape w.drawn (.appendCap str.size 0 e)%(2^63-str.size)=cap
     have hle:str.size<=cap:=by omega
     simp only[convert,Sem.run_bind,Q1 hs,Q1 hd,Q1 he,Result.andThen_ok,Conv.stringToBytes,run_choose,hq,Bool.false_eq_true,if_false,
      Question.cut,hcap,QdU,markStringish,run_shape,Sem.run_pure]
     have hsh:({w with drawn:=w.drawn+1,heap:=w.heap.push (.cells (Z2 str++Array.replicate (cap-str.size) (.int .u8 0)) e)}:World).shape? w.heap.size=
       some (e,cap):=by
      simp[World.shape?,hlen];omega
     simp only[Z2]at hsh⊢
     rw[hsh]
     have hmod:∀(f:Obj->Obj) (o:Obj),(w.heap.push o).modify w.heap.size f=w.heap.push (f o):=by
      intro f o
      apply Array.ext
      ·simp
      ·intro i h1 h2
       simp at h1 h2
       simp only[Array.getElem_modify,Array.getElem_push]
       split<;>split<;>first|rfl|omega
     simp only[run_freeze,Result.andThen_ok,Sem.run_pure,Sem.run_bind,World.freeze,Nat.one_ne_zero,if_false,hmod,beq_self_eq_true,if_true]
     rfl
    ·exact h.elim
   ·exact h.elim
  ·rename_i hs hd;simp[hs,hd]at hc
  ·exact h.elim
 case makeSlice t l c=>
  obtain ⟨l',hl,c',hcc,h⟩:=h
  split at h
  ·rename_i e ht
   split at h
   ·rename_i i hi
    split at h
    ·rename_i z hz
     cases hb:Nat.beq z.cells.size i.size with
     |false=>simp[hb]at h
     |true=>
      simp only[hb,cond_true]at h
      replace hb:=Nat.eq_of_beq_eq_true hb
      unfold Qe3 at h
      split at h
      ·obtain ⟨h0,h1,h2,h3,hk⟩:=h
       refine QcI (v:=_) (w':={w with heap:=_}) ?_ hk (Env.heap w _)
       simp only[execOp]
       rw[hag l (by simp[Op.operands]) _ hl,hag c (by simp[Op.operands]) _ hcc]
       simp only[Sem.run_bind,run_makeSl ht hi hz hb h0 h1 h2 h3,Result.andThen_ok,Sem.run_pure]
       rfl
      ·exact h.elim
    ·exact h.elim
   ·exact h.elim
  ·exact h.elim
 case call c=>
  obtain ⟨callee,args,argTypes⟩:=c
  have hops:∀x∈args,x∈(Op.call {callee,args,argTypes}).operands:=fun x hx=>by simp[Op.operands,Call.operands,hx]
  cases callee with
  |invoke r m=>exact h.elim
  |builtin b=>
   obtain ⟨vs,hvs,h⟩:=h
   have hm:args.map a.eval=vs.toArray:=by
    have:=hvs.map (ρ:=a.eval) fun x hx v hv=>hag x (hops x (by simpa using hx)) v hv
    rw[<-this];apply Array.ext';simp
   cases b
   case len=>simp at hc
   case cap=>simp at hc
   case append=>
    match vs,h with
    |[x,y],h=>
     simp only at h
     split at h
     ·rename_i e d1 ht ht1
      obtain ⟨t0,h0,ht0⟩:=Option.bind_eq_some_iff.1 ht
      obtain ⟨t1,h1,ht1⟩:=Option.bind_eq_some_iff.1 ht1
      split at h
      ·rename_i i hi
       split at h
       ·rename_i z hz
        cases hb:Nat.beq z.cells.size i.size with
        |false=>simp[hb]at h
        |true=>
         simp only[hb,cond_true]at h
         replace hb:=Nat.eq_of_beq_eq_true hb
         obtain ⟨v,w',hr,hk,he⟩:=run_append (ty:=type) h0 ht0 h1 ht1 hi hz hb h
         refine QcI (v:=v) (w':=w') ?_ hk he
         simp[execOp,resolve,hm,invoke,builtin,hr]
       ·exact h.elim
      ·exact h.elim
     ·rename_i e k1 ht ht1
      obtain ⟨t0,h0,ht0⟩:=Option.bind_eq_some_iff.1 ht
      obtain ⟨t1,h1,ht1⟩:=Option.bind_eq_some_iff.1 ht1
      split at h
      ·rename_i i hi
       split at h
       ·rename_i z hz
        cases hb:Nat.beq z.cells.size i.size with
        |false=>simp[hb]at h
        |true=>
         simp only[hb,cond_true]at h
         replace hb:=Nat.eq_of_beq_eq_true hb
         obtain ⟨v,w',hr,hk,he⟩:=run_appendZ (ty:=type) h0 ht0 h1 ht1 hi hz hb h
         refine QcI (v:=v) (w':=w') ?_ hk he
         simp[execOp,resolve,hm,invoke,builtin,hr]
       ·exact h.elim
      ·exact h.elim
     ·exact h.elim
   case copy=>
    match vs,h with
    |[x,y],h=>
     simp only at h
     split at h
     ·rename_i e ht
      obtain ⟨t0,h0,ht0⟩:=Option.bind_eq_some_iff.1 ht
      split at h
      ·rename_i s hs
       unfold Qh5 at h
       split at h
       ·rename_i base n cap
        obtain ⟨new,hnew,h⟩:=h
        have hl:=run_lenOf (P:=P) hnew
        have hf:=run_firstS (P:=P) hnew
        split at h
        ·rename_i ad
         obtain ⟨H',hH,hk⟩:=h
         refine QcI (v:=_) (w':={w with heap:=H'}) ?_ hk (Env.heap w H')
         simp[execOp,resolve,hm,invoke,builtin,Builtin.copy_,h0,Q1 ht0,YZ hs,hl,hf,QbY (P:=P) hH,goInt]
        ·refine QcI (v:=_) (w':=w) ?_ h (Env.refl w)
         simp[execOp,resolve,hm,invoke,builtin,Builtin.copy_,h0,Q1 ht0,YZ hs,hl,hf,goInt]
       ·exact h.elim
      ·exact h.elim
     ·exact h.elim
   all_goals exact h.elim
  |value x=>
   have hdyn:∀(fv:Value),ev L x=some fv->∀vs,EvAll L args.toList vs->DynK P fv vs.toArray w.heap K->
     Oper.wp P {dst,op:=.call {callee:=.value x,args,argTypes},type,pos,after,guard} a w (OpPost {dst,op:=.call {callee:=.value x,args,argTypes},type,pos,after,guard} a w K) Q:=by
    intro fv hfv vs hvs h
    have hm:args.map a.eval=vs.toArray:=by
     have:=hvs.map (ρ:=a.eval) fun x hx v hv=>hag x (hops x (by simpa using hx)) v hv
     rw[<-this];apply Array.ext';simp
    unfold DynK at h
    split at h
    ·rename_i f first captured
     obtain ⟨hb,hk⟩:=h
     refine wp_calls ?_ hk
     have hx:a.eval x= .func (.func f) first captured:=hag x (by simp[Op.operands,Call.operands]) _ hfv
     obtain ⟨fn,hfn,hb'⟩:∃fn,P.funcs[f]?=some fn/\(fn.body.isSome&&fn.name != "runtime.NumGoroutine")=true:=by
      cases hfn:P.funcs[f]? with
      |none=>simp[hfn]at hb
      |some fn=>exact ⟨fn,rfl,by simpa [hfn]using hb⟩
     simp only[Bool.and_eq_true,bne_iff_ne,ne_eq]at hb'
     have hb1:¬fn.body=none:=fun hbb=>by simp[hbb]at hb'
     simp[execOp,resolve,hm,hx,Deferred.ofValue,invoke,callFunc,hfn,hb'.2,hb1]
    ·exact h.elim
   cases x with
   |func f=>
    obtain ⟨vs,hvs,h⟩:=h
    have hm:args.map a.eval=vs.toArray:=by
     have:=hvs.map (ρ:=a.eval) fun x hx v hv=>hag x (hops x (by simpa using hx)) v hv
     rw[<-this];apply Array.ext';simp
    cases hcf:cal f with
    |false=>simp[hcf]at hc
    |true=>
     simp only[hcf,cond_true]at h
     refine wp_calls ?_ h
     simp[execOp,resolve,hm,Act.eval,Deferred.ofValue,invoke,hcal f hcf]
   |tmp t=>simp only[QeH,QeB]at h;obtain ⟨fv,hfv,vs,hvs,h⟩:=h;exact hdyn fv hfv vs hvs h
   |const v=>simp only[QeH,QeB]at h;obtain ⟨fv,hfv,vs,hvs,h⟩:=h;exact hdyn fv hfv vs hvs h
   |global g=>simp only[QeH,QeB]at h;obtain ⟨fv,hfv,vs,hvs,h⟩:=h;exact hdyn fv hfv vs hvs h
 all_goals (first|exact h.elim|skip)
end Go.Vc
namespace Go.Vc
open Go
structure Qdu (N:Nat) (L:Fr) (a:Act):Prop where
 d:a.defers=[]
 n:a.tmps.size=N
 r:∀t v,QdD L t=some v->a.tmps.getD t undef=v
theorem Qdu.ev {N:Nat} {L:Fr} {a:Act} (h:Qdu N L a) {x:Operand} {v:Value} (hx:ev L x=some v):a.eval x=v:=by
 cases x with
 |tmp t=>exact h.r t v hx
 |const u=>simpa [Vc.ev,Act.eval]using hx
 |global g=>simpa [Vc.ev,Act.eval]using hx
 |func f=>simpa [Vc.ev,Act.eval]using hx
theorem Qdu.agree {N:Nat} {L:Fr} {a:Act} (h:Qdu N L a) (o:Oper):Agree L o a:=fun _ _ _ hv=>h.ev hv
def putK (N:Nat) (L:Fr) (d:Option Tmp) (v:Value) (k:Fr->Prop):Prop:=
 match d with
 |none=>k L
 |some d=>cond (Nat.blt d N) (k ((d,v)::L)) False
theorem Qdu.put {N:Nat} {L:Fr} {a:Act} (h:Qdu N L a) {d:Option Tmp} {v:Value} {k:Fr->Prop} (hk:putK N L d v k):∃L',Qdu N L' (a.put d v)/\k L':=by
 cases d with
 |none=>exact ⟨L,h,hk⟩
 |some d=>
  simp only[putK]at hk
  cases hb:Nat.blt d N with
  |false=>simp[hb]at hk
  |true=>
   simp only[hb,cond_true]at hk
   have hlt:(d:Nat)<N:=Nat.le_of_ble_eq_true hb
   refine ⟨_,⟨h.d,by simp[Act.put,h.n],fun t u hu=>?_⟩,hk⟩
   simp only[QdD]at hu
   cases ht:Nat.beq d t with
   |true=>
    have:=Nat.eq_of_beq_eq_true ht;subst this
    simp only[ht,cond_true,Option.some.injEq]at hu;subst hu
    simp[Act.put,h.n,hlt]
   |false=>
    simp only[ht,cond_false]at hu
    have hne:d≠t:=fun e=>by subst e;simp at ht
    have:=h.r t u hu
    simpa [Act.put,Array.getElem?_setIfInBounds_ne hne]using this
def dstOf (ops:List Oper) (j:Nat):Option Tmp:=
 match ops[j]? with
 |some o=>o.dst
 |none=>none
def vopG (P:Program) (cal:FuncId->Bool) (ops:List Oper) (o:Oper) (L:Fr) (H:Qe) (K:Kn):Prop:=
 match o.guard with
 |none=>vop P cal o L H K
 |some (j,want)=>match dstOf ops j with
  |some t=>match QdD L t with
   |some g=>Qc g want (vop P cal o L H) H K
   |none=>False
  |none=>False
def vops (P:Program) (cal:FuncId->Bool) (N:Nat) (ops:List Oper):List Oper->Fr->Qe->(Fr->Qe->Prop)->Prop
 |[],L,H,K=>K L H
 |o::rest,L,H,K=>vopG P cal ops o L H fun v H'=>putK N L o.dst v fun L'=>vops P cal N ops rest L' H' K
theorem yielded_eq {ops:List Oper} {tmps:Array Value} {j t:Nat} {g:Value} {want:Bool} (hd:dstOf ops j=some t) (hg:tmps.getD t undef=g):
  (yielded ops.toArray tmps j==some want)=QgF g want:=by
 unfold dstOf at hd
 have hb:(ops.toArray[j]?).bind (·.dst)=some t:=by
  cases ho:ops[j]? with
  |none=>simp[ho]at hd
  |some o=>simp only[ho]at hd;simp[ho,hd]
 unfold yielded
 rw[hb]
 simp only[Option.bind_some]
 by_cases hlt:t<tmps.size
 ·have:tmps[t]?=some g:=by
   rw[<-hg];simp[Array.getD,hlt]
  rw[this]
  cases g<;>simp[QgF]
 ·have h1:tmps[t]?=none:=by simp;omega
  have h2:g=undef:=by rw[<-hg];simp[Array.getD,hlt]
  rw[h1,h2];simp[QgF,undef]
theorem QiZ {ops:List Oper} {a:Act} {o:Oper} {j t:Nat} {g:Value} {want:Bool} (ho:o.guard=some (j,want)) (hd:dstOf ops j=some t)
  (hg:a.tmps.getD t undef=g):Region.wanted o (yielded ops.toArray a.tmps)=QgF g want:=by
 unfold Region.wanted
 rw[ho]
 exact yielded_eq hd hg
theorem vopG_cases {P:Program} {cal:FuncId->Bool} {ops:List Oper} {o:Oper} {L:Fr} {H:Qe} {K:Kn} {a:Act} (h:vopG P cal ops o L H K)
  (hag:∀j w t g,o.guard=some (j,w)->dstOf ops j=some t->QdD L t=some g->a.tmps.getD t undef=g):
  (Region.wanted o (yielded ops.toArray a.tmps)=true/\vop P cal o L H K)\/(Region.wanted o (yielded ops.toArray a.tmps)=false/\K undef H):=by
 unfold vopG at h
 split at h
 ·rename_i hg
  exact .inl ⟨by simp[Region.wanted,hg],h⟩
 ·rename_i j want hg
  split at h
  ·rename_i t ht
   split at h
   ·rename_i g hgv
    have hw:=QiZ hg ht (hag j want t g hg ht hgv)
    replace h:=h.ok
    split at h
    ·rename_i hy;exact .inl ⟨by rw[hw];exact hy,h⟩
    ·rename_i hy;exact .inr ⟨by rw[hw];simpa using hy,h⟩
   ·exact h.elim
  ·exact h.elim
def Qgp (ws:List Nat) (L0 L:Fr):Prop:=∀t,t∉ws->QdD L t=QdD L0 t
theorem Qgp.refl (ws:List Nat) (L:Fr):Qgp ws L L:=fun _ _=>rfl
theorem Qgp.cons {ws:List Nat} {L0 L:Fr} (h:Qgp ws L0 L) {d:Nat} (hd:d∈ws) (v:Value):Qgp ws L0 ((d,v)::L):=fun t ht=>by
 simp only[QdD]
 have:Nat.beq d t=false:=by
  cases hb:Nat.beq d t with
  |false=>rfl
  |true=>exact absurd (Nat.eq_of_beq_eq_true hb▸hd) ht
 rw[this]
 exact h t ht
theorem Qdu.put' {N:Nat} {L:Fr} {a:Act} (h:Qdu N L a) {ws:List Nat} {L0:Fr} (hs:Qgp ws L0 L) {d:Option Tmp} (hd:∀t,d=some t->t∈ws) {v:Value} {k:Fr->Prop}
  (hk:putK N L d v k):∃L',Qdu N L' (a.put d v)/\Qgp ws L0 L'/\k L':=by
 cases d with
 |none=>exact ⟨L,h,hs,hk⟩
 |some d=>
  obtain ⟨L',hL',hk'⟩:=h.put (d:=some d) (v:=v) (k:=fun L'=>L'=(d,v)::L/\k L') (by
   simp only[putK]at hk⊢
   cases hb:Nat.blt d N with
   |false=>simp[hb]at hk
   |true=>rw[hb]at hk;exact ⟨trivial,hk⟩)
  obtain ⟨rfl,hk'⟩:=hk'
  exact ⟨_,hL',hs.cons (hd d rfl) v,hk'⟩
theorem QiE {P:Program} {cal:FuncId->Bool} (hcal:CalOk P cal) {N:Nat} {ops:List Oper} {K:Fr->Qe->Prop} {Q:Exit->Act->World->Prop} {w0:World} {ws:List Nat} {L0:Fr}
  (hQ:∀L a w,Qdu N L a->Qgp ws L0 L->K L w.heap->Env w0 w->Q .normal a w):∀(l:List Oper) (L:Fr) (a:Act) (w:World),(∀o∈l,∀t,o.dst=some t->t∈ws)->
   Qdu N L a->Qgp ws L0 L->Env w0 w->vops P cal N ops l L w.heap K->wpList P ops.toArray Q l a w
 |[],L,a,w,_,ha,hs,he,h=>hQ L a w ha hs h he
 |o::rest,L,a,w,hws,ha,hs,he,h=>by
  rcases vopG_cases (a:=a) h (fun j w t g _ _ hg=>ha.r t g hg) with ⟨hw,hv⟩|⟨hw,hk⟩
  ·unfold wpList
   rw[if_pos hw]
   refine .inl (Oper.wp_mono ?_ (vop_sound (Q:=Q) hcal (ha.agree o) hv))
   rintro a' w' ⟨v,rfl,hk,he'⟩
   obtain ⟨L',hL',hs',hk'⟩:=ha.put' hs (hws o (by simp)) hk
   exact QiE hcal hQ rest L' _ w' (fun o ho=>hws o (by simp[ho])) hL' hs' (he.trans he') hk'
  ·unfold wpList
   rw[if_neg (by simp[hw])]
   obtain ⟨L',hL',hs',hk'⟩:=ha.put' hs (hws o (by simp)) hk
   exact QiE hcal hQ rest L' _ w (fun o ho=>hws o (by simp[ho])) hL' hs' he hk'
end Go.Vc
namespace Go.Vc
open Go
structure Qgz where
 i:Nat
 o:Oper
 bf:Nat
 cl:Nat
def isAny (e:Edge):Bool:=
 match e.ground with
 |.textOnly _=>false
 |.gcOnly _=>false
 |_=>true
def Qew (acc:List Nat):List Edge->Nat
 |[]=>0
 |e::es=>cond (isAny e) (Nat.lor (Nat.lor (Nat.shiftLeft 1 e.on) (acc.getD e.on 0)) (Qew acc es)) (Qew acc es)
def Qgu (P:Program) (cal:FuncId->Bool):Nat->List Nat->List Oper->List Qgz
 |_,_,[]=>[]
 |i,acc,o::os=>⟨i,o,Qew acc o.after.toList,cls P cal o⟩::Qgu P cal (i+1) (acc++[Qew acc o.after.toList]) os
def has (m i:Nat):Bool:=Nat.testBit m i
def isSt (o:Oper):Bool:=
 match o.op with
 |.store ..=>true
 |_=>false
def risky (info:List Qgz) (x:Qgz):Bool:=cond (Nat.beq x.cl 1) (info.any fun y=>cond (isSt y.o) (!(has x.bf y.i||has y.bf x.i)) false) false
def raise (info:List Qgz) (x:Qgz):Qgz:=cond (risky info x) {x with cl:=2} x
def mkInfoR (P:Program) (cal:FuncId->Bool) (ops:List Oper):List Qgz:=(Qgu P cal 0 [] ops).map (raise (Qgu P cal 0 [] ops))
def subM (a b:Nat):Bool:=Nat.beq (Nat.land a b) a
def Qj6:List Qgz->Nat->Option Qgz
 |[],_=>none
 |x::xs,done=>cond (cond (has done x.i) false (cond (Nat.beq x.cl 2) false (subM x.bf done))) (some x) (Qj6 xs done)
def readyE:List Qgz->Nat->List Qgz
 |[],_=>[]
 |x::xs,done=>cond (cond (has done x.i) false (cond (Nat.beq x.cl 2) (subM x.bf done) false)) (x::readyE xs done) (readyE xs done)
def andL:List Qgz->(Qgz->Prop)->Prop
 |[],_=>False
 |[x],p=>p x
 |x::y::xs,p=>p x/\andL (y::xs) p
def stabK (m:Nat) (H H':Qe) (k:Prop):Prop:=cond (Nat.beq m 0) k (Qi H H' k)
def lessM (a b:Nat):Nat:=Nat.xor a (Nat.land a b)
def vAny (P:Program) (cal:FuncId->Bool) (N:Nat) (ops:List Oper) (info:List Qgz) (all:Nat):Nat->Nat->Nat->Fr->Qe->(Fr->Qe->Prop)->Prop
 |0,_,_,_,_,_=>False
 |fuel+1,done,pend,L,H,K=>
  match Qj6 info done with
  |some x=>vopG P cal ops x.o L H fun v H'=>putK N L x.o.dst v fun L'=>
    vAny P cal N ops info all fuel (Nat.lor done (Nat.shiftLeft 1 x.i)) (cond (Nat.beq x.cl 1) (Nat.lor pend (Nat.shiftLeft 1 x.i)) pend) L' H' K
  |none=>cond (Nat.beq done all) (K L H) (andL (readyE info done) fun x=>vopG P cal ops x.o L H fun v H'=>putK N L x.o.dst v fun L'=>
    stabK (lessM pend x.bf) H H' (vAny P cal N ops info all fuel (Nat.lor done (Nat.shiftLeft 1 x.i)) (lessM pend x.bf) L' H' K))
def QcV (ops:List Oper) (o:Oper):List Nat:=
 (o.op.operands.toList.filterMap fun|.tmp t=>some t|_=>none)++
 (match o.guard with
  |some (j,_)=>(dstOf ops j).toList
  |none=>[])
def memN (t:Nat):List Nat->Bool
 |[]=>false
 |x::xs=>cond (Nat.beq x t) true (memN t xs)
def Qi1 (ops:List Oper) (x y:Qgz):Bool:=
 match x.o.dst with
 |none=>true
 |some t=>
  cond (Nat.beq x.i y.i) (cond (Nat.beq x.cl 2) true (!memN t (QcV ops x.o)))
   (cond (Nat.beq x.cl 2) (cond (Nat.beq y.cl 2) true (cond (memN t (QcV ops y.o)) (has y.bf x.i||has x.bf y.i) true))
    ((match y.o.dst with|some u=>!(Nat.beq u t)|none=>true)&&cond (memN t (QcV ops y.o)) (has y.bf x.i) true))
def okReg (ops:List Oper) (info:List Qgz):Bool:=
 info.all fun x=>(x.o.after.toList.all fun e=>cond (isAny e) (Nat.blt e.on x.i) true)&&info.all fun y=>Qi1 ops x y
def vReg (P:Program) (cal:FuncId->Bool) (N:Nat) (ops:List Oper) (L:Fr) (H:Qe) (K:Fr->Qe->Prop):Prop:=
 cond (P.follows .mixedOrders&&okReg ops (mkInfoR P cal ops)&&Region.noSelect ops.toArray)
  (vAny P cal N ops (mkInfoR P cal ops) (Nat.pred (Nat.shiftLeft 1 ops.length)) (ops.length+1) 0 0 L H K) False
theorem binds_isAny (e:Edge):Region.binds .any e=isAny e:=by
 unfold Region.binds isAny
 cases e.ground<;>rfl
theorem QfD (m i j:Nat):has (Nat.lor m (Nat.shiftLeft 1 i)) j=(has m j||Nat.beq i j):=by
 show Nat.testBit (m|||1<<<i) j=(Nat.testBit m j||Nat.beq i j)
 rw[Nat.testBit_or]
 congr 1
 rw[Nat.shiftLeft_eq,Nat.one_mul,Nat.testBit_two_pow]
 cases h:Nat.beq i j with
 |true=>simp[Nat.eq_of_beq_eq_true h]
 |false=>simp;intro e;subst e;simp at h
theorem subM_iff {a b:Nat}:subM a b=true↔∀j,has a j=true->has b j=true:=by
 unfold subM has
 constructor
 ·intro h j hj
  have:=Nat.eq_of_beq_eq_true h
  have h2:Nat.testBit (a&&& b) j=true:=by
   show Nat.testBit (Nat.land a b) j=true
   rw[this];exact hj
  rw[Nat.testBit_and]at h2
  simp at h2;exact h2.2
 ·intro h
  have:Nat.land a b=a:=by
   apply Nat.eq_of_testBit_eq
   intro j
   show Nat.testBit (a&&& b) j=_
   rw[Nat.testBit_and]
   cases hj:Nat.testBit a j with
   |false=>rfl
   |true=>simp[h j hj]
  rw[this];simp
theorem has_lessM (a b j:Nat):has (lessM a b) j=(has a j&&!has b j):=by
 show Nat.testBit (a^^^(a&&& b)) j=(Nat.testBit a j&&!Nat.testBit b j)
 rw[Nat.testBit_xor,Nat.testBit_and]
 cases Nat.testBit a j<;>cases Nat.testBit b j<;>rfl
theorem Qiz {acc:List Nat} {j:Nat}:∀{es:List Edge},has (Qew acc es) j=true↔∃e∈es,isAny e=true/\(e.on=j\/has (acc.getD e.on 0) j=true)
 |[]=>by simp[Qew,has]
 |e::es=>by
  unfold Qew
  cases he:isAny e with
  |false=>
   simp only[cond_false,Qiz (es:=es),List.mem_cons,exists_eq_or_imp,he,Bool.false_eq_true,false_and,false_or]
  |true=>
   simp only[cond_true,List.mem_cons,exists_eq_or_imp,he,true_and]
   rw[<-Qiz (es:=es)]
   show Nat.testBit ((1<<<e.on|||acc.getD e.on 0)|||Qew acc es) j=true↔_
   rw[Nat.testBit_or,Nat.testBit_or,Nat.shiftLeft_eq,Nat.one_mul,Nat.testBit_two_pow]
   simp[has]
theorem mkInfo_spec {P:Program} {cal:FuncId->Bool}:∀{os:List Oper} {i:Nat} {acc:List Nat},acc.length=i->
  ∃bs:List Nat,bs.length=os.length/\(Qgu P cal i acc os).length=os.length/\
   ∀k,∀h:k<os.length,∃x,(Qgu P cal i acc os)[k]?=some x/\x.i=i+k/\os[k]?=some x.o/\x.cl=cls P cal x.o/\bs[k]?=some x.bf/\
    x.bf=Qew (acc++bs.take k) x.o.after.toList
 |[],i,acc,h=>⟨[],rfl,rfl,fun k hk=>by simp at hk⟩
 |o::os,i,acc,h=>by
  obtain ⟨bs,h1,h2,h3⟩:=mkInfo_spec (P:=P) (cal:=cal) (os:=os) (i:=i+1) (acc:=acc++[Qew acc o.after.toList]) (by simp[h])
  refine ⟨Qew acc o.after.toList::bs,by simp[h1],by simp[Qgu,h2],fun k hk=>?_⟩
  cases k with
  |zero=>exact ⟨⟨i,o,Qew acc o.after.toList,cls P cal o⟩,rfl,rfl,rfl,rfl,rfl,by simp⟩
  |succ k=>
   obtain ⟨x,g1,g2,g3,g4,g5,g6⟩:=h3 k (by simpa using hk)
   exact ⟨x,by simpa [Qgu]using g1,by omega,by simpa using g3,g4,by simpa using g5,by rw[g6];simp⟩
theorem firstR_some {info:List Qgz} {done:Nat} {x:Qgz} (h:Qj6 info done=some x):x∈info/\has done x.i=false/\x.cl≠2/\subM x.bf done=true:=by
 induction info with
 |nil=>cases h
 |cons y ys ih=>
  unfold Qj6 at h
  cases hc:(cond (has done y.i) false (cond (Nat.beq y.cl 2) false (subM y.bf done))) with
  |false=>
   rw[hc]at h
   obtain ⟨g1,g2⟩:=ih h
   exact ⟨by simp[g1],g2⟩
  |true=>
   rw[hc]at h
   simp only[cond_true,Option.some.injEq]at h;subst h
   refine ⟨by simp,?_⟩
   cases h1:has done y.i with
   |true=>simp[h1]at hc
   |false=>
    simp only[h1,cond_false]at hc
    cases h2:Nat.beq y.cl 2 with
    |true=>simp[h2]at hc
    |false=>
     simp only[h2,cond_false]at hc
     exact ⟨rfl,fun e=>by rw[e]at h2;simp at h2,hc⟩
theorem firstR_none {info:List Qgz} {done:Nat} (h:Qj6 info done=none) {x:Qgz} (hx:x∈info) (h1:has done x.i=false) (h2:subM x.bf done=true):x.cl=2:=by
 induction info with
 |nil=>cases hx
 |cons y ys ih=>
  unfold Qj6 at h
  cases hc:(cond (has done y.i) false (cond (Nat.beq y.cl 2) false (subM y.bf done))) with
  |true=>rw[hc]at h;cases h
  |false=>
   rw[hc]at h
   simp only[cond_false]at h
   rcases List.mem_cons.1 hx with rfl|hx
   ·simp only[h1,cond_false,h2]at hc
    cases h3:Nat.beq x.cl 2 with
    |true=>exact Nat.eq_of_beq_eq_true h3
    |false=>simp[h3]at hc
   ·exact ih h hx
theorem mem_readyE {info:List Qgz} {done:Nat} {x:Qgz} (hx:x∈info) (h1:has done x.i=false) (h2:subM x.bf done=true) (h3:x.cl=2):x∈readyE info done:=by
 induction info with
 |nil=>cases hx
 |cons y ys ih=>
  unfold readyE
  rcases List.mem_cons.1 hx with rfl|hx
  ·have:(cond (has done x.i) false (cond (Nat.beq x.cl 2) (subM x.bf done) false))=true:=by simp[h1,h2,h3]
   rw[this];simp
  ·cases (cond (has done y.i) false (cond (Nat.beq y.cl 2) (subM y.bf done) false)) with
   |true=>simp[ih hx]
   |false=>simpa using ih hx
theorem andL_mem:∀{l:List Qgz} {p:Qgz->Prop},andL l p->∀x∈l,p x
 |[],_,h,_,_=>h.elim
 |[y],p,h,x,hx=>by simp at hx;subst hx;exact h
 |y::z::l,p,h,x,hx=>by
  rcases List.mem_cons.1 hx with rfl|hx
  ·exact h.1
  ·exact andL_mem h.2 x hx
theorem Qfs {t:Nat}:∀{l:List Nat},memN t l=true↔t∈l
 |[]=>by simp[memN]
 |x::xs=>by
  unfold memN
  cases h:Nat.beq x t with
  |true=>simp[Nat.eq_of_beq_eq_true h]
  |false=>
   simp only[cond_false,Qfs,List.mem_cons]
   constructor
   ·exact .inr
   ·rintro (rfl|h')
    ·simp at h
    ·exact h'
end Go.Vc
namespace Go.Vc
open Go
theorem cls_le (P:Program) (cal:FuncId->Bool) (o:Oper):cls P cal o=0\/cls P cal o=1\/cls P cal o=2:=by
 unfold cls
 repeat' split
 all_goals first
  |exact .inl rfl
  |exact .inr (.inl rfl)
  |exact .inr (.inr rfl)
  |(generalize cal _=b;cases b<;>simp)
structure Facts (P:Program) (cal:FuncId->Bool) (ops:List Oper) (info:List Qgz):Prop where
 lt:∀x∈info,x.i<ops.length
 op:∀x∈info,ops[x.i]?=some x.o
 cl:∀x∈info,x.cl≠2->x.cl=cls P cal x.o
 ex:∀k,k<ops.length->∃x∈info,x.i=k
 un:∀x∈info,∀y∈info,x.i=y.i->x=y
 bf:∀x∈info,∀j,has x.bf j=true->∃e∈x.o.after.toList,isAny e=true/\(e.on=j\/∃y∈info,y.i=e.on/\has y.bf j=true)
theorem mkInfo_facts (P:Program) (cal:FuncId->Bool) (ops:List Oper):Facts P cal ops (Qgu P cal 0 [] ops):=by
 obtain ⟨bs,h1,h2,h3⟩:=mkInfo_spec (P:=P) (cal:=cal) (os:=ops) (i:=0) (acc:=[]) rfl
 have at_:∀x∈Qgu P cal 0 [] ops,∃k,k<ops.length/\(Qgu P cal 0 [] ops)[k]?=some x/\x.i=k/\ops[k]?=some x.o/\x.cl=cls P cal x.o/\bs[k]?=some x.bf/\
   x.bf=Qew (bs.take k) x.o.after.toList:=by
  intro x hx
  obtain ⟨k,hk,hkx⟩:=List.mem_iff_getElem.1 hx
  rw[h2]at hk
  obtain ⟨y,g1,g2,g3,g4,g5,g6⟩:=h3 k hk
  have:y=x:=by
   rw[List.getElem?_eq_getElem (by rw[h2];exact hk)]at g1
   simp only[Option.some.injEq]at g1
   rw[<-g1,hkx]
  subst this
  exact ⟨k,hk,g1,by omega,g3,g4,g5,by simpa using g6⟩
 refine ⟨?_,?_,?_,?_,?_,?_⟩
 ·intro x hx;obtain ⟨k,hk,_,h,_⟩:=at_ x hx;omega
 ·intro x hx;obtain ⟨k,hk,_,h,g,_⟩:=at_ x hx;rw[h];exact g
 ·intro x hx _;obtain ⟨k,hk,_,h,_,g,_⟩:=at_ x hx;exact g
 ·intro k hk
  obtain ⟨x,g1,g2,_⟩:=h3 k hk
  exact ⟨x,List.mem_of_getElem? g1,by omega⟩
 ·intro x hx y hy hxy
  obtain ⟨k,_,gx,hk,_⟩:=at_ x hx
  obtain ⟨l,_,gy,hl,_⟩:=at_ y hy
  have:k=l:=by omega
  subst this
  rw[gx]at gy;exact Option.some.inj gy
 ·intro x hx j hj
  obtain ⟨k,hk,_,_,_,_,_,g⟩:=at_ x hx
  rw[g,Qiz]at hj
  obtain ⟨e,he,hany,hor⟩:=hj
  refine ⟨e,he,hany,hor.imp id fun h=>?_⟩
  have hlt:e.on<(bs.take k).length:=by
   rcases Nat.lt_or_ge e.on (bs.take k).length with h'|h'
   ·exact h'
   ·rw[List.getD_eq_getElem?_getD,List.getElem?_eq_none h']at h;simp[has]at h
  simp only[List.length_take]at hlt
  obtain ⟨y,y1,y2,_,_,y5,_⟩:=h3 e.on (by omega)
  refine ⟨y,List.mem_of_getElem? y1,by omega,?_⟩
  rw[List.getD_eq_getElem?_getD,List.getElem?_take,if_pos (by omega),y5]at h
  exact h
theorem Qc1 (info:List Qgz) (x:Qgz):(raise info x).i=x.i/\(raise info x).o=x.o/\(raise info x).bf=x.bf/\((raise info x).cl=2\/(raise info x).cl=x.cl):=by
 unfold raise
 cases risky info x with
 |true=>exact ⟨rfl,rfl,rfl,.inl rfl⟩
 |false=>exact ⟨rfl,rfl,rfl,.inr rfl⟩
theorem mkInfoR_facts (P:Program) (cal:FuncId->Bool) (ops:List Oper):Facts P cal ops (mkInfoR P cal ops):=by
 have F:=mkInfo_facts P cal ops
 unfold mkInfoR
 generalize Qgu P cal 0 [] ops=info at *
 have at_:∀x∈info.map (raise info),∃y∈info,x=raise info y:=fun x hx=>by
  obtain ⟨y,h1,h2⟩:=List.mem_map.1 hx
  exact ⟨y,h1,h2.symm⟩
 refine ⟨?_,?_,?_,?_,?_,?_⟩
 ·intro x hx;obtain ⟨y,hy,rfl⟩:=at_ x hx;rw[(Qc1 info y).1];exact F.lt y hy
 ·intro x hx;obtain ⟨y,hy,rfl⟩:=at_ x hx;rw[(Qc1 info y).1,(Qc1 info y).2.1];exact F.op y hy
 ·intro x hx h2;obtain ⟨y,hy,rfl⟩:=at_ x hx
  rcases (Qc1 info y).2.2.2 with h|h
  ·exact absurd h h2
  ·rw[h]at h2⊢;rw[(Qc1 info y).2.1];exact F.cl y hy h2
 ·intro k hk
  obtain ⟨x,h1,h2⟩:=F.ex k hk
  exact ⟨raise info x,List.mem_map.2 ⟨x,h1,rfl⟩,by rw[(Qc1 info x).1];exact h2⟩
 ·intro x hx y hy h
  obtain ⟨x',hx',rfl⟩:=at_ x hx
  obtain ⟨y',hy',rfl⟩:=at_ y hy
  rw[(Qc1 info x').1,(Qc1 info y').1]at h
  rw[F.un x' hx' y' hy' h]
 ·intro x hx j hj
  obtain ⟨x',hx',rfl⟩:=at_ x hx
  rw[(Qc1 info x').2.2.1]at hj
  rw[(Qc1 info x').2.1]
  obtain ⟨e,h1,h2,h3⟩:=F.bf x' hx' j hj
  refine ⟨e,h1,h2,h3.imp id fun ⟨y,g1,g2,g3⟩=>⟨raise info y,List.mem_map.2 ⟨y,g1,rfl⟩,by rw[(Qc1 info y).1];exact g2,by rw[(Qc1 info y).2.2.1];exact g3⟩⟩
def RdOk (P:Program) (N:Nat) (ops:List Oper) (x:Qgz) (L:Fr) (H:Qe):Prop:=
 ∃v,(∀t,x.o.dst=some t->QdD L t=some v/\t<N)/\
  ∀(a:Act) (w:World),(∀t∈QcV ops x.o,∀u,QdD L t=some u->a.tmps.getD t undef=u)->(x.cl=0\/Qji H w.heap)->
   (Region.wanted x.o (yielded ops.toArray a.tmps)=true/\(execOp a.eval x.o).run P w= .ok (.value v) w)\/
   (Region.wanted x.o (yielded ops.toArray a.tmps)=false/\v=undef)
theorem QhC {ops:List Oper} {o:Oper} {L:Fr} {a:Act} (h:∀t∈QcV ops o,∀u,QdD L t=some u->a.tmps.getD t undef=u):Agree L o a:=by
 intro x hx v hv
 cases x with
 |tmp t=>
  refine h t ?_ v hv
  unfold QcV
  exact List.mem_append_left _ (List.mem_filterMap.2 ⟨.tmp t,by simpa using hx,rfl⟩)
 |const u=>simpa [Vc.ev,Act.eval]using hv
 |global g=>simpa [Vc.ev,Act.eval]using hv
 |func f=>simpa [Vc.ev,Act.eval]using hv
theorem guard_slot {ops:List Oper} {o:Oper} {j t:Nat} {want:Bool} (hg:o.guard=some (j,want)) (ht:dstOf ops j=some t):t∈QcV ops o:=by
 unfold QcV
 rw[hg]
 simp[ht]
theorem vopG_reader {P:Program} {cal:FuncId->Bool} {ops:List Oper} {x:Qgz} {L:Fr} {H:Qe} {K:Kn} (hcl:x.cl=cls P cal x.o) (h2:x.cl≠2)
  (h:vopG P cal ops x.o L H K):∃v,K v H/\∀(a:Act) (w:World),(∀t∈QcV ops x.o,∀u,QdD L t=some u->a.tmps.getD t undef=u)->(x.cl=0\/Qji H w.heap)->
   (Region.wanted x.o (yielded ops.toArray a.tmps)=true/\(execOp a.eval x.o).run P w= .ok (.value v) w)\/
   (Region.wanted x.o (yielded ops.toArray a.tmps)=false/\v=undef):=by
 have rd:vop P cal x.o L H K->∃v,K v H/\∀(a:Act) (w:World),Agree L x.o a->(x.cl=0\/Qji H w.heap)->(execOp a.eval x.o).run P w= .ok (.value v) w:=fun h=>by
  obtain ⟨v,hk,hr⟩:=vop_reader (by rw[<-hcl];exact h2) h
  exact ⟨v,hk,fun a w ha hx=>hr a w ha (hcl▸hx)⟩
 unfold vopG at h
 split at h
 ·rename_i hg
  obtain ⟨v,hk,hr⟩:=rd h
  exact ⟨v,hk,fun a w ha hx=>.inl ⟨by simp[Region.wanted,hg],hr a w (QhC ha) hx⟩⟩
 ·rename_i j want hg
  split at h
  ·rename_i t ht
   split at h
   ·rename_i g hgv
    replace h:=h.ok
    have hw:∀a:Act,(∀t∈QcV ops x.o,∀u,QdD L t=some u->a.tmps.getD t undef=u)->Region.wanted x.o (yielded ops.toArray a.tmps)=QgF g want:=
     fun a ha=>QiZ hg ht (ha t (guard_slot hg ht) g hgv)
    split at h
    ·rename_i hy
     obtain ⟨v,hk,hr⟩:=rd h
     exact ⟨v,hk,fun a w ha hx=>.inl ⟨by rw[hw a ha];exact hy,hr a w (QhC ha) hx⟩⟩
    ·rename_i hy
     exact ⟨undef,h,fun a w ha _=>.inr ⟨by rw[hw a ha];simpa using hy,rfl⟩⟩
   ·exact h.elim
  ·exact h.elim
def Lst (listed:Array Bool) (i:Nat):Prop:=listed.getD i false=true
structure Inv (P:Program) (cal:FuncId->Bool) (N:Nat) (ops:List Oper) (info:List Qgz) (all:Nat) (K:Fr->Qe->Prop) (ws:List Nat) (L0:Fr) (listed:Array Bool) (a:Act) (w:World)
  (done pend:Nat) (L:Fr) (fuel:Nat):Prop where
 sm:Qgp ws L0 L
 sz:listed.size=ops.length
 sub:∀i,Lst listed i->has done i=true
 eff:∀x∈info,has done x.i=true->x.cl=2->Lst listed x.i
 cS:∀x∈info,Lst listed x.i->∀j,has x.bf j=true->Lst listed j
 cD:∀x∈info,has done x.i=true->∀j,has x.bf j=true->has done j=true
 bd:∀j,has done j=true->j<ops.length
 hd:a.defers=[]
 hn:a.tmps.size=N
 fr:∀t v,QdD L t=some v->(∀x∈info,has done x.i=true->¬Lst listed x.i->x.o.dst≠some t)->a.tmps.getD t undef=v
 rd:∀x∈info,has done x.i=true->¬Lst listed x.i->RdOk P N ops x L w.heap/\(x.cl=1->has pend x.i=true)
 vc:vAny P cal N ops info all fuel done pend L w.heap K
theorem QdN {ops:List Oper} {x y:Qgz} {t:Nat} (h:Qi1 ops x y=true) (hd:x.o.dst=some t) (h2:x.cl≠2) (hne:x.i≠y.i):
  y.o.dst≠some t/\(t∈QcV ops y.o->has y.bf x.i=true):=by
 unfold Qi1 at h
 rw[hd]at h
 have h1:Nat.beq x.i y.i=false:=by
  cases hb:Nat.beq x.i y.i with
  |false=>rfl
  |true=>exact absurd (Nat.eq_of_beq_eq_true hb) hne
 have h3:Nat.beq x.cl 2=false:=by
  cases hb:Nat.beq x.cl 2 with
  |false=>rfl
  |true=>exact absurd (Nat.eq_of_beq_eq_true hb) h2
 simp only[h1,h3,cond_false,Bool.and_eq_true]at h
 obtain ⟨g1,g2⟩:=h
 refine ⟨fun e=>?_,fun hm=>?_⟩
 ·rw[e]at g1;simp at g1
 ·rw[Qfs.2 hm]at g2;simpa using g2
theorem okPair_self {ops:List Oper} {x:Qgz} {t:Nat} (h:Qi1 ops x x=true) (hd:x.o.dst=some t) (h2:x.cl≠2):t∉QcV ops x.o:=by
 unfold Qi1 at h
 rw[hd]at h
 have h3:Nat.beq x.cl 2=false:=by
  cases hb:Nat.beq x.cl 2 with
  |false=>rfl
  |true=>exact absurd (Nat.eq_of_beq_eq_true hb) h2
 simp only[Nat.beq_refl,cond_true,h3,cond_false,Bool.not_eq_true']at h
 intro hm
 rw[Qfs.2 hm]at h;cases h
theorem okPair_effect {ops:List Oper} {x y:Qgz} {t:Nat} (h:Qi1 ops x y=true) (hd:x.o.dst=some t) (h2:x.cl=2) (hy:y.cl≠2) (hm:t∈QcV ops y.o)
  (hne:x.i≠y.i):has y.bf x.i=true\/has x.bf y.i=true:=by
 unfold Qi1 at h
 rw[hd]at h
 have h3:Nat.beq y.cl 2=false:=by
  cases hb:Nat.beq y.cl 2 with
  |false=>rfl
  |true=>exact absurd (Nat.eq_of_beq_eq_true hb) hy
 cases hb:Nat.beq x.i y.i with
 |true=>exact absurd (Nat.eq_of_beq_eq_true hb) hne
 |false=>
  simp only[hb,cond_false,h2,Nat.beq_refl,cond_true,h3,Qfs.2 hm,Bool.or_eq_true]at h
  exact h
section
variable {P:Program} {cal:FuncId->Bool} {N:Nat} {ops:List Oper} {info:List Qgz} {all:Nat} {K:Fr->Qe->Prop} {ws:List Nat} {L0:Fr}
theorem Inv.norm (F:Facts P cal ops info) (hws:∀x∈info,∀t,x.o.dst=some t->t∈ws) (ok:∀x∈info,∀y∈info,Qi1 ops x y=true) {listed:Array Bool} {a:Act} {w:World}:∀{fuel done pend:Nat} {L:Fr},
  Inv P cal N ops info all K ws L0 listed a w done pend L fuel->∃fuel' done' pend' L',Inv P cal N ops info all K ws L0 listed a w done' pend' L' fuel'/\Qj6 info done'=none
 |0,done,pend,L,I=>I.vc.elim
 |fuel+1,done,pend,L,I=>by
  cases hf:Qj6 info done with
  |none=>exact ⟨_,_,_,_,I,hf⟩
  |some x=>
   obtain ⟨hx,hnd,hc2,hsub⟩:=firstR_some hf
   have hsub':=subM_iff.1 hsub
   have hvc:=I.vc
   unfold vAny at hvc
   simp only[hf]at hvc
   obtain ⟨v,hk,hr⟩:=vopG_reader (F.cl x hx hc2) hc2 hvc
   have hnS:¬Lst listed x.i:=fun h=>by rw[I.sub _ h]at hnd;cases hnd
   have done_iff:∀j,has (Nat.lor done (Nat.shiftLeft 1 x.i)) j=true↔(has done j=true\/x.i=j):=fun j=>by
    rw[QfD];simp
   obtain ⟨L',hL',hvc'⟩:∃L',((x.o.dst=none/\L'=L)\/∃d,x.o.dst=some d/\d<N/\L'=(d,v)::L)/\
     vAny P cal N ops info all fuel (Nat.lor done (Nat.shiftLeft 1 x.i)) (cond (Nat.beq x.cl 1) (Nat.lor pend (Nat.shiftLeft 1 x.i)) pend) L' w.heap K:=by
    unfold putK at hk
    split at hk
    ·rename_i hd;exact ⟨L,.inl ⟨hd,rfl⟩,hk⟩
    ·rename_i d hd
     cases hb:Nat.blt d N with
     |false=>simp[hb]at hk
     |true=>
      simp only[hb,cond_true]at hk
      exact ⟨_,.inr ⟨d,hd,Nat.le_of_ble_eq_true hb,rfl⟩,hk⟩
   have look':∀t,x.o.dst≠some t->QdD L' t=QdD L t:=by
    intro t ht
    rcases hL' with ⟨_,rfl⟩|⟨d,hd,_,rfl⟩
    ·rfl
    ·simp only[QdD]
     have:Nat.beq d t=false:=by
      cases hb:Nat.beq d t with
      |false=>rfl
      |true=>exact absurd (by rw[hd,Nat.eq_of_beq_eq_true hb]) ht
     rw[this];rfl
   have dst':∀t,x.o.dst=some t->QdD L' t=some v/\t<N:=by
    intro t ht
    rcases hL' with ⟨hd,rfl⟩|⟨d,hd,hlt,rfl⟩
    ·rw[hd]at ht;cases ht
    ·rw[hd]at ht;simp only[Option.some.injEq]at ht;subst ht
     exact ⟨by simp[QdD],hlt⟩
   have pend':∀j,has pend j=true->has (cond (Nat.beq x.cl 1) (Nat.lor pend (Nat.shiftLeft 1 x.i)) pend) j=true:=fun j h=>by
    cases Nat.beq x.cl 1 with
    |false=>exact h
    |true=>simp only[cond_true,QfD,h,Bool.true_or]
   refine Inv.norm F hws ok (fuel:=fuel) (done:=Nat.lor done (Nat.shiftLeft 1 x.i)) (pend:=cond (Nat.beq x.cl 1) (Nat.lor pend (Nat.shiftLeft 1 x.i)) pend) (L:=L') ?_
   refine ⟨(by
    rcases hL' with ⟨_,rfl⟩|⟨d,hd,_,rfl⟩
    ·exact I.sm
    ·exact I.sm.cons (hws x hx d hd) v),I.sz,fun i h=>(done_iff i).2 (.inl (I.sub i h)),?_,I.cS,?_,?_,I.hd,I.hn,?_,?_,hvc'⟩
   ·intro y hy hdy h2
    rcases (done_iff _).1 hdy with h|h
    ·exact I.eff y hy h h2
    ·have:=F.un x hx y hy h;subst this;exact absurd h2 hc2
   ·intro y hy hdy j hj
    rcases (done_iff _).1 hdy with h|h
    ·exact (done_iff _).2 (.inl (I.cD y hy h j hj))
    ·have:=F.un x hx y hy h;subst this;exact (done_iff _).2 (.inl (hsub' j hj))
   ·intro j hj
    rcases (done_iff _).1 hj with h|h
    ·exact I.bd j h
    ·rw[<-h];exact F.lt x hx
   ·intro t u hu hno
    have hxt:x.o.dst≠some t:=hno x hx ((done_iff _).2 (.inr rfl)) hnS
    rw[look' t hxt]at hu
    exact I.fr t u hu fun y hy hdy hnl=>hno y hy ((done_iff _).2 (.inl hdy)) hnl
   ·intro y hy hdy hnl
    rcases (done_iff _).1 hdy with h|h
    ·have hyx:x.i≠y.i:=fun e=>by rw[<-e,hnd]at h;cases h
     obtain ⟨⟨u,hu,hru⟩,hp⟩:=I.rd y hy h hnl
     refine ⟨⟨u,fun t ht=>?_,fun a' w' hag hext=>hru a' w' (fun t ht u' hu'=>hag t ht u' ?_) hext⟩,fun h1=>pend' _ (hp h1)⟩
     ·have hne:x.o.dst≠some t:=fun e=>(QdN (ok x hx y hy) e hc2 hyx).1 ht
      rw[look' t hne];exact hu t ht
     ·have hne:x.o.dst≠some t:=fun e=>by
       have:=(QdN (ok x hx y hy) e hc2 hyx).2 ht
       have:=I.cD y hy h _ this
       rw[hnd]at this;cases this
      rw[look' t hne];exact hu'
    ·have:=F.un x hx y hy h;subst this
     refine ⟨⟨v,dst',fun a' w' hag hext=>hr a' w' (fun t ht u hu=>hag t ht u ?_) hext⟩,fun h1=>?_⟩
     ·have hne:x.o.dst≠some t:=fun e=>okPair_self (ok x hx x hx) e hc2 ht
      rw[look' t hne];exact hu
     ·rw[h1]
      show has (Nat.lor pend (Nat.shiftLeft 1 x.i)) x.i=true
      rw[QfD];simp
theorem wpOp_at {i:Nat} {o:Oper} {K':Act->World->Prop} {Q:Exit->Act->World->Prop} {a:Act} {w:World} (ho:ops[i]?=some o)
  (h:(Region.wanted o (yielded ops.toArray a.tmps)=true/\o.wp P a w K' Q)\/(Region.wanted o (yielded ops.toArray a.tmps)=false/\K' (a.put o.dst undef) w)):
  wpOp P ops.toArray Q i K' a w:=by
 unfold wpOp
 have:ops.toArray[i]?=some o:=by simpa using ho
 rw[this]
 rcases h with ⟨h1,h2⟩|⟨h1,h2⟩
 ·simp only[h1,if_true];exact .inl h2
 ·simp only[h1,Bool.false_eq_true,if_false];exact h2
theorem Qc4 {listed:Array Bool} {i j:Nat} (hi:i<listed.size):Lst (listed.setIfInBounds i true) j↔(Lst listed j\/i=j):=by
 unfold Lst
 by_cases h:i=j
 ·subst h;simp[hi]
 ·simp only[h,or_false]
  rw[getD_set_ne false h]
theorem count_set {l:List Bool} {i:Nat} (h:l[i]?=some false):(l.set i true).count false+1=l.count false:=by
 induction l generalizing i with
 |nil=>simp at h
 |cons b l ih=>
  cases i with
  |zero=>simp at h;subst h;simp
  |succ i=>
   simp at h
   have:=ih h
   simp only[List.set_cons_succ,List.count_cons]
   omega
theorem vAny_sound (hcal:CalOk P cal) (F:Facts P cal ops info) (hws:∀x∈info,∀t,x.o.dst=some t->t∈ws) (ok:∀x∈info,∀y∈info,Qi1 ops x y=true)
  (oke:∀x∈info,∀e∈x.o.after.toList,isAny e=true->e.on<x.i) (hall:∀j,has all j=true↔j<ops.length) {Q:Exit->Act->World->Prop} {w0:World}
  (hQ:∀L a w,Qdu N L a->Qgp ws L0 L->K L w.heap->Env w0 w->Q .normal a w):∀{fw:Nat} {listed:Array Bool} {a:Act} {w:World} {fuel done pend:Nat} {L:Fr},
  listed.toList.count false=fw->Inv P cal N ops info all K ws L0 listed a w done pend L fuel->Env w0 w->wpAny P .any ops.toArray Q fw listed a w:=by
 have fin:∀{listed:Array Bool} {a:Act} {w:World} {fuel done pend:Nat} {L:Fr},Inv P cal N ops info all K ws L0 listed a w done pend L fuel->Env w0 w->
   Region.ready .any ops.toArray listed=[]->Q .normal a w:=by
  intro listed a w fuel done pend L I he hr
  have hS:∀k,k<ops.length->Lst listed k:=by
   intro k
   induction k using Nat.strongRecOn with
   |_ k ih=>
    intro hk
    cases hl:listed.getD k false with
    |true=>exact hl
    |false=>
     exfalso
     obtain ⟨x,hx,hxk⟩:=F.ex k hk
     have:k∈Region.ready .any ops.toArray listed:=by
      rw[mem_ready]
      refine ⟨?_,x.o,by have:=F.op x hx;rw[hxk]at this;simpa using this,fun e he' hb=>?_⟩
      ·have hlt:k<listed.size:=by rw[I.sz];exact hk
       simpa [Array.getD,hlt]using hl
      ·rw[binds_isAny]at hb
       have hlt:=oke x hx e (by simpa using he') hb
       exact ih e.on (by omega) (by omega)
     rw[hr]at this;cases this
  obtain ⟨fuel',done',pend',L',I',hf⟩:=I.norm F hws ok
  have hd:done'=all:=by
   apply Nat.eq_of_testBit_eq
   intro j
   show has done' j=has all j
   cases h1:has all j with
   |true=>exact I'.sub j (hS j ((hall j).1 h1))
   |false=>
    cases h2:has done' j with
    |false=>rfl
    |true=>rw[(hall j).2 (I'.bd j h2)]at h1;cases h1
  have hv:=I'.vc
  cases fuel' with
  |zero=>exact hv.elim
  |succ n=>
   unfold vAny at hv
   rw[hd]at hv hf
   simp only[hf,Nat.beq_refl,cond_true]at hv
   exact hQ L' a w ⟨I'.hd,I'.hn,fun t v h=>I'.fr t v h fun x hx _ hno=>absurd (hS _ (F.lt x hx)) hno⟩ I'.sm hv he
 intro fw
 induction fw with
 |zero=>
  intro listed a w fuel done pend L hc I he
  have hnone:Region.ready .any ops.toArray listed=[]:=by
   cases hr:Region.ready .any ops.toArray listed with
   |nil=>rfl
   |cons i is=>
    have:i∈Region.ready .any ops.toArray listed:=by rw[hr];simp
    obtain ⟨h1,o,ho,_⟩:=mem_ready.1 this
    have hlt:i<listed.size:=by
     rw[I.sz]
     have:=(Array.getElem?_eq_some_iff.1 ho).1
     simpa using this
    have hm:false∈listed.toList:=by
     have h3:listed[i]=false:=by simpa [Array.getD,hlt]using h1
     rw[<-h3];simp
    have:=List.count_pos_iff.2 hm
    omega
  exact ⟨hnone,fin I he hnone⟩
 |succ fw ih=>
  intro listed a w fuel done pend L hc I he
  refine ⟨fin I he,fun i hi=>?_⟩
  obtain ⟨fuel',done',pend',L',I',hf⟩:=I.norm F hws ok
  obtain ⟨h1,o,ho,hedge⟩:=mem_ready.1 hi
  have hin:i<ops.length:=by
   have:=(Array.getElem?_eq_some_iff.1 ho).1
   simpa using this
  have hlt:i<listed.size:=by rw[I.sz];exact hin
  obtain ⟨x,hx,rfl⟩:=F.ex i hin
  have hxo:o=x.o:=by
   have:=F.op x hx
   simp at ho;rw[this]at ho;exact (Option.some.inj ho).symm
  subst hxo
  have hnl:¬Lst listed x.i:=by
   unfold Lst
   have h3:listed[x.i]=false:=by simpa [Array.getD,hlt]using h1
   simp[Array.getD,hlt,h3]
  have hcount:(listed.setIfInBounds x.i true).toList.count false=fw:=by
   have h3:listed[x.i]=false:=by simpa [Array.getD,hlt]using h1
   have:=count_set (l:=listed.toList) (i:=x.i) (by simp[hlt,h3])
   simp only[Array.toList_setIfInBounds]
   omega
  have hbf:∀j,has x.bf j=true->Lst listed j:=by
   intro j hj
   obtain ⟨e,he',hany,hor⟩:=F.bf x hx j hj
   have hl:Lst listed e.on:=hedge e (by simpa using he') (by rw[binds_isAny];exact hany)
   rcases hor with h|⟨y,hy,hye,hyj⟩
   ·rw[<-h];exact hl
   ·exact I.cS y hy (by rw[hye];exact hl) j hyj
  have hslots:∀t∈QcV ops x.o,∀u,QdD L' t=some u->a.tmps.getD t undef=u:=by
   intro t ht u hu
   refine I'.fr t u hu fun y hy hdy hny hdst=>?_
   have hy2:y.cl≠2:=fun h2=>hny (I'.eff y hy hdy h2)
   by_cases hyx:y.i=x.i
   ·have:=F.un y hy x hx hyx;subst this
    exact okPair_self (ok y hy y hy) hdst hy2 ht
   ·exact hny (hbf _ ((QdN (ok y hy x hx) hdst hy2 hyx).2 ht))
  cases hdone:has done' x.i with
  |true=>
   obtain ⟨⟨v,hdst,hv⟩,hp⟩:=I'.rd x hx hdone hnl
   have next:wpAny P .any ops.toArray Q fw (listed.setIfInBounds x.i true) (a.put x.o.dst v) w:=by
    refine ih hcount (fuel:=fuel') (done:=done') (pend:=pend') (L:=L') ⟨I'.sm,by simp[I'.sz],?_,?_,?_,I'.cD,I'.bd,?_,?_,?_,?_,I'.vc⟩ he
    ·intro j hj
     rcases (Qc4 hlt).1 hj with h|h
     ·exact I'.sub j h
     ·rw[<-h];exact hdone
    ·intro y hy hdy h2
     exact (Qc4 hlt).2 (.inl (I'.eff y hy hdy h2))
    ·intro y hy hly j hj
     refine (Qc4 hlt).2 (.inl ?_)
     rcases (Qc4 hlt).1 hly with h|h
     ·exact I'.cS y hy h j hj
     ·have:=F.un x hx y hy h;subst this;exact hbf j hj
    ·cases x.o.dst<;>exact I'.hd
    ·cases hd:x.o.dst with
     |none=>exact I'.hn
     |some d=>simp[Act.put,I'.hn]
    ·intro t u hu hno
     by_cases hxt:x.o.dst=some t
     ·obtain ⟨g1,g2⟩:=hdst t hxt
      rw[g1]at hu;simp only[Option.some.injEq]at hu;subst hu
      rw[hxt];simp[Act.put,I'.hn,g2]
     ·have hold:=I'.fr t u hu fun y hy hdy hny=>by
       by_cases hyx:x.i=y.i
       ·have:=F.un x hx y hy hyx;subst this;exact hxt
       ·exact hno y hy hdy fun h=>by
         rcases (Qc4 hlt).1 h with h|h
         ·exact hny h
         ·exact hyx h
      cases hd:x.o.dst with
      |none=>exact hold
      |some d=>
       have hne:d≠t:=fun e=>hxt (by rw[hd,e])
       simpa [Act.put,Array.getElem?_setIfInBounds_ne hne]using hold
    ·intro y hy hdy hny
     exact I'.rd y hy hdy fun h=>hny ((Qc4 hlt).2 (.inl h))
   rcases hv a w hslots (.inr (Qji.refl _)) with ⟨hw,hr⟩|⟨hw,rfl⟩
   ·refine wpOp_at (F.op x hx) (.inl ⟨hw,?_⟩)
    unfold Oper.wp
    rw[hr,Oper.upon_value]
    exact next
   ·exact wpOp_at (F.op x hx) (.inr ⟨hw,next⟩)
  |false=>
   have hsub:subM x.bf done'=true:=subM_iff.2 fun j hj=>I'.sub j (hbf j hj)
   have h2:x.cl=2:=firstR_none hf hx hdone hsub
   have hv:=I'.vc
   cases hfu:fuel' with
   |zero=>rw[hfu]at hv;exact hv.elim
   |succ n=>
    rw[hfu]at hv
    unfold vAny at hv
    have hne:Nat.beq done' all=false:=by
     cases hb:Nat.beq done' all with
     |false=>rfl
     |true=>
      have:=Nat.eq_of_beq_eq_true hb
      rw[this]at hdone
      rw[(hall x.i).2 hin]at hdone;cases hdone
    simp only[hf,hne,cond_false]at hv
    have hv':=andL_mem hv x (mem_readyE hx hdone hsub h2)
    have next:∀(v:Value) (w':World),(putK N L' x.o.dst v fun L''=>stabK (lessM pend' x.bf) w.heap w'.heap
      (vAny P cal N ops info all n (Nat.lor done' (Nat.shiftLeft 1 x.i)) (lessM pend' x.bf) L'' w'.heap K))->Env w w'->
      wpAny P .any ops.toArray Q fw (listed.setIfInBounds x.i true) (a.put x.o.dst v) w':=by
     intro v w' hk he'
     obtain ⟨L'',hL'',hst⟩:∃L'',((x.o.dst=none/\L''=L')\/∃d,x.o.dst=some d/\d<N/\L''=(d,v)::L')/\
       stabK (lessM pend' x.bf) w.heap w'.heap (vAny P cal N ops info all n (Nat.lor done' (Nat.shiftLeft 1 x.i)) (lessM pend' x.bf) L'' w'.heap K):=by
      unfold putK at hk
      split at hk
      ·rename_i hd;exact ⟨L',.inl ⟨hd,rfl⟩,hk⟩
      ·rename_i d hd
       cases hb:Nat.blt d N with
       |false=>simp[hb]at hk
       |true=>
        simp only[hb,cond_true]at hk
        exact ⟨_,.inr ⟨d,hd,Nat.le_of_ble_eq_true hb,rfl⟩,hk⟩
     have look':∀t,x.o.dst≠some t->QdD L'' t=QdD L' t:=by
      intro t ht
      rcases hL'' with ⟨_,rfl⟩|⟨d,hd,_,rfl⟩
      ·rfl
      ·simp only[QdD]
       have:Nat.beq d t=false:=by
        cases hb:Nat.beq d t with
        |false=>rfl
        |true=>exact absurd (by rw[hd,Nat.eq_of_beq_eq_true hb]) ht
       rw[this];rfl
     have hstab:(∀y,has pend' y=true->has x.bf y=false->Qji w.heap w'.heap)/\
       vAny P cal N ops info all n (Nat.lor done' (Nat.shiftLeft 1 x.i)) (lessM pend' x.bf) L'' w'.heap K:=by
      unfold stabK at hst
      cases hz:Nat.beq (lessM pend' x.bf) 0 with
      |true=>
       simp only[hz,cond_true]at hst
       refine ⟨fun y hy hn=>?_,hst⟩
       have h0:=Nat.eq_of_beq_eq_true hz
       have:has (lessM pend' x.bf) y=true:=by rw[has_lessM,hy,hn];rfl
       rw[h0]at this;simp[has]at this
      |false=>
       simp only[hz,cond_false]at hst
       exact ⟨fun _ _ _=>hst.1,hst.2⟩
     have done_iff:∀j,has (Nat.lor done' (Nat.shiftLeft 1 x.i)) j=true↔(has done' j=true\/x.i=j):=fun j=>by
      rw[QfD];simp
     refine ih hcount (fuel:=n) (done:=Nat.lor done' (Nat.shiftLeft 1 x.i)) (pend:=lessM pend' x.bf) (L:=L'') ⟨(by
      rcases hL'' with ⟨_,rfl⟩|⟨d,hd,_,rfl⟩
      ·exact I'.sm
      ·exact I'.sm.cons (hws x hx d hd) v),by simp[I'.sz],?_,?_,?_,?_,?_,?_,?_,?_,?_,hstab.2⟩ (he.trans he')
     ·intro j hj
      rcases (Qc4 hlt).1 hj with h|h
      ·exact (done_iff j).2 (.inl (I'.sub j h))
      ·exact (done_iff j).2 (.inr h)
     ·intro y hy hdy h2'
      rcases (done_iff _).1 hdy with h|h
      ·exact (Qc4 hlt).2 (.inl (I'.eff y hy h h2'))
      ·exact (Qc4 hlt).2 (.inr h)
     ·intro y hy hly j hj
      refine (Qc4 hlt).2 (.inl ?_)
      rcases (Qc4 hlt).1 hly with h|h
      ·exact I'.cS y hy h j hj
      ·have:=F.un x hx y hy h;subst this;exact hbf j hj
     ·intro y hy hdy j hj
      refine (done_iff j).2 (.inl ?_)
      rcases (done_iff _).1 hdy with h|h
      ·exact I'.cD y hy h j hj
      ·have:=F.un x hx y hy h;subst this;exact I'.sub j (hbf j hj)
     ·intro j hj
      rcases (done_iff j).1 hj with h|h
      ·exact I'.bd j h
      ·omega
     ·cases x.o.dst<;>exact I'.hd
     ·cases hd:x.o.dst with
      |none=>exact I'.hn
      |some d=>simp[Act.put,I'.hn]
     ·intro t u hu hno
      rcases hL'' with ⟨hd,rfl⟩|⟨d,hd,hdN,rfl⟩
      ·rw[hd]
       exact I'.fr t u hu fun y hy hdy hny=>hno y hy ((done_iff _).2 (.inl hdy)) fun h=>by
        rcases (Qc4 hlt).1 h with h|h
        ·exact hny h
        ·rw[<-h,hdone]at hdy;cases hdy
      ·rw[hd]
       simp only[QdD]at hu
       cases hb:Nat.beq d t with
       |true=>
        have:=Nat.eq_of_beq_eq_true hb;subst this
        simp only[hb,cond_true,Option.some.injEq]at hu;subst hu
        simp[Act.put,I'.hn,hdN]
       |false=>
        simp only[hb,cond_false]at hu
        have hne:d≠t:=fun e=>by subst e;simp at hb
        have:=I'.fr t u hu fun y hy hdy hny=>hno y hy ((done_iff _).2 (.inl hdy)) fun h=>by
         rcases (Qc4 hlt).1 h with h|h
         ·exact hny h
         ·rw[<-h,hdone]at hdy;cases hdy
        simpa [Act.put,Array.getElem?_setIfInBounds_ne hne]using this
     ·intro y hy hdy hny
      have hny':¬Lst listed y.i:=fun h=>hny ((Qc4 hlt).2 (.inl h))
      have hyx:x.i≠y.i:=fun e=>hny ((Qc4 hlt).2 (.inr e))
      have hdy':has done' y.i=true:=((done_iff _).1 hdy).resolve_right hyx
      have hy2:y.cl≠2:=fun h=>hny' (I'.eff y hy hdy' h)
      have hnb:has x.bf y.i=false:=by
       cases hb:has x.bf y.i with
       |false=>rfl
       |true=>exact absurd (hbf _ hb) hny'
      obtain ⟨⟨u,hu,hru⟩,hp⟩:=I'.rd y hy hdy' hny'
      refine ⟨⟨u,fun t ht=>?_,fun a' w'' hag hext=>hru a' w'' (fun t ht u' hu'=>hag t ht u' ?_) ?_⟩,fun h1=>?_⟩
      ·have hne:x.o.dst≠some t:=fun e=>(QdN (ok y hy x hx) ht hy2 (Ne.symm hyx)).1 e
       rw[look' t hne];exact hu t ht
      ·have hne:x.o.dst≠some t:=fun e=>by
        rcases okPair_effect (ok x hx y hy) e h2 hy2 ht hyx with h|h
        ·have:=I'.cD y hy hdy' _ h
         rw[hdone]at this;cases this
        ·rw[hnb]at h;cases h
       rw[look' t hne];exact hu'
      ·rcases hext with h|h
       ·exact .inl h
       ·rcases cls_le P cal y.o with h0|h0|h0
        ·exact .inl (by rw[F.cl y hy hy2];exact h0)
        ·exact .inr ((hstab.1 y.i (hp (by rw[F.cl y hy hy2];exact h0)) hnb).trans h)
        ·exact absurd (by rw[F.cl y hy hy2];exact h0) hy2
      ·rw[has_lessM,hp h1,hnb];rfl
    refine wpOp_at (F.op x hx) ?_
    rcases vopG_cases (a:=a) hv' (fun j wnt t g hg ht hgv=>hslots t (guard_slot hg ht) g hgv) with ⟨hw,hvop⟩|⟨hw,hk⟩
    ·refine .inl ⟨hw,Oper.wp_mono ?_ (vop_sound (Q:=Q) hcal (QhC hslots) hvop)⟩
     rintro a' w' ⟨v,rfl,hk,he'⟩
     exact next v w' hk he'
    ·exact .inr ⟨hw,next undef w hk (Env.refl w)⟩
theorem vReg_sound (hcal:CalOk P cal) {id:Nat} {L:Fr} {a:Act} {w:World} {Q:Exit->Act->World->Prop} (ha:Qdu N L a) (hws:∀o∈ops,∀t,o.dst=some t->t∈ws) (hs:Qgp ws L0 L)
  (hQ:∀L a w',Qdu N L a->Qgp ws L0 L->K L w'.heap->Env w w'->Q .normal a w') (h:vReg P cal N ops L w.heap K):(Code.region id ops.toArray true).wp P Q a w:=by
 unfold vReg at h
 cases hb:(P.follows .mixedOrders&&okReg ops (mkInfoR P cal ops)&&Region.noSelect ops.toArray) with
 |false=>simp[hb]at h
 |true=>
  simp only[hb,cond_true]at h
  simp only[Bool.and_eq_true]at hb
  obtain ⟨⟨hf,hok⟩,hns⟩:=hb
  unfold okReg at hok
  simp only[List.all_eq_true,Bool.and_eq_true]at hok
  have F:=mkInfoR_facts P cal ops
  refine wp_region_any hf ?_
  refine vAny_sound (w0:=w) hcal F (fun x hx=>hws x.o (List.mem_of_getElem? (F.op x hx))) (fun x hx y hy=>(hok x hx).2 y hy) (fun x hx e he hany=>?_) (fun j=>?_) hQ (listed:=Array.replicate ops.toArray.size false) (by simp)
   (fuel:=ops.length+1) (done:=0) (pend:=0) (L:=L) ⟨hs,by simp,?_,?_,?_,?_,?_,ha.d,ha.n,?_,?_,h⟩ ⟨rfl,rfl,rfl⟩
  ·have:=(hok x hx).1 e he
   rw[hany]at this
   exact Nat.le_of_ble_eq_true this
  ·show Nat.testBit (1<<<ops.length-1) j=true↔_
   rw[Nat.shiftLeft_eq,Nat.one_mul,Nat.testBit_two_pow_sub_one]
   simp
  ·intro i hi
   unfold Lst at hi
   exfalso
   by_cases hlt:i<ops.length
   ·simp[Array.getD,hlt]at hi
   ·simp[Array.getD,hlt]at hi
  ·intro x _ hd;simp[has]at hd
  ·intro x hx hl
   unfold Lst at hl
   exfalso
   by_cases hlt:x.i<ops.length
   ·simp[Array.getD,hlt]at hl
   ·simp[Array.getD,hlt]at hl
  ·intro x _ hd;simp[has]at hd
  ·intro j hd;simp[has]at hd
  ·intro t v ht _;exact ha.r t v ht
  ·intro x _ hd;simp[has]at hd
end
end Go.Vc
