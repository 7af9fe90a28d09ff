/- WHAT IS PROVED: the given statement of FnMonsterWritten, whatever the input: this is part 12 of 14. No conditions. -/
import Derived.Test.YtkkcpkfpegmgbaaGreatX11
set_option linter.all false
namespace Go.Proofs
open Go Go.Vc
open Tryz (prog)
theorem tab_lt {H:Qe} {p B:Nat} {bs:List UInt8} {pos:Nat} (h:Tab H p B bs pos):p<H.size:=by
 rcases Nat.lt_or_ge p H.size with h'|h'
 ·exact h'
 ·have:=h.c0
  unfold QaW at this
  rw[Array.getElem?_eq_none h']at this
  cases this
section
variable {zs:List Value} {T:TypeId} {G0:Cut} {H0:Qe} {q:Nat} {G:Cut} {H:Qe} {done:List Value} (us:US zs T G0 H0 q G H done) {p B:Nat} {bs:List UInt8} {pos:Nat} (ht:Tab H0 p B bs pos)
include us ht
theorem up_bytes {A vt vo i:Nat} {f:FuncId} (hf:BytOk f vo) (hv:VT bs pos vt) {xs:List UInt8} (own:YD A bs pos vt vo (xs=[]) (Qb3 (QhF xs))) (hB:BufG G0 B bs) (hi:i=done.length) (hz:i<zs.length) {K:Qe->Prop}
  (hk:∀H' v,US zs T G0 H0 q G H' (v::done)->SlV G 1 v (xs.map bytI)->K H'):Qa prog f #[ptr p] H fun v h1=>Qe5 (ptr q) i h1 v K:=by
 refine hf (Qfh us ht) hv (fun h0=>?_) (fun h1=>?_)
 ·have:=own.zero h0
  subst this
  exact us.put hi hz rfl fun H' u _=>hk H' _ u (SlV.nil _ _)
 ·obtain ⟨_,hq⟩:=own.got h1
  obtain ⟨g1,g2⟩:=QhF.at hq
  have g3:=g2.1
  exact ⟨_,g1,us.put hi hz rfl fun H' u _=>hk H' _ u (buf_sl (hB.mono us.ext.le) us.ext.inn (Qfh us ht).u8 g2 rfl (by omega))⟩
theorem up_opt {α:Type} {f g:FuncId} {i:Nat} (P:α->Cut->Value->Prop) {l:List α} (hn:∀H' (R:Kn),R (.pointer none) H'->FnS prog g #[.pointer none] H' R)
  (h:(l=[]/\∀H' (R:Kn),Tab H' p B bs pos->R (.pointer none) H'->FnS prog f #[ptr p,.pointer none] H' R)\/
   ∃x loc tz,l=[x]/\loc<=bs.length/\(∀H' (R:Kn),Tab H' p B bs pos->R (ptr H'.size) (H'.push (.cells #[bsl B 0 bs.length bs.length,.int .u32 (loc:Nat)] tz))->FnS prog f #[ptr p,.pointer none] H' R)/\
    ∀G' H' p' (R:Kn),Tab H' p' B bs loc->G0.le G'->G'.In H'->(∀G2 H2 v,Ext G' H' G2 H2->v.oneCell'=true->(∃a,v= .pointer (some a))->P x G2 v->R v H2)->FnS prog g #[ptr p'] H' R)
  (hi:i=done.length) (hz:i<zs.length) {K:Qe->Prop} (hk:∀G' H' v,US zs T G0 H0 q G' H' (v::done)->G.le G'->OptO P l G' v->K H'):
  Qa prog f #[ptr p,.pointer none] H fun a h1=>Qa prog g #[a] h1 fun v h2=>Qe5 (ptr q) i h2 v K:=by
 rcases h with ⟨h1,h2⟩|⟨x,loc,tz,h1,h2,h3,h4⟩
 ·exact h2 H _ (Qfh us ht) (hn _ _ (us.put hi hz rfl fun H' u _=>hk G H' _ u (Cut.le_refl G) (Or.inl ⟨h1,rfl⟩)))
 ·have u2:=us.push (.cells #[bsl B 0 bs.length bs.length,.int .u32 (loc:Nat)] tz)
  refine h3 H _ (Qfh us ht) (h4 G _ _ _ ⟨Qj Qh,Qj Qh,(Qfh u2 ht).u8,ht.lt,h2⟩ us.ext.le u2.ext.inn fun G2 H2 v e g1 g2 g3=>?_)
  exact (u2.next e).put hi hz g1 fun H' u _=>hk G2 H' v u e.le (Or.inr ⟨x,h1,g2,g3⟩)
end
def altK (tk T:TypeId) (z z2:Array Value) (t2:TypeId) (g:FuncId) (it:TypeId) (k:Int) (x0 x3:Value) (h1:Qe) (R:Kn) (E:Prop):Prop:=
 Qk prog .eql tk x0 (.int .u8 k) fun c=>IfK c (LdN h1 2 x3 fun tb=>Qz z2.toList [(0,2,tb)] fun o=>Y5 h1 (.cells z2 t2) fun y h2=>StK h2 2 y o fun h3=>Qa prog g #[y] h3 fun v h4=>
  Qz z.toList [(0,1,(.int .u8 k)),(1,1,(.iface it v))] fun u=>Y5 h4 (.cells (Value.cells u) T) fun w h5=>R w h5) E
def AnyS (tk T:TypeId) (z z2:Array Value) (t2:TypeId) (g2:FuncId) (it2:TypeId) (x0 x1:Value) (h:Qe) (R:Kn):Prop:=
 Y5 h (.cells (Value.cells x1) 185) fun x3 h1=>altK tk T z z187 187 33 89 1 x0 x3 h1 R
  (altK tk T z z2 t2 g2 it2 2 x0 x3 h1 R (altK tk T z z187 187 33 89 3 x0 x3 h1 R (R (.pointer none) h1)))
theorem fillPair {z:Array Value} (hz:z.size=2) (a b:Value) (ha:a.oneCell'=true) (hb:b.oneCell'=true):YJ z.toList [(0,1,a),(1,1,b)]=some [a,b]:=by
 obtain ⟨l⟩:=z
 match l,hz with
 |[x,y],_=>
  have e1:a.cells=#[a]:=Qf3 ha
  have e2:b.cells=#[b]:=Qf3 hb
  simp[YJ,e1,e2]
theorem fillWhole {z:Array Value} (hz:z.size=2) (a b:Value):YJ z.toList [(0,2,.agg #[a,b])]=some [a,b]:=by
 obtain ⟨l⟩:=z
 match l,hz with
 |[x,y],_=>simp[YJ,Value.cells]
theorem QeZ {tk T:TypeId} {z z2:Array Value} {t2:TypeId} {g:FuncId} {it:TypeId} {k n:Int} {x3:Value} {h1:Qe} {R:Kn} {E:Prop} (hne:n≠k) (hE:E):altK tk T z z2 t2 g it k (.int .u8 n) x3 h1 R E:=by
 unfold altK
 rw[Yt,QM hne]
 exact hE
theorem altK_hit {tk T:TypeId} {z z2:Array Value} (hz:z.size=2) (hz2:z2.size=2) {t2:TypeId} {g:FuncId} {it:TypeId} {k:Int} {q3:Nat} {h1:Qe} {R:Kn} {E:Prop} {a b:Value} {t3:TypeId} (hq:h1[q3]?=some (.cells #[a,b] t3 (0,0))) (ha:a.oneCell'=true) (hb:b.oneCell'=true) {G:Cut} (Q:Cut->Value->Prop) (hQ:∀F F' v,Cut.le F F'->Q F v->Q F' v)
  (hg:∀R':Kn,(∀G2 H2 v,Ext G (h1.push (.cells #[a,b] t2)) G2 H2->v.oneCell'=true->Q G2 v->R' v H2)->FnS prog g #[ptr h1.size] (h1.push (.cells #[a,b] t2)) R')
  (hR:∀G2 H2 v w,Ext G (h1.push (.cells #[a,b] t2)) G2 H2->w.oneCell'=true->Za G2 w #[.int .u8 k,.iface it v]->Q G2 v->R w H2):altK tk T z z2 t2 g it k (.int .u8 k) (ptr q3) h1 R E:=by
 unfold altK
 rw[Yt,Yb rfl,YI (n:=2) (vs:=[a,b]) (by rw[Q4 hq 2 (by simp)];rfl)]
 refine Y6 (fillWhole hz2 a b) ?_
 rw[Qy,Yg (n:=2) (c':=#[a,b]) Qh hz2 rfl (by decide) (by intro v hv;simp at hv;rcases hv with rfl|rfl<;>assumption),Yq]
 refine hg _ fun G2 H2 v e h1 h2=>?_
 refine Y6 (fillPair hz _ _ rfl rfl) ?_
 rw[Qy]
 exact hR _ _ v _ (e.pushG _) rfl ⟨_,_,rfl,Cut.upd_same⟩ (hQ _ _ _ (Cut.le_upd (e.inn.none (Nat.le_refl _))) h2)
abbrev AnyOk (un:FuncId) (amb:Bool):Prop:=∀{A B t:Nat} {bs:List UInt8} {ty color:UInt8} {kids:List Mon} {G:Cut} {H:Qe} {R:Kn} (_:G.In H) (_:BufG G B bs) (_:∀k∈kids,Qh2 k) (_:ty≠0) (_:ty<=3) (_:U8s H B 0 bs) (_:bs.length<2147483648) (_:t<=bs.length)
 (_:UnW amb ty color (Rw1 kids) A bs t) (_:∀G' H' v,Ext G H G' H'->v.oneCell'=true->UniO amb ty (Qh4 amb ty color) (rdU amb ty (rw1 kids)=[]) (Qdx (rdU amb ty (rw1 kids))) G' v->R v H'),
 FnS prog un #[u8n ty,.agg #[bsl B 0 bs.length bs.length,.int .u32 (t:Nat)]] H R
theorem any_kid {A B t:Nat} {bs:List UInt8} {kids:List Mon} {G:Cut} {H1:Qe} (hG:G.In H1) (hB:BufG G B bs) (hK:∀k∈kids,Qh2 k) (hu:U8s H1 B 0 bs) (hl:bs.length<2147483648) (htl:t<=bs.length) (hr:Rw1 kids A bs t) (R':Kn)
  (h:∀G2 H2 v,Ext G (H1.push (.cells #[bsl B 0 bs.length bs.length,.int .u32 (t:Nat)] 187)) G2 H2->v.oneCell'=true->Qdx (rw1 kids) G2 v->R' v H2):
  FnS prog 33 #[ptr H1.size] (H1.push (.cells #[bsl B 0 bs.length bs.length,.int .u32 (t:Nat)] 187)) R':=by
 cases kids with
 |nil=>rw[Rw1]at hr;exact hr.elim
 |cons m ms=>
  rw[Rw1]at hr
  refine hK m List.mem_cons_self A _ B t bs G _ R' ⟨Qj Qh,Qj Qh,QeO (Qaf.push _ _).ext hu,hl,htl⟩ hB (hG.push _) hr fun v H' G' e h1 h2=>h G' H' v e h1 ?_
  rw[rw1,Qdx]
  exact ⟨rfl,h2⟩
theorem u8_cases {ty:UInt8} (h0:ty≠0) (h3:ty<=3):ty=1\/ty=2\/ty=3:=by
 have:ty.toNat<=3:=UInt8.le_iff_toNat_le.1 h3
 have h0':ty.toNat≠0:=fun h=>h0 (UInt8.toNat_inj.1 h)
 have:ty.toNat=1\/ty.toNat=2\/ty.toNat=3:=by omega
 rcases this with h|h|h
 ·exact Or.inl (UInt8.toNat_inj.1 h)
 ·exact Or.inr (Or.inl (UInt8.toNat_inj.1 h))
 ·exact Or.inr (Or.inr (UInt8.toNat_inj.1 h))
theorem anyS_false {un:FuncId} {tk T:TypeId} {z:Array Value} (hz:z.size=2) (hw:∀{x0 x1 h R},AnyS tk T z z312 312 339 278 x0 x1 h R->FnS prog un #[x0,x1] h R):AnyOk un false:=by
 intro A B t bs ty color kids G H R hG hB hK h0 h3 hu hl htl hr hR
 apply hw
 unfold AnyS
 rw[Qy]
 have e0:=(Ext.refl hG).push (.cells (Value.cells (.agg #[bsl B 0 bs.length bs.length,.int .u32 (t:Nat)])) 185)
 have hu1:=QeO (Qaf.push H (.cells (Value.cells (.agg #[bsl B 0 bs.length bs.length,.int .u32 (t:Nat)])) 185)).ext hu
 have hq:(H.push (.cells (Value.cells (.agg #[bsl B 0 bs.length bs.length,.int .u32 (t:Nat)])) 185))[H.size]?=some (.cells #[bsl B 0 bs.length bs.length,.int .u32 (t:Nat)] 185 (0,0)):=Qh
 generalize H.push (.cells (Value.cells (.agg #[bsl B 0 bs.length bs.length,.int .u32 (t:Nat)])) 185)=H1 at *
 unfold UnW at hr
 rcases u8_cases h0 h3 with rfl|rfl|rfl
 ·rw[if_neg (by decide)]at hr
  refine altK_hit (k:=1) hz rfl hq rfl rfl (Qdx (rw1 kids)) (fun F F' v=>Qdx.mono _ F F' v) (fun R' h=>any_kid e0.inn hB hK hu1 hl htl hr R' h) fun G2 H2 v w e g1 g2 g3=>hR G2 H2 w ((e0.push _).trans e) g1 (Or.inr ⟨by decide,_,g2,Or.inr ⟨by decide,rfl,v,rfl,g3⟩⟩)
 ·rw[if_pos ⟨rfl,rfl⟩]at hr
  refine QeZ (by decide) (altK_hit (k:=2) hz rfl hq rfl rfl (fun F v=>Za F v #[u8n color]) (fun F F' v hl h=>h.mono hl) (fun R' h=>Qga ⟨Qj Qh,Qj Qh,QeO (Qaf.push _ _).ext hu1,hl,htl⟩ hr (e0.inn.push _) h) fun G2 H2 v w e g1 g2 g3=>hR G2 H2 w ((e0.push _).trans e) g1 (Or.inr ⟨by decide,_,g2,Or.inl ⟨rfl,rfl,rfl,v,rfl,g3⟩⟩))
 ·rw[if_neg (by decide)]at hr
  refine QeZ (by decide) (QeZ (by decide) (altK_hit (k:=3) hz rfl hq rfl rfl (Qdx (rw1 kids)) (fun F F' v=>Qdx.mono _ F F' v) (fun R' h=>any_kid e0.inn hB hK hu1 hl htl hr R' h) fun G2 H2 v w e g1 g2 g3=>hR G2 H2 w ((e0.push _).trans e) g1 (Or.inr ⟨by decide,_,g2,Or.inr ⟨by decide,rfl,v,rfl,g3⟩⟩)))
theorem anyS_true {un:FuncId} {tk T:TypeId} {z:Array Value} (hz:z.size=2) (hw:∀{x0 x1 h R},AnyS tk T z z187 187 33 89 x0 x1 h R->FnS prog un #[x0,x1] h R):AnyOk un true:=by
 intro A B t bs ty color kids G H R hG hB hK h0 h3 hu hl htl hr hR
 apply hw
 unfold AnyS
 rw[Qy]
 have e0:=(Ext.refl hG).push (.cells (Value.cells (.agg #[bsl B 0 bs.length bs.length,.int .u32 (t:Nat)])) 185)
 have hu1:=QeO (Qaf.push H (.cells (Value.cells (.agg #[bsl B 0 bs.length bs.length,.int .u32 (t:Nat)])) 185)).ext hu
 have hq:(H.push (.cells (Value.cells (.agg #[bsl B 0 bs.length bs.length,.int .u32 (t:Nat)])) 185))[H.size]?=some (.cells #[bsl B 0 bs.length bs.length,.int .u32 (t:Nat)] 185 (0,0)):=Qh
 generalize H.push (.cells (Value.cells (.agg #[bsl B 0 bs.length bs.length,.int .u32 (t:Nat)])) 185)=H1 at *
 unfold UnW at hr
 rw[if_neg (fun h=>Bool.noConfusion h.1)]at hr
 have hit:∀{k:Int} {E:Prop},(ty.toNat:Int)=k->Qh4 true ty color=0->rdU true ty (rw1 kids)=rw1 kids->altK tk T z z187 187 33 89 k (.int .u8 k) (ptr H.size) H1 R E:=fun {k E} hk hc hd=>by
  refine altK_hit hz rfl hq rfl rfl (Qdx (rw1 kids)) (fun F F' v=>Qdx.mono _ F F' v) (fun R' h=>any_kid e0.inn hB hK hu1 hl htl hr R' h) fun G2 H2 v w e g1 g2 g3=>hR G2 H2 w ((e0.push _).trans e) g1 (Or.inr ⟨h0,_,by rw[<-hk]at g2;exact g2,Or.inr ⟨fun h=>Bool.noConfusion h.1,hc,v,rfl,by rw[hd];exact g3⟩⟩)
 rcases u8_cases h0 h3 with rfl|rfl|rfl
 ·exact hit (k:=1) rfl rfl rfl
 ·exact QeZ (by decide) (hit (k:=2) rfl rfl rfl)
 ·exact QeZ (by decide) (QeZ (by decide) (hit (k:=3) rfl rfl rfl))
theorem Any_UnPack:AnyOk 264 false:=anyS_false (z:=z176) rfl w264
theorem Unique_UnPack:AnyOk 272 false:=anyS_false (z:=z179) rfl w272
theorem Qje:AnyOk 273 true:=anyS_true (z:=z182) rfl w273
theorem up_union {zs:List Value} {T:TypeId} {G0:Cut} {H0:Qe} {q:Nat} {G:Cut} {H:Qe} {done:List Value} (us:US zs T G0 H0 q G H done) {p B:Nat} {bs:List UInt8} {pos:Nat} (ht:Tab H0 p B bs pos) {A vt vo voT fld:Nat} (hv:VT bs pos vt) {f tyf un:FuncId} {amb:Bool} {ty color:UInt8} {kids:List Mon} (hf:UniOk f vo) (hty:Qih tyf 1 voT 0 vU8) (hun:AnyOk un amb)
  (oty:Sc 1 bs pos vt voT 0 ty.toNat) (own:YD A bs pos vt vo (ty=0) (Qb3 (UnW amb ty color (Rw1 kids)))) (hB:BufG G0 B bs) (hK:∀k∈kids,Qh2 k) (h3:ty<=3) (hfl:fld=done.length) (hzs:zs[fld]?=some (.pointer none)) {K:Qe->Prop}
  (hk:∀G' H' v,US zs T G0 H0 q G' H' (v::done)->G.le G'->UniO amb ty (Qh4 amb ty color) (rdU amb ty (rw1 kids)=[]) (Qdx (rdU amb ty (rw1 kids))) G' v->K H'):
  uniF prog z185 185 f tyf un (ptr p) (ptr q) fld H K:=by
 have hne:H.size≠p:=by have:=tab_lt (Qfh us ht);omega
 have u1:=us.push (.cells z185 185)
 refine uniF_of us hfl (UniO amb ty (Qh4 amb ty color) (rdU amb ty (rw1 kids)=[]) (Qdx (rdU amb ty (rw1 kids)))) rfl (by decide) hzs ?_ hk
 by_cases hz:slotAt bs vt vo=0
 ·have h0:=own.zero hz
  subst h0
  refine Or.inl ⟨fun R h=>hf (Qfh u1 ht) hv Qh rfl hne (fun _=>h) (fun h1=>absurd hz h1),fun G'=>Or.inl ⟨rfl,?_,?_,rfl⟩⟩
  ·simp[Qh4]
  ·simp[rdU]
 ·obtain ⟨h0,q1,_,q2,q3⟩:=own.got hz
  have u2:=us.push (.cells #[bsl B 0 bs.length bs.length,.int .u32 (tgt bs (pos+slotAt bs vt vo):Nat)] 185)
  refine Or.inr ⟨#[bsl B 0 bs.length bs.length,.int .u32 (tgt bs (pos+slotAt bs vt vo):Nat)],u8n ty,rfl,fun R h=>hf (Qfh u1 ht) hv Qh rfl hne (fun h1=>absurd h1 hz) (fun _=>⟨q1,q2,by rw[Yq];exact h⟩),fun R h=>?_,fun R h=>hun u2.ext.inn (hB.mono us.ext.le) hK h0 h3 (Qfh u2 ht).u8 ht.lt q2 q3 h⟩
  exact hty (Qfh u2 ht) hv oty h
end Go.Proofs
namespace Go.Proofs
open Go Go.Vc
open Tryz (prog)
theorem byte1_at {bs:List UInt8} {p:Nat} {b:UInt8} (h:Qx bs p [b]):byteN bs p=b.toNat:=by
 have:=h.byte (i:=0) (by simp)
 rw[Nat.add_zero]at this
 rw[this];simp[byteN,List.getD]
theorem unp_fin {zs:List Value} {T:TypeId} {G0:Cut} {H0:Qe} {q:Nat} {G:Cut} {H:Qe} {done cells:List Value} (us:US zs T G0 H0 q G H done) (he:done=cells):US zs T G0 H0 q G H cells:=he▸us
theorem objPtr {F:Cut} {v:Value} {c:Array Value} (h:Za F v c):∃a,v= .pointer (some a):=by
 obtain ⟨q,_,h,_⟩:=h
 exact ⟨_,h⟩
set_option maxHeartbeats 2000000 in
theorem unpTo_ok {d:Qbt} {tables enemy test uniq amb:List Mon} (hT:∀k∈tables,Qh2 k) (hE:∀k∈enemy,Qh2 k) (hU:∀k∈test,Qh2 k) (hQ:∀k∈uniq,Qh2 k) (hA:∀k∈amb,Qh2 k) (y1:d.testTy<=3) (y2:d.uniqTy<=3) (y3:d.ambTy<=3)
  {A p B pos vt q:Nat} {bs:List UInt8} {G0:Cut} {H0 H:Qe} (ht:Tab H0 p B bs pos) (hB:BufG G0 B bs) (own:OwnW A bs pos vt d)
  (sT:YD A bs pos vt 26 (tables=[]) (Qb3 (fun A bs t=>VecPW 4 tables.length A bs t/\RwL tables A bs (t+4)))) (sE:YD A bs pos vt 28 (enemy=[]) (Qb3 (Rw1 enemy))) (sU:YD A bs pos vt 20 (d.testTy=0) (Qb3 (UnW false d.testTy d.testColor (Rw1 test)))) (sQ:YD A bs pos vt 92 (d.uniqTy=0) (Qb3 (UnW false d.uniqTy d.uniqColor (Rw1 uniq)))) (sA:YD A bs pos vt 96 (d.ambTy=0) (Qb3 (UnW true d.ambTy d.ambColor (Rw1 amb))))
  (us:US z160.toList 160 G0 H0 q G0 H []) {R:Kn}
  (hR:∀G' H' c,US z160.toList 160 G0 H0 q G' H' (oCells (rwD d) c).reverse->OD G' (rwD d) d.pos.toList d.empty.toList c->(∃vs:List Value,SlV G' 1 c.tables (vs.map fun x=>[x])/\Qj2 (rwMs tables) G' vs)->((rw1 enemy=[]/\c.enemy= .pointer none)\/Qdx (rw1 enemy) G' c.enemy)->
   UniO false d.testTy (Qh4 false d.testTy d.testColor) (rdU false d.testTy (rw1 test)=[]) (Qdx (rdU false d.testTy (rw1 test))) G' c.test->UniO false d.uniqTy (Qh4 false d.uniqTy d.uniqColor) (rdU false d.uniqTy (rw1 uniq)=[]) (Qdx (rdU false d.uniqTy (rw1 uniq))) G' c.uniq->UniO true d.ambTy (Qh4 true d.ambTy d.ambColor) (rdU true d.ambTy (rw1 amb)=[]) (Qdx (rdU true d.ambTy (rw1 amb))) G' c.amb->R (.tuple #[]) H'):
  FnS prog 80 #[ptr p,ptr q] H R:=by
 have hv:=own.tab
 have hlt:=ht.lt
 apply w80
 unfold s80
 refine up_opt us ht (l:=d.pos.toList) VecO (fun H' R h=>up_nil w262 (by kernel_rfl) h) (by
  by_cases hz:slotAt bs vt 4=0
  ·exact Or.inl ⟨by rw[own.pos0.zero hz];rfl,fun H' R t h=>Qca t hv (fun _=>h) (fun h1=>absurd hz h1)⟩
  ·obtain ⟨hn,hq⟩:=own.pos0.got hz
   cases hp:d.pos with
   |none=>exact absurd hp hn
   |some v=>
    rw[hp]at hq
    have hq:Qx bs (pos+slotAt bs vt 4) (Qj8 v):=hq
    have hby:Qx bs (pos+slotAt bs vt 4) (Qj8 v):=hq
    have e0:=(vec3_at hby).1
    exact Or.inr ⟨v,pos+slotAt bs vt 4,_,rfl,by omega,fun H' R t h=>Qca t hv (fun h0=>absurd h0 hz) (fun _=>⟨by omega,h⟩),fun G' H' p' R t le hG h=>Qhq t hby hG fun G2 H2 x e h1 h2=>h G2 H2 x e h1 (by obtain ⟨_,h3,_⟩:=h2;exact objPtr h3) h2⟩) rfl (ltb rfl) fun G0 H0 c0 u0 le0 v0=>?_
 refine QcS u0 ht (fun H' R t h=>QbI t hv own.mana h) rfl (ltb rfl) rfl fun H1 u1=>?_
 refine QcS u1 ht (fun H' R t h=>Qb5 t hv own.hp h) rfl (ltb rfl) rfl fun H2 u2=>?_
 obtain ⟨n1,n2⟩:=own.name.there
 obtain ⟨n3,n4⟩:=QhF.at n2
 refine ZP (Qfh u2 ht) hv (fun h=>absurd h n1) (fun _=>⟨_,n3,?_⟩)
 refine (Qfh u2 ht).str n4 rfl ?_
 refine u2.put rfl (ltb rfl) rfl fun H3 u3 _=>?_
 refine up_bytes u3 ht Qdv hv own.inventory hB rfl (ltb rfl) fun H4 c4 u4 v4=>?_
 refine QcS u4 ht (fun H' R t h=>Zo t hv own.color h) rfl (ltb rfl) rfl fun H5 u5=>?_
 refine up_union u5 ht hv QdE Qcj Any_UnPack own.testTy sU hB hU y1 rfl rfl fun G6 H6 c6 u6 le6 v6=>?_
 obtain ⟨a7,f7,i7⟩:=own.test4.vecW (Yh (fun t:Qb8=>Qbi t.a.toNat t.b.toNat))
 rw[List.length_map]at f7
 have b7:=fun (i:Nat) a (ha:d.test4[i]?=some a)=>testB_at (i7 i _ (by rw[List.getElem?_map,ha];rfl))
 refine up_obj u6 ht rfl (ltb rfl) rfl (by decide) rfl (by decide) d.test4 (ItP Yw) ItP.mono (fun i=>a7+4*i) (by have:=Qej.n_le f7 (by decide);omega) (fun H' R t h=>Qbr t hv f7 h) (fun i a H' R t ha=>⟨by have:=(b7 i a ha).1;omega,fun q' hq h=>Qds t hv f7 (Qo ha) hq rfl h⟩) (fun i a G' H' p' ha t le hG R h=>Qc3 (A:=0) t (b7 i a ha) hG h) fun G7 H7 c7 u7 le7 v7=>?_
 obtain ⟨a8,f8,i8⟩:=own.strings.vecTW
 refine up_text u7 ht rfl (ltb rfl) rfl (by decide) d.strings (by have:=Qej.n_le f8 (by decide);omega) (fun H' R t h=>ZE t hv f8 h) (fun i a H' R t ha h=>Qah t hv f8 (Qo ha) (QhF.at (i8 i a ha)).1 (h _ _ _ (QhF.at (i8 i a ha)).2 rfl)) fun G8 H8 c8 u8 le8 v8=>?_
 obtain ⟨a9,f9,i9⟩:∃at_,Qej 4 bs pos vt 26 tables.length at_/\∀(i:Nat) a,tables[i]?=some a->Qb3 (RwM a) A bs (at_+4*i):=by
  rcases sT with ⟨h1,h2⟩|⟨h1,_,h3⟩
  ·subst h2
   exact ⟨0,Or.inl ⟨h1,rfl⟩,fun i x h=>by simp at h⟩
  ·obtain ⟨q1,q2,q3,⟨v1,v4⟩,q5⟩:=h3
   exact ⟨tgt bs (pos+slotAt bs vt 26)+4,Or.inr ⟨h1,q1,rfl,v4,v1,by omega⟩,RwL_get tables q5⟩
 refine up_obj u8 ht rfl (ltb rfl) rfl (by decide) rfl (by decide) tables (fun m=>ObjM (rwM m)) (fun m=>ObjM.mono _) (fun i=>tgt bs (a9+4*i)) (by have:=Qej.n_le f9 (by decide);omega) (fun H' R t h=>ZC t hv f9 h) (fun i a H' R t ha=>⟨(i9 i a ha).2.2.1,fun q' hq h=>Qae t hv f9 (Qo ha) (i9 i a ha).1 (i9 i a ha).2.2.1 hq rfl h⟩) (fun i a G' H' p' ha t le hG R h=>hT a (List.mem_of_getElem? ha) A p' B _ bs G' H' R t (hB.mono le) hG (i9 i a ha).2.2.2 fun v H2 G2 e h1 h2=>h G2 H2 v e h1 h2) fun G9 H9 c9 u9 le9 v9=>?_
 refine up_opt u9 ht (l:=rw1 enemy) ObjM (fun H' R h=>up_nil w33 (by kernel_rfl) h) (by
  by_cases hz:slotAt bs vt 28=0
  ·exact Or.inl ⟨by rw[sE.zero hz,rw1],fun H' R t h=>Qbn t hv (fun _=>h) (fun h1=>absurd hz h1)⟩
  ·obtain ⟨hn,q1,_,q2',q3'⟩:=sE.got hz
   cases enemy with
   |nil=>exact absurd rfl hn
   |cons m ms=>
    rw[Rw1]at q3'
    exact Or.inr ⟨rwM m,tgt bs (pos+slotAt bs vt 28),_,by rw[rw1],q2',fun H' R t h=>Qbn t hv (fun h0=>absurd h0 hz) (fun _=>⟨q1,q2',h⟩),fun G' H' p' R t le hG h=>hE m List.mem_cons_self A p' B _ bs G' H' R t (hB.mono le) hG q3' fun v H2 G2 e h1 h2=>h G2 H2 v e h1 (by obtain ⟨a,h3⟩:=h2.ptr;exact ⟨_,h3⟩) h2⟩) rfl (ltb rfl) fun G10 H10 c10 u10 le10 v10=>?_
 refine up_bytes u10 ht QaY hv own.nested hB rfl (ltb rfl) fun H11 c11 u11 v11=>?_
 refine up_opt u11 ht (l:=d.empty.toList) (ItP YL) (fun H' R h=>up_nil w267 (by kernel_rfl) h) (by
  by_cases hz:slotAt bs vt 32=0
  ·exact Or.inl ⟨by rw[own.empty.zero hz];rfl,fun H' R t h=>Qak t hv (fun _=>h) (fun h1=>absurd hz h1)⟩
  ·obtain ⟨hn,q1,_,q2',q3'⟩:=own.empty.got hz
   cases hp:d.empty with
   |none=>exact absurd hp hn
   |some s=>exact Or.inr ⟨s,tgt bs (pos+slotAt bs vt 32),_,rfl,q2',fun H' R t h=>Qak t hv (fun h0=>absurd h0 hz) (fun _=>⟨q1,q2',h⟩),fun G' H' p' R t le hG h=>Qhi t (q3' s hp) hG fun G2 H2 x e h1 h2=>h G2 H2 x e h1 (objPtr h2) h2⟩) rfl (ltb rfl) fun G12 H12 c12 u12 le12 v12=>?_
 refine QcS u12 ht (v:=.bool d.bool) (fun H' R t h=>YB t hv own.bool (by rw[QfA];exact h)) rfl (ltb rfl) rfl fun H13 u13=>?_
 refine QcS u13 ht (fun H' R t h=>Yc t hv own.s32 h) rfl (ltb rfl) rfl fun H14 u14=>?_
 refine QcS u14 ht (fun H' R t h=>QX t hv own.u32 h) rfl (ltb rfl) rfl fun H15 u15=>?_
 refine QcS u15 ht (fun H' R t h=>QN t hv own.s64 h) rfl (ltb rfl) rfl fun H16 u16=>?_
 refine QcS u16 ht (fun H' R t h=>QJ t hv own.u64 h) rfl (ltb rfl) rfl fun H17 u17=>?_
 refine QcS u17 ht (fun H' R t h=>QC t hv own.s32a h) rfl (ltb rfl) rfl fun H18 u18=>?_
 refine QcS u18 ht (fun H' R t h=>Q9 t hv own.u32a h) rfl (ltb rfl) rfl fun H19 u19=>?_
 refine QcS u19 ht (fun H' R t h=>Q6 t hv own.s64a h) rfl (ltb rfl) rfl fun H20 u20=>?_
 refine QcS u20 ht (fun H' R t h=>Q2 t hv own.u64a h) rfl (ltb rfl) rfl fun H21 u21=>?_
 obtain ⟨a22,f22,i22⟩:=own.bools.vecW (Yh (fun b:Bool=>(rfl:(Qho b).length=1)) (l:=d.bools))
 rw[List.length_map]at f22
 refine Qhj u21 ht rfl (ltb rfl) rfl (by decide) d.bools (fun b=>.bool b) QgW (fun _=>rfl) (fun _=>rfl) (by have:=Qej.n_le f22 (by decide);omega) (fun H' R t h=>ZK t hv f22 h) (fun i a H' R t ha h=>Qam t hv f22 (Qo ha) (by rw[bool_at (i22 i _ (by rw[List.getElem?_map,ha];rfl))];exact h)) fun G22 H22 c22 u22 le22 v22=>?_
 refine QcS u22 ht (fun H' R t h=>QO t hv own.f h) rfl (ltb rfl) rfl fun H23 u23=>?_
 refine QcS u23 ht (fun H' R t h=>QI t hv own.f2 h) rfl (ltb rfl) rfl fun H24 u24=>?_
 refine QcS u24 ht (fun H' R t h=>QE t hv own.f3 h) rfl (ltb rfl) rfl fun H25 u25=>?_
 obtain ⟨a26,f26,i26⟩:=own.strings2.vecTW
 refine up_text u25 ht rfl (ltb rfl) rfl (by decide) d.strings2 (by have:=Qej.n_le f26 (by decide);omega) (fun H' R t h=>ZA t hv f26 h) (fun i a H' R t ha h=>Qa5 t hv f26 (Qo ha) (QhF.at (i26 i a ha)).1 (h _ _ _ (QhF.at (i26 i a ha)).2 rfl)) fun G26 H26 c26 u26 le26 v26=>?_
 obtain ⟨a27,f27,i27⟩:=own.abilities.vecW (Yh (fun t:QeJ=>Qcl t.id.toNat t.dist.toNat))
 rw[List.length_map]at f27
 have b27:=fun (i:Nat) a (ha:d.abilities[i]?=some a)=>abilB_at (i27 i _ (by rw[List.getElem?_map,ha];rfl))
 refine up_obj u26 ht rfl (ltb rfl) rfl (by decide) rfl (by decide) d.abilities (ItP ZN) ItP.mono (fun i=>a27+8*i) (by have:=Qej.n_le f27 (by decide);omega) (fun H' R t h=>Zn t hv f27 h) (fun i a H' R t ha=>⟨by have:=(b27 i a ha).1;omega,fun q' hq h=>ZH t hv f27 (Qo ha) hq rfl h⟩) (fun i a G' H' p' ha t le hG R h=>QfT (A:=0) t (b27 i a ha) hG h) fun G27 H27 c27 u27 le27 v27=>?_
 refine up_bytes u27 ht QeN hv own.flex hB rfl (ltb rfl) fun H28 c28 u28 v28=>?_
 obtain ⟨a29,f29,i29⟩:=own.test5.vecW (Yh (fun t:Qb8=>Qbi t.a.toNat t.b.toNat))
 rw[List.length_map]at f29
 have b29:=fun (i:Nat) a (ha:d.test5[i]?=some a)=>testB_at (i29 i _ (by rw[List.getElem?_map,ha];rfl))
 refine up_obj u28 ht rfl (ltb rfl) rfl (by decide) rfl (by decide) d.test5 (ItP Yw) ItP.mono (fun i=>a29+4*i) (by have:=Qej.n_le f29 (by decide);omega) (fun H' R t h=>Qbj t hv f29 h) (fun i a H' R t ha=>⟨by have:=(b29 i a ha).1;omega,fun q' hq h=>Qdp t hv f29 (Qo ha) hq rfl h⟩) (fun i a G' H' p' ha t le hG R h=>Qc3 (A:=0) t (b29 i a ha) hG h) fun G29 H29 c29 u29 le29 v29=>?_
 obtain ⟨a30,f30,i30⟩:=own.longs.vecW (Yh (fun x=>Qf _ _))
 rw[List.length_map]at f30
 refine Qhj u29 ht rfl (ltb rfl) rfl (by decide) d.longs (fun x=>Qdw x) i64I (fun _=>rfl) (fun _=>rfl) (by have:=Qej.n_le f30 (by decide);omega) (fun H' R t h=>Qa0 t hv f30 h) (fun i a H' R t ha h=>QaP t hv f30 (Qo ha) (by rw[QeF (i30 i _ (by rw[List.getElem?_map,ha];rfl))];exact h)) fun G30 H30 c30 u30 le30 v30=>?_
 obtain ⟨a31,f31,i31⟩:=own.doubles.vecW (Yh (fun x=>Qf _ _))
 rw[List.length_map]at f31
 refine Qhj u30 ht rfl (ltb rfl) rfl (by decide) d.doubles (fun x=>f64V x) f64I (fun _=>rfl) (fun _=>rfl) (by have:=Qej.n_le f31 (by decide);omega) (fun H' R t h=>ZQ t hv f31 h) (fun i a H' R t ha h=>Qav t hv f31 (Qo ha) (by rw[QeF (i31 i _ (by rw[List.getElem?_map,ha];rfl))];exact h)) fun G31 H31 c31 u31 le31 v31=>?_
 refine up_opt u31 ht (l:=(if d.parent then [()] else [])) (fun _ _ _=>True) (fun H' R h=>up_nil w270 (by kernel_rfl) h) (by
  by_cases hz:slotAt bs vt 72=0
  ·exact Or.inl ⟨by rw[own.parent.zero hz];rfl,fun H' R t h=>Zm t hv (fun _=>h) (fun h1=>absurd hz h1)⟩
  ·obtain ⟨hn,q1,_,q2',q3'⟩:=own.parent.got hz
   cases hp:d.parent with
   |false=>exact absurd hp hn
   |true=>exact Or.inr ⟨(),tgt bs (pos+slotAt bs vt 72),_,rfl,q2',fun H' R t h=>Zm t hv (fun h0=>absurd h0 hz) (fun _=>⟨q1,q2',h⟩),fun G' H' p' R t le hG h=>Qh3 (A:=0) t trivial hG fun G2 H2 x e h1 h2=>h G2 H2 x e h1 (objPtr h2) trivial⟩) rfl (ltb rfl) fun G32 H32 c32 u32 le32 v32=>?_
 obtain ⟨a33,f33,i33⟩:=own.refs.vecTW
 refine up_obj u32 ht rfl (ltb rfl) rfl (by decide) rfl (by decide) d.refs (ItP Qai) ItP.mono (fun i=>tgt bs (a33+4*i)) (by have:=Qej.n_le f33 (by decide);omega) (fun H' R t h=>Z6 t hv f33 h) (fun i a H' R t ha=>⟨(i33 i a ha).2.2.1,fun q' hq h=>Qa2 t hv f33 (Qo ha) (i33 i a ha).1 (i33 i a ha).2.2.1 hq rfl h⟩) (fun i a G' H' p' ha t le hG R h=>QbL t (i33 i a ha).2.2.2 hG h) fun G33 H33 c33 u33 le33 v33=>?_
 refine QcS u33 ht (fun H' R t h=>Qt t hv own.singleWeak h) rfl (ltb rfl) rfl fun H34 u34=>?_
 obtain ⟨a35,f35,i35⟩:=own.weak.vecW (Yh (fun x=>Qf _ _))
 rw[List.length_map]at f35
 refine Qhj u34 ht rfl (ltb rfl) rfl (by decide) d.weak (fun x=>Ya x) Qai (fun _=>rfl) (fun _=>rfl) (by have:=Qej.n_le f35 (by decide);omega) (fun H' R t h=>Zs t hv f35 h) (fun i a H' R t ha h=>ZL t hv f35 (Qo ha) (by rw[QeF (i35 i _ (by rw[List.getElem?_map,ha];rfl))];exact h)) fun G35 H35 c35 u35 le35 v35=>?_
 obtain ⟨a36,f36,i36⟩:=own.strong.vecTW
 refine up_obj u35 ht rfl (ltb rfl) rfl (by decide) rfl (by decide) d.strong (ItP Qai) ItP.mono (fun i=>tgt bs (a36+4*i)) (by have:=Qej.n_le f36 (by decide);omega) (fun H' R t h=>Ze t hv f36 h) (fun i a H' R t ha=>⟨(i36 i a ha).2.2.1,fun q' hq h=>Z4 t hv f36 (Qo ha) (i36 i a ha).1 (i36 i a ha).2.2.1 hq rfl h⟩) (fun i a G' H' p' ha t le hG R h=>QbL t (i36 i a ha).2.2.2 hG h) fun G36 H36 c36 u36 le36 v36=>?_
 refine QcS u36 ht (fun H' R t h=>Qu t hv own.coOwning h) rfl (ltb rfl) rfl fun H37 u37=>?_
 obtain ⟨a38,f38,i38⟩:=own.coOwnings.vecW (Yh (fun x=>Qf _ _))
 rw[List.length_map]at f38
 refine Qhj u37 ht rfl (ltb rfl) rfl (by decide) d.coOwnings (fun x=>Ya x) Qai (fun _=>rfl) (fun _=>rfl) (by have:=Qej.n_le f38 (by decide);omega) (fun H' R t h=>Zb t hv f38 h) (fun i a H' R t ha h=>Z0 t hv f38 (Qo ha) (by rw[QeF (i38 i _ (by rw[List.getElem?_map,ha];rfl))];exact h)) fun G38 H38 c38 u38 le38 v38=>?_
 refine QcS u38 ht (fun H' R t h=>Qr t hv own.nonOwning h) rfl (ltb rfl) rfl fun H39 u39=>?_
 obtain ⟨a40,f40,i40⟩:=own.nonOwnings.vecW (Yh (fun x=>Qf _ _))
 rw[List.length_map]at f40
 refine Qhj u39 ht rfl (ltb rfl) rfl (by decide) d.nonOwnings (fun x=>Ya x) Qai (fun _=>rfl) (fun _=>rfl) (by have:=Qej.n_le f40 (by decide);omega) (fun H' R t h=>YX t hv f40 h) (fun i a H' R t ha h=>Zv t hv f40 (Qo ha) (by rw[QeF (i40 i _ (by rw[List.getElem?_map,ha];rfl))];exact h)) fun G40 H40 c40 u40 le40 v40=>?_
 refine up_union u40 ht hv QbP QaM Unique_UnPack own.uniqTy sQ hB hQ y2 rfl rfl fun G41 H41 c41 u41 le41 v41=>?_
 refine up_union u41 ht hv Qb7 Qal Qje own.ambTy sA hB hA y3 rfl rfl fun G42 H42 c42 u42 le42 v42=>?_
 obtain ⟨a43,f43,i43⟩:=own.enums.vecW (Yh (fun b:UInt8=>(rfl:[b].length=1)) (l:=d.enums))
 rw[List.length_map]at f43
 refine Qhj u42 ht rfl (ltb rfl) rfl (by decide) d.enums (fun x=>u8n x) bytI (fun _=>rfl) (fun _=>rfl) (by have:=Qej.n_le f43 (by decide);omega) (fun H' R t h=>Qa4 t hv f43 h) (fun i a H' R t ha h=>QaR t hv f43 (Qo ha) (by rw[byte1_at (i43 i _ (by rw[List.getElem?_map,ha];rfl))];exact h)) fun G43 H43 c43 u43 le43 v43=>?_
 refine QcS u43 ht (fun H' R t h=>Qv t hv own.signedEnum h) rfl (ltb rfl) rfl fun H44 u44=>?_
 have L42:=le43
 have L41:=Cut.le_trans le42 L42
 have L40:=Cut.le_trans le41 L41
 have L38:=Cut.le_trans le40 L40
 have L36:=Cut.le_trans le38 L38
 have L35:=Cut.le_trans le36 L36
 have L33:=Cut.le_trans le35 L35
 have L32:=Cut.le_trans le33 L33
 have L31:=Cut.le_trans le32 L32
 have L30:=Cut.le_trans le31 L31
 have L29:=Cut.le_trans le30 L30
 have L27:=Cut.le_trans le29 L29
 have L26:=Cut.le_trans le27 L27
 have L22:=Cut.le_trans le26 L26
 have L12:=Cut.le_trans le22 L22
 have L10:=Cut.le_trans le12 L12
 have L9:=Cut.le_trans le10 L10
 have L8:=Cut.le_trans le9 L9
 have L7:=Cut.le_trans le8 L8
 have L6:=Cut.le_trans le7 L7
 have L0:=Cut.le_trans le6 L6
 have uf:=unp_fin u44 (cells:=(oCells (rwD d) ⟨c0,c4,c6,c7,c8,c9,c10,c11,c12,c22,c26,c27,c28,c29,c30,c31,c32,c33,c35,c36,c38,c40,c41,c42,c43⟩).reverse) (by kernel_rfl)
 refine hR G43 H44 ⟨c0,c4,c6,c7,c8,c9,c10,c11,c12,c22,c26,c27,c28,c29,c30,c31,c32,c33,c35,c36,c38,c40,c41,c42,c43⟩ uf ⟨OptO.mono (P:=VecO) (fun _ _ _ _ l h=>VecO.mono l h) L0 v0,v4.mono L0,v7.mono ItP.mono L7,v8.mono L8,v11.mono L10,v12.mono ItP.mono L12,v22.mono L22,v26.mono L26,v27.mono ItP.mono L27,v28.mono L27,v29.mono ItP.mono L29,v30.mono L30,v31.mono L31,?_,v33.mono ItP.mono L33,v35.mono L35,v36.mono ItP.mono L36,v38.mono L38,v40.mono L40,v43⟩ ?_ ?_ (UniO.mono (Qdx.mono _) L6 v6) (UniO.mono (Qdx.mono _) L41 v41) (UniO.mono (Qdx.mono _) L42 v42)
 ·rcases v32 with ⟨h1,h2⟩|⟨x,h1,⟨a,h2⟩,_⟩
  ·refine ⟨none,h2,?_⟩
   cases hp:d.parent with
   |false=>simp[rwD,hp]
   |true=>rw[hp]at h1;cases h1
  ·refine ⟨some a,h2,?_⟩
   cases hp:d.parent with
   |false=>rw[hp]at h1;cases h1
   |true=>simp[rwD,hp]
 ·obtain ⟨vs,h1,h2,h3⟩:=v9
  refine ⟨vs,h1.mono L9,ObjL_of (by rw[h2,QgJ,List.length_map]) fun j x g hx hg=>?_⟩
  rw[QgJ,List.getElem?_map]at hg
  cases ha:tables[j]? with
  |none=>rw[ha]at hg;cases hg
  |some a=>
   rw[ha]at hg
   have:rwM a=g:=Option.some.inj hg
   subst this
   exact ObjM.mono _ _ _ _ L9 (h3 j x a hx ha)
 ·rcases v10 with h|⟨x,h1,_,h2⟩
  ·exact Or.inl h
  ·refine Or.inr ?_
   rw[h1,Qdx]
   exact ⟨rfl,ObjM.mono _ _ _ _ L10 h2⟩
theorem unpStep {d:Qbt} {tables enemy test uniq amb:List Mon} (hT:∀k∈tables,Qh2 k) (hE:∀k∈enemy,Qh2 k) (hU:∀k∈test,Qh2 k) (hQ:∀k∈uniq,Qh2 k) (hA:∀k∈amb,Qh2 k) (y1:d.testTy<=3) (y2:d.uniqTy<=3) (y3:d.ambTy<=3):Qh2 (.mk d tables enemy test uniq amb):=by
 intro A p B pos bs G H R ht hB hG hrd hR
 rw[RwM]at hrd
 obtain ⟨vt,own,sT,sE,sU,sQ,sA⟩:=hrd
 refine up_of w33 (by kernel_rfl) hG (fun F l=>∃c,l=oCells (rwD d) c/\OD F (rwD d) d.pos.toList d.empty.toList c/\(∃vs:List Value,SlV F 1 c.tables (vs.map fun x=>[x])/\Qj2 (rwMs tables) F vs)/\((rw1 enemy=[]/\c.enemy= .pointer none)\/Qdx (rw1 enemy) F c.enemy)/\
   UniO false d.testTy (Qh4 false d.testTy d.testColor) (rdU false d.testTy (rw1 test)=[]) (Qdx (rdU false d.testTy (rw1 test))) F c.test/\UniO false d.uniqTy (Qh4 false d.uniqTy d.uniqColor) (rdU false d.uniqTy (rw1 uniq)=[]) (Qdx (rdU false d.uniqTy (rw1 uniq))) F c.uniq/\UniO true d.ambTy (Qh4 true d.ambTy d.ambColor) (rdU true d.ambTy (rw1 amb)=[]) (Qdx (rdU true d.ambTy (rw1 amb))) F c.amb) ?_ ?_ ?_
 ·rintro F F' l hl ⟨c,h1,h2,⟨vs,h3,h3'⟩,h4,h5,h6,h7⟩
  refine ⟨c,h1,h2.mono hl,⟨vs,h3.mono hl,Qj2.mono _ _ _ _ hl h3'⟩,?_,h5.mono (Qdx.mono _) hl,h6.mono (Qdx.mono _) hl,h7.mono (Qdx.mono _) hl⟩
  rcases h4 with h4|h4
  ·exact Or.inl h4
  ·exact Or.inr (Qdx.mono _ _ _ _ hl h4)
 ·intro us R' hR'
  refine unpTo_ok hT hE hU hQ hA y1 y2 y3 ht hB own sT sE sU sQ sA us fun G' H' c u od h1 h2 h3 h4 h5=>hR' G' H' _ u rfl ⟨c,List.reverse_reverse _,od,h1,h2,h3,h4,h5⟩
 ·rintro G' H' v done e h1 o ⟨c,rfl,h2,h3,h4,h5,h6,h7⟩
  refine hR v H' G' e h1 ?_
  rw[rwM,ObjM]
  exact ⟨c,o,h2,h3,h4,h5,h6,h7⟩
mutual
theorem unpack_all:∀m:Mon,TyM m->Qh2 m
 |.mk d tables enemy test uniq amb,h=>by
  rw[TyM]at h
  obtain ⟨h1,h2,h3,h4,h5,h6,h7,h8⟩:=h
  exact unpStep (Qdd tables h4) (Qdd enemy h5) (Qdd test h6) (Qdd uniq h7) (Qdd amb h8) h1 h2 h3
theorem Qdd:∀ms:List Mon,TyL ms->∀k∈ms,Qh2 k
 |[],_,k,h=>by simp at h
 |m::ms,hs,k,h=>by
  rw[TyL]at hs
  rcases List.mem_cons.1 h with h|h
  ·rw[h];exact unpack_all m hs.1
  ·exact Qdd ms hs.2 k h
end
end Go.Proofs
namespace Go.Proofs
open Go Go.Vc
open Tryz (prog)
theorem Zc {F:Cut} {es:Nat} {v:Value} {items:List (List Value)} (h:SlV F es v items):∃s:Option Addr×Nat×Nat,v= .slice s.1 s.2.1 s.2.2:=by
 rcases h.2 with ⟨a,c,rfl,_⟩|⟨b,o,c,cells,e,fr,rfl,_⟩
 ·exact ⟨⟨a,0,c⟩,rfl⟩
 ·exact ⟨⟨_,_,c⟩,rfl⟩
theorem sl_b2s {F:Cut} {H:Qe} (hF:F.In H) {v:Value} {xs:List UInt8} (h:SlV F 1 v (xs.map bytI)) {k:Value->Prop} (hk:k (Yf xs)):QiN H v k:=by
 rcases h.2 with ⟨a,c,rfl,h2⟩|⟨b,o,c,cells,e,fr,rfl,h2,h3,h4,h5⟩
 ·have:xs=[]:=by simpa using h2
  subst this
  cases a with
  |none=>exact hk
  |some a=>exact Qhn (xs:=[]) rfl hk
 ·rw[List.length_map,Nat.mul_one]at h3 h4
  refine Qhn (xs:=xs) ?_ hk
  rw[List.length_map,Q4 (hF _ _ h2) _ (by omega),Nat.add_zero,h4]
  clear h h2 h3 h4 h5 hk
  congr 1
  induction xs with
  |nil=>rfl
  |cons x xs ih=>rw[List.map_cons,List.map_cons,List.flatten_cons,ih];rfl
theorem TAssK_hit {t:TypeId} {z v:Value} {k:Value->Prop}:Qjf t true z (.iface t v) k=k (.tuple #[v,.bool true]):=by
 unfold Qjf;simp only[if_true]
theorem TAssK_miss {t u:TypeId} {z v:Value} {k:Value->Prop} (h:u≠t):Qjf t true z (.iface u v) k=k (.tuple #[z,.bool false]):=by
 unfold Qjf;simp only[if_neg h,true_and]
theorem QbZ {F:Cut} {H:Qe} (hF:F.In H) {v:Value} {cells:Array Value} {i:Nat} {x:Value} (o:Za F v cells) (hi:cells[i]?=some x) {k:Value->Prop} (hk:k x):Qax v i H k:=o.ld hF x hi hk
theorem PtrS.len {α:Type} {P:α->Cut->Value->Prop} {l:List α} {F:Cut} {v:Value} (h:PtrS P l F v) {k:Value->Prop}:Yv v k=k (.int .i64 (l.length:Nat)):=by
 obtain ⟨vs,h1,h2,_⟩:=h
 rw[h1.len,List.length_map,h2]
theorem PtrS.item {α:Type} {P:α->Cut->Value->Prop} {l:List α} {F:Cut} {v:Value} (h:PtrS P l F v) {H:Qe} (hF:F.In H) {i:Nat} {a:α} (ha:l[i]?=some a) {k:Value->Prop} (hk:∀x,P a F x->k x):Y1 1 v (.int .i64 (i:Nat)) fun p=>LdK H p k:=by
 obtain ⟨vs,h1,h2,h3⟩:=h
 have hl:=Qo ha
 have hv:=List.getElem?_eq_getElem (l:=vs) (i:=i) (by omega)
 obtain ⟨b,o,cells,e,fr,g1,g2,g3,g4⟩:=h1.idx hF (i:=i) rfl (it:=[vs[i]]) (by rw[List.getElem?_map,hv];rfl)
 have hc:cells[o]?=some vs[i]:=by
  have:(cells.toList.drop o)[0]?=some vs[i]:=by
   have e1:((cells.toList.drop o).take 1)[0]?=some vs[i]:=by rw[g4];rfl
   rwa [List.getElem?_take,if_pos (by decide)]at e1
  rwa [List.getElem?_drop,Nat.add_zero,Array.getElem?_toList]at this
 rw[g1,Ql ((Qj g2).trans hc)]
 exact hk _ (h3 i _ a hv ha)
theorem tf_ok {G:Cut} {H:Qe} (hG:G.In H) {l:List Qb8} {v:Value} (hv:PtrS (ItP Yw) l G v) (hl:l.length<=50) {R:Kn} (hR:∀G' H' v',Ext G H G' H'->SlV G' 2 v' (l.map Yw)->R v' H'):FnS prog 73 #[v] H R:=by
 apply w73
 unfold s73 tf1
 refine QcO hG (et:=117) (es:=2) (n:=l.length) (fun F i items=>items=(l.take i).map Yw) (by simp) (by omega) (fun k=>hv.len) ?_ ?_
 ·rintro i y G1 H1 items k hlt e c rfl hk
  have ha:=List.getElem?_eq_getElem hlt
  unfold tf1B
  refine (hv.mono ItP.mono e.le).item e.inn ha fun x hx=>?_
  refine hx.ld e.inn (i:=0) (Qbc _) rfl ?_
  refine hx.ld e.inn (i:=1) (i8V _) rfl ?_
  refine Y6 (cs:=Yw l[i]) (by kernel_rfl) ?_
  refine QbA e c (v:=.agg (Yw l[i]).toArray) (it:=Yw l[i]) rfl rfl (by intro x hx;simp only[Yw,List.mem_cons,List.not_mem_nil,or_false]at hx;rcases hx with rfl|rfl<;>rfl) (by decide) rfl (by decide) (by rw[List.length_map,List.length_take];omega) ?_
  intro c' H' e4 c4
  exact hk c' _ H' _ e4 c4 (ZB ha).symm
 ·rintro y G1 G2 H2 items e2 sl rfl hle hnil
  rw[List.take_length]at sl
  exact hR G2 H2 y e2 sl
theorem df_ok {G:Cut} {H:Qe} (hG:G.In H) {l:List UInt64} {v:Value} (hv:PtrS (ItP Qai) l G v) (hl:l.length<=50) {R:Kn} (hR:∀G' H' v',Ext G H G' H'->SlV G' 1 v' (l.map Qai)->R v' H'):FnS prog 75 #[v] H R:=by
 apply w75
 unfold s75 df1
 refine QcO hG (et:=31) (es:=1) (n:=l.length) (fun F i items=>items=(l.take i).map Qai) (by simp) (by omega) (fun k=>hv.len) ?_ ?_
 ·rintro i y G1 H1 items k hlt e c rfl hk
  have ha:=List.getElem?_eq_getElem hlt
  unfold df1B
  refine (hv.mono ItP.mono e.le).item e.inn ha fun x hx=>?_
  refine hx.ld e.inn (i:=0) (Ya _) rfl ?_
  refine QbA e c (v:=Ya l[i]) (it:=Qai l[i]) rfl rfl (by intro x hx;simp only[Qai,List.mem_cons,List.not_mem_nil,or_false]at hx;subst hx;rfl) (by decide) rfl (by decide) (by rw[List.length_map,List.length_take];omega) ?_
  intro c' H' e4 c4
  exact hk c' _ H' _ e4 c4 (ZB ha).symm
 ·rintro y G1 G2 H2 items e2 sl rfl hle hnil
  rw[List.take_length]at sl
  exact hR G2 H2 y e2 sl
def QhP (g:GM):Prop:=∀(G:Cut) (H:Qe) (v:Value) (R:Kn),G.In H->ObjM g G v->(∀G' H' x,Ext G H G' H'->QaX G' g x->R (.agg x.toArray) H')->FnS prog 30 #[v] H R
theorem Qfj {ty color:UInt8} {kids:List GM} {x:Value} {G:Cut} {H:Qe} (hG:G.In H) (hK:∀k∈kids,QhP k) {R:Kn}
  (h:(kids=[]/\∃y,x= .iface 278 y/\Za G y #[u8n color])\/(color=0/\∃y,x= .iface 89 y/\Qdx kids G y))
  (hR:∀G' H' c,Ext G H G' H'->Qbu G' kids c->R (.agg #[u8n ty,c,u8n color]) H'):FnS prog 77 #[u8n ty,x] H R:=by
 apply w77
 unfold s77
 rw[Qy]
 have e1:=(Ext.refl hG).push (.cells z50 50)
 have o4:=Yj.fresh (Ext.refl hG) (.cells z50 50)
 generalize H.push (.cells z50 50)=H1 at *
 refine Y6 (fill_choice ty) ?_
 rw[Qy]
 have o5:=Yj.fresh e1 (.cells z50 50)
 have hne:=o4.ne
 have o4:=o4.push (.cells z50 50)
 have e2:=e1.push (.cells z50 50)
 generalize H1.push (.cells z50 50)=H2 at *
 generalize H1.size=q5 at *
 generalize H.size=q4 at *
 rw[Yg (n:=3) (c':=[u8n ty,.slice none 0 0,.int .u8 0].toArray) o5.get rfl rfl (by decide) (by intro v hv;simp at hv;rcases hv with rfl|rfl|rfl<;>rfl)]
 have rs:RS G H 50 (.cells z50 50 (0,0)) q4 q5 G (setB H2 q5 (.cells [u8n ty,.slice none 0 0,.int .u8 0].toArray 50 (0,0))) [u8n ty,.slice none 0 0,.int .u8 0]:=⟨e2.set o5.out o5.new _,o4.set_ne hne _,o5.set _,hne⟩
 generalize setB H2 q5 (.cells [u8n ty,.slice none 0 0,.int .u8 0].toArray 50 (0,0))=H3 at *
 refine Q0 (fun _ h=>∃G' c,RS G H 50 (.cells z50 50 (0,0)) q4 q5 G' h [u8n ty,c,u8n color]/\Qbu G' kids c) ?_ ?_
 ·rcases h with ⟨rfl,y,rfl,oy⟩|⟨rfl,y,rfl,oy⟩
  ·rw[TAssK_miss (by decide),Qhw,QhD,ZG,TAssK_hit,Qhw,QhD,QbS]
   refine QbZ rs.ext.inn (oy.mono rs.ext.le) (i:=0) rfl ?_
   refine rs.store (i:=2) (ltb rfl) rfl fun H4 r4 _=>⟨G,_,r4,[],SlV.nil _ _,by rw[Zh];trivial⟩
  ·rw[TAssK_hit,Qhw,QhD,QbS]
   cases kids with
   |nil=>rw[Qdx]at oy;exact oy.elim
   |cons g gs=>
    rw[Qdx]at oy
    obtain ⟨rfl,og⟩:=oy
    refine hK g List.mem_cons_self G H3 y _ rs.ext.inn og fun G4 H4 c e4 hv=>?_
    refine (rs.next e4).put_item (fld:=1) (v:=.agg c.toArray) (it:=c) rfl hv.len rfl (ltb rfl) fun G' H' s r5 hle sl=>⟨G',s,r5,[c],sl,by rw[Zh];exact ⟨hv.mono hle,by rw[Zh];trivial⟩⟩
 ·rintro h' ⟨G',c,r,hv⟩
  refine r.fin (n:=3) rfl rfl (by decide) ?_ fun H' e'=>hR G' H' c e' hv
  intro v hvm
  obtain ⟨i,sl,_⟩:=hv
  simp at hvm
  rcases hvm with rfl|rfl|rfl
  ·rfl
  ·exact sl.one
  ·rfl
end Go.Proofs
namespace Go.Proofs
open Go Go.Vc
open Tryz (prog)
theorem BuildSK_mono {H:Qe} {et n:Nat} {zs:List Value} {ps:List (Nat×Nat×Value)} {k k':Kn} (h:Q8 H et n zs ps k) (hk:∀y h',k y h'->k' y h'):Q8 H et n zs ps k':=by
 unfold Q8 at h⊢
 split at h
 ·exact hk _ _ h
 ·exact h
section
variable {G0:Cut} {H0:Qe} {q2 q3:Nat} {G:Cut} {H:Qe} {cells:List Value} (rs:RM G0 H0 q2 q3 G H cells) {F:Cut} (hF:F.le G) {x0:Value} {oc:Array Value} (o:Za F x0 oc) {K:Qe->Prop}
include rs hF o
theorem mo2_ok {x:Value} (hx:oc[0]?=some x) {pos:List ZO} (hp:OptO VecO pos F x) (hc:cells[0]?=some (.slice none 0 0)) (hk:∀G' H' c,RM G0 H0 q2 q3 G' H' (cells.set 0 c)->G.le G'->SlV G' 7 c (pos.map Zg)->K H'):mo2 x0 (ptr q3) H K:=by
 unfold mo2
 refine Q0 (fun _ h=>∃G' c,RM G0 H0 q2 q3 G' h (cells.set 0 c)/\G.le G'/\SlV G' 7 c (pos.map Zg)) ?_ (fun _ h hh=>by obtain ⟨G',c,h1,h2,h3⟩:=hh;exact hk G' h c h1 h2 h3)
 refine QbZ rs.ext.inn (o.mono hF) hx ?_
 rcases hp with ⟨rfl,rfl⟩|⟨v,rfl,⟨a,rfl⟩,t,o1,o2⟩
 ·rw[QT (by kernel_rfl)]
  show IfK (.bool false) _ _
  rw[ZG]
  exact ⟨G,_,by rw[YT hc];exact rs,Cut.le_refl _,SlV.nil _ _⟩
 ·rw[QT (by kernel_rfl)]
  show IfK (.bool true) _ _
  rw[QbS]
  have p1:=o1.mono hF
  have p2:=o2.mono hF
  obtain ⟨qx,ex,hxe,hgx⟩:=p1
  obtain ⟨qt,et,rfl,hgt⟩:=p2
  cases hxe
  have oX:∀{G' H'},G.le G'->Cut.In G' H'->∀{i y},(#[QcW v.x,QcW v.y,QcW v.z,f64V v.t1,u8n v.t2,ptr qt]:Array Value)[i]?=some y->∀k:Value->Prop,LdK H' (.pointer (some ⟨qx,i,none⟩)) k=k y:=fun {G' H'} hl hi {i y} hy k=>Ql ((Qj (hi _ _ (hl _ _ hgx))).trans hy)
  have oT:∀{G' H'},G.le G'->Cut.In G' H'->∀{i y},(#[Qbc v.a,i8V v.b]:Array Value)[i]?=some y->∀k:Value->Prop,LdK H' (.pointer (some ⟨qt,i,none⟩)) k=k y:=fun {G' H'} hl hi {i y} hy k=>Ql ((Qj (hi _ _ (hl _ _ hgt))).trans hy)
  have gX:∀{G' H'},G.le G'->Cut.In G' H'->∀{i y},(#[QcW v.x,QcW v.y,QcW v.z,f64V v.t1,u8n v.t2,ptr qt]:Array Value)[i]?=some y->∀k:Value->Prop,k y->Qax (.pointer (some ⟨qx,0,none⟩)) i H' k:=fun {G' H'} hl hi {i y} hy k h=>by unfold Qax;rw[Qs,Qm,oX hl hi hy];exact h
  have gT:∀{G' H'},G.le G'->Cut.In G' H'->∀{i y},(#[Qbc v.a,i8V v.b]:Array Value)[i]?=some y->∀k:Value->Prop,k y->Qax (.pointer (some ⟨qt,0,none⟩)) i H' k:=fun {G' H'} hl hi {i y} hy k h=>by unfold Qax;rw[Qs,Qm,oT hl hi hy];exact h
  refine Q0 (fun vs h=>∃q5,vs=[ptr q5]/\RM G0 H0 q2 q3 G h cells/\Yj H0 G h q5 (.cells [Zz v.x,Zz v.y,Zz v.z,Ya v.t1,u8n v.t2,.int .i16 0,.int .i8 0].toArray 114 (0,0))/\q5≠q2/\q5≠q3) ?_ ?_
  ·refine gX (Cut.le_refl G) rs.ext.inn (i:=0) (y:=QcW v.x) rfl _ ?_
   refine QL (fun w=>Qp) ?_
   refine gX (Cut.le_refl G) rs.ext.inn (i:=1) (y:=QcW v.y) rfl _ ?_
   refine QL (fun w=>Qp) ?_
   refine gX (Cut.le_refl G) rs.ext.inn (i:=2) (y:=QcW v.z) rfl _ ?_
   refine QL (fun w=>Qp) ?_
   refine gX (Cut.le_refl G) rs.ext.inn (i:=3) (y:=f64V v.t1) rfl _ ?_
   refine QL (fun w=>Qbl) ?_
   refine gX (Cut.le_refl G) rs.ext.inn (i:=4) (y:=u8n v.t2) rfl _ ?_
   refine Y6 (cs:=[Zz v.x,Zz v.y,Zz v.z,Ya v.t1,u8n v.t2,.int .i16 0,.int .i8 0]) (by kernel_rfl) ?_
   rw[Qy]
   refine Qn (Qaf.push _ _).ext ?_
   have o5:=Yj.fresh rs.ext (.cells z114 114)
   have r1:=rs.push (.cells z114 114)
   rw[Yg (n:=7) (c':=[Zz v.x,Zz v.y,Zz v.z,Ya v.t1,u8n v.t2,.int .i16 0,.int .i8 0].toArray) Qh rfl rfl (by decide) (by intro x hx;simp at hx;rcases hx with rfl|rfl|rfl|rfl|rfl|rfl|rfl<;>rfl)]
   exact ⟨H.size,rfl,⟨r1.ext.set o5.out o5.new _,r1.o2.set_ne (rs.o2.ne) _,r1.o3.set_ne (rs.o3.ne) _,rs.ne⟩,o5.set _,Ne.symm rs.o2.ne,Ne.symm rs.o3.ne⟩
  ·rintro x5 h29 ⟨q5,e5,r5,o5,n2,n3⟩
   cases e5
   refine Q0 (fun _ h=>RM G0 H0 q2 q3 G h cells/\Yj H0 G h q5 (.cells (Zg v).toArray 114 (0,0))) ?_ ?_
   ·refine gX (Cut.le_refl G) r5.ext.inn (i:=5) (y:=ptr qt) rfl _ ?_
    rw[QT (by kernel_rfl)]
    show IfK (.bool true) _ _
    rw[QbS]
    refine gX (Cut.le_refl G) r5.ext.inn (i:=5) (y:=ptr qt) rfl _ ?_
    refine gT (Cut.le_refl G) r5.ext.inn (i:=0) (y:=Qbc v.a) rfl _ ?_
    have st:∀{h:Qe} {c:List Value} {i:Nat} {y:Value} {kp:Qe->Prop},RM G0 H0 q2 q3 G h cells->Yj H0 G h q5 (.cells c.toArray 114 (0,0))->i<c.length->y.oneCell'=true->(∀h',RM G0 H0 q2 q3 G h' cells->Yj H0 G h' q5 (.cells (c.set i y).toArray 114 (0,0))->kp h')->StK h 1 (.pointer (some ⟨q5,i,none⟩)) y kp:=fun {h c i y kp} r o hi hy hk=>by
     rw[Qas o.get (by simpa using hi) (by simp) hy]
     have e:c.toArray.setIfInBounds i y=(c.set i y).toArray:=by simp
     rw[e]
     exact hk _ ⟨r.ext.set o.out o.new _,r.o2.set_ne (Ne.symm n2) _,r.o3.set_ne (Ne.symm n3) _,r.ne⟩ (o.set _)
    simp only[↓Qs,↓Qm]
    refine ⟨?_,?_⟩
    ·rw[oX (Cut.le_refl G) r5.ext.inn (i:=5) (y:=ptr qt) rfl,Qb]
     simp only[↓Qs,↓Qm]
     refine ⟨?_,?_⟩
     ·rw[oT (Cut.le_refl G) r5.ext.inn (i:=1) (y:=i8V v.b) rfl,Qb]
      refine st r5 o5 (by simp) rfl fun h30 r6 o6=>?_
      refine st r6 o6 (by simp) rfl fun h31 r7 o7=>?_
      exact ⟨r7,o7⟩
     ·refine st r5 o5 (by simp) rfl fun h30 r6 o6=>?_
      rw[oT (Cut.le_refl G) r6.ext.inn (i:=1) (y:=i8V v.b) rfl]
      refine st r6 o6 (by simp) rfl fun h31 r7 o7=>?_
      exact ⟨r7,o7⟩
    ·refine st r5 o5 (by simp) rfl fun h30 r6 o6=>?_
     rw[oX (Cut.le_refl G) r6.ext.inn (i:=5) (y:=ptr qt) rfl]
     refine gT (Cut.le_refl G) r6.ext.inn (i:=1) (y:=i8V v.b) rfl _ ?_
     refine st r6 o6 (by simp) rfl fun h31 r7 o7=>?_
     exact ⟨r7,o7⟩
   ·rintro h32 ⟨r7,o7⟩
    rw[YI (n:=7) (vs:=Zg v) (by rw[Q4 o7.get 7 (by simp[Zg])];rfl)]
    refine r7.put_item (v:=.agg (Zg v).toArray) (it:=Zg v) rfl rfl rfl (Qo hc) ?_
    intro G' H' c rs3 hle sl
    exact ⟨G',c,rs3,hle,sl⟩
theorem mo3_ok {x:Value} {vs:List Value} {tables:List GM} (hx:oc[9]?=some x) (hs:SlV F 1 x (vs.map fun y=>[y])) (hL:Qj2 tables F vs) (hM:∀g∈tables,QhP g) (hl:tables.length<=50) (hc:cells[11]?=some (.slice none 0 0)) (hk:∀G' H' c,RM G0 H0 q2 q3 G' H' (cells.set 11 c)->G.le G'->Qbu G' tables c->K H'):mo3 x0 (ptr q3) H K:=by
 have hlen:∀{ts:List GM} {ws:List Value},Qj2 ts F ws->ws.length=ts.length:=fun {ts}=>by
  induction ts with
  |nil=>intro ws h;cases ws with
   |nil=>rfl
   |cons=>simp only[Qj2]at h
  |cons t ts ih=>intro ws h;cases ws with
   |nil=>simp only[Qj2]at h
   |cons y ys=>rw[Qj2]at h;simp[ih h.2]
 have hget:∀{ts:List GM} {ws:List Value},Qj2 ts F ws->∀(i:Nat) y,ws[i]?=some y->∃g,ts[i]?=some g/\ObjM g F y:=fun {ts}=>by
  induction ts with
  |nil=>intro ws h i y hy;cases ws with
   |nil=>simp at hy
   |cons=>simp only[Qj2]at h
  |cons t ts ih=>intro ws h i y hy;cases ws with
   |nil=>simp only[Qj2]at h
   |cons z zs=>
    rw[Qj2]at h
    cases i with
    |zero=>
     have:z=y:=by simpa using hy
     subst this
     exact ⟨t,rfl,h.1⟩
    |succ i=>
     obtain ⟨g,h1,h2⟩:=ih h.2 i y (by simpa using hy)
     exact ⟨g,by simpa using h1,h2⟩
 have hvl:=hlen hL
 unfold mo3
 refine rngF_of (G:=F) (fun i H'=>∃G1 c items,G.le G1/\RM G0 H0 q2 q3 G1 H' (cells.set 11 c)/\Cur H0 G1 H' 55 51 c items (badq q2 q3)/\Zh G1 (tables.take i) items) ⟨G,_,[],Cut.le_refl G,by rw[YT hc];exact rs,Cur.nil,by rw[List.take_zero,Zh];trivial⟩
  (fun k h=>QbZ rs.ext.inn (o.mono hF) hx h) hs (fun i H' ⟨G1,c,items,h1,h2,_⟩ b y h=>h2.ext.inn b y (h1 _ _ (hF _ _ h))) (by omega) ?_ ?_
 ·rintro i y H' k hi ⟨G1,c,items,hle,r,hcur,hv⟩ hk'
  obtain ⟨g,hg,og⟩:=hget hL i y hi
  have hil:items.length=i:=by
   have:=Zh.len hv
   have hlt:=Qo hg
   rw[<-this,List.length_take];omega
  have hc':=Qfq (v:=c) hc
  rw[Qm,r.ld hc']
  refine hM g (List.mem_of_getElem? hg) G1 H' y _ r.ext.inn (ObjM.mono _ _ _ _ (Cut.le_trans hF hle) og) fun G2 H2 z e2 hz=>?_
  refine Qn e2.keep.ext ?_
  refine (r.next e2).push_item (hcur.ext e2) (v:=.agg z.toArray) (it:=z) rfl hz.len (QaX.one hz) (by decide) rfl (by decide) (by have:=Qo hg;omega) (Qo hc') ?_
  intro H3 c3 r3 hcur3
  refine hk' H3 ⟨G2,c3,_,Cut.le_trans hle e2.le,by rw[List.set_set]at r3;exact r3,hcur3,?_⟩
  rw[Qdf hg]
  exact Zh.snoc (Zh.mono e2.le hv) hz
 ·rintro H' ⟨G1,c,items,hle,r,hcur,hv⟩
  obtain ⟨G2,e2,sl,le2,hown⟩:=hcur.done r.ext
  refine hk G2 H' c ⟨e2,hown _ _ (Or.inl rfl) r.o2,hown _ _ (Or.inr rfl) r.o3,r.ne⟩ (Cut.le_trans hle le2) ⟨items,sl,?_⟩
  rw[hvl,List.take_length]at hv
  exact Zh.mono le2 hv
theorem mo4_ok {x:Value} {enemy:List GM} (hx:oc[10]?=some x) (hE:(enemy=[]/\x= .pointer none)\/Qdx enemy F x) (hM:∀g∈enemy,QhP g) (hc:cells[12]?=some (.slice none 0 0)) (hk:∀G' H' c,RM G0 H0 q2 q3 G' H' (cells.set 12 c)->G.le G'->Qbu G' enemy c->K H'):mo4 x0 (ptr q3) H K:=by
 unfold mo4
 refine Q0 (fun _ h=>∃G' c,RM G0 H0 q2 q3 G' h (cells.set 12 c)/\G.le G'/\Qbu G' enemy c) ?_ (fun h hh=>by obtain ⟨G',c,h1,h2,h3⟩:=hh;exact hk G' h c h1 h2 h3)
 refine QbZ rs.ext.inn (o.mono hF) hx ?_
 rcases hE with ⟨rfl,rfl⟩|hE
 ·rw[QT (by kernel_rfl)]
  show IfK (.bool false) _ _
  rw[ZG]
  exact ⟨G,_,by rw[YT hc];exact rs,Cut.le_refl _,[],SlV.nil _ _,by rw[Zh];trivial⟩
 ·cases enemy with
  |nil=>rw[Qdx]at hE;exact hE.elim
  |cons g gs=>
   rw[Qdx]at hE
   obtain ⟨rfl,og⟩:=hE
   obtain ⟨qx,rfl⟩:=og.ptr
   rw[QT (by kernel_rfl)]
   show IfK (.bool true) _ _
   rw[QbS]
   refine QbZ rs.ext.inn (o.mono hF) hx ?_
   refine hM g List.mem_cons_self G H _ _ rs.ext.inn (ObjM.mono _ _ _ _ hF og) fun G2 H2 z e2 hz=>?_
   refine (rs.next e2).put_item (v:=.agg z.toArray) (it:=z) rfl hz.len rfl (Qo hc) fun G' H' c r3 hle sl=>⟨G',c,r3,Cut.le_trans e2.le hle,[z],sl,by rw[Zh];exact ⟨hz.mono hle,by rw[Zh];trivial⟩⟩
theorem mo5_ok {x:Value} {empty:List ZJ} (hx:oc[12]?=some x) (hp:OptO (ItP YL) empty F x) (hc:cells[14]?=some (.slice none 0 0)) (hk:∀G' H' c,RM G0 H0 q2 q3 G' H' (cells.set 14 c)->G.le G'->SlV G' 3 c (empty.map YL)->K H'):mo5 x0 (ptr q3) H K:=by
 unfold mo5
 refine Q0 (fun _ h=>∃G' c,RM G0 H0 q2 q3 G' h (cells.set 14 c)/\G.le G'/\SlV G' 3 c (empty.map YL)) ?_ (fun _ h hh=>by obtain ⟨G',c,h1,h2,h3⟩:=hh;exact hk G' h c h1 h2 h3)
 refine QbZ rs.ext.inn (o.mono hF) hx ?_
 rcases hp with ⟨rfl,rfl⟩|⟨s,rfl,⟨a,rfl⟩,o1⟩
 ·rw[QT (by kernel_rfl)]
  show IfK (.bool false) _ _
  rw[ZG]
  exact ⟨G,_,by rw[YT hc];exact rs,Cut.le_refl _,SlV.nil _ _⟩
 ·rw[QT (by kernel_rfl)]
  show IfK (.bool true) _ _
  rw[QbS]
  have p1:=Za.mono hF o1
  refine QbZ rs.ext.inn p1 (i:=0) rfl ?_
  refine QbZ rs.ext.inn p1 (i:=1) rfl ?_
  refine QbZ rs.ext.inn p1 (i:=2) rfl ?_
  refine Y6 (fill_stat s) ?_
  refine rs.put_item (v:=.agg (YL s).toArray) (it:=YL s) rfl rfl rfl (Qo hc) fun G' H' c r3 hle sl=>⟨G',c,r3,hle,sl⟩
theorem mo6_ok {x:Value} {l:List QeJ} (hx:oc[27]?=some x) (hs:PtrS (ItP ZN) l F x) (hl:l.length<=50) (hc:cells[29]?=some (.slice none 0 0)) (hk:∀G' H' c,RM G0 H0 q2 q3 G' H' (cells.set 29 c)->G.le G'->SlV G' 2 c (l.map ZN)->K H'):mo6 x0 (ptr q3) H K:=by
 obtain ⟨vs,h1,h2,h3⟩:=hs
 unfold mo6
 refine rngF_of (G:=F) (fun i H'=>∃c,RM G0 H0 q2 q3 G H' (cells.set 29 c)/\Cur H0 G H' 123 2 c ((l.take i).map ZN) (badq q2 q3)) ⟨_,by rw[YT hc];exact rs,Cur.nil⟩
  (fun k h=>QbZ rs.ext.inn (o.mono hF) hx h) h1 (fun i H' ⟨c,h4,_⟩ b y h=>h4.ext.inn b y (hF _ _ h)) (by omega) ?_ ?_
 ·rintro i y H' k hi ⟨c,r,hcur⟩ hk'
  have ha:=List.getElem?_eq_getElem (l:=l) (i:=i) (by have:=Qo hi;omega)
  have hc':=Qfq (v:=c) hc
  have p1:=Za.mono hF (h3 i y _ hi ha)
  rw[Qm,r.ld hc']
  refine QbZ r.ext.inn p1 (i:=0) rfl ?_
  refine QbZ r.ext.inn p1 (i:=1) rfl ?_
  refine Y6 (cs:=ZN (l[i]'(Qo ha))) (by kernel_rfl) ?_
  refine r.push_item hcur (v:=.agg (ZN (l[i]'(Qo ha))).toArray) (it:=ZN (l[i]'(Qo ha))) rfl rfl (by intro x hx;simp only[ZN,List.mem_cons,List.not_mem_nil,or_false]at hx;rcases hx with rfl|rfl<;>rfl) (by decide) rfl (by decide) (by rw[List.length_map,List.length_take];omega) (Qo hc') ?_
  intro H3 c3 r3 hcur3
  exact hk' H3 ⟨c3,by rw[List.set_set]at r3;exact r3,by rw[ZB ha];exact hcur3⟩
 ·rintro H' ⟨c,r,hcur⟩
  obtain ⟨G2,e2,sl,le2,hown⟩:=hcur.done r.ext
  rw[h2,List.take_length]at sl
  exact hk G2 H' c ⟨e2,hown _ _ (Or.inl rfl) r.o2,hown _ _ (Or.inr rfl) r.o3,r.ne⟩ le2 sl
theorem mo7_ok {x:Value} {l:List UInt64} (hx:oc[31]?=some x) (hs:SlV F 1 x (l.map f64I)) (hl:l.length<=50) (hc:cells[33]?=some (.slice none 0 0)) (hk:∀G' H' c,RM G0 H0 q2 q3 G' H' (cells.set 33 c)->G.le G'->SlV G' 1 c (l.map Qai)->K H'):mo7 x0 (ptr q3) H K:=by
 unfold mo7
 refine rngF_of (G:=F) (vs:=l.map fun x=>f64V x) (fun i H'=>∃c,RM G0 H0 q2 q3 G H' (cells.set 33 c)/\Cur H0 G H' 31 1 c ((l.take i).map Qai) (badq q2 q3)) ⟨_,by rw[YT hc];exact rs,Cur.nil⟩
  (fun k h=>QbZ rs.ext.inn (o.mono hF) hx h) (by rw[List.map_map];exact hs) (fun i H' ⟨c,h4,_⟩ b y h=>h4.ext.inn b y (hF _ _ h)) (by rw[List.length_map];omega) ?_ ?_
 ·rintro i y H' k hi ⟨c,r,hcur⟩ hk'
  rw[List.getElem?_map]at hi
  cases ha:l[i]? with
  |none=>rw[ha]at hi;cases hi
  |some a=>
   rw[ha]at hi
   have:f64V a=y:=Option.some.inj hi
   subst this
   have hc':=Qfq (v:=c) hc
   rw[Qm,r.ld hc']
   refine QL (fun w=>Qbl) ?_
   refine r.push_item hcur (v:=Ya a) (it:=Qai a) rfl rfl (by intro x hx;simp only[Qai,List.mem_cons,List.not_mem_nil,or_false]at hx;subst hx;rfl) (by decide) rfl (by decide) (by rw[List.length_map,List.length_take];have:=Qo ha;omega) (Qo hc') ?_
   intro H3 c3 r3 hcur3
   exact hk' H3 ⟨c3,by rw[List.set_set]at r3;exact r3,by rw[ZB ha];exact hcur3⟩
 ·rintro H' ⟨c,r,hcur⟩
  obtain ⟨G2,e2,sl,le2,hown⟩:=hcur.done r.ext
  rw[List.length_map,List.take_length]at sl
  exact hk G2 H' c ⟨e2,hown _ _ (Or.inl rfl) r.o2,hown _ _ (Or.inr rfl) r.o3,r.ne⟩ le2 sl
theorem mo8_ok {x:Value} {ty color:UInt8} {kids:List GM} (hx:oc[6]?=some x) (hu:UniO false ty color (kids=[]) (Qdx kids) F x) (hM:∀g∈kids,QhP g) (h0:cells[6]?=some (.int .u8 0)) (h1:cells[7]?=some (.slice none 0 0)) (h2:cells[8]?=some (.int .u8 0))
  (hk:∀G' H' c,RM G0 H0 q2 q3 G' H' (((cells.set 6 (u8n ty)).set (6+1) c).set (6+2) (u8n color))->G.le G'->Qbu G' kids c->K H'):mo8 x0 (ptr q3) H K:=by
 unfold mo8
 refine Q0 (fun _ h=>∃G' c,RM G0 H0 q2 q3 G' h (((cells.set 6 (u8n ty)).set (6+1) c).set (6+2) (u8n color))/\G.le G'/\Qbu G' kids c) ?_ (fun h hh=>by obtain ⟨G',c,h1,h2,h3⟩:=hh;exact hk G' h c h1 h2 h3)
 refine QbZ rs.ext.inn (o.mono hF) hx ?_
 rcases hu with ⟨rfl,rfl,rfl,rfl⟩|⟨hty,y,o1,hu⟩
 ·rw[QT (by kernel_rfl)]
  show IfK (.bool false) _ _
  rw[ZG]
  refine ⟨G,.slice none 0 0,?_,Cut.le_refl _,[],SlV.nil _ _,by rw[Zh];trivial⟩
  have e1:cells.set 6 (u8n 0)=cells:=YT h0
  have e2:cells.set (6+1) (.slice none 0 0)=cells:=YT h1
  have e3:cells.set (6+2) (u8n 0)=cells:=YT h2
  rw[e1,e2,e3];exact rs
 ·obtain ⟨a,rfl⟩:=objPtr o1
  rw[QT (by kernel_rfl)]
  show IfK (.bool true) _ _
  rw[QbS]
  have p1:=Za.mono hF o1
  refine QbZ rs.ext.inn (o.mono hF) hx ?_
  refine QbZ rs.ext.inn p1 (i:=0) rfl ?_
  refine QbZ rs.ext.inn (o.mono hF) hx ?_
  refine QbZ rs.ext.inn p1 (i:=1) rfl ?_
  refine Qfj (ty:=ty) (color:=color) (kids:=kids) rs.ext.inn hM ?_ fun G2 H2 c e2 hv=>?_
  ·rcases hu with ⟨_,_,hn,z,rfl,oz⟩|⟨_,hcol,z,rfl,oz⟩
   ·exact Or.inl ⟨hn,z,rfl,oz.mono hF⟩
   ·exact Or.inr ⟨hcol,z,rfl,Qdx.mono _ _ _ _ hF oz⟩
  ·have hone:c.oneCell'=true:=by obtain ⟨i,sl,_⟩:=hv;exact sl.one
   refine (rs.next e2).store3 (by have:=Qo h2;omega) rfl hone rfl fun H3 r3 _=>⟨G2,c,r3,e2.le,hv⟩
theorem mo9_ok {x:Value} {ty color:UInt8} {kids:List GM} (hx:oc[41]?=some x) (hu:UniO false ty color (kids=[]) (Qdx kids) F x) (hM:∀g∈kids,QhP g) (h0:cells[43]?=some (.int .u8 0)) (h1:cells[44]?=some (.slice none 0 0)) (h2:cells[45]?=some (.int .u8 0))
  (hk:∀G' H' c,RM G0 H0 q2 q3 G' H' (((cells.set 43 (u8n ty)).set (43+1) c).set (43+2) (u8n color))->G.le G'->Qbu G' kids c->K H'):mo9 x0 (ptr q3) H K:=by
 unfold mo9
 refine Q0 (fun _ h=>∃G' c,RM G0 H0 q2 q3 G' h (((cells.set 43 (u8n ty)).set (43+1) c).set (43+2) (u8n color))/\G.le G'/\Qbu G' kids c) ?_ (fun h hh=>by obtain ⟨G',c,h1,h2,h3⟩:=hh;exact hk G' h c h1 h2 h3)
 refine QbZ rs.ext.inn (o.mono hF) hx ?_
 rcases hu with ⟨rfl,rfl,rfl,rfl⟩|⟨hty,y,o1,hu⟩
 ·rw[QT (by kernel_rfl)]
  show IfK (.bool false) _ _
  rw[ZG]
  refine ⟨G,.slice none 0 0,?_,Cut.le_refl _,[],SlV.nil _ _,by rw[Zh];trivial⟩
  have e1:cells.set 43 (u8n 0)=cells:=YT h0
  have e2:cells.set (43+1) (.slice none 0 0)=cells:=YT h1
  have e3:cells.set (43+2) (u8n 0)=cells:=YT h2
  rw[e1,e2,e3];exact rs
 ·obtain ⟨a,rfl⟩:=objPtr o1
  rw[QT (by kernel_rfl)]
  show IfK (.bool true) _ _
  rw[QbS]
  have p1:=Za.mono hF o1
  refine QbZ rs.ext.inn (o.mono hF) hx ?_
  refine QbZ rs.ext.inn p1 (i:=0) rfl ?_
  refine QbZ rs.ext.inn (o.mono hF) hx ?_
  refine QbZ rs.ext.inn p1 (i:=1) rfl ?_
  refine Qfj (ty:=ty) (color:=color) (kids:=kids) rs.ext.inn hM ?_ fun G2 H2 c e2 hv=>?_
  ·rcases hu with ⟨_,_,hn,z,rfl,oz⟩|⟨_,hcol,z,rfl,oz⟩
   ·exact Or.inl ⟨hn,z,rfl,oz.mono hF⟩
   ·exact Or.inr ⟨hcol,z,rfl,Qdx.mono _ _ _ _ hF oz⟩
  ·have hone:c.oneCell'=true:=by obtain ⟨i,sl,_⟩:=hv;exact sl.one
   refine (rs.next e2).store3 (by have:=Qo h2;omega) rfl hone rfl fun H3 r3 _=>⟨G2,c,r3,e2.le,hv⟩
theorem mo10_ok {x:Value} {ty color:UInt8} {kids:List GM} (hx:oc[42]?=some x) (hu:UniO true ty color (kids=[]) (Qdx kids) F x) (hM:∀g∈kids,QhP g) (h0:cells[46]?=some (.int .u8 0)) (h1:cells[47]?=some (.slice none 0 0)) (h2:cells[48]?=some (.int .u8 0))
  (hk:∀G' H' c,RM G0 H0 q2 q3 G' H' (((cells.set 46 (u8n ty)).set (46+1) c).set (46+2) (u8n color))->G.le G'->Qbu G' kids c->K H'):mo10 x0 (ptr q3) H K:=by
 unfold mo10
 refine Q0 (fun _ h=>∃G' c,RM G0 H0 q2 q3 G' h (((cells.set 46 (u8n ty)).set (46+1) c).set (46+2) (u8n color))/\G.le G'/\Qbu G' kids c) ?_ (fun h hh=>by obtain ⟨G',c,h1,h2,h3⟩:=hh;exact hk G' h c h1 h2 h3)
 refine QbZ rs.ext.inn (o.mono hF) hx ?_
 rcases hu with ⟨rfl,rfl,rfl,rfl⟩|⟨hty,y,o1,hu⟩
 ·rw[QT (by kernel_rfl)]
  show IfK (.bool false) _ _
  rw[ZG]
  refine ⟨G,.slice none 0 0,?_,Cut.le_refl _,[],SlV.nil _ _,by rw[Zh];trivial⟩
  have e1:cells.set 46 (u8n 0)=cells:=YT h0
  have e2:cells.set (46+1) (.slice none 0 0)=cells:=YT h1
  have e3:cells.set (46+2) (u8n 0)=cells:=YT h2
  rw[e1,e2,e3];exact rs
 ·obtain ⟨a,rfl⟩:=objPtr o1
  rw[QT (by kernel_rfl)]
  show IfK (.bool true) _ _
  rw[QbS]
  have p1:=Za.mono hF o1
  refine QbZ rs.ext.inn (o.mono hF) hx ?_
  refine QbZ rs.ext.inn p1 (i:=0) rfl ?_
  refine QbZ rs.ext.inn (o.mono hF) hx ?_
  refine QbZ rs.ext.inn p1 (i:=1) rfl ?_
  refine Qfj (ty:=ty) (color:=color) (kids:=kids) rs.ext.inn hM ?_ fun G2 H2 c e2 hv=>?_
  ·rcases hu with ⟨_,_,hn,z,rfl,oz⟩|⟨_,hcol,z,rfl,oz⟩
   ·exact Or.inl ⟨hn,z,rfl,oz.mono hF⟩
   ·exact Or.inr ⟨hcol,z,rfl,Qdx.mono _ _ _ _ hF oz⟩
  ·have hone:c.oneCell'=true:=by obtain ⟨i,sl,_⟩:=hv;exact sl.one
   refine (rs.next e2).store3 (by have:=Qo h2;omega) rfl hone rfl fun H3 r3 _=>⟨G2,c,r3,e2.le,hv⟩
theorem mo11_ok {x:Value} {l:List UInt8} (hx:oc[43]?=some x) (hs:SlV F 1 x (l.map bytI)) (hl:l.length<4611686018427387904) (hc:cells[49]?=some (Yf [])) (hk:∀H',RM G0 H0 q2 q3 G H' (cells.set 49 (Yf l))->K H'):mo11 x0 (ptr q3) H K:=by
 unfold mo11
 refine rngF_of (G:=F) (vs:=l.map u8n) (fun i H'=>RM G0 H0 q2 q3 G H' (cells.set 49 (Yf (l.take i)))) (by rw[List.take_zero,YT hc];exact rs)
  (fun k h=>QbZ rs.ext.inn (o.mono hF) hx h) (by rw[List.map_map];exact hs) (fun i H' h4 b y h=>h4.ext.inn b y (hF _ _ h)) (by rw[List.length_map];omega) ?_ ?_
 ·rintro i y H' k hi r hk'
  rw[List.getElem?_map]at hi
  cases ha:l[i]? with
  |none=>rw[ha]at hi;cases hi
  |some a=>
   rw[ha]at hi
   have:u8n a=y:=Option.some.inj hi
   subst this
   have hc':=Qfq (v:=Yf (l.take i)) hc
   rw[Qm,r.ld hc']
   refine BuildSK_mono (r.push_byte (b:=a) rfl (by rw[List.length_take];omega) (Qo hc') fun H3 r3=>hk' H3 ?_) (fun _ _ h=>h.2)
   rw[List.set_set]at r3
   rw[List.take_add_one,ha];exact r3
 ·intro H' r
  rw[List.length_map,List.take_length]at r
  exact hk H' r
end
end Go.Proofs
namespace Go.Proofs
open Go Go.Vc
open Tryz (prog)
def Qg6 (d:Qbt) (v9 v10 v24 v28 v31 v32 v35 v37 v38 v40 v42:Value):List Value:=
 [.slice none 0 0,Qbc d.mana,Qbc d.hp,Yf d.name,Yf d.inventory,u8n d.color,.int .u8 0,.slice none 0 0,.int .u8 0,v9,v10,.slice none 0 0,.slice none 0 0,Yf d.nested,.slice none 0 0,.bool d.bool,Qfl d.s32,Zz d.u32,Qdw d.s64,Ya d.u64,Qfl d.s32a,Zz d.u32a,Qdw d.s64a,Ya d.u64a,v24,Zz d.f,Zz d.f2,Zz d.f3,v28,.slice none 0 0,Yf d.flex,v31,v32,.slice none 0 0,.bool d.parent,v35,Ya d.singleWeak,v37,v38,Ya d.coOwning,v40,Ya d.nonOwning,v42,.int .u8 0,.slice none 0 0,.int .u8 0,.int .u8 0,.slice none 0 0,.int .u8 0,Yf [],i8V d.signedEnum]
set_option maxHeartbeats 4000000 in
theorem fill_mo (d:Qbt) (sv9 sv10 sv24 sv28 sv31 sv32 sv35 sv37 sv38 sv40 sv42:Option Addr×Nat×Nat):YJ z55.toList [(1,1,(Qbc d.mana)),(2,1,(Qbc d.hp)),(3,1,(Yf d.name)),(4,1,(Yf d.inventory)),(5,1,(u8n d.color)),(9,1,(.slice sv9.1 sv9.2.1 sv9.2.2)),(10,1,(.slice sv10.1 sv10.2.1 sv10.2.2)),(13,1,(Yf d.nested)),(15,1,(.bool d.bool)),(16,1,(Qfl d.s32)),(17,1,(Zz d.u32)),(18,1,(Qdw d.s64)),(19,1,(Ya d.u64)),(20,1,(Qfl d.s32a)),(21,1,(Zz d.u32a)),(22,1,(Qdw d.s64a)),(23,1,(Ya d.u64a)),(24,1,(.slice sv24.1 sv24.2.1 sv24.2.2)),(25,1,(Zz d.f)),(26,1,(Zz d.f2)),(27,1,(Zz d.f3)),(28,1,(.slice sv28.1 sv28.2.1 sv28.2.2)),(30,1,(Yf d.flex)),(31,1,(.slice sv31.1 sv31.2.1 sv31.2.2)),(32,1,(.slice sv32.1 sv32.2.1 sv32.2.2)),(35,1,(.slice sv35.1 sv35.2.1 sv35.2.2)),(36,1,(Ya d.singleWeak)),(37,1,(.slice sv37.1 sv37.2.1 sv37.2.2)),(38,1,(.slice sv38.1 sv38.2.1 sv38.2.2)),(39,1,(Ya d.coOwning)),(40,1,(.slice sv40.1 sv40.2.1 sv40.2.2)),(41,1,(Ya d.nonOwning)),(42,1,(.slice sv42.1 sv42.2.1 sv42.2.2)),(50,1,(i8V d.signedEnum)),(34,1,(.bool d.parent))]=some (Qg6 d (.slice sv9.1 sv9.2.1 sv9.2.2) (.slice sv10.1 sv10.2.1 sv10.2.2) (.slice sv24.1 sv24.2.1 sv24.2.2) (.slice sv28.1 sv28.2.1 sv28.2.2) (.slice sv31.1 sv31.2.1 sv31.2.2) (.slice sv32.1 sv32.2.1 sv32.2.2) (.slice sv35.1 sv35.2.1 sv35.2.2) (.slice sv37.1 sv37.2.1 sv37.2.2) (.slice sv38.1 sv38.2.1 sv38.2.2) (.slice sv40.1 sv40.2.1 sv40.2.2) (.slice sv42.1 sv42.2.1 sv42.2.2)):=by kernel_rfl
theorem moB_of {d:Qbt} {v9 v10 v24 v28 v31 v32 v35 v37 v38 v40 v42:Value} (hv9:∃s:Option Addr×Nat×Nat,v9= .slice s.1 s.2.1 s.2.2) (hv10:∃s:Option Addr×Nat×Nat,v10= .slice s.1 s.2.1 s.2.2) (hv24:∃s:Option Addr×Nat×Nat,v24= .slice s.1 s.2.1 s.2.2) (hv28:∃s:Option Addr×Nat×Nat,v28= .slice s.1 s.2.1 s.2.2) (hv31:∃s:Option Addr×Nat×Nat,v31= .slice s.1 s.2.1 s.2.2) (hv32:∃s:Option Addr×Nat×Nat,v32= .slice s.1 s.2.1 s.2.2) (hv35:∃s:Option Addr×Nat×Nat,v35= .slice s.1 s.2.1 s.2.2) (hv37:∃s:Option Addr×Nat×Nat,v37= .slice s.1 s.2.1 s.2.2) (hv38:∃s:Option Addr×Nat×Nat,v38= .slice s.1 s.2.1 s.2.2) (hv40:∃s:Option Addr×Nat×Nat,v40= .slice s.1 s.2.1 s.2.2) (hv42:∃s:Option Addr×Nat×Nat,v42= .slice s.1 s.2.1 s.2.2) {K:Value->Prop} (hk:K (.agg (Qg6 d v9 v10 v24 v28 v31 v32 v35 v37 v38 v40 v42).toArray)):
  moB (Qbc d.mana) (Qbc d.hp) (Yf d.name) (Yf d.inventory) (u8n d.color) v9 v10 (Yf d.nested) (.bool d.bool) (Qfl d.s32) (Zz d.u32) (Qdw d.s64) (Ya d.u64) (Qfl d.s32a) (Zz d.u32a) (Qdw d.s64a) (Ya d.u64a) v24 (Zz d.f) (Zz d.f2) (Zz d.f3) v28 (Yf d.flex) v31 v32 v35 (Ya d.singleWeak) v37 v38 (Ya d.coOwning) v40 (Ya d.nonOwning) v42 (i8V d.signedEnum) (.bool d.parent) K:=by
 refine hv9.elim fun sv9 ev9=>?_
 refine hv10.elim fun sv10 ev10=>?_
 refine hv24.elim fun sv24 ev24=>?_
 refine hv28.elim fun sv28 ev28=>?_
 refine hv31.elim fun sv31 ev31=>?_
 refine hv32.elim fun sv32 ev32=>?_
 refine hv35.elim fun sv35 ev35=>?_
 refine hv37.elim fun sv37 ev37=>?_
 refine hv38.elim fun sv38 ev38=>?_
 refine hv40.elim fun sv40 ev40=>?_
 refine hv42.elim fun sv42 ev42=>?_
 subst ev9 ev10 ev24 ev28 ev31 ev32 ev35 ev37 ev38 ev40 ev42
 have h:=fill_mo d sv9 sv10 sv24 sv28 sv31 sv32 sv35 sv37 sv38 sv40 sv42
 unfold moB Qz
 simp only[h]
 exact hk
theorem moCells_one {d:Qbt} {v9 v10 v24 v28 v31 v32 v35 v37 v38 v40 v42:Value} (hv9:∃s:Option Addr×Nat×Nat,v9= .slice s.1 s.2.1 s.2.2) (hv10:∃s:Option Addr×Nat×Nat,v10= .slice s.1 s.2.1 s.2.2) (hv24:∃s:Option Addr×Nat×Nat,v24= .slice s.1 s.2.1 s.2.2) (hv28:∃s:Option Addr×Nat×Nat,v28= .slice s.1 s.2.1 s.2.2) (hv31:∃s:Option Addr×Nat×Nat,v31= .slice s.1 s.2.1 s.2.2) (hv32:∃s:Option Addr×Nat×Nat,v32= .slice s.1 s.2.1 s.2.2) (hv35:∃s:Option Addr×Nat×Nat,v35= .slice s.1 s.2.1 s.2.2) (hv37:∃s:Option Addr×Nat×Nat,v37= .slice s.1 s.2.1 s.2.2) (hv38:∃s:Option Addr×Nat×Nat,v38= .slice s.1 s.2.1 s.2.2) (hv40:∃s:Option Addr×Nat×Nat,v40= .slice s.1 s.2.1 s.2.2) (hv42:∃s:Option Addr×Nat×Nat,v42= .slice s.1 s.2.1 s.2.2):∀v∈(Qg6 d v9 v10 v24 v28 v31 v32 v35 v37 v38 v40 v42).toArray.toList,v.oneCell'=true:=by
 obtain ⟨sv9,rfl⟩:=hv9
 obtain ⟨sv10,rfl⟩:=hv10
 obtain ⟨sv24,rfl⟩:=hv24
 obtain ⟨sv28,rfl⟩:=hv28
 obtain ⟨sv31,rfl⟩:=hv31
 obtain ⟨sv32,rfl⟩:=hv32
 obtain ⟨sv35,rfl⟩:=hv35
 obtain ⟨sv37,rfl⟩:=hv37
 obtain ⟨sv38,rfl⟩:=hv38
 obtain ⟨sv40,rfl⟩:=hv40
 obtain ⟨sv42,rfl⟩:=hv42
 intro v hv
 simp only[Qg6,List.mem_cons,List.not_mem_nil,or_false]at hv
 rcases hv with rfl|rfl|rfl|rfl|rfl|rfl|rfl|rfl|rfl|rfl|rfl|rfl|rfl|rfl|rfl|rfl|rfl|rfl|rfl|rfl|rfl|rfl|rfl|rfl|rfl|rfl|rfl|rfl|rfl|rfl|rfl|rfl|rfl|rfl|rfl|rfl|rfl|rfl|rfl|rfl|rfl|rfl|rfl|rfl|rfl|rfl|rfl|rfl|rfl|rfl|rfl<;>rfl
set_option maxHeartbeats 1000000 in
theorem mo1_ok {G:Cut} {H:Qe} (hG:G.In H) {x0:Value} {d:Qbt} {pos:List ZO} {empty:List ZJ} {c:OV} (o:Za G x0 (oCells d c).toArray) (od:OD G d pos empty c) (l4:d.test4.length<=50) (l5:d.test5.length<=50) (lr:d.refs.length<=50) (ls:d.strong.length<=50) {K:Kn}
  (hk:∀G' H' q3 v9 v31 v35 v38,RM G H H.size q3 G' H' (Qg6 d v9 c.strings c.bools c.strings2 v31 c.longs v35 c.weak v38 c.coOwnings c.nonOwnings)->G.le G'->SlV G' 2 v9 (d.test4.map Yw)->SlV G' 2 v31 (d.test5.map Yw)->SlV G' 1 v35 (d.refs.map Qai)->SlV G' 1 v38 (d.strong.map Qai)->K (ptr q3) H'):
  mo1 x0 (H.push (.cells z55 55)) K:=by
 obtain ⟨pa,ep,hpa⟩:=od.parent
 have hp:(!pa.isNone)=d.parent:=by rw[<-hpa];cases pa<;>rfl
 have e:=(Ext.refl hG).push (.cells z55 55)
 have o2:=Yj.fresh (Ext.refl hG) (.cells z55 55)
 generalize H.push (.cells z55 55)=H1 at *
 unfold mo1
 refine Q0 (fun vs h=>∃G' q3 v9 v31 v35 v38,vs=[ptr q3]/\RM G H H.size q3 G' h (Qg6 d v9 c.strings c.bools c.strings2 v31 c.longs v35 c.weak v38 c.coOwnings c.nonOwnings)/\G.le G'/\SlV G' 2 v9 (d.test4.map Yw)/\SlV G' 2 v31 (d.test5.map Yw)/\SlV G' 1 v35 (d.refs.map Qai)/\SlV G' 1 v38 (d.strong.map Qai)) ?_
  (fun x h hh=>by obtain ⟨G',q3,v9,v31,v35,v38,h0,h1,h2,h3,h4,h5,h6⟩:=hh;cases h0;exact hk G' h q3 v9 v31 v35 v38 h1 h2 h3 h4 h5 h6)
 have fin:∀{G' H' q3 v9 v31 v35 v38} {kp:Qe->Prop},Ext G H G' H'->Yj H G' H' H.size (.cells z55 55 (0,0))->Yj H G' H' q3 (.cells z55 55 (0,0))->H.size≠q3->SlV G' 2 v9 (d.test4.map Yw)->SlV G' 2 v31 (d.test5.map Yw)->SlV G' 1 v35 (d.refs.map Qai)->SlV G' 1 v38 (d.strong.map Qai)->
   (∀h,RM G H H.size q3 G' h (Qg6 d v9 c.strings c.bools c.strings2 v31 c.longs v35 c.weak v38 c.coOwnings c.nonOwnings)->kp h)->StK H' 51 (ptr q3) (.agg (Qg6 d v9 c.strings c.bools c.strings2 v31 c.longs v35 c.weak v38 c.coOwnings c.nonOwnings).toArray) kp:=fun {G' H' q3 v9 v31 v35 v38 kp} e o2 o3 hne f9 f31 f35 f38 hP=>by
  rw[Yg (n:=51) o3.get rfl rfl (by decide) (moCells_one (Zc f9) (Zc od.strings) (Zc od.bools) (Zc od.strings2) (Zc f31) (Zc od.longs) (Zc f35) (Zc od.weak) (Zc f38) (Zc od.coOwnings) (Zc od.nonOwnings))]
  exact hP _ ⟨e.set o3.out o3.new _,o2.set_ne hne _,o3.set _,hne⟩
 refine QbZ e.inn o (i:=1) (x:=Qbc d.mana) rfl ?_
 refine QbZ e.inn o (i:=2) (x:=Qbc d.hp) rfl ?_
 refine QbZ e.inn o (i:=3) (x:=Yf d.name) rfl ?_
 refine QbZ e.inn o (i:=4) (x:=c.inventory) rfl ?_
 refine sl_b2s e.inn od.inventory ?_
 refine QbZ e.inn o (i:=5) (x:=u8n d.color) rfl ?_
 refine QbZ e.inn o (i:=7) (x:=c.test4) rfl ?_
 refine QbZ e.inn o (i:=8) (x:=c.strings) rfl ?_
 refine QbZ e.inn o (i:=11) (x:=c.nested) rfl ?_
 refine sl_b2s e.inn od.nested ?_
 refine QbZ e.inn o (i:=13) (x:=.bool d.bool) rfl ?_
 refine QbZ e.inn o (i:=14) (x:=Qfl d.s32) rfl ?_
 refine QbZ e.inn o (i:=15) (x:=Zz d.u32) rfl ?_
 refine QbZ e.inn o (i:=16) (x:=Qdw d.s64) rfl ?_
 refine QbZ e.inn o (i:=17) (x:=Ya d.u64) rfl ?_
 refine QbZ e.inn o (i:=18) (x:=Qfl d.s32a) rfl ?_
 refine QbZ e.inn o (i:=19) (x:=Zz d.u32a) rfl ?_
 refine QbZ e.inn o (i:=20) (x:=Qdw d.s64a) rfl ?_
 refine QbZ e.inn o (i:=21) (x:=Ya d.u64a) rfl ?_
 refine QbZ e.inn o (i:=22) (x:=c.bools) rfl ?_
 refine QbZ e.inn o (i:=23) (x:=QcW d.f) rfl ?_
 refine QbZ e.inn o (i:=24) (x:=QcW d.f2) rfl ?_
 refine QbZ e.inn o (i:=25) (x:=QcW d.f3) rfl ?_
 refine QbZ e.inn o (i:=26) (x:=c.strings2) rfl ?_
 refine QbZ e.inn o (i:=28) (x:=c.flex) rfl ?_
 refine sl_b2s e.inn od.flex ?_
 refine QbZ e.inn o (i:=29) (x:=c.test5) rfl ?_
 refine QbZ e.inn o (i:=30) (x:=c.longs) rfl ?_
 refine QbZ e.inn o (i:=33) (x:=c.refs) rfl ?_
 refine QbZ e.inn o (i:=34) (x:=Ya d.singleWeak) rfl ?_
 refine QbZ e.inn o (i:=35) (x:=c.weak) rfl ?_
 refine QbZ e.inn o (i:=36) (x:=c.strong) rfl ?_
 refine QbZ e.inn o (i:=37) (x:=Ya d.coOwning) rfl ?_
 refine QbZ e.inn o (i:=38) (x:=c.coOwnings) rfl ?_
 refine QbZ e.inn o (i:=39) (x:=Ya d.nonOwning) rfl ?_
 refine QbZ e.inn o (i:=40) (x:=c.nonOwnings) rfl ?_
 refine QbZ e.inn o (i:=44) (x:=i8V d.signedEnum) rfl ?_
 refine QbZ e.inn o (i:=32) (x:=c.parent) rfl ?_
 rw[ep,QT (by kernel_rfl),hp]
 refine ⟨?_,?_⟩
 ·refine tf_ok e.inn (od.test4.mono ItP.mono e.le) l4 fun G2 H2 v9 x f9=>?_
  have e:=e.trans x
  have o2:=o2.ext x
  refine Qn x.keep.ext ?_
  refine QL (fun w=>Qp) ?_
  refine QL (fun w=>Qp) ?_
  refine QL (fun w=>Qp) ?_
  refine ⟨?_,?_⟩
  ·refine tf_ok e.inn (od.test5.mono ItP.mono e.le) l5 fun G3 H3 v31 x f31=>?_
   have e:=e.trans x
   have o2:=o2.ext x
   have f9:=f9.mono x.le
   refine Qn x.keep.ext ?_
   refine ⟨?_,?_⟩
   ·refine df_ok e.inn (od.refs.mono ItP.mono e.le) lr fun G4 H4 v35 x f35=>?_
    have e:=e.trans x
    have o2:=o2.ext x
    have f9:=f9.mono x.le
    have f31:=f31.mono x.le
    refine Qn x.keep.ext ?_
    refine ⟨?_,?_⟩
    ·refine df_ok e.inn (od.strong.mono ItP.mono e.le) ls fun G5 H5 v38 x f38=>?_
     have e:=e.trans x
     have o2:=o2.ext x
     have f9:=f9.mono x.le
     have f31:=f31.mono x.le
     have f35:=f35.mono x.le
     refine Qn x.keep.ext ?_
     refine moB_of (Zc f9) (Zc od.strings) (Zc od.bools) (Zc od.strings2) (Zc f31) (Zc od.longs) (Zc f35) (Zc od.weak) (Zc f38) (Zc od.coOwnings) (Zc od.nonOwnings) ?_
     rw[Qy]
     refine Qn (Qaf.push _ _).ext ?_
     have o3:=Yj.fresh e (.cells z55 55)
     have hne:=o2.ne
     have o2:=o2.push (.cells z55 55)
     have e:=e.push (.cells z55 55)
     exact fin e o2 o3 hne f9 f31 f35 f38 fun h r=>⟨_,_,_,_,_,_,rfl,r,e.le,f9,f31,f35,f38⟩
    ·rw[Qy]
     refine Qn (Qaf.push _ _).ext ?_
     have o3:=Yj.fresh e (.cells z55 55)
     have hne:=o2.ne
     have o2:=o2.push (.cells z55 55)
     have e:=e.push (.cells z55 55)
     generalize H4.push (.cells z55 55)=q3h at *
     generalize H4.size=q3 at *
     refine df_ok e.inn (od.strong.mono ItP.mono e.le) ls fun G5 H5 v38 x f38=>?_
     have e:=e.trans x
     have o2:=o2.ext x
     have o3:=o3.ext x
     have f9:=f9.mono x.le
     have f31:=f31.mono x.le
     have f35:=f35.mono x.le
     refine Qn x.keep.ext ?_
     refine moB_of (Zc f9) (Zc od.strings) (Zc od.bools) (Zc od.strings2) (Zc f31) (Zc od.longs) (Zc f35) (Zc od.weak) (Zc f38) (Zc od.coOwnings) (Zc od.nonOwnings) ?_
     exact fin e o2 o3 hne f9 f31 f35 f38 fun h r=>⟨_,_,_,_,_,_,rfl,r,e.le,f9,f31,f35,f38⟩
   ·rw[Qy]
    refine Qn (Qaf.push _ _).ext ?_
    have o3:=Yj.fresh e (.cells z55 55)
    have hne:=o2.ne
    have o2:=o2.push (.cells z55 55)
    have e:=e.push (.cells z55 55)
    generalize H3.push (.cells z55 55)=q3h at *
    generalize H3.size=q3 at *
    refine df_ok e.inn (od.refs.mono ItP.mono e.le) lr fun G4 H4 v35 x f35=>?_
    have e:=e.trans x
    have o2:=o2.ext x
    have o3:=o3.ext x
    have f9:=f9.mono x.le
    have f31:=f31.mono x.le
    refine Qn x.keep.ext ?_
    refine df_ok e.inn (od.strong.mono ItP.mono e.le) ls fun G5 H5 v38 x f38=>?_
    have e:=e.trans x
    have o2:=o2.ext x
    have o3:=o3.ext x
    have f9:=f9.mono x.le
    have f31:=f31.mono x.le
    have f35:=f35.mono x.le
    refine Qn x.keep.ext ?_
    refine moB_of (Zc f9) (Zc od.strings) (Zc od.bools) (Zc od.strings2) (Zc f31) (Zc od.longs) (Zc f35) (Zc od.weak) (Zc f38) (Zc od.coOwnings) (Zc od.nonOwnings) ?_
    exact fin e o2 o3 hne f9 f31 f35 f38 fun h r=>⟨_,_,_,_,_,_,rfl,r,e.le,f9,f31,f35,f38⟩
  ·rw[Qy]
   refine Qn (Qaf.push _ _).ext ?_
   have o3:=Yj.fresh e (.cells z55 55)
   have hne:=o2.ne
   have o2:=o2.push (.cells z55 55)
   have e:=e.push (.cells z55 55)
   generalize H2.push (.cells z55 55)=q3h at *
   generalize H2.size=q3 at *
   refine tf_ok e.inn (od.test5.mono ItP.mono e.le) l5 fun G3 H3 v31 x f31=>?_
   have e:=e.trans x
   have o2:=o2.ext x
   have o3:=o3.ext x
   have f9:=f9.mono x.le
   refine Qn x.keep.ext ?_
   refine df_ok e.inn (od.refs.mono ItP.mono e.le) lr fun G4 H4 v35 x f35=>?_
   have e:=e.trans x
   have o2:=o2.ext x
   have o3:=o3.ext x
   have f9:=f9.mono x.le
   have f31:=f31.mono x.le
   refine Qn x.keep.ext ?_
   refine df_ok e.inn (od.strong.mono ItP.mono e.le) ls fun G5 H5 v38 x f38=>?_
   have e:=e.trans x
   have o2:=o2.ext x
   have o3:=o3.ext x
   have f9:=f9.mono x.le
   have f31:=f31.mono x.le
   have f35:=f35.mono x.le
   refine Qn x.keep.ext ?_
   refine moB_of (Zc f9) (Zc od.strings) (Zc od.bools) (Zc od.strings2) (Zc f31) (Zc od.longs) (Zc f35) (Zc od.weak) (Zc f38) (Zc od.coOwnings) (Zc od.nonOwnings) ?_
   exact fin e o2 o3 hne f9 f31 f35 f38 fun h r=>⟨_,_,_,_,_,_,rfl,r,e.le,f9,f31,f35,f38⟩
 ·rw[Qy]
  refine Qn (Qaf.push _ _).ext ?_
  have o3:=Yj.fresh e (.cells z55 55)
  have hne:=o2.ne
  have o2:=o2.push (.cells z55 55)
  have e:=e.push (.cells z55 55)
  generalize H1.push (.cells z55 55)=q3h at *
  generalize H1.size=q3 at *
  refine tf_ok e.inn (od.test4.mono ItP.mono e.le) l4 fun G2 H2 v9 x f9=>?_
  have e:=e.trans x
  have o2:=o2.ext x
  have o3:=o3.ext x
  refine Qn x.keep.ext ?_
  refine QL (fun w=>Qp) ?_
  refine QL (fun w=>Qp) ?_
  refine QL (fun w=>Qp) ?_
  refine tf_ok e.inn (od.test5.mono ItP.mono e.le) l5 fun G3 H3 v31 x f31=>?_
  have e:=e.trans x
  have o2:=o2.ext x
  have o3:=o3.ext x
  have f9:=f9.mono x.le
  refine Qn x.keep.ext ?_
  refine df_ok e.inn (od.refs.mono ItP.mono e.le) lr fun G4 H4 v35 x f35=>?_
  have e:=e.trans x
  have o2:=o2.ext x
  have o3:=o3.ext x
  have f9:=f9.mono x.le
  have f31:=f31.mono x.le
  refine Qn x.keep.ext ?_
  refine df_ok e.inn (od.strong.mono ItP.mono e.le) ls fun G5 H5 v38 x f38=>?_
  have e:=e.trans x
  have o2:=o2.ext x
  have o3:=o3.ext x
  have f9:=f9.mono x.le
  have f31:=f31.mono x.le
  have f35:=f35.mono x.le
  refine Qn x.keep.ext ?_
  refine moB_of (Zc f9) (Zc od.strings) (Zc od.bools) (Zc od.strings2) (Zc f31) (Zc od.longs) (Zc f35) (Zc od.weak) (Zc f38) (Zc od.coOwnings) (Zc od.nonOwnings) ?_
  exact fin e o2 o3 hne f9 f31 f35 f38 fun h r=>⟨_,_,_,_,_,_,rfl,r,e.le,f9,f31,f35,f38⟩
theorem mo_fin {G0:Cut} {H0:Qe} {q2 q3:Nat} {G:Cut} {H:Qe} {cells cells2:List Value} (rs:RM G0 H0 q2 q3 G H cells) {R:Kn} (he:cells=cells2) (hl:cells2.length=51) (hone:∀v∈cells2,v.oneCell'=true) (hR:∀H',Ext G0 H0 G H'->R (.agg cells2.toArray) H'):
  LdN H 51 (ptr q3) fun x=>StK H 51 (ptr q2) x fun h=>LdN h 51 (ptr q2) fun r=>R r h:=by
 subst he
 exact rs.fin hl rfl (by decide) hone hR
set_option maxHeartbeats 1000000 in
theorem mofStep {d:Qbt} {pos:List ZO} {empty:List ZJ} {tables enemy test uniq amb:List GM} (hT:∀k∈tables,QhP k) (hE:∀k∈enemy,QhP k) (hU:∀k∈test,QhP k) (hQ:∀k∈uniq,QhP k) (hA:∀k∈amb,QhP k) (hl:LenM (.mk d pos empty tables enemy test uniq amb)) (hen:d.enums.length<4611686018427387904):QhP (.mk d pos empty tables enemy test uniq amb):=by
 intro G H v R hG ho hR
 rw[ObjM]at ho
 obtain ⟨c,o,od,⟨vs,sT,oT⟩,oE,oU,oQ,oA⟩:=ho
 rw[LenM]at hl
 obtain ⟨⟨_,_,n4,nab,n5,nT,_⟩,⟨_,_,_,_,nd,nr,_,ns,_⟩,_⟩:=hl
 apply w30
 unfold s30
 rw[Qy]
 refine mo1_ok hG o od n4 n5 nr ns ?_
 intro G1 H1 q3 v9 v31 v35 v38 r1 le1 s9 s31 s35 s38
 refine mo2_ok r1 le1 o rfl od.pos (by kernel_rfl) fun G2 H2 c0 r2 le2 s0=>?_
 have L2:=Cut.le_trans le1 le2
 refine mo3_ok r2 L2 o rfl sT oT hT nT (by kernel_rfl) fun G3 H3 c11 r3 le3 s11=>?_
 have L3:=Cut.le_trans L2 le3
 refine mo4_ok r3 L3 o rfl oE hE (by kernel_rfl) fun G4 H4 c12 r4 le4 s12=>?_
 have L4:=Cut.le_trans L3 le4
 refine mo5_ok r4 L4 o rfl od.empty (by kernel_rfl) fun G5 H5 c14 r5 le5 s14=>?_
 have L5:=Cut.le_trans L4 le5
 refine mo6_ok r5 L5 o rfl od.abil nab (by kernel_rfl) fun G6 H6 c29 r6 le6 s29=>?_
 have L6:=Cut.le_trans L5 le6
 refine mo7_ok r6 L6 o rfl od.doubles nd (by kernel_rfl) fun G7 H7 c33 r7 le7 s33=>?_
 have L7:=Cut.le_trans L6 le7
 refine mo8_ok r7 L7 o rfl oU hU (by kernel_rfl) (by kernel_rfl) (by kernel_rfl) fun G8 H8 c7 r8 le8 s7=>?_
 have L8:=Cut.le_trans L7 le8
 refine mo9_ok r8 L8 o rfl oQ hQ (by kernel_rfl) (by kernel_rfl) (by kernel_rfl) fun G9 H9 c44 r9 le9 s44=>?_
 have L9:=Cut.le_trans L8 le9
 refine mo10_ok r9 L9 o rfl oA hA (by kernel_rfl) (by kernel_rfl) (by kernel_rfl) fun G10 H10 c47 r10 le10 s47=>?_
 refine mo11_ok r10 (Cut.le_trans L9 le10) o rfl od.enums hen (by kernel_rfl) fun H11 r11=>?_
 have M10:=le10
 have M9:=Cut.le_trans le9 M10
 have M8:=Cut.le_trans le8 M9
 have M7:=Cut.le_trans le7 M8
 have M6:=Cut.le_trans le6 M7
 have M5:=Cut.le_trans le5 M6
 have M4:=Cut.le_trans le4 M5
 have M3:=Cut.le_trans le3 M4
 have M2:=Cut.le_trans le2 M3
 have M1:=Cut.le_trans le1 M2
 have hval:QaX G10 (.mk d pos empty tables enemy test uniq amb) (Yk d ⟨c0,c7,v9,c.strings,c11,c12,c14,c.bools,c.strings2,c29,v31,c.longs,c33,v35,c.weak,v38,c.coOwnings,c.nonOwnings,c44,c47⟩):=by
  rw[QaX]
  exact ⟨_,rfl,⟨s0.mono M3,s9.mono M2,od.strings.mono M1,s14.mono M6,od.bools.mono M1,od.strings2.mono M1,s29.mono M7,s31.mono M2,od.longs.mono M1,s33.mono M8,s35.mono M2,od.weak.mono M1,s38.mono M2,od.coOwnings.mono M1,od.nonOwnings.mono M1⟩,s11.mono M4,s12.mono M5,s7.mono M9,s44.mono M10,s47⟩
 exact mo_fin r11 (by kernel_rfl) (YP _ _) (QaX.one hval) fun H' e'=>hR G10 H' _ e' hval
mutual
def EnM:GM->Prop
 |.mk d pos empty tables enemy test uniq amb=>d.enums.length<4611686018427387904/\EnL tables/\EnL enemy/\EnL test/\EnL uniq/\EnL amb
def EnL:List GM->Prop
 |[]=>True
 |g::gs=>EnM g/\EnL gs
end
mutual
theorem QhM:∀g:GM,LenM g->EnM g->QhP g
 |.mk d pos empty tables enemy test uniq amb,hl,he=>by
  have hl':=hl
  rw[LenM]at hl'
  rw[EnM]at he
  obtain ⟨_,_,l1,l2,l3,l4,l5⟩:=hl'
  obtain ⟨e0,e1,e2,e3,e4,e5⟩:=he
  exact mofStep (QaT tables l1 e1) (QaT enemy l2 e2) (QaT test l3 e3) (QaT uniq l4 e4) (QaT amb l5 e5) hl e0
theorem QaT:∀gs:List GM,Qii gs->EnL gs->∀k∈gs,QhP k
 |[],_,_,k,h=>by simp at h
 |g::gs,hs,he,k,h=>by
  rw[Qii]at hs
  rw[EnL]at he
  rcases List.mem_cons.1 h with h|h
  ·rw[h];exact QhM g hs.1 he.1
  ·exact QaT gs hs.2 he.2 k h
end
end Go.Proofs
namespace Go.Proofs
open Go Go.Vc
open Tryz (prog)
theorem tyU {amb:Bool} {ty:UInt8} {n:Nat} (h:GUn amb ty n):ty<=3:=by
 rcases h with ⟨rfl,_⟩|⟨_,⟨_,rfl,_⟩|⟨h,_⟩⟩
 ·decide
 ·decide
 ·rcases h with rfl|⟨_,rfl|rfl⟩<;>decide
mutual
theorem tyM:∀{g:GM},Qck g->TyM (toM g)
 |.mk d pos empty tables enemy test uniq amb,h=>by
  rw[Qck]at h
  obtain ⟨_,_,_,u1,u2,u3,c1,c2,c3,c4,c5⟩:=h
  rw[toM,TyM]
  exact ⟨tyU u1,tyU u2,tyU u3,tyL c1,tyL c2,tyL c3,tyL c4,tyL c5⟩
theorem tyL:∀{gs:List GM},Zx gs->TyL (Qc0 gs)
 |[],_=>by rw[Qc0,TyL];trivial
 |g::gs,h=>by
  rw[Zx]at h
  rw[Qc0,TyL]
  exact ⟨tyM h.1,tyL h.2⟩
end
theorem en1:∀{ms:List Mon},EnL (rdMs ms)->EnL (rd1 ms)
 |[],_=>by rw[rd1,EnL];trivial
 |m::ms,h=>by
  rw[rdMs,EnL]at h
  rw[rd1,EnL,EnL]
  exact ⟨h.1,trivial⟩
theorem enU {amb:Bool} {ty:UInt8} {gs:List GM} (h:EnL gs):EnL (rdU amb ty gs):=by
 unfold rdU
 split
 ·rw[EnL];trivial
 ·exact h
mutual
theorem enM:∀{g:GM},Qck g->EnM (rdM (toM g))
 |.mk d pos empty tables enemy test uniq amb,h=>by
  rw[Qck]at h
  obtain ⟨h1,_,_,_,_,_,c1,c2,c3,c4,c5⟩:=h
  rw[toM,rdM,EnM]
  exact ⟨by have:=h1.texts;show d.enums.length<_;omega,enL c1,en1 (enL c2),enU (en1 (enL c3)),enU (en1 (enL c4)),enU (en1 (enL c5))⟩
theorem enL:∀{gs:List GM},Zx gs->EnL (rdMs (Qc0 gs))
 |[],_=>by rw[Qc0,rdMs,EnL];trivial
 |g::gs,h=>by
  rw[Zx]at h
  rw[Qc0,rdMs,EnL]
  exact ⟨enM h.1,enL h.2⟩
end
theorem Qjj {bs:List UInt8} {m:Mon} (hr:RootRw bs m) (hty:TyM m) (hln:LenM (rwM m)) (hen:EnM (rwM m)) (hl:bs.length<2147483648) {G:Cut} {H:Qe} (hG:G.In H) {R:Kn} (hR:∀G' H' cells,Ext G H G' H'->QaX G' (rwM m) cells->R (.tuple #[.agg cells.toArray,.bool true]) H'):
  FnS prog 10 #[Yf bs] H R:=by
 apply w10
 unfold tp10
 rw[Qy,Qy]
 have e:=Ext.refl hG
 have o1:Yj H G (H.push (.cells (Yf bs).cells 9)) H.size (.cells #[Yf bs] 9 (0,0)):=Yj.fresh e _
 have e:=e.push (.cells (Yf bs).cells 9)
 generalize H.push (.cells (Yf bs).cells 9)=H1 at *
 have n1:=o1.ne
 have o2:=Yj.fresh e (.cells z55 55)
 have o1:=o1.push (.cells z55 55)
 have e:=e.push (.cells z55 55)
 generalize H1.push (.cells z55 55)=H2 at *
 refine thrown_ok (by kernel_rfl) ?_
 have n2:=o2.ne
 have o3:=Yj.fresh e (.cells #[.bool false] 4 (0,0))
 have o1:=o1.push (.cells #[.bool false] 4 (0,0))
 have o2:=o2.push (.cells #[.bool false] 4 (0,0))
 have e:=e.push (.cells #[.bool false] 4 (0,0))
 generalize H2.push (.cells #[.bool false] 4 (0,0))=H3 at *
 apply w29
 unfold s29
 rw[Ql ((Qj o1.get).trans (show (#[Yf bs]:Array Value)[0]?=some _ from rfl))]
 refine slice_ok hl ?_
 have u:U8s (H3.push (.cells (u8c bs) 5 (0,0))) H3.size 0 bs:=fun i hi=>by
  rw[Qj Qh,Nat.zero_add]
  unfold u8c byteN
  simp[hi,List.getD]
 have n3:=o3.ne
 have o1:=o1.pushG (.cells (u8c bs) 5 (0,0))
 have o2:=o2.pushG (.cells (u8c bs) 5 (0,0))
 have o3:=o3.pushG (.cells (u8c bs) 5 (0,0))
 have hB:BufG (G.upd H3.size (.cells (u8c bs) 5 (0,0))) H3.size bs:=⟨_,_,_,Cut.upd_same,by unfold u8c;simp⟩
 have e:=e.pushG (.cells (u8c bs) 5 (0,0))
 generalize G.upd H3.size (.cells (u8c bs) 5 (0,0))=G4 at *
 generalize H3.push (.cells (u8c bs) 5 (0,0))=H4 at *
 have hlen:=hr.len
 have hle:=hr.le
 refine root_ok u hlen hl hle ?_
 have t:Tab (H4.push (.cells #[bsl H3.size 0 bs.length bs.length,.int .u32 (le4 bs 0:Nat)] 187)) H4.size H3.size bs (le4 bs 0):=⟨Qj Qh,Qj Qh,QeO (Qaf.push _ _).ext u,hl,hle⟩
 have o1:=o1.push (.cells #[bsl H3.size 0 bs.length bs.length,.int .u32 (le4 bs 0:Nat)] 187)
 have o2:=o2.push (.cells #[bsl H3.size 0 bs.length bs.length,.int .u32 (le4 bs 0:Nat)] 187)
 have o3:=o3.push (.cells #[bsl H3.size 0 bs.length bs.length,.int .u32 (le4 bs 0:Nat)] 187)
 have e:=e.push (.cells #[bsl H3.size 0 bs.length bs.length,.int .u32 (le4 bs 0:Nat)] 187)
 generalize H4.push (.cells #[bsl H3.size 0 bs.length bs.length,.int .u32 (le4 bs 0:Nat)] 187)=H5 at *
 obtain ⟨A,hrd⟩:=hr.rd
 refine unpack_all m hty A _ _ _ bs G4 H5 _ t hB e.inn hrd ?_
 intro x H5' G5 e5 _ hob
 have o1:=o1.ext e5
 have o2:=o2.ext e5
 have o3:=o3.ext e5
 have e:=e.trans e5
 refine QhM (rwM m) hln hen G5 H5' x _ e.inn hob ?_
 intro G6 H6 cells e6 hv
 have o1:=o1.ext e6
 have o2:=o2.ext e6
 have o3:=o3.ext e6
 have e:=e.trans e6
 have hvl:=hv.len
 have hone:=QaX.one hv
 rw[Yg (n:=51) (c':=cells.toArray) o2.get rfl (by simp[hvl]) (by decide) (by simpa using hone)]
 have e:=e.set o2.out o2.new (.cells cells.toArray 55 (0,0))
 have o3:=o3.set_ne (Ne.symm n2) (.cells cells.toArray 55 (0,0))
 have o2:=o2.set (.cells cells.toArray 55 (0,0))
 generalize setB H6 H1.size (.cells cells.toArray 55 (0,0))=H7 at *
 refine ⟨rfl,o3.get,?_⟩
 rw[Ym]
 show ZI prog (Op.unary .not (.bool true)) _
 rw[Ym]
 show IfK (.bool false) _ _
 rw[ZG,YI (n:=51) (vs:=cells) (by rw[Q4 o2.get 51 (by simp[hvl])];simp[<-hvl]),Yg (n:=51) (c':=cells.toArray) o2.get (by simp[hvl]) (by simp[hvl]) (by decide) (by simpa using hone)]
 have e:=e.set o2.out o2.new (.cells cells.toArray 55 (0,0))
 have o2:=o2.set (.cells cells.toArray 55 (0,0))
 rw[YI (n:=51) (vs:=cells) (by rw[Q4 o2.get 51 (by simp[hvl])];simp[<-hvl])]
 exact hR _ _ _ e hv
mutual
theorem ty_fl:∀{m:Mon},TyM m->TyM (flM m)
 |.mk d tables enemy test uniq amb,h=>by
  rw[TyM]at h
  rw[flM,TyM]
  obtain ⟨h1,h2,h3,c1,c2,c3,c4,c5⟩:=h
  exact ⟨h1,h2,h3,tys_fl c1,tys_fl c2,tys_fl c3,tys_fl c4,tys_fl c5⟩
theorem tys_fl:∀{ms:List Mon},TyL ms->TyL (flMs ms)
 |[],_=>by rw[flMs,TyL];trivial
 |m::ms,h=>by
  rw[TyL]at h
  rw[flMs,TyL]
  exact ⟨ty_fl h.1,tys_fl h.2⟩
end
end Go.Proofs
namespace Go.Proofs
open Go Go.Vc
open Tryz (prog)
def sizeK (k:UInt8):Nat:=if k=0\/k=1\/k=2 then 1 else if k=3\/k=4 then 2 else if k=5\/k=6\/k=9 then 4 else 8
theorem eqU {P:Program} {t:TypeId} {k c:UInt8} {z:Int} (hz:z=(c.toNat:Int)) {K:Value->Prop}:Qk P .eql t (u8n k) (.int .u8 z) K=K (.bool (decide (k=c))):=by
 subst hz
 rw[Yt]
 congr 2
 exact decide_eq_decide.2 ⟨fun h=>UInt8.toNat_inj.1 (by omega),fun h=>by rw[h]⟩
theorem Size_ok {k:UInt8} {H:Qe} {R:Kn} (hR:R (.int .i64 (sizeK k:Nat)) H):FnS prog 70 #[u8n k] H R:=by
 apply w70
 unfold s70
 unfold sizeK at hR
 refine Q0 (fun vs h=>h=H/\∃b,vs=[.bool b]/\(b=true↔(k=0\/k=1\/k=2))) ?_ ?_
 ·rw[eqU (c:=0) (z:=0) rfl]
  refine Y9 (fun h=>⟨rfl,_,rfl,by simp at h;simp[h]⟩) (fun h0=>?_)
  rw[eqU (c:=1) (z:=1) rfl]
  refine Y9 (fun h=>⟨rfl,_,rfl,by simp at h;simp[h]⟩) (fun h1=>?_)
  rw[eqU (c:=2) (z:=2) rfl]
  exact ⟨rfl,_,rfl,by simp at h0 h1;simp[h0,h1]⟩
 rintro x4 h1 ⟨rfl,b,hb,hb2⟩
 cases hb
 refine Y9 (fun h=>by rw[if_pos (hb2.1 h)]at hR;exact hR) (fun hn=>?_)
 rw[if_neg (fun h=>by rw[hb2.2 h]at hn;cases hn)]at hR
 refine Q0 (fun vs h=>h=h1/\∃b,vs=[.bool b]/\(b=true↔(k=3\/k=4))) ?_ ?_
 ·rw[eqU (c:=3) (z:=3) rfl]
  refine Y9 (fun h=>⟨rfl,_,rfl,by simp at h;simp[h]⟩) (fun h0=>?_)
  rw[eqU (c:=4) (z:=4) rfl]
  exact ⟨rfl,_,rfl,by simp at h0;simp[h0]⟩
 rintro x8 h2 ⟨rfl,b,hb,hb2⟩
 cases hb
 refine Y9 (fun h=>by rw[if_pos (hb2.1 h)]at hR;exact hR) (fun hn=>?_)
 rw[if_neg (fun h=>by rw[hb2.2 h]at hn;cases hn)]at hR
 refine Q0 (fun vs h=>h=h2/\∃b,vs=[.bool b]/\(b=true↔(k=5\/k=6\/k=9))) ?_ ?_
 ·rw[eqU (c:=5) (z:=5) rfl]
  refine Y9 (fun h=>⟨rfl,_,rfl,by simp at h;simp[h]⟩) (fun h0=>?_)
  rw[eqU (c:=6) (z:=6) rfl]
  refine Y9 (fun h=>⟨rfl,_,rfl,by simp at h;simp[h]⟩) (fun h1=>?_)
  rw[eqU (c:=9) (z:=9) rfl]
  exact ⟨rfl,_,rfl,by simp at h0 h1;simp[h0,h1]⟩
 rintro x11 h3 ⟨rfl,b,hb,hb2⟩
 cases hb
 refine Y9 (fun h=>by rw[if_pos (hb2.1 h)]at hR;exact hR) (fun hn=>?_)
 rw[if_neg (fun h=>by rw[hb2.2 h]at hn;cases hn)]at hR
 exact hR
abbrev Zp (kind elem:UInt8) (num:UInt64) (text:List UInt8):List Value:=[u8n kind,u8n elem,Ya num,Yf text,.slice none 0 0,.slice none 0 0,.slice none 0 0]
theorem Qf4 {t n:Nat} {vs:List Value} {G0 G:Cut} {H0 H:Qe} {q:Nat} {c:Array Value} (o:Yj H0 G H q (.cells c t (0,0))) (hc:c.size=n) (hl:vs.length=n) (hn:0<n) (hone:∀v∈vs,v.oneCell'=true) (e:Ext G0 H0 G H) {R:Kn} (hR:∀H',Ext G0 H0 G H'->R (.agg vs.toArray) H'):
  StK H n (ptr q) (.agg vs.toArray) fun h2=>LdN h2 n (ptr q) fun r=>R r h2:=by
 rw[Yg (n:=n) (c':=vs.toArray) o.get hc (by simpa using hl) hn (by simpa using hone)]
 have o:=o.set (.cells vs.toArray t (0,0))
 rw[YI (n:=n) (vs:=vs) (by rw[Q4 o.get n (by simp[hl])];simp[<-hl])]
 exact hR _ (e.set o.out o.new _)
def Qeo (k:UInt8) (n:UInt64):UInt64:=UInt64.ofNat (n.toNat%2^(8*sizeK k))
def Qan (k:UInt8) (n D:UInt64):SL:=.mk true (QaS k 0 (Qeo k n) []) (Qeo k D)
theorem Qc7 (k:UInt8):sizeK k=1\/sizeK k=2\/sizeK k=4\/sizeK k=8:=by
 unfold sizeK
 split
 ·exact Or.inl rfl
 ·split
  ·exact Or.inr (Or.inl rfl)
  ·split
   ·exact Or.inr (Or.inr (Or.inl rfl))
   ·exact Or.inr (Or.inr (Or.inr rfl))
theorem and_mask (n:UInt64) {j:Nat} (hj:j<64):Qbb .and .u64 (n.toNat:Int) ((2^j-1:Nat):Int)=((UInt64.ofNat (n.toNat%2^j)).toNat:Int):=by
 have hn:=n.toNat_lt
 have h2:n.toNat%2^j<=n.toNat:=Nat.mod_le _ _
 have hp:2^j-1<2^64:=by have:=Nat.pow_lt_pow_right (a:=2) (by decide) hj;omega
 unfold Qbb
 simp only
 rw[BitVec.toNat_and,show IntKind.bits .u64=64 from rfl,BitVec.toNat_ofInt,BitVec.toNat_ofInt,UInt64.toNat_ofNat_of_lt' (by show _<2^64;omega)]
 rw[show ((n.toNat:Int)%((2^64:Nat):Int)).toNat=n.toNat by omega,show (((2^j-1:Nat):Int)%((2^64:Nat):Int)).toNat=2^j-1 by omega,Nat.and_two_pow_sub_one_eq_mod]
 exact QfC (by omega) (by omega)
theorem mask_ok {P:Program} {t t2:TypeId} {n:UInt64} {s:Nat} (hs:s=1\/s=2\/s=4) {k:Value->Prop} (hk:k (Ya (UInt64.ofNat (n.toNat%2^(8*s))))):
  Qk P .mul t (.int .i64 8) (.int .i64 (s:Nat)) fun a=>Qk P .shl t2 (.int .u64 1) a fun b=>Qk P .sub t2 b (.int .u64 1) fun c=>Qk P .and t2 (Ya n) c k:=by
 have hc:∀j,j<64->IntKind.u64.wrap (IntKind.u64.wrap (1*2^(min (((j:Nat):Int)).toNat IntKind.u64.bits))-1)=((2^j-1:Nat):Int):=fun j hj=>by
  have hp:=Nat.pow_lt_pow_right (a:=2) (by decide) hj
  have h1:1<=2^j:=Nat.one_le_two_pow
  have e:(1*2^(min (((j:Nat):Int)).toNat IntKind.u64.bits):Int)=((2^j:Nat):Int):=by
   rw[show min (((j:Nat):Int)).toNat IntKind.u64.bits=j by rw[Int.toNat_natCast];exact Nat.min_eq_left (by show j<=64;omega)]
   simp
  rw[e,QfC (n:=((2^j:Nat):Int)) (by omega) (by omega),QfC (n:=((2^j:Nat):Int)-1) (by omega) (by omega)];omega
 rw[Z1,show IntKind.i64.wrap (8*(s:Int))=((8*s:Nat):Int) by rw[wrap_i64 (by omega) (by omega)];omega,Zi (by omega),QZ,hc _ (by omega),Qfk,and_mask n (by omega)]
 exact hk
theorem fill_kn (k:UInt8) (n:UInt64):YJ z45.toList [(0,1,u8n k),(2,1,Ya n)]=some (Zp k 0 n []):=by kernel_rfl
theorem fill_sl (b:Bool) (k e:UInt8) (n:UInt64) (t:List UInt8) (D:UInt64):YJ z74.toList [(0,1,.bool b),(1,7,.agg (Zp k e n t).toArray),(8,1,Ya D)]=some (.bool b::(Zp k e n t++[Ya D])):=by kernel_rfl
theorem VL.scal (F:Cut) (b:Bool) (k e:UInt8) (n:UInt64) (t:List UInt8) (D:UInt64):VL F (.mk b (QaS k e n t) D) (.bool b::(Zp k e n t++[Ya D])):=by
 rw[VL]
 exact ⟨_,rfl,VV.flat F k e n t⟩
theorem QG {k:UInt8} {n D:UInt64} {G:Cut} {H:Qe} (hG:G.In H) {R:Kn} (hR:∀H' cells,Ext G H G H'->(∀F,VL F (Qan k n D) cells)->R (.agg cells.toArray) H'):FnS prog 22 #[u8n k,Ya n,Ya D] H R:=by
 apply w22
 unfold s22
 rw[Qy]
 have e:=Ext.refl hG
 have o:=Yj.fresh e (.cells z74 74)
 have e:=e.push (.cells z74 74)
 generalize H.push (.cells z74 74)=H1 at *
 refine Q0 (fun vs h=>h=H1/\∃x,vs=[x,Ya (Qeo k n),Ya (Qeo k D)]) ?_ ?_
 ·refine Size_ok ?_
  rw[Yr]
  refine Zd (fun hs=>?_) (fun hs=>?_)
  ·have hc:sizeK k=1\/sizeK k=2\/sizeK k=4:=by have:=Qc7 k;omega
   exact mask_ok hc (mask_ok hc ⟨rfl,_,rfl⟩)
  ·have h8:sizeK k=8:=by have:=Qc7 k;omega
   have hm:∀x:UInt64,Qeo k x=x:=fun x=>by
    unfold Qeo
    rw[h8,Nat.mod_eq_of_lt x.toNat_lt,UInt64.ofNat_toNat]
   exact ⟨rfl,_,by rw[hm,hm]⟩
 rintro x7 x1 x2 h3 ⟨rfl,x,hx⟩
 cases hx
 have hf:=fill_kn k (Qeo k n)
 unfold Qz
 simp only[hf]
 have hf2:=fill_sl true k 0 (Qeo k n) [] (Qeo k D)
 simp only[hf2]
 exact Qf4 (vs:=.bool true::(Zp k 0 (Qeo k n) []++[Ya (Qeo k D)])) o rfl rfl (by decide) (VL.scal G true k 0 (Qeo k n) [] (Qeo k D)).one e (fun H' e'=>hR H' _ e' (fun F=>VL.scal F true k 0 (Qeo k n) [] (Qeo k D)))
end Go.Proofs
namespace Go.Proofs
open Go Go.Vc
open Tryz (prog)
theorem fill_nm (k:UInt8) (a:Option Addr) (n c:Nat):YJ z45.toList [(0,1,(.int .u8 13)),(1,1,u8n k),(4,1,.slice a n c)]=some [u8n 13,u8n k,Ya 0,Yf [],.slice a n c,.slice none 0 0,.slice none 0 0]:=by kernel_rfl
theorem fill_nm2 (b:Bool) (k:UInt8) (a:Option Addr) (n c:Nat):YJ z74.toList [(0,1,.bool b),(1,7,.agg (#[u8n 13,u8n k,Ya 0,Yf [],.slice a n c,.slice none 0 0,.slice none 0 0]:Array Value))]=some (.bool b::([u8n 13,u8n k,Ya 0,Yf [],.slice a n c,.slice none 0 0,.slice none 0 0]++[Ya 0])):=by kernel_rfl
def QfX (k:UInt8) (l:List UInt64):SL:=.mk (decide (0<l.length)) (.mk 13 k 0 [] l [] []) 0
theorem Qaj {k:UInt8} {v:Value} {l:List UInt64} {G:Cut} {H:Qe} (hG:G.In H) (hs:SlV G 1 v (l.map Qai)) {R:Kn} (hR:∀H' cells,Ext G H G H'->VL G (QfX k l) cells->R (.agg cells.toArray) H'):FnS prog 26 #[u8n k,v] H R:=by
 apply w26
 unfold s26
 rw[Qy]
 have e:=Ext.refl hG
 have o:=Yj.fresh e (.cells z74 74)
 have e:=e.push (.cells z74 74)
 generalize H.push (.cells z74 74)=H1 at *
 have hlen:∀k:Value->Prop,Yv v k=k (.int .i64 (l.length:Nat)):=fun k=>by rw[hs.len,List.length_map]
 have hv:VL G (QfX k l) (.bool (decide (0<l.length))::([u8n 13,u8n k,Ya 0,Yf [],v,.slice none 0 0,.slice none 0 0]++[Ya 0])):=by
  rw[QfX,VL]
  refine ⟨_,rfl,?_⟩
  rw[VV]
  exact ⟨_,_,_,rfl,hs,⟨[],SlV.nil G 7,by rw[VVs];trivial⟩,⟨[],SlV.nil G 9,by rw[VLs];trivial⟩⟩
 rw[hlen,Qbv,show decide ((l.length:Int)>0)=decide (0<l.length) from decide_eq_decide.2 (by omega)]
 obtain ⟨a,n,c,rfl⟩:=SlV.sl hs
 have hf:=fill_nm k a n c
 unfold Qz
 simp only[hf]
 have hf2:=fill_nm2 (decide (0<l.length)) k a n c
 simp only[hf2]
 exact Qf4 (vs:=.bool (decide (0<l.length))::([u8n 13,u8n k,Ya 0,Yf [],.slice a n c,.slice none 0 0,.slice none 0 0]++[Ya 0])) o rfl rfl (by decide) hv.one e (fun H' e'=>hR H' _ e' hv)
def QhL (s:List UInt8):SL:=.mk (decide (s≠[])) (QaS 12 0 0 s) 0
theorem fill_by (s:List UInt8):YJ z45.toList [(0,1,(.int .u8 12)),(3,1,Yf s)]=some (Zp 12 0 0 s):=by kernel_rfl
theorem fill_by2 (b:Bool) (k e:UInt8) (n:UInt64) (t:List UInt8):YJ z74.toList [(0,1,.bool b),(1,7,.agg (Zp k e n t).toArray)]=some (.bool b::(Zp k e n t++[Ya 0])):=by kernel_rfl
theorem QcR {s:List UInt8} {G:Cut} {H:Qe} (hG:G.In H) {R:Kn} (hR:∀H' cells,Ext G H G H'->(∀F,VL F (QhL s) cells)->R (.agg cells.toArray) H'):FnS prog 23 #[Yf s] H R:=by
 apply w23
 unfold s23
 rw[Qy]
 have e:=Ext.refl hG
 have o:=Yj.fresh e (.cells z74 74)
 have e:=e.push (.cells z74 74)
 generalize H.push (.cells z74 74)=H1 at *
 have hne:∀k:Value->Prop,Qk prog .neq 9 (Yf s) (.string ⟨#[]⟩) k=k (.bool (decide (s≠[]))):=fun k=>by
  show Qk prog .neq 9 (Yf s) (Yf []) k=_
  rw[BinK_strne,Qec,Qec]
  cases s<;>rfl
 rw[hne]
 have hf:=fill_by s
 unfold Qz
 simp only[hf]
 have hf2:=fill_by2 (decide (s≠[])) 12 0 0 s
 simp only[hf2]
 exact Qf4 (vs:=.bool (decide (s≠[]))::(Zp 12 0 0 s++[Ya 0])) o rfl rfl (by decide) (VL.scal G _ 12 0 0 s 0).one e (fun H' e'=>hR H' _ e' (fun F=>VL.scal F _ 12 0 0 s 0))
def Qij (P:Program) (t:TypeId) (s:Value) (h:Qe) (B:Value->Qe->(Qe->Prop)->Prop) (K:Qe->Prop):Prop:=
 QD (fun M=>Yv s fun n=>Yu [(.int .i64 0)] h fun I m=>∀x:Value,∀h1:Qe,I m [x] h1->
  Qk P .lss t x n fun c=>IfK c (B x h1 fun h3=>Qk P .add t x (.int .i64 1) fun x'=>QS I m [x'] h3) (M [] h1)) fun M=>∀h':Qe,M [] h'->K h'
theorem QiB {P:Program} {t:TypeId} {h:Qe} {B:Value->Qe->(Qe->Prop)->Prop} {K:Qe->Prop} {n:Nat} {s:Value} (St:Nat->Qe->Prop) (h0:St 0 h) (hn:n<4611686018427387904) (hl:∀k:Value->Prop,Yv s k=k (.int .i64 (n:Nat)))
  (hB:∀i H (k:Qe->Prop),i<n->St i H->(∀H',St (i+1) H'->k H')->B (.int .i64 (i:Nat)) H k) (hK:∀H,St n H->K H):Qij P t s h B K:=by
 refine Q0 (fun _ H=>St n H) ?_ (fun H hH=>hK H hH)
 rw[hl]
 refine ⟨fun m vs H=>∃i,vs=[.int .i64 (i:Nat)]/\i+m=n/\St i H,⟨n,0,rfl,by omega,h0⟩,?_⟩
 rintro m x H ⟨i,hx,hi,hs⟩
 cases hx
 rw[Yr]
 by_cases hlt:i<n
 ·rw[Yb (by omega)]
  refine hB i H _ hlt hs fun H' hs'=>?_
  rw[QA,wrap_i64 (by omega) (by omega)]
  exact ⟨m-1,by omega,i+1,by simp,by omega,hs'⟩
 ·rw[QM (by omega)]
  have:i=n:=by omega
  subst this
  exact hs
section
variable {G0:Cut} {H0:Qe} {t:TypeId} {ob:Obj} {q2 q3:Nat} {G:Cut} {H:Qe} {cells:List Value} (rs:RS G0 H0 t ob q2 q3 G H cells)
include rs
theorem app_slc {P:Program} {ti:TypeId} {s:Value} {Bd:Value->Qe->(Qe->Prop)->Prop} {K:Qe->Prop} {fld es:Nat} {et:TypeId} {n:Nat} (Items:Cut->Nat->List (List Value)->Prop) (h0:Items G 0 []) (hc:cells[fld]?=some (.slice none 0 0)) (hn:n<4611686018427387904)
  (hl:∀k:Value->Prop,Yv s k=k (.int .i64 (n:Nat)))
  (hB:∀i G1 H' c cells' items (k:Qe->Prop),i<n->G.le G1->RS G0 H0 t ob q2 q3 G1 H' cells'->cells'[fld]?=some c->Cur H0 G1 H' et es c items (badq q2 q3)->Items G1 i items->
   (∀G2 H2 c2 items2,G1.le G2->RS G0 H0 t ob q2 q3 G2 H2 (cells'.set fld c2)->Cur H0 G2 H2 et es c2 items2 (badq q2 q3)->Items G2 (i+1) items2->k H2)->Bd (.int .i64 (i:Nat)) H' k)
  (hk:∀G' G1 H' c items,RS G0 H0 t ob q2 q3 G' H' (cells.set fld c)->G.le G'->SlV G' es c items->Items G1 n items->G1.le G'->K H'):Qij P ti s H Bd K:=by
 refine QiB (n:=n) (fun i H'=>∃G1 c items,G.le G1/\RS G0 H0 t ob q2 q3 G1 H' (cells.set fld c)/\Cur H0 G1 H' et es c items (badq q2 q3)/\Items G1 i items) ⟨G,_,[],Cut.le_refl G,by rw[YT hc];exact rs,Cur.nil,h0⟩ hn hl ?_ ?_
 ·rintro i H' k hlt ⟨G1,c,items,hle,rs',hc',hi⟩ hk'
  refine hB i G1 H' c _ items k hlt hle rs' (Qfq hc) hc' hi ?_
  intro G2 H2 c2 items2 hle2 rs2 hc2 hi2
  exact hk' H2 ⟨G2,c2,items2,Cut.le_trans hle hle2,by rw[List.set_set]at rs2;exact rs2,hc2,hi2⟩
 ·rintro H' ⟨G1,c,items,hle,rs',hc',hi⟩
  obtain ⟨G',e',sl,le,hown⟩:=hc'.done rs'.ext
  exact hk G' G1 H' c items ⟨e',hown _ _ (Or.inl rfl) rs'.o2,hown _ _ (Or.inr rfl) rs'.o3,rs'.ne⟩ (Cut.le_trans hle le) sl hi le
end
theorem BuildSK_drop {H:Qe} {et:TypeId} {n:Nat} {zs:List Value} {parts:List (Nat×Nat×Value)} {X:Kn} (h:Q8 H et n zs parts fun y h2=>Qi H h2 (X y h2)):Q8 H et n zs parts X:=by
 unfold Q8 at h⊢
 split at h
 ·exact h.2
 ·exact h
def Qj3 (l:List (List UInt8)):SL:=.mk (decide (0<l.length)) (.mk 14 0 0 [] [] (l.map fun s=>QaS 11 0 0 s) []) 0
theorem fill_k (k:UInt8):YJ z45.toList [(0,1,u8n k)]=some (Zp k 0 0 []):=by kernel_rfl
theorem fill_tx (s:List UInt8):YJ z45.toList [(0,1,(.int .u8 11)),(3,1,Yf s)]=some (Zp 11 0 0 s):=by kernel_rfl
theorem fill_kd (b:Bool) (k:UInt8) (a:Option Addr) (n c:Nat):YJ z74.toList [(0,1,.bool b),(1,7,.agg (#[u8n k,u8n 0,Ya 0,Yf [],.slice none 0 0,.slice a n c,.slice none 0 0]:Array Value))]=some (.bool b::([u8n k,u8n 0,Ya 0,Yf [],.slice none 0 0,.slice a n c,.slice none 0 0]++[Ya 0])):=by kernel_rfl
theorem kids_end {k:UInt8} {G0:Cut} {H0:Qe} {q2 q3:Nat} {G:Cut} {H:Qe} {c v:Value} {n:Nat} {kids:List SV} {items:List (List Value)} (rs:RS G0 H0 45 (.cells z74 74 (0,0)) q2 q3 G H ((Zp k 0 0 []).set 5 c)) (sl:SlV G 7 c items) (hI:VVs G kids items)
  (hl:∀k:Value->Prop,Yv v k=k (.int .i64 (n:Nat))) {R:Kn} (hR:∀H' cells,Ext G0 H0 G H'->VL G (.mk (decide (0<n)) (.mk k 0 0 [] [] kids []) 0) cells->R (.agg cells.toArray) H'):
  Yv v fun x22=>Qk prog .gtr 3 x22 (.int .i64 0) fun x23=>LdN H 7 (ptr q3) fun x24=>Qz z74.toList [(0,1,x23),(1,7,x24)] fun x25=>StK H 9 (ptr q2) x25 fun h9=>LdN h9 9 (ptr q2) fun r4=>R r4 h9:=by
 have hv:VL G (.mk (decide (0<n)) (.mk k 0 0 [] [] kids []) 0) (.bool (decide (0<n))::([u8n k,u8n 0,Ya 0,Yf [],.slice none 0 0,c,.slice none 0 0]++[Ya 0])):=by
  rw[VL]
  refine ⟨_,rfl,?_⟩
  rw[VV]
  exact ⟨_,_,_,rfl,SlV.nil G 1,⟨_,sl,hI⟩,⟨[],SlV.nil G 9,by rw[VLs];trivial⟩⟩
 obtain ⟨a,m,cap,rfl⟩:=SlV.sl sl
 rw[hl,Qbv,show decide ((n:Int)>0)=decide (0<n) from decide_eq_decide.2 (by omega),YI (n:=7) (vs:=[u8n k,u8n 0,Ya 0,Yf [],.slice none 0 0,.slice a m cap,.slice none 0 0]) (by rw[Q4 rs.o3.get 7 (by simp)];rfl)]
 have hf:=fill_kd (decide (0<n)) k a m cap
 unfold Qz
 simp only[hf]
 exact Qf4 (vs:=.bool (decide (0<n))::([u8n k,u8n 0,Ya 0,Yf [],.slice none 0 0,.slice a m cap,.slice none 0 0]++[Ya 0])) rs.o2 rfl rfl (by decide) hv.one rs.ext (fun H' e'=>hR H' _ e' hv)
theorem kids_begin {G:Cut} {H:Qe} (hG:G.In H) (k:UInt8) {K:Value->Kn} (hK:∀H3,RS G H 45 (.cells z74 74 (0,0)) H.size (H.size+1) G H3 (Zp k 0 0 [])->K (ptr H.size) (ptr (H.size+1)) H3):
  Y5 H (.cells z74 74) fun x2 h1=>Qz z45.toList [(0,1,u8n k)] fun x6=>Y5 h1 (.cells z45 45) fun x3 h2=>StK h2 7 x3 x6 fun h3=>K x2 x3 h3:=by
 rw[Qy]
 have e:=Ext.refl hG
 have o2:=Yj.fresh e (.cells z74 74)
 have e:=e.push (.cells z74 74)
 have n1:(H.push (.cells z74 74)).size=H.size+1:=size_push
 generalize H.push (.cells z74 74)=H1 at *
 have hf:=fill_k k
 unfold Qz
 simp only[hf]
 rw[Qy]
 have ne:=o2.ne
 have o3:=Yj.fresh e (.cells z45 45)
 have o2:=o2.push (.cells z45 45)
 have e:=e.push (.cells z45 45)
 generalize H1.push (.cells z45 45)=H2 at *
 rw[Yg (n:=7) (c':=(Zp k 0 0 []).toArray) o3.get rfl rfl (by decide) (by simpa using (VV.flat G k 0 0 []).one)]
 have e:=e.set o3.out o3.new (.cells (Zp k 0 0 []).toArray 45)
 have o2:=o2.set_ne ne (.cells (Zp k 0 0 []).toArray 45)
 have o3:=o3.set (.cells (Zp k 0 0 []).toArray 45)
 rw[n1]at ne o2 o3 e⊢
 exact hK _ ⟨e,o2,o3,by omega⟩
theorem Qcx {α β:Type} {f:α->β} {l:List α} {i:Nat} {a:α} (h:l[i]?=some a):(l.take (i+1)).map f=(l.take i).map f++[f a]:=by
 rw[List.take_add_one,h,List.map_append];rfl
theorem fill_one {zs it:List Value} {es:Nat} {v:Value} (hv:v.cells.toList=it) (hl:it.length=es) (hz:zs.length=es):YJ (YV zs 1) [(0,es,v)]=some it:=by
 have hvs:v.cells.size=es:=by rw[<-hl,<-hv];simp
 show (if v.cells.size=es/\0+v.cells.size<=(YV zs 1).length then _ else _)=_
 have hrl:(YV zs 1).length=es:=by simp[YV,hz]
 rw[if_pos ⟨hvs,by rw[hrl];omega⟩]
 show some _=_
 rw[hv,hvs,Nat.zero_add,List.drop_eq_nil_of_le (by omega)];simp
theorem SlV.single {G:Cut} {b es:Nat} {it:List Value} {et:TypeId} (hl:it.length=es):SlV (G.upd b (.cells it.toArray et (0,0))) es (.slice (some ⟨b,0,none⟩) 1 1) [it]:=
 ⟨by simpa using hl,Or.inr ⟨b,0,1,it.toArray,et,(0,0),rfl,Cut.upd_same,by simp[hl],by rw[List.drop_zero];simp[<-hl],Nat.le_refl _⟩⟩
def textsB (x0 x3 x:Value) (h:Qe) (k:Qe->Prop):Prop:=
 Y1 1 x0 x fun x11=>LdK h x11 fun x12=>Qg x3 5 fun x13=>LdK h x13 fun x14=>Qz z45.toList [(0,1,(.int .u8 11)),(3,1,x12)] fun x16=>
  Q8 h 45 1 (YV z45.toList 1) [(0,7,x16)] fun x17 h5=>Qbs h5 45 7 104 z45 x14 x17 fun x18 h6=>Qg x3 5 fun x19=>StK h6 1 x19 x18 k
theorem Qg8 {v:Value} {l:List (List UInt8)} {G:Cut} {H:Qe} (hG:G.In H) (hs:SlV G 1 v (l.map Qfd)) (hn:l.length<=50) {R:Kn} (hR:∀G' H' cells,Ext G H G' H'->VL G' (Qj3 l) cells->R (.agg cells.toArray) H'):FnS prog 25 #[v] H R:=by
 apply w25
 unfold s25
 refine kids_begin hG 14 ?_
 intro H3 rs
 have hlen:∀k:Value->Prop,Yv v k=k (.int .i64 (l.length:Nat)):=fun k=>by rw[hs.len,List.length_map]
 show Qij prog 3 v H3 (textsB v (ptr (H.size+1))) _
 refine app_slc rs (et:=45) (es:=7) (fld:=5) (n:=l.length) (fun G1 i items=>VVs G1 ((l.take i).map fun s=>QaS 11 0 0 s) items) (by rw[List.take_zero,List.map_nil,VVs];trivial) rfl (by omega) hlen ?_ ?_
 ·intro i G1 H' c cells' items k hlt hle rs' hc' hcur hI hk'
  have ha:=List.getElem?_eq_getElem hlt
  have hil:items.length<l.length:=by
   have:=VVs.len hI
   rw[List.length_map,List.length_take]at this
   omega
  unfold textsB
  obtain ⟨b,o,cs,e',fr,g1,g2,g3,g4⟩:=(hs.mono hle).idx rs'.ext.inn (i:=i) rfl (it:=Qfd l[i]) (by rw[List.getElem?_map,ha];rfl)
  rw[g1,Ql ((Qj g2).trans (Qaq g4)),Qm,rs'.ld hc']
  have hf:=fill_tx l[i]
  unfold Qz
  simp only[hf]
  refine BuildSK_drop ?_
  refine rs'.push_item hcur (v:=.agg (Zp 11 0 0 l[i]).toArray) (it:=Zp 11 0 0 l[i]) rfl rfl (VV.flat G1 11 0 0 l[i]).one (by decide) rfl (by decide) (by omega) (Qo hc') ?_
  intro H4 c4 rs4 hcur4
  refine hk' G1 H4 c4 _ (Cut.le_refl _) rs4 hcur4 ?_
  rw[Qcx ha]
  exact VVs.snoc hI (VV.flat G1 11 0 0 l[i])
 ·intro G' G1 H' c items rs' hle sl hI hle1
  rw[List.take_length]at hI
  exact kids_end rs' sl (VVs.mono hle1 _ _ hI) hlen fun H' cells e hv=>hR G' H' cells e hv
def idV (n:UInt64):SV:=.mk 15 0 0 [] [] [] [Qan 7 n 0]
def idsL (l:List UInt64):SL:=.mk (decide (0<l.length)) (.mk 16 0 0 [] [] (l.map idV) []) 0
def idsB (x0 x3 x:Value) (h:Qe) (k:Qe->Prop):Prop:=
 Y1 1 x0 x fun x11=>LdK h x11 fun x12=>Qg x3 5 fun x13=>LdK h x13 fun x14=>Qa prog 22 #[(.int .u8 7),x12,(.int .u64 0)] h fun x16 h5=>Qi h h5<|
  Q8 h5 74 1 (YV z74.toList 1) [(0,9,x16)] fun x17 h6=>Qi h5 h6<|Qz z45.toList [(0,1,(.int .u8 15)),(6,1,x17)] fun x18=>
   Q8 h6 45 1 (YV z45.toList 1) [(0,7,x18)] fun x19 h7=>Qi h6 h7<|Qbs h7 45 7 104 z45 x14 x19 fun x20 h8=>Qg x3 5 fun x21=>StK h8 1 x21 x20 k
theorem fill_tab (a:Option Addr) (n c:Nat):YJ z45.toList [(0,1,(.int .u8 15)),(6,1,.slice a n c)]=some [u8n 15,u8n 0,Ya 0,Yf [],.slice none 0 0,.slice none 0 0,.slice a n c]:=by kernel_rfl
theorem QhY {v:Value} {l:List UInt64} {G:Cut} {H:Qe} (hG:G.In H) (hs:SlV G 1 v (l.map Qai)) (hn:l.length<=50) {R:Kn} (hR:∀G' H' cells,Ext G H G' H'->VL G' (idsL l) cells->R (.agg cells.toArray) H'):FnS prog 27 #[v] H R:=by
 apply w27
 unfold s27
 refine kids_begin hG 16 ?_
 intro H3 rs
 have hlen:∀k:Value->Prop,Yv v k=k (.int .i64 (l.length:Nat)):=fun k=>by rw[hs.len,List.length_map]
 show Qij prog 3 v H3 (idsB v (ptr (H.size+1))) _
 refine app_slc rs (et:=45) (es:=7) (fld:=5) (n:=l.length) (fun G1 i items=>VVs G1 ((l.take i).map idV) items) (by rw[List.take_zero,List.map_nil,VVs];trivial) rfl (by omega) hlen ?_ ?_
 ·intro i G1 H' c cells' items k hlt hle rs' hc' hcur hI hk'
  have ha:=List.getElem?_eq_getElem hlt
  have hil:items.length<l.length:=by
   have:=VVs.len hI
   rw[List.length_map,List.length_take]at this
   omega
  unfold idsB
  obtain ⟨b,o,cs,e',fr,g1,g2,g3,g4⟩:=(hs.mono hle).idx rs'.ext.inn (i:=i) rfl (it:=Qai l[i]) (by rw[List.getElem?_map,ha];rfl)
  rw[g1,Ql ((Qj g2).trans (Qaq g4)),Qm,rs'.ld hc']
  refine QG (k:=7) (n:=l[i]) (D:=0) rs'.ext.inn ?_
  intro H4 sc e4 hsc
  refine Qn e4.keep.ext ?_
  have rs4:=rs'.next e4
  have hcur4:=hcur.ext e4
  have hsl:YJ (YV z74.toList 1) [(0,9,.agg sc.toArray)]=some sc:=fill_one rfl (hsc G).len rfl
  unfold Q8
  simp only[hsl]
  refine Qn (Qaf.push _ _).ext ?_
  have e5:=(Ext.refl rs4.ext.inn).pushG (.cells sc.toArray 74 (0,0))
  have rs5:=rs4.next e5
  have hcur5:=hcur4.ext e5
  have ssl:SlV (G1.upd H4.size (.cells sc.toArray 74 (0,0))) 9 (.slice (some ⟨H4.size,0,none⟩) 1 1) [sc]:=SlV.single (hsc G).len
  have hvv:VV (G1.upd H4.size (.cells sc.toArray 74 (0,0))) (idV l[i]) [u8n 15,u8n 0,Ya 0,Yf [],.slice none 0 0,.slice none 0 0,.slice (some ⟨H4.size,0,none⟩) 1 1]:=by
   rw[idV,VV]
   exact ⟨_,_,_,rfl,SlV.nil _ 1,⟨[],SlV.nil _ 7,by rw[VVs];trivial⟩,⟨_,ssl,by rw[VLs,VLs];exact ⟨hsc _,trivial⟩⟩⟩
  have hf:=fill_tab (some ⟨H4.size,0,none⟩) 1 1
  unfold Qz
  simp only[hf]
  refine rs5.push_item (bts:=104) (et:=45) (es:=7) (zs:=z45) hcur5 (v:=.agg (#[u8n 15,u8n 0,Ya 0,Yf [],.slice none 0 0,.slice none 0 0,.slice (some ⟨H4.size,0,none⟩) 1 1]:Array Value)) (it:=[u8n 15,u8n 0,Ya 0,Yf [],.slice none 0 0,.slice none 0 0,.slice (some ⟨H4.size,0,none⟩) 1 1]) rfl rfl hvv.one (by decide) rfl (by decide) (by omega) (Qo hc') ?_
  intro H6 c6 rs6 hcur6
  refine hk' _ H6 c6 _ e5.le rs6 hcur6 ?_
  rw[Qcx ha]
  exact VVs.snoc (VVs.mono e5.le _ _ hI) hvv
 ·intro G' G1 H' c items rs' hle sl hI hle1
  rw[List.take_length]at hI
  exact kids_end rs' sl (VVs.mono hle1 _ _ hI) hlen fun H' cells e hv=>hR G' H' cells e hv
end Go.Proofs
namespace Go.Proofs
open Go Go.Vc
open Tryz (prog)
def littleB (x0 x8 x:Value) (h:Qe) (k:Qe->Prop):Prop:=
 Qk prog .mul 3 (.int .i64 8) x fun x18=>Qk prog .shr 31 x0 x18 fun x19=>QK .u8 x19 fun x20=>Y1 1 x8 x fun x21=>StK h 1 x21 x20 k
theorem leB_get (x:Int) {k i:Nat} (h:i<k):(leB x k)[i]?=some (YU x i):=by
 unfold leB
 rw[List.getElem?_map,List.getElem?_range h];rfl
theorem Qdq {n:UInt64} {k:Nat} (hk:k<=8) {G:Cut} {H:Qe} (hG:G.In H) {R:Kn} (hR:∀H',Ext G H G H'->R (Yf (leB (n.toNat:Int) k)) H'):FnS prog 21 #[Ya n,.int .i64 (k:Nat)] H R:=by
 apply w21
 unfold s21
 refine ⟨by omega,by omega,by omega,by omega,?_⟩
 rw[Int.toNat_natCast,mk_u8 (z:=z5) rfl]
 have e:=Ext.refl hG
 have o:=Yj.fresh e (.cells (u8c (List.replicate k 0)) 5 (0,0))
 have e:=e.push (.cells (u8c (List.replicate k 0)) 5 (0,0))
 generalize H.push (.cells (u8c (List.replicate k 0)) 5 (0,0))=H1 at *
 show Qij prog 3 (bsl H.size 0 k k) H1 (littleB (Ya n) (bsl H.size 0 k k)) _
 refine QiB (n:=k) (fun i H'=>H'=wr H1 H.size 5 ((leB (n.toNat:Int) k).take i++List.replicate (k-i) 0)) (by rw[List.take_zero,List.nil_append,Nat.sub_zero,QdC o.get]) (by omega) (fun _=>rfl) ?_ ?_
 ·rintro i H' kp hi rfl hkp
  unfold littleB
  have hb:IntKind.u8.wrap ((n.toNat:Int).fdiv (2^(min (Int.toNat ((8*i:Nat):Int)) IntKind.u64.bits)))=((YU (n.toNat:Int) i).toNat:Int):=by
   rw[Int.toNat_natCast,show min (8*i) IntKind.u64.bits=8*i from Nat.min_eq_left (by show 8*i<=64;omega)]
   exact Zy _ i
  rw[Z1,show IntKind.i64.wrap (8*(i:Int))=((8*i:Nat):Int) by rw[wrap_i64 (by omega) (by omega)];omega,Zj (by omega),QH,hb,bsl,QR (by omega) (by omega)]
  have hl:i<((leB (n.toNat:Int) k).take i++List.replicate (k-i) (0:UInt8)).length:=by
   rw[List.length_append,List.length_take,Qf,List.length_replicate];omega
  show StK _ 1 (.pointer (some ⟨H.size,0+(Int.toNat (i:Int))*1,none⟩)) _ _
  rw[Int.toNat_natCast,Nat.mul_one,Nat.zero_add,ZR o.get hl]
  refine hkp _ ?_
  congr 1
  have ht:((leB (n.toNat:Int) k).take i).length=i:=by rw[List.length_take,Qf];omega
  obtain ⟨m,hm⟩:∃m,k-i=m+1:=⟨k-i-1,by omega⟩
  rw[List.set_append_right _ _ (by omega),ht,Nat.sub_self,hm,List.replicate_succ,List.set_cons_zero,List.take_add_one,leB_get _ hi,show k-(i+1)=m by omega]
  simp
 ·rintro H' rfl
  have hfull:(leB (n.toNat:Int) k).take k++List.replicate (k-k) (0:UInt8)=leB (n.toNat:Int) k:=by
   rw[Nat.sub_self,List.replicate_zero,List.append_nil,List.take_of_length_le (by rw[Qf];exact Nat.le_refl _)]
  rw[hfull]
  have o2:=o.set (.cells (u8c (leB (n.toNat:Int) k)) 5 (0,0))
  refine Qhn (xs:=leB (n.toNat:Int) k) (by
   have:=Qhk (QdX o2.get) (n:=k) (i:=0) (by rw[Qf];omega)
   rw[List.drop_zero,List.take_of_length_le (by rw[Qf];exact Nat.le_refl _)]at this
   exact this) ?_
  exact hR _ (e.set o.out o.new _)
def testN (t:Qb8):UInt64:=UInt64.ofNat (t.a.toNat+65536*t.b.toNat)
def testB2 (x0 x y:Value) (h:Qe) (k:Kn):Prop:=
 Y1 2 x0 x fun x10=>LdN h 2 x10 fun x11=>Y5 h (.cells z101 101) fun x5 h3=>StK h3 2 x5 x11 fun h4=>Qg x5 0 fun x13=>LdK h4 x13 fun x14=>QK .u16 x14 fun x15=>QK .u64 x15 fun x16=>
  Qg x5 1 fun x17=>LdK h4 x17 fun x18=>QK .u8 x18 fun x19=>QK .u64 x19 fun x20=>Qk prog .shl 31 x20 (.int .u64 16) fun x21=>Qk prog .or 31 x16 x21 fun x22=>
   Q8 h4 31 1 (YV z31.toList 1) [(0,1,x22)] fun x23 h5=>Qbs h5 31 1 8 z31 y x23 k
theorem u16_of_i16 (x:UInt16):IntKind.u64.wrap (IntKind.u16.wrap (IntKind.i16.wrap (x.toNat:Int)))=(x.toNat:Int):=by
 have:=x.toNat_lt
 simp[IntKind.wrap,IntKind.bits,IntKind.signed]
 omega
theorem u8_of_i8 (x:UInt8):IntKind.u64.wrap (IntKind.u8.wrap (IntKind.i8.wrap (x.toNat:Int)))=(x.toNat:Int):=by
 have:=x.toNat_lt
 simp[IntKind.wrap,IntKind.bits,IntKind.signed]
 omega
theorem test_num (t:Qb8):Qbb .or .u64 (t.a.toNat:Int) (IntKind.u64.wrap ((t.b.toNat:Int)*2^(min (Int.toNat 16) IntKind.u64.bits)))=((testN t).toNat:Int):=by
 have ha:=t.a.toNat_lt
 have hb:=t.b.toNat_lt
 have e:IntKind.u64.wrap ((t.b.toNat:Int)*2^(min (Int.toNat 16) IntKind.u64.bits))=((2^16*t.b.toNat:Nat):Int):=by
  rw[show min (Int.toNat 16) IntKind.u64.bits=16 from rfl,QfC (by omega) (by omega)];omega
 rw[e]
 unfold Qbb testN
 simp only
 rw[BitVec.toNat_or,show IntKind.bits .u64=64 from rfl,BitVec.toNat_ofInt,BitVec.toNat_ofInt,UInt64.toNat_ofNat_of_lt' (by show _<2^64;omega)]
 rw[show ((t.a.toNat:Int)%((2^64:Nat):Int)).toNat=t.a.toNat by omega,show (((2^16*t.b.toNat:Nat):Int)%((2^64:Nat):Int)).toNat=2^16*t.b.toNat by omega,Nat.or_comm,<-Nat.two_pow_add_eq_or_of_lt (show t.a.toNat<2^16 by omega)]
 rw[QfC (by omega) (by omega)];omega
theorem Qh7 {v:Value} {l:List Qb8} {G:Cut} {H:Qe} (hG:G.In H) (hs:SlV G 2 v (l.map Yw)) (hn:l.length<=50) {R:Kn} (hR:∀G' H' cells,Ext G H G' H'->VL G' (QfX 5 (l.map testN)) cells->R (.agg cells.toArray) H'):FnS prog 24 #[v] H R:=by
 apply w24
 unfold s24
 rw[Qy]
 have e:=Ext.refl hG
 have o2:=Yj.fresh e (.cells z74 74)
 have e:=e.push (.cells z74 74)
 generalize H.push (.cells z74 74)=H1 at *
 have hlen:∀k:Value->Prop,Yv v k=k (.int .i64 (l.length:Nat)):=fun k=>by rw[hs.len,List.length_map]
 show Qdc prog 3 v H1 (testB2 v) _
 refine accLoop_of (n:=l.length) (fun i y H'=>Ext G H1 G H'/\Cur H1 G H' 31 1 y ((l.take i).map fun t=>Qai (testN t)) noBad) ⟨Ext.refl e.inn,Cur.nil⟩ (by omega) hlen ?_ ?_
 ·rintro i y H' k hlt ⟨e1,hcur⟩ hk
  have ha:=List.getElem?_eq_getElem hlt
  unfold testB2
  refine Z8 hs e1.inn (i:=i) (it:=Yw l[i]) (by rw[List.getElem?_map,ha];rfl) ?_
  rw[Qy,Yg (n:=2) (c':=(Yw l[i]).toArray) Qh rfl rfl (by decide) (by simp[Yw];exact ⟨rfl,rfl⟩),Yq]
  have e2:=e1.push (.cells (Yw l[i]).toArray 101 (0,0))
  have hcur:=hcur.push (.cells (Yw l[i]).toArray 101 (0,0))
  have g:(H'.push (.cells (Yw l[i]).toArray 101 (0,0)))[H'.size]?=some (.cells (Yw l[i]).toArray 101 (0,0)):=Qh
  generalize H'.push (.cells (Yw l[i]).toArray 101 (0,0))=H2 at *
  rw[Qm,Ql ((Qj g).trans (show (Yw l[i]).toArray[0]?=some (Qbc l[i].a) from rfl)),QH,QH,u16_of_i16,Qm,Ql ((Qj g).trans (show (Yw l[i]).toArray[1]?=some (i8V l[i].b) from rfl)),QH,QH,u8_of_i8,Zi (by decide),QhB,test_num]
  refine QbA e2 hcur (v:=Ya (testN l[i])) (it:=Qai (testN l[i])) rfl rfl (by simp[Qai];rfl) (by decide) rfl (by decide) (by rw[List.length_map,List.length_take];omega) ?_
  intro c' H3 e3 hc3
  refine hk c' H3 ⟨e3,?_⟩
  rw[Qcx ha];exact hc3
 ·rintro y H' ⟨e1,hcur⟩
  obtain ⟨G',e',sl,le,_⟩:=hcur.done e1
  rw[List.take_length]at sl
  refine Qaj (k:=5) (l:=l.map testN) e'.inn (by rw[List.map_map];exact sl) ?_
  intro H3 cells e3 hv
  have e4:=e'.trans e3
  have o2':Yj H G' H3 H.size (.cells z74 74 (0,0)):=o2.ext e4
  exact Qf4 o2' rfl hv.len (by decide) hv.one (e.trans e4) (fun H5 e5=>hR G' H5 cells e5 hv)
end Go.Proofs
namespace Go.Proofs
open Go Go.Vc
open Tryz (prog)
def Qj9 (es:Nat):Nat->List (List Value)->List (Nat×Nat×Value)
 |_,[]=>[]
 |o,c::cs=>(o,es,.agg c.toArray)::Qj9 es (o+es) cs
theorem fillL_parts {es:Nat}:∀(cs:List (List Value)) (done zs:List Value),(∀c∈cs,c.length=es)->zs.length=es*cs.length->YJ (done++zs) (Qj9 es done.length cs)=some (done++cs.flatten)
 |[],done,zs,_,hz=>by
  have:zs=[]:=List.length_eq_zero_iff.1 (by simpa using hz)
  subst this
  rw[Qj9,YJ];simp
 |c::cs,done,zs,hc,hz=>by
  have h1:=hc c List.mem_cons_self
  have h2:(Value.agg c.toArray).cells.size=es:=by show c.toArray.size=es;simpa using h1
  rw[List.length_cons,Nat.mul_add,Nat.mul_one]at hz
  rw[Qj9,YJ,if_pos ⟨h2,by rw[h2,List.length_append];omega⟩,h2,List.take_left,<-List.drop_drop,List.drop_left]
  show YJ (done++c++zs.drop es) _=_
  have:=fillL_parts cs (done++c) (zs.drop es) (fun x hx=>hc x (List.mem_cons_of_mem _ hx)) (by rw[List.length_drop];omega)
  rw[List.length_append,h1]at this
  rw[this,List.flatten_cons,List.append_assoc]
theorem repQ_len (zs:List Value):∀n,(YV zs n).length=zs.length*n
 |0=>rfl
 |n+1=>by rw[YV,List.length_append,repQ_len zs n,Nat.mul_add,Nat.mul_one,Nat.add_comm]
theorem build_parts {H:Qe} {et n es:Nat} {zs:List Value} {cs:List (List Value)} {parts:List (Nat×Nat×Value)} (hp:parts=Qj9 es 0 cs) (hc:∀c∈cs,c.length=es) (hn:cs.length=n) (hz:zs.length=es) {K:Kn}
  (hK:K (.slice (some ⟨H.size,0,none⟩) n n) (H.push (.cells cs.flatten.toArray et (0,0)))):Q8 H et n (YV zs n) parts K:=by
 have:=fillL_parts cs [] (YV zs n) hc (by rw[repQ_len,hz,hn])
 rw[List.nil_append,List.nil_append]at this
 unfold Q8
 rw[hp,show Qj9 es 0 cs=Qj9 es ([]:List Value).length cs from rfl,this]
 exact hK
theorem SlV.built {G:Cut} {b es:Nat} {cs:List (List Value)} {et:TypeId} (hc:∀c∈cs,c.length=es):SlV (G.upd b (.cells cs.flatten.toArray et (0,0))) es (.slice (some ⟨b,0,none⟩) cs.length cs.length) cs:=by
 have hf:cs.flatten.length=cs.length*es:=by
  induction cs with
  |nil=>simp
  |cons c cs ih=>rw[List.flatten_cons,List.length_append,List.length_cons,hc c List.mem_cons_self,ih (fun x hx=>hc x (List.mem_cons_of_mem _ hx)),Nat.add_mul];omega
 exact ⟨hc,Or.inr ⟨b,0,_,cs.flatten.toArray,et,(0,0),rfl,Cut.upd_same,by simp[hf],by rw[List.drop_zero,List.toList_toArray,<-hf,List.take_length],Nat.le_refl _⟩⟩
def PlainG:GM->Prop
 |.mk d _ _ tables enemy _ _ _=>tables=[]/\enemy=[]/\d.testTy=0/\d.uniqTy=0/\d.ambTy=0/\d.abilities=[]
theorem MonsterPlain_ok {g:GM} {cells:List Value} {G:Cut} {H:Qe} (hG:G.In H) (hv:QaX G g cells) {R:Kn} (hR:∀(b:Bool) H',Ext G H G H'->(b=true->PlainG g)->R (.bool b) H'):FnS prog 6 #[.agg cells.toArray] H R:=by
 obtain ⟨d,pos,empty,tables,enemy,test,uniq,amb⟩:=g
 rw[QaX]at hv
 obtain ⟨c,rfl,hg,⟨iT,sT,vT⟩,⟨iE,sE,vE⟩,_⟩:=hv
 apply w6
 unfold s6
 rw[Qy]
 have e:=Ext.refl hG
 have o:Yj H G (H.push (.cells (Value.agg (Yk d c).toArray).cells 38)) H.size (.cells (Yk d c).toArray 38 (0,0)):=Yj.fresh e _
 have e:=e.push (.cells (Value.agg (Yk d c).toArray).cells 38)
 generalize H.push (.cells (Value.agg (Yk d c).toArray).cells 38)=H1 at *
 have ld:∀{i:Nat} {v:Value} (k:Value->Prop),(Yk d c).toArray[i]?=some v->LdK H1 (.pointer (some ⟨H.size,i,none⟩)) k=k v:=fun k h=>Ql ((Qj o.get).trans h)
 have lT:∀k:Value->Prop,Yv c.tables k=k (.int .i64 (tables.length:Nat)):=fun k=>by rw[sT.len,Zh.len vT]
 have lE:∀k:Value->Prop,Yv c.enemy k=k (.int .i64 (enemy.length:Nat)):=fun k=>by rw[sE.len,Zh.len vE]
 have lA:∀k:Value->Prop,Yv c.abil k=k (.int .i64 (d.abilities.length:Nat)):=fun k=>by rw[hg.abil.len,List.length_map]
 have g11:∀k:Value->Prop,LdK H1 (.pointer (some ⟨H.size,11,none⟩)) k=k c.tables:=fun k=>ld k rfl
 have g12:∀k:Value->Prop,LdK H1 (.pointer (some ⟨H.size,12,none⟩)) k=k c.enemy:=fun k=>ld k rfl
 have g6:∀k:Value->Prop,LdK H1 (.pointer (some ⟨H.size,6,none⟩)) k=k (u8n d.testTy):=fun k=>ld k rfl
 have g43:∀k:Value->Prop,LdK H1 (.pointer (some ⟨H.size,43,none⟩)) k=k (u8n d.uniqTy):=fun k=>ld k rfl
 have g46:∀k:Value->Prop,LdK H1 (.pointer (some ⟨H.size,46,none⟩)) k=k (u8n d.ambTy):=fun k=>ld k rfl
 have g29:∀k:Value->Prop,LdK H1 (.pointer (some ⟨H.size,29,none⟩)) k=k c.abil:=fun k=>ld k rfl
 have eL:∀(n:Nat) (k:Value->Prop),Qk prog .eql 3 (.int .i64 (n:Nat)) (.int .i64 0) k=k (.bool (decide (n=0))):=fun n k=>by
  rw[Yt];congr 2;exact decide_eq_decide.2 (by omega)
 have e8:∀(x:UInt8) (k:Value->Prop),Qk prog .eql 5 (u8n x) (.int .u8 0) k=k (.bool (decide (x=0))):=fun x k=>eqU (c:=0) (z:=0) rfl
 have fin:R (.bool (((((decide (tables.length=0)&&decide (enemy.length=0))&&decide (d.testTy=0))&&decide (d.uniqTy=0))&&decide (d.ambTy=0))&&decide (d.abilities.length=0))) H1:=hR _ _ e fun h=>by
  simp only[Bool.and_eq_true,decide_eq_true_eq,List.length_eq_zero_iff]at h
  obtain ⟨⟨⟨⟨⟨h1,h2⟩,h3⟩,h4⟩,h5⟩,h6⟩:=h
  exact ⟨h1,h2,h3,h4,h5,h6⟩
 simp only[Qm,g11,lT,eL]
 generalize decide (tables.length=0)=b1 at *
 cases b1<;>simp only[Y8,QU,YY,Ye,QdA,Nat.add_zero,Nat.zero_add,g12,lE,eL,Bool.true_and,Bool.false_and]at fin⊢
 ·exact fin
 generalize decide (enemy.length=0)=b2 at *
 cases b2<;>simp only[Y8,QU,YY,Ye,QdA,Nat.add_zero,Nat.zero_add,g6,e8,Bool.true_and,Bool.false_and]at fin⊢
 ·exact fin
 generalize decide (d.testTy=0)=b3 at *
 cases b3<;>simp only[Y8,QU,YY,Ye,QdA,Nat.add_zero,Nat.zero_add,g43,e8,Bool.true_and,Bool.false_and]at fin⊢
 ·exact fin
 generalize decide (d.uniqTy=0)=b4 at *
 cases b4<;>simp only[Y8,QU,YY,Ye,QdA,Nat.add_zero,Nat.zero_add,g46,e8,Bool.true_and,Bool.false_and]at fin⊢
 ·exact fin
 generalize decide (d.ambTy=0)=b5 at *
 cases b5<;>simp only[Y8,QU,YY,Ye,QdA,Nat.add_zero,Nat.zero_add,g29,lA,eL,Bool.true_and,Bool.false_and]at fin⊢
 ·exact fin
 exact fin
end Go.Proofs
