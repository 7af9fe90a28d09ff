/- WHAT IS PROVED: the given statement of FnMonsterWritten, whatever the input: this is part 11 of 14. No conditions. -/
import Derived.Test.YtkkcpkfpegmgbaaGreatX10
import Derived.ChangeArms
set_option linter.all false
namespace Go.Proofs
open Go Go.Vc
open Tryz (prog)
mutual
def Qge:GM->Prop
 |.mk d pos empty tables enemy test uniq amb=>SmallD d pos empty/\(tables.length<=50/\enemy.length<=1)/\(GUn false d.testTy test.length/\GUn false d.uniqTy uniq.length/\GUn true d.ambTy amb.length)/\((d.testTy≠2->d.testColor=0)/\(d.uniqTy≠2->d.uniqColor=0)/\d.ambColor=0)/\Zu tables/\Zu enemy/\Zu test/\Zu uniq/\Zu amb
def Zu:List GM->Prop
 |[]=>True
 |g::gs=>Qge g/\Zu gs
end
mutual
def cntM:GM->Nat
 |.mk _ _ _ tables enemy test uniq amb=>1+cntL tables+cntL enemy+cntL test+cntL uniq+cntL amb
def cntL:List GM->Nat
 |[]=>0
 |g::gs=>cntM g+cntL gs
end
theorem Zu.snoc:∀{gs:List GM} {g:GM},Zu gs->Qge g->Zu (gs++[g])
 |[],g,_,h=>by
  show Zu [g]
  rw[Zu,Zu];exact ⟨h,trivial⟩
 |x::xs,g,hs,h=>by
  show Zu (x::(xs++[g]))
  rw[Zu]at hs⊢
  exact ⟨hs.1,Zu.snoc hs.2 h⟩
theorem cntL_snoc:∀(gs:List GM) (g:GM),cntL (gs++[g])=cntL gs+cntM g
 |[],g=>by
  show cntL [g]=_
  simp only[cntL];omega
 |x::xs,g=>by
  show cntL (x::(xs++[g]))=_
  rw[cntL,cntL,cntL_snoc xs g];omega
structure KX (G:Cut) (q:Nat) (H H':Qe):Prop where
 size:H.size<=H'.size
 keep:∀b o,b≠q->H[b]?=some o->H'[b]?=some o
 inn:G.In H'
theorem KX.of_ext {G:Cut} {q:Nat} {H H':Qe} (h:Ext G H G H'):KX G q H H':=⟨h.keep.size,fun b o _ hb=>h.keep b o hb,h.inn⟩
theorem KX.trans {G:Cut} {q:Nat} {A B C:Qe} (h:KX G q A B) (k:KX G q B C):KX G q A C:=⟨Nat.le_trans h.size k.size,fun b o hb ho=>k.keep b o hb (h.keep b o hb ho),k.inn⟩
theorem KX.set {G:Cut} {q:Nat} {H:Qe} (h:G.In H) (hg:G q=none) (o:Obj):KX G q H (setB H q o):=
 ⟨by unfold setB;simp,fun b x hb hx=>by rw[Qw hb];exact hx,fun b x hx=>by
  have:b≠q:=fun e=>by subst e;rw[hg]at hx;cases hx
  rw[Qw this];exact h b x hx⟩
theorem Yj.kx {H0:Qe} {G:Cut} {H H':Qe} {b q:Nat} {o:Obj} (h:Yj H0 G H b o) (hne:b≠q) (k:KX G q H H'):Yj H0 G H' b o:=⟨k.keep b o hne h.get,h.out,h.new⟩
theorem Yj.zero {H0:Qe} {G:Cut} {H:Qe} {b:Nat} {o:Obj} (h:Yj H0 G H b o):Yj #[] G H b o:=⟨h.get,h.out,Nat.zero_le _⟩
abbrev left (n:Int):Obj:=.cells #[.int .i64 n] 3 (0,0)
def QeE (g:GM):Prop:=∀(G:Cut) (H:Qe) (cells:List Value) (q:Nat) (n deep:Int) (R:Kn),G.In H->QaX G g cells->Yj #[] G H q (left n)->0<=n->n<=20->-1<=deep->deep<=5->
 (∀H' k (b:Bool),KX G q H H'->H'[q]?=some (left k)->(b=true->Qge g/\(cntM g:Int)+k<=n/\0<=k)->R (.bool b) H')->FnS prog 17 #[.agg cells.toArray,ptr q,.int .i64 deep] H R
theorem cp_st {H:Qe} {es:Nat} {it:List Value} {z:Array Value} {t:TypeId} (hl:it.length=es) (h0:0<es) (hz:z.size=es) (hone:∀x∈it,x.oneCell'=true) {k:Kn} (hk:k (ptr H.size) (H.push (.cells it.toArray t (0,0)))):
  Y5 H (.cells z t) fun y h2=>StK h2 es y (.agg it.toArray) fun h3=>k y h3:=by
 rw[Qy,Yg (n:=es) (c':=it.toArray) Qh hz (by simpa using hl) h0 (by simpa using hone),Yq]
 exact hk
theorem build1 {H:Qe} {t:TypeId} {z:Array Value} (hz:z.size=1) {v:Value} (hv:v.oneCell'=true) {k:Kn} (hk:k (.slice (some ⟨H.size,0,none⟩) 1 1) (H.push (.cells #[v] t))):Q8 H t 1 (YV z.toList 1) [(0,1,v)] k:=by
 have hfill:YJ (YV z.toList 1) [(0,1,v)]=some [v]:=by
  have hc:=Qf3 hv
  show (if v.cells.size=1/\0+v.cells.size<=(YV z.toList 1).length then _ else _)=_
  have hrl:(YV z.toList 1).length=1:=by simp[YV,hz]
  rw[if_pos ⟨by rw[hc];rfl,by rw[hrl,hc];exact Nat.le_refl 1⟩]
  show some _=_
  rw[hc]
  have:(YV z.toList 1).drop (0+#[v].size)=[]:=List.drop_eq_nil_of_le (by rw[hrl];exact Nat.le_refl 1)
  rw[this];rfl
 unfold Q8
 simp only[hfill]
 exact hk
section
variable {H0:Qe} {G:Cut} {H:Qe} {q:Nat} {cells:List Value} {T:TypeId} (o:Yj H0 G H q (.cells cells.toArray T (0,0)))
include o
theorem or_len {P:Program} {t:TypeId} {b:Bool} {i n:Nat} {m:Int} {v:Value} (hi:cells[i]?=some v) (hl:∀k:Value->Prop,Yv v k=k (.int .i64 n)) {K:Kn} (hk:K (.bool (b||decide (m<n))) H):
  Qc (.bool b) false (fun k1=>Qg (ptr q) i fun x=>k1 x H) H fun y1 h1=>Qc (.bool b) false (fun k2=>LdK h1 y1 fun x=>k2 x h1) h1 fun y2 h2=>Qc (.bool b) false (fun k3=>Yv y2 fun x=>k3 x h2) h2 fun y3 h3=>
   Qc (.bool b) false (fun k4=>Qk P .gtr t y3 (.int .i64 m) fun x=>k4 x h3) h3 fun y4 h4=>Yd (.bool b) (.bool true) y4 fun y=>K y h4:=by
 cases b
 ·rw[Y0,Qm]
  dsimp only
  rw[Y0,Ql ((Qj o.get).trans (by simpa using hi))]
  dsimp only
  rw[Y0,hl]
  dsimp only
  rw[Y0,Qbv]
  dsimp only
  rw[YY]
  simpa using hk
 ·rw[Yz,Yz,Yz,Yz,Ye]
  simpa using hk
theorem or_flt {P':Program} {kind:Int} (hkd:kind=9\/kind=10) {b:Bool} {i:Nat} {κ:IntKind} {n:Int} (hP:P'=prog) (hi:cells[i]?=some (.int κ n)) {K:Kn} (hk:∀b:Bool,K (.bool b) H):
  Qc (.bool b) false (fun k1=>Qg (ptr q) i fun x=>k1 x H) H fun y1 h1=>Qc (.bool b) false (fun k2=>LdK h1 y1 fun x=>k2 x h1) h1 fun y2 h2=>Qc (.bool b) false (fun k3=>QK .u64 y2 fun x=>k3 x h2) h2 fun y3 h3=>
   Qc (.bool b) false (fun k4=>Qa P' 60 #[.int .u8 kind,y3] h3 fun x h=>k4 x h) h3 fun y4 h4=>Qc (.bool b) false (fun k5=>ZI P' (Op.unary .not y4) fun x=>k5 x h4) h4 fun y5 h5=>Yd (.bool b) (.bool true) y5 fun y=>K y h5:=by
 subst hP
 cases b
 ·rw[Y0,Qm]
  dsimp only
  rw[Y0,Ql ((Qj o.get).trans (by simpa using hi))]
  dsimp only
  rw[Y0]
  show Qc _ _ _ _ _
  rw[Y0]
  refine Qig hkd fun b=>?_
  dsimp only
  rw[Y0,Ym]
  dsimp only
  rw[YY]
  exact hk _
 ·rw[Yz,Yz,Yz,Yz,Yz,Ye]
  exact hk _
theorem or_flt8 {P':Program} {kind:Int} (hkd:kind=9\/kind=10) {b:Bool} {i:Nat} {n:Int} (hP:P'=prog) (hi:cells[i]?=some (.int .u64 n)) {K:Kn} (hk:∀b:Bool,K (.bool b) H):
  Qc (.bool b) false (fun k1=>Qg (ptr q) i fun x=>k1 x H) H fun y1 h1=>Qc (.bool b) false (fun k2=>LdK h1 y1 fun x=>k2 x h1) h1 fun y2 h2=>
   Qc (.bool b) false (fun k4=>Qa P' 60 #[.int .u8 kind,y2] h2 fun x h=>k4 x h) h2 fun y4 h4=>Qc (.bool b) false (fun k5=>ZI P' (Op.unary .not y4) fun x=>k5 x h4) h4 fun y5 h5=>Yd (.bool b) (.bool true) y5 fun y=>K y h5:=by
 subst hP
 cases b
 ·rw[Y0,Qm]
  dsimp only
  rw[Y0,Ql ((Qj o.get).trans (by simpa using hi))]
  dsimp only
  rw[Y0]
  refine Qig hkd fun b=>?_
  dsimp only
  rw[Y0,Ym]
  dsimp only
  rw[YY]
  exact hk _
 ·rw[Yz,Yz,Yz,Yz,Ye]
  exact hk _
end
theorem lens_loop {H:Qe} {b:Nat} {ns:List Nat} {L:Nat} {T:TypeId} {fr:Nat×Nat} {x0:Value} (hb:H[b]?=some (.cells (ns.map fun n=>Value.int .i64 (n:Nat)).toArray T fr)) (hL:ns.length=L) (hl:ns.length<=1000) {RF:Qe->Prop} (hbad:RF H) {M:Kn} (hM:∀y,(∀n∈ns,n<=50)->M y H):
  Yv (.slice (some ⟨b,0,none⟩) L L) fun n=>Yu [(.int .i64 0),x0] H fun I m=>∀x y:Value,∀h:Qe,I m [x,y] h->Qk prog .lss 3 x n fun c=>IfK c
   (Y1 1 (.slice (some ⟨b,0,none⟩) L L) x fun a=>LdK h a fun v=>Qa prog 59 #[v] h fun r h1=>ZI prog (Op.unary .not r) fun r'=>IfK r' (RF h1) (Qk prog .add 3 x (.int .i64 1) fun x'=>QS I m [x',y] h1))
   (M y h):=by
 subst hL
 rw[QbK]
 refine ⟨fun m vs H'=>∃i y,vs=[.int .i64 (i:Nat),y]/\i+m=ns.length/\H'=H/\∀n∈ns.take i,n<=50,⟨ns.length,0,_,rfl,by omega,rfl,by simp⟩,?_⟩
 rintro m x y H' ⟨i,y',hx,him,e,hall⟩
 cases hx
 subst e
 rw[Yr]
 by_cases hlt:i<ns.length
 ·have ha:=List.getElem?_eq_getElem hlt
  rw[Yb (by omega),QR (by omega) (by omega),Ql (v:=.int .i64 (ns[i]:Nat)) ((Qj hb).trans (by simp[ha]))]
  refine list_ok ?_
  rw[Ym]
  refine Y9 (fun _=>hbad) fun hle=>?_
  have hle:ns[i]<=50:=by
   have:((ns[i]:Nat):Int)<=50:=by simpa using hle
   omega
  rw[QA,wrap_i64 (by omega) (by omega)]
  refine ⟨m-1,by omega,i+1,y,by simp,by omega,rfl,fun n hn=>?_⟩
  rw[List.take_succ_eq_append_getElem hlt]at hn
  rcases List.mem_append.1 hn with hn|hn
  ·exact hall n hn
  ·have:n=ns[i]:=by simpa using hn
   rw[this];exact hle
 ·rw[QM (by omega)]
  have:i=ns.length:=by omega
  subst this
  exact hM y (by rw[List.take_length]at hall;exact hall)
theorem txt_loop {G:Cut} {H:Qe} (hG:G.In H) {l:List (List UInt8)} {v x0:Value} (hs:SlV G 1 v (l.map Qfd)) (hl:l.length<=1000) {RF:Qe->Prop} (hbad:RF H) {M:Kn} (hM:∀y,(∀s∈l,s.length<=300)->M y H):
  Yv v fun n=>Yu [(.int .i64 0),x0] H fun I m=>∀x y:Value,∀h:Qe,I m [x,y] h->Qk prog .lss 3 x n fun c=>IfK c
   (Y1 1 v x fun a=>LdK h a fun s=>QeL s fun z=>Qk prog .gtr 3 z (.int .i64 300) fun c=>IfK c (RF h) (Qk prog .add 3 x (.int .i64 1) fun x'=>QS I m [x',y] h))
   (M y h):=by
 rw[hs.len,List.length_map]
 refine ⟨fun m vs H'=>∃i y,vs=[.int .i64 (i:Nat),y]/\i+m=l.length/\H'=H/\∀n∈l.take i,n.length<=300,⟨l.length,0,_,rfl,by omega,rfl,by simp⟩,?_⟩
 rintro m x y H' ⟨i,y',hx,him,e,hall⟩
 cases hx
 subst e
 rw[Yr]
 by_cases hlt:i<l.length
 ·have ha:=List.getElem?_eq_getElem hlt
  rw[Yb (by omega)]
  obtain ⟨b,o,cs,e',fr,g1,g2,g3,g4⟩:=hs.idx hG (i:=i) rfl (it:=Qfd l[i]) (by rw[List.getElem?_map,ha];rfl)
  rw[g1,Ql ((Qj g2).trans (Qaq g4)),Yf,Qdo,Qbv]
  have hsz:(ByteArray.mk l[i].toArray).size=l[i].length:=by simp[ByteArray.size]
  rw[hsz]
  refine Zd (fun _=>hbad) fun hle=>?_
  have hle:l[i].length<=300:=by omega
  rw[QA,wrap_i64 (by omega) (by omega)]
  refine ⟨m-1,by omega,i+1,y,by simp,by omega,rfl,fun n hn=>?_⟩
  rw[List.take_succ_eq_append_getElem hlt]at hn
  rcases List.mem_append.1 hn with hn|hn
  ·exact hall n hn
  ·have:n=l[i]:=by simpa using hn
   rw[this];exact hle
 ·rw[QM (by omega)]
  have:i=l.length:=by omega
  subst this
  exact hM y (by rw[List.take_length]at hall;exact hall)
theorem dbl_loop {G:Cut} {H:Qe} (hG:G.In H) {l:List UInt64} {v x0:Value} (hs:SlV G 1 v (l.map Qai)) (hl:l.length<=1000) {RF:Qe->Prop} (hbad:RF H) {M:Kn} (hM:∀y,M y H):
  Yv v fun n=>Yu [(.int .i64 0),x0] H fun I m=>∀x y:Value,∀h:Qe,I m [x,y] h->Qk prog .lss 3 x n fun c=>IfK c
   (Y1 1 v x fun a=>LdK h a fun s=>Qa prog 60 #[(.int .u8 10),s] h fun r h1=>ZI prog (Op.unary .not r) fun r'=>IfK r' (RF h1) (Qk prog .add 3 x (.int .i64 1) fun x'=>QS I m [x',y] h1))
   (M y h):=by
 rw[hs.len,List.length_map]
 refine ⟨fun m vs H'=>∃i y,vs=[.int .i64 (i:Nat),y]/\i+m=l.length/\H'=H,⟨l.length,0,_,rfl,by omega,rfl⟩,?_⟩
 rintro m x y H' ⟨i,y',hx,him,e⟩
 cases hx
 subst e
 rw[Yr]
 by_cases hlt:i<l.length
 ·have ha:=List.getElem?_eq_getElem hlt
  rw[Yb (by omega)]
  obtain ⟨b,o,cs,e',fr,g1,g2,g3,g4⟩:=hs.idx hG (i:=i) rfl (it:=Qai l[i]) (by rw[List.getElem?_map,ha];rfl)
  rw[g1,Ql ((Qj g2).trans (Qaq g4)),Ya]
  refine Qig (.inr rfl) fun b=>?_
  rw[Ym]
  refine Y9 (fun _=>hbad) fun _=>?_
  rw[QA,wrap_i64 (by omega) (by omega)]
  exact ⟨m-1,by omega,i+1,y,by simp,by omega,rfl⟩
 ·rw[QM (by omega)]
  exact hM y
end Go.Proofs
namespace Go.Proofs
open Go Go.Vc
open Tryz (prog)
theorem pos_loop {G:Cut} {H:Qe} (hG:G.In H) {l:List ZO} {v x0:Value} (hs:SlV G 7 v (l.map Zg)) (hl:l.length<=1000) {RF:Qe->Prop} (hbad:∀h,Ext G H G h->RF h) {M:Kn} (hM:∀y h,Ext G H G h->M y h):
  Yv v fun n=>Yu [(.int .i64 0),x0] H fun I m=>∀x y:Value,∀h32:Qe,I m [x,y] h32->Qk prog .lss 3 x n fun c=>IfK c
   (Y1 7 v x fun x150=>LdN h32 7 x150 fun x151=>Y5 h32 (.cells z76 76) fun x15 h33=>StK h33 7 x15 x151 fun h34=>
 Qg x15 0 fun x152=>
 LdK h34 x152 fun x153=>
 QK .u64 x153 fun x154=>
 Qa prog 60 #[(.int .u8 9),x154] h34 fun x155 h35=>
 ZI prog (Op.unary .not x155) fun x156=>
 Qc x156 false (fun k27=>Qg x15 1 fun x158=>k27 x158 h35) h35 fun x158_1 h36=>
 Qc x156 false (fun k28=>LdK h36 x158_1 fun x159=>k28 x159 h36) h36 fun x159_1 h37=>
 Qc x156 false (fun k29=>QK .u64 x159_1 fun x160=>k29 x160 h37) h37 fun x160_1 h38=>
 Qc x156 false (fun k30=>Qa prog 60 #[(.int .u8 9),x160_1] h38 fun x161 h39=>k30 x161 h39) h38 fun x161_1 h40=>
 Qc x156 false (fun k31=>ZI prog (Op.unary .not x161_1) fun x162=>k31 x162 h40) h40 fun x162_1 h41=>
 Yd x156 (.bool true) x162_1 fun x163=>
 Qc x163 false (fun k32=>Qg x15 2 fun x165=>k32 x165 h41) h41 fun x165_1 h42=>
 Qc x163 false (fun k33=>LdK h42 x165_1 fun x166=>k33 x166 h42) h42 fun x166_1 h43=>
 Qc x163 false (fun k34=>QK .u64 x166_1 fun x167=>k34 x167 h43) h43 fun x167_1 h44=>
 Qc x163 false (fun k35=>Qa prog 60 #[(.int .u8 9),x167_1] h44 fun x168 h45=>k35 x168 h45) h44 fun x168_1 h46=>
 Qc x163 false (fun k36=>ZI prog (Op.unary .not x168_1) fun x169=>k36 x169 h46) h46 fun x169_1 h47=>
 Yd x163 (.bool true) x169_1 fun x170=>
 Qc x170 false (fun k37=>Qg x15 3 fun x172=>k37 x172 h47) h47 fun x172_1 h48=>
 Qc x170 false (fun k38=>LdK h48 x172_1 fun x173=>k38 x173 h48) h48 fun x173_1 h49=>
 Qc x170 false (fun k39=>Qa prog 60 #[(.int .u8 10),x173_1] h49 fun x174 h50=>k39 x174 h50) h49 fun x174_1 h51=>
 Qc x170 false (fun k40=>ZI prog (Op.unary .not x174_1) fun x175=>k40 x175 h51) h51 fun x175_1 h52=>
 Yd x170 (.bool true) x175_1 fun x176=>
 IfK x176 (RF h52) (Qk prog .add 3 x (.int .i64 1) fun x'=>QS I m [x',y] h52))
   (M y h32):=by
 rw[hs.len,List.length_map]
 refine ⟨fun m vs H'=>∃i y,vs=[.int .i64 (i:Nat),y]/\i+m=l.length/\Ext G H G H',⟨l.length,0,_,rfl,by omega,Ext.refl hG⟩,?_⟩
 rintro m x y H' ⟨i,y',hx,him,e⟩
 cases hx
 rw[Yr]
 by_cases hlt:i<l.length
 ·have ha:=List.getElem?_eq_getElem hlt
  rw[Yb (by omega)]
  have hone:∀x∈Zg l[i],x.oneCell'=true:=fun x hx=>by
   simp[Zg]at hx
   rcases hx with rfl|rfl|rfl|rfl|rfl|rfl|rfl<;>rfl
  refine Z8 hs e.inn (i:=i) (it:=Zg l[i]) (by rw[List.getElem?_map,ha];rfl) ?_
  refine cp_st (es:=7) (it:=Zg l[i]) rfl (by decide) rfl hone ?_
  have o:Yj H G (H'.push (.cells (Zg l[i]).toArray 76 (0,0))) H'.size (.cells (Zg l[i]).toArray 76 (0,0)):=Yj.fresh e _
  have e:=e.push (.cells (Zg l[i]).toArray 76 (0,0))
  generalize H'.push (.cells (Zg l[i]).toArray 76 (0,0))=H2 at *
  refine QF o (i:=0) (v:=Zz l[i].x) rfl ?_
  rw[Zz,QH]
  refine Qig (.inl rfl) fun b=>?_
  rw[Ym]
  refine or_flt o (.inl rfl) rfl (i:=1) (by rfl) fun b=>?_
  refine or_flt o (.inl rfl) rfl (i:=2) (by rfl) fun b=>?_
  refine or_flt8 o (.inr rfl) rfl (i:=3) (by rfl) fun b=>?_
  refine Y9 (fun _=>hbad _ e) fun _=>?_
  rw[QA,wrap_i64 (by omega) (by omega)]
  exact ⟨m-1,by omega,i+1,y,by simp,by omega,e⟩
 ·rw[QM (by omega)]
  exact hM _ _ e
theorem appN {G0:Cut} {H0:Qe} {G:Cut} {H:Qe} {et:TypeId} {es bts:Nat} {zs:Array Value} {b c:Nat} {cs:Array Value} {items its:List (List Value)} {w:Value} (hE:Ext G0 H0 G H) (hall:∀x∈items,x.length=es) (h2:Yj H0 G H b (.cells cs et (0,0))) (h4:items.length*es<=cs.size) (h5:c*es<=cs.size) (h6:cs.toList.take (items.length*es)=items.flatten) (h7:items.length<=c) (hne:items≠[])
  (hw:SlV G es w its) (hone:∀x∈its,∀y∈x,y.oneCell'=true) (hb:0<bts) (hn:(items.length+its.length)*bts<=140737488355328) (hz:zs.size=es) {k:Kn}
  (hk:∀v' H',Ext G0 H0 G H'->Cur H0 G H' et es v' (items++its) (fun _=>False)->(c=items.length->Qaf H H')->k v' H'):
  Qbs H et es bts zs (.slice (some ⟨b,0,none⟩) items.length c) w k:=by
 have flen:∀{l:List (List Value)},(∀x∈l,x.length=es)->l.flatten.length=l.length*es:=fun {l} hl=>by
  induction l with
  |nil=>simp
  |cons x xs ih=>
   rw[List.flatten_cons,List.length_append,List.length_cons,ih (fun z hz=>hl z (List.mem_cons_of_mem _ hz)),hl x List.mem_cons_self,Nat.add_mul];omega
 have hil:=flen hall
 have hwl:=flen hw.1
 have hall':∀x∈items++its,x.length=es:=fun x hx=>by
  rcases List.mem_append.1 hx with hx|hx
  ·exact hall x hx
  ·exact hw.1 x hx
 have hone':∀y∈its.flatten,y.oneCell'=true:=fun y hy=>by
  obtain ⟨x,hx,hy⟩:=List.mem_flatten.1 hy
  exact hone x hx y hy
 have hfl:(items++its).flatten=items.flatten++its.flatten:=by simp
 have hlen:(items++its).length=items.length+its.length:=by simp
 obtain ⟨yb,m,yc,rfl,hm,hnew⟩:∃yb m yc,w= .slice yb m yc/\m=its.length/\Qgs H (m*es) (.slice yb m yc)=some its.flatten:=by
  rcases hw.2 with ⟨a,c',rfl,rfl⟩|⟨y,yo,c',cells,e,fr,rfl,g2,g3,g4,g5⟩
  ·refine ⟨a,0,c',rfl,rfl,?_⟩
   rw[Nat.zero_mul]
   cases a<;>rfl
  ·refine ⟨_,_,_,rfl,rfl,?_⟩
   show Zf H ⟨y,yo,none⟩ 0 (its.length*es)=_
   rw[Q4 (hE.inn _ _ g2) _ (by omega),Nat.add_zero,g4]
 subst hm
 have hadd:(items.length+its.length)*es=items.length*es+its.length*es:=Nat.add_mul _ _ _
 refine ⟨fun hc=>⟨its.flatten,hnew,?_⟩,fun hc=>⟨hb,by simpa using hn,items.flatten,its.flatten,?_,hnew,fun c' hc1 _=>?_⟩⟩
 ·have hcm:(items.length+its.length)*es<=c*es:=Nat.mul_le_mul_right _ hc
  have hcs:cs=cs.toList.toArray:=by simp
  have hset:=Qes (b:=b) (e:=et) (fr:=(0,0)) its.flatten (H:=H) (l:=cs.toList) (o:=items.length*es) (i:=0) (by rw[<-hcs];exact h2.get) hone' (by simp only[Array.length_toList,hwl];rw[Nat.add_zero,<-hadd];exact Nat.le_trans hcm h5) (by simp)
  refine ⟨_,by show setN H (Addr.add ⟨b,0,none⟩ (items.length*es)) 0 its.flatten=_;rw[QeC,Nat.zero_add];exact hset,?_⟩
  cases hit:its.flatten with
  |nil=>
   simp only
   rw[hit]at hwl
   refine hk _ _ hE ⟨hall',Or.inr ⟨b,c,cs,by rw[hlen],h2,id,by rw[hlen,hadd,<-hwl];simpa using h4,h5,by rw[hlen,hadd,<-hwl,hfl,hit];simpa using h6,by rw[hlen];exact hc,by simp[hne]⟩⟩ (fun _=>Qaf.refl _)
  |cons x xs=>
   simp only[Nat.add_zero]
   rw[hit]at hwl
   refine hk _ _ (hE.set h2.out h2.new _) ⟨hall',Or.inr ⟨b,c,_,by rw[hlen],h2.set _,id,?_,?_,?_,by rw[hlen];exact hc,by simp[hne]⟩⟩ ?_
   ·rw[hlen];simp only[List.size_toArray,Q7,Array.length_toList];exact Nat.le_trans hcm h5
   ·simp only[List.size_toArray,Q7,Array.length_toList];exact h5
   ·rw[hlen,hfl,hadd,<-hwl,<-h6,hit]
    exact putL_take (L:=cs.toList) (xs:=x::xs) (n:=items.length*es) (by rw[Array.length_toList (xs:=cs),hwl,<-hadd];exact Nat.le_trans hcm h5)
   ·intro hcl
    have:its.length=0:=by omega
    rw[this]at hwl
    simp at hwl
 ·show Zf H ⟨b,0,none⟩ 0 (items.length*es)=_
  rw[Q4 h2.get _ (by omega),Nat.add_zero,List.drop_zero,h6]
 ·have hsz:((items.flatten++its.flatten).toArray++Builtin.zeroCells zs (c'-(items.length+its.length))).size=c'*es:=by
   have hz2:(Builtin.zeroCells zs (c'-(items.length+its.length))).size=(c'-(items.length+its.length))*es:=by
    unfold Builtin.zeroCells
    simp[hz]
   rw[Array.size_append,hz2]
   simp only[List.size_toArray,List.length_append,hil,hwl]
   obtain ⟨d,rfl⟩:∃d,c'=items.length+its.length+d:=⟨c'-(items.length+its.length),by omega⟩
   rw[show items.length+its.length+d-(items.length+its.length)=d by omega,Nat.add_mul,Nat.add_mul]
  refine hk _ _ (hE.push _) ⟨hall',Or.inr ⟨H.size,c',_,by rw[hlen],Yj.fresh hE _,id,by rw[hlen,hsz];exact Nat.mul_le_mul_right _ hc1,by rw[hsz];exact Nat.le_refl _,?_,by rw[hlen];exact hc1,by simp[hne]⟩⟩ (fun _=>Qaf.push _ _)
  rw[hlen,hfl]
  have e:((items.flatten++its.flatten).toArray++Builtin.zeroCells zs (c'-(items.length+its.length))).toList=(items.flatten++its.flatten)++(Builtin.zeroCells zs (c'-(items.length+its.length))).toList:=by simp
  rw[e,List.take_left' (by rw[List.length_append,hil,hwl,hadd])]
theorem emp_loop {H0:Qe} {G:Cut} {H:Qe} {l:List ZJ} {v v0:Value} {base:List (List UInt8)} (hs:SlV G 3 v (l.map YL)) (hl:l.length<=1) (hE:Ext G H0 G H) (hc:Cur H0 G H 9 1 v0 (base.map Qfd) (fun _=>False)) (hbl:base.length<=1000) {M:Kn}
  (hM:∀y h,Ext G H0 G h->Cur H0 G h 9 1 y ((base++l.map fun s=>s.id).map Qfd) (fun _=>False)->M y h):
  Yv v fun n=>Yu [(.int .i64 0),v0] H fun I m=>∀x y:Value,∀h24:Qe,I m [x,y] h24->Qk prog .lss 3 x n fun c=>IfK c
   (Y1 3 v x fun x127=>LdN h24 3 x127 fun x128=>Y5 h24 (.cells z80 80) fun x11 h25=>StK h25 3 x11 x128 fun h26=>Qg x11 0 fun x130=>LdK h26 x130 fun x131=>
 Q8 h26 9 1 (YV z9.toList 1) [(0,1,x131)] fun x132 h27=>Qbs h27 9 1 16 z9 y x132 fun x133 h28=>Qk prog .add 3 x (.int .i64 1) fun x'=>QS I m [x',x133] h28)
   (M y h24):=by
 rw[hs.len,List.length_map]
 refine ⟨fun m vs H'=>∃i y,vs=[.int .i64 (i:Nat),y]/\i+m=l.length/\Ext G H0 G H'/\Cur H0 G H' 9 1 y ((base++(l.take i).map fun s=>s.id).map Qfd) (fun _=>False),⟨l.length,0,_,rfl,by omega,hE,by simpa using hc⟩,?_⟩
 rintro m x y H' ⟨i,y',hx,him,e,hc⟩
 cases hx
 rw[Yr]
 by_cases hlt:i<l.length
 ·have ha:=List.getElem?_eq_getElem hlt
  rw[Yb (by omega)]
  have hone:∀x∈YL l[i],x.oneCell'=true:=fun x hx=>by
   simp[YL]at hx
   rcases hx with rfl|rfl|rfl<;>rfl
  refine Z8 hs e.inn (i:=i) (it:=YL l[i]) (by rw[List.getElem?_map,ha];rfl) ?_
  refine cp_st (es:=3) (it:=YL l[i]) rfl (by decide) rfl hone ?_
  have o:Yj H0 G (H'.push (.cells (YL l[i]).toArray 80 (0,0))) H'.size (.cells (YL l[i]).toArray 80 (0,0)):=Yj.fresh e _
  have e:=e.push (.cells (YL l[i]).toArray 80 (0,0))
  have hc:=hc.push (.cells (YL l[i]).toArray 80 (0,0))
  generalize H'.push (.cells (YL l[i]).toArray 80 (0,0))=H2 at *
  refine QF o (i:=0) (v:=Yf l[i].id) rfl ?_
  refine build1 rfl rfl ?_
  have e:=e.push (.cells #[Yf l[i].id] 9)
  have hc:=hc.push (.cells #[Yf l[i].id] 9)
  have hy:(H2.push (.cells #[Yf l[i].id] 9))[H2.size]?=some (.cells #[Yf l[i].id] 9 (0,0)):=Qh
  generalize H2.push (.cells #[Yf l[i].id] 9)=H3 at *
  refine hc.app e hy (Nat.le_refl 1) (it:=Qfd l[i].id) rfl (fun x hx=>by simp[Qfd]at hx;rw[hx];rfl) (by decide) (by decide) (by simp;omega) rfl (fun b hb=>hb.elim) ?_
  intro v' H4 e4 hc4 _
  rw[QA,wrap_i64 (by omega) (by omega)]
  refine ⟨m-1,by omega,i+1,v',by simp,by omega,e4,?_⟩
  have e1:((base++((l.take i++[l[i]]).map fun s=>s.id)).map Qfd)=(base++(l.take i).map fun s=>s.id).map Qfd++[Qfd l[i].id]:=by simp only[List.map_append,List.map_cons,List.map_nil,List.append_assoc]
  rw[List.take_succ_eq_append_getElem hlt,e1]
  exact hc4
 ·rw[QM (by omega)]
  have:i=l.length:=by omega
  subst this
  rw[List.take_length]at hc
  exact hM _ _ e hc
theorem cl_loop {G:Cut} {q:Nat} {gs:List GM} {s x0:Value} {n deep:Int} {Hs H:Qe} (hs:Qbu G gs s) (hK:∀g∈gs,QeE g) (hl:gs.length<=50) (hd:0<=deep) (hd5:deep<=5) (kx:KX G q Hs H) (hq:Yj #[] G H q (left n)) (hn:0<=n) (hn2:n<=20)
  {RF:Qe->Prop} (hbad:∀h k,KX G q Hs h->h[q]?=some (left k)->RF h) {M:Kn} (hM:∀y h k,KX G q Hs h->Yj #[] G h q (left k)->Zu gs->(cntL gs:Int)+k<=n->0<=k->M y h):
  Yv s fun x219=>Yu [(.int .i64 0),x0] H fun I m=>∀x y:Value,∀h72:Qe,I m [x,y] h72->Qk prog .lss 3 x x219 fun c=>IfK c
   (Y1 51 s x fun x222=>LdN h72 51 x222 fun x223=>Y5 h72 (.cells z38 38) fun x21 h73=>StK h73 51 x21 x223 fun h74=>LdN h74 51 x21 fun x224=>Qk prog .sub 3 (.int .i64 deep) (.int .i64 1) fun x227=>
 Qa prog 17 #[x224,ptr q,x227] h74 fun x228 h75=>ZI prog (Op.unary .not x228) fun x229=>IfK x229 (RF h75) (Qk prog .add 3 x (.int .i64 1) fun x230=>QS I m [x230,y] h75))
   (M y h72):=by
 obtain ⟨its,hs,hvs⟩:=hs
 have hil:=Zh.len hvs
 rw[hs.len,<-hil]
 refine ⟨fun m vs H'=>∃i y k,vs=[.int .i64 (i:Nat),y]/\i+m=gs.length/\KX G q Hs H'/\Yj #[] G H' q (left k)/\Zu (gs.take i)/\(cntL (gs.take i):Int)+k<=n/\0<=k,⟨gs.length,0,_,n,rfl,by omega,kx,hq,by rw[List.take_zero,Zu];trivial,by rw[List.take_zero,cntL];simp,hn⟩,?_⟩
 rintro m x y H' ⟨i,y',k,hx,him,kx,hq,hcl,hcn,hk0⟩
 cases hx
 rw[Yr]
 by_cases hlt:i<gs.length
 ·have ha:=List.getElem?_eq_getElem hlt
  rw[Yb (by omega)]
  obtain ⟨x1,hx1,hv1⟩:=Zh.get hvs ha
  refine Z8 hs kx.inn (i:=i) hx1 ?_
  refine Qid hv1.len (by decide) rfl (QaX.one hv1) ?_
  have kx:KX G q Hs (H'.push (.cells x1.toArray 38 (0,0))):=kx.trans (KX.of_ext ((Ext.refl kx.inn).push _))
  have hq:=hq.push (.cells x1.toArray 38 (0,0))
  generalize H'.push (.cells x1.toArray 38 (0,0))=H2 at *
  rw[QZ,wrap_i64 (by omega) (by omega)]
  refine hK _ (List.mem_of_getElem? ha) G H2 x1 q k (deep-1) _ kx.inn hv1 hq hk0 (by omega) (by omega) (by omega) ?_
  intro H3 k3 b kx3 hq3 hb
  rw[Ym]
  have kx:=kx.trans kx3
  refine Y9 (fun _=>hbad _ _ kx hq3) fun hb'=>?_
  obtain ⟨c1,c2,c3⟩:=hb (by simpa using hb')
  rw[QA,wrap_i64 (by omega) (by omega)]
  refine ⟨m-1,by omega,i+1,y,k3,by simp,by omega,kx,⟨hq3,hq.out,Nat.zero_le _⟩,?_,?_,c3⟩
  ·rw[List.take_succ_eq_append_getElem hlt];exact hcl.snoc c1
  ·rw[List.take_succ_eq_append_getElem hlt,cntL_snoc];omega
 ·rw[QM (by omega)]
  have:i=gs.length:=by omega
  subst this
  rw[List.take_length]at hcl hcn
  exact hM _ _ _ kx hq hcl hcn hk0
end Go.Proofs
namespace Go.Proofs
open Go Go.Vc
open Tryz (prog)
section
variable {H0:Qe} {G:Cut} {H:Qe} {q:Nat} {ty color:UInt8} {v:Value} {T:TypeId} (o:Yj H0 G H q (.cells [u8n ty,v,u8n color].toArray T (0,0)))
include o
theorem cc1 {amb:Bool} {K:Kn} (hk:K (.bool (decide ((3:Int)<(ty.toNat:Int))||(!amb&&decide ((2:Int)<(ty.toNat:Int))))) H):
 Qk prog .gtr 5 (u8n ty) (.int .u8 3) fun x12=>
 Qc x12 false (fun k1=>k1 (.bool amb) H) H fun x14 h2=>
 Qc x12 false (fun k2=>ZI prog (Op.unary .not x14) fun x15=>k2 x15 h2) h2 fun x15_1 h3=>
 Qc x12 false (fun k3=>k3 x15_1 h3) h3 fun x16 h4=>
 Qc x16 true (fun k4=>Qg (ptr q) 0 fun x17=>k4 x17 h4) h4 fun x17_1 h5=>
 Qc x16 true (fun k5=>LdK h5 x17_1 fun x18=>k5 x18 h5) h5 fun x18_1 h6=>
 Qc x16 true (fun k6=>Qk prog .gtr 5 x18_1 (.int .u8 2) fun x19=>k6 x19 h6) h6 fun x19_1 h7=>
 Qc x12 false (fun k7=>Yd x16 x19_1 (.bool false) fun x20=>k7 x20 h7) h7 fun x20_1 h8=>
 Yd x12 (.bool true) x20_1 fun x21=>
 K x21 h8:=by
 have h0:∀k:Value->Prop,LdK H (.pointer (some ⟨q,0,none⟩)) k=k (u8n ty):=fun k=>Ql ((Qj o.get).trans rfl)
 rw[Qbv]
 generalize decide ((3:Int)<(ty.toNat:Int))=b at *
 cases b<;>cases amb<;>simp only[Y0,Yz,QU,Y8,QaO,Ye,YY,Ym,Qm,h0,Qbv,Bool.not_true,Bool.not_false]
 all_goals exact hk
theorem cc2 {amb:Bool} {K:Kn} (hk:K (.bool (decide ((ty.toNat:Int)=1)||(amb&&decide ((0:Int)<(ty.toNat:Int))))) H):
 Qk prog .eql 5 (u8n ty) (.int .u8 1) fun x30=>
 Qc x30 false (fun k12=>k12 (.bool amb) H) H fun x32 h13=>
 Qc x30 false (fun k13=>k13 x32 h13) h13 fun x33 h14=>
 Qc x33 true (fun k14=>Qg (ptr q) 0 fun x34=>k14 x34 h14) h14 fun x34_1 h15=>
 Qc x33 true (fun k15=>LdK h15 x34_1 fun x35=>k15 x35 h15) h15 fun x35_1 h16=>
 Qc x33 true (fun k16=>Qk prog .gtr 5 x35_1 (.int .u8 0) fun x36=>k16 x36 h16) h16 fun x36_1 h17=>
 Qc x30 false (fun k17=>Yd x33 x36_1 (.bool false) fun x37=>k17 x37 h17) h17 fun x37_1 h18=>
 Yd x30 (.bool true) x37_1 fun x38=>
 K x38 h18:=by
 have h0:∀k:Value->Prop,LdK H (.pointer (some ⟨q,0,none⟩)) k=k (u8n ty):=fun k=>Ql ((Qj o.get).trans rfl)
 rw[Yt]
 generalize decide ((ty.toNat:Int)=1)=b at *
 cases b<;>cases amb<;>simp only[Y0,Yz,QU,Y8,QaO,Ye,YY,Ym,Qm,h0,Qbv,Bool.not_true,Bool.not_false]
 all_goals exact hk
theorem cc3 {amb b:Bool} {K:Kn} (hk:K (.bool (b||((amb||decide ((ty.toNat:Int)≠2))&&decide ((color.toNat:Int)≠0)))) H):
 Qc (.bool b) false (fun k18=>k18 (.bool amb) H) H fun x46 h19=>
 Qc (.bool b) false (fun k19=>k19 x46 h19) h19 fun x47 h20=>
 Qc x47 false (fun k20=>Qg (ptr q) 0 fun x48=>k20 x48 h20) h20 fun x48_1 h21=>
 Qc x47 false (fun k21=>LdK h21 x48_1 fun x49=>k21 x49 h21) h21 fun x49_1 h22=>
 Qc x47 false (fun k22=>Qk prog .neq 5 x49_1 (.int .u8 2) fun x50=>k22 x50 h22) h22 fun x50_1 h23=>
 Qc (.bool b) false (fun k23=>Yd x47 (.bool true) x50_1 fun x51=>k23 x51 h23) h23 fun x51_1 h24=>
 Qc (.bool b) false (fun k24=>k24 x51_1 h24) h24 fun x52 h25=>
 Qc x52 true (fun k25=>Qg (ptr q) 2 fun x53=>k25 x53 h25) h25 fun x53_1 h26=>
 Qc x52 true (fun k26=>LdK h26 x53_1 fun x54=>k26 x54 h26) h26 fun x54_1 h27=>
 Qc x52 true (fun k27=>Qk prog .neq 5 x54_1 (.int .u8 0) fun x55=>k27 x55 h27) h27 fun x55_1 h28=>
 Qc (.bool b) false (fun k28=>Yd x52 x55_1 (.bool false) fun x56=>k28 x56 h28) h28 fun x56_1 h29=>
 Yd (.bool b) (.bool true) x56_1 fun x57=>
 K x57 h29:=by
 have h0:∀k:Value->Prop,LdK H (.pointer (some ⟨q,0,none⟩)) k=k (u8n ty):=fun k=>Ql ((Qj o.get).trans rfl)
 have h2:∀k:Value->Prop,LdK H (.pointer (some ⟨q,2,none⟩)) k=k (u8n color):=fun k=>Ql ((Qj o.get).trans rfl)
 cases b
 ·cases amb
  ·simp only[Y0,Yz,QU,Y8,QaO,Ye,YY,Qm,h0,h2,Yp]
   generalize decide ((ty.toNat:Int)≠2)=b at *
   cases b<;>simp only[Y0,Yz,QU,Y8,QaO,Ye,YY,Qm,h0,h2,Yp]
   all_goals exact hk
  ·simp only[Y0,Yz,QU,Y8,QaO,Ye,YY,Qm,h0,h2,Yp]
   exact hk
 ·simp only[Y0,Yz,QU,Y8,QaO,Ye,YY,Qm,h0,h2,Yp]
  exact hk
end
theorem u8_eq {a b:UInt8} (h:(a.toNat:Int)=(b.toNat:Int)):a=b:=UInt8.toNat_inj.1 (by omega)
theorem choice_ok {G:Cut} {H:Qe} {q:Nat} {n deep:Int} {amb:Bool} {ty color:UInt8} {gs:List GM} {v:Value} (hG:G.In H) (hs:Qbu G gs v) (hK:∀g∈gs,QeE g) (hq:Yj #[] G H q (left n)) (hn:0<=n) (hn2:n<=20) (hd:0<=deep) (hd5:deep<=5) {R:Kn}
  (hR:∀H' k (b:Bool),KX G q H H'->H'[q]?=some (left k)->(b=true->GUn amb ty gs.length/\(amb=true\/ty≠2->color=0)/\Zu gs/\(cntL gs:Int)+k<=n/\0<=k)->R (.bool b) H'):
  FnS prog 61 #[.agg #[u8n ty,v,u8n color],.bool amb,ptr q,.int .i64 deep] H R:=by
 apply w61
 unfold s61
 rw[Qy]
 have e:=Ext.refl hG
 have o:Yj H G (H.push (.cells (Value.agg #[u8n ty,v,u8n color]).cells 26)) H.size (.cells [u8n ty,v,u8n color].toArray 26 (0,0)):=Yj.fresh e _
 have e:=e.push (.cells (Value.agg #[u8n ty,v,u8n color]).cells 26)
 have hq:=hq.push (.cells (Value.agg #[u8n ty,v,u8n color]).cells 26)
 generalize H.push (.cells (Value.agg #[u8n ty,v,u8n color]).cells 26)=H1 at *
 have kx:KX G q H H1:=KX.of_ext e
 have hF:R (.bool false) H1:=hR H1 n false kx hq.get (fun h=>by cases h)
 obtain ⟨its,hs,hvs⟩:=hs
 have hil:=Zh.len hvs
 have hlen:∀k:Value->Prop,Yv v k=k (.int .i64 gs.length):=fun k=>by rw[hs.len,hil]
 refine QF o (i:=0) (v:=u8n ty) rfl ?_
 refine cc1 o ?_
 refine or_len o (i:=1) (v:=v) rfl hlen ?_
 refine Y9 (fun _=>hF) fun hb1=>?_
 refine QF o (i:=0) (v:=u8n ty) rfl ?_
 refine cc2 o ?_
 generalize hone:(decide ((ty.toNat:Int)=1)||(amb&&decide ((0:Int)<(ty.toNat:Int))))=one at *
 refine QF o (i:=1) (v:=v) rfl ?_
 rw[hlen,Yt,BinK_boolne (by kernel_rfl)]
 refine cc3 o ?_
 refine Y9 (fun _=>hF) fun hb2=>?_
 rw[Ym]
 simp only[Bool.or_eq_false_iff,Bool.and_eq_false_iff,Bool.not_eq_false',decide_eq_false_iff_not,beq_iff_eq,Bool.not_eq_eq_eq_not,Bool.not_true,Bool.not_false]at hb1 hb2
 obtain ⟨⟨t3,t2⟩,l1⟩:=hb1
 obtain ⟨hlo,hco⟩:=hb2
 have hco:amb=true\/ty≠2->color=0:=fun h=>by
  rcases hco with ⟨ha,ht⟩|hc
  ·rcases h with h|h
   ·rw[ha]at h;cases h
   ·exact absurd (u8_eq (b:=2) (by simpa using ht)) h
  ·exact u8_eq (b:=0) (by simpa using hc)
 cases one
 ·have hl0:gs.length≠1:=by
   intro h
   rw[h]at hlo;simp at hlo
  have hg:gs=[]:=List.eq_nil_of_length_eq_zero (by omega)
  subst hg
  simp only[Bool.or_eq_false_iff,Bool.and_eq_false_iff,decide_eq_false_iff_not]at hone
  simp only[Bool.not_false,Yz,Ye]
  refine hR H1 n true kx hq.get fun _=>⟨?_,hco,by rw[Zu];trivial,by rw[cntL];simp,hn⟩
  obtain ⟨h1,h0⟩:=hone
  by_cases hz:ty=0
  ·exact Or.inl ⟨hz,rfl⟩
  ·refine Or.inr ⟨hz,Or.inl ?_⟩
   have hz':ty.toNat≠0:=fun h=>hz (u8_eq (b:=0) (by rw[h];rfl))
   rcases h0 with h0|h0
   ·rcases t2 with t2|t2
    ·rw[h0]at t2;cases t2
    ·exact ⟨h0,u8_eq (b:=2) (by show (ty.toNat:Int)=2;omega),rfl⟩
   ·omega
 ·have hl1:gs.length=1:=by
   have:=hlo
   simp only[decide_eq_true_eq]at this
   omega
  obtain ⟨g0,rfl⟩:=List.length_eq_one_iff.1 hl1
  have ha:[g0][0]?=some g0:=rfl
  obtain ⟨x1,hx1,hv1⟩:=Zh.get hvs ha
  have h1:∀k:Value->Prop,LdK H1 (.pointer (some ⟨H.size,1,none⟩)) k=k v:=fun k=>Ql ((Qj o.get).trans rfl)
  obtain ⟨b,bo,cs,e',fr,g1,g2,g3,g4⟩:=hs.idx e.inn (i:=0) (x:=0) rfl hx1
  have g5:∀k:Value->Prop,LdN H1 51 (.pointer (some ⟨b,bo,none⟩)) k=k (.agg x1.toArray):=fun k=>YI (n:=51) (vs:=x1) (by rw[Q4 g2 51 (by omega)];exact congrArg some g4)
  simp only[Bool.not_true,Y0,Qm,h1,g1,g5,QZ,YY]
  rw[wrap_i64 (by omega) (by omega)]
  refine hK _ (List.mem_of_getElem? ha) G H1 x1 q n (deep-1) _ e.inn hv1 hq hn hn2 (by omega) (by omega) ?_
  intro H3 k3 b kx3 hq3 hb
  refine hR H3 k3 b (kx.trans kx3) hq3 fun h=>?_
  obtain ⟨c1,c2,c3⟩:=hb h
  refine ⟨?_,hco,?_,?_,c3⟩
  ·refine Or.inr ?_
   rw[hl1]
   simp only[Bool.or_eq_true,Bool.and_eq_true,decide_eq_true_eq]at hone
   rcases hone with h1|⟨h1,h0⟩
   ·have:ty=1:=u8_eq (b:=1) (by rw[h1];rfl)
    exact ⟨by rw[this];decide,Or.inr ⟨Or.inl this,rfl⟩⟩
   ·refine ⟨fun h=>by rw[h]at h0;exact absurd h0 (by decide),Or.inr ⟨?_,rfl⟩⟩
    have:ty.toNat=1\/ty.toNat=2\/ty.toNat=3:=by omega
    rcases this with h|h|h
    ·exact Or.inl (u8_eq (b:=1) (by rw[h];rfl))
    ·exact Or.inr ⟨h1,Or.inl (u8_eq (b:=2) (by rw[h];rfl))⟩
    ·exact Or.inr ⟨h1,Or.inr (u8_eq (b:=3) (by rw[h];rfl))⟩
  ·rw[Zu,Zu];exact ⟨c1,trivial⟩
  ·simp only[cntL];omega
end Go.Proofs
namespace Go.Proofs
open Go Go.Vc
open Tryz (prog)
theorem fill14 (n0 n1 n2 n3 n4 n5 n6 n7 n8 n9 n10 n11 n12 n13:Int):YJ (YV z3.toList 14) [(0,1,.int .i64 n0),(1,1,.int .i64 n1),(2,1,.int .i64 n2),(3,1,.int .i64 n3),(4,1,.int .i64 n4),(5,1,.int .i64 n5),(6,1,.int .i64 n6),(7,1,.int .i64 n7),(8,1,.int .i64 n8),(9,1,.int .i64 n9),(10,1,.int .i64 n10),(11,1,.int .i64 n11),(12,1,.int .i64 n12),(13,1,.int .i64 n13)]=
  some [.int .i64 n0,.int .i64 n1,.int .i64 n2,.int .i64 n3,.int .i64 n4,.int .i64 n5,.int .i64 n6,.int .i64 n7,.int .i64 n8,.int .i64 n9,.int .i64 n10,.int .i64 n11,.int .i64 n12,.int .i64 n13]:=by kernel_rfl
theorem fill5 (s0 s1 s2 s3 s4:List UInt8):YJ (YV z9.toList 5) [(0,1,Yf s0),(1,1,Yf s1),(2,1,Yf s2),(3,1,Yf s3),(4,1,Yf s4)]=some [Yf s0,Yf s1,Yf s2,Yf s3,Yf s4]:=by kernel_rfl
theorem fill2 {v w:Value} (hv:v.oneCell'=true) (hw:w.oneCell'=true):YJ (YV z24.toList 2) [(0,1,v),(1,1,w)]=some [v,w]:=by
 have h1:=Qf3 hv
 have h2:=Qf3 hw
 unfold YJ
 rw[h1,if_pos ⟨rfl,Nat.le_of_ble_eq_true (by kernel_rfl)⟩]
 unfold YJ
 rw[h2,if_pos ⟨rfl,Nat.le_of_ble_eq_true (by kernel_rfl)⟩]
 unfold YJ
 simp[YV,z24]
theorem or_lss {P:Program} {t:TypeId} {b:Bool} {v:Value} {n:Int} {H:Qe} (hv:v= .int .i64 n) {K:Kn} (hk:K (.bool (b||decide (n<0))) H):
  Qc (.bool b) false (fun k1=>k1 v H) H fun y1 h1=>Qc (.bool b) false (fun k2=>Qk P .lss t y1 (.int .i64 0) fun x=>k2 x h1) h1 fun y2 h2=>Yd (.bool b) (.bool true) y2 fun y=>K y h2:=by
 subst hv
 cases b
 ·rw[Y0]
  dsimp only
  rw[Y0,Yr]
  dsimp only
  rw[YY]
  exact hk
 ·rw[Yz,Yz,Ye]
  exact hk
section
variable {H0:Qe} {G:Cut} {H:Qe} {q:Nat} {cells:List Value} {T:TypeId} (o:Yj H0 G H q (.cells cells.toArray T (0,0)))
include o
theorem and_choice {P:Program} {f:FuncId} {i:Nat} {vs:List Value} (hi:(cells.drop i).take 3=vs) (hl:i+3<=cells.length) {xa xq xd:Value} {K:Kn} (hk:FnS P f #[.agg vs.toArray,xa,xq,xd] H fun y h=>Yd (.bool true) y (.bool false) fun z=>K z h):
  Qc (.bool true) true (fun k1=>Qg (ptr q) i fun x=>k1 x H) H fun y1 h1=>Qc (.bool true) true (fun k2=>LdN h1 3 y1 fun x=>k2 x h1) h1 fun y2 h2=>Qc (.bool true) true (fun k3=>k3 xq h2) h2 fun y3 h3=>Qc (.bool true) true (fun k4=>k4 xd h3) h3 fun y4 h4=>
   Qc (.bool true) true (fun k5=>Qa P f #[y2,xa,y3,y4] h4 fun x h=>k5 x h) h4 fun y5 h5=>Yd (.bool true) y5 (.bool false) fun z=>K z h5:=by
 rw[QU,Qm]
 dsimp only
 rw[QU,YI (n:=3) (vs:=vs) (by rw[Q4 o.get 3 (by simpa using hl),Nat.add_zero];simpa using hi)]
 dsimp only
 rw[QU]
 dsimp only
 rw[QU]
 dsimp only
 rw[QU]
 exact hk
theorem no_choice {P:Program} {f:FuncId} {i:Nat} {xa xq xd:Value} {K:Kn} (hk:K (.bool false) H):
  Qc (.bool false) true (fun k1=>Qg (ptr q) i fun x=>k1 x H) H fun y1 h1=>Qc (.bool false) true (fun k2=>LdN h1 3 y1 fun x=>k2 x h1) h1 fun y2 h2=>Qc (.bool false) true (fun k3=>k3 xq h2) h2 fun y3 h3=>Qc (.bool false) true (fun k4=>k4 xd h3) h3 fun y4 h4=>
   Qc (.bool false) true (fun k5=>Qa P f #[y2,xa,y3,y4] h4 fun x h=>k5 x h) h4 fun y5 h5=>Yd (.bool false) y5 (.bool false) fun z=>K z h5:=by
 rw[Y8,Y8,Y8,Y8,Y8,YY]
 exact hk
end
def LensOk (d:Qbt) (tables:List GM):Prop:=(d.test4.length<=50/\d.strings.length<=50/\d.bools.length<=50/\d.strings2.length<=50/\d.abilities.length<=50/\d.test5.length<=50/\d.longs.length<=50/\d.doubles.length<=50/\d.refs.length<=50/\d.weak.length<=50/\d.strong.length<=50/\d.coOwnings.length<=50/\d.nonOwnings.length<=50)/\tables.length<=50
set_option maxHeartbeats 1000000 in
set_option maxRecDepth 8000 in
theorem cleanStep {d:Qbt} {pos:List ZO} {empty:List ZJ} {tables enemy test uniq amb:List GM} (hT:∀k∈tables,QeE k) (hE:∀k∈enemy,QeE k) (hU:∀k∈test,QeE k) (hQ:∀k∈uniq,QeE k) (hA:∀k∈amb,QeE k):QeE (.mk d pos empty tables enemy test uniq amb):=by
 intro G H cells q n deep R hG hv hq hn hn2 hd hd5 hR
 rw[QaX]at hv
 obtain ⟨c,rfl,g,wT,wE,wU,wQ,wA⟩:=hv
 apply w17
 unfold s17
 rw[Qy]
 have e:=Ext.refl hG
 have hne:H.size≠q:=fun h=>by have:=Y3 hq.get;omega
 have o:=Yj.zero (Yj.fresh e (.cells (Yk d c).toArray 38))
 have e:=e.push (.cells (Yk d c).toArray 38)
 have hq:=hq.push (.cells (Yk d c).toArray 38)
 have kx:KX G q H (H.push (.cells (Yk d c).toArray 38)):=KX.of_ext e
 have e1:=e.inn
 clear e
 simp only[Value.cells]
 generalize H.push (.cells (Yk d c).toArray 38)=H1 at *
 have hst:∀kp:Qe->Prop,StK H1 1 (.pointer (some ⟨q,0,none⟩)) (.int .i64 (n-1)) kp=kp (setB H1 q (left (n-1))):=fun kp=>Qas hq.get Nat.one_pos (by simp) rfl
 rw[Qs,Ql (v:=.int .i64 n) ((Qj hq.get).trans rfl),QZ,wrap_i64 (by omega) (by omega),Qs,hst]
 clear hst
 have kx:=kx.trans (KX.set e1 hq.out (left (n-1)))
 have o:=o.set_ne hne (left (n-1))
 have hq:=hq.set (left (n-1))
 clear e1
 have hG2:=kx.inn
 generalize setB H1 q (left (n-1))=H2 at *
 obtain ⟨iT,sT,vT⟩:=wT
 obtain ⟨iE,sE,vE⟩:=wE
 have lT:=Zh.len vT
 have lE:=Zh.len vE
 rw[Qs,Ql (v:=.int .i64 (n-1)) ((Qj hq.get).trans rfl),Yr]
 refine or_lss rfl ?_
 refine or_len o (i:=0) (v:=c.pos) rfl (fun k=>g.pos.len) ?_
 refine or_len o (i:=12) (v:=c.enemy) rfl (fun k=>sE.len) ?_
 refine or_len o (i:=14) (v:=c.empty) rfl (fun k=>g.empty.len) ?_
 refine Y9 (fun _=>hR H2 (n-1) false kx hq.get (fun h=>by cases h)) fun hb=>?_
 simp only[Bool.or_eq_false_iff,decide_eq_false_iff_not,List.length_map]at hb
 obtain ⟨⟨⟨⟨b1,b2⟩,b3⟩,b4⟩,b5⟩:=hb
 have b4:enemy.length<=1:=by omega
 have b3:pos.length<=1:=by omega
 have b5:empty.length<=1:=by omega
 have hF:∀h,Ext G H2 G h->R (.bool false) h:=fun h e=>hR h (n-1) false (kx.trans (KX.of_ext e)) (e.keep _ _ hq.get) (fun h=>by cases h)
 have e:=Ext.refl hG2
 refine Q0 (fun _ h=>Ext G H2 G h/\LensOk d tables) ?_ ?_
 ·refine QF o (i:=9) (v:=c.test4) rfl ?_
  rw[g.test4.len]
  refine QF o (i:=10) (v:=c.strings) rfl ?_
  rw[g.strings.len]
  refine QF o (i:=11) (v:=c.tables) rfl ?_
  rw[sT.len]
  refine QF o (i:=24) (v:=c.bools) rfl ?_
  rw[g.bools.len]
  refine QF o (i:=28) (v:=c.strings2) rfl ?_
  rw[g.strings2.len]
  refine QF o (i:=29) (v:=c.abil) rfl ?_
  rw[g.abil.len]
  refine QF o (i:=31) (v:=c.test5) rfl ?_
  rw[g.test5.len]
  refine QF o (i:=32) (v:=c.longs) rfl ?_
  rw[g.longs.len]
  refine QF o (i:=33) (v:=c.doubles) rfl ?_
  rw[g.doubles.len]
  refine QF o (i:=35) (v:=c.refs) rfl ?_
  rw[g.refs.len]
  refine QF o (i:=37) (v:=c.weak) rfl ?_
  rw[g.weak.len]
  refine QF o (i:=38) (v:=c.strong) rfl ?_
  rw[g.strong.len]
  refine QF o (i:=40) (v:=c.coOwnings) rfl ?_
  rw[g.coOwnings.len]
  refine QF o (i:=42) (v:=c.nonOwnings) rfl ?_
  rw[g.nonOwnings.len]
  unfold Q8
  simp only[fill14]
  refine lens_loop (ns:=[(d.test4.map Yw).length,(d.strings.map Qfd).length,iT.length,(d.bools.map QgW).length,(d.strings2.map Qfd).length,(d.abilities.map ZN).length,(d.test5.map Yw).length,(d.longs.map i64I).length,(d.doubles.map Qai).length,(d.refs.map Qai).length,(d.weak.map Qai).length,(d.strong.map Qai).length,(d.coOwnings.map Qai).length,(d.nonOwnings.map Qai).length]) Qh rfl (Nat.le_of_ble_eq_true rfl) (hF _ (e.push _)) ?_
  intro y hall
  refine ⟨e.push _,?_⟩
  simp only[List.mem_cons,List.not_mem_nil,or_false,forall_eq_or_imp,forall_eq,List.length_map,<-lT]at hall
  obtain ⟨h1,h2,h3,h4,h5,h6,h7,h8,h9,h10,h11,h12,h13,h14⟩:=hall
  exact ⟨⟨h1,h2,h4,h5,h6,h7,h8,h9,h10,h11,h12,h13,h14⟩,h3⟩
 rintro y1 h ⟨e,hlens⟩
 have o':=o.ext e
 refine QF o' (i:=3) (v:=Yf d.name) rfl ?_
 refine QF o' (i:=4) (v:=Yf d.inventory) rfl ?_
 refine QF o' (i:=13) (v:=Yf d.nested) rfl ?_
 refine QF o' (i:=30) (v:=Yf d.flex) rfl ?_
 refine QF o' (i:=49) (v:=Yf d.enums) rfl ?_
 refine QF o' (i:=10) (v:=c.strings) rfl ?_
 refine QF o' (i:=28) (v:=c.strings2) rfl ?_
 unfold Q8
 simp only[fill5]
 refine Qn (Qaf.push _ _).ext ?_
 have e5:=e.push (.cells [Yf d.name,Yf d.inventory,Yf d.nested,Yf d.flex,Yf d.enums].toArray 9)
 have o5:=Yj.fresh e (.cells [Yf d.name,Yf d.inventory,Yf d.nested,Yf d.flex,Yf d.enums].toArray 9)
 have hone:∀{l:List (List UInt8)},∀x∈l.map Qfd,∀y∈x,y.oneCell'=true:=fun x hx y hy=>by
  obtain ⟨s,_,rfl⟩:=List.mem_map.1 hx
  simp[Qfd]at hy
  rw[hy];rfl
 have hst:d.strings.length<=50:=hlens.1.2.1
 have hst2:d.strings2.length<=50:=hlens.1.2.2.2.1
 refine appN (items:=[d.name,d.inventory,d.nested,d.flex,d.enums].map Qfd) (es:=1) e5 (fun x hx=>by obtain ⟨s,_,rfl⟩:=List.mem_map.1 hx;rfl) o5 (Nat.le_refl 5) (Nat.le_refl 5) rfl (Nat.le_refl 5) (by simp) g.strings hone (by decide) (by simp only[List.length_map,List.length_cons,List.length_nil];omega) rfl ?_
 intro v6 H6 e6 c6 k6
 refine Qn (k6 rfl).ext ?_
 clear k6 o5 e5
 obtain ⟨c61,⟨_,c62⟩|⟨b,cc,cs,rfl,own,_,s1,s2,s3,s4,s5⟩⟩:=c6
 ·simp at c62
 refine appN (es:=1) e6 c61 own s1 s2 s3 s4 s5 g.strings2 hone (by decide) (by simp only[List.length_map,List.length_append,List.length_cons,List.length_nil];omega) rfl ?_
 intro v7 H7 e7 c7 _
 rw[<-List.map_append,<-List.map_append]at c7
 clear own s1 s2 s3 s4 s5 c61 e6
 have o7:=o.ext e7
 refine Q0 (fun vs h=>∃y,vs=[y]/\Ext G H2 G h/\Cur H2 G h 9 1 y ((([d.name,d.inventory,d.nested,d.flex,d.enums]++d.strings++d.strings2)++empty.map fun s=>s.id).map Qfd) (fun _=>False)) ?_ ?_
 ·refine QF o7 (i:=14) (v:=c.empty) rfl ?_
  refine emp_loop g.empty b5 e7 c7 (by simp only[List.length_append,List.length_cons,List.length_nil];omega) ?_
  exact fun y h e c=>⟨y,rfl,e,c⟩
 rintro y8 h8 ⟨y8',hy,e8,c8⟩
 cases hy
 obtain ⟨G8,e8',sl8,_,_⟩:=c8.done e8
 refine Q0 (fun _ h=>Ext G H2 G h/\∀s∈(([d.name,d.inventory,d.nested,d.flex,d.enums]++d.strings++d.strings2)++empty.map fun s=>s.id),s.length<=300) ?_ ?_
 ·refine txt_loop e8'.inn sl8 (by simp only[List.length_append,List.length_cons,List.length_nil,List.length_map];omega) (hF _ e8) ?_
  exact fun y hall=>⟨e8,hall⟩
 rintro y9 h9 ⟨e9,htx⟩
 clear c8 sl8 e8' e8 e7 c7 o7 e o'
 have o9:=o.ext e9
 refine Q0 (fun _ h=>Ext G H2 G h) ?_ ?_
 ·refine QF o9 (i:=0) (v:=c.pos) rfl ?_
  exact pos_loop e9.inn g.pos (by omega) (fun h e=>hF _ (e9.trans e)) (fun y h e=>e9.trans e)
 rintro y10 h10 e10
 have o10:=o.ext e10
 clear o9 e9
 have hdb:d.doubles.length<=50:=hlens.1.2.2.2.2.2.2.2.1
 refine Q0 (fun _ h=>Ext G H2 G h) ?_ ?_
 ·refine QF o10 (i:=33) (v:=c.doubles) rfl ?_
  exact dbl_loop e10.inn g.doubles (by omega) (hF _ e10) (fun y=>e10)
 rintro y11 h11 e11
 have o11:=o.ext e11
 clear o10 e10
 refine QF o11 (i:=25) (v:=Zz d.f) rfl ?_
 rw[Zz,QH]
 refine Qig (.inl rfl) fun b=>?_
 rw[Ym]
 refine or_flt o11 (.inl rfl) rfl (i:=26) (by rfl) fun b=>?_
 refine or_flt o11 (.inl rfl) rfl (i:=27) (by rfl) fun b=>?_
 refine Y9 (fun _=>hF _ e11) fun _=>?_
 have kx:=kx.trans (KX.of_ext e11)
 have hq:=hq.ext e11
 clear e11 hF o
 refine Q0 (fun _ h=>∃k,KX G q H h/\Yj #[] G h q (left k)/\Yj #[] G h H.size (.cells (Yk d c).toArray 38 (0,0))/\Zu tables/\Zu enemy/\(cntL tables:Int)+cntL enemy+k<=n-1/\0<=k) ?_ ?_
 ·refine QF o11 (i:=11) (v:=c.tables) rfl ?_
  refine QF o11 (i:=12) (v:=c.enemy) rfl ?_
  simp only[fill2 sT.one sE.one]
  have eb:=(Ext.refl kx.inn).push (.cells [c.tables,c.enemy].toArray 24)
  have ob:=Yj.zero (Yj.fresh (Ext.refl kx.inn) (.cells [c.tables,c.enemy].toArray 24))
  have hbq:h11.size≠q:=fun h=>by have:=Y3 hq.get;omega
  have kx:=kx.trans (KX.of_ext eb)
  have hq:=hq.ext eb
  have o12:=o11.ext eb
  rw[QbK]
  generalize h11.push (.cells [c.tables,c.enemy].toArray 24)=H12 at *
  refine ⟨fun m vs h=>∃i k y,vs=[.int .i64 (i:Nat),y]/\i+m=2/\KX G q H h/\Yj #[] G h q (left k)/\Yj #[] G h H.size (.cells (Yk d c).toArray 38 (0,0))/\Yj #[] G h h11.size (.cells [c.tables,c.enemy].toArray 24 (0,0))/\(0<i->Zu tables)/\(1<i->Zu enemy)/\((if 0<i then cntL tables else 0:Nat):Int)+((if 1<i then cntL enemy else 0:Nat):Int)+k<=n-1/\0<=k,⟨2,0,n-1,_,rfl,rfl,kx,hq,o12,ob,by omega,by omega,by simp,by omega⟩,?_⟩
  clear kx hq o12 ob eb
  rintro m x y h ⟨i,k,y',hx,him,kx,hq,o12,ob,ct,ce,hc,hk0⟩
  cases hx
  rw[Yr]
  by_cases hlt:i<2
  ·rw[Yb (by omega)]
   have hbad:∀h' k',KX G q h h'->h'[q]?=some (left k')->R (.bool false) h':=fun h' k' kx' hq'=>hR h' k' false (kx.trans kx') hq' (fun h=>by cases h)
   refine Q0 (fun vs h=>∃v y k,vs=[v,y]/\KX G q H h/\Yj #[] G h q (left k)/\Yj #[] G h H.size (.cells (Yk d c).toArray 38 (0,0))/\Yj #[] G h h11.size (.cells [c.tables,c.enemy].toArray 24 (0,0))/\(0<i+1->Zu tables)/\(1<i+1->Zu enemy)/\((if 0<i+1 then cntL tables else 0:Nat):Int)+((if 1<i+1 then cntL enemy else 0:Nat):Int)+k<=n-1/\0<=k) ?_ ?_
   ·rw[QR (by omega) (by omega)]
    obtain rfl|rfl:i=0\/i=1:=by omega
    ·rw[Ql (v:=c.tables) ((Qj ob.get).trans rfl)]
     simp only[if_neg (Nat.lt_irrefl 0),if_neg (show ¬1<0 by decide)]at hc
     refine cl_loop (Hs:=h) ⟨iT,sT,vT⟩ hT hlens.2 (by omega) hd5 (KX.of_ext (Ext.refl kx.inn)) hq hk0 (by omega) hbad ?_
     intro y h' k' kx' hq' cl cn k0
     refine ⟨_,_,k',rfl,kx.trans kx',hq',Yj.kx o12 hne kx',Yj.kx ob hbq kx',fun _=>cl,fun h=>absurd h (by decide),?_,k0⟩
     simp only[if_pos (show 0<0+1 by decide),if_neg (show ¬1<0+1 by decide)]
     omega
    ·rw[Ql (v:=c.enemy) ((Qj ob.get).trans rfl)]
     simp only[if_pos (show 0<1 by decide),if_neg (show ¬1<1 by decide)]at hc
     refine cl_loop (Hs:=h) ⟨iE,sE,vE⟩ hE (by omega) (by omega) hd5 (KX.of_ext (Ext.refl kx.inn)) hq hk0 (by omega) hbad ?_
     intro y h' k' kx' hq' cl cn k0
     refine ⟨_,_,k',rfl,kx.trans kx',hq',Yj.kx o12 hne kx',Yj.kx ob hbq kx',fun _=>ct (by decide),fun _=>cl,?_,k0⟩
     simp only[if_pos (show 0<1+1 by decide),if_pos (show 1<1+1 by decide)]
     omega
   ·rintro v y h' ⟨v',y',k',hvs,kx',hq',o12',ob',ct',ce',hc',hk0'⟩
    rw[QA,wrap_i64 (by omega) (by omega)]
    exact ⟨m-1,by omega,i+1,k',y,by simp,by omega,kx',hq',o12',ob',ct',ce',hc',hk0'⟩
  ·rw[QM (by omega)]
   have:i=2:=by omega
   subst this
   simp only[if_pos (show 0<2 by decide),if_pos (show 1<2 by decide)]at hc
   exact ⟨k,kx,hq,o12,ct (by decide),ce (by decide),hc,hk0⟩
 clear kx hq o11
 rintro y12 h12 ⟨k,kx,hq,o12,ct,ce,hc,hk0⟩
 refine ldn_ok o12 (i:=6) (n:=3) (vs:=[u8n d.testTy,c.test,u8n d.testColor]) rfl (by rw[YP];decide) ?_
 refine choice_ok kx.inn wU hU hq hk0 (by omega) (by omega) hd5 ?_
 intro h13 k13 b kx13 hq13 hb
 have kx:=kx.trans kx13
 have o13:=Yj.kx o12 hne kx13
 have hF:∀h k,KX G q H h->h[q]?=some (left k)->R (.bool false) h:=fun h' k' kx' hq'=>hR h' k' false kx' hq' (fun h=>by cases h)
 cases b
 ·exact no_choice o13 (no_choice o13 (hF _ _ kx hq13))
 obtain ⟨gU,cU,lU,nU,kU⟩:=hb rfl
 refine and_choice o13 (i:=43) (vs:=[u8n d.uniqTy,c.uniq,u8n d.uniqColor]) rfl (by rw[YP];decide) ?_
 refine choice_ok kx.inn wQ hQ ⟨hq13,hq.out,Nat.zero_le _⟩ kU (by omega) (by omega) hd5 ?_
 intro h14 k14 b kx14 hq14 hb
 rw[Ye]
 have kx:=kx.trans kx14
 have o14:=Yj.kx o13 hne kx14
 cases b
 ·exact no_choice o14 (hF _ _ kx hq14)
 obtain ⟨gQ,cQ,lQ,nQ,kQ⟩:=hb rfl
 refine and_choice o14 (i:=46) (vs:=[u8n d.ambTy,c.amb,u8n d.ambColor]) rfl (by rw[YP];decide) ?_
 refine choice_ok kx.inn wA hA ⟨hq14,hq.out,Nat.zero_le _⟩ kQ (by omega) (by omega) hd5 ?_
 intro h15 k15 b kx15 hq15 hb
 rw[Ye]
 have kx:=kx.trans kx15
 cases b
 ·exact hF _ _ kx hq15
 obtain ⟨gA,cA,lA,nA,kA⟩:=hb rfl
 refine hR h15 k15 true kx hq15 fun _=>⟨?_,?_,kA⟩
 ·rw[Qge]
  refine ⟨⟨b3,b5,hlens.1,?_,fun s hs=>htx s (by simp[hs]),fun s hs=>htx s (by simp[hs]),fun s hs=>htx s.id ?_⟩,⟨hlens.2,b4⟩,⟨gU,gQ,gA⟩,⟨fun h=>cU (.inr h),fun h=>cQ (.inr h),cA (.inl rfl)⟩,ct,ce,lU,lQ,lA⟩
  ·exact ⟨htx _ (by simp),htx _ (by simp),htx _ (by simp),htx _ (by simp),htx _ (by simp)⟩
  ·exact List.mem_append_right _ (List.mem_map.2 ⟨s,hs,rfl⟩)
 ·rw[cntM];omega
mutual
theorem Clean_all:∀g:GM,QeE g
 |.mk d pos empty tables enemy test uniq amb=>cleanStep (QdP tables) (QdP enemy) (QdP test) (QdP uniq) (QdP amb)
theorem QdP:∀gs:List GM,∀k∈gs,QeE k
 |[],k,h=>by simp at h
 |g::gs,k,h=>by
  rcases List.mem_cons.1 h with h|h
  ·rw[h];exact Clean_all g
  ·exact QdP gs k h
end
theorem monsterClean_ok {G:Cut} {H:Qe} (hG:G.In H) {g:GM} {cells:List Value} (hv:QaX G g cells) {R:Kn} (hR:∀(b:Bool) H',Ext G H G H'->(b=true->Qge g/\cntM g<=20)->R (.bool b) H'):FnS prog 5 #[.agg cells.toArray] H R:=by
 apply w5
 unfold s5
 rw[Qy,Qy]
 have e:=Ext.refl hG
 have o:Yj H G (H.push (.cells (Value.agg cells.toArray).cells 38)) H.size (.cells cells.toArray 38 (0,0)):=Yj.fresh e _
 have e:=e.push (.cells (Value.agg cells.toArray).cells 38)
 generalize H.push (.cells (Value.agg cells.toArray).cells 38)=H1 at *
 have o2:Yj H G (H1.push (.cells z3 3)) H1.size (left 0):=Yj.fresh e _
 have o0:=o
 have o:=o.push (.cells z3 3)
 have hs:H.size<=H1.size:=e.keep.size
 have hne:H.size≠H1.size:=fun h=>by have:=Y3 o0.get;omega
 have e:=e.push (.cells z3 3)
 generalize H1.push (.cells z3 3)=H2 at *
 have hst:∀kp:Qe->Prop,StK H2 1 (.pointer (some ⟨H1.size,0,none⟩)) (.int .i64 20) kp=kp (setB H2 H1.size (left 20)):=fun kp=>Qas o2.get Nat.one_pos (by simp) rfl
 rw[hst]
 clear hst
 have e:=e.set o2.out o2.new (left 20)
 have o:=o.set_ne hne (left 20)
 have o2:=o2.set (left 20)
 generalize setB H2 H1.size (left 20)=H3 at *
 rw[YI (n:=51) (vs:=cells) (by rw[Q4 o.get 51 (by simp[hv.len])];simp[<-hv.len])]
 refine Clean_all g G H3 cells H1.size 20 5 _ e.inn hv (Yj.zero o2) (by decide) (by decide) (by decide) (by decide) ?_
 intro H4 k b kx hq hb
 refine hR b H4 ⟨fun b o hbo=>?_,kx.inn,e.le,fun _ _=>rfl⟩ fun h=>?_
 ·exact kx.keep b o (fun h=>by have:=Y3 hbo;omega) (e.keep b o hbo)
 ·obtain ⟨h1,h2,h3⟩:=hb h
  exact ⟨h1,by omega⟩
end Go.Proofs
namespace Go.Proofs
open Go Go.Vc
open Tryz (prog)
theorem read_single (x:Nat) (hx:x<4294967296):
  (x%2147483648<8388608/\Ieee.single.read x= .number (x/2147483648%2==1) (x%2147483648) (-149))\/
  (8388608<=x%2147483648/\x%2147483648<2139095040/\Ieee.single.read x= .number (x/2147483648%2==1) (8388608+x%2147483648%8388608) (-149+((x%2147483648/8388608-1:Nat):Int)))\/
  (x%2147483648=2139095040/\Ieee.single.read x= .infinity (x/2147483648%2==1))\/Ieee.single.read x= .nan (x/2147483648%2==1) (x%2147483648-2139095040):=by
 have hs:Ieee.single.signWeight=2147483648:=by decide
 have hb:Ieee.single.binade=8388608:=by decide
 have hi:Ieee.single.infRung=2139095040:=by decide
 have hl:Ieee.single.leastPlace=-149:=by decide
 unfold Ieee.Format.read
 rw[hs,hb,hi,hl]
 by_cases h1:x%2147483648<8388608
 ·simp[h1]
 ·by_cases h2:x%2147483648<2139095040
  ·right;left
   exact ⟨by omega,h2,by simp only[if_neg h1,if_pos h2]⟩
  ·by_cases h3:x%2147483648=2139095040
   ·right;right;left
    exact ⟨h3,by simp only[if_neg h1,if_neg h2,if_pos h3]⟩
   ·right;right;right
    simp only[if_neg h1,if_neg h2,if_neg h3]
theorem cmp_int {a b:Int} (h:some (compare a b)=some Ordering.eq):a=b:=by
 have h:compare a b= .eq:=by simpa using h
 exact Std.LawfulEqCmp.eq_of_compare h
theorem pow_two_le {k:Nat} (h:0<k):∃t,0<t/\2^k=2*t:=by
 obtain ⟨j,rfl⟩:∃j,k=j+1:=⟨k-1,by omega⟩
 exact ⟨2^j,Nat.pos_of_ne_zero (by simp),by rw[Nat.pow_succ,Nat.mul_comm]⟩
theorem order_norm {x M E:Nat} (hx:x<4294967296) (hM:8388608<=M) (hM2:M<16777216) (h:(Ieee.single.read x).order (.number false M (-149+(E:Int)))=some .eq):x=(E+1)*8388608+(M-8388608):=by
 rcases read_single x hx with ⟨h1,h2⟩|⟨h1,h2,h3⟩|⟨h1,h2⟩|h1
 ·rw[h2]at h
  have h:=cmp_int h
  have e1:((-149:Int)-min (-149) (-149+(E:Int))).toNat=0:=by omega
  have e2:((-149+(E:Int))-min (-149) (-149+(E:Int))).toNat=E:=by omega
  rw[e1,e2]at h
  simp only[Ieee.signed,Nat.shiftLeft_eq,Nat.pow_zero,Nat.mul_one,Bool.false_eq_true,if_false]at h
  have hE:0<2^E:=Nat.pos_of_ne_zero (by simp)
  have hm:M<=M*2^E:=Nat.le_mul_of_pos_right _ hE
  generalize M*2^E=Z at *
  split at h<;>omega
 ·rw[h3]at h
  have h:=cmp_int h
  generalize hE':x%2147483648/8388608-1=E' at *
  generalize hM':x%2147483648%8388608=M' at *
  have hM'2:M'<8388608:=by omega
  rcases Nat.lt_trichotomy E' E with hlt|heq|hgt
  ·have e1:((-149+(E':Int))-min (-149+(E':Int)) (-149+(E:Int))).toNat=0:=by omega
   have e2:((-149+(E:Int))-min (-149+(E':Int)) (-149+(E:Int))).toNat=E-E':=by omega
   rw[e1,e2]at h
   obtain ⟨t,ht,hp⟩:=pow_two_le (k:=E-E') (by omega)
   simp only[Ieee.signed,Nat.shiftLeft_eq,Nat.pow_zero,Nat.mul_one,Bool.false_eq_true,if_false,hp]at h
   have hm:M*(2*1)<=M*(2*t):=Nat.mul_le_mul_left _ (by omega)
   generalize M*(2*t)=Z at *
   split at h<;>omega
  ·subst heq
   have e1:((-149+(E':Int))-min (-149+(E':Int)) (-149+(E':Int))).toNat=0:=by omega
   rw[e1]at h
   simp only[Ieee.signed,Nat.shiftLeft_eq,Nat.pow_zero,Nat.mul_one,Bool.false_eq_true,if_false]at h
   split at h
   ·omega
   ·rename_i hs
    have:x/2147483648%2≠1:=by simpa using hs
    omega
  ·have e1:((-149+(E':Int))-min (-149+(E':Int)) (-149+(E:Int))).toNat=E'-E:=by omega
   have e2:((-149+(E:Int))-min (-149+(E':Int)) (-149+(E:Int))).toNat=0:=by omega
   rw[e1,e2]at h
   obtain ⟨t,ht,hp⟩:=pow_two_le (k:=E'-E) (by omega)
   simp only[Ieee.signed,Nat.shiftLeft_eq,Nat.pow_zero,Nat.mul_one,Bool.false_eq_true,if_false,hp]at h
   have hm:(8388608+M')*(2*1)<=(8388608+M')*(2*t):=Nat.mul_le_mul_left _ (by omega)
   generalize (8388608+M')*(2*t)=Z at *
   split at h<;>omega
 ·rw[h2]at h
  simp only[Ieee.Datum.order]at h
  split at h<;>cases h
 ·rw[h1]at h
  cases h
theorem order_zero {x:Nat} (hx:x<4294967296) (h:(Ieee.single.read x).order (.number false 0 (-149))=some .eq):x=0\/x=2147483648:=by
 rcases read_single x hx with ⟨h1,h2⟩|⟨h1,h2,h3⟩|⟨h1,h2⟩|h1
 ·rw[h2]at h
  have h:=cmp_int h
  simp only[Ieee.signed,Nat.shiftLeft_eq,Nat.pow_zero,Nat.mul_one,Nat.zero_mul,Bool.false_eq_true,if_false]at h
  have e1:((-149:Int)-min (-149) (-149)).toNat=0:=by omega
  rw[e1]at h
  split at h<;>omega
 ·rw[h3]at h
  have h:=cmp_int h
  generalize hE':x%2147483648/8388608-1=E' at *
  simp only[Ieee.signed,Nat.shiftLeft_eq,Nat.pow_zero,Nat.mul_one,Nat.zero_mul,Bool.false_eq_true,if_false]at h
  generalize hk:((-149+(E':Int))-min (-149+(E':Int)) (-149)).toNat=k at *
  have hE:0<2^k:=Nat.pos_of_ne_zero (by simp)
  have hm:8388608+x%2147483648%8388608<=(8388608+x%2147483648%8388608)*2^k:=Nat.le_mul_of_pos_right _ hE
  generalize (8388608+x%2147483648%8388608)*2^k=Z at *
  split at h<;>omega
 ·rw[h2]at h
  simp only[Ieee.Datum.order]at h
  split at h<;>cases h
 ·rw[h1]at h
  cases h
theorem flU_1 (x:UInt32):flU x 1078530000=x:=by
 unfold flU
 split
 ·rename_i h
  have hr:Ieee.single.read (1078530000:UInt32).toNat= .number false 13176784 (-149+((127:Nat):Int)):=by decide
  have h:(Ieee.single.read x.toNat).order (Ieee.single.read (1078530000:UInt32).toNat)=some .eq:=h
  rw[hr]at h
  have:=order_norm x.toNat_lt (by decide) (by decide) h
  exact UInt32.toNat_inj.1 (by rw[this];decide)
 ·rfl
theorem flU_2 (x:UInt32):flU x 1077936128=x:=by
 unfold flU
 split
 ·rename_i h
  have hr:Ieee.single.read (1077936128:UInt32).toNat= .number false 12582912 (-149+((127:Nat):Int)):=by decide
  have h:(Ieee.single.read x.toNat).order (Ieee.single.read (1077936128:UInt32).toNat)=some .eq:=h
  rw[hr]at h
  have:=order_norm x.toNat_lt (by decide) (by decide) h
  exact UInt32.toNat_inj.1 (by rw[this];decide)
 ·rfl
theorem flU_3 (x:UInt32):flU x 0=negZ x:=by
 unfold flU negZ
 have hr:Ieee.single.read (0:UInt32).toNat= .number false 0 (-149):=by decide
 split
 ·rename_i h
  have h:(Ieee.single.read x.toNat).order (Ieee.single.read (0:UInt32).toNat)=some .eq:=h
  rw[hr]at h
  rcases order_zero x.toNat_lt h with h|h
  ·have:x=0:=UInt32.toNat_inj.1 (by rw[h];rfl)
   rw[this];rfl
  ·have:x=2147483648:=UInt32.toNat_inj.1 (by rw[h];rfl)
   rw[this];rfl
 ·rename_i h
  rw[if_neg]
  intro hx
  subst hx
  exact h (by decide)
mutual
theorem Qge.small:∀{g:GM},Qge g->Qck g
 |.mk d pos empty tables enemy test uniq amb,h=>by
  rw[Qge]at h
  obtain ⟨h1,⟨h2,h3⟩,⟨h4,h5,h6⟩,_,c1,c2,c3,c4,c5⟩:=h
  rw[Qck]
  exact ⟨h1,h2,h3,h4,h5,h6,Zu.small c1,Zu.small c2,Zu.small c3,Zu.small c4,Zu.small c5⟩
theorem Zu.small:∀{gs:List GM},Zu gs->Zx gs
 |[],_=>by rw[Zx];trivial
 |g::gs,h=>by
  rw[Zu]at h
  rw[Zx]
  exact ⟨Qge.small h.1,Zu.small h.2⟩
end
theorem GUn.le {amb:Bool} {ty:UInt8} {n:Nat} (h:GUn amb ty n):n<=1:=by
 rcases h with ⟨_,h⟩|⟨_,⟨_,_,h⟩|⟨_,h⟩⟩<;>omega
mutual
theorem Qck.len:∀{g:GM},Qck g->LenM g
 |.mk d pos empty tables enemy test uniq amb,h=>by
  rw[Qck]at h
  obtain ⟨h1,h2,h3,h4,h5,h6,c1,c2,c3,c4,c5⟩:=h
  obtain ⟨a1,a2,a3,a4,a5,a6,a7,a8,a9,a10,a11,a12,a13⟩:=h1.lists
  have p1:=h1.npos
  have p2:=h1.nempty
  have u1:=h4.le
  have u2:=h5.le
  have u3:=h6.le
  rw[LenM]
  exact ⟨⟨by omega,by omega,a1,a5,a6,h2,by omega,by omega,by omega,by omega⟩,⟨a2,a3,a4,a7,a8,a9,a10,a11,a12,a13⟩,Zx.len c1,Zx.len c2,Zx.len c3,Zx.len c4,Zx.len c5⟩
theorem Zx.len:∀{gs:List GM},Zx gs->Qii gs
 |[],_=>by rw[Qii];trivial
 |g::gs,h=>by
  rw[Zx]at h
  rw[Qii]
  exact ⟨Qck.len h.1,Zx.len h.2⟩
end
theorem QgM (gs:List GM):(QbT gs).length=gs.length:=by rw[QgD,List.length_map]
mutual
theorem read0_LenM:∀{g:GM},LenM g->LenM (QhX g)
 |.mk d pos empty tables enemy test uniq amb,h=>by
  rw[LenM]at h
  obtain ⟨h1,h2,c1,c2,c3,c4,c5⟩:=h
  rw[QhX,LenM]
  simp only[QgM]
  exact ⟨h1,h2,QdR c1,QdR c2,QdR c3,QdR c4,QdR c5⟩
theorem QdR:∀{gs:List GM},Qii gs->Qii (QbT gs)
 |[],_=>by rw[QbT,Qii];trivial
 |g::gs,h=>by
  rw[Qii]at h
  rw[QbT,Qii]
  exact ⟨read0_LenM h.1,QdR h.2⟩
end
mutual
def NormM:GM->Prop
 |.mk d pos empty tables enemy test uniq amb=>(d.pos=pos.head?/\d.empty=empty.head?)/\Qio tables/\Qio enemy/\Qio test/\Qio uniq/\Qio amb
def Qio:List GM->Prop
 |[]=>True
 |g::gs=>NormM g/\Qio gs
end
theorem head_toList {α:Type} {l:List α} (h:l.length<=1):l.head?.toList=l:=by
 match l,h with
 |[],_=>rfl
 |[a],_=>rfl
theorem rd1_le:∀{ms:List Mon},ms.length<=1->rd1 ms=rdMs ms
 |[],_=>by rw[rd1,rdMs]
 |[m],_=>by rw[rd1,rdMs,rdMs]
theorem QhT (gs:List GM):(Qc0 gs).length=gs.length:=by rw[toMs_map,List.length_map]
theorem colR_clean {ty color:UInt8} (h:ty≠2->color=0):Qh4 false ty color=color:=by
 unfold Qh4
 split
 ·rfl
 ·rename_i h'
  exact (h fun e=>h' ⟨rfl,e⟩).symm
theorem rdU_clean {amb:Bool} {ty:UInt8} {gs:List GM} (h:GUn amb ty gs.length):rdU amb ty gs=gs:=by
 unfold rdU
 split
 ·rename_i h'
  rcases h with ⟨_,h⟩|⟨h0,⟨_,_,h⟩|⟨h1,h⟩⟩
  ·exact (List.eq_nil_of_length_eq_zero h).symm
  ·exact (List.eq_nil_of_length_eq_zero h).symm
  ·exfalso
   rcases h' with h'|⟨h2,h3⟩
   ·exact h0 h'
   ·rcases h1 with h1|⟨h1,_⟩
    ·rw[h3]at h1;cases h1
    ·rw[h1]at h2;cases h2
 ·rfl
mutual
theorem rd_clean:∀{g:GM},Qge g->NormM g->rdM (toM g)=QhX g
 |.mk d pos empty tables enemy test uniq amb,h,hn=>by
  rw[Qge]at h
  obtain ⟨h1,⟨h2,h3⟩,⟨h4,h5,h6⟩,⟨k1,k2,k3⟩,c1,c2,c3,c4,c5⟩:=h
  rw[NormM]at hn
  obtain ⟨⟨n1,n2⟩,m1,m2,m3,m4,m5⟩:=hn
  rw[toM,rdM,QhX,rd1_le (by rw[QhT];exact h3),rd1_le (by rw[QhT];exact h4.le),rd1_le (by rw[QhT];exact h5.le),rd1_le (by rw[QhT];exact h6.le),
   QeR c1 m1,QeR c2 m2,QeR c3 m3,QeR c4 m4,QeR c5 m5,rdU_clean (by rw[QgM];exact h4),rdU_clean (by rw[QgM];exact h5),rdU_clean (by rw[QgM];exact h6)]
  simp only[head_toList h1.npos,head_toList h1.nempty]
  congr 1
  unfold rdD
  simp only[flU_1,flU_2,flU_3,colR_clean k1,colR_clean k2,<-n1,<-n2]
  have:Qh4 true d.ambTy d.ambColor=d.ambColor:=by
   unfold Qh4
   rw[if_neg (by simp),k3]
  rw[this]
theorem QeR:∀{gs:List GM},Zu gs->Qio gs->rdMs (Qc0 gs)=QbT gs
 |[],_,_=>by rw[Qc0,rdMs,QbT]
 |g::gs,h,hn=>by
  rw[Zu]at h
  rw[Qio]at hn
  rw[Qc0,rdMs,QbT,rd_clean h.1 hn.1,QeR h.2 hn.2]
end
theorem sum_le {l:List (List UInt8)} (h:∀s∈l,s.length<=300):(l.map List.length).sum<=300*l.length:=by
 induction l with
 |nil=>simp
 |cons a l ih=>
  have:=ih (fun s hs=>h s (List.mem_cons_of_mem _ hs))
  have:=h a List.mem_cons_self
  simp only[List.map_cons,List.sum_cons,List.length_cons]
  omega
mutual
theorem cost_le:∀{g:GM},Qck g->Qg9 (toM g)<=90000*cntM g
 |.mk d pos empty tables enemy test uniq amb,h=>by
  rw[Qck]at h
  obtain ⟨h1,h2,h3,h4,h5,h6,c1,c2,c3,c4,c5⟩:=h
  obtain ⟨a1,a2,a3,a4,a5,a6,a7,a8,a9,a10,a11,a12,a13⟩:=h1.lists
  obtain ⟨b1,b2,b3,b4,b5⟩:=h1.texts
  have s1:=sum_le h1.strings
  have s2:=sum_le h1.strings2
  have s3:statLen empty.head?<=300:=by
   cases empty with
   |nil=>exact Nat.zero_le _
   |cons a l=>exact h1.stat a List.mem_cons_self
  have d1:costD {d with pos:=pos.head?,empty:=empty.head?}<=80000:=by
   unfold costD
   simp only
   omega
  have e1:=QgH c1
  have e2:=QgH c2
  have e3:=QgH c3
  have e4:=QgH c4
  have e5:=QgH c5
  rw[toM,Qg9,cntM,QhT]
  clear s1 s2 s3 a1 a2 a3 a4 a5 a6 a7 a8 a9 a10 a11 a12 a13 b1 b2 b3 b4 b5
  omega
theorem QgH:∀{gs:List GM},Zx gs->Qb9 (Qc0 gs)<=90000*cntL gs
 |[],_=>by rw[Qc0,Qb9,cntL];omega
 |g::gs,h=>by
  rw[Zx]at h
  have e1:=cost_le h.1
  have e2:=QgH h.2
  rw[Qc0,Qb9,cntL]
  omega
end
end Go.Proofs
namespace Go.Proofs
open Go Go.Vc
open Tryz (prog)
theorem In.keep {G:Cut} {H H':Qe} (h:G.In H) (k:Qaf H H'):G.In H':=fun b o hb=>k b o (h b o hb)
def orcD:Qbt:={pos:=none,mana:=150,hp:=80,name:=[111,114,99],inventory:=[],color:=0,testTy:=0,testColor:=0,test4:=[],strings:=[],nested:=[],empty:=none,bool:=false,s32:=0,u32:=0,s64:=0,u64:=0,s32a:=0,u32a:=0,s64a:=0,u64a:=0,bools:=[],f:=0,f2:=0,f3:=0,strings2:=[],abilities:=[],flex:=[],test5:=[],longs:=[],doubles:=[],parent:=false,refs:=[],singleWeak:=0,weak:=[],strong:=[],coOwning:=0,coOwnings:=[],nonOwning:=0,nonOwnings:=[],uniqTy:=0,uniqColor:=0,ambTy:=0,ambColor:=0,enums:=[],signedEnum:=0}
def nilGV:GV:=⟨.slice none 0 0,.slice none 0 0,.slice none 0 0,.slice none 0 0,.slice none 0 0,.slice none 0 0,.slice none 0 0,.slice none 0 0,.slice none 0 0,.slice none 0 0,.slice none 0 0,.slice none 0 0,.slice none 0 0,.slice none 0 0,.slice none 0 0,.slice none 0 0,.slice none 0 0,.slice none 0 0,.slice none 0 0,.slice none 0 0⟩
def orc:GM:=.mk orcD [] [] [] [] [] [] []
theorem fill_orc:YJ z55.toList [(3,1,(.string ⟨#[111,114,99]⟩)),(2,1,(.int .i16 80)),(1,1,(.int .i16 150))]=some (Yk orcD nilGV):=by kernel_rfl
theorem orc_val (G:Cut):QaX G orc (Yk orcD nilGV):=by
 have n:∀es,SlV G es (.slice none 0 0) []:=SlV.nil G
 unfold orc
 rw[QaX]
 exact ⟨nilGV,rfl,⟨n _,n _,n _,n _,n _,n _,n _,n _,n _,n _,n _,n _,n _,n _,n _⟩,⟨[],n _,by rw[Zh];trivial⟩,⟨[],n _,by rw[Zh];trivial⟩,⟨[],n _,by rw[Zh];trivial⟩,⟨[],n _,by rw[Zh];trivial⟩,⟨[],n _,by rw[Zh];trivial⟩⟩
theorem orc_small:Qck orc:=by
 unfold orc
 rw[Qck]
 refine ⟨⟨by decide,by decide,by decide,by decide,by decide,by decide,by simp⟩,by decide,by decide,Or.inl ⟨rfl,rfl⟩,Or.inl ⟨rfl,rfl⟩,Or.inl ⟨rfl,rfl⟩,?_⟩
 simp only[Zx,and_self]
theorem orc_cnt:cntM orc<=20:=by
 unfold orc
 simp[cntM,cntL]
end Go.Proofs
namespace Go.Proofs
open Go Go.Vc
open Tryz (prog)
theorem wf_u8 {n:Int} (h:(Lit.int .u8 n).wf=true):∃x:UInt8,Value.int .u8 n=u8n x:=by
 simp[Lit.wf,IntKind.min,IntKind.max,IntKind.bits,IntKind.signed]at h
 refine ⟨UInt8.ofNat n.toNat,?_⟩
 simp only[u8n,UInt8.toNat_ofNat']
 congr 1;omega
theorem wf_u16 {n:Int} (h:(Lit.int .u16 n).wf=true):∃x:UInt16,Value.int .u16 n=u16V x:=by
 simp[Lit.wf,IntKind.min,IntKind.max,IntKind.bits,IntKind.signed]at h
 refine ⟨UInt16.ofNat n.toNat,?_⟩
 simp only[u16V,UInt16.toNat_ofNat']
 congr 1;omega
theorem wf_u32 {n:Int} (h:(Lit.int .u32 n).wf=true):∃x:UInt32,Value.int .u32 n=Zz x:=by
 simp[Lit.wf,IntKind.min,IntKind.max,IntKind.bits,IntKind.signed]at h
 refine ⟨UInt32.ofNat n.toNat,?_⟩
 simp only[Zz,UInt32.toNat_ofNat']
 congr 1;omega
theorem wf_u64 {n:Int} (h:(Lit.int .u64 n).wf=true):∃x:UInt64,Value.int .u64 n=Ya x:=by
 simp[Lit.wf,IntKind.min,IntKind.max,IntKind.bits,IntKind.signed]at h
 refine ⟨UInt64.ofNat n.toNat,?_⟩
 simp only[Ya,UInt64.toNat_ofNat']
 congr 1;omega
theorem wf_i8 {n:Int} (h:(Lit.int .i8 n).wf=true):∃x:UInt8,Value.int .i8 n=i8V x:=by
 simp[Lit.wf,IntKind.min,IntKind.max,IntKind.bits,IntKind.signed]at h
 refine ⟨UInt8.ofNat (n%256).toNat,?_⟩
 simp only[i8V,UInt8.toNat_ofNat',IntKind.wrap,IntKind.bits,IntKind.signed]
 congr 1;simp;omega
theorem wf_i16 {n:Int} (h:(Lit.int .i16 n).wf=true):∃x:UInt16,Value.int .i16 n=Qbc x:=by
 simp[Lit.wf,IntKind.min,IntKind.max,IntKind.bits,IntKind.signed]at h
 refine ⟨UInt16.ofNat (n%65536).toNat,?_⟩
 simp only[Qbc,UInt16.toNat_ofNat',IntKind.wrap,IntKind.bits,IntKind.signed]
 congr 1;simp;omega
theorem wf_i32 {n:Int} (h:(Lit.int .i32 n).wf=true):∃x:UInt32,Value.int .i32 n=Qfl x:=by
 simp[Lit.wf,IntKind.min,IntKind.max,IntKind.bits,IntKind.signed]at h
 refine ⟨UInt32.ofNat (n%4294967296).toNat,?_⟩
 simp only[Qfl,UInt32.toNat_ofNat',IntKind.wrap,IntKind.bits,IntKind.signed]
 congr 1;simp;omega
theorem wf_i64 {n:Int} (h:(Lit.int .i64 n).wf=true):∃x:UInt64,Value.int .i64 n=Qdw x:=by
 simp[Lit.wf,IntKind.min,IntKind.max,IntKind.bits,IntKind.signed]at h
 refine ⟨UInt64.ofNat (n%18446744073709551616).toNat,?_⟩
 simp only[Qdw,UInt64.toNat_ofNat',IntKind.wrap,IntKind.bits,IntKind.signed]
 congr 1;simp;omega
theorem Qia {α β:Type} {f:α->β}:∀{items:List β},(∀it∈items,∃a,it=f a)->∃l:List α,items=l.map f
 |[],_=>⟨[],rfl⟩
 |x::xs,h=>by
  obtain ⟨a,ha⟩:=h x List.mem_cons_self
  obtain ⟨l,hl⟩:=Qia (items:=xs) (fun it hi=>h it (List.mem_cons_of_mem _ hi))
  exact ⟨a::l,by rw[ha,hl];rfl⟩
theorem QQ {cs:List Value} {i:Nat} {v:Value} (h:(cs.drop i).take 1=[v]):cs[i]?=some v:=by
 have:((cs.drop i).take 1)[0]?=some v:=by rw[h];rfl
 rw[List.getElem?_take_of_lt (by decide),List.getElem?_drop]at this
 simpa using this
theorem Qfu {cs ds:List Value} {i n j:Nat} (h:(cs.drop i).take n=ds) (hj:j<n):cs[i+j]?=ds[j]?:=by
 rw[<-h,List.getElem?_take_of_lt hj,List.getElem?_drop]
def Cut.of (H:Qe):Cut:=fun b=>H[b]?
theorem Cut.of_in (H:Qe):(Cut.of H).In H:=fun _ _ h=>h
section
variable {E:Type} {enc:TypeId×Value->E} {P:Program} {w:World} {base:Nat} {spare:Nat->Bool} {held:Bool}
theorem Yx {fuel:Nat} {t:TypeId} {fs:Array Field} {cs:List Value} {x:DataW E×List MemPlace} (ht:P.underlying t=some (.struct fs)) (h:DataW.trod enc P w base spare held fuel t cs=some x) {i ty off n:Nat} (hi:(fs[i]?).map (fun f=>(f.type,f.offset,P.cellsOf f.type))=some (ty,off,n)):
  ∃m y,m<fuel/\DataW.trod enc P w base spare held m ty ((cs.drop off).take n)=some y:=by
 obtain ⟨xs,m,rfl,_,_,hx,hf⟩:=DataW.trod_struct ht h
 cases hfi:fs[i]? with
 |none=>rw[hfi]at hi;cases hi
 |some f=>
  rw[hfi]at hi
  simp only[Option.map_some,Option.some.injEq,Prod.mk.injEq]at hi
  obtain ⟨rfl,rfl,rfl⟩:=hi
  have h1:=hf i f hfi
  have hl:i<xs.length:=by
   rw[hx]
   rcases Nat.lt_or_ge i fs.size with hh|hh
   ·exact hh
   ·rw[Array.getElem?_eq_none hh]at hfi;cases hfi
  rw[List.getElem?_eq_getElem hl]at h1
  exact ⟨m,_,Nat.lt_succ_self m,h1⟩
theorem Qir {fuel:Nat} {t:TypeId} {fs:Array Field} {cs:List Value} {x:DataW E×List MemPlace} (ht:P.underlying t=some (.struct fs)) (h:DataW.trod enc P w base spare held fuel t cs=some x) {n:Nat} (hn:P.cellsOf t=n):cs.length=n:=by
 obtain ⟨xs,m,rfl,_,hl,_⟩:=DataW.trod_struct ht h
 rw[hl,hn]
theorem flat_range {f:Nat->List Value} {L:List Value} {es o:Nat}:∀{n:Nat},o+n*es<=L.length->(∀i,i<n->f i=(L.drop (o+i*es)).take es)->((List.range n).map f).flatten=(L.drop o).take (n*es)
 |0,_,_=>by simp
 |n+1,hl,h=>by
  have hm:(n+1)*es=n*es+es:=by rw[Nat.add_mul,Nat.one_mul]
  rw[List.range_succ,List.map_append,List.flatten_append,flat_range (n:=n) (by omega) (fun i hi=>h i (by omega)),List.map_cons,List.map_nil,List.flatten_cons,List.flatten_nil,List.append_nil,h n (by omega),hm,List.take_add,List.drop_drop]
theorem sl_rd {fuel:Nat} {t e:TypeId} {es:Nat} {cs:List Value} {x:DataW E×List MemPlace} (ht:P.underlying t=some (.slice e)) (hes:P.cellsOf e=es) (h0:0<es) (h:DataW.trod enc P w base spare held fuel t cs=some x):
  ∃v items,cs=[v]/\SlV (Cut.of w.heap) es v items/\∀it∈items,∃m y,m<fuel/\DataW.trod enc P w base spare held m e it=some y:=by
 rcases DataW.trod_slice ht h with ⟨rfl,_⟩|⟨a,len,cap,elems,rest,n,rfl,rfl,_,_,hlc,_,hel,hx,_⟩
 ·exact ⟨_,[],rfl,SlV.nil _ _,by simp⟩
 ·subst hes
  generalize hes:P.cellsOf e=es at *
  by_cases hz:len=0
  ·subst hz
   exact ⟨_,[],rfl,⟨by simp,Or.inl ⟨some a,cap,rfl,rfl⟩⟩,by simp⟩
  have each:∀i,i<len->∃ci y,w.cells? base (a.add (i*es)) es=some ci/\DataW.trod enc P w base spare held n e ci=some y:=fun i hi=>by
   have h1:=hx i hi
   rw[List.getElem?_eq_getElem (by omega)]at h1
   obtain ⟨ci,h2,h3⟩:=Option.bind_eq_some_iff.1 h1
   exact ⟨ci,_,h2,h3⟩
  obtain ⟨c0,_,hc0,_⟩:=each 0 (by omega)
  obtain ⟨_,hl0,hg0⟩:=World.cells?_some hc0
  have hc00:=hg0 0 h0
  rw[List.getElem?_eq_getElem (by omega)]at hc00
  obtain ⟨b,o,spot⟩:=a
  have hs:spot=none:=by simpa [Addr.add]using World.cell?_spot hc00
  subst hs
  rw[QeC,QeC]at hc00
  have hblk:∃c ty fr,w.heap[b]?=some (.cells c ty fr):=by
   rw[cell?_eq]at hc00
   unfold QaW at hc00
   split at hc00
   ·rename_i c ty fr hb
    exact ⟨c,ty,fr,hb⟩
   ·cases hc00
  obtain ⟨c,ty,fr,hb⟩:=hblk
  have item:∀i,i<len->o+i*es+es<=c.size/\w.cells? base ⟨b,o+i*es,none⟩ es=some ((c.toList.drop (o+i*es)).take es):=fun i hi=>by
   obtain ⟨ci,_,h1,_⟩:=each i hi
   rw[QeC]at h1
   obtain ⟨_,hl,hg⟩:=World.cells?_some h1
   have hcell:∀j,j<es->c[o+i*es+j]?=ci[j]?:=fun j hj=>by
    have:=hg j hj
    rw[QeC,cell?_eq,Qj hb]at this
    exact this
   have hsz:o+i*es+es<=c.size:=by
    have:=hcell (es-1) (by omega)
    rw[List.getElem?_eq_getElem (by omega)]at this
    have hlt:o+i*es+(es-1)<c.size:=by
     rcases Nat.lt_or_ge (o+i*es+(es-1)) c.size with hh|hh
     ·exact hh
     ·rw[Array.getElem?_eq_none hh]at this;cases this
    omega
   refine ⟨hsz,?_⟩
   rw[h1]
   congr 1
   refine List.ext_getElem? fun j=>?_
   by_cases hj:j<es
   ·rw[List.getElem?_take_of_lt hj,List.getElem?_drop,<-hcell j hj]
    simp
   ·rw[List.getElem?_eq_none (by omega),List.getElem?_eq_none (by simp;omega)]
  have hend:=(item (len-1) (by omega)).1
  have hmul:len*es=(len-1)*es+es:=by
   obtain ⟨k,rfl⟩:∃k,len=k+1:=⟨len-1,by omega⟩
   rw[show k+1-1=k by omega,Nat.add_mul,Nat.one_mul]
  refine ⟨_,(List.range len).map (fun i=>(c.toList.drop (o+i*es)).take es),rfl,⟨fun it hi=>?_,Or.inr ⟨b,o,cap,c,ty,fr,by rw[List.length_map,List.length_range],hb,by rw[List.length_map,List.length_range];omega,?_,by rw[List.length_map,List.length_range];exact hlc⟩⟩,fun it hi=>?_⟩
  ·obtain ⟨i,hr,rfl⟩:=List.mem_map.1 hi
   have:=(item i (List.mem_range.1 hr)).1
   simp;omega
  ·rw[List.length_map,List.length_range]
   exact (flat_range (by rw[Array.length_toList];omega) (fun i _=>rfl)).symm
  ·obtain ⟨i,hr,rfl⟩:=List.mem_map.1 hi
   have hr:=List.mem_range.1 hr
   obtain ⟨ci,y,h1,h2⟩:=each i hr
   rw[QeC,(item i hr).2]at h1
   cases h1
   exact ⟨n,y,Nat.lt_succ_self n,h2⟩
end
section
variable {E:Type} {enc:TypeId×Value->E} {w:World} {base:Nat} {spare:Nat->Bool} {held:Bool} {fuel:Nat} {cs:List Value} {x:DataW E×List MemPlace}
theorem rd_int8 (h:DataW.trod enc prog w base spare held fuel 36 cs=some x):∃x:UInt8,cs=[i8V x]:=by
 obtain ⟨n,rfl,_,hw⟩:=DataW.trod_int (P:=prog) (t:=36) (k:=.i8) (by kernel_rfl) h
 obtain ⟨x,hx⟩:=wf_i8 hw
 exact ⟨x,by rw[hx]⟩
theorem rd_int16 (h:DataW.trod enc prog w base spare held fuel 23 cs=some x):∃x:UInt16,cs=[Qbc x]:=by
 obtain ⟨n,rfl,_,hw⟩:=DataW.trod_int (P:=prog) (t:=23) (k:=.i16) (by kernel_rfl) h
 obtain ⟨x,hx⟩:=wf_i16 hw
 exact ⟨x,by rw[hx]⟩
theorem rd_int32 (h:DataW.trod enc prog w base spare held fuel 21 cs=some x):∃x:UInt32,cs=[Qfl x]:=by
 obtain ⟨n,rfl,_,hw⟩:=DataW.trod_int (P:=prog) (t:=21) (k:=.i32) (by kernel_rfl) h
 obtain ⟨x,hx⟩:=wf_i32 hw
 exact ⟨x,by rw[hx]⟩
theorem rd_int64 (h:DataW.trod enc prog w base spare held fuel 2 cs=some x):∃x:UInt64,cs=[Qdw x]:=by
 obtain ⟨n,rfl,_,hw⟩:=DataW.trod_int (P:=prog) (t:=2) (k:=.i64) (by kernel_rfl) h
 obtain ⟨x,hx⟩:=wf_i64 hw
 exact ⟨x,by rw[hx]⟩
theorem rd_uint8 (h:DataW.trod enc prog w base spare held fuel 5 cs=some x):∃x:UInt8,cs=[u8n x]:=by
 obtain ⟨n,rfl,_,hw⟩:=DataW.trod_int (P:=prog) (t:=5) (k:=.u8) (by kernel_rfl) h
 obtain ⟨x,hx⟩:=wf_u8 hw
 exact ⟨x,by rw[hx]⟩
theorem rd_uint16 (h:DataW.trod enc prog w base spare held fuel 78 cs=some x):∃x:UInt16,cs=[u16V x]:=by
 obtain ⟨n,rfl,_,hw⟩:=DataW.trod_int (P:=prog) (t:=78) (k:=.u16) (by kernel_rfl) h
 obtain ⟨x,hx⟩:=wf_u16 hw
 exact ⟨x,by rw[hx]⟩
theorem QbV (h:DataW.trod enc prog w base spare held fuel 30 cs=some x):∃x:UInt32,cs=[Zz x]:=by
 obtain ⟨n,rfl,_,hw⟩:=DataW.trod_int (P:=prog) (t:=30) (k:=.u32) (by kernel_rfl) h
 obtain ⟨x,hx⟩:=wf_u32 hw
 exact ⟨x,by rw[hx]⟩
theorem Qee (h:DataW.trod enc prog w base spare held fuel 31 cs=some x):∃x:UInt64,cs=[Ya x]:=by
 obtain ⟨n,rfl,_,hw⟩:=DataW.trod_int (P:=prog) (t:=31) (k:=.u64) (by kernel_rfl) h
 obtain ⟨x,hx⟩:=wf_u64 hw
 exact ⟨x,by rw[hx]⟩
theorem rd_bool (h:DataW.trod enc prog w base spare held fuel 4 cs=some x):∃b,cs=[.bool b]:=by
 obtain ⟨b,h,_⟩:=DataW.trod_bool (P:=prog) (t:=4) (by kernel_rfl) h
 exact ⟨b,h⟩
theorem Qe8 (h:DataW.trod enc prog w base spare held fuel 9 cs=some x):∃s,cs=[Yf s]:=by
 obtain ⟨s,h,_⟩:=DataW.trod_string (P:=prog) (t:=9) (by kernel_rfl) h
 exact ⟨s.data.toList,h⟩
theorem rd_Vec3 (h:DataW.trod enc prog w base spare held fuel 76 cs=some x):∃v:ZO,cs=Zg v:=by
 have ht:(prog).underlying 76=some (.struct ((prog).fieldsOf 76)):=by kernel_rfl
 have hl:=Qir ht h (n:=7) (by kernel_rfl)
 obtain ⟨_,_,_,h0⟩:=Yx ht h (i:=0) (ty:=30) (off:=0) (n:=1) (by kernel_rfl)
 obtain ⟨x0,h0⟩:=QbV h0
 have h0:=QQ h0
 obtain ⟨_,_,_,h1⟩:=Yx ht h (i:=1) (ty:=30) (off:=1) (n:=1) (by kernel_rfl)
 obtain ⟨x1,h1⟩:=QbV h1
 have h1:=QQ h1
 obtain ⟨_,_,_,h2⟩:=Yx ht h (i:=2) (ty:=30) (off:=2) (n:=1) (by kernel_rfl)
 obtain ⟨x2,h2⟩:=QbV h2
 have h2:=QQ h2
 obtain ⟨_,_,_,h3⟩:=Yx ht h (i:=3) (ty:=31) (off:=3) (n:=1) (by kernel_rfl)
 obtain ⟨x3,h3⟩:=Qee h3
 have h3:=QQ h3
 obtain ⟨_,_,_,h4⟩:=Yx ht h (i:=4) (ty:=5) (off:=4) (n:=1) (by kernel_rfl)
 obtain ⟨x4,h4⟩:=rd_uint8 h4
 have h4:=QQ h4
 obtain ⟨_,_,_,h5⟩:=Yx ht h (i:=5) (ty:=23) (off:=5) (n:=1) (by kernel_rfl)
 obtain ⟨x5,h5⟩:=rd_int16 h5
 have h5:=QQ h5
 obtain ⟨_,_,_,h6⟩:=Yx ht h (i:=6) (ty:=36) (off:=6) (n:=1) (by kernel_rfl)
 obtain ⟨x6,h6⟩:=rd_int8 h6
 have h6:=QQ h6
 refine ⟨⟨x0,x1,x2,x3,x4,x5,x6⟩,List.ext_getElem? fun i=>?_⟩
 match i with
 |0=>exact h0
 |1=>exact h1
 |2=>exact h2
 |3=>exact h3
 |4=>exact h4
 |5=>exact h5
 |6=>exact h6
 |i+7=>rw[List.getElem?_eq_none (by omega)];rfl
theorem rd_Test (h:DataW.trod enc prog w base spare held fuel 101 cs=some x):∃v:Qb8,cs=Yw v:=by
 have ht:(prog).underlying 101=some (.struct ((prog).fieldsOf 101)):=by kernel_rfl
 have hl:=Qir ht h (n:=2) (by kernel_rfl)
 obtain ⟨_,_,_,h0⟩:=Yx ht h (i:=0) (ty:=23) (off:=0) (n:=1) (by kernel_rfl)
 obtain ⟨x0,h0⟩:=rd_int16 h0
 have h0:=QQ h0
 obtain ⟨_,_,_,h1⟩:=Yx ht h (i:=1) (ty:=36) (off:=1) (n:=1) (by kernel_rfl)
 obtain ⟨x1,h1⟩:=rd_int8 h1
 have h1:=QQ h1
 refine ⟨⟨x0,x1⟩,List.ext_getElem? fun i=>?_⟩
 match i with
 |0=>exact h0
 |1=>exact h1
 |i+2=>rw[List.getElem?_eq_none (by omega)];rfl
theorem rd_Stat (h:DataW.trod enc prog w base spare held fuel 80 cs=some x):∃v:ZJ,cs=YL v:=by
 have ht:(prog).underlying 80=some (.struct ((prog).fieldsOf 80)):=by kernel_rfl
 have hl:=Qir ht h (n:=3) (by kernel_rfl)
 obtain ⟨_,_,_,h0⟩:=Yx ht h (i:=0) (ty:=9) (off:=0) (n:=1) (by kernel_rfl)
 obtain ⟨x0,h0⟩:=Qe8 h0
 have h0:=QQ h0
 obtain ⟨_,_,_,h1⟩:=Yx ht h (i:=1) (ty:=2) (off:=1) (n:=1) (by kernel_rfl)
 obtain ⟨x1,h1⟩:=rd_int64 h1
 have h1:=QQ h1
 obtain ⟨_,_,_,h2⟩:=Yx ht h (i:=2) (ty:=78) (off:=2) (n:=1) (by kernel_rfl)
 obtain ⟨x2,h2⟩:=rd_uint16 h2
 have h2:=QQ h2
 refine ⟨⟨x0,x1,x2⟩,List.ext_getElem? fun i=>?_⟩
 match i with
 |0=>exact h0
 |1=>exact h1
 |2=>exact h2
 |i+3=>rw[List.getElem?_eq_none (by omega)];rfl
theorem rd_Ability (h:DataW.trod enc prog w base spare held fuel 108 cs=some x):∃v:QeJ,cs=ZN v:=by
 have ht:(prog).underlying 108=some (.struct ((prog).fieldsOf 108)):=by kernel_rfl
 have hl:=Qir ht h (n:=2) (by kernel_rfl)
 obtain ⟨_,_,_,h0⟩:=Yx ht h (i:=0) (ty:=30) (off:=0) (n:=1) (by kernel_rfl)
 obtain ⟨x0,h0⟩:=QbV h0
 have h0:=QQ h0
 obtain ⟨_,_,_,h1⟩:=Yx ht h (i:=1) (ty:=30) (off:=1) (n:=1) (by kernel_rfl)
 obtain ⟨x1,h1⟩:=QbV h1
 have h1:=QQ h1
 refine ⟨⟨x0,x1⟩,List.ext_getElem? fun i=>?_⟩
 match i with
 |0=>exact h0
 |1=>exact h1
 |i+2=>rw[List.getElem?_eq_none (by omega)];rfl
theorem rd_pos (h:DataW.trod enc prog w base spare held fuel 22 cs=some x):∃v,∃l:List ZO,cs=[v]/\SlV (Cut.of w.heap) 7 v (l.map Zg):=by
 obtain ⟨v,items,rfl,hs,hi⟩:=sl_rd (P:=prog) (t:=22) (e:=76) (es:=7) (by kernel_rfl) (by kernel_rfl) (by decide) h
 obtain ⟨l,rfl⟩:=Qia (f:=Zg) (fun it hit=>by
  obtain ⟨_,_,_,h⟩:=hi it hit
  obtain ⟨a,ha⟩:=rd_Vec3 h
  exact ⟨a,ha⟩)
 exact ⟨v,l,rfl,hs⟩
theorem rd_tests (h:DataW.trod enc prog w base spare held fuel 27 cs=some x):∃v,∃l:List Qb8,cs=[v]/\SlV (Cut.of w.heap) 2 v (l.map Yw):=by
 obtain ⟨v,items,rfl,hs,hi⟩:=sl_rd (P:=prog) (t:=27) (e:=101) (es:=2) (by kernel_rfl) (by kernel_rfl) (by decide) h
 obtain ⟨l,rfl⟩:=Qia (f:=Yw) (fun it hit=>by
  obtain ⟨_,_,_,h⟩:=hi it hit
  obtain ⟨a,ha⟩:=rd_Test h
  exact ⟨a,ha⟩)
 exact ⟨v,l,rfl,hs⟩
theorem rd_stats (h:DataW.trod enc prog w base spare held fuel 29 cs=some x):∃v,∃l:List ZJ,cs=[v]/\SlV (Cut.of w.heap) 3 v (l.map YL):=by
 obtain ⟨v,items,rfl,hs,hi⟩:=sl_rd (P:=prog) (t:=29) (e:=80) (es:=3) (by kernel_rfl) (by kernel_rfl) (by decide) h
 obtain ⟨l,rfl⟩:=Qia (f:=YL) (fun it hit=>by
  obtain ⟨_,_,_,h⟩:=hi it hit
  obtain ⟨a,ha⟩:=rd_Stat h
  exact ⟨a,ha⟩)
 exact ⟨v,l,rfl,hs⟩
theorem rd_abils (h:DataW.trod enc prog w base spare held fuel 33 cs=some x):∃v,∃l:List QeJ,cs=[v]/\SlV (Cut.of w.heap) 2 v (l.map ZN):=by
 obtain ⟨v,items,rfl,hs,hi⟩:=sl_rd (P:=prog) (t:=33) (e:=108) (es:=2) (by kernel_rfl) (by kernel_rfl) (by decide) h
 obtain ⟨l,rfl⟩:=Qia (f:=ZN) (fun it hit=>by
  obtain ⟨_,_,_,h⟩:=hi it hit
  obtain ⟨a,ha⟩:=rd_Ability h
  exact ⟨a,ha⟩)
 exact ⟨v,l,rfl,hs⟩
theorem rd_strings (h:DataW.trod enc prog w base spare held fuel 28 cs=some x):∃v,∃l:List (List UInt8),cs=[v]/\SlV (Cut.of w.heap) 1 v (l.map Qfd):=by
 obtain ⟨v,items,rfl,hs,hi⟩:=sl_rd (P:=prog) (t:=28) (e:=9) (es:=1) (by kernel_rfl) (by kernel_rfl) (by decide) h
 obtain ⟨l,rfl⟩:=Qia (f:=Qfd) (fun it hit=>by
  obtain ⟨_,_,_,h⟩:=hi it hit
  obtain ⟨a,ha⟩:=Qe8 h
  exact ⟨a,ha⟩)
 exact ⟨v,l,rfl,hs⟩
theorem rd_bools (h:DataW.trod enc prog w base spare held fuel 32 cs=some x):∃v,∃l:List Bool,cs=[v]/\SlV (Cut.of w.heap) 1 v (l.map QgW):=by
 obtain ⟨v,items,rfl,hs,hi⟩:=sl_rd (P:=prog) (t:=32) (e:=4) (es:=1) (by kernel_rfl) (by kernel_rfl) (by decide) h
 obtain ⟨l,rfl⟩:=Qia (f:=QgW) (fun it hit=>by
  obtain ⟨_,_,_,h⟩:=hi it hit
  obtain ⟨a,ha⟩:=rd_bool h
  exact ⟨a,ha⟩)
 exact ⟨v,l,rfl,hs⟩
theorem rd_i64s (h:DataW.trod enc prog w base spare held fuel 34 cs=some x):∃v,∃l:List UInt64,cs=[v]/\SlV (Cut.of w.heap) 1 v (l.map i64I):=by
 obtain ⟨v,items,rfl,hs,hi⟩:=sl_rd (P:=prog) (t:=34) (e:=2) (es:=1) (by kernel_rfl) (by kernel_rfl) (by decide) h
 obtain ⟨l,rfl⟩:=Qia (f:=i64I) (fun it hit=>by
  obtain ⟨_,_,_,h⟩:=hi it hit
  obtain ⟨a,ha⟩:=rd_int64 h
  exact ⟨a,ha⟩)
 exact ⟨v,l,rfl,hs⟩
theorem Qin (h:DataW.trod enc prog w base spare held fuel 35 cs=some x):∃v,∃l:List UInt64,cs=[v]/\SlV (Cut.of w.heap) 1 v (l.map Qai):=by
 obtain ⟨v,items,rfl,hs,hi⟩:=sl_rd (P:=prog) (t:=35) (e:=31) (es:=1) (by kernel_rfl) (by kernel_rfl) (by decide) h
 obtain ⟨l,rfl⟩:=Qia (f:=Qai) (fun it hit=>by
  obtain ⟨_,_,_,h⟩:=hi it hit
  obtain ⟨a,ha⟩:=Qee h
  exact ⟨a,ha⟩)
 exact ⟨v,l,rfl,hs⟩
def MonRd (E:Type) (enc:TypeId×Value->E) (w:World) (base:Nat) (spare:Nat->Bool) (held:Bool) (fuel:Nat):Prop:=∀(cs:List Value) (x:DataW E×List MemPlace),DataW.trod enc prog w base spare held fuel 38 cs=some x->∃g:GM,NormM g/\QaX (Cut.of w.heap) g cs
theorem mons_of {F:Cut}:∀{items:List (List Value)},(∀it∈items,∃g:GM,NormM g/\QaX F g it)->∃gs,Qio gs/\Zh F gs items
 |[],_=>⟨[],by rw[Qio];trivial,by rw[Zh];trivial⟩
 |x::xs,h=>by
  obtain ⟨g,h1,h2⟩:=h x List.mem_cons_self
  obtain ⟨gs,h3,h4⟩:=mons_of (items:=xs) (fun it hi=>h it (List.mem_cons_of_mem _ hi))
  exact ⟨g::gs,by rw[Qio];exact ⟨h1,h3⟩,by rw[Zh];exact ⟨h2,h4⟩⟩
theorem rd_mons (hK:∀m,m<fuel->MonRd E enc w base spare held m) (h:DataW.trod enc prog w base spare held fuel 24 cs=some x):∃v gs,cs=[v]/\Qio gs/\Qbu (Cut.of w.heap) gs v:=by
 obtain ⟨v,items,rfl,hs,hi⟩:=sl_rd (P:=prog) (t:=24) (e:=38) (es:=51) (by kernel_rfl) (by kernel_rfl) (by decide) h
 obtain ⟨gs,h1,h2⟩:=mons_of (F:=Cut.of w.heap) (items:=items) (fun it hit=>by
  obtain ⟨m,y,hm,h⟩:=hi it hit
  exact hK m hm it y h)
 exact ⟨v,gs,rfl,h1,items,hs,h2⟩
theorem rd_choice (hK:∀m,m<fuel->MonRd E enc w base spare held m) (h:DataW.trod enc prog w base spare held fuel 26 cs=some x):∃(ty color:UInt8) (v:Value) (gs:List GM),cs=[u8n ty,v,u8n color]/\Qio gs/\Qbu (Cut.of w.heap) gs v:=by
 have ht:(prog).underlying 26=some (.struct ((prog).fieldsOf 26)):=by kernel_rfl
 have hl:=Qir ht h (n:=3) (by kernel_rfl)
 obtain ⟨_,_,_,h0⟩:=Yx ht h (i:=0) (ty:=5) (off:=0) (n:=1) (by kernel_rfl)
 obtain ⟨x0,h0⟩:=rd_uint8 h0
 obtain ⟨m1,_,hm1,h1⟩:=Yx ht h (i:=1) (ty:=24) (off:=1) (n:=1) (by kernel_rfl)
 obtain ⟨v,gs,h1,hn,hv⟩:=rd_mons (fun m hm=>hK m (by omega)) h1
 obtain ⟨_,_,_,h2⟩:=Yx ht h (i:=2) (ty:=5) (off:=2) (n:=1) (by kernel_rfl)
 obtain ⟨x2,h2⟩:=rd_uint8 h2
 refine ⟨x0,x2,v,gs,List.ext_getElem? fun i=>?_,hn,hv⟩
 match i with
 |0=>exact QQ h0
 |1=>exact QQ h1
 |2=>exact QQ h2
 |i+3=>rw[List.getElem?_eq_none (by omega)];rfl
set_option maxHeartbeats 1000000 in
set_option maxRecDepth 8000 in
theorem rd_step (hK:∀m,m<fuel->MonRd E enc w base spare held m):MonRd E enc w base spare held fuel:=by
 intro cs x h
 have ht:(prog).underlying 38=some (.struct ((prog).fieldsOf 38)):=by kernel_rfl
 have hl:=Qir ht h (n:=51) (by kernel_rfl)
 obtain ⟨m0,_,hm0,h0⟩:=Yx ht h (i:=0) (ty:=22) (off:=0) (n:=1) (by kernel_rfl)
 obtain ⟨v0,l0,h0,s0⟩:=rd_pos h0
 have h0:=QQ h0
 clear hm0
 obtain ⟨m1,_,hm1,h1⟩:=Yx ht h (i:=1) (ty:=23) (off:=1) (n:=1) (by kernel_rfl)
 obtain ⟨a1,h1⟩:=rd_int16 h1
 have h1:=QQ h1
 clear hm1
 obtain ⟨m2,_,hm2,h2⟩:=Yx ht h (i:=2) (ty:=23) (off:=2) (n:=1) (by kernel_rfl)
 obtain ⟨a2,h2⟩:=rd_int16 h2
 have h2:=QQ h2
 clear hm2
 obtain ⟨m3,_,hm3,h3⟩:=Yx ht h (i:=3) (ty:=9) (off:=3) (n:=1) (by kernel_rfl)
 obtain ⟨a3,h3⟩:=Qe8 h3
 have h3:=QQ h3
 clear hm3
 obtain ⟨m4,_,hm4,h4⟩:=Yx ht h (i:=4) (ty:=9) (off:=4) (n:=1) (by kernel_rfl)
 obtain ⟨a4,h4⟩:=Qe8 h4
 have h4:=QQ h4
 clear hm4
 obtain ⟨m5,_,hm5,h5⟩:=Yx ht h (i:=5) (ty:=5) (off:=5) (n:=1) (by kernel_rfl)
 obtain ⟨a5,h5⟩:=rd_uint8 h5
 have h5:=QQ h5
 clear hm5
 obtain ⟨m6,_,hm6,h6⟩:=Yx ht h (i:=6) (ty:=26) (off:=6) (n:=3) (by kernel_rfl)
 obtain ⟨a6,a8,v7,g6,h6,n6,s6⟩:=rd_choice (fun m hm=>hK m (by omega)) h6
 have k6:cs[6]?=some (u8n a6):=Qfu (n:=3) h6 (j:=0) (by decide)
 have k7:cs[7]?=some (v7):=Qfu (n:=3) h6 (j:=1) (by decide)
 have k8:cs[8]?=some (u8n a8):=Qfu (n:=3) h6 (j:=2) (by decide)
 clear hm6
 obtain ⟨m7,_,hm7,h7⟩:=Yx ht h (i:=7) (ty:=27) (off:=9) (n:=1) (by kernel_rfl)
 obtain ⟨v9,l9,h7,s9⟩:=rd_tests h7
 have h7:=QQ h7
 clear hm7
 obtain ⟨m8,_,hm8,h8⟩:=Yx ht h (i:=8) (ty:=28) (off:=10) (n:=1) (by kernel_rfl)
 obtain ⟨v10,l10,h8,s10⟩:=rd_strings h8
 have h8:=QQ h8
 clear hm8
 obtain ⟨m9,_,hm9,h9⟩:=Yx ht h (i:=9) (ty:=24) (off:=11) (n:=1) (by kernel_rfl)
 obtain ⟨v11,g11,h9,n11,s11⟩:=rd_mons (fun m hm=>hK m (by omega)) h9
 have h9:=QQ h9
 clear hm9
 obtain ⟨m10,_,hm10,h10⟩:=Yx ht h (i:=10) (ty:=24) (off:=12) (n:=1) (by kernel_rfl)
 obtain ⟨v12,g12,h10,n12,s12⟩:=rd_mons (fun m hm=>hK m (by omega)) h10
 have h10:=QQ h10
 clear hm10
 obtain ⟨m11,_,hm11,h11⟩:=Yx ht h (i:=11) (ty:=9) (off:=13) (n:=1) (by kernel_rfl)
 obtain ⟨a13,h11⟩:=Qe8 h11
 have h11:=QQ h11
 clear hm11
 obtain ⟨m12,_,hm12,h12⟩:=Yx ht h (i:=12) (ty:=29) (off:=14) (n:=1) (by kernel_rfl)
 obtain ⟨v14,l14,h12,s14⟩:=rd_stats h12
 have h12:=QQ h12
 clear hm12
 obtain ⟨m13,_,hm13,h13⟩:=Yx ht h (i:=13) (ty:=4) (off:=15) (n:=1) (by kernel_rfl)
 obtain ⟨a15,h13⟩:=rd_bool h13
 have h13:=QQ h13
 clear hm13
 obtain ⟨m14,_,hm14,h14⟩:=Yx ht h (i:=14) (ty:=21) (off:=16) (n:=1) (by kernel_rfl)
 obtain ⟨a16,h14⟩:=rd_int32 h14
 have h14:=QQ h14
 clear hm14
 obtain ⟨m15,_,hm15,h15⟩:=Yx ht h (i:=15) (ty:=30) (off:=17) (n:=1) (by kernel_rfl)
 obtain ⟨a17,h15⟩:=QbV h15
 have h15:=QQ h15
 clear hm15
 obtain ⟨m16,_,hm16,h16⟩:=Yx ht h (i:=16) (ty:=2) (off:=18) (n:=1) (by kernel_rfl)
 obtain ⟨a18,h16⟩:=rd_int64 h16
 have h16:=QQ h16
 clear hm16
 obtain ⟨m17,_,hm17,h17⟩:=Yx ht h (i:=17) (ty:=31) (off:=19) (n:=1) (by kernel_rfl)
 obtain ⟨a19,h17⟩:=Qee h17
 have h17:=QQ h17
 clear hm17
 obtain ⟨m18,_,hm18,h18⟩:=Yx ht h (i:=18) (ty:=21) (off:=20) (n:=1) (by kernel_rfl)
 obtain ⟨a20,h18⟩:=rd_int32 h18
 have h18:=QQ h18
 clear hm18
 obtain ⟨m19,_,hm19,h19⟩:=Yx ht h (i:=19) (ty:=30) (off:=21) (n:=1) (by kernel_rfl)
 obtain ⟨a21,h19⟩:=QbV h19
 have h19:=QQ h19
 clear hm19
 obtain ⟨m20,_,hm20,h20⟩:=Yx ht h (i:=20) (ty:=2) (off:=22) (n:=1) (by kernel_rfl)
 obtain ⟨a22,h20⟩:=rd_int64 h20
 have h20:=QQ h20
 clear hm20
 obtain ⟨m21,_,hm21,h21⟩:=Yx ht h (i:=21) (ty:=31) (off:=23) (n:=1) (by kernel_rfl)
 obtain ⟨a23,h21⟩:=Qee h21
 have h21:=QQ h21
 clear hm21
 obtain ⟨m22,_,hm22,h22⟩:=Yx ht h (i:=22) (ty:=32) (off:=24) (n:=1) (by kernel_rfl)
 obtain ⟨v24,l24,h22,s24⟩:=rd_bools h22
 have h22:=QQ h22
 clear hm22
 obtain ⟨m23,_,hm23,h23⟩:=Yx ht h (i:=23) (ty:=30) (off:=25) (n:=1) (by kernel_rfl)
 obtain ⟨a25,h23⟩:=QbV h23
 have h23:=QQ h23
 clear hm23
 obtain ⟨m24,_,hm24,h24⟩:=Yx ht h (i:=24) (ty:=30) (off:=26) (n:=1) (by kernel_rfl)
 obtain ⟨a26,h24⟩:=QbV h24
 have h24:=QQ h24
 clear hm24
 obtain ⟨m25,_,hm25,h25⟩:=Yx ht h (i:=25) (ty:=30) (off:=27) (n:=1) (by kernel_rfl)
 obtain ⟨a27,h25⟩:=QbV h25
 have h25:=QQ h25
 clear hm25
 obtain ⟨m26,_,hm26,h26⟩:=Yx ht h (i:=26) (ty:=28) (off:=28) (n:=1) (by kernel_rfl)
 obtain ⟨v28,l28,h26,s28⟩:=rd_strings h26
 have h26:=QQ h26
 clear hm26
 obtain ⟨m27,_,hm27,h27⟩:=Yx ht h (i:=27) (ty:=33) (off:=29) (n:=1) (by kernel_rfl)
 obtain ⟨v29,l29,h27,s29⟩:=rd_abils h27
 have h27:=QQ h27
 clear hm27
 obtain ⟨m28,_,hm28,h28⟩:=Yx ht h (i:=28) (ty:=9) (off:=30) (n:=1) (by kernel_rfl)
 obtain ⟨a30,h28⟩:=Qe8 h28
 have h28:=QQ h28
 clear hm28
 obtain ⟨m29,_,hm29,h29⟩:=Yx ht h (i:=29) (ty:=27) (off:=31) (n:=1) (by kernel_rfl)
 obtain ⟨v31,l31,h29,s31⟩:=rd_tests h29
 have h29:=QQ h29
 clear hm29
 obtain ⟨m30,_,hm30,h30⟩:=Yx ht h (i:=30) (ty:=34) (off:=32) (n:=1) (by kernel_rfl)
 obtain ⟨v32,l32,h30,s32⟩:=rd_i64s h30
 have h30:=QQ h30
 clear hm30
 obtain ⟨m31,_,hm31,h31⟩:=Yx ht h (i:=31) (ty:=35) (off:=33) (n:=1) (by kernel_rfl)
 obtain ⟨v33,l33,h31,s33⟩:=Qin h31
 have h31:=QQ h31
 clear hm31
 obtain ⟨m32,_,hm32,h32⟩:=Yx ht h (i:=32) (ty:=4) (off:=34) (n:=1) (by kernel_rfl)
 obtain ⟨a34,h32⟩:=rd_bool h32
 have h32:=QQ h32
 clear hm32
 obtain ⟨m33,_,hm33,h33⟩:=Yx ht h (i:=33) (ty:=35) (off:=35) (n:=1) (by kernel_rfl)
 obtain ⟨v35,l35,h33,s35⟩:=Qin h33
 have h33:=QQ h33
 clear hm33
 obtain ⟨m34,_,hm34,h34⟩:=Yx ht h (i:=34) (ty:=31) (off:=36) (n:=1) (by kernel_rfl)
 obtain ⟨a36,h34⟩:=Qee h34
 have h34:=QQ h34
 clear hm34
 obtain ⟨m35,_,hm35,h35⟩:=Yx ht h (i:=35) (ty:=35) (off:=37) (n:=1) (by kernel_rfl)
 obtain ⟨v37,l37,h35,s37⟩:=Qin h35
 have h35:=QQ h35
 clear hm35
 obtain ⟨m36,_,hm36,h36⟩:=Yx ht h (i:=36) (ty:=35) (off:=38) (n:=1) (by kernel_rfl)
 obtain ⟨v38,l38,h36,s38⟩:=Qin h36
 have h36:=QQ h36
 clear hm36
 obtain ⟨m37,_,hm37,h37⟩:=Yx ht h (i:=37) (ty:=31) (off:=39) (n:=1) (by kernel_rfl)
 obtain ⟨a39,h37⟩:=Qee h37
 have h37:=QQ h37
 clear hm37
 obtain ⟨m38,_,hm38,h38⟩:=Yx ht h (i:=38) (ty:=35) (off:=40) (n:=1) (by kernel_rfl)
 obtain ⟨v40,l40,h38,s40⟩:=Qin h38
 have h38:=QQ h38
 clear hm38
 obtain ⟨m39,_,hm39,h39⟩:=Yx ht h (i:=39) (ty:=31) (off:=41) (n:=1) (by kernel_rfl)
 obtain ⟨a41,h39⟩:=Qee h39
 have h39:=QQ h39
 clear hm39
 obtain ⟨m40,_,hm40,h40⟩:=Yx ht h (i:=40) (ty:=35) (off:=42) (n:=1) (by kernel_rfl)
 obtain ⟨v42,l42,h40,s42⟩:=Qin h40
 have h40:=QQ h40
 clear hm40
 obtain ⟨m41,_,hm41,h41⟩:=Yx ht h (i:=41) (ty:=26) (off:=43) (n:=3) (by kernel_rfl)
 obtain ⟨a43,a45,v44,g43,h41,n43,s43⟩:=rd_choice (fun m hm=>hK m (by omega)) h41
 have k43:cs[43]?=some (u8n a43):=Qfu (n:=3) h41 (j:=0) (by decide)
 have k44:cs[44]?=some (v44):=Qfu (n:=3) h41 (j:=1) (by decide)
 have k45:cs[45]?=some (u8n a45):=Qfu (n:=3) h41 (j:=2) (by decide)
 clear hm41
 obtain ⟨m42,_,hm42,h42⟩:=Yx ht h (i:=42) (ty:=26) (off:=46) (n:=3) (by kernel_rfl)
 obtain ⟨a46,a48,v47,g46,h42,n46,s46⟩:=rd_choice (fun m hm=>hK m (by omega)) h42
 have k46:cs[46]?=some (u8n a46):=Qfu (n:=3) h42 (j:=0) (by decide)
 have k47:cs[47]?=some (v47):=Qfu (n:=3) h42 (j:=1) (by decide)
 have k48:cs[48]?=some (u8n a48):=Qfu (n:=3) h42 (j:=2) (by decide)
 clear hm42
 obtain ⟨m43,_,hm43,h43⟩:=Yx ht h (i:=43) (ty:=9) (off:=49) (n:=1) (by kernel_rfl)
 obtain ⟨a49,h43⟩:=Qe8 h43
 have h43:=QQ h43
 clear hm43
 obtain ⟨m44,_,hm44,h44⟩:=Yx ht h (i:=44) (ty:=36) (off:=50) (n:=1) (by kernel_rfl)
 obtain ⟨a50,h44⟩:=rd_int8 h44
 have h44:=QQ h44
 clear hm44
 refine ⟨.mk {pos:=l0.head?,mana:=a1,hp:=a2,name:=a3,inventory:=a4,color:=a5,testTy:=a6,testColor:=a8,test4:=l9,strings:=l10,nested:=a13,empty:=l14.head?,bool:=a15,s32:=a16,u32:=a17,s64:=a18,u64:=a19,s32a:=a20,u32a:=a21,s64a:=a22,u64a:=a23,bools:=l24,f:=a25,f2:=a26,f3:=a27,strings2:=l28,abilities:=l29,flex:=a30,test5:=l31,longs:=l32,doubles:=l33,parent:=a34,refs:=l35,singleWeak:=a36,weak:=l37,strong:=l38,coOwning:=a39,coOwnings:=l40,nonOwning:=a41,nonOwnings:=l42,uniqTy:=a43,uniqColor:=a45,ambTy:=a46,ambColor:=a48,enums:=a49,signedEnum:=a50} l0 l14 g11 g12 g6 g43 g46,?_,?_⟩
 ·rw[NormM]
  exact ⟨⟨rfl,rfl⟩,n11,n12,n6,n43,n46⟩
 ·rw[QaX]
  refine ⟨⟨v0,v7,v9,v10,v11,v12,v14,v24,v28,v29,v31,v32,v33,v35,v37,v38,v40,v42,v44,v47⟩,?_,⟨s0,s9,s10,s14,s24,s28,s29,s31,s32,s33,s35,s37,s38,s40,s42⟩,s11,s12,s6,s43,s46⟩
  refine List.ext_getElem? fun i=>?_
  match i with
  |0=>exact h0
  |1=>exact h1
  |2=>exact h2
  |3=>exact h3
  |4=>exact h4
  |5=>exact h5
  |6=>exact k6
  |7=>exact k7
  |8=>exact k8
  |9=>exact h7
  |10=>exact h8
  |11=>exact h9
  |12=>exact h10
  |13=>exact h11
  |14=>exact h12
  |15=>exact h13
  |16=>exact h14
  |17=>exact h15
  |18=>exact h16
  |19=>exact h17
  |20=>exact h18
  |21=>exact h19
  |22=>exact h20
  |23=>exact h21
  |24=>exact h22
  |25=>exact h23
  |26=>exact h24
  |27=>exact h25
  |28=>exact h26
  |29=>exact h27
  |30=>exact h28
  |31=>exact h29
  |32=>exact h30
  |33=>exact h31
  |34=>exact h32
  |35=>exact h33
  |36=>exact h34
  |37=>exact h35
  |38=>exact h36
  |39=>exact h37
  |40=>exact h38
  |41=>exact h39
  |42=>exact h40
  |43=>exact k43
  |44=>exact k44
  |45=>exact k45
  |46=>exact k46
  |47=>exact k47
  |48=>exact k48
  |49=>exact h43
  |50=>exact h44
  |i+51=>rw[List.getElem?_eq_none (by omega),List.getElem?_eq_none (by rw[YP];omega)]
theorem rd_all:∀fuel:Nat,MonRd E enc w base spare held fuel:=fun fuel=>by
 induction fuel using Nat.strongRecOn with
 |ind n ih=>exact rd_step ih
end
end Go.Proofs
namespace Go.Proofs
open Go Go.Vc
open Tryz (prog)
theorem ltb {a b:Nat} (h:Nat.ble (a+1) b=true):a<b:=Nat.le_of_ble_eq_true h
def UpS (tp:TypeId) (z:Array Value) (T:TypeId) (g:FuncId) (x0:Value) (h:Qe) (R:Kn):Prop:=
 Qk prog .eql tp x0 (.pointer none) fun x5=>IfK x5 (R (.pointer none) h) (Qz z.toList [] fun x6=>Y5 h (.cells (Value.cells x6) T) fun x7 h1=>Qa prog g #[x0,x7] h1 fun _ h2=>R x7 h2)
theorem Qfh {zs:List Value} {t:TypeId} {G0:Cut} {H0:Qe} {q:Nat} {G:Cut} {H:Qe} {done:List Value} (us:US zs t G0 H0 q G H done) {p B:Nat} {bs:List UInt8} {pos:Nat} (h:Tab H0 p B bs pos):Tab H p B bs pos:=h.ext us.ext.keep.ext
section
variable {f g:FuncId} {tp T:TypeId} {z:Array Value} (hw:∀{x0 h R},UpS tp z T g x0 h R->FnS prog f #[x0] h R) (ht:(prog).underlying tp=some (.pointer ((prog).pointee tp)))
include hw ht
theorem up_nil {h:Qe} {R:Kn} (hR:R (.pointer none) h):FnS prog f #[.pointer none] h R:=by
 apply hw
 unfold UpS
 rw[Y2 ht]
 exact hR
theorem up_of {a:Addr} {G:Cut} {h:Qe} {R:Kn} (hG:G.In h) (Q:Cut->List Value->Prop) (hQ:∀G G' l,Cut.le G G'->Q G l->Q G' l)
  (hg:US z.toList T G h h.size G (h.push (.cells z T)) []->∀R':Kn,(∀G' H' done,US z.toList T G h h.size G' H' done->done.length=z.size->Q G' done.reverse->R' (.tuple #[]) H')->FnS prog g #[.pointer (some a),.pointer (some ⟨h.size,0,none⟩)] (h.push (.cells z T)) R')
  (hR:∀G' H' v done,Ext G h G' H'->v.oneCell'=true->Za G' v done.toArray->Q G' done->R v H'):FnS prog f #[.pointer (some a)] h R:=by
 apply hw
 unfold UpS
 rw[Y2 ht]
 have e:YJ z.toList []=some z.toList:=rfl
 unfold Qz
 simp only[e]
 have e2:Value.cells (.agg z.toList.toArray)=z:=by simp[Value.cells]
 rw[e2]
 refine hg ⟨(Ext.refl hG).push _,by simpa using Yj.fresh (Ext.refl hG) (.cells z T)⟩ _ fun G' H' done us hl hq=>?_
 have o:=us.o
 rw[List.drop_eq_nil_of_le (by simp[hl]),List.append_nil]at o
 exact hR _ H' _ done.reverse (us.ext.add o.get o.out o.new) rfl ⟨_,_,rfl,Cut.upd_same⟩ (hQ _ _ _ (Cut.le_upd o.out) hq)
end
abbrev UpOk (f:FuncId) (D:Nat->List UInt8->Nat->Prop) (cells:List Value):Prop:=∀{A:Nat} {H:Qe} {p B:Nat} {bs:List UInt8} {pos:Nat} (_:Tab H p B bs pos) (_:D A bs pos) {G:Cut} (_:G.In H) {R:Kn}
 (_:∀G' H' v,Ext G H G' H'->v.oneCell'=true->Za G' v cells.toArray->R v H'),FnS prog f #[.pointer (some ⟨p,0,none⟩)] H R
theorem Qc3 {t:Qb8}:UpOk 265 (fun _ bs pos=>pos+4<=bs.length/\le2 bs (pos+0)=t.a.toNat/\byteN bs (pos+2)=t.b.toNat) (Yw t):=by
 intro A H p B bs pos ht ⟨h1,h2,h3⟩ G hG R hR
 refine up_of w265 (by kernel_rfl) hG (fun _ l=>l=Yw t) (fun _ _ _ _ h=>h) ?_ (fun G' H' v done e h1 o hq=>hR G' H' v e h1 (hq▸o))
 intro us R' hR'
 apply w340
 unfold tp340
 refine Qdg (Qfh us ht) (by omega) ?_
 refine us.put rfl (ltb rfl) rfl fun H1 u1 _=>?_
 refine Qdj (Qfh u1 ht) (by omega) ?_
 refine u1.put rfl (ltb rfl) rfl fun H2 u2 _=>?_
 rw[h2,h3]at u2
 exact hR' _ _ _ u2 rfl rfl
theorem QfT {t:QeJ}:UpOk 268 (fun _ bs pos=>pos+8<=bs.length/\le4 bs (pos+0)=t.id.toNat/\le4 bs (pos+4)=t.dist.toNat) (ZN t):=by
 intro A H p B bs pos ht ⟨h1,h2,h3⟩ G hG R hR
 refine up_of w268 (by kernel_rfl) hG (fun _ l=>l=ZN t) (fun _ _ _ _ h=>h) ?_ (fun G' H' v done e h1 o hq=>hR G' H' v e h1 (hq▸o))
 intro us R' hR'
 apply w342
 unfold tp340
 refine Qev (Qfh us ht) (by omega) ?_
 refine us.put rfl (ltb rfl) rfl fun H1 u1 _=>?_
 refine Qcf (Qfh u1 ht) (by omega) ?_
 refine u1.put rfl (ltb rfl) rfl fun H2 u2 _=>?_
 rw[h2,h3]at u2
 exact hR' _ _ _ u2 rfl rfl
theorem QbL {x:UInt64}:UpOk 271 (RefPW x) [Ya x]:=by
 intro A H p B bs pos ht ⟨vt,h1,h2⟩ G hG R hR
 refine up_of w271 (by kernel_rfl) hG (fun _ l=>l=[Ya x]) (fun _ _ _ _ h=>h) ?_ (fun G' H' v done e h1 o hq=>hR G' H' v e h1 (hq▸o))
 intro us R' hR'
 apply w344
 unfold s344
 refine Qbo (Qfh us ht) h1 h2 ?_
 refine us.put rfl (ltb rfl) rfl fun H1 u1 _=>?_
 exact hR' _ _ _ u1 rfl rfl
theorem Qga {c:UInt8}:UpOk 339 (SimpleW c) [u8n c]:=by
 intro A H p B bs pos ht ⟨vt,h1,h2⟩ G hG R hR
 refine up_of w339 (by kernel_rfl) hG (fun _ l=>l=[u8n c]) (fun _ _ _ _ h=>h) ?_ (fun G' H' v done e h1 o hq=>hR G' H' v e h1 (hq▸o))
 intro us R' hR'
 apply w377
 unfold s377
 refine ZS (Qfh us ht) h1 h2 ?_
 refine us.put rfl (ltb rfl) rfl fun H1 u1 _=>?_
 exact hR' _ _ _ u1 rfl rfl
theorem Qhi {s:ZJ}:UpOk 267 (StatW s) (YL s):=by
 intro A H p B bs pos ht ⟨vt,s1,s2,s3,s4⟩ G hG R hR
 refine up_of w267 (by kernel_rfl) hG (fun _ l=>l=YL s) (fun _ _ _ _ h=>h) ?_ (fun G' H' v done e h1 o hq=>hR G' H' v e h1 (hq▸o))
 intro us R' hR'
 apply w341
 unfold s341
 obtain ⟨w1,w2⟩:=s2.there
 obtain ⟨w3,w4⟩:=QhF.at w2
 refine Qgr (Qfh us ht) s1 (fun h=>absurd h w1) (fun _=>⟨_,w3,?_⟩)
 refine (Qfh us ht).str w4 rfl ?_
 refine us.put rfl (ltb rfl) rfl fun H1 u1 _=>?_
 refine QfK (Qfh u1 ht) s1 s3 ?_
 refine u1.put rfl (ltb rfl) rfl fun H2 u2 _=>?_
 refine Qeu (Qfh u2 ht) s1 s4 ?_
 refine u2.put rfl (ltb rfl) rfl fun H3 u3 _=>?_
 exact hR' _ _ _ u3 rfl rfl
theorem Qh3:UpOk 270 (fun _ _ _=>True) []:=by
 intro A H p B bs pos ht _ G hG R hR
 refine up_of w270 (by kernel_rfl) hG (fun _ l=>l=[]) (fun _ _ _ _ h=>h) ?_ (fun G' H' v done e h1 o hq=>hR G' H' v e h1 (hq▸o))
 intro us R' hR'
 apply w343
 exact hR' _ _ _ us rfl rfl
def VecO (v:ZO) (F:Cut) (x:Value):Prop:=∃t,Za F x #[QcW v.x,QcW v.y,QcW v.z,f64V v.t1,u8n v.t2,t]/\Za F t #[Qbc v.a,i8V v.b]
theorem VecO.mono {v:ZO} {F G:Cut} {x:Value} (hl:F.le G) (h:VecO v F x):VecO v G x:=by
 obtain ⟨t,a,b⟩:=h
 exact ⟨t,a.mono hl,b.mono hl⟩
theorem Qhq {v:ZO} {H:Qe} {p B:Nat} {bs:List UInt8} {pos:Nat} (ht:Tab H p B bs pos) (hB:Qx bs pos (Qj8 v)) {G:Cut} (hG:G.In H) {R:Kn}
  (hR:∀G' H' x,Ext G H G' H'->x.oneCell'=true->VecO v G' x->R x H'):FnS prog 262 #[.pointer (some ⟨p,0,none⟩)] H R:=by
 obtain ⟨e0,e1,e2,e3,e4,e5,e6,e7⟩:=vec3_at hB
 refine up_of w262 (by kernel_rfl) hG (fun F l=>∃t,l=[QcW v.x,QcW v.y,QcW v.z,f64V v.t1,u8n v.t2,t]/\Za F t #[Qbc v.a,i8V v.b]) (fun _ _ _ hl ⟨t,a,b⟩=>⟨t,a,b.mono hl⟩) ?_ (fun G' H' v done e h1 o ⟨t,a,b⟩=>hR G' H' v e h1 ⟨t,a▸o,b⟩)
 intro us R' hR'
 apply w338
 unfold s338
 refine Qh6 (Qfh us ht) (by omega) ?_
 refine us.put rfl (ltb rfl) rfl fun H1 u1 _=>?_
 refine Qhg (Qfh u1 ht) (by omega) ?_
 refine u1.put rfl (ltb rfl) rfl fun H2 u2 _=>?_
 refine Qh8 (Qfh u2 ht) (by omega) ?_
 refine u2.put rfl (ltb rfl) rfl fun H3 u3 _=>?_
 refine Qeq (Qfh u3 ht) (by omega) ?_
 refine u3.put rfl (ltb rfl) rfl fun H4 u4 _=>?_
 refine Qet (Qfh u4 ht) (by omega) ?_
 refine u4.put rfl (ltb rfl) rfl fun H5 u5 _=>?_
 rw[e1,e2,e3,e4,e5]at u5
 have t5:=Qfh u5 ht
 refine QeA t5 (by omega) ?_
 have u6:=u5.push (.cells #[bsl B 0 bs.length bs.length,.int .u32 (pos+26:Nat)] 211)
 have t6:Tab (H5.push (.cells #[bsl B 0 bs.length bs.length,.int .u32 (pos+26:Nat)] 211)) H5.size B bs (pos+26):=⟨Qj Qh,Qj Qh,(Qfh u6 ht).u8,ht.lt,by omega⟩
 refine Qc3 (A:=0) (t:=⟨v.a,v.b⟩) t6 ⟨by omega,e6,e7⟩ u6.ext.inn fun G7 H7 x ex h1 ho=>?_
 refine (u6.next ex).put rfl (ltb rfl) h1 fun H8 u8 _=>?_
 exact hR' _ _ _ u8 rfl ⟨x,rfl,ho⟩
end Go.Proofs
namespace Go.Proofs
open Go Go.Vc
open Tryz (prog)
def PtrS {α:Type} (P:α->Cut->Value->Prop) (l:List α) (F:Cut) (v:Value):Prop:=∃vs:List Value,SlV F 1 v (vs.map fun x=>[x])/\vs.length=l.length/\∀(j:Nat) x a,vs[j]?=some x->l[j]?=some a->P a F x
theorem PtrS.mono {α:Type} {P:α->Cut->Value->Prop} (hP:∀a F G v,Cut.le F G->P a F v->P a G v) {l:List α} {F G:Cut} {v:Value} (hl:F.le G) (h:PtrS P l F v):PtrS P l G v:=by
 obtain ⟨vs,a,b,c⟩:=h
 exact ⟨vs,a.mono hl,b,fun j x y hx hy=>hP _ _ _ _ hl (c j x y hx hy)⟩
def OptO {α:Type} (P:α->Cut->Value->Prop) (l:List α) (F:Cut) (v:Value):Prop:=(l=[]/\v= .pointer none)\/∃x,l=[x]/\(∃a,v= .pointer (some a))/\P x F v
theorem OptO.mono {α:Type} {P:α->Cut->Value->Prop} (hP:∀a F G v,Cut.le F G->P a F v->P a G v) {l:List α} {F G:Cut} {v:Value} (hl:F.le G) (h:OptO P l F v):OptO P l G v:=by
 rcases h with h|⟨x,h1,h2,h3⟩
 ·exact Or.inl h
 ·exact Or.inr ⟨x,h1,h2,hP _ _ _ _ hl h3⟩
abbrev ItP {α:Type} (f:α->List Value):α->Cut->Value->Prop:=fun a F v=>Za F v (f a).toArray
theorem ItP.mono {α:Type} {f:α->List Value}:∀a F G v,Cut.le F G->ItP f a F v->ItP f a G v:=fun _ _ _ _ hl h=>Za.mono hl h
structure OV where
 pos:Value
 inventory:Value
 test:Value
 test4:Value
 strings:Value
 tables:Value
 enemy:Value
 nested:Value
 empty:Value
 bools:Value
 strings2:Value
 abil:Value
 flex:Value
 test5:Value
 longs:Value
 doubles:Value
 parent:Value
 refs:Value
 weak:Value
 strong:Value
 coOwnings:Value
 nonOwnings:Value
 uniq:Value
 amb:Value
 enums:Value
def oCells (d:Qbt) (c:OV):List Value:=
 [c.pos,Qbc d.mana,Qbc d.hp,Yf d.name,c.inventory,u8n d.color,c.test,c.test4,c.strings,c.tables,c.enemy,c.nested,c.empty,.bool d.bool,Qfl d.s32,Zz d.u32,Qdw d.s64,Ya d.u64,Qfl d.s32a,Zz d.u32a,Qdw d.s64a,Ya d.u64a,c.bools,QcW d.f,QcW d.f2,QcW d.f3,
  c.strings2,c.abil,c.flex,c.test5,c.longs,c.doubles,c.parent,c.refs,Ya d.singleWeak,c.weak,c.strong,Ya d.coOwning,c.coOwnings,Ya d.nonOwning,c.nonOwnings,c.uniq,c.amb,c.enums,i8V d.signedEnum]
def bytI (b:UInt8):List Value:=[u8n b]
def f64I (x:UInt64):List Value:=[f64V x]
structure OD (F:Cut) (d:Qbt) (pos:List ZO) (empty:List ZJ) (c:OV):Prop where
 pos:OptO VecO pos F c.pos
 inventory:SlV F 1 c.inventory (d.inventory.map bytI)
 test4:PtrS (ItP Yw) d.test4 F c.test4
 strings:SlV F 1 c.strings (d.strings.map Qfd)
 nested:SlV F 1 c.nested (d.nested.map bytI)
 empty:OptO (ItP YL) empty F c.empty
 bools:SlV F 1 c.bools (d.bools.map QgW)
 strings2:SlV F 1 c.strings2 (d.strings2.map Qfd)
 abil:PtrS (ItP ZN) d.abilities F c.abil
 flex:SlV F 1 c.flex (d.flex.map bytI)
 test5:PtrS (ItP Yw) d.test5 F c.test5
 longs:SlV F 1 c.longs (d.longs.map i64I)
 doubles:SlV F 1 c.doubles (d.doubles.map f64I)
 parent:∃a:Option Addr,c.parent= .pointer a/\a.isSome=d.parent
 refs:PtrS (ItP Qai) d.refs F c.refs
 weak:SlV F 1 c.weak (d.weak.map Qai)
 strong:PtrS (ItP Qai) d.strong F c.strong
 coOwnings:SlV F 1 c.coOwnings (d.coOwnings.map Qai)
 nonOwnings:SlV F 1 c.nonOwnings (d.nonOwnings.map Qai)
 enums:SlV F 1 c.enums (d.enums.map bytI)
theorem OD.mono {F G:Cut} (h:F.le G) {d:Qbt} {pos:List ZO} {empty:List ZJ} {c:OV} (x:OD F d pos empty c):OD G d pos empty c:=
 ⟨OptO.mono (P:=VecO) (fun _ _ _ _ l h=>VecO.mono l h) h x.pos,x.inventory.mono h,x.test4.mono ItP.mono h,x.strings.mono h,x.nested.mono h,x.empty.mono ItP.mono h,x.bools.mono h,x.strings2.mono h,x.abil.mono ItP.mono h,x.flex.mono h,x.test5.mono ItP.mono h,x.longs.mono h,x.doubles.mono h,x.parent,x.refs.mono ItP.mono h,x.weak.mono h,x.strong.mono ItP.mono h,x.coOwnings.mono h,x.nonOwnings.mono h,x.enums.mono h⟩
def UniO (amb:Bool) (ty color:UInt8) (none':Prop) (K:Cut->Value->Prop) (F:Cut) (v:Value):Prop:=
 (ty=0/\color=0/\none'/\v= .pointer none)\/(ty≠0/\∃x,Za F v #[u8n ty,x]/\
  ((amb=false/\ty=2/\none'/\∃y,x= .iface 278 y/\Za F y #[u8n color])\/(¬(amb=false/\ty=2)/\color=0/\∃y,x= .iface 89 y/\K F y)))
theorem UniO.mono {amb:Bool} {ty color:UInt8} {n:Prop} {K:Cut->Value->Prop} (hK:∀F G v,Cut.le F G->K F v->K G v) {F G:Cut} {v:Value} (hl:F.le G) (h:UniO amb ty color n K F v):UniO amb ty color n K G v:=by
 rcases h with h|⟨h0,x,h1,h2⟩
 ·exact Or.inl h
 ·refine Or.inr ⟨h0,x,h1.mono hl,?_⟩
  rcases h2 with ⟨a,b,b',y,c,e⟩|⟨a,b,y,c,e⟩
  ·exact Or.inl ⟨a,b,b',y,c,e.mono hl⟩
  ·exact Or.inr ⟨a,b,y,c,hK _ _ _ hl e⟩
mutual
def ObjM:GM->Cut->Value->Prop
 |.mk d pos empty tables enemy test uniq amb=>fun F v=>∃c:OV,Za F v (oCells d c).toArray/\OD F d pos empty c/\
  (∃vs:List Value,SlV F 1 c.tables (vs.map fun x=>[x])/\Qj2 tables F vs)/\((enemy=[]/\c.enemy= .pointer none)\/Qdx enemy F c.enemy)/\
  UniO false d.testTy d.testColor (test=[]) (Qdx test) F c.test/\UniO false d.uniqTy d.uniqColor (uniq=[]) (Qdx uniq) F c.uniq/\UniO true d.ambTy d.ambColor (amb=[]) (Qdx amb) F c.amb
def Qj2:List GM->Cut->List Value->Prop
 |[],_,[]=>True
 |g::gs,F,v::vs=>ObjM g F v/\Qj2 gs F vs
 |_,_,_=>False
def Qdx:List GM->Cut->Value->Prop
 |[],_,_=>False
 |g::gs,F,v=>gs=[]/\ObjM g F v
end
theorem ObjM.ptr {g:GM} {F:Cut} {v:Value} (h:ObjM g F v):∃q,v= .pointer (some ⟨q,0,none⟩):=by
 cases g with
 |mk d pos empty tables enemy test uniq amb=>
  rw[ObjM]at h
  obtain ⟨c,⟨q,e,h1,_⟩,_⟩:=h
  exact ⟨q,h1⟩
mutual
theorem ObjM.mono:∀(g:GM) (F G:Cut) (v:Value),Cut.le F G->ObjM g F v->ObjM g G v
 |.mk d pos empty tables enemy test uniq amb,F,G,v,hl,h=>by
  rw[ObjM]at h⊢
  obtain ⟨c,h1,h2,⟨vs,h3,h4⟩,h5,h6,h7,h8⟩:=h
  refine ⟨c,h1.mono hl,h2.mono hl,⟨vs,h3.mono hl,Qj2.mono tables F G vs hl h4⟩,?_,h6.mono (Qdx.mono test) hl,h7.mono (Qdx.mono uniq) hl,h8.mono (Qdx.mono amb) hl⟩
  rcases h5 with h5|h5
  ·exact Or.inl h5
  ·exact Or.inr (Qdx.mono enemy F G _ hl h5)
theorem Qj2.mono:∀(gs:List GM) (F G:Cut) (vs:List Value),Cut.le F G->Qj2 gs F vs->Qj2 gs G vs
 |[],F,G,[],_,h=>by rw[Qj2];trivial
 |g::gs,F,G,v::vs,hl,h=>by
  rw[Qj2]at h⊢
  exact ⟨ObjM.mono g F G v hl h.1,Qj2.mono gs F G vs hl h.2⟩
 |[],_,_,_::_,_,h=>by simp only[Qj2]at h
 |_::_,_,_,[],_,h=>by simp only[Qj2]at h
theorem Qdx.mono:∀(gs:List GM) (F G:Cut) (v:Value),Cut.le F G->Qdx gs F v->Qdx gs G v
 |[],_,_,_,_,h=>by rw[Qdx]at h;exact h.elim
 |g::gs,F,G,v,hl,h=>by
  rw[Qdx]at h⊢
  exact ⟨h.1,ObjM.mono g F G v hl h.2⟩
end
theorem ObjL_of {gs:List GM} {F:Cut} {vs:List Value} (hl:vs.length=gs.length) (h:∀(j:Nat) v g,vs[j]?=some v->gs[j]?=some g->ObjM g F v):Qj2 gs F vs:=by
 induction gs generalizing vs with
 |nil=>
  cases vs with
  |nil=>rw[Qj2];trivial
  |cons v vs=>simp at hl
 |cons g gs ih=>
  cases vs with
  |nil=>simp at hl
  |cons v vs=>
   rw[Qj2]
   exact ⟨h 0 v g rfl rfl,ih (by simpa using hl) fun j v' g' h1 h2=>h (j+1) v' g' (by simpa using h1) (by simpa using h2)⟩
mutual
def TyM:Mon->Prop
 |.mk d tables enemy test uniq amb=>d.testTy<=3/\d.uniqTy<=3/\d.ambTy<=3/\TyL tables/\TyL enemy/\TyL test/\TyL uniq/\TyL amb
def TyL:List Mon->Prop
 |[]=>True
 |m::ms=>TyM m/\TyL ms
end
def BufG (G:Cut) (B:Nat) (bs:List UInt8):Prop:=∃cells e fr,G B=some (.cells cells e fr)/\bs.length<=cells.size
theorem BufG.mono {G G':Cut} (hl:G.le G') {B:Nat} {bs:List UInt8} (h:BufG G B bs):BufG G' B bs:=by
 obtain ⟨c,e,fr,h1,h2⟩:=h
 exact ⟨c,e,fr,hl _ _ h1,h2⟩
theorem buf_sl {G:Cut} {B:Nat} {bs:List UInt8} (hB:BufG G B bs) {H:Qe} (hG:G.In H) (hu:U8s H B 0 bs) {o n c:Nat} {xs:List UInt8} (hx:Qx bs o xs) (hn:xs.length=n) (hc:n<=c):SlV G 1 (bsl B o n c) (xs.map bytI):=by
 subst hn
 obtain ⟨cells,e,fr,h1,h2⟩:=hB
 have h3:=QiA hu (o:=o) (n:=xs.length) (i:=0) (by have:=hx.1;omega)
 have h4:=Q4 (hG _ _ h1) (o:=o) (i:=0) xs.length (by have:=hx.1;omega)
 rw[h3,Nat.add_zero,hx.2]at h4
 refine ⟨by simp[bytI],Or.inr ⟨B,o,c,cells,e,fr,by simp,h1,by simp;have:=hx.1;omega,?_,by simpa using hc⟩⟩
 rw[List.length_map,Nat.mul_one]
 have h5:=Option.some.inj h4
 rw[<-h5]
 clear h1 h2 h3 h4 h5 hx hc
 induction xs with
 |nil=>rfl
 |cons x xs ih=>rw[List.map_cons,List.map_cons,List.flatten_cons,<-ih];rfl
def Qh2 (m:Mon):Prop:=∀(A p B pos:Nat) (bs:List UInt8) (G:Cut) (H:Qe) (R:Kn),Tab H p B bs pos->BufG G B bs->G.In H->RwM m A bs pos->
 (∀v H' G',Ext G H G' H'->v.oneCell'=true->ObjM (rwM m) G' v->R v H')->FnS prog 33 #[ptr p] H R
section
variable {zs:List Value} {T:TypeId} {G0:Cut} {H0:Qe} {q:Nat} {G:Cut} {H:Qe} {done:List Value} (us:US zs T G0 H0 q G H done) {p B:Nat} {bs:List UInt8} {pos:Nat} (ht:Tab H0 p B bs pos)
include us ht
theorem QcS {f:FuncId} {i:Nat} {v:Value} {K:Qe->Prop} (hf:∀H' (R:Kn),Tab H' p B bs pos->R v H'->FnS prog f #[ptr p] H' R) (hi:i=done.length) (hz:i<zs.length) (hv:v.oneCell'=true)
  (hk:∀H',US zs T G0 H0 q G H' (v::done)->K H'):Qa prog f #[ptr p] H fun v' h1=>Qe5 (ptr q) i h1 v' K:=
 hf H _ (Qfh us ht) (us.put hi hz hv fun H' u _=>hk H' u)
variable {ti:TypeId} {lenf f g:FuncId} {fld:Nat} {et:TypeId} {bts:Nat} {z:Array Value} {K:Qe->Prop} (hf:fld=done.length) (hz:fld<zs.length) (hz1:z.size=1) (hb:bts<=16)
include hf hz hz1 hb
theorem Qhj {α:Type} (l:List α) (enc:α->Value) (item:α->List Value) (hit:∀a,item a=[enc a]) (hone:∀a,(enc a).oneCell'=true) (hl:l.length<2147483648) (hL:∀H' (R:Kn),Tab H' p B bs pos->R (.int .i64 (l.length:Nat)) H'->FnS prog lenf #[ptr p] H' R)
  (hI:∀(i:Nat) a H' (R:Kn),Tab H' p B bs pos->l[i]?=some a->R (enc a) H'->FnS prog f #[ptr p,.int .i64 (i:Nat)] H' R)
  (hK:∀G' H' s,US zs T G0 H0 q G' H' (s::done)->G.le G'->SlV G' 1 s (l.map item)->K H'):
  Qa prog lenf #[ptr p] H fun n h1=>Qcm prog ti (ptr q) fld et bts z n h1 (lpS prog f (ptr p) (ptr q) fld) K:=by
 refine hL H _ (Qfh us ht) (mkLoop_of us hf hz hz1 hl hb (fun i _ v=>∀a,l[i]?=some a->v=enc a) (fun _ _ _ _ _ h=>h) ?_ ?_)
 ·intro i G1 H1 s k hi u le hp
  have ha:=List.getElem?_eq_getElem hi
  exact lpS_of u hf (fun R h=>hI i _ H1 R (Qfh u ht) ha h) (hp G1 H1 _ (Ext.refl u.ext.inn) (hone _) fun a h=>by rw[ha]at h;cases h;rfl)
 ·rintro G' H' s u le ⟨vs,h1,h2,h3⟩
  refine hK G' H' s u le ?_
  have e:(vs.map fun v=>[v])=l.map item:=by
   apply List.ext_getElem?
   intro j
   rw[List.getElem?_map,List.getElem?_map]
   rcases Nat.lt_or_ge j l.length with h|h
   ·have a1:=List.getElem?_eq_getElem h
    have a2:=List.getElem?_eq_getElem (l:=vs) (i:=j) (by omega)
    rw[a1,a2,Option.map_some,Option.map_some,hit,h3 j _ a2 _ a1]
   ·rw[List.getElem?_eq_none h,List.getElem?_eq_none (by omega)];rfl
  rw[<-e];exact h1
theorem up_text (l:List (List UInt8)) (hl:l.length<2147483648) (hL:∀H' (R:Kn),Tab H' p B bs pos->R (.int .i64 (l.length:Nat)) H'->FnS prog lenf #[ptr p] H' R)
  (hI:∀(i:Nat) a H' (R:Kn),Tab H' p B bs pos->l[i]?=some a->(∀o n c,Qx bs o a->a.length=n->R (bsl B o n c) H')->FnS prog f #[ptr p,.int .i64 (i:Nat)] H' R)
  (hK:∀G' H' s,US zs T G0 H0 q G' H' (s::done)->G.le G'->SlV G' 1 s (l.map Qfd)->K H'):
  Qa prog lenf #[ptr p] H fun n h1=>Qcm prog ti (ptr q) fld et bts z n h1 (lpT prog f (ptr p) (ptr q) fld) K:=by
 refine hL H _ (Qfh us ht) (mkLoop_of us hf hz hz1 hl hb (fun i _ v=>∀a,l[i]?=some a->v=Yf a) (fun _ _ _ _ _ h=>h) ?_ ?_)
 ·intro i G1 H1 s k hi u le hp
  have ha:=List.getElem?_eq_getElem hi
  refine u.get (v:=s) (by rw[hf];simp) (hI i _ H1 _ (Qfh u ht) ha fun o n c hx hn=>Qn (Qaf.refl _).ext ((Qfh u ht).str hx hn ?_))
  exact hp G1 H1 _ (Ext.refl u.ext.inn) rfl fun a h=>by rw[ha]at h;cases h;rfl
 ·rintro G' H' s u le ⟨vs,h1,h2,h3⟩
  refine hK G' H' s u le ?_
  have e:(vs.map fun v=>[v])=l.map Qfd:=by
   apply List.ext_getElem?
   intro j
   rw[List.getElem?_map,List.getElem?_map]
   rcases Nat.lt_or_ge j l.length with h|h
   ·have a1:=List.getElem?_eq_getElem h
    have a2:=List.getElem?_eq_getElem (l:=vs) (i:=j) (by omega)
    rw[a1,a2,Option.map_some,Option.map_some,h3 j _ a2 _ a1];rfl
   ·rw[List.getElem?_eq_none h,List.getElem?_eq_none (by omega)];rfl
  rw[<-e];exact h1
theorem up_obj {α:Type} {zc:Array Value} {tz:TypeId} (hzc:zc.size=2) (hoc:∀v∈zc.toList,v.oneCell'=true) (l:List α) (P:α->Cut->Value->Prop) (hP:∀a F G v,Cut.le F G->P a F v->P a G v) (loc:Nat->Nat) (hl:l.length<2147483648)
  (hL:∀H' (R:Kn),Tab H' p B bs pos->R (.int .i64 (l.length:Nat)) H'->FnS prog lenf #[ptr p] H' R)
  (hI:∀(i:Nat) a H' (R:Kn),Tab H' p B bs pos->l[i]?=some a->loc i<=bs.length/\∀q',H'[q']?=some (.cells zc tz (0,0))->R (.bool true) (setB H' q' (.cells #[bsl B 0 bs.length bs.length,.int .u32 (loc i:Nat)] tz (0,0)))->FnS prog f #[ptr p,ptr q',.int .i64 (i:Nat)] H' R)
  (hU:∀(i:Nat) a G' H' p',l[i]?=some a->Tab H' p' B bs (loc i)->G0.le G'->G'.In H'->∀R:Kn,(∀G2 H2 v,Ext G' H' G2 H2->v.oneCell'=true->P a G2 v->R v H2)->FnS prog g #[ptr p'] H' R)
  (hK:∀G' H' s,US zs T G0 H0 q G' H' (s::done)->G.le G'->PtrS P l G' s->K H'):
  Qa prog lenf #[ptr p] H fun n h1=>Qcm prog ti (ptr q) fld et bts z n h1 (lpO prog zc tz f g (ptr p) (ptr q) fld) K:=by
 refine hL H _ (Qfh us ht) (mkLoop_of us hf hz hz1 hl hb (fun i G v=>∀a,l[i]?=some a->P a G v) (fun _ _ _ _ hl h a ha=>hP _ _ _ _ hl (h a ha)) ?_ ?_)
 ·intro i G1 H1 s k hi u le hp
  have ha:=List.getElem?_eq_getElem hi
  have u1:=u.push (.cells zc tz)
  have u2:=u.push (.cells #[bsl B 0 bs.length bs.length,.int .u32 (loc i:Nat)] tz)
  refine lpO_of u hf (c:=#[bsl B 0 bs.length bs.length,.int .u32 (loc i:Nat)]) (Q:=fun G v=>∀a,l[i]?=some a->P a G v) hzc hoc (fun R h=>(hI i _ _ R (Qfh u1 ht) ha).2 _ Qh (by rw[Yq];exact h)) (fun R h=>hU i _ G1 _ _ ha ⟨Qj Qh,Qj Qh,(Qfh u2 ht).u8,ht.lt,(hI i _ _ (fun _ _=>True) (Qfh u1 ht) ha).1⟩ (Cut.le_trans us.ext.le le) u2.ext.inn R fun G2 H2 v e h1 h2=>h G2 H2 v e h1 fun a h'=>by rw[ha]at h';cases h';exact h2) hp
 ·rintro G' H' s u le ⟨vs,h1,h2,h3⟩
  exact hK G' H' s u le ⟨vs,h1,h2,fun j x a hx ha=>h3 j x hx a ha⟩
end
end Go.Proofs
