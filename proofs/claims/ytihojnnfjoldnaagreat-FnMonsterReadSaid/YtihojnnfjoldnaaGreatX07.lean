/- WHAT IS PROVED: the given statement of FnMonsterRead, whatever the input: this is part 7 of 13. No conditions. -/
import Derived.Test.YtihojnnfjoldnaaGreatX06
set_option linter.all false
namespace Go.Proofs
open Go Go.Vc
open Tryz (prog)
theorem Yw.id {S:BS} (h:Inv S):Yw S 0 (S,0):=⟨h,Nat.le_refl _,Nat.le_refl _,Nat.zero_le _⟩
theorem Yw.mono {S:BS} {c c':Nat} {q:BS×Nat} (h:Yw S c q) (hc:c<=c'):Yw S c' q:=⟨h.inv,Nat.le_trans h.len (by omega),h.le,h.off⟩
theorem QbP (xs:List UInt8) {S:BS} (h:Inv S):Yw S (xs.length+8) (QaR xs S):=by
 obtain ⟨h1,h2,h3⟩:=h.createStr xs
 exact ⟨h1,by show (createStr xs S).buf.length<=_;omega,by show _<=(createStr xs S).buf.length;omega,Nat.le_refl _⟩
theorem QhP (xs:List UInt8) {S:BS} (h:Inv S):Yw S (xs.length+8) (optB xs S):=by
 unfold optB
 split
 ·exact (Yw.id h).mono (by omega)
 ·exact QbP xs h
theorem Qbi {es al:Nat} {items:List (List UInt8)} (hal:P2 al) (hi:∀x∈items,x.length=es) {S:BS} (h:Inv S):Yw S (es*items.length+15) (Qgl es al items S):=by
 unfold Qgl
 split
 ·exact (Yw.id h).mono (by omega)
 ·exact (Yw.vecS h hal hi).1
theorem optO_ok {q:BS->BS×List Nat} {c n:Nat} {S:BS} (hI:Inv S) (hq:Inv (q S).1/\(q S).1.buf.length<=S.buf.length+c/\S.buf.length<=(q S).1.buf.length) (hn:(q S).2.length=n):Yw S (c+4*n+15) (QhE q S):=by
 obtain ⟨h1,h2,h3⟩:=hq
 unfold QhE
 split
 ·exact (Yw.id hI).mono (by omega)
 ·have:=(Yw.vecS (es:=4) (al:=4) (items:=Zh (QL 4 (q S).2.length 4 (q S).1).buf.length (q S).2) h1 P2_4 (Qc8 _ _)).1
  have e:(Zh (QL 4 (q S).2.length 4 (q S).1).buf.length (q S).2).length=n:=by rw[QcU,hn]
  refine ⟨this.inv,?_,?_,this.off⟩
  ·have l:=this.len
   rw[e]at l
   refine Nat.le_trans l ?_
   omega
  ·exact Nat.le_trans h3 this.le
theorem optStat_ok (d:Option QaX) {S:BS} (h:Inv S):Yw S (Qhq d+100) (QgB d S):=by
 unfold QgB
 cases d with
 |none=>exact (Yw.id h).mono (by omega)
 |some s=>exact (packStat_ok s h).1
theorem Qi2 (b:Bool) {S:BS} (h:Inv S):Yw S 40 (Qdx b S):=by
 unfold Qdx
 cases b
 ·exact (Yw.id h).mono (by omega)
 ·exact (packParent_ok h).1
theorem Qen {amb:Bool} {ty color:UInt8} {kid:BS->BS×Nat} {c:Nat} {S:BS} (h:Inv S) (hk:Yw S c (kid S)):Yw S (c+40) (Qb9 amb ty color kid S):=by
 unfold Qb9
 split
 ·exact (Yw.id h).mono (by omega)
 ·split
  ·exact (packSimple_ok color h).1.mono (by omega)
  ·exact hk.mono (by omega)
theorem Qb8 {α:Type} (c:Nat):∀l:List α,(l.map fun _=>c).sum=c*l.length
 |[]=>by simp
 |x::l=>by simp[Qb8 c l,Nat.mul_add];omega
theorem QcM {α:Type} (f:α->Nat) (c:Nat):∀l:List α,(l.map fun x=>f x+c).sum=(l.map f).sum+c*l.length
 |[]=>by simp
 |x::l=>by simp[QcM f c l,Nat.mul_add];omega
theorem strs_ok (l:List (List UInt8)) {S:BS} (h:Inv S):Yw S ((l.map List.length).sum+12*l.length+15) (QhE (Q5 QaR l) S):=by
 obtain ⟨h1,h2,h3,_⟩:=QbI (f:=QaR) (c:=fun x=>x.length+8) l (fun x _ S hS=>QbP x hS) S h
 rw[QcM]at h2
 exact (optO_ok h ⟨h1,h2,h3⟩ (Qa0 _ _ _)).mono (by omega)
theorem refs_ok (l:List UInt64) {S:BS} (h:Inv S):Yw S (44*l.length+15) (QhE (Q5 QaW l) S):=by
 obtain ⟨h1,h2,h3,_⟩:=QbI (f:=QaW) (c:=fun _=>40) l (fun x _ S hS=>(QeA x hS).1) S h
 rw[Qb8]at h2
 exact (optO_ok h ⟨h1,h2,h3⟩ (Qa0 _ _ _)).mono (by omega)
end Go.Proofs
namespace Go.Proofs
open Go Go.Vc
open Tryz (prog)
theorem foldMk_ok:∀(fs:List (BS->BS×Nat)) (cs:List Nat),fs.length=cs.length->(∀(i:Nat) f c,fs[i]?=some f->cs[i]?=some c->∀S,Inv S->Yw S c (f S))->∀S,Inv S->
  Inv (Q5 (fun f=>f) fs S).1/\(Q5 (fun f=>f) fs S).1.buf.length<=S.buf.length+cs.sum/\S.buf.length<=(Q5 (fun f=>f) fs S).1.buf.length/\∀o∈(Q5 (fun f=>f) fs S).2,o<=(Q5 (fun f=>f) fs S).1.buf.length
 |[],[],_,_,S,h=>⟨h,by simp[Q5],Nat.le_refl _,by simp[Q5]⟩
 |f::fs,c::cs,hl,hf,S,h=>by
  have h1:=hf 0 f c rfl rfl S h
  obtain ⟨g1,g2,g3,g4⟩:=foldMk_ok fs cs (by simpa using hl) (fun i f c a b=>hf (i+1) f c (by simpa using a) (by simpa using b)) (f S).1 h1.inv
  have h2:=h1.len
  have h3:=h1.le
  have h4:=h1.off
  refine ⟨g1,?_,?_,?_⟩
  ·show (Q5 (fun f=>f) fs (f S).1).1.buf.length<=_
   simp only[List.sum_cons];omega
  ·show _<=(Q5 (fun f=>f) fs (f S).1).1.buf.length
   omega
  ·intro o ho
   show o<=(Q5 (fun f=>f) fs (f S).1).1.buf.length
   rcases List.mem_cons.1 ho with rfl|ho
   ·exact Nat.le_trans h4 g3
   ·exact g4 o ho
def MkOk:List (BS->BS×Nat)->List Nat->Prop
 |[],[]=>True
 |f::fs,c::cs=>(∀S,Inv S->Yw S c (f S))/\MkOk fs cs
 |_,_=>False
theorem MkOk.to:∀{fs:List (BS->BS×Nat)} {cs:List Nat},MkOk fs cs->fs.length=cs.length/\∀(i:Nat) f c,fs[i]?=some f->cs[i]?=some c->∀S,Inv S->Yw S c (f S)
 |[],[],_=>⟨rfl,fun i f c h=>by simp at h⟩
 |f::fs,c::cs,h=>by
  obtain ⟨h1,h2⟩:=h
  obtain ⟨g1,g2⟩:=MkOk.to h2
  refine ⟨by simp[g1],fun i f' c' a b=>?_⟩
  cases i with
  |zero=>simp at a b;subst a;subst b;exact h1
  |succ i=>exact g2 i f' c' (by simpa using a) (by simpa using b)
 |[],_::_,h=>h.elim
 |_::_,[],h=>h.elim
theorem runS_ok {S0:BS} {n k:Nat}:∀(fs:List (BS->BS)),(∀f∈fs,∀c S,YA S0 n c S->YA S0 n (c+k) (f S))->∀c S,YA S0 n c S->YA S0 n (c+k*fs.length) (Zi fs S)
 |[],_,c,S,h=>by simpa [Zi]using h
 |f::fs,hf,c,S,h=>by
  have h1:=hf f List.mem_cons_self c S h
  have h2:=runS_ok fs (fun g hg=>hf g (List.mem_cons_of_mem _ hg)) (c+k) (f S) h1
  refine h2.mono ?_
  simp only[List.length_cons,Nat.mul_add];omega
theorem vec3_len (v:Qbb):(Qhi v).length=32:=by simp[Qhi,vec3B,Qi]
theorem YA.slotPos {S0 S:BS} {n c:Nat} (h:YA S0 n c S) (pos:Option Qbb):YA S0 n (c+64) (Proofs.slotPos pos S):=by
 unfold Proofs.slotPos
 cases pos with
 |none=>exact h.mono (by omega)
 |some v=>
  have h1:=((h.prep (a:=32) Qfj).place (Qhi v)).slotStruct (off:=(Vc.place (Qhi v) (Vc.prep 8 32 S)).buf.length) (o:=0)
  exact h1.mono (by rw[vec3_len];omega)
theorem YA.slotTy {S0 S:BS} {n c o:Nat} {ty:UInt8} (h:YA S0 n c S):YA S0 n (c+64) (Proofs.slotTy ty o S):=by
 unfold Proofs.slotTy
 split
 ·exact h.mono (by omega)
 ·exact (h.slotN P2_1).mono (by omega)
set_option maxRecDepth 4000 in
theorem slots_ok (d:QcO) (o:List Nat) {S0:BS} {n:Nat}:∀f∈Yl d o,∀c S,YA S0 n c S->YA S0 n (c+64) (f S):=by
 intro f hf c S h
 have hN:∀{k x dd oo:Nat},P2 k->YA S0 n (c+64) (slotN k x dd oo S):=fun hk=>(h.slotN hk).mono (by omega)
 have hO:∀{x oo:Nat},YA S0 n (c+64) (slotOff x oo S):=h.slotOff.mono (by omega)
 have hFl:∀{x dd oo:Nat},YA S0 n (c+64) (slotF x dd oo S):=h.slotF.mono (by omega)
 unfold Yl at hf
 simp only[List.mem_cons,List.not_mem_nil,or_false]at hf
 rcases hf with rfl|rfl|rfl|rfl|rfl|rfl|rfl|rfl|rfl|rfl|rfl|rfl|rfl|rfl|rfl|rfl|rfl|rfl|rfl|rfl|rfl|rfl|rfl|rfl|rfl|rfl|rfl|rfl|rfl|rfl|rfl|rfl|rfl|rfl|rfl|rfl|rfl|rfl|rfl|rfl|rfl|rfl|rfl|rfl|rfl|rfl|rfl|rfl|rfl
 all_goals first
  |exact h.slotPos _
  |exact h.slotTy
  |exact hO
  |exact hFl
  |exact hN P2_1
  |exact hN P2_2
  |exact hN P2_4
  |exact hN Qfj
end Go.Proofs
namespace Go.Proofs
open Go Go.Vc
open Tryz (prog)
theorem QaU (a b:Nat):(QaJ a b).length=4:=by simp[QaJ,Qi]
theorem QbM (a b:Nat):(Zv a b).length=8:=by simp[Zv,Qi]
theorem Yc {α:Type} {f:α->List UInt8} {k:Nat} (h:∀x,(f x).length=k) {l:List α}:∀y∈l.map f,y.length=k:=by
 intro y hy
 obtain ⟨x,_,rfl⟩:=List.mem_map.1 hy
 exact h x
def QfO (d:QcO) (ct nt ce cu cq ca:Nat):List Nat:=
 [d.name.length+8,d.inventory.length+8,cu+40,4*d.test4.length+15,(d.strings.map List.length).sum+12*d.strings.length+15,ct+4*nt+15,ce,d.nested.length+8,Qhq d.empty+100,
  1*d.bools.length+15,(d.strings2.map List.length).sum+12*d.strings2.length+15,8*d.abilities.length+15,d.flex.length+8,4*d.test5.length+15,8*d.longs.length+15,8*d.doubles.length+15,40,
  44*d.refs.length+15,8*d.weak.length+15,44*d.strong.length+15,8*d.coOwnings.length+15,8*d.nonOwnings.length+15,cq+40,ca+40,1*d.enums.length+15]
theorem makers_ok (d:QcO) {tables:BS->BS×List Nat} {enemy test uniq amb:BS->BS×Nat} {ct nt ce cu cq ca:Nat}
  (ht:∀S,Inv S->(Inv (tables S).1/\(tables S).1.buf.length<=S.buf.length+ct/\S.buf.length<=(tables S).1.buf.length)/\(tables S).2.length=nt)
  (he:∀S,Inv S->Yw S ce (enemy S)) (hu:∀S,Inv S->Yw S cu (test S)) (hq:∀S,Inv S->Yw S cq (uniq S)) (ha:∀S,Inv S->Yw S ca (amb S)):
  MkOk (Qgh d tables enemy test uniq amb) (QfO d ct nt ce cu cq ca):=by
 have hu8:∀x,(Qap x).length=8:=fun x=>Qi _ _
 have v8:∀(l:List UInt64) S,Inv S->Yw S (8*l.length+15) (Qgl 8 8 (l.map Qap) S):=fun l S h=>by
  have:=Qbi (es:=8) Qfj (Yc hu8 (l:=l)) h
  rwa [List.length_map]at this
 refine ⟨fun S h=>QbP _ h,fun S h=>QhP _ h,fun S h=>Qen h (hu S h),fun S h=>?_,fun S h=>strs_ok _ h,fun S h=>optO_ok h (ht S h).1 (ht S h).2,he,fun S h=>QhP _ h,fun S h=>optStat_ok _ h,fun S h=>?_,fun S h=>strs_ok _ h,
  fun S h=>?_,fun S h=>QhP _ h,fun S h=>?_,v8 _,v8 _,fun S h=>Qi2 _ h,fun S h=>refs_ok _ h,v8 _,fun S h=>refs_ok _ h,v8 _,v8 _,fun S h=>Qen h (hq S h),fun S h=>Qen h (ha S h),fun S h=>?_,trivial⟩
 ·have:=Qbi (es:=4) P2_2 (Yc (fun t:Qbo=>QaU t.a.toNat t.b.toNat) (l:=d.test4)) h
  rwa [List.length_map]at this
 ·have:=Qbi (es:=1) P2_1 (Yc (fun b:Bool=>(rfl:(QeF b).length=1)) (l:=d.bools)) h
  rwa [List.length_map]at this
 ·have:=Qbi (es:=8) P2_4 (Yc (fun t:Qeu=>QbM t.id.toNat t.dist.toNat) (l:=d.abilities)) h
  rwa [List.length_map]at this
 ·have:=Qbi (es:=4) P2_2 (Yc (fun t:Qbo=>QaU t.a.toNat t.b.toNat) (l:=d.test5)) h
  rwa [List.length_map]at this
 ·have:=Qbi (es:=1) P2_1 (Yc (fun b:UInt8=>(rfl:[b].length=1)) (l:=d.enums)) h
  rwa [List.length_map]at this
theorem packT_ok (d:QcO) {tables:BS->BS×List Nat} {enemy test uniq amb:BS->BS×Nat} {ct nt ce cu cq ca:Nat}
  (ht:∀S,Inv S->(Inv (tables S).1/\(tables S).1.buf.length<=S.buf.length+ct/\S.buf.length<=(tables S).1.buf.length)/\(tables S).2.length=nt)
  (he:∀S,Inv S->Yw S ce (enemy S)) (hu:∀S,Inv S->Yw S cu (test S)) (hq:∀S,Inv S->Yw S cq (uniq S)) (ha:∀S,Inv S->Yw S ca (amb S)) {S:BS} (h:Inv S):
  Yw S (Qhy d+60*nt+ct+ce+cu+cq+ca) (packT d tables enemy test uniq amb S)/\0<(packT d tables enemy test uniq amb S).2:=by
 obtain ⟨m1,m2⟩:=MkOk.to (makers_ok d ht he hu hq ha)
 obtain ⟨g1,g2,g3,g4⟩:=foldMk_ok _ _ m1 m2 S h
 unfold packT
 generalize Q5 (fun f=>f) (Qgh d tables enemy test uniq amb) S=q at *
 have hs:=runS_ok (Yl d q.2) (slots_ok d q.2) 0 _ (YA.start (n:=49) g1.min)
 have hp:=Yw.endT hs g1 (by decide)
 refine ⟨⟨hp.1.inv,?_,Nat.le_trans g3 hp.1.le,hp.1.off⟩,hp.2⟩
 have h1:=hp.1.len
 have hl:(Yl d q.2).length=48:=rfl
 rw[hl]at h1
 have hsum:(QfO d ct nt ce cu cq ca).sum+4000<=Qhy d+60*nt+ct+ce+cu+cq+ca:=by
  unfold QfO Qhy
  simp only[List.sum_cons,List.sum_nil]
  omega
 omega
mutual
theorem QeG:∀(m:Mon) (S:BS),Inv S->Yw S (Qcq m) (ZT m S)/\0<(ZT m S).2
 |.mk d tables enemy test uniq amb,S,h=>by
  have:=packT_ok (d:=d) (ct:=ZI tables) (nt:=tables.length) (ce:=ZI enemy) (cu:=ZI test) (cq:=ZI uniq) (ca:=ZI amb) (tables:=Qdb tables) (enemy:=YW enemy) (test:=YW test) (uniq:=YW uniq) (amb:=YW amb)
   (fun S h=>QfA tables S h) (fun S h=>Qar enemy S h) (fun S h=>Qar test S h) (fun S h=>Qar uniq S h) (fun S h=>Qar amb S h) h
  rw[ZT]
  refine ⟨this.1.mono ?_,this.2⟩
  rw[Qcq];omega
theorem QfA:∀(ms:List Mon) (S:BS),Inv S->(Inv (Qdb ms S).1/\(Qdb ms S).1.buf.length<=S.buf.length+ZI ms/\S.buf.length<=(Qdb ms S).1.buf.length)/\(Qdb ms S).2.length=ms.length
 |[],S,h=>by rw[Qdb];exact ⟨⟨h,Nat.le_add_right _ _,Nat.le_refl _⟩,rfl⟩
 |m::ms,S,h=>by
  have h1:=(QeG m S h).1
  have h2:=QfA ms (ZT m S).1 h1.inv
  have:=h1.len
  have:=h1.le
  have:=h2.1.2.1
  have:=h2.1.2.2
  rw[Qdb,ZI]
  exact ⟨⟨h2.1.1,by show (Qdb ms (ZT m S).1).1.buf.length<=_;omega,by show _<=(Qdb ms (ZT m S).1).1.buf.length;omega⟩,by simp[h2.2]⟩
theorem Qar:∀(ms:List Mon) (S:BS),Inv S->Yw S (ZI ms) (YW ms S)
 |[],S,h=>by rw[YW];exact (Yw.id h).mono (Nat.zero_le _)
 |m::ms,S,h=>by
  rw[YW,ZI]
  exact (QeG m S h).1.mono (by omega)
end
end Go.Proofs
namespace Go.Proofs
open Go Go.Vc
open Tryz (prog)
theorem costs_mem:∀{k:Mon} {l:List Mon},k∈l->Qcq k<=ZI l
 |k,[],h=>by simp at h
 |k,m::ms,h=>by
  rw[ZI]
  rcases List.mem_cons.1 h with rfl|h
  ·omega
  ·have:=costs_mem h;omega
theorem costs_sum:∀l:List Mon,(l.map Qcq).sum=ZI l
 |[]=>rfl
 |m::ms=>by rw[List.map_cons,List.sum_cons,ZI,costs_sum ms]
def PackOk (n:Nat):Prop:=∀(m:Mon),Qcq m<n->∀(H:Qf) (p:Nat) (S:BS) (F:Cut) (r:Nat) (v:Value) (R:Kn),Qc H p S F r->Inv S->MT F v m->S.buf.length+Qcq m+20000<=536870912->
 (∀H',Qc H' p (ZT m S).1 F 0->R (.int .u32 ((ZT m S).2:Nat)) H')->FnS prog 21 #[v,.pointer (some ⟨p,0,none⟩)] H R
theorem kidOk {n:Nat} (ih:PackOk n) {p:Nat} {S:BS} {F:Cut} {r:Nat} {H:Qf} {c:Value} {kids:List Mon} (hB:Qc H p S F r) (hI:Inv S) (hs:ZI kids<n) (hm:∀k,k∈kids->MT F c k) (hl:S.buf.length+ZI kids+20000<=536870912):KidOk p S F H c kids:=by
 rintro k rfl R hR
 refine ih k ?_ H p S F r c R hB hI (hm k (by simp)) ?_ hR
 ·rw[ZI,ZI]at hs;omega
 ·rw[ZI,ZI]at hl;omega
end Go.Proofs
namespace Go.Proofs
open Go Go.Vc
open Tryz (prog)
set_option maxRecDepth 4000
def packTail (x0 x1 x78 x6 x95 x8 x11 x16 x226 x22 x243 x24 x27 x32 x35 x36 x39 x42 x462 x46 x51 x54 x59 x62 x655 x661 x67:Value) (h128:Qf) (R:Kn):Prop:=
 Qa prog 114 #[x1] h128 fun _x694 h129=>
 Qs x0 fun x696=>
 Qg x696 0 fun x697=>
 LdK h129 x697 fun x698=>
 Qa prog 115 #[x698,x1] h129 fun x700 h130=>
 Qa prog 116 #[x1,x700] h130 fun _x703 h131=>
 Qs x0 fun x706=>
 Qg x706 1 fun x707=>
 LdK h131 x707 fun x708=>
 Qa prog 117 #[x1,x708] h131 fun _x709 h132=>
 Qs x0 fun x712=>
 Qg x712 2 fun x713=>
 LdK h132 x713 fun x714=>
 Qa prog 118 #[x1,x714] h132 fun _x715 h133=>
 Qa prog 119 #[x1,x78] h133 fun _x718 h134=>
 Qa prog 120 #[x1,x6] h134 fun _x721 h135=>
 Qs x0 fun x724=>
 Qg x724 5 fun x725=>
 LdK h135 x725 fun x726=>
 Qa prog 121 #[x1,x726] h135 fun _x727 h136=>
 QO (fun M79=>
 Qs x0 fun x729=>
 Qg x729 6 fun x730=>
 LdK h136 x730 fun x731=>
 Ql prog .neq 145 x731 (.pointer none) fun x732=>
 IfK x732
 (Qs x0 fun x735=>
 Qg x735 6 fun x736=>
 LdK h136 x736 fun x737=>
 Qs x737 fun x738=>
 Qg x738 0 fun x739=>
 LdK h136 x739 fun x740=>
 Qa prog 122 #[x1,x740] h136 fun _x741 h137=>
 M79 [] h137)
 (M79 [] h136)) fun M79=>∀h138:Qf,M79 [] h138->
 Qa prog 123 #[x1,x95] h138 fun _x744 h139=>
 Qa prog 124 #[x1,x8] h139 fun _x747 h140=>
 Qa prog 125 #[x1,x11] h140 fun _x750 h141=>
 Qa prog 126 #[x1,x16] h141 fun _x753 h142=>
 Qa prog 127 #[x1,x226] h142 fun _x756 h143=>
 Qa prog 128 #[x1,x22] h143 fun _x759 h144=>
 Qa prog 129 #[x1,x243] h144 fun _x762 h145=>
 Qs x0 fun x765=>
 Qg x765 13 fun x766=>
 LdK h145 x766 fun x767=>
 Qa prog 130 #[x1,x767] h145 fun _x768 h146=>
 Qs x0 fun x771=>
 Qg x771 14 fun x772=>
 LdK h146 x772 fun x773=>
 Qa prog 131 #[x1,x773] h146 fun _x774 h147=>
 Qs x0 fun x777=>
 Qg x777 15 fun x778=>
 LdK h147 x778 fun x779=>
 Qa prog 132 #[x1,x779] h147 fun _x780 h148=>
 Qs x0 fun x783=>
 Qg x783 16 fun x784=>
 LdK h148 x784 fun x785=>
 Qa prog 133 #[x1,x785] h148 fun _x786 h149=>
 Qs x0 fun x789=>
 Qg x789 17 fun x790=>
 LdK h149 x790 fun x791=>
 Qa prog 134 #[x1,x791] h149 fun _x792 h150=>
 Qs x0 fun x795=>
 Qg x795 18 fun x796=>
 LdK h150 x796 fun x797=>
 Qa prog 135 #[x1,x797] h150 fun _x798 h151=>
 Qs x0 fun x801=>
 Qg x801 19 fun x802=>
 LdK h151 x802 fun x803=>
 Qa prog 136 #[x1,x803] h151 fun _x804 h152=>
 Qs x0 fun x807=>
 Qg x807 20 fun x808=>
 LdK h152 x808 fun x809=>
 Qa prog 137 #[x1,x809] h152 fun _x810 h153=>
 Qs x0 fun x813=>
 Qg x813 21 fun x814=>
 LdK h153 x814 fun x815=>
 Qa prog 138 #[x1,x815] h153 fun _x816 h154=>
 Qa prog 139 #[x1,x24] h154 fun _x819 h155=>
 Qs x0 fun x822=>
 Qg x822 23 fun x823=>
 LdK h155 x823 fun x824=>
 Qa prog 140 #[x1,x824] h155 fun _x825 h156=>
 Qs x0 fun x828=>
 Qg x828 24 fun x829=>
 LdK h156 x829 fun x830=>
 Qa prog 141 #[x1,x830] h156 fun _x831 h157=>
 Qs x0 fun x834=>
 Qg x834 25 fun x835=>
 LdK h157 x835 fun x836=>
 Qa prog 142 #[x1,x836] h157 fun _x837 h158=>
 Qa prog 143 #[x1,x27] h158 fun _x840 h159=>
 Qa prog 144 #[x1,x32] h159 fun _x843 h160=>
 Qa prog 145 #[x1,x35] h160 fun _x846 h161=>
 Qa prog 146 #[x1,x36] h161 fun _x849 h162=>
 Qa prog 147 #[x1,x39] h162 fun _x852 h163=>
 Qa prog 148 #[x1,x42] h163 fun _x855 h164=>
 Qa prog 149 #[x1,x462] h164 fun _x858 h165=>
 Qa prog 150 #[x1,x46] h165 fun _x861 h166=>
 Qs x0 fun x864=>
 Qg x864 34 fun x865=>
 LdK h166 x865 fun x866=>
 Qa prog 151 #[x1,x866] h166 fun _x867 h167=>
 Qa prog 152 #[x1,x51] h167 fun _x870 h168=>
 Qa prog 153 #[x1,x54] h168 fun _x873 h169=>
 Qs x0 fun x876=>
 Qg x876 37 fun x877=>
 LdK h169 x877 fun x878=>
 Qa prog 154 #[x1,x878] h169 fun _x879 h170=>
 Qa prog 155 #[x1,x59] h170 fun _x882 h171=>
 Qs x0 fun x885=>
 Qg x885 39 fun x886=>
 LdK h171 x886 fun x887=>
 Qa prog 156 #[x1,x887] h171 fun _x888 h172=>
 Qa prog 157 #[x1,x62] h172 fun _x891 h173=>
 QO (fun M80=>
 Qs x0 fun x893=>
 Qg x893 41 fun x894=>
 LdK h173 x894 fun x895=>
 Ql prog .neq 151 x895 (.pointer none) fun x896=>
 IfK x896
 (Qs x0 fun x899=>
 Qg x899 41 fun x900=>
 LdK h173 x900 fun x901=>
 Qs x901 fun x902=>
 Qg x902 0 fun x903=>
 LdK h173 x903 fun x904=>
 Qa prog 158 #[x1,x904] h173 fun _x905 h174=>
 M80 [] h174)
 (M80 [] h173)) fun M80=>∀h175:Qf,M80 [] h175->
 Qa prog 159 #[x1,x655] h175 fun _x908 h176=>
 QO (fun M81=>
 Qs x0 fun x910=>
 Qg x910 42 fun x911=>
 LdK h176 x911 fun x912=>
 Ql prog .neq 152 x912 (.pointer none) fun x913=>
 IfK x913
 (Qs x0 fun x916=>
 Qg x916 42 fun x917=>
 LdK h176 x917 fun x918=>
 Qs x918 fun x919=>
 Qg x919 0 fun x920=>
 LdK h176 x920 fun x921=>
 Qa prog 160 #[x1,x921] h176 fun _x922 h177=>
 M81 [] h177)
 (M81 [] h176)) fun M81=>∀h178:Qf,M81 [] h178->
 Qa prog 161 #[x1,x661] h178 fun _x925 h179=>
 Qa prog 162 #[x1,x67] h179 fun _x928 h180=>
 Qs x0 fun x931=>
 Qg x931 44 fun x932=>
 LdK h180 x932 fun x933=>
 Qa prog 163 #[x1,x933] h180 fun _x934 h181=>
 Qa prog 164 #[x1] h181 fun x936 h182=>
 R x936 h182
def packHead (x0 x1:Value) (h:Qf) (R:Kn):Prop:=
 Ql prog .eql 69 x0 (.pointer none) fun x72=>
 IfK x72
 (R (.int .u32 0) h)
 (Qs x0 fun x75=>
 Qg x75 3 fun x76=>
 LdK h x76 fun x77=>
 Qa prog 83 #[x1,x77] h fun x78 h1=>
 QO (fun M1=>
 Qs x0 fun x80=>
 Qg x80 4 fun x81=>
 LdK h1 x81 fun x82=>
 Ql prog .neq 72 x82 (.slice none 0 0) fun x83=>
 IfK x83
 (Qs x0 fun x86=>
 Qg x86 4 fun x87=>
 LdK h1 x87 fun x88=>
 Qa prog 84 #[x1,x88] h1 fun x89 h2=>
 M1 [x89] h2)
 (M1 [(.int .u32 0)] h1)) fun M1=>∀x6:Value,∀h3:Qf,M1 [x6] h3->
 Qs x0 fun x91=>
 Qg x91 6 fun x92=>
 LdK h3 x92 fun x93=>
 Qa prog 85 #[x93,x1] h3 fun x95 h4=>
 QO (fun M2=>
 Qs x0 fun x97=>
 Qg x97 7 fun x98=>
 LdK h4 x98 fun x99=>
 Ql prog .neq 137 x99 (.slice none 0 0) fun x100=>
 IfK x100
 (Qs x0 fun x102=>
 Qg x102 7 fun x103=>
 LdK h4 x103 fun x104=>
 Y8 x104 fun x105=>
 Qa prog 86 #[x1,x105] h4 fun _x108 h5=>
 QO (fun M3=>
 Ql prog .sub 3 x105 (.int .i64 1) fun x110=>
 Y6 [x110] h5 fun I4 n5=>∀x10:Value,∀h6:Qf,I4 n5 [x10] h6->
 Ql prog .geq 3 x10 (.int .i64 0) fun x112=>
 IfK x112
 (Qs x0 fun x116=>
 Qg x116 7 fun x117=>
 LdK h6 x117 fun x118=>
 Yn 1 x118 x10 fun x120=>
 LdK h6 x120 fun x121=>
 Qa prog 87 #[x121,x1] h6 fun _x123 h7=>
 Ql prog .sub 3 x10 (.int .i64 1) fun x114=>
 Yb I4 n5 [x114] h7)
 (M3 [x10] h6)) fun M3=>∀x10_1:Value,∀h8:Qf,M3 [x10_1] h8->
 Qa prog 88 #[x1,x105] h8 fun x126 h9=>
 M2 [x126] h9)
 (M2 [(.int .u32 0)] h4)) fun M2=>∀x8:Value,∀h10:Qf,M2 [x8] h10->
 QO (fun M6=>
 Qs x0 fun x128=>
 Qg x128 8 fun x129=>
 LdK h10 x129 fun x130=>
 Ql prog .neq 28 x130 (.slice none 0 0) fun x131=>
 IfK x131
 (Qs x0 fun x133=>
 Qg x133 8 fun x134=>
 LdK h10 x134 fun x135=>
 Y8 x135 fun x136=>
 Qf5 h10 68 4 z68 x136 x136 fun x138 h11=>
 QO (fun M7=>
 Y6 [(.int .i64 0)] h11 fun I8 n9=>∀x14:Value,∀h12:Qf,I8 n9 [x14] h12->
 Ql prog .lss 3 x14 x136 fun x141=>
 IfK x141
 (Qs x0 fun x148=>
 Qg x148 8 fun x149=>
 LdK h12 x149 fun x150=>
 Yn 1 x150 x14 fun x152=>
 LdK h12 x152 fun x153=>
 Qa prog 83 #[x1,x153] h12 fun x154 h13=>
 Yn 1 x138 x14 fun x155=>
 StK h13 1 x155 x154 fun h14=>
 Ql prog .add 3 x14 (.int .i64 1) fun x143=>
 Yb I8 n9 [x143] h14)
 (M7 [x14] h12)) fun M7=>∀x14_1:Value,∀h15:Qf,M7 [x14_1] h15->
 Qa prog 89 #[x1,x136] h15 fun _x158 h16=>
 QO (fun M10=>
 Ql prog .sub 3 x136 (.int .i64 1) fun x160=>
 Y6 [x160] h16 fun I11 n12=>∀x15:Value,∀h17:Qf,I11 n12 [x15] h17->
 Ql prog .geq 3 x15 (.int .i64 0) fun x162=>
 IfK x162
 (Yn 1 x138 x15 fun x168=>
 LdK h17 x168 fun x169=>
 Qa prog 71 #[x1,x169] h17 fun _x170 h18=>
 Ql prog .sub 3 x15 (.int .i64 1) fun x164=>
 Yb I11 n12 [x164] h18)
 (M10 [x15] h17)) fun M10=>∀x15_1:Value,∀h19:Qf,M10 [x15_1] h19->
 Qa prog 88 #[x1,x136] h19 fun x173 h20=>
 M6 [x173] h20)
 (M6 [(.int .u32 0)] h10)) fun M6=>∀x11:Value,∀h21:Qf,M6 [x11] h21->
 QO (fun M13=>
 Qs x0 fun x175=>
 Qg x175 9 fun x176=>
 LdK h21 x176 fun x177=>
 Ql prog .neq 146 x177 (.slice none 0 0) fun x178=>
 IfK x178
 (Qs x0 fun x180=>
 Qg x180 9 fun x181=>
 LdK h21 x181 fun x182=>
 Y8 x182 fun x183=>
 Qf5 h21 68 4 z68 x183 x183 fun x185 h22=>
 QO (fun M14=>
 Y6 [(.int .i64 0)] h22 fun I15 n16=>∀x19:Value,∀h23:Qf,I15 n16 [x19] h23->
 Ql prog .lss 3 x19 x183 fun x188=>
 IfK x188
 (Qs x0 fun x194=>
 Qg x194 9 fun x195=>
 LdK h23 x195 fun x196=>
 Yn 1 x196 x19 fun x198=>
 LdK h23 x198 fun x199=>
 Qa prog 21 #[x199,x1] h23 fun x201 h24=>
 Yn 1 x185 x19 fun x202=>
 StK h24 1 x202 x201 fun h25=>
 Ql prog .add 3 x19 (.int .i64 1) fun x190=>
 Yb I15 n16 [x190] h25)
 (M14 [x19] h23)) fun M14=>∀x19_1:Value,∀h26:Qf,M14 [x19_1] h26->
 Qa prog 90 #[x1,x183] h26 fun _x205 h27=>
 QO (fun M17=>
 Ql prog .sub 3 x183 (.int .i64 1) fun x207=>
 Y6 [x207] h27 fun I18 n19=>∀x20:Value,∀h28:Qf,I18 n19 [x20] h28->
 Ql prog .geq 3 x20 (.int .i64 0) fun x209=>
 IfK x209
 (Yn 1 x185 x20 fun x215=>
 LdK h28 x215 fun x216=>
 Qa prog 71 #[x1,x216] h28 fun _x217 h29=>
 Ql prog .sub 3 x20 (.int .i64 1) fun x211=>
 Yb I18 n19 [x211] h29)
 (M17 [x20] h28)) fun M17=>∀x20_1:Value,∀h30:Qf,M17 [x20_1] h30->
 Qa prog 88 #[x1,x183] h30 fun x220 h31=>
 M13 [x220] h31)
 (M13 [(.int .u32 0)] h21)) fun M13=>∀x16:Value,∀h32:Qf,M13 [x16] h32->
 Qs x0 fun x222=>
 Qg x222 10 fun x223=>
 LdK h32 x223 fun x224=>
 Qa prog 21 #[x224,x1] h32 fun x226 h33=>
 QO (fun M20=>
 Qs x0 fun x228=>
 Qg x228 11 fun x229=>
 LdK h33 x229 fun x230=>
 Ql prog .neq 72 x230 (.slice none 0 0) fun x231=>
 IfK x231
 (Qs x0 fun x234=>
 Qg x234 11 fun x235=>
 LdK h33 x235 fun x236=>
 Qa prog 84 #[x1,x236] h33 fun x237 h34=>
 M20 [x237] h34)
 (M20 [(.int .u32 0)] h33)) fun M20=>∀x22:Value,∀h35:Qf,M20 [x22] h35->
 Qs x0 fun x239=>
 Qg x239 12 fun x240=>
 LdK h35 x240 fun x241=>
 Qa prog 91 #[x241,x1] h35 fun x243 h36=>
 QO (fun M21=>
 Qs x0 fun x245=>
 Qg x245 22 fun x246=>
 LdK h36 x246 fun x247=>
 Ql prog .neq 32 x247 (.slice none 0 0) fun x248=>
 IfK x248
 (Qs x0 fun x250=>
 Qg x250 22 fun x251=>
 LdK h36 x251 fun x252=>
 Y8 x252 fun x253=>
 Qa prog 92 #[x1,x253] h36 fun _x256 h37=>
 QO (fun M22=>
 Ql prog .sub 3 x253 (.int .i64 1) fun x258=>
 Y6 [x258] h37 fun I23 n24=>∀x26:Value,∀h38:Qf,I23 n24 [x26] h38->
 Ql prog .geq 3 x26 (.int .i64 0) fun x260=>
 IfK x260
 (Qs x0 fun x265=>
 Qg x265 22 fun x266=>
 LdK h38 x266 fun x267=>
 Yn 1 x267 x26 fun x269=>
 LdK h38 x269 fun x270=>
 Qa prog 93 #[x1,x270] h38 fun _x271 h39=>
 Ql prog .sub 3 x26 (.int .i64 1) fun x262=>
 Yb I23 n24 [x262] h39)
 (M22 [x26] h38)) fun M22=>∀x26_1:Value,∀h40:Qf,M22 [x26_1] h40->
 Qa prog 88 #[x1,x253] h40 fun x274 h41=>
 M21 [x274] h41)
 (M21 [(.int .u32 0)] h36)) fun M21=>∀x24:Value,∀h42:Qf,M21 [x24] h42->
 QO (fun M25=>
 Qs x0 fun x276=>
 Qg x276 26 fun x277=>
 LdK h42 x277 fun x278=>
 Ql prog .neq 28 x278 (.slice none 0 0) fun x279=>
 IfK x279
 (Qs x0 fun x281=>
 Qg x281 26 fun x282=>
 LdK h42 x282 fun x283=>
 Y8 x283 fun x284=>
 Qf5 h42 68 4 z68 x284 x284 fun x286 h43=>
 QO (fun M26=>
 Y6 [(.int .i64 0)] h43 fun I27 n28=>∀x30:Value,∀h44:Qf,I27 n28 [x30] h44->
 Ql prog .lss 3 x30 x284 fun x289=>
 IfK x289
 (Qs x0 fun x296=>
 Qg x296 26 fun x297=>
 LdK h44 x297 fun x298=>
 Yn 1 x298 x30 fun x300=>
 LdK h44 x300 fun x301=>
 Qa prog 83 #[x1,x301] h44 fun x302 h45=>
 Yn 1 x286 x30 fun x303=>
 StK h45 1 x303 x302 fun h46=>
 Ql prog .add 3 x30 (.int .i64 1) fun x291=>
 Yb I27 n28 [x291] h46)
 (M26 [x30] h44)) fun M26=>∀x30_1:Value,∀h47:Qf,M26 [x30_1] h47->
 Qa prog 94 #[x1,x284] h47 fun _x306 h48=>
 QO (fun M29=>
 Ql prog .sub 3 x284 (.int .i64 1) fun x308=>
 Y6 [x308] h48 fun I30 n31=>∀x31:Value,∀h49:Qf,I30 n31 [x31] h49->
 Ql prog .geq 3 x31 (.int .i64 0) fun x310=>
 IfK x310
 (Yn 1 x286 x31 fun x316=>
 LdK h49 x316 fun x317=>
 Qa prog 71 #[x1,x317] h49 fun _x318 h50=>
 Ql prog .sub 3 x31 (.int .i64 1) fun x312=>
 Yb I30 n31 [x312] h50)
 (M29 [x31] h49)) fun M29=>∀x31_1:Value,∀h51:Qf,M29 [x31_1] h51->
 Qa prog 88 #[x1,x284] h51 fun x321 h52=>
 M25 [x321] h52)
 (M25 [(.int .u32 0)] h42)) fun M25=>∀x27:Value,∀h53:Qf,M25 [x27] h53->
 QO (fun M32=>
 Qs x0 fun x323=>
 Qg x323 27 fun x324=>
 LdK h53 x324 fun x325=>
 Ql prog .neq 148 x325 (.slice none 0 0) fun x326=>
 IfK x326
 (Qs x0 fun x328=>
 Qg x328 27 fun x329=>
 LdK h53 x329 fun x330=>
 Y8 x330 fun x331=>
 Qa prog 95 #[x1,x331] h53 fun _x334 h54=>
 QO (fun M33=>
 Ql prog .sub 3 x331 (.int .i64 1) fun x336=>
 Y6 [x336] h54 fun I34 n35=>∀x34:Value,∀h55:Qf,I34 n35 [x34] h55->
 Ql prog .geq 3 x34 (.int .i64 0) fun x338=>
 IfK x338
 (Qs x0 fun x342=>
 Qg x342 27 fun x343=>
 LdK h55 x343 fun x344=>
 Yn 1 x344 x34 fun x346=>
 LdK h55 x346 fun x347=>
 Qa prog 96 #[x347,x1] h55 fun _x349 h56=>
 Ql prog .sub 3 x34 (.int .i64 1) fun x340=>
 Yb I34 n35 [x340] h56)
 (M33 [x34] h55)) fun M33=>∀x34_1:Value,∀h57:Qf,M33 [x34_1] h57->
 Qa prog 88 #[x1,x331] h57 fun x352 h58=>
 M32 [x352] h58)
 (M32 [(.int .u32 0)] h53)) fun M32=>∀x32:Value,∀h59:Qf,M32 [x32] h59->
 QO (fun M36=>
 Qs x0 fun x354=>
 Qg x354 28 fun x355=>
 LdK h59 x355 fun x356=>
 Ql prog .neq 72 x356 (.slice none 0 0) fun x357=>
 IfK x357
 (Qs x0 fun x360=>
 Qg x360 28 fun x361=>
 LdK h59 x361 fun x362=>
 Qa prog 84 #[x1,x362] h59 fun x363 h60=>
 M36 [x363] h60)
 (M36 [(.int .u32 0)] h59)) fun M36=>∀x35:Value,∀h61:Qf,M36 [x35] h61->
 QO (fun M37=>
 Qs x0 fun x365=>
 Qg x365 29 fun x366=>
 LdK h61 x366 fun x367=>
 Ql prog .neq 137 x367 (.slice none 0 0) fun x368=>
 IfK x368
 (Qs x0 fun x370=>
 Qg x370 29 fun x371=>
 LdK h61 x371 fun x372=>
 Y8 x372 fun x373=>
 Qa prog 97 #[x1,x373] h61 fun _x376 h62=>
 QO (fun M38=>
 Ql prog .sub 3 x373 (.int .i64 1) fun x378=>
 Y6 [x378] h62 fun I39 n40=>∀x38:Value,∀h63:Qf,I39 n40 [x38] h63->
 Ql prog .geq 3 x38 (.int .i64 0) fun x380=>
 IfK x380
 (Qs x0 fun x384=>
 Qg x384 29 fun x385=>
 LdK h63 x385 fun x386=>
 Yn 1 x386 x38 fun x388=>
 LdK h63 x388 fun x389=>
 Qa prog 87 #[x389,x1] h63 fun _x391 h64=>
 Ql prog .sub 3 x38 (.int .i64 1) fun x382=>
 Yb I39 n40 [x382] h64)
 (M38 [x38] h63)) fun M38=>∀x38_1:Value,∀h65:Qf,M38 [x38_1] h65->
 Qa prog 88 #[x1,x373] h65 fun x394 h66=>
 M37 [x394] h66)
 (M37 [(.int .u32 0)] h61)) fun M37=>∀x36:Value,∀h67:Qf,M37 [x36] h67->
 QO (fun M41=>
 Qs x0 fun x396=>
 Qg x396 30 fun x397=>
 LdK h67 x397 fun x398=>
 Ql prog .neq 34 x398 (.slice none 0 0) fun x399=>
 IfK x399
 (Qs x0 fun x401=>
 Qg x401 30 fun x402=>
 LdK h67 x402 fun x403=>
 Y8 x403 fun x404=>
 Qa prog 98 #[x1,x404] h67 fun _x407 h68=>
 QO (fun M42=>
 Ql prog .sub 3 x404 (.int .i64 1) fun x409=>
 Y6 [x409] h68 fun I43 n44=>∀x41:Value,∀h69:Qf,I43 n44 [x41] h69->
 Ql prog .geq 3 x41 (.int .i64 0) fun x411=>
 IfK x411
 (Qs x0 fun x416=>
 Qg x416 30 fun x417=>
 LdK h69 x417 fun x418=>
 Yn 1 x418 x41 fun x420=>
 LdK h69 x420 fun x421=>
 Qa prog 99 #[x1,x421] h69 fun _x422 h70=>
 Ql prog .sub 3 x41 (.int .i64 1) fun x413=>
 Yb I43 n44 [x413] h70)
 (M42 [x41] h69)) fun M42=>∀x41_1:Value,∀h71:Qf,M42 [x41_1] h71->
 Qa prog 88 #[x1,x404] h71 fun x425 h72=>
 M41 [x425] h72)
 (M41 [(.int .u32 0)] h67)) fun M41=>∀x39:Value,∀h73:Qf,M41 [x39] h73->
 QO (fun M45=>
 Qs x0 fun x427=>
 Qg x427 31 fun x428=>
 LdK h73 x428 fun x429=>
 Ql prog .neq 149 x429 (.slice none 0 0) fun x430=>
 IfK x430
 (Qs x0 fun x432=>
 Qg x432 31 fun x433=>
 LdK h73 x433 fun x434=>
 Y8 x434 fun x435=>
 Qa prog 100 #[x1,x435] h73 fun _x438 h74=>
 QO (fun M46=>
 Ql prog .sub 3 x435 (.int .i64 1) fun x440=>
 Y6 [x440] h74 fun I47 n48=>∀x44:Value,∀h75:Qf,I47 n48 [x44] h75->
 Ql prog .geq 3 x44 (.int .i64 0) fun x442=>
 IfK x442
 (Qs x0 fun x447=>
 Qg x447 31 fun x448=>
 LdK h75 x448 fun x449=>
 Yn 1 x449 x44 fun x451=>
 LdK h75 x451 fun x452=>
 Qa prog 101 #[x1,x452] h75 fun _x453 h76=>
 Ql prog .sub 3 x44 (.int .i64 1) fun x444=>
 Yb I47 n48 [x444] h76)
 (M46 [x44] h75)) fun M46=>∀x44_1:Value,∀h77:Qf,M46 [x44_1] h77->
 Qa prog 88 #[x1,x435] h77 fun x456 h78=>
 M45 [x456] h78)
 (M45 [(.int .u32 0)] h73)) fun M45=>∀x42:Value,∀h79:Qf,M45 [x42] h79->
 Qs x0 fun x458=>
 Qg x458 32 fun x459=>
 LdK h79 x459 fun x460=>
 Qa prog 102 #[x460,x1] h79 fun x462 h80=>
 QO (fun M49=>
 Qs x0 fun x464=>
 Qg x464 33 fun x465=>
 LdK h80 x465 fun x466=>
 Ql prog .neq 141 x466 (.slice none 0 0) fun x467=>
 IfK x467
 (Qs x0 fun x469=>
 Qg x469 33 fun x470=>
 LdK h80 x470 fun x471=>
 Y8 x471 fun x472=>
 Qf5 h80 68 4 z68 x472 x472 fun x474 h81=>
 QO (fun M50=>
 Y6 [(.int .i64 0)] h81 fun I51 n52=>∀x49:Value,∀h82:Qf,I51 n52 [x49] h82->
 Ql prog .lss 3 x49 x472 fun x477=>
 IfK x477
 (Qs x0 fun x483=>
 Qg x483 33 fun x484=>
 LdK h82 x484 fun x485=>
 Yn 1 x485 x49 fun x487=>
 LdK h82 x487 fun x488=>
 Qa prog 103 #[x488,x1] h82 fun x490 h83=>
 Yn 1 x474 x49 fun x491=>
 StK h83 1 x491 x490 fun h84=>
 Ql prog .add 3 x49 (.int .i64 1) fun x479=>
 Yb I51 n52 [x479] h84)
 (M50 [x49] h82)) fun M50=>∀x49_1:Value,∀h85:Qf,M50 [x49_1] h85->
 Qa prog 104 #[x1,x472] h85 fun _x494 h86=>
 QO (fun M53=>
 Ql prog .sub 3 x472 (.int .i64 1) fun x496=>
 Y6 [x496] h86 fun I54 n55=>∀x50:Value,∀h87:Qf,I54 n55 [x50] h87->
 Ql prog .geq 3 x50 (.int .i64 0) fun x498=>
 IfK x498
 (Yn 1 x474 x50 fun x504=>
 LdK h87 x504 fun x505=>
 Qa prog 71 #[x1,x505] h87 fun _x506 h88=>
 Ql prog .sub 3 x50 (.int .i64 1) fun x500=>
 Yb I54 n55 [x500] h88)
 (M53 [x50] h87)) fun M53=>∀x50_1:Value,∀h89:Qf,M53 [x50_1] h89->
 Qa prog 88 #[x1,x472] h89 fun x509 h90=>
 M49 [x509] h90)
 (M49 [(.int .u32 0)] h80)) fun M49=>∀x46:Value,∀h91:Qf,M49 [x46] h91->
 QO (fun M56=>
 Qs x0 fun x511=>
 Qg x511 35 fun x512=>
 LdK h91 x512 fun x513=>
 Ql prog .neq 35 x513 (.slice none 0 0) fun x514=>
 IfK x514
 (Qs x0 fun x516=>
 Qg x516 35 fun x517=>
 LdK h91 x517 fun x518=>
 Y8 x518 fun x519=>
 Qa prog 105 #[x1,x519] h91 fun _x522 h92=>
 QO (fun M57=>
 Ql prog .sub 3 x519 (.int .i64 1) fun x524=>
 Y6 [x524] h92 fun I58 n59=>∀x53:Value,∀h93:Qf,I58 n59 [x53] h93->
 Ql prog .geq 3 x53 (.int .i64 0) fun x526=>
 IfK x526
 (Qs x0 fun x531=>
 Qg x531 35 fun x532=>
 LdK h93 x532 fun x533=>
 Yn 1 x533 x53 fun x535=>
 LdK h93 x535 fun x536=>
 Qa prog 106 #[x1,x536] h93 fun _x537 h94=>
 Ql prog .sub 3 x53 (.int .i64 1) fun x528=>
 Yb I58 n59 [x528] h94)
 (M57 [x53] h93)) fun M57=>∀x53_1:Value,∀h95:Qf,M57 [x53_1] h95->
 Qa prog 88 #[x1,x519] h95 fun x540 h96=>
 M56 [x540] h96)
 (M56 [(.int .u32 0)] h91)) fun M56=>∀x51:Value,∀h97:Qf,M56 [x51] h97->
 QO (fun M60=>
 Qs x0 fun x542=>
 Qg x542 36 fun x543=>
 LdK h97 x543 fun x544=>
 Ql prog .neq 141 x544 (.slice none 0 0) fun x545=>
 IfK x545
 (Qs x0 fun x547=>
 Qg x547 36 fun x548=>
 LdK h97 x548 fun x549=>
 Y8 x549 fun x550=>
 Qf5 h97 68 4 z68 x550 x550 fun x552 h98=>
 QO (fun M61=>
 Y6 [(.int .i64 0)] h98 fun I62 n63=>∀x57:Value,∀h99:Qf,I62 n63 [x57] h99->
 Ql prog .lss 3 x57 x550 fun x555=>
 IfK x555
 (Qs x0 fun x561=>
 Qg x561 36 fun x562=>
 LdK h99 x562 fun x563=>
 Yn 1 x563 x57 fun x565=>
 LdK h99 x565 fun x566=>
 Qa prog 103 #[x566,x1] h99 fun x568 h100=>
 Yn 1 x552 x57 fun x569=>
 StK h100 1 x569 x568 fun h101=>
 Ql prog .add 3 x57 (.int .i64 1) fun x557=>
 Yb I62 n63 [x557] h101)
 (M61 [x57] h99)) fun M61=>∀x57_1:Value,∀h102:Qf,M61 [x57_1] h102->
 Qa prog 107 #[x1,x550] h102 fun _x572 h103=>
 QO (fun M64=>
 Ql prog .sub 3 x550 (.int .i64 1) fun x574=>
 Y6 [x574] h103 fun I65 n66=>∀x58:Value,∀h104:Qf,I65 n66 [x58] h104->
 Ql prog .geq 3 x58 (.int .i64 0) fun x576=>
 IfK x576
 (Yn 1 x552 x58 fun x582=>
 LdK h104 x582 fun x583=>
 Qa prog 71 #[x1,x583] h104 fun _x584 h105=>
 Ql prog .sub 3 x58 (.int .i64 1) fun x578=>
 Yb I65 n66 [x578] h105)
 (M64 [x58] h104)) fun M64=>∀x58_1:Value,∀h106:Qf,M64 [x58_1] h106->
 Qa prog 88 #[x1,x550] h106 fun x587 h107=>
 M60 [x587] h107)
 (M60 [(.int .u32 0)] h97)) fun M60=>∀x54:Value,∀h108:Qf,M60 [x54] h108->
 QO (fun M67=>
 Qs x0 fun x589=>
 Qg x589 38 fun x590=>
 LdK h108 x590 fun x591=>
 Ql prog .neq 35 x591 (.slice none 0 0) fun x592=>
 IfK x592
 (Qs x0 fun x594=>
 Qg x594 38 fun x595=>
 LdK h108 x595 fun x596=>
 Y8 x596 fun x597=>
 Qa prog 108 #[x1,x597] h108 fun _x600 h109=>
 QO (fun M68=>
 Ql prog .sub 3 x597 (.int .i64 1) fun x602=>
 Y6 [x602] h109 fun I69 n70=>∀x61:Value,∀h110:Qf,I69 n70 [x61] h110->
 Ql prog .geq 3 x61 (.int .i64 0) fun x604=>
 IfK x604
 (Qs x0 fun x609=>
 Qg x609 38 fun x610=>
 LdK h110 x610 fun x611=>
 Yn 1 x611 x61 fun x613=>
 LdK h110 x613 fun x614=>
 Qa prog 106 #[x1,x614] h110 fun _x615 h111=>
 Ql prog .sub 3 x61 (.int .i64 1) fun x606=>
 Yb I69 n70 [x606] h111)
 (M68 [x61] h110)) fun M68=>∀x61_1:Value,∀h112:Qf,M68 [x61_1] h112->
 Qa prog 88 #[x1,x597] h112 fun x618 h113=>
 M67 [x618] h113)
 (M67 [(.int .u32 0)] h108)) fun M67=>∀x59:Value,∀h114:Qf,M67 [x59] h114->
 QO (fun M71=>
 Qs x0 fun x620=>
 Qg x620 40 fun x621=>
 LdK h114 x621 fun x622=>
 Ql prog .neq 35 x622 (.slice none 0 0) fun x623=>
 IfK x623
 (Qs x0 fun x625=>
 Qg x625 40 fun x626=>
 LdK h114 x626 fun x627=>
 Y8 x627 fun x628=>
 Qa prog 109 #[x1,x628] h114 fun _x631 h115=>
 QO (fun M72=>
 Ql prog .sub 3 x628 (.int .i64 1) fun x633=>
 Y6 [x633] h115 fun I73 n74=>∀x64:Value,∀h116:Qf,I73 n74 [x64] h116->
 Ql prog .geq 3 x64 (.int .i64 0) fun x635=>
 IfK x635
 (Qs x0 fun x640=>
 Qg x640 40 fun x641=>
 LdK h116 x641 fun x642=>
 Yn 1 x642 x64 fun x644=>
 LdK h116 x644 fun x645=>
 Qa prog 106 #[x1,x645] h116 fun _x646 h117=>
 Ql prog .sub 3 x64 (.int .i64 1) fun x637=>
 Yb I73 n74 [x637] h117)
 (M72 [x64] h116)) fun M72=>∀x64_1:Value,∀h118:Qf,M72 [x64_1] h118->
 Qa prog 88 #[x1,x628] h118 fun x649 h119=>
 M71 [x649] h119)
 (M71 [(.int .u32 0)] h114)) fun M71=>∀x62:Value,∀h120:Qf,M71 [x62] h120->
 Qs x0 fun x651=>
 Qg x651 41 fun x652=>
 LdK h120 x652 fun x653=>
 Qa prog 110 #[x653,x1] h120 fun x655 h121=>
 Qs x0 fun x657=>
 Qg x657 42 fun x658=>
 LdK h121 x658 fun x659=>
 Qa prog 111 #[x659,x1] h121 fun x661 h122=>
 QO (fun M75=>
 Qs x0 fun x663=>
 Qg x663 43 fun x664=>
 LdK h122 x664 fun x665=>
 Ql prog .neq 153 x665 (.slice none 0 0) fun x666=>
 IfK x666
 (Qs x0 fun x668=>
 Qg x668 43 fun x669=>
 LdK h122 x669 fun x670=>
 Y8 x670 fun x671=>
 Qa prog 112 #[x1,x671] h122 fun _x674 h123=>
 QO (fun M76=>
 Ql prog .sub 3 x671 (.int .i64 1) fun x676=>
 Y6 [x676] h123 fun I77 n78=>∀x69:Value,∀h124:Qf,I77 n78 [x69] h124->
 Ql prog .geq 3 x69 (.int .i64 0) fun x678=>
 IfK x678
 (Qs x0 fun x683=>
 Qg x683 43 fun x684=>
 LdK h124 x684 fun x685=>
 Yn 1 x685 x69 fun x687=>
 LdK h124 x687 fun x688=>
 Qa prog 113 #[x1,x688] h124 fun _x689 h125=>
 Ql prog .sub 3 x69 (.int .i64 1) fun x680=>
 Yb I77 n78 [x680] h125)
 (M76 [x69] h124)) fun M76=>∀x69_1:Value,∀h126:Qf,M76 [x69_1] h126->
 Qa prog 88 #[x1,x671] h126 fun x692 h127=>
 M75 [x692] h127)
 (M75 [(.int .u32 0)] h122)) fun M75=>∀x67:Value,∀h128:Qf,M75 [x67] h128->
 packTail x0 x1 x78 x6 x95 x8 x11 x16 x226 x22 x243 x24 x27 x32 x35 x36 x39 x42 x462 x46 x51 x54 x59 x62 x655 x661 x67 h128 R)
theorem packHead_eq (x0 x1:Value) (h:Qf) (R:Kn):s21 x0 x1 h R=packHead x0 x1 h R:=by kernel_rfl
section
variable {H:Qf} {p:Nat} {S:BS} {F:Cut} {r:Nat} (hB:Qc H p S F r) {R:Kn}
include hB
theorem pos_slot {S0:BS} {c:Nat} {v:Value} {o:Option Qbb} (hI:YA S0 49 c S) (ho:OptAt v o (Vec3At F v)) (hl:S.buf.length+200<=536870912)
  (hR:∀H',Qc H' p (slotPos o S) F 0->R (.tuple #[]) H'):FnS prog 115 #[v,.pointer (some ⟨p,0,none⟩)] H fun x h=>FnS prog 116 #[.pointer (some ⟨p,0,none⟩),x] h R:=by
 cases o with
 |none=>
  have hv:v= .pointer none:=ho
  subst hv
  apply w115
  unfold s115
  rw[Y1 (by kernel_rfl)]
  refine QcR (off:=0) hB hI.nested (Or.inl rfl) (by rw[hI.vtl];decide) ?_
  exact hR
 |some d=>
  obtain ⟨w,h1,h2⟩:=ho
  refine Vec3T_Pack hB h1 h2 (by omega) ?_
  intro H1 g1
  have i1:=(hI.prep (k:=8) (a:=32) Qfj).place (Qhi d)
  refine QcR g1 i1.nested (Or.inr rfl) (by rw[i1.vtl];decide) ?_
  exact hR
theorem ty_slot {S0:BS} {c:Nat} {amb:Bool} {ty color:UInt8} {v cc:Value} {kids:List Mon} {o:Nat} {t:TypeId} {q i f:Nat} {cells:Array Value} {k:Qf->Prop} (hu:(prog).underlying t=some (.pointer ((prog).pointee t))) (hI:YA S0 49 c S) (obj:ZS F (.pointer (some ⟨q,0,none⟩)) cells) (hc:cells[i]?=some v) (hv:Qcu F amb ty color v cc kids)
  (hf:∀H,Qc H p S F 0->∀R:Kn,(∀H',Qc H' p (slotN 1 ty.toNat 0 o S) F 0->R (.tuple #[]) H')->FnS prog f #[.pointer (some ⟨p,0,none⟩),u8n ty] H R)
  (hk:∀H',Qc H' p (slotTy ty o S) F 0->k H'):
  QO (fun M79=>Qs (.pointer (some ⟨q,0,none⟩)) fun x729=>Qg x729 i fun x730=>LdK H x730 fun x731=>Ql prog .neq t x731 (.pointer none) fun x732=>
   IfK x732 (Qs (.pointer (some ⟨q,0,none⟩)) fun x735=>Qg x735 i fun x736=>LdK H x736 fun x737=>Qs x737 fun x738=>Qg x738 0 fun x739=>LdK H x739 fun x740=>Qa prog f #[.pointer (some ⟨p,0,none⟩),x740] H fun _x741 h137=>M79 [] h137)
   (M79 [] H)) fun M79=>∀h138:Qf,M79 [] h138->k h138:=by
 refine QK (fun _ h=>Qc h p (slotTy ty o S) F 0) ?_ (fun h hb=>hk h hb)
 refine obj.ld hB.cut (i:=i) v hc ?_
 rcases hv with ⟨rfl,rfl,_⟩|⟨h0,w,hv,_⟩
 ·rw[Yr hu]
  exact hB.room (Nat.zero_le _)
 ·obtain ⟨q2,e2,rfl,hq2⟩:=hv
  have hv:ZS F (.pointer (some ⟨q2,0,none⟩)) #[u8n ty,w]:=⟨q2,e2,rfl,hq2⟩
  rw[Yr hu]
  show IfK (.bool true) _ _
  rw[Qf3]
  refine obj.ld hB.cut (i:=i) _ hc ?_
  refine hv.ld hB.cut (i:=0) (u8n ty) rfl ?_
  refine hf H (hB.room (Nat.zero_le _)) _ ?_
  intro H' h'
  have e1:slotTy ty o S=slotN 1 ty.toNat 0 o S:=by unfold slotTy;rw[if_neg h0]
  rw[e1]
  exact h'
end
set_option maxHeartbeats 4000000 in
theorem packTail_ok {H:Qf} {p:Nat} {S:BS} {F:Cut} {r:Nat} (hB:Qc H p S F r) {R:Kn} {q:Nat} {d:QcO} {c:MTV} {enemy test uniq amb:List Mon} (hI:Inv S) (obj:ZS F (.pointer (some ⟨q,0,none⟩)) (mtCells d c)) (own:MTD F d c enemy test uniq amb) (hl:S.buf.length+10000<=536870912)
  {o0 o1 o2 o3 o4 o5 o6 o7 o8 o9 o10 o11 o12 o13 o14 o15 o16 o17 o18 o19 o20 o21 o22 o23 o24:Nat} (p0:o0<=S.buf.length) (p1:o1<=S.buf.length) (p2:o2<=S.buf.length) (p3:o3<=S.buf.length) (p4:o4<=S.buf.length) (p5:o5<=S.buf.length) (p6:o6<=S.buf.length) (p7:o7<=S.buf.length) (p8:o8<=S.buf.length) (p9:o9<=S.buf.length) (p10:o10<=S.buf.length) (p11:o11<=S.buf.length) (p12:o12<=S.buf.length) (p13:o13<=S.buf.length) (p14:o14<=S.buf.length) (p15:o15<=S.buf.length) (p16:o16<=S.buf.length) (p17:o17<=S.buf.length) (p18:o18<=S.buf.length) (p19:o19<=S.buf.length) (p20:o20<=S.buf.length) (p21:o21<=S.buf.length) (p22:o22<=S.buf.length) (p23:o23<=S.buf.length) (p24:o24<=S.buf.length)
  (hR:∀H',Qc H' p (endT (Zi (Yl d [o0,o1,o2,o3,o4,o5,o6,o7,o8,o9,o10,o11,o12,o13,o14,o15,o16,o17,o18,o19,o20,o21,o22,o23,o24]) (Qw 49 S))).1 F 0->R (.int .u32 ((endT (Zi (Yl d [o0,o1,o2,o3,o4,o5,o6,o7,o8,o9,o10,o11,o12,o13,o14,o15,o16,o17,o18,o19,o20,o21,o22,o23,o24]) (Qw 49 S))).2:Nat)) H'):
  packTail (.pointer (some ⟨q,0,none⟩)) (.pointer (some ⟨p,0,none⟩)) (.int .u32 (o0:Nat)) (.int .u32 (o1:Nat)) (.int .u32 (o2:Nat)) (.int .u32 (o3:Nat)) (.int .u32 (o4:Nat)) (.int .u32 (o5:Nat)) (.int .u32 (o6:Nat)) (.int .u32 (o7:Nat)) (.int .u32 (o8:Nat)) (.int .u32 (o9:Nat)) (.int .u32 (o10:Nat)) (.int .u32 (o11:Nat)) (.int .u32 (o12:Nat)) (.int .u32 (o13:Nat)) (.int .u32 (o14:Nat)) (.int .u32 (o15:Nat)) (.int .u32 (o16:Nat)) (.int .u32 (o17:Nat)) (.int .u32 (o18:Nat)) (.int .u32 (o19:Nat)) (.int .u32 (o20:Nat)) (.int .u32 (o21:Nat)) (.int .u32 (o22:Nat)) (.int .u32 (o23:Nat)) (.int .u32 (o24:Nat)) H R:=by
 unfold packTail
 refine Qgc hB hI.nested ?_
 intro H0 g0
 have i0:=YA.start (n:=49) hI.min
 refine obj.ld g0.cut (i:=0) c.pos rfl ?_
 refine pos_slot g0 i0 own.pos (by have:=i0.len;omega) ?_
 intro H1 g1
 have i1:=i0.slotPos d.pos
 refine obj.ld g1.cut (i:=1) (Qcx d.mana) rfl ?_
 refine Qfl (x:=d.mana.toNat) g1 d.mana.toNat_lt (by rw[i1.vtl];decide) (by have:=i1.len;omega) ?_
 intro H2 g2
 have i2:=i1.slotN (k:=2) (x:=d.mana.toNat) (d:=150) (o:=1) P2_2
 refine obj.ld g2.cut (i:=2) (Qcx d.hp) rfl ?_
 refine Qg7 (x:=d.hp.toNat) g2 d.hp.toNat_lt (by rw[i2.vtl];decide) (by have:=i2.len;omega) ?_
 intro H3 g3
 have i3:=i2.slotN (k:=2) (x:=d.hp.toNat) (d:=100) (o:=2) P2_2
 refine Qff (off:=o0) g3 (by have:=i3.le;omega) (by rw[i3.vtl];decide) (by have:=i3.len;omega) ?_
 intro H4 g4
 have i4:=i3.slotOff (off:=o0) (o:=3)
 refine Qdz (off:=o1) g4 (by have:=i4.le;omega) (by rw[i4.vtl];decide) (by have:=i4.len;omega) ?_
 intro H5 g5
 have i5:=i4.slotOff (off:=o1) (o:=5)
 refine obj.ld g5.cut (i:=5) (u8n d.color) rfl ?_
 refine QeI (x:=d.color.toNat) g5 d.color.toNat_lt (by rw[i5.vtl];decide) (by have:=i5.len;omega) ?_
 intro H6 g6
 have i6:=i5.slotN (k:=1) (x:=d.color.toNat) (d:=8) (o:=6) P2_1
 refine ty_slot g6 (ty:=d.testTy) (o:=7) (by kernel_rfl) i6 obj (i:=6) rfl own.test (fun H hb R hR=>QdO hb d.testTy.toNat_lt (by rw[i6.vtl];decide) (by have:=i6.len;omega) hR) ?_
 intro H7 g7
 have i7:=i6.slotTy (ty:=d.testTy) (o:=7)
 refine Qfn (off:=o2) g7 (by have:=i7.le;omega) (by rw[i7.vtl];decide) (by have:=i7.len;omega) ?_
 intro H8 g8
 have i8:=i7.slotOff (off:=o2) (o:=8)
 refine Qf0 (off:=o3) g8 (by have:=i8.le;omega) (by rw[i8.vtl];decide) (by have:=i8.len;omega) ?_
 intro H9 g9
 have i9:=i8.slotOff (off:=o3) (o:=9)
 refine Qbz (off:=o4) g9 (by have:=i9.le;omega) (by rw[i9.vtl];decide) (by have:=i9.len;omega) ?_
 intro H10 g10
 have i10:=i9.slotOff (off:=o4) (o:=10)
 refine QbJ (off:=o5) g10 (by have:=i10.le;omega) (by rw[i10.vtl];decide) (by have:=i10.len;omega) ?_
 intro H11 g11
 have i11:=i10.slotOff (off:=o5) (o:=11)
 refine Qf1 (off:=o6) g11 (by have:=i11.le;omega) (by rw[i11.vtl];decide) (by have:=i11.len;omega) ?_
 intro H12 g12
 have i12:=i11.slotOff (off:=o6) (o:=12)
 refine Qb6 (off:=o7) g12 (by have:=i12.le;omega) (by rw[i12.vtl];decide) (by have:=i12.len;omega) ?_
 intro H13 g13
 have i13:=i12.slotOff (off:=o7) (o:=13)
 refine QdC (off:=o8) g13 (by have:=i13.le;omega) (by rw[i13.vtl];decide) (by have:=i13.len;omega) ?_
 intro H14 g14
 have i14:=i13.slotOff (off:=o8) (o:=14)
 refine obj.ld g14.cut (i:=13) (.bool d.bool) rfl ?_
 refine QdJ g14 (by rw[i14.vtl];decide) (by have:=i14.len;omega) ?_
 intro H15 g15
 have i15:=i14.slotN (k:=1) (x:=if d.bool then 1 else 0) (d:=0) (o:=15) P2_1
 refine obj.ld g15.cut (i:=14) (Qgw d.s32) rfl ?_
 refine Qca (x:=d.s32.toNat) g15 d.s32.toNat_lt (by rw[i15.vtl];decide) (by have:=i15.len;omega) ?_
 intro H16 g16
 have i16:=i15.slotN (k:=4) (x:=d.s32.toNat) (d:=0) (o:=16) P2_4
 refine obj.ld g16.cut (i:=15) (ZK d.u32) rfl ?_
 refine Qc3 (x:=d.u32.toNat) g16 d.u32.toNat_lt (by rw[i16.vtl];decide) (by have:=i16.len;omega) ?_
 intro H17 g17
 have i17:=i16.slotN (k:=4) (x:=d.u32.toNat) (d:=0) (o:=17) P2_4
 refine obj.ld g17.cut (i:=16) (QdX d.s64) rfl ?_
 refine Qcd (x:=d.s64.toNat) g17 d.s64.toNat_lt (by rw[i17.vtl];decide) (by have:=i17.len;omega) ?_
 intro H18 g18
 have i18:=i17.slotN (k:=8) (x:=d.s64.toNat) (d:=0) (o:=18) Qfj
 refine obj.ld g18.cut (i:=17) (ZB d.u64) rfl ?_
 refine Qci (x:=d.u64.toNat) g18 d.u64.toNat_lt (by rw[i18.vtl];decide) (by have:=i18.len;omega) ?_
 intro H19 g19
 have i19:=i18.slotN (k:=8) (x:=d.u64.toNat) (d:=0) (o:=19) Qfj
 refine obj.ld g19.cut (i:=18) (Qgw d.s32a) rfl ?_
 refine QbX (x:=d.s32a.toNat) g19 d.s32a.toNat_lt (by rw[i19.vtl];decide) (by have:=i19.len;omega) ?_
 intro H20 g20
 have i20:=i19.slotN (k:=4) (x:=d.s32a.toNat) (d:=0) (o:=20) P2_4
 refine obj.ld g20.cut (i:=19) (ZK d.u32a) rfl ?_
 refine QbU (x:=d.u32a.toNat) g20 d.u32a.toNat_lt (by rw[i20.vtl];decide) (by have:=i20.len;omega) ?_
 intro H21 g21
 have i21:=i20.slotN (k:=4) (x:=d.u32a.toNat) (d:=0) (o:=21) P2_4
 refine obj.ld g21.cut (i:=20) (QdX d.s64a) rfl ?_
 refine QbV (x:=d.s64a.toNat) g21 d.s64a.toNat_lt (by rw[i21.vtl];decide) (by have:=i21.len;omega) ?_
 intro H22 g22
 have i22:=i21.slotN (k:=8) (x:=d.s64a.toNat) (d:=0) (o:=22) Qfj
 refine obj.ld g22.cut (i:=21) (ZB d.u64a) rfl ?_
 refine QbZ (x:=d.u64a.toNat) g22 d.u64a.toNat_lt (by rw[i22.vtl];decide) (by have:=i22.len;omega) ?_
 intro H23 g23
 have i23:=i22.slotN (k:=8) (x:=d.u64a.toNat) (d:=0) (o:=23) Qfj
 refine Qc0 (off:=o9) g23 (by have:=i23.le;omega) (by rw[i23.vtl];decide) (by have:=i23.len;omega) ?_
 intro H24 g24
 have i24:=i23.slotOff (off:=o9) (o:=24)
 refine obj.ld g24.cut (i:=23) (Qfr d.f) rfl ?_
 refine QeX g24 (by rw[i24.vtl];decide) (by have:=i24.len;omega) ?_
 intro H25 g25
 have i25:=i24.slotF (x:=d.f.toNat) (d:=1078530000) (o:=25)
 refine obj.ld g25.cut (i:=24) (Qfr d.f2) rfl ?_
 refine Qet g25 (by rw[i25.vtl];decide) (by have:=i25.len;omega) ?_
 intro H26 g26
 have i26:=i25.slotF (x:=d.f2.toNat) (d:=1077936128) (o:=26)
 refine obj.ld g26.cut (i:=25) (Qfr d.f3) rfl ?_
 refine Qez g26 (by rw[i26.vtl];decide) (by have:=i26.len;omega) ?_
 intro H27 g27
 have i27:=i26.slotF (x:=d.f3.toNat) (d:=0) (o:=27)
 refine Qbm (off:=o10) g27 (by have:=i27.le;omega) (by rw[i27.vtl];decide) (by have:=i27.len;omega) ?_
 intro H28 g28
 have i28:=i27.slotOff (off:=o10) (o:=28)
 refine Qax (off:=o11) g28 (by have:=i28.le;omega) (by rw[i28.vtl];decide) (by have:=i28.len;omega) ?_
 intro H29 g29
 have i29:=i28.slotOff (off:=o11) (o:=29)
 refine Qfe (off:=o12) g29 (by have:=i29.le;omega) (by rw[i29.vtl];decide) (by have:=i29.len;omega) ?_
 intro H30 g30
 have i30:=i29.slotOff (off:=o12) (o:=30)
 refine QeJ (off:=o13) g30 (by have:=i30.le;omega) (by rw[i30.vtl];decide) (by have:=i30.len;omega) ?_
 intro H31 g31
 have i31:=i30.slotOff (off:=o13) (o:=31)
 refine QcD (off:=o14) g31 (by have:=i31.le;omega) (by rw[i31.vtl];decide) (by have:=i31.len;omega) ?_
 intro H32 g32
 have i32:=i31.slotOff (off:=o14) (o:=32)
 refine Qcn (off:=o15) g32 (by have:=i32.le;omega) (by rw[i32.vtl];decide) (by have:=i32.len;omega) ?_
 intro H33 g33
 have i33:=i32.slotOff (off:=o15) (o:=33)
 refine Qbd (off:=o16) g33 (by have:=i33.le;omega) (by rw[i33.vtl];decide) (by have:=i33.len;omega) ?_
 intro H34 g34
 have i34:=i33.slotOff (off:=o16) (o:=34)
 refine Qbh (off:=o17) g34 (by have:=i34.le;omega) (by rw[i34.vtl];decide) (by have:=i34.len;omega) ?_
 intro H35 g35
 have i35:=i34.slotOff (off:=o17) (o:=35)
 refine obj.ld g35.cut (i:=34) (ZB d.singleWeak) rfl ?_
 refine Qbe (x:=d.singleWeak.toNat) g35 d.singleWeak.toNat_lt (by rw[i35.vtl];decide) (by have:=i35.len;omega) ?_
 intro H36 g36
 have i36:=i35.slotN (k:=8) (x:=d.singleWeak.toNat) (d:=0) (o:=36) Qfj
 refine QaG (off:=o18) g36 (by have:=i36.le;omega) (by rw[i36.vtl];decide) (by have:=i36.len;omega) ?_
 intro H37 g37
 have i37:=i36.slotOff (off:=o18) (o:=37)
 refine Qad (off:=o19) g37 (by have:=i37.le;omega) (by rw[i37.vtl];decide) (by have:=i37.len;omega) ?_
 intro H38 g38
 have i38:=i37.slotOff (off:=o19) (o:=38)
 refine obj.ld g38.cut (i:=37) (ZB d.coOwning) rfl ?_
 refine QbK (x:=d.coOwning.toNat) g38 d.coOwning.toNat_lt (by rw[i38.vtl];decide) (by have:=i38.len;omega) ?_
 intro H39 g39
 have i39:=i38.slotN (k:=8) (x:=d.coOwning.toNat) (d:=0) (o:=39) Qfj
 refine Qa9 (off:=o20) g39 (by have:=i39.le;omega) (by rw[i39.vtl];decide) (by have:=i39.len;omega) ?_
 intro H40 g40
 have i40:=i39.slotOff (off:=o20) (o:=40)
 refine obj.ld g40.cut (i:=39) (ZB d.nonOwning) rfl ?_
 refine Qbk (x:=d.nonOwning.toNat) g40 d.nonOwning.toNat_lt (by rw[i40.vtl];decide) (by have:=i40.len;omega) ?_
 intro H41 g41
 have i41:=i40.slotN (k:=8) (x:=d.nonOwning.toNat) (d:=0) (o:=41) Qfj
 refine Qa7 (off:=o21) g41 (by have:=i41.le;omega) (by rw[i41.vtl];decide) (by have:=i41.len;omega) ?_
 intro H42 g42
 have i42:=i41.slotOff (off:=o21) (o:=42)
 refine ty_slot g42 (ty:=d.uniqTy) (o:=43) (by kernel_rfl) i42 obj (i:=41) rfl own.uniq (fun H hb R hR=>QcL hb d.uniqTy.toNat_lt (by rw[i42.vtl];decide) (by have:=i42.len;omega) hR) ?_
 intro H43 g43
 have i43:=i42.slotTy (ty:=d.uniqTy) (o:=43)
 refine QdF (off:=o22) g43 (by have:=i43.le;omega) (by rw[i43.vtl];decide) (by have:=i43.len;omega) ?_
 intro H44 g44
 have i44:=i43.slotOff (off:=o22) (o:=44)
 refine ty_slot g44 (ty:=d.ambTy) (o:=45) (by kernel_rfl) i44 obj (i:=42) rfl own.amb (fun H hb R hR=>Qc1 hb d.ambTy.toNat_lt (by rw[i44.vtl];decide) (by have:=i44.len;omega) hR) ?_
 intro H45 g45
 have i45:=i44.slotTy (ty:=d.ambTy) (o:=45)
 refine QcV (off:=o23) g45 (by have:=i45.le;omega) (by rw[i45.vtl];decide) (by have:=i45.len;omega) ?_
 intro H46 g46
 have i46:=i45.slotOff (off:=o23) (o:=46)
 refine QcB (off:=o24) g46 (by have:=i46.le;omega) (by rw[i46.vtl];decide) (by have:=i46.len;omega) ?_
 intro H47 g47
 have i47:=i46.slotOff (off:=o24) (o:=47)
 refine obj.ld g47.cut (i:=44) (i8V d.signedEnum) rfl ?_
 refine Qde (x:=d.signedEnum.toNat) g47 d.signedEnum.toNat_lt (by rw[i47.vtl];decide) (by have:=i47.len;omega) ?_
 intro H48 g48
 have i48:=i47.slotN (k:=1) (x:=d.signedEnum.toNat) (d:=255) (o:=48) P2_1
 refine Qh1 g48 i48 (by decide) hI.vts (by omega) hI.nv ?_
 intro H' h'
 exact hR H' h'
end Go.Proofs
namespace Go.Proofs
open Go Go.Vc
open Tryz (prog)
section
variable {H:Qf} {p:Nat} {S:BS} {F:Cut} {r:Nat} (hB:Qc H p S F r) {R:Kn}
include hB
theorem str_pack {xs:List UInt8} (hI:Inv S) (hl:S.buf.length+xs.length+24<=536870912) (hR:∀H',Qc H' p (QaR xs S).1 F 0->R (.int .u32 ((QaR xs S).2:Nat)) H'):
  FnS prog 83 #[.pointer (some ⟨p,0,none⟩),YK xs] H R:=Qcj hB (QfG _) hI.nested hl hR
theorem enemy_pack {n:Nat} (ih:PackOk n) {v:Value} {kids:List Mon} (hI:Inv S) (he:(kids=[]/\v= .pointer none)\/∃k,kids=[k]) (hs:ZI kids<n) (hm:∀k,k∈kids->MT F v k) (hl:S.buf.length+ZI kids+20000<=536870912)
  (hR:∀H',Qc H' p (YW kids S).1 F 0->R (.int .u32 ((YW kids S).2:Nat)) H'):FnS prog 21 #[v,.pointer (some ⟨p,0,none⟩)] H R:=by
 rcases he with ⟨rfl,rfl⟩|⟨k,rfl⟩
 ·rw[YW]at hR
  apply w21
  unfold s21
  rw[Y1 (by kernel_rfl)]
  exact hR H (hB.room (Nat.zero_le _))
 ·rw[YW]at hR
  exact kidOk ih hB hI hs hm hl k rfl R hR
theorem stat_pack {v:Value} {o:Option QaX} (hI:Inv S) (ho:OptAt v o (fun s=>ZS F v (statC s))) (hl:S.buf.length+Qhq o+5000<=536870912)
  (hR:∀H',Qc H' p (QgB o S).1 F 0->R (.int .u32 ((QgB o S).2:Nat)) H'):FnS prog 91 #[v,.pointer (some ⟨p,0,none⟩)] H R:=by
 cases o with
 |none=>
  have hv:v= .pointer none:=ho
  subst hv
  apply w91
  unfold s91
  rw[Y1 (by kernel_rfl)]
  exact hR H (hB.room (Nat.zero_le _))
 |some d=>exact StatT_Pack hB hI ho hl hR
theorem parent_pack {v:Value} {b:Bool} (hI:Inv S) (ho:(b=false/\v= .pointer none)\/(b=true/\∃a,v= .pointer (some a))) (hl:S.buf.length+5000<=536870912)
  (hR:∀H',Qc H' p (Qdx b S).1 F 0->R (.int .u32 ((Qdx b S).2:Nat)) H'):FnS prog 102 #[v,.pointer (some ⟨p,0,none⟩)] H R:=by
 rcases ho with ⟨rfl,rfl⟩|⟨rfl,a,rfl⟩
 ·exact Qc6 hB hI (Or.inl rfl) hl (fun _=>hR H (hB.room (Nat.zero_le _))) (fun h=>absurd rfl h)
 ·exact Qc6 hB hI (Or.inr ⟨a,rfl⟩) hl (fun h=>by cases h) (fun _=>hR)
end
set_option maxHeartbeats 4000000 in
set_option maxRecDepth 4000 in
theorem packStep {n:Nat} (ih:PackOk n):PackOk (n+1):=by
 intro m hm H p S F r v R hB hI hv hl hR
 cases hv with
 |mk v d c ptrs tables enemy test uniq amb obj own tl tlen tt te tu tq ta=>
 have hpk:ZT (.mk d tables enemy test uniq amb) S=packT d (Q5 ZT tables) (YW enemy) (YW test) (YW uniq) (YW amb) S:=by rw[ZT,funext (QeM tables)]
 have hcost:Qcq (.mk d tables enemy test uniq amb)=Qhy d+60*tables.length+ZI tables+ZI enemy+ZI test+ZI uniq+ZI amb:=by rw[Qcq]
 have hD:Qhy d=Qhy d:=rfl
 conv at hD=>rhs;unfold Qhy
 rw[hcost]at hm hl
 rw[hpk]at hR
 clear hpk hcost
 apply w21
 rw[packHead_eq]
 unfold packHead
 obtain ⟨q,e,rfl,hq⟩:=obj
 have obj:ZS F (.pointer (some ⟨q,0,none⟩)) (mtCells d c):=⟨q,e,rfl,hq⟩
 rw[Y1 (by kernel_rfl)]
 show IfK (.bool false) _ _
 rw[Qbv]
 refine obj.ld hB.cut (i:=3) (YK d.name) rfl ?_
 refine str_pack hB hI (by omega) ?_
 intro H1 b1
 have k1:=QbP d.name hI
 have l1:=k1.len
 generalize hq1:QaR d.name S=q1 at *
 refine QhI b1 (e0:=5) (xs:=d.inventory) (by kernel_rfl) obj (fld:=4) rfl own.inv k1.inv (by omega) ?_
 intro H2 b2
 have k2:=QhP d.inventory k1.inv
 have l2:=k2.len
 generalize hq2:optB d.inventory q1.1=q2 at *
 refine obj.ld b2.cut (i:=6) c.test rfl ?_
 refine AnyT_Pack b2 own.test (kidOk ih b2 k2.inv (by omega) tu (by omega)) k2.inv (by omega) ?_
 intro H3 b3
 have k3:=Qen (amb:=false) (ty:=d.testTy) (color:=d.testColor) k2.inv (Qar test q2.1 k2.inv)
 have l3:=k3.len
 generalize hq3:Qb9 false d.testTy d.testColor (YW test) q2.1=q3 at *
 obtain ⟨pl3,pn3,pe3,pt3⟩:=own.test4
 refine QcP b3 (e0:=158) (es:=4) (al:=2) (k:=1) (items:=(d.test4.map (fun t:Qbo=>QaJ t.a.toNat t.b.toNat))) (by kernel_rfl) obj (fld:=7) rfl pn3 (by rw[List.length_map];exact pe3) (Yc (f:=(fun t:Qbo=>QaJ t.a.toNat t.b.toNat)) (k:=4) (fun _=>QaU _ _)) k3.inv rfl (by decide) (by rw[List.length_map];omega) (by rw[List.length_map];omega) ?_ ?_ ?_
 ·intro H0 hb0 R0 h0
  refine QcJ hb0 k3.inv.nested (by rw[List.length_map];omega) ?_
  intro H' v' h'
  exact h0 H' v' (h'.room (Y7 (k:=1) _ rfl (by decide)))
 ·intro i h1 h2 S' H' r' hb' hr ha hmn hal hl' R' h'
  simp only[List.getElem_map]at h'⊢
  refine TestT_Pack hb' (pt3 i _ _ (List.getElem?_eq_getElem h1) (List.getElem?_eq_getElem (by simpa using h2))) hr (by omega) (by omega) (by omega) ?_
  exact h'
 intro H4 b4
 have k4:=Qbi (es:=4) (al:=2) (items:=(d.test4.map (fun t:Qbo=>QaJ t.a.toNat t.b.toNat))) P2_2 (Yc (f:=(fun t:Qbo=>QaJ t.a.toNat t.b.toNat)) (k:=4) (fun _=>QaU _ _) (l:=d.test4)) k3.inv
 have l4:=k4.len
 generalize hq4:Qgl 4 2 (d.test4.map (fun t:Qbo=>QaJ t.a.toNat t.b.toNat)) q3.1=q4 at *
 rw[List.length_map]at l4
 refine Qh6 b4 (e0:=9) (xs:=d.strings) (pk:=QaR) (c:=(fun x=>x.length+8)) (sl:=5000) (by kernel_rfl) obj (fld:=8) rfl own.strings (by rw[List.length_map]) k4.inv (by omega) (fun x _ S h=>QbP x h) (by rw[QcM];omega) ?_ ?_ ?_
 ·intro H0 S0 F0 hb0 hi0 hl0 R0 h0
  refine Qaf hb0 hi0.nested (by omega) ?_
  intro H' v' h'
  exact h0 H' v' (h'.room (Y7 (k:=2) _ rfl (by decide)))
 ·intro i h1 h2 S' H' F' hF hb' hi' hl' R' h'
  simp only[List.getElem_map]
  have hl2:S'.buf.length+(d.strings[i].length+8)+5000<=536870912:=hl'
  exact str_pack hb' hi' (by omega) h'
 intro H5 b5
 have k5:=strs_ok d.strings k4.inv
 have l5:=k5.len
 generalize hq5:QhE (Q5 QaR d.strings) q4.1=q5 at *
 have hts:=costs_sum tables
 refine Qh6 b5 (e0:=69) (xs:=tables) (pk:=ZT) (c:=Qcq) (sl:=20000) (by kernel_rfl) obj (fld:=9) rfl tl tlen k5.inv (by omega) (fun x _ S h=>(QeG x S h).1) (by rw[hts];omega) ?_ ?_ ?_
 ·intro H0 S0 F0 hb0 hi0 hl0 R0 h0
  refine Qae hb0 hi0.nested (by omega) ?_
  intro H' v' h'
  exact h0 H' v' (h'.room (Y7 (k:=2) _ rfl (by decide)))
 ·intro i h1 h2 S' H' F' hF hb' hi' hl' R' h'
  have hcm:=costs_mem (List.getElem_mem h2)
  exact ih _ (by omega) H' p S' F' _ _ R' hb' hi' ((tt i _ _ (List.getElem?_eq_getElem h1) (List.getElem?_eq_getElem h2)).mono hF) hl' h'
 intro H6 b6
 have k6:=optO_ok (q:=Q5 ZT tables) (c:=ZI tables) (n:=tables.length) k5.inv (by have:=(QfA tables _ k5.inv).1;rwa [QeM]at this) (Qa0 _ _ _)
 have l6:=k6.len
 generalize hq6:QhE (Q5 ZT tables) q5.1=q6 at *
 refine obj.ld b6.cut (i:=10) c.enemy rfl ?_
 refine enemy_pack b6 ih k6.inv own.enemy (by omega) te (by omega) ?_
 intro H7 b7
 have k7:=Qar enemy q6.1 k6.inv
 have l7:=k7.len
 generalize hq7:YW enemy q6.1=q7 at *
 refine QhI b7 (e0:=5) (xs:=d.nested) (by kernel_rfl) obj (fld:=11) rfl own.nested k7.inv (by omega) ?_
 intro H8 b8
 have k8:=QhP d.nested k7.inv
 have l8:=k8.len
 generalize hq8:optB d.nested q7.1=q8 at *
 refine obj.ld b8.cut (i:=12) c.empty rfl ?_
 refine stat_pack b8 k8.inv own.empty (by omega) ?_
 intro H9 b9
 have k9:=optStat_ok d.empty k8.inv
 have l9:=k9.len
 generalize hq9:QgB d.empty q8.1=q9 at *
 refine QcP b9 (e0:=4) (es:=1) (al:=1) (k:=0) (items:=(d.bools.map QeF)) (by kernel_rfl) obj (fld:=22) rfl own.bools (by rw[List.length_map,List.length_map]) (Yc (f:=QeF) (k:=1) (fun _=>rfl)) k9.inv rfl (by decide) (by rw[List.length_map];omega) (by rw[List.length_map];omega) ?_ ?_ ?_
 ·intro H0 hb0 R0 h0
  refine Qaq hb0 k9.inv.nested (by rw[List.length_map];omega) ?_
  intro H' v' h'
  exact h0 H' v' (h'.room (Y7 (k:=0) _ rfl (by decide)))
 ·intro i h1 h2 S' H' r' hb' hr ha hmn hal hl' R' h'
  simp only[List.getElem_map]at h'⊢
  refine al_Bool hb' (by omega) (by omega) (by omega) ?_
  intro H'' h''
  exact h' H'' _ h''
 intro H10 b10
 have k10:=Qbi (es:=1) (al:=1) (items:=(d.bools.map QeF)) P2_1 (Yc (f:=QeF) (k:=1) (fun _=>rfl) (l:=d.bools)) k9.inv
 have l10:=k10.len
 generalize hq10:Qgl 1 1 (d.bools.map QeF) q9.1=q10 at *
 rw[List.length_map]at l10
 refine Qh6 b10 (e0:=9) (xs:=d.strings2) (pk:=QaR) (c:=(fun x=>x.length+8)) (sl:=5000) (by kernel_rfl) obj (fld:=26) rfl own.strings2 (by rw[List.length_map]) k10.inv (by omega) (fun x _ S h=>QbP x h) (by rw[QcM];omega) ?_ ?_ ?_
 ·intro H0 S0 F0 hb0 hi0 hl0 R0 h0
  refine Qab hb0 hi0.nested (by omega) ?_
  intro H' v' h'
  exact h0 H' v' (h'.room (Y7 (k:=2) _ rfl (by decide)))
 ·intro i h1 h2 S' H' F' hF hb' hi' hl' R' h'
  simp only[List.getElem_map]
  have hl2:S'.buf.length+(d.strings2[i].length+8)+5000<=536870912:=hl'
  exact str_pack hb' hi' (by omega) h'
 intro H11 b11
 have k11:=strs_ok d.strings2 k10.inv
 have l11:=k11.len
 generalize hq11:QhE (Q5 QaR d.strings2) q10.1=q11 at *
 obtain ⟨pl11,pn11,pe11,pt11⟩:=own.abil
 refine QcP b11 (e0:=163) (es:=8) (al:=4) (k:=2) (items:=(d.abilities.map (fun t:Qeu=>Zv t.id.toNat t.dist.toNat))) (by kernel_rfl) obj (fld:=27) rfl pn11 (by rw[List.length_map];exact pe11) (Yc (f:=(fun t:Qeu=>Zv t.id.toNat t.dist.toNat)) (k:=8) (fun _=>QbM _ _)) k11.inv rfl (by decide) (by rw[List.length_map];omega) (by rw[List.length_map];omega) ?_ ?_ ?_
 ·intro H0 hb0 R0 h0
  refine ZO hb0 k11.inv.nested (by rw[List.length_map];omega) ?_
  intro H' v' h'
  exact h0 H' v' (h'.room (Y7 (k:=2) _ rfl (by decide)))
 ·intro i h1 h2 S' H' r' hb' hr ha hmn hal hl' R' h'
  simp only[List.getElem_map]at h'⊢
  refine AbilityT_Pack hb' (pt11 i _ _ (List.getElem?_eq_getElem h1) (List.getElem?_eq_getElem (by simpa using h2))) hr (by omega) (by omega) (by omega) ?_
  exact h'
 intro H12 b12
 have k12:=Qbi (es:=8) (al:=4) (items:=(d.abilities.map (fun t:Qeu=>Zv t.id.toNat t.dist.toNat))) P2_4 (Yc (f:=(fun t:Qeu=>Zv t.id.toNat t.dist.toNat)) (k:=8) (fun _=>QbM _ _) (l:=d.abilities)) k11.inv
 have l12:=k12.len
 generalize hq12:Qgl 8 4 (d.abilities.map (fun t:Qeu=>Zv t.id.toNat t.dist.toNat)) q11.1=q12 at *
 rw[List.length_map]at l12
 refine QhI b12 (e0:=5) (xs:=d.flex) (by kernel_rfl) obj (fld:=28) rfl own.flex k12.inv (by omega) ?_
 intro H13 b13
 have k13:=QhP d.flex k12.inv
 have l13:=k13.len
 generalize hq13:optB d.flex q12.1=q13 at *
 obtain ⟨pl13,pn13,pe13,pt13⟩:=own.test5
 refine QcP b13 (e0:=158) (es:=4) (al:=2) (k:=1) (items:=(d.test5.map (fun t:Qbo=>QaJ t.a.toNat t.b.toNat))) (by kernel_rfl) obj (fld:=29) rfl pn13 (by rw[List.length_map];exact pe13) (Yc (f:=(fun t:Qbo=>QaJ t.a.toNat t.b.toNat)) (k:=4) (fun _=>QaU _ _)) k13.inv rfl (by decide) (by rw[List.length_map];omega) (by rw[List.length_map];omega) ?_ ?_ ?_
 ·intro H0 hb0 R0 h0
  refine Qcy hb0 k13.inv.nested (by rw[List.length_map];omega) ?_
  intro H' v' h'
  exact h0 H' v' (h'.room (Y7 (k:=1) _ rfl (by decide)))
 ·intro i h1 h2 S' H' r' hb' hr ha hmn hal hl' R' h'
  simp only[List.getElem_map]at h'⊢
  refine TestT_Pack hb' (pt13 i _ _ (List.getElem?_eq_getElem h1) (List.getElem?_eq_getElem (by simpa using h2))) hr (by omega) (by omega) (by omega) ?_
  exact h'
 intro H14 b14
 have k14:=Qbi (es:=4) (al:=2) (items:=(d.test5.map (fun t:Qbo=>QaJ t.a.toNat t.b.toNat))) P2_2 (Yc (f:=(fun t:Qbo=>QaJ t.a.toNat t.b.toNat)) (k:=4) (fun _=>QaU _ _) (l:=d.test5)) k13.inv
 have l14:=k14.len
 generalize hq14:Qgl 4 2 (d.test5.map (fun t:Qbo=>QaJ t.a.toNat t.b.toNat)) q13.1=q14 at *
 rw[List.length_map]at l14
 refine QcP b14 (e0:=2) (es:=8) (al:=8) (k:=3) (items:=(d.longs.map Qap)) (by kernel_rfl) obj (fld:=30) rfl own.longs (by rw[List.length_map,List.length_map]) (Yc (f:=Qap) (k:=8) (fun _=>Qi _ _)) k14.inv rfl (by decide) (by rw[List.length_map];omega) (by rw[List.length_map];omega) ?_ ?_ ?_
 ·intro H0 hb0 R0 h0
  refine QaT hb0 k14.inv.nested (by rw[List.length_map];omega) ?_
  intro H' v' h'
  exact h0 H' v' (h'.room (Y7 (k:=3) _ rfl (by decide)))
 ·intro i h1 h2 S' H' r' hb' hr ha hmn hal hl' R' h'
  simp only[List.getElem_map]at h'⊢
  refine al_Int64 hb' (by omega) (by omega) (by omega) ?_
  intro H'' h''
  rw[Qdj (by decide)]at h''
  exact h' H'' _ h''
 intro H15 b15
 have k15:=Qbi (es:=8) (al:=8) (items:=(d.longs.map Qap)) Qfj (Yc (f:=Qap) (k:=8) (fun _=>Qi _ _) (l:=d.longs)) k14.inv
 have l15:=k15.len
 generalize hq15:Qgl 8 8 (d.longs.map Qap) q14.1=q15 at *
 rw[List.length_map]at l15
 refine QcP b15 (e0:=156) (es:=8) (al:=8) (k:=3) (items:=(d.doubles.map Qap)) (by kernel_rfl) obj (fld:=31) rfl own.doubles (by rw[List.length_map,List.length_map]) (Yc (f:=Qap) (k:=8) (fun _=>Qi _ _)) k15.inv rfl (by decide) (by rw[List.length_map];omega) (by rw[List.length_map];omega) ?_ ?_ ?_
 ·intro H0 hb0 R0 h0
  refine Qaz hb0 k15.inv.nested (by rw[List.length_map];omega) ?_
  intro H' v' h'
  exact h0 H' v' (h'.room (Y7 (k:=3) _ rfl (by decide)))
 ·intro i h1 h2 S' H' r' hb' hr ha hmn hal hl' R' h'
  simp only[List.getElem_map]at h'⊢
  refine al_Float64 hb' (by omega) (by omega) (by omega) ?_
  intro H'' h''
  exact h' H'' _ h''
 intro H16 b16
 have k16:=Qbi (es:=8) (al:=8) (items:=(d.doubles.map Qap)) Qfj (Yc (f:=Qap) (k:=8) (fun _=>Qi _ _) (l:=d.doubles)) k15.inv
 have l16:=k16.len
 generalize hq16:Qgl 8 8 (d.doubles.map Qap) q15.1=q16 at *
 rw[List.length_map]at l16
 refine obj.ld b16.cut (i:=32) c.parent rfl ?_
 refine parent_pack b16 k16.inv own.parent (by omega) ?_
 intro H17 b17
 have k17:=Qi2 d.parent k16.inv
 have l17:=k17.len
 generalize hq17:Qdx d.parent q16.1=q17 at *
 obtain ⟨pl17,pn17,pe17,pt17⟩:=own.refs
 refine Qh6 b17 (e0:=185) (xs:=d.refs) (pk:=QaW) (c:=(fun _=>40)) (sl:=5000) (by kernel_rfl) obj (fld:=33) rfl pn17 pe17 k17.inv (by omega) (fun x _ S h=>(QeA x h).1) (by rw[Qb8];omega) ?_ ?_ ?_
 ·intro H0 S0 F0 hb0 hi0 hl0 R0 h0
  refine Qa8 hb0 hi0.nested (by omega) ?_
  intro H' v' h'
  exact h0 H' v' (h'.room (Y7 (k:=2) _ rfl (by decide)))
 ·intro i h1 h2 S' H' F' hF hb' hi' hl' R' h'
  have hl2:S'.buf.length+40+5000<=536870912:=hl'
  exact Qfd hb' hi' ((pt17 i _ _ (List.getElem?_eq_getElem h1) (List.getElem?_eq_getElem h2)).mono hF) (by omega) h'
 intro H18 b18
 have k18:=refs_ok d.refs k17.inv
 have l18:=k18.len
 generalize hq18:QhE (Q5 QaW d.refs) q17.1=q18 at *
 refine QcP b18 (e0:=31) (es:=8) (al:=8) (k:=3) (items:=(d.weak.map Qap)) (by kernel_rfl) obj (fld:=35) rfl own.weak (by rw[List.length_map,List.length_map]) (Yc (f:=Qap) (k:=8) (fun _=>Qi _ _)) k18.inv rfl (by decide) (by rw[List.length_map];omega) (by rw[List.length_map];omega) ?_ ?_ ?_
 ·intro H0 hb0 R0 h0
  refine ZZ hb0 k18.inv.nested (by rw[List.length_map];omega) ?_
  intro H' v' h'
  exact h0 H' v' (h'.room (Y7 (k:=3) _ rfl (by decide)))
 ·intro i h1 h2 S' H' r' hb' hr ha hmn hal hl' R' h'
  simp only[List.getElem_map]at h'⊢
  refine al_Uint64 hb' (by omega) (by omega) (by omega) ?_
  intro H'' h''
  exact h' H'' _ h''
 intro H19 b19
 have k19:=Qbi (es:=8) (al:=8) (items:=(d.weak.map Qap)) Qfj (Yc (f:=Qap) (k:=8) (fun _=>Qi _ _) (l:=d.weak)) k18.inv
 have l19:=k19.len
 generalize hq19:Qgl 8 8 (d.weak.map Qap) q18.1=q19 at *
 rw[List.length_map]at l19
 obtain ⟨pl19,pn19,pe19,pt19⟩:=own.strong
 refine Qh6 b19 (e0:=185) (xs:=d.strong) (pk:=QaW) (c:=(fun _=>40)) (sl:=5000) (by kernel_rfl) obj (fld:=36) rfl pn19 pe19 k19.inv (by omega) (fun x _ S h=>(QeA x h).1) (by rw[Qb8];omega) ?_ ?_ ?_
 ·intro H0 S0 F0 hb0 hi0 hl0 R0 h0
  refine ZD hb0 hi0.nested (by omega) ?_
  intro H' v' h'
  exact h0 H' v' (h'.room (Y7 (k:=2) _ rfl (by decide)))
 ·intro i h1 h2 S' H' F' hF hb' hi' hl' R' h'
  have hl2:S'.buf.length+40+5000<=536870912:=hl'
  exact Qfd hb' hi' ((pt19 i _ _ (List.getElem?_eq_getElem h1) (List.getElem?_eq_getElem h2)).mono hF) (by omega) h'
 intro H20 b20
 have k20:=refs_ok d.strong k19.inv
 have l20:=k20.len
 generalize hq20:QhE (Q5 QaW d.strong) q19.1=q20 at *
 refine QcP b20 (e0:=31) (es:=8) (al:=8) (k:=3) (items:=(d.coOwnings.map Qap)) (by kernel_rfl) obj (fld:=38) rfl own.coOwnings (by rw[List.length_map,List.length_map]) (Yc (f:=Qap) (k:=8) (fun _=>Qi _ _)) k20.inv rfl (by decide) (by rw[List.length_map];omega) (by rw[List.length_map];omega) ?_ ?_ ?_
 ·intro H0 hb0 R0 h0
  refine Z6 hb0 k20.inv.nested (by rw[List.length_map];omega) ?_
  intro H' v' h'
  exact h0 H' v' (h'.room (Y7 (k:=3) _ rfl (by decide)))
 ·intro i h1 h2 S' H' r' hb' hr ha hmn hal hl' R' h'
  simp only[List.getElem_map]at h'⊢
  refine al_Uint64 hb' (by omega) (by omega) (by omega) ?_
  intro H'' h''
  exact h' H'' _ h''
 intro H21 b21
 have k21:=Qbi (es:=8) (al:=8) (items:=(d.coOwnings.map Qap)) Qfj (Yc (f:=Qap) (k:=8) (fun _=>Qi _ _) (l:=d.coOwnings)) k20.inv
 have l21:=k21.len
 generalize hq21:Qgl 8 8 (d.coOwnings.map Qap) q20.1=q21 at *
 rw[List.length_map]at l21
 refine QcP b21 (e0:=31) (es:=8) (al:=8) (k:=3) (items:=(d.nonOwnings.map Qap)) (by kernel_rfl) obj (fld:=40) rfl own.nonOwnings (by rw[List.length_map,List.length_map]) (Yc (f:=Qap) (k:=8) (fun _=>Qi _ _)) k21.inv rfl (by decide) (by rw[List.length_map];omega) (by rw[List.length_map];omega) ?_ ?_ ?_
 ·intro H0 hb0 R0 h0
  refine Zz hb0 k21.inv.nested (by rw[List.length_map];omega) ?_
  intro H' v' h'
  exact h0 H' v' (h'.room (Y7 (k:=3) _ rfl (by decide)))
 ·intro i h1 h2 S' H' r' hb' hr ha hmn hal hl' R' h'
  simp only[List.getElem_map]at h'⊢
  refine al_Uint64 hb' (by omega) (by omega) (by omega) ?_
  intro H'' h''
  exact h' H'' _ h''
 intro H22 b22
 have k22:=Qbi (es:=8) (al:=8) (items:=(d.nonOwnings.map Qap)) Qfj (Yc (f:=Qap) (k:=8) (fun _=>Qi _ _) (l:=d.nonOwnings)) k21.inv
 have l22:=k22.len
 generalize hq22:Qgl 8 8 (d.nonOwnings.map Qap) q21.1=q22 at *
 rw[List.length_map]at l22
 refine obj.ld b22.cut (i:=41) c.uniq rfl ?_
 refine Qfk b22 own.uniq (kidOk ih b22 k22.inv (by omega) tq (by omega)) k22.inv (by omega) ?_
 intro H23 b23
 have k23:=Qen (amb:=false) (ty:=d.uniqTy) (color:=d.uniqColor) k22.inv (Qar uniq q22.1 k22.inv)
 have l23:=k23.len
 generalize hq23:Qb9 false d.uniqTy d.uniqColor (YW uniq) q22.1=q23 at *
 refine obj.ld b23.cut (i:=42) c.amb rfl ?_
 refine Qe5 b23 own.amb (kidOk ih b23 k23.inv (by omega) ta (by omega)) k23.inv (by omega) ?_
 intro H24 b24
 have k24:=Qen (amb:=true) (ty:=d.ambTy) (color:=d.ambColor) k23.inv (Qar amb q23.1 k23.inv)
 have l24:=k24.len
 generalize hq24:Qb9 true d.ambTy d.ambColor (YW amb) q23.1=q24 at *
 refine QcP b24 (e0:=136) (es:=1) (al:=1) (k:=0) (items:=(d.enums.map (fun b:UInt8=>[b]))) (by kernel_rfl) obj (fld:=43) rfl own.enums (by rw[List.length_map,List.length_map]) (Yc (f:=(fun b:UInt8=>[b])) (k:=1) (fun _=>rfl)) k24.inv rfl (by decide) (by rw[List.length_map];omega) (by rw[List.length_map];omega) ?_ ?_ ?_
 ·intro H0 hb0 R0 h0
  refine QaY hb0 k24.inv.nested (by rw[List.length_map];omega) ?_
  intro H' v' h'
  exact h0 H' v' (h'.room (Y7 (k:=0) _ rfl (by decide)))
 ·intro i h1 h2 S' H' r' hb' hr ha hmn hal hl' R' h'
  simp only[List.getElem_map]at h'⊢
  refine al_Byte hb' (by omega) (by omega) (by omega) ?_
  intro H'' h''
  exact h' H'' _ h''
 intro H25 b25
 have k25:=Qbi (es:=1) (al:=1) (items:=(d.enums.map (fun b:UInt8=>[b]))) P2_1 (Yc (f:=(fun b:UInt8=>[b])) (k:=1) (fun _=>rfl) (l:=d.enums)) k24.inv
 have l25:=k25.len
 generalize hq25:Qgl 1 1 (d.enums.map (fun b:UInt8=>[b])) q24.1=q25 at *
 rw[List.length_map]at l25
 have hl25:q25.1.buf.length+10000<=536870912:=by omega
 have n25:q25.1.buf.length<=q25.1.buf.length:=Nat.le_refl _
 have n24:q24.1.buf.length<=q25.1.buf.length:=Nat.le_trans k25.le n25
 have n23:q23.1.buf.length<=q25.1.buf.length:=Nat.le_trans k24.le n24
 have n22:q22.1.buf.length<=q25.1.buf.length:=Nat.le_trans k23.le n23
 have n21:q21.1.buf.length<=q25.1.buf.length:=Nat.le_trans k22.le n22
 have n20:q20.1.buf.length<=q25.1.buf.length:=Nat.le_trans k21.le n21
 have n19:q19.1.buf.length<=q25.1.buf.length:=Nat.le_trans k20.le n20
 have n18:q18.1.buf.length<=q25.1.buf.length:=Nat.le_trans k19.le n19
 have n17:q17.1.buf.length<=q25.1.buf.length:=Nat.le_trans k18.le n18
 have n16:q16.1.buf.length<=q25.1.buf.length:=Nat.le_trans k17.le n17
 have n15:q15.1.buf.length<=q25.1.buf.length:=Nat.le_trans k16.le n16
 have n14:q14.1.buf.length<=q25.1.buf.length:=Nat.le_trans k15.le n15
 have n13:q13.1.buf.length<=q25.1.buf.length:=Nat.le_trans k14.le n14
 have n12:q12.1.buf.length<=q25.1.buf.length:=Nat.le_trans k13.le n13
 have n11:q11.1.buf.length<=q25.1.buf.length:=Nat.le_trans k12.le n12
 have n10:q10.1.buf.length<=q25.1.buf.length:=Nat.le_trans k11.le n11
 have n9:q9.1.buf.length<=q25.1.buf.length:=Nat.le_trans k10.le n10
 have n8:q8.1.buf.length<=q25.1.buf.length:=Nat.le_trans k9.le n9
 have n7:q7.1.buf.length<=q25.1.buf.length:=Nat.le_trans k8.le n8
 have n6:q6.1.buf.length<=q25.1.buf.length:=Nat.le_trans k7.le n7
 have n5:q5.1.buf.length<=q25.1.buf.length:=Nat.le_trans k6.le n6
 have n4:q4.1.buf.length<=q25.1.buf.length:=Nat.le_trans k5.le n5
 have n3:q3.1.buf.length<=q25.1.buf.length:=Nat.le_trans k4.le n4
 have n2:q2.1.buf.length<=q25.1.buf.length:=Nat.le_trans k3.le n3
 have n1:q1.1.buf.length<=q25.1.buf.length:=Nat.le_trans k2.le n2
 have hfold:Q5 (fun f=>f) (Qgh d (Q5 ZT tables) (YW enemy) (YW test) (YW uniq) (YW amb)) S=(q25.1,[q1.2,q2.2,q3.2,q4.2,q5.2,q6.2,q7.2,q8.2,q9.2,q10.2,q11.2,q12.2,q13.2,q14.2,q15.2,q16.2,q17.2,q18.2,q19.2,q20.2,q21.2,q22.2,q23.2,q24.2,q25.2]):=by
  simp only[Qgh,Q5,hq1,hq2,hq3,hq4,hq5,hq6,hq7,hq8,hq9,hq10,hq11,hq12,hq13,hq14,hq15,hq16,hq17,hq18,hq19,hq20,hq21,hq22,hq23,hq24,hq25]
 refine packTail_ok b25 k25.inv obj own hl25 (Nat.le_trans k1.off n1) (Nat.le_trans k2.off n2) (Nat.le_trans k3.off n3) (Nat.le_trans k4.off n4) (Nat.le_trans k5.off n5) (Nat.le_trans k6.off n6) (Nat.le_trans k7.off n7) (Nat.le_trans k8.off n8) (Nat.le_trans k9.off n9) (Nat.le_trans k10.off n10) (Nat.le_trans k11.off n11) (Nat.le_trans k12.off n12) (Nat.le_trans k13.off n13) (Nat.le_trans k14.off n14) (Nat.le_trans k15.off n15) (Nat.le_trans k16.off n16) (Nat.le_trans k17.off n17) (Nat.le_trans k18.off n18) (Nat.le_trans k19.off n19) (Nat.le_trans k20.off n20) (Nat.le_trans k21.off n21) (Nat.le_trans k22.off n22) (Nat.le_trans k23.off n23) (Nat.le_trans k24.off n24) (Nat.le_trans k25.off n25) ?_
 intro H' h'
 unfold packT at hR
 rw[hfold]at hR
 exact hR H' h'
theorem QeD:∀n,PackOk n
 |0=>fun m hm=>by omega
 |n+1=>packStep (QeD n)
theorem MonsterT_Pack {m:Mon} {H:Qf} {p:Nat} {S:BS} {F:Cut} {r:Nat} {v:Value} {R:Kn} (hB:Qc H p S F r) (hI:Inv S) (hv:MT F v m) (hl:S.buf.length+Qcq m+20000<=536870912)
  (hR:∀H',Qc H' p (ZT m S).1 F 0->R (.int .u32 ((ZT m S).2:Nat)) H'):FnS prog 21 #[v,.pointer (some ⟨p,0,none⟩)] H R:=
 QeD (Qcq m+1) m (Nat.lt_succ_self _) H p S F r v R hB hI hv hl hR
end Go.Proofs
namespace Go.Proofs
open Go Go.Vc
open Tryz (prog)
theorem putL_mid {α:Type} (A m xs B:List α) (h:m.length=xs.length):QaC (A++(m++B)) A.length xs=A++(xs++B):=by
 rw[QdY _ _ _ (by simp;omega)]
 rw[List.take_left,List.drop_append,<-h]
 have e:List.drop (A.length+m.length) A=[]:=List.drop_eq_nil_of_le (by omega)
 rw[e,show A.length+m.length-A.length=m.length by omega,List.drop_left]
 simp
theorem le4_leBI (x:Int) (rest:List UInt8):(le4 (leB x 4++rest) 0:Int)=x%4294967296:=by
 have hb:∀i,i<4->(byteN (leB x 4++rest) i:Int)=(x/2^(8*i))%256:=by
  intro i hi
  have:byteN (leB x 4++rest) i=byteN (leB x 4) i:=by
   unfold byteN
   congr 1
   simp only[List.getD]
   rw[List.getElem?_append_left (by rw[Qi];exact hi)]
  rw[this,Qex hi,Qhg]
 have h0:=hb 0 (by omega)
 have h1:=hb 1 (by omega)
 have h2:=hb 2 (by omega)
 have h3:=hb 3 (by omega)
 rw[le4_eq]
 rw[show (2:Int)^(8*0)=1 from rfl]at h0
 rw[show (2:Int)^(8*1)=256 from rfl]at h1
 rw[show (2:Int)^(8*2)=65536 from rfl]at h2
 rw[show (2:Int)^(8*3)=16777216 from rfl]at h3
 simp only[Nat.zero_add]
 omega
def entB (oo v:Nat):List UInt8:=leB ((if v≠0 then oo-v else 0:Nat):Int) 2
def ents (oo:Nat) (vs:List Nat):List UInt8:=(vs.map (entB oo)).flatten
theorem ents_len (oo:Nat):∀vs,(ents oo vs).length=2*vs.length
 |[]=>rfl
 |v::vs=>by
  have:=ents_len oo vs
  unfold ents at this⊢
  rw[List.map_cons,List.flatten_cons,List.length_append,this,entB,Qi,List.length_cons];omega
theorem wrEnt_buf (oo:Nat):∀(vs:List Nat) (S:BS),S.buf.length%2=0->(ZH oo vs S).buf=ents oo vs++S.buf
 |[],S,_=>rfl
 |v::vs,S,h=>by
  have ih:=wrEnt_buf oo vs S h
  rw[ZH,QeN,ih,YT (by rw[List.length_append,ents_len];omega)]
  simp[ents,entB]
theorem le2_ents (oo:Nat) (rest:List UInt8):∀(vs:List Nat) (i:Nat),i<vs.length->le2 (ents oo vs++rest) (2*i)=(if vs.getD i 0≠0 then oo-vs.getD i 0 else 0)%65536
 |v::vs,0,_=>by
  have e:ents oo (v::vs)++rest=leB ((if v≠0 then oo-v else 0:Nat):Int) 2++(ents oo vs++rest):=by simp[ents,entB]
  rw[e]
  exact QhL (Nat.le_refl _) _
 |v::vs,i+1,h=>by
  have e:ents oo (v::vs)++rest=leB ((if v≠0 then oo-v else 0:Nat):Int) 2++(ents oo vs++rest):=by simp[ents,entB]
  have e2:2*(i+1)=(leB ((if v≠0 then oo-v else 0:Nat):Int) 2).length+2*i:=by rw[Qi];omega
  rw[e,e2,YP,le2_ents oo rest vs i (by simpa using h)]
  rfl
theorem Qea:∀(l:List Nat) (j:Nat),Zp l<=j->l.getD j 0=0
 |[],j,_=>by simp
 |x::xs,j,h=>by
  rw[Zp]at h
  split at h
  ·rename_i hx
   cases j with
   |zero=>simpa using hx.2
   |succ j=>simpa using Qea xs j (by omega)
  ·cases j with
   |zero=>omega
   |succ j=>simpa using Qea xs j (by omega)
theorem getD_take (l:List Nat) (n j:Nat) (h:j<n):(l.take n).getD j 0=l.getD j 0:=by
 simp only[List.getD]
 rw[List.getElem?_take,if_pos h]
structure Qd8 (S:BS):Prop where
 ev:∀o∈S.vts,o%2=0
 wh:∀o∈S.vts,4<=le2 S.buf (S.buf.length-o+2)/\le2 S.buf (S.buf.length-o+2)<=o
 en:∀o∈S.vts,∀i,6+2*i<=le2 S.buf (S.buf.length-o)->le2 S.buf (S.buf.length-o+(4+2*i))<le2 S.buf (S.buf.length-o+2)
theorem Qd8.ext {S S':BS} (h:Qd8 S) (hk:Qgx S) (hv:S'.vts=S.vts) {x:List UInt8} (hb:S'.buf=x++S.buf):Qd8 S':=by
 have key:∀o∈S.vts,∀i,le2 S'.buf (S'.buf.length-o+i)=le2 S.buf (S.buf.length-o+i):=fun o ho i=>by
  obtain ⟨h1,h2,h3,h4⟩:=hk o ho
  have e:S'.buf.length-o+i=x.length+(S.buf.length-o+i):=by rw[hb,List.length_append];omega
  rw[e,hb,YP]
 have key0:∀o∈S.vts,le2 S'.buf (S'.buf.length-o)=le2 S.buf (S.buf.length-o):=fun o ho=>key o ho 0
 refine ⟨fun o ho=>h.ev o (hv▸ho),fun o ho=>?_,fun o ho i hi=>?_⟩
 ·rw[hv]at ho;rw[key o ho];exact h.wh o ho
 ·rw[hv]at ho;rw[key o ho,key o ho];rw[key0 o ho]at hi;exact h.en o ho i hi
theorem Qd8.new:Qd8 Qcp:=⟨fun o ho=>by simp[Qcp]at ho,fun o ho=>by simp[Qcp]at ho,fun o ho=>by simp[Qcp]at ho⟩
structure ObjRd (bs:List UInt8) (pos vt:Nat) (v:Nat->Nat) (n:Nat):Prop where
 ok:VT bs pos vt
 sl:∀j,j<n->slotAt bs vt (4+2*j)=if v j=0 then 0 else bs.length-pos-v j
 pl:∀j,j<n->v j≠0->v j<bs.length-pos
 w4:4<=le2 bs (vt+2)/\pos+le2 bs (vt+2)<=bs.length
 wl:∀j,j<n->slotAt bs vt (4+2*j)<le2 bs (vt+2)
 al:(bs.length-pos)%4=0/\(bs.length-vt)%2=0
theorem endObj_read {S0 S:BS} {n c:Nat} (h:YA S0 n c S) (hg:∀j,S.vt.getD j 0=0\/S0.buf.length<S.vt.getD j 0) (h0:Inv S0) (h2:Qd8 S0) (hn:n<1000) (hc:c<60000) (hl:S.buf.length<1000000000):
  Qd8 (endObj S)/\(∃y,(endObj S).buf=y++S.buf)/\(putOff 0 S).buf.length<=(endObj S).buf.length/\S.buf.length+4<=(putOff 0 S).buf.length/\
   ∃vt,ObjRd (endObj S).buf ((endObj S).buf.length-(putOff 0 S).buf.length) vt (fun j=>S.vt.getD j 0) n:=by
 obtain ⟨x,hx⟩:=h.ext
 have hp:=Zk (size:=4) (n:=S.buf.length+0) (by decide)
 have hpm:=Qco (size:=4) (n:=S.buf.length+0) (by decide)
 generalize hpe:padOf 4 (S.buf.length+0)=pd at *
 have hS1:(putOff 0 S).buf=leB (((prep 4 0 S).buf.length-0+4:Nat):Int) 4++((List.replicate pd 0++x)++S0.buf):=by
  have e:(putOff 0 S).buf=leB (((prep 4 0 S).buf.length-0+4:Nat):Int) 4++(List.replicate (padOf 4 (S.buf.length+0)) 0++S.buf):=rfl
  rw[e,hpe,hx,List.append_assoc]
 have hS1v:(putOff 0 S).vt=S.vt:=rfl
 have hS1t:(putOff 0 S).vts=S0.vts:=h.vts
 have hSl:S.buf.length=x.length+S0.buf.length:=by rw[hx,List.length_append]
 have hle:=h.len
 have hvtl:=h.vtl
 generalize hL:leB (((prep 4 0 S).buf.length-0+4:Nat):Int) 4=L at hS1
 have hLl:L.length=4:=by rw[<-hL,Qi]
 generalize hT:List.replicate pd (0:UInt8)++x=T at *
 have hTl:T.length=pd+x.length:=by rw[<-hT];simp
 have hoo:(putOff 0 S).buf.length=4+T.length+S0.buf.length:=by rw[hS1];simp[hLl];omega
 rw[QfB S _ _ _ _ rfl rfl rfl rfl]
 generalize putOff 0 S=S1 at *
 generalize hvt:S1.vt.take (Zp S1.vt)=vt
 rw[hS1v]at hvt
 have htl:=Qhx S.vt
 have hvtlen:vt.length=Zp S.vt:=by rw[<-hvt,List.length_take];omega
 have hvtget:∀j,j<vt.length->vt.getD j 0=S.vt.getD j 0:=fun j hj=>by rw[<-hvt];exact getD_take _ _ _ (by omega)
 have hbehind:∀j,vt.length<=j->S.vt.getD j 0=0:=fun j hj=>Qea _ _ (by omega)
 generalize hoo':S1.buf.length=oo at *
 have hoo4:oo%4=0:=by omega
 have hvle:∀j,S.vt.getD j 0+4<=oo:=fun j=>by have:=h.vle j;omega
 generalize hex:QbO (Qai vt oo S1.buf) S1.vts=ex
 rw[hS1t]at hex
 by_cases hz:ex=0
 ·
  rw[if_pos hz]
  have hS2b:({S1 with vt:=vt}:BS).buf=S1.buf:=rfl
  generalize ({S1 with vt:=vt}:BS)=S2 at *
  have hW:(ZH oo vt S2).buf=ents oo vt++S1.buf:=by rw[wrEnt_buf oo vt S2 (by rw[hS2b];omega),hS2b]
  have hel:=ents_len oo vt
  have e4:(putN 2 (leB ((oo-S.oe:Nat):Int) 2) (ZH oo vt S2)).buf=leB ((oo-S.oe:Nat):Int) 2++(ents oo vt++S1.buf):=by
   rw[QeN,hW,YT (by rw[List.length_append,hel,hoo'];omega)];rfl
  have e5:(putN 2 (leB ((2*(vt.length+2):Nat):Int) 2) (putN 2 (leB ((oo-S.oe:Nat):Int) 2) (ZH oo vt S2))).buf=
    (leB ((2*(vt.length+2):Nat):Int) 2++(leB ((oo-S.oe:Nat):Int) 2++ents oo vt))++(L++(T++S0.buf)):=by
   rw[QeN,e4,YT (by rw[List.length_append,List.length_append,Qi,hel,hoo'];omega),hS1];simp
  generalize hS5:putN 2 (leB ((2*(vt.length+2):Nat):Int) 2) (putN 2 (leB ((oo-S.oe:Nat):Int) 2) (ZH oo vt S2))=S5 at *
  generalize hWd:leB ((2*(vt.length+2):Nat):Int) 2++(leB ((oo-S.oe:Nat):Int) 2++ents oo vt)=W at *
  have hWl:W.length=4+2*vt.length:=by rw[<-hWd];simp only[List.length_append,Qi,hel];omega
  have hS5l:S5.buf.length=W.length+oo:=by rw[e5];simp only[List.length_append,hLl];omega
  have hq:S5.buf.length-oo=W.length:=by omega
  rw[hq,hS1t]
  have hbs:QaC S5.buf W.length (leB (W.length:Int) 4)=W++(leB (W.length:Int) 4++(T++S0.buf)):=by
   rw[e5];exact putL_mid _ _ _ _ (by rw[hLl,Qi])
  have hbuf:(QcT W.length (W.length:Int) S5).buf=W++(leB (W.length:Int) 4++(T++S0.buf)):=hbs
  show Qd8 {QcT W.length (W.length:Int) S5 with vts:=S0.vts++[S5.buf.length],vt:=[],nested:=false}/\_
  have hbl:(W++(leB (W.length:Int) 4++(T++S0.buf))).length=W.length+oo:=by simp only[List.length_append,Qi];omega
  have r0:le2 (W++(leB (W.length:Int) 4++(T++S0.buf))) 0=2*(vt.length+2):=by
   rw[<-hWd,List.append_assoc,QhL (Nat.le_refl _)];omega
  have r2:le2 (W++(leB (W.length:Int) 4++(T++S0.buf))) 2=oo-S.oe:=by
   have q:=YP (x:=leB ((2*(vt.length+2):Nat):Int) 2) (bs:=(leB ((oo-S.oe:Nat):Int) 2++ents oo vt)++(leB (W.length:Int) 4++(T++S0.buf))) (i:=0)
   rw[Qi,<-List.append_assoc,hWd]at q
   rw[q,List.append_assoc,QhL (Nat.le_refl _),h.oe];omega
  have re:∀i,i<vt.length->le2 (W++(leB (W.length:Int) 4++(T++S0.buf))) (4+2*i)=if S.vt.getD i 0=0 then 0 else oo-S.vt.getD i 0:=fun i hi=>by
   have e:4+2*i=(leB ((2*(vt.length+2):Nat):Int) 2).length+((leB ((oo-S.oe:Nat):Int) 2).length+2*i):=by rw[Qi,Qi];omega
   rw[<-hWd,List.append_assoc,e,YP,List.append_assoc,YP,le2_ents _ _ _ _ hi,hvtget i hi]
   by_cases hv:S.vt.getD i 0=0
   ·rw[if_neg (fun h=>h hv),if_pos hv]
   ·rw[if_pos hv,if_neg hv]
    have:=(hg i).resolve_left hv
    omega
  have hlen:({QcT W.length (W.length:Int) S5 with vts:=S0.vts++[S5.buf.length],vt:=[],nested:=false}:BS).buf=W++(leB (W.length:Int) 4++(T++S0.buf)):=hbuf
  have hkey:∀o∈S0.vts,∀i,le2 (W++(leB (W.length:Int) 4++(T++S0.buf))) ((W++(leB (W.length:Int) 4++(T++S0.buf))).length-o+i)=le2 S0.buf (S0.buf.length-o+i):=fun o ho i=>by
   have ho2:=(h0.vts o ho).2.1
   have ea:W++(leB (W.length:Int) 4++(T++S0.buf))=(W++(leB (W.length:Int) 4++T))++S0.buf:=by simp
   rw[ea,show ((W++(leB (W.length:Int) 4++T))++S0.buf).length-o+i=(W++(leB (W.length:Int) 4++T)).length+(S0.buf.length-o+i) by simp only[List.length_append];omega,YP]
  have hoe:=h.oe
  refine ⟨⟨?_,?_,?_⟩,⟨W++(leB (W.length:Int) 4++List.replicate pd 0),?_⟩,?_,by omega,0,?_⟩
  ·intro o ho
   rcases List.mem_append.1 (show o∈S0.vts++[S5.buf.length] from ho) with ho|ho
   ·exact h2.ev o ho
   ·have:o=S5.buf.length:=by simpa using ho
    omega
  ·intro o ho
   rw[hlen]
   rcases List.mem_append.1 (show o∈S0.vts++[S5.buf.length] from ho) with ho|ho
   ·rw[hkey o ho];exact h2.wh o ho
   ·have:o=S5.buf.length:=by simpa using ho
    rw[show (W++(leB (W.length:Int) 4++(T++S0.buf))).length-o+2=2 by omega,r2]
    omega
  ·intro o ho i hi
   rw[hlen]at hi⊢
   rcases List.mem_append.1 (show o∈S0.vts++[S5.buf.length] from ho) with ho|ho
   ·rw[hkey o ho,hkey o ho]
    rw[show (W++(leB (W.length:Int) 4++(T++S0.buf))).length-o=(W++(leB (W.length:Int) 4++(T++S0.buf))).length-o+0 from rfl,hkey o ho]at hi
    exact h2.en o ho i hi
   ·have:o=S5.buf.length:=by simpa using ho
    have e0:(W++(leB (W.length:Int) 4++(T++S0.buf))).length-o=0:=by omega
    rw[e0,r0]at hi
    rw[e0,Nat.zero_add,Nat.zero_add,r2,re i (by omega)]
    split
    ·omega
    ·rename_i hv
     have:=(hg i).resolve_left hv
     have:=hvle i
     omega
  ·rw[hlen,hx,<-hT];simp
  ·rw[hlen,hbl];omega
  ·rw[hlen,hbl,show W.length+oo-oo=W.length by omega]
   have rp:le4 (W++(leB (W.length:Int) 4++(T++S0.buf))) W.length=W.length:=by
    have:=Qav (x:=W) (bs:=leB (W.length:Int) 4++(T++S0.buf)) (i:=0)
    rw[Nat.add_zero]at this
    rw[this,QfK (Nat.le_refl _)];omega
   have hsl:∀j,j<n->slotAt (W++(leB (W.length:Int) 4++(T++S0.buf))) 0 (4+2*j)=if S.vt.getD j 0=0 then 0 else oo-S.vt.getD j 0:=fun j hj=>by
    unfold slotAt
    rw[r0,Nat.zero_add]
    by_cases hjl:j<vt.length
    ·rw[if_pos (by omega),re j hjl]
    ·rw[if_neg (by omega),if_pos (hbehind j (by omega))]
   refine ⟨⟨by omega,?_,by omega,by omega,by omega⟩,?_,?_,?_,?_,?_⟩
   ·rw[rp,YV (by omega) (by omega)];omega
   ·intro j hj
    rw[hsl j hj,hbl,show W.length+oo-W.length=oo by omega]
   ·intro j hj hv
    have:=hvle j
    rw[hbl];show S.vt.getD j 0<_;omega
   ·rw[Nat.zero_add,r2,hbl];omega
   ·intro j hj
    rw[hsl j hj,Nat.zero_add,r2]
    split
    ·omega
    ·rename_i hv
     have:=(hg j).resolve_left hv
     have:=hvle j
     omega
   ·rw[hbl];omega
 ·
  rw[if_neg hz]
  obtain ⟨hmem,hserv⟩:=Qht (Qai vt oo S1.buf) S0.vts (by rw[hex];exact hz)
  rw[hex]at hmem hserv
  obtain ⟨v1,v2,v3,v4⟩:=h0.vts ex hmem
  obtain ⟨w1,w2⟩:=h2.wh ex hmem
  have hev:=h2.ev ex hmem
  have hen:=h2.en ex hmem
  have hbs:QaC S1.buf 0 (leB ((ex:Int)-(oo:Int)) 4)=leB ((ex:Int)-(oo:Int)) 4++(T++S0.buf):=by
   rw[hS1];exact putL_mid [] _ _ _ (by rw[hLl,Qi])
  have hlen:({QcT 0 ((ex:Int)-(oo:Int)) S1 with vt:=[],nested:=false}:BS).buf=leB ((ex:Int)-(oo:Int)) 4++(T++S0.buf):=hbs
  have hvts:({QcT 0 ((ex:Int)-(oo:Int)) S1 with vt:=[],nested:=false}:BS).vts=S0.vts:=hS1t
  generalize ({QcT 0 ((ex:Int)-(oo:Int)) S1 with vt:=[],nested:=false}:BS)=E at *
  have hbl:(leB ((ex:Int)-(oo:Int)) 4++(T++S0.buf)).length=oo:=by simp only[List.length_append,Qi];omega
  have hkey:∀(Y:List UInt8),Y.length=4->∀i,le2 (Y++(T++S0.buf)) (oo-ex+i)=le2 S0.buf (S0.buf.length-ex+i):=fun Y hY i=>by
   rw[<-List.append_assoc,show oo-ex+i=(Y++T).length+(S0.buf.length-ex+i) by simp only[List.length_append];omega,YP]
  have k1:=hkey L hLl
  have k2:=hkey (leB ((ex:Int)-(oo:Int)) 4) (by rw[Qi])
  have k10:=k1 0
  have k20:=k2 0
  rw[Nat.add_zero,Nat.add_zero]at k10 k20
  unfold Qai QgV at hserv
  rw[hS1,k10]at hserv
  simp only[Bool.and_eq_true,decide_eq_true_eq,List.all_eq_true,List.mem_range,Bool.or_eq_true]at hserv
  obtain ⟨hs1,hs2⟩:=hserv
  have re:∀i,i<vt.length->le2 S0.buf (S0.buf.length-ex+(4+2*i))=if S.vt.getD i 0=0 then 0 else oo-S.vt.getD i 0:=fun i hi=>by
   have q:=hs2 i hi
   rw[show oo-ex+4+2*i=oo-ex+(4+2*i) by omega,k1,hvtget i hi]at q
   have hb:=hen i (by omega)
   have:=hvle i
   rcases q with ⟨q1,q2⟩|q
   ·rw[if_pos q2,q1]
   ·by_cases hv:S.vt.getD i 0=0
    ·rw[hv]at q;omega
    ·rw[if_neg hv];omega
  have hsl:∀j,j<n->slotAt (leB ((ex:Int)-(oo:Int)) 4++(T++S0.buf)) (oo-ex) (4+2*j)=if S.vt.getD j 0=0 then 0 else oo-S.vt.getD j 0:=fun j hj=>by
   unfold slotAt
   rw[k20,k2]
   by_cases hjl:j<vt.length
   ·rw[if_pos (by omega),re j hjl]
   ·rw[if_neg (by omega),if_pos (hbehind j (by omega))]
  refine ⟨h2.ext (S':=E) h0.vts hvts (x:=leB ((ex:Int)-(oo:Int)) 4++T) (by rw[hlen];simp),⟨leB ((ex:Int)-(oo:Int)) 4++List.replicate pd 0,by rw[hlen,hx,<-hT];simp⟩,by rw[hlen,hbl];exact Nat.le_refl _,by omega,oo-ex,?_⟩
  rw[hlen,hbl,Nat.sub_self]
  refine ⟨⟨by omega,?_,by rw[k20,hbl];omega,by rw[k20];exact v3,by rw[k20];omega⟩,?_,?_,?_,?_,?_⟩
  ·have e:=le4_leBI ((ex:Int)-(oo:Int)) (T++S0.buf)
   have ew:IntKind.i32.wrap ((le4 (leB ((ex:Int)-(oo:Int)) 4++(T++S0.buf)) 0:Nat):Int)=(ex:Int)-(oo:Int):=by
    rw[e]
    have:=Qeo .i32 (x:=((ex:Int)-(oo:Int))%4294967296) (y:=(ex:Int)-(oo:Int)) (by
     show _%(4294967296:Int)=_%(4294967296:Int)
     rw[Int.emod_emod_of_dvd _ (Int.dvd_refl _)])
    rw[this,YV (by omega) (by omega)]
   rw[ew];omega
  ·intro j hj
   rw[hsl j hj,hbl,Nat.sub_zero]
  ·intro j hj hv
   have:=hvle j
   rw[hbl];show S.vt.getD j 0<_;omega
  ·rw[k2,hbl];omega
  ·intro j hj
   rw[hsl j hj,k2]
   split
   ·omega
   ·rename_i hv
    have hjl:j<vt.length:=by
     apply Nat.lt_of_not_le
     intro hc
     exact hv (hbehind j hc)
    have:=hen j (by omega)
    rw[re j hjl,if_neg hv]at this
    exact this
  ·rw[hbl];omega
end Go.Proofs
namespace Go.Proofs
open Go Go.Vc
open Tryz (prog)
abbrev PP:=Nat->List UInt8->Nat->Prop
def QY (P:PP):Prop:=∀A A' bs x p,A<=A'->P A bs p->P A' (x++bs) (x.length+p)
def Alg (A k:Nat) (bs:List UInt8) (p:Nat):Prop:=P2 k/\k<=A/\(bs.length-p)%k=0
theorem Alg.stable {k:Nat}:QY (fun A bs p=>Alg A k bs p):=fun A A' bs x p hA h=>⟨h.1,Nat.le_trans h.2.1 hA,by
 rw[List.length_append,show x.length+bs.length-(x.length+p)=bs.length-p by omega];exact h.2.2⟩
theorem QY.and {P Q:PP} (hP:QY P) (hQ:QY Q):QY (fun A bs p=>P A bs p/\Q A bs p):=fun A A' bs x p hA h=>⟨hP A A' bs x p hA h.1,hQ A A' bs x p hA h.2⟩
theorem leN_append {k:Nat} {x bs:List UInt8} {i:Nat}:leN k (x++bs) (x.length+i)=leN k bs i:=by
 unfold leN
 split
 ·exact QbS
 ·exact YP
 ·exact Qav
 ·exact le8_append
theorem QhA {x bs:List UInt8} {i:Nat}:tgt (x++bs) (x.length+i)=x.length+tgt bs i:=by
 unfold tgt;rw[Qav];omega
def ZJ (k n:Nat):PP:=fun A bs p=>p+k<=bs.length/\Alg A k bs p/\leN k bs p=n
theorem ZJ.stable {k n:Nat}:QY (ZJ k n):=fun A A' bs x p hA h=>⟨by rw[List.length_append];have:=h.1;omega,Alg.stable A A' bs x p hA h.2.1,by rw[leN_append];exact h.2.2⟩
def Qck (off:Nat):PP:=fun A bs p=>p+4<=bs.length/\Alg A 4 bs p/\off<=bs.length/\tgt bs p=bs.length-off
theorem Qck.stable {off:Nat}:QY (Qck off):=fun A A' bs x p hA h=>⟨by rw[List.length_append];have:=h.1;omega,Alg.stable A A' bs x p hA h.2.1,by rw[List.length_append];have:=h.2.2.1;omega,by
 rw[QhA,h.2.2.2,List.length_append];have:=h.2.2.1;omega⟩
def BytesP (k:Nat) (xs:List UInt8):PP:=fun A bs p=>p+xs.length<=bs.length/\Alg A k bs p/\(bs.drop p).take xs.length=xs
theorem Qe7 {x bs:List UInt8} {p:Nat}:(x++bs).drop (x.length+p)=bs.drop p:=by
 rw[List.drop_append,List.drop_eq_nil_of_le (by omega),List.nil_append];congr 1;omega
theorem BytesP.stable {k:Nat} {xs:List UInt8}:QY (BytesP k xs):=fun A A' bs x p hA h=>⟨by rw[List.length_append];have:=h.1;omega,Alg.stable A A' bs x p hA h.2.1,by rw[Qe7];exact h.2.2⟩
structure Spec where
 o:Nat
 ab:Prop
 q:PP
def Fact (L0:Nat) (S:BS) (s:Spec):Prop:=
 (S.vt.getD s.o 0=0/\s.ab)\/(S.vt.getD s.o 0≠0/\¬s.ab/\L0<S.vt.getD s.o 0/\S.vt.getD s.o 0<=S.buf.length/\s.q S.min S.buf (S.buf.length-S.vt.getD s.o 0))
structure Op (f:BS->BS) (L0:Nat) (s:Spec):Prop where
 st:QY s.q
 ext:∀S,∃x,(f S).buf=x++S.buf
 min:∀S,S.min<=(f S).min
 len:∀S,(f S).buf.length<=S.buf.length+64
 vl:∀S,(f S).vt.length=S.vt.length
 oth:∀S j,j≠s.o->(f S).vt.getD j 0=S.vt.getD j 0
 own:∀S,L0<=S.buf.length->S.buf.length<4000000000->s.o<S.vt.length->S.vt.getD s.o 0=0->Fact L0 (f S) s
theorem Fact.mono {L0:Nat} {S S':BS} {s:Spec} (hs:QY s.q) (h:Fact L0 S s) {x:List UInt8} (hb:S'.buf=x++S.buf) (hm:S.min<=S'.min) (hv:S'.vt.getD s.o 0=S.vt.getD s.o 0):Fact L0 S' s:=by
 unfold Fact at h⊢
 rw[hv]
 rcases h with h|⟨h1,h2,h3,h4,h5⟩
 ·exact Or.inl h
 ·refine Or.inr ⟨h1,h2,h3,by rw[hb,List.length_append];omega,?_⟩
  have:=hs S.min S'.min S.buf x _ hm h5
  rw[hb,show (x++S.buf).length-S.vt.getD s.o 0=x.length+(S.buf.length-S.vt.getD s.o 0) by rw[List.length_append];omega]
  exact this
def OpsOk (L0:Nat):List (BS->BS)->List Spec->Prop
 |[],[]=>True
 |f::fs,s::ss=>Op f L0 s/\OpsOk L0 fs ss
 |_,_=>False
def Facts (L0:Nat) (S:BS):List Spec->Prop
 |[]=>True
 |s::ss=>Fact L0 S s/\Facts L0 S ss
theorem runS_spec {L0:Nat}:∀(fs:List (BS->BS)) (ss:List Spec),OpsOk L0 fs ss->(ss.map Spec.o).Nodup->∀(S:BS),L0<=S.buf.length->S.buf.length+64*fs.length<4000000000->
  (∀s∈ss,s.o<S.vt.length/\S.vt.getD s.o 0=0)->
  (∃x,(Zi fs S).buf=x++S.buf)/\S.min<=(Zi fs S).min/\(Zi fs S).vt.length=S.vt.length/\(∀j,(∀s∈ss,j≠s.o)->(Zi fs S).vt.getD j 0=S.vt.getD j 0)/\Facts L0 (Zi fs S) ss
 |[],[],_,_,S,_,_,_=>⟨⟨[],rfl⟩,Nat.le_refl _,rfl,fun _ _=>rfl,trivial⟩
 |f::fs,s::ss,⟨ho,hok⟩,hnd,S,hL,hb,hs=>by
  rw[List.map_cons,List.nodup_cons]at hnd
  obtain ⟨x,hx⟩:=ho.ext S
  have hl:(f S).buf.length=x.length+S.buf.length:=by rw[hx,List.length_append]
  have hg:=ho.len S
  rw[List.length_cons]at hb
  have hne:∀s'∈ss,s'.o≠s.o:=fun s' hs' h=>hnd.1 (by rw[<-h];exact List.mem_map_of_mem hs')
  obtain ⟨⟨y,hy⟩,hmin,hvl,hoth,hf⟩:=runS_spec fs ss hok hnd.2 (f S) (by omega) (by omega)
   (fun s' hs'=>⟨by rw[ho.vl];exact (hs s' (List.mem_cons_of_mem _ hs')).1,by rw[ho.oth S _ (hne s' hs')];exact (hs s' (List.mem_cons_of_mem _ hs')).2⟩)
  have hown:=ho.own S hL (by omega) (hs s List.mem_cons_self).1 (hs s List.mem_cons_self).2
  refine ⟨⟨y++x,by rw[Zi,hy,hx,List.append_assoc]⟩,Nat.le_trans (ho.min S) hmin,by rw[Zi,hvl,ho.vl],fun j hj=>?_,?_,hf⟩
  ·rw[Zi,hoth j (fun s' hs'=>hj s' (List.mem_cons_of_mem _ hs')),ho.oth S j (hj s List.mem_cons_self)]
  ·exact hown.mono ho.st hy hmin (hoth s.o (fun s' hs' h=>hne s' hs' h.symm))
theorem putN_min (k:Nat) (xs:List UInt8) (S:BS):(putN k xs S).min=Nat.max S.min k:=rfl
theorem putN_vt (k:Nat) (xs:List UInt8) (S:BS):(putN k xs S).vt=S.vt:=rfl
theorem padOf_mod0 {k n:Nat} (hk:0<k):(padOf k (n+0)+n)%k=0:=by
 have:=Qco (size:=k) (n:=n) hk
 rw[Nat.add_zero,Nat.add_comm];exact this
theorem putN_num {k n:Nat} (hk:P2 k) (hn:n<256^k) (S:BS):ZJ k n (putN k (leB (n:Int) k) S).min (putN k (leB (n:Int) k) S).buf 0/\(putN k (leB (n:Int) k) S).buf.length=k+padOf k (S.buf.length+0)+S.buf.length:=by
 have e:=QeN k (leB (n:Int) k) S
 have el:(putN k (leB (n:Int) k) S).buf.length=k+padOf k (S.buf.length+0)+S.buf.length:=by rw[e];simp[Qi];omega
 refine ⟨⟨by omega,⟨hk,Nat.le_max_right _ _,?_⟩,?_⟩,el⟩
 ·rw[el,Nat.sub_zero]
  have:=padOf_mod0 (n:=S.buf.length) hk.pos
  rw[Nat.add_assoc,Nat.add_mod_left];exact this
 ·rw[e]
  obtain ⟨j,hj,rfl⟩:=hk
  have:j=0\/j=1\/j=2\/j=3:=by omega
  rcases this with rfl|rfl|rfl|rfl
  ·show byteN _ _=_
   have h:=Qex (x:=(n:Int)) (k:=1) (i:=0) (by decide)
   have h2:=QfT n 0
   have h3:byteN (leB (n:Int) 1++(List.replicate (padOf 1 (S.buf.length+0)) 0++S.buf)) 0=byteN (leB (n:Int) 1) 0:=by
    unfold byteN;congr 1
   show byteN (leB (n:Int) 1++_) 0=n
   rw[h3,h,h2];simp at hn⊢;omega
  ·show le2 (leB (n:Int) 2++_) 0=n
   rw[QhL (Nat.le_refl _)];simp at hn;omega
  ·show le4 (leB (n:Int) 4++_) 0=n
   rw[QfK (Nat.le_refl _)];simp at hn;omega
  ·show le8 (leB (n:Int) 8++_) 0=n
   rw[le8_leB];simp at hn;omega
theorem slot_own {S:BS} {o:Nat} (h:o<S.vt.length):(slot o S).vt.getD o 0=S.buf.length:=by
 show (S.vt.set o S.buf.length).getD o 0=_
 rw[getD_set,if_pos ⟨rfl,h⟩]
theorem slot_oth {S:BS} {o j:Nat} (h:j≠o):(slot o S).vt.getD j 0=S.vt.getD j 0:=by
 show (S.vt.set o S.buf.length).getD j 0=_
 rw[getD_set,if_neg (fun x=>h x.1.symm)]
theorem slot_vl {S:BS} {o:Nat}:(slot o S).vt.length=S.vt.length:=by simp[slot]
theorem Op.num {L0 k n o:Nat} {ab:Prop} {f:BS->BS} (hk:P2 k) (hn:n<256^k) (h0:ab->∀S,f S=S) (h1:¬ab->∀S,f S=slot o (putN k (leB (n:Int) k) S)):Op f L0 ⟨o,ab,ZJ k n⟩:=by
 by_cases hab:ab
 ·have h:=h0 hab
  exact ⟨ZJ.stable,fun S=>⟨[],by rw[h];rfl⟩,fun S=>by rw[h];exact Nat.le_refl _,fun S=>by rw[h];omega,fun S=>by rw[h],fun S j _=>by rw[h],fun S _ _ _ hz=>Or.inl ⟨by rw[h];exact hz,hab⟩⟩
 ·have h:=h1 hab
  refine ⟨ZJ.stable,fun S=>⟨leB (n:Int) k++List.replicate (padOf k (S.buf.length+0)) 0,by rw[h];show (putN k (leB (n:Int) k) S).buf=_;rw[QeN];simp⟩,fun S=>?_,fun S=>?_,fun S=>by rw[h,slot_vl,putN_vt],fun S j hj=>by rw[h,slot_oth hj,putN_vt],fun S hL hl ho hz=>Or.inr ?_⟩
  ·rw[h];exact Nat.le_max_left _ _
  ·rw[h]
   show (putN k (leB (n:Int) k) S).buf.length<=_
   have:=(putN_num hk hn S).2
   have:=hk.le
   have:=Zk (size:=k) (n:=S.buf.length+0) hk.pos
   omega
  ·obtain ⟨p1,p2⟩:=putN_num hk hn S
   have hp:=hk.pos
   rw[h]
   have e:(slot o (putN k (leB (n:Int) k) S)).vt.getD o 0=(putN k (leB (n:Int) k) S).buf.length:=slot_own (by rw[putN_vt];exact ho)
   rw[e]
   have e2:(slot o (putN k (leB (n:Int) k) S)).buf=(putN k (leB (n:Int) k) S).buf:=rfl
   refine ⟨by omega,hab,by omega,by rw[e2];exact Nat.le_refl _,?_⟩
   rw[e2,Nat.sub_self];exact p1
theorem Op.slotN {L0 k x d o:Nat} (hk:P2 k) (hx:x<256^k):Op (Proofs.slotN k x d o) L0 ⟨o,x=d,ZJ k x⟩:=
 Op.num hk hx (fun h S=>by unfold Proofs.slotN;rw[if_pos h]) (fun h S=>by unfold Proofs.slotN;rw[if_neg h])
theorem Op.slotF {L0 x d o:Nat} (hx:x<256^4):Op (Proofs.slotF x d o) L0 ⟨o,FloatKind.f32.format.order x d=some .eq,ZJ 4 x⟩:=
 Op.num P2_4 hx (fun h S=>by unfold Proofs.slotF;rw[h];rfl) (fun h S=>by unfold Proofs.slotF;rw[if_pos (by simpa using h)])
theorem Op.slotTy {L0 o:Nat} {ty:UInt8}:Op (Proofs.slotTy ty o) L0 ⟨o,ty=0,ZJ 1 ty.toNat⟩:=
 Op.num P2_1 (by have:=ty.toNat_lt;omega) (fun h S=>by unfold Proofs.slotTy;rw[if_pos h]) (fun h S=>by
  unfold Proofs.slotTy Proofs.slotN
  rw[if_neg h,if_neg (fun h2=>h (UInt8.toNat_inj.1 (by simpa using h2)))])
theorem putOff_off {off:Nat} {S:BS} (h:off<=S.buf.length) (hl:S.buf.length<4000000000):Qck off (putOff off S).min (putOff off S).buf 0/\(putOff off S).buf.length=4+padOf 4 (S.buf.length+0)+S.buf.length:=by
 have hp:=Zk (size:=4) (n:=S.buf.length+0) (by decide)
 have e:(putOff off S).buf=leB (((prep 4 0 S).buf.length-off+4:Nat):Int) 4++(List.replicate (padOf 4 (S.buf.length+0)) 0++S.buf):=rfl
 have el:(putOff off S).buf.length=4+padOf 4 (S.buf.length+0)+S.buf.length:=by rw[e];simp[Qi];omega
 refine ⟨⟨by omega,⟨P2_4,Nat.le_max_right _ _,?_⟩,by omega,?_⟩,el⟩
 ·rw[el,Nat.sub_zero]
  have:=padOf_mod0 (k:=4) (n:=S.buf.length) (by decide)
  omega
 ·unfold tgt
  rw[el,e,QfK (Nat.le_refl _),Qa5]
  omega
theorem Op.slotOff {L0 off o:Nat} (h:off<=L0):Op (Proofs.slotOff off o) L0 ⟨o,off=0,Qck off⟩:=by
 by_cases hab:off=0
 ·have h:∀S,Proofs.slotOff off o S=S:=fun S=>by unfold Proofs.slotOff;rw[if_pos hab]
  exact ⟨Qck.stable,fun S=>⟨[],by rw[h];rfl⟩,fun S=>by rw[h];exact Nat.le_refl _,fun S=>by rw[h];omega,fun S=>by rw[h],fun S j _=>by rw[h],fun S _ _ _ hz=>Or.inl ⟨by rw[h];exact hz,hab⟩⟩
 ·have h:∀S,Proofs.slotOff off o S=slot o (putOff off S):=fun S=>by unfold Proofs.slotOff;rw[if_neg hab]
  refine ⟨Qck.stable,fun S=>⟨_,by rw[h];exact (Qdp off S).choose_spec.1⟩,fun S=>?_,fun S=>?_,fun S=>by rw[h,slot_vl];rfl,fun S j hj=>by rw[h,slot_oth hj];rfl,fun S hL hl ho hz=>Or.inr ?_⟩
  ·rw[h];exact Nat.le_max_left _ _
  ·rw[h]
   show (putOff off S).buf.length<=_
   obtain ⟨x,hx,_,hx2⟩:=Qdp off S
   rw[hx,List.length_append];omega
  ·obtain ⟨p1,p2⟩:=putOff_off (off:=off) (S:=S) (by omega) hl
   rw[h]
   have e:(slot o (putOff off S)).vt.getD o 0=(putOff off S).buf.length:=slot_own ho
   rw[e]
   have e2:(slot o (putOff off S)).buf=(putOff off S).buf:=rfl
   refine ⟨by omega,hab,by omega,by rw[e2];exact Nat.le_refl _,?_⟩
   rw[e2,Nat.sub_self];exact p1
theorem vec3_len' (v:Qbb):(Qhi v).length=32:=by simp[Qhi,vec3B,Qi]
def posQ (pos:Option Qbb):PP:=fun A bs p=>match pos with|none=>True|some v=>BytesP 8 (Qhi v) A bs p
theorem Op.slotPos {L0:Nat} {pos:Option Qbb}:Op (Proofs.slotPos pos) L0 ⟨0,pos=none,posQ pos⟩:=by
 have hst:QY (posQ pos):=fun A A' bs x p hA h=>by
  unfold posQ at h⊢
  cases pos with
  |none=>trivial
  |some v=>exact BytesP.stable A A' bs x p hA h
 cases pos with
 |none=>exact ⟨hst,fun S=>⟨[],rfl⟩,fun S=>Nat.le_refl _,fun S=>Nat.le_add_right _ _,fun S=>rfl,fun S j _=>rfl,fun S _ _ _ hz=>Or.inl ⟨hz,rfl⟩⟩
 |some v=>
  have hv:=vec3_len' v
  have hb:∀S:BS,(place (Qhi v) (prep 8 32 S)).buf=Qhi v++(List.replicate (padOf 8 (S.buf.length+32)) 0++S.buf):=fun S=>rfl
  have hl:∀S:BS,(place (Qhi v) (prep 8 32 S)).buf.length=32+padOf 8 (S.buf.length+32)+S.buf.length:=fun S=>by rw[hb];simp[hv];omega
  have h:∀S:BS,Proofs.slotPos (some v) S=slot 0 (place (Qhi v) (prep 8 32 S)):=fun S=>by
   show slotStruct (place (Qhi v) (prep 8 32 S)).buf.length 0 (place (Qhi v) (prep 8 32 S))=_
   unfold slotStruct;rw[if_neg (by have:=hl S;omega)]
  refine ⟨hst,fun S=>⟨Qhi v++List.replicate (padOf 8 (S.buf.length+32)) 0,by rw[h];show (place (Qhi v) (prep 8 32 S)).buf=_;rw[hb];simp⟩,fun S=>by rw[h];exact Nat.le_max_left _ _,fun S=>by rw[h];have:=hl S;have:=Zk (size:=8) (n:=S.buf.length+32) (by decide);show (place (Qhi v) (prep 8 32 S)).buf.length<=_;omega,fun S=>by rw[h,slot_vl];rfl,fun S j hj=>by rw[h,slot_oth hj];rfl,fun S hL hlt ho hz=>Or.inr ?_⟩
  rw[h]
  have e:(slot 0 (place (Qhi v) (prep 8 32 S))).vt.getD 0 0=(place (Qhi v) (prep 8 32 S)).buf.length:=slot_own ho
  have e2:(slot 0 (place (Qhi v) (prep 8 32 S))).buf=(place (Qhi v) (prep 8 32 S)).buf:=rfl
  have:=hl S
  rw[e]
  refine ⟨by omega,by simp,by omega,by rw[e2];exact Nat.le_refl _,?_⟩
  rw[e2,Nat.sub_self]
  show BytesP 8 (Qhi v) _ _ _
  refine ⟨by omega,⟨Qfj,Nat.le_max_right _ _,?_⟩,?_⟩
  ·have:=Qco (size:=8) (n:=S.buf.length+32) (by decide)
   rw[hl,Nat.sub_zero];omega
  ·rw[hb,List.drop_zero,List.take_left]
end Go.Proofs
