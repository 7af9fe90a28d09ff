/- WHAT IS PROVED: the given statement of FnMonsterMutated, whatever the input: this is part 6 of 14. No conditions. -/
import Derived.Test.YticijlffkdlojaaGreatX05
set_option linter.all false
namespace Go.Proofs
open Go Go.Vc
open Tryz (prog)
theorem Qf9 (xs:List UInt8) (S:BS):(createStr xs S).buf=leB (xs.length:Int) 4++(xs++([0]++(List.replicate (padOf 4 (S.buf.length+(xs.length+1))) 0++S.buf))):=by
 simp[createStr,Qj0,place,prep]
theorem Qi4 (xs:List UInt8) (S:BS):(createStr xs S).buf.length=4+xs.length+1+padOf 4 (S.buf.length+(xs.length+1))+S.buf.length:=by
 rw[Qf9];simp[Qc];omega
theorem Inv.createStr {S:BS} (h:Inv S) (xs:List UInt8):Inv (Proofs.createStr xs S)/\(Proofs.createStr xs S).buf.length<=S.buf.length+xs.length+8/\S.buf.length+5<=(Proofs.createStr xs S).buf.length:=by
 have hp:=Zw (size:=4) (n:=S.buf.length+(xs.length+1)) (by decide)
 have hl:=Qi4 xs S
 refine ⟨⟨rfl,h.vts.ext (S':=Proofs.createStr xs S) rfl (x:=leB (xs.length:Int) 4++(xs++([0]++List.replicate (padOf 4 (S.buf.length+(xs.length+1))) 0))) (by rw[Qf9];simp),?_,h.min.max Qhu⟩,by omega,by omega⟩
 have:=h.nv
 show S.vts.length<=_
 omega
def endT (S:BS):BS×Nat:=(endObj S,(putOff 0 S).buf.length)
structure Yw (S:BS) (c:Nat) (q:BS×Nat):Prop where
 inv:Inv q.1
 len:q.1.buf.length<=S.buf.length+c
 le:S.buf.length<=q.1.buf.length
 off:q.2<=q.1.buf.length
theorem Yw.endT {S0 S:BS} {n c:Nat} (h:Y8 S0 n c S) (h0:Inv S0) (hn:n<1000):Yw S0 (c+3*n+16) (Proofs.endT S)/\0<(Proofs.endT S).2:=by
 obtain ⟨h1,h2,h3,h4⟩:=Inv.endObj h h0 hn
 have h5:=h.len
 have h6:=h.le
 obtain ⟨y,hy,hy1,hy2⟩:=QcX 0 S
 refine ⟨⟨h1,?_,?_,h4⟩,?_⟩
 ·show (endObj S).buf.length<=_;omega
 ·show _<=(endObj S).buf.length;omega
 ·show 0<(putOff 0 S).buf.length
  rw[hy,List.length_append];omega
def Qct (d:Qaa) (S:BS):BS×Nat:=
 endT (slotN 2 d.count.toNat 0 2 (slotN 8 d.val.toNat 0 1 (slotOff (createStr d.id S).buf.length 0 (YJ 3 (createStr d.id S)))))
def Qb6 (x:UInt64) (S:BS):BS×Nat:=endT (slotN 8 x.toNat 0 0 (YJ 1 S))
def QdJ (S:BS):BS×Nat:=endT (YJ 0 S)
def Qd3 (c:UInt8) (S:BS):BS×Nat:=endT (slotN 1 c.toNat 2 0 (YJ 1 S))
theorem packStat_ok (d:Qaa) {S:BS} (h:Inv S):Yw S (d.id.length+100) (Qct d S)/\0<(Qct d S).2:=by
 obtain ⟨h1,h2,h3⟩:=h.createStr d.id
 have:=Yw.endT (((Y8.start (n:=3) h1.min).slotOff (off:=(createStr d.id S).buf.length) (o:=0)).slotN (x:=d.val.toNat) (d:=0) (o:=1) Qek |>.slotN (x:=d.count.toNat) (d:=0) (o:=2) P2_2) h1 (by decide)
 refine ⟨⟨this.1.inv,?_,?_,this.1.off⟩,this.2⟩
 ·have:=this.1.len;show (Qct d S).1.buf.length<=_;unfold Qct;omega
 ·have:=this.1.le;show _<=(Qct d S).1.buf.length;unfold Qct;omega
theorem QeW (x:UInt64) {S:BS} (h:Inv S):Yw S 40 (Qb6 x S)/\0<(Qb6 x S).2:=by
 have:=Yw.endT ((Y8.start (n:=1) h.min).slotN (x:=x.toNat) (d:=0) (o:=0) Qek) h (by decide)
 exact ⟨⟨this.1.inv,by have:=this.1.len;unfold Qb6;omega,this.1.le,this.1.off⟩,this.2⟩
theorem packParent_ok {S:BS} (h:Inv S):Yw S 40 (QdJ S)/\0<(QdJ S).2:=by
 have:=Yw.endT (Y8.start (n:=0) h.min) h (by decide)
 exact ⟨⟨this.1.inv,by have:=this.1.len;unfold QdJ;omega,this.1.le,this.1.off⟩,this.2⟩
theorem packSimple_ok (c:UInt8) {S:BS} (h:Inv S):Yw S 40 (Qd3 c S)/\0<(Qd3 c S).2:=by
 have:=Yw.endT ((Y8.start (n:=1) h.min).slotN (x:=c.toNat) (d:=2) (o:=0) P2_1) h (by decide)
 exact ⟨⟨this.1.inv,by have:=this.1.len;unfold Qd3;omega,this.1.le,this.1.off⟩,this.2⟩
section
variable {H:Qf} {p:Nat} {S:BS} {F:Cut} {r:Nat} (hB:Qd H p S F r) {R:Kn}
include hB
theorem StatT_Pack {v:Value} {d:Qaa} (hI:Inv S) (hv:Qa1 F v #[YM d.id,QdW d.val,u16V d.count]) (hl:S.buf.length+d.id.length+5000<=536870912)
  (hR:∀H',Qd H' p (Qct d S).1 F 0->R (.int .u32 ((Qct d S).2:Nat)) H'):
  FnS prog 95 #[v,.pointer (some ⟨p,0,none⟩)] H R:=by
 obtain ⟨h1,h2,h3⟩:=hI.createStr d.id
 apply w95
 unfold s95
 obtain ⟨q,e,rfl,hq⟩:=hv
 have hv:Qa1 F (.pointer (some ⟨q,0,none⟩)) #[YM d.id,QdW d.val,u16V d.count]:=⟨q,e,rfl,hq⟩
 rw[Y4 (by kernel_rfl)]
 show IfK (.bool false) _ _
 rw[Ql]
 refine hv.ld hB.cut (i:=0) (YM d.id) rfl ?_
 refine QcB hB (Qga _) hI.nested (by omega) ?_
 intro H1 g1
 refine Qio g1 h1.nested ?_
 intro H2 g2
 have i2:=Y8.start (n:=3) h1.min
 refine QiE g2 (Nat.le_refl _) (by rw[i2.vtl];decide) (by have:=i2.len;omega) ?_
 intro H3 g3
 have i3:=i2.slotOff (off:=(createStr d.id S).buf.length) (o:=0)
 refine hv.ld g3.cut (i:=1) (QdW d.val) rfl ?_
 refine QhZ g3 d.val.toNat_lt (by rw[i3.vtl];decide) (by have:=i3.len;omega) ?_
 intro H4 g4
 have i4:=i3.slotN (k:=8) (x:=d.val.toNat) (d:=0) (o:=1) Qek
 refine hv.ld g4.cut (i:=2) (u16V d.count) rfl ?_
 refine QgS g4 d.count.toNat_lt (by rw[i4.vtl];decide) (by have:=i4.len;omega) ?_
 intro H5 g5
 have i5:=i4.slotN (k:=2) (x:=d.count.toNat) (d:=0) (o:=2) P2_2
 refine Example_StatEnd g5 i5 (by decide) h1.vts (by omega) h1.nv ?_
 intro H6 g6
 exact hR H6 g6
theorem QfF {v:Value} {x:UInt64} (hI:Inv S) (hv:Qa1 F v #[Zc x]) (hl:S.buf.length+5000<=536870912)
  (hR:∀H',Qd H' p (Qb6 x S).1 F 0->R (.int .u32 ((Qb6 x S).2:Nat)) H'):
  FnS prog 107 #[v,.pointer (some ⟨p,0,none⟩)] H R:=by
 apply w107
 unfold tp107
 obtain ⟨q,e,rfl,hq⟩:=hv
 have hv:Qa1 F (.pointer (some ⟨q,0,none⟩)) #[Zc x]:=⟨q,e,rfl,hq⟩
 rw[Y4 (by kernel_rfl)]
 show IfK (.bool false) _ _
 rw[Ql]
 refine Qf5 hB hI.nested ?_
 intro H2 g2
 have i2:=Y8.start (n:=1) hI.min
 refine hv.ld g2.cut (i:=0) (Zc x) rfl ?_
 refine Qfs g2 x.toNat_lt (by rw[i2.vtl];decide) (by have:=i2.len;omega) ?_
 intro H4 g4
 have i4:=i2.slotN (k:=8) (x:=x.toNat) (d:=0) (o:=0) Qek
 refine QfV g4 i4 (by decide) hI.vts (by omega) hI.nv ?_
 intro H6 g6
 exact hR H6 g6
theorem Qcz {v:Value} (hI:Inv S) (hv:v= .pointer none\/∃a,v= .pointer (some a)) (hl:S.buf.length+5000<=536870912)
  (h0:v= .pointer none->R (.int .u32 0) H) (hR:v≠.pointer none->∀H',Qd H' p (QdJ S).1 F 0->R (.int .u32 ((QdJ S).2:Nat)) H'):
  FnS prog 106 #[v,.pointer (some ⟨p,0,none⟩)] H R:=by
 apply w106
 unfold tp106
 rcases hv with rfl|⟨a,rfl⟩
 ·rw[Y4 (by kernel_rfl)]
  exact h0 rfl
 ·rw[Y4 (by kernel_rfl)]
  show IfK (.bool false) _ _
  rw[Ql]
  refine Qdo hB hI.nested ?_
  intro H2 g2
  have i2:=Y8.start (n:=0) hI.min
  refine QdV g2 i2 (by decide) hI.vts (by omega) hI.nv ?_
  intro H6 g6
  exact hR (by simp) H6 g6
theorem Qj2 {v:Value} {c:UInt8} (hI:Inv S) (hv:Qa1 F v #[.int .u8 (c.toNat:Int)]) (hl:S.buf.length+5000<=536870912)
  (hR:∀H',Qd H' p (Qd3 c S).1 F 0->R (.int .u32 ((Qd3 c S).2:Nat)) H'):
  FnS prog 281 #[v,.pointer (some ⟨p,0,none⟩)] H R:=by
 apply w281
 unfold tp107
 obtain ⟨q,e,rfl,hq⟩:=hv
 have hv:Qa1 F (.pointer (some ⟨q,0,none⟩)) #[.int .u8 (c.toNat:Int)]:=⟨q,e,rfl,hq⟩
 rw[Y4 (by kernel_rfl)]
 show IfK (.bool false) _ _
 rw[Ql]
 refine QbG hB hI.nested ?_
 intro H2 g2
 have i2:=Y8.start (n:=1) hI.min
 refine hv.ld g2.cut (i:=0) (.int .u8 (c.toNat:Int)) rfl ?_
 refine Qb4 g2 c.toNat_lt (by rw[i2.vtl];decide) (by have:=i2.len;omega) ?_
 intro H4 g4
 have i4:=i2.slotN (k:=1) (x:=c.toNat) (d:=2) (o:=0) P2_1
 refine Qcd g4 i4 (by decide) hI.vts (by omega) hI.nv ?_
 intro H6 g6
 exact hR H6 g6
theorem TestT_Pack {v:Value} {d:QbF} (hv:Qa1 F v #[Qce d.a,i8V d.b]) (hr:4<=r) (ha:S.buf.length%2=0) (hm:2<=S.min) (hl:S.buf.length+32<=536870912)
  (hR:∀H' w,Qd H' p (place (QaW d.a.toNat d.b.toNat) S) F (r-4)->R w H'):
  FnS prog 91 #[v,.pointer (some ⟨p,0,none⟩)] H R:=by
 apply w91
 unfold tp91
 obtain ⟨q,e,rfl,hq⟩:=hv
 have hv:Qa1 F (.pointer (some ⟨q,0,none⟩)) #[Qce d.a,i8V d.b]:=⟨q,e,rfl,hq⟩
 rw[Y4 (by kernel_rfl)]
 show IfK (.bool false) _ _
 rw[Ql]
 refine hv.ld hB.cut (i:=0) (Qce d.a) rfl ?_
 refine hv.ld hB.cut (i:=1) (i8V d.b) rfl ?_
 refine QhK hB hr ha hm hl ?_
 exact hR
theorem AbilityT_Pack {v:Value} {d:QeD} (hv:Qa1 F v #[Z4 d.id,Z4 d.dist]) (hr:8<=r) (ha:S.buf.length%4=0) (hm:4<=S.min) (hl:S.buf.length+32<=536870912)
  (hR:∀H' w,Qd H' p (place (Z9 d.id.toNat d.dist.toNat) S) F (r-8)->R w H'):
  FnS prog 100 #[v,.pointer (some ⟨p,0,none⟩)] H R:=by
 apply w100
 unfold tp91
 obtain ⟨q,e,rfl,hq⟩:=hv
 have hv:Qa1 F (.pointer (some ⟨q,0,none⟩)) #[Z4 d.id,Z4 d.dist]:=⟨q,e,rfl,hq⟩
 rw[Y4 (by kernel_rfl)]
 show IfK (.bool false) _ _
 rw[Ql]
 refine hv.ld hB.cut (i:=0) (Z4 d.id) rfl ?_
 refine hv.ld hB.cut (i:=1) (Z4 d.dist) rfl ?_
 refine QfU hB hr ha hm hl ?_
 exact hR
def Qgf (d:Qaj):List UInt8:=vec3B d.x.toNat d.y.toNat d.z.toNat d.t1.toNat d.t2.toNat d.a.toNat d.b.toNat
theorem Vec3T_Pack {v w:Value} {d:Qaj} (hv:Qa1 F v #[QfS d.x,QfS d.y,QfS d.z,f64V d.t1,.int .u8 (d.t2.toNat:Int),w]) (hw:Qa1 F w #[Qce d.a,i8V d.b]) (hl:S.buf.length+96<=536870912)
  (hR:∀H',Qd H' p (place (Qgf d) (prep 8 32 S)) F 0->R (.int .u32 ((place (Qgf d) (prep 8 32 S)).buf.length:Nat)) H'):
  FnS prog 119 #[v,.pointer (some ⟨p,0,none⟩)] H R:=by
 apply w119
 unfold s119
 obtain ⟨q,e,rfl,hq⟩:=hv
 have hv:Qa1 F (.pointer (some ⟨q,0,none⟩)) #[QfS d.x,QfS d.y,QfS d.z,f64V d.t1,.int .u8 (d.t2.toNat:Int),w]:=⟨q,e,rfl,hq⟩
 rw[Y4 (by kernel_rfl)]
 show IfK (.bool false) _ _
 rw[Ql]
 refine hv.ld hB.cut (i:=0) (QfS d.x) rfl ?_
 refine hv.ld hB.cut (i:=1) (QfS d.y) rfl ?_
 refine hv.ld hB.cut (i:=2) (QfS d.z) rfl ?_
 refine hv.ld hB.cut (i:=3) (f64V d.t1) rfl ?_
 refine hv.ld hB.cut (i:=4) (.int .u8 (d.t2.toNat:Int)) rfl ?_
 refine hv.ld hB.cut (i:=5) w rfl ?_
 refine hw.ld hB.cut (i:=0) (Qce d.a) rfl ?_
 refine hv.ld hB.cut (i:=5) w rfl ?_
 refine hw.ld hB.cut (i:=1) (i8V d.b) rfl ?_
 refine Qi0 hB d.t2.toNat_lt hl ?_
 exact hR
end
end Go.Proofs
namespace Go.Proofs
open Go Go.Vc
open Tryz (prog)
def vecS (es al:Nat) (items:List (List UInt8)) (S:BS):BS:=Qj0 items.length (place items.flatten (QF es items.length al S))
def Zn (L:Nat):List Nat->List (List UInt8)
 |[]=>[]
 |o::os=>leB ((L+4*os.length-o+4:Nat):Int) 4::Zn L os
theorem Qdf (L:Nat):∀os,(Zn L os).length=os.length
 |[]=>rfl
 |o::os=>by simp[Zn,Qdf L os]
def QeG (offs:List Nat) (S:BS):BS:=vecS 4 4 (Zn (QF 4 offs.length 4 S).buf.length offs) S
def Qx {α:Type} (f:α->BS->BS×Nat):List α->BS->BS×List Nat
 |[],S=>(S,[])
 |x::xs,S=>((Qx f xs (f x S).1).1,(f x S).2::(Qx f xs (f x S).1).2)
theorem Qi2 {α:Type} (f:α->BS->BS×Nat) (x:α):∀(xs:List α) (S:BS),
  Qx f (xs++[x]) S=((f x (Qx f xs S).1).1,(Qx f xs S).2++[(f x (Qx f xs S).1).2])
 |[],S=>rfl
 |y::xs,S=>by
  rw[List.cons_append,Qx,Qi2 f x xs]
  rfl
theorem Qa8 {α:Type} (f:α->BS->BS×Nat):∀(xs:List α) (S:BS),(Qx f xs S).2.length=xs.length
 |[],S=>rfl
 |y::xs,S=>by simp[Qx,Qa8 f xs]
theorem Qaz {es:Nat}:∀(items:List (List UInt8)),(∀x∈items,x.length=es)->items.flatten.length=es*items.length
 |[],_=>by simp
 |x::xs,h=>by
  rw[List.flatten_cons,List.length_append,Qaz xs (fun y hy=>h y (List.mem_cons_of_mem _ hy)),h x List.mem_cons_self,List.length_cons,Nat.mul_add]
  omega
theorem Qcs (L:Nat):∀os,∀x∈Zn L os,x.length=4
 |[],x,hx=>by simp[Zn]at hx
 |o::os,x,hx=>by
  rcases List.mem_cons.1 hx with rfl|hx
  ·exact Qc _ _
  ·exact Qcs L os x hx
theorem Qdj (es n al:Nat) (S:BS) (hal:0<al):∃x,(QF es n al S).buf=x++S.buf/\x.length<=3+al:=by
 have h1:=Zw (size:=4) (n:=S.buf.length+es*n) (by decide)
 have h2:=Zw (size:=al) (n:=(prep 4 (es*n) {S with nested:=true}).buf.length+es*n) hal
 refine ⟨List.replicate (padOf al ((prep 4 (es*n) {S with nested:=true}).buf.length+es*n)) 0++List.replicate (padOf 4 (S.buf.length+es*n)) 0,?_,?_⟩
 ·exact (List.append_assoc _ _ _).symm
 ·simp;omega
theorem Qgm (es n al:Nat) (S:BS):4<=(QF es n al S).min/\al<=(QF es n al S).min:=
 ⟨Nat.le_trans (Nat.le_max_right S.min 4) (Nat.le_max_left _ al),Nat.le_max_right _ al⟩
theorem QeA {es n al k:Nat} (S:BS) (hal:al=2^k):((QF es n al S).buf.length+es*n)%al=0:=by
 have h:=Qcl (size:=al) (n:=(prep 4 (es*n) {S with nested:=true}).buf.length+es*n) (by rw[hal];exact Nat.two_pow_pos k)
 have e:(QF es n al S).buf.length=padOf al ((prep 4 (es*n) {S with nested:=true}).buf.length+es*n)+(prep 4 (es*n) {S with nested:=true}).buf.length:=by
  unfold QF;rw[Qad]
 rw[e]
 rw[<-h];congr 1;omega
theorem YF {es n al k:Nat} (S:BS) (hal:al=2^k) (hk:k<=3):
  es*n+5<=Nat.max ((4+es*n+1)-padOf al ((prep 4 (es*n) {S with nested:=true}).buf.length+es*n)) (al+es*n+1):=by
 have hc:k=3\/k<=2:=by omega
 rcases hc with rfl|hc
 ·refine Nat.le_trans ?_ (Nat.le_max_right _ _)
  rw[hal];omega
 ·refine Nat.le_trans ?_ (Nat.le_max_left _ _)
  have h1:=Qcl (size:=4) (n:=S.buf.length+es*n) (by decide)
  have h2:((prep 4 (es*n) {S with nested:=true}).buf.length+es*n)%al=0:=by
   have e:(prep 4 (es*n) {S with nested:=true}).buf.length+es*n=S.buf.length+es*n+padOf 4 (S.buf.length+es*n):=by
    rw[Qad];show padOf 4 (S.buf.length+es*n)+S.buf.length+es*n=_;omega
   rw[e]
   have hd:al∣4:=by
    rw[hal]
    have:k=0\/k=1\/k=2:=by omega
    rcases this with rfl|rfl|rfl<;>decide
   exact Nat.mod_eq_zero_of_dvd (Nat.dvd_trans hd (Nat.dvd_of_mod_eq_zero h1))
  rw[YZ h2];omega
theorem Yw.vecS {S:BS} (h:Inv S) {es al:Nat} {items:List (List UInt8)} (hal:P2 al) (hi:∀x∈items,x.length=es):
  Yw S (es*items.length+15) (Proofs.vecS es al items S,(Proofs.vecS es al items S).buf.length)/\0<(Proofs.vecS es al items S).buf.length:=by
 obtain ⟨x,hx,hxl⟩:=Qdj es items.length al S hal.pos
 have h8:=hal.le
 have hf:=Qaz items hi
 have e:(Proofs.vecS es al items S).buf=leB (items.length:Int) 4++(items.flatten++(x++S.buf)):=by
  show leB (items.length:Int) 4++(items.flatten++(QF es items.length al S).buf)=_
  rw[hx]
 have el:(Proofs.vecS es al items S).buf.length=4+es*items.length+x.length+S.buf.length:=by
  rw[e];simp only[List.length_append,Qc,hf];omega
 refine ⟨⟨⟨rfl,h.vts.ext (S':=Proofs.vecS es al items S) rfl (x:=leB (items.length:Int) 4++(items.flatten++x)) (by rw[e];simp),?_,(h.min.max Qhu).max hal⟩,?_,?_,?_⟩,?_⟩
 ·have:=h.nv
  show S.vts.length<=(Proofs.vecS es al items S).buf.length
  omega
 ·show (Proofs.vecS es al items S).buf.length<=_
  omega
 ·show _<=(Proofs.vecS es al items S).buf.length
  omega
 ·exact Nat.le_refl _
 ·omega
theorem QbO {α:Type} {f:α->BS->BS×Nat} {c:α->Nat}:∀(xs:List α),(∀x∈xs,∀S,Inv S->Yw S (c x) (f x S))->∀S,Inv S->
  Inv (Qx f xs S).1/\(Qx f xs S).1.buf.length<=S.buf.length+(xs.map c).sum/\S.buf.length<=(Qx f xs S).1.buf.length/\∀o∈(Qx f xs S).2,o<=(Qx f xs S).1.buf.length
 |[],_,S,h=>⟨h,by simp[Qx],Nat.le_refl _,by simp[Qx]⟩
 |x::xs,hf,S,h=>by
  have h1:=hf x List.mem_cons_self S h
  obtain ⟨g1,g2,g3,g4⟩:=QbO xs (fun y hy=>hf y (List.mem_cons_of_mem _ hy)) (f x S).1 h1.inv
  refine ⟨g1,?_,?_,?_⟩
  ·show (Qx f xs (f x S).1).1.buf.length<=_
   have:=h1.len
   simp only[List.map_cons,List.sum_cons];omega
  ·show _<=(Qx f xs (f x S).1).1.buf.length
   have:=h1.le;omega
  ·intro o ho
   show o<=(Qx f xs (f x S).1).1.buf.length
   rcases List.mem_cons.1 ho with rfl|ho
   ·have:=h1.off;omega
   ·exact g4 o ho
end Go.Proofs
namespace Go.Proofs
open Go Go.Vc
open Tryz (prog)
def optB (xs:List UInt8) (S:BS):BS×Nat:=if xs=[] then (S,0) else (createStr xs S,(createStr xs S).buf.length)
def Qh4 (es al:Nat) (items:List (List UInt8)) (S:BS):BS×Nat:=if items=[] then (S,0) else (vecS es al items S,(vecS es al items S).buf.length)
def Qii (q:BS->BS×List Nat) (S:BS):BS×Nat:=
 if (q S).2=[] then (S,0) else (QeG (q S).2 (q S).1,(QeG (q S).2 (q S).1).buf.length)
def QaZ (xs:List UInt8) (S:BS):BS×Nat:=(createStr xs S,(createStr xs S).buf.length)
def Qhg (d:Option Qaa) (S:BS):BS×Nat:=match d with|some d=>Qct d S|none=>(S,0)
def QdR (b:Bool) (S:BS):BS×Nat:=if b then QdJ S else (S,0)
def Qbp (amb:Bool) (ty color:UInt8) (kid:BS->BS×Nat) (S:BS):BS×Nat:=
 if ty=0 then (S,0) else if amb=false/\ty=2 then Qd3 color S else kid S
def Qfe (b:Bool):List UInt8:=[if b then 1 else 0]
def QaB (x:UInt64):List UInt8:=leB (x.toNat:Int) 8
def Qbo (d:ZT) (tables:BS->BS×List Nat) (enemy test uniq amb:BS->BS×Nat):List (BS->BS×Nat):=
 [QaZ d.name,optB d.inventory,Qbp false d.testTy d.testColor test,Qh4 4 2 (d.test4.map fun t=>QaW t.a.toNat t.b.toNat),Qii (Qx QaZ d.strings),Qii tables,enemy,optB d.nested,Qhg d.empty,
  Qh4 1 1 (d.bools.map Qfe),Qii (Qx QaZ d.strings2),Qh4 8 4 (d.abilities.map fun t=>Z9 t.id.toNat t.dist.toNat),optB d.flex,Qh4 4 2 (d.test5.map fun t=>QaW t.a.toNat t.b.toNat),
  Qh4 8 8 (d.longs.map QaB),Qh4 8 8 (d.doubles.map QaB),QdR d.parent,Qii (Qx Qb6 d.refs),Qh4 8 8 (d.weak.map QaB),Qii (Qx Qb6 d.strong),Qh4 8 8 (d.coOwnings.map QaB),Qh4 8 8 (d.nonOwnings.map QaB),
  Qbp false d.uniqTy d.uniqColor uniq,Qbp true d.ambTy d.ambColor amb,Qh4 1 1 (d.enums.map fun b=>[b])]
def slotPos (pos:Option Qaj) (S:BS):BS:=match pos with|some v=>slotStruct (place (Qgf v) (prep 8 32 S)).buf.length 0 (place (Qgf v) (prep 8 32 S))|none=>S
def slotTy (ty:UInt8) (o:Nat) (S:BS):BS:=if ty=0 then S else slotN 1 ty.toNat 0 o S
def Qa7 (d:ZT) (o:List Nat):List (BS->BS):=
 [slotPos d.pos,slotN 2 d.mana.toNat 150 1,slotN 2 d.hp.toNat 100 2,slotOff (o.getD 0 0) 3,slotOff (o.getD 1 0) 5,slotN 1 d.color.toNat 8 6,slotTy d.testTy 7,slotOff (o.getD 2 0) 8,slotOff (o.getD 3 0) 9,slotOff (o.getD 4 0) 10,slotOff (o.getD 5 0) 11,
  slotOff (o.getD 6 0) 12,slotOff (o.getD 7 0) 13,slotOff (o.getD 8 0) 14,slotN 1 (if d.bool then 1 else 0) 0 15,slotN 4 d.s32.toNat 0 16,slotN 4 d.u32.toNat 0 17,slotN 8 d.s64.toNat 0 18,slotN 8 d.u64.toNat 0 19,
  slotN 4 d.s32a.toNat 0 20,slotN 4 d.u32a.toNat 0 21,slotN 8 d.s64a.toNat 0 22,slotN 8 d.u64a.toNat 0 23,slotOff (o.getD 9 0) 24,slotF d.f.toNat 1078530000 25,slotF d.f2.toNat 1077936128 26,slotF d.f3.toNat 0 27,
  slotOff (o.getD 10 0) 28,slotOff (o.getD 11 0) 29,slotOff (o.getD 12 0) 30,slotOff (o.getD 13 0) 31,slotOff (o.getD 14 0) 32,slotOff (o.getD 15 0) 33,slotOff (o.getD 16 0) 34,slotOff (o.getD 17 0) 35,slotN 8 d.singleWeak.toNat 0 36,
  slotOff (o.getD 18 0) 37,slotOff (o.getD 19 0) 38,slotN 8 d.coOwning.toNat 0 39,slotOff (o.getD 20 0) 40,slotN 8 d.nonOwning.toNat 0 41,slotOff (o.getD 21 0) 42,slotTy d.uniqTy 43,slotOff (o.getD 22 0) 44,slotTy d.ambTy 45,
  slotOff (o.getD 23 0) 46,slotOff (o.getD 24 0) 47,slotN 1 d.signedEnum.toNat 255 48]
def QfT:List (BS->BS)->BS->BS
 |[],S=>S
 |f::fs,S=>QfT fs (f S)
def packT (d:ZT) (tables:BS->BS×List Nat) (enemy test uniq amb:BS->BS×Nat) (S:BS):BS×Nat:=
 endT (QfT (Qa7 d (Qx (fun f=>f) (Qbo d tables enemy test uniq amb) S).2) (YJ 49 (Qx (fun f=>f) (Qbo d tables enemy test uniq amb) S).1))
def slotNF (fc k x d o:Nat) (S:BS):BS:=if x=d/\fc≠o then S else slot o (putN k (leB (x:Int) k) S)
def slotFF (fc x d o:Nat) (S:BS):BS:=if FloatKind.f32.format.order x d=some .eq/\fc≠o then S else slot o (putN 4 (leB (x:Int) 4) S)
def Yp (fc:Nat) (d:ZT) (o:List Nat):List (BS->BS):=
 [slotPos d.pos,slotNF fc 2 d.mana.toNat 150 1,slotNF fc 2 d.hp.toNat 100 2,slotOff (o.getD 0 0) 3,slotOff (o.getD 1 0) 5,slotNF fc 1 d.color.toNat 8 6,slotTy d.testTy 7,slotOff (o.getD 2 0) 8,slotOff (o.getD 3 0) 9,slotOff (o.getD 4 0) 10,slotOff (o.getD 5 0) 11,
  slotOff (o.getD 6 0) 12,slotOff (o.getD 7 0) 13,slotOff (o.getD 8 0) 14,slotNF fc 1 (if d.bool then 1 else 0) 0 15,slotNF fc 4 d.s32.toNat 0 16,slotNF fc 4 d.u32.toNat 0 17,slotNF fc 8 d.s64.toNat 0 18,slotNF fc 8 d.u64.toNat 0 19,
  slotNF fc 4 d.s32a.toNat 0 20,slotNF fc 4 d.u32a.toNat 0 21,slotNF fc 8 d.s64a.toNat 0 22,slotNF fc 8 d.u64a.toNat 0 23,slotOff (o.getD 9 0) 24,slotFF fc d.f.toNat 1078530000 25,slotFF fc d.f2.toNat 1077936128 26,slotFF fc d.f3.toNat 0 27,
  slotOff (o.getD 10 0) 28,slotOff (o.getD 11 0) 29,slotOff (o.getD 12 0) 30,slotOff (o.getD 13 0) 31,slotOff (o.getD 14 0) 32,slotOff (o.getD 15 0) 33,slotOff (o.getD 16 0) 34,slotOff (o.getD 17 0) 35,slotNF fc 8 d.singleWeak.toNat 0 36,
  slotOff (o.getD 18 0) 37,slotOff (o.getD 19 0) 38,slotNF fc 8 d.coOwning.toNat 0 39,slotOff (o.getD 20 0) 40,slotNF fc 8 d.nonOwning.toNat 0 41,slotOff (o.getD 21 0) 42,slotTy d.uniqTy 43,slotOff (o.getD 22 0) 44,slotTy d.ambTy 45,
  slotOff (o.getD 23 0) 46,slotOff (o.getD 24 0) 47,slotNF fc 1 d.signedEnum.toNat 255 48]
theorem Zg {fc k x d o:Nat} (h:fc≠o):slotNF fc k x d o=slotN k x d o:=by
 funext S
 unfold slotNF slotN
 simp only[h,and_true,ne_eq,not_false_eq_true]
theorem Ze {fc x d o:Nat} (h:fc≠o):slotFF fc x d o=slotF x d o:=by
 funext S
 unfold slotFF slotF
 by_cases h2:FloatKind.f32.format.order x d=some .eq
 ·rw[if_pos ⟨h2,h⟩,if_neg (by rw[h2];decide)]
 ·rw[if_neg (fun g=>h2 g.1),if_pos (by simpa using h2)]
theorem slotsF_49 (d:ZT) (o:List Nat):Yp 49 d o=Qa7 d o:=by
 unfold Yp Qa7
 simp (decide:=true) only[Zg,Ze]
def QiS (fc:Nat) (d:ZT) (tables:BS->BS×List Nat) (enemy test uniq amb:BS->BS×Nat) (S:BS):BS×Nat:=
 endT (QfT (Yp fc d (Qx (fun f=>f) (Qbo d tables enemy test uniq amb) S).2) (YJ 49 (Qx (fun f=>f) (Qbo d tables enemy test uniq amb) S).1))
theorem packTF_49:QiS 49=packT:=by
 funext d t e u q a S
 unfold QiS packT
 rw[slotsF_49]
mutual
def Zt:Mon->BS->BS×Nat
 |.mk d tables enemy test uniq amb,S=>packT d (QaE tables) (Ya enemy) (Ya test) (Ya uniq) (Ya amb) S
def QaE:List Mon->BS->BS×List Nat
 |[],S=>(S,[])
 |m::ms,S=>((QaE ms (Zt m S).1).1,(Zt m S).2::(QaE ms (Zt m S).1).2)
def Ya:List Mon->BS->BS×Nat
 |[],S=>(S,0)
 |m::_,S=>Zt m S
end
theorem Qf7:∀(ms:List Mon) (S:BS),QaE ms S=Qx Zt ms S
 |[],S=>by rw[QaE,Qx]
 |m::ms,S=>by rw[QaE,Qx,Qf7 ms]
def Y5 (m:Mon):List UInt8:=(QcM (Zt m Qan).2 (Zt m Qan).1).buf
end Go.Proofs
namespace Go.Proofs
open Go Go.Vc
open Tryz (prog)
abbrev u8n (x:UInt8):Value:=.int .u8 (x.toNat:Int)
def Qel {α:Type} (F:Cut) (v:Value) (l:List α) (cells:α->Array Value):Prop:=
 ∃ptrs:List Value,Qaq F v ptrs/\ptrs.length=l.length/\∀(i:Nat) p t,ptrs[i]?=some p->l[i]?=some t->Qa1 F p (cells t)
def testC (t:QbF):Array Value:=#[Qce t.a,i8V t.b]
def abilC (t:QeD):Array Value:=#[Z4 t.id,Z4 t.dist]
def refC (x:UInt64):Array Value:=#[Zc x]
def statC (d:Qaa):Array Value:=#[YM d.id,QdW d.val,u16V d.count]
def Vec3At (F:Cut) (v:Value) (d:Qaj):Prop:=∃w,Qa1 F v #[QfS d.x,QfS d.y,QfS d.z,f64V d.t1,u8n d.t2,w]/\Qa1 F w #[Qce d.a,i8V d.b]
def OptAt {α:Type} (v:Value) (o:Option α) (at_:α->Prop):Prop:=match o with|none=>v= .pointer none|some x=>at_ x
def QcO (F:Cut) (amb:Bool) (ty color:UInt8) (v c:Value) (kids:List Mon):Prop:=
 (ty=0/\v= .pointer none/\kids=[])\/
 (ty≠0/\∃w,Qa1 F v #[u8n ty,w]/\
  ((amb=false/\ty=2/\w= .iface 273 c/\Qa1 F c #[u8n color]/\kids=[])\/
   ((ty=1\/(amb=true/\(ty=2\/ty=3)))/\w= .iface 73 c/\∃k,kids=[k])))
structure MTV where
 pos:Value
 inv:Value
 test:Value
 test4:Value
 strings:Value
 tables:Value
 enemy:Value
 nested:Value
 empty:Value
 bools:Value
 strings2:Value
 abil:Value
 flex:Value
 test5:Value
 longs:Value
 doubles:Value
 parent:Value
 refs:Value
 weak:Value
 strong:Value
 coOwnings:Value
 nonOwnings:Value
 uniq:Value
 amb:Value
 enums:Value
 testC:Value
 uniqC:Value
 ambC:Value
def mtCells (d:ZT) (v:MTV):Array Value:=
 #[v.pos,Qce d.mana,Qce d.hp,YM d.name,v.inv,u8n d.color,v.test,v.test4,v.strings,v.tables,v.enemy,v.nested,v.empty,.bool d.bool,
  Qgn d.s32,Z4 d.u32,QdW d.s64,Zc d.u64,Qgn d.s32a,Z4 d.u32a,QdW d.s64a,Zc d.u64a,v.bools,QfS d.f,QfS d.f2,QfS d.f3,v.strings2,v.abil,v.flex,v.test5,
  v.longs,v.doubles,v.parent,v.refs,Zc d.singleWeak,v.weak,v.strong,Zc d.coOwning,v.coOwnings,Zc d.nonOwning,v.nonOwnings,v.uniq,v.amb,v.enums,i8V d.signedEnum]
structure MTD (F:Cut) (d:ZT) (v:MTV) (enemy test uniq amb:List Mon):Prop where
 pos:OptAt v.pos d.pos (Vec3At F v.pos)
 inv:Qaq F v.inv (d.inventory.map u8V)
 test:QcO F false d.testTy d.testColor v.test v.testC test
 test4:Qel F v.test4 d.test4 testC
 strings:Qaq F v.strings (d.strings.map YM)
 enemy:(enemy=[]/\v.enemy= .pointer none)\/∃k,enemy=[k]
 nested:Qaq F v.nested (d.nested.map u8V)
 empty:OptAt v.empty d.empty (fun s=>Qa1 F v.empty (statC s))
 bools:Qaq F v.bools (d.bools.map Value.bool)
 strings2:Qaq F v.strings2 (d.strings2.map YM)
 abil:Qel F v.abil d.abilities abilC
 flex:Qaq F v.flex (d.flex.map u8V)
 test5:Qel F v.test5 d.test5 testC
 longs:Qaq F v.longs (d.longs.map QdW)
 doubles:Qaq F v.doubles (d.doubles.map f64V)
 parent:(d.parent=false/\v.parent= .pointer none)\/(d.parent=true/\∃a,v.parent= .pointer (some a))
 refs:Qel F v.refs d.refs refC
 weak:Qaq F v.weak (d.weak.map Zc)
 strong:Qel F v.strong d.strong refC
 coOwnings:Qaq F v.coOwnings (d.coOwnings.map Zc)
 nonOwnings:Qaq F v.nonOwnings (d.nonOwnings.map Zc)
 uniq:QcO F false d.uniqTy d.uniqColor v.uniq v.uniqC uniq
 amb:QcO F true d.ambTy d.ambColor v.amb v.ambC amb
 enums:Qaq F v.enums (d.enums.map u8V)
inductive MT (F:Cut):Value->Mon->Prop where
 |mk (v:Value) (d:ZT) (c:MTV) (ptrs:List Value) (tables enemy test uniq amb:List Mon) (obj:Qa1 F v (mtCells d c)) (own:MTD F d c enemy test uniq amb)
   (tl:Qaq F c.tables ptrs) (tlen:ptrs.length=tables.length) (tt:∀(i:Nat) p m,ptrs[i]?=some p->tables[i]?=some m->MT F p m)
   (te:∀k,k∈enemy->MT F c.enemy k) (tu:∀k,k∈test->MT F c.testC k) (tq:∀k,k∈uniq->MT F c.uniqC k) (ta:∀k,k∈amb->MT F c.ambC k):MT F v (.mk d tables enemy test uniq amb)
def Qid:Option Qaa->Nat
 |some s=>s.id.length
 |none=>0
def Qig (d:ZT):Nat:=
 d.name.length+d.inventory.length+d.nested.length+d.flex.length+d.enums.length+(d.strings.map List.length).sum+(d.strings2.map List.length).sum+Qid d.empty+
 60*(d.test4.length+d.strings.length+d.bools.length+d.strings2.length+d.abilities.length+d.test5.length+d.longs.length+d.doubles.length+d.refs.length+d.weak.length+d.strong.length+d.coOwnings.length+d.nonOwnings.length)+8000
mutual
def Yy:Mon->Nat
 |.mk d tables enemy test uniq amb=>Qig d+60*tables.length+ZB tables+ZB enemy+ZB test+ZB uniq+ZB amb
def ZB:List Mon->Nat
 |[]=>0
 |m::ms=>Yy m+ZB ms
end
end Go.Proofs
namespace Go.Proofs
open Go Go.Vc
open Tryz (prog)
def VecBlock (q fld start endv f:Nat) (tsl:TypeId) (args:Value->Array Value) (x1:Value) (h4:Qf) (rest:Kn):Prop:=
 QN (fun M2=>
  Q6 (.pointer (some ⟨q,0,none⟩)) fun x97=>Qh x97 fld fun x98=>LdK h4 x98 fun x99=>
  Qp prog .neq tsl x99 (.slice none 0 0) fun x100=>
  IfK x100
  (Q6 (.pointer (some ⟨q,0,none⟩)) fun x102=>Qh x102 fld fun x103=>LdK h4 x103 fun x104=>
   YX x104 fun x105=>
   Qb prog start #[x1,x105] h4 fun _x108 h5=>
   QN (fun M3=>
    Qp prog .sub 3 x105 (.int .i64 1) fun x110=>
    YO [x110] h5 fun I4 n5=>∀x10:Value,∀h6:Qf,I4 n5 [x10] h6->
    Qp prog .geq 3 x10 (.int .i64 0) fun x112=>
    IfK x112
    (Q6 (.pointer (some ⟨q,0,none⟩)) fun x116=>Qh x116 fld fun x117=>LdK h6 x117 fun x118=>
     YG 1 x118 x10 fun x120=>LdK h6 x120 fun x121=>
     Qb prog f (args x121) h6 fun _x123 h7=>
     Qp prog .sub 3 x10 (.int .i64 1) fun x114=>
     Yf I4 n5 [x114] h7)
    (M3 [x10] h6)) fun M3=>∀x10_1:Value,∀h8:Qf,M3 [x10_1] h8->
   Qb prog endv #[x1,x105] h8 fun x126 h9=>M2 [x126] h9)
  (M2 [(.int .u32 0)] h4)) fun M2=>∀x8:Value,∀h10:Qf,M2 [x8] h10->rest x8 h10
theorem flatten_drop {items:List (List UInt8)} {i:Nat} (hi:i<items.length):(items.drop i).flatten=items[i]++(items.drop (i+1)).flatten:=by
 rw[List.drop_eq_getElem_cons hi,List.flatten_cons]
set_option maxHeartbeats 1000000 in
theorem Qd9 {H:Qf} {p:Nat} {S:BS} {F:Cut} {r:Nat} (hB:Qd H p S F r) {q fld start f:Nat} {tsl e0:TypeId} {args:Value->Array Value} {v0:Value} {cells:Array Value} {vs:List Value} {es al k:Nat}
  {items:List (List UInt8)} {rest:Kn} (ht:(prog).underlying tsl=some (.slice e0)) (hq:Qa1 F (.pointer (some ⟨q,0,none⟩)) cells) (hf:cells[fld]?=some v0) (hv:Qaq F v0 vs) (hvi:vs.length=items.length)
  (hi:∀x∈items,x.length=es) (hI:Inv S) (hal:al=2^k) (hk:k<=3) (hn:items.length<536870912) (hl:S.buf.length+es*items.length+80<=536870912)
  (hstart:∀H,Qd H p S F 0->∀R:Kn,(∀H' v,Qd H' p (QF es items.length al S) F (es*items.length+5)->R v H')->FnS prog start #[.pointer (some ⟨p,0,none⟩),.int .i64 (items.length:Nat)] H R)
  (hstep:∀(i:Nat) (hi1:i<vs.length) (hi2:i<items.length) (S':BS) (H':Qf) (r':Nat),Qd H' p S' F r'->es<=r'->(S'.buf.length+es*(i+1))%al=0->4<=S'.min->al<=S'.min->S'.buf.length+64<=536870912->
   ∀R:Kn,(∀H'' w,Qd H'' p (place (items[i]'hi2) S') F (r'-es)->R w H'')->FnS prog f (args (vs[i]'hi1)) H' R)
  (hrest:∀H',Qd H' p (Qh4 es al items S).1 F 0->rest (.int .u32 ((Qh4 es al items S).2:Nat)) H'):
  VecBlock q fld start 92 f tsl args (.pointer (some ⟨p,0,none⟩)) H rest:=by
 have hfl:=Qaz items hi
 have hemp:(vs=[])↔(items=[]):=by
  rw[<-List.length_eq_zero_iff,<-List.length_eq_zero_iff,hvi]
 unfold VecBlock
 refine QB (fun ws h=>ws=[.int .u32 ((Qh4 es al items S).2:Nat)]/\Qd h p (Qh4 es al items S).1 F 0) ?_ ?_
 ·refine hq.ld hB.cut (i:=fld) v0 hf ?_
  rw[hv.neq ht]
  by_cases h0:items=[]
  ·have hvn:¬vs≠[]:=fun h=>h (hemp.2 h0)
   rw[QL hvn]
   unfold Qh4
   rw[if_pos h0]
   exact ⟨rfl,hB.room (Nat.zero_le _)⟩
  ·have hvn:vs≠[]:=fun h=>h0 (hemp.1 h)
   rw[Yd hvn]
   refine hq.ld hB.cut (i:=fld) v0 hf ?_
   rw[hv.1.len,hvi]
   refine hstart H (hB.room (Nat.zero_le _)) _ ?_
   intro H1 w h1
   have hm:=Qgm es items.length al S
   have ha:=QeA (es:=es) (n:=items.length) S hal
   obtain ⟨x,hx,hxl⟩:=Qdj es items.length al S (by rw[hal];exact Nat.two_pow_pos k)
   have hal8:al<=8:=by rw[hal];exact Nat.pow_le_pow_right (by decide) hk
   have hS1l:(QF es items.length al S).buf.length<=S.buf.length+11:=by rw[hx,List.length_append];omega
   have hS1n:(QF es items.length al S).nested=true:=rfl
   have hopt:Qh4 es al items S=(Qj0 items.length (place items.flatten (QF es items.length al S)),(Qj0 items.length (place items.flatten (QF es items.length al S))).buf.length):=by
    unfold Qh4 vecS;rw[if_neg h0]
   rw[hopt]
   generalize QF es items.length al S=S1 at *
   refine QB (fun _ h=>Qd h p (place items.flatten S1) F 5) ?_ ?_
   ·rw[Yk,wrap_i64 (by omega) (by omega)]
    refine ⟨fun m ws h=>∃i:Nat,ws=[.int .i64 ((i:Int)-1)]/\i<=items.length/\m=i/\Qd h p (place (items.drop i).flatten S1) F (es*i+5),⟨_,items.length,rfl,Nat.le_refl _,rfl,?_⟩,fun m=>?_⟩
    ·rw[List.drop_length];exact h1
    ·rintro x10 h6 ⟨i,hx,hi',rfl,hb⟩
     cases hx
     rw[Qgu]
     apply ZI
     ·intro hge
      have hm1:m-1<items.length:=by omega
      have hm2:m-1+1=m:=by omega
      refine hq.ld hb.cut (i:=fld) v0 hf ?_
      refine hv.1.item hb.cut (i:=m-1) (by omega) (by omega) ?_
      have hdl:(items.drop m).flatten.length=es*(items.length-m):=by
       rw[Qaz (items.drop m) (fun y hy=>hi y (List.mem_of_mem_drop hy)),List.length_drop]
      have hsum:es*(items.length-m)+es*m=es*items.length:=by rw[<-Nat.mul_add,show items.length-m+m=items.length by omega]
      have hmul:es*m=es*(m-1)+es:=by
       obtain ⟨m',rfl⟩:∃m',m=m'+1:=⟨m-1,by omega⟩
       simp[Nat.mul_add]
      refine hstep (m-1) (by omega) hm1 _ h6 _ hb (by omega) ?_ ?_ ?_ ?_ _ ?_
      ·rw[YA,hdl,hm2,show es*(items.length-m)+S1.buf.length+es*m=S1.buf.length+es*items.length by omega]
       exact ha
      ·exact hm.1
      ·exact hm.2
      ·rw[YA,hdl]
       have:es*(items.length-m)<=es*items.length:=by omega
       omega
      ·intro h7 w7 hb7
       rw[Yk,wrap_i64 (by omega) (by omega)]
       refine ⟨m-1,by omega,m-1,by rw[show ((m:Int)-1-1)=(((m-1:Nat):Int)-1) by omega],by omega,rfl,?_⟩
       rw[Zd]at hb7
       rw[flatten_drop hm1,hm2]
       exact hb7.room (by omega)
     ·intro hge
      have hm0:m=0:=by omega
      subst hm0
      exact hb
   ·intro x10 h8 hb8
    refine Qac hb8 hS1n (by decide) (by omega) ?_
    intro h9 hb9
    exact ⟨rfl,hb9.room (by decide)⟩
 ·rintro x8 h10 ⟨hx,hb⟩
  cases hx
  exact hrest h10 hb
end Go.Proofs
namespace Go.Proofs
open Go Go.Vc
open Tryz (prog)
theorem Cut.upd_upd {F:Cut} {b:Nat} {o o':Obj}:(F.upd b o).upd b o'=F.upd b o':=by
 funext b'
 by_cases h:b'=b
 ·subst h;rw[Cut.upd_same,Cut.upd_same]
 ·rw[Cut.upd_ne h,Cut.upd_ne h,Cut.upd_ne h]
theorem MT.mono {F G:Cut} (hFG:F.le G) {v:Value} {m:Mon} (h:MT F v m):MT G v m:=by
 have lm:∀{α:Type} {v:Value} {l:List α} {cells:α->Array Value},Qel F v l cells->Qel G v l cells:=by
  rintro α v l cells ⟨ptrs,h1,h2,h3⟩
  exact ⟨ptrs,h1.mono hFG,h2,fun i p t hp ht=>(h3 i p t hp ht).mono hFG⟩
 have um:∀{amb:Bool} {ty color:UInt8} {v c:Value} {kids:List Mon},QcO F amb ty color v c kids->QcO G amb ty color v c kids:=by
  rintro amb ty color v c kids (h|⟨h1,w,h2,h3⟩)
  ·exact Or.inl h
  ·refine Or.inr ⟨h1,w,h2.mono hFG,?_⟩
   rcases h3 with ⟨a,b,c',d,e⟩|h3
   ·exact Or.inl ⟨a,b,c',d.mono hFG,e⟩
   ·exact Or.inr h3
 induction h with
 |mk v d c ptrs tables enemy test uniq amb obj own tl tlen tt te tu tq ta it ie iu iq ia=>
  refine MT.mk v d c ptrs tables enemy test uniq amb (obj.mono hFG) ?_ (tl.mono hFG) tlen it ie iu iq ia
  refine ⟨?_,own.inv.mono hFG,um own.test,lm own.test4,own.strings.mono hFG,own.enemy,own.nested.mono hFG,?_,own.bools.mono hFG,own.strings2.mono hFG,lm own.abil,own.flex.mono hFG,lm own.test5,own.longs.mono hFG,own.doubles.mono hFG,
   own.parent,lm own.refs,own.weak.mono hFG,lm own.strong,own.coOwnings.mono hFG,own.nonOwnings.mono hFG,um own.uniq,um own.amb,own.enums.mono hFG⟩
  ·have:=own.pos
   cases hp:d.pos with
   |none=>rw[hp]at this;exact this
   |some x=>
    rw[hp]at this
    obtain ⟨w,h1,h2⟩:=this
    exact ⟨w,h1.mono hFG,h2.mono hFG⟩
  ·have:=own.empty
   cases hp:d.empty with
   |none=>rw[hp]at this;exact this
   |some x=>rw[hp]at this;exact Qa1.mono hFG this
def BytesBlock (q fld:Nat) (tsl:TypeId) (x1:Value) (h1:Qf) (rest:Kn):Prop:=
 QN (fun M1=>
  Q6 (.pointer (some ⟨q,0,none⟩)) fun x80=>Qh x80 fld fun x81=>LdK h1 x81 fun x82=>
  Qp prog .neq tsl x82 (.slice none 0 0) fun x83=>
  IfK x83
  (Q6 (.pointer (some ⟨q,0,none⟩)) fun x86=>Qh x86 fld fun x87=>LdK h1 x87 fun x88=>
   Qb prog 88 #[x1,x88] h1 fun x89 h2=>M1 [x89] h2)
  (M1 [(.int .u32 0)] h1)) fun M1=>∀x6:Value,∀h3:Qf,M1 [x6] h3->rest x6 h3
theorem QiJ {H:Qf} {p:Nat} {S:BS} {F:Cut} {r:Nat} (hB:Qd H p S F r) {q fld:Nat} {tsl e0:TypeId} {v0:Value} {cells:Array Value} {xs:List UInt8} {rest:Kn}
  (ht:(prog).underlying tsl=some (.slice e0)) (hq:Qa1 F (.pointer (some ⟨q,0,none⟩)) cells) (hf:cells[fld]?=some v0) (hv:Qaq F v0 (xs.map u8V)) (hI:Inv S) (hl:S.buf.length+xs.length+80<=536870912)
  (hrest:∀H',Qd H' p (optB xs S).1 F 0->rest (.int .u32 ((optB xs S).2:Nat)) H'):
  BytesBlock q fld tsl (.pointer (some ⟨p,0,none⟩)) H rest:=by
 unfold BytesBlock
 refine QB (fun ws h=>ws=[.int .u32 ((optB xs S).2:Nat)]/\Qd h p (optB xs S).1 F 0) ?_ ?_
 ·refine hq.ld hB.cut (i:=fld) v0 hf ?_
  rw[hv.neq ht]
  by_cases h0:xs=[]
  ·have hvn:¬xs.map u8V≠[]:=by rw[h0];simp
   rw[QL hvn]
   unfold optB
   rw[if_pos h0]
   exact ⟨rfl,hB.room (Nat.zero_le _)⟩
  ·have hvn:xs.map u8V≠[]:=by simpa using h0
   rw[Yd hvn]
   refine hq.ld hB.cut (i:=fld) v0 hf ?_
   obtain ⟨a,c,rfl,hb⟩:=hv.1.bytes
   refine QdS hB (fun H' hF=>hb H' hF) hI.nested (by omega) ?_
   intro H1 h1
   unfold optB
   rw[if_neg h0]
   exact ⟨rfl,h1⟩
 ·rintro x8 h10 ⟨hx,hb⟩
  cases hx
  exact hrest h10 hb
def OffBlock (q fld start f:Nat) (tsl:TypeId) (args:Value->Array Value) (x1:Value) (h10:Qf) (rest:Kn):Prop:=
 QN (fun M6=>
  Q6 (.pointer (some ⟨q,0,none⟩)) fun x128=>Qh x128 fld fun x129=>LdK h10 x129 fun x130=>
  Qp prog .neq tsl x130 (.slice none 0 0) fun x131=>
  IfK x131
  (Q6 (.pointer (some ⟨q,0,none⟩)) fun x133=>Qh x133 fld fun x134=>LdK h10 x134 fun x135=>
   YX x135 fun x136=>
   Qf0 h10 72 4 z72 x136 x136 fun x138 h11=>
   QN (fun M7=>
    YO [(.int .i64 0)] h11 fun I8 n9=>∀x14:Value,∀h12:Qf,I8 n9 [x14] h12->
    Qp prog .lss 3 x14 x136 fun x141=>
    IfK x141
    (Q6 (.pointer (some ⟨q,0,none⟩)) fun x148=>Qh x148 fld fun x149=>LdK h12 x149 fun x150=>
     YG 1 x150 x14 fun x152=>LdK h12 x152 fun x153=>
     Qb prog f (args x153) h12 fun x154 h13=>
     YG 1 x138 x14 fun x155=>StK h13 1 x155 x154 fun h14=>
     Qp prog .add 3 x14 (.int .i64 1) fun x143=>
     Yf I8 n9 [x143] h14)
    (M7 [x14] h12)) fun M7=>∀x14_1:Value,∀h15:Qf,M7 [x14_1] h15->
   Qb prog start #[x1,x136] h15 fun _x158 h16=>
   QN (fun M10=>
    Qp prog .sub 3 x136 (.int .i64 1) fun x160=>
    YO [x160] h16 fun I11 n12=>∀x15:Value,∀h17:Qf,I11 n12 [x15] h17->
    Qp prog .geq 3 x15 (.int .i64 0) fun x162=>
    IfK x162
    (YG 1 x138 x15 fun x168=>LdK h17 x168 fun x169=>
     Qb prog 75 #[x1,x169] h17 fun _x170 h18=>
     Qp prog .sub 3 x15 (.int .i64 1) fun x164=>
     Yf I11 n12 [x164] h18)
    (M10 [x15] h17)) fun M10=>∀x15_1:Value,∀h19:Qf,M10 [x15_1] h19->
   Qb prog 92 #[x1,x136] h19 fun x173 h20=>M6 [x173] h20)
  (M6 [(.int .u32 0)] h10)) fun M6=>∀x11:Value,∀h21:Qf,M6 [x11] h21->rest x11 h21
theorem offItems_drop (L:Nat):∀(os:List Nat) (i:Nat),(Zn L os).drop i=Zn L (os.drop i)
 |os,0=>rfl
 |[],i+1=>by simp[Zn]
 |o::os,i+1=>by rw[Zn,List.drop_succ_cons,List.drop_succ_cons,offItems_drop L os i]
set_option maxHeartbeats 2000000 in
theorem QhF {α:Type} {H:Qf} {p:Nat} {S:BS} {F:Cut} {r:Nat} (hB:Qd H p S F r) {q fld start f:Nat} {tsl e0:TypeId} {args:Value->Array Value} {v0:Value} {cells:Array Value} {vs:List Value} {xs:List α}
  {pk:α->BS->BS×Nat} {c:α->Nat} {sl:Nat} {rest:Kn} (ht:(prog).underlying tsl=some (.slice e0)) (hq:Qa1 F (.pointer (some ⟨q,0,none⟩)) cells) (hf:cells[fld]?=some v0) (hv:Qaq F v0 vs) (hvi:vs.length=xs.length)
  (hI:Inv S) (hn:xs.length<536870912) (hc:∀x∈xs,∀S,Inv S->Yw S (c x) (pk x S)) (hl:S.buf.length+(xs.map c).sum+4*xs.length+80+sl<=536870912)
  (hstart:∀H S F,Qd H p S F 0->Inv S->S.buf.length+4*xs.length+80<=536870912->∀R:Kn,(∀H' v,Qd H' p (QF 4 xs.length 4 S) F (4*xs.length+5)->R v H')->FnS prog start #[.pointer (some ⟨p,0,none⟩),.int .i64 (xs.length:Nat)] H R)
  (hstep:∀(i:Nat) (hi1:i<vs.length) (hi2:i<xs.length) (S':BS) (H':Qf) (F':Cut),F.le F'->Qd H' p S' F' 0->Inv S'->S'.buf.length+c (xs[i]'hi2)+sl<=536870912->
   ∀R:Kn,(∀H'',Qd H'' p (pk (xs[i]'hi2) S').1 F' 0->R (.int .u32 ((pk (xs[i]'hi2) S').2:Nat)) H'')->FnS prog f (args (vs[i]'hi1)) H' R)
  (hrest:∀H',Qd H' p (Qii (Qx pk xs) S).1 F 0->rest (.int .u32 ((Qii (Qx pk xs) S).2:Nat)) H'):
  OffBlock q fld start f tsl args (.pointer (some ⟨p,0,none⟩)) H rest:=by
 have hfl:=Qa8 pk xs S
 have hemp:(vs=[])↔(xs=[]):=by
  rw[<-List.length_eq_zero_iff,<-List.length_eq_zero_iff,hvi]
 have hemp2:((Qx pk xs S).2=[])↔(xs=[]):=by
  rw[<-List.length_eq_zero_iff,<-List.length_eq_zero_iff,hfl]
 unfold OffBlock
 refine QB (fun ws h=>ws=[.int .u32 ((Qii (Qx pk xs) S).2:Nat)]/\Qd h p (Qii (Qx pk xs) S).1 F 0) ?_ ?_
 ·refine hq.ld hB.cut (i:=fld) v0 hf ?_
  rw[hv.neq ht]
  by_cases h0:xs=[]
  ·have hvn:¬vs≠[]:=fun h=>h (hemp.2 h0)
   rw[QL hvn]
   unfold Qii
   rw[if_pos (hemp2.2 h0)]
   exact ⟨rfl,hB.room (Nat.zero_le _)⟩
  ·have hvn:vs≠[]:=fun h=>h0 (hemp.1 h)
   rw[Yd hvn]
   refine hq.ld hB.cut (i:=fld) v0 hf ?_
   rw[hv.1.len,hvi]
   refine ⟨by omega,by omega,by omega,by omega,?_⟩
   simp only[Int.toNat_natCast]
   rw[mk_u32 (z:=z72) rfl]
   have hB1:=(hB.room (Nat.zero_le _)).push (.cells (QgW (List.replicate xs.length 0)) 72)
   have hFn:=hB.none
   generalize H.size=b at *
   have hle:∀o,F.le (F.upd b o):=fun o=>Cut.le_upd hFn
   obtain ⟨hI2,hI3,hI4,hI5⟩:=QbO (c:=c) xs hc S hI
   refine QB (fun _ h=>Qd h p (Qx pk xs S).1 (F.upd b (.cells (QgW (Qx pk xs S).2) 72)) 0) ?_ ?_
   ·refine ⟨fun m ws h=>∃i:Nat,ws=[.int .i64 (i:Int)]/\i<=xs.length/\m=xs.length-i/\
     Qd h p (Qx pk (xs.take i) S).1 (F.upd b (.cells (QgW ((Qx pk (xs.take i) S).2++List.replicate (xs.length-i) 0)) 72)) 0,⟨_,0,rfl,Nat.zero_le _,rfl,?_⟩,fun m=>?_⟩
    ·exact hB1
    ·rintro x14 h12 ⟨i,hx,hi,rfl,hb⟩
     cases hx
     rw[Y9]
     apply ZI
     ·intro hlt
      have hi2:i<xs.length:=by omega
      have htake:xs.take (i+1)=xs.take i++[xs[i]]:=by
       rw[List.take_add_one,List.getElem?_eq_getElem hi2]
       simp
      obtain ⟨g1,g2,g3,g4⟩:=QbO (c:=c) (xs.take i) (fun x hx=>hc x (List.mem_of_mem_take hx)) S hI
      have hlen2:=Qa8 pk (xs.take i) S
      rw[List.length_take,Nat.min_eq_left (by omega)]at hlen2
      have hsum:((xs.take i).map c).sum+c xs[i]<=(xs.map c).sum:=by
       have e1:((xs.take (i+1)).map c).sum=((xs.take i).map c).sum+c xs[i]:=by rw[htake,List.map_append,List.sum_append,List.map_cons,List.map_nil,List.sum_cons,List.sum_nil,Nat.add_zero]
       have e2:(xs.map c).sum=((xs.take (i+1)).map c).sum+((xs.drop (i+1)).map c).sum:=by
        rw[<-List.sum_append,<-List.map_append,List.take_append_drop]
       omega
      refine (hq.mono (hle _)).ld hb.cut (i:=fld) v0 hf ?_
      refine (hv.1.mono (hle _)).item hb.cut (i:=i) rfl (by omega) ?_
      refine hstep i (by omega) hi2 _ h12 _ (hle _) hb g1 (by omega) _ ?_
      intro h13 hb2
      rw[QO (by omega) (by omega),Int.toNat_natCast,Nat.mul_one,Nat.zero_add]
      have hcell:=hb2.get (b:=b) Cut.upd_same
      rw[QaA hcell (by rw[QhP];simp[hlen2];omega) (by simp) rfl,u32c_set,QE,wrap_i64 (by omega) (by omega)]
      refine ⟨xs.length-(i+1),by omega,i+1,rfl,by omega,rfl,?_⟩
      have hb3:=hb2.set (b:=b) Cut.upd_same (.cells (QgW (((Qx pk (xs.take i) S).2++List.replicate (xs.length-i) 0).set i (pk xs[i] (Qx pk (xs.take i) S).1).2)) 72 (0,0))
      rw[Cut.upd_upd]at hb3
      rw[htake,Qi2]
      have e3:((Qx pk (xs.take i) S).2++List.replicate (xs.length-i) 0).set i (pk xs[i] (Qx pk (xs.take i) S).1).2=
        (Qx pk (xs.take i) S).2++[(pk xs[i] (Qx pk (xs.take i) S).1).2]++List.replicate (xs.length-(i+1)) 0:=by
       rw[List.set_append_right _ _ (by omega),hlen2,Nat.sub_self]
       obtain ⟨k,hk⟩:∃k,xs.length-i=k+1:=⟨xs.length-i-1,by omega⟩
       rw[hk,List.replicate_succ,List.set_cons_zero,show xs.length-(i+1)=k by omega]
       simp
      rw[e3]at hb3⊢
      exact hb3
     ·intro hge
      have:i=xs.length:=by omega
      subst this
      rw[List.take_length,Nat.sub_self,List.replicate_zero,List.append_nil]at hb
      exact hb
   ·intro x14 h15 hb
    have hopt:Qii (Qx pk xs) S=(QeG (Qx pk xs S).2 (Qx pk xs S).1,(QeG (Qx pk xs S).2 (Qx pk xs S).1).buf.length):=by
     unfold Qii;rw[if_neg (fun h=>h0 (hemp2.1 h))]
    rw[hopt]
    generalize (Qx pk xs S).2=offs at *
    generalize (Qx pk xs S).1=S2 at *
    refine hstart h15 S2 _ hb hI2 (by omega) _ ?_
    intro h16 w hb16
    have hm:=Qgm 4 xs.length 4 S2
    have ha:=QeA (es:=4) (n:=xs.length) S2 (al:=4) (k:=2) rfl
    obtain ⟨x,hx,hxl⟩:=Qdj 4 xs.length 4 S2 (by decide)
    have hS1l:(QF 4 xs.length 4 S2).buf.length<=S2.buf.length+7:=by rw[hx,List.length_append];omega
    have hS1g:S2.buf.length<=(QF 4 xs.length 4 S2).buf.length:=by rw[hx,List.length_append];omega
    have hS1n:(QF 4 xs.length 4 S2).nested=true:=rfl
    have hofs:QeG offs S2=Qj0 xs.length (place (Zn (QF 4 xs.length 4 S2).buf.length offs).flatten (QF 4 xs.length 4 S2)):=by
     unfold QeG vecS;rw[Qdf,hfl]
    rw[hofs]
    generalize QF 4 xs.length 4 S2=S1 at *
    refine QB (fun _ h=>Qd h p (place (Zn S1.buf.length offs).flatten S1) (F.upd b (.cells (QgW offs) 72)) 5) ?_ ?_
    ·rw[Yk,wrap_i64 (by omega) (by omega)]
     refine ⟨fun m ws h=>∃i:Nat,ws=[.int .i64 ((i:Int)-1)]/\i<=xs.length/\m=i/\Qd h p (place (Zn S1.buf.length (offs.drop i)).flatten S1) (F.upd b (.cells (QgW offs) 72)) (4*i+5),⟨_,xs.length,rfl,Nat.le_refl _,rfl,?_⟩,fun m=>?_⟩
     ·rw[<-hfl,List.drop_length]
      rw[<-hfl]at hb16
      exact hb16
     ·rintro x15 h17 ⟨i,hx,hi',rfl,hb⟩
      cases hx
      rw[Qgu]
      apply ZI
      ·intro hge
       have hm1:m-1<offs.length:=by omega
       have hm2:m-1+1=m:=by omega
       rw[QO (by omega) (by omega)]
       have hto:((m:Int)-1).toNat=m-1:=by omega
       have hcell:=hb.get (b:=b) Cut.upd_same
       rw[hto,Nat.mul_one,Nat.zero_add,Qj ((Qi hcell).trans (u32c_get hm1))]
       have hdl:(Zn S1.buf.length (offs.drop m)).flatten.length=4*(offs.length-m):=by
        rw[Qaz _ (Qcs _ _),Qdf,List.length_drop]
       have hget:offs.getD (m-1) 0=offs[m-1]:=by simp[List.getD,hm1]
       have hoff:offs[m-1]<=S2.buf.length:=hI5 _ (List.getElem_mem hm1)
       have hdrop:offs.drop (m-1)=offs[m-1]::offs.drop m:=by rw[List.drop_eq_getElem_cons hm1,hm2]
       rw[hget]
       refine al_UOffsetT hb ?_ (by rw[QaF];exact hm.1) (by rw[YA];omega) (by rw[YA,hdl];omega) ?_
       ·rw[YA,hdl]
        have e4:(4*(offs.length-m)+S1.buf.length)+4*m=S1.buf.length+4*xs.length:=by omega
        omega
       ·intro h18 hb18
        rw[Yk,wrap_i64 (by omega) (by omega)]
        refine ⟨m-1,by omega,m-1,by rw[show ((m:Int)-1-1)=(((m-1:Nat):Int)-1) by omega],by omega,rfl,?_⟩
        rw[Zd,YA,hdl]at hb18
        rw[hdrop,Zn,List.flatten_cons,List.length_drop,show S1.buf.length+4*(offs.length-m)=4*(offs.length-m)+S1.buf.length by omega]
        exact hb18.room (by omega)
      ·intro hge
       have hm0:m=0:=by omega
       subst hm0
       exact hb
    ·intro x15 h19 hb19
     refine Qac hb19 hS1n (by decide) (by omega) ?_
     intro h20 hb20
     exact ⟨rfl,(hb20.room (by decide)).weaken (hle _)⟩
 ·rintro x8 h21 ⟨hx,hb⟩
  cases hx
  exact hrest h21 hb
end Go.Proofs
namespace Go.Proofs
open Go Go.Vc
open Tryz (prog)
theorem QcP {t:TypeId} {ok:Bool} {z v:Value} {k:Value->Prop}:TAssK t ok z (.iface t v) k=k (if ok then .tuple #[v,.bool true] else v):=by
 show (if t=t then _ else _)=_
 rw[if_pos rfl]
def KidOk (p:Nat) (S:BS) (F:Cut) (H:Qf) (c:Value) (kids:List Mon):Prop:=
 ∀k,kids=[k]->∀R:Kn,(∀H',Qd H' p (Zt k S).1 F 0->R (.int .u32 ((Zt k S).2:Nat)) H')->FnS prog 23 #[c,.pointer (some ⟨p,0,none⟩)] H R
theorem AnyT_Pack {H:Qf} {p:Nat} {S:BS} {F:Cut} {r:Nat} (hB:Qd H p S F r) {R:Kn} {ty color:UInt8} {v c:Value} {kids:List Mon} (hv:QcO F false ty color v c kids) (hkid:KidOk p S F H c kids) (hI:Inv S) (hl:S.buf.length+5000<=536870912)
  (hR:∀H',Qd H' p (Qbp false ty color (Ya kids) S).1 F 0->R (.int .u32 ((Qbp false ty color (Ya kids) S).2:Nat)) H'):
  FnS prog 89 #[v,.pointer (some ⟨p,0,none⟩)] H R:=by
 apply w89
 unfold tp89
 rcases hv with ⟨rfl,rfl,rfl⟩|⟨h0,w,hv',hu⟩
 ·rw[Y4 (by kernel_rfl)]
  exact hR H (hB.room (Nat.zero_le _))
 ·obtain ⟨q,e,rfl,hq⟩:=hv'
  have hv':Qa1 F (.pointer (some ⟨q,0,none⟩)) #[u8n ty,w]:=⟨q,e,rfl,hq⟩
  rw[Y4 (by kernel_rfl)]
  show IfK (.bool false) _ _
  rw[Ql]
  rcases hu with ⟨_,rfl,rfl,hc,rfl⟩|⟨hty,rfl,k,rfl⟩
  ·refine hv'.ld hB.cut (i:=0) (u8n 2) rfl ?_
   rw[Yo,QL (by decide),Yo,Yd (by decide)]
   refine hv'.ld hB.cut (i:=1) (.iface 273 c) rfl ?_
   rw[QcP]
   refine Qj2 hB hI hc hl ?_
   intro H' h'
   exact hR H' h'
  ·have h1:ty=1:=by
    rcases hty with h|⟨h,_⟩
    ·exact h
    ·cases h
   subst h1
   refine hv'.ld hB.cut (i:=0) (u8n 1) rfl ?_
   rw[Yo,Yd (by decide)]
   refine hv'.ld hB.cut (i:=1) (.iface 73 c) rfl ?_
   rw[QcP]
   refine hkid k rfl _ ?_
   intro H' h'
   have e:Qbp false 1 color (Ya [k]) S=Zt k S:=by
    unfold Qbp
    rw[if_neg (by decide),if_neg (by decide),Ya]
   rw[e]at hR
   exact hR H' h'
theorem QfK {H:Qf} {p:Nat} {S:BS} {F:Cut} {r:Nat} (hB:Qd H p S F r) {R:Kn} {ty color:UInt8} {v c:Value} {kids:List Mon} (hv:QcO F false ty color v c kids) (hkid:KidOk p S F H c kids) (hI:Inv S) (hl:S.buf.length+5000<=536870912)
  (hR:∀H',Qd H' p (Qbp false ty color (Ya kids) S).1 F 0->R (.int .u32 ((Qbp false ty color (Ya kids) S).2:Nat)) H'):
  FnS prog 114 #[v,.pointer (some ⟨p,0,none⟩)] H R:=by
 apply w114
 unfold tp89
 rcases hv with ⟨rfl,rfl,rfl⟩|⟨h0,w,hv',hu⟩
 ·rw[Y4 (by kernel_rfl)]
  exact hR H (hB.room (Nat.zero_le _))
 ·obtain ⟨q,e,rfl,hq⟩:=hv'
  have hv':Qa1 F (.pointer (some ⟨q,0,none⟩)) #[u8n ty,w]:=⟨q,e,rfl,hq⟩
  rw[Y4 (by kernel_rfl)]
  show IfK (.bool false) _ _
  rw[Ql]
  rcases hu with ⟨_,rfl,rfl,hc,rfl⟩|⟨hty,rfl,k,rfl⟩
  ·refine hv'.ld hB.cut (i:=0) (u8n 2) rfl ?_
   rw[Yo,QL (by decide),Yo,Yd (by decide)]
   refine hv'.ld hB.cut (i:=1) (.iface 273 c) rfl ?_
   rw[QcP]
   refine Qj2 hB hI hc hl ?_
   intro H' h'
   exact hR H' h'
  ·have h1:ty=1:=by
    rcases hty with h|⟨h,_⟩
    ·exact h
    ·cases h
   subst h1
   refine hv'.ld hB.cut (i:=0) (u8n 1) rfl ?_
   rw[Yo,Yd (by decide)]
   refine hv'.ld hB.cut (i:=1) (.iface 73 c) rfl ?_
   rw[QcP]
   refine hkid k rfl _ ?_
   intro H' h'
   have e:Qbp false 1 color (Ya [k]) S=Zt k S:=by
    unfold Qbp
    rw[if_neg (by decide),if_neg (by decide),Ya]
   rw[e]at hR
   exact hR H' h'
theorem Qey {H:Qf} {p:Nat} {S:BS} {F:Cut} {r:Nat} (hB:Qd H p S F r) {R:Kn} {ty color:UInt8} {v c:Value} {kids:List Mon} (hv:QcO F true ty color v c kids) (hkid:KidOk p S F H c kids) (hI:Inv S) (hl:S.buf.length+5000<=536870912)
  (hR:∀H',Qd H' p (Qbp true ty color (Ya kids) S).1 F 0->R (.int .u32 ((Qbp true ty color (Ya kids) S).2:Nat)) H'):
  FnS prog 115 #[v,.pointer (some ⟨p,0,none⟩)] H R:=by
 apply w115
 unfold tp89
 rcases hv with ⟨rfl,rfl,rfl⟩|⟨h0,w,hv',hu⟩
 ·rw[Y4 (by kernel_rfl)]
  exact hR H (hB.room (Nat.zero_le _))
 ·obtain ⟨q,e,rfl,hq⟩:=hv'
  have hv':Qa1 F (.pointer (some ⟨q,0,none⟩)) #[u8n ty,w]:=⟨q,e,rfl,hq⟩
  rw[Y4 (by kernel_rfl)]
  show IfK (.bool false) _ _
  rw[Ql]
  rcases hu with ⟨h,_⟩|⟨hty,rfl,k,rfl⟩
  ·cases h
  ·have e:Qbp true ty color (Ya [k]) S=Zt k S:=by
    unfold Qbp
    rw[if_neg h0,if_neg (by simp),Ya]
   rw[e]at hR
   have go:∀x,x=ty->True:=fun _ _=>trivial
   refine hv'.ld hB.cut (i:=0) (u8n ty) rfl ?_
   rcases hty with rfl|⟨_,rfl|rfl⟩
   ·rw[Yo,Yd (by decide)]
    refine hv'.ld hB.cut (i:=1) (.iface 73 c) rfl ?_
    rw[QcP]
    exact hkid k rfl _ hR
   ·rw[Yo,QL (by decide),Yo,Yd (by decide)]
    refine hv'.ld hB.cut (i:=1) (.iface 73 c) rfl ?_
    rw[QcP]
    exact hkid k rfl _ hR
   ·rw[Yo,QL (by decide),Yo,QL (by decide),Yo,Yd (by decide)]
    refine hv'.ld hB.cut (i:=1) (.iface 73 c) rfl ?_
    rw[QcP]
    exact hkid k rfl _ hR
end Go.Proofs
namespace Go.Proofs
open Go Go.Vc
open Tryz (prog)
theorem Yw.id {S:BS} (h:Inv S):Yw S 0 (S,0):=⟨h,Nat.le_refl _,Nat.le_refl _,Nat.zero_le _⟩
theorem Yw.mono {S:BS} {c c':Nat} {q:BS×Nat} (h:Yw S c q) (hc:c<=c'):Yw S c' q:=⟨h.inv,Nat.le_trans h.len (by omega),h.le,h.off⟩
theorem Qc5 (xs:List UInt8) {S:BS} (h:Inv S):Yw S (xs.length+8) (QaZ xs S):=by
 obtain ⟨h1,h2,h3⟩:=h.createStr xs
 exact ⟨h1,by show (createStr xs S).buf.length<=_;omega,by show _<=(createStr xs S).buf.length;omega,Nat.le_refl _⟩
theorem Qic (xs:List UInt8) {S:BS} (h:Inv S):Yw S (xs.length+8) (optB xs S):=by
 unfold optB
 split
 ·exact (Yw.id h).mono (by omega)
 ·exact Qc5 xs h
theorem Qbq {es al:Nat} {items:List (List UInt8)} (hal:P2 al) (hi:∀x∈items,x.length=es) {S:BS} (h:Inv S):Yw S (es*items.length+15) (Qh4 es al items S):=by
 unfold Qh4
 split
 ·exact (Yw.id h).mono (by omega)
 ·exact (Yw.vecS h hal hi).1
theorem optO_ok {q:BS->BS×List Nat} {c n:Nat} {S:BS} (hI:Inv S) (hq:Inv (q S).1/\(q S).1.buf.length<=S.buf.length+c/\S.buf.length<=(q S).1.buf.length) (hn:(q S).2.length=n):Yw S (c+4*n+15) (Qii q S):=by
 obtain ⟨h1,h2,h3⟩:=hq
 unfold Qii
 split
 ·exact (Yw.id hI).mono (by omega)
 ·have:=(Yw.vecS (es:=4) (al:=4) (items:=Zn (QF 4 (q S).2.length 4 (q S).1).buf.length (q S).2) h1 Qhu (Qcs _ _)).1
  have e:(Zn (QF 4 (q S).2.length 4 (q S).1).buf.length (q S).2).length=n:=by rw[Qdf,hn]
  refine ⟨this.inv,?_,?_,this.off⟩
  ·have l:=this.len
   rw[e]at l
   refine Nat.le_trans l ?_
   omega
  ·exact Nat.le_trans h3 this.le
theorem optStat_ok (d:Option Qaa) {S:BS} (h:Inv S):Yw S (Qid d+100) (Qhg d S):=by
 unfold Qhg
 cases d with
 |none=>exact (Yw.id h).mono (by omega)
 |some s=>exact (packStat_ok s h).1
theorem Qj3 (b:Bool) {S:BS} (h:Inv S):Yw S 40 (QdR b S):=by
 unfold QdR
 cases b
 ·exact (Yw.id h).mono (by omega)
 ·exact (packParent_ok h).1
theorem QeO {amb:Bool} {ty color:UInt8} {kid:BS->BS×Nat} {c:Nat} {S:BS} (h:Inv S) (hk:Yw S c (kid S)):Yw S (c+40) (Qbp amb ty color kid S):=by
 unfold Qbp
 split
 ·exact (Yw.id h).mono (by omega)
 ·split
  ·exact (packSimple_ok color h).1.mono (by omega)
  ·exact hk.mono (by omega)
theorem Qbi {α:Type} (c:Nat):∀l:List α,(l.map fun _=>c).sum=c*l.length
 |[]=>by simp
 |x::l=>by simp[Qbi c l,Nat.mul_add];omega
theorem QcT {α:Type} (f:α->Nat) (c:Nat):∀l:List α,(l.map fun x=>f x+c).sum=(l.map f).sum+c*l.length
 |[]=>by simp
 |x::l=>by simp[QcT f c l,Nat.mul_add];omega
theorem strs_ok (l:List (List UInt8)) {S:BS} (h:Inv S):Yw S ((l.map List.length).sum+12*l.length+15) (Qii (Qx QaZ l) S):=by
 obtain ⟨h1,h2,h3,_⟩:=QbO (f:=QaZ) (c:=fun x=>x.length+8) l (fun x _ S hS=>Qc5 x hS) S h
 rw[QcT]at h2
 exact (optO_ok h ⟨h1,h2,h3⟩ (Qa8 _ _ _)).mono (by omega)
theorem refs_ok (l:List UInt64) {S:BS} (h:Inv S):Yw S (44*l.length+15) (Qii (Qx Qb6 l) S):=by
 obtain ⟨h1,h2,h3,_⟩:=QbO (f:=Qb6) (c:=fun _=>40) l (fun x _ S hS=>(QeW x hS).1) S h
 rw[Qbi]at h2
 exact (optO_ok h ⟨h1,h2,h3⟩ (Qa8 _ _ _)).mono (by omega)
end Go.Proofs
namespace Go.Proofs
open Go Go.Vc
open Tryz (prog)
theorem foldMk_ok:∀(fs:List (BS->BS×Nat)) (cs:List Nat),fs.length=cs.length->(∀(i:Nat) f c,fs[i]?=some f->cs[i]?=some c->∀S,Inv S->Yw S c (f S))->∀S,Inv S->
  Inv (Qx (fun f=>f) fs S).1/\(Qx (fun f=>f) fs S).1.buf.length<=S.buf.length+cs.sum/\S.buf.length<=(Qx (fun f=>f) fs S).1.buf.length/\∀o∈(Qx (fun f=>f) fs S).2,o<=(Qx (fun f=>f) fs S).1.buf.length
 |[],[],_,_,S,h=>⟨h,by simp[Qx],Nat.le_refl _,by simp[Qx]⟩
 |f::fs,c::cs,hl,hf,S,h=>by
  have h1:=hf 0 f c rfl rfl S h
  obtain ⟨g1,g2,g3,g4⟩:=foldMk_ok fs cs (by simpa using hl) (fun i f c a b=>hf (i+1) f c (by simpa using a) (by simpa using b)) (f S).1 h1.inv
  have h2:=h1.len
  have h3:=h1.le
  have h4:=h1.off
  refine ⟨g1,?_,?_,?_⟩
  ·show (Qx (fun f=>f) fs (f S).1).1.buf.length<=_
   simp only[List.sum_cons];omega
  ·show _<=(Qx (fun f=>f) fs (f S).1).1.buf.length
   omega
  ·intro o ho
   show o<=(Qx (fun f=>f) fs (f S).1).1.buf.length
   rcases List.mem_cons.1 ho with rfl|ho
   ·exact Nat.le_trans h4 g3
   ·exact g4 o ho
def MkOk:List (BS->BS×Nat)->List Nat->Prop
 |[],[]=>True
 |f::fs,c::cs=>(∀S,Inv S->Yw S c (f S))/\MkOk fs cs
 |_,_=>False
theorem MkOk.to:∀{fs:List (BS->BS×Nat)} {cs:List Nat},MkOk fs cs->fs.length=cs.length/\∀(i:Nat) f c,fs[i]?=some f->cs[i]?=some c->∀S,Inv S->Yw S c (f S)
 |[],[],_=>⟨rfl,fun i f c h=>by simp at h⟩
 |f::fs,c::cs,h=>by
  obtain ⟨h1,h2⟩:=h
  obtain ⟨g1,g2⟩:=MkOk.to h2
  refine ⟨by simp[g1],fun i f' c' a b=>?_⟩
  cases i with
  |zero=>simp at a b;subst a;subst b;exact h1
  |succ i=>exact g2 i f' c' (by simpa using a) (by simpa using b)
 |[],_::_,h=>h.elim
 |_::_,[],h=>h.elim
theorem runS_ok {S0:BS} {n k:Nat}:∀(fs:List (BS->BS)),(∀f∈fs,∀c S,Y8 S0 n c S->Y8 S0 n (c+k) (f S))->∀c S,Y8 S0 n c S->Y8 S0 n (c+k*fs.length) (QfT fs S)
 |[],_,c,S,h=>by simpa [QfT]using h
 |f::fs,hf,c,S,h=>by
  have h1:=hf f List.mem_cons_self c S h
  have h2:=runS_ok fs (fun g hg=>hf g (List.mem_cons_of_mem _ hg)) (c+k) (f S) h1
  refine h2.mono ?_
  simp only[List.length_cons,Nat.mul_add];omega
theorem vec3_len (v:Qaj):(Qgf v).length=32:=by simp[Qgf,vec3B,Qc]
theorem Y8.slotPos {S0 S:BS} {n c:Nat} (h:Y8 S0 n c S) (pos:Option Qaj):Y8 S0 n (c+64) (Proofs.slotPos pos S):=by
 unfold Proofs.slotPos
 cases pos with
 |none=>exact h.mono (by omega)
 |some v=>
  have h1:=((h.prep (a:=32) Qek).place (Qgf v)).slotStruct (off:=(Vc.place (Qgf v) (Vc.prep 8 32 S)).buf.length) (o:=0)
  exact h1.mono (by rw[vec3_len];omega)
theorem Y8.slotTy {S0 S:BS} {n c o:Nat} {ty:UInt8} (h:Y8 S0 n c S):Y8 S0 n (c+64) (Proofs.slotTy ty o S):=by
 unfold Proofs.slotTy
 split
 ·exact h.mono (by omega)
 ·exact (h.slotN P2_1).mono (by omega)
set_option maxRecDepth 4000 in
theorem Qgo (fc:Nat) (d:ZT) (o:List Nat) {S0:BS} {n:Nat}:∀f∈Yp fc d o,∀c S,Y8 S0 n c S->Y8 S0 n (c+64) (f S):=by
 intro f hf c S h
 have hP:∀{k oo x:Nat},P2 k->Y8 S0 n (c+64) (slot oo (putN k (leB (x:Int) k) S)):=fun hk=>((h.putN hk (by rw[Qc];exact hk.le)).slot).mono (by omega)
 have hN:∀{k x dd oo:Nat},P2 k->Y8 S0 n (c+64) (slotNF fc k x dd oo S):=fun hk=>by unfold slotNF;split;exact h.mono (by omega);exact hP hk
 have hO:∀{x oo:Nat},Y8 S0 n (c+64) (slotOff x oo S):=h.slotOff.mono (by omega)
 have hFl:∀{x dd oo:Nat},Y8 S0 n (c+64) (slotFF fc x dd oo S):=by intro x dd oo;unfold slotFF;split;exact h.mono (by omega);exact hP Qhu
 unfold Yp at hf
 simp only[List.mem_cons,List.not_mem_nil,or_false]at hf
 rcases hf with rfl|rfl|rfl|rfl|rfl|rfl|rfl|rfl|rfl|rfl|rfl|rfl|rfl|rfl|rfl|rfl|rfl|rfl|rfl|rfl|rfl|rfl|rfl|rfl|rfl|rfl|rfl|rfl|rfl|rfl|rfl|rfl|rfl|rfl|rfl|rfl|rfl|rfl|rfl|rfl|rfl|rfl|rfl|rfl|rfl|rfl|rfl|rfl
 all_goals first
  |exact h.slotPos _
  |exact h.slotTy
  |exact hO
  |exact hFl
  |exact hN P2_1
  |exact hN P2_2
  |exact hN Qhu
  |exact hN Qek
end Go.Proofs
namespace Go.Proofs
open Go Go.Vc
open Tryz (prog)
theorem Qb1 (a b:Nat):(QaW a b).length=4:=by simp[QaW,Qc]
theorem Qc1 (a b:Nat):(Z9 a b).length=8:=by simp[Z9,Qc]
theorem Yb {α:Type} {f:α->List UInt8} {k:Nat} (h:∀x,(f x).length=k) {l:List α}:∀y∈l.map f,y.length=k:=by
 intro y hy
 obtain ⟨x,_,rfl⟩:=List.mem_map.1 hy
 exact h x
def Qgd (d:ZT) (ct nt ce cu cq ca:Nat):List Nat:=
 [d.name.length+8,d.inventory.length+8,cu+40,4*d.test4.length+15,(d.strings.map List.length).sum+12*d.strings.length+15,ct+4*nt+15,ce,d.nested.length+8,Qid d.empty+100,
  1*d.bools.length+15,(d.strings2.map List.length).sum+12*d.strings2.length+15,8*d.abilities.length+15,d.flex.length+8,4*d.test5.length+15,8*d.longs.length+15,8*d.doubles.length+15,40,
  44*d.refs.length+15,8*d.weak.length+15,44*d.strong.length+15,8*d.coOwnings.length+15,8*d.nonOwnings.length+15,cq+40,ca+40,1*d.enums.length+15]
theorem makers_ok (d:ZT) {tables:BS->BS×List Nat} {enemy test uniq amb:BS->BS×Nat} {ct nt ce cu cq ca:Nat}
  (ht:∀S,Inv S->(Inv (tables S).1/\(tables S).1.buf.length<=S.buf.length+ct/\S.buf.length<=(tables S).1.buf.length)/\(tables S).2.length=nt)
  (he:∀S,Inv S->Yw S ce (enemy S)) (hu:∀S,Inv S->Yw S cu (test S)) (hq:∀S,Inv S->Yw S cq (uniq S)) (ha:∀S,Inv S->Yw S ca (amb S)):
  MkOk (Qbo d tables enemy test uniq amb) (Qgd d ct nt ce cu cq ca):=by
 have hu8:∀x,(QaB x).length=8:=fun x=>Qc _ _
 have v8:∀(l:List UInt64) S,Inv S->Yw S (8*l.length+15) (Qh4 8 8 (l.map QaB) S):=fun l S h=>by
  have:=Qbq (es:=8) Qek (Yb hu8 (l:=l)) h
  rwa [List.length_map]at this
 refine ⟨fun S h=>Qc5 _ h,fun S h=>Qic _ h,fun S h=>QeO h (hu S h),fun S h=>?_,fun S h=>strs_ok _ h,fun S h=>optO_ok h (ht S h).1 (ht S h).2,he,fun S h=>Qic _ h,fun S h=>optStat_ok _ h,fun S h=>?_,fun S h=>strs_ok _ h,
  fun S h=>?_,fun S h=>Qic _ h,fun S h=>?_,v8 _,v8 _,fun S h=>Qj3 _ h,fun S h=>refs_ok _ h,v8 _,fun S h=>refs_ok _ h,v8 _,v8 _,fun S h=>QeO h (hq S h),fun S h=>QeO h (ha S h),fun S h=>?_,trivial⟩
 ·have:=Qbq (es:=4) P2_2 (Yb (fun t:QbF=>Qb1 t.a.toNat t.b.toNat) (l:=d.test4)) h
  rwa [List.length_map]at this
 ·have:=Qbq (es:=1) P2_1 (Yb (fun b:Bool=>(rfl:(Qfe b).length=1)) (l:=d.bools)) h
  rwa [List.length_map]at this
 ·have:=Qbq (es:=8) Qhu (Yb (fun t:QeD=>Qc1 t.id.toNat t.dist.toNat) (l:=d.abilities)) h
  rwa [List.length_map]at this
 ·have:=Qbq (es:=4) P2_2 (Yb (fun t:QbF=>Qb1 t.a.toNat t.b.toNat) (l:=d.test5)) h
  rwa [List.length_map]at this
 ·have:=Qbq (es:=1) P2_1 (Yb (fun b:UInt8=>(rfl:[b].length=1)) (l:=d.enums)) h
  rwa [List.length_map]at this
theorem packTF_ok (fc:Nat) (d:ZT) {tables:BS->BS×List Nat} {enemy test uniq amb:BS->BS×Nat} {ct nt ce cu cq ca:Nat}
  (ht:∀S,Inv S->(Inv (tables S).1/\(tables S).1.buf.length<=S.buf.length+ct/\S.buf.length<=(tables S).1.buf.length)/\(tables S).2.length=nt)
  (he:∀S,Inv S->Yw S ce (enemy S)) (hu:∀S,Inv S->Yw S cu (test S)) (hq:∀S,Inv S->Yw S cq (uniq S)) (ha:∀S,Inv S->Yw S ca (amb S)) {S:BS} (h:Inv S):
  Yw S (Qig d+60*nt+ct+ce+cu+cq+ca) (QiS fc d tables enemy test uniq amb S)/\0<(QiS fc d tables enemy test uniq amb S).2:=by
 obtain ⟨m1,m2⟩:=MkOk.to (makers_ok d ht he hu hq ha)
 obtain ⟨g1,g2,g3,g4⟩:=foldMk_ok _ _ m1 m2 S h
 unfold QiS
 generalize Qx (fun f=>f) (Qbo d tables enemy test uniq amb) S=q at *
 have hs:=runS_ok (Yp fc d q.2) (Qgo fc d q.2) 0 _ (Y8.start (n:=49) g1.min)
 have hp:=Yw.endT hs g1 (by decide)
 refine ⟨⟨hp.1.inv,?_,Nat.le_trans g3 hp.1.le,hp.1.off⟩,hp.2⟩
 have h1:=hp.1.len
 have hl:(Yp fc d q.2).length=48:=rfl
 rw[hl]at h1
 have hsum:(Qgd d ct nt ce cu cq ca).sum+4000<=Qig d+60*nt+ct+ce+cu+cq+ca:=by
  unfold Qgd Qig
  simp only[List.sum_cons,List.sum_nil]
  omega
 omega
mutual
theorem Qgz:∀(m:Mon) (S:BS),Inv S->Yw S (Yy m) (Zt m S)/\0<(Zt m S).2
 |.mk d tables enemy test uniq amb,S,h=>by
  have:=packTF_ok 49 (d:=d) (ct:=ZB tables) (nt:=tables.length) (ce:=ZB enemy) (cu:=ZB test) (cq:=ZB uniq) (ca:=ZB amb) (tables:=QaE tables) (enemy:=Ya enemy) (test:=Ya test) (uniq:=Ya uniq) (amb:=Ya amb)
   (fun S h=>QeF tables S h) (fun S h=>ZF enemy S h) (fun S h=>ZF test S h) (fun S h=>ZF uniq S h) (fun S h=>ZF amb S h) h
  rw[Zt,<-packTF_49]
  refine ⟨this.1.mono ?_,this.2⟩
  rw[Yy];omega
theorem QeF:∀(ms:List Mon) (S:BS),Inv S->(Inv (QaE ms S).1/\(QaE ms S).1.buf.length<=S.buf.length+ZB ms/\S.buf.length<=(QaE ms S).1.buf.length)/\(QaE ms S).2.length=ms.length
 |[],S,h=>by rw[QaE];exact ⟨⟨h,Nat.le_add_right _ _,Nat.le_refl _⟩,rfl⟩
 |m::ms,S,h=>by
  have h1:=(Qgz m S h).1
  have h2:=QeF ms (Zt m S).1 h1.inv
  have:=h1.len
  have:=h1.le
  have:=h2.1.2.1
  have:=h2.1.2.2
  rw[QaE,ZB]
  exact ⟨⟨h2.1.1,by show (QaE ms (Zt m S).1).1.buf.length<=_;omega,by show _<=(QaE ms (Zt m S).1).1.buf.length;omega⟩,by simp[h2.2]⟩
theorem ZF:∀(ms:List Mon) (S:BS),Inv S->Yw S (ZB ms) (Ya ms S)
 |[],S,h=>by rw[Ya];exact (Yw.id h).mono (Nat.zero_le _)
 |m::ms,S,h=>by
  rw[Ya,ZB]
  exact (Qgz m S h).1.mono (by omega)
end
end Go.Proofs
namespace Go.Proofs
open Go Go.Vc
open Tryz (prog)
theorem costs_mem:∀{k:Mon} {l:List Mon},k∈l->Yy k<=ZB l
 |k,[],h=>by simp at h
 |k,m::ms,h=>by
  rw[ZB]
  rcases List.mem_cons.1 h with rfl|h
  ·omega
  ·have:=costs_mem h;omega
theorem costs_sum:∀l:List Mon,(l.map Yy).sum=ZB l
 |[]=>rfl
 |m::ms=>by rw[List.map_cons,List.sum_cons,ZB,costs_sum ms]
def PackOk (n:Nat):Prop:=∀(m:Mon),Yy m<n->∀(H:Qf) (p:Nat) (S:BS) (F:Cut) (r:Nat) (v:Value) (R:Kn),Qd H p S F r->Inv S->MT F v m->S.buf.length+Yy m+20000<=536870912->
 (∀H',Qd H' p (Zt m S).1 F 0->R (.int .u32 ((Zt m S).2:Nat)) H')->FnS prog 23 #[v,.pointer (some ⟨p,0,none⟩)] H R
theorem kidOk {n:Nat} (ih:PackOk n) {p:Nat} {S:BS} {F:Cut} {r:Nat} {H:Qf} {c:Value} {kids:List Mon} (hB:Qd H p S F r) (hI:Inv S) (hs:ZB kids<n) (hm:∀k,k∈kids->MT F c k) (hl:S.buf.length+ZB kids+20000<=536870912):KidOk p S F H c kids:=by
 rintro k rfl R hR
 refine ih k ?_ H p S F r c R hB hI (hm k (by simp)) ?_ hR
 ·rw[ZB,ZB]at hs;omega
 ·rw[ZB,ZB]at hl;omega
end Go.Proofs
namespace Go.Proofs
open Go Go.Vc
open Tryz (prog)
set_option maxRecDepth 4000
def packTail (x0 x1 x78 x6 x95 x8 x11 x16 x226 x22 x243 x24 x27 x32 x35 x36 x39 x42 x462 x46 x51 x54 x59 x62 x655 x661 x67:Value) (h128:Qf) (R:Kn):Prop:=
 Qb prog 118 #[x1] h128 fun _x694 h129=>
 Q6 x0 fun x696=>
 Qh x696 0 fun x697=>
 LdK h129 x697 fun x698=>
 Qb prog 119 #[x698,x1] h129 fun x700 h130=>
 Qb prog 120 #[x1,x700] h130 fun _x703 h131=>
 Q6 x0 fun x706=>
 Qh x706 1 fun x707=>
 LdK h131 x707 fun x708=>
 Qb prog 121 #[x1,x708] h131 fun _x709 h132=>
 Q6 x0 fun x712=>
 Qh x712 2 fun x713=>
 LdK h132 x713 fun x714=>
 Qb prog 122 #[x1,x714] h132 fun _x715 h133=>
 Qb prog 123 #[x1,x78] h133 fun _x718 h134=>
 Qb prog 124 #[x1,x6] h134 fun _x721 h135=>
 Q6 x0 fun x724=>
 Qh x724 5 fun x725=>
 LdK h135 x725 fun x726=>
 Qb prog 125 #[x1,x726] h135 fun _x727 h136=>
 QN (fun M79=>
 Q6 x0 fun x729=>
 Qh x729 6 fun x730=>
 LdK h136 x730 fun x731=>
 Qp prog .neq 151 x731 (.pointer none) fun x732=>
 IfK x732
 (Q6 x0 fun x735=>
 Qh x735 6 fun x736=>
 LdK h136 x736 fun x737=>
 Q6 x737 fun x738=>
 Qh x738 0 fun x739=>
 LdK h136 x739 fun x740=>
 Qb prog 126 #[x1,x740] h136 fun _x741 h137=>
 M79 [] h137)
 (M79 [] h136)) fun M79=>∀h138:Qf,M79 [] h138->
 Qb prog 127 #[x1,x95] h138 fun _x744 h139=>
 Qb prog 128 #[x1,x8] h139 fun _x747 h140=>
 Qb prog 129 #[x1,x11] h140 fun _x750 h141=>
 Qb prog 130 #[x1,x16] h141 fun _x753 h142=>
 Qb prog 131 #[x1,x226] h142 fun _x756 h143=>
 Qb prog 132 #[x1,x22] h143 fun _x759 h144=>
 Qb prog 133 #[x1,x243] h144 fun _x762 h145=>
 Q6 x0 fun x765=>
 Qh x765 13 fun x766=>
 LdK h145 x766 fun x767=>
 Qb prog 134 #[x1,x767] h145 fun _x768 h146=>
 Q6 x0 fun x771=>
 Qh x771 14 fun x772=>
 LdK h146 x772 fun x773=>
 Qb prog 135 #[x1,x773] h146 fun _x774 h147=>
 Q6 x0 fun x777=>
 Qh x777 15 fun x778=>
 LdK h147 x778 fun x779=>
 Qb prog 136 #[x1,x779] h147 fun _x780 h148=>
 Q6 x0 fun x783=>
 Qh x783 16 fun x784=>
 LdK h148 x784 fun x785=>
 Qb prog 137 #[x1,x785] h148 fun _x786 h149=>
 Q6 x0 fun x789=>
 Qh x789 17 fun x790=>
 LdK h149 x790 fun x791=>
 Qb prog 138 #[x1,x791] h149 fun _x792 h150=>
 Q6 x0 fun x795=>
 Qh x795 18 fun x796=>
 LdK h150 x796 fun x797=>
 Qb prog 139 #[x1,x797] h150 fun _x798 h151=>
 Q6 x0 fun x801=>
 Qh x801 19 fun x802=>
 LdK h151 x802 fun x803=>
 Qb prog 140 #[x1,x803] h151 fun _x804 h152=>
 Q6 x0 fun x807=>
 Qh x807 20 fun x808=>
 LdK h152 x808 fun x809=>
 Qb prog 141 #[x1,x809] h152 fun _x810 h153=>
 Q6 x0 fun x813=>
 Qh x813 21 fun x814=>
 LdK h153 x814 fun x815=>
 Qb prog 142 #[x1,x815] h153 fun _x816 h154=>
 Qb prog 143 #[x1,x24] h154 fun _x819 h155=>
 Q6 x0 fun x822=>
 Qh x822 23 fun x823=>
 LdK h155 x823 fun x824=>
 Qb prog 144 #[x1,x824] h155 fun _x825 h156=>
 Q6 x0 fun x828=>
 Qh x828 24 fun x829=>
 LdK h156 x829 fun x830=>
 Qb prog 145 #[x1,x830] h156 fun _x831 h157=>
 Q6 x0 fun x834=>
 Qh x834 25 fun x835=>
 LdK h157 x835 fun x836=>
 Qb prog 146 #[x1,x836] h157 fun _x837 h158=>
 Qb prog 147 #[x1,x27] h158 fun _x840 h159=>
 Qb prog 148 #[x1,x32] h159 fun _x843 h160=>
 Qb prog 149 #[x1,x35] h160 fun _x846 h161=>
 Qb prog 150 #[x1,x36] h161 fun _x849 h162=>
 Qb prog 151 #[x1,x39] h162 fun _x852 h163=>
 Qb prog 152 #[x1,x42] h163 fun _x855 h164=>
 Qb prog 153 #[x1,x462] h164 fun _x858 h165=>
 Qb prog 154 #[x1,x46] h165 fun _x861 h166=>
 Q6 x0 fun x864=>
 Qh x864 34 fun x865=>
 LdK h166 x865 fun x866=>
 Qb prog 155 #[x1,x866] h166 fun _x867 h167=>
 Qb prog 156 #[x1,x51] h167 fun _x870 h168=>
 Qb prog 157 #[x1,x54] h168 fun _x873 h169=>
 Q6 x0 fun x876=>
 Qh x876 37 fun x877=>
 LdK h169 x877 fun x878=>
 Qb prog 158 #[x1,x878] h169 fun _x879 h170=>
 Qb prog 159 #[x1,x59] h170 fun _x882 h171=>
 Q6 x0 fun x885=>
 Qh x885 39 fun x886=>
 LdK h171 x886 fun x887=>
 Qb prog 160 #[x1,x887] h171 fun _x888 h172=>
 Qb prog 161 #[x1,x62] h172 fun _x891 h173=>
 QN (fun M80=>
 Q6 x0 fun x893=>
 Qh x893 41 fun x894=>
 LdK h173 x894 fun x895=>
 Qp prog .neq 157 x895 (.pointer none) fun x896=>
 IfK x896
 (Q6 x0 fun x899=>
 Qh x899 41 fun x900=>
 LdK h173 x900 fun x901=>
 Q6 x901 fun x902=>
 Qh x902 0 fun x903=>
 LdK h173 x903 fun x904=>
 Qb prog 162 #[x1,x904] h173 fun _x905 h174=>
 M80 [] h174)
 (M80 [] h173)) fun M80=>∀h175:Qf,M80 [] h175->
 Qb prog 163 #[x1,x655] h175 fun _x908 h176=>
 QN (fun M81=>
 Q6 x0 fun x910=>
 Qh x910 42 fun x911=>
 LdK h176 x911 fun x912=>
 Qp prog .neq 158 x912 (.pointer none) fun x913=>
 IfK x913
 (Q6 x0 fun x916=>
 Qh x916 42 fun x917=>
 LdK h176 x917 fun x918=>
 Q6 x918 fun x919=>
 Qh x919 0 fun x920=>
 LdK h176 x920 fun x921=>
 Qb prog 164 #[x1,x921] h176 fun _x922 h177=>
 M81 [] h177)
 (M81 [] h176)) fun M81=>∀h178:Qf,M81 [] h178->
 Qb prog 165 #[x1,x661] h178 fun _x925 h179=>
 Qb prog 166 #[x1,x67] h179 fun _x928 h180=>
 Q6 x0 fun x931=>
 Qh x931 44 fun x932=>
 LdK h180 x932 fun x933=>
 Qb prog 167 #[x1,x933] h180 fun _x934 h181=>
 Qb prog 168 #[x1] h181 fun x936 h182=>
 R x936 h182
def packHead (x0 x1:Value) (h:Qf) (R:Kn):Prop:=
 Qp prog .eql 73 x0 (.pointer none) fun x72=>
 IfK x72
 (R (.int .u32 0) h)
 (Q6 x0 fun x75=>
 Qh x75 3 fun x76=>
 LdK h x76 fun x77=>
 Qb prog 87 #[x1,x77] h fun x78 h1=>
 QN (fun M1=>
 Q6 x0 fun x80=>
 Qh x80 4 fun x81=>
 LdK h1 x81 fun x82=>
 Qp prog .neq 76 x82 (.slice none 0 0) fun x83=>
 IfK x83
 (Q6 x0 fun x86=>
 Qh x86 4 fun x87=>
 LdK h1 x87 fun x88=>
 Qb prog 88 #[x1,x88] h1 fun x89 h2=>
 M1 [x89] h2)
 (M1 [(.int .u32 0)] h1)) fun M1=>∀x6:Value,∀h3:Qf,M1 [x6] h3->
 Q6 x0 fun x91=>
 Qh x91 6 fun x92=>
 LdK h3 x92 fun x93=>
 Qb prog 89 #[x93,x1] h3 fun x95 h4=>
 QN (fun M2=>
 Q6 x0 fun x97=>
 Qh x97 7 fun x98=>
 LdK h4 x98 fun x99=>
 Qp prog .neq 143 x99 (.slice none 0 0) fun x100=>
 IfK x100
 (Q6 x0 fun x102=>
 Qh x102 7 fun x103=>
 LdK h4 x103 fun x104=>
 YX x104 fun x105=>
 Qb prog 90 #[x1,x105] h4 fun _x108 h5=>
 QN (fun M3=>
 Qp prog .sub 3 x105 (.int .i64 1) fun x110=>
 YO [x110] h5 fun I4 n5=>∀x10:Value,∀h6:Qf,I4 n5 [x10] h6->
 Qp prog .geq 3 x10 (.int .i64 0) fun x112=>
 IfK x112
 (Q6 x0 fun x116=>
 Qh x116 7 fun x117=>
 LdK h6 x117 fun x118=>
 YG 1 x118 x10 fun x120=>
 LdK h6 x120 fun x121=>
 Qb prog 91 #[x121,x1] h6 fun _x123 h7=>
 Qp prog .sub 3 x10 (.int .i64 1) fun x114=>
 Yf I4 n5 [x114] h7)
 (M3 [x10] h6)) fun M3=>∀x10_1:Value,∀h8:Qf,M3 [x10_1] h8->
 Qb prog 92 #[x1,x105] h8 fun x126 h9=>
 M2 [x126] h9)
 (M2 [(.int .u32 0)] h4)) fun M2=>∀x8:Value,∀h10:Qf,M2 [x8] h10->
 QN (fun M6=>
 Q6 x0 fun x128=>
 Qh x128 8 fun x129=>
 LdK h10 x129 fun x130=>
 Qp prog .neq 28 x130 (.slice none 0 0) fun x131=>
 IfK x131
 (Q6 x0 fun x133=>
 Qh x133 8 fun x134=>
 LdK h10 x134 fun x135=>
 YX x135 fun x136=>
 Qf0 h10 72 4 z72 x136 x136 fun x138 h11=>
 QN (fun M7=>
 YO [(.int .i64 0)] h11 fun I8 n9=>∀x14:Value,∀h12:Qf,I8 n9 [x14] h12->
 Qp prog .lss 3 x14 x136 fun x141=>
 IfK x141
 (Q6 x0 fun x148=>
 Qh x148 8 fun x149=>
 LdK h12 x149 fun x150=>
 YG 1 x150 x14 fun x152=>
 LdK h12 x152 fun x153=>
 Qb prog 87 #[x1,x153] h12 fun x154 h13=>
 YG 1 x138 x14 fun x155=>
 StK h13 1 x155 x154 fun h14=>
 Qp prog .add 3 x14 (.int .i64 1) fun x143=>
 Yf I8 n9 [x143] h14)
 (M7 [x14] h12)) fun M7=>∀x14_1:Value,∀h15:Qf,M7 [x14_1] h15->
 Qb prog 93 #[x1,x136] h15 fun _x158 h16=>
 QN (fun M10=>
 Qp prog .sub 3 x136 (.int .i64 1) fun x160=>
 YO [x160] h16 fun I11 n12=>∀x15:Value,∀h17:Qf,I11 n12 [x15] h17->
 Qp prog .geq 3 x15 (.int .i64 0) fun x162=>
 IfK x162
 (YG 1 x138 x15 fun x168=>
 LdK h17 x168 fun x169=>
 Qb prog 75 #[x1,x169] h17 fun _x170 h18=>
 Qp prog .sub 3 x15 (.int .i64 1) fun x164=>
 Yf I11 n12 [x164] h18)
 (M10 [x15] h17)) fun M10=>∀x15_1:Value,∀h19:Qf,M10 [x15_1] h19->
 Qb prog 92 #[x1,x136] h19 fun x173 h20=>
 M6 [x173] h20)
 (M6 [(.int .u32 0)] h10)) fun M6=>∀x11:Value,∀h21:Qf,M6 [x11] h21->
 QN (fun M13=>
 Q6 x0 fun x175=>
 Qh x175 9 fun x176=>
 LdK h21 x176 fun x177=>
 Qp prog .neq 152 x177 (.slice none 0 0) fun x178=>
 IfK x178
 (Q6 x0 fun x180=>
 Qh x180 9 fun x181=>
 LdK h21 x181 fun x182=>
 YX x182 fun x183=>
 Qf0 h21 72 4 z72 x183 x183 fun x185 h22=>
 QN (fun M14=>
 YO [(.int .i64 0)] h22 fun I15 n16=>∀x19:Value,∀h23:Qf,I15 n16 [x19] h23->
 Qp prog .lss 3 x19 x183 fun x188=>
 IfK x188
 (Q6 x0 fun x194=>
 Qh x194 9 fun x195=>
 LdK h23 x195 fun x196=>
 YG 1 x196 x19 fun x198=>
 LdK h23 x198 fun x199=>
 Qb prog 23 #[x199,x1] h23 fun x201 h24=>
 YG 1 x185 x19 fun x202=>
 StK h24 1 x202 x201 fun h25=>
 Qp prog .add 3 x19 (.int .i64 1) fun x190=>
 Yf I15 n16 [x190] h25)
 (M14 [x19] h23)) fun M14=>∀x19_1:Value,∀h26:Qf,M14 [x19_1] h26->
 Qb prog 94 #[x1,x183] h26 fun _x205 h27=>
 QN (fun M17=>
 Qp prog .sub 3 x183 (.int .i64 1) fun x207=>
 YO [x207] h27 fun I18 n19=>∀x20:Value,∀h28:Qf,I18 n19 [x20] h28->
 Qp prog .geq 3 x20 (.int .i64 0) fun x209=>
 IfK x209
 (YG 1 x185 x20 fun x215=>
 LdK h28 x215 fun x216=>
 Qb prog 75 #[x1,x216] h28 fun _x217 h29=>
 Qp prog .sub 3 x20 (.int .i64 1) fun x211=>
 Yf I18 n19 [x211] h29)
 (M17 [x20] h28)) fun M17=>∀x20_1:Value,∀h30:Qf,M17 [x20_1] h30->
 Qb prog 92 #[x1,x183] h30 fun x220 h31=>
 M13 [x220] h31)
 (M13 [(.int .u32 0)] h21)) fun M13=>∀x16:Value,∀h32:Qf,M13 [x16] h32->
 Q6 x0 fun x222=>
 Qh x222 10 fun x223=>
 LdK h32 x223 fun x224=>
 Qb prog 23 #[x224,x1] h32 fun x226 h33=>
 QN (fun M20=>
 Q6 x0 fun x228=>
 Qh x228 11 fun x229=>
 LdK h33 x229 fun x230=>
 Qp prog .neq 76 x230 (.slice none 0 0) fun x231=>
 IfK x231
 (Q6 x0 fun x234=>
 Qh x234 11 fun x235=>
 LdK h33 x235 fun x236=>
 Qb prog 88 #[x1,x236] h33 fun x237 h34=>
 M20 [x237] h34)
 (M20 [(.int .u32 0)] h33)) fun M20=>∀x22:Value,∀h35:Qf,M20 [x22] h35->
 Q6 x0 fun x239=>
 Qh x239 12 fun x240=>
 LdK h35 x240 fun x241=>
 Qb prog 95 #[x241,x1] h35 fun x243 h36=>
 QN (fun M21=>
 Q6 x0 fun x245=>
 Qh x245 22 fun x246=>
 LdK h36 x246 fun x247=>
 Qp prog .neq 32 x247 (.slice none 0 0) fun x248=>
 IfK x248
 (Q6 x0 fun x250=>
 Qh x250 22 fun x251=>
 LdK h36 x251 fun x252=>
 YX x252 fun x253=>
 Qb prog 96 #[x1,x253] h36 fun _x256 h37=>
 QN (fun M22=>
 Qp prog .sub 3 x253 (.int .i64 1) fun x258=>
 YO [x258] h37 fun I23 n24=>∀x26:Value,∀h38:Qf,I23 n24 [x26] h38->
 Qp prog .geq 3 x26 (.int .i64 0) fun x260=>
 IfK x260
 (Q6 x0 fun x265=>
 Qh x265 22 fun x266=>
 LdK h38 x266 fun x267=>
 YG 1 x267 x26 fun x269=>
 LdK h38 x269 fun x270=>
 Qb prog 97 #[x1,x270] h38 fun _x271 h39=>
 Qp prog .sub 3 x26 (.int .i64 1) fun x262=>
 Yf I23 n24 [x262] h39)
 (M22 [x26] h38)) fun M22=>∀x26_1:Value,∀h40:Qf,M22 [x26_1] h40->
 Qb prog 92 #[x1,x253] h40 fun x274 h41=>
 M21 [x274] h41)
 (M21 [(.int .u32 0)] h36)) fun M21=>∀x24:Value,∀h42:Qf,M21 [x24] h42->
 QN (fun M25=>
 Q6 x0 fun x276=>
 Qh x276 26 fun x277=>
 LdK h42 x277 fun x278=>
 Qp prog .neq 28 x278 (.slice none 0 0) fun x279=>
 IfK x279
 (Q6 x0 fun x281=>
 Qh x281 26 fun x282=>
 LdK h42 x282 fun x283=>
 YX x283 fun x284=>
 Qf0 h42 72 4 z72 x284 x284 fun x286 h43=>
 QN (fun M26=>
 YO [(.int .i64 0)] h43 fun I27 n28=>∀x30:Value,∀h44:Qf,I27 n28 [x30] h44->
 Qp prog .lss 3 x30 x284 fun x289=>
 IfK x289
 (Q6 x0 fun x296=>
 Qh x296 26 fun x297=>
 LdK h44 x297 fun x298=>
 YG 1 x298 x30 fun x300=>
 LdK h44 x300 fun x301=>
 Qb prog 87 #[x1,x301] h44 fun x302 h45=>
 YG 1 x286 x30 fun x303=>
 StK h45 1 x303 x302 fun h46=>
 Qp prog .add 3 x30 (.int .i64 1) fun x291=>
 Yf I27 n28 [x291] h46)
 (M26 [x30] h44)) fun M26=>∀x30_1:Value,∀h47:Qf,M26 [x30_1] h47->
 Qb prog 98 #[x1,x284] h47 fun _x306 h48=>
 QN (fun M29=>
 Qp prog .sub 3 x284 (.int .i64 1) fun x308=>
 YO [x308] h48 fun I30 n31=>∀x31:Value,∀h49:Qf,I30 n31 [x31] h49->
 Qp prog .geq 3 x31 (.int .i64 0) fun x310=>
 IfK x310
 (YG 1 x286 x31 fun x316=>
 LdK h49 x316 fun x317=>
 Qb prog 75 #[x1,x317] h49 fun _x318 h50=>
 Qp prog .sub 3 x31 (.int .i64 1) fun x312=>
 Yf I30 n31 [x312] h50)
 (M29 [x31] h49)) fun M29=>∀x31_1:Value,∀h51:Qf,M29 [x31_1] h51->
 Qb prog 92 #[x1,x284] h51 fun x321 h52=>
 M25 [x321] h52)
 (M25 [(.int .u32 0)] h42)) fun M25=>∀x27:Value,∀h53:Qf,M25 [x27] h53->
 QN (fun M32=>
 Q6 x0 fun x323=>
 Qh x323 27 fun x324=>
 LdK h53 x324 fun x325=>
 Qp prog .neq 154 x325 (.slice none 0 0) fun x326=>
 IfK x326
 (Q6 x0 fun x328=>
 Qh x328 27 fun x329=>
 LdK h53 x329 fun x330=>
 YX x330 fun x331=>
 Qb prog 99 #[x1,x331] h53 fun _x334 h54=>
 QN (fun M33=>
 Qp prog .sub 3 x331 (.int .i64 1) fun x336=>
 YO [x336] h54 fun I34 n35=>∀x34:Value,∀h55:Qf,I34 n35 [x34] h55->
 Qp prog .geq 3 x34 (.int .i64 0) fun x338=>
 IfK x338
 (Q6 x0 fun x342=>
 Qh x342 27 fun x343=>
 LdK h55 x343 fun x344=>
 YG 1 x344 x34 fun x346=>
 LdK h55 x346 fun x347=>
 Qb prog 100 #[x347,x1] h55 fun _x349 h56=>
 Qp prog .sub 3 x34 (.int .i64 1) fun x340=>
 Yf I34 n35 [x340] h56)
 (M33 [x34] h55)) fun M33=>∀x34_1:Value,∀h57:Qf,M33 [x34_1] h57->
 Qb prog 92 #[x1,x331] h57 fun x352 h58=>
 M32 [x352] h58)
 (M32 [(.int .u32 0)] h53)) fun M32=>∀x32:Value,∀h59:Qf,M32 [x32] h59->
 QN (fun M36=>
 Q6 x0 fun x354=>
 Qh x354 28 fun x355=>
 LdK h59 x355 fun x356=>
 Qp prog .neq 76 x356 (.slice none 0 0) fun x357=>
 IfK x357
 (Q6 x0 fun x360=>
 Qh x360 28 fun x361=>
 LdK h59 x361 fun x362=>
 Qb prog 88 #[x1,x362] h59 fun x363 h60=>
 M36 [x363] h60)
 (M36 [(.int .u32 0)] h59)) fun M36=>∀x35:Value,∀h61:Qf,M36 [x35] h61->
 QN (fun M37=>
 Q6 x0 fun x365=>
 Qh x365 29 fun x366=>
 LdK h61 x366 fun x367=>
 Qp prog .neq 143 x367 (.slice none 0 0) fun x368=>
 IfK x368
 (Q6 x0 fun x370=>
 Qh x370 29 fun x371=>
 LdK h61 x371 fun x372=>
 YX x372 fun x373=>
 Qb prog 101 #[x1,x373] h61 fun _x376 h62=>
 QN (fun M38=>
 Qp prog .sub 3 x373 (.int .i64 1) fun x378=>
 YO [x378] h62 fun I39 n40=>∀x38:Value,∀h63:Qf,I39 n40 [x38] h63->
 Qp prog .geq 3 x38 (.int .i64 0) fun x380=>
 IfK x380
 (Q6 x0 fun x384=>
 Qh x384 29 fun x385=>
 LdK h63 x385 fun x386=>
 YG 1 x386 x38 fun x388=>
 LdK h63 x388 fun x389=>
 Qb prog 91 #[x389,x1] h63 fun _x391 h64=>
 Qp prog .sub 3 x38 (.int .i64 1) fun x382=>
 Yf I39 n40 [x382] h64)
 (M38 [x38] h63)) fun M38=>∀x38_1:Value,∀h65:Qf,M38 [x38_1] h65->
 Qb prog 92 #[x1,x373] h65 fun x394 h66=>
 M37 [x394] h66)
 (M37 [(.int .u32 0)] h61)) fun M37=>∀x36:Value,∀h67:Qf,M37 [x36] h67->
 QN (fun M41=>
 Q6 x0 fun x396=>
 Qh x396 30 fun x397=>
 LdK h67 x397 fun x398=>
 Qp prog .neq 34 x398 (.slice none 0 0) fun x399=>
 IfK x399
 (Q6 x0 fun x401=>
 Qh x401 30 fun x402=>
 LdK h67 x402 fun x403=>
 YX x403 fun x404=>
 Qb prog 102 #[x1,x404] h67 fun _x407 h68=>
 QN (fun M42=>
 Qp prog .sub 3 x404 (.int .i64 1) fun x409=>
 YO [x409] h68 fun I43 n44=>∀x41:Value,∀h69:Qf,I43 n44 [x41] h69->
 Qp prog .geq 3 x41 (.int .i64 0) fun x411=>
 IfK x411
 (Q6 x0 fun x416=>
 Qh x416 30 fun x417=>
 LdK h69 x417 fun x418=>
 YG 1 x418 x41 fun x420=>
 LdK h69 x420 fun x421=>
 Qb prog 103 #[x1,x421] h69 fun _x422 h70=>
 Qp prog .sub 3 x41 (.int .i64 1) fun x413=>
 Yf I43 n44 [x413] h70)
 (M42 [x41] h69)) fun M42=>∀x41_1:Value,∀h71:Qf,M42 [x41_1] h71->
 Qb prog 92 #[x1,x404] h71 fun x425 h72=>
 M41 [x425] h72)
 (M41 [(.int .u32 0)] h67)) fun M41=>∀x39:Value,∀h73:Qf,M41 [x39] h73->
 QN (fun M45=>
 Q6 x0 fun x427=>
 Qh x427 31 fun x428=>
 LdK h73 x428 fun x429=>
 Qp prog .neq 155 x429 (.slice none 0 0) fun x430=>
 IfK x430
 (Q6 x0 fun x432=>
 Qh x432 31 fun x433=>
 LdK h73 x433 fun x434=>
 YX x434 fun x435=>
 Qb prog 104 #[x1,x435] h73 fun _x438 h74=>
 QN (fun M46=>
 Qp prog .sub 3 x435 (.int .i64 1) fun x440=>
 YO [x440] h74 fun I47 n48=>∀x44:Value,∀h75:Qf,I47 n48 [x44] h75->
 Qp prog .geq 3 x44 (.int .i64 0) fun x442=>
 IfK x442
 (Q6 x0 fun x447=>
 Qh x447 31 fun x448=>
 LdK h75 x448 fun x449=>
 YG 1 x449 x44 fun x451=>
 LdK h75 x451 fun x452=>
 Qb prog 105 #[x1,x452] h75 fun _x453 h76=>
 Qp prog .sub 3 x44 (.int .i64 1) fun x444=>
 Yf I47 n48 [x444] h76)
 (M46 [x44] h75)) fun M46=>∀x44_1:Value,∀h77:Qf,M46 [x44_1] h77->
 Qb prog 92 #[x1,x435] h77 fun x456 h78=>
 M45 [x456] h78)
 (M45 [(.int .u32 0)] h73)) fun M45=>∀x42:Value,∀h79:Qf,M45 [x42] h79->
 Q6 x0 fun x458=>
 Qh x458 32 fun x459=>
 LdK h79 x459 fun x460=>
 Qb prog 106 #[x460,x1] h79 fun x462 h80=>
 QN (fun M49=>
 Q6 x0 fun x464=>
 Qh x464 33 fun x465=>
 LdK h80 x465 fun x466=>
 Qp prog .neq 147 x466 (.slice none 0 0) fun x467=>
 IfK x467
 (Q6 x0 fun x469=>
 Qh x469 33 fun x470=>
 LdK h80 x470 fun x471=>
 YX x471 fun x472=>
 Qf0 h80 72 4 z72 x472 x472 fun x474 h81=>
 QN (fun M50=>
 YO [(.int .i64 0)] h81 fun I51 n52=>∀x49:Value,∀h82:Qf,I51 n52 [x49] h82->
 Qp prog .lss 3 x49 x472 fun x477=>
 IfK x477
 (Q6 x0 fun x483=>
 Qh x483 33 fun x484=>
 LdK h82 x484 fun x485=>
 YG 1 x485 x49 fun x487=>
 LdK h82 x487 fun x488=>
 Qb prog 107 #[x488,x1] h82 fun x490 h83=>
 YG 1 x474 x49 fun x491=>
 StK h83 1 x491 x490 fun h84=>
 Qp prog .add 3 x49 (.int .i64 1) fun x479=>
 Yf I51 n52 [x479] h84)
 (M50 [x49] h82)) fun M50=>∀x49_1:Value,∀h85:Qf,M50 [x49_1] h85->
 Qb prog 108 #[x1,x472] h85 fun _x494 h86=>
 QN (fun M53=>
 Qp prog .sub 3 x472 (.int .i64 1) fun x496=>
 YO [x496] h86 fun I54 n55=>∀x50:Value,∀h87:Qf,I54 n55 [x50] h87->
 Qp prog .geq 3 x50 (.int .i64 0) fun x498=>
 IfK x498
 (YG 1 x474 x50 fun x504=>
 LdK h87 x504 fun x505=>
 Qb prog 75 #[x1,x505] h87 fun _x506 h88=>
 Qp prog .sub 3 x50 (.int .i64 1) fun x500=>
 Yf I54 n55 [x500] h88)
 (M53 [x50] h87)) fun M53=>∀x50_1:Value,∀h89:Qf,M53 [x50_1] h89->
 Qb prog 92 #[x1,x472] h89 fun x509 h90=>
 M49 [x509] h90)
 (M49 [(.int .u32 0)] h80)) fun M49=>∀x46:Value,∀h91:Qf,M49 [x46] h91->
 QN (fun M56=>
 Q6 x0 fun x511=>
 Qh x511 35 fun x512=>
 LdK h91 x512 fun x513=>
 Qp prog .neq 35 x513 (.slice none 0 0) fun x514=>
 IfK x514
 (Q6 x0 fun x516=>
 Qh x516 35 fun x517=>
 LdK h91 x517 fun x518=>
 YX x518 fun x519=>
 Qb prog 109 #[x1,x519] h91 fun _x522 h92=>
 QN (fun M57=>
 Qp prog .sub 3 x519 (.int .i64 1) fun x524=>
 YO [x524] h92 fun I58 n59=>∀x53:Value,∀h93:Qf,I58 n59 [x53] h93->
 Qp prog .geq 3 x53 (.int .i64 0) fun x526=>
 IfK x526
 (Q6 x0 fun x531=>
 Qh x531 35 fun x532=>
 LdK h93 x532 fun x533=>
 YG 1 x533 x53 fun x535=>
 LdK h93 x535 fun x536=>
 Qb prog 110 #[x1,x536] h93 fun _x537 h94=>
 Qp prog .sub 3 x53 (.int .i64 1) fun x528=>
 Yf I58 n59 [x528] h94)
 (M57 [x53] h93)) fun M57=>∀x53_1:Value,∀h95:Qf,M57 [x53_1] h95->
 Qb prog 92 #[x1,x519] h95 fun x540 h96=>
 M56 [x540] h96)
 (M56 [(.int .u32 0)] h91)) fun M56=>∀x51:Value,∀h97:Qf,M56 [x51] h97->
 QN (fun M60=>
 Q6 x0 fun x542=>
 Qh x542 36 fun x543=>
 LdK h97 x543 fun x544=>
 Qp prog .neq 147 x544 (.slice none 0 0) fun x545=>
 IfK x545
 (Q6 x0 fun x547=>
 Qh x547 36 fun x548=>
 LdK h97 x548 fun x549=>
 YX x549 fun x550=>
 Qf0 h97 72 4 z72 x550 x550 fun x552 h98=>
 QN (fun M61=>
 YO [(.int .i64 0)] h98 fun I62 n63=>∀x57:Value,∀h99:Qf,I62 n63 [x57] h99->
 Qp prog .lss 3 x57 x550 fun x555=>
 IfK x555
 (Q6 x0 fun x561=>
 Qh x561 36 fun x562=>
 LdK h99 x562 fun x563=>
 YG 1 x563 x57 fun x565=>
 LdK h99 x565 fun x566=>
 Qb prog 107 #[x566,x1] h99 fun x568 h100=>
 YG 1 x552 x57 fun x569=>
 StK h100 1 x569 x568 fun h101=>
 Qp prog .add 3 x57 (.int .i64 1) fun x557=>
 Yf I62 n63 [x557] h101)
 (M61 [x57] h99)) fun M61=>∀x57_1:Value,∀h102:Qf,M61 [x57_1] h102->
 Qb prog 111 #[x1,x550] h102 fun _x572 h103=>
 QN (fun M64=>
 Qp prog .sub 3 x550 (.int .i64 1) fun x574=>
 YO [x574] h103 fun I65 n66=>∀x58:Value,∀h104:Qf,I65 n66 [x58] h104->
 Qp prog .geq 3 x58 (.int .i64 0) fun x576=>
 IfK x576
 (YG 1 x552 x58 fun x582=>
 LdK h104 x582 fun x583=>
 Qb prog 75 #[x1,x583] h104 fun _x584 h105=>
 Qp prog .sub 3 x58 (.int .i64 1) fun x578=>
 Yf I65 n66 [x578] h105)
 (M64 [x58] h104)) fun M64=>∀x58_1:Value,∀h106:Qf,M64 [x58_1] h106->
 Qb prog 92 #[x1,x550] h106 fun x587 h107=>
 M60 [x587] h107)
 (M60 [(.int .u32 0)] h97)) fun M60=>∀x54:Value,∀h108:Qf,M60 [x54] h108->
 QN (fun M67=>
 Q6 x0 fun x589=>
 Qh x589 38 fun x590=>
 LdK h108 x590 fun x591=>
 Qp prog .neq 35 x591 (.slice none 0 0) fun x592=>
 IfK x592
 (Q6 x0 fun x594=>
 Qh x594 38 fun x595=>
 LdK h108 x595 fun x596=>
 YX x596 fun x597=>
 Qb prog 112 #[x1,x597] h108 fun _x600 h109=>
 QN (fun M68=>
 Qp prog .sub 3 x597 (.int .i64 1) fun x602=>
 YO [x602] h109 fun I69 n70=>∀x61:Value,∀h110:Qf,I69 n70 [x61] h110->
 Qp prog .geq 3 x61 (.int .i64 0) fun x604=>
 IfK x604
 (Q6 x0 fun x609=>
 Qh x609 38 fun x610=>
 LdK h110 x610 fun x611=>
 YG 1 x611 x61 fun x613=>
 LdK h110 x613 fun x614=>
 Qb prog 110 #[x1,x614] h110 fun _x615 h111=>
 Qp prog .sub 3 x61 (.int .i64 1) fun x606=>
 Yf I69 n70 [x606] h111)
 (M68 [x61] h110)) fun M68=>∀x61_1:Value,∀h112:Qf,M68 [x61_1] h112->
 Qb prog 92 #[x1,x597] h112 fun x618 h113=>
 M67 [x618] h113)
 (M67 [(.int .u32 0)] h108)) fun M67=>∀x59:Value,∀h114:Qf,M67 [x59] h114->
 QN (fun M71=>
 Q6 x0 fun x620=>
 Qh x620 40 fun x621=>
 LdK h114 x621 fun x622=>
 Qp prog .neq 35 x622 (.slice none 0 0) fun x623=>
 IfK x623
 (Q6 x0 fun x625=>
 Qh x625 40 fun x626=>
 LdK h114 x626 fun x627=>
 YX x627 fun x628=>
 Qb prog 113 #[x1,x628] h114 fun _x631 h115=>
 QN (fun M72=>
 Qp prog .sub 3 x628 (.int .i64 1) fun x633=>
 YO [x633] h115 fun I73 n74=>∀x64:Value,∀h116:Qf,I73 n74 [x64] h116->
 Qp prog .geq 3 x64 (.int .i64 0) fun x635=>
 IfK x635
 (Q6 x0 fun x640=>
 Qh x640 40 fun x641=>
 LdK h116 x641 fun x642=>
 YG 1 x642 x64 fun x644=>
 LdK h116 x644 fun x645=>
 Qb prog 110 #[x1,x645] h116 fun _x646 h117=>
 Qp prog .sub 3 x64 (.int .i64 1) fun x637=>
 Yf I73 n74 [x637] h117)
 (M72 [x64] h116)) fun M72=>∀x64_1:Value,∀h118:Qf,M72 [x64_1] h118->
 Qb prog 92 #[x1,x628] h118 fun x649 h119=>
 M71 [x649] h119)
 (M71 [(.int .u32 0)] h114)) fun M71=>∀x62:Value,∀h120:Qf,M71 [x62] h120->
 Q6 x0 fun x651=>
 Qh x651 41 fun x652=>
 LdK h120 x652 fun x653=>
 Qb prog 114 #[x653,x1] h120 fun x655 h121=>
 Q6 x0 fun x657=>
 Qh x657 42 fun x658=>
 LdK h121 x658 fun x659=>
 Qb prog 115 #[x659,x1] h121 fun x661 h122=>
 QN (fun M75=>
 Q6 x0 fun x663=>
 Qh x663 43 fun x664=>
 LdK h122 x664 fun x665=>
 Qp prog .neq 159 x665 (.slice none 0 0) fun x666=>
 IfK x666
 (Q6 x0 fun x668=>
 Qh x668 43 fun x669=>
 LdK h122 x669 fun x670=>
 YX x670 fun x671=>
 Qb prog 116 #[x1,x671] h122 fun _x674 h123=>
 QN (fun M76=>
 Qp prog .sub 3 x671 (.int .i64 1) fun x676=>
 YO [x676] h123 fun I77 n78=>∀x69:Value,∀h124:Qf,I77 n78 [x69] h124->
 Qp prog .geq 3 x69 (.int .i64 0) fun x678=>
 IfK x678
 (Q6 x0 fun x683=>
 Qh x683 43 fun x684=>
 LdK h124 x684 fun x685=>
 YG 1 x685 x69 fun x687=>
 LdK h124 x687 fun x688=>
 Qb prog 117 #[x1,x688] h124 fun _x689 h125=>
 Qp prog .sub 3 x69 (.int .i64 1) fun x680=>
 Yf I77 n78 [x680] h125)
 (M76 [x69] h124)) fun M76=>∀x69_1:Value,∀h126:Qf,M76 [x69_1] h126->
 Qb prog 92 #[x1,x671] h126 fun x692 h127=>
 M75 [x692] h127)
 (M75 [(.int .u32 0)] h122)) fun M75=>∀x67:Value,∀h128:Qf,M75 [x67] h128->
 packTail x0 x1 x78 x6 x95 x8 x11 x16 x226 x22 x243 x24 x27 x32 x35 x36 x39 x42 x462 x46 x51 x54 x59 x62 x655 x661 x67 h128 R)
theorem packHead_eq (x0 x1:Value) (h:Qf) (R:Kn):s23 x0 x1 h R=packHead x0 x1 h R:=by kernel_rfl
section
variable {H:Qf} {p:Nat} {S:BS} {F:Cut} {r:Nat} (hB:Qd H p S F r) {R:Kn}
include hB
theorem pos_slot {S0:BS} {c:Nat} {v:Value} {o:Option Qaj} (hI:Y8 S0 49 c S) (ho:OptAt v o (Vec3At F v)) (hl:S.buf.length+200<=536870912)
  (hR:∀H',Qd H' p (slotPos o S) F 0->R (.tuple #[]) H'):FnS prog 119 #[v,.pointer (some ⟨p,0,none⟩)] H fun x h=>FnS prog 120 #[.pointer (some ⟨p,0,none⟩),x] h R:=by
 cases o with
 |none=>
  have hv:v= .pointer none:=ho
  subst hv
  apply w119
  unfold s119
  rw[Y4 (by kernel_rfl)]
  refine Qdg (off:=0) hB hI.nested (Or.inl rfl) (by rw[hI.vtl];decide) ?_
  exact hR
 |some d=>
  obtain ⟨w,h1,h2⟩:=ho
  refine Vec3T_Pack hB h1 h2 (by omega) ?_
  intro H1 g1
  have i1:=(hI.prep (k:=8) (a:=32) Qek).place (Qgf d)
  refine Qdg g1 i1.nested (Or.inr rfl) (by rw[i1.vtl];decide) ?_
  exact hR
theorem ty_slot {S0:BS} {c:Nat} {amb:Bool} {ty color:UInt8} {v cc:Value} {kids:List Mon} {o:Nat} {t:TypeId} {q i f:Nat} {cells:Array Value} {k:Qf->Prop} (hu:(prog).underlying t=some (.pointer ((prog).pointee t))) (hI:Y8 S0 49 c S) (obj:Qa1 F (.pointer (some ⟨q,0,none⟩)) cells) (hc:cells[i]?=some v) (hv:QcO F amb ty color v cc kids)
  (hf:∀H,Qd H p S F 0->∀R:Kn,(∀H',Qd H' p (slotN 1 ty.toNat 0 o S) F 0->R (.tuple #[]) H')->FnS prog f #[.pointer (some ⟨p,0,none⟩),u8n ty] H R)
  (hk:∀H',Qd H' p (slotTy ty o S) F 0->k H'):
  QN (fun M79=>Q6 (.pointer (some ⟨q,0,none⟩)) fun x729=>Qh x729 i fun x730=>LdK H x730 fun x731=>Qp prog .neq t x731 (.pointer none) fun x732=>
   IfK x732 (Q6 (.pointer (some ⟨q,0,none⟩)) fun x735=>Qh x735 i fun x736=>LdK H x736 fun x737=>Q6 x737 fun x738=>Qh x738 0 fun x739=>LdK H x739 fun x740=>Qb prog f #[.pointer (some ⟨p,0,none⟩),x740] H fun _x741 h137=>M79 [] h137)
   (M79 [] H)) fun M79=>∀h138:Qf,M79 [] h138->k h138:=by
 refine QB (fun _ h=>Qd h p (slotTy ty o S) F 0) ?_ (fun h hb=>hk h hb)
 refine obj.ld hB.cut (i:=i) v hc ?_
 rcases hv with ⟨rfl,rfl,_⟩|⟨h0,w,hv,_⟩
 ·rw[Yt hu]
  exact hB.room (Nat.zero_le _)
 ·obtain ⟨q2,e2,rfl,hq2⟩:=hv
  have hv:Qa1 F (.pointer (some ⟨q2,0,none⟩)) #[u8n ty,w]:=⟨q2,e2,rfl,hq2⟩
  rw[Yt hu]
  show IfK (.bool true) _ _
  rw[Zs]
  refine obj.ld hB.cut (i:=i) _ hc ?_
  refine hv.ld hB.cut (i:=0) (u8n ty) rfl ?_
  refine hf H (hB.room (Nat.zero_le _)) _ ?_
  intro H' h'
  have e1:slotTy ty o S=slotN 1 ty.toNat 0 o S:=by unfold slotTy;rw[if_neg h0]
  rw[e1]
  exact h'
end
set_option maxHeartbeats 4000000 in
theorem packTail_ok {H:Qf} {p:Nat} {S:BS} {F:Cut} {r:Nat} (hB:Qd H p S F r) {R:Kn} {q:Nat} {d:ZT} {c:MTV} {enemy test uniq amb:List Mon} (hI:Inv S) (obj:Qa1 F (.pointer (some ⟨q,0,none⟩)) (mtCells d c)) (own:MTD F d c enemy test uniq amb) (hl:S.buf.length+10000<=536870912)
  {o0 o1 o2 o3 o4 o5 o6 o7 o8 o9 o10 o11 o12 o13 o14 o15 o16 o17 o18 o19 o20 o21 o22 o23 o24:Nat} (p0:o0<=S.buf.length) (p1:o1<=S.buf.length) (p2:o2<=S.buf.length) (p3:o3<=S.buf.length) (p4:o4<=S.buf.length) (p5:o5<=S.buf.length) (p6:o6<=S.buf.length) (p7:o7<=S.buf.length) (p8:o8<=S.buf.length) (p9:o9<=S.buf.length) (p10:o10<=S.buf.length) (p11:o11<=S.buf.length) (p12:o12<=S.buf.length) (p13:o13<=S.buf.length) (p14:o14<=S.buf.length) (p15:o15<=S.buf.length) (p16:o16<=S.buf.length) (p17:o17<=S.buf.length) (p18:o18<=S.buf.length) (p19:o19<=S.buf.length) (p20:o20<=S.buf.length) (p21:o21<=S.buf.length) (p22:o22<=S.buf.length) (p23:o23<=S.buf.length) (p24:o24<=S.buf.length)
  (hR:∀H',Qd H' p (endT (QfT (Qa7 d [o0,o1,o2,o3,o4,o5,o6,o7,o8,o9,o10,o11,o12,o13,o14,o15,o16,o17,o18,o19,o20,o21,o22,o23,o24]) (YJ 49 S))).1 F 0->R (.int .u32 ((endT (QfT (Qa7 d [o0,o1,o2,o3,o4,o5,o6,o7,o8,o9,o10,o11,o12,o13,o14,o15,o16,o17,o18,o19,o20,o21,o22,o23,o24]) (YJ 49 S))).2:Nat)) H'):
  packTail (.pointer (some ⟨q,0,none⟩)) (.pointer (some ⟨p,0,none⟩)) (.int .u32 (o0:Nat)) (.int .u32 (o1:Nat)) (.int .u32 (o2:Nat)) (.int .u32 (o3:Nat)) (.int .u32 (o4:Nat)) (.int .u32 (o5:Nat)) (.int .u32 (o6:Nat)) (.int .u32 (o7:Nat)) (.int .u32 (o8:Nat)) (.int .u32 (o9:Nat)) (.int .u32 (o10:Nat)) (.int .u32 (o11:Nat)) (.int .u32 (o12:Nat)) (.int .u32 (o13:Nat)) (.int .u32 (o14:Nat)) (.int .u32 (o15:Nat)) (.int .u32 (o16:Nat)) (.int .u32 (o17:Nat)) (.int .u32 (o18:Nat)) (.int .u32 (o19:Nat)) (.int .u32 (o20:Nat)) (.int .u32 (o21:Nat)) (.int .u32 (o22:Nat)) (.int .u32 (o23:Nat)) (.int .u32 (o24:Nat)) H R:=by
 unfold packTail
 refine QgM hB hI.nested ?_
 intro H0 g0
 have i0:=Y8.start (n:=49) hI.min
 refine obj.ld g0.cut (i:=0) c.pos rfl ?_
 refine pos_slot g0 i0 own.pos (by have:=i0.len;omega) ?_
 intro H1 g1
 have i1:=i0.slotPos d.pos
 refine obj.ld g1.cut (i:=1) (Qce d.mana) rfl ?_
 refine QfL (x:=d.mana.toNat) g1 d.mana.toNat_lt (by rw[i1.vtl];decide) (by have:=i1.len;omega) ?_
 intro H2 g2
 have i2:=i1.slotN (k:=2) (x:=d.mana.toNat) (d:=150) (o:=1) P2_2
 refine obj.ld g2.cut (i:=2) (Qce d.hp) rfl ?_
 refine QgN (x:=d.hp.toNat) g2 d.hp.toNat_lt (by rw[i2.vtl];decide) (by have:=i2.len;omega) ?_
 intro H3 g3
 have i3:=i2.slotN (k:=2) (x:=d.hp.toNat) (d:=100) (o:=2) P2_2
 refine QfH (off:=o0) g3 (by have:=i3.le;omega) (by rw[i3.vtl];decide) (by have:=i3.len;omega) ?_
 intro H4 g4
 have i4:=i3.slotOff (off:=o0) (o:=3)
 refine Qe1 (off:=o1) g4 (by have:=i4.le;omega) (by rw[i4.vtl];decide) (by have:=i4.len;omega) ?_
 intro H5 g5
 have i5:=i4.slotOff (off:=o1) (o:=5)
 refine obj.ld g5.cut (i:=5) (u8n d.color) rfl ?_
 refine Qfu (x:=d.color.toNat) g5 d.color.toNat_lt (by rw[i5.vtl];decide) (by have:=i5.len;omega) ?_
 intro H6 g6
 have i6:=i5.slotN (k:=1) (x:=d.color.toNat) (d:=8) (o:=6) P2_1
 refine ty_slot g6 (ty:=d.testTy) (o:=7) (by kernel_rfl) i6 obj (i:=6) rfl own.test (fun H hb R hR=>Qec hb d.testTy.toNat_lt (by rw[i6.vtl];decide) (by have:=i6.len;omega) hR) ?_
 intro H7 g7
 have i7:=i6.slotTy (ty:=d.testTy) (o:=7)
 refine QfM (off:=o2) g7 (by have:=i7.le;omega) (by rw[i7.vtl];decide) (by have:=i7.len;omega) ?_
 intro H8 g8
 have i8:=i7.slotOff (off:=o2) (o:=8)
 refine Qfd (off:=o3) g8 (by have:=i8.le;omega) (by rw[i8.vtl];decide) (by have:=i8.len;omega) ?_
 intro H9 g9
 have i9:=i8.slotOff (off:=o3) (o:=9)
 refine QbQ (off:=o4) g9 (by have:=i9.le;omega) (by rw[i9.vtl];decide) (by have:=i9.len;omega) ?_
 intro H10 g10
 have i10:=i9.slotOff (off:=o4) (o:=10)
 refine QbT (off:=o5) g10 (by have:=i10.le;omega) (by rw[i10.vtl];decide) (by have:=i10.len;omega) ?_
 intro H11 g11
 have i11:=i10.slotOff (off:=o5) (o:=11)
 refine Qf6 (off:=o6) g11 (by have:=i11.le;omega) (by rw[i11.vtl];decide) (by have:=i11.len;omega) ?_
 intro H12 g12
 have i12:=i11.slotOff (off:=o6) (o:=12)
 refine Qbg (off:=o7) g12 (by have:=i12.le;omega) (by rw[i12.vtl];decide) (by have:=i12.len;omega) ?_
 intro H13 g13
 have i13:=i12.slotOff (off:=o7) (o:=13)
 refine Qe3 (off:=o8) g13 (by have:=i13.le;omega) (by rw[i13.vtl];decide) (by have:=i13.len;omega) ?_
 intro H14 g14
 have i14:=i13.slotOff (off:=o8) (o:=14)
 refine obj.ld g14.cut (i:=13) (.bool d.bool) rfl ?_
 refine Qea g14 (by rw[i14.vtl];decide) (by have:=i14.len;omega) ?_
 intro H15 g15
 have i15:=i14.slotN (k:=1) (x:=if d.bool then 1 else 0) (d:=0) (o:=15) P2_1
 refine obj.ld g15.cut (i:=14) (Qgn d.s32) rfl ?_
 refine Qcp (x:=d.s32.toNat) g15 d.s32.toNat_lt (by rw[i15.vtl];decide) (by have:=i15.len;omega) ?_
 intro H16 g16
 have i16:=i15.slotN (k:=4) (x:=d.s32.toNat) (d:=0) (o:=16) Qhu
 refine obj.ld g16.cut (i:=15) (Z4 d.u32) rfl ?_
 refine QcG (x:=d.u32.toNat) g16 d.u32.toNat_lt (by rw[i16.vtl];decide) (by have:=i16.len;omega) ?_
 intro H17 g17
 have i17:=i16.slotN (k:=4) (x:=d.u32.toNat) (d:=0) (o:=17) Qhu
 refine obj.ld g17.cut (i:=16) (QdW d.s64) rfl ?_
 refine Qcw (x:=d.s64.toNat) g17 d.s64.toNat_lt (by rw[i17.vtl];decide) (by have:=i17.len;omega) ?_
 intro H18 g18
 have i18:=i17.slotN (k:=8) (x:=d.s64.toNat) (d:=0) (o:=18) Qek
 refine obj.ld g18.cut (i:=17) (Zc d.u64) rfl ?_
 refine Qcu (x:=d.u64.toNat) g18 d.u64.toNat_lt (by rw[i18.vtl];decide) (by have:=i18.len;omega) ?_
 intro H19 g19
 have i19:=i18.slotN (k:=8) (x:=d.u64.toNat) (d:=0) (o:=19) Qek
 refine obj.ld g19.cut (i:=18) (Qgn d.s32a) rfl ?_
 refine Qc7 (x:=d.s32a.toNat) g19 d.s32a.toNat_lt (by rw[i19.vtl];decide) (by have:=i19.len;omega) ?_
 intro H20 g20
 have i20:=i19.slotN (k:=4) (x:=d.s32a.toNat) (d:=0) (o:=20) Qhu
 refine obj.ld g20.cut (i:=19) (Z4 d.u32a) rfl ?_
 refine Qc8 (x:=d.u32a.toNat) g20 d.u32a.toNat_lt (by rw[i20.vtl];decide) (by have:=i20.len;omega) ?_
 intro H21 g21
 have i21:=i20.slotN (k:=4) (x:=d.u32a.toNat) (d:=0) (o:=21) Qhu
 refine obj.ld g21.cut (i:=20) (QdW d.s64a) rfl ?_
 refine Qc6 (x:=d.s64a.toNat) g21 d.s64a.toNat_lt (by rw[i21.vtl];decide) (by have:=i21.len;omega) ?_
 intro H22 g22
 have i22:=i21.slotN (k:=8) (x:=d.s64a.toNat) (d:=0) (o:=22) Qek
 refine obj.ld g22.cut (i:=21) (Zc d.u64a) rfl ?_
 refine Qca (x:=d.u64a.toNat) g22 d.u64a.toNat_lt (by rw[i22.vtl];decide) (by have:=i22.len;omega) ?_
 intro H23 g23
 have i23:=i22.slotN (k:=8) (x:=d.u64a.toNat) (d:=0) (o:=23) Qek
 refine Qc9 (off:=o9) g23 (by have:=i23.le;omega) (by rw[i23.vtl];decide) (by have:=i23.len;omega) ?_
 intro H24 g24
 have i24:=i23.slotOff (off:=o9) (o:=24)
 refine obj.ld g24.cut (i:=23) (QfS d.f) rfl ?_
 refine Qf4 g24 (by rw[i24.vtl];decide) (by have:=i24.len;omega) ?_
 intro H25 g25
 have i25:=i24.slotF (x:=d.f.toNat) (d:=1078530000) (o:=25)
 refine obj.ld g25.cut (i:=24) (QfS d.f2) rfl ?_
 refine QeJ g25 (by rw[i25.vtl];decide) (by have:=i25.len;omega) ?_
 intro H26 g26
 have i26:=i25.slotF (x:=d.f2.toNat) (d:=1077936128) (o:=26)
 refine obj.ld g26.cut (i:=25) (QfS d.f3) rfl ?_
 refine QeZ g26 (by rw[i26.vtl];decide) (by have:=i26.len;omega) ?_
 intro H27 g27
 have i27:=i26.slotF (x:=d.f3.toNat) (d:=0) (o:=27)
 refine QbA (off:=o10) g27 (by have:=i27.le;omega) (by rw[i27.vtl];decide) (by have:=i27.len;omega) ?_
 intro H28 g28
 have i28:=i27.slotOff (off:=o10) (o:=28)
 refine QaL (off:=o11) g28 (by have:=i28.le;omega) (by rw[i28.vtl];decide) (by have:=i28.len;omega) ?_
 intro H29 g29
 have i29:=i28.slotOff (off:=o11) (o:=29)
 refine QfO (off:=o12) g29 (by have:=i29.le;omega) (by rw[i29.vtl];decide) (by have:=i29.len;omega) ?_
 intro H30 g30
 have i30:=i29.slotOff (off:=o12) (o:=30)
 refine Qfo (off:=o13) g30 (by have:=i30.le;omega) (by rw[i30.vtl];decide) (by have:=i30.len;omega) ?_
 intro H31 g31
 have i31:=i30.slotOff (off:=o13) (o:=31)
 refine Qd1 (off:=o14) g31 (by have:=i31.le;omega) (by rw[i31.vtl];decide) (by have:=i31.len;omega) ?_
 intro H32 g32
 have i32:=i31.slotOff (off:=o14) (o:=32)
 refine Qcf (off:=o15) g32 (by have:=i32.le;omega) (by rw[i32.vtl];decide) (by have:=i32.len;omega) ?_
 intro H33 g33
 have i33:=i32.slotOff (off:=o15) (o:=33)
 refine Qbv (off:=o16) g33 (by have:=i33.le;omega) (by rw[i33.vtl];decide) (by have:=i33.len;omega) ?_
 intro H34 g34
 have i34:=i33.slotOff (off:=o16) (o:=34)
 refine Qbs (off:=o17) g34 (by have:=i34.le;omega) (by rw[i34.vtl];decide) (by have:=i34.len;omega) ?_
 intro H35 g35
 have i35:=i34.slotOff (off:=o17) (o:=35)
 refine obj.ld g35.cut (i:=34) (Zc d.singleWeak) rfl ?_
 refine Qbt (x:=d.singleWeak.toNat) g35 d.singleWeak.toNat_lt (by rw[i35.vtl];decide) (by have:=i35.len;omega) ?_
 intro H36 g36
 have i36:=i35.slotN (k:=8) (x:=d.singleWeak.toNat) (d:=0) (o:=36) Qek
 refine QaU (off:=o18) g36 (by have:=i36.le;omega) (by rw[i36.vtl];decide) (by have:=i36.len;omega) ?_
 intro H37 g37
 have i37:=i36.slotOff (off:=o18) (o:=37)
 refine Qay (off:=o19) g37 (by have:=i37.le;omega) (by rw[i37.vtl];decide) (by have:=i37.len;omega) ?_
 intro H38 g38
 have i38:=i37.slotOff (off:=o19) (o:=38)
 refine obj.ld g38.cut (i:=37) (Zc d.coOwning) rfl ?_
 refine QbU (x:=d.coOwning.toNat) g38 d.coOwning.toNat_lt (by rw[i38.vtl];decide) (by have:=i38.len;omega) ?_
 intro H39 g39
 have i39:=i38.slotN (k:=8) (x:=d.coOwning.toNat) (d:=0) (o:=39) Qek
 refine Qam (off:=o20) g39 (by have:=i39.le;omega) (by rw[i39.vtl];decide) (by have:=i39.len;omega) ?_
 intro H40 g40
 have i40:=i39.slotOff (off:=o20) (o:=40)
 refine obj.ld g40.cut (i:=39) (Zc d.nonOwning) rfl ?_
 refine QbK (x:=d.nonOwning.toNat) g40 d.nonOwning.toNat_lt (by rw[i40.vtl];decide) (by have:=i40.len;omega) ?_
 intro H41 g41
 have i41:=i40.slotN (k:=8) (x:=d.nonOwning.toNat) (d:=0) (o:=41) Qek
 refine Qak (off:=o21) g41 (by have:=i41.le;omega) (by rw[i41.vtl];decide) (by have:=i41.len;omega) ?_
 intro H42 g42
 have i42:=i41.slotOff (off:=o21) (o:=42)
 refine ty_slot g42 (ty:=d.uniqTy) (o:=43) (by kernel_rfl) i42 obj (i:=41) rfl own.uniq (fun H hb R hR=>QcU hb d.uniqTy.toNat_lt (by rw[i42.vtl];decide) (by have:=i42.len;omega) hR) ?_
 intro H43 g43
 have i43:=i42.slotTy (ty:=d.uniqTy) (o:=43)
 refine QdY (off:=o22) g43 (by have:=i43.le;omega) (by rw[i43.vtl];decide) (by have:=i43.len;omega) ?_
 intro H44 g44
 have i44:=i43.slotOff (off:=o22) (o:=44)
 refine ty_slot g44 (ty:=d.ambTy) (o:=45) (by kernel_rfl) i44 obj (i:=42) rfl own.amb (fun H hb R hR=>Qcc hb d.ambTy.toNat_lt (by rw[i44.vtl];decide) (by have:=i44.len;omega) hR) ?_
 intro H45 g45
 have i45:=i44.slotTy (ty:=d.ambTy) (o:=45)
 refine Qdi (off:=o23) g45 (by have:=i45.le;omega) (by rw[i45.vtl];decide) (by have:=i45.len;omega) ?_
 intro H46 g46
 have i46:=i45.slotOff (off:=o23) (o:=46)
 refine QcR (off:=o24) g46 (by have:=i46.le;omega) (by rw[i46.vtl];decide) (by have:=i46.len;omega) ?_
 intro H47 g47
 have i47:=i46.slotOff (off:=o24) (o:=47)
 refine obj.ld g47.cut (i:=44) (i8V d.signedEnum) rfl ?_
 refine Qdy (x:=d.signedEnum.toNat) g47 d.signedEnum.toNat_lt (by rw[i47.vtl];decide) (by have:=i47.len;omega) ?_
 intro H48 g48
 have i48:=i47.slotN (k:=1) (x:=d.signedEnum.toNat) (d:=255) (o:=48) P2_1
 refine QhR g48 i48 (by decide) hI.vts (by omega) hI.nv ?_
 intro H' h'
 exact hR H' h'
end Go.Proofs
