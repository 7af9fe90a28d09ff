/- WHAT IS PROVED: the given statement of FnMonsterFormat, whatever the input: this is part 7 of 14. No conditions. -/
import Derived.Test.YthcjblkplcepaaaGreatX06
set_option linter.all false
namespace Go.Proofs
open Go Go.Vc
open Tryz (prog)
theorem wrEnt_minle (oo:Nat):∀(vs:List Nat) (S:BS),S.min<=(ZI oo vs S).min
 |[],S=>Nat.le_refl _
 |v::vs,S=>Nat.le_trans (wrEnt_minle oo vs S) (Nat.le_max_left _ _)
theorem endObj_min (S:BS):S.min<=(endObj S).min/\4<=(endObj S).min:=by
 have h:S.min<=(putOff 0 S).min/\4<=(putOff 0 S).min:=⟨Nat.le_max_left _ _,Nat.le_max_right _ _⟩
 rw[Qgk S _ _ _ _ rfl rfl rfl rfl]
 generalize putOff 0 S=S1 at *
 generalize S1.vt.take (Zt S1.vt)=vt
 split
 ·have h2:S1.min<=(putN 2 (leB ((2*(vt.length+2):Nat):Int) 2) (putN 2 (leB ((S1.buf.length-S.oe:Nat):Int) 2) (ZI S1.buf.length vt {S1 with vt:=vt}))).min:=by
   refine Nat.le_trans ?_ (Nat.le_max_left _ _)
   refine Nat.le_trans ?_ (Nat.le_max_left _ _)
   exact wrEnt_minle S1.buf.length vt {S1 with vt:=vt}
  exact ⟨Nat.le_trans h.1 h2,Nat.le_trans h.2 h2⟩
 ·exact h
structure Qjm (A:Nat) (bs:List UInt8) (pos vt n:Nat):Prop where
 ok:VT bs pos vt
 w4:4<=le2 bs (vt+2)/\pos+le2 bs (vt+2)<=bs.length
 wl:∀j,j<n->slotAt bs vt (4+2*j)<le2 bs (vt+2)
 p4:∀j,j<n->slotAt bs vt (4+2*j)≠0->4<=slotAt bs vt (4+2*j)
 al:(bs.length-pos)%4=0/\(bs.length-vt)%2=0/\4<=A
theorem VT.shift {bs x:List UInt8} {pos vt:Nat} (h:VT bs pos vt):VT (x++bs) (x.length+pos) (x.length+vt):=by
 refine ⟨by rw[List.length_append];have:=h.hp;omega,?_,?_,?_,?_⟩
 ·rw[QaE];have:=h.hs;omega
 ·rw[YT,List.length_append];have:=h.he;omega
 ·rw[YT];exact h.h4
 ·rw[YT];exact h.ev
theorem Qeu {bs x:List UInt8} {vt vo:Nat}:slotAt (x++bs) (x.length+vt) vo=slotAt bs vt vo:=by
 unfold slotAt
 rw[YT,show x.length+vt+vo=x.length+(vt+vo) by omega,YT]
theorem Qjm.shift {A A':Nat} {bs x:List UInt8} {pos vt n:Nat} (hA:A<=A') (h:Qjm A bs pos vt n):Qjm A' (x++bs) (x.length+pos) (x.length+vt) n:=by
 obtain ⟨h1,h2,h3,h5,h4⟩:=h
 refine ⟨h1.shift,?_,?_,fun j hj=>by rw[Qeu];exact h5 j hj,?_⟩
 ·rw[show x.length+vt+2=x.length+(vt+2) by omega,YT,List.length_append];omega
 ·intro j hj
  rw[Qeu,show x.length+vt+2=x.length+(vt+2) by omega,YT];exact h3 j hj
 ·rw[List.length_append,show x.length+bs.length-(x.length+pos)=bs.length-pos by omega,show x.length+bs.length-(x.length+vt)=bs.length-vt by omega]
  omega
def QF (A:Nat) (bs:List UInt8) (pos vt vo:Nat) (ab:Prop) (Q:PP):Prop:=
 (slotAt bs vt vo=0/\ab)\/(slotAt bs vt vo≠0/\¬ab/\Q A bs (pos+slotAt bs vt vo))
theorem QF.shift {A A':Nat} {bs x:List UInt8} {pos vt vo:Nat} {ab:Prop} {Q:PP} (hQ:QS Q) (hA:A<=A') (h:QF A bs pos vt vo ab Q):QF A' (x++bs) (x.length+pos) (x.length+vt) vo ab Q:=by
 unfold QF at h⊢
 rw[Qeu]
 rcases h with h|⟨h1,h2,h3⟩
 ·exact Or.inl h
 ·exact Or.inr ⟨h1,h2,by rw[Nat.add_assoc];exact hQ A A' bs x _ hA h3⟩
def ZC (P:PP):PP:=fun A bs f=>f+4<=bs.length/\Alg A 4 bs f/\(f<tgt bs f/\tgt bs f<=bs.length)/\P A bs (tgt bs f)
theorem ZC.stable {P:PP} (hP:QS P):QS (ZC P):=fun A A' bs x p hA h=>⟨by rw[List.length_append];have:=h.1;omega,Alg.stable A A' bs x p hA h.2.1,by rw[Qih,List.length_append];have:=h.2.2.1;omega,by
 rw[Qih];exact hP A A' bs x _ hA h.2.2.2⟩
theorem ZC.mono {P Q:PP} {A:Nat} {bs:List UInt8} {f:Nat} (h:ZC P A bs f) (hPQ:P A bs (tgt bs f)->Q A bs (tgt bs f)):ZC Q A bs f:=⟨h.1,h.2.1,h.2.2.1,hPQ h.2.2.2⟩
structure MSpec where
 ab:Prop
 p:PP
def OF (S:BS) (o:Nat) (s:MSpec):Prop:=(o=0/\s.ab)\/(o≠0/\¬s.ab/\o<=S.buf.length/\s.p S.min S.buf (S.buf.length-o))
theorem OF.mono {S S':BS} {o:Nat} {s:MSpec} (hs:QS s.p) (h:OF S o s) {x:List UInt8} (hb:S'.buf=x++S.buf) (hm:S.min<=S'.min):OF S' o s:=by
 rcases h with h|⟨h1,h2,h3,h4⟩
 ·exact Or.inl h
 ·refine Or.inr ⟨h1,h2,by rw[hb,List.length_append];omega,?_⟩
  rw[hb,show (x++S.buf).length-o=x.length+(S.buf.length-o) by rw[List.length_append];omega]
  exact hs S.min S'.min S.buf x _ hm h4
theorem QF.ref {A:Nat} {bs:List UInt8} {pos vt vo off:Nat} (h:QF A bs pos vt vo (off=0) (QgB off)) {S:BS} {s:MSpec} (hs:QS s.p) (ho:OF S off s) {y:List UInt8} (hb:bs=y++S.buf) (hm:S.min<=A):QF A bs pos vt vo s.ab (ZC s.p):=by
 rcases h with ⟨h1,h2⟩|⟨h1,h2,h3⟩
 ·rcases ho with ⟨_,h⟩|⟨h,_⟩
  ·exact Or.inl ⟨h1,h⟩
  ·exact absurd h2 h
 ·rcases ho with ⟨h,_⟩|⟨_,g2,g3,g4⟩
  ·exact absurd h h2
  ·obtain ⟨q1,q2,q3,q4⟩:=h3
   refine Or.inr ⟨h1,g2,q1,q2,by rw[q4];omega,?_⟩
   rw[q4,hb,show (y++S.buf).length-off=y.length+(S.buf.length-off) by rw[List.length_append];omega]
   exact hs S.min A S.buf y _ hm g4
def SlotFs (A:Nat) (bs:List UInt8) (pos vt:Nat):List Spec->Prop
 |[]=>True
 |s::ss=>QF A bs pos vt (4+2*s.o) s.ab s.q/\SlotFs A bs pos vt ss
theorem Facts.mem {L0:Nat} {S:BS}:∀{ss:List Spec},Facts L0 S ss->∀s∈ss,Fact L0 S s
 |[],_,_,hs=>by simp at hs
 |s::ss,h,s',hs=>by
  rcases List.mem_cons.1 hs with rfl|hs
  ·exact h.1
  ·exact Facts.mem h.2 s' hs
theorem OpsOk.stable {L0:Nat}:∀{fs:List (BS->BS)} {ss:List Spec},OpsOk L0 fs ss->∀s∈ss,QS s.q
 |[],[],_,_,hs=>by simp at hs
 |[],_::_,h,_,_=>h.elim
 |_::_,[],h,_,_=>h.elim
 |f::fs,s::ss,h,s',hs=>by
  rcases List.mem_cons.1 hs with rfl|hs
  ·exact h.1.st
  ·exact OpsOk.stable h.2 s' hs
structure Tabled (S:BS) (q:BS×Nat) (n:Nat) (ss:List Spec):Prop where
 inv2:Qbx q.1
 ext:∃x,q.1.buf=x++S.buf
 min:S.min<=q.1.min
 pos:q.2≠0
 le:q.2<=q.1.buf.length
 tab:∃vt,Qjm q.1.min q.1.buf (q.1.buf.length-q.2) vt n/\(∀j,j<n->(∀s∈ss,j≠s.o)->slotAt q.1.buf vt (4+2*j)=0)/\SlotFs q.1.min q.1.buf (q.1.buf.length-q.2) vt ss
theorem endT_read {S:BS} {fs:List (BS->BS)} {ss:List Spec} {n:Nat} (hI:Inv S) (h2:Qbx S) (hok:OpsOk S.buf.length fs ss) (hnd:(ss.map Spec.o).Nodup) (ho:∀s∈ss,s.o<n) (hn:n<600)
  (hin:∀f∈fs,∀c S',YA S n c S'->YA S n (c+64) (f S')) (hfl:fs.length<600) (hl:S.buf.length<600000000):
  ∃T,T=runS fs (Zc n S)/\(∀j,(∀s∈ss,j≠s.o)->T.vt.getD j 0=0)/\(∃x,T.buf=x++S.buf)/\S.min<=T.min/\Facts S.buf.length T ss/\Qbx (endObj T)/\(∃y,(endObj T).buf=y++T.buf)/\(putOff 0 T).buf.length<=(endObj T).buf.length/\T.buf.length+4<=(putOff 0 T).buf.length/\
   ∃vt,ObjRd (endObj T).buf ((endObj T).buf.length-(putOff 0 T).buf.length) vt (fun j=>T.vt.getD j 0) n:=by
 have h0:=YA.start (n:=n) hI.min
 have hr:=runS_ok fs hin 0 _ h0
 have hz:∀j,(Zc n S).vt.getD j 0=0:=fun j=>by
  simp only[Zc,List.getD,List.getElem?_replicate]
  split<;>simp
 obtain ⟨⟨x,hx⟩,hmin,hvl,hoth,hf⟩:=runS_spec fs ss hok hnd (Zc n S) (Nat.le_refl _) (by show S.buf.length+_<_;omega) (fun s hs=>⟨by rw[h0.vtl];exact ho s hs,hz _⟩)
 refine ⟨_,rfl,?_⟩
 generalize runS fs (Zc n S)=T at *
 have hlen:=hr.len
 have hg:∀j,T.vt.getD j 0=0\/S.buf.length<T.vt.getD j 0:=fun j=>by
  by_cases hj:∀s∈ss,j≠s.o
  ·exact Or.inl (by rw[hoth j hj];exact hz j)
  ·have:∃s∈ss,j=s.o:=by
    refine Classical.byContradiction fun hc=>hj fun s hs he=>hc ⟨s,hs,he⟩
   obtain ⟨s,hs,rfl⟩:=this
   rcases hf.mem s hs with h|h
   ·exact Or.inl h.1
   ·exact Or.inr h.2.2.1
 exact ⟨fun j hj=>by rw[hoth j hj];exact hz j,⟨x,hx⟩,hmin,hf,endObj_read hr hg hI h2 (by omega) (by omega) (by omega)⟩
theorem QdY {S:BS} {fs:List (BS->BS)} {ss:List Spec} {n:Nat} (hI:Inv S) (h2:Qbx S) (hok:OpsOk S.buf.length fs ss) (hnd:(ss.map Spec.o).Nodup) (ho:∀s∈ss,s.o<n) (hn:n<600)
  (hin:∀f∈fs,∀c S',YA S n c S'->YA S n (c+64) (f S')) (hfl:fs.length<600) (hl:S.buf.length<600000000):Tabled S (endT (runS fs (Zc n S))) n ss:=by
 obtain ⟨T,hT,hnone,⟨x,hx⟩,hmin,hf,e1,⟨y,hy⟩,e2,e3,vt,e4⟩:=endT_read hI h2 hok hnd ho hn hin hfl hl
 rw[<-hT]
 clear hT
 have em:=endObj_min T
 have hpos:(endObj T).buf.length-((endObj T).buf.length-(putOff 0 T).buf.length)=(putOff 0 T).buf.length:=by omega
 refine ⟨e1,⟨y++x,by show (endObj T).buf=_;rw[hy,hx];exact (List.append_assoc _ _ _).symm⟩,Nat.le_trans hmin em.1,by show (putOff 0 T).buf.length≠0;omega,e2,vt,⟨e4.ok,e4.w4,e4.wl,fun j hj h=>by
  have hsl:=e4.sl j hj
  have hpl:=e4.pl j hj
  rw[hpos]at hsl hpl
  by_cases hz:T.vt.getD j 0=0
  ·rw[if_pos hz]at hsl;exact absurd hsl h
  ·rw[if_neg hz]at hsl;have h9:T.vt.getD j 0+4<=(putOff 0 T).buf.length:=hpl hz;show 4<=slotAt (endObj T).buf vt (4+2*j);rw[hsl];show 4<=(putOff 0 T).buf.length-T.vt.getD j 0;omega,e4.al.1,e4.al.2,em.2⟩,fun j hj hs=>by
  have hsl:=e4.sl j hj
  rw[if_pos (hnone j hs)]at hsl
  exact hsl,?_⟩
 have key:∀s,s.o<n->QS s.q->Fact S.buf.length T s->QF (endObj T).min (endObj T).buf ((endObj T).buf.length-(putOff 0 T).buf.length) vt (4+2*s.o) s.ab s.q:=fun s hs hst h=>by
  have hsl:=e4.sl s.o hs
  have hpl:=e4.pl s.o hs
  rw[hpos]at hsl hpl
  rcases h with ⟨q1,q2⟩|⟨q1,q2,q3,q4,q5⟩
  ·rw[if_pos q1]at hsl
   exact Or.inl ⟨hsl,q2⟩
  ·rw[if_neg q1]at hsl
   have:=hpl q1
   refine Or.inr ⟨by rw[hsl];omega,q2,?_⟩
   have e:(endObj T).buf.length-(putOff 0 T).buf.length+slotAt (endObj T).buf vt (4+2*s.o)=y.length+(T.buf.length-T.vt.getD s.o 0):=by
    have:(endObj T).buf.length=y.length+T.buf.length:=by rw[hy,List.length_append]
    rw[hsl];omega
   rw[e,hy]
   exact hst T.min _ T.buf y _ em.1 q5
 have hst:=hok.stable
 clear hok hnd hnone
 revert ss
 intro ss ho hf hst
 induction ss with
 |nil=>trivial
 |cons s ss ih=>exact ⟨key s (ho s List.mem_cons_self) (hst s List.mem_cons_self) hf.1,ih (fun s' h=>ho s' (List.mem_cons_of_mem _ h)) hf.2 (fun s' h=>hst s' (List.mem_cons_of_mem _ h))⟩
structure Qdc (S:BS) (q:BS×Nat) (s:MSpec):Prop where
 inv2:Qbx q.1
 ext:∃x,q.1.buf=x++S.buf
 min:S.min<=q.1.min
 of:OF q.1 q.2 s
theorem Qdc.none {S:BS} (h:Qbx S) {s:MSpec} (hs:s.ab):Qdc S (S,0) s:=⟨h,⟨[],rfl⟩,Nat.le_refl _,Or.inl ⟨rfl,hs⟩⟩
def Qcf (xs:List UInt8):PP:=fun A bs t=>t+4+xs.length<bs.length/\Alg A 4 bs t/\le4 bs t=xs.length/\(bs.drop (t+4)).take xs.length=xs/\byteN bs (t+4+xs.length)=0
theorem Qcf.stable {xs:List UInt8}:QS (Qcf xs):=fun A A' bs x p hA h=>by
 obtain ⟨h1,h2,h3,h4,h5⟩:=h
 refine ⟨by rw[List.length_append];omega,Alg.stable A A' bs x p hA h2,by rw[QaE];exact h3,?_,?_⟩
 ·rw[Nat.add_assoc,QeF];exact h4
 ·rw[show x.length+p+4+xs.length=x.length+(p+4+xs.length) by omega,Qde];exact h5
theorem QeI {S:BS} (hI:Inv S) (h:Qbx S) {xs:List UInt8} (hx:xs.length<4000000000):Qdc S (createStr xs S,(createStr xs S).buf.length) ⟨False,Qcf xs⟩:=by
 have e:=Qfm xs S
 have el:=Qi5 xs S
 have hp:=Qcp (size:=4) (n:=S.buf.length+(xs.length+1)) (by decide)
 have hmin:4<=(createStr xs S).min:=Nat.le_max_right S.min 4
 refine ⟨h.ext hI.vts rfl (x:=leB (xs.length:Int) 4++(xs++([0]++List.replicate (padOf 4 (S.buf.length+(xs.length+1))) 0))) (by rw[e];simp),⟨leB (xs.length:Int) 4++(xs++([0]++List.replicate (padOf 4 (S.buf.length+(xs.length+1))) 0)),by show (createStr xs S).buf=_;rw[e];simp⟩,Nat.le_max_left _ _,Or.inr ⟨by show _≠0;omega,fun h=>h,Nat.le_refl _,?_⟩⟩
 show Qcf xs _ _ ((createStr xs S).buf.length-(createStr xs S).buf.length)
 rw[Nat.sub_self]
 refine ⟨by rw[el];omega,⟨QgV,hmin,by rw[el];omega⟩,by rw[e,QgD (Nat.le_refl _)];omega,?_,?_⟩
 ·have h4:(leB (xs.length:Int) 4).length=0+4:=Qg _ _
  rw[e,<-h4,List.drop_left,List.take_left]
 ·have h4:0+4+xs.length=(leB (xs.length:Int) 4++xs).length+0:=by rw[List.length_append,Qg];omega
  rw[e,<-List.append_assoc,h4,Qde];rfl
theorem Qj3 {S:BS} (hI:Inv S) (h:Qbx S) {xs:List UInt8} (hx:xs.length<4000000000):Qdc S (Qb3 xs S) ⟨False,Qcf xs⟩:=QeI hI h hx
theorem optB_made {S:BS} (hI:Inv S) (h:Qbx S) {xs:List UInt8} (hx:xs.length<4000000000):Qdc S (optB xs S) ⟨xs=[],Qcf xs⟩:=by
 unfold optB
 by_cases he:xs=[]
 ·rw[if_pos he];exact Qdc.none h he
 ·rw[if_neg he]
  obtain ⟨a,b,c,d⟩:=QeI hI h hx
  refine ⟨a,b,c,?_⟩
  rcases d with d|d
  ·exact d.2.elim
  ·exact Or.inr ⟨d.1,he,d.2.2⟩
def VecP (k al n:Nat):PP:=fun A bs t=>t+4+k*n<=bs.length/\Alg A 4 bs t/\Alg A al bs (t+4)/\le4 bs t=n
theorem VecP.stable {k al n:Nat}:QS (VecP k al n):=fun A A' bs x p hA h=>by
 obtain ⟨h1,h2,h3,h4⟩:=h
 refine ⟨by rw[List.length_append];omega,Alg.stable A A' bs x p hA h2,by rw[Nat.add_assoc];exact Alg.stable A A' bs x _ hA h3,by rw[QaE];exact h4⟩
def QaQ (k al:Nat) (items:List (List UInt8)):PP:=fun A bs t=>VecP k al items.length A bs t/\(bs.drop (t+4)).take items.flatten.length=items.flatten
theorem QaQ.stable {k al:Nat} {items:List (List UInt8)}:QS (QaQ k al items):=fun A A' bs x p hA h=>⟨VecP.stable A A' bs x p hA h.1,by rw[Nat.add_assoc,QeF];exact h.2⟩
theorem vecS_made {S:BS} (hI:Inv S) (h:Qbx S) {es al:Nat} {items:List (List UInt8)} (hal:P2 al) (hi:∀x∈items,x.length=es) (hn:items.length<4000000000):
  Qdc S (vecS es al items S,(vecS es al items S).buf.length) ⟨False,QaQ es al items⟩/\
   (vecS es al items S).buf=leB (items.length:Int) 4++(items.flatten++(QK es items.length al S).buf)/\∃x,(QK es items.length al S).buf=x++S.buf:=by
 obtain ⟨x,hx,hxl⟩:=Qdi es items.length al S hal.pos
 have hf:=Qau items hi
 have e:(vecS es al items S).buf=leB (items.length:Int) 4++(items.flatten++(QK es items.length al S).buf):=rfl
 have el:(vecS es al items S).buf.length=4+es*items.length+(QK es items.length al S).buf.length:=by rw[e];simp only[List.length_append,Qg,hf];omega
 have hm:=Qgd es items.length al S
 obtain ⟨k,hk,hke⟩:=hal
 have ha:=QeO (es:=es) (n:=items.length) (al:=al) (k:=k) S hke
 have h4:((QK es items.length al S).buf.length+es*items.length)%4=0:=by
  have hp:=Qcp (size:=4) (n:=S.buf.length+es*items.length) (by decide)
  have hl:=startVec_len (es:=es) (n:=items.length) (al:=al) (S:=S)
  have hc:k=3\/k=2\/k=1\/k=0:=by omega
  rcases hc with rfl|rfl|hc
  ·rw[hke]at ha⊢;omega
  ·rw[hke]at ha⊢;omega
  ·have hz:padOf al (padOf 4 (S.buf.length+es*items.length)+S.buf.length+es*items.length)=0:=by
    apply YZ
    rcases hc with rfl|rfl
    ·rw[hke];omega
    ·rw[hke];omega
   rw[hz]at hl
   omega
 refine ⟨⟨h.ext hI.vts rfl (x:=leB (items.length:Int) 4++(items.flatten++x)) (by rw[e,hx];simp),⟨leB (items.length:Int) 4++(items.flatten++x),by show (vecS es al items S).buf=_;rw[e,hx];simp⟩,?_,Or.inr ⟨by show _≠0;omega,fun h=>h,Nat.le_refl _,?_⟩⟩,e,x,hx⟩
 ·show S.min<=(QK es items.length al S).min
  exact Nat.le_trans (Nat.le_max_left S.min 4) (Nat.le_max_left _ al)
 ·show QaQ es al items _ _ ((vecS es al items S).buf.length-(vecS es al items S).buf.length)
  rw[Nat.sub_self]
  refine ⟨⟨by rw[el];omega,⟨QgV,hm.1,by rw[el];omega⟩,⟨⟨k,hk,hke⟩,hm.2,?_⟩,by rw[e,QgD (Nat.le_refl _)];omega⟩,?_⟩
  ·rw[el,show 4+es*items.length+(QK es items.length al S).buf.length-(0+4)=(QK es items.length al S).buf.length+es*items.length by omega];exact ha
  ·have h4:(leB (items.length:Int) 4).length=0+4:=Qg _ _
   show ((vecS es al items S).buf.drop (0+4)).take _=_
   rw[e,<-h4,List.drop_left,List.take_left]
theorem QbH {S:BS} (hI:Inv S) (h:Qbx S) {es al:Nat} {items:List (List UInt8)} (hal:P2 al) (hi:∀x∈items,x.length=es) (hn:items.length<4000000000):Qdc S (Qhf es al items S) ⟨items=[],QaQ es al items⟩:=by
 unfold Qhf
 by_cases he:items=[]
 ·rw[if_pos he];exact Qdc.none h he
 ·rw[if_neg he]
  obtain ⟨⟨a,b,c,d⟩,_⟩:=vecS_made hI h hal hi hn
  refine ⟨a,b,c,?_⟩
  rcases d with d|d
  ·exact d.2.elim
  ·exact Or.inr ⟨d.1,he,d.2.2⟩
def Qgp {α:Type} (l:List α) (P:α->PP):PP:=fun A bs t=>VecP 4 4 l.length A bs t/\∀(i:Nat) a,l[i]?=some a->ZC (P a) A bs (t+4+4*i)
theorem Qgp.stable {α:Type} {l:List α} {P:α->PP} (hP:∀a∈l,QS (P a)):QS (Qgp l P):=fun A A' bs x p hA h=>⟨VecP.stable A A' bs x p hA h.1,fun i a ha=>by
 have:=ZC.stable (hP a (List.mem_of_getElem? ha)) A A' bs x _ hA (h.2 i a ha)
 rw[show x.length+p+4+4*i=x.length+(p+4+4*i) by omega];exact this⟩
theorem Qj6 (L:Nat):∀(os:List Nat) (i o:Nat) (rest:List UInt8),os[i]?=some o->le4 ((Zi L os).flatten++rest) (4*i)=(L+4*(os.length-1-i)-o+4)%4294967296
 |o'::os,0,o,rest,h=>by
  have:o'=o:=by simpa using h
  subst this
  rw[Zi,List.flatten_cons,List.append_assoc,Nat.mul_zero,QgD (Nat.le_refl _)];simp
 |o'::os,i+1,o,rest,h=>by
  have h':os[i]?=some o:=by simpa using h
  have hi:i<os.length:=by
   rcases Nat.lt_or_ge i os.length with hh|hh
   ·exact hh
   ·rw[List.getElem?_eq_none hh]at h';cases h'
  have e:4*(i+1)=(leB ((L+4*os.length-o'+4:Nat):Int) 4).length+4*i:=by rw[Qg];omega
  rw[Zi,List.flatten_cons,List.append_assoc,e,QaE,Qj6 L os i o rest h',List.length_cons]
  rw[show os.length+1-1-(i+1)=os.length-1-i by omega]
theorem optO_made {α:Type} {S:BS} {q:BS->BS×List Nat} {l:List α} {P:α->PP} (hP:∀a∈l,QS (P a)) (h:Qbx S) (hI1:Inv (q S).1) (h1:Qbx (q S).1) (hx:∃x,(q S).1.buf=x++S.buf) (hm:S.min<=(q S).1.min) (hl:(q S).2.length=l.length)
  (hk:∀(i:Nat) a o,l[i]?=some a->(q S).2[i]?=some o->OF (q S).1 o ⟨False,P a⟩) (hb:(q S).1.buf.length+4*l.length<1000000000):Qdc S (QiK q S) ⟨l=[],Qgp l P⟩:=by
 have hnil:(q S).2=[]↔l=[]:=by
  rw[<-List.length_eq_zero_iff,hl,List.length_eq_zero_iff]
 unfold QiK
 by_cases he:(q S).2=[]
 ·rw[if_pos he];exact Qdc.none h (hnil.1 he)
 ·rw[if_neg he]
  have hlen:=Qdl (QK 4 (q S).2.length 4 (q S).1).buf.length (q S).2
  obtain ⟨⟨a,⟨x',hx'⟩,c,d⟩,e,⟨x2,hx2⟩⟩:=vecS_made (es:=4) (al:=4) hI1 h1 QgV (Qck (QK 4 (q S).2.length 4 (q S).1).buf.length (q S).2) (by rw[hlen,hl];omega)
  rw[hlen]at e hx2
  obtain ⟨x,hx⟩:=hx
  refine ⟨a,⟨x'++x,?_⟩,Nat.le_trans hm c,?_⟩
  ·show (QeV (q S).2 (q S).1).buf=_
   unfold QeV
   have hx'':(vecS 4 4 (Zi (QK 4 (q S).2.length 4 (q S).1).buf.length (q S).2) (q S).1).buf=x'++(q S).1.buf:=hx'
   rw[hx'',hx,List.append_assoc]
  rcases d with d|⟨d1,d2,d3,⟨d4,d5⟩⟩
  ·exact d.2.elim
  ·refine Or.inr ⟨d1,fun hn=>he (hnil.2 hn),d3,?_⟩
   have d4':VecP 4 4 l.length (QeV (q S).2 (q S).1).min (QeV (q S).2 (q S).1).buf ((QeV (q S).2 (q S).1).buf.length-(QeV (q S).2 (q S).1).buf.length):=by
    have:(Zi (QK 4 (q S).2.length 4 (q S).1).buf.length (q S).2).length=l.length:=by rw[hlen,hl]
    rw[<-this];exact d4
   show Qgp l P (QeV (q S).2 (q S).1).min (QeV (q S).2 (q S).1).buf ((QeV (q S).2 (q S).1).buf.length-(QeV (q S).2 (q S).1).buf.length)
   have hx'':(QeV (q S).2 (q S).1).buf=x'++(q S).1.buf:=hx'
   have hmm:(q S).1.min<=(QeV (q S).2 (q S).1).min:=c
   have e':(QeV (q S).2 (q S).1).buf=leB ((q S).2.length:Int) 4++((Zi (QK 4 (q S).2.length 4 (q S).1).buf.length (q S).2).flatten++(QK 4 (q S).2.length 4 (q S).1).buf):=e
   generalize QeV (q S).2 (q S).1=E at *
   rw[Nat.sub_self]at d4'⊢
   refine ⟨d4',fun i a ha=>?_⟩
   have hi:i<l.length:=by
    rcases Nat.lt_or_ge i l.length with hh|hh
    ·exact hh
    ·rw[List.getElem?_eq_none hh]at ha;cases ha
   have ho:(q S).2[i]?=some ((q S).2[i]'(by rw[hl];exact hi)):=List.getElem?_eq_getElem _
   generalize (q S).2[i]'(by rw[hl];exact hi)=o at ho
   rcases hk i a o ha ho with hh|⟨k1,k2,k3,k4⟩
   ·exact hh.2.elim
   obtain ⟨v1,v2,v3,v4⟩:=d4'
   have hst:(QK 4 (q S).2.length 4 (q S).1).buf.length=x2.length+(q S).1.buf.length:=by rw[hx2,List.length_append]
   have hfl:=Qau (es:=4) _ (Qck (QK 4 (q S).2.length 4 (q S).1).buf.length (q S).2)
   rw[hlen]at hfl
   have hel:E.buf.length=4+4*l.length+(QK 4 (q S).2.length 4 (q S).1).buf.length:=by rw[e'];simp only[List.length_append,Qg,hfl];omega
   have hsl:=(Qdi 4 (q S).2.length 4 (q S).1 (by decide))
   obtain ⟨x3,hx3,hx3l⟩:=hsl
   have hx3':(QK 4 (q S).2.length 4 (q S).1).buf.length=x3.length+(q S).1.buf.length:=by rw[hx3,List.length_append]
   have hle:le4 E.buf (0+4+4*i)=(QK 4 (q S).2.length 4 (q S).1).buf.length+4*(l.length-1-i)-o+4:=by
    have e3:0+4+4*i=(leB ((q S).2.length:Int) 4).length+4*i:=by rw[Qg]
    rw[e',e3,QaE,Qj6 _ _ _ _ _ ho]
    omega
   have htg:tgt E.buf (0+4+4*i)=E.buf.length-o:=by unfold tgt;rw[hle];omega
   refine ⟨by omega,⟨QgV,v2.2.1,?_⟩,by rw[htg];omega,?_⟩
   ·have:=v3.2.2
    omega
   ·rw[htg,hx'',show (x'++(q S).1.buf).length-o=x'.length+((q S).1.buf.length-o) by rw[List.length_append];omega]
    exact hP a (List.mem_of_getElem? ha) _ _ _ _ _ hmm k4
theorem Qi8 {α:Type} {f:α->BS->BS×Nat} {P:α->PP} {c:α->Nat} {B:Nat}:∀(xs:List α),(∀a∈xs,QS (P a))->(∀x∈xs,∀S,Inv S->Y0 S (c x) (f x S))->(∀x∈xs,∀S,Inv S->Qbx S->S.buf.length+c x<=B->Qdc S (f x S) ⟨False,P x⟩)->
  ∀S,Inv S->Qbx S->S.buf.length+(xs.map c).sum<=B->
  Qbx (Qy f xs S).1/\(∃x,(Qy f xs S).1.buf=x++S.buf)/\S.min<=(Qy f xs S).1.min/\∀(i:Nat) a o,xs[i]?=some a->(Qy f xs S).2[i]?=some o->OF (Qy f xs S).1 o ⟨False,P a⟩
 |[],_,_,_,S,_,h2,_=>⟨h2,⟨[],rfl⟩,Nat.le_refl _,fun i a o h=>by simp at h⟩
 |x::xs,hst,hp,hm,S,hI,h2,hB=>by
  rw[List.map_cons,List.sum_cons]at hB
  have hpk:=hp x List.mem_cons_self S hI
  obtain ⟨a1,⟨x1,a2⟩,a3,a4⟩:=hm x List.mem_cons_self S hI h2 (by omega)
  have hl:=hpk.len
  obtain ⟨b1,⟨x2,b2⟩,b3,b4⟩:=Qi8 xs (fun a h=>hst a (List.mem_cons_of_mem _ h)) (fun y h=>hp y (List.mem_cons_of_mem _ h)) (fun y h=>hm y (List.mem_cons_of_mem _ h)) (f x S).1 hpk.inv a1 (by omega)
  refine ⟨b1,⟨x2++x1,by show (Qy f xs (f x S).1).1.buf=_;rw[b2,a2,List.append_assoc]⟩,Nat.le_trans a3 b3,fun i a o h1 h2=>?_⟩
  cases i with
  |zero=>
   have e1:x=a:=by simpa using h1
   have e2:(f x S).2=o:=by simpa [Qy]using h2
   subst e1;subst e2
   exact a4.mono (hst x List.mem_cons_self) b2 b3
  |succ i=>exact b4 i a o (by simpa using h1) (by simpa [Qy]using h2)
theorem slotN_in {S0:BS} {n k x d o:Nat} (hk:P2 k):∀c S',YA S0 n c S'->YA S0 n (c+64) (slotN k x d o S'):=fun c S' h=>(h.slotN hk).mono (by omega)
theorem slotOff_in {S0:BS} {n x o:Nat}:∀c S',YA S0 n c S'->YA S0 n (c+64) (slotOff x o S'):=fun c S' h=>h.slotOff.mono (by omega)
def RefP (x:UInt64):PP:=fun A bs p=>∃vt,Qjm A bs p vt 1/\QF A bs p vt 4 (x.toNat=0) (ZK 8 x.toNat)
theorem RefP.stable {x:UInt64}:QS (RefP x):=fun A A' bs y p hA h=>by
 obtain ⟨vt,h1,h2⟩:=h
 exact ⟨_,h1.shift hA,h2.shift ZK.stable hA⟩
theorem packRef_made {S:BS} (hI:Inv S) (h2:Qbx S) (hl:S.buf.length<600000000) (x:UInt64):Qdc S (QaW x S) ⟨False,RefP x⟩:=by
 obtain ⟨a,b,c,d,e,vt,f,_,g⟩:=QdY (fs:=[slotN 8 x.toNat 0 0]) (ss:=[⟨0,x.toNat=0,ZK 8 x.toNat⟩]) (n:=1) hI h2 ⟨Op.slotN QfV x.toNat_lt,trivial⟩ (by simp) (fun s hs=>by simp at hs;subst hs;exact Nat.zero_lt_one) (by decide)
  (fun f hf=>by simp at hf;subst hf;exact slotN_in QfV) (by simp) hl
 exact ⟨a,b,c,Or.inr ⟨d,fun h=>h,e,vt,f,g.1⟩⟩
def Qin (x:UInt8):PP:=fun A bs p=>∃vt,Qjm A bs p vt 1/\QF A bs p vt 4 (x.toNat=2) (ZK 1 x.toNat)
theorem Qin.stable {x:UInt8}:QS (Qin x):=fun A A' bs y p hA h=>by
 obtain ⟨vt,h1,h2⟩:=h
 exact ⟨_,h1.shift hA,h2.shift ZK.stable hA⟩
theorem packSimple_made {S:BS} (hI:Inv S) (h2:Qbx S) (hl:S.buf.length<600000000) (x:UInt8):Qdc S (QcS x S) ⟨False,Qin x⟩:=by
 obtain ⟨a,b,c,d,e,vt,f,_,g⟩:=QdY (fs:=[slotN 1 x.toNat 2 0]) (ss:=[⟨0,x.toNat=2,ZK 1 x.toNat⟩]) (n:=1) hI h2 ⟨Op.slotN P2_1 x.toNat_lt,trivial⟩ (by simp) (fun s hs=>by simp at hs;subst hs;exact Nat.zero_lt_one) (by decide)
  (fun f hf=>by simp at hf;subst hf;exact slotN_in P2_1) (by simp) hl
 exact ⟨a,b,c,Or.inr ⟨d,fun h=>h,e,vt,f,g.1⟩⟩
def Qec:PP:=fun A bs p=>∃vt,Qjm A bs p vt 0
theorem Qec.stable:QS Qec:=fun A A' bs y p hA h=>by
 obtain ⟨vt,h1⟩:=h
 exact ⟨_,h1.shift hA⟩
theorem optParent_made {S:BS} (hI:Inv S) (h2:Qbx S) (hl:S.buf.length<600000000) (b:Bool):Qdc S (Qed b S) ⟨b=false,Qec⟩:=by
 cases b
 ·exact Qdc.none h2 rfl
 ·obtain ⟨a,b,c,d,e,vt,f,_,g⟩:=QdY (fs:=[]) (ss:=[]) (n:=0) hI h2 trivial (by simp) (fun s hs=>by simp at hs) (by decide) (fun f hf=>by simp at hf) (by decide) hl
  exact ⟨a,b,c,Or.inr ⟨d,by simp,e,vt,f⟩⟩
def Qil (d:ZU):PP:=fun A bs p=>∃vt,Qjm A bs p vt 3/\QF A bs p vt 4 False (ZC (Qcf d.id))/\QF A bs p vt 6 (d.val.toNat=0) (ZK 8 d.val.toNat)/\QF A bs p vt 8 (d.count.toNat=0) (ZK 2 d.count.toNat)
theorem Qil.stable {d:ZU}:QS (Qil d):=fun A A' bs y p hA h=>by
 obtain ⟨vt,h1,h2,h3,h4⟩:=h
 exact ⟨_,h1.shift hA,h2.shift (ZC.stable Qcf.stable) hA,h3.shift ZK.stable hA,h4.shift ZK.stable hA⟩
theorem packStat_made {S:BS} (hI:Inv S) (h2:Qbx S) {d:ZU} (hl:S.buf.length+d.id.length<500000000):Qdc S (QcI d S) ⟨False,Qil d⟩:=by
 obtain ⟨g1,g2,g3⟩:=hI.createStr d.id
 obtain ⟨a1,⟨x,hx⟩,a3,a4⟩:=QeI hI h2 (xs:=d.id) (by omega)
 have e:QcI d S=endT (runS [slotOff (createStr d.id S).buf.length 0,slotN 8 d.val.toNat 0 1,slotN 2 d.count.toNat 0 2] (Zc 3 (createStr d.id S))):=rfl
 rw[e]
 have a1':Qbx (createStr d.id S):=a1
 obtain ⟨a,⟨y,hy⟩,c,d',e,vt,f,_,g⟩:=QdY (fs:=[slotOff (createStr d.id S).buf.length 0,slotN 8 d.val.toNat 0 1,slotN 2 d.count.toNat 0 2]) (ss:=[⟨0,(createStr d.id S).buf.length=0,QgB (createStr d.id S).buf.length⟩,⟨1,d.val.toNat=0,ZK 8 d.val.toNat⟩,⟨2,d.count.toNat=0,ZK 2 d.count.toNat⟩]) (n:=3) g1 a1'
  ⟨Op.slotOff (Nat.le_refl _),Op.slotN QfV d.val.toNat_lt,Op.slotN P2_2 d.count.toNat_lt,trivial⟩ (by simp) (fun s hs=>by simp at hs;rcases hs with rfl|rfl|rfl<;>simp) (by decide)
  (fun f hf=>by simp at hf;rcases hf with rfl|rfl|rfl;exact slotOff_in;exact slotN_in QfV;exact slotN_in P2_2) (by simp) (by omega)
 have hx':(createStr d.id S).buf=x++S.buf:=hx
 have a3':S.min<=(createStr d.id S).min:=a3
 refine ⟨a,⟨y++x,by rw[hy,hx',List.append_assoc]⟩,Nat.le_trans a3' c,Or.inr ⟨d',fun h=>h,e,vt,f,?_,g.2.1,g.2.2.1⟩⟩
 exact g.1.ref (S:=createStr d.id S) (s:=⟨False,Qcf d.id⟩) Qcf.stable a4 hy c
theorem optStat_made {S:BS} (hI:Inv S) (h2:Qbx S) {d:Option ZU} (hl:S.buf.length+Qik d<500000000):Qdc S (Qhq d S) ⟨d=none,fun A bs p=>∀s,d=some s->Qil s A bs p⟩:=by
 cases d with
 |none=>exact Qdc.none h2 rfl
 |some s=>
  obtain ⟨a,b,c,d⟩:=packStat_made hI h2 (d:=s) hl
  refine ⟨a,b,c,?_⟩
  rcases d with d|d
  ·exact d.2.elim
  ·exact Or.inr ⟨d.1,by simp,d.2.2.1,fun s' hs=>by cases hs;exact d.2.2.2⟩
def UnP (amb:Bool) (ty color:UInt8) (K:PP):PP:=fun A bs t=>if amb=false/\ty=2 then Qin color A bs t else K A bs t
theorem UnP.stable {amb:Bool} {ty color:UInt8} {K:PP} (hK:QS K):QS (UnP amb ty color K):=fun A A' bs x p hA h=>by
 unfold UnP at h⊢
 split
 ·rename_i hc;rw[if_pos hc]at h;exact Qin.stable A A' bs x p hA h
 ·rename_i hc;rw[if_neg hc]at h;exact hK A A' bs x p hA h
theorem QhB {S:BS} (hI:Inv S) (h2:Qbx S) (hl:S.buf.length<600000000) {amb:Bool} {ty color:UInt8} {kid:BS->BS×Nat} {K:PP} (hk:ty≠0->¬(amb=false/\ty=2)->Qdc S (kid S) ⟨False,K⟩):Qdc S (Qbl amb ty color kid S) ⟨ty=0,UnP amb ty color K⟩:=by
 unfold Qbl
 by_cases h0:ty=0
 ·rw[if_pos h0];exact Qdc.none h2 h0
 ·rw[if_neg h0]
  by_cases hc:amb=false/\ty=2
  ·rw[if_pos hc]
   obtain ⟨a,b,c,d⟩:=packSimple_made hI h2 hl color
   refine ⟨a,b,c,?_⟩
   rcases d with d|d
   ·exact d.2.elim
   ·refine Or.inr ⟨d.1,h0,d.2.2.1,?_⟩
    show UnP amb ty color K _ _ _
    unfold UnP;rw[if_pos hc];exact d.2.2.2
  ·rw[if_neg hc]
   obtain ⟨a,b,c,d⟩:=hk h0 hc
   refine ⟨a,b,c,?_⟩
   rcases d with d|d
   ·exact d.2.elim
   ·refine Or.inr ⟨d.1,h0,d.2.2.1,?_⟩
    show UnP amb ty color K _ _ _
    unfold UnP;rw[if_neg hc];exact d.2.2.2
end Go.Proofs
namespace Go.Proofs
open Go Go.Vc
open Tryz (prog)
theorem Op.slotNF {L0 fc k x d o:Nat} (hk:P2 k) (hx:x<256^k):Op (Proofs.slotNF fc k x d o) L0 ⟨o,x=d/\fc≠o,ZK k x⟩:=
 Op.num hk hx (fun h S=>by unfold Proofs.slotNF;rw[if_pos h]) (fun h S=>by unfold Proofs.slotNF;rw[if_neg h])
theorem Op.slotFF {L0 fc x d o:Nat} (hx:x<256^4):Op (Proofs.slotFF fc x d o) L0 ⟨o,FloatKind.f32.format.order x d=some .eq/\fc≠o,ZK 4 x⟩:=
 Op.num QgV hx (fun h S=>by unfold Proofs.slotFF;rw[if_pos h]) (fun h S=>by unfold Proofs.slotFF;rw[if_neg h])
structure OwnRd (A:Nat) (bs:List UInt8) (pos vt fc:Nat) (d:QaM):Prop where
 tab:Qjm A bs pos vt 49
 none4:slotAt bs vt 12=0
 pos0:QF A bs pos vt 4 (d.pos=none) (posQ d.pos)
 mana:QF A bs pos vt 6 (d.mana.toNat=150/\fc≠1) (ZK 2 d.mana.toNat)
 hp:QF A bs pos vt 8 (d.hp.toNat=100/\fc≠2) (ZK 2 d.hp.toNat)
 name:QF A bs pos vt 10 (False) (ZC (Qcf d.name))
 inventory:QF A bs pos vt 14 (d.inventory=[]) (ZC (Qcf d.inventory))
 color:QF A bs pos vt 16 (d.color.toNat=8/\fc≠6) (ZK 1 d.color.toNat)
 testTy:QF A bs pos vt 18 (d.testTy=0) (ZK 1 d.testTy.toNat)
 test4:QF A bs pos vt 22 ((d.test4.map fun t=>Qao t.a.toNat t.b.toNat)=[]) (ZC (QaQ 4 2 (d.test4.map fun t=>Qao t.a.toNat t.b.toNat)))
 strings:QF A bs pos vt 24 (d.strings=[]) (ZC (Qgp d.strings Qcf))
 nested:QF A bs pos vt 30 (d.nested=[]) (ZC (Qcf d.nested))
 empty:QF A bs pos vt 32 (d.empty=none) (ZC ((fun A bs p=>∀s,d.empty=some s->Qil s A bs p)))
 bool:QF A bs pos vt 34 ((if d.bool then 1 else 0)=0/\fc≠15) (ZK 1 (if d.bool then 1 else 0))
 s32:QF A bs pos vt 36 (d.s32.toNat=0/\fc≠16) (ZK 4 d.s32.toNat)
 u32:QF A bs pos vt 38 (d.u32.toNat=0/\fc≠17) (ZK 4 d.u32.toNat)
 s64:QF A bs pos vt 40 (d.s64.toNat=0/\fc≠18) (ZK 8 d.s64.toNat)
 u64:QF A bs pos vt 42 (d.u64.toNat=0/\fc≠19) (ZK 8 d.u64.toNat)
 s32a:QF A bs pos vt 44 (d.s32a.toNat=0/\fc≠20) (ZK 4 d.s32a.toNat)
 u32a:QF A bs pos vt 46 (d.u32a.toNat=0/\fc≠21) (ZK 4 d.u32a.toNat)
 s64a:QF A bs pos vt 48 (d.s64a.toNat=0/\fc≠22) (ZK 8 d.s64a.toNat)
 u64a:QF A bs pos vt 50 (d.u64a.toNat=0/\fc≠23) (ZK 8 d.u64a.toNat)
 bools:QF A bs pos vt 52 ((d.bools.map Qf0)=[]) (ZC (QaQ 1 1 (d.bools.map Qf0)))
 f:QF A bs pos vt 54 (FloatKind.f32.format.order d.f.toNat 1078530000=some .eq/\fc≠25) (ZK 4 d.f.toNat)
 f2:QF A bs pos vt 56 (FloatKind.f32.format.order d.f2.toNat 1077936128=some .eq/\fc≠26) (ZK 4 d.f2.toNat)
 f3:QF A bs pos vt 58 (FloatKind.f32.format.order d.f3.toNat 0=some .eq/\fc≠27) (ZK 4 d.f3.toNat)
 strings2:QF A bs pos vt 60 (d.strings2=[]) (ZC (Qgp d.strings2 Qcf))
 abilities:QF A bs pos vt 62 ((d.abilities.map fun t=>Z4 t.id.toNat t.dist.toNat)=[]) (ZC (QaQ 8 4 (d.abilities.map fun t=>Z4 t.id.toNat t.dist.toNat)))
 flex:QF A bs pos vt 64 (d.flex=[]) (ZC (Qcf d.flex))
 test5:QF A bs pos vt 66 ((d.test5.map fun t=>Qao t.a.toNat t.b.toNat)=[]) (ZC (QaQ 4 2 (d.test5.map fun t=>Qao t.a.toNat t.b.toNat)))
 longs:QF A bs pos vt 68 ((d.longs.map Qak)=[]) (ZC (QaQ 8 8 (d.longs.map Qak)))
 doubles:QF A bs pos vt 70 ((d.doubles.map Qak)=[]) (ZC (QaQ 8 8 (d.doubles.map Qak)))
 parent:QF A bs pos vt 72 (d.parent=false) (ZC (Qec))
 refs:QF A bs pos vt 74 (d.refs=[]) (ZC (Qgp d.refs RefP))
 singleWeak:QF A bs pos vt 76 (d.singleWeak.toNat=0/\fc≠36) (ZK 8 d.singleWeak.toNat)
 weak:QF A bs pos vt 78 ((d.weak.map Qak)=[]) (ZC (QaQ 8 8 (d.weak.map Qak)))
 strong:QF A bs pos vt 80 (d.strong=[]) (ZC (Qgp d.strong RefP))
 coOwning:QF A bs pos vt 82 (d.coOwning.toNat=0/\fc≠39) (ZK 8 d.coOwning.toNat)
 coOwnings:QF A bs pos vt 84 ((d.coOwnings.map Qak)=[]) (ZC (QaQ 8 8 (d.coOwnings.map Qak)))
 nonOwning:QF A bs pos vt 86 (d.nonOwning.toNat=0/\fc≠41) (ZK 8 d.nonOwning.toNat)
 nonOwnings:QF A bs pos vt 88 ((d.nonOwnings.map Qak)=[]) (ZC (QaQ 8 8 (d.nonOwnings.map Qak)))
 uniqTy:QF A bs pos vt 90 (d.uniqTy=0) (ZK 1 d.uniqTy.toNat)
 ambTy:QF A bs pos vt 94 (d.ambTy=0) (ZK 1 d.ambTy.toNat)
 enums:QF A bs pos vt 98 ((d.enums.map fun b=>[b])=[]) (ZC (QaQ 1 1 (d.enums.map fun b=>[b])))
 signedEnum:QF A bs pos vt 100 (d.signedEnum.toNat=255/\fc≠48) (ZK 1 d.signedEnum.toNat)
theorem posQ.stable {pos:Option Qa9}:QS (posQ pos):=(Op.slotPos (L0:=0)).st
theorem OwnRd.shift {A A':Nat} {bs x:List UInt8} {pos vt fc:Nat} {d:QaM} (hA:A<=A') (h:OwnRd A bs pos vt fc d):OwnRd A' (x++bs) (x.length+pos) (x.length+vt) fc d where
 tab:=h.tab.shift hA
 none4:=by rw[Qeu];exact h.none4
 pos0:=h.pos0.shift (posQ.stable) hA
 mana:=h.mana.shift (ZK.stable) hA
 hp:=h.hp.shift (ZK.stable) hA
 name:=h.name.shift (ZC.stable (Qcf.stable)) hA
 inventory:=h.inventory.shift (ZC.stable (Qcf.stable)) hA
 color:=h.color.shift (ZK.stable) hA
 testTy:=h.testTy.shift (ZK.stable) hA
 test4:=h.test4.shift (ZC.stable (QaQ.stable)) hA
 strings:=h.strings.shift (ZC.stable (Qgp.stable (fun _ _=>Qcf.stable))) hA
 nested:=h.nested.shift (ZC.stable (Qcf.stable)) hA
 empty:=h.empty.shift (ZC.stable (fun A A' bs x p hA h s hs=>Qil.stable A A' bs x p hA (h s hs))) hA
 bool:=h.bool.shift (ZK.stable) hA
 s32:=h.s32.shift (ZK.stable) hA
 u32:=h.u32.shift (ZK.stable) hA
 s64:=h.s64.shift (ZK.stable) hA
 u64:=h.u64.shift (ZK.stable) hA
 s32a:=h.s32a.shift (ZK.stable) hA
 u32a:=h.u32a.shift (ZK.stable) hA
 s64a:=h.s64a.shift (ZK.stable) hA
 u64a:=h.u64a.shift (ZK.stable) hA
 bools:=h.bools.shift (ZC.stable (QaQ.stable)) hA
 f:=h.f.shift (ZK.stable) hA
 f2:=h.f2.shift (ZK.stable) hA
 f3:=h.f3.shift (ZK.stable) hA
 strings2:=h.strings2.shift (ZC.stable (Qgp.stable (fun _ _=>Qcf.stable))) hA
 abilities:=h.abilities.shift (ZC.stable (QaQ.stable)) hA
 flex:=h.flex.shift (ZC.stable (Qcf.stable)) hA
 test5:=h.test5.shift (ZC.stable (QaQ.stable)) hA
 longs:=h.longs.shift (ZC.stable (QaQ.stable)) hA
 doubles:=h.doubles.shift (ZC.stable (QaQ.stable)) hA
 parent:=h.parent.shift (ZC.stable (Qec.stable)) hA
 refs:=h.refs.shift (ZC.stable (Qgp.stable (fun _ _=>RefP.stable))) hA
 singleWeak:=h.singleWeak.shift (ZK.stable) hA
 weak:=h.weak.shift (ZC.stable (QaQ.stable)) hA
 strong:=h.strong.shift (ZC.stable (Qgp.stable (fun _ _=>RefP.stable))) hA
 coOwning:=h.coOwning.shift (ZK.stable) hA
 coOwnings:=h.coOwnings.shift (ZC.stable (QaQ.stable)) hA
 nonOwning:=h.nonOwning.shift (ZK.stable) hA
 nonOwnings:=h.nonOwnings.shift (ZC.stable (QaQ.stable)) hA
 uniqTy:=h.uniqTy.shift (ZK.stable) hA
 ambTy:=h.ambTy.shift (ZK.stable) hA
 enums:=h.enums.shift (ZC.stable (QaQ.stable)) hA
 signedEnum:=h.signedEnum.shift (ZK.stable) hA
def MonF (fc:Nat) (d:QaM) (abT:Prop) (PT:PP) (abE:Prop) (PE PU PQ PA:PP):PP:=fun A bs pos=>∃vt,OwnRd A bs pos vt fc d/\
 QF A bs pos vt 26 abT (ZC PT)/\QF A bs pos vt 28 abE (ZC PE)/\QF A bs pos vt 20 (d.testTy=0) (ZC (UnP false d.testTy d.testColor PU))/\
 QF A bs pos vt 92 (d.uniqTy=0) (ZC (UnP false d.uniqTy d.uniqColor PQ))/\QF A bs pos vt 96 (d.ambTy=0) (ZC (UnP true d.ambTy d.ambColor PA))
theorem MonF.stable {fc:Nat} {d:QaM} {abT abE:Prop} {PT PE PU PQ PA:PP} (sT:QS PT) (sE:QS PE) (sU:QS PU) (sQ:QS PQ) (sA:QS PA):QS (MonF fc d abT PT abE PE PU PQ PA):=fun A A' bs x p hA h=>by
 obtain ⟨vt,h1,h2,h3,h4,h5,h6⟩:=h
 exact ⟨_,h1.shift hA,h2.shift (ZC.stable sT) hA,h3.shift (ZC.stable sE) hA,h4.shift (ZC.stable (UnP.stable sU)) hA,h5.shift (ZC.stable (UnP.stable sQ)) hA,h6.shift (ZC.stable (UnP.stable sA)) hA⟩
theorem costs_sum':∀l:List Mon,(l.map Qa1).sum=Z6 l
 |[]=>rfl
 |m::ms=>by rw[List.map_cons,List.sum_cons,Z6,costs_sum' ms]
theorem strs_made (l:List (List UInt8)) {S:BS} (hI:Inv S) (h2:Qbx S) (hl:S.buf.length+((l.map List.length).sum+12*l.length+15)<=500000000):Qdc S (QiK (Qy Qb3 l) S) ⟨l=[],Qgp l Qcf⟩:=by
 obtain ⟨h1,g2,g3,_⟩:=QbM (f:=Qb3) (c:=fun x=>x.length+8) l (fun x _ S hS=>Qc4 x hS) S hI
 rw[Qd4]at g2
 obtain ⟨a,b,c,d⟩:=Qi8 (f:=Qb3) (P:=Qcf) (c:=fun x=>x.length+8) (B:=500000000) l (fun _ _=>Qcf.stable) (fun x _ S hS=>Qc4 x hS) (fun x _ S hS h hb=>Qj3 hS h (by have:S.buf.length+(x.length+8)<=500000000:=hb;omega)) S hI h2 (by rw[Qd4];omega)
 exact optO_made (fun _ _=>Qcf.stable) h2 h1 a b c (Qa0 _ _ _) d (by omega)
theorem refs_made (l:List UInt64) {S:BS} (hI:Inv S) (h2:Qbx S) (hl:S.buf.length+(44*l.length+15)<=500000000):Qdc S (QiK (Qy QaW l) S) ⟨l=[],Qgp l RefP⟩:=by
 obtain ⟨h1,g2,g3,_⟩:=QbM (f:=QaW) (c:=fun _=>40) l (fun x _ S hS=>(Qf2 x hS).1) S hI
 rw[Qbe]at g2
 obtain ⟨a,b,c,d⟩:=Qi8 (f:=QaW) (P:=RefP) (c:=fun _=>40) (B:=500000000) l (fun _ _=>RefP.stable) (fun x _ S hS=>(Qf2 x hS).1) (fun x _ S hS h hb=>packRef_made hS h (by have:S.buf.length+40<=500000000:=hb;omega) x) S hI h2 (by rw[Qbe];omega)
 exact optO_made (fun _ _=>RefP.stable) h2 h1 a b c (Qa0 _ _ _) d (by omega)
def MkMade (B:Nat):List (BS->BS×Nat)->List Nat->List MSpec->Prop
 |[],[],[]=>True
 |f::fs,c::cs,s::ss=>((∀S,Inv S->Qbx S->S.buf.length+c<=B->Qdc S (f S) s)/\QS s.p)/\MkMade B fs cs ss
 |_,_,_=>False
def OFs (S:BS):List Nat->List MSpec->Prop
 |[],[]=>True
 |o::os,s::ss=>OF S o s/\OFs S os ss
 |_,_=>False
theorem OFs.get {S:BS}:∀{os:List Nat} {ss:List MSpec},OFs S os ss->∀(i:Nat) (s:MSpec),ss[i]?=some s->OF S (os.getD i 0) s
 |[],[],_,i,s,h=>by simp at h
 |[],_::_,h,_,_,_=>h.elim
 |_::_,[],h,_,_,_=>h.elim
 |o::os,s'::ss,h,i,s,hs=>by
  cases i with
  |zero=>
   have:s'=s:=by simpa using hs
   subst this;exact h.1
  |succ i=>exact OFs.get h.2 i s (by simpa using hs)
theorem foldMk_made {B:Nat}:∀(fs:List (BS->BS×Nat)) (cs:List Nat) (ss:List MSpec),MkOk fs cs->MkMade B fs cs ss->∀S,Inv S->Qbx S->S.buf.length+cs.sum<=B->
  Qbx (Qy (fun f=>f) fs S).1/\(∃x,(Qy (fun f=>f) fs S).1.buf=x++S.buf)/\S.min<=(Qy (fun f=>f) fs S).1.min/\OFs (Qy (fun f=>f) fs S).1 (Qy (fun f=>f) fs S).2 ss
 |[],[],[],_,_,S,_,h2,_=>⟨h2,⟨[],rfl⟩,Nat.le_refl _,trivial⟩
 |f::fs,c::cs,s::ss,⟨k1,k2⟩,⟨⟨m1,st⟩,m2⟩,S,hI,h2,hB=>by
  rw[List.sum_cons]at hB
  have hpk:=k1 S hI
  obtain ⟨a1,⟨x1,a2⟩,a3,a4⟩:=m1 S hI h2 (by omega)
  have hl:=hpk.len
  obtain ⟨b1,⟨x2,b2⟩,b3,b4⟩:=foldMk_made fs cs ss k2 m2 (f S).1 hpk.inv a1 (by omega)
  refine ⟨b1,⟨x2++x1,?_⟩,Nat.le_trans a3 b3,?_,b4⟩
  ·show (Qy (fun f=>f) fs (f S).1).1.buf=_
   rw[b2,a2,List.append_assoc]
  ·exact a4.mono st b2 b3
 |[],[],_::_,_,h,_,_,_,_=>h.elim
 |[],_::_,_,h,_,_,_,_,_=>h.elim
 |_::_,[],_,h,_,_,_,_,_=>h.elim
 |_::_,_::_,[],_,h,_,_,_,_=>h.elim
theorem QF.ref' {A:Nat} {bs:List UInt8} {pos vt vo off:Nat} {ab:Prop} {P:PP} (h:QF A bs pos vt vo (off=0) (QgB off)) {S:BS} (hs:QS P) (ho:OF S off ⟨ab,P⟩) {y:List UInt8} (hb:bs=y++S.buf) (hm:S.min<=A):QF A bs pos vt vo ab (ZC P):=h.ref (s:=⟨ab,P⟩) hs ho hb hm
def mkSpecs (d:QaM) (abT:Prop) (PT:PP) (abE:Prop) (PE PU PQ PA:PP):List MSpec:=
 [⟨False,Qcf d.name⟩,
  ⟨d.inventory=[],Qcf d.inventory⟩,
  ⟨d.testTy=0,UnP false d.testTy d.testColor PU⟩,
  ⟨(d.test4.map fun t=>Qao t.a.toNat t.b.toNat)=[],QaQ 4 2 (d.test4.map fun t=>Qao t.a.toNat t.b.toNat)⟩,
  ⟨d.strings=[],Qgp d.strings Qcf⟩,
  ⟨abT,PT⟩,
  ⟨abE,PE⟩,
  ⟨d.nested=[],Qcf d.nested⟩,
  ⟨d.empty=none,(fun A bs p=>∀s,d.empty=some s->Qil s A bs p)⟩,
  ⟨(d.bools.map Qf0)=[],QaQ 1 1 (d.bools.map Qf0)⟩,
  ⟨d.strings2=[],Qgp d.strings2 Qcf⟩,
  ⟨(d.abilities.map fun t=>Z4 t.id.toNat t.dist.toNat)=[],QaQ 8 4 (d.abilities.map fun t=>Z4 t.id.toNat t.dist.toNat)⟩,
  ⟨d.flex=[],Qcf d.flex⟩,
  ⟨(d.test5.map fun t=>Qao t.a.toNat t.b.toNat)=[],QaQ 4 2 (d.test5.map fun t=>Qao t.a.toNat t.b.toNat)⟩,
  ⟨(d.longs.map Qak)=[],QaQ 8 8 (d.longs.map Qak)⟩,
  ⟨(d.doubles.map Qak)=[],QaQ 8 8 (d.doubles.map Qak)⟩,
  ⟨d.parent=false,Qec⟩,
  ⟨d.refs=[],Qgp d.refs RefP⟩,
  ⟨(d.weak.map Qak)=[],QaQ 8 8 (d.weak.map Qak)⟩,
  ⟨d.strong=[],Qgp d.strong RefP⟩,
  ⟨(d.coOwnings.map Qak)=[],QaQ 8 8 (d.coOwnings.map Qak)⟩,
  ⟨(d.nonOwnings.map Qak)=[],QaQ 8 8 (d.nonOwnings.map Qak)⟩,
  ⟨d.uniqTy=0,UnP false d.uniqTy d.uniqColor PQ⟩,
  ⟨d.ambTy=0,UnP true d.ambTy d.ambColor PA⟩,
  ⟨(d.enums.map fun b=>[b])=[],QaQ 1 1 (d.enums.map fun b=>[b])⟩]
def slSpecs (fc:Nat) (d:QaM) (o:List Nat):List Spec:=
 [⟨0,d.pos=none,posQ d.pos⟩,
  ⟨1,d.mana.toNat=150/\fc≠1,ZK 2 d.mana.toNat⟩,
  ⟨2,d.hp.toNat=100/\fc≠2,ZK 2 d.hp.toNat⟩,
  ⟨3,o.getD 0 0=0,QgB (o.getD 0 0)⟩,
  ⟨5,o.getD 1 0=0,QgB (o.getD 1 0)⟩,
  ⟨6,d.color.toNat=8/\fc≠6,ZK 1 d.color.toNat⟩,
  ⟨7,d.testTy=0,ZK 1 d.testTy.toNat⟩,
  ⟨8,o.getD 2 0=0,QgB (o.getD 2 0)⟩,
  ⟨9,o.getD 3 0=0,QgB (o.getD 3 0)⟩,
  ⟨10,o.getD 4 0=0,QgB (o.getD 4 0)⟩,
  ⟨11,o.getD 5 0=0,QgB (o.getD 5 0)⟩,
  ⟨12,o.getD 6 0=0,QgB (o.getD 6 0)⟩,
  ⟨13,o.getD 7 0=0,QgB (o.getD 7 0)⟩,
  ⟨14,o.getD 8 0=0,QgB (o.getD 8 0)⟩,
  ⟨15,(if d.bool then 1 else 0)=0/\fc≠15,ZK 1 (if d.bool then 1 else 0)⟩,
  ⟨16,d.s32.toNat=0/\fc≠16,ZK 4 d.s32.toNat⟩,
  ⟨17,d.u32.toNat=0/\fc≠17,ZK 4 d.u32.toNat⟩,
  ⟨18,d.s64.toNat=0/\fc≠18,ZK 8 d.s64.toNat⟩,
  ⟨19,d.u64.toNat=0/\fc≠19,ZK 8 d.u64.toNat⟩,
  ⟨20,d.s32a.toNat=0/\fc≠20,ZK 4 d.s32a.toNat⟩,
  ⟨21,d.u32a.toNat=0/\fc≠21,ZK 4 d.u32a.toNat⟩,
  ⟨22,d.s64a.toNat=0/\fc≠22,ZK 8 d.s64a.toNat⟩,
  ⟨23,d.u64a.toNat=0/\fc≠23,ZK 8 d.u64a.toNat⟩,
  ⟨24,o.getD 9 0=0,QgB (o.getD 9 0)⟩,
  ⟨25,FloatKind.f32.format.order d.f.toNat 1078530000=some .eq/\fc≠25,ZK 4 d.f.toNat⟩,
  ⟨26,FloatKind.f32.format.order d.f2.toNat 1077936128=some .eq/\fc≠26,ZK 4 d.f2.toNat⟩,
  ⟨27,FloatKind.f32.format.order d.f3.toNat 0=some .eq/\fc≠27,ZK 4 d.f3.toNat⟩,
  ⟨28,o.getD 10 0=0,QgB (o.getD 10 0)⟩,
  ⟨29,o.getD 11 0=0,QgB (o.getD 11 0)⟩,
  ⟨30,o.getD 12 0=0,QgB (o.getD 12 0)⟩,
  ⟨31,o.getD 13 0=0,QgB (o.getD 13 0)⟩,
  ⟨32,o.getD 14 0=0,QgB (o.getD 14 0)⟩,
  ⟨33,o.getD 15 0=0,QgB (o.getD 15 0)⟩,
  ⟨34,o.getD 16 0=0,QgB (o.getD 16 0)⟩,
  ⟨35,o.getD 17 0=0,QgB (o.getD 17 0)⟩,
  ⟨36,d.singleWeak.toNat=0/\fc≠36,ZK 8 d.singleWeak.toNat⟩,
  ⟨37,o.getD 18 0=0,QgB (o.getD 18 0)⟩,
  ⟨38,o.getD 19 0=0,QgB (o.getD 19 0)⟩,
  ⟨39,d.coOwning.toNat=0/\fc≠39,ZK 8 d.coOwning.toNat⟩,
  ⟨40,o.getD 20 0=0,QgB (o.getD 20 0)⟩,
  ⟨41,d.nonOwning.toNat=0/\fc≠41,ZK 8 d.nonOwning.toNat⟩,
  ⟨42,o.getD 21 0=0,QgB (o.getD 21 0)⟩,
  ⟨43,d.uniqTy=0,ZK 1 d.uniqTy.toNat⟩,
  ⟨44,o.getD 22 0=0,QgB (o.getD 22 0)⟩,
  ⟨45,d.ambTy=0,ZK 1 d.ambTy.toNat⟩,
  ⟨46,o.getD 23 0=0,QgB (o.getD 23 0)⟩,
  ⟨47,o.getD 24 0=0,QgB (o.getD 24 0)⟩,
  ⟨48,d.signedEnum.toNat=255/\fc≠48,ZK 1 d.signedEnum.toNat⟩]
theorem slotsF_ops (fc:Nat) (d:QaM) {o:List Nat} {L0:Nat} (hle:∀i,o.getD i 0<=L0):OpsOk L0 (Qhi fc d o) (slSpecs fc d o):=
 ⟨Op.slotPos,Op.slotNF P2_2 d.mana.toNat_lt,Op.slotNF P2_2 d.hp.toNat_lt,Op.slotOff (hle 0),Op.slotOff (hle 1),Op.slotNF P2_1 d.color.toNat_lt,Op.slotTy,Op.slotOff (hle 2),Op.slotOff (hle 3),Op.slotOff (hle 4),Op.slotOff (hle 5),Op.slotOff (hle 6),Op.slotOff (hle 7),Op.slotOff (hle 8),Op.slotNF P2_1 (by split<;>decide),Op.slotNF QgV d.s32.toNat_lt,Op.slotNF QgV d.u32.toNat_lt,Op.slotNF QfV d.s64.toNat_lt,Op.slotNF QfV d.u64.toNat_lt,Op.slotNF QgV d.s32a.toNat_lt,Op.slotNF QgV d.u32a.toNat_lt,Op.slotNF QfV d.s64a.toNat_lt,Op.slotNF QfV d.u64a.toNat_lt,Op.slotOff (hle 9),Op.slotFF d.f.toNat_lt,Op.slotFF d.f2.toNat_lt,Op.slotFF d.f3.toNat_lt,Op.slotOff (hle 10),Op.slotOff (hle 11),Op.slotOff (hle 12),Op.slotOff (hle 13),Op.slotOff (hle 14),Op.slotOff (hle 15),Op.slotOff (hle 16),Op.slotOff (hle 17),Op.slotNF QfV d.singleWeak.toNat_lt,Op.slotOff (hle 18),Op.slotOff (hle 19),Op.slotNF QfV d.coOwning.toNat_lt,Op.slotOff (hle 20),Op.slotNF QfV d.nonOwning.toNat_lt,Op.slotOff (hle 21),Op.slotTy,Op.slotOff (hle 22),Op.slotTy,Op.slotOff (hle 23),Op.slotOff (hle 24),Op.slotNF P2_1 d.signedEnum.toNat_lt,trivial⟩
theorem makers_made (d:QaM) {tables:BS->BS×List Nat} {enemy test uniq amb:BS->BS×Nat} {ct nt ce cu cq ca:Nat} {abT abE:Prop} {PT PE PU PQ PA:PP} (sPT:QS PT) (sPE:QS PE) (sPU:QS PU) (sPQ:QS PQ) (sPA:QS PA)
  (hPT:∀S,Inv S->Qbx S->S.buf.length+(ct+4*nt+15)<=500000000->Qdc S (QiK tables S) ⟨abT,PT⟩) (hPE:∀S,Inv S->Qbx S->S.buf.length+ce<=500000000->Qdc S (enemy S) ⟨abE,PE⟩)
  (hPU:∀S,Inv S->Qbx S->S.buf.length+cu<=500000000->d.testTy≠0->¬(false=false/\d.testTy=2)->Qdc S (test S) ⟨False,PU⟩)
  (hPQ:∀S,Inv S->Qbx S->S.buf.length+cq<=500000000->d.uniqTy≠0->¬(false=false/\d.uniqTy=2)->Qdc S (uniq S) ⟨False,PQ⟩)
  (hPA:∀S,Inv S->Qbx S->S.buf.length+ca<=500000000->d.ambTy≠0->¬(true=false/\d.ambTy=2)->Qdc S (amb S) ⟨False,PA⟩):
  MkMade 500000000 (Qet d tables enemy test uniq amb) (QgH d ct nt ce cu cq ca) (mkSpecs d abT PT abE PE PU PQ PA):=by
 refine ⟨⟨?_,?_⟩,⟨?_,?_⟩,⟨?_,?_⟩,⟨?_,?_⟩,⟨?_,?_⟩,⟨?_,?_⟩,⟨?_,?_⟩,⟨?_,?_⟩,⟨?_,?_⟩,⟨?_,?_⟩,⟨?_,?_⟩,⟨?_,?_⟩,⟨?_,?_⟩,⟨?_,?_⟩,⟨?_,?_⟩,⟨?_,?_⟩,⟨?_,?_⟩,⟨?_,?_⟩,⟨?_,?_⟩,⟨?_,?_⟩,⟨?_,?_⟩,⟨?_,?_⟩,⟨?_,?_⟩,⟨?_,?_⟩,⟨?_,?_⟩,trivial⟩
 ·exact fun S hI h2 hB=>Qj3 hI h2 (by omega)
 ·exact Qcf.stable
 ·exact fun S hI h2 hB=>optB_made hI h2 (by omega)
 ·exact Qcf.stable
 ·exact fun S hI h2 hB=>QhB hI h2 (by omega) (fun a b=>hPU S hI h2 (by omega) a b)
 ·exact show QS (UnP false d.testTy d.testColor PU) from UnP.stable sPU
 ·exact fun S hI h2 hB=>QbH hI h2 P2_2 (Yd (fun t:QbB=>Qb1 t.a.toNat t.b.toNat)) (by rw[List.length_map];omega)
 ·exact QaQ.stable
 ·exact fun S hI h2 hB=>strs_made d.strings hI h2 (by omega)
 ·exact Qgp.stable (fun _ _=>Qcf.stable)
 ·exact fun S hI h2 hB=>hPT S hI h2 (by omega)
 ·exact sPT
 ·exact fun S hI h2 hB=>hPE S hI h2 (by omega)
 ·exact sPE
 ·exact fun S hI h2 hB=>optB_made hI h2 (by omega)
 ·exact Qcf.stable
 ·exact fun S hI h2 hB=>optStat_made hI h2 (by omega)
 ·exact fun A A' bs x p hA h s hs=>Qil.stable A A' bs x p hA (h s hs)
 ·exact fun S hI h2 hB=>QbH hI h2 P2_1 (Yd (fun b:Bool=>(rfl:(Qf0 b).length=1)) (l:=d.bools)) (by rw[List.length_map];omega)
 ·exact QaQ.stable
 ·exact fun S hI h2 hB=>strs_made d.strings2 hI h2 (by omega)
 ·exact Qgp.stable (fun _ _=>Qcf.stable)
 ·exact fun S hI h2 hB=>QbH hI h2 QgV (Yd (fun t:QgK=>QbZ t.id.toNat t.dist.toNat)) (by rw[List.length_map];omega)
 ·exact QaQ.stable
 ·exact fun S hI h2 hB=>optB_made hI h2 (by omega)
 ·exact Qcf.stable
 ·exact fun S hI h2 hB=>QbH hI h2 P2_2 (Yd (fun t:QbB=>Qb1 t.a.toNat t.b.toNat)) (by rw[List.length_map];omega)
 ·exact QaQ.stable
 ·exact fun S hI h2 hB=>QbH hI h2 QfV (Yd (fun x=>Qg _ _)) (by rw[List.length_map];omega)
 ·exact QaQ.stable
 ·exact fun S hI h2 hB=>QbH hI h2 QfV (Yd (fun x=>Qg _ _)) (by rw[List.length_map];omega)
 ·exact QaQ.stable
 ·exact fun S hI h2 hB=>optParent_made hI h2 (by omega) d.parent
 ·exact Qec.stable
 ·exact fun S hI h2 hB=>refs_made d.refs hI h2 (by omega)
 ·exact Qgp.stable (fun _ _=>RefP.stable)
 ·exact fun S hI h2 hB=>QbH hI h2 QfV (Yd (fun x=>Qg _ _)) (by rw[List.length_map];omega)
 ·exact QaQ.stable
 ·exact fun S hI h2 hB=>refs_made d.strong hI h2 (by omega)
 ·exact Qgp.stable (fun _ _=>RefP.stable)
 ·exact fun S hI h2 hB=>QbH hI h2 QfV (Yd (fun x=>Qg _ _)) (by rw[List.length_map];omega)
 ·exact QaQ.stable
 ·exact fun S hI h2 hB=>QbH hI h2 QfV (Yd (fun x=>Qg _ _)) (by rw[List.length_map];omega)
 ·exact QaQ.stable
 ·exact fun S hI h2 hB=>QhB hI h2 (by omega) (fun a b=>hPQ S hI h2 (by omega) a b)
 ·exact show QS (UnP false d.uniqTy d.uniqColor PQ) from UnP.stable sPQ
 ·exact fun S hI h2 hB=>QhB hI h2 (by omega) (fun a b=>hPA S hI h2 (by omega) a b)
 ·exact show QS (UnP true d.ambTy d.ambColor PA) from UnP.stable sPA
 ·exact fun S hI h2 hB=>QbH hI h2 P2_1 (Yd (fun b:UInt8=>(rfl:[b].length=1)) (l:=d.enums)) (by rw[List.length_map];omega)
 ·exact QaQ.stable
theorem mkCosts_sum (d:QaM) (ct nt ce cu cq ca:Nat):(QgH d ct nt ce cu cq ca).sum+4000<=QiL d+60*nt+ct+ce+cu+cq+ca:=by
 simp only[QgH,List.sum_cons,List.sum_nil]
 unfold QiL
 omega
structure MkQ (S:BS) (d:QaM) (abT:Prop) (PT:PP) (abE:Prop) (PE PU PQ PA:PP) (q:BS×List Nat):Prop where
 inv:Inv q.1
 inv2:Qbx q.1
 ext:∃x,q.1.buf=x++S.buf
 min:S.min<=q.1.min
 of:OFs q.1 q.2 (mkSpecs d abT PT abE PE PU PQ PA)
 off:∀i,q.2.getD i 0<=q.1.buf.length
 len:q.1.buf.length<=500000000
theorem makers_q (d:QaM) {tables:BS->BS×List Nat} {enemy test uniq amb:BS->BS×Nat} {ct nt ce cu cq ca:Nat} {abT abE:Prop} {PT PE PU PQ PA:PP} (sPT:QS PT) (sPE:QS PE) (sPU:QS PU) (sPQ:QS PQ) (sPA:QS PA)
  (hPT:∀S,Inv S->Qbx S->S.buf.length+(ct+4*nt+15)<=500000000->Qdc S (QiK tables S) ⟨abT,PT⟩) (hPE:∀S,Inv S->Qbx S->S.buf.length+ce<=500000000->Qdc S (enemy S) ⟨abE,PE⟩)
  (hPU:∀S,Inv S->Qbx S->S.buf.length+cu<=500000000->d.testTy≠0->¬(false=false/\d.testTy=2)->Qdc S (test S) ⟨False,PU⟩)
  (hPQ:∀S,Inv S->Qbx S->S.buf.length+cq<=500000000->d.uniqTy≠0->¬(false=false/\d.uniqTy=2)->Qdc S (uniq S) ⟨False,PQ⟩)
  (hPA:∀S,Inv S->Qbx S->S.buf.length+ca<=500000000->d.ambTy≠0->¬(true=false/\d.ambTy=2)->Qdc S (amb S) ⟨False,PA⟩)
  (ht:∀S,Inv S->(Inv (tables S).1/\(tables S).1.buf.length<=S.buf.length+ct/\S.buf.length<=(tables S).1.buf.length)/\(tables S).2.length=nt)
  (he:∀S,Inv S->Y0 S ce (enemy S)) (hu:∀S,Inv S->Y0 S cu (test S)) (hq:∀S,Inv S->Y0 S cq (uniq S)) (ha:∀S,Inv S->Y0 S ca (amb S))
  {S:BS} (hI:Inv S) (h2:Qbx S) (hB:S.buf.length+(QiL d+60*nt+ct+ce+cu+cq+ca)<=500000000):
  MkQ S d abT PT abE PE PU PQ PA (Qy (fun f=>f) (Qet d tables enemy test uniq amb) S):=by
 have hmk:=makers_ok d ht he hu hq ha
 obtain ⟨m1,m2⟩:=MkOk.to hmk
 obtain ⟨g1,g2,g3,g4⟩:=foldMk_ok _ _ m1 m2 S hI
 have hsum:=mkCosts_sum d ct nt ce cu cq ca
 have hb:S.buf.length+(QgH d ct nt ce cu cq ca).sum<=500000000:=by omega
 have hmm:=makers_made d sPT sPE sPU sPQ sPA hPT hPE hPU hPQ hPA
 obtain ⟨f1,⟨x,f2⟩,f3,f4⟩:=foldMk_made (Qet d tables enemy test uniq amb) (QgH d ct nt ce cu cq ca) (mkSpecs d abT PT abE PE PU PQ PA) hmk hmm S hI h2 hb
 have hgl:(Qy (fun f=>f) (Qet d tables enemy test uniq amb) S).1.buf.length<=500000000:=by omega
 clear hsum g2 hB
 generalize Qy (fun f=>f) (Qet d tables enemy test uniq amb) S=q at *
 exact ⟨g1,f1,⟨x,f2⟩,f3,f4,fun i=>by
  rw[List.getD_eq_getElem?_getD]
  cases hh:q.2[i]? with
  |none=>exact Nat.zero_le _
  |some o=>exact g4 o (List.mem_of_getElem? hh),hgl⟩
set_option maxHeartbeats 800000 in
set_option maxRecDepth 4000 in
theorem packT_made (fc:Nat) (d:QaM) {abT abE:Prop} {PT PE PU PQ PA:PP} (sPT:QS PT) (sPE:QS PE) (sPU:QS PU) (sPQ:QS PQ) (sPA:QS PA) {S:BS} {q:BS×List Nat} (h:MkQ S d abT PT abE PE PU PQ PA q):
  Qdc S (endT (runS (Qhi fc d q.2) (Zc 49 q.1))) ⟨False,MonF fc d abT PT abE PE PU PQ PA⟩:=by
 obtain ⟨g1,f1,⟨x,f2⟩,f3,f4,hle,hgl⟩:=h
 have hof:=fun i s h=>f4.get i s h
 obtain ⟨t1,⟨y,t2⟩,t3,t4,t5,vt,t6,t8,t7⟩:=QdY (fs:=Qhi fc d q.2) (ss:=slSpecs fc d q.2) (n:=49) g1 f1 (slotsF_ops fc d hle) (show ([0,1,2,3,5,6,7,8,9,10,11,12,13,14,15,16,17,18,19,20,21,22,23,24,25,26,27,28,29,30,31,32,33,34,35,36,37,38,39,40,41,42,43,44,45,46,47,48]:List Nat).Nodup by decide)
  (fun s hs=>(show ∀o∈([0,1,2,3,5,6,7,8,9,10,11,12,13,14,15,16,17,18,19,20,21,22,23,24,25,26,27,28,29,30,31,32,33,34,35,36,37,38,39,40,41,42,43,44,45,46,47,48]:List Nat),o<49 by decide) s.o (show s.o∈(slSpecs fc d q.2).map Spec.o from List.mem_map_of_mem hs)) (by decide) (slotsF_ok fc d q.2) (show 48<600 by decide) (by omega)
 obtain ⟨s0,s1,s2,s3,s5,s6,s7,s8,s9,s10,s11,s12,s13,s14,s15,s16,s17,s18,s19,s20,s21,s22,s23,s24,s25,s26,s27,s28,s29,s30,s31,s32,s33,s34,s35,s36,s37,s38,s39,s40,s41,s42,s43,s44,s45,s46,s47,s48,_⟩:=t7
 have rr:∀{p vo:Nat} {ab:Prop} {P:PP} (i:Nat),QF _ _ p vt vo (q.2.getD i 0=0) (QgB (q.2.getD i 0))->QS P->(mkSpecs d abT PT abE PE PU PQ PA)[i]?=some ⟨ab,P⟩->QF _ _ p vt vo ab (ZC P):=fun i k z h=>QF.ref' k z (hof i _ h) t2 t3
 have z3:QS (Qcf d.name):=Qcf.stable
 have z5:QS (Qcf d.inventory):=Qcf.stable
 have z8:QS (UnP false d.testTy d.testColor PU):=show QS (UnP false d.testTy d.testColor PU) from UnP.stable sPU
 have z9:QS (QaQ 4 2 (d.test4.map fun t=>Qao t.a.toNat t.b.toNat)):=QaQ.stable
 have z10:QS (Qgp d.strings Qcf):=Qgp.stable (fun _ _=>Qcf.stable)
 have z11:QS (PT):=sPT
 have z12:QS (PE):=sPE
 have z13:QS (Qcf d.nested):=Qcf.stable
 have z14:QS ((fun A bs p=>∀s,d.empty=some s->Qil s A bs p)):=fun A A' bs x p hA h s hs=>Qil.stable A A' bs x p hA (h s hs)
 have z24:QS (QaQ 1 1 (d.bools.map Qf0)):=QaQ.stable
 have z28:QS (Qgp d.strings2 Qcf):=Qgp.stable (fun _ _=>Qcf.stable)
 have z29:QS (QaQ 8 4 (d.abilities.map fun t=>Z4 t.id.toNat t.dist.toNat)):=QaQ.stable
 have z30:QS (Qcf d.flex):=Qcf.stable
 have z31:QS (QaQ 4 2 (d.test5.map fun t=>Qao t.a.toNat t.b.toNat)):=QaQ.stable
 have z32:QS (QaQ 8 8 (d.longs.map Qak)):=QaQ.stable
 have z33:QS (QaQ 8 8 (d.doubles.map Qak)):=QaQ.stable
 have z34:QS (Qec):=Qec.stable
 have z35:QS (Qgp d.refs RefP):=Qgp.stable (fun _ _=>RefP.stable)
 have z37:QS (QaQ 8 8 (d.weak.map Qak)):=QaQ.stable
 have z38:QS (Qgp d.strong RefP):=Qgp.stable (fun _ _=>RefP.stable)
 have z40:QS (QaQ 8 8 (d.coOwnings.map Qak)):=QaQ.stable
 have z42:QS (QaQ 8 8 (d.nonOwnings.map Qak)):=QaQ.stable
 have z44:QS (UnP false d.uniqTy d.uniqColor PQ):=show QS (UnP false d.uniqTy d.uniqColor PQ) from UnP.stable sPQ
 have z46:QS (UnP true d.ambTy d.ambColor PA):=show QS (UnP true d.ambTy d.ambColor PA) from UnP.stable sPA
 have z47:QS (QaQ 1 1 (d.enums.map fun b=>[b])):=QaQ.stable
 refine ⟨t1,⟨y++x,by rw[t2,f2,List.append_assoc]⟩,Nat.le_trans f3 t3,Or.inr ⟨t4,fun h=>h,t5,vt,?_,?_,?_,?_,?_,?_⟩⟩
 ·exact {
   tab:=t6
   none4:=t8 4 (by decide) (fun s hs=>(show ∀o∈([0,1,2,3,5,6,7,8,9,10,11,12,13,14,15,16,17,18,19,20,21,22,23,24,25,26,27,28,29,30,31,32,33,34,35,36,37,38,39,40,41,42,43,44,45,46,47,48]:List Nat),4≠o by decide) s.o (show s.o∈(slSpecs fc d q.2).map Spec.o from List.mem_map_of_mem hs))
   pos0:=s0
   mana:=s1
   hp:=s2
   name:=rr 0 s3 z3 rfl
   inventory:=rr 1 s5 z5 rfl
   color:=s6
   testTy:=s7
   test4:=rr 3 s9 z9 rfl
   strings:=rr 4 s10 z10 rfl
   nested:=rr 7 s13 z13 rfl
   empty:=rr 8 s14 z14 rfl
   bool:=s15
   s32:=s16
   u32:=s17
   s64:=s18
   u64:=s19
   s32a:=s20
   u32a:=s21
   s64a:=s22
   u64a:=s23
   bools:=rr 9 s24 z24 rfl
   f:=s25
   f2:=s26
   f3:=s27
   strings2:=rr 10 s28 z28 rfl
   abilities:=rr 11 s29 z29 rfl
   flex:=rr 12 s30 z30 rfl
   test5:=rr 13 s31 z31 rfl
   longs:=rr 14 s32 z32 rfl
   doubles:=rr 15 s33 z33 rfl
   parent:=rr 16 s34 z34 rfl
   refs:=rr 17 s35 z35 rfl
   singleWeak:=s36
   weak:=rr 18 s37 z37 rfl
   strong:=rr 19 s38 z38 rfl
   coOwning:=s39
   coOwnings:=rr 20 s40 z40 rfl
   nonOwning:=s41
   nonOwnings:=rr 21 s42 z42 rfl
   uniqTy:=s43
   ambTy:=s45
   enums:=rr 24 s47 z47 rfl
   signedEnum:=s48
  }
 ·exact rr 5 s11 z11 rfl
 ·exact rr 6 s12 z12 rfl
 ·exact rr 2 s8 z8 rfl
 ·exact rr 22 s44 z44 rfl
 ·exact rr 23 s46 z46 rfl
mutual
def RdM:Mon->PP
 |.mk d tables enemy test uniq amb=>MonF 49 d (tables=[]) (fun A bs t=>VecP 4 4 tables.length A bs t/\RdL tables A bs (t+4)) (enemy=[]) (Rd1 enemy) (Rd1 test) (Rd1 uniq) (Rd1 amb)
def RdL:List Mon->PP
 |[]=>fun _ _ _=>True
 |m::ms=>fun A bs p=>ZC (RdM m) A bs p/\RdL ms A bs (p+4)
def Rd1:List Mon->PP
 |[]=>fun _ _ _=>False
 |m::_=>RdM m
end
mutual
theorem RdM.stable:∀(m:Mon),QS (RdM m)
 |.mk d tables enemy test uniq amb=>by
  rw[RdM]
  refine MonF.stable (fun A A' bs x p hA h=>⟨VecP.stable A A' bs x p hA h.1,?_⟩) (Rd1.stable enemy) (Rd1.stable test) (Rd1.stable uniq) (Rd1.stable amb)
  rw[Nat.add_assoc]
  exact RdL.stable tables A A' bs x _ hA h.2
theorem RdL.stable:∀(ms:List Mon),QS (RdL ms)
 |[]=>fun A A' bs x p hA h=>by rw[RdL];trivial
 |m::ms=>fun A A' bs x p hA h=>by
  rw[RdL]at h⊢
  exact ⟨ZC.stable (RdM.stable m) A A' bs x p hA h.1,by rw[Nat.add_assoc];exact RdL.stable ms A A' bs x _ hA h.2⟩
theorem Rd1.stable:∀(ms:List Mon),QS (Rd1 ms)
 |[]=>fun A A' bs x p hA h=>by rw[Rd1]at h;exact h.elim
 |m::ms=>by rw[Rd1];exact RdM.stable m
end
theorem RdL_of:∀(ms:List Mon) {A:Nat} {bs:List UInt8} {p:Nat},(∀(i:Nat) a,ms[i]?=some a->ZC (RdM a) A bs (p+4*i))->RdL ms A bs p
 |[],_,_,_,_=>by rw[RdL];trivial
 |m::ms,A,bs,p,h=>by
  rw[RdL]
  refine ⟨h 0 m rfl,RdL_of ms fun i a ha=>?_⟩
  have:=h (i+1) a (by simpa using ha)
  rwa [show p+4*(i+1)=p+4+4*i by omega]at this
theorem RdL_get:∀(ms:List Mon) {A:Nat} {bs:List UInt8} {p:Nat},RdL ms A bs p->∀(i:Nat) a,ms[i]?=some a->ZC (RdM a) A bs (p+4*i)
 |[],_,_,_,_,i,a,h=>by simp at h
 |m::ms,A,bs,p,h,i,a,ha=>by
  rw[RdL]at h
  cases i with
  |zero=>
   have:m=a:=by simpa using ha
   subst this;exact h.1
  |succ i=>
   have:=RdL_get ms h.2 i a (by simpa using ha)
   rwa [show p+4*(i+1)=p+4+4*i by omega]
def UnOk (amb:Bool) (ty:UInt8) (kids:List Mon):Prop:=ty≠0->¬(amb=false/\ty=2)->kids≠[]
mutual
def WfM:Mon->Prop
 |.mk d tables enemy test uniq amb=>(UnOk false d.testTy test/\UnOk false d.uniqTy uniq/\UnOk true d.ambTy amb)/\WfMs tables/\WfMs enemy/\WfMs test/\WfMs uniq/\WfMs amb
def WfMs:List Mon->Prop
 |[]=>True
 |m::ms=>WfM m/\WfMs ms
end
theorem Qfp {kids:List Mon} (h:∀x∈kids,∀S,Inv S->Qbx S->S.buf.length+Qa1 x<=500000000->Qdc S (Zv x S) ⟨False,RdM x⟩) {S:BS} (hI:Inv S) (h2:Qbx S) (hl:S.buf.length+Z6 kids<=500000000) (hne:kids≠[]):Qdc S (Y9 kids S) ⟨False,Rd1 kids⟩:=by
 cases kids with
 |nil=>exact absurd rfl hne
 |cons m ms=>
  rw[Y9,Rd1]
  rw[Z6]at hl
  exact h m List.mem_cons_self S hI h2 (by omega)
def RdMF (fc:Nat):Mon->PP
 |.mk d tables enemy test uniq amb=>MonF fc d (tables=[]) (fun A bs t=>VecP 4 4 tables.length A bs t/\RdL tables A bs (t+4)) (enemy=[]) (Rd1 enemy) (Rd1 test) (Rd1 uniq) (Rd1 amb)
def Qhl (fc:Nat):Mon->BS->BS×Nat
 |.mk d tables enemy test uniq amb,S=>packTF fc d (Qcq tables) (Y9 enemy) (Y9 test) (Y9 uniq) (Y9 amb) S
theorem packMF_49:∀m:Mon,Qhl 49 m=Zv m
 |.mk d tables enemy test uniq amb=>by funext S;rw[Zv,Qhl,packTF_49]
theorem RdMF_49:∀m:Mon,RdMF 49 m=RdM m
 |.mk d tables enemy test uniq amb=>by rw[RdM,RdMF]
theorem VecRd.stable (tables:List Mon):QS fun A bs t=>VecP 4 4 tables.length A bs t/\RdL tables A bs (t+4):=fun A A' bs x p hA h=>⟨VecP.stable A A' bs x p hA h.1,by
 rw[Nat.add_assoc]
 exact RdL.stable tables A A' bs x _ hA h.2⟩
theorem mon_q {d:QaM} {tables enemy test uniq amb:List Mon} (w1:UnOk false d.testTy test) (w2:UnOk false d.uniqTy uniq) (w3:UnOk true d.ambTy amb)
  (kT:∀x∈tables,∀S,Inv S->Qbx S->S.buf.length+Qa1 x<=500000000->Qdc S (Zv x S) ⟨False,RdM x⟩) (kE:∀x∈enemy,∀S,Inv S->Qbx S->S.buf.length+Qa1 x<=500000000->Qdc S (Zv x S) ⟨False,RdM x⟩)
  (kU:∀x∈test,∀S,Inv S->Qbx S->S.buf.length+Qa1 x<=500000000->Qdc S (Zv x S) ⟨False,RdM x⟩) (kQ:∀x∈uniq,∀S,Inv S->Qbx S->S.buf.length+Qa1 x<=500000000->Qdc S (Zv x S) ⟨False,RdM x⟩)
  (kA:∀x∈amb,∀S,Inv S->Qbx S->S.buf.length+Qa1 x<=500000000->Qdc S (Zv x S) ⟨False,RdM x⟩) {S:BS} (hI:Inv S) (h2:Qbx S) (hB:S.buf.length+Qa1 (.mk d tables enemy test uniq amb)<=500000000):
  MkQ S d (tables=[]) (fun A bs t=>VecP 4 4 tables.length A bs t/\RdL tables A bs (t+4)) (enemy=[]) (Rd1 enemy) (Rd1 test) (Rd1 uniq) (Rd1 amb) (Qy (fun f=>f) (Qet d (Qcq tables) (Y9 enemy) (Y9 test) (Y9 uniq) (Y9 amb)) S):=by
  rw[Qa1]at hB
  refine makers_q d (ct:=Z6 tables) (nt:=tables.length) (ce:=Z6 enemy) (cu:=Z6 test) (cq:=Z6 uniq) (ca:=Z6 amb) (VecRd.stable tables) (Rd1.stable enemy) (Rd1.stable test) (Rd1.stable uniq) (Rd1.stable amb)
   ?_ ?_ (fun S hI h2 hb h3 h4=>Qfp kU hI h2 hb (w1 h3 h4)) (fun S hI h2 hb h3 h4=>Qfp kQ hI h2 hb (w2 h3 h4)) (fun S hI h2 hb h3 h4=>Qfp kA hI h2 hb (w3 h3 h4))
   (fun S h=>Qfb tables S h) (fun S h=>Z8 enemy S h) (fun S h=>Z8 test S h) (fun S h=>Z8 uniq S h) (fun S h=>Z8 amb S h) hI h2 (by omega)
  ·intro S hI h2 hb
   have hf:Qcq tables=Qy Zv tables:=funext (QfA tables)
   have hs:(tables.map Qa1).sum=Z6 tables:=costs_sum' tables
   have hp:=(Qfb tables S hI).1
   rw[hf]at hp⊢
   obtain ⟨a,b,c,e⟩:=Qi8 (f:=Zv) (P:=RdM) (c:=Qa1) (B:=500000000) tables (fun m _=>RdM.stable m) (fun x _ S h=>(QgU x S h).1) kT S hI h2 (by omega)
   obtain ⟨q1,q2,q3,q4⟩:=optO_made (q:=Qy Zv tables) (l:=tables) (P:=RdM) (fun m _=>RdM.stable m) h2 hp.1 a b c (Qa0 _ _ _) e (by omega)
   refine ⟨q1,q2,q3,?_⟩
   rcases q4 with q4|⟨q4,q5,q6,q7,q8⟩
   ·exact Or.inl q4
   ·exact Or.inr ⟨q4,q5,q6,q7,RdL_of tables q8⟩
  ·intro S hI h2 hb
   by_cases hn:enemy=[]
   ·subst hn
    rw[Y9];exact Qdc.none h2 rfl
   ·obtain ⟨q1,q2,q3,q4⟩:=Qfp kE hI h2 hb hn
    refine ⟨q1,q2,q3,?_⟩
    rcases q4 with q4|q4
    ·exact q4.2.elim
    ·exact Or.inr ⟨q4.1,hn,q4.2.2⟩
theorem packMF_step (fc:Nat) {d:QaM} {tables enemy test uniq amb:List Mon} (w1:UnOk false d.testTy test) (w2:UnOk false d.uniqTy uniq) (w3:UnOk true d.ambTy amb)
  (kT:∀x∈tables,∀S,Inv S->Qbx S->S.buf.length+Qa1 x<=500000000->Qdc S (Zv x S) ⟨False,RdM x⟩) (kE:∀x∈enemy,∀S,Inv S->Qbx S->S.buf.length+Qa1 x<=500000000->Qdc S (Zv x S) ⟨False,RdM x⟩)
  (kU:∀x∈test,∀S,Inv S->Qbx S->S.buf.length+Qa1 x<=500000000->Qdc S (Zv x S) ⟨False,RdM x⟩) (kQ:∀x∈uniq,∀S,Inv S->Qbx S->S.buf.length+Qa1 x<=500000000->Qdc S (Zv x S) ⟨False,RdM x⟩)
  (kA:∀x∈amb,∀S,Inv S->Qbx S->S.buf.length+Qa1 x<=500000000->Qdc S (Zv x S) ⟨False,RdM x⟩) {S:BS} (hI:Inv S) (h2:Qbx S) (hB:S.buf.length+Qa1 (.mk d tables enemy test uniq amb)<=500000000):
  Qdc S (Qhl fc (.mk d tables enemy test uniq amb) S) ⟨False,RdMF fc (.mk d tables enemy test uniq amb)⟩:=by
  rw[Qhl,RdMF]
  exact packT_made fc d (VecRd.stable tables) (Rd1.stable enemy) (Rd1.stable test) (Rd1.stable uniq) (Rd1.stable amb) (mon_q w1 w2 w3 kT kE kU kQ kA hI h2 hB)
mutual
theorem packM_made:∀(m:Mon),WfM m->∀S,Inv S->Qbx S->S.buf.length+Qa1 m<=500000000->Qdc S (Zv m S) ⟨False,RdM m⟩
 |.mk d tables enemy test uniq amb,hw,S,hI,h2,hB=>by
  rw[WfM]at hw
  obtain ⟨⟨w1,w2,w3⟩,w4,w5,w6,w7,w8⟩:=hw
  rw[<-packMF_49,<-RdMF_49]
  exact packMF_step 49 w1 w2 w3 (ZL tables w4) (ZL enemy w5) (ZL test w6) (ZL uniq w7) (ZL amb w8) hI h2 hB
theorem ZL:∀(ms:List Mon),WfMs ms->∀x∈ms,∀S,Inv S->Qbx S->S.buf.length+Qa1 x<=500000000->Qdc S (Zv x S) ⟨False,RdM x⟩
 |[],_,x,hx=>by simp at hx
 |m::ms,hw,x,hx=>by
  rw[WfMs]at hw
  rcases List.mem_cons.1 hx with hx|hx
  ·rw[hx];exact packM_made m hw.1
  ·exact ZL ms hw.2 x hx
end
structure RootRdF (fc:Nat) (bs:List UInt8) (m:Mon):Prop where
 len:4<=bs.length
 le:le4 bs 0<=bs.length
 al:∃A,P2 A/\4<=A/\bs.length%A=0/\RdMF fc m A bs (le4 bs 0)
 pos:0<le4 bs 0
abbrev RootRd:List UInt8->Mon->Prop:=RootRdF 49
def packAllF (fc:Nat) (m:Mon):List UInt8:=(Qgm (Qhl fc m Qcc).2 (Qhl fc m Qcc).1).buf
theorem packAllF_49 (m:Mon):packAllF 49 m=Z7 m:=by rw[packAllF,Z7,packMF_49]
theorem packMF_ok (fc:Nat):∀(m:Mon) (S:BS),Inv S->Y0 S (Qa1 m) (Qhl fc m S)
 |.mk d tables enemy test uniq amb,S,h=>by
  have:=packTF_ok fc (d:=d) (ct:=Z6 tables) (nt:=tables.length) (ce:=Z6 enemy) (cu:=Z6 test) (cq:=Z6 uniq) (ca:=Z6 amb) (tables:=Qcq tables) (enemy:=Y9 enemy) (test:=Y9 test) (uniq:=Y9 uniq) (amb:=Y9 amb)
   (fun S h=>Qfb tables S h) (fun S h=>Z8 enemy S h) (fun S h=>Z8 test S h) (fun S h=>Z8 uniq S h) (fun S h=>Z8 amb S h) h
  rw[Qhl]
  exact this.1.mono (by rw[Qa1];omega)
theorem RdMF.stable (fc:Nat):∀(m:Mon),QS (RdMF fc m)
 |.mk d tables enemy test uniq amb=>by
  rw[RdMF]
  refine MonF.stable (fun A A' bs x p hA h=>⟨VecP.stable A A' bs x p hA h.1,?_⟩) (Rd1.stable enemy) (Rd1.stable test) (Rd1.stable uniq) (Rd1.stable amb)
  rw[Nat.add_assoc]
  exact RdL.stable tables A A' bs x _ hA h.2
theorem packMF_made (fc:Nat):∀(m:Mon),WfM m->∀S,Inv S->Qbx S->S.buf.length+Qa1 m<=500000000->Qdc S (Qhl fc m S) ⟨False,RdMF fc m⟩
 |.mk d tables enemy test uniq amb,hw,S,hI,h2,hB=>by
  rw[WfM]at hw
  obtain ⟨⟨w1,w2,w3⟩,w4,w5,w6,w7,w8⟩:=hw
  exact packMF_step fc w1 w2 w3 (ZL tables w4) (ZL enemy w5) (ZL test w6) (ZL uniq w7) (ZL amb w8) hI h2 hB
theorem finish_rd {P:PP} (sP:QS P) {q:BS×Nat} (hP:P2 q.1.min) (h4:4<=q.1.min) (hlen':q.1.buf.length<=400000000) (o1:q.2<=q.1.buf.length) (o2:P q.1.min q.1.buf (q.1.buf.length-q.2)):
  4<=(Qgm q.2 q.1).buf.length/\le4 (Qgm q.2 q.1).buf 0<=(Qgm q.2 q.1).buf.length/\((Qgm q.2 q.1).buf.length%q.1.min=0/\P q.1.min (Qgm q.2 q.1).buf (le4 (Qgm q.2 q.1).buf 0))/\0<le4 (Qgm q.2 q.1).buf 0:=by
 have hpd:=Zo (size:=q.1.min) (n:=q.1.buf.length+4) hP.pos
 have hpm:=Qcp (size:=q.1.min) (n:=q.1.buf.length+4) hP.pos
 have h8:=hP.le
 have eb:(prep q.1.min 4 q.1).buf=List.replicate (padOf q.1.min (q.1.buf.length+4)) 0++q.1.buf:=rfl
 have el:(prep q.1.min 4 q.1).buf.length=padOf q.1.min (q.1.buf.length+4)+q.1.buf.length:=by rw[eb];simp
 have e4:(q.1.buf.length+4+padOf q.1.min (q.1.buf.length+4))%4=0:=by
  obtain ⟨k,hk,hke⟩:=hP
  have hc:k=2\/k=3\/k<=1:=by omega
  rcases hc with rfl|rfl|hc
  ·rw[hke]at hpm⊢;omega
  ·rw[hke]at hpm⊢;omega
  ·have:2^k<=2^1:=Nat.pow_le_pow_right (by omega) hc
   omega
 have hz:padOf 4 ((prep q.1.min 4 q.1).buf.length+0)=0:=YZ (by rw[el];omega)
 have e:(Qgm q.2 q.1).buf=leB (((prep 4 0 (prep q.1.min 4 q.1)).buf.length-q.2+4:Nat):Int) 4++(List.replicate (padOf 4 ((prep q.1.min 4 q.1).buf.length+0)) 0++(prep q.1.min 4 q.1).buf):=rfl
 rw[hz,List.replicate_zero,List.nil_append,Qa5,hz,el,eb]at e
 rw[e]
 generalize hW:leB ((0+(padOf q.1.min (q.1.buf.length+4)+q.1.buf.length)-q.2+4:Nat):Int) 4=W
 have hWl:W.length=4:=by rw[<-hW,Qg]
 have hlb:(W++(List.replicate (padOf q.1.min (q.1.buf.length+4)) 0++q.1.buf)).length=4+padOf q.1.min (q.1.buf.length+4)+q.1.buf.length:=by
  simp only[List.length_append,List.length_replicate,hWl];omega
 have h0:le4 (W++(List.replicate (padOf q.1.min (q.1.buf.length+4)) 0++q.1.buf)) 0=4+padOf q.1.min (q.1.buf.length+4)+q.1.buf.length-q.2:=by
  rw[<-hW,QgD (Nat.le_refl _)];omega
 refine ⟨by omega,by omega,⟨by rw[hlb,show 4+padOf q.1.min (q.1.buf.length+4)+q.1.buf.length=q.1.buf.length+4+padOf q.1.min (q.1.buf.length+4) by omega];exact hpm,?_⟩,by omega⟩
 rw[h0,show 4+padOf q.1.min (q.1.buf.length+4)+q.1.buf.length-q.2=(W++List.replicate (padOf q.1.min (q.1.buf.length+4)) 0).length+(q.1.buf.length-q.2) by simp only[List.length_append,List.length_replicate,hWl];omega,<-List.append_assoc]
 exact sP _ _ _ _ _ (Nat.le_refl _) o2
theorem packAllF_rd {fc:Nat} {m:Mon} (hw:WfM m) (hl:Qa1 m<=400000000):RootRdF fc (packAllF fc m) m:=by
 have hp:=packMF_ok fc m Qcc Inv.new
 obtain ⟨m1,m2,m3,m4⟩:=packMF_made fc m hw Qcc Inv.new Qbx.new (by show 0+_<=_;omega)
 have hlen:=hp.len
 have hP:=hp.inv.min
 rcases m4 with m4|⟨_,_,o1,o2⟩
 ·exact m4.2.elim
 unfold packAllF
 generalize Qhl fc m Qcc=q at *
 have hlen':q.1.buf.length<=Qa1 m:=by have h:q.1.buf.length<=0+Qa1 m:=hlen;omega
 have h4:4<=q.1.min:=by
  cases m with
  |mk d tables enemy test uniq amb=>
   rw[RdMF]at o2
   obtain ⟨vt,h,_⟩:=o2
   exact h.tab.al.2.2
 obtain ⟨f1,f2,f3,f4⟩:=finish_rd (RdMF.stable fc m) hP h4 (by omega) o1 o2
 exact ⟨f1,f2,⟨q.1.min,hP,h4,f3⟩,f4⟩
theorem packAll_rd {m:Mon} (hw:WfM m) (hl:Qa1 m<=400000000):RootRd (Z7 m) m:=by
 rw[<-packAllF_49];exact packAllF_rd hw hl
end Go.Proofs
namespace Go.Proofs
open Go Go.Vc
open Tryz (prog)
theorem QF.sc {A k:Nat} {bs:List UInt8} {pos vt vo x d:Nat} {ab:Prop} (h:QF A bs pos vt vo ab (ZK k x)) (hab:ab->x=d):Sc k bs pos vt vo d x:=by
 rcases h with ⟨h1,h2⟩|⟨h1,_,h3⟩
 ·exact Or.inl ⟨h1,hab h2⟩
 ·exact Or.inr ⟨h1,h3.1,h3.2.2.symm⟩
def flR (x d:Nat):Nat:=if FloatKind.f32.format.order x d=some .eq then d else x
theorem QF.there {A:Nat} {bs:List UInt8} {pos vt vo:Nat} {Q:PP} (h:QF A bs pos vt vo False Q):slotAt bs vt vo≠0/\Q A bs (pos+slotAt bs vt vo):=by
 rcases h with ⟨_,h⟩|⟨h1,_,h3⟩
 ·exact h.elim
 ·exact ⟨h1,h3⟩
theorem QF.zero {A:Nat} {bs:List UInt8} {pos vt vo:Nat} {ab:Prop} {Q:PP} (h:QF A bs pos vt vo ab Q) (h0:slotAt bs vt vo=0):ab:=by
 rcases h with h|h
 ·exact h.2
 ·exact absurd h0 h.1
theorem QF.got {A:Nat} {bs:List UInt8} {pos vt vo:Nat} {ab:Prop} {Q:PP} (h:QF A bs pos vt vo ab Q) (h0:slotAt bs vt vo≠0):¬ab/\Q A bs (pos+slotAt bs vt vo):=by
 rcases h with h|h
 ·exact absurd h.1 h0
 ·exact h.2
def Yp (bs:List UInt8) (p:Nat) (xs:List UInt8):Prop:=p+xs.length<=bs.length/\(bs.drop p).take xs.length=xs
theorem Yp.byte {bs xs:List UInt8} {p i:Nat} (h:Yp bs p xs) (hi:i<xs.length):byteN bs (p+i)=byteN xs i:=by
 have e:xs[i]?=bs[p+i]?:=by
  conv=>lhs;rw[<-h.2]
  rw[List.getElem?_take,if_pos hi,List.getElem?_drop]
 unfold byteN
 congr 1
 simp only[List.getD]
 rw[e]
theorem Yp.le1 {bs xs:List UInt8} {p i:Nat} (h:Yp bs p xs) (hi:i+1<=xs.length):byteN bs (p+i)=byteN xs i:=h.byte hi
theorem Yp.le2 {bs xs:List UInt8} {p i:Nat} (h:Yp bs p xs) (hi:i+2<=xs.length):Vc.le2 bs (p+i)=Vc.le2 xs i:=by
 unfold Vc.le2;rw[h.byte (by omega),Nat.add_assoc,h.byte (by omega)]
theorem Yp.le4 {bs xs:List UInt8} {p i:Nat} (h:Yp bs p xs) (hi:i+4<=xs.length):Vc.le4 bs (p+i)=Vc.le4 xs i:=by
 unfold Vc.le4;rw[h.le2 (by omega),Nat.add_assoc,h.le2 (by omega)]
theorem Yp.le8 {bs xs:List UInt8} {p i:Nat} (h:Yp bs p xs) (hi:i+8<=xs.length):Vc.le8 bs (p+i)=Vc.le8 xs i:=by
 unfold Vc.le8;rw[h.le4 (by omega),Nat.add_assoc,h.le4 (by omega)]
theorem Yp.sub {bs xs ys:List UInt8} {p o:Nat} (h:Yp bs p xs) (hy:Yp xs o ys):Yp bs (p+o) ys:=by
 refine ⟨by have:=h.1;have:=hy.1;omega,?_⟩
 have h1:=hy.1
 have e:(bs.drop (p+o)).take ys.length=(((bs.drop p).take xs.length).drop o).take ys.length:=by
  rw[List.drop_take,List.take_take,List.drop_drop,Nat.min_eq_left (by omega)]
 rw[e,h.2,hy.2]
theorem Qcf.at {A:Nat} {bs xs:List UInt8} {o:Nat} (h:ZC (Qcf xs) A bs o):StrAt bs o xs.length/\Yp bs (tgt bs o+4) xs:=by
 obtain ⟨h1,h2,h3,h4,h5,h6,h7,h8⟩:=h
 exact ⟨⟨h1,h6,h4⟩,by omega,h7⟩
theorem QF.str {A:Nat} {bs xs:List UInt8} {pos vt vo:Nat} (h:QF A bs pos vt vo (xs=[]) (ZC (Qcf xs))):∃at_,QhE 1 bs pos vt vo xs.length at_/\Yp bs at_ xs:=by
 rcases h with ⟨h1,h2⟩|⟨h1,_,h3⟩
 ·exact ⟨0,Or.inl ⟨h1,by rw[h2];rfl⟩,by subst h2;exact ⟨Nat.zero_le _,rfl⟩⟩
 ·have h4:=Qcf.at h3
  obtain ⟨h5,h6⟩:=h4
  exact ⟨tgt bs (pos+slotAt bs vt vo)+4,Or.inr ⟨h1,h5.1,rfl,h5.2.1,by have:=h5.2.2;omega,by have:=h5.2.2;omega⟩,h6⟩
theorem QaQ.at {k al:Nat} {items:List (List UInt8)} {A:Nat} {bs:List UInt8} {t:Nat} (hi:∀x∈items,x.length=k) (h:QaQ k al items A bs t) {i:Nat} {x:List UInt8} (hx:items[i]?=some x):Yp bs (t+4+k*i) x:=by
 obtain ⟨⟨h1,h2,h3,h4⟩,h5⟩:=h
 have hf:=Qau items hi
 have hl:i<items.length:=by
  rcases Nat.lt_or_ge i items.length with hh|hh
  ·exact hh
  ·rw[List.getElem?_eq_none hh]at hx;cases hx
 have hB:Yp bs (t+4) items.flatten:=⟨by omega,h5⟩
 have hxl:=hi x (List.mem_of_getElem? hx)
 have hfx:∀(l:List (List UInt8)),(∀y∈l,y.length=k)->∀j,l[j]?=some x->Yp l.flatten (k*j) x:=by
  intro l hl2
  induction l with
  |nil=>intro j hj;simp at hj
  |cons y ys ih=>
   intro j hj
   have hy:=hl2 y List.mem_cons_self
   cases j with
   |zero=>
    have:y=x:=by simpa using hj
    subst this
    rw[List.flatten_cons,Nat.mul_zero]
    exact ⟨by rw[List.length_append];omega,by rw[List.drop_zero,List.take_left]⟩
   |succ j=>
    have:=ih (fun z hz=>hl2 z (List.mem_cons_of_mem _ hz)) j (by simpa using hj)
    rw[List.flatten_cons]
    refine ⟨by rw[List.length_append,Nat.mul_add];have:=this.1;omega,?_⟩
    rw[show k*(j+1)=y.length+k*j by rw[hy,Nat.mul_add];omega,List.drop_append,List.drop_eq_nil_of_le (by omega),List.nil_append,show y.length+k*j-y.length=k*j by omega]
    exact this.2
 exact hB.sub (hfx items hi i hx)
theorem leB1_at {bs:List UInt8} {p:Nat} {x:Nat} (h:Yp bs p (leB (x:Int) 1)):byteN bs p=x%256:=by
 have:=h.byte (i:=0) (by rw[Qg];decide)
 rw[Nat.add_zero]at this
 rw[this,Qf9 (by decide),Qgn];simp
theorem leB2_at {bs:List UInt8} {p:Nat} {x:Nat} (h:Yp bs p (leB (x:Int) 2)):le2 bs p=x%65536:=by
 have:=h.le2 (i:=0) (by rw[Qg];decide)
 rw[Nat.add_zero]at this
 have e:=QiS (x:=x) (Nat.le_refl 2) []
 rw[List.append_nil]at e
 rw[this,e]
theorem leB4_at {bs:List UInt8} {p:Nat} {x:Nat} (h:Yp bs p (leB (x:Int) 4)):le4 bs p=x%4294967296:=by
 have:=h.le4 (i:=0) (by rw[Qg];decide)
 rw[Nat.add_zero]at this
 have e:=QgD (x:=x) (Nat.le_refl 4) []
 rw[List.append_nil]at e
 rw[this,e]
theorem leB8_at {bs:List UInt8} {p:Nat} {x:Nat} (h:Yp bs p (leB (x:Int) 8)):le8 bs p=x%18446744073709551616:=by
 have:=h.le8 (i:=0) (by rw[Qg];decide)
 rw[Nat.add_zero]at this
 have e:=le8_leB (x:=x) []
 rw[List.append_nil]at e
 rw[this,e]
theorem u64B_at {bs:List UInt8} {p:Nat} {x:UInt64} (h:Yp bs p (Qak x)):le8 bs p=x.toNat:=by
 rw[leB8_at h];have:=x.toNat_lt;omega
theorem Yp.left {bs a b:List UInt8} {p:Nat} (h:Yp bs p (a++b)):Yp bs p a:=by
 have:=h.sub (o:=0) (ys:=a) ⟨by rw[List.length_append];omega,by rw[List.drop_zero,List.take_left]⟩
 rwa [Nat.add_zero]at this
theorem Yp.right {bs a b:List UInt8} {p n:Nat} (h:Yp bs p (a++b)) (hn:a.length=n):Yp bs (p+n) b:=by
 subst hn
 exact h.sub ⟨by rw[List.length_append];omega,by rw[List.drop_left,List.take_of_length_le (Nat.le_refl _)]⟩
theorem testB_at {bs:List UInt8} {p:Nat} {t:QbB} (h:Yp bs p (Qao t.a.toNat t.b.toNat)):p+4<=bs.length/\le2 bs (p+0)=t.a.toNat/\byteN bs (p+2)=t.b.toNat:=by
 have hl:=h.1
 rw[Qb1]at hl
 refine ⟨hl,?_,?_⟩
 ·rw[Nat.add_zero,leB2_at h.left];have:=t.a.toNat_lt;omega
 ·rw[leB1_at (h.right (Qg _ _)).left];have:=t.b.toNat_lt;omega
theorem abilB_at {bs:List UInt8} {p:Nat} {t:QgK} (h:Yp bs p (Z4 t.id.toNat t.dist.toNat)):p+8<=bs.length/\le4 bs (p+0)=t.id.toNat/\le4 bs (p+4)=t.dist.toNat:=by
 have hl:=h.1
 rw[QbZ]at hl
 refine ⟨hl,?_,?_⟩
 ·rw[Nat.add_zero,leB4_at h.left];have:=t.id.toNat_lt;omega
 ·rw[leB4_at (h.right (Qg _ _))];have:=t.dist.toNat_lt;omega
theorem vec3_at {bs:List UInt8} {p:Nat} {v:Qa9} (h:Yp bs p (Qff v)):p+32<=bs.length/\le4 bs (p+0)=v.x.toNat/\le4 bs (p+4)=v.y.toNat/\le4 bs (p+8)=v.z.toNat/\le8 bs (p+16)=v.t1.toNat/\byteN bs (p+24)=v.t2.toNat/\le2 bs (p+26)=v.a.toNat/\byteN bs (p+28)=v.b.toNat:=by
 have hl:=h.1
 rw[vec3_len]at hl
 have h1:=h.right (Qg (v.x.toNat:Int) 4)
 have h2:=h1.right (Qg (v.y.toNat:Int) 4)
 have h3:=h2.right (Qg (v.z.toNat:Int) 4)
 have h4:=h3.right (n:=4) rfl
 have h5:=h4.right (Qg (v.t1.toNat:Int) 8)
 have h6:=h5.right (Qg (v.t2.toNat:Int) 1)
 have h7:=h6.right (n:=1) rfl
 have h8:=h7.right (Qg (v.a.toNat:Int) 2)
 have:=v.x.toNat_lt;have:=v.y.toNat_lt;have:=v.z.toNat_lt;have:=v.t1.toNat_lt;have:=v.t2.toNat_lt;have:=v.a.toNat_lt;have:=v.b.toNat_lt
 refine ⟨hl,?_,?_,?_,?_,?_,?_,?_⟩
 ·rw[Nat.add_zero,leB4_at h.left];omega
 ·rw[leB4_at h1.left];omega
 ·rw[leB4_at (x:=v.z.toNat) (p:=p+8) h2.left];omega
 ·rw[leB8_at (x:=v.t1.toNat) (p:=p+16) h4.left];omega
 ·rw[leB1_at (x:=v.t2.toNat) (p:=p+24) h5.left];omega
 ·rw[leB2_at (x:=v.a.toNat) (p:=p+26) h7.left];omega
 ·rw[leB1_at (x:=v.b.toNat) (p:=p+28) h8.left];omega
end Go.Proofs
namespace Go.Proofs
open Go Go.Vc
open Tryz (prog)
def Qbw (P:PP):PP:=fun A bs f=>f+4<=bs.length/\True/\tgt bs f<=bs.length/\P A bs (tgt bs f)
def StrW (xs:List UInt8):PP:=fun _ bs t=>t+4+xs.length<bs.length/\le4 bs t=xs.length/\(bs.drop (t+4)).take xs.length=xs
def Qeo (k:Nat) (items:List (List UInt8)):PP:=fun _ bs t=>t+4+k*items.length<=bs.length/\le4 bs t=items.length/\(bs.drop (t+4)).take items.flatten.length=items.flatten
def VecPW (k n:Nat):PP:=fun _ bs t=>t+4+k*n<=bs.length/\le4 bs t=n
def VecTW {α:Type} (l:List α) (P:α->PP):PP:=fun A bs t=>VecPW 4 l.length A bs t/\∀(i:Nat) a,l[i]?=some a->Qbw (P a) A bs (t+4+4*i)
def RefPW (x:UInt64):PP:=fun _ bs p=>∃vt,VT bs p vt/\Sc 8 bs p vt 4 0 x.toNat
def SimpleW (x:UInt8):PP:=fun _ bs p=>∃vt,VT bs p vt/\Sc 1 bs p vt 4 2 x.toNat
def ParentW:PP:=fun _ _ _=>True
def StatW (d:ZU):PP:=fun A bs p=>∃vt,VT bs p vt/\QF A bs p vt 4 False (Qbw (StrW d.id))/\Sc 8 bs p vt 6 0 d.val.toNat/\Sc 2 bs p vt 8 0 d.count.toNat
def posW (pos:Option Qa9):PP:=fun _ bs p=>match pos with|none=>True|some v=>Yp bs p (Qff v)
def UnW (amb:Bool) (ty color:UInt8) (K:PP):PP:=fun A bs t=>if amb=false/\ty=2 then SimpleW color A bs t else K A bs t
theorem StrW.at {A:Nat} {bs xs:List UInt8} {o:Nat} (h:Qbw (StrW xs) A bs o):StrAt bs o xs.length/\Yp bs (tgt bs o+4) xs:=by
 obtain ⟨h1,_,h3,h4,h6,h7⟩:=h
 exact ⟨⟨h1,h6,h4⟩,by omega,h7⟩
theorem QF.strW {A:Nat} {bs xs:List UInt8} {pos vt vo:Nat} (h:QF A bs pos vt vo (xs=[]) (Qbw (StrW xs))):∃at_,QhE 1 bs pos vt vo xs.length at_/\Yp bs at_ xs:=by
 rcases h with ⟨h1,h2⟩|⟨h1,_,h3⟩
 ·exact ⟨0,Or.inl ⟨h1,by rw[h2];rfl⟩,by subst h2;exact ⟨Nat.zero_le _,rfl⟩⟩
 ·obtain ⟨h5,h6⟩:=StrW.at h3
  exact ⟨tgt bs (pos+slotAt bs vt vo)+4,Or.inr ⟨h1,h5.1,rfl,h5.2.1,by have:=h5.2.2;omega,by have:=h5.2.2;omega⟩,h6⟩
theorem items_at {k:Nat} {items:List (List UInt8)} {bs:List UInt8} {a:Nat} (hi:∀x∈items,x.length=k) (hl:a+k*items.length<=bs.length) (hb:(bs.drop a).take items.flatten.length=items.flatten) {i:Nat} {x:List UInt8} (hx:items[i]?=some x):Yp bs (a+k*i) x:=by
 have hf:=Qau items hi
 have hB:Yp bs a items.flatten:=⟨by omega,hb⟩
 have hfx:∀(l:List (List UInt8)),(∀y∈l,y.length=k)->∀j,l[j]?=some x->Yp l.flatten (k*j) x:=by
  intro l hl2
  induction l with
  |nil=>intro j hj;simp at hj
  |cons y ys ih=>
   intro j hj
   have hy:=hl2 y List.mem_cons_self
   cases j with
   |zero=>
    have:y=x:=by simpa using hj
    subst this
    rw[List.flatten_cons,Nat.mul_zero]
    exact ⟨by rw[List.length_append];omega,by rw[List.drop_zero,List.take_left]⟩
   |succ j=>
    have:=ih (fun z hz=>hl2 z (List.mem_cons_of_mem _ hz)) j (by simpa using hj)
    rw[List.flatten_cons]
    refine ⟨by rw[List.length_append,Nat.mul_add];have:=this.1;omega,?_⟩
    rw[show k*(j+1)=y.length+k*j by rw[hy,Nat.mul_add];omega,List.drop_append,List.drop_eq_nil_of_le (by omega),List.nil_append,show y.length+k*j-y.length=k*j by omega]
    exact this.2
 exact hB.sub (hfx items hi i hx)
theorem QF.vecW {A k:Nat} {bs:List UInt8} {items:List (List UInt8)} {pos vt vo:Nat} (hi:∀x∈items,x.length=k) (h:QF A bs pos vt vo (items=[]) (Qbw (Qeo k items))):
  ∃at_,QhE k bs pos vt vo items.length at_/\∀(i:Nat) x,items[i]?=some x->Yp bs (at_+k*i) x:=by
 rcases h with ⟨h1,h2⟩|⟨h1,_,h3⟩
 ·subst h2
  exact ⟨0,Or.inl ⟨h1,rfl⟩,fun i x h=>by simp at h⟩
 ·obtain ⟨q1,_,q3,v1,v2,v3⟩:=h3
  exact ⟨tgt bs (pos+slotAt bs vt vo)+4,Or.inr ⟨h1,q1,rfl,v2,v1,by omega⟩,fun i x hx=>items_at hi v1 v3 hx⟩
theorem QF.vecTW {α:Type} {A:Nat} {bs:List UInt8} {l:List α} {P:α->PP} {pos vt vo:Nat} (h:QF A bs pos vt vo (l=[]) (Qbw (VecTW l P))):
  ∃at_,QhE 4 bs pos vt vo l.length at_/\∀(i:Nat) a,l[i]?=some a->Qbw (P a) A bs (at_+4*i):=by
 rcases h with ⟨h1,h2⟩|⟨h1,_,h3⟩
 ·subst h2
  exact ⟨0,Or.inl ⟨h1,rfl⟩,fun i x h=>by simp at h⟩
 ·obtain ⟨q1,_,q3,⟨v1,v2⟩,q5⟩:=h3
  exact ⟨tgt bs (pos+slotAt bs vt vo)+4,Or.inr ⟨h1,q1,rfl,v2,v1,by omega⟩,q5⟩
structure OwnW (A:Nat) (bs:List UInt8) (pos vt:Nat) (d:QaM):Prop where
 tab:VT bs pos vt
 pos0:QF A bs pos vt 4 (d.pos=none) (posW d.pos)
 mana:Sc 2 bs pos vt 6 150 d.mana.toNat
 hp:Sc 2 bs pos vt 8 100 d.hp.toNat
 name:QF A bs pos vt 10 (False) (Qbw (StrW d.name))
 inventory:QF A bs pos vt 14 (d.inventory=[]) (Qbw (StrW d.inventory))
 color:Sc 1 bs pos vt 16 8 d.color.toNat
 testTy:Sc 1 bs pos vt 18 0 d.testTy.toNat
 test4:QF A bs pos vt 22 ((d.test4.map fun t=>Qao t.a.toNat t.b.toNat)=[]) (Qbw (Qeo 4 (d.test4.map fun t=>Qao t.a.toNat t.b.toNat)))
 strings:QF A bs pos vt 24 (d.strings=[]) (Qbw (VecTW d.strings StrW))
 nested:QF A bs pos vt 30 (d.nested=[]) (Qbw (StrW d.nested))
 empty:QF A bs pos vt 32 (d.empty=none) (Qbw ((fun A bs p=>∀s,d.empty=some s->StatW s A bs p)))
 bool:Sc 1 bs pos vt 34 0 (if d.bool then 1 else 0)
 s32:Sc 4 bs pos vt 36 0 d.s32.toNat
 u32:Sc 4 bs pos vt 38 0 d.u32.toNat
 s64:Sc 8 bs pos vt 40 0 d.s64.toNat
 u64:Sc 8 bs pos vt 42 0 d.u64.toNat
 s32a:Sc 4 bs pos vt 44 0 d.s32a.toNat
 u32a:Sc 4 bs pos vt 46 0 d.u32a.toNat
 s64a:Sc 8 bs pos vt 48 0 d.s64a.toNat
 u64a:Sc 8 bs pos vt 50 0 d.u64a.toNat
 bools:QF A bs pos vt 52 ((d.bools.map Qf0)=[]) (Qbw (Qeo 1 (d.bools.map Qf0)))
 f:Sc 4 bs pos vt 54 1078530000 d.f.toNat
 f2:Sc 4 bs pos vt 56 1077936128 d.f2.toNat
 f3:Sc 4 bs pos vt 58 0 d.f3.toNat
 strings2:QF A bs pos vt 60 (d.strings2=[]) (Qbw (VecTW d.strings2 StrW))
 abilities:QF A bs pos vt 62 ((d.abilities.map fun t=>Z4 t.id.toNat t.dist.toNat)=[]) (Qbw (Qeo 8 (d.abilities.map fun t=>Z4 t.id.toNat t.dist.toNat)))
 flex:QF A bs pos vt 64 (d.flex=[]) (Qbw (StrW d.flex))
 test5:QF A bs pos vt 66 ((d.test5.map fun t=>Qao t.a.toNat t.b.toNat)=[]) (Qbw (Qeo 4 (d.test5.map fun t=>Qao t.a.toNat t.b.toNat)))
 longs:QF A bs pos vt 68 ((d.longs.map Qak)=[]) (Qbw (Qeo 8 (d.longs.map Qak)))
 doubles:QF A bs pos vt 70 ((d.doubles.map Qak)=[]) (Qbw (Qeo 8 (d.doubles.map Qak)))
 parent:QF A bs pos vt 72 (d.parent=false) (Qbw (ParentW))
 refs:QF A bs pos vt 74 (d.refs=[]) (Qbw (VecTW d.refs RefPW))
 singleWeak:Sc 8 bs pos vt 76 0 d.singleWeak.toNat
 weak:QF A bs pos vt 78 ((d.weak.map Qak)=[]) (Qbw (Qeo 8 (d.weak.map Qak)))
 strong:QF A bs pos vt 80 (d.strong=[]) (Qbw (VecTW d.strong RefPW))
 coOwning:Sc 8 bs pos vt 82 0 d.coOwning.toNat
 coOwnings:QF A bs pos vt 84 ((d.coOwnings.map Qak)=[]) (Qbw (Qeo 8 (d.coOwnings.map Qak)))
 nonOwning:Sc 8 bs pos vt 86 0 d.nonOwning.toNat
 nonOwnings:QF A bs pos vt 88 ((d.nonOwnings.map Qak)=[]) (Qbw (Qeo 8 (d.nonOwnings.map Qak)))
 uniqTy:Sc 1 bs pos vt 90 0 d.uniqTy.toNat
 ambTy:Sc 1 bs pos vt 94 0 d.ambTy.toNat
 enums:QF A bs pos vt 98 ((d.enums.map fun b=>[b])=[]) (Qbw (Qeo 1 (d.enums.map fun b=>[b])))
 signedEnum:Sc 1 bs pos vt 100 255 d.signedEnum.toNat
def flU (x D:UInt32):UInt32:=if FloatKind.f32.format.order x.toNat D.toNat=some .eq then D else x
theorem flU_toNat (x D:UInt32):(flU x D).toNat=flR x.toNat D.toNat:=by unfold flU flR;split<;>rfl
def flD (d:QaM):QaM:={d with f:=flU d.f 1078530000,f2:=flU d.f2 1077936128,f3:=flU d.f3 0}
def flDF (fc:Nat) (d:QaM):QaM:={d with f:=if fc=25 then d.f else flU d.f 1078530000,f2:=if fc=26 then d.f2 else flU d.f2 1077936128,f3:=if fc=27 then d.f3 else flU d.f3 0}
theorem flU_if (p:Prop) [Decidable p] (x D:UInt32):(if p then x else flU x D).toNat=if p then x.toNat else flR x.toNat D.toNat:=by split;rfl;exact flU_toNat x D
theorem QF.scFF {A fc o:Nat} {bs:List UInt8} {pos vt vo x d:Nat} (h:QF A bs pos vt vo (FloatKind.f32.format.order x d=some .eq/\fc≠o) (ZK 4 x)):Sc 4 bs pos vt vo d (if fc=o then x else flR x d):=by
 unfold flR
 rcases h with ⟨h1,h2⟩|⟨h1,h2,h3⟩
 ·rw[if_neg h2.2,if_pos h2.1];exact Or.inl ⟨h1,rfl⟩
 ·by_cases hf:fc=o
  ·rw[if_pos hf];exact Or.inr ⟨h1,h3.1,h3.2.2.symm⟩
  ·rw[if_neg hf,if_neg (fun g=>h2 ⟨g,hf⟩)];exact Or.inr ⟨h1,h3.1,h3.2.2.symm⟩
theorem QF.map {A:Nat} {bs:List UInt8} {pos vt vo:Nat} {ab:Prop} {Q Q':PP} (h:QF A bs pos vt vo ab Q) (hQ:Q A bs (pos+slotAt bs vt vo)->Q' A bs (pos+slotAt bs vt vo)):QF A bs pos vt vo ab Q':=by
 rcases h with h|⟨h1,h2,h3⟩
 ·exact Or.inl h
 ·exact Or.inr ⟨h1,h2,hQ h3⟩
theorem QF.iff {A:Nat} {bs:List UInt8} {pos vt vo:Nat} {ab ab':Prop} {Q:PP} (h:QF A bs pos vt vo ab Q) (hab:ab↔ab'):QF A bs pos vt vo ab' Q:=by
 rw[<-propext hab];exact h
theorem Qds {A:Nat} {bs:List UInt8} {o:Nat} {P P':PP} (hP:P A bs (tgt bs o)->P' A bs (tgt bs o)) (h:ZC P A bs o):Qbw P' A bs o:=⟨h.1,trivial,h.2.2.1.2,hP h.2.2.2⟩
theorem Qhw {A:Nat} {bs:List UInt8} {o:Nat} {xs:List UInt8} (h:ZC (Qcf xs) A bs o):Qbw (StrW xs) A bs o:=Qds (fun ⟨h1,_,h3,h4,_⟩=>⟨h1,h3,h4⟩) h
theorem Qd9 {A k al:Nat} {bs:List UInt8} {o:Nat} {items:List (List UInt8)} (h:ZC (QaQ k al items) A bs o):Qbw (Qeo k items) A bs o:=Qds (fun ⟨⟨v1,_,_,v4⟩,v5⟩=>⟨v1,v4,v5⟩) h
theorem vecTW_of {α:Type} {l:List α} {P P':α->PP} {A:Nat} {bs:List UInt8} {o:Nat} (hP:∀a p,ZC (P a) A bs p->Qbw (P' a) A bs p) (h:ZC (Qgp l P) A bs o):Qbw (VecTW l P') A bs o:=Qds (fun ⟨⟨v1,_,_,v4⟩,v5⟩=>⟨⟨v1,v4⟩,fun i a ha=>hP a _ (v5 i a ha)⟩) h
theorem refPW_of {A:Nat} {bs:List UInt8} {o:Nat} {x:UInt64} (h:ZC (RefP x) A bs o):Qbw (RefPW x) A bs o:=Qds (fun ⟨vt,h1,h2⟩=>⟨vt,h1.ok,h2.sc fun g=>g⟩) h
theorem simpleW_of {A:Nat} {bs:List UInt8} {o:Nat} {x:UInt8} (h:Qin x A bs o):SimpleW x A bs o:=by
 obtain ⟨vt,h1,h2⟩:=h
 exact ⟨vt,h1.ok,h2.sc fun g=>g⟩
theorem statW_of {A:Nat} {bs:List UInt8} {o:Nat} {s:ZU} (h:Qil s A bs o):StatW s A bs o:=by
 obtain ⟨vt,h1,h2,h3,h4⟩:=h
 exact ⟨vt,h1.ok,h2.map Qhw,h3.sc fun g=>g,h4.sc fun g=>g⟩
theorem OwnRd.toW {A:Nat} {bs:List UInt8} {pos vt fc:Nat} {d:QaM} (h:OwnRd A bs pos vt fc d):OwnW A bs pos vt (flDF fc d) where
 tab:=h.tab.ok
 pos0:=h.pos0.map fun g=>by
  unfold posQ at g
  unfold posW
  rw[show (flDF fc d).pos=d.pos from rfl]
  cases hp:d.pos with
  |none=>trivial
  |some v=>rw[hp]at g;show Yp bs _ (Qff v);have g:BytesP 8 (Qff v) A bs (pos+slotAt bs vt 4):=g;exact ⟨g.1,g.2.2⟩
 mana:=h.mana.sc (fun g=>g.1)
 hp:=h.hp.sc (fun g=>g.1)
 name:=h.name.map Qhw
 inventory:=h.inventory.map Qhw
 color:=h.color.sc (fun g=>g.1)
 testTy:=h.testTy.sc (fun g=>by rw[g];rfl)
 test4:=h.test4.map Qd9
 strings:=h.strings.map (vecTW_of fun _ _=>Qhw)
 nested:=h.nested.map Qhw
 empty:=h.empty.map (Qds fun g s hs=>statW_of (g s hs))
 bool:=h.bool.sc (fun g=>g.1)
 s32:=h.s32.sc (fun g=>g.1)
 u32:=h.u32.sc (fun g=>g.1)
 s64:=h.s64.sc (fun g=>g.1)
 u64:=h.u64.sc (fun g=>g.1)
 s32a:=h.s32a.sc (fun g=>g.1)
 u32a:=h.u32a.sc (fun g=>g.1)
 s64a:=h.s64a.sc (fun g=>g.1)
 u64a:=h.u64a.sc (fun g=>g.1)
 bools:=h.bools.map Qd9
 f:=by have:=h.f.scFF;rw[show (if fc=25 then d.f.toNat else flR d.f.toNat 1078530000)=(flDF fc d).f.toNat from (flU_if (fc=25) d.f 1078530000).symm]at this;exact this
 f2:=by have:=h.f2.scFF;rw[show (if fc=26 then d.f2.toNat else flR d.f2.toNat 1077936128)=(flDF fc d).f2.toNat from (flU_if (fc=26) d.f2 1077936128).symm]at this;exact this
 f3:=by have:=h.f3.scFF;rw[show (if fc=27 then d.f3.toNat else flR d.f3.toNat 0)=(flDF fc d).f3.toNat from (flU_if (fc=27) d.f3 0).symm]at this;exact this
 strings2:=h.strings2.map (vecTW_of fun _ _=>Qhw)
 abilities:=h.abilities.map Qd9
 flex:=h.flex.map Qhw
 test5:=h.test5.map Qd9
 longs:=h.longs.map Qd9
 doubles:=h.doubles.map Qd9
 parent:=h.parent.map (Qds fun _=>trivial)
 refs:=h.refs.map (vecTW_of fun _ _=>refPW_of)
 singleWeak:=h.singleWeak.sc (fun g=>g.1)
 weak:=h.weak.map Qd9
 strong:=h.strong.map (vecTW_of fun _ _=>refPW_of)
 coOwning:=h.coOwning.sc (fun g=>g.1)
 coOwnings:=h.coOwnings.map Qd9
 nonOwning:=h.nonOwning.sc (fun g=>g.1)
 nonOwnings:=h.nonOwnings.map Qd9
 uniqTy:=h.uniqTy.sc (fun g=>by rw[g];rfl)
 ambTy:=h.ambTy.sc (fun g=>by rw[g];rfl)
 enums:=h.enums.map Qd9
 signedEnum:=h.signedEnum.sc (fun g=>g.1)
def MonW (d:QaM) (abT:Prop) (PT:PP) (abE:Prop) (PE PU PQ PA:PP):PP:=fun A bs pos=>∃vt,OwnW A bs pos vt d/\
 QF A bs pos vt 26 abT (Qbw PT)/\QF A bs pos vt 28 abE (Qbw PE)/\QF A bs pos vt 20 (d.testTy=0) (Qbw (UnW false d.testTy d.testColor PU))/\
 QF A bs pos vt 92 (d.uniqTy=0) (Qbw (UnW false d.uniqTy d.uniqColor PQ))/\QF A bs pos vt 96 (d.ambTy=0) (Qbw (UnW true d.ambTy d.ambColor PA))
mutual
def RwM:Mon->PP
 |.mk d tables enemy test uniq amb=>MonW d (tables=[]) (fun A bs t=>VecPW 4 tables.length A bs t/\RwL tables A bs (t+4)) (enemy=[]) (Rw1 enemy) (Rw1 test) (Rw1 uniq) (Rw1 amb)
def RwL:List Mon->PP
 |[]=>fun _ _ _=>True
 |m::ms=>fun A bs p=>Qbw (RwM m) A bs p/\RwL ms A bs (p+4)
def Rw1:List Mon->PP
 |[]=>fun _ _ _=>False
 |m::_=>RwM m
end
theorem RwL_get:∀(ms:List Mon) {A:Nat} {bs:List UInt8} {p:Nat},RwL ms A bs p->∀(i:Nat) a,ms[i]?=some a->Qbw (RwM a) A bs (p+4*i)
 |[],_,_,_,_,i,a,h=>by simp at h
 |m::ms,A,bs,p,h,i,a,ha=>by
  rw[RwL]at h
  cases i with
  |zero=>
   have:m=a:=by simpa using ha
   subst this;exact h.1
  |succ i=>
   have:=RwL_get ms h.2 i a (by simpa using ha)
   rwa [show p+4*(i+1)=p+4+4*i by omega]
mutual
def flM:Mon->Mon
 |.mk d tables enemy test uniq amb=>.mk (flD d) (Qh2 tables) (Qh2 enemy) (Qh2 test) (Qh2 uniq) (Qh2 amb)
def Qh2:List Mon->List Mon
 |[]=>[]
 |m::ms=>flM m::Qh2 ms
end
theorem flMs_nil {ms:List Mon}:ms=[]↔Qh2 ms=[]:=by
 cases ms with
 |nil=>rw[Qh2]
 |cons m ms=>rw[Qh2];constructor<;>(intro h;cases h)
theorem flMs_len:∀ms:List Mon,(Qh2 ms).length=ms.length
 |[]=>by rw[Qh2]
 |m::ms=>by rw[Qh2,List.length_cons,List.length_cons,flMs_len ms]
theorem unW_of {amb:Bool} {ty color:UInt8} {K K':PP} {A:Nat} {bs:List UInt8} {t:Nat} (hK:K A bs t->K' A bs t) (h:UnP amb ty color K A bs t):UnW amb ty color K' A bs t:=by
 unfold UnP at h
 unfold UnW
 split
 ·rename_i hc;rw[if_pos hc]at h;exact simpleW_of h
 ·rename_i hc;rw[if_neg hc]at h;exact hK h
def flMF (fc:Nat):Mon->Mon
 |.mk d tables enemy test uniq amb=>.mk (flDF fc d) (Qh2 tables) (Qh2 enemy) (Qh2 test) (Qh2 uniq) (Qh2 amb)
theorem flMF_49:∀m:Mon,flMF 49 m=flM m
 |.mk d tables enemy test uniq amb=>by rw[flM];rfl
theorem RdMF.step (fc:Nat) {d:QaM} {tables enemy test uniq amb:List Mon} {A:Nat} {bs:List UInt8} {p:Nat} (hT:∀p,RdL tables A bs p->RwL (Qh2 tables) A bs p) (hE:∀p,Rd1 enemy A bs p->Rw1 (Qh2 enemy) A bs p)
  (hU:∀p,Rd1 test A bs p->Rw1 (Qh2 test) A bs p) (hQ:∀p,Rd1 uniq A bs p->Rw1 (Qh2 uniq) A bs p) (hA:∀p,Rd1 amb A bs p->Rw1 (Qh2 amb) A bs p) (h:RdMF fc (.mk d tables enemy test uniq amb) A bs p):RwM (flMF fc (.mk d tables enemy test uniq amb)) A bs p:=by
 rw[RdMF]at h
 rw[flMF,RwM]
 obtain ⟨vt,own,sT,sE,sU,sQ,sA⟩:=h
 refine ⟨vt,own.toW,(sT.iff flMs_nil).map (Qds fun ⟨⟨v1,_,_,v4⟩,v5⟩=>⟨?_,hT _ v5⟩),(sE.iff flMs_nil).map (Qds (hE _)),sU.map (Qds (unW_of (hU _))),sQ.map (Qds (unW_of (hQ _))),sA.map (Qds (unW_of (hA _)))⟩
 rw[flMs_len];exact ⟨v1,v4⟩
mutual
theorem RdM.weak:∀(m:Mon) (A:Nat) (bs:List UInt8) (p:Nat),RdM m A bs p->RwM (flM m) A bs p
 |.mk d tables enemy test uniq amb,A,bs,p,h=>by
  rw[<-RdMF_49]at h
  rw[<-flMF_49]
  exact RdMF.step 49 (RdL.weak tables A bs) (Rd1.weak enemy A bs) (Rd1.weak test A bs) (Rd1.weak uniq A bs) (Rd1.weak amb A bs) h
theorem RdL.weak:∀(ms:List Mon) (A:Nat) (bs:List UInt8) (p:Nat),RdL ms A bs p->RwL (Qh2 ms) A bs p
 |[],_,_,_,_=>by rw[Qh2,RwL];trivial
 |m::ms,A,bs,p,h=>by
  rw[RdL]at h
  rw[Qh2,RwL]
  exact ⟨Qds (RdM.weak m A bs _) h.1,RdL.weak ms A bs _ h.2⟩
theorem Rd1.weak:∀(ms:List Mon) (A:Nat) (bs:List UInt8) (p:Nat),Rd1 ms A bs p->Rw1 (Qh2 ms) A bs p
 |[],_,_,_,h=>by rw[Rd1]at h;exact h.elim
 |m::ms,A,bs,p,h=>by
  rw[Rd1]at h
  rw[Qh2,Rw1]
  exact RdM.weak m A bs p h
end
structure RootRw (bs:List UInt8) (m:Mon):Prop where
 len:4<=bs.length
 le:le4 bs 0<=bs.length
 rd:∃A,RwM m A bs (le4 bs 0)
theorem RootRdF.weak {fc:Nat} {bs:List UInt8}:∀{m:Mon},RootRdF fc bs m->RootRw bs (flMF fc m)
 |.mk d tables enemy test uniq amb,h=>by
  obtain ⟨A,_,_,_,hr⟩:=h.al
  exact ⟨h.len,h.le,A,RdMF.step fc (RdL.weak tables A bs) (Rd1.weak enemy A bs) (Rd1.weak test A bs) (Rd1.weak uniq A bs) (Rd1.weak amb A bs) hr⟩
theorem RootRd.weak {bs:List UInt8} {m:Mon} (h:RootRd bs m):RootRw bs (flM m):=by
 rw[<-flMF_49];exact RootRdF.weak h
end Go.Proofs
namespace Go.Proofs
open Go Go.Vc
open Tryz (prog)
structure RS (G0:Cut) (H0:Qe) (t:TypeId) (ob:Obj) (q2 q3:Nat) (G:Cut) (H:Qe) (cells:List Value):Prop where
 ext:Ext G0 H0 G H
 o2:Yo H0 G H q2 ob
 o3:Yo H0 G H q3 (.cells cells.toArray t (0,0))
 ne:q2≠q3
def badq (q2 q3:Nat):Nat->Prop:=fun b=>b=q2\/b=q3
section
variable {G0:Cut} {H0:Qe} {t:TypeId} {ob:Obj} {q2 q3:Nat} {G:Cut} {H:Qe} {cells:List Value} (rs:RS G0 H0 t ob q2 q3 G H cells)
include rs
theorem RS.bad_lt:∀b,badq q2 q3 b->b<H.size:=fun b hb=>by
 rcases hb with rfl|rfl
 ·exact YM rs.o2.get
 ·exact YM rs.o3.get
theorem RS.push (o:Obj):RS G0 H0 t ob q2 q3 G (H.push o) cells:=⟨rs.ext.push o,rs.o2.push o,rs.o3.push o,rs.ne⟩
theorem RS.next {G':Cut} {H':Qe} (h:Ext G H G' H'):RS G0 H0 t ob q2 q3 G' H' cells:=⟨rs.ext.trans h,rs.o2.ext h,rs.o3.ext h,rs.ne⟩
theorem RS.st (i:Nat) (v:Value):RS G0 H0 t ob q2 q3 G (setB H q3 (.cells (cells.set i v).toArray t (0,0))) (cells.set i v):=
 ⟨rs.ext.set rs.o3.out rs.o3.new _,rs.o2.set_ne rs.ne _,rs.o3.set _,rs.ne⟩
theorem RS.ld {i:Nat} {v:Value} (hi:cells[i]?=some v) {k:Value->Prop}:LdK H (.pointer (some ⟨q3,i,none⟩)) k=k v:=
 Ql ((Qk rs.o3.get).trans (by simpa using hi))
theorem RS.store {i:Nat} {v:Value} (hi:i<cells.length) (hv:v.oneCell'=true) {kp:Qe->Prop} (hk:∀H',RS G0 H0 t ob q2 q3 G H' (cells.set i v)->H'=setB H q3 (.cells (cells.set i v).toArray t (0,0))->kp H'):
  Qf (.pointer (some ⟨q3,0,none⟩)) i fun a=>StK H 1 a v kp:=by
 rw[Qm,Qax rs.o3.get (by simpa using hi) (by simp) hv]
 have e:cells.toArray.setIfInBounds i v=(cells.set i v).toArray:=by simp
 rw[e]
 exact hk _ (rs.st i v) rfl
theorem RS.tab {p B:Nat} {bs:List UInt8} {pos:Nat} (h:Tab H0 p B bs pos):Tab H p B bs pos:=h.ext rs.ext.keep.ext
theorem RS.push_item {fld es bts:Nat} {et:TypeId} {zs:Array Value} {cur:Value} {items:List (List Value)} (hc:Cur H0 G H et es cur items (badq q2 q3)) {v:Value} {it:List Value} (hv:v.cells.toList=it) (hl:it.length=es) (hone:∀x∈it,x.oneCell'=true)
  (hes:0<es) (hz:zs.size=es) (hb:0<bts) (hn:(items.length+1)*bts<=140737488355328) (hf:fld<cells.length) {k:Qe->Prop} (hk:∀H' c,RS G0 H0 t ob q2 q3 G H' (cells.set fld c)->Cur H0 G H' et es c (items++[it]) (badq q2 q3)->k H'):
  Q8 H et 1 (YY zs.toList 1) [(0,es,v)] fun y h2=>Qh H h2 (Qbk h2 et es bts zs cur y fun c h3=>Qf (.pointer (some ⟨q3,0,none⟩)) fld fun a=>StK h3 1 a c k):=by
 have hvs:v.cells.size=es:=by rw[<-hl,<-hv];simp
 have hfill:YN (YY zs.toList 1) [(0,es,v)]=some it:=by
  show (if v.cells.size=es/\0+v.cells.size<=(YY zs.toList 1).length then _ else _)=_
  have hrl:(YY zs.toList 1).length=es:=by simp[YY,hz]
  rw[if_pos ⟨hvs,by rw[hrl];omega⟩]
  show some _=_
  rw[hv,hvs,Nat.zero_add,List.drop_eq_nil_of_le (by omega)];simp
 unfold Q8
 simp only[hfill]
 refine Qq (Qay.push _ _).ext ?_
 have rs1:=rs.push (.cells it.toArray et (0,0))
 refine (hc.push _).app rs1.ext (y:=H.size) (yo:=0) (cells:=it.toArray) (ye:=et) (fr:=(0,0)) (it:=it) Qi (by simp[hl]) (by rw[List.drop_zero];simp[<-hl]) hone hes hb hn hz rs1.bad_lt ?_
 intro c H' he hcur hown
 have rs2:RS G0 H0 t ob q2 q3 G H' cells:=⟨he,hown _ _ (Or.inl rfl) rs1.o2,hown _ _ (Or.inr rfl) rs1.o3,rs.ne⟩
 refine rs2.store hf hcur.one ?_
 intro H2 rs3 hH2
 subst hH2
 exact hk _ _ rs3 (hcur.set (Or.inr rfl) _)
end
theorem foldl_bytes (xs:List UInt8):(xs.map fun b=>(b.toNat:Int)).foldl (fun r n=>r.push (UInt8.ofNat n.toNat)) ByteArray.empty=⟨xs.toArray⟩:=by
 have h:∀(xs:List UInt8) (a:List UInt8),(xs.map fun b=>(b.toNat:Int)).foldl (fun r n=>r.push (UInt8.ofNat n.toNat)) (ByteArray.mk a.toArray)=⟨(a++xs).toArray⟩:=by
  intro xs
  induction xs with
  |nil=>intro a;simp
  |cons x xs ih=>
   intro a
   rw[List.map_cons,List.foldl_cons]
   have e:(ByteArray.mk a.toArray).push (UInt8.ofNat ((x.toNat:Int)).toNat)=ByteArray.mk (a++[x]).toArray:=by
    show ByteArray.mk (a.toArray.push _)=_
    congr 1
    simp
   rw[e,ih]
   simp
 exact h xs []
theorem map_u8V (xs:List UInt8):xs.map u8V=(xs.map fun b=>(b.toNat:Int)).map (Value.int .u8):=by rw[List.map_map];rfl
theorem B2SK_of {H:Qe} {a:Addr} {n c:Nat} {xs:List UInt8} {k:Value->Prop} (h:Zk H a 0 n=some (xs.map u8V)) (hk:k (QW xs)):B2SK H (.slice (some a) n c) k:=by
 refine ⟨xs.map fun b=>(b.toNat:Int),by rw[h,map_u8V],?_⟩
 rw[foldl_bytes];exact hk
theorem cellsH_U8s {H:Qe} {B:Nat} {bs:List UInt8} (h:U8s H B 0 bs) {o:Nat}:∀{n i:Nat},o+i+n<=bs.length->Zk H ⟨B,o,none⟩ i n=some (((bs.drop (o+i)).take n).map u8V)
 |0,i,_=>by simp[Zk]
 |n+1,i,hl=>by
  have h1:=h (o+i) (by omega)
  rw[Nat.zero_add]at h1
  rw[Zk,QfP,h1]
  simp only
  rw[cellsH_U8s h (n:=n) (i:=i+1) (by omega)]
  simp only
  have e:bs.drop (o+i)=(bs[o+i]'(by omega))::bs.drop (o+(i+1)):=by rw[<-Nat.add_assoc];exact List.drop_eq_getElem_cons (by omega)
  rw[e,List.take_succ_cons,List.map_cons]
  congr 2
  unfold byteN u8V
  simp[List.getD,List.getElem?_eq_getElem (show o+i<bs.length by omega)]
theorem Tab.str {H:Qe} {p B:Nat} {bs:List UInt8} {pos:Nat} (ht:Tab H p B bs pos) {o n c:Nat} {xs:List UInt8} (hx:Yp bs o xs) (hn:xs.length=n) {k:Value->Prop} (hk:k (QW xs)):B2SK H (bsl B o n c) k:=by
 subst hn
 refine B2SK_of (xs:=xs) ?_ hk
 rw[cellsH_U8s ht.u8 (by have:=hx.1;omega),Nat.add_zero,hx.2]
theorem strV_add (xs ys:List UInt8):(ByteArray.mk xs.toArray)++(ByteArray.mk ys.toArray)=ByteArray.mk (xs++ys).toArray:=by
 apply ByteArray.ext
 rw[ByteArray.data_append]
 simp
theorem RS.push_byte {G0:Cut} {H0:Qe} {t:TypeId} {ob:Obj} {q2 q3:Nat} {G:Cut} {H:Qe} {cells:List Value} (rs:RS G0 H0 t ob q2 q3 G H cells) {P:Program} {fld:Nat} {et st:TypeId} {zs:Array Value} {xs:List UInt8} {b:UInt8} (hz:zs.size=1) (hl:xs.length+1<=9223372036854775807) (hf:fld<cells.length)
  {k:Qe->Prop} (hk:∀H',RS G0 H0 t ob q2 q3 G H' (cells.set fld (QW (xs++[b])))->k H'):
  Q8 H et 1 (YY zs.toList 1) [(0,1,u8V b)] fun y h2=>Qh H h2 (B2SK h2 y fun s=>Qj P .add st (QW xs) s fun c=>Qf (.pointer (some ⟨q3,0,none⟩)) fld fun a=>StK h2 1 a c k):=by
 have hfill:YN (YY zs.toList 1) [(0,1,u8V b)]=some [u8V b]:=by
  have hrl:(YY zs.toList 1).length=1:=by simp[YY,hz]
  show (if (1:Nat)=1/\0+1<=(YY zs.toList 1).length then _ else _)=_
  rw[if_pos ⟨rfl,by omega⟩]
  show some (List.take 0 (YY zs.toList 1)++[u8V b]++List.drop (0+1) (YY zs.toList 1))=_
  rw[List.drop_eq_nil_of_le (by omega)];rfl
 unfold Q8
 simp only[hfill]
 refine Qq (Qay.push _ _).ext ?_
 have rs1:=rs.push (.cells [u8V b].toArray et (0,0))
 refine B2SK_of (xs:=[b]) ?_ ?_
 ·rw[Q0 (Qi) 1 (by simp)];rfl
 ·rw[BinK_stradd (by rw[Zs,Zs];exact hl),strV_add]
  exact rs1.store hf rfl (fun H' h _=>hk H' h)
theorem QhE.n_le {k:Nat} {bs:List UInt8} {pos vt vo n at_:Nat} (h:QhE k bs pos vt vo n at_) (hk:1<=k):n<=bs.length:=by
 rcases h with ⟨_,h⟩|⟨_,_,_,_,h,_⟩
 ·omega
 ·have:1*n<=k*n:=Nat.mul_le_mul_right _ hk
  omega
end Go.Proofs
