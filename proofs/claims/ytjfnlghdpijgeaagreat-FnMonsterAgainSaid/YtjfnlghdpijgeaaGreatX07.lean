/- WHAT IS PROVED: the given statement of FnMonsterAgain, whatever the input: this is part 7 of 13. No conditions. -/
import Derived.Test.YtjfnlghdpijgeaaGreatX06
set_option linter.all false
namespace Go.Proofs
open Go Go.Vc
open Tryz (prog)
abbrev PP:=Nat->List UInt8->Nat->Prop
def QW (P:PP):Prop:=∀A A' bs x p,A<=A'->P A bs p->P A' (x++bs) (x.length+p)
def Alg (A k:Nat) (bs:List UInt8) (p:Nat):Prop:=P2 k/\k<=A/\(bs.length-p)%k=0
theorem Alg.stable {k:Nat}:QW (fun A bs p=>Alg A k bs p):=fun A A' bs x p hA h=>⟨h.1,Nat.le_trans h.2.1 hA,by
 rw[List.length_append,show x.length+bs.length-(x.length+p)=bs.length-p by omega];exact h.2.2⟩
theorem QW.and {P Q:PP} (hP:QW P) (hQ:QW Q):QW (fun A bs p=>P A bs p/\Q A bs p):=fun A A' bs x p hA h=>⟨hP A A' bs x p hA h.1,hQ A A' bs x p hA h.2⟩
theorem leN_append {k:Nat} {x bs:List UInt8} {i:Nat}:leN k (x++bs) (x.length+i)=leN k bs i:=by
 unfold leN
 split
 ·exact Qcj
 ·exact YN
 ·exact QaW
 ·exact le8_append
theorem Qil {x bs:List UInt8} {i:Nat}:tgt (x++bs) (x.length+i)=x.length+tgt bs i:=by
 unfold tgt;rw[QaW];omega
def Qab (k n:Nat):PP:=fun A bs p=>p+k<=bs.length/\Alg A k bs p/\leN k bs p=n
theorem Qab.stable {k n:Nat}:QW (Qab k n):=fun A A' bs x p hA h=>⟨by rw[List.length_append];have:=h.1;omega,Alg.stable A A' bs x p hA h.2.1,by rw[leN_append];exact h.2.2⟩
def QcB (off:Nat):PP:=fun A bs p=>p+4<=bs.length/\Alg A 4 bs p/\off<=bs.length/\tgt bs p=bs.length-off
theorem QcB.stable {off:Nat}:QW (QcB off):=fun A A' bs x p hA h=>⟨by rw[List.length_append];have:=h.1;omega,Alg.stable A A' bs x p hA h.2.1,by rw[List.length_append];have:=h.2.2.1;omega,by
 rw[Qil,h.2.2.2,List.length_append];have:=h.2.2.1;omega⟩
def BytesP (k:Nat) (xs:List UInt8):PP:=fun A bs p=>p+xs.length<=bs.length/\Alg A k bs p/\(bs.drop p).take xs.length=xs
theorem QeN {x bs:List UInt8} {p:Nat}:(x++bs).drop (x.length+p)=bs.drop p:=by
 rw[List.drop_append,List.drop_eq_nil_of_le (by omega),List.nil_append];congr 1;omega
theorem BytesP.stable {k:Nat} {xs:List UInt8}:QW (BytesP k xs):=fun A A' bs x p hA h=>⟨by rw[List.length_append];have:=h.1;omega,Alg.stable A A' bs x p hA h.2.1,by rw[QeN];exact h.2.2⟩
structure Spec where
 o:Nat
 ab:Prop
 q:PP
def Fact (L0:Nat) (S:BS) (s:Spec):Prop:=
 (S.vt.getD s.o 0=0/\s.ab)\/(S.vt.getD s.o 0≠0/\¬s.ab/\L0<S.vt.getD s.o 0/\S.vt.getD s.o 0<=S.buf.length/\s.q S.min S.buf (S.buf.length-S.vt.getD s.o 0))
structure Op (f:BS->BS) (L0:Nat) (s:Spec):Prop where
 st:QW s.q
 ext:∀S,∃x,(f S).buf=x++S.buf
 min:∀S,S.min<=(f S).min
 len:∀S,(f S).buf.length<=S.buf.length+64
 vl:∀S,(f S).vt.length=S.vt.length
 oth:∀S j,j≠s.o->(f S).vt.getD j 0=S.vt.getD j 0
 own:∀S,L0<=S.buf.length->S.buf.length<4000000000->s.o<S.vt.length->S.vt.getD s.o 0=0->Fact L0 (f S) s
theorem Fact.mono {L0:Nat} {S S':BS} {s:Spec} (hs:QW s.q) (h:Fact L0 S s) {x:List UInt8} (hb:S'.buf=x++S.buf) (hm:S.min<=S'.min) (hv:S'.vt.getD s.o 0=S.vt.getD s.o 0):Fact L0 S' s:=by
 unfold Fact at h⊢
 rw[hv]
 rcases h with h|⟨h1,h2,h3,h4,h5⟩
 ·exact Or.inl h
 ·refine Or.inr ⟨h1,h2,h3,by rw[hb,List.length_append];omega,?_⟩
  have:=hs S.min S'.min S.buf x _ hm h5
  rw[hb,show (x++S.buf).length-S.vt.getD s.o 0=x.length+(S.buf.length-S.vt.getD s.o 0) by rw[List.length_append];omega]
  exact this
def OpsOk (L0:Nat):List (BS->BS)->List Spec->Prop
 |[],[]=>True
 |f::fs,s::ss=>Op f L0 s/\OpsOk L0 fs ss
 |_,_=>False
def Facts (L0:Nat) (S:BS):List Spec->Prop
 |[]=>True
 |s::ss=>Fact L0 S s/\Facts L0 S ss
theorem runS_spec {L0:Nat}:∀(fs:List (BS->BS)) (ss:List Spec),OpsOk L0 fs ss->(ss.map Spec.o).Nodup->∀(S:BS),L0<=S.buf.length->S.buf.length+64*fs.length<4000000000->
  (∀s∈ss,s.o<S.vt.length/\S.vt.getD s.o 0=0)->
  (∃x,(Zt fs S).buf=x++S.buf)/\S.min<=(Zt fs S).min/\(Zt fs S).vt.length=S.vt.length/\(∀j,(∀s∈ss,j≠s.o)->(Zt fs S).vt.getD j 0=S.vt.getD j 0)/\Facts L0 (Zt fs S) ss
 |[],[],_,_,S,_,_,_=>⟨⟨[],rfl⟩,Nat.le_refl _,rfl,fun _ _=>rfl,trivial⟩
 |f::fs,s::ss,⟨ho,hok⟩,hnd,S,hL,hb,hs=>by
  rw[List.map_cons,List.nodup_cons]at hnd
  obtain ⟨x,hx⟩:=ho.ext S
  have hl:(f S).buf.length=x.length+S.buf.length:=by rw[hx,List.length_append]
  have hg:=ho.len S
  rw[List.length_cons]at hb
  have hne:∀s'∈ss,s'.o≠s.o:=fun s' hs' h=>hnd.1 (by rw[<-h];exact List.mem_map_of_mem hs')
  obtain ⟨⟨y,hy⟩,hmin,hvl,hoth,hf⟩:=runS_spec fs ss hok hnd.2 (f S) (by omega) (by omega)
   (fun s' hs'=>⟨by rw[ho.vl];exact (hs s' (List.mem_cons_of_mem _ hs')).1,by rw[ho.oth S _ (hne s' hs')];exact (hs s' (List.mem_cons_of_mem _ hs')).2⟩)
  have hown:=ho.own S hL (by omega) (hs s List.mem_cons_self).1 (hs s List.mem_cons_self).2
  refine ⟨⟨y++x,by rw[Zt,hy,hx,List.append_assoc]⟩,Nat.le_trans (ho.min S) hmin,by rw[Zt,hvl,ho.vl],fun j hj=>?_,?_,hf⟩
  ·rw[Zt,hoth j (fun s' hs'=>hj s' (List.mem_cons_of_mem _ hs')),ho.oth S j (hj s List.mem_cons_self)]
  ·exact hown.mono ho.st hy hmin (hoth s.o (fun s' hs' h=>hne s' hs' h.symm))
theorem putN_min (k:Nat) (xs:List UInt8) (S:BS):(putN k xs S).min=Nat.max S.min k:=rfl
theorem putN_vt (k:Nat) (xs:List UInt8) (S:BS):(putN k xs S).vt=S.vt:=rfl
theorem padOf_mod0 {k n:Nat} (hk:0<k):(padOf k (n+0)+n)%k=0:=by
 have:=QcE (size:=k) (n:=n) hk
 rw[Nat.add_zero,Nat.add_comm];exact this
theorem putN_num {k n:Nat} (hk:P2 k) (hn:n<256^k) (S:BS):Qab k n (putN k (leB (n:Int) k) S).min (putN k (leB (n:Int) k) S).buf 0/\(putN k (leB (n:Int) k) S).buf.length=k+padOf k (S.buf.length+0)+S.buf.length:=by
 have e:=Qfm k (leB (n:Int) k) S
 have el:(putN k (leB (n:Int) k) S).buf.length=k+padOf k (S.buf.length+0)+S.buf.length:=by rw[e];simp[Qf];omega
 refine ⟨⟨by omega,⟨hk,Nat.le_max_right _ _,?_⟩,?_⟩,el⟩
 ·rw[el,Nat.sub_zero]
  have:=padOf_mod0 (n:=S.buf.length) hk.pos
  rw[Nat.add_assoc,Nat.add_mod_left];exact this
 ·rw[e]
  obtain ⟨j,hj,rfl⟩:=hk
  have:j=0\/j=1\/j=2\/j=3:=by omega
  rcases this with rfl|rfl|rfl|rfl
  ·show byteN _ _=_
   have h:=Qfl (x:=(n:Int)) (k:=1) (i:=0) (by decide)
   have h2:=Qgu n 0
   have h3:byteN (leB (n:Int) 1++(List.replicate (padOf 1 (S.buf.length+0)) 0++S.buf)) 0=byteN (leB (n:Int) 1) 0:=by
    unfold byteN;congr 1
   show byteN (leB (n:Int) 1++_) 0=n
   rw[h3,h,h2];simp at hn⊢;omega
  ·show le2 (leB (n:Int) 2++_) 0=n
   rw[Qik (Nat.le_refl _)];simp at hn;omega
  ·show le4 (leB (n:Int) 4++_) 0=n
   rw[Qgt (Nat.le_refl _)];simp at hn;omega
  ·show le8 (leB (n:Int) 8++_) 0=n
   rw[le8_leB];simp at hn;omega
theorem slot_own {S:BS} {o:Nat} (h:o<S.vt.length):(slot o S).vt.getD o 0=S.buf.length:=by
 show (S.vt.set o S.buf.length).getD o 0=_
 rw[getD_set,if_pos ⟨rfl,h⟩]
theorem slot_oth {S:BS} {o j:Nat} (h:j≠o):(slot o S).vt.getD j 0=S.vt.getD j 0:=by
 show (S.vt.set o S.buf.length).getD j 0=_
 rw[getD_set,if_neg (fun x=>h x.1.symm)]
theorem slot_vl {S:BS} {o:Nat}:(slot o S).vt.length=S.vt.length:=by simp[slot]
theorem Op.num {L0 k n o:Nat} {ab:Prop} {f:BS->BS} (hk:P2 k) (hn:n<256^k) (h0:ab->∀S,f S=S) (h1:¬ab->∀S,f S=slot o (putN k (leB (n:Int) k) S)):Op f L0 ⟨o,ab,Qab k n⟩:=by
 by_cases hab:ab
 ·have h:=h0 hab
  exact ⟨Qab.stable,fun S=>⟨[],by rw[h];rfl⟩,fun S=>by rw[h];exact Nat.le_refl _,fun S=>by rw[h];omega,fun S=>by rw[h],fun S j _=>by rw[h],fun S _ _ _ hz=>Or.inl ⟨by rw[h];exact hz,hab⟩⟩
 ·have h:=h1 hab
  refine ⟨Qab.stable,fun S=>⟨leB (n:Int) k++List.replicate (padOf k (S.buf.length+0)) 0,by rw[h];show (putN k (leB (n:Int) k) S).buf=_;rw[Qfm];simp⟩,fun S=>?_,fun S=>?_,fun S=>by rw[h,slot_vl,putN_vt],fun S j hj=>by rw[h,slot_oth hj,putN_vt],fun S hL hl ho hz=>Or.inr ?_⟩
  ·rw[h];exact Nat.le_max_left _ _
  ·rw[h]
   show (putN k (leB (n:Int) k) S).buf.length<=_
   have:=(putN_num hk hn S).2
   have:=hk.le
   have:=Zw (size:=k) (n:=S.buf.length+0) hk.pos
   omega
  ·obtain ⟨p1,p2⟩:=putN_num hk hn S
   have hp:=hk.pos
   rw[h]
   have e:(slot o (putN k (leB (n:Int) k) S)).vt.getD o 0=(putN k (leB (n:Int) k) S).buf.length:=slot_own (by rw[putN_vt];exact ho)
   rw[e]
   have e2:(slot o (putN k (leB (n:Int) k) S)).buf=(putN k (leB (n:Int) k) S).buf:=rfl
   refine ⟨by omega,hab,by omega,by rw[e2];exact Nat.le_refl _,?_⟩
   rw[e2,Nat.sub_self];exact p1
theorem Op.slotN {L0 k x d o:Nat} (hk:P2 k) (hx:x<256^k):Op (Proofs.slotN k x d o) L0 ⟨o,x=d,Qab k x⟩:=
 Op.num hk hx (fun h S=>by unfold Proofs.slotN;rw[if_pos h]) (fun h S=>by unfold Proofs.slotN;rw[if_neg h])
theorem Op.slotF {L0 x d o:Nat} (hx:x<256^4):Op (Proofs.slotF x d o) L0 ⟨o,FloatKind.f32.format.order x d=some .eq,Qab 4 x⟩:=
 Op.num P2_4 hx (fun h S=>by unfold Proofs.slotF;rw[h];rfl) (fun h S=>by unfold Proofs.slotF;rw[if_pos (by simpa using h)])
theorem Op.slotTy {L0 o:Nat} {ty:UInt8}:Op (Proofs.slotTy ty o) L0 ⟨o,ty=0,Qab 1 ty.toNat⟩:=
 Op.num P2_1 (by have:=ty.toNat_lt;omega) (fun h S=>by unfold Proofs.slotTy;rw[if_pos h]) (fun h S=>by
  unfold Proofs.slotTy Proofs.slotN
  rw[if_neg h,if_neg (fun h2=>h (UInt8.toNat_inj.1 (by simpa using h2)))])
theorem putOff_off {off:Nat} {S:BS} (h:off<=S.buf.length) (hl:S.buf.length<4000000000):QcB off (putOff off S).min (putOff off S).buf 0/\(putOff off S).buf.length=4+padOf 4 (S.buf.length+0)+S.buf.length:=by
 have hp:=Zw (size:=4) (n:=S.buf.length+0) (by decide)
 have e:(putOff off S).buf=leB (((prep 4 0 S).buf.length-off+4:Nat):Int) 4++(List.replicate (padOf 4 (S.buf.length+0)) 0++S.buf):=rfl
 have el:(putOff off S).buf.length=4+padOf 4 (S.buf.length+0)+S.buf.length:=by rw[e];simp[Qf];omega
 refine ⟨⟨by omega,⟨P2_4,Nat.le_max_right _ _,?_⟩,by omega,?_⟩,el⟩
 ·rw[el,Nat.sub_zero]
  have:=padOf_mod0 (k:=4) (n:=S.buf.length) (by decide)
  omega
 ·unfold tgt
  rw[el,e,Qgt (Nat.le_refl _),Qar]
  omega
theorem Op.slotOff {L0 off o:Nat} (h:off<=L0):Op (Proofs.slotOff off o) L0 ⟨o,off=0,QcB off⟩:=by
 by_cases hab:off=0
 ·have h:∀S,Proofs.slotOff off o S=S:=fun S=>by unfold Proofs.slotOff;rw[if_pos hab]
  exact ⟨QcB.stable,fun S=>⟨[],by rw[h];rfl⟩,fun S=>by rw[h];exact Nat.le_refl _,fun S=>by rw[h];omega,fun S=>by rw[h],fun S j _=>by rw[h],fun S _ _ _ hz=>Or.inl ⟨by rw[h];exact hz,hab⟩⟩
 ·have h:∀S,Proofs.slotOff off o S=slot o (putOff off S):=fun S=>by unfold Proofs.slotOff;rw[if_neg hab]
  refine ⟨QcB.stable,fun S=>⟨_,by rw[h];exact (QdT off S).choose_spec.1⟩,fun S=>?_,fun S=>?_,fun S=>by rw[h,slot_vl];rfl,fun S j hj=>by rw[h,slot_oth hj];rfl,fun S hL hl ho hz=>Or.inr ?_⟩
  ·rw[h];exact Nat.le_max_left _ _
  ·rw[h]
   show (putOff off S).buf.length<=_
   obtain ⟨x,hx,_,hx2⟩:=QdT off S
   rw[hx,List.length_append];omega
  ·obtain ⟨p1,p2⟩:=putOff_off (off:=off) (S:=S) (by omega) hl
   rw[h]
   have e:(slot o (putOff off S)).vt.getD o 0=(putOff off S).buf.length:=slot_own ho
   rw[e]
   have e2:(slot o (putOff off S)).buf=(putOff off S).buf:=rfl
   refine ⟨by omega,hab,by omega,by rw[e2];exact Nat.le_refl _,?_⟩
   rw[e2,Nat.sub_self];exact p1
theorem vec3_len' (v:Qav):(QgU v).length=32:=by simp[QgU,vec3B,Qf]
def posQ (pos:Option Qav):PP:=fun A bs p=>match pos with|none=>True|some v=>BytesP 8 (QgU v) A bs p
theorem Op.slotPos {L0:Nat} {pos:Option Qav}:Op (Proofs.slotPos pos) L0 ⟨0,pos=none,posQ pos⟩:=by
 have hst:QW (posQ pos):=fun A A' bs x p hA h=>by
  unfold posQ at h⊢
  cases pos with
  |none=>trivial
  |some v=>exact BytesP.stable A A' bs x p hA h
 cases pos with
 |none=>exact ⟨hst,fun S=>⟨[],rfl⟩,fun S=>Nat.le_refl _,fun S=>Nat.le_add_right _ _,fun S=>rfl,fun S j _=>rfl,fun S _ _ _ hz=>Or.inl ⟨hz,rfl⟩⟩
 |some v=>
  have hv:=vec3_len' v
  have hb:∀S:BS,(place (QgU v) (prep 8 32 S)).buf=QgU v++(List.replicate (padOf 8 (S.buf.length+32)) 0++S.buf):=fun S=>rfl
  have hl:∀S:BS,(place (QgU v) (prep 8 32 S)).buf.length=32+padOf 8 (S.buf.length+32)+S.buf.length:=fun S=>by rw[hb];simp[hv];omega
  have h:∀S:BS,Proofs.slotPos (some v) S=slot 0 (place (QgU v) (prep 8 32 S)):=fun S=>by
   show slotStruct (place (QgU v) (prep 8 32 S)).buf.length 0 (place (QgU v) (prep 8 32 S))=_
   unfold slotStruct;rw[if_neg (by have:=hl S;omega)]
  refine ⟨hst,fun S=>⟨QgU v++List.replicate (padOf 8 (S.buf.length+32)) 0,by rw[h];show (place (QgU v) (prep 8 32 S)).buf=_;rw[hb];simp⟩,fun S=>by rw[h];exact Nat.le_max_left _ _,fun S=>by rw[h];have:=hl S;have:=Zw (size:=8) (n:=S.buf.length+32) (by decide);show (place (QgU v) (prep 8 32 S)).buf.length<=_;omega,fun S=>by rw[h,slot_vl];rfl,fun S j hj=>by rw[h,slot_oth hj];rfl,fun S hL hlt ho hz=>Or.inr ?_⟩
  rw[h]
  have e:(slot 0 (place (QgU v) (prep 8 32 S))).vt.getD 0 0=(place (QgU v) (prep 8 32 S)).buf.length:=slot_own ho
  have e2:(slot 0 (place (QgU v) (prep 8 32 S))).buf=(place (QgU v) (prep 8 32 S)).buf:=rfl
  have:=hl S
  rw[e]
  refine ⟨by omega,by simp,by omega,by rw[e2];exact Nat.le_refl _,?_⟩
  rw[e2,Nat.sub_self]
  show BytesP 8 (QgU v) _ _ _
  refine ⟨by omega,⟨Qg6,Nat.le_max_right _ _,?_⟩,?_⟩
  ·have:=QcE (size:=8) (n:=S.buf.length+32) (by decide)
   rw[hl,Nat.sub_zero];omega
  ·rw[hb,List.drop_zero,List.take_left]
end Go.Proofs
namespace Go.Proofs
open Go Go.Vc
open Tryz (prog)
theorem wrEnt_minle (oo:Nat):∀(vs:List Nat) (S:BS),S.min<=(Qa2 oo vs S).min
 |[],S=>Nat.le_refl _
 |v::vs,S=>Nat.le_trans (wrEnt_minle oo vs S) (Nat.le_max_left _ _)
theorem endObj_min (S:BS):S.min<=(endObj S).min/\4<=(endObj S).min:=by
 have h:S.min<=(putOff 0 S).min/\4<=(putOff 0 S).min:=⟨Nat.le_max_left _ _,Nat.le_max_right _ _⟩
 rw[QgH S _ _ _ _ rfl rfl rfl rfl]
 generalize putOff 0 S=S1 at *
 generalize S1.vt.take (Z4 S1.vt)=vt
 split
 ·have h2:S1.min<=(putN 2 (leB ((2*(vt.length+2):Nat):Int) 2) (putN 2 (leB ((S1.buf.length-S.oe:Nat):Int) 2) (Qa2 S1.buf.length vt {S1 with vt:=vt}))).min:=by
   refine Nat.le_trans ?_ (Nat.le_max_left _ _)
   refine Nat.le_trans ?_ (Nat.le_max_left _ _)
   exact wrEnt_minle S1.buf.length vt {S1 with vt:=vt}
  exact ⟨Nat.le_trans h.1 h2,Nat.le_trans h.2 h2⟩
 ·exact h
structure TabOk (A:Nat) (bs:List UInt8) (pos vt n:Nat):Prop where
 ok:VT bs pos vt
 w4:4<=le2 bs (vt+2)/\pos+le2 bs (vt+2)<=bs.length
 wl:∀j,j<n->slotAt bs vt (4+2*j)<le2 bs (vt+2)
 al:(bs.length-pos)%4=0/\(bs.length-vt)%2=0/\4<=A
theorem VT.shift {bs x:List UInt8} {pos vt:Nat} (h:VT bs pos vt):VT (x++bs) (x.length+pos) (x.length+vt):=by
 refine ⟨by rw[List.length_append];have:=h.hp;omega,?_,?_,?_,?_⟩
 ·rw[QaW];have:=h.hs;omega
 ·rw[YN,List.length_append];have:=h.he;omega
 ·rw[YN];exact h.h4
 ·rw[YN];exact h.ev
theorem Qj8 {bs x:List UInt8} {vt vo:Nat}:slotAt (x++bs) (x.length+vt) vo=slotAt bs vt vo:=by
 unfold slotAt
 rw[YN,show x.length+vt+vo=x.length+(vt+vo) by omega,YN]
theorem TabOk.shift {A A':Nat} {bs x:List UInt8} {pos vt n:Nat} (hA:A<=A') (h:TabOk A bs pos vt n):TabOk A' (x++bs) (x.length+pos) (x.length+vt) n:=by
 obtain ⟨h1,h2,h3,h4⟩:=h
 refine ⟨h1.shift,?_,?_,?_⟩
 ·rw[show x.length+vt+2=x.length+(vt+2) by omega,YN,List.length_append];omega
 ·intro j hj
  rw[Qj8,show x.length+vt+2=x.length+(vt+2) by omega,YN];exact h3 j hj
 ·rw[List.length_append,show x.length+bs.length-(x.length+pos)=bs.length-pos by omega,show x.length+bs.length-(x.length+vt)=bs.length-vt by omega]
  omega
def Q6 (A:Nat) (bs:List UInt8) (pos vt vo:Nat) (ab:Prop) (Q:PP):Prop:=
 (slotAt bs vt vo=0/\ab)\/(slotAt bs vt vo≠0/\¬ab/\Q A bs (pos+slotAt bs vt vo))
theorem Q6.shift {A A':Nat} {bs x:List UInt8} {pos vt vo:Nat} {ab:Prop} {Q:PP} (hQ:QW Q) (hA:A<=A') (h:Q6 A bs pos vt vo ab Q):Q6 A' (x++bs) (x.length+pos) (x.length+vt) vo ab Q:=by
 unfold Q6 at h⊢
 rw[Qj8]
 rcases h with h|⟨h1,h2,h3⟩
 ·exact Or.inl h
 ·exact Or.inr ⟨h1,h2,by rw[Nat.add_assoc];exact hQ A A' bs x _ hA h3⟩
def QaX (P:PP):PP:=fun A bs f=>f+4<=bs.length/\Alg A 4 bs f/\tgt bs f<=bs.length/\P A bs (tgt bs f)
theorem QaX.stable {P:PP} (hP:QW P):QW (QaX P):=fun A A' bs x p hA h=>⟨by rw[List.length_append];have:=h.1;omega,Alg.stable A A' bs x p hA h.2.1,by rw[Qil,List.length_append];have:=h.2.2.1;omega,by
 rw[Qil];exact hP A A' bs x _ hA h.2.2.2⟩
theorem QaX.mono {P Q:PP} {A:Nat} {bs:List UInt8} {f:Nat} (h:QaX P A bs f) (hPQ:P A bs (tgt bs f)->Q A bs (tgt bs f)):QaX Q A bs f:=⟨h.1,h.2.1,h.2.2.1,hPQ h.2.2.2⟩
structure MSpec where
 ab:Prop
 p:PP
def OF (S:BS) (o:Nat) (s:MSpec):Prop:=(o=0/\s.ab)\/(o≠0/\¬s.ab/\o<=S.buf.length/\s.p S.min S.buf (S.buf.length-o))
theorem OF.mono {S S':BS} {o:Nat} {s:MSpec} (hs:QW s.p) (h:OF S o s) {x:List UInt8} (hb:S'.buf=x++S.buf) (hm:S.min<=S'.min):OF S' o s:=by
 rcases h with h|⟨h1,h2,h3,h4⟩
 ·exact Or.inl h
 ·refine Or.inr ⟨h1,h2,by rw[hb,List.length_append];omega,?_⟩
  rw[hb,show (x++S.buf).length-o=x.length+(S.buf.length-o) by rw[List.length_append];omega]
  exact hs S.min S'.min S.buf x _ hm h4
theorem Q6.ref {A:Nat} {bs:List UInt8} {pos vt vo off:Nat} (h:Q6 A bs pos vt vo (off=0) (QcB off)) {S:BS} {s:MSpec} (hs:QW s.p) (ho:OF S off s) {y:List UInt8} (hb:bs=y++S.buf) (hm:S.min<=A):Q6 A bs pos vt vo s.ab (QaX s.p):=by
 rcases h with ⟨h1,h2⟩|⟨h1,h2,h3⟩
 ·rcases ho with ⟨_,h⟩|⟨h,_⟩
  ·exact Or.inl ⟨h1,h⟩
  ·exact absurd h2 h
 ·rcases ho with ⟨h,_⟩|⟨_,g2,g3,g4⟩
  ·exact absurd h h2
  ·obtain ⟨q1,q2,q3,q4⟩:=h3
   refine Or.inr ⟨h1,g2,q1,q2,by rw[q4];omega,?_⟩
   rw[q4,hb,show (y++S.buf).length-off=y.length+(S.buf.length-off) by rw[List.length_append];omega]
   exact hs S.min A S.buf y _ hm g4
def SlotFs (A:Nat) (bs:List UInt8) (pos vt:Nat):List Spec->Prop
 |[]=>True
 |s::ss=>Q6 A bs pos vt (4+2*s.o) s.ab s.q/\SlotFs A bs pos vt ss
theorem Facts.mem {L0:Nat} {S:BS}:∀{ss:List Spec},Facts L0 S ss->∀s∈ss,Fact L0 S s
 |[],_,_,hs=>by simp at hs
 |s::ss,h,s',hs=>by
  rcases List.mem_cons.1 hs with rfl|hs
  ·exact h.1
  ·exact Facts.mem h.2 s' hs
theorem OpsOk.stable {L0:Nat}:∀{fs:List (BS->BS)} {ss:List Spec},OpsOk L0 fs ss->∀s∈ss,QW s.q
 |[],[],_,_,hs=>by simp at hs
 |[],_::_,h,_,_=>h.elim
 |_::_,[],h,_,_=>h.elim
 |f::fs,s::ss,h,s',hs=>by
  rcases List.mem_cons.1 hs with rfl|hs
  ·exact h.1.st
  ·exact OpsOk.stable h.2 s' hs
structure Tabled (S:BS) (q:BS×Nat) (n:Nat) (ss:List Spec):Prop where
 inv2:QdI q.1
 ext:∃x,q.1.buf=x++S.buf
 min:S.min<=q.1.min
 pos:q.2≠0
 le:q.2<=q.1.buf.length
 tab:∃vt,TabOk q.1.min q.1.buf (q.1.buf.length-q.2) vt n/\SlotFs q.1.min q.1.buf (q.1.buf.length-q.2) vt ss
theorem QdZ {S:BS} {fs:List (BS->BS)} {ss:List Spec} {n:Nat} (hI:Inv S) (h2:QdI S) (hok:OpsOk S.buf.length fs ss) (hnd:(ss.map Spec.o).Nodup) (ho:∀s∈ss,s.o<n) (hn:n<600)
  (hin:∀f∈fs,∀c S',YA S n c S'->YA S n (c+64) (f S')) (hfl:fs.length<600) (hl:S.buf.length<600000000):Tabled S (endT (Zt fs (Qs n S))) n ss:=by
 have h0:=YA.start (n:=n) hI.min
 have hr:=runS_ok fs hin 0 _ h0
 have hz:∀j,(Qs n S).vt.getD j 0=0:=fun j=>by
  simp only[Qs,List.getD,List.getElem?_replicate]
  split<;>simp
 obtain ⟨⟨x,hx⟩,hmin,hvl,hoth,hf⟩:=runS_spec fs ss hok hnd (Qs n S) (Nat.le_refl _) (by show S.buf.length+_<_;omega) (fun s hs=>⟨by rw[h0.vtl];exact ho s hs,hz _⟩)
 generalize Zt fs (Qs n S)=T at *
 have hlen:=hr.len
 have hg:∀j,T.vt.getD j 0=0\/S.buf.length<T.vt.getD j 0:=fun j=>by
  by_cases hj:∀s∈ss,j≠s.o
  ·exact Or.inl (by rw[hoth j hj];exact hz j)
  ·have:∃s∈ss,j=s.o:=by
    refine Classical.byContradiction fun hc=>hj fun s hs he=>hc ⟨s,hs,he⟩
   obtain ⟨s,hs,rfl⟩:=this
   rcases hf.mem s hs with h|h
   ·exact Or.inl h.1
   ·exact Or.inr h.2.2.1
 obtain ⟨e1,⟨y,hy⟩,e2,e3,vt,e4⟩:=endObj_read hr hg hI h2 (by omega) (by omega) (by omega)
 have em:=endObj_min T
 have hpos:(endObj T).buf.length-((endObj T).buf.length-(putOff 0 T).buf.length)=(putOff 0 T).buf.length:=by omega
 refine ⟨e1,⟨y++x,by show (endObj T).buf=_;rw[hy,hx];exact (List.append_assoc _ _ _).symm⟩,Nat.le_trans hmin em.1,by show (putOff 0 T).buf.length≠0;omega,e2,vt,⟨e4.ok,e4.w4,e4.wl,e4.al.1,e4.al.2,em.2⟩,?_⟩
 have key:∀s,s.o<n->QW s.q->Fact S.buf.length T s->Q6 (endObj T).min (endObj T).buf ((endObj T).buf.length-(putOff 0 T).buf.length) vt (4+2*s.o) s.ab s.q:=fun s hs hst h=>by
  have hsl:=e4.sl s.o hs
  have hpl:=e4.pl s.o hs
  rw[hpos]at hsl hpl
  rcases h with ⟨q1,q2⟩|⟨q1,q2,q3,q4,q5⟩
  ·rw[if_pos q1]at hsl
   exact Or.inl ⟨hsl,q2⟩
  ·rw[if_neg q1]at hsl
   have:=hpl q1
   refine Or.inr ⟨by rw[hsl];omega,q2,?_⟩
   have e:(endObj T).buf.length-(putOff 0 T).buf.length+slotAt (endObj T).buf vt (4+2*s.o)=y.length+(T.buf.length-T.vt.getD s.o 0):=by
    have:(endObj T).buf.length=y.length+T.buf.length:=by rw[hy,List.length_append]
    rw[hsl];omega
   rw[e,hy]
   exact hst T.min _ T.buf y _ em.1 q5
 have hst:=hok.stable
 clear hok hnd hoth
 revert ss
 intro ss ho hf hst
 induction ss with
 |nil=>trivial
 |cons s ss ih=>exact ⟨key s (ho s List.mem_cons_self) (hst s List.mem_cons_self) hf.1,ih (fun s' h=>ho s' (List.mem_cons_of_mem _ h)) hf.2 (fun s' h=>hst s' (List.mem_cons_of_mem _ h))⟩
structure Qf8 (S:BS) (q:BS×Nat) (s:MSpec):Prop where
 inv2:QdI q.1
 ext:∃x,q.1.buf=x++S.buf
 min:S.min<=q.1.min
 of:OF q.1 q.2 s
theorem Qf8.none {S:BS} (h:QdI S) {s:MSpec} (hs:s.ab):Qf8 S (S,0) s:=⟨h,⟨[],rfl⟩,Nat.le_refl _,Or.inl ⟨rfl,hs⟩⟩
def Qct (xs:List UInt8):PP:=fun A bs t=>t+4+xs.length<bs.length/\Alg A 4 bs t/\le4 bs t=xs.length/\(bs.drop (t+4)).take xs.length=xs/\byteN bs (t+4+xs.length)=0
theorem Qct.stable {xs:List UInt8}:QW (Qct xs):=fun A A' bs x p hA h=>by
 obtain ⟨h1,h2,h3,h4,h5⟩:=h
 refine ⟨by rw[List.length_append];omega,Alg.stable A A' bs x p hA h2,by rw[QaW];exact h3,?_,?_⟩
 ·rw[Nat.add_assoc,QeN];exact h4
 ·rw[show x.length+p+4+xs.length=x.length+(p+4+xs.length) by omega,Qcj];exact h5
theorem QeF {S:BS} (hI:Inv S) (h:QdI S) {xs:List UInt8} (hx:xs.length<4000000000):Qf8 S (createStr xs S,(createStr xs S).buf.length) ⟨False,Qct xs⟩:=by
 have e:=QfE xs S
 have el:=Qic xs S
 have hp:=QcE (size:=4) (n:=S.buf.length+(xs.length+1)) (by decide)
 have hmin:4<=(createStr xs S).min:=Nat.le_max_right S.min 4
 refine ⟨h.ext hI.vts rfl (x:=leB (xs.length:Int) 4++(xs++([0]++List.replicate (padOf 4 (S.buf.length+(xs.length+1))) 0))) (by rw[e];simp),⟨leB (xs.length:Int) 4++(xs++([0]++List.replicate (padOf 4 (S.buf.length+(xs.length+1))) 0)),by show (createStr xs S).buf=_;rw[e];simp⟩,Nat.le_max_left _ _,Or.inr ⟨by show _≠0;omega,fun h=>h,Nat.le_refl _,?_⟩⟩
 show Qct xs _ _ ((createStr xs S).buf.length-(createStr xs S).buf.length)
 rw[Nat.sub_self]
 refine ⟨by rw[el];omega,⟨P2_4,hmin,by rw[el];omega⟩,by rw[e,Qgt (Nat.le_refl _)];omega,?_,?_⟩
 ·have h4:(leB (xs.length:Int) 4).length=0+4:=Qf _ _
  rw[e,<-h4,List.drop_left,List.take_left]
 ·have h4:0+4+xs.length=(leB (xs.length:Int) 4++xs).length+0:=by rw[List.length_append,Qf];omega
  rw[e,<-List.append_assoc,h4,Qcj];rfl
theorem QiV {S:BS} (hI:Inv S) (h:QdI S) {xs:List UInt8} (hx:xs.length<4000000000):Qf8 S (Qbo xs S) ⟨False,Qct xs⟩:=QeF hI h hx
theorem optB_made {S:BS} (hI:Inv S) (h:QdI S) {xs:List UInt8} (hx:xs.length<4000000000):Qf8 S (optB xs S) ⟨xs=[],Qct xs⟩:=by
 unfold optB
 by_cases he:xs=[]
 ·rw[if_pos he];exact Qf8.none h he
 ·rw[if_neg he]
  obtain ⟨a,b,c,d⟩:=QeF hI h hx
  refine ⟨a,b,c,?_⟩
  rcases d with d|d
  ·exact d.2.elim
  ·exact Or.inr ⟨d.1,he,d.2.2⟩
def VecP (k al n:Nat):PP:=fun A bs t=>t+4+k*n<=bs.length/\Alg A 4 bs t/\Alg A al bs (t+4)/\le4 bs t=n
theorem VecP.stable {k al n:Nat}:QW (VecP k al n):=fun A A' bs x p hA h=>by
 obtain ⟨h1,h2,h3,h4⟩:=h
 refine ⟨by rw[List.length_append];omega,Alg.stable A A' bs x p hA h2,by rw[Nat.add_assoc];exact Alg.stable A A' bs x _ hA h3,by rw[QaW];exact h4⟩
def QaD (k al:Nat) (items:List (List UInt8)):PP:=fun A bs t=>VecP k al items.length A bs t/\(bs.drop (t+4)).take items.flatten.length=items.flatten
theorem QaD.stable {k al:Nat} {items:List (List UInt8)}:QW (QaD k al items):=fun A A' bs x p hA h=>⟨VecP.stable A A' bs x p hA h.1,by rw[Nat.add_assoc,QeN];exact h.2⟩
theorem vecS_made {S:BS} (hI:Inv S) (h:QdI S) {es al:Nat} {items:List (List UInt8)} (hal:P2 al) (hi:∀x∈items,x.length=es) (hn:items.length<4000000000):
  Qf8 S (vecS es al items S,(vecS es al items S).buf.length) ⟨False,QaD es al items⟩/\
   (vecS es al items S).buf=leB (items.length:Int) 4++(items.flatten++(QF es items.length al S).buf)/\∃x,(QF es items.length al S).buf=x++S.buf:=by
 obtain ⟨x,hx,hxl⟩:=Qdx es items.length al S hal.pos
 have hf:=QaG items hi
 have e:(vecS es al items S).buf=leB (items.length:Int) 4++(items.flatten++(QF es items.length al S).buf):=rfl
 have el:(vecS es al items S).buf.length=4+es*items.length+(QF es items.length al S).buf.length:=by rw[e];simp only[List.length_append,Qf,hf];omega
 have hm:=QgB es items.length al S
 obtain ⟨k,hk,hke⟩:=hal
 have ha:=QeR (es:=es) (n:=items.length) (al:=al) (k:=k) S hke
 have h4:((QF es items.length al S).buf.length+es*items.length)%4=0:=by
  have hp:=QcE (size:=4) (n:=S.buf.length+es*items.length) (by decide)
  have hl:=startVec_len (es:=es) (n:=items.length) (al:=al) (S:=S)
  have hc:k=3\/k=2\/k=1\/k=0:=by omega
  rcases hc with rfl|rfl|hc
  ·rw[hke]at ha⊢;omega
  ·rw[hke]at ha⊢;omega
  ·have hz:padOf al (padOf 4 (S.buf.length+es*items.length)+S.buf.length+es*items.length)=0:=by
    apply Za
    rcases hc with rfl|rfl
    ·rw[hke];omega
    ·rw[hke];omega
   rw[hz]at hl
   omega
 refine ⟨⟨h.ext hI.vts rfl (x:=leB (items.length:Int) 4++(items.flatten++x)) (by rw[e,hx];simp),⟨leB (items.length:Int) 4++(items.flatten++x),by show (vecS es al items S).buf=_;rw[e,hx];simp⟩,?_,Or.inr ⟨by show _≠0;omega,fun h=>h,Nat.le_refl _,?_⟩⟩,e,x,hx⟩
 ·show S.min<=(QF es items.length al S).min
  exact Nat.le_trans (Nat.le_max_left S.min 4) (Nat.le_max_left _ al)
 ·show QaD es al items _ _ ((vecS es al items S).buf.length-(vecS es al items S).buf.length)
  rw[Nat.sub_self]
  refine ⟨⟨by rw[el];omega,⟨P2_4,hm.1,by rw[el];omega⟩,⟨⟨k,hk,hke⟩,hm.2,?_⟩,by rw[e,Qgt (Nat.le_refl _)];omega⟩,?_⟩
  ·rw[el,show 4+es*items.length+(QF es items.length al S).buf.length-(0+4)=(QF es items.length al S).buf.length+es*items.length by omega];exact ha
  ·have h4:(leB (items.length:Int) 4).length=0+4:=Qf _ _
   show ((vecS es al items S).buf.drop (0+4)).take _=_
   rw[e,<-h4,List.drop_left,List.take_left]
theorem QbW {S:BS} (hI:Inv S) (h:QdI S) {es al:Nat} {items:List (List UInt8)} (hal:P2 al) (hi:∀x∈items,x.length=es) (hn:items.length<4000000000):Qf8 S (Qhc es al items S) ⟨items=[],QaD es al items⟩:=by
 unfold Qhc
 by_cases he:items=[]
 ·rw[if_pos he];exact Qf8.none h he
 ·rw[if_neg he]
  obtain ⟨⟨a,b,c,d⟩,_⟩:=vecS_made hI h hal hi hn
  refine ⟨a,b,c,?_⟩
  rcases d with d|d
  ·exact d.2.elim
  ·exact Or.inr ⟨d.1,he,d.2.2⟩
def Qgj {α:Type} (l:List α) (P:α->PP):PP:=fun A bs t=>VecP 4 4 l.length A bs t/\∀(i:Nat) a,l[i]?=some a->QaX (P a) A bs (t+4+4*i)
theorem Qgj.stable {α:Type} {l:List α} {P:α->PP} (hP:∀a∈l,QW (P a)):QW (Qgj l P):=fun A A' bs x p hA h=>⟨VecP.stable A A' bs x p hA h.1,fun i a ha=>by
 have:=QaX.stable (hP a (List.mem_of_getElem? ha)) A A' bs x _ hA (h.2 i a ha)
 rw[show x.length+p+4+4*i=x.length+(p+4+4*i) by omega];exact this⟩
theorem QiS (L:Nat):∀(os:List Nat) (i o:Nat) (rest:List UInt8),os[i]?=some o->le4 ((Zr L os).flatten++rest) (4*i)=(L+4*(os.length-1-i)-o+4)%4294967296
 |o'::os,0,o,rest,h=>by
  have:o'=o:=by simpa using h
  subst this
  rw[Zr,List.flatten_cons,List.append_assoc,Nat.mul_zero,Qgt (Nat.le_refl _)];simp
 |o'::os,i+1,o,rest,h=>by
  have h':os[i]?=some o:=by simpa using h
  have hi:i<os.length:=by
   rcases Nat.lt_or_ge i os.length with hh|hh
   ·exact hh
   ·rw[List.getElem?_eq_none hh]at h';cases h'
  have e:4*(i+1)=(leB ((L+4*os.length-o'+4:Nat):Int) 4).length+4*i:=by rw[Qf];omega
  rw[Zr,List.flatten_cons,List.append_assoc,e,QaW,QiS L os i o rest h',List.length_cons]
  rw[show os.length+1-1-(i+1)=os.length-1-i by omega]
theorem optO_made {α:Type} {S:BS} {q:BS->BS×List Nat} {l:List α} {P:α->PP} (hP:∀a∈l,QW (P a)) (h:QdI S) (hI1:Inv (q S).1) (h1:QdI (q S).1) (hx:∃x,(q S).1.buf=x++S.buf) (hm:S.min<=(q S).1.min) (hl:(q S).2.length=l.length)
  (hk:∀(i:Nat) a o,l[i]?=some a->(q S).2[i]?=some o->OF (q S).1 o ⟨False,P a⟩) (hb:(q S).1.buf.length+4*l.length<1000000000):Qf8 S (QiN q S) ⟨l=[],Qgj l P⟩:=by
 have hnil:(q S).2=[]↔l=[]:=by
  rw[<-List.length_eq_zero_iff,hl,List.length_eq_zero_iff]
 unfold QiN
 by_cases he:(q S).2=[]
 ·rw[if_pos he];exact Qf8.none h (hnil.1 he)
 ·rw[if_neg he]
  have hlen:=Qdz (QF 4 (q S).2.length 4 (q S).1).buf.length (q S).2
  obtain ⟨⟨a,⟨x',hx'⟩,c,d⟩,e,⟨x2,hx2⟩⟩:=vecS_made (es:=4) (al:=4) hI1 h1 P2_4 (QcT (QF 4 (q S).2.length 4 (q S).1).buf.length (q S).2) (by rw[hlen,hl];omega)
  rw[hlen]at e hx2
  obtain ⟨x,hx⟩:=hx
  refine ⟨a,⟨x'++x,?_⟩,Nat.le_trans hm c,?_⟩
  ·show (Qfg (q S).2 (q S).1).buf=_
   unfold Qfg
   have hx'':(vecS 4 4 (Zr (QF 4 (q S).2.length 4 (q S).1).buf.length (q S).2) (q S).1).buf=x'++(q S).1.buf:=hx'
   rw[hx'',hx,List.append_assoc]
  rcases d with d|⟨d1,d2,d3,⟨d4,d5⟩⟩
  ·exact d.2.elim
  ·refine Or.inr ⟨d1,fun hn=>he (hnil.2 hn),d3,?_⟩
   have d4':VecP 4 4 l.length (Qfg (q S).2 (q S).1).min (Qfg (q S).2 (q S).1).buf ((Qfg (q S).2 (q S).1).buf.length-(Qfg (q S).2 (q S).1).buf.length):=by
    have:(Zr (QF 4 (q S).2.length 4 (q S).1).buf.length (q S).2).length=l.length:=by rw[hlen,hl]
    rw[<-this];exact d4
   show Qgj l P (Qfg (q S).2 (q S).1).min (Qfg (q S).2 (q S).1).buf ((Qfg (q S).2 (q S).1).buf.length-(Qfg (q S).2 (q S).1).buf.length)
   have hx'':(Qfg (q S).2 (q S).1).buf=x'++(q S).1.buf:=hx'
   have hmm:(q S).1.min<=(Qfg (q S).2 (q S).1).min:=c
   have e':(Qfg (q S).2 (q S).1).buf=leB ((q S).2.length:Int) 4++((Zr (QF 4 (q S).2.length 4 (q S).1).buf.length (q S).2).flatten++(QF 4 (q S).2.length 4 (q S).1).buf):=e
   generalize Qfg (q S).2 (q S).1=E at *
   rw[Nat.sub_self]at d4'⊢
   refine ⟨d4',fun i a ha=>?_⟩
   have hi:i<l.length:=by
    rcases Nat.lt_or_ge i l.length with hh|hh
    ·exact hh
    ·rw[List.getElem?_eq_none hh]at ha;cases ha
   have ho:(q S).2[i]?=some ((q S).2[i]'(by rw[hl];exact hi)):=List.getElem?_eq_getElem _
   generalize (q S).2[i]'(by rw[hl];exact hi)=o at ho
   rcases hk i a o ha ho with hh|⟨k1,k2,k3,k4⟩
   ·exact hh.2.elim
   obtain ⟨v1,v2,v3,v4⟩:=d4'
   have hst:(QF 4 (q S).2.length 4 (q S).1).buf.length=x2.length+(q S).1.buf.length:=by rw[hx2,List.length_append]
   have hfl:=QaG (es:=4) _ (QcT (QF 4 (q S).2.length 4 (q S).1).buf.length (q S).2)
   rw[hlen]at hfl
   have hel:E.buf.length=4+4*l.length+(QF 4 (q S).2.length 4 (q S).1).buf.length:=by rw[e'];simp only[List.length_append,Qf,hfl];omega
   have hsl:=(Qdx 4 (q S).2.length 4 (q S).1 (by decide))
   obtain ⟨x3,hx3,hx3l⟩:=hsl
   have hx3':(QF 4 (q S).2.length 4 (q S).1).buf.length=x3.length+(q S).1.buf.length:=by rw[hx3,List.length_append]
   have hle:le4 E.buf (0+4+4*i)=(QF 4 (q S).2.length 4 (q S).1).buf.length+4*(l.length-1-i)-o+4:=by
    have e3:0+4+4*i=(leB ((q S).2.length:Int) 4).length+4*i:=by rw[Qf]
    rw[e',e3,QaW,QiS _ _ _ _ _ ho]
    omega
   have htg:tgt E.buf (0+4+4*i)=E.buf.length-o:=by unfold tgt;rw[hle];omega
   refine ⟨by omega,⟨P2_4,v2.2.1,?_⟩,by rw[htg];omega,?_⟩
   ·have:=v3.2.2
    omega
   ·rw[htg,hx'',show (x'++(q S).1.buf).length-o=x'.length+((q S).1.buf.length-o) by rw[List.length_append];omega]
    exact hP a (List.mem_of_getElem? ha) _ _ _ _ _ hmm k4
theorem Qi0 {α:Type} {f:α->BS->BS×Nat} {P:α->PP} {c:α->Nat} {B:Nat}:∀(xs:List α),(∀a∈xs,QW (P a))->(∀x∈xs,∀S,Inv S->Yt S (c x) (f x S))->(∀x∈xs,∀S,Inv S->QdI S->S.buf.length+c x<=B->Qf8 S (f x S) ⟨False,P x⟩)->
  ∀S,Inv S->QdI S->S.buf.length+(xs.map c).sum<=B->
  QdI (Q1 f xs S).1/\(∃x,(Q1 f xs S).1.buf=x++S.buf)/\S.min<=(Q1 f xs S).1.min/\∀(i:Nat) a o,xs[i]?=some a->(Q1 f xs S).2[i]?=some o->OF (Q1 f xs S).1 o ⟨False,P a⟩
 |[],_,_,_,S,_,h2,_=>⟨h2,⟨[],rfl⟩,Nat.le_refl _,fun i a o h=>by simp at h⟩
 |x::xs,hst,hp,hm,S,hI,h2,hB=>by
  rw[List.map_cons,List.sum_cons]at hB
  have hpk:=hp x List.mem_cons_self S hI
  obtain ⟨a1,⟨x1,a2⟩,a3,a4⟩:=hm x List.mem_cons_self S hI h2 (by omega)
  have hl:=hpk.len
  obtain ⟨b1,⟨x2,b2⟩,b3,b4⟩:=Qi0 xs (fun a h=>hst a (List.mem_cons_of_mem _ h)) (fun y h=>hp y (List.mem_cons_of_mem _ h)) (fun y h=>hm y (List.mem_cons_of_mem _ h)) (f x S).1 hpk.inv a1 (by omega)
  refine ⟨b1,⟨x2++x1,by show (Q1 f xs (f x S).1).1.buf=_;rw[b2,a2,List.append_assoc]⟩,Nat.le_trans a3 b3,fun i a o h1 h2=>?_⟩
  cases i with
  |zero=>
   have e1:x=a:=by simpa using h1
   have e2:(f x S).2=o:=by simpa [Q1]using h2
   subst e1;subst e2
   exact a4.mono (hst x List.mem_cons_self) b2 b3
  |succ i=>exact b4 i a o (by simpa using h1) (by simpa [Q1]using h2)
theorem slotN_in {S0:BS} {n k x d o:Nat} (hk:P2 k):∀c S',YA S0 n c S'->YA S0 n (c+64) (slotN k x d o S'):=fun c S' h=>(h.slotN hk).mono (by omega)
theorem slotOff_in {S0:BS} {n x o:Nat}:∀c S',YA S0 n c S'->YA S0 n (c+64) (slotOff x o S'):=fun c S' h=>h.slotOff.mono (by omega)
def RefP (x:UInt64):PP:=fun A bs p=>∃vt,TabOk A bs p vt 1/\Q6 A bs p vt 4 (x.toNat=0) (Qab 8 x.toNat)
theorem RefP.stable {x:UInt64}:QW (RefP x):=fun A A' bs y p hA h=>by
 obtain ⟨vt,h1,h2⟩:=h
 exact ⟨_,h1.shift hA,h2.shift Qab.stable hA⟩
theorem packRef_made {S:BS} (hI:Inv S) (h2:QdI S) (hl:S.buf.length<600000000) (x:UInt64):Qf8 S (Qbr x S) ⟨False,RefP x⟩:=by
 obtain ⟨a,b,c,d,e,vt,f,g⟩:=QdZ (fs:=[slotN 8 x.toNat 0 0]) (ss:=[⟨0,x.toNat=0,Qab 8 x.toNat⟩]) (n:=1) hI h2 ⟨Op.slotN Qg6 x.toNat_lt,trivial⟩ (by simp) (fun s hs=>by simp at hs;subst hs;exact Nat.zero_lt_one) (by decide)
  (fun f hf=>by simp at hf;subst hf;exact slotN_in Qg6) (by simp) hl
 exact ⟨a,b,c,Or.inr ⟨d,fun h=>h,e,vt,f,g.1⟩⟩
def Qiu (x:UInt8):PP:=fun A bs p=>∃vt,TabOk A bs p vt 1/\Q6 A bs p vt 4 (x.toNat=2) (Qab 1 x.toNat)
theorem Qiu.stable {x:UInt8}:QW (Qiu x):=fun A A' bs y p hA h=>by
 obtain ⟨vt,h1,h2⟩:=h
 exact ⟨_,h1.shift hA,h2.shift Qab.stable hA⟩
theorem packSimple_made {S:BS} (hI:Inv S) (h2:QdI S) (hl:S.buf.length<600000000) (x:UInt8):Qf8 S (Qdf x S) ⟨False,Qiu x⟩:=by
 obtain ⟨a,b,c,d,e,vt,f,g⟩:=QdZ (fs:=[slotN 1 x.toNat 2 0]) (ss:=[⟨0,x.toNat=2,Qab 1 x.toNat⟩]) (n:=1) hI h2 ⟨Op.slotN P2_1 x.toNat_lt,trivial⟩ (by simp) (fun s hs=>by simp at hs;subst hs;exact Nat.zero_lt_one) (by decide)
  (fun f hf=>by simp at hf;subst hf;exact slotN_in P2_1) (by simp) hl
 exact ⟨a,b,c,Or.inr ⟨d,fun h=>h,e,vt,f,g.1⟩⟩
def QeG:PP:=fun A bs p=>∃vt,TabOk A bs p vt 0
theorem QeG.stable:QW QeG:=fun A A' bs y p hA h=>by
 obtain ⟨vt,h1⟩:=h
 exact ⟨_,h1.shift hA⟩
theorem optParent_made {S:BS} (hI:Inv S) (h2:QdI S) (hl:S.buf.length<600000000) (b:Bool):Qf8 S (Qe2 b S) ⟨b=false,QeG⟩:=by
 cases b
 ·exact Qf8.none h2 rfl
 ·obtain ⟨a,b,c,d,e,vt,f,g⟩:=QdZ (fs:=[]) (ss:=[]) (n:=0) hI h2 trivial (by simp) (fun s hs=>by simp at hs) (by decide) (fun f hf=>by simp at hf) (by decide) hl
  exact ⟨a,b,c,Or.inr ⟨d,by simp,e,vt,f⟩⟩
def Qje (d:Qan):PP:=fun A bs p=>∃vt,TabOk A bs p vt 3/\Q6 A bs p vt 4 False (QaX (Qct d.id))/\Q6 A bs p vt 6 (d.val.toNat=0) (Qab 8 d.val.toNat)/\Q6 A bs p vt 8 (d.count.toNat=0) (Qab 2 d.count.toNat)
theorem Qje.stable {d:Qan}:QW (Qje d):=fun A A' bs y p hA h=>by
 obtain ⟨vt,h1,h2,h3,h4⟩:=h
 exact ⟨_,h1.shift hA,h2.shift (QaX.stable Qct.stable) hA,h3.shift Qab.stable hA,h4.shift Qab.stable hA⟩
theorem packStat_made {S:BS} (hI:Inv S) (h2:QdI S) {d:Qan} (hl:S.buf.length+d.id.length<500000000):Qf8 S (QcL d S) ⟨False,Qje d⟩:=by
 obtain ⟨g1,g2,g3⟩:=hI.createStr d.id
 obtain ⟨a1,⟨x,hx⟩,a3,a4⟩:=QeF hI h2 (xs:=d.id) (by omega)
 have e:QcL d S=endT (Zt [slotOff (createStr d.id S).buf.length 0,slotN 8 d.val.toNat 0 1,slotN 2 d.count.toNat 0 2] (Qs 3 (createStr d.id S))):=rfl
 rw[e]
 have a1':QdI (createStr d.id S):=a1
 obtain ⟨a,⟨y,hy⟩,c,d',e,vt,f,g⟩:=QdZ (fs:=[slotOff (createStr d.id S).buf.length 0,slotN 8 d.val.toNat 0 1,slotN 2 d.count.toNat 0 2]) (ss:=[⟨0,(createStr d.id S).buf.length=0,QcB (createStr d.id S).buf.length⟩,⟨1,d.val.toNat=0,Qab 8 d.val.toNat⟩,⟨2,d.count.toNat=0,Qab 2 d.count.toNat⟩]) (n:=3) g1 a1'
  ⟨Op.slotOff (Nat.le_refl _),Op.slotN Qg6 d.val.toNat_lt,Op.slotN P2_2 d.count.toNat_lt,trivial⟩ (by simp) (fun s hs=>by simp at hs;rcases hs with rfl|rfl|rfl<;>simp) (by decide)
  (fun f hf=>by simp at hf;rcases hf with rfl|rfl|rfl;exact slotOff_in;exact slotN_in Qg6;exact slotN_in P2_2) (by simp) (by omega)
 have hx':(createStr d.id S).buf=x++S.buf:=hx
 have a3':S.min<=(createStr d.id S).min:=a3
 refine ⟨a,⟨y++x,by rw[hy,hx',List.append_assoc]⟩,Nat.le_trans a3' c,Or.inr ⟨d',fun h=>h,e,vt,f,?_,g.2.1,g.2.2.1⟩⟩
 exact g.1.ref (S:=createStr d.id S) (s:=⟨False,Qct d.id⟩) Qct.stable a4 hy c
theorem optStat_made {S:BS} (hI:Inv S) (h2:QdI S) {d:Option Qan} (hl:S.buf.length+QiM d<500000000):Qf8 S (QhF d S) ⟨d=none,fun A bs p=>∀s,d=some s->Qje s A bs p⟩:=by
 cases d with
 |none=>exact Qf8.none h2 rfl
 |some s=>
  obtain ⟨a,b,c,d⟩:=packStat_made hI h2 (d:=s) hl
  refine ⟨a,b,c,?_⟩
  rcases d with d|d
  ·exact d.2.elim
  ·exact Or.inr ⟨d.1,by simp,d.2.2.1,fun s' hs=>by cases hs;exact d.2.2.2⟩
def UnP (amb:Bool) (ty color:UInt8) (K:PP):PP:=fun A bs t=>if amb=false/\ty=2 then Qiu color A bs t else K A bs t
theorem UnP.stable {amb:Bool} {ty color:UInt8} {K:PP} (hK:QW K):QW (UnP amb ty color K):=fun A A' bs x p hA h=>by
 unfold UnP at h⊢
 split
 ·rename_i hc;rw[if_pos hc]at h;exact Qiu.stable A A' bs x p hA h
 ·rename_i hc;rw[if_neg hc]at h;exact hK A A' bs x p hA h
theorem Qhz {S:BS} (hI:Inv S) (h2:QdI S) (hl:S.buf.length<600000000) {amb:Bool} {ty color:UInt8} {kid:BS->BS×Nat} {K:PP} (hk:ty≠0->¬(amb=false/\ty=2)->Qf8 S (kid S) ⟨False,K⟩):Qf8 S (QbI amb ty color kid S) ⟨ty=0,UnP amb ty color K⟩:=by
 unfold QbI
 by_cases h0:ty=0
 ·rw[if_pos h0];exact Qf8.none h2 h0
 ·rw[if_neg h0]
  by_cases hc:amb=false/\ty=2
  ·rw[if_pos hc]
   obtain ⟨a,b,c,d⟩:=packSimple_made hI h2 hl color
   refine ⟨a,b,c,?_⟩
   rcases d with d|d
   ·exact d.2.elim
   ·refine Or.inr ⟨d.1,h0,d.2.2.1,?_⟩
    show UnP amb ty color K _ _ _
    unfold UnP;rw[if_pos hc];exact d.2.2.2
  ·rw[if_neg hc]
   obtain ⟨a,b,c,d⟩:=hk h0 hc
   refine ⟨a,b,c,?_⟩
   rcases d with d|d
   ·exact d.2.elim
   ·refine Or.inr ⟨d.1,h0,d.2.2.1,?_⟩
    show UnP amb ty color K _ _ _
    unfold UnP;rw[if_neg hc];exact d.2.2.2
end Go.Proofs
namespace Go.Proofs
open Go Go.Vc
open Tryz (prog)
structure OwnRd (A:Nat) (bs:List UInt8) (pos vt:Nat) (d:Qbg):Prop where
 tab:TabOk A bs pos vt 49
 pos0:Q6 A bs pos vt 4 (d.pos=none) (posQ d.pos)
 mana:Q6 A bs pos vt 6 (d.mana.toNat=150) (Qab 2 d.mana.toNat)
 hp:Q6 A bs pos vt 8 (d.hp.toNat=100) (Qab 2 d.hp.toNat)
 name:Q6 A bs pos vt 10 (False) (QaX (Qct d.name))
 inventory:Q6 A bs pos vt 14 (d.inventory=[]) (QaX (Qct d.inventory))
 color:Q6 A bs pos vt 16 (d.color.toNat=8) (Qab 1 d.color.toNat)
 testTy:Q6 A bs pos vt 18 (d.testTy=0) (Qab 1 d.testTy.toNat)
 test4:Q6 A bs pos vt 22 ((d.test4.map fun t=>QaJ t.a.toNat t.b.toNat)=[]) (QaX (QaD 4 2 (d.test4.map fun t=>QaJ t.a.toNat t.b.toNat)))
 strings:Q6 A bs pos vt 24 (d.strings=[]) (QaX (Qgj d.strings Qct))
 nested:Q6 A bs pos vt 30 (d.nested=[]) (QaX (Qct d.nested))
 empty:Q6 A bs pos vt 32 (d.empty=none) (QaX ((fun A bs p=>∀s,d.empty=some s->Qje s A bs p)))
 bool:Q6 A bs pos vt 34 ((if d.bool then 1 else 0)=0) (Qab 1 (if d.bool then 1 else 0))
 s32:Q6 A bs pos vt 36 (d.s32.toNat=0) (Qab 4 d.s32.toNat)
 u32:Q6 A bs pos vt 38 (d.u32.toNat=0) (Qab 4 d.u32.toNat)
 s64:Q6 A bs pos vt 40 (d.s64.toNat=0) (Qab 8 d.s64.toNat)
 u64:Q6 A bs pos vt 42 (d.u64.toNat=0) (Qab 8 d.u64.toNat)
 s32a:Q6 A bs pos vt 44 (d.s32a.toNat=0) (Qab 4 d.s32a.toNat)
 u32a:Q6 A bs pos vt 46 (d.u32a.toNat=0) (Qab 4 d.u32a.toNat)
 s64a:Q6 A bs pos vt 48 (d.s64a.toNat=0) (Qab 8 d.s64a.toNat)
 u64a:Q6 A bs pos vt 50 (d.u64a.toNat=0) (Qab 8 d.u64a.toNat)
 bools:Q6 A bs pos vt 52 ((d.bools.map Qem)=[]) (QaX (QaD 1 1 (d.bools.map Qem)))
 f:Q6 A bs pos vt 54 (FloatKind.f32.format.order d.f.toNat 1078530000=some .eq) (Qab 4 d.f.toNat)
 f2:Q6 A bs pos vt 56 (FloatKind.f32.format.order d.f2.toNat 1077936128=some .eq) (Qab 4 d.f2.toNat)
 f3:Q6 A bs pos vt 58 (FloatKind.f32.format.order d.f3.toNat 0=some .eq) (Qab 4 d.f3.toNat)
 strings2:Q6 A bs pos vt 60 (d.strings2=[]) (QaX (Qgj d.strings2 Qct))
 abilities:Q6 A bs pos vt 62 ((d.abilities.map fun t=>Zv t.id.toNat t.dist.toNat)=[]) (QaX (QaD 8 4 (d.abilities.map fun t=>Zv t.id.toNat t.dist.toNat)))
 flex:Q6 A bs pos vt 64 (d.flex=[]) (QaX (Qct d.flex))
 test5:Q6 A bs pos vt 66 ((d.test5.map fun t=>QaJ t.a.toNat t.b.toNat)=[]) (QaX (QaD 4 2 (d.test5.map fun t=>QaJ t.a.toNat t.b.toNat)))
 longs:Q6 A bs pos vt 68 ((d.longs.map Qah)=[]) (QaX (QaD 8 8 (d.longs.map Qah)))
 doubles:Q6 A bs pos vt 70 ((d.doubles.map Qah)=[]) (QaX (QaD 8 8 (d.doubles.map Qah)))
 parent:Q6 A bs pos vt 72 (d.parent=false) (QaX (QeG))
 refs:Q6 A bs pos vt 74 (d.refs=[]) (QaX (Qgj d.refs RefP))
 singleWeak:Q6 A bs pos vt 76 (d.singleWeak.toNat=0) (Qab 8 d.singleWeak.toNat)
 weak:Q6 A bs pos vt 78 ((d.weak.map Qah)=[]) (QaX (QaD 8 8 (d.weak.map Qah)))
 strong:Q6 A bs pos vt 80 (d.strong=[]) (QaX (Qgj d.strong RefP))
 coOwning:Q6 A bs pos vt 82 (d.coOwning.toNat=0) (Qab 8 d.coOwning.toNat)
 coOwnings:Q6 A bs pos vt 84 ((d.coOwnings.map Qah)=[]) (QaX (QaD 8 8 (d.coOwnings.map Qah)))
 nonOwning:Q6 A bs pos vt 86 (d.nonOwning.toNat=0) (Qab 8 d.nonOwning.toNat)
 nonOwnings:Q6 A bs pos vt 88 ((d.nonOwnings.map Qah)=[]) (QaX (QaD 8 8 (d.nonOwnings.map Qah)))
 uniqTy:Q6 A bs pos vt 90 (d.uniqTy=0) (Qab 1 d.uniqTy.toNat)
 ambTy:Q6 A bs pos vt 94 (d.ambTy=0) (Qab 1 d.ambTy.toNat)
 enums:Q6 A bs pos vt 98 ((d.enums.map fun b=>[b])=[]) (QaX (QaD 1 1 (d.enums.map fun b=>[b])))
 signedEnum:Q6 A bs pos vt 100 (d.signedEnum.toNat=255) (Qab 1 d.signedEnum.toNat)
theorem posQ.stable {pos:Option Qav}:QW (posQ pos):=(Op.slotPos (L0:=0)).st
theorem OwnRd.shift {A A':Nat} {bs x:List UInt8} {pos vt:Nat} {d:Qbg} (hA:A<=A') (h:OwnRd A bs pos vt d):OwnRd A' (x++bs) (x.length+pos) (x.length+vt) d where
 tab:=h.tab.shift hA
 pos0:=h.pos0.shift (posQ.stable) hA
 mana:=h.mana.shift (Qab.stable) hA
 hp:=h.hp.shift (Qab.stable) hA
 name:=h.name.shift (QaX.stable (Qct.stable)) hA
 inventory:=h.inventory.shift (QaX.stable (Qct.stable)) hA
 color:=h.color.shift (Qab.stable) hA
 testTy:=h.testTy.shift (Qab.stable) hA
 test4:=h.test4.shift (QaX.stable (QaD.stable)) hA
 strings:=h.strings.shift (QaX.stable (Qgj.stable (fun _ _=>Qct.stable))) hA
 nested:=h.nested.shift (QaX.stable (Qct.stable)) hA
 empty:=h.empty.shift (QaX.stable (fun A A' bs x p hA h s hs=>Qje.stable A A' bs x p hA (h s hs))) hA
 bool:=h.bool.shift (Qab.stable) hA
 s32:=h.s32.shift (Qab.stable) hA
 u32:=h.u32.shift (Qab.stable) hA
 s64:=h.s64.shift (Qab.stable) hA
 u64:=h.u64.shift (Qab.stable) hA
 s32a:=h.s32a.shift (Qab.stable) hA
 u32a:=h.u32a.shift (Qab.stable) hA
 s64a:=h.s64a.shift (Qab.stable) hA
 u64a:=h.u64a.shift (Qab.stable) hA
 bools:=h.bools.shift (QaX.stable (QaD.stable)) hA
 f:=h.f.shift (Qab.stable) hA
 f2:=h.f2.shift (Qab.stable) hA
 f3:=h.f3.shift (Qab.stable) hA
 strings2:=h.strings2.shift (QaX.stable (Qgj.stable (fun _ _=>Qct.stable))) hA
 abilities:=h.abilities.shift (QaX.stable (QaD.stable)) hA
 flex:=h.flex.shift (QaX.stable (Qct.stable)) hA
 test5:=h.test5.shift (QaX.stable (QaD.stable)) hA
 longs:=h.longs.shift (QaX.stable (QaD.stable)) hA
 doubles:=h.doubles.shift (QaX.stable (QaD.stable)) hA
 parent:=h.parent.shift (QaX.stable (QeG.stable)) hA
 refs:=h.refs.shift (QaX.stable (Qgj.stable (fun _ _=>RefP.stable))) hA
 singleWeak:=h.singleWeak.shift (Qab.stable) hA
 weak:=h.weak.shift (QaX.stable (QaD.stable)) hA
 strong:=h.strong.shift (QaX.stable (Qgj.stable (fun _ _=>RefP.stable))) hA
 coOwning:=h.coOwning.shift (Qab.stable) hA
 coOwnings:=h.coOwnings.shift (QaX.stable (QaD.stable)) hA
 nonOwning:=h.nonOwning.shift (Qab.stable) hA
 nonOwnings:=h.nonOwnings.shift (QaX.stable (QaD.stable)) hA
 uniqTy:=h.uniqTy.shift (Qab.stable) hA
 ambTy:=h.ambTy.shift (Qab.stable) hA
 enums:=h.enums.shift (QaX.stable (QaD.stable)) hA
 signedEnum:=h.signedEnum.shift (Qab.stable) hA
def MonF (d:Qbg) (abT:Prop) (PT:PP) (abE:Prop) (PE PU PQ PA:PP):PP:=fun A bs pos=>∃vt,OwnRd A bs pos vt d/\
 Q6 A bs pos vt 26 abT (QaX PT)/\Q6 A bs pos vt 28 abE (QaX PE)/\Q6 A bs pos vt 20 (d.testTy=0) (QaX (UnP false d.testTy d.testColor PU))/\
 Q6 A bs pos vt 92 (d.uniqTy=0) (QaX (UnP false d.uniqTy d.uniqColor PQ))/\Q6 A bs pos vt 96 (d.ambTy=0) (QaX (UnP true d.ambTy d.ambColor PA))
theorem MonF.stable {d:Qbg} {abT abE:Prop} {PT PE PU PQ PA:PP} (sT:QW PT) (sE:QW PE) (sU:QW PU) (sQ:QW PQ) (sA:QW PA):QW (MonF d abT PT abE PE PU PQ PA):=fun A A' bs x p hA h=>by
 obtain ⟨vt,h1,h2,h3,h4,h5,h6⟩:=h
 exact ⟨_,h1.shift hA,h2.shift (QaX.stable sT) hA,h3.shift (QaX.stable sE) hA,h4.shift (QaX.stable (UnP.stable sU)) hA,h5.shift (QaX.stable (UnP.stable sQ)) hA,h6.shift (QaX.stable (UnP.stable sA)) hA⟩
theorem costs_sum':∀l:List Mon,(l.map QcY).sum=Qa3 l
 |[]=>rfl
 |m::ms=>by rw[List.map_cons,List.sum_cons,Qa3,costs_sum' ms]
theorem strs_made (l:List (List UInt8)) {S:BS} (hI:Inv S) (h2:QdI S) (hl:S.buf.length+((l.map List.length).sum+12*l.length+15)<=500000000):Qf8 S (QiN (Q1 Qbo l) S) ⟨l=[],Qgj l Qct⟩:=by
 obtain ⟨h1,g2,g3,_⟩:=Qc7 (f:=Qbo) (c:=fun x=>x.length+8) l (fun x _ S hS=>Qci x hS) S hI
 rw[Qd7]at g2
 obtain ⟨a,b,c,d⟩:=Qi0 (f:=Qbo) (P:=Qct) (c:=fun x=>x.length+8) (B:=500000000) l (fun _ _=>Qct.stable) (fun x _ S hS=>Qci x hS) (fun x _ S hS h hb=>QiV hS h (by have:S.buf.length+(x.length+8)<=500000000:=hb;omega)) S hI h2 (by rw[Qd7];omega)
 exact optO_made (fun _ _=>Qct.stable) h2 h1 a b c (Qaf _ _ _) d (by omega)
theorem refs_made (l:List UInt64) {S:BS} (hI:Inv S) (h2:QdI S) (hl:S.buf.length+(44*l.length+15)<=500000000):Qf8 S (QiN (Q1 Qbr l) S) ⟨l=[],Qgj l RefP⟩:=by
 obtain ⟨h1,g2,g3,_⟩:=Qc7 (f:=Qbr) (c:=fun _=>40) l (fun x _ S hS=>(Qfe x hS).1) S hI
 rw[Qby]at g2
 obtain ⟨a,b,c,d⟩:=Qi0 (f:=Qbr) (P:=RefP) (c:=fun _=>40) (B:=500000000) l (fun _ _=>RefP.stable) (fun x _ S hS=>(Qfe x hS).1) (fun x _ S hS h hb=>packRef_made hS h (by have:S.buf.length+40<=500000000:=hb;omega) x) S hI h2 (by rw[Qby];omega)
 exact optO_made (fun _ _=>RefP.stable) h2 h1 a b c (Qaf _ _ _) d (by omega)
def MkMade (B:Nat):List (BS->BS×Nat)->List Nat->List MSpec->Prop
 |[],[],[]=>True
 |f::fs,c::cs,s::ss=>((∀S,Inv S->QdI S->S.buf.length+c<=B->Qf8 S (f S) s)/\QW s.p)/\MkMade B fs cs ss
 |_,_,_=>False
def OFs (S:BS):List Nat->List MSpec->Prop
 |[],[]=>True
 |o::os,s::ss=>OF S o s/\OFs S os ss
 |_,_=>False
theorem OFs.get {S:BS}:∀{os:List Nat} {ss:List MSpec},OFs S os ss->∀(i:Nat) (s:MSpec),ss[i]?=some s->OF S (os.getD i 0) s
 |[],[],_,i,s,h=>by simp at h
 |[],_::_,h,_,_,_=>h.elim
 |_::_,[],h,_,_,_=>h.elim
 |o::os,s'::ss,h,i,s,hs=>by
  cases i with
  |zero=>
   have:s'=s:=by simpa using hs
   subst this;exact h.1
  |succ i=>exact OFs.get h.2 i s (by simpa using hs)
theorem foldMk_made {B:Nat}:∀(fs:List (BS->BS×Nat)) (cs:List Nat) (ss:List MSpec),MkOk fs cs->MkMade B fs cs ss->∀S,Inv S->QdI S->S.buf.length+cs.sum<=B->
  QdI (Q1 (fun f=>f) fs S).1/\(∃x,(Q1 (fun f=>f) fs S).1.buf=x++S.buf)/\S.min<=(Q1 (fun f=>f) fs S).1.min/\OFs (Q1 (fun f=>f) fs S).1 (Q1 (fun f=>f) fs S).2 ss
 |[],[],[],_,_,S,_,h2,_=>⟨h2,⟨[],rfl⟩,Nat.le_refl _,trivial⟩
 |f::fs,c::cs,s::ss,⟨k1,k2⟩,⟨⟨m1,st⟩,m2⟩,S,hI,h2,hB=>by
  rw[List.sum_cons]at hB
  have hpk:=k1 S hI
  obtain ⟨a1,⟨x1,a2⟩,a3,a4⟩:=m1 S hI h2 (by omega)
  have hl:=hpk.len
  obtain ⟨b1,⟨x2,b2⟩,b3,b4⟩:=foldMk_made fs cs ss k2 m2 (f S).1 hpk.inv a1 (by omega)
  refine ⟨b1,⟨x2++x1,?_⟩,Nat.le_trans a3 b3,?_,b4⟩
  ·show (Q1 (fun f=>f) fs (f S).1).1.buf=_
   rw[b2,a2,List.append_assoc]
  ·exact a4.mono st b2 b3
 |[],[],_::_,_,h,_,_,_,_=>h.elim
 |[],_::_,_,h,_,_,_,_,_=>h.elim
 |_::_,[],_,h,_,_,_,_,_=>h.elim
 |_::_,_::_,[],_,h,_,_,_,_=>h.elim
theorem Q6.ref' {A:Nat} {bs:List UInt8} {pos vt vo off:Nat} {ab:Prop} {P:PP} (h:Q6 A bs pos vt vo (off=0) (QcB off)) {S:BS} (hs:QW P) (ho:OF S off ⟨ab,P⟩) {y:List UInt8} (hb:bs=y++S.buf) (hm:S.min<=A):Q6 A bs pos vt vo ab (QaX P):=h.ref (s:=⟨ab,P⟩) hs ho hb hm
def mkSpecs (d:Qbg) (abT:Prop) (PT:PP) (abE:Prop) (PE PU PQ PA:PP):List MSpec:=
 [⟨False,Qct d.name⟩,
  ⟨d.inventory=[],Qct d.inventory⟩,
  ⟨d.testTy=0,UnP false d.testTy d.testColor PU⟩,
  ⟨(d.test4.map fun t=>QaJ t.a.toNat t.b.toNat)=[],QaD 4 2 (d.test4.map fun t=>QaJ t.a.toNat t.b.toNat)⟩,
  ⟨d.strings=[],Qgj d.strings Qct⟩,
  ⟨abT,PT⟩,
  ⟨abE,PE⟩,
  ⟨d.nested=[],Qct d.nested⟩,
  ⟨d.empty=none,(fun A bs p=>∀s,d.empty=some s->Qje s A bs p)⟩,
  ⟨(d.bools.map Qem)=[],QaD 1 1 (d.bools.map Qem)⟩,
  ⟨d.strings2=[],Qgj d.strings2 Qct⟩,
  ⟨(d.abilities.map fun t=>Zv t.id.toNat t.dist.toNat)=[],QaD 8 4 (d.abilities.map fun t=>Zv t.id.toNat t.dist.toNat)⟩,
  ⟨d.flex=[],Qct d.flex⟩,
  ⟨(d.test5.map fun t=>QaJ t.a.toNat t.b.toNat)=[],QaD 4 2 (d.test5.map fun t=>QaJ t.a.toNat t.b.toNat)⟩,
  ⟨(d.longs.map Qah)=[],QaD 8 8 (d.longs.map Qah)⟩,
  ⟨(d.doubles.map Qah)=[],QaD 8 8 (d.doubles.map Qah)⟩,
  ⟨d.parent=false,QeG⟩,
  ⟨d.refs=[],Qgj d.refs RefP⟩,
  ⟨(d.weak.map Qah)=[],QaD 8 8 (d.weak.map Qah)⟩,
  ⟨d.strong=[],Qgj d.strong RefP⟩,
  ⟨(d.coOwnings.map Qah)=[],QaD 8 8 (d.coOwnings.map Qah)⟩,
  ⟨(d.nonOwnings.map Qah)=[],QaD 8 8 (d.nonOwnings.map Qah)⟩,
  ⟨d.uniqTy=0,UnP false d.uniqTy d.uniqColor PQ⟩,
  ⟨d.ambTy=0,UnP true d.ambTy d.ambColor PA⟩,
  ⟨(d.enums.map fun b=>[b])=[],QaD 1 1 (d.enums.map fun b=>[b])⟩]
def slSpecs (d:Qbg) (o:List Nat):List Spec:=
 [⟨0,d.pos=none,posQ d.pos⟩,
  ⟨1,d.mana.toNat=150,Qab 2 d.mana.toNat⟩,
  ⟨2,d.hp.toNat=100,Qab 2 d.hp.toNat⟩,
  ⟨3,o.getD 0 0=0,QcB (o.getD 0 0)⟩,
  ⟨5,o.getD 1 0=0,QcB (o.getD 1 0)⟩,
  ⟨6,d.color.toNat=8,Qab 1 d.color.toNat⟩,
  ⟨7,d.testTy=0,Qab 1 d.testTy.toNat⟩,
  ⟨8,o.getD 2 0=0,QcB (o.getD 2 0)⟩,
  ⟨9,o.getD 3 0=0,QcB (o.getD 3 0)⟩,
  ⟨10,o.getD 4 0=0,QcB (o.getD 4 0)⟩,
  ⟨11,o.getD 5 0=0,QcB (o.getD 5 0)⟩,
  ⟨12,o.getD 6 0=0,QcB (o.getD 6 0)⟩,
  ⟨13,o.getD 7 0=0,QcB (o.getD 7 0)⟩,
  ⟨14,o.getD 8 0=0,QcB (o.getD 8 0)⟩,
  ⟨15,(if d.bool then 1 else 0)=0,Qab 1 (if d.bool then 1 else 0)⟩,
  ⟨16,d.s32.toNat=0,Qab 4 d.s32.toNat⟩,
  ⟨17,d.u32.toNat=0,Qab 4 d.u32.toNat⟩,
  ⟨18,d.s64.toNat=0,Qab 8 d.s64.toNat⟩,
  ⟨19,d.u64.toNat=0,Qab 8 d.u64.toNat⟩,
  ⟨20,d.s32a.toNat=0,Qab 4 d.s32a.toNat⟩,
  ⟨21,d.u32a.toNat=0,Qab 4 d.u32a.toNat⟩,
  ⟨22,d.s64a.toNat=0,Qab 8 d.s64a.toNat⟩,
  ⟨23,d.u64a.toNat=0,Qab 8 d.u64a.toNat⟩,
  ⟨24,o.getD 9 0=0,QcB (o.getD 9 0)⟩,
  ⟨25,FloatKind.f32.format.order d.f.toNat 1078530000=some .eq,Qab 4 d.f.toNat⟩,
  ⟨26,FloatKind.f32.format.order d.f2.toNat 1077936128=some .eq,Qab 4 d.f2.toNat⟩,
  ⟨27,FloatKind.f32.format.order d.f3.toNat 0=some .eq,Qab 4 d.f3.toNat⟩,
  ⟨28,o.getD 10 0=0,QcB (o.getD 10 0)⟩,
  ⟨29,o.getD 11 0=0,QcB (o.getD 11 0)⟩,
  ⟨30,o.getD 12 0=0,QcB (o.getD 12 0)⟩,
  ⟨31,o.getD 13 0=0,QcB (o.getD 13 0)⟩,
  ⟨32,o.getD 14 0=0,QcB (o.getD 14 0)⟩,
  ⟨33,o.getD 15 0=0,QcB (o.getD 15 0)⟩,
  ⟨34,o.getD 16 0=0,QcB (o.getD 16 0)⟩,
  ⟨35,o.getD 17 0=0,QcB (o.getD 17 0)⟩,
  ⟨36,d.singleWeak.toNat=0,Qab 8 d.singleWeak.toNat⟩,
  ⟨37,o.getD 18 0=0,QcB (o.getD 18 0)⟩,
  ⟨38,o.getD 19 0=0,QcB (o.getD 19 0)⟩,
  ⟨39,d.coOwning.toNat=0,Qab 8 d.coOwning.toNat⟩,
  ⟨40,o.getD 20 0=0,QcB (o.getD 20 0)⟩,
  ⟨41,d.nonOwning.toNat=0,Qab 8 d.nonOwning.toNat⟩,
  ⟨42,o.getD 21 0=0,QcB (o.getD 21 0)⟩,
  ⟨43,d.uniqTy=0,Qab 1 d.uniqTy.toNat⟩,
  ⟨44,o.getD 22 0=0,QcB (o.getD 22 0)⟩,
  ⟨45,d.ambTy=0,Qab 1 d.ambTy.toNat⟩,
  ⟨46,o.getD 23 0=0,QcB (o.getD 23 0)⟩,
  ⟨47,o.getD 24 0=0,QcB (o.getD 24 0)⟩,
  ⟨48,d.signedEnum.toNat=255,Qab 1 d.signedEnum.toNat⟩]
theorem makers_made (d:Qbg) {tables:BS->BS×List Nat} {enemy test uniq amb:BS->BS×Nat} {ct nt ce cu cq ca:Nat} {abT abE:Prop} {PT PE PU PQ PA:PP} (sPT:QW PT) (sPE:QW PE) (sPU:QW PU) (sPQ:QW PQ) (sPA:QW PA)
  (hPT:∀S,Inv S->QdI S->S.buf.length+(ct+4*nt+15)<=500000000->Qf8 S (QiN tables S) ⟨abT,PT⟩) (hPE:∀S,Inv S->QdI S->S.buf.length+ce<=500000000->Qf8 S (enemy S) ⟨abE,PE⟩)
  (hPU:∀S,Inv S->QdI S->S.buf.length+cu<=500000000->d.testTy≠0->¬(false=false/\d.testTy=2)->Qf8 S (test S) ⟨False,PU⟩)
  (hPQ:∀S,Inv S->QdI S->S.buf.length+cq<=500000000->d.uniqTy≠0->¬(false=false/\d.uniqTy=2)->Qf8 S (uniq S) ⟨False,PQ⟩)
  (hPA:∀S,Inv S->QdI S->S.buf.length+ca<=500000000->d.ambTy≠0->¬(true=false/\d.ambTy=2)->Qf8 S (amb S) ⟨False,PA⟩):
  MkMade 500000000 (Qhj d tables enemy test uniq amb) (Qgx d ct nt ce cu cq ca) (mkSpecs d abT PT abE PE PU PQ PA):=by
 refine ⟨⟨?_,?_⟩,⟨?_,?_⟩,⟨?_,?_⟩,⟨?_,?_⟩,⟨?_,?_⟩,⟨?_,?_⟩,⟨?_,?_⟩,⟨?_,?_⟩,⟨?_,?_⟩,⟨?_,?_⟩,⟨?_,?_⟩,⟨?_,?_⟩,⟨?_,?_⟩,⟨?_,?_⟩,⟨?_,?_⟩,⟨?_,?_⟩,⟨?_,?_⟩,⟨?_,?_⟩,⟨?_,?_⟩,⟨?_,?_⟩,⟨?_,?_⟩,⟨?_,?_⟩,⟨?_,?_⟩,⟨?_,?_⟩,⟨?_,?_⟩,trivial⟩
 ·exact fun S hI h2 hB=>QiV hI h2 (by omega)
 ·exact Qct.stable
 ·exact fun S hI h2 hB=>optB_made hI h2 (by omega)
 ·exact Qct.stable
 ·exact fun S hI h2 hB=>Qhz hI h2 (by omega) (fun a b=>hPU S hI h2 (by omega) a b)
 ·exact show QW (UnP false d.testTy d.testColor PU) from UnP.stable sPU
 ·exact fun S hI h2 hB=>QbW hI h2 P2_2 (QR (fun t:Qbf=>Qax t.a.toNat t.b.toNat)) (by rw[List.length_map];omega)
 ·exact QaD.stable
 ·exact fun S hI h2 hB=>strs_made d.strings hI h2 (by omega)
 ·exact Qgj.stable (fun _ _=>Qct.stable)
 ·exact fun S hI h2 hB=>hPT S hI h2 (by omega)
 ·exact sPT
 ·exact fun S hI h2 hB=>hPE S hI h2 (by omega)
 ·exact sPE
 ·exact fun S hI h2 hB=>optB_made hI h2 (by omega)
 ·exact Qct.stable
 ·exact fun S hI h2 hB=>optStat_made hI h2 (by omega)
 ·exact fun A A' bs x p hA h s hs=>Qje.stable A A' bs x p hA (h s hs)
 ·exact fun S hI h2 hB=>QbW hI h2 P2_1 (QR (fun b:Bool=>(rfl:(Qem b).length=1)) (l:=d.bools)) (by rw[List.length_map];omega)
 ·exact QaD.stable
 ·exact fun S hI h2 hB=>strs_made d.strings2 hI h2 (by omega)
 ·exact Qgj.stable (fun _ _=>Qct.stable)
 ·exact fun S hI h2 hB=>QbW hI h2 P2_4 (QR (fun t:Qe7=>Qbi t.id.toNat t.dist.toNat)) (by rw[List.length_map];omega)
 ·exact QaD.stable
 ·exact fun S hI h2 hB=>optB_made hI h2 (by omega)
 ·exact Qct.stable
 ·exact fun S hI h2 hB=>QbW hI h2 P2_2 (QR (fun t:Qbf=>Qax t.a.toNat t.b.toNat)) (by rw[List.length_map];omega)
 ·exact QaD.stable
 ·exact fun S hI h2 hB=>QbW hI h2 Qg6 (QR (fun x=>Qf _ _)) (by rw[List.length_map];omega)
 ·exact QaD.stable
 ·exact fun S hI h2 hB=>QbW hI h2 Qg6 (QR (fun x=>Qf _ _)) (by rw[List.length_map];omega)
 ·exact QaD.stable
 ·exact fun S hI h2 hB=>optParent_made hI h2 (by omega) d.parent
 ·exact QeG.stable
 ·exact fun S hI h2 hB=>refs_made d.refs hI h2 (by omega)
 ·exact Qgj.stable (fun _ _=>RefP.stable)
 ·exact fun S hI h2 hB=>QbW hI h2 Qg6 (QR (fun x=>Qf _ _)) (by rw[List.length_map];omega)
 ·exact QaD.stable
 ·exact fun S hI h2 hB=>refs_made d.strong hI h2 (by omega)
 ·exact Qgj.stable (fun _ _=>RefP.stable)
 ·exact fun S hI h2 hB=>QbW hI h2 Qg6 (QR (fun x=>Qf _ _)) (by rw[List.length_map];omega)
 ·exact QaD.stable
 ·exact fun S hI h2 hB=>QbW hI h2 Qg6 (QR (fun x=>Qf _ _)) (by rw[List.length_map];omega)
 ·exact QaD.stable
 ·exact fun S hI h2 hB=>Qhz hI h2 (by omega) (fun a b=>hPQ S hI h2 (by omega) a b)
 ·exact show QW (UnP false d.uniqTy d.uniqColor PQ) from UnP.stable sPQ
 ·exact fun S hI h2 hB=>Qhz hI h2 (by omega) (fun a b=>hPA S hI h2 (by omega) a b)
 ·exact show QW (UnP true d.ambTy d.ambColor PA) from UnP.stable sPA
 ·exact fun S hI h2 hB=>QbW hI h2 P2_1 (QR (fun b:UInt8=>(rfl:[b].length=1)) (l:=d.enums)) (by rw[List.length_map];omega)
 ·exact QaD.stable
theorem mkCosts_sum (d:Qbg) (ct nt ce cu cq ca:Nat):(Qgx d ct nt ce cu cq ca).sum+4000<=Qii d+60*nt+ct+ce+cu+cq+ca:=by
 simp only[Qgx,List.sum_cons,List.sum_nil]
 unfold Qii
 omega
set_option maxHeartbeats 800000 in
set_option maxRecDepth 4000 in
theorem packT_made (d:Qbg) {tables:BS->BS×List Nat} {enemy test uniq amb:BS->BS×Nat} {ct nt ce cu cq ca:Nat} {abT abE:Prop} {PT PE PU PQ PA:PP} (sPT:QW PT) (sPE:QW PE) (sPU:QW PU) (sPQ:QW PQ) (sPA:QW PA)
  (hPT:∀S,Inv S->QdI S->S.buf.length+(ct+4*nt+15)<=500000000->Qf8 S (QiN tables S) ⟨abT,PT⟩) (hPE:∀S,Inv S->QdI S->S.buf.length+ce<=500000000->Qf8 S (enemy S) ⟨abE,PE⟩)
  (hPU:∀S,Inv S->QdI S->S.buf.length+cu<=500000000->d.testTy≠0->¬(false=false/\d.testTy=2)->Qf8 S (test S) ⟨False,PU⟩)
  (hPQ:∀S,Inv S->QdI S->S.buf.length+cq<=500000000->d.uniqTy≠0->¬(false=false/\d.uniqTy=2)->Qf8 S (uniq S) ⟨False,PQ⟩)
  (hPA:∀S,Inv S->QdI S->S.buf.length+ca<=500000000->d.ambTy≠0->¬(true=false/\d.ambTy=2)->Qf8 S (amb S) ⟨False,PA⟩)
  (ht:∀S,Inv S->(Inv (tables S).1/\(tables S).1.buf.length<=S.buf.length+ct/\S.buf.length<=(tables S).1.buf.length)/\(tables S).2.length=nt)
  (he:∀S,Inv S->Yt S ce (enemy S)) (hu:∀S,Inv S->Yt S cu (test S)) (hq:∀S,Inv S->Yt S cq (uniq S)) (ha:∀S,Inv S->Yt S ca (amb S))
  {S:BS} (hI:Inv S) (h2:QdI S) (hB:S.buf.length+(Qii d+60*nt+ct+ce+cu+cq+ca)<=500000000):
  Qf8 S (packT d tables enemy test uniq amb S) ⟨False,MonF d abT PT abE PE PU PQ PA⟩:=by
 have hmk:=makers_ok d ht he hu hq ha
 obtain ⟨m1,m2⟩:=MkOk.to hmk
 obtain ⟨g1,g2,g3,g4⟩:=foldMk_ok _ _ m1 m2 S hI
 have hsum:=mkCosts_sum d ct nt ce cu cq ca
 have hb:S.buf.length+(Qgx d ct nt ce cu cq ca).sum<=500000000:=by omega
 have hmm:=makers_made d sPT sPE sPU sPQ sPA hPT hPE hPU hPQ hPA
 obtain ⟨f1,⟨x,f2⟩,f3,f4⟩:=foldMk_made (Qhj d tables enemy test uniq amb) (Qgx d ct nt ce cu cq ca) (mkSpecs d abT PT abE PE PU PQ PA) hmk hmm S hI h2 hb
 have hgl:(Q1 (fun f=>f) (Qhj d tables enemy test uniq amb) S).1.buf.length<=500000000:=by omega
 clear hsum g2 hB
 unfold packT
 generalize Q1 (fun f=>f) (Qhj d tables enemy test uniq amb) S=q at *
 have hof:=fun i s h=>f4.get i s h
 have hle:∀i,q.2.getD i 0<=q.1.buf.length:=fun i=>by
  rw[List.getD_eq_getElem?_getD]
  cases hh:q.2[i]? with
  |none=>exact Nat.zero_le _
  |some o=>exact g4 o (List.mem_of_getElem? hh)
 obtain ⟨t1,⟨y,t2⟩,t3,t4,t5,vt,t6,t7⟩:=QdZ (fs:=Yi d q.2) (ss:=slSpecs d q.2) (n:=49) g1 f1 ⟨Op.slotPos,Op.slotN P2_2 d.mana.toNat_lt,Op.slotN P2_2 d.hp.toNat_lt,Op.slotOff (hle 0),Op.slotOff (hle 1),Op.slotN P2_1 d.color.toNat_lt,Op.slotTy,Op.slotOff (hle 2),Op.slotOff (hle 3),Op.slotOff (hle 4),Op.slotOff (hle 5),Op.slotOff (hle 6),Op.slotOff (hle 7),Op.slotOff (hle 8),Op.slotN P2_1 (by split<;>decide),Op.slotN P2_4 d.s32.toNat_lt,Op.slotN P2_4 d.u32.toNat_lt,Op.slotN Qg6 d.s64.toNat_lt,Op.slotN Qg6 d.u64.toNat_lt,Op.slotN P2_4 d.s32a.toNat_lt,Op.slotN P2_4 d.u32a.toNat_lt,Op.slotN Qg6 d.s64a.toNat_lt,Op.slotN Qg6 d.u64a.toNat_lt,Op.slotOff (hle 9),Op.slotF d.f.toNat_lt,Op.slotF d.f2.toNat_lt,Op.slotF d.f3.toNat_lt,Op.slotOff (hle 10),Op.slotOff (hle 11),Op.slotOff (hle 12),Op.slotOff (hle 13),Op.slotOff (hle 14),Op.slotOff (hle 15),Op.slotOff (hle 16),Op.slotOff (hle 17),Op.slotN Qg6 d.singleWeak.toNat_lt,Op.slotOff (hle 18),Op.slotOff (hle 19),Op.slotN Qg6 d.coOwning.toNat_lt,Op.slotOff (hle 20),Op.slotN Qg6 d.nonOwning.toNat_lt,Op.slotOff (hle 21),Op.slotTy,Op.slotOff (hle 22),Op.slotTy,Op.slotOff (hle 23),Op.slotOff (hle 24),Op.slotN P2_1 d.signedEnum.toNat_lt,trivial⟩ (show ([0,1,2,3,5,6,7,8,9,10,11,12,13,14,15,16,17,18,19,20,21,22,23,24,25,26,27,28,29,30,31,32,33,34,35,36,37,38,39,40,41,42,43,44,45,46,47,48]:List Nat).Nodup by decide)
  (fun s hs=>(show ∀o∈([0,1,2,3,5,6,7,8,9,10,11,12,13,14,15,16,17,18,19,20,21,22,23,24,25,26,27,28,29,30,31,32,33,34,35,36,37,38,39,40,41,42,43,44,45,46,47,48]:List Nat),o<49 by decide) s.o (show s.o∈(slSpecs d q.2).map Spec.o from List.mem_map_of_mem hs)) (by decide) (slots_ok d q.2) (show 48<600 by decide) (by omega)
 obtain ⟨s0,s1,s2,s3,s5,s6,s7,s8,s9,s10,s11,s12,s13,s14,s15,s16,s17,s18,s19,s20,s21,s22,s23,s24,s25,s26,s27,s28,s29,s30,s31,s32,s33,s34,s35,s36,s37,s38,s39,s40,s41,s42,s43,s44,s45,s46,s47,s48,_⟩:=t7
 have h3:OF q.1 (q.2.getD 0 0) ⟨False,Qct d.name⟩:=hof 0 _ rfl
 have k3:Q6 (endT (Zt (Yi d q.2) (Qs 49 q.1))).1.min (endT (Zt (Yi d q.2) (Qs 49 q.1))).1.buf ((endT (Zt (Yi d q.2) (Qs 49 q.1))).1.buf.length-(endT (Zt (Yi d q.2) (Qs 49 q.1))).2) vt 10 (q.2.getD 0 0=0) (QcB (q.2.getD 0 0)):=s3
 have z3:QW (Qct d.name):=Qct.stable
 have r3:=Q6.ref' k3 z3 h3 t2 t3
 have h5:OF q.1 (q.2.getD 1 0) ⟨d.inventory=[],Qct d.inventory⟩:=hof 1 _ rfl
 have k5:Q6 (endT (Zt (Yi d q.2) (Qs 49 q.1))).1.min (endT (Zt (Yi d q.2) (Qs 49 q.1))).1.buf ((endT (Zt (Yi d q.2) (Qs 49 q.1))).1.buf.length-(endT (Zt (Yi d q.2) (Qs 49 q.1))).2) vt 14 (q.2.getD 1 0=0) (QcB (q.2.getD 1 0)):=s5
 have z5:QW (Qct d.inventory):=Qct.stable
 have r5:=Q6.ref' k5 z5 h5 t2 t3
 have h8:OF q.1 (q.2.getD 2 0) ⟨d.testTy=0,UnP false d.testTy d.testColor PU⟩:=hof 2 _ rfl
 have k8:Q6 (endT (Zt (Yi d q.2) (Qs 49 q.1))).1.min (endT (Zt (Yi d q.2) (Qs 49 q.1))).1.buf ((endT (Zt (Yi d q.2) (Qs 49 q.1))).1.buf.length-(endT (Zt (Yi d q.2) (Qs 49 q.1))).2) vt 20 (q.2.getD 2 0=0) (QcB (q.2.getD 2 0)):=s8
 have z8:QW (UnP false d.testTy d.testColor PU):=show QW (UnP false d.testTy d.testColor PU) from UnP.stable sPU
 have r8:=Q6.ref' k8 z8 h8 t2 t3
 have h9:OF q.1 (q.2.getD 3 0) ⟨(d.test4.map fun t=>QaJ t.a.toNat t.b.toNat)=[],QaD 4 2 (d.test4.map fun t=>QaJ t.a.toNat t.b.toNat)⟩:=hof 3 _ rfl
 have k9:Q6 (endT (Zt (Yi d q.2) (Qs 49 q.1))).1.min (endT (Zt (Yi d q.2) (Qs 49 q.1))).1.buf ((endT (Zt (Yi d q.2) (Qs 49 q.1))).1.buf.length-(endT (Zt (Yi d q.2) (Qs 49 q.1))).2) vt 22 (q.2.getD 3 0=0) (QcB (q.2.getD 3 0)):=s9
 have z9:QW (QaD 4 2 (d.test4.map fun t=>QaJ t.a.toNat t.b.toNat)):=QaD.stable
 have r9:=Q6.ref' k9 z9 h9 t2 t3
 have h10:OF q.1 (q.2.getD 4 0) ⟨d.strings=[],Qgj d.strings Qct⟩:=hof 4 _ rfl
 have k10:Q6 (endT (Zt (Yi d q.2) (Qs 49 q.1))).1.min (endT (Zt (Yi d q.2) (Qs 49 q.1))).1.buf ((endT (Zt (Yi d q.2) (Qs 49 q.1))).1.buf.length-(endT (Zt (Yi d q.2) (Qs 49 q.1))).2) vt 24 (q.2.getD 4 0=0) (QcB (q.2.getD 4 0)):=s10
 have z10:QW (Qgj d.strings Qct):=Qgj.stable (fun _ _=>Qct.stable)
 have r10:=Q6.ref' k10 z10 h10 t2 t3
 have h11:OF q.1 (q.2.getD 5 0) ⟨abT,PT⟩:=hof 5 _ rfl
 have k11:Q6 (endT (Zt (Yi d q.2) (Qs 49 q.1))).1.min (endT (Zt (Yi d q.2) (Qs 49 q.1))).1.buf ((endT (Zt (Yi d q.2) (Qs 49 q.1))).1.buf.length-(endT (Zt (Yi d q.2) (Qs 49 q.1))).2) vt 26 (q.2.getD 5 0=0) (QcB (q.2.getD 5 0)):=s11
 have z11:QW (PT):=sPT
 have r11:=Q6.ref' k11 z11 h11 t2 t3
 have h12:OF q.1 (q.2.getD 6 0) ⟨abE,PE⟩:=hof 6 _ rfl
 have k12:Q6 (endT (Zt (Yi d q.2) (Qs 49 q.1))).1.min (endT (Zt (Yi d q.2) (Qs 49 q.1))).1.buf ((endT (Zt (Yi d q.2) (Qs 49 q.1))).1.buf.length-(endT (Zt (Yi d q.2) (Qs 49 q.1))).2) vt 28 (q.2.getD 6 0=0) (QcB (q.2.getD 6 0)):=s12
 have z12:QW (PE):=sPE
 have r12:=Q6.ref' k12 z12 h12 t2 t3
 have h13:OF q.1 (q.2.getD 7 0) ⟨d.nested=[],Qct d.nested⟩:=hof 7 _ rfl
 have k13:Q6 (endT (Zt (Yi d q.2) (Qs 49 q.1))).1.min (endT (Zt (Yi d q.2) (Qs 49 q.1))).1.buf ((endT (Zt (Yi d q.2) (Qs 49 q.1))).1.buf.length-(endT (Zt (Yi d q.2) (Qs 49 q.1))).2) vt 30 (q.2.getD 7 0=0) (QcB (q.2.getD 7 0)):=s13
 have z13:QW (Qct d.nested):=Qct.stable
 have r13:=Q6.ref' k13 z13 h13 t2 t3
 have h14:OF q.1 (q.2.getD 8 0) ⟨d.empty=none,(fun A bs p=>∀s,d.empty=some s->Qje s A bs p)⟩:=hof 8 _ rfl
 have k14:Q6 (endT (Zt (Yi d q.2) (Qs 49 q.1))).1.min (endT (Zt (Yi d q.2) (Qs 49 q.1))).1.buf ((endT (Zt (Yi d q.2) (Qs 49 q.1))).1.buf.length-(endT (Zt (Yi d q.2) (Qs 49 q.1))).2) vt 32 (q.2.getD 8 0=0) (QcB (q.2.getD 8 0)):=s14
 have z14:QW ((fun A bs p=>∀s,d.empty=some s->Qje s A bs p)):=fun A A' bs x p hA h s hs=>Qje.stable A A' bs x p hA (h s hs)
 have r14:=Q6.ref' k14 z14 h14 t2 t3
 have h24:OF q.1 (q.2.getD 9 0) ⟨(d.bools.map Qem)=[],QaD 1 1 (d.bools.map Qem)⟩:=hof 9 _ rfl
 have k24:Q6 (endT (Zt (Yi d q.2) (Qs 49 q.1))).1.min (endT (Zt (Yi d q.2) (Qs 49 q.1))).1.buf ((endT (Zt (Yi d q.2) (Qs 49 q.1))).1.buf.length-(endT (Zt (Yi d q.2) (Qs 49 q.1))).2) vt 52 (q.2.getD 9 0=0) (QcB (q.2.getD 9 0)):=s24
 have z24:QW (QaD 1 1 (d.bools.map Qem)):=QaD.stable
 have r24:=Q6.ref' k24 z24 h24 t2 t3
 have h28:OF q.1 (q.2.getD 10 0) ⟨d.strings2=[],Qgj d.strings2 Qct⟩:=hof 10 _ rfl
 have k28:Q6 (endT (Zt (Yi d q.2) (Qs 49 q.1))).1.min (endT (Zt (Yi d q.2) (Qs 49 q.1))).1.buf ((endT (Zt (Yi d q.2) (Qs 49 q.1))).1.buf.length-(endT (Zt (Yi d q.2) (Qs 49 q.1))).2) vt 60 (q.2.getD 10 0=0) (QcB (q.2.getD 10 0)):=s28
 have z28:QW (Qgj d.strings2 Qct):=Qgj.stable (fun _ _=>Qct.stable)
 have r28:=Q6.ref' k28 z28 h28 t2 t3
 have h29:OF q.1 (q.2.getD 11 0) ⟨(d.abilities.map fun t=>Zv t.id.toNat t.dist.toNat)=[],QaD 8 4 (d.abilities.map fun t=>Zv t.id.toNat t.dist.toNat)⟩:=hof 11 _ rfl
 have k29:Q6 (endT (Zt (Yi d q.2) (Qs 49 q.1))).1.min (endT (Zt (Yi d q.2) (Qs 49 q.1))).1.buf ((endT (Zt (Yi d q.2) (Qs 49 q.1))).1.buf.length-(endT (Zt (Yi d q.2) (Qs 49 q.1))).2) vt 62 (q.2.getD 11 0=0) (QcB (q.2.getD 11 0)):=s29
 have z29:QW (QaD 8 4 (d.abilities.map fun t=>Zv t.id.toNat t.dist.toNat)):=QaD.stable
 have r29:=Q6.ref' k29 z29 h29 t2 t3
 have h30:OF q.1 (q.2.getD 12 0) ⟨d.flex=[],Qct d.flex⟩:=hof 12 _ rfl
 have k30:Q6 (endT (Zt (Yi d q.2) (Qs 49 q.1))).1.min (endT (Zt (Yi d q.2) (Qs 49 q.1))).1.buf ((endT (Zt (Yi d q.2) (Qs 49 q.1))).1.buf.length-(endT (Zt (Yi d q.2) (Qs 49 q.1))).2) vt 64 (q.2.getD 12 0=0) (QcB (q.2.getD 12 0)):=s30
 have z30:QW (Qct d.flex):=Qct.stable
 have r30:=Q6.ref' k30 z30 h30 t2 t3
 have h31:OF q.1 (q.2.getD 13 0) ⟨(d.test5.map fun t=>QaJ t.a.toNat t.b.toNat)=[],QaD 4 2 (d.test5.map fun t=>QaJ t.a.toNat t.b.toNat)⟩:=hof 13 _ rfl
 have k31:Q6 (endT (Zt (Yi d q.2) (Qs 49 q.1))).1.min (endT (Zt (Yi d q.2) (Qs 49 q.1))).1.buf ((endT (Zt (Yi d q.2) (Qs 49 q.1))).1.buf.length-(endT (Zt (Yi d q.2) (Qs 49 q.1))).2) vt 66 (q.2.getD 13 0=0) (QcB (q.2.getD 13 0)):=s31
 have z31:QW (QaD 4 2 (d.test5.map fun t=>QaJ t.a.toNat t.b.toNat)):=QaD.stable
 have r31:=Q6.ref' k31 z31 h31 t2 t3
 have h32:OF q.1 (q.2.getD 14 0) ⟨(d.longs.map Qah)=[],QaD 8 8 (d.longs.map Qah)⟩:=hof 14 _ rfl
 have k32:Q6 (endT (Zt (Yi d q.2) (Qs 49 q.1))).1.min (endT (Zt (Yi d q.2) (Qs 49 q.1))).1.buf ((endT (Zt (Yi d q.2) (Qs 49 q.1))).1.buf.length-(endT (Zt (Yi d q.2) (Qs 49 q.1))).2) vt 68 (q.2.getD 14 0=0) (QcB (q.2.getD 14 0)):=s32
 have z32:QW (QaD 8 8 (d.longs.map Qah)):=QaD.stable
 have r32:=Q6.ref' k32 z32 h32 t2 t3
 have h33:OF q.1 (q.2.getD 15 0) ⟨(d.doubles.map Qah)=[],QaD 8 8 (d.doubles.map Qah)⟩:=hof 15 _ rfl
 have k33:Q6 (endT (Zt (Yi d q.2) (Qs 49 q.1))).1.min (endT (Zt (Yi d q.2) (Qs 49 q.1))).1.buf ((endT (Zt (Yi d q.2) (Qs 49 q.1))).1.buf.length-(endT (Zt (Yi d q.2) (Qs 49 q.1))).2) vt 70 (q.2.getD 15 0=0) (QcB (q.2.getD 15 0)):=s33
 have z33:QW (QaD 8 8 (d.doubles.map Qah)):=QaD.stable
 have r33:=Q6.ref' k33 z33 h33 t2 t3
 have h34:OF q.1 (q.2.getD 16 0) ⟨d.parent=false,QeG⟩:=hof 16 _ rfl
 have k34:Q6 (endT (Zt (Yi d q.2) (Qs 49 q.1))).1.min (endT (Zt (Yi d q.2) (Qs 49 q.1))).1.buf ((endT (Zt (Yi d q.2) (Qs 49 q.1))).1.buf.length-(endT (Zt (Yi d q.2) (Qs 49 q.1))).2) vt 72 (q.2.getD 16 0=0) (QcB (q.2.getD 16 0)):=s34
 have z34:QW (QeG):=QeG.stable
 have r34:=Q6.ref' k34 z34 h34 t2 t3
 have h35:OF q.1 (q.2.getD 17 0) ⟨d.refs=[],Qgj d.refs RefP⟩:=hof 17 _ rfl
 have k35:Q6 (endT (Zt (Yi d q.2) (Qs 49 q.1))).1.min (endT (Zt (Yi d q.2) (Qs 49 q.1))).1.buf ((endT (Zt (Yi d q.2) (Qs 49 q.1))).1.buf.length-(endT (Zt (Yi d q.2) (Qs 49 q.1))).2) vt 74 (q.2.getD 17 0=0) (QcB (q.2.getD 17 0)):=s35
 have z35:QW (Qgj d.refs RefP):=Qgj.stable (fun _ _=>RefP.stable)
 have r35:=Q6.ref' k35 z35 h35 t2 t3
 have h37:OF q.1 (q.2.getD 18 0) ⟨(d.weak.map Qah)=[],QaD 8 8 (d.weak.map Qah)⟩:=hof 18 _ rfl
 have k37:Q6 (endT (Zt (Yi d q.2) (Qs 49 q.1))).1.min (endT (Zt (Yi d q.2) (Qs 49 q.1))).1.buf ((endT (Zt (Yi d q.2) (Qs 49 q.1))).1.buf.length-(endT (Zt (Yi d q.2) (Qs 49 q.1))).2) vt 78 (q.2.getD 18 0=0) (QcB (q.2.getD 18 0)):=s37
 have z37:QW (QaD 8 8 (d.weak.map Qah)):=QaD.stable
 have r37:=Q6.ref' k37 z37 h37 t2 t3
 have h38:OF q.1 (q.2.getD 19 0) ⟨d.strong=[],Qgj d.strong RefP⟩:=hof 19 _ rfl
 have k38:Q6 (endT (Zt (Yi d q.2) (Qs 49 q.1))).1.min (endT (Zt (Yi d q.2) (Qs 49 q.1))).1.buf ((endT (Zt (Yi d q.2) (Qs 49 q.1))).1.buf.length-(endT (Zt (Yi d q.2) (Qs 49 q.1))).2) vt 80 (q.2.getD 19 0=0) (QcB (q.2.getD 19 0)):=s38
 have z38:QW (Qgj d.strong RefP):=Qgj.stable (fun _ _=>RefP.stable)
 have r38:=Q6.ref' k38 z38 h38 t2 t3
 have h40:OF q.1 (q.2.getD 20 0) ⟨(d.coOwnings.map Qah)=[],QaD 8 8 (d.coOwnings.map Qah)⟩:=hof 20 _ rfl
 have k40:Q6 (endT (Zt (Yi d q.2) (Qs 49 q.1))).1.min (endT (Zt (Yi d q.2) (Qs 49 q.1))).1.buf ((endT (Zt (Yi d q.2) (Qs 49 q.1))).1.buf.length-(endT (Zt (Yi d q.2) (Qs 49 q.1))).2) vt 84 (q.2.getD 20 0=0) (QcB (q.2.getD 20 0)):=s40
 have z40:QW (QaD 8 8 (d.coOwnings.map Qah)):=QaD.stable
 have r40:=Q6.ref' k40 z40 h40 t2 t3
 have h42:OF q.1 (q.2.getD 21 0) ⟨(d.nonOwnings.map Qah)=[],QaD 8 8 (d.nonOwnings.map Qah)⟩:=hof 21 _ rfl
 have k42:Q6 (endT (Zt (Yi d q.2) (Qs 49 q.1))).1.min (endT (Zt (Yi d q.2) (Qs 49 q.1))).1.buf ((endT (Zt (Yi d q.2) (Qs 49 q.1))).1.buf.length-(endT (Zt (Yi d q.2) (Qs 49 q.1))).2) vt 88 (q.2.getD 21 0=0) (QcB (q.2.getD 21 0)):=s42
 have z42:QW (QaD 8 8 (d.nonOwnings.map Qah)):=QaD.stable
 have r42:=Q6.ref' k42 z42 h42 t2 t3
 have h44:OF q.1 (q.2.getD 22 0) ⟨d.uniqTy=0,UnP false d.uniqTy d.uniqColor PQ⟩:=hof 22 _ rfl
 have k44:Q6 (endT (Zt (Yi d q.2) (Qs 49 q.1))).1.min (endT (Zt (Yi d q.2) (Qs 49 q.1))).1.buf ((endT (Zt (Yi d q.2) (Qs 49 q.1))).1.buf.length-(endT (Zt (Yi d q.2) (Qs 49 q.1))).2) vt 92 (q.2.getD 22 0=0) (QcB (q.2.getD 22 0)):=s44
 have z44:QW (UnP false d.uniqTy d.uniqColor PQ):=show QW (UnP false d.uniqTy d.uniqColor PQ) from UnP.stable sPQ
 have r44:=Q6.ref' k44 z44 h44 t2 t3
 have h46:OF q.1 (q.2.getD 23 0) ⟨d.ambTy=0,UnP true d.ambTy d.ambColor PA⟩:=hof 23 _ rfl
 have k46:Q6 (endT (Zt (Yi d q.2) (Qs 49 q.1))).1.min (endT (Zt (Yi d q.2) (Qs 49 q.1))).1.buf ((endT (Zt (Yi d q.2) (Qs 49 q.1))).1.buf.length-(endT (Zt (Yi d q.2) (Qs 49 q.1))).2) vt 96 (q.2.getD 23 0=0) (QcB (q.2.getD 23 0)):=s46
 have z46:QW (UnP true d.ambTy d.ambColor PA):=show QW (UnP true d.ambTy d.ambColor PA) from UnP.stable sPA
 have r46:=Q6.ref' k46 z46 h46 t2 t3
 have h47:OF q.1 (q.2.getD 24 0) ⟨(d.enums.map fun b=>[b])=[],QaD 1 1 (d.enums.map fun b=>[b])⟩:=hof 24 _ rfl
 have k47:Q6 (endT (Zt (Yi d q.2) (Qs 49 q.1))).1.min (endT (Zt (Yi d q.2) (Qs 49 q.1))).1.buf ((endT (Zt (Yi d q.2) (Qs 49 q.1))).1.buf.length-(endT (Zt (Yi d q.2) (Qs 49 q.1))).2) vt 98 (q.2.getD 24 0=0) (QcB (q.2.getD 24 0)):=s47
 have z47:QW (QaD 1 1 (d.enums.map fun b=>[b])):=QaD.stable
 have r47:=Q6.ref' k47 z47 h47 t2 t3
 refine ⟨t1,⟨y++x,by rw[t2,f2,List.append_assoc]⟩,Nat.le_trans f3 t3,Or.inr ⟨t4,fun h=>h,t5,vt,?_,?_,?_,?_,?_,?_⟩⟩
 ·exact {
   tab:=t6
   pos0:=s0
   mana:=s1
   hp:=s2
   name:=r3
   inventory:=r5
   color:=s6
   testTy:=s7
   test4:=r9
   strings:=r10
   nested:=r13
   empty:=r14
   bool:=s15
   s32:=s16
   u32:=s17
   s64:=s18
   u64:=s19
   s32a:=s20
   u32a:=s21
   s64a:=s22
   u64a:=s23
   bools:=r24
   f:=s25
   f2:=s26
   f3:=s27
   strings2:=r28
   abilities:=r29
   flex:=r30
   test5:=r31
   longs:=r32
   doubles:=r33
   parent:=r34
   refs:=r35
   singleWeak:=s36
   weak:=r37
   strong:=r38
   coOwning:=s39
   coOwnings:=r40
   nonOwning:=s41
   nonOwnings:=r42
   uniqTy:=s43
   ambTy:=s45
   enums:=r47
   signedEnum:=s48
  }
 ·exact r11
 ·exact r12
 ·exact r8
 ·exact r44
 ·exact r46
mutual
def RdM:Mon->PP
 |.mk d tables enemy test uniq amb=>MonF d (tables=[]) (fun A bs t=>VecP 4 4 tables.length A bs t/\RdL tables A bs (t+4)) (enemy=[]) (Rd1 enemy) (Rd1 test) (Rd1 uniq) (Rd1 amb)
def RdL:List Mon->PP
 |[]=>fun _ _ _=>True
 |m::ms=>fun A bs p=>QaX (RdM m) A bs p/\RdL ms A bs (p+4)
def Rd1:List Mon->PP
 |[]=>fun _ _ _=>False
 |m::_=>RdM m
end
mutual
theorem RdM.stable:∀(m:Mon),QW (RdM m)
 |.mk d tables enemy test uniq amb=>by
  rw[RdM]
  refine MonF.stable (fun A A' bs x p hA h=>⟨VecP.stable A A' bs x p hA h.1,?_⟩) (Rd1.stable enemy) (Rd1.stable test) (Rd1.stable uniq) (Rd1.stable amb)
  rw[Nat.add_assoc]
  exact RdL.stable tables A A' bs x _ hA h.2
theorem RdL.stable:∀(ms:List Mon),QW (RdL ms)
 |[]=>fun A A' bs x p hA h=>by rw[RdL];trivial
 |m::ms=>fun A A' bs x p hA h=>by
  rw[RdL]at h⊢
  exact ⟨QaX.stable (RdM.stable m) A A' bs x p hA h.1,by rw[Nat.add_assoc];exact RdL.stable ms A A' bs x _ hA h.2⟩
theorem Rd1.stable:∀(ms:List Mon),QW (Rd1 ms)
 |[]=>fun A A' bs x p hA h=>by rw[Rd1]at h;exact h.elim
 |m::ms=>by rw[Rd1];exact RdM.stable m
end
theorem RdL_of:∀(ms:List Mon) {A:Nat} {bs:List UInt8} {p:Nat},(∀(i:Nat) a,ms[i]?=some a->QaX (RdM a) A bs (p+4*i))->RdL ms A bs p
 |[],_,_,_,_=>by rw[RdL];trivial
 |m::ms,A,bs,p,h=>by
  rw[RdL]
  refine ⟨h 0 m rfl,RdL_of ms fun i a ha=>?_⟩
  have:=h (i+1) a (by simpa using ha)
  rwa [show p+4*(i+1)=p+4+4*i by omega]at this
theorem RdL_get:∀(ms:List Mon) {A:Nat} {bs:List UInt8} {p:Nat},RdL ms A bs p->∀(i:Nat) a,ms[i]?=some a->QaX (RdM a) A bs (p+4*i)
 |[],_,_,_,_,i,a,h=>by simp at h
 |m::ms,A,bs,p,h,i,a,ha=>by
  rw[RdL]at h
  cases i with
  |zero=>
   have:m=a:=by simpa using ha
   subst this;exact h.1
  |succ i=>
   have:=RdL_get ms h.2 i a (by simpa using ha)
   rwa [show p+4*(i+1)=p+4+4*i by omega]
def UnOk (amb:Bool) (ty:UInt8) (kids:List Mon):Prop:=ty≠0->¬(amb=false/\ty=2)->kids≠[]
mutual
def WfM:Mon->Prop
 |.mk d tables enemy test uniq amb=>(UnOk false d.testTy test/\UnOk false d.uniqTy uniq/\UnOk true d.ambTy amb)/\WfMs tables/\WfMs enemy/\WfMs test/\WfMs uniq/\WfMs amb
def WfMs:List Mon->Prop
 |[]=>True
 |m::ms=>WfM m/\WfMs ms
end
theorem Qfv {kids:List Mon} (h:∀x∈kids,∀S,Inv S->QdI S->S.buf.length+QcY x<=500000000->Qf8 S (Qa8 x S) ⟨False,RdM x⟩) {S:BS} (hI:Inv S) (h2:QdI S) (hl:S.buf.length+Qa3 kids<=500000000) (hne:kids≠[]):Qf8 S (Zf kids S) ⟨False,Rd1 kids⟩:=by
 cases kids with
 |nil=>exact absurd rfl hne
 |cons m ms=>
  rw[Zf,Rd1]
  rw[Qa3]at hl
  exact h m List.mem_cons_self S hI h2 (by omega)
mutual
theorem packM_made:∀(m:Mon),WfM m->∀S,Inv S->QdI S->S.buf.length+QcY m<=500000000->Qf8 S (Qa8 m S) ⟨False,RdM m⟩
 |.mk d tables enemy test uniq amb,hw,S,hI,h2,hB=>by
  rw[WfM]at hw
  obtain ⟨⟨w1,w2,w3⟩,w4,w5,w6,w7,w8⟩:=hw
  rw[Qa8,RdM]
  rw[QcY]at hB
  have kT:=Qde tables w4
  have kE:=Qde enemy w5
  have kU:=Qde test w6
  have kQ:=Qde uniq w7
  have kA:=Qde amb w8
  refine packT_made d (ct:=Qa3 tables) (nt:=tables.length) (ce:=Qa3 enemy) (cu:=Qa3 test) (cq:=Qa3 uniq) (ca:=Qa3 amb) ?_ (Rd1.stable enemy) (Rd1.stable test) (Rd1.stable uniq) (Rd1.stable amb)
   ?_ ?_ (fun S hI h2 hb h3 h4=>Qfv kU hI h2 hb (w1 h3 h4)) (fun S hI h2 hb h3 h4=>Qfv kQ hI h2 hb (w2 h3 h4)) (fun S hI h2 hb h3 h4=>Qfv kA hI h2 hb (w3 h3 h4))
   (fun S h=>Qgk tables S h) (fun S h=>QaO enemy S h) (fun S h=>QaO test S h) (fun S h=>QaO uniq S h) (fun S h=>QaO amb S h) hI h2 (by omega)
  ·refine fun A A' bs x p hA h=>⟨VecP.stable A A' bs x p hA h.1,?_⟩
   rw[Nat.add_assoc]
   exact RdL.stable tables A A' bs x _ hA h.2
  ·intro S hI h2 hb
   have hf:QdJ tables=Q1 Qa8 tables:=funext (Qfq tables)
   have hs:(tables.map QcY).sum=Qa3 tables:=costs_sum' tables
   have hp:=(Qgk tables S hI).1
   rw[hf]at hp⊢
   obtain ⟨a,b,c,e⟩:=Qi0 (f:=Qa8) (P:=RdM) (c:=QcY) (B:=500000000) tables (fun m _=>RdM.stable m) (fun x _ S h=>(QfG x S h).1) kT S hI h2 (by omega)
   obtain ⟨q1,q2,q3,q4⟩:=optO_made (q:=Q1 Qa8 tables) (l:=tables) (P:=RdM) (fun m _=>RdM.stable m) h2 hp.1 a b c (Qaf _ _ _) e (by omega)
   refine ⟨q1,q2,q3,?_⟩
   rcases q4 with q4|⟨q4,q5,q6,q7,q8⟩
   ·exact Or.inl q4
   ·exact Or.inr ⟨q4,q5,q6,q7,RdL_of tables q8⟩
  ·intro S hI h2 hb
   by_cases hn:enemy=[]
   ·subst hn
    rw[Zf];exact Qf8.none h2 rfl
   ·obtain ⟨q1,q2,q3,q4⟩:=Qfv kE hI h2 hb hn
    refine ⟨q1,q2,q3,?_⟩
    rcases q4 with q4|q4
    ·exact q4.2.elim
    ·exact Or.inr ⟨q4.1,hn,q4.2.2⟩
theorem Qde:∀(ms:List Mon),WfMs ms->∀x∈ms,∀S,Inv S->QdI S->S.buf.length+QcY x<=500000000->Qf8 S (Qa8 x S) ⟨False,RdM x⟩
 |[],_,x,hx=>by simp at hx
 |m::ms,hw,x,hx=>by
  rw[WfMs]at hw
  rcases List.mem_cons.1 hx with hx|hx
  ·rw[hx];exact packM_made m hw.1
  ·exact Qde ms hw.2 x hx
end
structure RootRd (bs:List UInt8) (m:Mon):Prop where
 len:4<=bs.length
 le:le4 bs 0<=bs.length
 al:∃A,P2 A/\4<=A/\bs.length%A=0/\RdM m A bs (le4 bs 0)
 pos:0<le4 bs 0
theorem packAll_rd {m:Mon} (hw:WfM m) (hl:QcY m<=400000000):RootRd (Qa0 m) m:=by
 have hp:=(QfG m QcW Inv.new).1
 obtain ⟨m1,m2,m3,m4⟩:=packM_made m hw QcW Inv.new QdI.new (by show 0+_<=_;omega)
 have hlen:=hp.len
 have hP:=hp.inv.min
 rcases m4 with m4|⟨_,_,o1,o2⟩
 ·exact m4.2.elim
 unfold Qa0
 generalize Qa8 m QcW=q at *
 have hlen':q.1.buf.length<=QcY m:=by have h:q.1.buf.length<=0+QcY m:=hlen;omega
 have hpd:=Zw (size:=q.1.min) (n:=q.1.buf.length+4) hP.pos
 have hpm:=QcE (size:=q.1.min) (n:=q.1.buf.length+4) hP.pos
 have h8:=hP.le
 have h4:4<=q.1.min:=by
  cases m with
  |mk d tables enemy test uniq amb=>
   rw[RdM]at o2
   obtain ⟨vt,h,_⟩:=o2
   exact h.tab.al.2.2
 have eb:(prep q.1.min 4 q.1).buf=List.replicate (padOf q.1.min (q.1.buf.length+4)) 0++q.1.buf:=rfl
 have el:(prep q.1.min 4 q.1).buf.length=padOf q.1.min (q.1.buf.length+4)+q.1.buf.length:=by rw[eb];simp
 have e4:(q.1.buf.length+4+padOf q.1.min (q.1.buf.length+4))%4=0:=by
  obtain ⟨k,hk,hke⟩:=hP
  have hc:k=2\/k=3\/k<=1:=by omega
  rcases hc with rfl|rfl|hc
  ·rw[hke]at hpm⊢;omega
  ·rw[hke]at hpm⊢;omega
  ·have:2^k<=2^1:=Nat.pow_le_pow_right (by omega) hc
   omega
 have hz:padOf 4 ((prep q.1.min 4 q.1).buf.length+0)=0:=Za (by rw[el];omega)
 have e:(finish q.2 q.1).buf=leB (((prep 4 0 (prep q.1.min 4 q.1)).buf.length-q.2+4:Nat):Int) 4++(List.replicate (padOf 4 ((prep q.1.min 4 q.1).buf.length+0)) 0++(prep q.1.min 4 q.1).buf):=rfl
 rw[hz,List.replicate_zero,List.nil_append,Qar,hz,el,eb]at e
 rw[e]
 generalize hW:leB ((0+(padOf q.1.min (q.1.buf.length+4)+q.1.buf.length)-q.2+4:Nat):Int) 4=W
 have hWl:W.length=4:=by rw[<-hW,Qf]
 have hlb:(W++(List.replicate (padOf q.1.min (q.1.buf.length+4)) 0++q.1.buf)).length=4+padOf q.1.min (q.1.buf.length+4)+q.1.buf.length:=by
  simp only[List.length_append,List.length_replicate,hWl];omega
 have h0:le4 (W++(List.replicate (padOf q.1.min (q.1.buf.length+4)) 0++q.1.buf)) 0=4+padOf q.1.min (q.1.buf.length+4)+q.1.buf.length-q.2:=by
  rw[<-hW,Qgt (Nat.le_refl _)];omega
 refine ⟨by omega,by omega,⟨q.1.min,hP,h4,by rw[hlb,show 4+padOf q.1.min (q.1.buf.length+4)+q.1.buf.length=q.1.buf.length+4+padOf q.1.min (q.1.buf.length+4) by omega];exact hpm,?_⟩,by omega⟩
 rw[h0,show 4+padOf q.1.min (q.1.buf.length+4)+q.1.buf.length-q.2=(W++List.replicate (padOf q.1.min (q.1.buf.length+4)) 0).length+(q.1.buf.length-q.2) by simp only[List.length_append,List.length_replicate,hWl];omega,<-List.append_assoc]
 exact RdM.stable m _ _ _ _ _ (Nat.le_refl _) o2
end Go.Proofs
namespace Go.Proofs
open Go Go.Vc
open Tryz (prog)
theorem Q6.sc {A k:Nat} {bs:List UInt8} {pos vt vo x d:Nat} {ab:Prop} (h:Q6 A bs pos vt vo ab (Qab k x)) (hab:ab->x=d):Sc k bs pos vt vo d x:=by
 rcases h with ⟨h1,h2⟩|⟨h1,_,h3⟩
 ·exact Or.inl ⟨h1,hab h2⟩
 ·exact Or.inr ⟨h1,h3.1,h3.2.2.symm⟩
def flR (x d:Nat):Nat:=if FloatKind.f32.format.order x d=some .eq then d else x
theorem Q6.scF {A:Nat} {bs:List UInt8} {pos vt vo x d:Nat} (h:Q6 A bs pos vt vo (FloatKind.f32.format.order x d=some .eq) (Qab 4 x)):Sc 4 bs pos vt vo d (flR x d):=by
 unfold flR
 rcases h with ⟨h1,h2⟩|⟨h1,h2,h3⟩
 ·rw[if_pos h2];exact Or.inl ⟨h1,rfl⟩
 ·rw[if_neg h2];exact Or.inr ⟨h1,h3.1,h3.2.2.symm⟩
theorem Q6.there {A:Nat} {bs:List UInt8} {pos vt vo:Nat} {Q:PP} (h:Q6 A bs pos vt vo False Q):slotAt bs vt vo≠0/\Q A bs (pos+slotAt bs vt vo):=by
 rcases h with ⟨_,h⟩|⟨h1,_,h3⟩
 ·exact h.elim
 ·exact ⟨h1,h3⟩
theorem Q6.zero {A:Nat} {bs:List UInt8} {pos vt vo:Nat} {ab:Prop} {Q:PP} (h:Q6 A bs pos vt vo ab Q) (h0:slotAt bs vt vo=0):ab:=by
 rcases h with h|h
 ·exact h.2
 ·exact absurd h0 h.1
theorem Q6.got {A:Nat} {bs:List UInt8} {pos vt vo:Nat} {ab:Prop} {Q:PP} (h:Q6 A bs pos vt vo ab Q) (h0:slotAt bs vt vo≠0):¬ab/\Q A bs (pos+slotAt bs vt vo):=by
 rcases h with h|h
 ·exact absurd h.1 h0
 ·exact h.2
def Yk (bs:List UInt8) (p:Nat) (xs:List UInt8):Prop:=p+xs.length<=bs.length/\(bs.drop p).take xs.length=xs
theorem Yk.byte {bs xs:List UInt8} {p i:Nat} (h:Yk bs p xs) (hi:i<xs.length):byteN bs (p+i)=byteN xs i:=by
 have e:xs[i]?=bs[p+i]?:=by
  conv=>lhs;rw[<-h.2]
  rw[List.getElem?_take,if_pos hi,List.getElem?_drop]
 unfold byteN
 congr 1
 simp only[List.getD]
 rw[e]
theorem Yk.le1 {bs xs:List UInt8} {p i:Nat} (h:Yk bs p xs) (hi:i+1<=xs.length):byteN bs (p+i)=byteN xs i:=h.byte hi
theorem Yk.le2 {bs xs:List UInt8} {p i:Nat} (h:Yk bs p xs) (hi:i+2<=xs.length):Vc.le2 bs (p+i)=Vc.le2 xs i:=by
 unfold Vc.le2;rw[h.byte (by omega),Nat.add_assoc,h.byte (by omega)]
theorem Yk.le4 {bs xs:List UInt8} {p i:Nat} (h:Yk bs p xs) (hi:i+4<=xs.length):Vc.le4 bs (p+i)=Vc.le4 xs i:=by
 unfold Vc.le4;rw[h.le2 (by omega),Nat.add_assoc,h.le2 (by omega)]
theorem Yk.le8 {bs xs:List UInt8} {p i:Nat} (h:Yk bs p xs) (hi:i+8<=xs.length):Vc.le8 bs (p+i)=Vc.le8 xs i:=by
 unfold Vc.le8;rw[h.le4 (by omega),Nat.add_assoc,h.le4 (by omega)]
theorem Yk.sub {bs xs ys:List UInt8} {p o:Nat} (h:Yk bs p xs) (hy:Yk xs o ys):Yk bs (p+o) ys:=by
 refine ⟨by have:=h.1;have:=hy.1;omega,?_⟩
 have h1:=hy.1
 have e:(bs.drop (p+o)).take ys.length=(((bs.drop p).take xs.length).drop o).take ys.length:=by
  rw[List.drop_take,List.take_take,List.drop_drop,Nat.min_eq_left (by omega)]
 rw[e,h.2,hy.2]
theorem Qct.at {A:Nat} {bs xs:List UInt8} {o:Nat} (h:QaX (Qct xs) A bs o):StrAt bs o xs.length/\Yk bs (tgt bs o+4) xs:=by
 obtain ⟨h1,h2,h3,h4,h5,h6,h7,h8⟩:=h
 exact ⟨⟨h1,h6,h4⟩,by omega,h7⟩
theorem Q6.str {A:Nat} {bs xs:List UInt8} {pos vt vo:Nat} (h:Q6 A bs pos vt vo (xs=[]) (QaX (Qct xs))):∃at_,QdU 1 bs pos vt vo xs.length at_/\Yk bs at_ xs:=by
 rcases h with ⟨h1,h2⟩|⟨h1,_,h3⟩
 ·exact ⟨0,Or.inl ⟨h1,by rw[h2];rfl⟩,by subst h2;exact ⟨Nat.zero_le _,rfl⟩⟩
 ·have h4:=Qct.at h3
  obtain ⟨h5,h6⟩:=h4
  exact ⟨tgt bs (pos+slotAt bs vt vo)+4,Or.inr ⟨h1,h5.1,rfl,h5.2.1,by have:=h5.2.2;omega,by have:=h5.2.2;omega⟩,h6⟩
theorem QaD.at {k al:Nat} {items:List (List UInt8)} {A:Nat} {bs:List UInt8} {t:Nat} (hi:∀x∈items,x.length=k) (h:QaD k al items A bs t) {i:Nat} {x:List UInt8} (hx:items[i]?=some x):Yk bs (t+4+k*i) x:=by
 obtain ⟨⟨h1,h2,h3,h4⟩,h5⟩:=h
 have hf:=QaG items hi
 have hl:i<items.length:=by
  rcases Nat.lt_or_ge i items.length with hh|hh
  ·exact hh
  ·rw[List.getElem?_eq_none hh]at hx;cases hx
 have hB:Yk bs (t+4) items.flatten:=⟨by omega,h5⟩
 have hxl:=hi x (List.mem_of_getElem? hx)
 have hfx:∀(l:List (List UInt8)),(∀y∈l,y.length=k)->∀j,l[j]?=some x->Yk l.flatten (k*j) x:=by
  intro l hl2
  induction l with
  |nil=>intro j hj;simp at hj
  |cons y ys ih=>
   intro j hj
   have hy:=hl2 y List.mem_cons_self
   cases j with
   |zero=>
    have:y=x:=by simpa using hj
    subst this
    rw[List.flatten_cons,Nat.mul_zero]
    exact ⟨by rw[List.length_append];omega,by rw[List.drop_zero,List.take_left]⟩
   |succ j=>
    have:=ih (fun z hz=>hl2 z (List.mem_cons_of_mem _ hz)) j (by simpa using hj)
    rw[List.flatten_cons]
    refine ⟨by rw[List.length_append,Nat.mul_add];have:=this.1;omega,?_⟩
    rw[show k*(j+1)=y.length+k*j by rw[hy,Nat.mul_add];omega,List.drop_append,List.drop_eq_nil_of_le (by omega),List.nil_append,show y.length+k*j-y.length=k*j by omega]
    exact this.2
 exact hB.sub (hfx items hi i hx)
theorem Q6.vec {A k al:Nat} {bs:List UInt8} {items:List (List UInt8)} {pos vt vo:Nat} (hi:∀x∈items,x.length=k) (h:Q6 A bs pos vt vo (items=[]) (QaX (QaD k al items))):
  ∃at_,QdU k bs pos vt vo items.length at_/\∀(i:Nat) x,items[i]?=some x->Yk bs (at_+k*i) x:=by
 rcases h with ⟨h1,h2⟩|⟨h1,_,h3⟩
 ·subst h2
  exact ⟨0,Or.inl ⟨h1,rfl⟩,fun i x h=>by simp at h⟩
 ·obtain ⟨q1,q2,q3,q4⟩:=h3
  obtain ⟨⟨v1,v2,v3,v4⟩,_⟩:=id q4
  exact ⟨tgt bs (pos+slotAt bs vt vo)+4,Or.inr ⟨h1,q1,rfl,v4,v1,by omega⟩,fun i x hx=>QaD.at hi q4 hx⟩
theorem Q6.vecT {α:Type} {A:Nat} {bs:List UInt8} {l:List α} {P:α->PP} {pos vt vo:Nat} (h:Q6 A bs pos vt vo (l=[]) (QaX (Qgj l P))):
  ∃at_,QdU 4 bs pos vt vo l.length at_/\∀(i:Nat) a,l[i]?=some a->QaX (P a) A bs (at_+4*i):=by
 rcases h with ⟨h1,h2⟩|⟨h1,_,h3⟩
 ·subst h2
  exact ⟨0,Or.inl ⟨h1,rfl⟩,fun i x h=>by simp at h⟩
 ·obtain ⟨q1,q2,q3,⟨v1,v2,v3,v4⟩,q5⟩:=h3
  exact ⟨tgt bs (pos+slotAt bs vt vo)+4,Or.inr ⟨h1,q1,rfl,v4,v1,by omega⟩,q5⟩
theorem leB1_at {bs:List UInt8} {p:Nat} {x:Nat} (h:Yk bs p (leB (x:Int) 1)):byteN bs p=x%256:=by
 have:=h.byte (i:=0) (by rw[Qf];decide)
 rw[Nat.add_zero]at this
 rw[this,Qfl (by decide),Qgu];simp
theorem leB2_at {bs:List UInt8} {p:Nat} {x:Nat} (h:Yk bs p (leB (x:Int) 2)):le2 bs p=x%65536:=by
 have:=h.le2 (i:=0) (by rw[Qf];decide)
 rw[Nat.add_zero]at this
 have e:=Qik (x:=x) (Nat.le_refl 2) []
 rw[List.append_nil]at e
 rw[this,e]
theorem leB4_at {bs:List UInt8} {p:Nat} {x:Nat} (h:Yk bs p (leB (x:Int) 4)):le4 bs p=x%4294967296:=by
 have:=h.le4 (i:=0) (by rw[Qf];decide)
 rw[Nat.add_zero]at this
 have e:=Qgt (x:=x) (Nat.le_refl 4) []
 rw[List.append_nil]at e
 rw[this,e]
theorem leB8_at {bs:List UInt8} {p:Nat} {x:Nat} (h:Yk bs p (leB (x:Int) 8)):le8 bs p=x%18446744073709551616:=by
 have:=h.le8 (i:=0) (by rw[Qf];decide)
 rw[Nat.add_zero]at this
 have e:=le8_leB (x:=x) []
 rw[List.append_nil]at e
 rw[this,e]
theorem QeS {bs:List UInt8} {p:Nat} {x:UInt64} (h:Yk bs p (Qah x)):le8 bs p=x.toNat:=by
 rw[leB8_at h];have:=x.toNat_lt;omega
theorem Yk.left {bs a b:List UInt8} {p:Nat} (h:Yk bs p (a++b)):Yk bs p a:=by
 have:=h.sub (o:=0) (ys:=a) ⟨by rw[List.length_append];omega,by rw[List.drop_zero,List.take_left]⟩
 rwa [Nat.add_zero]at this
theorem Yk.right {bs a b:List UInt8} {p n:Nat} (h:Yk bs p (a++b)) (hn:a.length=n):Yk bs (p+n) b:=by
 subst hn
 exact h.sub ⟨by rw[List.length_append];omega,by rw[List.drop_left,List.take_of_length_le (Nat.le_refl _)]⟩
theorem testB_at {bs:List UInt8} {p:Nat} {t:Qbf} (h:Yk bs p (QaJ t.a.toNat t.b.toNat)):p+4<=bs.length/\le2 bs (p+0)=t.a.toNat/\byteN bs (p+2)=t.b.toNat:=by
 have hl:=h.1
 rw[Qax]at hl
 refine ⟨hl,?_,?_⟩
 ·rw[Nat.add_zero,leB2_at h.left];have:=t.a.toNat_lt;omega
 ·rw[leB1_at (h.right (Qf _ _)).left];have:=t.b.toNat_lt;omega
theorem abilB_at {bs:List UInt8} {p:Nat} {t:Qe7} (h:Yk bs p (Zv t.id.toNat t.dist.toNat)):p+8<=bs.length/\le4 bs (p+0)=t.id.toNat/\le4 bs (p+4)=t.dist.toNat:=by
 have hl:=h.1
 rw[Qbi]at hl
 refine ⟨hl,?_,?_⟩
 ·rw[Nat.add_zero,leB4_at h.left];have:=t.id.toNat_lt;omega
 ·rw[leB4_at (h.right (Qf _ _))];have:=t.dist.toNat_lt;omega
theorem vec3_at {bs:List UInt8} {p:Nat} {v:Qav} (h:Yk bs p (QgU v)):p+32<=bs.length/\le4 bs (p+0)=v.x.toNat/\le4 bs (p+4)=v.y.toNat/\le4 bs (p+8)=v.z.toNat/\le8 bs (p+16)=v.t1.toNat/\byteN bs (p+24)=v.t2.toNat/\le2 bs (p+26)=v.a.toNat/\byteN bs (p+28)=v.b.toNat:=by
 have hl:=h.1
 rw[vec3_len]at hl
 have h1:=h.right (Qf (v.x.toNat:Int) 4)
 have h2:=h1.right (Qf (v.y.toNat:Int) 4)
 have h3:=h2.right (Qf (v.z.toNat:Int) 4)
 have h4:=h3.right (n:=4) rfl
 have h5:=h4.right (Qf (v.t1.toNat:Int) 8)
 have h6:=h5.right (Qf (v.t2.toNat:Int) 1)
 have h7:=h6.right (n:=1) rfl
 have h8:=h7.right (Qf (v.a.toNat:Int) 2)
 have:=v.x.toNat_lt;have:=v.y.toNat_lt;have:=v.z.toNat_lt;have:=v.t1.toNat_lt;have:=v.t2.toNat_lt;have:=v.a.toNat_lt;have:=v.b.toNat_lt
 refine ⟨hl,?_,?_,?_,?_,?_,?_,?_⟩
 ·rw[Nat.add_zero,leB4_at h.left];omega
 ·rw[leB4_at h1.left];omega
 ·rw[leB4_at (x:=v.z.toNat) (p:=p+8) h2.left];omega
 ·rw[leB8_at (x:=v.t1.toNat) (p:=p+16) h4.left];omega
 ·rw[leB1_at (x:=v.t2.toNat) (p:=p+24) h5.left];omega
 ·rw[leB2_at (x:=v.a.toNat) (p:=p+26) h7.left];omega
 ·rw[leB1_at (x:=v.b.toNat) (p:=p+28) h8.left];omega
end Go.Proofs
namespace Go.Proofs
open Go Go.Vc
open Tryz (prog)
def Qb6 (P:PP):PP:=fun A bs f=>f+4<=bs.length/\True/\tgt bs f<=bs.length/\P A bs (tgt bs f)
def QhO (xs:List UInt8):PP:=fun _ bs t=>t+4+xs.length<bs.length/\le4 bs t=xs.length/\(bs.drop (t+4)).take xs.length=xs
def Qeo (k:Nat) (items:List (List UInt8)):PP:=fun _ bs t=>t+4+k*items.length<=bs.length/\le4 bs t=items.length/\(bs.drop (t+4)).take items.flatten.length=items.flatten
def VecPW (k n:Nat):PP:=fun _ bs t=>t+4+k*n<=bs.length/\le4 bs t=n
def VecTW {α:Type} (l:List α) (P:α->PP):PP:=fun A bs t=>VecPW 4 l.length A bs t/\∀(i:Nat) a,l[i]?=some a->Qb6 (P a) A bs (t+4+4*i)
def RefPW (x:UInt64):PP:=fun _ bs p=>∃vt,VT bs p vt/\Sc 8 bs p vt 4 0 x.toNat
def SimpleW (x:UInt8):PP:=fun _ bs p=>∃vt,VT bs p vt/\Sc 1 bs p vt 4 2 x.toNat
def ParentW:PP:=fun _ _ _=>True
def StatW (d:Qan):PP:=fun A bs p=>∃vt,VT bs p vt/\Q6 A bs p vt 4 False (Qb6 (QhO d.id))/\Sc 8 bs p vt 6 0 d.val.toNat/\Sc 2 bs p vt 8 0 d.count.toNat
def posW (pos:Option Qav):PP:=fun _ bs p=>match pos with|none=>True|some v=>Yk bs p (QgU v)
def UnW (amb:Bool) (ty color:UInt8) (K:PP):PP:=fun A bs t=>if amb=false/\ty=2 then SimpleW color A bs t else K A bs t
theorem QhO.at {A:Nat} {bs xs:List UInt8} {o:Nat} (h:Qb6 (QhO xs) A bs o):StrAt bs o xs.length/\Yk bs (tgt bs o+4) xs:=by
 obtain ⟨h1,_,h3,h4,h6,h7⟩:=h
 exact ⟨⟨h1,h6,h4⟩,by omega,h7⟩
theorem Q6.strW {A:Nat} {bs xs:List UInt8} {pos vt vo:Nat} (h:Q6 A bs pos vt vo (xs=[]) (Qb6 (QhO xs))):∃at_,QdU 1 bs pos vt vo xs.length at_/\Yk bs at_ xs:=by
 rcases h with ⟨h1,h2⟩|⟨h1,_,h3⟩
 ·exact ⟨0,Or.inl ⟨h1,by rw[h2];rfl⟩,by subst h2;exact ⟨Nat.zero_le _,rfl⟩⟩
 ·obtain ⟨h5,h6⟩:=QhO.at h3
  exact ⟨tgt bs (pos+slotAt bs vt vo)+4,Or.inr ⟨h1,h5.1,rfl,h5.2.1,by have:=h5.2.2;omega,by have:=h5.2.2;omega⟩,h6⟩
theorem items_at {k:Nat} {items:List (List UInt8)} {bs:List UInt8} {a:Nat} (hi:∀x∈items,x.length=k) (hl:a+k*items.length<=bs.length) (hb:(bs.drop a).take items.flatten.length=items.flatten) {i:Nat} {x:List UInt8} (hx:items[i]?=some x):Yk bs (a+k*i) x:=by
 have hf:=QaG items hi
 have hB:Yk bs a items.flatten:=⟨by omega,hb⟩
 have hfx:∀(l:List (List UInt8)),(∀y∈l,y.length=k)->∀j,l[j]?=some x->Yk l.flatten (k*j) x:=by
  intro l hl2
  induction l with
  |nil=>intro j hj;simp at hj
  |cons y ys ih=>
   intro j hj
   have hy:=hl2 y List.mem_cons_self
   cases j with
   |zero=>
    have:y=x:=by simpa using hj
    subst this
    rw[List.flatten_cons,Nat.mul_zero]
    exact ⟨by rw[List.length_append];omega,by rw[List.drop_zero,List.take_left]⟩
   |succ j=>
    have:=ih (fun z hz=>hl2 z (List.mem_cons_of_mem _ hz)) j (by simpa using hj)
    rw[List.flatten_cons]
    refine ⟨by rw[List.length_append,Nat.mul_add];have:=this.1;omega,?_⟩
    rw[show k*(j+1)=y.length+k*j by rw[hy,Nat.mul_add];omega,List.drop_append,List.drop_eq_nil_of_le (by omega),List.nil_append,show y.length+k*j-y.length=k*j by omega]
    exact this.2
 exact hB.sub (hfx items hi i hx)
theorem Q6.vecW {A k:Nat} {bs:List UInt8} {items:List (List UInt8)} {pos vt vo:Nat} (hi:∀x∈items,x.length=k) (h:Q6 A bs pos vt vo (items=[]) (Qb6 (Qeo k items))):
  ∃at_,QdU k bs pos vt vo items.length at_/\∀(i:Nat) x,items[i]?=some x->Yk bs (at_+k*i) x:=by
 rcases h with ⟨h1,h2⟩|⟨h1,_,h3⟩
 ·subst h2
  exact ⟨0,Or.inl ⟨h1,rfl⟩,fun i x h=>by simp at h⟩
 ·obtain ⟨q1,_,q3,v1,v2,v3⟩:=h3
  exact ⟨tgt bs (pos+slotAt bs vt vo)+4,Or.inr ⟨h1,q1,rfl,v2,v1,by omega⟩,fun i x hx=>items_at hi v1 v3 hx⟩
theorem Q6.vecTW {α:Type} {A:Nat} {bs:List UInt8} {l:List α} {P:α->PP} {pos vt vo:Nat} (h:Q6 A bs pos vt vo (l=[]) (Qb6 (VecTW l P))):
  ∃at_,QdU 4 bs pos vt vo l.length at_/\∀(i:Nat) a,l[i]?=some a->Qb6 (P a) A bs (at_+4*i):=by
 rcases h with ⟨h1,h2⟩|⟨h1,_,h3⟩
 ·subst h2
  exact ⟨0,Or.inl ⟨h1,rfl⟩,fun i x h=>by simp at h⟩
 ·obtain ⟨q1,_,q3,⟨v1,v2⟩,q5⟩:=h3
  exact ⟨tgt bs (pos+slotAt bs vt vo)+4,Or.inr ⟨h1,q1,rfl,v2,v1,by omega⟩,q5⟩
structure OwnW (A:Nat) (bs:List UInt8) (pos vt:Nat) (d:Qbg):Prop where
 tab:VT bs pos vt
 pos0:Q6 A bs pos vt 4 (d.pos=none) (posW d.pos)
 mana:Sc 2 bs pos vt 6 150 d.mana.toNat
 hp:Sc 2 bs pos vt 8 100 d.hp.toNat
 name:Q6 A bs pos vt 10 (False) (Qb6 (QhO d.name))
 inventory:Q6 A bs pos vt 14 (d.inventory=[]) (Qb6 (QhO d.inventory))
 color:Sc 1 bs pos vt 16 8 d.color.toNat
 testTy:Sc 1 bs pos vt 18 0 d.testTy.toNat
 test4:Q6 A bs pos vt 22 ((d.test4.map fun t=>QaJ t.a.toNat t.b.toNat)=[]) (Qb6 (Qeo 4 (d.test4.map fun t=>QaJ t.a.toNat t.b.toNat)))
 strings:Q6 A bs pos vt 24 (d.strings=[]) (Qb6 (VecTW d.strings QhO))
 nested:Q6 A bs pos vt 30 (d.nested=[]) (Qb6 (QhO d.nested))
 empty:Q6 A bs pos vt 32 (d.empty=none) (Qb6 ((fun A bs p=>∀s,d.empty=some s->StatW s A bs p)))
 bool:Sc 1 bs pos vt 34 0 (if d.bool then 1 else 0)
 s32:Sc 4 bs pos vt 36 0 d.s32.toNat
 u32:Sc 4 bs pos vt 38 0 d.u32.toNat
 s64:Sc 8 bs pos vt 40 0 d.s64.toNat
 u64:Sc 8 bs pos vt 42 0 d.u64.toNat
 s32a:Sc 4 bs pos vt 44 0 d.s32a.toNat
 u32a:Sc 4 bs pos vt 46 0 d.u32a.toNat
 s64a:Sc 8 bs pos vt 48 0 d.s64a.toNat
 u64a:Sc 8 bs pos vt 50 0 d.u64a.toNat
 bools:Q6 A bs pos vt 52 ((d.bools.map Qem)=[]) (Qb6 (Qeo 1 (d.bools.map Qem)))
 f:Sc 4 bs pos vt 54 1078530000 d.f.toNat
 f2:Sc 4 bs pos vt 56 1077936128 d.f2.toNat
 f3:Sc 4 bs pos vt 58 0 d.f3.toNat
 strings2:Q6 A bs pos vt 60 (d.strings2=[]) (Qb6 (VecTW d.strings2 QhO))
 abilities:Q6 A bs pos vt 62 ((d.abilities.map fun t=>Zv t.id.toNat t.dist.toNat)=[]) (Qb6 (Qeo 8 (d.abilities.map fun t=>Zv t.id.toNat t.dist.toNat)))
 flex:Q6 A bs pos vt 64 (d.flex=[]) (Qb6 (QhO d.flex))
 test5:Q6 A bs pos vt 66 ((d.test5.map fun t=>QaJ t.a.toNat t.b.toNat)=[]) (Qb6 (Qeo 4 (d.test5.map fun t=>QaJ t.a.toNat t.b.toNat)))
 longs:Q6 A bs pos vt 68 ((d.longs.map Qah)=[]) (Qb6 (Qeo 8 (d.longs.map Qah)))
 doubles:Q6 A bs pos vt 70 ((d.doubles.map Qah)=[]) (Qb6 (Qeo 8 (d.doubles.map Qah)))
 parent:Q6 A bs pos vt 72 (d.parent=false) (Qb6 (ParentW))
 refs:Q6 A bs pos vt 74 (d.refs=[]) (Qb6 (VecTW d.refs RefPW))
 singleWeak:Sc 8 bs pos vt 76 0 d.singleWeak.toNat
 weak:Q6 A bs pos vt 78 ((d.weak.map Qah)=[]) (Qb6 (Qeo 8 (d.weak.map Qah)))
 strong:Q6 A bs pos vt 80 (d.strong=[]) (Qb6 (VecTW d.strong RefPW))
 coOwning:Sc 8 bs pos vt 82 0 d.coOwning.toNat
 coOwnings:Q6 A bs pos vt 84 ((d.coOwnings.map Qah)=[]) (Qb6 (Qeo 8 (d.coOwnings.map Qah)))
 nonOwning:Sc 8 bs pos vt 86 0 d.nonOwning.toNat
 nonOwnings:Q6 A bs pos vt 88 ((d.nonOwnings.map Qah)=[]) (Qb6 (Qeo 8 (d.nonOwnings.map Qah)))
 uniqTy:Sc 1 bs pos vt 90 0 d.uniqTy.toNat
 ambTy:Sc 1 bs pos vt 94 0 d.ambTy.toNat
 enums:Q6 A bs pos vt 98 ((d.enums.map fun b=>[b])=[]) (Qb6 (Qeo 1 (d.enums.map fun b=>[b])))
 signedEnum:Sc 1 bs pos vt 100 255 d.signedEnum.toNat
def flU (x D:UInt32):UInt32:=if FloatKind.f32.format.order x.toNat D.toNat=some .eq then D else x
theorem flU_toNat (x D:UInt32):(flU x D).toNat=flR x.toNat D.toNat:=by unfold flU flR;split<;>rfl
def flD (d:Qbg):Qbg:={d with f:=flU d.f 1078530000,f2:=flU d.f2 1077936128,f3:=flU d.f3 0}
theorem Q6.map {A:Nat} {bs:List UInt8} {pos vt vo:Nat} {ab:Prop} {Q Q':PP} (h:Q6 A bs pos vt vo ab Q) (hQ:Q A bs (pos+slotAt bs vt vo)->Q' A bs (pos+slotAt bs vt vo)):Q6 A bs pos vt vo ab Q':=by
 rcases h with h|⟨h1,h2,h3⟩
 ·exact Or.inl h
 ·exact Or.inr ⟨h1,h2,hQ h3⟩
theorem Q6.iff {A:Nat} {bs:List UInt8} {pos vt vo:Nat} {ab ab':Prop} {Q:PP} (h:Q6 A bs pos vt vo ab Q) (hab:ab↔ab'):Q6 A bs pos vt vo ab' Q:=by
 rw[<-propext hab];exact h
theorem QdE {A:Nat} {bs:List UInt8} {o:Nat} {P P':PP} (hP:P A bs (tgt bs o)->P' A bs (tgt bs o)) (h:QaX P A bs o):Qb6 P' A bs o:=⟨h.1,trivial,h.2.2.1,hP h.2.2.2⟩
theorem Qhx {A:Nat} {bs:List UInt8} {o:Nat} {xs:List UInt8} (h:QaX (Qct xs) A bs o):Qb6 (QhO xs) A bs o:=QdE (fun ⟨h1,_,h3,h4,_⟩=>⟨h1,h3,h4⟩) h
theorem Qdk {A k al:Nat} {bs:List UInt8} {o:Nat} {items:List (List UInt8)} (h:QaX (QaD k al items) A bs o):Qb6 (Qeo k items) A bs o:=QdE (fun ⟨⟨v1,_,_,v4⟩,v5⟩=>⟨v1,v4,v5⟩) h
theorem vecTW_of {α:Type} {l:List α} {P P':α->PP} {A:Nat} {bs:List UInt8} {o:Nat} (hP:∀a p,QaX (P a) A bs p->Qb6 (P' a) A bs p) (h:QaX (Qgj l P) A bs o):Qb6 (VecTW l P') A bs o:=QdE (fun ⟨⟨v1,_,_,v4⟩,v5⟩=>⟨⟨v1,v4⟩,fun i a ha=>hP a _ (v5 i a ha)⟩) h
theorem refPW_of {A:Nat} {bs:List UInt8} {o:Nat} {x:UInt64} (h:QaX (RefP x) A bs o):Qb6 (RefPW x) A bs o:=QdE (fun ⟨vt,h1,h2⟩=>⟨vt,h1.ok,h2.sc fun g=>g⟩) h
theorem simpleW_of {A:Nat} {bs:List UInt8} {o:Nat} {x:UInt8} (h:Qiu x A bs o):SimpleW x A bs o:=by
 obtain ⟨vt,h1,h2⟩:=h
 exact ⟨vt,h1.ok,h2.sc fun g=>g⟩
theorem statW_of {A:Nat} {bs:List UInt8} {o:Nat} {s:Qan} (h:Qje s A bs o):StatW s A bs o:=by
 obtain ⟨vt,h1,h2,h3,h4⟩:=h
 exact ⟨vt,h1.ok,h2.map Qhx,h3.sc fun g=>g,h4.sc fun g=>g⟩
theorem OwnRd.toW {A:Nat} {bs:List UInt8} {pos vt:Nat} {d:Qbg} (h:OwnRd A bs pos vt d):OwnW A bs pos vt (flD d) where
 tab:=h.tab.ok
 pos0:=h.pos0.map fun g=>by
  unfold posQ at g
  unfold posW
  rw[show (flD d).pos=d.pos from rfl]
  cases hp:d.pos with
  |none=>trivial
  |some v=>rw[hp]at g;show Yk bs _ (QgU v);have g:BytesP 8 (QgU v) A bs (pos+slotAt bs vt 4):=g;exact ⟨g.1,g.2.2⟩
 mana:=h.mana.sc (fun g=>g)
 hp:=h.hp.sc (fun g=>g)
 name:=h.name.map Qhx
 inventory:=h.inventory.map Qhx
 color:=h.color.sc (fun g=>g)
 testTy:=h.testTy.sc (fun g=>by rw[g];rfl)
 test4:=h.test4.map Qdk
 strings:=h.strings.map (vecTW_of fun _ _=>Qhx)
 nested:=h.nested.map Qhx
 empty:=h.empty.map (QdE fun g s hs=>statW_of (g s hs))
 bool:=h.bool.sc (fun g=>g)
 s32:=h.s32.sc (fun g=>g)
 u32:=h.u32.sc (fun g=>g)
 s64:=h.s64.sc (fun g=>g)
 u64:=h.u64.sc (fun g=>g)
 s32a:=h.s32a.sc (fun g=>g)
 u32a:=h.u32a.sc (fun g=>g)
 s64a:=h.s64a.sc (fun g=>g)
 u64a:=h.u64a.sc (fun g=>g)
 bools:=h.bools.map Qdk
 f:=by have:=h.f.scF;rw[show flR d.f.toNat 1078530000=(flU d.f 1078530000).toNat from (flU_toNat d.f 1078530000).symm]at this;exact this
 f2:=by have:=h.f2.scF;rw[show flR d.f2.toNat 1077936128=(flU d.f2 1077936128).toNat from (flU_toNat d.f2 1077936128).symm]at this;exact this
 f3:=by have:=h.f3.scF;rw[show flR d.f3.toNat 0=(flU d.f3 0).toNat from (flU_toNat d.f3 0).symm]at this;exact this
 strings2:=h.strings2.map (vecTW_of fun _ _=>Qhx)
 abilities:=h.abilities.map Qdk
 flex:=h.flex.map Qhx
 test5:=h.test5.map Qdk
 longs:=h.longs.map Qdk
 doubles:=h.doubles.map Qdk
 parent:=h.parent.map (QdE fun _=>trivial)
 refs:=h.refs.map (vecTW_of fun _ _=>refPW_of)
 singleWeak:=h.singleWeak.sc (fun g=>g)
 weak:=h.weak.map Qdk
 strong:=h.strong.map (vecTW_of fun _ _=>refPW_of)
 coOwning:=h.coOwning.sc (fun g=>g)
 coOwnings:=h.coOwnings.map Qdk
 nonOwning:=h.nonOwning.sc (fun g=>g)
 nonOwnings:=h.nonOwnings.map Qdk
 uniqTy:=h.uniqTy.sc (fun g=>by rw[g];rfl)
 ambTy:=h.ambTy.sc (fun g=>by rw[g];rfl)
 enums:=h.enums.map Qdk
 signedEnum:=h.signedEnum.sc (fun g=>g)
def MonW (d:Qbg) (abT:Prop) (PT:PP) (abE:Prop) (PE PU PQ PA:PP):PP:=fun A bs pos=>∃vt,OwnW A bs pos vt d/\
 Q6 A bs pos vt 26 abT (Qb6 PT)/\Q6 A bs pos vt 28 abE (Qb6 PE)/\Q6 A bs pos vt 20 (d.testTy=0) (Qb6 (UnW false d.testTy d.testColor PU))/\
 Q6 A bs pos vt 92 (d.uniqTy=0) (Qb6 (UnW false d.uniqTy d.uniqColor PQ))/\Q6 A bs pos vt 96 (d.ambTy=0) (Qb6 (UnW true d.ambTy d.ambColor PA))
mutual
def RwM:Mon->PP
 |.mk d tables enemy test uniq amb=>MonW d (tables=[]) (fun A bs t=>VecPW 4 tables.length A bs t/\RwL tables A bs (t+4)) (enemy=[]) (Rw1 enemy) (Rw1 test) (Rw1 uniq) (Rw1 amb)
def RwL:List Mon->PP
 |[]=>fun _ _ _=>True
 |m::ms=>fun A bs p=>Qb6 (RwM m) A bs p/\RwL ms A bs (p+4)
def Rw1:List Mon->PP
 |[]=>fun _ _ _=>False
 |m::_=>RwM m
end
theorem RwL_get:∀(ms:List Mon) {A:Nat} {bs:List UInt8} {p:Nat},RwL ms A bs p->∀(i:Nat) a,ms[i]?=some a->Qb6 (RwM a) A bs (p+4*i)
 |[],_,_,_,_,i,a,h=>by simp at h
 |m::ms,A,bs,p,h,i,a,ha=>by
  rw[RwL]at h
  cases i with
  |zero=>
   have:m=a:=by simpa using ha
   subst this;exact h.1
  |succ i=>
   have:=RwL_get ms h.2 i a (by simpa using ha)
   rwa [show p+4*(i+1)=p+4+4*i by omega]
mutual
def flM:Mon->Mon
 |.mk d tables enemy test uniq amb=>.mk (flD d) (Qj1 tables) (Qj1 enemy) (Qj1 test) (Qj1 uniq) (Qj1 amb)
def Qj1:List Mon->List Mon
 |[]=>[]
 |m::ms=>flM m::Qj1 ms
end
theorem flMs_nil {ms:List Mon}:ms=[]↔Qj1 ms=[]:=by
 cases ms with
 |nil=>rw[Qj1]
 |cons m ms=>rw[Qj1];constructor<;>(intro h;cases h)
theorem flMs_len:∀ms:List Mon,(Qj1 ms).length=ms.length
 |[]=>by rw[Qj1]
 |m::ms=>by rw[Qj1,List.length_cons,List.length_cons,flMs_len ms]
theorem unW_of {amb:Bool} {ty color:UInt8} {K K':PP} {A:Nat} {bs:List UInt8} {t:Nat} (hK:K A bs t->K' A bs t) (h:UnP amb ty color K A bs t):UnW amb ty color K' A bs t:=by
 unfold UnP at h
 unfold UnW
 split
 ·rename_i hc;rw[if_pos hc]at h;exact simpleW_of h
 ·rename_i hc;rw[if_neg hc]at h;exact hK h
mutual
theorem RdM.weak:∀(m:Mon) (A:Nat) (bs:List UInt8) (p:Nat),RdM m A bs p->RwM (flM m) A bs p
 |.mk d tables enemy test uniq amb,A,bs,p,h=>by
  rw[RdM]at h
  rw[flM,RwM]
  obtain ⟨vt,own,sT,sE,sU,sQ,sA⟩:=h
  refine ⟨vt,own.toW,(sT.iff flMs_nil).map (QdE fun ⟨⟨v1,_,_,v4⟩,v5⟩=>⟨?_,RdL.weak tables A bs _ v5⟩),(sE.iff flMs_nil).map (QdE (Rd1.weak enemy A bs _)),sU.map (QdE (unW_of (Rd1.weak test A bs _))),sQ.map (QdE (unW_of (Rd1.weak uniq A bs _))),sA.map (QdE (unW_of (Rd1.weak amb A bs _)))⟩
  rw[flMs_len];exact ⟨v1,v4⟩
theorem RdL.weak:∀(ms:List Mon) (A:Nat) (bs:List UInt8) (p:Nat),RdL ms A bs p->RwL (Qj1 ms) A bs p
 |[],_,_,_,_=>by rw[Qj1,RwL];trivial
 |m::ms,A,bs,p,h=>by
  rw[RdL]at h
  rw[Qj1,RwL]
  exact ⟨QdE (RdM.weak m A bs _) h.1,RdL.weak ms A bs _ h.2⟩
theorem Rd1.weak:∀(ms:List Mon) (A:Nat) (bs:List UInt8) (p:Nat),Rd1 ms A bs p->Rw1 (Qj1 ms) A bs p
 |[],_,_,_,h=>by rw[Rd1]at h;exact h.elim
 |m::ms,A,bs,p,h=>by
  rw[Rd1]at h
  rw[Qj1,Rw1]
  exact RdM.weak m A bs p h
end
structure RootRw (bs:List UInt8) (m:Mon):Prop where
 len:4<=bs.length
 le:le4 bs 0<=bs.length
 rd:∃A,RwM m A bs (le4 bs 0)
theorem RootRd.weak {bs:List UInt8} {m:Mon} (h:RootRd bs m):RootRw bs (flM m):=by
 obtain ⟨A,_,_,_,hr⟩:=h.al
 exact ⟨h.len,h.le,A,RdM.weak m A bs _ hr⟩
end Go.Proofs
namespace Go.Proofs
open Go Go.Vc
open Tryz (prog)
structure RS (G0:Cut) (H0:Qe) (t:TypeId) (ob:Obj) (q2 q3:Nat) (G:Cut) (H:Qe) (cells:List Value):Prop where
 ext:Ext G0 H0 G H
 o2:Yj H0 G H q2 ob
 o3:Yj H0 G H q3 (.cells cells.toArray t (0,0))
 ne:q2≠q3
def badq (q2 q3:Nat):Nat->Prop:=fun b=>b=q2\/b=q3
section
variable {G0:Cut} {H0:Qe} {t:TypeId} {ob:Obj} {q2 q3:Nat} {G:Cut} {H:Qe} {cells:List Value} (rs:RS G0 H0 t ob q2 q3 G H cells)
include rs
theorem RS.bad_lt:∀b,badq q2 q3 b->b<H.size:=fun b hb=>by
 rcases hb with rfl|rfl
 ·exact YB rs.o2.get
 ·exact YB rs.o3.get
theorem RS.push (o:Obj):RS G0 H0 t ob q2 q3 G (H.push o) cells:=⟨rs.ext.push o,rs.o2.push o,rs.o3.push o,rs.ne⟩
theorem RS.next {G':Cut} {H':Qe} (h:Ext G H G' H'):RS G0 H0 t ob q2 q3 G' H' cells:=⟨rs.ext.trans h,rs.o2.ext h,rs.o3.ext h,rs.ne⟩
theorem RS.st (i:Nat) (v:Value):RS G0 H0 t ob q2 q3 G (setB H q3 (.cells (cells.set i v).toArray t (0,0))) (cells.set i v):=
 ⟨rs.ext.set rs.o3.out rs.o3.new _,rs.o2.set_ne rs.ne _,rs.o3.set _,rs.ne⟩
theorem RS.ld {i:Nat} {v:Value} (hi:cells[i]?=some v) {k:Value->Prop}:LdK H (.pointer (some ⟨q3,i,none⟩)) k=k v:=
 Ql ((Qj rs.o3.get).trans (by simpa using hi))
theorem RS.store {i:Nat} {v:Value} (hi:i<cells.length) (hv:v.oneCell'=true) {kp:Qe->Prop} (hk:∀H',RS G0 H0 t ob q2 q3 G H' (cells.set i v)->H'=setB H q3 (.cells (cells.set i v).toArray t (0,0))->kp H'):
  Qh (.pointer (some ⟨q3,0,none⟩)) i fun a=>StK H 1 a v kp:=by
 rw[Qu,Qbe rs.o3.get (by simpa using hi) (by simp) hv]
 have e:cells.toArray.setIfInBounds i v=(cells.set i v).toArray:=by simp
 rw[e]
 exact hk _ (rs.st i v) rfl
theorem RS.tab {p B:Nat} {bs:List UInt8} {pos:Nat} (h:Tab H0 p B bs pos):Tab H p B bs pos:=h.ext rs.ext.keep.ext
theorem RS.push_item {fld es bts:Nat} {et:TypeId} {zs:Array Value} {cur:Value} {items:List (List Value)} (hc:Cur H0 G H et es cur items (badq q2 q3)) {v:Value} {it:List Value} (hv:v.cells.toList=it) (hl:it.length=es) (hone:∀x∈it,x.oneCell'=true)
  (hes:0<es) (hz:zs.size=es) (hb:0<bts) (hn:(items.length+1)*bts<=140737488355328) (hf:fld<cells.length) {k:Qe->Prop} (hk:∀H' c,RS G0 H0 t ob q2 q3 G H' (cells.set fld c)->Cur H0 G H' et es c (items++[it]) (badq q2 q3)->k H'):
  QN H et 1 (ZC zs.toList 1) [(0,es,v)] fun y h2=>Qi H h2 (QdQ h2 et es bts zs cur y fun c h3=>Qh (.pointer (some ⟨q3,0,none⟩)) fld fun a=>StK h3 1 a c k):=by
 have hvs:v.cells.size=es:=by rw[<-hl,<-hv];simp
 have hfill:Z3 (ZC zs.toList 1) [(0,es,v)]=some it:=by
  show (if v.cells.size=es/\0+v.cells.size<=(ZC zs.toList 1).length then _ else _)=_
  have hrl:(ZC zs.toList 1).length=es:=by simp[ZC,hz]
  rw[if_pos ⟨hvs,by rw[hrl];omega⟩]
  show some _=_
  rw[hv,hvs,Nat.zero_add,List.drop_eq_nil_of_le (by omega)];simp
 unfold QN
 simp only[hfill]
 refine Qw (Qai.push _ _).ext ?_
 have rs1:=rs.push (.cells it.toArray et (0,0))
 refine (hc.push _).app rs1.ext (y:=H.size) (yo:=0) (cells:=it.toArray) (ye:=et) (fr:=(0,0)) (it:=it) Qg (by simp[hl]) (by rw[List.drop_zero];simp[<-hl]) hone hes hb hn hz rs1.bad_lt ?_
 intro c H' he hcur hown
 have rs2:RS G0 H0 t ob q2 q3 G H' cells:=⟨he,hown _ _ (Or.inl rfl) rs1.o2,hown _ _ (Or.inr rfl) rs1.o3,rs.ne⟩
 refine rs2.store hf hcur.one ?_
 intro H2 rs3 hH2
 subst hH2
 exact hk _ _ rs3 (hcur.set (Or.inr rfl) _)
end
theorem foldl_bytes (xs:List UInt8):(xs.map fun b=>(b.toNat:Int)).foldl (fun r n=>r.push (UInt8.ofNat n.toNat)) ByteArray.empty=⟨xs.toArray⟩:=by
 have h:∀(xs:List UInt8) (a:List UInt8),(xs.map fun b=>(b.toNat:Int)).foldl (fun r n=>r.push (UInt8.ofNat n.toNat)) (ByteArray.mk a.toArray)=⟨(a++xs).toArray⟩:=by
  intro xs
  induction xs with
  |nil=>intro a;simp
  |cons x xs ih=>
   intro a
   rw[List.map_cons,List.foldl_cons]
   have e:(ByteArray.mk a.toArray).push (UInt8.ofNat ((x.toNat:Int)).toNat)=ByteArray.mk (a++[x]).toArray:=by
    show ByteArray.mk (a.toArray.push _)=_
    congr 1
    simp
   rw[e,ih]
   simp
 exact h xs []
theorem map_u8V (xs:List UInt8):xs.map u8V=(xs.map fun b=>(b.toNat:Int)).map (Value.int .u8):=by rw[List.map_map];rfl
theorem B2SK_of {H:Qe} {a:Addr} {n c:Nat} {xs:List UInt8} {k:Value->Prop} (h:Zp H a 0 n=some (xs.map u8V)) (hk:k (Yx xs)):QiO H (.slice (some a) n c) k:=by
 refine ⟨xs.map fun b=>(b.toNat:Int),by rw[h,map_u8V],?_⟩
 rw[foldl_bytes];exact hk
theorem Qif {H:Qe} {B:Nat} {bs:List UInt8} (h:U8s H B 0 bs) {o:Nat}:∀{n i:Nat},o+i+n<=bs.length->Zp H ⟨B,o,none⟩ i n=some (((bs.drop (o+i)).take n).map u8V)
 |0,i,_=>by simp[Zp]
 |n+1,i,hl=>by
  have h1:=h (o+i) (by omega)
  rw[Nat.zero_add]at h1
  rw[Zp,QfW,h1]
  simp only
  rw[Qif h (n:=n) (i:=i+1) (by omega)]
  simp only
  have e:bs.drop (o+i)=(bs[o+i]'(by omega))::bs.drop (o+(i+1)):=by rw[<-Nat.add_assoc];exact List.drop_eq_getElem_cons (by omega)
  rw[e,List.take_succ_cons,List.map_cons]
  congr 2
  unfold byteN u8V
  simp[List.getD,List.getElem?_eq_getElem (show o+i<bs.length by omega)]
theorem Tab.str {H:Qe} {p B:Nat} {bs:List UInt8} {pos:Nat} (ht:Tab H p B bs pos) {o n c:Nat} {xs:List UInt8} (hx:Yk bs o xs) (hn:xs.length=n) {k:Value->Prop} (hk:k (Yx xs)):QiO H (bsl B o n c) k:=by
 subst hn
 refine B2SK_of (xs:=xs) ?_ hk
 rw[Qif ht.u8 (by have:=hx.1;omega),Nat.add_zero,hx.2]
theorem strV_add (xs ys:List UInt8):(ByteArray.mk xs.toArray)++(ByteArray.mk ys.toArray)=ByteArray.mk (xs++ys).toArray:=by
 apply ByteArray.ext
 rw[ByteArray.data_append]
 simp
theorem RS.push_byte {G0:Cut} {H0:Qe} {t:TypeId} {ob:Obj} {q2 q3:Nat} {G:Cut} {H:Qe} {cells:List Value} (rs:RS G0 H0 t ob q2 q3 G H cells) {P:Program} {fld:Nat} {et st:TypeId} {zs:Array Value} {xs:List UInt8} {b:UInt8} (hz:zs.size=1) (hl:xs.length+1<=9223372036854775807) (hf:fld<cells.length)
  {k:Qe->Prop} (hk:∀H',RS G0 H0 t ob q2 q3 G H' (cells.set fld (Yx (xs++[b])))->k H'):
  QN H et 1 (ZC zs.toList 1) [(0,1,u8V b)] fun y h2=>Qi H h2 (QiO h2 y fun s=>Qr P .add st (Yx xs) s fun c=>Qh (.pointer (some ⟨q3,0,none⟩)) fld fun a=>StK h2 1 a c k):=by
 have hfill:Z3 (ZC zs.toList 1) [(0,1,u8V b)]=some [u8V b]:=by
  have hrl:(ZC zs.toList 1).length=1:=by simp[ZC,hz]
  show (if (1:Nat)=1/\0+1<=(ZC zs.toList 1).length then _ else _)=_
  rw[if_pos ⟨rfl,by omega⟩]
  show some (List.take 0 (ZC zs.toList 1)++[u8V b]++List.drop (0+1) (ZC zs.toList 1))=_
  rw[List.drop_eq_nil_of_le (by omega)];rfl
 unfold QN
 simp only[hfill]
 refine Qw (Qai.push _ _).ext ?_
 have rs1:=rs.push (.cells [u8V b].toArray et (0,0))
 refine B2SK_of (xs:=[b]) ?_ ?_
 ·rw[Q0 (Qg) 1 (by simp)];rfl
 ·rw[BinK_stradd (by rw[Qdw,Qdw];exact hl),strV_add]
  exact rs1.store hf rfl (fun H' h _=>hk H' h)
theorem QdU.n_le {k:Nat} {bs:List UInt8} {pos vt vo n at_:Nat} (h:QdU k bs pos vt vo n at_) (hk:1<=k):n<=bs.length:=by
 rcases h with ⟨_,h⟩|⟨_,_,_,_,h,_⟩
 ·omega
 ·have:1*n<=k*n:=Nat.mul_le_mul_right _ hk
  omega
end Go.Proofs
