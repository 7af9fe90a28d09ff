/- WHAT IS PROVED: the given statement of FnMonsterFormat, whatever the input: this is part 5 of 14. No conditions. -/
import Derived.Test.YthcjblkplcepaaaGreatX04
set_option linter.all false
namespace Go.Proofs
open Go Go.Vc
open Tryz (prog)
theorem wrap_inj {κ:IntKind} {x y:Nat} (hx:x<2^κ.bits) (hy:y<2^κ.bits) (h:κ.wrap (x:Int)=κ.wrap (y:Int)):x=y:=by
 have h1:=QeX κ x
 have h2:=QeX κ y
 rw[h]at h1
 have h3:=h1.symm.trans h2
 have e:(2^κ.bits:Int)=((2^κ.bits:Nat):Int):=by rw[Int.natCast_pow];rfl
 rw[e,<-Int.natCast_emod,<-Int.natCast_emod,Nat.mod_eq_of_lt hx,Nat.mod_eq_of_lt hy]at h3
 omega
theorem QdF {κ:IntKind} {x:Int} {k:Nat} (hk:8*k<=κ.bits):leB (κ.wrap x) k=leB x k:=by
 unfold leB
 apply List.map_congr_left
 intro i hi
 have hi':=List.mem_range.1 hi
 unfold Za
 congr 2
 have h1:=QeX κ x
 have e:∀z:Int,(z/2^(8*i))%256=((z%(2^κ.bits:Int))/2^(8*i))%256:=by
  intro z
  obtain ⟨m,hm⟩:∃m,κ.bits=8*i+8+m:=⟨κ.bits-(8*i+8),by omega⟩
  have hz:=Int.emod_add_mul_ediv z (2^κ.bits)
  have hpos:(0:Int)<2^(8*i):=Int.pow_pos (by decide)
  have hp:(2^κ.bits:Int)=2^(8*i)*(256*2^m):=by
   rw[hm,Int.pow_add,Int.pow_add,Int.mul_assoc];rfl
  rw[hp]at hz⊢
  have h3:z/2^(8*i)=z%(2^(8*i)*(256*2^m))/2^(8*i)+256*2^m*(z/(2^(8*i)*(256*2^m))):=by
   have h4:z=z%(2^(8*i)*(256*2^m))+2^(8*i)*(256*2^m*(z/(2^(8*i)*(256*2^m)))):=by
    have h0:=hz.symm
    rw[Int.mul_assoc (2^(8*i)) (256*2^m) _]at h0
    exact h0
   have h5:=Int.add_mul_ediv_left (z%(2^(8*i)*(256*2^m))) (256*2^m*(z/(2^(8*i)*(256*2^m)))) (Int.ne_of_gt hpos)
   rw[<-h5,<-h4]
  rw[h3,Int.mul_assoc,Int.add_mul_emod_self_left]
 rw[e (κ.wrap x),e x,h1]
def slotN (k x d o:Nat) (S:BS):BS:=if x=d then S else slot o (putN k (leB (x:Int) k) S)
def slotF (x d o:Nat) (S:BS):BS:=if (FloatKind.f32.format.order x d !=some .eq)=true then slot o (putN 4 (leB (x:Int) 4) S) else S
def slotOff (off o:Nat) (S:BS):BS:=if off=0 then S else slot o (putOff off S)
def slotStruct (off o:Nat) (S:BS):BS:=if off=0 then S else slot o S
theorem BinK_fne {P:Program} {t:TypeId} {q:FloatKind} {a b:Nat} {k:Value->Prop}:Qj P .neq t (.float q a) (.float q b) k=k (.bool (q.format.order a b !=some .eq)):=
 QcV (by simp) (by simp) fun w=>by rw[binOp_float_cmp_neq];rfl
section
variable {H:Qe} {p:Nat} {S:BS} {F:Cut} {r:Nat} (hB:Qc H p S F r) {R:Kn}
include hB
theorem Qfg {x:Nat} (hx:x<256) (hl:S.buf.length+16<=536870912) (hR:∀H',Qc H' p (putN 1 (leB (x:Int) 1) S) F 0->R (.tuple #[]) H'):FnS prog 104 #[.pointer (some ⟨p,0,none⟩),.int .u8 (x:Int)] H R:=by
 have e1:((UInt8.ofNat x).toNat:Int)=(x:Int):=by rw[UInt8.toNat_ofNat_of_lt' hx]
 have e2:leB (x:Int) 1=[UInt8.ofNat x]:=by
  rw[leB_1]
  unfold Za
  congr 2
  simp;omega
 rw[<-e1]
 rw[e2]at hR
 exact QcQ hB hl (fun H' h=>hR H' (h.room (Nat.zero_le _)))
theorem QaY {x d o:Nat} (hx:x<65536) (hd:d<65536) (ho:o<S.vt.length) (hl:S.buf.length+16<=536870912) (hR:∀H',Qc H' p (slotN 2 x d o S) F 0->R (.tuple #[]) H'):
  FnS prog 275 #[.pointer (some ⟨p,0,none⟩),.int .i64 (o:Nat),.int .i16 (IntKind.i16.wrap (x:Int)),.int .i16 (IntKind.i16.wrap (d:Int))] H R:=by
 apply w275
 unfold QeR
 rw[Y5]
 unfold slotN at hR
 by_cases h:x=d
 ·subst h
  rw[Yb (by simp)]
  rw[if_pos rfl]at hR
  exact hR H (hB.room (Nat.zero_le _))
 ·rw[Yj]
  ·rw[if_neg h]at hR
   refine Qco hB hl ?_
   intro H1 h1
   rw[QdF (by decide)]at h1
   refine YR h1 ho ?_
   intro H2 h2
   exact hR H2 (h2.room (Nat.zero_le _))
  ·intro hh
   exact h (wrap_inj (κ:=.i16) hx hd hh)
theorem Qel {x d o:Nat} (hx:x<256) (hd:d<256) (ho:o<S.vt.length) (hl:S.buf.length+16<=536870912) (hR:∀H',Qc H' p (slotN 1 x d o S) F 0->R (.tuple #[]) H'):
  FnS prog 284 #[.pointer (some ⟨p,0,none⟩),.int .i64 (o:Nat),.int .i8 (IntKind.i8.wrap (x:Int)),.int .i8 (IntKind.i8.wrap (d:Int))] H R:=by
 apply w284
 unfold QeR
 rw[Y5]
 unfold slotN at hR
 by_cases h:x=d
 ·subst h
  rw[Yb (by simp)]
  rw[if_pos rfl]at hR
  exact hR H (hB.room (Nat.zero_le _))
 ·rw[Yj]
  ·rw[if_neg h]at hR
   refine QcR hB hl ?_
   intro H1 h1
   rw[QdF (by decide)]at h1
   refine YR h1 ho ?_
   intro H2 h2
   exact hR H2 (h2.room (Nat.zero_le _))
  ·intro hh
   exact h (wrap_inj (κ:=.i8) hx hd hh)
theorem Qb9 {x d o:Nat} (hx:x<4294967296) (hd:d<4294967296) (ho:o<S.vt.length) (hl:S.buf.length+16<=536870912) (hR:∀H',Qc H' p (slotN 4 x d o S) F 0->R (.tuple #[]) H'):
  FnS prog 279 #[.pointer (some ⟨p,0,none⟩),.int .i64 (o:Nat),.int .i32 (IntKind.i32.wrap (x:Int)),.int .i32 (IntKind.i32.wrap (d:Int))] H R:=by
 apply w279
 unfold QeR
 rw[Y5]
 unfold slotN at hR
 by_cases h:x=d
 ·subst h
  rw[Yb (by simp)]
  rw[if_pos rfl]at hR
  exact hR H (hB.room (Nat.zero_le _))
 ·rw[Yj]
  ·rw[if_neg h]at hR
   refine Qfi hB hl ?_
   intro H1 h1
   rw[QdF (by decide)]at h1
   refine YR h1 ho ?_
   intro H2 h2
   exact hR H2 (h2.room (Nat.zero_le _))
  ·intro hh
   exact h (wrap_inj (κ:=.i32) hx hd hh)
theorem ZJ {x d o:Nat} (hx:x<18446744073709551616) (hd:d<18446744073709551616) (ho:o<S.vt.length) (hl:S.buf.length+16<=536870912) (hR:∀H',Qc H' p (slotN 8 x d o S) F 0->R (.tuple #[]) H'):
  FnS prog 281 #[.pointer (some ⟨p,0,none⟩),.int .i64 (o:Nat),.int .i64 (IntKind.i64.wrap (x:Int)),.int .i64 (IntKind.i64.wrap (d:Int))] H R:=by
 apply w281
 unfold QeR
 rw[Y5]
 unfold slotN at hR
 by_cases h:x=d
 ·subst h
  rw[Yb (by simp)]
  rw[if_pos rfl]at hR
  exact hR H (hB.room (Nat.zero_le _))
 ·rw[Yj]
  ·rw[if_neg h]at hR
   refine QcK hB hl ?_
   intro H1 h1
   rw[QdF (by decide)]at h1
   refine YR h1 ho ?_
   intro H2 h2
   exact hR H2 (h2.room (Nat.zero_le _))
  ·intro hh
   exact h (wrap_inj (κ:=.i64) hx hd hh)
theorem QaP {x d o:Nat} (hx:x<4294967296) (hd:d<4294967296) (ho:o<S.vt.length) (hl:S.buf.length+16<=536870912) (hR:∀H',Qc H' p (slotN 4 x d o S) F 0->R (.tuple #[]) H'):
  FnS prog 280 #[.pointer (some ⟨p,0,none⟩),.int .i64 (o:Nat),.int .u32 (x:Int),.int .u32 (d:Int)] H R:=by
 apply w280
 unfold QeR
 rw[Y5]
 unfold slotN at hR
 by_cases h:x=d
 ·subst h
  rw[Yb (by simp)]
  rw[if_pos rfl]at hR
  exact hR H (hB.room (Nat.zero_le _))
 ·rw[Yj]
  ·rw[if_neg h]at hR
   refine Qc1 hB hl ?_
   intro H1 h1
   skip
   refine YR h1 ho ?_
   intro H2 h2
   exact hR H2 (h2.room (Nat.zero_le _))
  ·intro hh
   omega
theorem Y3 {x d o:Nat} (hx:x<18446744073709551616) (hd:d<18446744073709551616) (ho:o<S.vt.length) (hl:S.buf.length+16<=536870912) (hR:∀H',Qc H' p (slotN 8 x d o S) F 0->R (.tuple #[]) H'):
  FnS prog 282 #[.pointer (some ⟨p,0,none⟩),.int .i64 (o:Nat),.int .u64 (x:Int),.int .u64 (d:Int)] H R:=by
 apply w282
 unfold QeR
 rw[Y5]
 unfold slotN at hR
 by_cases h:x=d
 ·subst h
  rw[Yb (by simp)]
  rw[if_pos rfl]at hR
  exact hR H (hB.room (Nat.zero_le _))
 ·rw[Yj]
  ·rw[if_neg h]at hR
   refine QbX hB hl ?_
   intro H1 h1
   skip
   refine YR h1 ho ?_
   intro H2 h2
   exact hR H2 (h2.room (Nat.zero_le _))
  ·intro hh
   omega
theorem QdB {x d o:Nat} (hx:x<65536) (hd:d<65536) (ho:o<S.vt.length) (hl:S.buf.length+16<=536870912) (hR:∀H',Qc H' p (slotN 2 x d o S) F 0->R (.tuple #[]) H'):
  FnS prog 323 #[.pointer (some ⟨p,0,none⟩),.int .i64 (o:Nat),.int .u16 (x:Int),.int .u16 (d:Int)] H R:=by
 apply w323
 unfold QeR
 rw[Y5]
 unfold slotN at hR
 by_cases h:x=d
 ·subst h
  rw[Yb (by simp)]
  rw[if_pos rfl]at hR
  exact hR H (hB.room (Nat.zero_le _))
 ·rw[Yj]
  ·rw[if_neg h]at hR
   refine Qfa hB hl ?_
   intro H1 h1
   skip
   refine YR h1 ho ?_
   intro H2 h2
   exact hR H2 (h2.room (Nat.zero_le _))
  ·intro hh
   omega
theorem YE {x d o:Nat} (hx:x<256) (hd:d<256) (ho:o<S.vt.length) (hl:S.buf.length+16<=536870912) (hR:∀H',Qc H' p (slotN 1 x d o S) F 0->R (.tuple #[]) H'):
  FnS prog 277 #[.pointer (some ⟨p,0,none⟩),.int .i64 (o:Nat),.int .u8 (x:Int),.int .u8 (d:Int)] H R:=by
 apply w277
 unfold QeR
 rw[Y5]
 unfold slotN at hR
 by_cases h:x=d
 ·subst h
  rw[Yb (by simp)]
  rw[if_pos rfl]at hR
  exact hR H (hB.room (Nat.zero_le _))
 ·rw[Yj (by omega)]
  rw[if_neg h]at hR
  refine Qfg hB hx hl ?_
  intro H1 h1
  refine YR h1 ho ?_
  intro H2 h2
  exact hR H2 (h2.room (Nat.zero_le _))
theorem Qei {x:Bool} {o:Nat} (ho:o<S.vt.length) (hl:S.buf.length+16<=536870912) (hR:∀H',Qc H' p (slotN 1 (if x then 1 else 0) 0 o S) F 0->R (.tuple #[]) H'):
  FnS prog 278 #[.pointer (some ⟨p,0,none⟩),.int .i64 (o:Nat),.bool x,.bool false] H R:=by
 apply w278
 unfold s278
 refine Q2 (fun vs h=>vs=[.int .u8 ((if x then 1 else 0:Nat):Int)]/\h=H) ?_ ?_
 ·cases x
  ·exact ⟨rfl,rfl⟩
  ·exact ⟨rfl,rfl⟩
 ·rintro v h ⟨hv,rfl⟩
  cases hv
  refine Q2 (fun vs h'=>vs=[.int .u8 ((0:Nat):Int)]/\h'=h) ?_ ?_
  ·exact ⟨rfl,rfl⟩
  ·rintro v h' ⟨hv,rfl⟩
   cases hv
   refine YE hB (by split<;>decide) (by decide) ho hl ?_
   intro H1 h1
   exact hR H1 h1
theorem Z5 {x d o:Nat} (ho:o<S.vt.length) (hl:S.buf.length+16<=536870912) (hR:∀H',Qc H' p (slotF x d o S) F 0->R (.tuple #[]) H'):
  FnS prog 283 #[.pointer (some ⟨p,0,none⟩),.int .i64 (o:Nat),.float .f32 x,.float .f32 d] H R:=by
 apply w283
 unfold QeR
 rw[BinK_fne]
 unfold slotF at hR
 apply Yt
 ·intro h
  rw[if_pos h]at hR
  refine QbI hB hl ?_
  intro H1 h1
  refine YR h1 ho ?_
  intro H2 h2
  exact hR H2 (h2.room (Nat.zero_le _))
 ·intro h
  rw[if_neg (by rw[h];decide)]at hR
  exact hR H (hB.room (Nat.zero_le _))
theorem Qn {off o:Nat} (hoff:off<=S.buf.length) (ho:o<S.vt.length) (hl:S.buf.length+16<=536870912) (hR:∀H',Qc H' p (slotOff off o S) F 0->R (.tuple #[]) H'):
  FnS prog 276 #[.pointer (some ⟨p,0,none⟩),.int .i64 (o:Nat),.int .u32 (off:Int),.int .u32 0] H R:=by
 apply w276
 unfold QeR
 rw[Y5]
 unfold slotOff at hR
 by_cases h:off=0
 ·subst h
  rw[Yb (by simp)]
  rw[if_pos rfl]at hR
  exact hR H (hB.room (Nat.zero_le _))
 ·rw[Yj (by omega)]
  rw[if_neg h]at hR
  refine ZW hB hl hoff ?_
  intro H1 h1
  refine YR h1 ho ?_
  intro H2 h2
  exact hR H2 (h2.room (Nat.zero_le _))
theorem QdC {off o:Nat} (hn:S.nested=true) (hoff:off=0\/off=S.buf.length) (ho:o<S.vt.length) (hR:∀H',Qc H' p (slotStruct off o S) F 0->R (.tuple #[]) H'):
  FnS prog 274 #[.pointer (some ⟨p,0,none⟩),.int .i64 (o:Nat),.int .u32 (off:Int),.int .u32 0] H R:=by
 apply w274
 unfold s274
 rw[Y5]
 unfold slotStruct at hR
 by_cases h:off=0
 ·subst h
  rw[Yb (by simp)]
  rw[if_pos rfl]at hR
  exact hR H (hB.room (Nat.zero_le _))
 ·rw[Yj (by omega)]
  rw[if_neg h]at hR
  have ho2:off=S.buf.length:=by omega
  refine Qav hB hn ?_
  refine Q2 (fun _ h=>h=H) ?_ ?_
  ·refine Yl hB ?_
   rw[Y5,Yb (by omega)]
  ·rintro h2 rfl
   refine YR hB ho ?_
   intro H2 h2
   exact hR H2 (h2.room (Nat.zero_le _))
def Qgm (off:Nat) (S:BS):BS:={putOff off (prep S.min 4 S) with fin:=true}
theorem Qir {off k:Nat} (hn:S.nested=false) (hm:S.min=2^k) (hk:k<=3) (ho:off<=S.buf.length) (hl:S.buf.length+64<=536870912) (hR:∀H',Qc H' p (Qgm off S) F 0->R (.tuple #[]) H'):
  FnS prog 21 #[.pointer (some ⟨p,0,none⟩),.int .u32 (off:Int)] H R:=by
 have hB':=hB
 obtain ⟨hd,h1,⟨B,V,T,L,len,vtv,vtsv,e,eB,hr,h2,h3⟩⟩:=hB'
 apply w21
 unfold s21
 refine YV hB hn ?_
 simp only[↓Qp,↓Qm,↓Ql (ld_min hr)]
 refine QX (size:=S.min) (add:=4) (k:=k) hB hm hk rfl (by omega) ?_
 intro H1 g1
 have hpl:padOf S.min (S.buf.length+4)<8+1:=by
  have:padOf S.min (S.buf.length+4)<S.min:=Zo (by rw[hm];exact Nat.two_pow_pos k)
  have:S.min<=8:=by rw[hm];exact Nat.pow_le_pow_right (by decide) hk
  omega
 refine ZW g1 (by rw[Qa5];omega) (by rw[Qa5];omega) ?_
 intro H2 g2
 refine st_fin_at g2 ?_
 intro H3 g3
 exact hR H3 (g3.room (Nat.zero_le _))
theorem Qfc (hf:S.fin=true) (h0:0<S.buf.length) (hR:∀B hd c,S.buf.length<=c->U8s H B hd S.buf->R (bsl B hd S.buf.length c) H):
  FnS prog 24 #[.pointer (some ⟨p,0,none⟩)] H R:=by
 have hB':=hB
 obtain ⟨hd,h1,⟨B,V,T,L,len,vtv,vtsv,e,eB,hr,h2,h3⟩⟩:=hB'
 have hL:=hr.hlen
 apply w24
 unfold s24
 refine QeA hB hf ?_
 simp only[↓Qp,↓Qm,↓Ql (YI hr)]
 apply w157
 unfold s157
 simp only[↓Qp,↓Qm,↓Ql (YL hr),Qb]
 rw[ZD hr (m:=hd) (by omega),show len-hd=S.buf.length by omega]
 refine hR B hd _ (by omega) ?_
 intro i hi
 rw[QdZ hr.hB |>.at (Nat.zero_add _).symm (by omega)]
 rw[QhO h3 hi]
end
theorem QgN {z:Array Value} {k:Value->Prop}:Qu z.toList [] k=k (.agg z):=by simp[Qu,YN]
def Qcc:BS:=⟨[],1,[],0,[],false,false⟩
theorem go_NewBuilder {H:Qe} {F:Cut} {R:Kn} {n:Nat} (hn:n<65536) (hF:∀b o,F b=some o->H[b]?=some o)
  (hR:∀H',Qc H' H.size Qcc F 0->Qay H H'->R (.pointer (some ⟨H.size,0,none⟩)) H'):
  FnS prog 20 #[.int .i64 (n:Nat)] H R:=by
 apply w20
 unfold s20
 refine Q2 (fun vs h=>vs=[.int .i64 (n:Nat)]/\h=H) ?_ ?_
 ·rw[Qep]
  apply Z0
  ·intro h
   have:n=0:=by omega
   subst this
   exact ⟨rfl,rfl⟩
  ·intro h
   exact ⟨rfl,rfl⟩
 ·rintro x h ⟨hx,rfl⟩
  cases hx
  rw[QgN]
  have hp1:(h.push (.cells z134 134))[h.size]?=_:=Qi
  have hs1:(h.push (.cells z134 134)).size=h.size+1:=size_push
  have hk1:Qay h (h.push (.cells z134 134)):=Qay.push _ _
  rw[show Value.cells (.agg z134)=z134 from rfl,Qx]
  generalize h.push (.cells z134 134)=H1 at *
  refine ⟨by omega,by omega,by omega,by omega,?_⟩
  simp only[Int.toNat_natCast]
  rw[mk_u8 (z:=z5) rfl]
  have hp2:(H1.push (.cells (u8c (List.replicate n 0)) 5))[h.size]?=_:=YJ hp1
  have hq2:(H1.push (.cells (u8c (List.replicate n 0)) 5))[H1.size]?=_:=Qi
  have hs2:(H1.push (.cells (u8c (List.replicate n 0)) 5)).size=H1.size+1:=size_push
  have hk2:=hk1.trans (Qay.push H1 (.cells (u8c (List.replicate n 0)) 5))
  generalize H1.push (.cells (u8c (List.replicate n 0)) 5)=H2 at *
  simp only[↓Qp,↓Qm]
  rw[Qax hp2 (by decide:0<9) (by simp) rfl,Q7,QU (by omega) (by omega)]
  rw[Qax (QV hp2) (by decide:5<9) (by simp) rfl,Qef]
  rw[Qax (QV hp2) (by decide:1<9) (by simp) rfl,Qef]
  have hk3:=hk2.setB (Nat.le_refl _) (.cells (((z134.setIfInBounds 0 (bsl H1.size 0 n n)).setIfInBounds 5 (.int .u32 (n:Nat))).setIfInBounds 1 (.int .i64 1)) 134 (0,0))
  have hp3:=QV (o:=.cells (((z134.setIfInBounds 0 (bsl H1.size 0 n n)).setIfInBounds 5 (.int .u32 (n:Nat))).setIfInBounds 1 (.int .i64 1)) 134 (0,0)) hp2
  have hq3:=(Qw (H:=H2) (b:=h.size) (b':=H1.size) (o:=.cells (((z134.setIfInBounds 0 (bsl H1.size 0 n n)).setIfInBounds 5 (.int .u32 (n:Nat))).setIfInBounds 1 (.int .i64 1)) 134 (0,0)) (by omega)).trans hq2
  have hs3:=size_setB (H:=H2) (b:=h.size) (o:=.cells (((z134.setIfInBounds 0 (bsl H1.size 0 n n)).setIfInBounds 5 (.int .u32 (n:Nat))).setIfInBounds 1 (.int .i64 1)) 134 (0,0))
  generalize setB H2 h.size (.cells (((z134.setIfInBounds 0 (bsl H1.size 0 n n)).setIfInBounds 5 (.int .u32 (n:Nat))).setIfInBounds 1 (.int .i64 1)) 134 (0,0))=H3 at *
  refine ⟨by decide,by decide,by decide,by decide,?_⟩
  have e16:(16:Int).toNat=16:=rfl
  rw[e16,mk_u32 (z:=z74) rfl]
  have hp4:(H3.push (.cells (QgZ (List.replicate 16 0)) 74))[h.size]?=_:=YJ hp3
  have hq4:(H3.push (.cells (QgZ (List.replicate 16 0)) 74))[H1.size]?=_:=YJ hq3
  have ht4:(H3.push (.cells (QgZ (List.replicate 16 0)) 74))[H3.size]?=_:=Qi
  have hk4:=hk3.trans (Qay.push H3 (.cells (QgZ (List.replicate 16 0)) 74))
  generalize H3.push (.cells (QgZ (List.replicate 16 0)) 74)=H4 at *
  show StK H4 1 (.pointer (some ⟨h.size,4,none⟩)) (.slice (some ⟨H3.size,0,none⟩) 0 16) _
  rw[Qax hp4 (by decide:4<9) (by simp) rfl]
  refine hR _ ?_ (hk4.setB (Nat.le_refl _) _)
  refine ⟨n,Nat.zero_le _,⟨H1.size,h.size,H3.size,List.replicate n 0,n,.slice none 0 0,.slice (some ⟨H3.size,0,none⟩) 0 16,134,5,?_,by simp[Qcc],by simp[Qcc]⟩⟩
  refine ⟨?_,?_,Or.inl ⟨rfl,rfl,rfl⟩,⟨List.replicate 16 0,74,by simp[Qcc],?_,by simp[Qcc],by simp[Qcc]⟩,by omega,by omega,by omega,?_,by simp,by omega⟩
  ·rw[QV hp4,List.length_replicate];rfl
  ·rw[Qw (by omega)];exact hq4
  ·rw[Qw (by omega)];exact ht4
  ·intro b o hb
   have h1:=hF b o hb
   have h2:=YM h1
   exact ⟨by rw[Qw (by omega)];exact hk4 b o h1,by omega,by omega,by omega,by omega⟩
end Go.Proofs
namespace Go.Proofs
open Go Go.Vc
open Tryz (prog)
theorem Qde {x bs:List UInt8} {i:Nat}:byteN (x++bs) (x.length+i)=byteN bs i:=by
 unfold byteN
 congr 1
 simp[List.getD,List.getElem?_append_right]
theorem YT {x bs:List UInt8} {i:Nat}:le2 (x++bs) (x.length+i)=le2 bs i:=by
 unfold le2;rw[Qde,Nat.add_assoc,Qde]
theorem QaE {x bs:List UInt8} {i:Nat}:le4 (x++bs) (x.length+i)=le4 bs i:=by
 unfold le4;rw[YT,Nat.add_assoc,YT]
theorem le8_append {x bs:List UInt8} {i:Nat}:le8 (x++bs) (x.length+i)=le8 bs i:=by
 unfold le8;rw[QaE,Nat.add_assoc,QaE]
theorem QhZ.ext {S S':BS} (h:QhZ S) (hv:S'.vts=S.vts) {x:List UInt8} (hb:S'.buf=x++S.buf):QhZ S':=by
 intro o ho
 rw[hv]at ho
 obtain ⟨h1,h2,h3,h4⟩:=h o ho
 have e:S'.buf.length-o=x.length+(S.buf.length-o):=by rw[hb,List.length_append];omega
 have e2:le2 S'.buf (S'.buf.length-o)=le2 S.buf (S.buf.length-o):=by rw[e,hb,YT]
 rw[e2]
 refine ⟨h1,?_,h3,h4⟩
 rw[hb,List.length_append];omega
def P2 (n:Nat):Prop:=∃k,k<=3/\n=2^k
theorem P2.max {a b:Nat} (ha:P2 a) (hb:P2 b):P2 (Nat.max a b):=by
 rcases Nat.le_total a b with h|h
 ·rw[show Nat.max a b=b from Nat.max_eq_right h];exact hb
 ·rw[show Nat.max a b=a from Nat.max_eq_left h];exact ha
theorem P2.pos {a:Nat} (ha:P2 a):0<a:=by obtain ⟨k,_,rfl⟩:=ha;exact Nat.two_pow_pos k
theorem P2.le {a:Nat} (ha:P2 a):a<=8:=by obtain ⟨k,hk,rfl⟩:=ha;exact Nat.pow_le_pow_right (by decide) hk
theorem P2_1:P2 1:=⟨0,by decide,rfl⟩
theorem P2_2:P2 2:=⟨1,by decide,rfl⟩
theorem QgV:P2 4:=⟨2,by decide,rfl⟩
theorem QfV:P2 8:=⟨3,by decide,rfl⟩
structure YA (S0:BS) (n c:Nat) (S:BS):Prop where
 nested:S.nested=true
 vtl:S.vt.length=n
 oe:S.oe=S0.buf.length
 vts:S.vts=S0.vts
 ext:∃x,S.buf=x++S0.buf
 vle:∀j,S.vt.getD j 0<=S.buf.length
 len:S.buf.length<=S0.buf.length+c
 fin:S.fin=S0.fin
 min:P2 S.min
theorem YA.start {S0:BS} {n:Nat} (hm:P2 S0.min):YA S0 n 0 (Zc n S0):=
 ⟨rfl,by simp[Zc],rfl,rfl,⟨[],rfl⟩,fun j=>by
  simp only[Zc,List.getD,List.getElem?_replicate]
  split<;>simp,Nat.le_refl _,rfl,hm⟩
theorem getD_set (l:List Nat) (o j x:Nat):(l.set o x).getD j 0=if o=j/\o<l.length then x else l.getD j 0:=by
 simp only[List.getD,List.getElem?_set]
 by_cases h:o=j
 ·subst h
  by_cases h2:o<l.length
  ·simp[h2]
  ·simp[h2]
 ·simp[h]
theorem YA.mono {S0 S:BS} {n c c':Nat} (h:YA S0 n c S) (hc:c<=c'):YA S0 n c' S:={h with len:=by have:=h.len;omega}
theorem YA.prep {S0 S:BS} {n c k a:Nat} (h:YA S0 n c S) (hk:P2 k):YA S0 n (c+7) (Vc.prep k a S):=by
 obtain ⟨x,hx⟩:=h.ext
 have hp:=Zo (size:=k) (n:=S.buf.length+a) hk.pos
 have hk8:=hk.le
 refine ⟨h.nested,h.vtl,h.oe,h.vts,⟨List.replicate (padOf k (S.buf.length+a)) 0++x,by simp[Vc.prep,place,hx]⟩,fun j=>?_,?_,h.fin,h.min.max hk⟩
 ·have:=h.vle j
  rw[Qa5]
  show S.vt.getD j 0<=_
  omega
 ·rw[Qa5]
  have:=h.len
  omega
theorem YA.place {S0 S:BS} {n c:Nat} (h:YA S0 n c S) (xs:List UInt8):YA S0 n (c+xs.length) (Vc.place xs S):=by
 obtain ⟨x,hx⟩:=h.ext
 refine ⟨h.nested,h.vtl,h.oe,h.vts,⟨xs++x,by simp[Vc.place,hx]⟩,fun j=>?_,?_,h.fin,h.min⟩
 ·have:=h.vle j
  show S.vt.getD j 0<=(xs++S.buf).length
  rw[List.length_append];omega
 ·show (xs++S.buf).length<=_
  have:=h.len
  rw[List.length_append];omega
theorem YA.slot {S0 S:BS} {n c o:Nat} (h:YA S0 n c S):YA S0 n c (Proofs.slot o S):=by
 refine ⟨h.nested,by simp[Proofs.slot,h.vtl],h.oe,h.vts,h.ext,fun j=>?_,h.len,h.fin,h.min⟩
 have:=h.vle j
 show (S.vt.set o S.buf.length).getD j 0<=S.buf.length
 rw[getD_set]
 split<;>omega
theorem YA.putN {S0 S:BS} {n c k:Nat} {xs:List UInt8} (h:YA S0 n c S) (hk:P2 k) (hx:xs.length<=8):YA S0 n (c+15) (Proofs.putN k xs S):=
 ((h.prep (a:=0) hk).place xs).mono (by omega)
theorem YA.putOff {S0 S:BS} {n c off:Nat} (h:YA S0 n c S):YA S0 n (c+15) (Proofs.putOff off S):=
 ((h.prep (a:=0) QgV).place _).mono (by rw[Qg];omega)
theorem YA.slotN {S0 S:BS} {n c k x d o:Nat} (h:YA S0 n c S) (hk:P2 k):YA S0 n (c+15) (Proofs.slotN k x d o S):=by
 unfold Proofs.slotN
 split
 ·exact h.mono (by omega)
 ·exact (h.putN hk (by rw[Qg];exact hk.le)).slot
theorem YA.slotF {S0 S:BS} {n c x d o:Nat} (h:YA S0 n c S):YA S0 n (c+15) (Proofs.slotF x d o S):=by
 unfold Proofs.slotF
 split
 ·exact (h.putN QgV (by rw[Qg];decide)).slot
 ·exact h.mono (by omega)
theorem YA.slotOff {S0 S:BS} {n c off o:Nat} (h:YA S0 n c S):YA S0 n (c+15) (Proofs.slotOff off o S):=by
 unfold Proofs.slotOff
 split
 ·exact h.mono (by omega)
 ·exact h.putOff.slot
theorem YA.slotStruct {S0 S:BS} {n c off o:Nat} (h:YA S0 n c S):YA S0 n (c+15) (Proofs.slotStruct off o S):=by
 unfold Proofs.slotStruct
 split
 ·exact h.mono (by omega)
 ·exact h.slot.mono (by omega)
theorem YA.le {S0 S:BS} {n c:Nat} (h:YA S0 n c S):S0.buf.length<=S.buf.length:=by
 obtain ⟨x,hx⟩:=h.ext
 rw[hx,List.length_append];omega
theorem QdM (off:Nat) (S:BS):∃x,(putOff off S).buf=x++S.buf/\4<=x.length/\x.length<=7:=by
 have:=Zo (size:=4) (n:=S.buf.length+0) (by decide)
 refine ⟨leB (((prep 4 0 S).buf.length-off+4:Nat):Int) 4++List.replicate (padOf 4 (S.buf.length+0)) 0,by simp[putOff,place,prep],?_,?_⟩
 ·rw[List.length_append,Qg];omega
 ·rw[List.length_append,Qg,List.length_replicate];omega
theorem end_obj {H:Qe} {p:Nat} {S0 S:BS} {F:Cut} {r n c:Nat} (hB:Qc H p S F r) {R:Kn} (h:YA S0 n c S) (hn:n<1000) (hv:QhZ S0) (hl:S0.buf.length+c+4096<=536870912) (hvl:S0.vts.length<=S0.buf.length)
  (hR:∀H',Qc H' p (endObj S) F 0->R (.int .u32 ((putOff 0 S).buf.length:Nat)) H'):
  FnS prog 285 #[.pointer (some ⟨p,0,none⟩)] H R:=by
 obtain ⟨x,hx⟩:=h.ext
 obtain ⟨y,hy,_⟩:=QdM 0 S
 have h1:=h.len
 have h2:=h.le
 refine Qh9 hB h.nested (by omega) (by rw[h.vtl];exact hn) h.vle (by rw[h.oe];exact h2) (by rw[h.vts];omega) ?_ hR
 exact hv.ext (S':=putOff 0 S) h.vts (x:=y++x) (by rw[hy,hx,List.append_assoc])
end Go.Proofs
namespace Go.Proofs
open Go Go.Vc
open Tryz (prog)
section
variable {H:Qe} {p:Nat} {S:BS} {F:Cut} {r:Nat} (hB:Qc H p S F r) {R:Kn}
include hB
theorem QcW {n:Nat} (hn:S.nested=false) (hl:S.buf.length+4*n+24<=536870912)
  (hR:∀H' v,Qc H' p (QK 4 n 2 S) F (Nat.max ((4+4*n+1)-padOf 2 ((prep 4 (4*n) {S with nested:=true}).buf.length+4*n)) (2+4*n+1))->R v H'):
  FnS prog 77 #[.pointer (some ⟨p,0,none⟩),.int .i64 (n:Nat)] H R:=by
 apply w77
 unfold QhD
 refine QM (es:=4) (al:=2) (k:=1) hB hn (by decide) (by decide) hl ?_
 intro H' h'
 exact hR H' _ h'
theorem Qat {n:Nat} (hn:S.nested=false) (hl:S.buf.length+4*n+24<=536870912)
  (hR:∀H' v,Qc H' p (QK 4 n 4 S) F (Nat.max ((4+4*n+1)-padOf 4 ((prep 4 (4*n) {S with nested:=true}).buf.length+4*n)) (4+4*n+1))->R v H'):
  FnS prog 80 #[.pointer (some ⟨p,0,none⟩),.int .i64 (n:Nat)] H R:=by
 apply w80
 unfold QhD
 refine QM (es:=4) (al:=4) (k:=2) hB hn (by decide) (by decide) hl ?_
 intro H' h'
 exact hR H' _ h'
theorem Qap {n:Nat} (hn:S.nested=false) (hl:S.buf.length+4*n+24<=536870912)
  (hR:∀H' v,Qc H' p (QK 4 n 4 S) F (Nat.max ((4+4*n+1)-padOf 4 ((prep 4 (4*n) {S with nested:=true}).buf.length+4*n)) (4+4*n+1))->R v H'):
  FnS prog 81 #[.pointer (some ⟨p,0,none⟩),.int .i64 (n:Nat)] H R:=by
 apply w81
 unfold QhD
 refine QM (es:=4) (al:=4) (k:=2) hB hn (by decide) (by decide) hl ?_
 intro H' h'
 exact hR H' _ h'
theorem QaB {n:Nat} (hn:S.nested=false) (hl:S.buf.length+1*n+24<=536870912)
  (hR:∀H' v,Qc H' p (QK 1 n 1 S) F (Nat.max ((4+1*n+1)-padOf 1 ((prep 4 (1*n) {S with nested:=true}).buf.length+1*n)) (1+1*n+1))->R v H'):
  FnS prog 83 #[.pointer (some ⟨p,0,none⟩),.int .i64 (n:Nat)] H R:=by
 apply w83
 unfold QhD
 refine QM (es:=1) (al:=1) (k:=0) hB hn (by decide) (by decide) hl ?_
 intro H' h'
 exact hR H' _ h'
theorem Qaj {n:Nat} (hn:S.nested=false) (hl:S.buf.length+4*n+24<=536870912)
  (hR:∀H' v,Qc H' p (QK 4 n 4 S) F (Nat.max ((4+4*n+1)-padOf 4 ((prep 4 (4*n) {S with nested:=true}).buf.length+4*n)) (4+4*n+1))->R v H'):
  FnS prog 85 #[.pointer (some ⟨p,0,none⟩),.int .i64 (n:Nat)] H R:=by
 apply w85
 unfold QhD
 refine QM (es:=4) (al:=4) (k:=2) hB hn (by decide) (by decide) hl ?_
 intro H' h'
 exact hR H' _ h'
theorem ZT {n:Nat} (hn:S.nested=false) (hl:S.buf.length+8*n+24<=536870912)
  (hR:∀H' v,Qc H' p (QK 8 n 4 S) F (Nat.max ((4+8*n+1)-padOf 4 ((prep 4 (8*n) {S with nested:=true}).buf.length+8*n)) (4+8*n+1))->R v H'):
  FnS prog 86 #[.pointer (some ⟨p,0,none⟩),.int .i64 (n:Nat)] H R:=by
 apply w86
 unfold QhD
 refine QM (es:=8) (al:=4) (k:=2) hB hn (by decide) (by decide) hl ?_
 intro H' h'
 exact hR H' _ h'
theorem QcY {n:Nat} (hn:S.nested=false) (hl:S.buf.length+4*n+24<=536870912)
  (hR:∀H' v,Qc H' p (QK 4 n 2 S) F (Nat.max ((4+4*n+1)-padOf 2 ((prep 4 (4*n) {S with nested:=true}).buf.length+4*n)) (2+4*n+1))->R v H'):
  FnS prog 88 #[.pointer (some ⟨p,0,none⟩),.int .i64 (n:Nat)] H R:=by
 apply w88
 unfold QhD
 refine QM (es:=4) (al:=2) (k:=1) hB hn (by decide) (by decide) hl ?_
 intro H' h'
 exact hR H' _ h'
theorem Qb7 {n:Nat} (hn:S.nested=false) (hl:S.buf.length+8*n+24<=536870912)
  (hR:∀H' v,Qc H' p (QK 8 n 8 S) F (Nat.max ((4+8*n+1)-padOf 8 ((prep 4 (8*n) {S with nested:=true}).buf.length+8*n)) (8+8*n+1))->R v H'):
  FnS prog 89 #[.pointer (some ⟨p,0,none⟩),.int .i64 (n:Nat)] H R:=by
 apply w89
 unfold QhD
 refine QM (es:=8) (al:=8) (k:=3) hB hn (by decide) (by decide) hl ?_
 intro H' h'
 exact hR H' _ h'
theorem QaK {n:Nat} (hn:S.nested=false) (hl:S.buf.length+8*n+24<=536870912)
  (hR:∀H' v,Qc H' p (QK 8 n 8 S) F (Nat.max ((4+8*n+1)-padOf 8 ((prep 4 (8*n) {S with nested:=true}).buf.length+8*n)) (8+8*n+1))->R v H'):
  FnS prog 91 #[.pointer (some ⟨p,0,none⟩),.int .i64 (n:Nat)] H R:=by
 apply w91
 unfold QhD
 refine QM (es:=8) (al:=8) (k:=3) hB hn (by decide) (by decide) hl ?_
 intro H' h'
 exact hR H' _ h'
theorem Qaa {n:Nat} (hn:S.nested=false) (hl:S.buf.length+4*n+24<=536870912)
  (hR:∀H' v,Qc H' p (QK 4 n 4 S) F (Nat.max ((4+4*n+1)-padOf 4 ((prep 4 (4*n) {S with nested:=true}).buf.length+4*n)) (4+4*n+1))->R v H'):
  FnS prog 95 #[.pointer (some ⟨p,0,none⟩),.int .i64 (n:Nat)] H R:=by
 apply w95
 unfold QhD
 refine QM (es:=4) (al:=4) (k:=2) hB hn (by decide) (by decide) hl ?_
 intro H' h'
 exact hR H' _ h'
theorem ZZ {n:Nat} (hn:S.nested=false) (hl:S.buf.length+8*n+24<=536870912)
  (hR:∀H' v,Qc H' p (QK 8 n 8 S) F (Nat.max ((4+8*n+1)-padOf 8 ((prep 4 (8*n) {S with nested:=true}).buf.length+8*n)) (8+8*n+1))->R v H'):
  FnS prog 96 #[.pointer (some ⟨p,0,none⟩),.int .i64 (n:Nat)] H R:=by
 apply w96
 unfold QhD
 refine QM (es:=8) (al:=8) (k:=3) hB hn (by decide) (by decide) hl ?_
 intro H' h'
 exact hR H' _ h'
theorem ZN {n:Nat} (hn:S.nested=false) (hl:S.buf.length+4*n+24<=536870912)
  (hR:∀H' v,Qc H' p (QK 4 n 4 S) F (Nat.max ((4+4*n+1)-padOf 4 ((prep 4 (4*n) {S with nested:=true}).buf.length+4*n)) (4+4*n+1))->R v H'):
  FnS prog 98 #[.pointer (some ⟨p,0,none⟩),.int .i64 (n:Nat)] H R:=by
 apply w98
 unfold QhD
 refine QM (es:=4) (al:=4) (k:=2) hB hn (by decide) (by decide) hl ?_
 intro H' h'
 exact hR H' _ h'
theorem ZH {n:Nat} (hn:S.nested=false) (hl:S.buf.length+8*n+24<=536870912)
  (hR:∀H' v,Qc H' p (QK 8 n 8 S) F (Nat.max ((4+8*n+1)-padOf 8 ((prep 4 (8*n) {S with nested:=true}).buf.length+8*n)) (8+8*n+1))->R v H'):
  FnS prog 99 #[.pointer (some ⟨p,0,none⟩),.int .i64 (n:Nat)] H R:=by
 apply w99
 unfold QhD
 refine QM (es:=8) (al:=8) (k:=3) hB hn (by decide) (by decide) hl ?_
 intro H' h'
 exact hR H' _ h'
theorem ZE {n:Nat} (hn:S.nested=false) (hl:S.buf.length+8*n+24<=536870912)
  (hR:∀H' v,Qc H' p (QK 8 n 8 S) F (Nat.max ((4+8*n+1)-padOf 8 ((prep 4 (8*n) {S with nested:=true}).buf.length+8*n)) (8+8*n+1))->R v H'):
  FnS prog 100 #[.pointer (some ⟨p,0,none⟩),.int .i64 (n:Nat)] H R:=by
 apply w100
 unfold QhD
 refine QM (es:=8) (al:=8) (k:=3) hB hn (by decide) (by decide) hl ?_
 intro H' h'
 exact hR H' _ h'
theorem QaZ {n:Nat} (hn:S.nested=false) (hl:S.buf.length+1*n+24<=536870912)
  (hR:∀H' v,Qc H' p (QK 1 n 1 S) F (Nat.max ((4+1*n+1)-padOf 1 ((prep 4 (1*n) {S with nested:=true}).buf.length+1*n)) (1+1*n+1))->R v H'):
  FnS prog 103 #[.pointer (some ⟨p,0,none⟩),.int .i64 (n:Nat)] H R:=by
 apply w103
 unfold QhD
 refine QM (es:=1) (al:=1) (k:=0) hB hn (by decide) (by decide) hl ?_
 intro H' h'
 exact hR H' _ h'
theorem Qh1 (hn:S.nested=false) (hR:∀H',Qc H' p (Zc 49 S) F r->R (.tuple #[]) H'):FnS prog 105 #[.pointer (some ⟨p,0,none⟩)] H R:=by
 apply w105
 unfold tp105
 exact Zr (n:=49) hB hn (by decide) hR
theorem Qdk {off:Nat} (hn:S.nested=true) (hoff:off=0\/off=S.buf.length) (ho:0<S.vt.length) (hR:∀H',Qc H' p (slotStruct off 0 S) F 0->R (.tuple #[]) H'):FnS prog 107 #[.pointer (some ⟨p,0,none⟩),.int .u32 (off:Int)] H R:=by
 apply w107
 unfold Yr
 exact QdC (o:=0) hB hn hoff ho hR
theorem Qg0 {x:Nat} (hx:x<65536) (ho:1<S.vt.length) (hl:S.buf.length+16<=536870912) (hR:∀H',Qc H' p (slotN 2 x 150 1 S) F 0->R (.tuple #[]) H'):FnS prog 108 #[.pointer (some ⟨p,0,none⟩),.int .i16 (IntKind.i16.wrap (x:Int))] H R:=by
 apply w108
 unfold Yr
 exact QaY (o:=1) (d:=150) hB hx (by decide) ho hl hR
theorem Qh0 {x:Nat} (hx:x<65536) (ho:2<S.vt.length) (hl:S.buf.length+16<=536870912) (hR:∀H',Qc H' p (slotN 2 x 100 2 S) F 0->R (.tuple #[]) H'):FnS prog 109 #[.pointer (some ⟨p,0,none⟩),.int .i16 (IntKind.i16.wrap (x:Int))] H R:=by
 apply w109
 unfold Yr
 exact QaY (o:=2) (d:=100) hB hx (by decide) ho hl hR
theorem Qg9 {off:Nat} (hoff:off<=S.buf.length) (ho:3<S.vt.length) (hl:S.buf.length+16<=536870912) (hR:∀H',Qc H' p (slotOff off 3 S) F 0->R (.tuple #[]) H'):FnS prog 110 #[.pointer (some ⟨p,0,none⟩),.int .u32 (off:Int)] H R:=by
 apply w110
 unfold Yr
 exact Qn (o:=3) hB hoff ho hl hR
theorem QdR {off:Nat} (hoff:off<=S.buf.length) (ho:5<S.vt.length) (hl:S.buf.length+16<=536870912) (hR:∀H',Qc H' p (slotOff off 5 S) F 0->R (.tuple #[]) H'):FnS prog 111 #[.pointer (some ⟨p,0,none⟩),.int .u32 (off:Int)] H R:=by
 apply w111
 unfold Yr
 exact Qn (o:=5) hB hoff ho hl hR
theorem Qfy {x:Nat} (hx:x<256) (ho:6<S.vt.length) (hl:S.buf.length+16<=536870912) (hR:∀H',Qc H' p (slotN 1 x 8 6 S) F 0->R (.tuple #[]) H'):FnS prog 112 #[.pointer (some ⟨p,0,none⟩),.int .u8 (x:Int)] H R:=by
 apply w112
 unfold Yr
 exact YE (o:=6) (d:=8) hB hx (by decide) ho hl hR
theorem Qem {x:Nat} (hx:x<256) (ho:7<S.vt.length) (hl:S.buf.length+16<=536870912) (hR:∀H',Qc H' p (slotN 1 x 0 7 S) F 0->R (.tuple #[]) H'):FnS prog 113 #[.pointer (some ⟨p,0,none⟩),.int .u8 (x:Int)] H R:=by
 apply w113
 unfold Yr
 exact YE (o:=7) (d:=0) hB hx (by decide) ho hl hR
theorem Qg6 {off:Nat} (hoff:off<=S.buf.length) (ho:8<S.vt.length) (hl:S.buf.length+16<=536870912) (hR:∀H',Qc H' p (slotOff off 8 S) F 0->R (.tuple #[]) H'):FnS prog 114 #[.pointer (some ⟨p,0,none⟩),.int .u32 (off:Int)] H R:=by
 apply w114
 unfold Yr
 exact Qn (o:=8) hB hoff ho hl hR
theorem Qfo {off:Nat} (hoff:off<=S.buf.length) (ho:9<S.vt.length) (hl:S.buf.length+16<=536870912) (hR:∀H',Qc H' p (slotOff off 9 S) F 0->R (.tuple #[]) H'):FnS prog 115 #[.pointer (some ⟨p,0,none⟩),.int .u32 (off:Int)] H R:=by
 apply w115
 unfold Yr
 exact Qn (o:=9) hB hoff ho hl hR
theorem QbV {off:Nat} (hoff:off<=S.buf.length) (ho:10<S.vt.length) (hl:S.buf.length+16<=536870912) (hR:∀H',Qc H' p (slotOff off 10 S) F 0->R (.tuple #[]) H'):FnS prog 116 #[.pointer (some ⟨p,0,none⟩),.int .u32 (off:Int)] H R:=by
 apply w116
 unfold Yr
 exact Qn (o:=10) hB hoff ho hl hR
theorem QbQ {off:Nat} (hoff:off<=S.buf.length) (ho:11<S.vt.length) (hl:S.buf.length+16<=536870912) (hR:∀H',Qc H' p (slotOff off 11 S) F 0->R (.tuple #[]) H'):FnS prog 117 #[.pointer (some ⟨p,0,none⟩),.int .u32 (off:Int)] H R:=by
 apply w117
 unfold Yr
 exact Qn (o:=11) hB hoff ho hl hR
theorem QfM {off:Nat} (hoff:off<=S.buf.length) (ho:12<S.vt.length) (hl:S.buf.length+16<=536870912) (hR:∀H',Qc H' p (slotOff off 12 S) F 0->R (.tuple #[]) H'):FnS prog 118 #[.pointer (some ⟨p,0,none⟩),.int .u32 (off:Int)] H R:=by
 apply w118
 unfold Yr
 exact Qn (o:=12) hB hoff ho hl hR
theorem Qbf {off:Nat} (hoff:off<=S.buf.length) (ho:13<S.vt.length) (hl:S.buf.length+16<=536870912) (hR:∀H',Qc H' p (slotOff off 13 S) F 0->R (.tuple #[]) H'):FnS prog 119 #[.pointer (some ⟨p,0,none⟩),.int .u32 (off:Int)] H R:=by
 apply w119
 unfold Yr
 exact Qn (o:=13) hB hoff ho hl hR
theorem QdX {off:Nat} (hoff:off<=S.buf.length) (ho:14<S.vt.length) (hl:S.buf.length+16<=536870912) (hR:∀H',Qc H' p (slotOff off 14 S) F 0->R (.tuple #[]) H'):FnS prog 120 #[.pointer (some ⟨p,0,none⟩),.int .u32 (off:Int)] H R:=by
 apply w120
 unfold Yr
 exact Qn (o:=14) hB hoff ho hl hR
theorem Qeg {x:Bool} (ho:15<S.vt.length) (hl:S.buf.length+16<=536870912) (hR:∀H',Qc H' p (slotN 1 (if x then 1 else 0) 0 15 S) F 0->R (.tuple #[]) H'):FnS prog 121 #[.pointer (some ⟨p,0,none⟩),.bool x] H R:=by
 apply w121
 unfold s121
 exact Qei (o:=15) hB ho hl hR
theorem QcD {x:Nat} (hx:x<4294967296) (ho:16<S.vt.length) (hl:S.buf.length+16<=536870912) (hR:∀H',Qc H' p (slotN 4 x 0 16 S) F 0->R (.tuple #[]) H'):FnS prog 122 #[.pointer (some ⟨p,0,none⟩),.int .i32 (IntKind.i32.wrap (x:Int))] H R:=by
 apply w122
 unfold Yr
 exact Qb9 (o:=16) (d:=0) hB hx (by decide) ho hl hR
theorem QcH {x:Nat} (hx:x<4294967296) (ho:17<S.vt.length) (hl:S.buf.length+16<=536870912) (hR:∀H',Qc H' p (slotN 4 x 0 17 S) F 0->R (.tuple #[]) H'):FnS prog 123 #[.pointer (some ⟨p,0,none⟩),.int .u32 (x:Int)] H R:=by
 apply w123
 unfold Yr
 exact QaP (o:=17) (d:=0) hB hx (by decide) ho hl hR
theorem Qcs {x:Nat} (hx:x<18446744073709551616) (ho:18<S.vt.length) (hl:S.buf.length+16<=536870912) (hR:∀H',Qc H' p (slotN 8 x 0 18 S) F 0->R (.tuple #[]) H'):FnS prog 124 #[.pointer (some ⟨p,0,none⟩),.int .i64 (IntKind.i64.wrap (x:Int))] H R:=by
 apply w124
 unfold Yr
 exact ZJ (o:=18) (d:=0) hB hx (by decide) ho hl hR
theorem Qcx {x:Nat} (hx:x<18446744073709551616) (ho:19<S.vt.length) (hl:S.buf.length+16<=536870912) (hR:∀H',Qc H' p (slotN 8 x 0 19 S) F 0->R (.tuple #[]) H'):FnS prog 125 #[.pointer (some ⟨p,0,none⟩),.int .u64 (x:Int)] H R:=by
 apply w125
 unfold Yr
 exact Y3 (o:=19) (d:=0) hB hx (by decide) ho hl hR
theorem Qcb {x:Nat} (hx:x<4294967296) (ho:20<S.vt.length) (hl:S.buf.length+16<=536870912) (hR:∀H',Qc H' p (slotN 4 x 0 20 S) F 0->R (.tuple #[]) H'):FnS prog 126 #[.pointer (some ⟨p,0,none⟩),.int .i32 (IntKind.i32.wrap (x:Int))] H R:=by
 apply w126
 unfold Yr
 exact Qb9 (o:=20) (d:=0) hB hx (by decide) ho hl hR
theorem Qca {x:Nat} (hx:x<4294967296) (ho:21<S.vt.length) (hl:S.buf.length+16<=536870912) (hR:∀H',Qc H' p (slotN 4 x 0 21 S) F 0->R (.tuple #[]) H'):FnS prog 127 #[.pointer (some ⟨p,0,none⟩),.int .u32 (x:Int)] H R:=by
 apply w127
 unfold Yr
 exact QaP (o:=21) (d:=0) hB hx (by decide) ho hl hR
theorem Qc8 {x:Nat} (hx:x<18446744073709551616) (ho:22<S.vt.length) (hl:S.buf.length+16<=536870912) (hR:∀H',Qc H' p (slotN 8 x 0 22 S) F 0->R (.tuple #[]) H'):FnS prog 128 #[.pointer (some ⟨p,0,none⟩),.int .i64 (IntKind.i64.wrap (x:Int))] H R:=by
 apply w128
 unfold Yr
 exact ZJ (o:=22) (d:=0) hB hx (by decide) ho hl hR
theorem Qc5 {x:Nat} (hx:x<18446744073709551616) (ho:23<S.vt.length) (hl:S.buf.length+16<=536870912) (hR:∀H',Qc H' p (slotN 8 x 0 23 S) F 0->R (.tuple #[]) H'):FnS prog 129 #[.pointer (some ⟨p,0,none⟩),.int .u64 (x:Int)] H R:=by
 apply w129
 unfold Yr
 exact Y3 (o:=23) (d:=0) hB hx (by decide) ho hl hR
theorem Qc9 {off:Nat} (hoff:off<=S.buf.length) (ho:24<S.vt.length) (hl:S.buf.length+16<=536870912) (hR:∀H',Qc H' p (slotOff off 24 S) F 0->R (.tuple #[]) H'):FnS prog 130 #[.pointer (some ⟨p,0,none⟩),.int .u32 (off:Int)] H R:=by
 apply w130
 unfold Yr
 exact Qn (o:=24) hB hoff ho hl hR
theorem QfN {x:Nat} (ho:25<S.vt.length) (hl:S.buf.length+16<=536870912) (hR:∀H',Qc H' p (slotF x 1078530000 25 S) F 0->R (.tuple #[]) H'):FnS prog 131 #[.pointer (some ⟨p,0,none⟩),.float .f32 x] H R:=by
 apply w131
 unfold s131
 exact Z5 (o:=25) hB ho hl hR
theorem QeQ {x:Nat} (ho:26<S.vt.length) (hl:S.buf.length+16<=536870912) (hR:∀H',Qc H' p (slotF x 1077936128 26 S) F 0->R (.tuple #[]) H'):FnS prog 132 #[.pointer (some ⟨p,0,none⟩),.float .f32 x] H R:=by
 apply w132
 unfold s132
 exact Z5 (o:=26) hB ho hl hR
theorem QeU {x:Nat} (ho:27<S.vt.length) (hl:S.buf.length+16<=536870912) (hR:∀H',Qc H' p (slotF x 0 27 S) F 0->R (.tuple #[]) H'):FnS prog 133 #[.pointer (some ⟨p,0,none⟩),.float .f32 x] H R:=by
 apply w133
 unfold s133
 exact Z5 (o:=27) hB ho hl hR
theorem QbG {off:Nat} (hoff:off<=S.buf.length) (ho:28<S.vt.length) (hl:S.buf.length+16<=536870912) (hR:∀H',Qc H' p (slotOff off 28 S) F 0->R (.tuple #[]) H'):FnS prog 134 #[.pointer (some ⟨p,0,none⟩),.int .u32 (off:Int)] H R:=by
 apply w134
 unfold Yr
 exact Qn (o:=28) hB hoff ho hl hR
theorem QaL {off:Nat} (hoff:off<=S.buf.length) (ho:29<S.vt.length) (hl:S.buf.length+16<=536870912) (hR:∀H',Qc H' p (slotOff off 29 S) F 0->R (.tuple #[]) H'):FnS prog 135 #[.pointer (some ⟨p,0,none⟩),.int .u32 (off:Int)] H R:=by
 apply w135
 unfold Yr
 exact Qn (o:=29) hB hoff ho hl hR
theorem Qg3 {off:Nat} (hoff:off<=S.buf.length) (ho:30<S.vt.length) (hl:S.buf.length+16<=536870912) (hR:∀H',Qc H' p (slotOff off 30 S) F 0->R (.tuple #[]) H'):FnS prog 136 #[.pointer (some ⟨p,0,none⟩),.int .u32 (off:Int)] H R:=by
 apply w136
 unfold Yr
 exact Qn (o:=30) hB hoff ho hl hR
theorem QfD {off:Nat} (hoff:off<=S.buf.length) (ho:31<S.vt.length) (hl:S.buf.length+16<=536870912) (hR:∀H',Qc H' p (slotOff off 31 S) F 0->R (.tuple #[]) H'):FnS prog 137 #[.pointer (some ⟨p,0,none⟩),.int .u32 (off:Int)] H R:=by
 apply w137
 unfold Yr
 exact Qn (o:=31) hB hoff ho hl hR
theorem Qd0 {off:Nat} (hoff:off<=S.buf.length) (ho:32<S.vt.length) (hl:S.buf.length+16<=536870912) (hR:∀H',Qc H' p (slotOff off 32 S) F 0->R (.tuple #[]) H'):FnS prog 138 #[.pointer (some ⟨p,0,none⟩),.int .u32 (off:Int)] H R:=by
 apply w138
 unfold Yr
 exact Qn (o:=32) hB hoff ho hl hR
theorem Qcz {off:Nat} (hoff:off<=S.buf.length) (ho:33<S.vt.length) (hl:S.buf.length+16<=536870912) (hR:∀H',Qc H' p (slotOff off 33 S) F 0->R (.tuple #[]) H'):FnS prog 139 #[.pointer (some ⟨p,0,none⟩),.int .u32 (off:Int)] H R:=by
 apply w139
 unfold Yr
 exact Qn (o:=33) hB hoff ho hl hR
theorem Qbu {off:Nat} (hoff:off<=S.buf.length) (ho:34<S.vt.length) (hl:S.buf.length+16<=536870912) (hR:∀H',Qc H' p (slotOff off 34 S) F 0->R (.tuple #[]) H'):FnS prog 140 #[.pointer (some ⟨p,0,none⟩),.int .u32 (off:Int)] H R:=by
 apply w140
 unfold Yr
 exact Qn (o:=34) hB hoff ho hl hR
theorem Qbr {off:Nat} (hoff:off<=S.buf.length) (ho:35<S.vt.length) (hl:S.buf.length+16<=536870912) (hR:∀H',Qc H' p (slotOff off 35 S) F 0->R (.tuple #[]) H'):FnS prog 141 #[.pointer (some ⟨p,0,none⟩),.int .u32 (off:Int)] H R:=by
 apply w141
 unfold Yr
 exact Qn (o:=35) hB hoff ho hl hR
theorem Qbn {x:Nat} (hx:x<18446744073709551616) (ho:36<S.vt.length) (hl:S.buf.length+16<=536870912) (hR:∀H',Qc H' p (slotN 8 x 0 36 S) F 0->R (.tuple #[]) H'):FnS prog 142 #[.pointer (some ⟨p,0,none⟩),.int .u64 (x:Int)] H R:=by
 apply w142
 unfold Yr
 exact Y3 (o:=36) (d:=0) hB hx (by decide) ho hl hR
theorem QaT {off:Nat} (hoff:off<=S.buf.length) (ho:37<S.vt.length) (hl:S.buf.length+16<=536870912) (hR:∀H',Qc H' p (slotOff off 37 S) F 0->R (.tuple #[]) H'):FnS prog 143 #[.pointer (some ⟨p,0,none⟩),.int .u32 (off:Int)] H R:=by
 apply w143
 unfold Yr
 exact Qn (o:=37) hB hoff ho hl hR
theorem Qam {off:Nat} (hoff:off<=S.buf.length) (ho:38<S.vt.length) (hl:S.buf.length+16<=536870912) (hR:∀H',Qc H' p (slotOff off 38 S) F 0->R (.tuple #[]) H'):FnS prog 144 #[.pointer (some ⟨p,0,none⟩),.int .u32 (off:Int)] H R:=by
 apply w144
 unfold Yr
 exact Qn (o:=38) hB hoff ho hl hR
theorem QbO {x:Nat} (hx:x<18446744073709551616) (ho:39<S.vt.length) (hl:S.buf.length+16<=536870912) (hR:∀H',Qc H' p (slotN 8 x 0 39 S) F 0->R (.tuple #[]) H'):FnS prog 145 #[.pointer (some ⟨p,0,none⟩),.int .u64 (x:Int)] H R:=by
 apply w145
 unfold Yr
 exact Y3 (o:=39) (d:=0) hB hx (by decide) ho hl hR
theorem Qai {off:Nat} (hoff:off<=S.buf.length) (ho:40<S.vt.length) (hl:S.buf.length+16<=536870912) (hR:∀H',Qc H' p (slotOff off 40 S) F 0->R (.tuple #[]) H'):FnS prog 146 #[.pointer (some ⟨p,0,none⟩),.int .u32 (off:Int)] H R:=by
 apply w146
 unfold Yr
 exact Qn (o:=40) hB hoff ho hl hR
theorem QbD {x:Nat} (hx:x<18446744073709551616) (ho:41<S.vt.length) (hl:S.buf.length+16<=536870912) (hR:∀H',Qc H' p (slotN 8 x 0 41 S) F 0->R (.tuple #[]) H'):FnS prog 147 #[.pointer (some ⟨p,0,none⟩),.int .u64 (x:Int)] H R:=by
 apply w147
 unfold Yr
 exact Y3 (o:=41) (d:=0) hB hx (by decide) ho hl hR
theorem Qae {off:Nat} (hoff:off<=S.buf.length) (ho:42<S.vt.length) (hl:S.buf.length+16<=536870912) (hR:∀H',Qc H' p (slotOff off 42 S) F 0->R (.tuple #[]) H'):FnS prog 148 #[.pointer (some ⟨p,0,none⟩),.int .u32 (off:Int)] H R:=by
 apply w148
 unfold Yr
 exact Qn (o:=42) hB hoff ho hl hR
theorem QcT {x:Nat} (hx:x<256) (ho:43<S.vt.length) (hl:S.buf.length+16<=536870912) (hR:∀H',Qc H' p (slotN 1 x 0 43 S) F 0->R (.tuple #[]) H'):FnS prog 149 #[.pointer (some ⟨p,0,none⟩),.int .u8 (x:Int)] H R:=by
 apply w149
 unfold Yr
 exact YE (o:=43) (d:=0) hB hx (by decide) ho hl hR
theorem Qe7 {off:Nat} (hoff:off<=S.buf.length) (ho:44<S.vt.length) (hl:S.buf.length+16<=536870912) (hR:∀H',Qc H' p (slotOff off 44 S) F 0->R (.tuple #[]) H'):FnS prog 150 #[.pointer (some ⟨p,0,none⟩),.int .u32 (off:Int)] H R:=by
 apply w150
 unfold Yr
 exact Qn (o:=44) hB hoff ho hl hR
theorem Qcd {x:Nat} (hx:x<256) (ho:45<S.vt.length) (hl:S.buf.length+16<=536870912) (hR:∀H',Qc H' p (slotN 1 x 0 45 S) F 0->R (.tuple #[]) H'):FnS prog 151 #[.pointer (some ⟨p,0,none⟩),.int .u8 (x:Int)] H R:=by
 apply w151
 unfold Yr
 exact YE (o:=45) (d:=0) hB hx (by decide) ho hl hR
theorem Qdf {off:Nat} (hoff:off<=S.buf.length) (ho:46<S.vt.length) (hl:S.buf.length+16<=536870912) (hR:∀H',Qc H' p (slotOff off 46 S) F 0->R (.tuple #[]) H'):FnS prog 152 #[.pointer (some ⟨p,0,none⟩),.int .u32 (off:Int)] H R:=by
 apply w152
 unfold Yr
 exact Qn (o:=46) hB hoff ho hl hR
theorem Qd2 {off:Nat} (hoff:off<=S.buf.length) (ho:47<S.vt.length) (hl:S.buf.length+16<=536870912) (hR:∀H',Qc H' p (slotOff off 47 S) F 0->R (.tuple #[]) H'):FnS prog 153 #[.pointer (some ⟨p,0,none⟩),.int .u32 (off:Int)] H R:=by
 apply w153
 unfold Yr
 exact Qn (o:=47) hB hoff ho hl hR
theorem QdH {x:Nat} (hx:x<256) (ho:48<S.vt.length) (hl:S.buf.length+16<=536870912) (hR:∀H',Qc H' p (slotN 1 x 255 48 S) F 0->R (.tuple #[]) H'):FnS prog 154 #[.pointer (some ⟨p,0,none⟩),.int .i8 (IntKind.i8.wrap (x:Int))] H R:=by
 apply w154
 unfold Yr
 exact Qel (o:=48) (d:=255) hB hx (by decide) ho hl hR
theorem Qie {S0:BS} {n c:Nat} (h:YA S0 n c S) (hn:n<1000) (hv:QhZ S0) (hl:S0.buf.length+c+4096<=536870912) (hvl:S0.vts.length<=S0.buf.length)
  (hR:∀H',Qc H' p (endObj S) F 0->R (.int .u32 ((putOff 0 S).buf.length:Nat)) H'):FnS prog 155 #[.pointer (some ⟨p,0,none⟩)] H R:=by
 apply w155
 unfold Qgs
 exact end_obj hB h hn hv hl hvl hR
theorem Qix (hn:S.nested=false) (hR:∀H',Qc H' p (Zc 3 S) F r->R (.tuple #[]) H'):FnS prog 257 #[.pointer (some ⟨p,0,none⟩)] H R:=by
 apply w257
 unfold tp105
 exact Zr (n:=3) hB hn (by decide) hR
theorem QiC {off:Nat} (hoff:off<=S.buf.length) (ho:0<S.vt.length) (hl:S.buf.length+16<=536870912) (hR:∀H',Qc H' p (slotOff off 0 S) F 0->R (.tuple #[]) H'):FnS prog 258 #[.pointer (some ⟨p,0,none⟩),.int .u32 (off:Int)] H R:=by
 apply w258
 unfold Yr
 exact Qn (o:=0) hB hoff ho hl hR
theorem Qi2 {x:Nat} (hx:x<18446744073709551616) (ho:1<S.vt.length) (hl:S.buf.length+16<=536870912) (hR:∀H',Qc H' p (slotN 8 x 0 1 S) F 0->R (.tuple #[]) H'):FnS prog 259 #[.pointer (some ⟨p,0,none⟩),.int .i64 (IntKind.i64.wrap (x:Int))] H R:=by
 apply w259
 unfold Yr
 exact ZJ (o:=1) (d:=0) hB hx (by decide) ho hl hR
theorem Qh7 {x:Nat} (hx:x<65536) (ho:2<S.vt.length) (hl:S.buf.length+16<=536870912) (hR:∀H',Qc H' p (slotN 2 x 0 2 S) F 0->R (.tuple #[]) H'):FnS prog 260 #[.pointer (some ⟨p,0,none⟩),.int .u16 (x:Int)] H R:=by
 apply w260
 unfold Yr
 exact QdB (o:=2) (d:=0) hB hx (by decide) ho hl hR
theorem Example_StatEnd {S0:BS} {n c:Nat} (h:YA S0 n c S) (hn:n<1000) (hv:QhZ S0) (hl:S0.buf.length+c+4096<=536870912) (hvl:S0.vts.length<=S0.buf.length)
  (hR:∀H',Qc H' p (endObj S) F 0->R (.int .u32 ((putOff 0 S).buf.length:Nat)) H'):FnS prog 261 #[.pointer (some ⟨p,0,none⟩)] H R:=by
 apply w261
 unfold Qgs
 exact end_obj hB h hn hv hl hvl hR
theorem Qdo (hn:S.nested=false) (hR:∀H',Qc H' p (Zc 0 S) F r->R (.tuple #[]) H'):FnS prog 266 #[.pointer (some ⟨p,0,none⟩)] H R:=by
 apply w266
 unfold tp105
 exact Zr (n:=0) hB hn (by decide) hR
theorem QdV {S0:BS} {n c:Nat} (h:YA S0 n c S) (hn:n<1000) (hv:QhZ S0) (hl:S0.buf.length+c+4096<=536870912) (hvl:S0.vts.length<=S0.buf.length)
  (hR:∀H',Qc H' p (endObj S) F 0->R (.int .u32 ((putOff 0 S).buf.length:Nat)) H'):FnS prog 267 #[.pointer (some ⟨p,0,none⟩)] H R:=by
 apply w267
 unfold Qgs
 exact end_obj hB h hn hv hl hvl hR
theorem QfC (hn:S.nested=false) (hR:∀H',Qc H' p (Zc 1 S) F r->R (.tuple #[]) H'):FnS prog 268 #[.pointer (some ⟨p,0,none⟩)] H R:=by
 apply w268
 unfold tp105
 exact Zr (n:=1) hB hn (by decide) hR
theorem Qfs {x:Nat} (hx:x<18446744073709551616) (ho:0<S.vt.length) (hl:S.buf.length+16<=536870912) (hR:∀H',Qc H' p (slotN 8 x 0 0 S) F 0->R (.tuple #[]) H'):FnS prog 269 #[.pointer (some ⟨p,0,none⟩),.int .u64 (x:Int)] H R:=by
 apply w269
 unfold Yr
 exact Y3 (o:=0) (d:=0) hB hx (by decide) ho hl hR
theorem Qgi {S0:BS} {n c:Nat} (h:YA S0 n c S) (hn:n<1000) (hv:QhZ S0) (hl:S0.buf.length+c+4096<=536870912) (hvl:S0.vts.length<=S0.buf.length)
  (hR:∀H',Qc H' p (endObj S) F 0->R (.int .u32 ((putOff 0 S).buf.length:Nat)) H'):FnS prog 270 #[.pointer (some ⟨p,0,none⟩)] H R:=by
 apply w270
 unfold Qgs
 exact end_obj hB h hn hv hl hvl hR
theorem QbF (hn:S.nested=false) (hR:∀H',Qc H' p (Zc 1 S) F r->R (.tuple #[]) H'):FnS prog 316 #[.pointer (some ⟨p,0,none⟩)] H R:=by
 apply w316
 unfold tp105
 exact Zr (n:=1) hB hn (by decide) hR
theorem Qb5 {x:Nat} (hx:x<256) (ho:0<S.vt.length) (hl:S.buf.length+16<=536870912) (hR:∀H',Qc H' p (slotN 1 x 2 0 S) F 0->R (.tuple #[]) H'):FnS prog 317 #[.pointer (some ⟨p,0,none⟩),.int .u8 (x:Int)] H R:=by
 apply w317
 unfold Yr
 exact YE (o:=0) (d:=2) hB hx (by decide) ho hl hR
theorem Qc7 {S0:BS} {n c:Nat} (h:YA S0 n c S) (hn:n<1000) (hv:QhZ S0) (hl:S0.buf.length+c+4096<=536870912) (hvl:S0.vts.length<=S0.buf.length)
  (hR:∀H',Qc H' p (endObj S) F 0->R (.int .u32 ((putOff 0 S).buf.length:Nat)) H'):FnS prog 318 #[.pointer (some ⟨p,0,none⟩)] H R:=by
 apply w318
 unfold Qgs
 exact end_obj hB h hn hv hl hvl hR
omit hB in
theorem Qe0 {k a:Nat} {S:BS} (h:(S.buf.length+a)%k=0) (hm:k<=S.min):prep k a S=S:=by
 unfold prep
 rw[YZ h,show Nat.max S.min k=S.min from Nat.max_eq_left hm]
 rfl
theorem al_Byte {b:UInt8} (ha:S.buf.length%1=0) (hm:1<=S.min) (hl:S.buf.length+16<=536870912) (hR:∀H',Qc H' p (place [b] S) F (r-1)->R (.tuple #[]) H'):FnS prog 104 #[.pointer (some ⟨p,0,none⟩),.int .u8 (b.toNat:Int)] H R:=by
 refine QcQ hB hl ?_
 intro H' h'
 have e:putN 1 [b] S=place [b] S:=by unfold putN;rw[Qe0 (by simpa using ha) hm]
 rw[e,YZ ha]at h'
 refine hR H' (h'.room ?_)
 have:r-0<=Nat.max (r-0) (1+1):=Nat.le_max_left _ _
 generalize Nat.max (r-0) (1+1)=z at *
 omega
theorem al_Bool {b:Bool} (ha:S.buf.length%1=0) (hm:1<=S.min) (hl:S.buf.length+16<=536870912) (hR:∀H',Qc H' p (place [if b then 1 else 0] S) F (r-1)->R (.tuple #[]) H'):FnS prog 84 #[.pointer (some ⟨p,0,none⟩),.bool b] H R:=by
 refine Qg5 hB hl ?_
 intro H' h'
 have e:putN 1 [if b then 1 else 0] S=place [if b then 1 else 0] S:=by unfold putN;rw[Qe0 (by simpa using ha) hm]
 rw[e,YZ ha]at h'
 refine hR H' (h'.room ?_)
 have:r-0<=Nat.max (r-0) (1+1):=Nat.le_max_left _ _
 generalize Nat.max (r-0) (1+1)=z at *
 omega
theorem al_Int8 {x:Int} (ha:S.buf.length%1=0) (hm:1<=S.min) (hl:S.buf.length+16<=536870912) (hR:∀H',Qc H' p (place (leB x 1) S) F (r-1)->R (.tuple #[]) H'):FnS prog 321 #[.pointer (some ⟨p,0,none⟩),.int .i8 x] H R:=by
 refine QcR hB hl ?_
 intro H' h'
 have e:putN 1 (leB x 1) S=place (leB x 1) S:=by unfold putN;rw[Qe0 (by simpa using ha) hm]
 rw[e,YZ ha]at h'
 refine hR H' (h'.room ?_)
 have:r-0<=Nat.max (r-0) (1+1):=Nat.le_max_left _ _
 generalize Nat.max (r-0) (1+1)=z at *
 omega
theorem al_Int16 {x:Int} (ha:S.buf.length%2=0) (hm:2<=S.min) (hl:S.buf.length+16<=536870912) (hR:∀H',Qc H' p (place (leB x 2) S) F (r-2)->R (.tuple #[]) H'):FnS prog 322 #[.pointer (some ⟨p,0,none⟩),.int .i16 x] H R:=by
 refine Qco hB hl ?_
 intro H' h'
 have e:putN 2 (leB x 2) S=place (leB x 2) S:=by unfold putN;rw[Qe0 (by simpa using ha) hm]
 rw[e,YZ ha]at h'
 refine hR H' (h'.room ?_)
 have:r-0<=Nat.max (r-0) (2+1):=Nat.le_max_left _ _
 generalize Nat.max (r-0) (2+1)=z at *
 omega
theorem al_Uint32 {x:Int} (ha:S.buf.length%4=0) (hm:4<=S.min) (hl:S.buf.length+16<=536870912) (hR:∀H',Qc H' p (place (leB x 4) S) F (r-4)->R (.tuple #[]) H'):FnS prog 325 #[.pointer (some ⟨p,0,none⟩),.int .u32 x] H R:=by
 refine Qc1 hB hl ?_
 intro H' h'
 have e:putN 4 (leB x 4) S=place (leB x 4) S:=by unfold putN;rw[Qe0 (by simpa using ha) hm]
 rw[e,YZ ha]at h'
 refine hR H' (h'.room ?_)
 have:r-0<=Nat.max (r-0) (4+1):=Nat.le_max_left _ _
 generalize Nat.max (r-0) (4+1)=z at *
 omega
theorem Qio {x:Nat} (ha:S.buf.length%4=0) (hm:4<=S.min) (hl:S.buf.length+16<=536870912) (hR:∀H',Qc H' p (place (leB x 4) S) F (r-4)->R (.tuple #[]) H'):FnS prog 329 #[.pointer (some ⟨p,0,none⟩),.float .f32 x] H R:=by
 refine QbI hB hl ?_
 intro H' h'
 have e:putN 4 (leB x 4) S=place (leB x 4) S:=by unfold putN;rw[Qe0 (by simpa using ha) hm]
 rw[e,YZ ha]at h'
 refine hR H' (h'.room ?_)
 have:r-0<=Nat.max (r-0) (4+1):=Nat.le_max_left _ _
 generalize Nat.max (r-0) (4+1)=z at *
 omega
theorem al_Int64 {x:Int} (ha:S.buf.length%8=0) (hm:8<=S.min) (hl:S.buf.length+16<=536870912) (hR:∀H',Qc H' p (place (leB x 8) S) F (r-8)->R (.tuple #[]) H'):FnS prog 90 #[.pointer (some ⟨p,0,none⟩),.int .i64 x] H R:=by
 refine QcK hB hl ?_
 intro H' h'
 have e:putN 8 (leB x 8) S=place (leB x 8) S:=by unfold putN;rw[Qe0 (by simpa using ha) hm]
 rw[e,YZ ha]at h'
 refine hR H' (h'.room ?_)
 have:r-0<=Nat.max (r-0) (8+1):=Nat.le_max_left _ _
 generalize Nat.max (r-0) (8+1)=z at *
 omega
theorem al_Uint64 {x:Int} (ha:S.buf.length%8=0) (hm:8<=S.min) (hl:S.buf.length+16<=536870912) (hR:∀H',Qc H' p (place (leB x 8) S) F (r-8)->R (.tuple #[]) H'):FnS prog 97 #[.pointer (some ⟨p,0,none⟩),.int .u64 x] H R:=by
 refine QbX hB hl ?_
 intro H' h'
 have e:putN 8 (leB x 8) S=place (leB x 8) S:=by unfold putN;rw[Qe0 (by simpa using ha) hm]
 rw[e,YZ ha]at h'
 refine hR H' (h'.room ?_)
 have:r-0<=Nat.max (r-0) (8+1):=Nat.le_max_left _ _
 generalize Nat.max (r-0) (8+1)=z at *
 omega
theorem al_Float64 {x:Nat} (ha:S.buf.length%8=0) (hm:8<=S.min) (hl:S.buf.length+16<=536870912) (hR:∀H',Qc H' p (place (leB x 8) S) F (r-8)->R (.tuple #[]) H'):FnS prog 92 #[.pointer (some ⟨p,0,none⟩),.float .f64 x] H R:=by
 refine Qex hB hl ?_
 intro H' h'
 have e:putN 8 (leB x 8) S=place (leB x 8) S:=by unfold putN;rw[Qe0 (by simpa using ha) hm]
 rw[e,YZ ha]at h'
 refine hR H' (h'.room ?_)
 have:r-0<=Nat.max (r-0) (8+1):=Nat.le_max_left _ _
 generalize Nat.max (r-0) (8+1)=z at *
 omega
theorem al_UOffsetT {off:Nat} (ha:S.buf.length%4=0) (hm:4<=S.min) (ho:off<=S.buf.length) (hl:S.buf.length+16<=536870912) (hR:∀H',Qc H' p (place (leB ((S.buf.length-off+4:Nat):Int) 4) S) F (r-4)->R (.tuple #[]) H'):
  FnS prog 62 #[.pointer (some ⟨p,0,none⟩),.int .u32 (off:Nat)] H R:=by
 refine ZW hB hl ho ?_
 intro H' h'
 have e:putOff off S=place (leB ((S.buf.length-off+4:Nat):Int) 4) S:=by unfold putOff;rw[Qe0 (by simpa using ha) hm]
 rw[e,YZ ha]at h'
 refine hR H' (h'.room ?_)
 have:r-0<=Nat.max (r-0) 5:=Nat.le_max_left _ _
 generalize Nat.max (r-0) 5=z at *
 omega
theorem al_Prep {size add k:Nat} (hsz:size=2^k) (hk:k<=3) (ha:(S.buf.length+add)%size=0) (hm:size<=S.min) (hl:S.buf.length+add+16<=536870912) (hR:∀H',Qc H' p S F r->R (.tuple #[]) H'):
  FnS prog 61 #[.pointer (some ⟨p,0,none⟩),.int .i64 (size:Nat),.int .i64 (add:Nat)] H R:=by
 refine QX hB hsz hk rfl hl ?_
 intro H' h'
 rw[Qe0 ha hm,YZ ha]at h'
 exact hR H' (h'.room (Nat.le_max_left _ _))
def Qao (a b:Nat):List UInt8:=leB (a:Int) 2++(leB (b:Int) 1++[0])
def Z4 (a b:Nat):List UInt8:=leB (a:Int) 4++leB (b:Int) 4
def vec3B (x y z t1 t2 a b:Nat):List UInt8:=
 leB (x:Int) 4++(leB (y:Int) 4++(leB (z:Int) 4++([0,0,0,0]++(leB (t1:Int) 8++(leB (t2:Int) 1++([0]++(leB (a:Int) 2++(leB (b:Int) 1++([0]++[0,0])))))))))
omit hB in
theorem Zg (a b:List UInt8) (S:BS):place a (place b S)=place (a++b) S:=by simp[place]
omit hB in
theorem YC (a:List UInt8) (S:BS):(place a S).buf.length=a.length+S.buf.length:=by simp[place]
omit hB in
theorem Qaz (a:List UInt8) (S:BS):(place a S).min=S.min:=rfl
theorem QhI {a b:Nat} (hr:4<=r) (ha:S.buf.length%2=0) (hm:2<=S.min) (hl:S.buf.length+32<=536870912) (hR:∀H' v,Qc H' p (place (Qao a b) S) F (r-4)->R v H'):
  FnS prog 255 #[.pointer (some ⟨p,0,none⟩),.int .i16 (IntKind.i16.wrap (a:Int)),.int .i8 (IntKind.i8.wrap (b:Int))] H R:=by
 apply w255
 unfold s255
 refine al_Prep (size:=2) (add:=4) (k:=1) hB (by decide) (by decide) (by omega) hm (by omega) ?_
 intro H1 h1
 refine QaD (n:=1) h1 rfl (by omega) ?_
 intro H2 h2
 have e1:(List.replicate 1 (0:UInt8))=[0]:=rfl
 rw[e1]at h2
 refine al_Int8 h2 (by rw[YC];exact Nat.mod_one _) (by rw[Qaz];omega) (by rw[YC];simp;omega) ?_
 intro H3 h3
 rw[QdF (by decide),Zg]at h3
 refine al_Int16 h3 (by rw[YC];simp[Qg];omega) (by rw[Qaz];omega) (by rw[YC];simp[Qg];omega) ?_
 intro H4 h4
 rw[QdF (by decide),Zg]at h4
 refine Yl h4 ?_
 exact hR H4 _ (h4.room (by omega))
theorem Qgr {a b:Nat} (hr:8<=r) (ha:S.buf.length%4=0) (hm:4<=S.min) (hl:S.buf.length+32<=536870912) (hR:∀H' v,Qc H' p (place (Z4 a b) S) F (r-8)->R v H'):
  FnS prog 263 #[.pointer (some ⟨p,0,none⟩),.int .u32 (a:Int),.int .u32 (b:Int)] H R:=by
 apply w263
 unfold s263
 refine al_Prep (size:=4) (add:=8) (k:=2) hB (by decide) (by decide) (by omega) hm (by omega) ?_
 intro H1 h1
 refine al_Uint32 h1 (by omega) hm (by omega) ?_
 intro H3 h3
 refine al_Uint32 h3 (by rw[YC];simp[Qg];omega) (by rw[Qaz];omega) (by rw[YC];simp[Qg];omega) ?_
 intro H4 h4
 rw[Zg]at h4
 refine Yl h4 ?_
 exact hR H4 _ (h4.room (by omega))
set_option maxHeartbeats 1000000 in
theorem QhW {x y z t1 t2 a b:Nat} (ht2:t2<256) (hl:S.buf.length+96<=536870912) (hR:∀H',Qc H' p (place (vec3B x y z t1 t2 a b) (prep 8 32 S)) F 0->R (.int .u32 ((place (vec3B x y z t1 t2 a b) (prep 8 32 S)).buf.length:Nat)) H'):
  FnS prog 273 #[.pointer (some ⟨p,0,none⟩),.float .f32 x,.float .f32 y,.float .f32 z,.float .f64 t1,.int .u8 (t2:Int),.int .i16 (IntKind.i16.wrap (a:Int)),.int .i8 (IntKind.i8.wrap (b:Int))] H R:=by
 apply w273
 unfold s273
 refine QX (size:=8) (add:=32) (k:=3) hB (by decide) (by decide) rfl (by omega) ?_
 intro H1 h1
 have hr1:41<=Nat.max (r-padOf 8 (S.buf.length+32)) (8+32+1):=Nat.le_max_right _ _
 replace h1:=h1.room hr1
 have hm:8<=(prep 8 32 S).min:=Nat.le_max_right _ _
 have hal:(prep 8 32 S).buf.length%8=0:=by
  have:=Qcp (size:=8) (n:=S.buf.length+32) (by decide)
  rw[Qa5];omega
 have hll:(prep 8 32 S).buf.length<=S.buf.length+7:=by
  have:=Zo (size:=8) (n:=S.buf.length+32) (by decide)
  rw[Qa5];omega
 generalize prep 8 32 S=S1 at *
 refine QaD (n:=2) h1 rfl (by omega) ?_
 intro H2 h2
 rw[show List.replicate 2 (0:UInt8)=[0,0] from rfl]at h2
 refine al_Prep (size:=2) (add:=4) (k:=1) h2 (by decide) (by decide) (by rw[YC];simp;omega) (by rw[Qaz];omega) (by rw[YC];simp;omega) ?_
 intro H3 h3
 refine QaD (n:=1) h3 rfl (by omega) ?_
 intro H4 h4
 rw[show List.replicate 1 (0:UInt8)=[0] from rfl,Zg]at h4
 refine al_Int8 h4 (Nat.mod_one _) (by rw[Qaz];omega) (by rw[YC];simp;omega) ?_
 intro H5 h5
 rw[QdF (by decide),Zg]at h5
 refine al_Int16 h5 (by rw[YC];simp[Qg];omega) (by rw[Qaz];omega) (by rw[YC];simp[Qg];omega) ?_
 intro H6 h6
 rw[QdF (by decide),Zg]at h6
 refine QaD (n:=1) h6 rfl (by omega) ?_
 intro H7 h7
 rw[show List.replicate 1 (0:UInt8)=[0] from rfl,Zg]at h7
 have eb:((UInt8.ofNat t2).toNat:Int)=(t2:Int):=by rw[UInt8.toNat_ofNat_of_lt' ht2]
 have eb2:[UInt8.ofNat t2]=leB (t2:Int) 1:=by
  rw[leB_1]
  unfold Za
  congr 2
  simp;omega
 rw[<-eb]
 refine al_Byte h7 (Nat.mod_one _) (by rw[Qaz];omega) (by rw[YC];simp[Qg];omega) ?_
 intro H8 h8
 rw[eb2,Zg]at h8
 refine al_Float64 h8 (by rw[YC];simp[Qg];omega) (by rw[Qaz];omega) (by rw[YC];simp[Qg];omega) ?_
 intro H9 h9
 rw[Zg]at h9
 refine QaD (n:=4) h9 rfl (by omega) ?_
 intro H10 h10
 rw[show List.replicate 4 (0:UInt8)=[0,0,0,0] from rfl,Zg]at h10
 refine Qio h10 (by rw[YC];simp[Qg];omega) (by rw[Qaz];omega) (by rw[YC];simp[Qg];omega) ?_
 intro H11 h11
 rw[Zg]at h11
 refine Qio h11 (by rw[YC];simp[Qg];omega) (by rw[Qaz];omega) (by rw[YC];simp[Qg];omega) ?_
 intro H12 h12
 rw[Zg]at h12
 refine Qio h12 (by rw[YC];simp[Qg];omega) (by rw[Qaz];omega) (by rw[YC];simp[Qg];omega) ?_
 intro H13 h13
 rw[Zg]at h13
 refine Yl h13 ?_
 exact hR H13 (h13.room (Nat.zero_le _))
end
end Go.Proofs
namespace Go.Proofs
open Go Go.Vc
open Tryz (prog)
theorem byteN_getElem? {bs:List UInt8} {i:Nat}:byteN bs i=((bs[i]?).getD 0).toNat:=rfl
theorem byteN_putL {bs xs:List UInt8} {q i:Nat} (h:q+xs.length<=bs.length):byteN (QaF bs q xs) i=if q<=i/\i<q+xs.length then byteN xs (i-q) else byteN bs i:=by
 rw[QdQ _ _ _ h]
 simp only[byteN_getElem?]
 by_cases h1:i<q
 ·have e:(bs.take q++xs++bs.drop (q+xs.length))[i]?=bs[i]?:=by
   rw[List.getElem?_append_left (by simp;omega),List.getElem?_append_left (by simp;omega),List.getElem?_take,if_pos h1]
  rw[e,if_neg (by omega)]
 ·by_cases h2:i<q+xs.length
  ·have e:(bs.take q++xs++bs.drop (q+xs.length))[i]?=xs[i-q]?:=by
    rw[List.getElem?_append_left (by simp;omega),List.getElem?_append_right (by simp;omega)]
    congr 1;simp;omega
   rw[e,if_pos (by omega)]
  ·have e:(bs.take q++xs++bs.drop (q+xs.length))[i]?=bs[i]?:=by
    rw[List.getElem?_append_right (by simp;omega),List.getElem?_drop]
    congr 1;simp;omega
   rw[e,if_neg (by omega)]
theorem QgI {bs xs:List UInt8} {q i:Nat} (h:q+xs.length<=bs.length) (hi:i+2<=q\/q+xs.length<=i):le2 (QaF bs q xs) i=le2 bs i:=by
 unfold le2
 rw[byteN_putL h,byteN_putL h,if_neg (by omega),if_neg (by omega)]
theorem Qgn (x i:Nat):(Za (x:Int) i).toNat=x/2^(8*i)%256:=by
 have h:=Qe1 (x:Int) i
 have e:((x:Int)/2^(8*i))%256=((x/2^(8*i)%256:Nat):Int):=by
  rw[Int.natCast_emod,Int.natCast_ediv,Int.natCast_pow];rfl
 rw[e]at h
 omega
theorem Qf9 {x:Int} {k i:Nat} (hi:i<k):byteN (leB x k) i=(Za x i).toNat:=by
 unfold byteN leB
 congr 1
 simp[List.getD,hi]
theorem QiS {x:Nat} {k:Nat} (hk:2<=k) (rest:List UInt8):le2 (leB (x:Int) k++rest) 0=x%65536:=by
 have hb:∀i,i<k->byteN (leB (x:Int) k++rest) i=x/2^(8*i)%256:=by
  intro i hi
  have:byteN (leB (x:Int) k++rest) i=byteN (leB (x:Int) k) i:=by
   unfold byteN
   congr 1
   simp only[List.getD]
   rw[List.getElem?_append_left (by rw[Qg];exact hi)]
  rw[this,Qf9 hi,Qgn]
 unfold le2
 rw[hb 0 (by omega),Nat.zero_add,hb 1 (by omega)]
 simp;omega
theorem QgD {x:Nat} {k:Nat} (hk:4<=k) (rest:List UInt8):le4 (leB (x:Int) k++rest) 0=x%4294967296:=by
 have hb:∀i,i<k->byteN (leB (x:Int) k++rest) i=x/2^(8*i)%256:=by
  intro i hi
  have:byteN (leB (x:Int) k++rest) i=byteN (leB (x:Int) k) i:=by
   unfold byteN
   congr 1
   simp only[List.getD]
   rw[List.getElem?_append_left (by rw[Qg];exact hi)]
  rw[this,Qf9 hi,Qgn]
 rw[le4_eq,hb 0 (by omega),hb (0+1) (by omega),hb (0+2) (by omega),hb (0+3) (by omega)]
 simp;omega
theorem le8_leB {x:Nat} (rest:List UInt8):le8 (leB (x:Int) 8++rest) 0=x%18446744073709551616:=by
 have hb:∀i,i<8->byteN (leB (x:Int) 8++rest) i=x/2^(8*i)%256:=by
  intro i hi
  have:byteN (leB (x:Int) 8++rest) i=byteN (leB (x:Int) 8) i:=by
   unfold byteN
   congr 1
   simp only[List.getD]
   rw[List.getElem?_append_left (by rw[Qg];exact hi)]
  rw[this,Qf9 hi,Qgn]
 rw[le8_eq,hb 0 (by omega),hb (0+1) (by omega),hb (0+2) (by omega),hb (0+3) (by omega),hb (0+4) (by omega),hb (0+5) (by omega),hb (0+6) (by omega),hb (0+7) (by omega)]
 simp;omega
structure Inv (S:BS):Prop where
 nested:S.nested=false
 vts:QhZ S
 nv:S.vts.length<=S.buf.length
 min:P2 S.min
theorem Inv.new:Inv Qcc:=⟨rfl,fun o ho=>by simp[Qcc]at ho,Nat.zero_le _,P2_1⟩
theorem wrEnt_ext (oo:Nat):∀(vs:List Nat) (S:BS),∃x,(ZI oo vs S).buf=x++S.buf/\2*vs.length<=x.length/\x.length<=3*vs.length
 |[],S=>⟨[],rfl,by simp,by simp⟩
 |v::vs,S=>by
  obtain ⟨x,hx,h1,h2⟩:=wrEnt_ext oo vs S
  have hp:=Zo (size:=2) (n:=(ZI oo vs S).buf.length+0) (by decide)
  refine ⟨leB ((if v≠0 then oo-v else 0:Nat):Int) 2++(List.replicate (padOf 2 ((ZI oo vs S).buf.length+0)) 0++x),?_,?_,?_⟩
  ·simp[ZI,putN,place,prep,hx]
  ·simp only[List.length_append,Qg,List.length_replicate,List.length_cons];omega
  ·simp only[List.length_append,Qg,List.length_replicate,List.length_cons];omega
theorem QfG (k:Nat) (xs:List UInt8) (S:BS):(putN k xs S).buf=xs++(List.replicate (padOf k (S.buf.length+0)) 0++S.buf):=by
 simp[putN,place,prep]
theorem wrEnt_min (oo:Nat):∀(vs:List Nat) (S:BS),P2 S.min->P2 (ZI oo vs S).min
 |[],_,h=>h
 |_::vs,S,h=>(wrEnt_min oo vs S h).max P2_2
theorem Inv.endObj {S0 S:BS} {n c:Nat} (h:YA S0 n c S) (h0:Inv S0) (hn:n<1000):
  Inv (endObj S)/\(endObj S).buf.length<=S.buf.length+3*n+16/\S.buf.length+4<=(endObj S).buf.length/\(putOff 0 S).buf.length<=(endObj S).buf.length:=by
 obtain ⟨x,hx⟩:=h.ext
 obtain ⟨y,hy,hy1,hy2⟩:=QdM 0 S
 have hS1:QhZ (putOff 0 S):=h0.vts.ext (S':=putOff 0 S) h.vts (x:=y++x) (by rw[hy,hx,List.append_assoc])
 have hle:∀o∈S.vts,o<=S.buf.length:=fun o ho=>by
  rw[h.vts]at ho
  have:=(h0.vts o ho).2.1
  rw[hx,List.length_append];omega
 have hS1l:(putOff 0 S).buf.length=y.length+S.buf.length:=by rw[hy,List.length_append]
 have hvl:((putOff 0 S).vt.take (Zt (putOff 0 S).vt)).length<=n:=by
  rw[List.length_take]
  have:(putOff 0 S).vt.length=n:=h.vtl
  omega
 have k2:(putOff 0 S).vts=S.vts:=rfl
 have k5:P2 (putOff 0 S).min:=h.min.max QgV
 rw[Qgk S _ _ _ _ rfl rfl rfl rfl]
 generalize hvt:(putOff 0 S).vt.take (Zt (putOff 0 S).vt)=vt at *
 generalize Qc0 (Qaq vt (putOff 0 S).buf.length (putOff 0 S).buf) (putOff 0 S).vts=ex
 generalize hoo:(putOff 0 S).buf.length=oo at *
 generalize hS1e:putOff 0 S=S1 at *
 by_cases hex:ex=0
 ·rw[if_pos hex]
  have hS2b:({S1 with vt:=vt}:BS).buf=S1.buf:=rfl
  have hS2v:({S1 with vt:=vt}:BS).vts=S1.vts:=rfl
  have hS2m:P2 ({S1 with vt:=vt}:BS).min:=k5
  generalize ({S1 with vt:=vt}:BS)=S2 at *
  obtain ⟨z,hz,hz1,hz2⟩:=wrEnt_ext oo vt S2
  have hS3m:P2 (ZI oo vt S2).min:=wrEnt_min oo vt S2 hS2m
  have hS3v:=(Qe5 oo vt S2).2.1
  generalize ZI oo vt S2=S3 at *
  have e4:=QfG 2 (leB ((oo-S.oe:Nat):Int) 2) S3
  have hS4m:P2 (putN 2 (leB ((oo-S.oe:Nat):Int) 2) S3).min:=hS3m.max P2_2
  have hp4:=Zo (size:=2) (n:=S3.buf.length+0) (by decide)
  generalize putN 2 (leB ((oo-S.oe:Nat):Int) 2) S3=S4 at *
  have e5:=QfG 2 (leB ((2*(vt.length+2):Nat):Int) 2) S4
  have hS5m:P2 (putN 2 (leB ((2*(vt.length+2):Nat):Int) 2) S4).min:=hS4m.max P2_2
  have hp5:=Zo (size:=2) (n:=S4.buf.length+0) (by decide)
  have hle2:le2 (putN 2 (leB ((2*(vt.length+2):Nat):Int) 2) S4).buf 0=2*(vt.length+2):=by
   rw[e5,QiS (Nat.le_refl _),Nat.mod_eq_of_lt (by omega)]
  generalize putN 2 (leB ((2*(vt.length+2):Nat):Int) 2) S4=S5 at *
  obtain ⟨w,hw,hw1,hw2⟩:∃w,S5.buf=w++S1.buf/\2*vt.length+4<=w.length/\w.length<=3*n+6:=by
   refine ⟨leB ((2*(vt.length+2):Nat):Int) 2++(List.replicate (padOf 2 (S4.buf.length+0)) 0++(leB ((oo-S.oe:Nat):Int) 2++(List.replicate (padOf 2 (S3.buf.length+0)) 0++z))),?_,?_,?_⟩
   ·rw[e5,e4,hz,hS2b];simp
   ·simp only[List.length_append,Qg,List.length_replicate];omega
   ·simp only[List.length_append,Qg,List.length_replicate];omega
  have hw3:S5.buf.length-oo=w.length:=by rw[hw,List.length_append,hoo];omega
  have hwl:S5.buf.length=w.length+oo:=by rw[hw,List.length_append,hoo]
  rw[hw3]
  have hpl:(QaF S5.buf w.length (leB (w.length:Int) 4)).length=S5.buf.length:=Ym _ _ _
  refine ⟨⟨rfl,?_,?_,hS5m⟩,?_,?_,?_⟩
  ·intro o ho
   show 0<o/\o<=(QaF S5.buf w.length (leB (w.length:Int) 4)).length/\4<=le2 (QaF S5.buf w.length (leB (w.length:Int) 4)) ((QaF S5.buf w.length (leB (w.length:Int) 4)).length-o)/\le2 (QaF S5.buf w.length (leB (w.length:Int) 4)) ((QaF S5.buf w.length (leB (w.length:Int) 4)).length-o)<=o
   rw[hpl]
   rcases List.mem_append.1 (show o∈S1.vts++[S5.buf.length] from ho) with ho|ho
   ·have ho2:=hle o (by rw[<-k2];exact ho)
    obtain ⟨q1,q2,q3,q4⟩:=hS1 o ho
    have e:le2 (QaF S5.buf w.length (leB (w.length:Int) 4)) (S5.buf.length-o)=le2 S1.buf (S1.buf.length-o):=by
     rw[QgI (by rw[Qg];omega) (by rw[Qg];omega),hw,show (w++S1.buf).length-o=w.length+(S1.buf.length-o) by rw[List.length_append];omega,YT]
    rw[e]
    exact ⟨q1,by omega,q3,q4⟩
   ·have:o=S5.buf.length:=by simpa using ho
    subst this
    rw[Nat.sub_self,QgI (by rw[Qg];omega) (by omega),hle2]
    omega
  ·show (S1.vts++[S5.buf.length]).length<=(QaF S5.buf w.length (leB (w.length:Int) 4)).length
   rw[hpl,List.length_append,k2,h.vts]
   have:=h0.nv
   have:=h.le
   simp;omega
  ·show (QaF S5.buf w.length (leB (w.length:Int) 4)).length<=_
   rw[hpl];omega
  ·show _<=(QaF S5.buf w.length (leB (w.length:Int) 4)).length
   rw[hpl];omega
  ·show _<=(QaF S5.buf w.length (leB (w.length:Int) 4)).length
   rw[hpl];omega
 ·rw[if_neg hex]
  have hpl:(QaF S1.buf 0 (leB ((ex:Int)-(oo:Int)) 4)).length=S1.buf.length:=Ym _ _ _
  refine ⟨⟨rfl,?_,?_,k5⟩,?_,?_,?_⟩
  ·intro o ho
   have ho2:=hle o (by rw[<-k2];exact ho)
   obtain ⟨q1,q2,q3,q4⟩:=hS1 o ho
   show 0<o/\o<=(QaF S1.buf 0 (leB ((ex:Int)-(oo:Int)) 4)).length/\4<=le2 (QaF S1.buf 0 (leB ((ex:Int)-(oo:Int)) 4)) ((QaF S1.buf 0 (leB ((ex:Int)-(oo:Int)) 4)).length-o)/\le2 (QaF S1.buf 0 (leB ((ex:Int)-(oo:Int)) 4)) ((QaF S1.buf 0 (leB ((ex:Int)-(oo:Int)) 4)).length-o)<=o
   rw[hpl,QgI (by rw[Qg];omega) (by rw[Qg];omega)]
   exact ⟨q1,q2,q3,q4⟩
  ·show S1.vts.length<=(QaF S1.buf 0 (leB ((ex:Int)-(oo:Int)) 4)).length
   rw[hpl,k2,h.vts]
   have:=h0.nv
   have:=h.le
   omega
  ·show (QaF S1.buf 0 (leB ((ex:Int)-(oo:Int)) 4)).length<=_
   rw[hpl];omega
  ·show _<=(QaF S1.buf 0 (leB ((ex:Int)-(oo:Int)) 4)).length
   rw[hpl];omega
  ·show _<=(QaF S1.buf 0 (leB ((ex:Int)-(oo:Int)) 4)).length
   rw[hpl];omega
end Go.Proofs
namespace Go.Proofs
open Go Go.Vc
open Tryz (prog)
set_option maxRecDepth 100000
def s23 (b a:Value) (h:Qe) (R:Kn):Prop:=
 Qj prog .eql 75 b (.pointer none) fun z0=>
 IfK z0
 (R (.int .u32 0) h)
 (Q1 b fun z1=>
 Qf z1 3 fun z2=>
 LdK h z2 fun z3=>
 Qa prog 74 #[a,z3] h fun z4 d5=>
 QA (fun d6=>
 Q1 b fun z5=>
 Qf z5 4 fun z6=>
 LdK d5 z6 fun z7=>
 Qj prog .neq 78 z7 (.slice none 0 0) fun z8=>
 IfK z8
 (Q1 b fun z9=>
 Qf z9 4 fun a00=>
 LdK d5 a00 fun a01=>
 Qa prog 75 #[a,a01] d5 fun a02 a03=>
 d6 [a02] a03)
 (d6 [(.int .u32 0)] d5)) fun d6=>∀m2:Value,∀g7:Qe,d6 [m2] g7->
 Q1 b fun a04=>
 Qf a04 6 fun a05=>
 LdK g7 a05 fun a06=>
 Qa prog 76 #[a06,a] g7 fun a07 d7=>
 QA (fun d8=>
 Q1 b fun a08=>
 Qf a08 7 fun a09=>
 LdK d7 a09 fun a10=>
 Qj prog .neq 137 a10 (.slice none 0 0) fun a11=>
 IfK a11
 (Q1 b fun a12=>
 Qf a12 7 fun a13=>
 LdK d7 a13 fun a14=>
 Y1 a14 fun g8=>
 Qa prog 77 #[a,g8] d7 fun _x108 a15=>
 QA (fun g9=>
 Qj prog .sub 3 g8 (.int .i64 1) fun a16=>
 Yu [a16] a15 fun m3 m4=>∀p:Value,∀q:Qe,m3 m4 [p] q->
 Qj prog .geq 3 p (.int .i64 0) fun a17=>
 IfK a17
 (Q1 b fun a18=>
 Qf a18 7 fun a19=>
 LdK q a19 fun a20=>
 Y2 1 a20 p fun a21=>
 LdK q a21 fun a22=>
 Qa prog 78 #[a22,a] q fun _x123 a23=>
 Qj prog .sub 3 p (.int .i64 1) fun a24=>
 QQ m3 m4 [a24] a23)
 (g9 [p] q)) fun g9=>∀a25:Value,∀m5:Qe,g9 [a25] m5->
 Qa prog 79 #[a,g8] m5 fun a26 a27=>
 d8 [a26] a27)
 (d8 [(.int .u32 0)] d7)) fun d8=>∀m6:Value,∀r:Qe,d8 [m6] r->
 QA (fun d9=>
 Q1 b fun a28=>
 Qf a28 8 fun a29=>
 LdK r a29 fun a30=>
 Qj prog .neq 28 a30 (.slice none 0 0) fun a31=>
 IfK a31
 (Q1 b fun a32=>
 Qf a32 8 fun a33=>
 LdK r a33 fun a34=>
 Y1 a34 fun c=>
 Qez r 74 4 z74 c c fun m7 a35=>
 QA (fun i0=>
 Yu [(.int .i64 0)] a35 fun m8 m9=>∀d:Value,∀s:Qe,m8 m9 [d] s->
 Qj prog .lss 3 d c fun a36=>
 IfK a36
 (Q1 b fun a37=>
 Qf a37 8 fun a38=>
 LdK s a38 fun a39=>
 Y2 1 a39 d fun a40=>
 LdK s a40 fun a41=>
 Qa prog 74 #[a,a41] s fun a42 a43=>
 Y2 1 m7 d fun a44=>
 StK a43 1 a44 a42 fun a45=>
 Qj prog .add 3 d (.int .i64 1) fun a46=>
 QQ m8 m9 [a46] a45)
 (i0 [d] s)) fun i0=>∀a47:Value,∀o0:Qe,i0 [a47] o0->
 Qa prog 80 #[a,c] o0 fun _x158 a48=>
 QA (fun i1=>
 Qj prog .sub 3 c (.int .i64 1) fun a49=>
 Yu [a49] a48 fun o1 o2=>∀t:Value,∀e0:Qe,o1 o2 [t] e0->
 Qj prog .geq 3 t (.int .i64 0) fun a50=>
 IfK a50
 (Y2 1 m7 t fun a51=>
 LdK e0 a51 fun a52=>
 Qa prog 62 #[a,a52] e0 fun _x170 a53=>
 Qj prog .sub 3 t (.int .i64 1) fun a54=>
 QQ o1 o2 [a54] a53)
 (i1 [t] e0)) fun i1=>∀a55:Value,∀o3:Qe,i1 [a55] o3->
 Qa prog 79 #[a,c] o3 fun a56 a57=>
 d9 [a56] a57)
 (d9 [(.int .u32 0)] r)) fun d9=>∀o4:Value,∀u:Qe,d9 [o4] u->
 QA (fun e1=>
 Q1 b fun a58=>
 Qf a58 9 fun a59=>
 LdK u a59 fun a60=>
 Qj prog .neq 146 a60 (.slice none 0 0) fun a61=>
 IfK a61
 (Q1 b fun a62=>
 Qf a62 9 fun a63=>
 LdK u a63 fun a64=>
 Y1 a64 fun e=>
 Qez u 74 4 z74 e e fun o5 a65=>
 QA (fun i2=>
 Yu [(.int .i64 0)] a65 fun o6 o7=>∀f:Value,∀v:Qe,o6 o7 [f] v->
 Qj prog .lss 3 f e fun a66=>
 IfK a66
 (Q1 b fun a67=>
 Qf a67 9 fun a68=>
 LdK v a68 fun a69=>
 Y2 1 a69 f fun a70=>
 LdK v a70 fun a71=>
 Qa prog 23 #[a71,a] v fun a72 a73=>
 Y2 1 o5 f fun a74=>
 StK a73 1 a74 a72 fun a75=>
 Qj prog .add 3 f (.int .i64 1) fun a76=>
 QQ o6 o7 [a76] a75)
 (i2 [f] v)) fun i2=>∀a77:Value,∀o8:Qe,i2 [a77] o8->
 Qa prog 81 #[a,e] o8 fun _x205 a78=>
 QA (fun i3=>
 Qj prog .sub 3 e (.int .i64 1) fun a79=>
 Yu [a79] a78 fun o9 p0=>∀w:Value,∀e2:Qe,o9 p0 [w] e2->
 Qj prog .geq 3 w (.int .i64 0) fun a80=>
 IfK a80
 (Y2 1 o5 w fun a81=>
 LdK e2 a81 fun a82=>
 Qa prog 62 #[a,a82] e2 fun _x217 a83=>
 Qj prog .sub 3 w (.int .i64 1) fun a84=>
 QQ o9 p0 [a84] a83)
 (i3 [w] e2)) fun i3=>∀a85:Value,∀p1:Qe,i3 [a85] p1->
 Qa prog 79 #[a,e] p1 fun a86 a87=>
 e1 [a86] a87)
 (e1 [(.int .u32 0)] u)) fun e1=>∀p2:Value,∀i4:Qe,e1 [p2] i4->
 Q1 b fun a88=>
 Qf a88 10 fun a89=>
 LdK i4 a89 fun a90=>
 Qa prog 23 #[a90,a] i4 fun a91 e3=>
 QA (fun e4=>
 Q1 b fun a92=>
 Qf a92 11 fun a93=>
 LdK e3 a93 fun a94=>
 Qj prog .neq 78 a94 (.slice none 0 0) fun a95=>
 IfK a95
 (Q1 b fun a96=>
 Qf a96 11 fun a97=>
 LdK e3 a97 fun a98=>
 Qa prog 75 #[a,a98] e3 fun a99 b00=>
 e4 [a99] b00)
 (e4 [(.int .u32 0)] e3)) fun e4=>∀p3:Value,∀i5:Qe,e4 [p3] i5->
 Q1 b fun b01=>
 Qf b01 12 fun b02=>
 LdK i5 b02 fun b03=>
 Qa prog 82 #[b03,a] i5 fun b04 e5=>
 QA (fun e6=>
 Q1 b fun b05=>
 Qf b05 22 fun b06=>
 LdK e5 b06 fun b07=>
 Qj prog .neq 32 b07 (.slice none 0 0) fun b08=>
 IfK b08
 (Q1 b fun b09=>
 Qf b09 22 fun b10=>
 LdK e5 b10 fun b11=>
 Y1 b11 fun i6=>
 Qa prog 83 #[a,i6] e5 fun _x256 b12=>
 QA (fun i7=>
 Qj prog .sub 3 i6 (.int .i64 1) fun b13=>
 Yu [b13] b12 fun p4 p5=>∀y:Value,∀z:Qe,p4 p5 [y] z->
 Qj prog .geq 3 y (.int .i64 0) fun b14=>
 IfK b14
 (Q1 b fun b15=>
 Qf b15 22 fun b16=>
 LdK z b16 fun b17=>
 Y2 1 b17 y fun b18=>
 LdK z b18 fun b19=>
 Qa prog 84 #[a,b19] z fun _x271 b20=>
 Qj prog .sub 3 y (.int .i64 1) fun b21=>
 QQ p4 p5 [b21] b20)
 (i7 [y] z)) fun i7=>∀b22:Value,∀p6:Qe,i7 [b22] p6->
 Qa prog 79 #[a,i6] p6 fun b23 b24=>
 e6 [b23] b24)
 (e6 [(.int .u32 0)] e5)) fun e6=>∀p7:Value,∀a0:Qe,e6 [p7] a0->
 QA (fun e7=>
 Q1 b fun b25=>
 Qf b25 26 fun b26=>
 LdK a0 b26 fun b27=>
 Qj prog .neq 28 b27 (.slice none 0 0) fun b28=>
 IfK b28
 (Q1 b fun b29=>
 Qf b29 26 fun b30=>
 LdK a0 b30 fun b31=>
 Y1 b31 fun g=>
 Qez a0 74 4 z74 g g fun p8 b32=>
 QA (fun i8=>
 Yu [(.int .i64 0)] b32 fun p9 q0=>∀i:Value,∀a1:Qe,p9 q0 [i] a1->
 Qj prog .lss 3 i g fun b33=>
 IfK b33
 (Q1 b fun b34=>
 Qf b34 26 fun b35=>
 LdK a1 b35 fun b36=>
 Y2 1 b36 i fun b37=>
 LdK a1 b37 fun b38=>
 Qa prog 74 #[a,b38] a1 fun b39 b40=>
 Y2 1 p8 i fun b41=>
 StK b40 1 b41 b39 fun b42=>
 Qj prog .add 3 i (.int .i64 1) fun b43=>
 QQ p9 q0 [b43] b42)
 (i8 [i] a1)) fun i8=>∀b44:Value,∀q1:Qe,i8 [b44] q1->
 Qa prog 85 #[a,g] q1 fun _x306 b45=>
 QA (fun i9=>
 Qj prog .sub 3 g (.int .i64 1) fun b46=>
 Yu [b46] b45 fun q2 q3=>∀a2:Value,∀e8:Qe,q2 q3 [a2] e8->
 Qj prog .geq 3 a2 (.int .i64 0) fun b47=>
 IfK b47
 (Y2 1 p8 a2 fun b48=>
 LdK e8 b48 fun b49=>
 Qa prog 62 #[a,b49] e8 fun _x318 b50=>
 Qj prog .sub 3 a2 (.int .i64 1) fun b51=>
 QQ q2 q3 [b51] b50)
 (i9 [a2] e8)) fun i9=>∀b52:Value,∀q4:Qe,i9 [b52] q4->
 Qa prog 79 #[a,g] q4 fun b53 b54=>
 e7 [b53] b54)
 (e7 [(.int .u32 0)] a0)) fun e7=>∀q5:Value,∀a3:Qe,e7 [q5] a3->
 QA (fun e9=>
 Q1 b fun b55=>
 Qf b55 27 fun b56=>
 LdK a3 b56 fun b57=>
 Qj prog .neq 148 b57 (.slice none 0 0) fun b58=>
 IfK b58
 (Q1 b fun b59=>
 Qf b59 27 fun b60=>
 LdK a3 b60 fun b61=>
 Y1 b61 fun j0=>
 Qa prog 86 #[a,j0] a3 fun _x334 b62=>
 QA (fun j1=>
 Qj prog .sub 3 j0 (.int .i64 1) fun b63=>
 Yu [b63] b62 fun q6 q7=>∀a4:Value,∀a5:Qe,q6 q7 [a4] a5->
 Qj prog .geq 3 a4 (.int .i64 0) fun b64=>
 IfK b64
 (Q1 b fun b65=>
 Qf b65 27 fun b66=>
 LdK a5 b66 fun b67=>
 Y2 1 b67 a4 fun b68=>
 LdK a5 b68 fun b69=>
 Qa prog 87 #[b69,a] a5 fun _x349 b70=>
 Qj prog .sub 3 a4 (.int .i64 1) fun b71=>
 QQ q6 q7 [b71] b70)
 (j1 [a4] a5)) fun j1=>∀b72:Value,∀q8:Qe,j1 [b72] q8->
 Qa prog 79 #[a,j0] q8 fun b73 b74=>
 e9 [b73] b74)
 (e9 [(.int .u32 0)] a3)) fun e9=>∀q9:Value,∀a6:Qe,e9 [q9] a6->
 QA (fun f0=>
 Q1 b fun b75=>
 Qf b75 28 fun b76=>
 LdK a6 b76 fun b77=>
 Qj prog .neq 78 b77 (.slice none 0 0) fun b78=>
 IfK b78
 (Q1 b fun b79=>
 Qf b79 28 fun b80=>
 LdK a6 b80 fun b81=>
 Qa prog 75 #[a,b81] a6 fun b82 b83=>
 f0 [b82] b83)
 (f0 [(.int .u32 0)] a6)) fun f0=>∀r0:Value,∀a7:Qe,f0 [r0] a7->
 QA (fun f1=>
 Q1 b fun b84=>
 Qf b84 29 fun b85=>
 LdK a7 b85 fun b86=>
 Qj prog .neq 137 b86 (.slice none 0 0) fun b87=>
 IfK b87
 (Q1 b fun b88=>
 Qf b88 29 fun b89=>
 LdK a7 b89 fun b90=>
 Y1 b90 fun j2=>
 Qa prog 88 #[a,j2] a7 fun _x376 b91=>
 QA (fun j3=>
 Qj prog .sub 3 j2 (.int .i64 1) fun b92=>
 Yu [b92] b91 fun r1 r2=>∀a8:Value,∀a9:Qe,r1 r2 [a8] a9->
 Qj prog .geq 3 a8 (.int .i64 0) fun b93=>
 IfK b93
 (Q1 b fun b94=>
 Qf b94 29 fun b95=>
 LdK a9 b95 fun b96=>
 Y2 1 b96 a8 fun b97=>
 LdK a9 b97 fun b98=>
 Qa prog 78 #[b98,a] a9 fun _x391 b99=>
 Qj prog .sub 3 a8 (.int .i64 1) fun c00=>
 QQ r1 r2 [c00] b99)
 (j3 [a8] a9)) fun j3=>∀c01:Value,∀r3:Qe,j3 [c01] r3->
 Qa prog 79 #[a,j2] r3 fun c02 c03=>
 f1 [c02] c03)
 (f1 [(.int .u32 0)] a7)) fun f1=>∀r4:Value,∀b0:Qe,f1 [r4] b0->
 QA (fun f2=>
 Q1 b fun c04=>
 Qf c04 30 fun c05=>
 LdK b0 c05 fun c06=>
 Qj prog .neq 34 c06 (.slice none 0 0) fun c07=>
 IfK c07
 (Q1 b fun c08=>
 Qf c08 30 fun c09=>
 LdK b0 c09 fun c10=>
 Y1 c10 fun j4=>
 Qa prog 89 #[a,j4] b0 fun _x407 c11=>
 QA (fun j5=>
 Qj prog .sub 3 j4 (.int .i64 1) fun c12=>
 Yu [c12] c11 fun r5 r6=>∀b1:Value,∀b2:Qe,r5 r6 [b1] b2->
 Qj prog .geq 3 b1 (.int .i64 0) fun c13=>
 IfK c13
 (Q1 b fun c14=>
 Qf c14 30 fun c15=>
 LdK b2 c15 fun c16=>
 Y2 1 c16 b1 fun c17=>
 LdK b2 c17 fun c18=>
 Qa prog 90 #[a,c18] b2 fun _x422 c19=>
 Qj prog .sub 3 b1 (.int .i64 1) fun c20=>
 QQ r5 r6 [c20] c19)
 (j5 [b1] b2)) fun j5=>∀c21:Value,∀r7:Qe,j5 [c21] r7->
 Qa prog 79 #[a,j4] r7 fun c22 c23=>
 f2 [c22] c23)
 (f2 [(.int .u32 0)] b0)) fun f2=>∀r8:Value,∀b3:Qe,f2 [r8] b3->
 QA (fun f3=>
 Q1 b fun c24=>
 Qf c24 31 fun c25=>
 LdK b3 c25 fun c26=>
 Qj prog .neq 149 c26 (.slice none 0 0) fun c27=>
 IfK c27
 (Q1 b fun c28=>
 Qf c28 31 fun c29=>
 LdK b3 c29 fun c30=>
 Y1 c30 fun j6=>
 Qa prog 91 #[a,j6] b3 fun _x438 c31=>
 QA (fun j7=>
 Qj prog .sub 3 j6 (.int .i64 1) fun c32=>
 Yu [c32] c31 fun r9 s0=>∀b4:Value,∀b5:Qe,r9 s0 [b4] b5->
 Qj prog .geq 3 b4 (.int .i64 0) fun c33=>
 IfK c33
 (Q1 b fun c34=>
 Qf c34 31 fun c35=>
 LdK b5 c35 fun c36=>
 Y2 1 c36 b4 fun c37=>
 LdK b5 c37 fun c38=>
 Qa prog 92 #[a,c38] b5 fun _x453 c39=>
 Qj prog .sub 3 b4 (.int .i64 1) fun c40=>
 QQ r9 s0 [c40] c39)
 (j7 [b4] b5)) fun j7=>∀c41:Value,∀s1:Qe,j7 [c41] s1->
 Qa prog 79 #[a,j6] s1 fun c42 c43=>
 f3 [c42] c43)
 (f3 [(.int .u32 0)] b3)) fun f3=>∀s2:Value,∀j8:Qe,f3 [s2] j8->
 Q1 b fun c44=>
 Qf c44 32 fun c45=>
 LdK j8 c45 fun c46=>
 Qa prog 93 #[c46,a] j8 fun c47 f4=>
 QA (fun f5=>
 Q1 b fun c48=>
 Qf c48 33 fun c49=>
 LdK f4 c49 fun c50=>
 Qj prog .neq 141 c50 (.slice none 0 0) fun c51=>
 IfK c51
 (Q1 b fun c52=>
 Qf c52 33 fun c53=>
 LdK f4 c53 fun c54=>
 Y1 c54 fun j=>
 Qez f4 74 4 z74 j j fun s3 c55=>
 QA (fun j9=>
 Yu [(.int .i64 0)] c55 fun s4 s5=>∀l:Value,∀b6:Qe,s4 s5 [l] b6->
 Qj prog .lss 3 l j fun c56=>
 IfK c56
 (Q1 b fun c57=>
 Qf c57 33 fun c58=>
 LdK b6 c58 fun c59=>
 Y2 1 c59 l fun c60=>
 LdK b6 c60 fun c61=>
 Qa prog 94 #[c61,a] b6 fun c62 c63=>
 Y2 1 s3 l fun c64=>
 StK c63 1 c64 c62 fun c65=>
 Qj prog .add 3 l (.int .i64 1) fun c66=>
 QQ s4 s5 [c66] c65)
 (j9 [l] b6)) fun j9=>∀c67:Value,∀s6:Qe,j9 [c67] s6->
 Qa prog 95 #[a,j] s6 fun _x494 c68=>
 QA (fun l0=>
 Qj prog .sub 3 j (.int .i64 1) fun c69=>
 Yu [c69] c68 fun s7 s8=>∀b7:Value,∀f6:Qe,s7 s8 [b7] f6->
 Qj prog .geq 3 b7 (.int .i64 0) fun c70=>
 IfK c70
 (Y2 1 s3 b7 fun c71=>
 LdK f6 c71 fun c72=>
 Qa prog 62 #[a,c72] f6 fun _x506 c73=>
 Qj prog .sub 3 b7 (.int .i64 1) fun c74=>
 QQ s7 s8 [c74] c73)
 (l0 [b7] f6)) fun l0=>∀c75:Value,∀s9:Qe,l0 [c75] s9->
 Qa prog 79 #[a,j] s9 fun c76 c77=>
 f5 [c76] c77)
 (f5 [(.int .u32 0)] f4)) fun f5=>∀t0:Value,∀b8:Qe,f5 [t0] b8->
 QA (fun f7=>
 Q1 b fun c78=>
 Qf c78 35 fun c79=>
 LdK b8 c79 fun c80=>
 Qj prog .neq 35 c80 (.slice none 0 0) fun c81=>
 IfK c81
 (Q1 b fun c82=>
 Qf c82 35 fun c83=>
 LdK b8 c83 fun c84=>
 Y1 c84 fun l1=>
 Qa prog 96 #[a,l1] b8 fun _x522 c85=>
 QA (fun l2=>
 Qj prog .sub 3 l1 (.int .i64 1) fun c86=>
 Yu [c86] c85 fun t1 t2=>∀b9:Value,∀c0:Qe,t1 t2 [b9] c0->
 Qj prog .geq 3 b9 (.int .i64 0) fun c87=>
 IfK c87
 (Q1 b fun c88=>
 Qf c88 35 fun c89=>
 LdK c0 c89 fun c90=>
 Y2 1 c90 b9 fun c91=>
 LdK c0 c91 fun c92=>
 Qa prog 97 #[a,c92] c0 fun _x537 c93=>
 Qj prog .sub 3 b9 (.int .i64 1) fun c94=>
 QQ t1 t2 [c94] c93)
 (l2 [b9] c0)) fun l2=>∀c95:Value,∀t3:Qe,l2 [c95] t3->
 Qa prog 79 #[a,l1] t3 fun c96 c97=>
 f7 [c96] c97)
 (f7 [(.int .u32 0)] b8)) fun f7=>∀t4:Value,∀c1:Qe,f7 [t4] c1->
 QA (fun f8=>
 Q1 b fun c98=>
 Qf c98 36 fun c99=>
 LdK c1 c99 fun d00=>
 Qj prog .neq 141 d00 (.slice none 0 0) fun d01=>
 IfK d01
 (Q1 b fun d02=>
 Qf d02 36 fun d03=>
 LdK c1 d03 fun d04=>
 Y1 d04 fun m=>
 Qez c1 74 4 z74 m m fun t5 d05=>
 QA (fun l3=>
 Yu [(.int .i64 0)] d05 fun t6 t7=>∀o:Value,∀c2:Qe,t6 t7 [o] c2->
 Qj prog .lss 3 o m fun d06=>
 IfK d06
 (Q1 b fun d07=>
 Qf d07 36 fun d08=>
 LdK c2 d08 fun d09=>
 Y2 1 d09 o fun d10=>
 LdK c2 d10 fun d11=>
 Qa prog 94 #[d11,a] c2 fun d12 d13=>
 Y2 1 t5 o fun d14=>
 StK d13 1 d14 d12 fun d15=>
 Qj prog .add 3 o (.int .i64 1) fun d16=>
 QQ t6 t7 [d16] d15)
 (l3 [o] c2)) fun l3=>∀d17:Value,∀t8:Qe,l3 [d17] t8->
 Qa prog 98 #[a,m] t8 fun _x572 d18=>
 QA (fun l4=>
 Qj prog .sub 3 m (.int .i64 1) fun d19=>
 Yu [d19] d18 fun t9 u0=>∀c3:Value,∀f9:Qe,t9 u0 [c3] f9->
 Qj prog .geq 3 c3 (.int .i64 0) fun d20=>
 IfK d20
 (Y2 1 t5 c3 fun d21=>
 LdK f9 d21 fun d22=>
 Qa prog 62 #[a,d22] f9 fun _x584 d23=>
 Qj prog .sub 3 c3 (.int .i64 1) fun d24=>
 QQ t9 u0 [d24] d23)
 (l4 [c3] f9)) fun l4=>∀d25:Value,∀u1:Qe,l4 [d25] u1->
 Qa prog 79 #[a,m] u1 fun d26 d27=>
 f8 [d26] d27)
 (f8 [(.int .u32 0)] c1)) fun f8=>∀u2:Value,∀c4:Qe,f8 [u2] c4->
 QA (fun g0=>
 Q1 b fun d28=>
 Qf d28 38 fun d29=>
 LdK c4 d29 fun d30=>
 Qj prog .neq 35 d30 (.slice none 0 0) fun d31=>
 IfK d31
 (Q1 b fun d32=>
 Qf d32 38 fun d33=>
 LdK c4 d33 fun d34=>
 Y1 d34 fun l5=>
 Qa prog 99 #[a,l5] c4 fun _x600 d35=>
 QA (fun l6=>
 Qj prog .sub 3 l5 (.int .i64 1) fun d36=>
 Yu [d36] d35 fun u3 u4=>∀c5:Value,∀c6:Qe,u3 u4 [c5] c6->
 Qj prog .geq 3 c5 (.int .i64 0) fun d37=>
 IfK d37
 (Q1 b fun d38=>
 Qf d38 38 fun d39=>
 LdK c6 d39 fun d40=>
 Y2 1 d40 c5 fun d41=>
 LdK c6 d41 fun d42=>
 Qa prog 97 #[a,d42] c6 fun _x615 d43=>
 Qj prog .sub 3 c5 (.int .i64 1) fun d44=>
 QQ u3 u4 [d44] d43)
 (l6 [c5] c6)) fun l6=>∀d45:Value,∀u5:Qe,l6 [d45] u5->
 Qa prog 79 #[a,l5] u5 fun d46 d47=>
 g0 [d46] d47)
 (g0 [(.int .u32 0)] c4)) fun g0=>∀u6:Value,∀c7:Qe,g0 [u6] c7->
 QA (fun g1=>
 Q1 b fun d48=>
 Qf d48 40 fun d49=>
 LdK c7 d49 fun d50=>
 Qj prog .neq 35 d50 (.slice none 0 0) fun d51=>
 IfK d51
 (Q1 b fun d52=>
 Qf d52 40 fun d53=>
 LdK c7 d53 fun d54=>
 Y1 d54 fun l7=>
 Qa prog 100 #[a,l7] c7 fun _x631 d55=>
 QA (fun l8=>
 Qj prog .sub 3 l7 (.int .i64 1) fun d56=>
 Yu [d56] d55 fun u7 u8=>∀c8:Value,∀c9:Qe,u7 u8 [c8] c9->
 Qj prog .geq 3 c8 (.int .i64 0) fun d57=>
 IfK d57
 (Q1 b fun d58=>
 Qf d58 40 fun d59=>
 LdK c9 d59 fun d60=>
 Y2 1 d60 c8 fun d61=>
 LdK c9 d61 fun d62=>
 Qa prog 97 #[a,d62] c9 fun _x646 d63=>
 Qj prog .sub 3 c8 (.int .i64 1) fun d64=>
 QQ u7 u8 [d64] d63)
 (l8 [c8] c9)) fun l8=>∀d65:Value,∀u9:Qe,l8 [d65] u9->
 Qa prog 79 #[a,l7] u9 fun d66 d67=>
 g1 [d66] d67)
 (g1 [(.int .u32 0)] c7)) fun g1=>∀v0:Value,∀l9:Qe,g1 [v0] l9->
 Q1 b fun d68=>
 Qf d68 41 fun d69=>
 LdK l9 d69 fun d70=>
 Qa prog 101 #[d70,a] l9 fun d71 v1=>
 Q1 b fun d72=>
 Qf d72 42 fun d73=>
 LdK v1 d73 fun d74=>
 Qa prog 102 #[d74,a] v1 fun d75 g2=>
 QA (fun g3=>
 Q1 b fun d76=>
 Qf d76 43 fun d77=>
 LdK g2 d77 fun d78=>
 Qj prog .neq 153 d78 (.slice none 0 0) fun d79=>
 IfK d79
 (Q1 b fun d80=>
 Qf d80 43 fun d81=>
 LdK g2 d81 fun d82=>
 Y1 d82 fun m0=>
 Qa prog 103 #[a,m0] g2 fun _x674 d83=>
 QA (fun m1=>
 Qj prog .sub 3 m0 (.int .i64 1) fun d84=>
 Yu [d84] d83 fun v2 v3=>∀d0:Value,∀d1:Qe,v2 v3 [d0] d1->
 Qj prog .geq 3 d0 (.int .i64 0) fun d85=>
 IfK d85
 (Q1 b fun d86=>
 Qf d86 43 fun d87=>
 LdK d1 d87 fun d88=>
 Y2 1 d88 d0 fun d89=>
 LdK d1 d89 fun d90=>
 Qa prog 104 #[a,d90] d1 fun _x689 d91=>
 Qj prog .sub 3 d0 (.int .i64 1) fun d92=>
 QQ v2 v3 [d92] d91)
 (m1 [d0] d1)) fun m1=>∀d93:Value,∀v4:Qe,m1 [d93] v4->
 Qa prog 79 #[a,m0] v4 fun d94 d95=>
 g3 [d94] d95)
 (g3 [(.int .u32 0)] g2)) fun g3=>∀v5:Value,∀v6:Qe,g3 [v5] v6->
 Qa prog 105 #[a] v6 fun _x694 v7=>
 Q1 b fun d96=>
 Qf d96 0 fun d97=>
 LdK v7 d97 fun d98=>
 Qa prog 106 #[d98,a] v7 fun d99 e00=>
 Qa prog 107 #[a,d99] e00 fun _x703 v8=>
 Q1 b fun e01=>
 Qf e01 1 fun e02=>
 LdK v8 e02 fun e03=>
 Qa prog 108 #[a,e03] v8 fun _x709 v9=>
 Q1 b fun e04=>
 Qf e04 2 fun e05=>
 LdK v9 e05 fun e06=>
 Qa prog 109 #[a,e06] v9 fun _x715 e07=>
 Qa prog 110 #[a,z4] e07 fun _x718 e08=>
 Qa prog 111 #[a,m2] e08 fun _x721 w0=>
 Q1 b fun e09=>
 Qf e09 5 fun e10=>
 LdK w0 e10 fun e11=>
 Qa prog 112 #[a,e11] w0 fun _x727 d2=>
 QA (fun g4=>
 Q1 b fun e12=>
 Qf e12 6 fun e13=>
 LdK d2 e13 fun e14=>
 Qj prog .neq 145 e14 (.pointer none) fun e15=>
 IfK e15
 (Q1 b fun e16=>
 Qf e16 6 fun e17=>
 LdK d2 e17 fun e18=>
 Q1 e18 fun e19=>
 Qf e19 0 fun e20=>
 LdK d2 e20 fun e21=>
 Qa prog 113 #[a,e21] d2 fun _x741 e22=>
 g4 [] e22)
 (g4 [] d2)) fun g4=>∀w1:Qe,g4 [] w1->
 Qa prog 114 #[a,a07] w1 fun _x744 e23=>
 Qa prog 115 #[a,m6] e23 fun _x747 e24=>
 Qa prog 116 #[a,o4] e24 fun _x750 e25=>
 Qa prog 117 #[a,p2] e25 fun _x753 e26=>
 Qa prog 118 #[a,a91] e26 fun _x756 e27=>
 Qa prog 119 #[a,p3] e27 fun _x759 e28=>
 Qa prog 120 #[a,b04] e28 fun _x762 w2=>
 Q1 b fun e29=>
 Qf e29 13 fun e30=>
 LdK w2 e30 fun e31=>
 Qa prog 121 #[a,e31] w2 fun _x768 w3=>
 Q1 b fun e32=>
 Qf e32 14 fun e33=>
 LdK w3 e33 fun e34=>
 Qa prog 122 #[a,e34] w3 fun _x774 w4=>
 Q1 b fun e35=>
 Qf e35 15 fun e36=>
 LdK w4 e36 fun e37=>
 Qa prog 123 #[a,e37] w4 fun _x780 w5=>
 Q1 b fun e38=>
 Qf e38 16 fun e39=>
 LdK w5 e39 fun e40=>
 Qa prog 124 #[a,e40] w5 fun _x786 w6=>
 Q1 b fun e41=>
 Qf e41 17 fun e42=>
 LdK w6 e42 fun e43=>
 Qa prog 125 #[a,e43] w6 fun _x792 w7=>
 Q1 b fun e44=>
 Qf e44 18 fun e45=>
 LdK w7 e45 fun e46=>
 Qa prog 126 #[a,e46] w7 fun _x798 w8=>
 Q1 b fun e47=>
 Qf e47 19 fun e48=>
 LdK w8 e48 fun e49=>
 Qa prog 127 #[a,e49] w8 fun _x804 w9=>
 Q1 b fun e50=>
 Qf e50 20 fun e51=>
 LdK w9 e51 fun e52=>
 Qa prog 128 #[a,e52] w9 fun _x810 y0=>
 Q1 b fun e53=>
 Qf e53 21 fun e54=>
 LdK y0 e54 fun e55=>
 Qa prog 129 #[a,e55] y0 fun _x816 e56=>
 Qa prog 130 #[a,p7] e56 fun _x819 y1=>
 Q1 b fun e57=>
 Qf e57 23 fun e58=>
 LdK y1 e58 fun e59=>
 Qa prog 131 #[a,e59] y1 fun _x825 y2=>
 Q1 b fun e60=>
 Qf e60 24 fun e61=>
 LdK y2 e61 fun e62=>
 Qa prog 132 #[a,e62] y2 fun _x831 y3=>
 Q1 b fun e63=>
 Qf e63 25 fun e64=>
 LdK y3 e64 fun e65=>
 Qa prog 133 #[a,e65] y3 fun _x837 e66=>
 Qa prog 134 #[a,q5] e66 fun _x840 e67=>
 Qa prog 135 #[a,q9] e67 fun _x843 e68=>
 Qa prog 136 #[a,r0] e68 fun _x846 e69=>
 Qa prog 137 #[a,r4] e69 fun _x849 e70=>
 Qa prog 138 #[a,r8] e70 fun _x852 e71=>
 Qa prog 139 #[a,s2] e71 fun _x855 e72=>
 Qa prog 140 #[a,c47] e72 fun _x858 e73=>
 Qa prog 141 #[a,t0] e73 fun _x861 y4=>
 Q1 b fun e74=>
 Qf e74 34 fun e75=>
 LdK y4 e75 fun e76=>
 Qa prog 142 #[a,e76] y4 fun _x867 e77=>
 Qa prog 143 #[a,t4] e77 fun _x870 e78=>
 Qa prog 144 #[a,u2] e78 fun _x873 y5=>
 Q1 b fun e79=>
 Qf e79 37 fun e80=>
 LdK y5 e80 fun e81=>
 Qa prog 145 #[a,e81] y5 fun _x879 e82=>
 Qa prog 146 #[a,u6] e82 fun _x882 y6=>
 Q1 b fun e83=>
 Qf e83 39 fun e84=>
 LdK y6 e84 fun e85=>
 Qa prog 147 #[a,e85] y6 fun _x888 e86=>
 Qa prog 148 #[a,v0] e86 fun _x891 d3=>
 QA (fun g5=>
 Q1 b fun e87=>
 Qf e87 41 fun e88=>
 LdK d3 e88 fun e89=>
 Qj prog .neq 151 e89 (.pointer none) fun e90=>
 IfK e90
 (Q1 b fun e91=>
 Qf e91 41 fun e92=>
 LdK d3 e92 fun e93=>
 Q1 e93 fun e94=>
 Qf e94 0 fun e95=>
 LdK d3 e95 fun e96=>
 Qa prog 149 #[a,e96] d3 fun _x905 e97=>
 g5 [] e97)
 (g5 [] d3)) fun g5=>∀y7:Qe,g5 [] y7->
 Qa prog 150 #[a,d71] y7 fun _x908 d4=>
 QA (fun g6=>
 Q1 b fun e98=>
 Qf e98 42 fun e99=>
 LdK d4 e99 fun f00=>
 Qj prog .neq 152 f00 (.pointer none) fun f01=>
 IfK f01
 (Q1 b fun f02=>
 Qf f02 42 fun f03=>
 LdK d4 f03 fun f04=>
 Q1 f04 fun f05=>
 Qf f05 0 fun f06=>
 LdK d4 f06 fun f07=>
 Qa prog 151 #[a,f07] d4 fun _x922 f08=>
 g6 [] f08)
 (g6 [] d4)) fun g6=>∀y8:Qe,g6 [] y8->
 Qa prog 152 #[a,d75] y8 fun _x925 f09=>
 Qa prog 153 #[a,v5] f09 fun _x928 y9=>
 Q1 b fun f10=>
 Qf f10 44 fun f11=>
 LdK y9 f11 fun f12=>
 Qa prog 154 #[a,f12] y9 fun _x934 f13=>
 Qa prog 155 #[a] f13 fun f14 f15=>
 R f14 f15)
theorem w23 {a b h R} (H:s23 a b h R):FnS prog 23 #[a,b] h R:=wq Tryz.func23 (by kernel_rfl) H
theorem w76 {a b h R} (H:tp76 145 167 261 252 264 253 a b h R):FnS prog 76 #[a,b] h R:=wq Tryz.func76 (by kernel_rfl) H
theorem w78 {a b h R} (H:tp78 158 255 a b h R):FnS prog 78 #[a,b] h R:=wq Tryz.func78 (by kernel_rfl) H
def s82 (b a:Value) (h:Qe) (R:Kn):Prop:=
 Qj prog .eql 147 b (.pointer none) fun e=>
 IfK e
 (R (.int .u32 0) h)
 (Q1 b fun f=>
 Qf f 0 fun g=>
 LdK h g fun i=>
 Qa prog 74 #[a,i] h fun j l=>
 Qa prog 257 #[a] l fun _x15 m=>
 Qa prog 258 #[a,j] m fun _x18 c=>
 Q1 b fun o=>
 Qf o 1 fun p=>
 LdK c p fun q=>
 Qa prog 259 #[a,q] c fun _x24 d=>
 Q1 b fun r=>
 Qf r 2 fun s=>
 LdK d s fun t=>
 Qa prog 260 #[a,t] d fun _x30 u=>
 Qa prog 261 #[a] u fun v w=>
 R v w)
theorem w82 {a b h R} (H:s82 a b h R):FnS prog 82 #[a,b] h R:=wq Tryz.func82 (by kernel_rfl) H
theorem w87 {a b h R} (H:tp78 163 263 a b h R):FnS prog 87 #[a,b] h R:=wq Tryz.func87 (by kernel_rfl) H
theorem w93 {a b h R} (H:tp93 150 266 267 a b h R):FnS prog 93 #[a,b] h R:=wq Tryz.func93 (by kernel_rfl) H
theorem w94 {a b h R} (H:tp94 185 268 269 270 a b h R):FnS prog 94 #[a,b] h R:=wq Tryz.func94 (by kernel_rfl) H
theorem w101 {a b h R} (H:tp76 151 171 261 252 264 253 a b h R):FnS prog 101 #[a,b] h R:=wq Tryz.func101 (by kernel_rfl) H
theorem w102 {a b h R} (H:tp76 152 174 75 23 75 23 a b h R):FnS prog 102 #[a,b] h R:=wq Tryz.func102 (by kernel_rfl) H
def s106 (a b:Value) (h:Qe) (R:Kn):Prop:=
 Qj prog .eql 144 a (.pointer none) fun c=>
 IfK c
 (R (.int .u32 0) h)
 (Q1 a fun d=>
 Qf d 0 fun e=>
 LdK h e fun f=>
 Q1 a fun g=>
 Qf g 1 fun i=>
 LdK h i fun j=>
 Q1 a fun l=>
 Qf l 2 fun m=>
 LdK h m fun o=>
 Q1 a fun p=>
 Qf p 3 fun q=>
 LdK h q fun r=>
 Q1 a fun s=>
 Qf s 4 fun t=>
 LdK h t fun u=>
 Q1 a fun v=>
 Qf v 5 fun w=>
 LdK h w fun y=>
 Q1 y fun z=>
 Qf z 0 fun a0=>
 LdK h a0 fun a1=>
 Q1 a fun a2=>
 Qf a2 5 fun a3=>
 LdK h a3 fun a4=>
 Q1 a4 fun a5=>
 Qf a5 1 fun a6=>
 LdK h a6 fun a7=>
 Qa prog 273 #[b,f,j,o,r,u,a1,a7] h fun a8 a9=>
 R a8 a9)
theorem w106 {a b h R} (H:s106 a b h R):FnS prog 106 #[a,b] h R:=wq Tryz.func106 (by kernel_rfl) H
theorem w252 {a b h R} (H:tp94 261 316 317 318 a b h R):FnS prog 252 #[a,b] h R:=wq Tryz.func252 (by kernel_rfl) H
end Go.Proofs
namespace Go.Proofs
open Go Go.Vc
open Tryz (prog)
theorem Qfm (xs:List UInt8) (S:BS):(createStr xs S).buf=leB (xs.length:Int) 4++(xs++([0]++(List.replicate (padOf 4 (S.buf.length+(xs.length+1))) 0++S.buf))):=by
 simp[createStr,Qj7,place,prep]
theorem Qi5 (xs:List UInt8) (S:BS):(createStr xs S).buf.length=4+xs.length+1+padOf 4 (S.buf.length+(xs.length+1))+S.buf.length:=by
 rw[Qfm];simp[Qg];omega
theorem Inv.createStr {S:BS} (h:Inv S) (xs:List UInt8):Inv (Proofs.createStr xs S)/\(Proofs.createStr xs S).buf.length<=S.buf.length+xs.length+8/\S.buf.length+5<=(Proofs.createStr xs S).buf.length:=by
 have hp:=Zo (size:=4) (n:=S.buf.length+(xs.length+1)) (by decide)
 have hl:=Qi5 xs S
 refine ⟨⟨rfl,h.vts.ext (S':=Proofs.createStr xs S) rfl (x:=leB (xs.length:Int) 4++(xs++([0]++List.replicate (padOf 4 (S.buf.length+(xs.length+1))) 0))) (by rw[Qfm];simp),?_,h.min.max QgV⟩,by omega,by omega⟩
 have:=h.nv
 show S.vts.length<=_
 omega
def endT (S:BS):BS×Nat:=(endObj S,(putOff 0 S).buf.length)
structure Y0 (S:BS) (c:Nat) (q:BS×Nat):Prop where
 inv:Inv q.1
 len:q.1.buf.length<=S.buf.length+c
 le:S.buf.length<=q.1.buf.length
 off:q.2<=q.1.buf.length
theorem Y0.endT {S0 S:BS} {n c:Nat} (h:YA S0 n c S) (h0:Inv S0) (hn:n<1000):Y0 S0 (c+3*n+16) (Proofs.endT S)/\0<(Proofs.endT S).2:=by
 obtain ⟨h1,h2,h3,h4⟩:=Inv.endObj h h0 hn
 have h5:=h.len
 have h6:=h.le
 obtain ⟨y,hy,hy1,hy2⟩:=QdM 0 S
 refine ⟨⟨h1,?_,?_,h4⟩,?_⟩
 ·show (endObj S).buf.length<=_;omega
 ·show _<=(endObj S).buf.length;omega
 ·show 0<(putOff 0 S).buf.length
  rw[hy,List.length_append];omega
def QcI (d:ZU) (S:BS):BS×Nat:=
 endT (slotN 2 d.count.toNat 0 2 (slotN 8 d.val.toNat 0 1 (slotOff (createStr d.id S).buf.length 0 (Zc 3 (createStr d.id S)))))
def QaW (x:UInt64) (S:BS):BS×Nat:=endT (slotN 8 x.toNat 0 0 (Zc 1 S))
def QdK (S:BS):BS×Nat:=endT (Zc 0 S)
def QcS (c:UInt8) (S:BS):BS×Nat:=endT (slotN 1 c.toNat 2 0 (Zc 1 S))
theorem packStat_ok (d:ZU) {S:BS} (h:Inv S):Y0 S (d.id.length+100) (QcI d S)/\0<(QcI d S).2:=by
 obtain ⟨h1,h2,h3⟩:=h.createStr d.id
 have:=Y0.endT (((YA.start (n:=3) h1.min).slotOff (off:=(createStr d.id S).buf.length) (o:=0)).slotN (x:=d.val.toNat) (d:=0) (o:=1) QfV |>.slotN (x:=d.count.toNat) (d:=0) (o:=2) P2_2) h1 (by decide)
 refine ⟨⟨this.1.inv,?_,?_,this.1.off⟩,this.2⟩
 ·have:=this.1.len;show (QcI d S).1.buf.length<=_;unfold QcI;omega
 ·have:=this.1.le;show _<=(QcI d S).1.buf.length;unfold QcI;omega
theorem Qf2 (x:UInt64) {S:BS} (h:Inv S):Y0 S 40 (QaW x S)/\0<(QaW x S).2:=by
 have:=Y0.endT ((YA.start (n:=1) h.min).slotN (x:=x.toNat) (d:=0) (o:=0) QfV) h (by decide)
 exact ⟨⟨this.1.inv,by have:=this.1.len;unfold QaW;omega,this.1.le,this.1.off⟩,this.2⟩
theorem packParent_ok {S:BS} (h:Inv S):Y0 S 40 (QdK S)/\0<(QdK S).2:=by
 have:=Y0.endT (YA.start (n:=0) h.min) h (by decide)
 exact ⟨⟨this.1.inv,by have:=this.1.len;unfold QdK;omega,this.1.le,this.1.off⟩,this.2⟩
theorem packSimple_ok (c:UInt8) {S:BS} (h:Inv S):Y0 S 40 (QcS c S)/\0<(QcS c S).2:=by
 have:=Y0.endT ((YA.start (n:=1) h.min).slotN (x:=c.toNat) (d:=2) (o:=0) P2_1) h (by decide)
 exact ⟨⟨this.1.inv,by have:=this.1.len;unfold QcS;omega,this.1.le,this.1.off⟩,this.2⟩
section
variable {H:Qe} {p:Nat} {S:BS} {F:Cut} {r:Nat} (hB:Qc H p S F r) {R:Kn}
include hB
theorem StatT_Pack {v:Value} {d:ZU} (hI:Inv S) (hv:ZS F v #[QW d.id,QfW d.val,u16V d.count]) (hl:S.buf.length+d.id.length+5000<=536870912)
  (hR:∀H',Qc H' p (QcI d S).1 F 0->R (.int .u32 ((QcI d S).2:Nat)) H'):
  FnS prog 82 #[v,.pointer (some ⟨p,0,none⟩)] H R:=by
 obtain ⟨h1,h2,h3⟩:=hI.createStr d.id
 apply w82
 unfold s82
 obtain ⟨q,e,rfl,hq⟩:=hv
 have hv:ZS F (.pointer (some ⟨q,0,none⟩)) #[QW d.id,QfW d.val,u16V d.count]:=⟨q,e,rfl,hq⟩
 rw[Y6 (by kernel_rfl)]
 show IfK (.bool false) _ _
 rw[YQ]
 refine hv.ld hB.cut (i:=0) (QW d.id) rfl ?_
 refine Qch hB (Qe8 _) hI.nested (by omega) ?_
 intro H1 g1
 refine Qix g1 h1.nested ?_
 intro H2 g2
 have i2:=YA.start (n:=3) h1.min
 refine QiC g2 (Nat.le_refl _) (by rw[i2.vtl];decide) (by have:=i2.len;omega) ?_
 intro H3 g3
 have i3:=i2.slotOff (off:=(createStr d.id S).buf.length) (o:=0)
 refine hv.ld g3.cut (i:=1) (QfW d.val) rfl ?_
 refine Qi2 g3 d.val.toNat_lt (by rw[i3.vtl];decide) (by have:=i3.len;omega) ?_
 intro H4 g4
 have i4:=i3.slotN (k:=8) (x:=d.val.toNat) (d:=0) (o:=1) QfV
 refine hv.ld g4.cut (i:=2) (u16V d.count) rfl ?_
 refine Qh7 g4 d.count.toNat_lt (by rw[i4.vtl];decide) (by have:=i4.len;omega) ?_
 intro H5 g5
 have i5:=i4.slotN (k:=2) (x:=d.count.toNat) (d:=0) (o:=2) P2_2
 refine Example_StatEnd g5 i5 (by decide) h1.vts (by omega) h1.nv ?_
 intro H6 g6
 exact hR H6 g6
theorem QfS {v:Value} {x:UInt64} (hI:Inv S) (hv:ZS F v #[QO x]) (hl:S.buf.length+5000<=536870912)
  (hR:∀H',Qc H' p (QaW x S).1 F 0->R (.int .u32 ((QaW x S).2:Nat)) H'):
  FnS prog 94 #[v,.pointer (some ⟨p,0,none⟩)] H R:=by
 apply w94
 unfold tp94
 obtain ⟨q,e,rfl,hq⟩:=hv
 have hv:ZS F (.pointer (some ⟨q,0,none⟩)) #[QO x]:=⟨q,e,rfl,hq⟩
 rw[Y6 (by kernel_rfl)]
 show IfK (.bool false) _ _
 rw[YQ]
 refine QfC hB hI.nested ?_
 intro H2 g2
 have i2:=YA.start (n:=1) hI.min
 refine hv.ld g2.cut (i:=0) (QO x) rfl ?_
 refine Qfs g2 x.toNat_lt (by rw[i2.vtl];decide) (by have:=i2.len;omega) ?_
 intro H4 g4
 have i4:=i2.slotN (k:=8) (x:=x.toNat) (d:=0) (o:=0) QfV
 refine Qgi g4 i4 (by decide) hI.vts (by omega) hI.nv ?_
 intro H6 g6
 exact hR H6 g6
theorem Qcg {v:Value} (hI:Inv S) (hv:v= .pointer none\/∃a,v= .pointer (some a)) (hl:S.buf.length+5000<=536870912)
  (h0:v= .pointer none->R (.int .u32 0) H) (hR:v≠.pointer none->∀H',Qc H' p (QdK S).1 F 0->R (.int .u32 ((QdK S).2:Nat)) H'):
  FnS prog 93 #[v,.pointer (some ⟨p,0,none⟩)] H R:=by
 apply w93
 unfold tp93
 rcases hv with rfl|⟨a,rfl⟩
 ·rw[Y6 (by kernel_rfl)]
  exact h0 rfl
 ·rw[Y6 (by kernel_rfl)]
  show IfK (.bool false) _ _
  rw[YQ]
  refine Qdo hB hI.nested ?_
  intro H2 g2
  have i2:=YA.start (n:=0) hI.min
  refine QdV g2 i2 (by decide) hI.vts (by omega) hI.nv ?_
  intro H6 g6
  exact hR (by simp) H6 g6
theorem Qj5 {v:Value} {c:UInt8} (hI:Inv S) (hv:ZS F v #[.int .u8 (c.toNat:Int)]) (hl:S.buf.length+5000<=536870912)
  (hR:∀H',Qc H' p (QcS c S).1 F 0->R (.int .u32 ((QcS c S).2:Nat)) H'):
  FnS prog 252 #[v,.pointer (some ⟨p,0,none⟩)] H R:=by
 apply w252
 unfold tp94
 obtain ⟨q,e,rfl,hq⟩:=hv
 have hv:ZS F (.pointer (some ⟨q,0,none⟩)) #[.int .u8 (c.toNat:Int)]:=⟨q,e,rfl,hq⟩
 rw[Y6 (by kernel_rfl)]
 show IfK (.bool false) _ _
 rw[YQ]
 refine QbF hB hI.nested ?_
 intro H2 g2
 have i2:=YA.start (n:=1) hI.min
 refine hv.ld g2.cut (i:=0) (.int .u8 (c.toNat:Int)) rfl ?_
 refine Qb5 g2 c.toNat_lt (by rw[i2.vtl];decide) (by have:=i2.len;omega) ?_
 intro H4 g4
 have i4:=i2.slotN (k:=1) (x:=c.toNat) (d:=2) (o:=0) P2_1
 refine Qc7 g4 i4 (by decide) hI.vts (by omega) hI.nv ?_
 intro H6 g6
 exact hR H6 g6
theorem TestT_Pack {v:Value} {d:QbB} (hv:ZS F v #[Qdn d.a,i8V d.b]) (hr:4<=r) (ha:S.buf.length%2=0) (hm:2<=S.min) (hl:S.buf.length+32<=536870912)
  (hR:∀H' w,Qc H' p (place (Qao d.a.toNat d.b.toNat) S) F (r-4)->R w H'):
  FnS prog 78 #[v,.pointer (some ⟨p,0,none⟩)] H R:=by
 apply w78
 unfold tp78
 obtain ⟨q,e,rfl,hq⟩:=hv
 have hv:ZS F (.pointer (some ⟨q,0,none⟩)) #[Qdn d.a,i8V d.b]:=⟨q,e,rfl,hq⟩
 rw[Y6 (by kernel_rfl)]
 show IfK (.bool false) _ _
 rw[YQ]
 refine hv.ld hB.cut (i:=0) (Qdn d.a) rfl ?_
 refine hv.ld hB.cut (i:=1) (i8V d.b) rfl ?_
 refine QhI hB hr ha hm hl ?_
 exact hR
theorem AbilityT_Pack {v:Value} {d:QgK} (hv:ZS F v #[Qaw d.id,Qaw d.dist]) (hr:8<=r) (ha:S.buf.length%4=0) (hm:4<=S.min) (hl:S.buf.length+32<=536870912)
  (hR:∀H' w,Qc H' p (place (Z4 d.id.toNat d.dist.toNat) S) F (r-8)->R w H'):
  FnS prog 87 #[v,.pointer (some ⟨p,0,none⟩)] H R:=by
 apply w87
 unfold tp78
 obtain ⟨q,e,rfl,hq⟩:=hv
 have hv:ZS F (.pointer (some ⟨q,0,none⟩)) #[Qaw d.id,Qaw d.dist]:=⟨q,e,rfl,hq⟩
 rw[Y6 (by kernel_rfl)]
 show IfK (.bool false) _ _
 rw[YQ]
 refine hv.ld hB.cut (i:=0) (Qaw d.id) rfl ?_
 refine hv.ld hB.cut (i:=1) (Qaw d.dist) rfl ?_
 refine Qgr hB hr ha hm hl ?_
 exact hR
def Qff (d:Qa9):List UInt8:=vec3B d.x.toNat d.y.toNat d.z.toNat d.t1.toNat d.t2.toNat d.a.toNat d.b.toNat
theorem Vec3T_Pack {v w:Value} {d:Qa9} (hv:ZS F v #[Qgb d.x,Qgb d.y,Qgb d.z,f64V d.t1,.int .u8 (d.t2.toNat:Int),w]) (hw:ZS F w #[Qdn d.a,i8V d.b]) (hl:S.buf.length+96<=536870912)
  (hR:∀H',Qc H' p (place (Qff d) (prep 8 32 S)) F 0->R (.int .u32 ((place (Qff d) (prep 8 32 S)).buf.length:Nat)) H'):
  FnS prog 106 #[v,.pointer (some ⟨p,0,none⟩)] H R:=by
 apply w106
 unfold s106
 obtain ⟨q,e,rfl,hq⟩:=hv
 have hv:ZS F (.pointer (some ⟨q,0,none⟩)) #[Qgb d.x,Qgb d.y,Qgb d.z,f64V d.t1,.int .u8 (d.t2.toNat:Int),w]:=⟨q,e,rfl,hq⟩
 rw[Y6 (by kernel_rfl)]
 show IfK (.bool false) _ _
 rw[YQ]
 refine hv.ld hB.cut (i:=0) (Qgb d.x) rfl ?_
 refine hv.ld hB.cut (i:=1) (Qgb d.y) rfl ?_
 refine hv.ld hB.cut (i:=2) (Qgb d.z) rfl ?_
 refine hv.ld hB.cut (i:=3) (f64V d.t1) rfl ?_
 refine hv.ld hB.cut (i:=4) (.int .u8 (d.t2.toNat:Int)) rfl ?_
 refine hv.ld hB.cut (i:=5) w rfl ?_
 refine hw.ld hB.cut (i:=0) (Qdn d.a) rfl ?_
 refine hv.ld hB.cut (i:=5) w rfl ?_
 refine hw.ld hB.cut (i:=1) (i8V d.b) rfl ?_
 refine QhW hB d.t2.toNat_lt hl ?_
 exact hR
end
end Go.Proofs
namespace Go.Proofs
open Go Go.Vc
open Tryz (prog)
def vecS (es al:Nat) (items:List (List UInt8)) (S:BS):BS:=Qj7 items.length (place items.flatten (QK es items.length al S))
def Zi (L:Nat):List Nat->List (List UInt8)
 |[]=>[]
 |o::os=>leB ((L+4*os.length-o+4:Nat):Int) 4::Zi L os
theorem Qdl (L:Nat):∀os,(Zi L os).length=os.length
 |[]=>rfl
 |o::os=>by simp[Zi,Qdl L os]
def QeV (offs:List Nat) (S:BS):BS:=vecS 4 4 (Zi (QK 4 offs.length 4 S).buf.length offs) S
def Qy {α:Type} (f:α->BS->BS×Nat):List α->BS->BS×List Nat
 |[],S=>(S,[])
 |x::xs,S=>((Qy f xs (f x S).1).1,(f x S).2::(Qy f xs (f x S).1).2)
theorem Qi9 {α:Type} (f:α->BS->BS×Nat) (x:α):∀(xs:List α) (S:BS),
  Qy f (xs++[x]) S=((f x (Qy f xs S).1).1,(Qy f xs S).2++[(f x (Qy f xs S).1).2])
 |[],S=>rfl
 |y::xs,S=>by
  rw[List.cons_append,Qy,Qi9 f x xs]
  rfl
theorem Qa0 {α:Type} (f:α->BS->BS×Nat):∀(xs:List α) (S:BS),(Qy f xs S).2.length=xs.length
 |[],S=>rfl
 |y::xs,S=>by simp[Qy,Qa0 f xs]
theorem Qau {es:Nat}:∀(items:List (List UInt8)),(∀x∈items,x.length=es)->items.flatten.length=es*items.length
 |[],_=>by simp
 |x::xs,h=>by
  rw[List.flatten_cons,List.length_append,Qau xs (fun y hy=>h y (List.mem_cons_of_mem _ hy)),h x List.mem_cons_self,List.length_cons,Nat.mul_add]
  omega
theorem Qck (L:Nat):∀os,∀x∈Zi L os,x.length=4
 |[],x,hx=>by simp[Zi]at hx
 |o::os,x,hx=>by
  rcases List.mem_cons.1 hx with rfl|hx
  ·exact Qg _ _
  ·exact Qck L os x hx
theorem Qdi (es n al:Nat) (S:BS) (hal:0<al):∃x,(QK es n al S).buf=x++S.buf/\x.length<=3+al:=by
 have h1:=Zo (size:=4) (n:=S.buf.length+es*n) (by decide)
 have h2:=Zo (size:=al) (n:=(prep 4 (es*n) {S with nested:=true}).buf.length+es*n) hal
 refine ⟨List.replicate (padOf al ((prep 4 (es*n) {S with nested:=true}).buf.length+es*n)) 0++List.replicate (padOf 4 (S.buf.length+es*n)) 0,?_,?_⟩
 ·exact (List.append_assoc _ _ _).symm
 ·simp;omega
theorem Qgd (es n al:Nat) (S:BS):4<=(QK es n al S).min/\al<=(QK es n al S).min:=
 ⟨Nat.le_trans (Nat.le_max_right S.min 4) (Nat.le_max_left _ al),Nat.le_max_right _ al⟩
theorem QeO {es n al k:Nat} (S:BS) (hal:al=2^k):((QK es n al S).buf.length+es*n)%al=0:=by
 have h:=Qcp (size:=al) (n:=(prep 4 (es*n) {S with nested:=true}).buf.length+es*n) (by rw[hal];exact Nat.two_pow_pos k)
 have e:(QK es n al S).buf.length=padOf al ((prep 4 (es*n) {S with nested:=true}).buf.length+es*n)+(prep 4 (es*n) {S with nested:=true}).buf.length:=by
  unfold QK;rw[Qa5]
 rw[e]
 rw[<-h];congr 1;omega
theorem YG {es n al k:Nat} (S:BS) (hal:al=2^k) (hk:k<=3):
  es*n+5<=Nat.max ((4+es*n+1)-padOf al ((prep 4 (es*n) {S with nested:=true}).buf.length+es*n)) (al+es*n+1):=by
 have hc:k=3\/k<=2:=by omega
 rcases hc with rfl|hc
 ·refine Nat.le_trans ?_ (Nat.le_max_right _ _)
  rw[hal];omega
 ·refine Nat.le_trans ?_ (Nat.le_max_left _ _)
  have h1:=Qcp (size:=4) (n:=S.buf.length+es*n) (by decide)
  have h2:((prep 4 (es*n) {S with nested:=true}).buf.length+es*n)%al=0:=by
   have e:(prep 4 (es*n) {S with nested:=true}).buf.length+es*n=S.buf.length+es*n+padOf 4 (S.buf.length+es*n):=by
    rw[Qa5];show padOf 4 (S.buf.length+es*n)+S.buf.length+es*n=_;omega
   rw[e]
   have hd:al∣4:=by
    rw[hal]
    have:k=0\/k=1\/k=2:=by omega
    rcases this with rfl|rfl|rfl<;>decide
   exact Nat.mod_eq_zero_of_dvd (Nat.dvd_trans hd (Nat.dvd_of_mod_eq_zero h1))
  rw[YZ h2];omega
theorem Y0.vecS {S:BS} (h:Inv S) {es al:Nat} {items:List (List UInt8)} (hal:P2 al) (hi:∀x∈items,x.length=es):
  Y0 S (es*items.length+15) (Proofs.vecS es al items S,(Proofs.vecS es al items S).buf.length)/\0<(Proofs.vecS es al items S).buf.length:=by
 obtain ⟨x,hx,hxl⟩:=Qdi es items.length al S hal.pos
 have h8:=hal.le
 have hf:=Qau items hi
 have e:(Proofs.vecS es al items S).buf=leB (items.length:Int) 4++(items.flatten++(x++S.buf)):=by
  show leB (items.length:Int) 4++(items.flatten++(QK es items.length al S).buf)=_
  rw[hx]
 have el:(Proofs.vecS es al items S).buf.length=4+es*items.length+x.length+S.buf.length:=by
  rw[e];simp only[List.length_append,Qg,hf];omega
 refine ⟨⟨⟨rfl,h.vts.ext (S':=Proofs.vecS es al items S) rfl (x:=leB (items.length:Int) 4++(items.flatten++x)) (by rw[e];simp),?_,(h.min.max QgV).max hal⟩,?_,?_,?_⟩,?_⟩
 ·have:=h.nv
  show S.vts.length<=(Proofs.vecS es al items S).buf.length
  omega
 ·show (Proofs.vecS es al items S).buf.length<=_
  omega
 ·show _<=(Proofs.vecS es al items S).buf.length
  omega
 ·exact Nat.le_refl _
 ·omega
theorem QbM {α:Type} {f:α->BS->BS×Nat} {c:α->Nat}:∀(xs:List α),(∀x∈xs,∀S,Inv S->Y0 S (c x) (f x S))->∀S,Inv S->
  Inv (Qy f xs S).1/\(Qy f xs S).1.buf.length<=S.buf.length+(xs.map c).sum/\S.buf.length<=(Qy f xs S).1.buf.length/\∀o∈(Qy f xs S).2,o<=(Qy f xs S).1.buf.length
 |[],_,S,h=>⟨h,by simp[Qy],Nat.le_refl _,by simp[Qy]⟩
 |x::xs,hf,S,h=>by
  have h1:=hf x List.mem_cons_self S h
  obtain ⟨g1,g2,g3,g4⟩:=QbM xs (fun y hy=>hf y (List.mem_cons_of_mem _ hy)) (f x S).1 h1.inv
  refine ⟨g1,?_,?_,?_⟩
  ·show (Qy f xs (f x S).1).1.buf.length<=_
   have:=h1.len
   simp only[List.map_cons,List.sum_cons];omega
  ·show _<=(Qy f xs (f x S).1).1.buf.length
   have:=h1.le;omega
  ·intro o ho
   show o<=(Qy f xs (f x S).1).1.buf.length
   rcases List.mem_cons.1 ho with rfl|ho
   ·have:=h1.off;omega
   ·exact g4 o ho
end Go.Proofs
namespace Go.Proofs
open Go Go.Vc
open Tryz (prog)
def optB (xs:List UInt8) (S:BS):BS×Nat:=if xs=[] then (S,0) else (createStr xs S,(createStr xs S).buf.length)
def Qhf (es al:Nat) (items:List (List UInt8)) (S:BS):BS×Nat:=if items=[] then (S,0) else (vecS es al items S,(vecS es al items S).buf.length)
def QiK (q:BS->BS×List Nat) (S:BS):BS×Nat:=
 if (q S).2=[] then (S,0) else (QeV (q S).2 (q S).1,(QeV (q S).2 (q S).1).buf.length)
def Qb3 (xs:List UInt8) (S:BS):BS×Nat:=(createStr xs S,(createStr xs S).buf.length)
def Qhq (d:Option ZU) (S:BS):BS×Nat:=match d with|some d=>QcI d S|none=>(S,0)
def Qed (b:Bool) (S:BS):BS×Nat:=if b then QdK S else (S,0)
def Qbl (amb:Bool) (ty color:UInt8) (kid:BS->BS×Nat) (S:BS):BS×Nat:=
 if ty=0 then (S,0) else if amb=false/\ty=2 then QcS color S else kid S
def Qf0 (b:Bool):List UInt8:=[if b then 1 else 0]
def Qak (x:UInt64):List UInt8:=leB (x.toNat:Int) 8
def Qet (d:QaM) (tables:BS->BS×List Nat) (enemy test uniq amb:BS->BS×Nat):List (BS->BS×Nat):=
 [Qb3 d.name,optB d.inventory,Qbl false d.testTy d.testColor test,Qhf 4 2 (d.test4.map fun t=>Qao t.a.toNat t.b.toNat),QiK (Qy Qb3 d.strings),QiK tables,enemy,optB d.nested,Qhq d.empty,
  Qhf 1 1 (d.bools.map Qf0),QiK (Qy Qb3 d.strings2),Qhf 8 4 (d.abilities.map fun t=>Z4 t.id.toNat t.dist.toNat),optB d.flex,Qhf 4 2 (d.test5.map fun t=>Qao t.a.toNat t.b.toNat),
  Qhf 8 8 (d.longs.map Qak),Qhf 8 8 (d.doubles.map Qak),Qed d.parent,QiK (Qy QaW d.refs),Qhf 8 8 (d.weak.map Qak),QiK (Qy QaW d.strong),Qhf 8 8 (d.coOwnings.map Qak),Qhf 8 8 (d.nonOwnings.map Qak),
  Qbl false d.uniqTy d.uniqColor uniq,Qbl true d.ambTy d.ambColor amb,Qhf 1 1 (d.enums.map fun b=>[b])]
def slotPos (pos:Option Qa9) (S:BS):BS:=match pos with|some v=>slotStruct (place (Qff v) (prep 8 32 S)).buf.length 0 (place (Qff v) (prep 8 32 S))|none=>S
def slotTy (ty:UInt8) (o:Nat) (S:BS):BS:=if ty=0 then S else slotN 1 ty.toNat 0 o S
def slots (d:QaM) (o:List Nat):List (BS->BS):=
 [slotPos d.pos,slotN 2 d.mana.toNat 150 1,slotN 2 d.hp.toNat 100 2,slotOff (o.getD 0 0) 3,slotOff (o.getD 1 0) 5,slotN 1 d.color.toNat 8 6,slotTy d.testTy 7,slotOff (o.getD 2 0) 8,slotOff (o.getD 3 0) 9,slotOff (o.getD 4 0) 10,slotOff (o.getD 5 0) 11,
  slotOff (o.getD 6 0) 12,slotOff (o.getD 7 0) 13,slotOff (o.getD 8 0) 14,slotN 1 (if d.bool then 1 else 0) 0 15,slotN 4 d.s32.toNat 0 16,slotN 4 d.u32.toNat 0 17,slotN 8 d.s64.toNat 0 18,slotN 8 d.u64.toNat 0 19,
  slotN 4 d.s32a.toNat 0 20,slotN 4 d.u32a.toNat 0 21,slotN 8 d.s64a.toNat 0 22,slotN 8 d.u64a.toNat 0 23,slotOff (o.getD 9 0) 24,slotF d.f.toNat 1078530000 25,slotF d.f2.toNat 1077936128 26,slotF d.f3.toNat 0 27,
  slotOff (o.getD 10 0) 28,slotOff (o.getD 11 0) 29,slotOff (o.getD 12 0) 30,slotOff (o.getD 13 0) 31,slotOff (o.getD 14 0) 32,slotOff (o.getD 15 0) 33,slotOff (o.getD 16 0) 34,slotOff (o.getD 17 0) 35,slotN 8 d.singleWeak.toNat 0 36,
  slotOff (o.getD 18 0) 37,slotOff (o.getD 19 0) 38,slotN 8 d.coOwning.toNat 0 39,slotOff (o.getD 20 0) 40,slotN 8 d.nonOwning.toNat 0 41,slotOff (o.getD 21 0) 42,slotTy d.uniqTy 43,slotOff (o.getD 22 0) 44,slotTy d.ambTy 45,
  slotOff (o.getD 23 0) 46,slotOff (o.getD 24 0) 47,slotN 1 d.signedEnum.toNat 255 48]
def runS:List (BS->BS)->BS->BS
 |[],S=>S
 |f::fs,S=>runS fs (f S)
def packT (d:QaM) (tables:BS->BS×List Nat) (enemy test uniq amb:BS->BS×Nat) (S:BS):BS×Nat:=
 endT (runS (slots d (Qy (fun f=>f) (Qet d tables enemy test uniq amb) S).2) (Zc 49 (Qy (fun f=>f) (Qet d tables enemy test uniq amb) S).1))
def slotNF (fc k x d o:Nat) (S:BS):BS:=if x=d/\fc≠o then S else slot o (putN k (leB (x:Int) k) S)
def slotFF (fc x d o:Nat) (S:BS):BS:=if FloatKind.f32.format.order x d=some .eq/\fc≠o then S else slot o (putN 4 (leB (x:Int) 4) S)
def Qhi (fc:Nat) (d:QaM) (o:List Nat):List (BS->BS):=
 [slotPos d.pos,slotNF fc 2 d.mana.toNat 150 1,slotNF fc 2 d.hp.toNat 100 2,slotOff (o.getD 0 0) 3,slotOff (o.getD 1 0) 5,slotNF fc 1 d.color.toNat 8 6,slotTy d.testTy 7,slotOff (o.getD 2 0) 8,slotOff (o.getD 3 0) 9,slotOff (o.getD 4 0) 10,slotOff (o.getD 5 0) 11,
  slotOff (o.getD 6 0) 12,slotOff (o.getD 7 0) 13,slotOff (o.getD 8 0) 14,slotNF fc 1 (if d.bool then 1 else 0) 0 15,slotNF fc 4 d.s32.toNat 0 16,slotNF fc 4 d.u32.toNat 0 17,slotNF fc 8 d.s64.toNat 0 18,slotNF fc 8 d.u64.toNat 0 19,
  slotNF fc 4 d.s32a.toNat 0 20,slotNF fc 4 d.u32a.toNat 0 21,slotNF fc 8 d.s64a.toNat 0 22,slotNF fc 8 d.u64a.toNat 0 23,slotOff (o.getD 9 0) 24,slotFF fc d.f.toNat 1078530000 25,slotFF fc d.f2.toNat 1077936128 26,slotFF fc d.f3.toNat 0 27,
  slotOff (o.getD 10 0) 28,slotOff (o.getD 11 0) 29,slotOff (o.getD 12 0) 30,slotOff (o.getD 13 0) 31,slotOff (o.getD 14 0) 32,slotOff (o.getD 15 0) 33,slotOff (o.getD 16 0) 34,slotOff (o.getD 17 0) 35,slotNF fc 8 d.singleWeak.toNat 0 36,
  slotOff (o.getD 18 0) 37,slotOff (o.getD 19 0) 38,slotNF fc 8 d.coOwning.toNat 0 39,slotOff (o.getD 20 0) 40,slotNF fc 8 d.nonOwning.toNat 0 41,slotOff (o.getD 21 0) 42,slotTy d.uniqTy 43,slotOff (o.getD 22 0) 44,slotTy d.ambTy 45,
  slotOff (o.getD 23 0) 46,slotOff (o.getD 24 0) 47,slotNF fc 1 d.signedEnum.toNat 255 48]
theorem slotNF_ne {fc k x d o:Nat} (h:fc≠o):slotNF fc k x d o=slotN k x d o:=by
 funext S
 unfold slotNF slotN
 simp only[h,and_true,ne_eq,not_false_eq_true]
theorem slotFF_ne {fc x d o:Nat} (h:fc≠o):slotFF fc x d o=slotF x d o:=by
 funext S
 unfold slotFF slotF
 by_cases h2:FloatKind.f32.format.order x d=some .eq
 ·rw[if_pos ⟨h2,h⟩,if_neg (by rw[h2];decide)]
 ·rw[if_neg (fun g=>h2 g.1),if_pos (by simpa using h2)]
theorem slotsF_49 (d:QaM) (o:List Nat):Qhi 49 d o=slots d o:=by
 unfold Qhi slots
 simp (decide:=true) only[slotNF_ne,slotFF_ne]
def packTF (fc:Nat) (d:QaM) (tables:BS->BS×List Nat) (enemy test uniq amb:BS->BS×Nat) (S:BS):BS×Nat:=
 endT (runS (Qhi fc d (Qy (fun f=>f) (Qet d tables enemy test uniq amb) S).2) (Zc 49 (Qy (fun f=>f) (Qet d tables enemy test uniq amb) S).1))
theorem packTF_49:packTF 49=packT:=by
 funext d t e u q a S
 unfold packTF packT
 rw[slotsF_49]
mutual
def Zv:Mon->BS->BS×Nat
 |.mk d tables enemy test uniq amb,S=>packT d (Qcq tables) (Y9 enemy) (Y9 test) (Y9 uniq) (Y9 amb) S
def Qcq:List Mon->BS->BS×List Nat
 |[],S=>(S,[])
 |m::ms,S=>((Qcq ms (Zv m S).1).1,(Zv m S).2::(Qcq ms (Zv m S).1).2)
def Y9:List Mon->BS->BS×Nat
 |[],S=>(S,0)
 |m::_,S=>Zv m S
end
theorem QfA:∀(ms:List Mon) (S:BS),Qcq ms S=Qy Zv ms S
 |[],S=>by rw[Qcq,Qy]
 |m::ms,S=>by rw[Qcq,Qy,QfA ms]
def Z7 (m:Mon):List UInt8:=(Qgm (Zv m Qcc).2 (Zv m Qcc).1).buf
end Go.Proofs
namespace Go.Proofs
open Go Go.Vc
open Tryz (prog)
abbrev u8n (x:UInt8):Value:=.int .u8 (x.toNat:Int)
def Qer {α:Type} (F:Cut) (v:Value) (l:List α) (cells:α->Array Value):Prop:=
 ∃ptrs:List Value,Qas F v ptrs/\ptrs.length=l.length/\∀(i:Nat) p t,ptrs[i]?=some p->l[i]?=some t->ZS F p (cells t)
def testC (t:QbB):Array Value:=#[Qdn t.a,i8V t.b]
def abilC (t:QgK):Array Value:=#[Qaw t.id,Qaw t.dist]
def refC (x:UInt64):Array Value:=#[QO x]
def statC (d:ZU):Array Value:=#[QW d.id,QfW d.val,u16V d.count]
def Vec3At (F:Cut) (v:Value) (d:Qa9):Prop:=∃w,ZS F v #[Qgb d.x,Qgb d.y,Qgb d.z,f64V d.t1,u8n d.t2,w]/\ZS F w #[Qdn d.a,i8V d.b]
def OptAt {α:Type} (v:Value) (o:Option α) (at_:α->Prop):Prop:=match o with|none=>v= .pointer none|some x=>at_ x
def QcP (F:Cut) (amb:Bool) (ty color:UInt8) (v c:Value) (kids:List Mon):Prop:=
 (ty=0/\v= .pointer none/\kids=[])\/
 (ty≠0/\∃w,ZS F v #[u8n ty,w]/\
  ((amb=false/\ty=2/\w= .iface 261 c/\ZS F c #[u8n color]/\kids=[])\/
   ((ty=1\/(amb=true/\(ty=2\/ty=3)))/\w= .iface 75 c/\∃k,kids=[k])))
structure MTV where
 pos:Value
 inv:Value
 test:Value
 test4:Value
 strings:Value
 tables:Value
 enemy:Value
 nested:Value
 empty:Value
 bools:Value
 strings2:Value
 abil:Value
 flex:Value
 test5:Value
 longs:Value
 doubles:Value
 parent:Value
 refs:Value
 weak:Value
 strong:Value
 coOwnings:Value
 nonOwnings:Value
 uniq:Value
 amb:Value
 enums:Value
 testC:Value
 uniqC:Value
 ambC:Value
def mtCells (d:QaM) (v:MTV):Array Value:=
 #[v.pos,Qdn d.mana,Qdn d.hp,QW d.name,v.inv,u8n d.color,v.test,v.test4,v.strings,v.tables,v.enemy,v.nested,v.empty,.bool d.bool,
  Qji d.s32,Qaw d.u32,QfW d.s64,QO d.u64,Qji d.s32a,Qaw d.u32a,QfW d.s64a,QO d.u64a,v.bools,Qgb d.f,Qgb d.f2,Qgb d.f3,v.strings2,v.abil,v.flex,v.test5,
  v.longs,v.doubles,v.parent,v.refs,QO d.singleWeak,v.weak,v.strong,QO d.coOwning,v.coOwnings,QO d.nonOwning,v.nonOwnings,v.uniq,v.amb,v.enums,i8V d.signedEnum]
structure MTD (F:Cut) (d:QaM) (v:MTV) (enemy test uniq amb:List Mon):Prop where
 pos:OptAt v.pos d.pos (Vec3At F v.pos)
 inv:Qas F v.inv (d.inventory.map u8V)
 test:QcP F false d.testTy d.testColor v.test v.testC test
 test4:Qer F v.test4 d.test4 testC
 strings:Qas F v.strings (d.strings.map QW)
 enemy:(enemy=[]/\v.enemy= .pointer none)\/∃k,enemy=[k]
 nested:Qas F v.nested (d.nested.map u8V)
 empty:OptAt v.empty d.empty (fun s=>ZS F v.empty (statC s))
 bools:Qas F v.bools (d.bools.map Value.bool)
 strings2:Qas F v.strings2 (d.strings2.map QW)
 abil:Qer F v.abil d.abilities abilC
 flex:Qas F v.flex (d.flex.map u8V)
 test5:Qer F v.test5 d.test5 testC
 longs:Qas F v.longs (d.longs.map QfW)
 doubles:Qas F v.doubles (d.doubles.map f64V)
 parent:(d.parent=false/\v.parent= .pointer none)\/(d.parent=true/\∃a,v.parent= .pointer (some a))
 refs:Qer F v.refs d.refs refC
 weak:Qas F v.weak (d.weak.map QO)
 strong:Qer F v.strong d.strong refC
 coOwnings:Qas F v.coOwnings (d.coOwnings.map QO)
 nonOwnings:Qas F v.nonOwnings (d.nonOwnings.map QO)
 uniq:QcP F false d.uniqTy d.uniqColor v.uniq v.uniqC uniq
 amb:QcP F true d.ambTy d.ambColor v.amb v.ambC amb
 enums:Qas F v.enums (d.enums.map u8V)
inductive MT (F:Cut):Value->Mon->Prop where
 |mk (v:Value) (d:QaM) (c:MTV) (ptrs:List Value) (tables enemy test uniq amb:List Mon) (obj:ZS F v (mtCells d c)) (own:MTD F d c enemy test uniq amb)
   (tl:Qas F c.tables ptrs) (tlen:ptrs.length=tables.length) (tt:∀(i:Nat) p m,ptrs[i]?=some p->tables[i]?=some m->MT F p m)
   (te:∀k,k∈enemy->MT F c.enemy k) (tu:∀k,k∈test->MT F c.testC k) (tq:∀k,k∈uniq->MT F c.uniqC k) (ta:∀k,k∈amb->MT F c.ambC k):MT F v (.mk d tables enemy test uniq amb)
def Qik:Option ZU->Nat
 |some s=>s.id.length
 |none=>0
def QiL (d:QaM):Nat:=
 d.name.length+d.inventory.length+d.nested.length+d.flex.length+d.enums.length+(d.strings.map List.length).sum+(d.strings2.map List.length).sum+Qik d.empty+
 60*(d.test4.length+d.strings.length+d.bools.length+d.strings2.length+d.abilities.length+d.test5.length+d.longs.length+d.doubles.length+d.refs.length+d.weak.length+d.strong.length+d.coOwnings.length+d.nonOwnings.length)+8000
mutual
def Qa1:Mon->Nat
 |.mk d tables enemy test uniq amb=>QiL d+60*tables.length+Z6 tables+Z6 enemy+Z6 test+Z6 uniq+Z6 amb
def Z6:List Mon->Nat
 |[]=>0
 |m::ms=>Qa1 m+Z6 ms
end
end Go.Proofs
namespace Go.Proofs
open Go Go.Vc
open Tryz (prog)
def VecBlock (q fld start endv f:Nat) (tsl:TypeId) (args:Value->Array Value) (x1:Value) (h4:Qe) (rest:Kn):Prop:=
 QA (fun M2=>
  Q1 (.pointer (some ⟨q,0,none⟩)) fun x97=>Qf x97 fld fun x98=>LdK h4 x98 fun x99=>
  Qj prog .neq tsl x99 (.slice none 0 0) fun x100=>
  IfK x100
  (Q1 (.pointer (some ⟨q,0,none⟩)) fun x102=>Qf x102 fld fun x103=>LdK h4 x103 fun x104=>
   Y1 x104 fun x105=>
   Qa prog start #[x1,x105] h4 fun _x108 h5=>
   QA (fun M3=>
    Qj prog .sub 3 x105 (.int .i64 1) fun x110=>
    Yu [x110] h5 fun I4 n5=>∀x10:Value,∀h6:Qe,I4 n5 [x10] h6->
    Qj prog .geq 3 x10 (.int .i64 0) fun x112=>
    IfK x112
    (Q1 (.pointer (some ⟨q,0,none⟩)) fun x116=>Qf x116 fld fun x117=>LdK h6 x117 fun x118=>
     Y2 1 x118 x10 fun x120=>LdK h6 x120 fun x121=>
     Qa prog f (args x121) h6 fun _x123 h7=>
     Qj prog .sub 3 x10 (.int .i64 1) fun x114=>
     QQ I4 n5 [x114] h7)
    (M3 [x10] h6)) fun M3=>∀x10_1:Value,∀h8:Qe,M3 [x10_1] h8->
   Qa prog endv #[x1,x105] h8 fun x126 h9=>M2 [x126] h9)
  (M2 [(.int .u32 0)] h4)) fun M2=>∀x8:Value,∀h10:Qe,M2 [x8] h10->rest x8 h10
theorem flatten_drop {items:List (List UInt8)} {i:Nat} (hi:i<items.length):(items.drop i).flatten=items[i]++(items.drop (i+1)).flatten:=by
 rw[List.drop_eq_getElem_cons hi,List.flatten_cons]
set_option maxHeartbeats 1000000 in
theorem Qda {H:Qe} {p:Nat} {S:BS} {F:Cut} {r:Nat} (hB:Qc H p S F r) {q fld start f:Nat} {tsl e0:TypeId} {args:Value->Array Value} {v0:Value} {cells:Array Value} {vs:List Value} {es al k:Nat}
  {items:List (List UInt8)} {rest:Kn} (ht:(prog).underlying tsl=some (.slice e0)) (hq:ZS F (.pointer (some ⟨q,0,none⟩)) cells) (hf:cells[fld]?=some v0) (hv:Qas F v0 vs) (hvi:vs.length=items.length)
  (hi:∀x∈items,x.length=es) (hI:Inv S) (hal:al=2^k) (hk:k<=3) (hn:items.length<536870912) (hl:S.buf.length+es*items.length+80<=536870912)
  (hstart:∀H,Qc H p S F 0->∀R:Kn,(∀H' v,Qc H' p (QK es items.length al S) F (es*items.length+5)->R v H')->FnS prog start #[.pointer (some ⟨p,0,none⟩),.int .i64 (items.length:Nat)] H R)
  (hstep:∀(i:Nat) (hi1:i<vs.length) (hi2:i<items.length) (S':BS) (H':Qe) (r':Nat),Qc H' p S' F r'->es<=r'->(S'.buf.length+es*(i+1))%al=0->4<=S'.min->al<=S'.min->S'.buf.length+64<=536870912->
   ∀R:Kn,(∀H'' w,Qc H'' p (place (items[i]'hi2) S') F (r'-es)->R w H'')->FnS prog f (args (vs[i]'hi1)) H' R)
  (hrest:∀H',Qc H' p (Qhf es al items S).1 F 0->rest (.int .u32 ((Qhf es al items S).2:Nat)) H'):
  VecBlock q fld start 79 f tsl args (.pointer (some ⟨p,0,none⟩)) H rest:=by
 have hfl:=Qau items hi
 have hemp:(vs=[])↔(items=[]):=by
  rw[<-List.length_eq_zero_iff,<-List.length_eq_zero_iff,hvi]
 unfold VecBlock
 refine Q2 (fun ws h=>ws=[.int .u32 ((Qhf es al items S).2:Nat)]/\Qc h p (Qhf es al items S).1 F 0) ?_ ?_
 ·refine hq.ld hB.cut (i:=fld) v0 hf ?_
  rw[hv.neq ht]
  by_cases h0:items=[]
  ·have hvn:¬vs≠[]:=fun h=>h (hemp.2 h0)
   rw[Yb hvn]
   unfold Qhf
   rw[if_pos h0]
   exact ⟨rfl,hB.room (Nat.zero_le _)⟩
  ·have hvn:vs≠[]:=fun h=>h0 (hemp.1 h)
   rw[Yj hvn]
   refine hq.ld hB.cut (i:=fld) v0 hf ?_
   rw[hv.1.len,hvi]
   refine hstart H (hB.room (Nat.zero_le _)) _ ?_
   intro H1 w h1
   have hm:=Qgd es items.length al S
   have ha:=QeO (es:=es) (n:=items.length) S hal
   obtain ⟨x,hx,hxl⟩:=Qdi es items.length al S (by rw[hal];exact Nat.two_pow_pos k)
   have hal8:al<=8:=by rw[hal];exact Nat.pow_le_pow_right (by decide) hk
   have hS1l:(QK es items.length al S).buf.length<=S.buf.length+11:=by rw[hx,List.length_append];omega
   have hS1n:(QK es items.length al S).nested=true:=rfl
   have hopt:Qhf es al items S=(Qj7 items.length (place items.flatten (QK es items.length al S)),(Qj7 items.length (place items.flatten (QK es items.length al S))).buf.length):=by
    unfold Qhf vecS;rw[if_neg h0]
   rw[hopt]
   generalize QK es items.length al S=S1 at *
   refine Q2 (fun _ h=>Qc h p (place items.flatten S1) F 5) ?_ ?_
   ·rw[Yg,wrap_i64 (by omega) (by omega)]
    refine ⟨fun m ws h=>∃i:Nat,ws=[.int .i64 ((i:Int)-1)]/\i<=items.length/\m=i/\Qc h p (place (items.drop i).flatten S1) F (es*i+5),⟨_,items.length,rfl,Nat.le_refl _,rfl,?_⟩,fun m=>?_⟩
    ·rw[List.drop_length];exact h1
    ·rintro x10 h6 ⟨i,hx,hi',rfl,hb⟩
     cases hx
     rw[QfK]
     apply Z0
     ·intro hge
      have hm1:m-1<items.length:=by omega
      have hm2:m-1+1=m:=by omega
      refine hq.ld hb.cut (i:=fld) v0 hf ?_
      refine hv.1.item hb.cut (i:=m-1) (by omega) (by omega) ?_
      have hdl:(items.drop m).flatten.length=es*(items.length-m):=by
       rw[Qau (items.drop m) (fun y hy=>hi y (List.mem_of_mem_drop hy)),List.length_drop]
      have hsum:es*(items.length-m)+es*m=es*items.length:=by rw[<-Nat.mul_add,show items.length-m+m=items.length by omega]
      have hmul:es*m=es*(m-1)+es:=by
       obtain ⟨m',rfl⟩:∃m',m=m'+1:=⟨m-1,by omega⟩
       simp[Nat.mul_add]
      refine hstep (m-1) (by omega) hm1 _ h6 _ hb (by omega) ?_ ?_ ?_ ?_ _ ?_
      ·rw[YC,hdl,hm2,show es*(items.length-m)+S1.buf.length+es*m=S1.buf.length+es*items.length by omega]
       exact ha
      ·exact hm.1
      ·exact hm.2
      ·rw[YC,hdl]
       have:es*(items.length-m)<=es*items.length:=by omega
       omega
      ·intro h7 w7 hb7
       rw[Yg,wrap_i64 (by omega) (by omega)]
       refine ⟨m-1,by omega,m-1,by rw[show ((m:Int)-1-1)=(((m-1:Nat):Int)-1) by omega],by omega,rfl,?_⟩
       rw[Zg]at hb7
       rw[flatten_drop hm1,hm2]
       exact hb7.room (by omega)
     ·intro hge
      have hm0:m=0:=by omega
      subst hm0
      exact hb
   ·intro x10 h8 hb8
    refine Qa7 hb8 hS1n (by decide) (by omega) ?_
    intro h9 hb9
    exact ⟨rfl,hb9.room (by decide)⟩
 ·rintro x8 h10 ⟨hx,hb⟩
  cases hx
  exact hrest h10 hb
end Go.Proofs
