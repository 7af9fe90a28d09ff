/- WHAT IS PROVED: the given statement of FnMonsterAgain, whatever the input: this is part 5 of 13. No conditions. -/
import Derived.Test.YtjfnlghdpijgeaaGreatX04
set_option linter.all false
namespace Go.Proofs
open Go Go.Vc
open Tryz (prog)
theorem wrap_inj {κ:IntKind} {x y:Nat} (hx:x<2^κ.bits) (hy:y<2^κ.bits) (h:κ.wrap (x:Int)=κ.wrap (y:Int)):x=y:=by
 have h1:=Qdp κ x
 have h2:=Qdp κ y
 rw[h]at h1
 have h3:=h1.symm.trans h2
 have e:(2^κ.bits:Int)=((2^κ.bits:Nat):Int):=by rw[Int.natCast_pow];rfl
 rw[e,<-Int.natCast_emod,<-Int.natCast_emod,Nat.mod_eq_of_lt hx,Nat.mod_eq_of_lt hy]at h3
 omega
theorem QdL {κ:IntKind} {x:Int} {k:Nat} (hk:8*k<=κ.bits):leB (κ.wrap x) k=leB x k:=by
 unfold leB
 apply List.map_congr_left
 intro i hi
 have hi':=List.mem_range.1 hi
 unfold Zo
 congr 2
 have h1:=Qdp κ x
 have e:∀z:Int,(z/2^(8*i))%256=((z%(2^κ.bits:Int))/2^(8*i))%256:=by
  intro z
  obtain ⟨m,hm⟩:∃m,κ.bits=8*i+8+m:=⟨κ.bits-(8*i+8),by omega⟩
  have hz:=Int.emod_add_mul_ediv z (2^κ.bits)
  have hpos:(0:Int)<2^(8*i):=Int.pow_pos (by decide)
  have hp:(2^κ.bits:Int)=2^(8*i)*(256*2^m):=by
   rw[hm,Int.pow_add,Int.pow_add,Int.mul_assoc];rfl
  rw[hp]at hz⊢
  have h3:z/2^(8*i)=z%(2^(8*i)*(256*2^m))/2^(8*i)+256*2^m*(z/(2^(8*i)*(256*2^m))):=by
   have h4:z=z%(2^(8*i)*(256*2^m))+2^(8*i)*(256*2^m*(z/(2^(8*i)*(256*2^m)))):=by
    have h0:=hz.symm
    rw[Int.mul_assoc (2^(8*i)) (256*2^m) _]at h0
    exact h0
   have h5:=Int.add_mul_ediv_left (z%(2^(8*i)*(256*2^m))) (256*2^m*(z/(2^(8*i)*(256*2^m)))) (Int.ne_of_gt hpos)
   rw[<-h5,<-h4]
  rw[h3,Int.mul_assoc,Int.add_mul_emod_self_left]
 rw[e (κ.wrap x),e x,h1]
def slotN (k x d o:Nat) (S:BS):BS:=if x=d then S else slot o (putN k (leB (x:Int) k) S)
def slotF (x d o:Nat) (S:BS):BS:=if (FloatKind.f32.format.order x d !=some .eq)=true then slot o (putN 4 (leB (x:Int) 4) S) else S
def slotOff (off o:Nat) (S:BS):BS:=if off=0 then S else slot o (putOff off S)
def slotStruct (off o:Nat) (S:BS):BS:=if off=0 then S else slot o S
theorem BinK_fne {P:Program} {t:TypeId} {q:FloatKind} {a b:Nat} {k:Value->Prop}:Qr P .neq t (.float q a) (.float q b) k=k (.bool (q.format.order a b !=some .eq)):=
 Qdh (by simp) (by simp) fun w=>by rw[binOp_float_cmp_neq];rfl
section
variable {H:Qe} {p:Nat} {S:BS} {F:Cut} {r:Nat} (hB:Qc H p S F r) {R:Kn}
include hB
theorem QfP {x:Nat} (hx:x<256) (hl:S.buf.length+16<=536870912) (hR:∀H',Qc H' p (putN 1 (leB (x:Int) 1) S) F 0->R (.tuple #[]) H'):FnS prog 115 #[.pointer (some ⟨p,0,none⟩),.int .u8 (x:Int)] H R:=by
 have e1:((UInt8.ofNat x).toNat:Int)=(x:Int):=by rw[UInt8.toNat_ofNat_of_lt' hx]
 have e2:leB (x:Int) 1=[UInt8.ofNat x]:=by
  rw[leB_1]
  unfold Zo
  congr 2
  simp;omega
 rw[<-e1]
 rw[e2]at hR
 exact QcZ hB hl (fun H' h=>hR H' (h.room (Nat.zero_le _)))
theorem Qbs {x d o:Nat} (hx:x<65536) (hd:d<65536) (ho:o<S.vt.length) (hl:S.buf.length+16<=536870912) (hR:∀H',Qc H' p (slotN 2 x d o S) F 0->R (.tuple #[]) H'):
  FnS prog 287 #[.pointer (some ⟨p,0,none⟩),.int .i64 (o:Nat),.int .i16 (IntKind.i16.wrap (x:Int)),.int .i16 (IntKind.i16.wrap (d:Int))] H R:=by
 apply w287
 unfold Qfj
 rw[Yo]
 unfold slotN at hR
 by_cases h:x=d
 ·subst h
  rw[QK (by simp)]
  rw[if_pos rfl]at hR
  exact hR H (hB.room (Nat.zero_le _))
 ·rw[QY]
  ·rw[if_neg h]at hR
   refine QcD hB hl ?_
   intro H1 h1
   rw[QdL (by decide)]at h1
   refine YK h1 ho ?_
   intro H2 h2
   exact hR H2 (h2.room (Nat.zero_le _))
  ·intro hh
   exact h (wrap_inj (κ:=.i16) hx hd hh)
theorem Qeq {x d o:Nat} (hx:x<256) (hd:d<256) (ho:o<S.vt.length) (hl:S.buf.length+16<=536870912) (hR:∀H',Qc H' p (slotN 1 x d o S) F 0->R (.tuple #[]) H'):
  FnS prog 296 #[.pointer (some ⟨p,0,none⟩),.int .i64 (o:Nat),.int .i8 (IntKind.i8.wrap (x:Int)),.int .i8 (IntKind.i8.wrap (d:Int))] H R:=by
 apply w296
 unfold Qfj
 rw[Yo]
 unfold slotN at hR
 by_cases h:x=d
 ·subst h
  rw[QK (by simp)]
  rw[if_pos rfl]at hR
  exact hR H (hB.room (Nat.zero_le _))
 ·rw[QY]
  ·rw[if_neg h]at hR
   refine Qd0 hB hl ?_
   intro H1 h1
   rw[QdL (by decide)]at h1
   refine YK h1 ho ?_
   intro H2 h2
   exact hR H2 (h2.room (Nat.zero_le _))
  ·intro hh
   exact h (wrap_inj (κ:=.i8) hx hd hh)
theorem Qbw {x d o:Nat} (hx:x<4294967296) (hd:d<4294967296) (ho:o<S.vt.length) (hl:S.buf.length+16<=536870912) (hR:∀H',Qc H' p (slotN 4 x d o S) F 0->R (.tuple #[]) H'):
  FnS prog 291 #[.pointer (some ⟨p,0,none⟩),.int .i64 (o:Nat),.int .i32 (IntKind.i32.wrap (x:Int)),.int .i32 (IntKind.i32.wrap (d:Int))] H R:=by
 apply w291
 unfold Qfj
 rw[Yo]
 unfold slotN at hR
 by_cases h:x=d
 ·subst h
  rw[QK (by simp)]
  rw[if_pos rfl]at hR
  exact hR H (hB.room (Nat.zero_le _))
 ·rw[QY]
  ·rw[if_neg h]at hR
   refine Qfw hB hl ?_
   intro H1 h1
   rw[QdL (by decide)]at h1
   refine YK h1 ho ?_
   intro H2 h2
   exact hR H2 (h2.room (Nat.zero_le _))
  ·intro hh
   exact h (wrap_inj (κ:=.i32) hx hd hh)
theorem ZX {x d o:Nat} (hx:x<18446744073709551616) (hd:d<18446744073709551616) (ho:o<S.vt.length) (hl:S.buf.length+16<=536870912) (hR:∀H',Qc H' p (slotN 8 x d o S) F 0->R (.tuple #[]) H'):
  FnS prog 293 #[.pointer (some ⟨p,0,none⟩),.int .i64 (o:Nat),.int .i64 (IntKind.i64.wrap (x:Int)),.int .i64 (IntKind.i64.wrap (d:Int))] H R:=by
 apply w293
 unfold Qfj
 rw[Yo]
 unfold slotN at hR
 by_cases h:x=d
 ·subst h
  rw[QK (by simp)]
  rw[if_pos rfl]at hR
  exact hR H (hB.room (Nat.zero_le _))
 ·rw[QY]
  ·rw[if_neg h]at hR
   refine Qcx hB hl ?_
   intro H1 h1
   rw[QdL (by decide)]at h1
   refine YK h1 ho ?_
   intro H2 h2
   exact hR H2 (h2.room (Nat.zero_le _))
  ·intro hh
   exact h (wrap_inj (κ:=.i64) hx hd hh)
theorem Qb8 {x d o:Nat} (hx:x<4294967296) (hd:d<4294967296) (ho:o<S.vt.length) (hl:S.buf.length+16<=536870912) (hR:∀H',Qc H' p (slotN 4 x d o S) F 0->R (.tuple #[]) H'):
  FnS prog 292 #[.pointer (some ⟨p,0,none⟩),.int .i64 (o:Nat),.int .u32 (x:Int),.int .u32 (d:Int)] H R:=by
 apply w292
 unfold Qfj
 rw[Yo]
 unfold slotN at hR
 by_cases h:x=d
 ·subst h
  rw[QK (by simp)]
  rw[if_pos rfl]at hR
  exact hR H (hB.room (Nat.zero_le _))
 ·rw[QY]
  ·rw[if_neg h]at hR
   refine Qcn hB hl ?_
   intro H1 h1
   skip
   refine YK h1 ho ?_
   intro H2 h2
   exact hR H2 (h2.room (Nat.zero_le _))
  ·intro hh
   omega
theorem Yv {x d o:Nat} (hx:x<18446744073709551616) (hd:d<18446744073709551616) (ho:o<S.vt.length) (hl:S.buf.length+16<=536870912) (hR:∀H',Qc H' p (slotN 8 x d o S) F 0->R (.tuple #[]) H'):
  FnS prog 294 #[.pointer (some ⟨p,0,none⟩),.int .i64 (o:Nat),.int .u64 (x:Int),.int .u64 (d:Int)] H R:=by
 apply w294
 unfold Qfj
 rw[Yo]
 unfold slotN at hR
 by_cases h:x=d
 ·subst h
  rw[QK (by simp)]
  rw[if_pos rfl]at hR
  exact hR H (hB.room (Nat.zero_le _))
 ·rw[QY]
  ·rw[if_neg h]at hR
   refine Qck hB hl ?_
   intro H1 h1
   skip
   refine YK h1 ho ?_
   intro H2 h2
   exact hR H2 (h2.room (Nat.zero_le _))
  ·intro hh
   omega
theorem QdN {x d o:Nat} (hx:x<65536) (hd:d<65536) (ho:o<S.vt.length) (hl:S.buf.length+16<=536870912) (hR:∀H',Qc H' p (slotN 2 x d o S) F 0->R (.tuple #[]) H'):
  FnS prog 346 #[.pointer (some ⟨p,0,none⟩),.int .i64 (o:Nat),.int .u16 (x:Int),.int .u16 (d:Int)] H R:=by
 apply w346
 unfold Qfj
 rw[Yo]
 unfold slotN at hR
 by_cases h:x=d
 ·subst h
  rw[QK (by simp)]
  rw[if_pos rfl]at hR
  exact hR H (hB.room (Nat.zero_le _))
 ·rw[QY]
  ·rw[if_neg h]at hR
   refine Qfk hB hl ?_
   intro H1 h1
   skip
   refine YK h1 ho ?_
   intro H2 h2
   exact hR H2 (h2.room (Nat.zero_le _))
  ·intro hh
   omega
theorem Y5 {x d o:Nat} (hx:x<256) (hd:d<256) (ho:o<S.vt.length) (hl:S.buf.length+16<=536870912) (hR:∀H',Qc H' p (slotN 1 x d o S) F 0->R (.tuple #[]) H'):
  FnS prog 289 #[.pointer (some ⟨p,0,none⟩),.int .i64 (o:Nat),.int .u8 (x:Int),.int .u8 (d:Int)] H R:=by
 apply w289
 unfold Qfj
 rw[Yo]
 unfold slotN at hR
 by_cases h:x=d
 ·subst h
  rw[QK (by simp)]
  rw[if_pos rfl]at hR
  exact hR H (hB.room (Nat.zero_le _))
 ·rw[QY (by omega)]
  rw[if_neg h]at hR
  refine QfP hB hx hl ?_
  intro H1 h1
  refine YK h1 ho ?_
  intro H2 h2
  exact hR H2 (h2.room (Nat.zero_le _))
theorem Qek {x:Bool} {o:Nat} (ho:o<S.vt.length) (hl:S.buf.length+16<=536870912) (hR:∀H',Qc H' p (slotN 1 (if x then 1 else 0) 0 o S) F 0->R (.tuple #[]) H'):
  FnS prog 290 #[.pointer (some ⟨p,0,none⟩),.int .i64 (o:Nat),.bool x,.bool false] H R:=by
 apply w290
 unfold s290
 refine Q8 (fun vs h=>vs=[.int .u8 ((if x then 1 else 0:Nat):Int)]/\h=H) ?_ ?_
 ·cases x
  ·exact ⟨rfl,rfl⟩
  ·exact ⟨rfl,rfl⟩
 ·rintro v h ⟨hv,rfl⟩
  cases hv
  refine Q8 (fun vs h'=>vs=[.int .u8 ((0:Nat):Int)]/\h'=h) ?_ ?_
  ·exact ⟨rfl,rfl⟩
  ·rintro v h' ⟨hv,rfl⟩
   cases hv
   refine Y5 hB (by split<;>decide) (by decide) ho hl ?_
   intro H1 h1
   exact hR H1 h1
theorem ZF {x d o:Nat} (ho:o<S.vt.length) (hl:S.buf.length+16<=536870912) (hR:∀H',Qc H' p (slotF x d o S) F 0->R (.tuple #[]) H'):
  FnS prog 295 #[.pointer (some ⟨p,0,none⟩),.int .i64 (o:Nat),.float .f32 x,.float .f32 d] H R:=by
 apply w295
 unfold Qfj
 rw[BinK_fne]
 unfold slotF at hR
 apply Qa1
 ·intro h
  rw[if_pos h]at hR
  refine QbR hB hl ?_
  intro H1 h1
  refine YK h1 ho ?_
  intro H2 h2
  exact hR H2 (h2.room (Nat.zero_le _))
 ·intro h
  rw[if_neg (by rw[h];decide)]at hR
  exact hR H (hB.room (Nat.zero_le _))
theorem Qm {off o:Nat} (hoff:off<=S.buf.length) (ho:o<S.vt.length) (hl:S.buf.length+16<=536870912) (hR:∀H',Qc H' p (slotOff off o S) F 0->R (.tuple #[]) H'):
  FnS prog 288 #[.pointer (some ⟨p,0,none⟩),.int .i64 (o:Nat),.int .u32 (off:Int),.int .u32 0] H R:=by
 apply w288
 unfold Qfj
 rw[Yo]
 unfold slotOff at hR
 by_cases h:off=0
 ·subst h
  rw[QK (by simp)]
  rw[if_pos rfl]at hR
  exact hR H (hB.room (Nat.zero_le _))
 ·rw[QY (by omega)]
  rw[if_neg h]at hR
  refine Qa5 hB hl hoff ?_
  intro H1 h1
  refine YK h1 ho ?_
  intro H2 h2
  exact hR H2 (h2.room (Nat.zero_le _))
theorem QdK {off o:Nat} (hn:S.nested=true) (hoff:off=0\/off=S.buf.length) (ho:o<S.vt.length) (hR:∀H',Qc H' p (slotStruct off o S) F 0->R (.tuple #[]) H'):
  FnS prog 286 #[.pointer (some ⟨p,0,none⟩),.int .i64 (o:Nat),.int .u32 (off:Int),.int .u32 0] H R:=by
 apply w286
 unfold s286
 rw[Yo]
 unfold slotStruct at hR
 by_cases h:off=0
 ·subst h
  rw[QK (by simp)]
  rw[if_pos rfl]at hR
  exact hR H (hB.room (Nat.zero_le _))
 ·rw[QY (by omega)]
  rw[if_neg h]at hR
  have ho2:off=S.buf.length:=by omega
  refine QaL hB hn ?_
  refine Q8 (fun _ h=>h=H) ?_ ?_
  ·refine Yc hB ?_
   rw[Yo,QK (by omega)]
  ·rintro h2 rfl
   refine YK hB ho ?_
   intro H2 h2
   exact hR H2 (h2.room (Nat.zero_le _))
def finish (off:Nat) (S:BS):BS:={putOff off (prep S.min 4 S) with fin:=true}
theorem Qis {off k:Nat} (hn:S.nested=false) (hm:S.min=2^k) (hk:k<=3) (ho:off<=S.buf.length) (hl:S.buf.length+64<=536870912) (hR:∀H',Qc H' p (finish off S) F 0->R (.tuple #[]) H'):
  FnS prog 19 #[.pointer (some ⟨p,0,none⟩),.int .u32 (off:Int)] H R:=by
 have hB':=hB
 obtain ⟨hd,h1,⟨B,V,T,L,len,vtv,vtsv,e,eB,hr,h2,h3⟩⟩:=hB'
 apply w19
 unfold s19
 refine YP hB hn ?_
 simp only[↓Qt,↓Qu,↓Ql (ld_min hr)]
 refine QV (size:=S.min) (add:=4) (k:=k) hB hm hk rfl (by omega) ?_
 intro H1 g1
 have hpl:padOf S.min (S.buf.length+4)<8+1:=by
  have:padOf S.min (S.buf.length+4)<S.min:=Zw (by rw[hm];exact Nat.two_pow_pos k)
  have:S.min<=8:=by rw[hm];exact Nat.pow_le_pow_right (by decide) hk
  omega
 refine Qa5 g1 (by rw[Qar];omega) (by rw[Qar];omega) ?_
 intro H2 g2
 refine st_fin_at g2 ?_
 intro H3 g3
 exact hR H3 (g3.room (Nat.zero_le _))
theorem Qfi (hf:S.fin=true) (h0:0<S.buf.length) (hR:∀B hd c,S.buf.length<=c->U8s H B hd S.buf->R (bsl B hd S.buf.length c) H):
  FnS prog 22 #[.pointer (some ⟨p,0,none⟩)] H R:=by
 have hB':=hB
 obtain ⟨hd,h1,⟨B,V,T,L,len,vtv,vtsv,e,eB,hr,h2,h3⟩⟩:=hB'
 have hL:=hr.hlen
 apply w22
 unfold s22
 refine QeT hB hf ?_
 simp only[↓Qt,↓Qu,↓Ql (YE hr)]
 apply w168
 unfold s168
 simp only[↓Qt,↓Qu,↓Ql (YD hr),Qa]
 rw[ZN hr (m:=hd) (by omega),show len-hd=S.buf.length by omega]
 refine hR B hd _ (by omega) ?_
 intro i hi
 rw[QeD hr.hB |>.at (Nat.zero_add _).symm (by omega)]
 rw[QhV h3 hi]
end
theorem QgY {z:Array Value} {k:Value->Prop}:QB z.toList [] k=k (.agg z):=by simp[QB,Z3]
def QcW:BS:=⟨[],1,[],0,[],false,false⟩
theorem go_NewBuilder {H:Qe} {F:Cut} {R:Kn} {n:Nat} (hn:n<65536) (hF:∀b o,F b=some o->H[b]?=some o)
  (hR:∀H',Qc H' H.size QcW F 0->Qai H H'->R (.pointer (some ⟨H.size,0,none⟩)) H'):
  FnS prog 18 #[.int .i64 (n:Nat)] H R:=by
 apply w18
 unfold s18
 refine Q8 (fun vs h=>vs=[.int .i64 (n:Nat)]/\h=H) ?_ ?_
 ·rw[Qi6]
  apply ZV
  ·intro h
   have:n=0:=by omega
   subst this
   exact ⟨rfl,rfl⟩
  ·intro h
   exact ⟨rfl,rfl⟩
 ·rintro x h ⟨hx,rfl⟩
  cases hx
  rw[QgY]
  have hp1:(h.push (.cells z133 133))[h.size]?=_:=Qg
  have hs1:(h.push (.cells z133 133)).size=h.size+1:=size_push
  have hk1:Qai h (h.push (.cells z133 133)):=Qai.push _ _
  rw[show Value.cells (.agg z133)=z133 from rfl,Q3]
  generalize h.push (.cells z133 133)=H1 at *
  refine ⟨by omega,by omega,by omega,by omega,?_⟩
  simp only[Int.toNat_natCast]
  rw[mk_u8 (z:=z5) rfl]
  have hp2:(H1.push (.cells (u8c (List.replicate n 0)) 5))[h.size]?=_:=YG hp1
  have hq2:(H1.push (.cells (u8c (List.replicate n 0)) 5))[H1.size]?=_:=Qg
  have hs2:(H1.push (.cells (u8c (List.replicate n 0)) 5)).size=H1.size+1:=size_push
  have hk2:=hk1.trans (Qai.push H1 (.cells (u8c (List.replicate n 0)) 5))
  generalize H1.push (.cells (u8c (List.replicate n 0)) 5)=H2 at *
  simp only[↓Qt,↓Qu]
  rw[Qbe hp2 (by decide:0<9) (by simp) rfl,QP,QT (by omega) (by omega)]
  rw[Qbe (QU hp2) (by decide:5<9) (by simp) rfl,Qdy]
  rw[Qbe (QU hp2) (by decide:1<9) (by simp) rfl,Qdy]
  have hk3:=hk2.setB (Nat.le_refl _) (.cells (((z133.setIfInBounds 0 (bsl H1.size 0 n n)).setIfInBounds 5 (.int .u32 (n:Nat))).setIfInBounds 1 (.int .i64 1)) 133 (0,0))
  have hp3:=QU (o:=.cells (((z133.setIfInBounds 0 (bsl H1.size 0 n n)).setIfInBounds 5 (.int .u32 (n:Nat))).setIfInBounds 1 (.int .i64 1)) 133 (0,0)) hp2
  have hq3:=(Qx (H:=H2) (b:=h.size) (b':=H1.size) (o:=.cells (((z133.setIfInBounds 0 (bsl H1.size 0 n n)).setIfInBounds 5 (.int .u32 (n:Nat))).setIfInBounds 1 (.int .i64 1)) 133 (0,0)) (by omega)).trans hq2
  have hs3:=size_setB (H:=H2) (b:=h.size) (o:=.cells (((z133.setIfInBounds 0 (bsl H1.size 0 n n)).setIfInBounds 5 (.int .u32 (n:Nat))).setIfInBounds 1 (.int .i64 1)) 133 (0,0))
  generalize setB H2 h.size (.cells (((z133.setIfInBounds 0 (bsl H1.size 0 n n)).setIfInBounds 5 (.int .u32 (n:Nat))).setIfInBounds 1 (.int .i64 1)) 133 (0,0))=H3 at *
  refine ⟨by decide,by decide,by decide,by decide,?_⟩
  have e16:(16:Int).toNat=16:=rfl
  rw[e16,mk_u32 (z:=z65) rfl]
  have hp4:(H3.push (.cells (Qgf (List.replicate 16 0)) 65))[h.size]?=_:=YG hp3
  have hq4:(H3.push (.cells (Qgf (List.replicate 16 0)) 65))[H1.size]?=_:=YG hq3
  have ht4:(H3.push (.cells (Qgf (List.replicate 16 0)) 65))[H3.size]?=_:=Qg
  have hk4:=hk3.trans (Qai.push H3 (.cells (Qgf (List.replicate 16 0)) 65))
  generalize H3.push (.cells (Qgf (List.replicate 16 0)) 65)=H4 at *
  show StK H4 1 (.pointer (some ⟨h.size,4,none⟩)) (.slice (some ⟨H3.size,0,none⟩) 0 16) _
  rw[Qbe hp4 (by decide:4<9) (by simp) rfl]
  refine hR _ ?_ (hk4.setB (Nat.le_refl _) _)
  refine ⟨n,Nat.zero_le _,⟨H1.size,h.size,H3.size,List.replicate n 0,n,.slice none 0 0,.slice (some ⟨H3.size,0,none⟩) 0 16,133,5,?_,by simp[QcW],by simp[QcW]⟩⟩
  refine ⟨?_,?_,Or.inl ⟨rfl,rfl,rfl⟩,⟨List.replicate 16 0,65,by simp[QcW],?_,by simp[QcW],by simp[QcW]⟩,by omega,by omega,by omega,?_,by simp,by omega⟩
  ·rw[QU hp4,List.length_replicate];rfl
  ·rw[Qx (by omega)];exact hq4
  ·rw[Qx (by omega)];exact ht4
  ·intro b o hb
   have h1:=hF b o hb
   have h2:=YB h1
   exact ⟨by rw[Qx (by omega)];exact hk4 b o h1,by omega,by omega,by omega,by omega⟩
end Go.Proofs
namespace Go.Proofs
open Go Go.Vc
open Tryz (prog)
theorem Qcj {x bs:List UInt8} {i:Nat}:byteN (x++bs) (x.length+i)=byteN bs i:=by
 unfold byteN
 congr 1
 simp[List.getD,List.getElem?_append_right]
theorem byteN_append' {x bs:List UInt8} {i j:Nat} (h:j=x.length+i):byteN (x++bs) j=byteN bs i:=by subst h;exact Qcj
theorem YN {x bs:List UInt8} {i:Nat}:le2 (x++bs) (x.length+i)=le2 bs i:=by
 unfold le2;rw[Qcj,Nat.add_assoc,Qcj]
theorem QaW {x bs:List UInt8} {i:Nat}:le4 (x++bs) (x.length+i)=le4 bs i:=by
 unfold le4;rw[YN,Nat.add_assoc,YN]
theorem le8_append {x bs:List UInt8} {i:Nat}:le8 (x++bs) (x.length+i)=le8 bs i:=by
 unfold le8;rw[QaW,Nat.add_assoc,QaW]
theorem Qhu.ext {S S':BS} (h:Qhu S) (hv:S'.vts=S.vts) {x:List UInt8} (hb:S'.buf=x++S.buf):Qhu S':=by
 intro o ho
 rw[hv]at ho
 obtain ⟨h1,h2,h3,h4⟩:=h o ho
 have e:S'.buf.length-o=x.length+(S.buf.length-o):=by rw[hb,List.length_append];omega
 have e2:le2 S'.buf (S'.buf.length-o)=le2 S.buf (S.buf.length-o):=by rw[e,hb,YN]
 rw[e2]
 refine ⟨h1,?_,h3,h4⟩
 rw[hb,List.length_append];omega
def P2 (n:Nat):Prop:=∃k,k<=3/\n=2^k
theorem P2.max {a b:Nat} (ha:P2 a) (hb:P2 b):P2 (Nat.max a b):=by
 rcases Nat.le_total a b with h|h
 ·rw[show Nat.max a b=b from Nat.max_eq_right h];exact hb
 ·rw[show Nat.max a b=a from Nat.max_eq_left h];exact ha
theorem P2.pos {a:Nat} (ha:P2 a):0<a:=by obtain ⟨k,_,rfl⟩:=ha;exact Nat.two_pow_pos k
theorem P2.le {a:Nat} (ha:P2 a):a<=8:=by obtain ⟨k,hk,rfl⟩:=ha;exact Nat.pow_le_pow_right (by decide) hk
theorem P2_1:P2 1:=⟨0,by decide,rfl⟩
theorem P2_2:P2 2:=⟨1,by decide,rfl⟩
theorem P2_4:P2 4:=⟨2,by decide,rfl⟩
theorem Qg6:P2 8:=⟨3,by decide,rfl⟩
structure YA (S0:BS) (n c:Nat) (S:BS):Prop where
 nested:S.nested=true
 vtl:S.vt.length=n
 oe:S.oe=S0.buf.length
 vts:S.vts=S0.vts
 ext:∃x,S.buf=x++S0.buf
 vle:∀j,S.vt.getD j 0<=S.buf.length
 len:S.buf.length<=S0.buf.length+c
 fin:S.fin=S0.fin
 min:P2 S.min
theorem YA.start {S0:BS} {n:Nat} (hm:P2 S0.min):YA S0 n 0 (Qs n S0):=
 ⟨rfl,by simp[Qs],rfl,rfl,⟨[],rfl⟩,fun j=>by
  simp only[Qs,List.getD,List.getElem?_replicate]
  split<;>simp,Nat.le_refl _,rfl,hm⟩
theorem getD_set (l:List Nat) (o j x:Nat):(l.set o x).getD j 0=if o=j/\o<l.length then x else l.getD j 0:=by
 simp only[List.getD,List.getElem?_set]
 by_cases h:o=j
 ·subst h
  by_cases h2:o<l.length
  ·simp[h2]
  ·simp[h2]
 ·simp[h]
theorem YA.mono {S0 S:BS} {n c c':Nat} (h:YA S0 n c S) (hc:c<=c'):YA S0 n c' S:={h with len:=by have:=h.len;omega}
theorem YA.prep {S0 S:BS} {n c k a:Nat} (h:YA S0 n c S) (hk:P2 k):YA S0 n (c+7) (Vc.prep k a S):=by
 obtain ⟨x,hx⟩:=h.ext
 have hp:=Zw (size:=k) (n:=S.buf.length+a) hk.pos
 have hk8:=hk.le
 refine ⟨h.nested,h.vtl,h.oe,h.vts,⟨List.replicate (padOf k (S.buf.length+a)) 0++x,by simp[Vc.prep,place,hx]⟩,fun j=>?_,?_,h.fin,h.min.max hk⟩
 ·have:=h.vle j
  rw[Qar]
  show S.vt.getD j 0<=_
  omega
 ·rw[Qar]
  have:=h.len
  omega
theorem YA.place {S0 S:BS} {n c:Nat} (h:YA S0 n c S) (xs:List UInt8):YA S0 n (c+xs.length) (Vc.place xs S):=by
 obtain ⟨x,hx⟩:=h.ext
 refine ⟨h.nested,h.vtl,h.oe,h.vts,⟨xs++x,by simp[Vc.place,hx]⟩,fun j=>?_,?_,h.fin,h.min⟩
 ·have:=h.vle j
  show S.vt.getD j 0<=(xs++S.buf).length
  rw[List.length_append];omega
 ·show (xs++S.buf).length<=_
  have:=h.len
  rw[List.length_append];omega
theorem YA.slot {S0 S:BS} {n c o:Nat} (h:YA S0 n c S):YA S0 n c (Proofs.slot o S):=by
 refine ⟨h.nested,by simp[Proofs.slot,h.vtl],h.oe,h.vts,h.ext,fun j=>?_,h.len,h.fin,h.min⟩
 have:=h.vle j
 show (S.vt.set o S.buf.length).getD j 0<=S.buf.length
 rw[getD_set]
 split<;>omega
theorem YA.putN {S0 S:BS} {n c k:Nat} {xs:List UInt8} (h:YA S0 n c S) (hk:P2 k) (hx:xs.length<=8):YA S0 n (c+15) (Proofs.putN k xs S):=
 ((h.prep (a:=0) hk).place xs).mono (by omega)
theorem YA.putOff {S0 S:BS} {n c off:Nat} (h:YA S0 n c S):YA S0 n (c+15) (Proofs.putOff off S):=
 ((h.prep (a:=0) P2_4).place _).mono (by rw[Qf];omega)
theorem YA.slotN {S0 S:BS} {n c k x d o:Nat} (h:YA S0 n c S) (hk:P2 k):YA S0 n (c+15) (Proofs.slotN k x d o S):=by
 unfold Proofs.slotN
 split
 ·exact h.mono (by omega)
 ·exact (h.putN hk (by rw[Qf];exact hk.le)).slot
theorem YA.slotF {S0 S:BS} {n c x d o:Nat} (h:YA S0 n c S):YA S0 n (c+15) (Proofs.slotF x d o S):=by
 unfold Proofs.slotF
 split
 ·exact (h.putN P2_4 (by rw[Qf];decide)).slot
 ·exact h.mono (by omega)
theorem YA.slotOff {S0 S:BS} {n c off o:Nat} (h:YA S0 n c S):YA S0 n (c+15) (Proofs.slotOff off o S):=by
 unfold Proofs.slotOff
 split
 ·exact h.mono (by omega)
 ·exact h.putOff.slot
theorem YA.slotStruct {S0 S:BS} {n c off o:Nat} (h:YA S0 n c S):YA S0 n (c+15) (Proofs.slotStruct off o S):=by
 unfold Proofs.slotStruct
 split
 ·exact h.mono (by omega)
 ·exact h.slot.mono (by omega)
theorem YA.le {S0 S:BS} {n c:Nat} (h:YA S0 n c S):S0.buf.length<=S.buf.length:=by
 obtain ⟨x,hx⟩:=h.ext
 rw[hx,List.length_append];omega
theorem QdT (off:Nat) (S:BS):∃x,(putOff off S).buf=x++S.buf/\4<=x.length/\x.length<=7:=by
 have:=Zw (size:=4) (n:=S.buf.length+0) (by decide)
 refine ⟨leB (((prep 4 0 S).buf.length-off+4:Nat):Int) 4++List.replicate (padOf 4 (S.buf.length+0)) 0,by simp[putOff,place,prep],?_,?_⟩
 ·rw[List.length_append,Qf];omega
 ·rw[List.length_append,Qf,List.length_replicate];omega
theorem Qiq {H:Qe} {p:Nat} {S0 S:BS} {F:Cut} {r n c:Nat} (hB:Qc H p S F r) {R:Kn} (h:YA S0 n c S) (hn:n<1000) (hv:Qhu S0) (hl:S0.buf.length+c+4096<=536870912) (hvl:S0.vts.length<=S0.buf.length)
  (hR:∀H',Qc H' p (endObj S) F 0->R (.int .u32 ((putOff 0 S).buf.length:Nat)) H'):
  FnS prog 297 #[.pointer (some ⟨p,0,none⟩)] H R:=by
 obtain ⟨x,hx⟩:=h.ext
 obtain ⟨y,hy,_⟩:=QdT 0 S
 have h1:=h.len
 have h2:=h.le
 refine Qh0 hB h.nested (by omega) (by rw[h.vtl];exact hn) h.vle (by rw[h.oe];exact h2) (by rw[h.vts];omega) ?_ hR
 exact hv.ext (S':=putOff 0 S) h.vts (x:=y++x) (by rw[hy,hx,List.append_assoc])
end Go.Proofs
namespace Go.Proofs
open Go Go.Vc
open Tryz (prog)
section
variable {H:Qe} {p:Nat} {S:BS} {F:Cut} {r:Nat} (hB:Qc H p S F r) {R:Kn}
include hB
theorem Qd8 {n:Nat} (hn:S.nested=false) (hl:S.buf.length+4*n+24<=536870912)
  (hR:∀H' v,Qc H' p (QF 4 n 2 S) F (Nat.max ((4+4*n+1)-padOf 2 ((prep 4 (4*n) {S with nested:=true}).buf.length+4*n)) (2+4*n+1))->R v H'):
  FnS prog 88 #[.pointer (some ⟨p,0,none⟩),.int .i64 (n:Nat)] H R:=by
 apply w88
 unfold QhH
 refine QL (es:=4) (al:=2) (k:=1) hB hn (by decide) (by decide) hl ?_
 intro H' h'
 exact hR H' _ h'
theorem QaM {n:Nat} (hn:S.nested=false) (hl:S.buf.length+4*n+24<=536870912)
  (hR:∀H' v,Qc H' p (QF 4 n 4 S) F (Nat.max ((4+4*n+1)-padOf 4 ((prep 4 (4*n) {S with nested:=true}).buf.length+4*n)) (4+4*n+1))->R v H'):
  FnS prog 91 #[.pointer (some ⟨p,0,none⟩),.int .i64 (n:Nat)] H R:=by
 apply w91
 unfold QhH
 refine QL (es:=4) (al:=4) (k:=2) hB hn (by decide) (by decide) hl ?_
 intro H' h'
 exact hR H' _ h'
theorem QaF {n:Nat} (hn:S.nested=false) (hl:S.buf.length+4*n+24<=536870912)
  (hR:∀H' v,Qc H' p (QF 4 n 4 S) F (Nat.max ((4+4*n+1)-padOf 4 ((prep 4 (4*n) {S with nested:=true}).buf.length+4*n)) (4+4*n+1))->R v H'):
  FnS prog 92 #[.pointer (some ⟨p,0,none⟩),.int .i64 (n:Nat)] H R:=by
 apply w92
 unfold QhH
 refine QL (es:=4) (al:=4) (k:=2) hB hn (by decide) (by decide) hl ?_
 intro H' h'
 exact hR H' _ h'
theorem QaR {n:Nat} (hn:S.nested=false) (hl:S.buf.length+1*n+24<=536870912)
  (hR:∀H' v,Qc H' p (QF 1 n 1 S) F (Nat.max ((4+1*n+1)-padOf 1 ((prep 4 (1*n) {S with nested:=true}).buf.length+1*n)) (1+1*n+1))->R v H'):
  FnS prog 94 #[.pointer (some ⟨p,0,none⟩),.int .i64 (n:Nat)] H R:=by
 apply w94
 unfold QhH
 refine QL (es:=1) (al:=1) (k:=0) hB hn (by decide) (by decide) hl ?_
 intro H' h'
 exact hR H' _ h'
theorem QaA {n:Nat} (hn:S.nested=false) (hl:S.buf.length+4*n+24<=536870912)
  (hR:∀H' v,Qc H' p (QF 4 n 4 S) F (Nat.max ((4+4*n+1)-padOf 4 ((prep 4 (4*n) {S with nested:=true}).buf.length+4*n)) (4+4*n+1))->R v H'):
  FnS prog 96 #[.pointer (some ⟨p,0,none⟩),.int .i64 (n:Nat)] H R:=by
 apply w96
 unfold QhH
 refine QL (es:=4) (al:=4) (k:=2) hB hn (by decide) (by decide) hl ?_
 intro H' h'
 exact hR H' _ h'
theorem Qa7 {n:Nat} (hn:S.nested=false) (hl:S.buf.length+8*n+24<=536870912)
  (hR:∀H' v,Qc H' p (QF 8 n 4 S) F (Nat.max ((4+8*n+1)-padOf 4 ((prep 4 (8*n) {S with nested:=true}).buf.length+8*n)) (4+8*n+1))->R v H'):
  FnS prog 97 #[.pointer (some ⟨p,0,none⟩),.int .i64 (n:Nat)] H R:=by
 apply w97
 unfold QhH
 refine QL (es:=8) (al:=4) (k:=2) hB hn (by decide) (by decide) hl ?_
 intro H' h'
 exact hR H' _ h'
theorem Qd5 {n:Nat} (hn:S.nested=false) (hl:S.buf.length+4*n+24<=536870912)
  (hR:∀H' v,Qc H' p (QF 4 n 2 S) F (Nat.max ((4+4*n+1)-padOf 2 ((prep 4 (4*n) {S with nested:=true}).buf.length+4*n)) (2+4*n+1))->R v H'):
  FnS prog 99 #[.pointer (some ⟨p,0,none⟩),.int .i64 (n:Nat)] H R:=by
 apply w99
 unfold QhH
 refine QL (es:=4) (al:=2) (k:=1) hB hn (by decide) (by decide) hl ?_
 intro H' h'
 exact hR H' _ h'
theorem Qbl {n:Nat} (hn:S.nested=false) (hl:S.buf.length+8*n+24<=536870912)
  (hR:∀H' v,Qc H' p (QF 8 n 8 S) F (Nat.max ((4+8*n+1)-padOf 8 ((prep 4 (8*n) {S with nested:=true}).buf.length+8*n)) (8+8*n+1))->R v H'):
  FnS prog 100 #[.pointer (some ⟨p,0,none⟩),.int .i64 (n:Nat)] H R:=by
 apply w100
 unfold QhH
 refine QL (es:=8) (al:=8) (k:=3) hB hn (by decide) (by decide) hl ?_
 intro H' h'
 exact hR H' _ h'
theorem Qb0 {n:Nat} (hn:S.nested=false) (hl:S.buf.length+8*n+24<=536870912)
  (hR:∀H' v,Qc H' p (QF 8 n 8 S) F (Nat.max ((4+8*n+1)-padOf 8 ((prep 4 (8*n) {S with nested:=true}).buf.length+8*n)) (8+8*n+1))->R v H'):
  FnS prog 102 #[.pointer (some ⟨p,0,none⟩),.int .i64 (n:Nat)] H R:=by
 apply w102
 unfold QhH
 refine QL (es:=8) (al:=8) (k:=3) hB hn (by decide) (by decide) hl ?_
 intro H' h'
 exact hR H' _ h'
theorem Qaw {n:Nat} (hn:S.nested=false) (hl:S.buf.length+4*n+24<=536870912)
  (hR:∀H' v,Qc H' p (QF 4 n 4 S) F (Nat.max ((4+4*n+1)-padOf 4 ((prep 4 (4*n) {S with nested:=true}).buf.length+4*n)) (4+4*n+1))->R v H'):
  FnS prog 106 #[.pointer (some ⟨p,0,none⟩),.int .i64 (n:Nat)] H R:=by
 apply w106
 unfold QhH
 refine QL (es:=4) (al:=4) (k:=2) hB hn (by decide) (by decide) hl ?_
 intro H' h'
 exact hR H' _ h'
theorem Qae {n:Nat} (hn:S.nested=false) (hl:S.buf.length+8*n+24<=536870912)
  (hR:∀H' v,Qc H' p (QF 8 n 8 S) F (Nat.max ((4+8*n+1)-padOf 8 ((prep 4 (8*n) {S with nested:=true}).buf.length+8*n)) (8+8*n+1))->R v H'):
  FnS prog 107 #[.pointer (some ⟨p,0,none⟩),.int .i64 (n:Nat)] H R:=by
 apply w107
 unfold QhH
 refine QL (es:=8) (al:=8) (k:=3) hB hn (by decide) (by decide) hl ?_
 intro H' h'
 exact hR H' _ h'
theorem ZT {n:Nat} (hn:S.nested=false) (hl:S.buf.length+4*n+24<=536870912)
  (hR:∀H' v,Qc H' p (QF 4 n 4 S) F (Nat.max ((4+4*n+1)-padOf 4 ((prep 4 (4*n) {S with nested:=true}).buf.length+4*n)) (4+4*n+1))->R v H'):
  FnS prog 109 #[.pointer (some ⟨p,0,none⟩),.int .i64 (n:Nat)] H R:=by
 apply w109
 unfold QhH
 refine QL (es:=4) (al:=4) (k:=2) hB hn (by decide) (by decide) hl ?_
 intro H' h'
 exact hR H' _ h'
theorem ZS {n:Nat} (hn:S.nested=false) (hl:S.buf.length+8*n+24<=536870912)
  (hR:∀H' v,Qc H' p (QF 8 n 8 S) F (Nat.max ((4+8*n+1)-padOf 8 ((prep 4 (8*n) {S with nested:=true}).buf.length+8*n)) (8+8*n+1))->R v H'):
  FnS prog 110 #[.pointer (some ⟨p,0,none⟩),.int .i64 (n:Nat)] H R:=by
 apply w110
 unfold QhH
 refine QL (es:=8) (al:=8) (k:=3) hB hn (by decide) (by decide) hl ?_
 intro H' h'
 exact hR H' _ h'
theorem ZL {n:Nat} (hn:S.nested=false) (hl:S.buf.length+8*n+24<=536870912)
  (hR:∀H' v,Qc H' p (QF 8 n 8 S) F (Nat.max ((4+8*n+1)-padOf 8 ((prep 4 (8*n) {S with nested:=true}).buf.length+8*n)) (8+8*n+1))->R v H'):
  FnS prog 111 #[.pointer (some ⟨p,0,none⟩),.int .i64 (n:Nat)] H R:=by
 apply w111
 unfold QhH
 refine QL (es:=8) (al:=8) (k:=3) hB hn (by decide) (by decide) hl ?_
 intro H' h'
 exact hR H' _ h'
theorem Qbq {n:Nat} (hn:S.nested=false) (hl:S.buf.length+1*n+24<=536870912)
  (hR:∀H' v,Qc H' p (QF 1 n 1 S) F (Nat.max ((4+1*n+1)-padOf 1 ((prep 4 (1*n) {S with nested:=true}).buf.length+1*n)) (1+1*n+1))->R v H'):
  FnS prog 114 #[.pointer (some ⟨p,0,none⟩),.int .i64 (n:Nat)] H R:=by
 apply w114
 unfold QhH
 refine QL (es:=1) (al:=1) (k:=0) hB hn (by decide) (by decide) hl ?_
 intro H' h'
 exact hR H' _ h'
theorem Qh2 (hn:S.nested=false) (hR:∀H',Qc H' p (Qs 49 S) F r->R (.tuple #[]) H'):FnS prog 116 #[.pointer (some ⟨p,0,none⟩)] H R:=by
 apply w116
 unfold Qja
 exact YZ (n:=49) hB hn (by decide) hR
theorem Qdq {off:Nat} (hn:S.nested=true) (hoff:off=0\/off=S.buf.length) (ho:0<S.vt.length) (hR:∀H',Qc H' p (slotStruct off 0 S) F 0->R (.tuple #[]) H'):FnS prog 118 #[.pointer (some ⟨p,0,none⟩),.int .u32 (off:Int)] H R:=by
 apply w118
 unfold Yn
 exact QdK (o:=0) hB hn hoff ho hR
theorem Qgb {x:Nat} (hx:x<65536) (ho:1<S.vt.length) (hl:S.buf.length+16<=536870912) (hR:∀H',Qc H' p (slotN 2 x 150 1 S) F 0->R (.tuple #[]) H'):FnS prog 119 #[.pointer (some ⟨p,0,none⟩),.int .i16 (IntKind.i16.wrap (x:Int))] H R:=by
 apply w119
 unfold Yn
 exact Qbs (o:=1) (d:=150) hB hx (by decide) ho hl hR
theorem Qha {x:Nat} (hx:x<65536) (ho:2<S.vt.length) (hl:S.buf.length+16<=536870912) (hR:∀H',Qc H' p (slotN 2 x 100 2 S) F 0->R (.tuple #[]) H'):FnS prog 120 #[.pointer (some ⟨p,0,none⟩),.int .i16 (IntKind.i16.wrap (x:Int))] H R:=by
 apply w120
 unfold Yn
 exact Qbs (o:=2) (d:=100) hB hx (by decide) ho hl hR
theorem Qgc {off:Nat} (hoff:off<=S.buf.length) (ho:3<S.vt.length) (hl:S.buf.length+16<=536870912) (hR:∀H',Qc H' p (slotOff off 3 S) F 0->R (.tuple #[]) H'):FnS prog 121 #[.pointer (some ⟨p,0,none⟩),.int .u32 (off:Int)] H R:=by
 apply w121
 unfold Yn
 exact Qm (o:=3) hB hoff ho hl hR
theorem Qe0 {off:Nat} (hoff:off<=S.buf.length) (ho:5<S.vt.length) (hl:S.buf.length+16<=536870912) (hR:∀H',Qc H' p (slotOff off 5 S) F 0->R (.tuple #[]) H'):FnS prog 122 #[.pointer (some ⟨p,0,none⟩),.int .u32 (off:Int)] H R:=by
 apply w122
 unfold Yn
 exact Qm (o:=5) hB hoff ho hl hR
theorem QfF {x:Nat} (hx:x<256) (ho:6<S.vt.length) (hl:S.buf.length+16<=536870912) (hR:∀H',Qc H' p (slotN 1 x 8 6 S) F 0->R (.tuple #[]) H'):FnS prog 123 #[.pointer (some ⟨p,0,none⟩),.int .u8 (x:Int)] H R:=by
 apply w123
 unfold Yn
 exact Y5 (o:=6) (d:=8) hB hx (by decide) ho hl hR
theorem Qej {x:Nat} (hx:x<256) (ho:7<S.vt.length) (hl:S.buf.length+16<=536870912) (hR:∀H',Qc H' p (slotN 1 x 0 7 S) F 0->R (.tuple #[]) H'):FnS prog 124 #[.pointer (some ⟨p,0,none⟩),.int .u8 (x:Int)] H R:=by
 apply w124
 unfold Yn
 exact Y5 (o:=7) (d:=0) hB hx (by decide) ho hl hR
theorem Qg5 {off:Nat} (hoff:off<=S.buf.length) (ho:8<S.vt.length) (hl:S.buf.length+16<=536870912) (hR:∀H',Qc H' p (slotOff off 8 S) F 0->R (.tuple #[]) H'):FnS prog 125 #[.pointer (some ⟨p,0,none⟩),.int .u32 (off:Int)] H R:=by
 apply w125
 unfold Yn
 exact Qm (o:=8) hB hoff ho hl hR
theorem Qft {off:Nat} (hoff:off<=S.buf.length) (ho:9<S.vt.length) (hl:S.buf.length+16<=536870912) (hR:∀H',Qc H' p (slotOff off 9 S) F 0->R (.tuple #[]) H'):FnS prog 126 #[.pointer (some ⟨p,0,none⟩),.int .u32 (off:Int)] H R:=by
 apply w126
 unfold Yn
 exact Qm (o:=9) hB hoff ho hl hR
theorem Qc9 {off:Nat} (hoff:off<=S.buf.length) (ho:10<S.vt.length) (hl:S.buf.length+16<=536870912) (hR:∀H',Qc H' p (slotOff off 10 S) F 0->R (.tuple #[]) H'):FnS prog 127 #[.pointer (some ⟨p,0,none⟩),.int .u32 (off:Int)] H R:=by
 apply w127
 unfold Yn
 exact Qm (o:=10) hB hoff ho hl hR
theorem Qc8 {off:Nat} (hoff:off<=S.buf.length) (ho:11<S.vt.length) (hl:S.buf.length+16<=536870912) (hR:∀H',Qc H' p (slotOff off 11 S) F 0->R (.tuple #[]) H'):FnS prog 128 #[.pointer (some ⟨p,0,none⟩),.int .u32 (off:Int)] H R:=by
 apply w128
 unfold Yn
 exact Qm (o:=11) hB hoff ho hl hR
theorem QfB {off:Nat} (hoff:off<=S.buf.length) (ho:12<S.vt.length) (hl:S.buf.length+16<=536870912) (hR:∀H',Qc H' p (slotOff off 12 S) F 0->R (.tuple #[]) H'):FnS prog 129 #[.pointer (some ⟨p,0,none⟩),.int .u32 (off:Int)] H R:=by
 apply w129
 unfold Yn
 exact Qm (o:=12) hB hoff ho hl hR
theorem Qbx {off:Nat} (hoff:off<=S.buf.length) (ho:13<S.vt.length) (hl:S.buf.length+16<=536870912) (hR:∀H',Qc H' p (slotOff off 13 S) F 0->R (.tuple #[]) H'):FnS prog 130 #[.pointer (some ⟨p,0,none⟩),.int .u32 (off:Int)] H R:=by
 apply w130
 unfold Yn
 exact Qm (o:=13) hB hoff ho hl hR
theorem Qe3 {off:Nat} (hoff:off<=S.buf.length) (ho:14<S.vt.length) (hl:S.buf.length+16<=536870912) (hR:∀H',Qc H' p (slotOff off 14 S) F 0->R (.tuple #[]) H'):FnS prog 131 #[.pointer (some ⟨p,0,none⟩),.int .u32 (off:Int)] H R:=by
 apply w131
 unfold Yn
 exact Qm (o:=14) hB hoff ho hl hR
theorem Qei {x:Bool} (ho:15<S.vt.length) (hl:S.buf.length+16<=536870912) (hR:∀H',Qc H' p (slotN 1 (if x then 1 else 0) 0 15 S) F 0->R (.tuple #[]) H'):FnS prog 132 #[.pointer (some ⟨p,0,none⟩),.bool x] H R:=by
 apply w132
 unfold s132
 exact Qek (o:=15) hB ho hl hR
theorem QcK {x:Nat} (hx:x<4294967296) (ho:16<S.vt.length) (hl:S.buf.length+16<=536870912) (hR:∀H',Qc H' p (slotN 4 x 0 16 S) F 0->R (.tuple #[]) H'):FnS prog 133 #[.pointer (some ⟨p,0,none⟩),.int .i32 (IntKind.i32.wrap (x:Int))] H R:=by
 apply w133
 unfold Yn
 exact Qbw (o:=16) (d:=0) hB hx (by decide) ho hl hR
theorem Qcz {x:Nat} (hx:x<4294967296) (ho:17<S.vt.length) (hl:S.buf.length+16<=536870912) (hR:∀H',Qc H' p (slotN 4 x 0 17 S) F 0->R (.tuple #[]) H'):FnS prog 134 #[.pointer (some ⟨p,0,none⟩),.int .u32 (x:Int)] H R:=by
 apply w134
 unfold Yn
 exact Qb8 (o:=17) (d:=0) hB hx (by decide) ho hl hR
theorem QcH {x:Nat} (hx:x<18446744073709551616) (ho:18<S.vt.length) (hl:S.buf.length+16<=536870912) (hR:∀H',Qc H' p (slotN 8 x 0 18 S) F 0->R (.tuple #[]) H'):FnS prog 135 #[.pointer (some ⟨p,0,none⟩),.int .i64 (IntKind.i64.wrap (x:Int))] H R:=by
 apply w135
 unfold Yn
 exact ZX (o:=18) (d:=0) hB hx (by decide) ho hl hR
theorem QcP {x:Nat} (hx:x<18446744073709551616) (ho:19<S.vt.length) (hl:S.buf.length+16<=536870912) (hR:∀H',Qc H' p (slotN 8 x 0 19 S) F 0->R (.tuple #[]) H'):FnS prog 136 #[.pointer (some ⟨p,0,none⟩),.int .u64 (x:Int)] H R:=by
 apply w136
 unfold Yn
 exact Yv (o:=19) (d:=0) hB hx (by decide) ho hl hR
theorem Qcw {x:Nat} (hx:x<4294967296) (ho:20<S.vt.length) (hl:S.buf.length+16<=536870912) (hR:∀H',Qc H' p (slotN 4 x 0 20 S) F 0->R (.tuple #[]) H'):FnS prog 137 #[.pointer (some ⟨p,0,none⟩),.int .i32 (IntKind.i32.wrap (x:Int))] H R:=by
 apply w137
 unfold Yn
 exact Qbw (o:=20) (d:=0) hB hx (by decide) ho hl hR
theorem Qcr {x:Nat} (hx:x<4294967296) (ho:21<S.vt.length) (hl:S.buf.length+16<=536870912) (hR:∀H',Qc H' p (slotN 4 x 0 21 S) F 0->R (.tuple #[]) H'):FnS prog 138 #[.pointer (some ⟨p,0,none⟩),.int .u32 (x:Int)] H R:=by
 apply w138
 unfold Yn
 exact Qb8 (o:=21) (d:=0) hB hx (by decide) ho hl hR
theorem Qcq {x:Nat} (hx:x<18446744073709551616) (ho:22<S.vt.length) (hl:S.buf.length+16<=536870912) (hR:∀H',Qc H' p (slotN 8 x 0 22 S) F 0->R (.tuple #[]) H'):FnS prog 139 #[.pointer (some ⟨p,0,none⟩),.int .i64 (IntKind.i64.wrap (x:Int))] H R:=by
 apply w139
 unfold Yn
 exact ZX (o:=22) (d:=0) hB hx (by decide) ho hl hR
theorem Qcs {x:Nat} (hx:x<18446744073709551616) (ho:23<S.vt.length) (hl:S.buf.length+16<=536870912) (hR:∀H',Qc H' p (slotN 8 x 0 23 S) F 0->R (.tuple #[]) H'):FnS prog 140 #[.pointer (some ⟨p,0,none⟩),.int .u64 (x:Int)] H R:=by
 apply w140
 unfold Yn
 exact Yv (o:=23) (d:=0) hB hx (by decide) ho hl hR
theorem Qcv {off:Nat} (hoff:off<=S.buf.length) (ho:24<S.vt.length) (hl:S.buf.length+16<=536870912) (hR:∀H',Qc H' p (slotOff off 24 S) F 0->R (.tuple #[]) H'):FnS prog 141 #[.pointer (some ⟨p,0,none⟩),.int .u32 (off:Int)] H R:=by
 apply w141
 unfold Yn
 exact Qm (o:=24) hB hoff ho hl hR
theorem QfI {x:Nat} (ho:25<S.vt.length) (hl:S.buf.length+16<=536870912) (hR:∀H',Qc H' p (slotF x 1078530000 25 S) F 0->R (.tuple #[]) H'):FnS prog 142 #[.pointer (some ⟨p,0,none⟩),.float .f32 x] H R:=by
 apply w142
 unfold s142
 exact ZF (o:=25) hB ho hl hR
theorem Qfa {x:Nat} (ho:26<S.vt.length) (hl:S.buf.length+16<=536870912) (hR:∀H',Qc H' p (slotF x 1077936128 26 S) F 0->R (.tuple #[]) H'):FnS prog 143 #[.pointer (some ⟨p,0,none⟩),.float .f32 x] H R:=by
 apply w143
 unfold s143
 exact ZF (o:=26) hB ho hl hR
theorem QeW {x:Nat} (ho:27<S.vt.length) (hl:S.buf.length+16<=536870912) (hR:∀H',Qc H' p (slotF x 0 27 S) F 0->R (.tuple #[]) H'):FnS prog 144 #[.pointer (some ⟨p,0,none⟩),.float .f32 x] H R:=by
 apply w144
 unfold s144
 exact ZF (o:=27) hB ho hl hR
theorem QbY {off:Nat} (hoff:off<=S.buf.length) (ho:28<S.vt.length) (hl:S.buf.length+16<=536870912) (hR:∀H',Qc H' p (slotOff off 28 S) F 0->R (.tuple #[]) H'):FnS prog 145 #[.pointer (some ⟨p,0,none⟩),.int .u32 (off:Int)] H R:=by
 apply w145
 unfold Yn
 exact Qm (o:=28) hB hoff ho hl hR
theorem QaZ {off:Nat} (hoff:off<=S.buf.length) (ho:29<S.vt.length) (hl:S.buf.length+16<=536870912) (hR:∀H',Qc H' p (slotOff off 29 S) F 0->R (.tuple #[]) H'):FnS prog 146 #[.pointer (some ⟨p,0,none⟩),.int .u32 (off:Int)] H R:=by
 apply w146
 unfold Yn
 exact Qm (o:=29) hB hoff ho hl hR
theorem Qg8 {off:Nat} (hoff:off<=S.buf.length) (ho:30<S.vt.length) (hl:S.buf.length+16<=536870912) (hR:∀H',Qc H' p (slotOff off 30 S) F 0->R (.tuple #[]) H'):FnS prog 147 #[.pointer (some ⟨p,0,none⟩),.int .u32 (off:Int)] H R:=by
 apply w147
 unfold Yn
 exact Qm (o:=30) hB hoff ho hl hR
theorem Qfu {off:Nat} (hoff:off<=S.buf.length) (ho:31<S.vt.length) (hl:S.buf.length+16<=536870912) (hR:∀H',Qc H' p (slotOff off 31 S) F 0->R (.tuple #[]) H'):FnS prog 148 #[.pointer (some ⟨p,0,none⟩),.int .u32 (off:Int)] H R:=by
 apply w148
 unfold Yn
 exact Qm (o:=31) hB hoff ho hl hR
theorem Qdd {off:Nat} (hoff:off<=S.buf.length) (ho:32<S.vt.length) (hl:S.buf.length+16<=536870912) (hR:∀H',Qc H' p (slotOff off 32 S) F 0->R (.tuple #[]) H'):FnS prog 149 #[.pointer (some ⟨p,0,none⟩),.int .u32 (off:Int)] H R:=by
 apply w149
 unfold Yn
 exact Qm (o:=32) hB hoff ho hl hR
theorem QcC {off:Nat} (hoff:off<=S.buf.length) (ho:33<S.vt.length) (hl:S.buf.length+16<=536870912) (hR:∀H',Qc H' p (slotOff off 33 S) F 0->R (.tuple #[]) H'):FnS prog 150 #[.pointer (some ⟨p,0,none⟩),.int .u32 (off:Int)] H R:=by
 apply w150
 unfold Yn
 exact Qm (o:=33) hB hoff ho hl hR
theorem QbP {off:Nat} (hoff:off<=S.buf.length) (ho:34<S.vt.length) (hl:S.buf.length+16<=536870912) (hR:∀H',Qc H' p (slotOff off 34 S) F 0->R (.tuple #[]) H'):FnS prog 151 #[.pointer (some ⟨p,0,none⟩),.int .u32 (off:Int)] H R:=by
 apply w151
 unfold Yn
 exact Qm (o:=34) hB hoff ho hl hR
theorem QbQ {off:Nat} (hoff:off<=S.buf.length) (ho:35<S.vt.length) (hl:S.buf.length+16<=536870912) (hR:∀H',Qc H' p (slotOff off 35 S) F 0->R (.tuple #[]) H'):FnS prog 152 #[.pointer (some ⟨p,0,none⟩),.int .u32 (off:Int)] H R:=by
 apply w152
 unfold Yn
 exact Qm (o:=35) hB hoff ho hl hR
theorem QbL {x:Nat} (hx:x<18446744073709551616) (ho:36<S.vt.length) (hl:S.buf.length+16<=536870912) (hR:∀H',Qc H' p (slotN 8 x 0 36 S) F 0->R (.tuple #[]) H'):FnS prog 153 #[.pointer (some ⟨p,0,none⟩),.int .u64 (x:Int)] H R:=by
 apply w153
 unfold Yn
 exact Yv (o:=36) (d:=0) hB hx (by decide) ho hl hR
theorem Qbd {off:Nat} (hoff:off<=S.buf.length) (ho:37<S.vt.length) (hl:S.buf.length+16<=536870912) (hR:∀H',Qc H' p (slotOff off 37 S) F 0->R (.tuple #[]) H'):FnS prog 154 #[.pointer (some ⟨p,0,none⟩),.int .u32 (off:Int)] H R:=by
 apply w154
 unfold Yn
 exact Qm (o:=37) hB hoff ho hl hR
theorem QaE {off:Nat} (hoff:off<=S.buf.length) (ho:38<S.vt.length) (hl:S.buf.length+16<=536870912) (hR:∀H',Qc H' p (slotOff off 38 S) F 0->R (.tuple #[]) H'):FnS prog 155 #[.pointer (some ⟨p,0,none⟩),.int .u32 (off:Int)] H R:=by
 apply w155
 unfold Yn
 exact Qm (o:=38) hB hoff ho hl hR
theorem Qcb {x:Nat} (hx:x<18446744073709551616) (ho:39<S.vt.length) (hl:S.buf.length+16<=536870912) (hR:∀H',Qc H' p (slotN 8 x 0 39 S) F 0->R (.tuple #[]) H'):FnS prog 156 #[.pointer (some ⟨p,0,none⟩),.int .u64 (x:Int)] H R:=by
 apply w156
 unfold Yn
 exact Yv (o:=39) (d:=0) hB hx (by decide) ho hl hR
theorem Qaz {off:Nat} (hoff:off<=S.buf.length) (ho:40<S.vt.length) (hl:S.buf.length+16<=536870912) (hR:∀H',Qc H' p (slotOff off 40 S) F 0->R (.tuple #[]) H'):FnS prog 157 #[.pointer (some ⟨p,0,none⟩),.int .u32 (off:Int)] H R:=by
 apply w157
 unfold Yn
 exact Qm (o:=40) hB hoff ho hl hR
theorem Qc0 {x:Nat} (hx:x<18446744073709551616) (ho:41<S.vt.length) (hl:S.buf.length+16<=536870912) (hR:∀H',Qc H' p (slotN 8 x 0 41 S) F 0->R (.tuple #[]) H'):FnS prog 158 #[.pointer (some ⟨p,0,none⟩),.int .u64 (x:Int)] H R:=by
 apply w158
 unfold Yn
 exact Yv (o:=41) (d:=0) hB hx (by decide) ho hl hR
theorem Qay {off:Nat} (hoff:off<=S.buf.length) (ho:42<S.vt.length) (hl:S.buf.length+16<=536870912) (hR:∀H',Qc H' p (slotOff off 42 S) F 0->R (.tuple #[]) H'):FnS prog 159 #[.pointer (some ⟨p,0,none⟩),.int .u32 (off:Int)] H R:=by
 apply w159
 unfold Yn
 exact Qm (o:=42) hB hoff ho hl hR
theorem Qd2 {x:Nat} (hx:x<256) (ho:43<S.vt.length) (hl:S.buf.length+16<=536870912) (hR:∀H',Qc H' p (slotN 1 x 0 43 S) F 0->R (.tuple #[]) H'):FnS prog 160 #[.pointer (some ⟨p,0,none⟩),.int .u8 (x:Int)] H R:=by
 apply w160
 unfold Yn
 exact Y5 (o:=43) (d:=0) hB hx (by decide) ho hl hR
theorem Qe6 {off:Nat} (hoff:off<=S.buf.length) (ho:44<S.vt.length) (hl:S.buf.length+16<=536870912) (hR:∀H',Qc H' p (slotOff off 44 S) F 0->R (.tuple #[]) H'):FnS prog 161 #[.pointer (some ⟨p,0,none⟩),.int .u32 (off:Int)] H R:=by
 apply w161
 unfold Yn
 exact Qm (o:=44) hB hoff ho hl hR
theorem Qcp {x:Nat} (hx:x<256) (ho:45<S.vt.length) (hl:S.buf.length+16<=536870912) (hR:∀H',Qc H' p (slotN 1 x 0 45 S) F 0->R (.tuple #[]) H'):FnS prog 162 #[.pointer (some ⟨p,0,none⟩),.int .u8 (x:Int)] H R:=by
 apply w162
 unfold Yn
 exact Y5 (o:=45) (d:=0) hB hx (by decide) ho hl hR
theorem Qdu {off:Nat} (hoff:off<=S.buf.length) (ho:46<S.vt.length) (hl:S.buf.length+16<=536870912) (hR:∀H',Qc H' p (slotOff off 46 S) F 0->R (.tuple #[]) H'):FnS prog 163 #[.pointer (some ⟨p,0,none⟩),.int .u32 (off:Int)] H R:=by
 apply w163
 unfold Yn
 exact Qm (o:=46) hB hoff ho hl hR
theorem Qdg {off:Nat} (hoff:off<=S.buf.length) (ho:47<S.vt.length) (hl:S.buf.length+16<=536870912) (hR:∀H',Qc H' p (slotOff off 47 S) F 0->R (.tuple #[]) H'):FnS prog 164 #[.pointer (some ⟨p,0,none⟩),.int .u32 (off:Int)] H R:=by
 apply w164
 unfold Yn
 exact Qm (o:=47) hB hoff ho hl hR
theorem QdP {x:Nat} (hx:x<256) (ho:48<S.vt.length) (hl:S.buf.length+16<=536870912) (hR:∀H',Qc H' p (slotN 1 x 255 48 S) F 0->R (.tuple #[]) H'):FnS prog 165 #[.pointer (some ⟨p,0,none⟩),.int .i8 (IntKind.i8.wrap (x:Int))] H R:=by
 apply w165
 unfold Yn
 exact Qeq (o:=48) (d:=255) hB hx (by decide) ho hl hR
theorem QhX {S0:BS} {n c:Nat} (h:YA S0 n c S) (hn:n<1000) (hv:Qhu S0) (hl:S0.buf.length+c+4096<=536870912) (hvl:S0.vts.length<=S0.buf.length)
  (hR:∀H',Qc H' p (endObj S) F 0->R (.int .u32 ((putOff 0 S).buf.length:Nat)) H'):FnS prog 166 #[.pointer (some ⟨p,0,none⟩)] H R:=by
 apply w166
 unfold Qgg
 exact Qiq hB h hn hv hl hvl hR
theorem Qio (hn:S.nested=false) (hR:∀H',Qc H' p (Qs 3 S) F r->R (.tuple #[]) H'):FnS prog 269 #[.pointer (some ⟨p,0,none⟩)] H R:=by
 apply w269
 unfold Qja
 exact YZ (n:=3) hB hn (by decide) hR
theorem QiG {off:Nat} (hoff:off<=S.buf.length) (ho:0<S.vt.length) (hl:S.buf.length+16<=536870912) (hR:∀H',Qc H' p (slotOff off 0 S) F 0->R (.tuple #[]) H'):FnS prog 270 #[.pointer (some ⟨p,0,none⟩),.int .u32 (off:Int)] H R:=by
 apply w270
 unfold Yn
 exact Qm (o:=0) hB hoff ho hl hR
theorem Qi7 {x:Nat} (hx:x<18446744073709551616) (ho:1<S.vt.length) (hl:S.buf.length+16<=536870912) (hR:∀H',Qc H' p (slotN 8 x 0 1 S) F 0->R (.tuple #[]) H'):FnS prog 271 #[.pointer (some ⟨p,0,none⟩),.int .i64 (IntKind.i64.wrap (x:Int))] H R:=by
 apply w271
 unfold Yn
 exact ZX (o:=1) (d:=0) hB hx (by decide) ho hl hR
theorem Qh9 {x:Nat} (hx:x<65536) (ho:2<S.vt.length) (hl:S.buf.length+16<=536870912) (hR:∀H',Qc H' p (slotN 2 x 0 2 S) F 0->R (.tuple #[]) H'):FnS prog 272 #[.pointer (some ⟨p,0,none⟩),.int .u16 (x:Int)] H R:=by
 apply w272
 unfold Yn
 exact QdN (o:=2) (d:=0) hB hx (by decide) ho hl hR
theorem Example_StatEnd {S0:BS} {n c:Nat} (h:YA S0 n c S) (hn:n<1000) (hv:Qhu S0) (hl:S0.buf.length+c+4096<=536870912) (hvl:S0.vts.length<=S0.buf.length)
  (hR:∀H',Qc H' p (endObj S) F 0->R (.int .u32 ((putOff 0 S).buf.length:Nat)) H'):FnS prog 273 #[.pointer (some ⟨p,0,none⟩)] H R:=by
 apply w273
 unfold Qgg
 exact Qiq hB h hn hv hl hvl hR
theorem QdD (hn:S.nested=false) (hR:∀H',Qc H' p (Qs 0 S) F r->R (.tuple #[]) H'):FnS prog 278 #[.pointer (some ⟨p,0,none⟩)] H R:=by
 apply w278
 unfold Qja
 exact YZ (n:=0) hB hn (by decide) hR
theorem Qeb {S0:BS} {n c:Nat} (h:YA S0 n c S) (hn:n<1000) (hv:Qhu S0) (hl:S0.buf.length+c+4096<=536870912) (hvl:S0.vts.length<=S0.buf.length)
  (hR:∀H',Qc H' p (endObj S) F 0->R (.int .u32 ((putOff 0 S).buf.length:Nat)) H'):FnS prog 279 #[.pointer (some ⟨p,0,none⟩)] H R:=by
 apply w279
 unfold Qgg
 exact Qiq hB h hn hv hl hvl hR
theorem Qfn (hn:S.nested=false) (hR:∀H',Qc H' p (Qs 1 S) F r->R (.tuple #[]) H'):FnS prog 280 #[.pointer (some ⟨p,0,none⟩)] H R:=by
 apply w280
 unfold Qja
 exact YZ (n:=1) hB hn (by decide) hR
theorem QfK {x:Nat} (hx:x<18446744073709551616) (ho:0<S.vt.length) (hl:S.buf.length+16<=536870912) (hR:∀H',Qc H' p (slotN 8 x 0 0 S) F 0->R (.tuple #[]) H'):FnS prog 281 #[.pointer (some ⟨p,0,none⟩),.int .u64 (x:Int)] H R:=by
 apply w281
 unfold Yn
 exact Yv (o:=0) (d:=0) hB hx (by decide) ho hl hR
theorem Qgy {S0:BS} {n c:Nat} (h:YA S0 n c S) (hn:n<1000) (hv:Qhu S0) (hl:S0.buf.length+c+4096<=536870912) (hvl:S0.vts.length<=S0.buf.length)
  (hR:∀H',Qc H' p (endObj S) F 0->R (.int .u32 ((putOff 0 S).buf.length:Nat)) H'):FnS prog 282 #[.pointer (some ⟨p,0,none⟩)] H R:=by
 apply w282
 unfold Qgg
 exact Qiq hB h hn hv hl hvl hR
theorem Qc2 (hn:S.nested=false) (hR:∀H',Qc H' p (Qs 1 S) F r->R (.tuple #[]) H'):FnS prog 339 #[.pointer (some ⟨p,0,none⟩)] H R:=by
 apply w339
 unfold Qja
 exact YZ (n:=1) hB hn (by decide) hR
theorem Qbp {x:Nat} (hx:x<256) (ho:0<S.vt.length) (hl:S.buf.length+16<=536870912) (hR:∀H',Qc H' p (slotN 1 x 2 0 S) F 0->R (.tuple #[]) H'):FnS prog 340 #[.pointer (some ⟨p,0,none⟩),.int .u8 (x:Int)] H R:=by
 apply w340
 unfold Yn
 exact Y5 (o:=0) (d:=2) hB hx (by decide) ho hl hR
theorem Qcu {S0:BS} {n c:Nat} (h:YA S0 n c S) (hn:n<1000) (hv:Qhu S0) (hl:S0.buf.length+c+4096<=536870912) (hvl:S0.vts.length<=S0.buf.length)
  (hR:∀H',Qc H' p (endObj S) F 0->R (.int .u32 ((putOff 0 S).buf.length:Nat)) H'):FnS prog 341 #[.pointer (some ⟨p,0,none⟩)] H R:=by
 apply w341
 unfold Qgg
 exact Qiq hB h hn hv hl hvl hR
theorem Example2_MonsterStart (hn:S.nested=false) (hR:∀H',Qc H' p (Qs 0 S) F r->R (.tuple #[]) H'):FnS prog 342 #[.pointer (some ⟨p,0,none⟩)] H R:=by
 apply w342
 unfold Qja
 exact YZ (n:=0) hB hn (by decide) hR
theorem Example2_MonsterEnd {S0:BS} {n c:Nat} (h:YA S0 n c S) (hn:n<1000) (hv:Qhu S0) (hl:S0.buf.length+c+4096<=536870912) (hvl:S0.vts.length<=S0.buf.length)
  (hR:∀H',Qc H' p (endObj S) F 0->R (.int .u32 ((putOff 0 S).buf.length:Nat)) H'):FnS prog 343 #[.pointer (some ⟨p,0,none⟩)] H R:=by
 apply w343
 unfold Qgg
 exact Qiq hB h hn hv hl hvl hR
omit hB in
theorem Qea {k a:Nat} {S:BS} (h:(S.buf.length+a)%k=0) (hm:k<=S.min):prep k a S=S:=by
 unfold prep
 rw[Za h,show Nat.max S.min k=S.min from Nat.max_eq_left hm]
 rfl
theorem al_Byte {b:UInt8} (ha:S.buf.length%1=0) (hm:1<=S.min) (hl:S.buf.length+16<=536870912) (hR:∀H',Qc H' p (place [b] S) F (r-1)->R (.tuple #[]) H'):FnS prog 115 #[.pointer (some ⟨p,0,none⟩),.int .u8 (b.toNat:Int)] H R:=by
 refine QcZ hB hl ?_
 intro H' h'
 have e:putN 1 [b] S=place [b] S:=by unfold putN;rw[Qea (by simpa using ha) hm]
 rw[e,Za ha]at h'
 refine hR H' (h'.room ?_)
 have:r-0<=Nat.max (r-0) (1+1):=Nat.le_max_left _ _
 generalize Nat.max (r-0) (1+1)=z at *
 omega
theorem al_Bool {b:Bool} (ha:S.buf.length%1=0) (hm:1<=S.min) (hl:S.buf.length+16<=536870912) (hR:∀H',Qc H' p (place [if b then 1 else 0] S) F (r-1)->R (.tuple #[]) H'):FnS prog 95 #[.pointer (some ⟨p,0,none⟩),.bool b] H R:=by
 refine Qg4 hB hl ?_
 intro H' h'
 have e:putN 1 [if b then 1 else 0] S=place [if b then 1 else 0] S:=by unfold putN;rw[Qea (by simpa using ha) hm]
 rw[e,Za ha]at h'
 refine hR H' (h'.room ?_)
 have:r-0<=Nat.max (r-0) (1+1):=Nat.le_max_left _ _
 generalize Nat.max (r-0) (1+1)=z at *
 omega
theorem al_Int8 {x:Int} (ha:S.buf.length%1=0) (hm:1<=S.min) (hl:S.buf.length+16<=536870912) (hR:∀H',Qc H' p (place (leB x 1) S) F (r-1)->R (.tuple #[]) H'):FnS prog 344 #[.pointer (some ⟨p,0,none⟩),.int .i8 x] H R:=by
 refine Qd0 hB hl ?_
 intro H' h'
 have e:putN 1 (leB x 1) S=place (leB x 1) S:=by unfold putN;rw[Qea (by simpa using ha) hm]
 rw[e,Za ha]at h'
 refine hR H' (h'.room ?_)
 have:r-0<=Nat.max (r-0) (1+1):=Nat.le_max_left _ _
 generalize Nat.max (r-0) (1+1)=z at *
 omega
theorem al_Int16 {x:Int} (ha:S.buf.length%2=0) (hm:2<=S.min) (hl:S.buf.length+16<=536870912) (hR:∀H',Qc H' p (place (leB x 2) S) F (r-2)->R (.tuple #[]) H'):FnS prog 345 #[.pointer (some ⟨p,0,none⟩),.int .i16 x] H R:=by
 refine QcD hB hl ?_
 intro H' h'
 have e:putN 2 (leB x 2) S=place (leB x 2) S:=by unfold putN;rw[Qea (by simpa using ha) hm]
 rw[e,Za ha]at h'
 refine hR H' (h'.room ?_)
 have:r-0<=Nat.max (r-0) (2+1):=Nat.le_max_left _ _
 generalize Nat.max (r-0) (2+1)=z at *
 omega
theorem al_Uint32 {x:Int} (ha:S.buf.length%4=0) (hm:4<=S.min) (hl:S.buf.length+16<=536870912) (hR:∀H',Qc H' p (place (leB x 4) S) F (r-4)->R (.tuple #[]) H'):FnS prog 348 #[.pointer (some ⟨p,0,none⟩),.int .u32 x] H R:=by
 refine Qcn hB hl ?_
 intro H' h'
 have e:putN 4 (leB x 4) S=place (leB x 4) S:=by unfold putN;rw[Qea (by simpa using ha) hm]
 rw[e,Za ha]at h'
 refine hR H' (h'.room ?_)
 have:r-0<=Nat.max (r-0) (4+1):=Nat.le_max_left _ _
 generalize Nat.max (r-0) (4+1)=z at *
 omega
theorem Qix {x:Nat} (ha:S.buf.length%4=0) (hm:4<=S.min) (hl:S.buf.length+16<=536870912) (hR:∀H',Qc H' p (place (leB x 4) S) F (r-4)->R (.tuple #[]) H'):FnS prog 352 #[.pointer (some ⟨p,0,none⟩),.float .f32 x] H R:=by
 refine QbR hB hl ?_
 intro H' h'
 have e:putN 4 (leB x 4) S=place (leB x 4) S:=by unfold putN;rw[Qea (by simpa using ha) hm]
 rw[e,Za ha]at h'
 refine hR H' (h'.room ?_)
 have:r-0<=Nat.max (r-0) (4+1):=Nat.le_max_left _ _
 generalize Nat.max (r-0) (4+1)=z at *
 omega
theorem al_Int64 {x:Int} (ha:S.buf.length%8=0) (hm:8<=S.min) (hl:S.buf.length+16<=536870912) (hR:∀H',Qc H' p (place (leB x 8) S) F (r-8)->R (.tuple #[]) H'):FnS prog 101 #[.pointer (some ⟨p,0,none⟩),.int .i64 x] H R:=by
 refine Qcx hB hl ?_
 intro H' h'
 have e:putN 8 (leB x 8) S=place (leB x 8) S:=by unfold putN;rw[Qea (by simpa using ha) hm]
 rw[e,Za ha]at h'
 refine hR H' (h'.room ?_)
 have:r-0<=Nat.max (r-0) (8+1):=Nat.le_max_left _ _
 generalize Nat.max (r-0) (8+1)=z at *
 omega
theorem al_Uint64 {x:Int} (ha:S.buf.length%8=0) (hm:8<=S.min) (hl:S.buf.length+16<=536870912) (hR:∀H',Qc H' p (place (leB x 8) S) F (r-8)->R (.tuple #[]) H'):FnS prog 108 #[.pointer (some ⟨p,0,none⟩),.int .u64 x] H R:=by
 refine Qck hB hl ?_
 intro H' h'
 have e:putN 8 (leB x 8) S=place (leB x 8) S:=by unfold putN;rw[Qea (by simpa using ha) hm]
 rw[e,Za ha]at h'
 refine hR H' (h'.room ?_)
 have:r-0<=Nat.max (r-0) (8+1):=Nat.le_max_left _ _
 generalize Nat.max (r-0) (8+1)=z at *
 omega
theorem al_Float64 {x:Nat} (ha:S.buf.length%8=0) (hm:8<=S.min) (hl:S.buf.length+16<=536870912) (hR:∀H',Qc H' p (place (leB x 8) S) F (r-8)->R (.tuple #[]) H'):FnS prog 103 #[.pointer (some ⟨p,0,none⟩),.float .f64 x] H R:=by
 refine QeJ hB hl ?_
 intro H' h'
 have e:putN 8 (leB x 8) S=place (leB x 8) S:=by unfold putN;rw[Qea (by simpa using ha) hm]
 rw[e,Za ha]at h'
 refine hR H' (h'.room ?_)
 have:r-0<=Nat.max (r-0) (8+1):=Nat.le_max_left _ _
 generalize Nat.max (r-0) (8+1)=z at *
 omega
theorem al_UOffsetT {off:Nat} (ha:S.buf.length%4=0) (hm:4<=S.min) (ho:off<=S.buf.length) (hl:S.buf.length+16<=536870912) (hR:∀H',Qc H' p (place (leB ((S.buf.length-off+4:Nat):Int) 4) S) F (r-4)->R (.tuple #[]) H'):
  FnS prog 73 #[.pointer (some ⟨p,0,none⟩),.int .u32 (off:Nat)] H R:=by
 refine Qa5 hB hl ho ?_
 intro H' h'
 have e:putOff off S=place (leB ((S.buf.length-off+4:Nat):Int) 4) S:=by unfold putOff;rw[Qea (by simpa using ha) hm]
 rw[e,Za ha]at h'
 refine hR H' (h'.room ?_)
 have:r-0<=Nat.max (r-0) 5:=Nat.le_max_left _ _
 generalize Nat.max (r-0) 5=z at *
 omega
theorem al_Prep {size add k:Nat} (hsz:size=2^k) (hk:k<=3) (ha:(S.buf.length+add)%size=0) (hm:size<=S.min) (hl:S.buf.length+add+16<=536870912) (hR:∀H',Qc H' p S F r->R (.tuple #[]) H'):
  FnS prog 72 #[.pointer (some ⟨p,0,none⟩),.int .i64 (size:Nat),.int .i64 (add:Nat)] H R:=by
 refine QV hB hsz hk rfl hl ?_
 intro H' h'
 rw[Qea ha hm,Za ha]at h'
 exact hR H' (h'.room (Nat.le_max_left _ _))
def QaJ (a b:Nat):List UInt8:=leB (a:Int) 2++(leB (b:Int) 1++[0])
def Zv (a b:Nat):List UInt8:=leB (a:Int) 4++leB (b:Int) 4
def vec3B (x y z t1 t2 a b:Nat):List UInt8:=
 leB (x:Int) 4++(leB (y:Int) 4++(leB (z:Int) 4++([0,0,0,0]++(leB (t1:Int) 8++(leB (t2:Int) 1++([0]++(leB (a:Int) 2++(leB (b:Int) 1++([0]++[0,0])))))))))
omit hB in
theorem Zh (a b:List UInt8) (S:BS):place a (place b S)=place (a++b) S:=by simp[place]
omit hB in
theorem Y2 (a:List UInt8) (S:BS):(place a S).buf.length=a.length+S.buf.length:=by simp[place]
omit hB in
theorem QaT (a:List UInt8) (S:BS):(place a S).min=S.min:=rfl
theorem QhM {a b:Nat} (hr:4<=r) (ha:S.buf.length%2=0) (hm:2<=S.min) (hl:S.buf.length+32<=536870912) (hR:∀H' v,Qc H' p (place (QaJ a b) S) F (r-4)->R v H'):
  FnS prog 267 #[.pointer (some ⟨p,0,none⟩),.int .i16 (IntKind.i16.wrap (a:Int)),.int .i8 (IntKind.i8.wrap (b:Int))] H R:=by
 apply w267
 unfold s267
 refine al_Prep (size:=2) (add:=4) (k:=1) hB (by decide) (by decide) (by omega) hm (by omega) ?_
 intro H1 h1
 refine QaV (n:=1) h1 rfl (by omega) ?_
 intro H2 h2
 have e1:(List.replicate 1 (0:UInt8))=[0]:=rfl
 rw[e1]at h2
 refine al_Int8 h2 (by rw[Y2];exact Nat.mod_one _) (by rw[QaT];omega) (by rw[Y2];simp;omega) ?_
 intro H3 h3
 rw[QdL (by decide),Zh]at h3
 refine al_Int16 h3 (by rw[Y2];simp[Qf];omega) (by rw[QaT];omega) (by rw[Y2];simp[Qf];omega) ?_
 intro H4 h4
 rw[QdL (by decide),Zh]at h4
 refine Yc h4 ?_
 exact hR H4 _ (h4.room (by omega))
theorem Qgz {a b:Nat} (hr:8<=r) (ha:S.buf.length%4=0) (hm:4<=S.min) (hl:S.buf.length+32<=536870912) (hR:∀H' v,Qc H' p (place (Zv a b) S) F (r-8)->R v H'):
  FnS prog 275 #[.pointer (some ⟨p,0,none⟩),.int .u32 (a:Int),.int .u32 (b:Int)] H R:=by
 apply w275
 unfold s275
 refine al_Prep (size:=4) (add:=8) (k:=2) hB (by decide) (by decide) (by omega) hm (by omega) ?_
 intro H1 h1
 refine al_Uint32 h1 (by omega) hm (by omega) ?_
 intro H3 h3
 refine al_Uint32 h3 (by rw[Y2];simp[Qf];omega) (by rw[QaT];omega) (by rw[Y2];simp[Qf];omega) ?_
 intro H4 h4
 rw[Zh]at h4
 refine Yc h4 ?_
 exact hR H4 _ (h4.room (by omega))
set_option maxHeartbeats 1000000 in
theorem QhQ {x y z t1 t2 a b:Nat} (ht2:t2<256) (hl:S.buf.length+96<=536870912) (hR:∀H',Qc H' p (place (vec3B x y z t1 t2 a b) (prep 8 32 S)) F 0->R (.int .u32 ((place (vec3B x y z t1 t2 a b) (prep 8 32 S)).buf.length:Nat)) H'):
  FnS prog 285 #[.pointer (some ⟨p,0,none⟩),.float .f32 x,.float .f32 y,.float .f32 z,.float .f64 t1,.int .u8 (t2:Int),.int .i16 (IntKind.i16.wrap (a:Int)),.int .i8 (IntKind.i8.wrap (b:Int))] H R:=by
 apply w285
 unfold s285
 refine QV (size:=8) (add:=32) (k:=3) hB (by decide) (by decide) rfl (by omega) ?_
 intro H1 h1
 have hr1:41<=Nat.max (r-padOf 8 (S.buf.length+32)) (8+32+1):=Nat.le_max_right _ _
 replace h1:=h1.room hr1
 have hm:8<=(prep 8 32 S).min:=Nat.le_max_right _ _
 have hal:(prep 8 32 S).buf.length%8=0:=by
  have:=QcE (size:=8) (n:=S.buf.length+32) (by decide)
  rw[Qar];omega
 have hll:(prep 8 32 S).buf.length<=S.buf.length+7:=by
  have:=Zw (size:=8) (n:=S.buf.length+32) (by decide)
  rw[Qar];omega
 generalize prep 8 32 S=S1 at *
 refine QaV (n:=2) h1 rfl (by omega) ?_
 intro H2 h2
 rw[show List.replicate 2 (0:UInt8)=[0,0] from rfl]at h2
 refine al_Prep (size:=2) (add:=4) (k:=1) h2 (by decide) (by decide) (by rw[Y2];simp;omega) (by rw[QaT];omega) (by rw[Y2];simp;omega) ?_
 intro H3 h3
 refine QaV (n:=1) h3 rfl (by omega) ?_
 intro H4 h4
 rw[show List.replicate 1 (0:UInt8)=[0] from rfl,Zh]at h4
 refine al_Int8 h4 (Nat.mod_one _) (by rw[QaT];omega) (by rw[Y2];simp;omega) ?_
 intro H5 h5
 rw[QdL (by decide),Zh]at h5
 refine al_Int16 h5 (by rw[Y2];simp[Qf];omega) (by rw[QaT];omega) (by rw[Y2];simp[Qf];omega) ?_
 intro H6 h6
 rw[QdL (by decide),Zh]at h6
 refine QaV (n:=1) h6 rfl (by omega) ?_
 intro H7 h7
 rw[show List.replicate 1 (0:UInt8)=[0] from rfl,Zh]at h7
 have eb:((UInt8.ofNat t2).toNat:Int)=(t2:Int):=by rw[UInt8.toNat_ofNat_of_lt' ht2]
 have eb2:[UInt8.ofNat t2]=leB (t2:Int) 1:=by
  rw[leB_1]
  unfold Zo
  congr 2
  simp;omega
 rw[<-eb]
 refine al_Byte h7 (Nat.mod_one _) (by rw[QaT];omega) (by rw[Y2];simp[Qf];omega) ?_
 intro H8 h8
 rw[eb2,Zh]at h8
 refine al_Float64 h8 (by rw[Y2];simp[Qf];omega) (by rw[QaT];omega) (by rw[Y2];simp[Qf];omega) ?_
 intro H9 h9
 rw[Zh]at h9
 refine QaV (n:=4) h9 rfl (by omega) ?_
 intro H10 h10
 rw[show List.replicate 4 (0:UInt8)=[0,0,0,0] from rfl,Zh]at h10
 refine Qix h10 (by rw[Y2];simp[Qf];omega) (by rw[QaT];omega) (by rw[Y2];simp[Qf];omega) ?_
 intro H11 h11
 rw[Zh]at h11
 refine Qix h11 (by rw[Y2];simp[Qf];omega) (by rw[QaT];omega) (by rw[Y2];simp[Qf];omega) ?_
 intro H12 h12
 rw[Zh]at h12
 refine Qix h12 (by rw[Y2];simp[Qf];omega) (by rw[QaT];omega) (by rw[Y2];simp[Qf];omega) ?_
 intro H13 h13
 rw[Zh]at h13
 refine Yc h13 ?_
 exact hR H13 (h13.room (Nat.zero_le _))
end
end Go.Proofs
namespace Go.Proofs
open Go Go.Vc
open Tryz (prog)
theorem byteN_getElem? {bs:List UInt8} {i:Nat}:byteN bs i=((bs[i]?).getD 0).toNat:=rfl
theorem byteN_putL {bs xs:List UInt8} {q i:Nat} (h:q+xs.length<=bs.length):byteN (Qb9 bs q xs) i=if q<=i/\i<q+xs.length then byteN xs (i-q) else byteN bs i:=by
 rw[QeE _ _ _ h]
 simp only[byteN_getElem?]
 by_cases h1:i<q
 ·have e:(bs.take q++xs++bs.drop (q+xs.length))[i]?=bs[i]?:=by
   rw[List.getElem?_append_left (by simp;omega),List.getElem?_append_left (by simp;omega),List.getElem?_take,if_pos h1]
  rw[e,if_neg (by omega)]
 ·by_cases h2:i<q+xs.length
  ·have e:(bs.take q++xs++bs.drop (q+xs.length))[i]?=xs[i-q]?:=by
    rw[List.getElem?_append_left (by simp;omega),List.getElem?_append_right (by simp;omega)]
    congr 1;simp;omega
   rw[e,if_pos (by omega)]
  ·have e:(bs.take q++xs++bs.drop (q+xs.length))[i]?=bs[i]?:=by
    rw[List.getElem?_append_right (by simp;omega),List.getElem?_drop]
    congr 1;simp;omega
   rw[e,if_neg (by omega)]
theorem Qgl {bs xs:List UInt8} {q i:Nat} (h:q+xs.length<=bs.length) (hi:i+2<=q\/q+xs.length<=i):le2 (Qb9 bs q xs) i=le2 bs i:=by
 unfold le2
 rw[byteN_putL h,byteN_putL h,if_neg (by omega),if_neg (by omega)]
theorem Qgu (x i:Nat):(Zo (x:Int) i).toNat=x/2^(8*i)%256:=by
 have h:=QhS (x:Int) i
 have e:((x:Int)/2^(8*i))%256=((x/2^(8*i)%256:Nat):Int):=by
  rw[Int.natCast_emod,Int.natCast_ediv,Int.natCast_pow];rfl
 rw[e]at h
 omega
theorem Qfl {x:Int} {k i:Nat} (hi:i<k):byteN (leB x k) i=(Zo x i).toNat:=by
 unfold byteN leB
 congr 1
 simp[List.getD,hi]
theorem Qik {x:Nat} {k:Nat} (hk:2<=k) (rest:List UInt8):le2 (leB (x:Int) k++rest) 0=x%65536:=by
 have hb:∀i,i<k->byteN (leB (x:Int) k++rest) i=x/2^(8*i)%256:=by
  intro i hi
  have:byteN (leB (x:Int) k++rest) i=byteN (leB (x:Int) k) i:=by
   unfold byteN
   congr 1
   simp only[List.getD]
   rw[List.getElem?_append_left (by rw[Qf];exact hi)]
  rw[this,Qfl hi,Qgu]
 unfold le2
 rw[hb 0 (by omega),Nat.zero_add,hb 1 (by omega)]
 simp;omega
theorem Qgt {x:Nat} {k:Nat} (hk:4<=k) (rest:List UInt8):le4 (leB (x:Int) k++rest) 0=x%4294967296:=by
 have hb:∀i,i<k->byteN (leB (x:Int) k++rest) i=x/2^(8*i)%256:=by
  intro i hi
  have:byteN (leB (x:Int) k++rest) i=byteN (leB (x:Int) k) i:=by
   unfold byteN
   congr 1
   simp only[List.getD]
   rw[List.getElem?_append_left (by rw[Qf];exact hi)]
  rw[this,Qfl hi,Qgu]
 rw[le4_eq,hb 0 (by omega),hb (0+1) (by omega),hb (0+2) (by omega),hb (0+3) (by omega)]
 simp;omega
theorem le8_leB {x:Nat} (rest:List UInt8):le8 (leB (x:Int) 8++rest) 0=x%18446744073709551616:=by
 have hb:∀i,i<8->byteN (leB (x:Int) 8++rest) i=x/2^(8*i)%256:=by
  intro i hi
  have:byteN (leB (x:Int) 8++rest) i=byteN (leB (x:Int) 8) i:=by
   unfold byteN
   congr 1
   simp only[List.getD]
   rw[List.getElem?_append_left (by rw[Qf];exact hi)]
  rw[this,Qfl hi,Qgu]
 rw[le8_eq,hb 0 (by omega),hb (0+1) (by omega),hb (0+2) (by omega),hb (0+3) (by omega),hb (0+4) (by omega),hb (0+5) (by omega),hb (0+6) (by omega),hb (0+7) (by omega)]
 simp;omega
structure Inv (S:BS):Prop where
 nested:S.nested=false
 vts:Qhu S
 nv:S.vts.length<=S.buf.length
 min:P2 S.min
theorem Inv.new:Inv QcW:=⟨rfl,fun o ho=>by simp[QcW]at ho,Nat.zero_le _,P2_1⟩
theorem wrEnt_ext (oo:Nat):∀(vs:List Nat) (S:BS),∃x,(Qa2 oo vs S).buf=x++S.buf/\2*vs.length<=x.length/\x.length<=3*vs.length
 |[],S=>⟨[],rfl,by simp,by simp⟩
 |v::vs,S=>by
  obtain ⟨x,hx,h1,h2⟩:=wrEnt_ext oo vs S
  have hp:=Zw (size:=2) (n:=(Qa2 oo vs S).buf.length+0) (by decide)
  refine ⟨leB ((if v≠0 then oo-v else 0:Nat):Int) 2++(List.replicate (padOf 2 ((Qa2 oo vs S).buf.length+0)) 0++x),?_,?_,?_⟩
  ·simp[Qa2,putN,place,prep,hx]
  ·simp only[List.length_append,Qf,List.length_replicate,List.length_cons];omega
  ·simp only[List.length_append,Qf,List.length_replicate,List.length_cons];omega
theorem Qfm (k:Nat) (xs:List UInt8) (S:BS):(putN k xs S).buf=xs++(List.replicate (padOf k (S.buf.length+0)) 0++S.buf):=by
 simp[putN,place,prep]
theorem wrEnt_min (oo:Nat):∀(vs:List Nat) (S:BS),P2 S.min->P2 (Qa2 oo vs S).min
 |[],_,h=>h
 |_::vs,S,h=>(wrEnt_min oo vs S h).max P2_2
theorem Inv.endObj {S0 S:BS} {n c:Nat} (h:YA S0 n c S) (h0:Inv S0) (hn:n<1000):
  Inv (endObj S)/\(endObj S).buf.length<=S.buf.length+3*n+16/\S.buf.length+4<=(endObj S).buf.length/\(putOff 0 S).buf.length<=(endObj S).buf.length:=by
 obtain ⟨x,hx⟩:=h.ext
 obtain ⟨y,hy,hy1,hy2⟩:=QdT 0 S
 have hS1:Qhu (putOff 0 S):=h0.vts.ext (S':=putOff 0 S) h.vts (x:=y++x) (by rw[hy,hx,List.append_assoc])
 have hle:∀o∈S.vts,o<=S.buf.length:=fun o ho=>by
  rw[h.vts]at ho
  have:=(h0.vts o ho).2.1
  rw[hx,List.length_append];omega
 have hS1l:(putOff 0 S).buf.length=y.length+S.buf.length:=by rw[hy,List.length_append]
 have hvl:((putOff 0 S).vt.take (Z4 (putOff 0 S).vt)).length<=n:=by
  rw[List.length_take]
  have:(putOff 0 S).vt.length=n:=h.vtl
  omega
 have k2:(putOff 0 S).vts=S.vts:=rfl
 have k5:P2 (putOff 0 S).min:=h.min.max P2_4
 rw[QgH S _ _ _ _ rfl rfl rfl rfl]
 generalize hvt:(putOff 0 S).vt.take (Z4 (putOff 0 S).vt)=vt at *
 generalize Qco (QaH vt (putOff 0 S).buf.length (putOff 0 S).buf) (putOff 0 S).vts=ex
 generalize hoo:(putOff 0 S).buf.length=oo at *
 generalize hS1e:putOff 0 S=S1 at *
 by_cases hex:ex=0
 ·rw[if_pos hex]
  have hS2b:({S1 with vt:=vt}:BS).buf=S1.buf:=rfl
  have hS2v:({S1 with vt:=vt}:BS).vts=S1.vts:=rfl
  have hS2m:P2 ({S1 with vt:=vt}:BS).min:=k5
  generalize ({S1 with vt:=vt}:BS)=S2 at *
  obtain ⟨z,hz,hz1,hz2⟩:=wrEnt_ext oo vt S2
  have hS3m:P2 (Qa2 oo vt S2).min:=wrEnt_min oo vt S2 hS2m
  have hS3v:=(Qec oo vt S2).2.1
  generalize Qa2 oo vt S2=S3 at *
  have e4:=Qfm 2 (leB ((oo-S.oe:Nat):Int) 2) S3
  have hS4m:P2 (putN 2 (leB ((oo-S.oe:Nat):Int) 2) S3).min:=hS3m.max P2_2
  have hp4:=Zw (size:=2) (n:=S3.buf.length+0) (by decide)
  generalize putN 2 (leB ((oo-S.oe:Nat):Int) 2) S3=S4 at *
  have e5:=Qfm 2 (leB ((2*(vt.length+2):Nat):Int) 2) S4
  have hS5m:P2 (putN 2 (leB ((2*(vt.length+2):Nat):Int) 2) S4).min:=hS4m.max P2_2
  have hp5:=Zw (size:=2) (n:=S4.buf.length+0) (by decide)
  have hle2:le2 (putN 2 (leB ((2*(vt.length+2):Nat):Int) 2) S4).buf 0=2*(vt.length+2):=by
   rw[e5,Qik (Nat.le_refl _),Nat.mod_eq_of_lt (by omega)]
  generalize putN 2 (leB ((2*(vt.length+2):Nat):Int) 2) S4=S5 at *
  obtain ⟨w,hw,hw1,hw2⟩:∃w,S5.buf=w++S1.buf/\2*vt.length+4<=w.length/\w.length<=3*n+6:=by
   refine ⟨leB ((2*(vt.length+2):Nat):Int) 2++(List.replicate (padOf 2 (S4.buf.length+0)) 0++(leB ((oo-S.oe:Nat):Int) 2++(List.replicate (padOf 2 (S3.buf.length+0)) 0++z))),?_,?_,?_⟩
   ·rw[e5,e4,hz,hS2b];simp
   ·simp only[List.length_append,Qf,List.length_replicate];omega
   ·simp only[List.length_append,Qf,List.length_replicate];omega
  have hw3:S5.buf.length-oo=w.length:=by rw[hw,List.length_append,hoo];omega
  have hwl:S5.buf.length=w.length+oo:=by rw[hw,List.length_append,hoo]
  rw[hw3]
  have hpl:(Qb9 S5.buf w.length (leB (w.length:Int) 4)).length=S5.buf.length:=Yd _ _ _
  refine ⟨⟨rfl,?_,?_,hS5m⟩,?_,?_,?_⟩
  ·intro o ho
   show 0<o/\o<=(Qb9 S5.buf w.length (leB (w.length:Int) 4)).length/\4<=le2 (Qb9 S5.buf w.length (leB (w.length:Int) 4)) ((Qb9 S5.buf w.length (leB (w.length:Int) 4)).length-o)/\le2 (Qb9 S5.buf w.length (leB (w.length:Int) 4)) ((Qb9 S5.buf w.length (leB (w.length:Int) 4)).length-o)<=o
   rw[hpl]
   rcases List.mem_append.1 (show o∈S1.vts++[S5.buf.length] from ho) with ho|ho
   ·have ho2:=hle o (by rw[<-k2];exact ho)
    obtain ⟨q1,q2,q3,q4⟩:=hS1 o ho
    have e:le2 (Qb9 S5.buf w.length (leB (w.length:Int) 4)) (S5.buf.length-o)=le2 S1.buf (S1.buf.length-o):=by
     rw[Qgl (by rw[Qf];omega) (by rw[Qf];omega),hw,show (w++S1.buf).length-o=w.length+(S1.buf.length-o) by rw[List.length_append];omega,YN]
    rw[e]
    exact ⟨q1,by omega,q3,q4⟩
   ·have:o=S5.buf.length:=by simpa using ho
    subst this
    rw[Nat.sub_self,Qgl (by rw[Qf];omega) (by omega),hle2]
    omega
  ·show (S1.vts++[S5.buf.length]).length<=(Qb9 S5.buf w.length (leB (w.length:Int) 4)).length
   rw[hpl,List.length_append,k2,h.vts]
   have:=h0.nv
   have:=h.le
   simp;omega
  ·show (Qb9 S5.buf w.length (leB (w.length:Int) 4)).length<=_
   rw[hpl];omega
  ·show _<=(Qb9 S5.buf w.length (leB (w.length:Int) 4)).length
   rw[hpl];omega
  ·show _<=(Qb9 S5.buf w.length (leB (w.length:Int) 4)).length
   rw[hpl];omega
 ·rw[if_neg hex]
  have hpl:(Qb9 S1.buf 0 (leB ((ex:Int)-(oo:Int)) 4)).length=S1.buf.length:=Yd _ _ _
  refine ⟨⟨rfl,?_,?_,k5⟩,?_,?_,?_⟩
  ·intro o ho
   have ho2:=hle o (by rw[<-k2];exact ho)
   obtain ⟨q1,q2,q3,q4⟩:=hS1 o ho
   show 0<o/\o<=(Qb9 S1.buf 0 (leB ((ex:Int)-(oo:Int)) 4)).length/\4<=le2 (Qb9 S1.buf 0 (leB ((ex:Int)-(oo:Int)) 4)) ((Qb9 S1.buf 0 (leB ((ex:Int)-(oo:Int)) 4)).length-o)/\le2 (Qb9 S1.buf 0 (leB ((ex:Int)-(oo:Int)) 4)) ((Qb9 S1.buf 0 (leB ((ex:Int)-(oo:Int)) 4)).length-o)<=o
   rw[hpl,Qgl (by rw[Qf];omega) (by rw[Qf];omega)]
   exact ⟨q1,q2,q3,q4⟩
  ·show S1.vts.length<=(Qb9 S1.buf 0 (leB ((ex:Int)-(oo:Int)) 4)).length
   rw[hpl,k2,h.vts]
   have:=h0.nv
   have:=h.le
   omega
  ·show (Qb9 S1.buf 0 (leB ((ex:Int)-(oo:Int)) 4)).length<=_
   rw[hpl];omega
  ·show _<=(Qb9 S1.buf 0 (leB ((ex:Int)-(oo:Int)) 4)).length
   rw[hpl];omega
  ·show _<=(Qb9 S1.buf 0 (leB ((ex:Int)-(oo:Int)) 4)).length
   rw[hpl];omega
end Go.Proofs
namespace Go.Proofs
open Go Go.Vc
open Tryz (prog)
set_option maxRecDepth 100000
def s21 (b a:Value) (h:Qe) (R:Kn):Prop:=
 Qr prog .eql 66 b (.pointer none) fun z0=>
 IfK z0
 (R (.int .u32 0) h)
 (Q5 b fun z1=>
 Qh z1 3 fun z2=>
 LdK h z2 fun z3=>
 Qb prog 85 #[a,z3] h fun z4 d5=>
 QG (fun d6=>
 Q5 b fun z5=>
 Qh z5 4 fun z6=>
 LdK d5 z6 fun z7=>
 Qr prog .neq 69 z7 (.slice none 0 0) fun z8=>
 IfK z8
 (Q5 b fun z9=>
 Qh z9 4 fun a00=>
 LdK d5 a00 fun a01=>
 Qb prog 86 #[a,a01] d5 fun a02 a03=>
 d6 [a02] a03)
 (d6 [(.int .u32 0)] d5)) fun d6=>∀m2:Value,∀g7:Qe,d6 [m2] g7->
 Q5 b fun a04=>
 Qh a04 6 fun a05=>
 LdK g7 a05 fun a06=>
 Qb prog 87 #[a06,a] g7 fun a07 d7=>
 QG (fun d8=>
 Q5 b fun a08=>
 Qh a08 7 fun a09=>
 LdK d7 a09 fun a10=>
 Qr prog .neq 136 a10 (.slice none 0 0) fun a11=>
 IfK a11
 (Q5 b fun a12=>
 Qh a12 7 fun a13=>
 LdK d7 a13 fun a14=>
 YQ a14 fun g8=>
 Qb prog 88 #[a,g8] d7 fun _x108 a15=>
 QG (fun g9=>
 Qr prog .sub 3 g8 (.int .i64 1) fun a16=>
 YH [a16] a15 fun m3 m4=>∀p:Value,∀q:Qe,m3 m4 [p] q->
 Qr prog .geq 3 p (.int .i64 0) fun a17=>
 IfK a17
 (Q5 b fun a18=>
 Qh a18 7 fun a19=>
 LdK q a19 fun a20=>
 Y7 1 a20 p fun a21=>
 LdK q a21 fun a22=>
 Qb prog 89 #[a22,a] q fun _x123 a23=>
 Qr prog .sub 3 p (.int .i64 1) fun a24=>
 QZ m3 m4 [a24] a23)
 (g9 [p] q)) fun g9=>∀a25:Value,∀m5:Qe,g9 [a25] m5->
 Qb prog 90 #[a,g8] m5 fun a26 a27=>
 d8 [a26] a27)
 (d8 [(.int .u32 0)] d7)) fun d8=>∀m6:Value,∀r:Qe,d8 [m6] r->
 QG (fun d9=>
 Q5 b fun a28=>
 Qh a28 8 fun a29=>
 LdK r a29 fun a30=>
 Qr prog .neq 28 a30 (.slice none 0 0) fun a31=>
 IfK a31
 (Q5 b fun a32=>
 Qh a32 8 fun a33=>
 LdK r a33 fun a34=>
 YQ a34 fun c=>
 Qf4 r 65 4 z65 c c fun m7 a35=>
 QG (fun i0=>
 YH [(.int .i64 0)] a35 fun m8 m9=>∀d:Value,∀s:Qe,m8 m9 [d] s->
 Qr prog .lss 3 d c fun a36=>
 IfK a36
 (Q5 b fun a37=>
 Qh a37 8 fun a38=>
 LdK s a38 fun a39=>
 Y7 1 a39 d fun a40=>
 LdK s a40 fun a41=>
 Qb prog 85 #[a,a41] s fun a42 a43=>
 Y7 1 m7 d fun a44=>
 StK a43 1 a44 a42 fun a45=>
 Qr prog .add 3 d (.int .i64 1) fun a46=>
 QZ m8 m9 [a46] a45)
 (i0 [d] s)) fun i0=>∀a47:Value,∀o0:Qe,i0 [a47] o0->
 Qb prog 91 #[a,c] o0 fun _x158 a48=>
 QG (fun i1=>
 Qr prog .sub 3 c (.int .i64 1) fun a49=>
 YH [a49] a48 fun o1 o2=>∀t:Value,∀e0:Qe,o1 o2 [t] e0->
 Qr prog .geq 3 t (.int .i64 0) fun a50=>
 IfK a50
 (Y7 1 m7 t fun a51=>
 LdK e0 a51 fun a52=>
 Qb prog 73 #[a,a52] e0 fun _x170 a53=>
 Qr prog .sub 3 t (.int .i64 1) fun a54=>
 QZ o1 o2 [a54] a53)
 (i1 [t] e0)) fun i1=>∀a55:Value,∀o3:Qe,i1 [a55] o3->
 Qb prog 90 #[a,c] o3 fun a56 a57=>
 d9 [a56] a57)
 (d9 [(.int .u32 0)] r)) fun d9=>∀o4:Value,∀u:Qe,d9 [o4] u->
 QG (fun e1=>
 Q5 b fun a58=>
 Qh a58 9 fun a59=>
 LdK u a59 fun a60=>
 Qr prog .neq 145 a60 (.slice none 0 0) fun a61=>
 IfK a61
 (Q5 b fun a62=>
 Qh a62 9 fun a63=>
 LdK u a63 fun a64=>
 YQ a64 fun e=>
 Qf4 u 65 4 z65 e e fun o5 a65=>
 QG (fun i2=>
 YH [(.int .i64 0)] a65 fun o6 o7=>∀f:Value,∀v:Qe,o6 o7 [f] v->
 Qr prog .lss 3 f e fun a66=>
 IfK a66
 (Q5 b fun a67=>
 Qh a67 9 fun a68=>
 LdK v a68 fun a69=>
 Y7 1 a69 f fun a70=>
 LdK v a70 fun a71=>
 Qb prog 21 #[a71,a] v fun a72 a73=>
 Y7 1 o5 f fun a74=>
 StK a73 1 a74 a72 fun a75=>
 Qr prog .add 3 f (.int .i64 1) fun a76=>
 QZ o6 o7 [a76] a75)
 (i2 [f] v)) fun i2=>∀a77:Value,∀o8:Qe,i2 [a77] o8->
 Qb prog 92 #[a,e] o8 fun _x205 a78=>
 QG (fun i3=>
 Qr prog .sub 3 e (.int .i64 1) fun a79=>
 YH [a79] a78 fun o9 p0=>∀w:Value,∀e2:Qe,o9 p0 [w] e2->
 Qr prog .geq 3 w (.int .i64 0) fun a80=>
 IfK a80
 (Y7 1 o5 w fun a81=>
 LdK e2 a81 fun a82=>
 Qb prog 73 #[a,a82] e2 fun _x217 a83=>
 Qr prog .sub 3 w (.int .i64 1) fun a84=>
 QZ o9 p0 [a84] a83)
 (i3 [w] e2)) fun i3=>∀a85:Value,∀p1:Qe,i3 [a85] p1->
 Qb prog 90 #[a,e] p1 fun a86 a87=>
 e1 [a86] a87)
 (e1 [(.int .u32 0)] u)) fun e1=>∀p2:Value,∀i4:Qe,e1 [p2] i4->
 Q5 b fun a88=>
 Qh a88 10 fun a89=>
 LdK i4 a89 fun a90=>
 Qb prog 21 #[a90,a] i4 fun a91 e3=>
 QG (fun e4=>
 Q5 b fun a92=>
 Qh a92 11 fun a93=>
 LdK e3 a93 fun a94=>
 Qr prog .neq 69 a94 (.slice none 0 0) fun a95=>
 IfK a95
 (Q5 b fun a96=>
 Qh a96 11 fun a97=>
 LdK e3 a97 fun a98=>
 Qb prog 86 #[a,a98] e3 fun a99 b00=>
 e4 [a99] b00)
 (e4 [(.int .u32 0)] e3)) fun e4=>∀p3:Value,∀i5:Qe,e4 [p3] i5->
 Q5 b fun b01=>
 Qh b01 12 fun b02=>
 LdK i5 b02 fun b03=>
 Qb prog 93 #[b03,a] i5 fun b04 e5=>
 QG (fun e6=>
 Q5 b fun b05=>
 Qh b05 22 fun b06=>
 LdK e5 b06 fun b07=>
 Qr prog .neq 32 b07 (.slice none 0 0) fun b08=>
 IfK b08
 (Q5 b fun b09=>
 Qh b09 22 fun b10=>
 LdK e5 b10 fun b11=>
 YQ b11 fun i6=>
 Qb prog 94 #[a,i6] e5 fun _x256 b12=>
 QG (fun i7=>
 Qr prog .sub 3 i6 (.int .i64 1) fun b13=>
 YH [b13] b12 fun p4 p5=>∀y:Value,∀z:Qe,p4 p5 [y] z->
 Qr prog .geq 3 y (.int .i64 0) fun b14=>
 IfK b14
 (Q5 b fun b15=>
 Qh b15 22 fun b16=>
 LdK z b16 fun b17=>
 Y7 1 b17 y fun b18=>
 LdK z b18 fun b19=>
 Qb prog 95 #[a,b19] z fun _x271 b20=>
 Qr prog .sub 3 y (.int .i64 1) fun b21=>
 QZ p4 p5 [b21] b20)
 (i7 [y] z)) fun i7=>∀b22:Value,∀p6:Qe,i7 [b22] p6->
 Qb prog 90 #[a,i6] p6 fun b23 b24=>
 e6 [b23] b24)
 (e6 [(.int .u32 0)] e5)) fun e6=>∀p7:Value,∀a0:Qe,e6 [p7] a0->
 QG (fun e7=>
 Q5 b fun b25=>
 Qh b25 26 fun b26=>
 LdK a0 b26 fun b27=>
 Qr prog .neq 28 b27 (.slice none 0 0) fun b28=>
 IfK b28
 (Q5 b fun b29=>
 Qh b29 26 fun b30=>
 LdK a0 b30 fun b31=>
 YQ b31 fun g=>
 Qf4 a0 65 4 z65 g g fun p8 b32=>
 QG (fun i8=>
 YH [(.int .i64 0)] b32 fun p9 q0=>∀i:Value,∀a1:Qe,p9 q0 [i] a1->
 Qr prog .lss 3 i g fun b33=>
 IfK b33
 (Q5 b fun b34=>
 Qh b34 26 fun b35=>
 LdK a1 b35 fun b36=>
 Y7 1 b36 i fun b37=>
 LdK a1 b37 fun b38=>
 Qb prog 85 #[a,b38] a1 fun b39 b40=>
 Y7 1 p8 i fun b41=>
 StK b40 1 b41 b39 fun b42=>
 Qr prog .add 3 i (.int .i64 1) fun b43=>
 QZ p9 q0 [b43] b42)
 (i8 [i] a1)) fun i8=>∀b44:Value,∀q1:Qe,i8 [b44] q1->
 Qb prog 96 #[a,g] q1 fun _x306 b45=>
 QG (fun i9=>
 Qr prog .sub 3 g (.int .i64 1) fun b46=>
 YH [b46] b45 fun q2 q3=>∀a2:Value,∀e8:Qe,q2 q3 [a2] e8->
 Qr prog .geq 3 a2 (.int .i64 0) fun b47=>
 IfK b47
 (Y7 1 p8 a2 fun b48=>
 LdK e8 b48 fun b49=>
 Qb prog 73 #[a,b49] e8 fun _x318 b50=>
 Qr prog .sub 3 a2 (.int .i64 1) fun b51=>
 QZ q2 q3 [b51] b50)
 (i9 [a2] e8)) fun i9=>∀b52:Value,∀q4:Qe,i9 [b52] q4->
 Qb prog 90 #[a,g] q4 fun b53 b54=>
 e7 [b53] b54)
 (e7 [(.int .u32 0)] a0)) fun e7=>∀q5:Value,∀a3:Qe,e7 [q5] a3->
 QG (fun e9=>
 Q5 b fun b55=>
 Qh b55 27 fun b56=>
 LdK a3 b56 fun b57=>
 Qr prog .neq 147 b57 (.slice none 0 0) fun b58=>
 IfK b58
 (Q5 b fun b59=>
 Qh b59 27 fun b60=>
 LdK a3 b60 fun b61=>
 YQ b61 fun j0=>
 Qb prog 97 #[a,j0] a3 fun _x334 b62=>
 QG (fun j1=>
 Qr prog .sub 3 j0 (.int .i64 1) fun b63=>
 YH [b63] b62 fun q6 q7=>∀a4:Value,∀a5:Qe,q6 q7 [a4] a5->
 Qr prog .geq 3 a4 (.int .i64 0) fun b64=>
 IfK b64
 (Q5 b fun b65=>
 Qh b65 27 fun b66=>
 LdK a5 b66 fun b67=>
 Y7 1 b67 a4 fun b68=>
 LdK a5 b68 fun b69=>
 Qb prog 98 #[b69,a] a5 fun _x349 b70=>
 Qr prog .sub 3 a4 (.int .i64 1) fun b71=>
 QZ q6 q7 [b71] b70)
 (j1 [a4] a5)) fun j1=>∀b72:Value,∀q8:Qe,j1 [b72] q8->
 Qb prog 90 #[a,j0] q8 fun b73 b74=>
 e9 [b73] b74)
 (e9 [(.int .u32 0)] a3)) fun e9=>∀q9:Value,∀a6:Qe,e9 [q9] a6->
 QG (fun f0=>
 Q5 b fun b75=>
 Qh b75 28 fun b76=>
 LdK a6 b76 fun b77=>
 Qr prog .neq 69 b77 (.slice none 0 0) fun b78=>
 IfK b78
 (Q5 b fun b79=>
 Qh b79 28 fun b80=>
 LdK a6 b80 fun b81=>
 Qb prog 86 #[a,b81] a6 fun b82 b83=>
 f0 [b82] b83)
 (f0 [(.int .u32 0)] a6)) fun f0=>∀r0:Value,∀a7:Qe,f0 [r0] a7->
 QG (fun f1=>
 Q5 b fun b84=>
 Qh b84 29 fun b85=>
 LdK a7 b85 fun b86=>
 Qr prog .neq 136 b86 (.slice none 0 0) fun b87=>
 IfK b87
 (Q5 b fun b88=>
 Qh b88 29 fun b89=>
 LdK a7 b89 fun b90=>
 YQ b90 fun j2=>
 Qb prog 99 #[a,j2] a7 fun _x376 b91=>
 QG (fun j3=>
 Qr prog .sub 3 j2 (.int .i64 1) fun b92=>
 YH [b92] b91 fun r1 r2=>∀a8:Value,∀a9:Qe,r1 r2 [a8] a9->
 Qr prog .geq 3 a8 (.int .i64 0) fun b93=>
 IfK b93
 (Q5 b fun b94=>
 Qh b94 29 fun b95=>
 LdK a9 b95 fun b96=>
 Y7 1 b96 a8 fun b97=>
 LdK a9 b97 fun b98=>
 Qb prog 89 #[b98,a] a9 fun _x391 b99=>
 Qr prog .sub 3 a8 (.int .i64 1) fun c00=>
 QZ r1 r2 [c00] b99)
 (j3 [a8] a9)) fun j3=>∀c01:Value,∀r3:Qe,j3 [c01] r3->
 Qb prog 90 #[a,j2] r3 fun c02 c03=>
 f1 [c02] c03)
 (f1 [(.int .u32 0)] a7)) fun f1=>∀r4:Value,∀b0:Qe,f1 [r4] b0->
 QG (fun f2=>
 Q5 b fun c04=>
 Qh c04 30 fun c05=>
 LdK b0 c05 fun c06=>
 Qr prog .neq 34 c06 (.slice none 0 0) fun c07=>
 IfK c07
 (Q5 b fun c08=>
 Qh c08 30 fun c09=>
 LdK b0 c09 fun c10=>
 YQ c10 fun j4=>
 Qb prog 100 #[a,j4] b0 fun _x407 c11=>
 QG (fun j5=>
 Qr prog .sub 3 j4 (.int .i64 1) fun c12=>
 YH [c12] c11 fun r5 r6=>∀b1:Value,∀b2:Qe,r5 r6 [b1] b2->
 Qr prog .geq 3 b1 (.int .i64 0) fun c13=>
 IfK c13
 (Q5 b fun c14=>
 Qh c14 30 fun c15=>
 LdK b2 c15 fun c16=>
 Y7 1 c16 b1 fun c17=>
 LdK b2 c17 fun c18=>
 Qb prog 101 #[a,c18] b2 fun _x422 c19=>
 Qr prog .sub 3 b1 (.int .i64 1) fun c20=>
 QZ r5 r6 [c20] c19)
 (j5 [b1] b2)) fun j5=>∀c21:Value,∀r7:Qe,j5 [c21] r7->
 Qb prog 90 #[a,j4] r7 fun c22 c23=>
 f2 [c22] c23)
 (f2 [(.int .u32 0)] b0)) fun f2=>∀r8:Value,∀b3:Qe,f2 [r8] b3->
 QG (fun f3=>
 Q5 b fun c24=>
 Qh c24 31 fun c25=>
 LdK b3 c25 fun c26=>
 Qr prog .neq 148 c26 (.slice none 0 0) fun c27=>
 IfK c27
 (Q5 b fun c28=>
 Qh c28 31 fun c29=>
 LdK b3 c29 fun c30=>
 YQ c30 fun j6=>
 Qb prog 102 #[a,j6] b3 fun _x438 c31=>
 QG (fun j7=>
 Qr prog .sub 3 j6 (.int .i64 1) fun c32=>
 YH [c32] c31 fun r9 s0=>∀b4:Value,∀b5:Qe,r9 s0 [b4] b5->
 Qr prog .geq 3 b4 (.int .i64 0) fun c33=>
 IfK c33
 (Q5 b fun c34=>
 Qh c34 31 fun c35=>
 LdK b5 c35 fun c36=>
 Y7 1 c36 b4 fun c37=>
 LdK b5 c37 fun c38=>
 Qb prog 103 #[a,c38] b5 fun _x453 c39=>
 Qr prog .sub 3 b4 (.int .i64 1) fun c40=>
 QZ r9 s0 [c40] c39)
 (j7 [b4] b5)) fun j7=>∀c41:Value,∀s1:Qe,j7 [c41] s1->
 Qb prog 90 #[a,j6] s1 fun c42 c43=>
 f3 [c42] c43)
 (f3 [(.int .u32 0)] b3)) fun f3=>∀s2:Value,∀j8:Qe,f3 [s2] j8->
 Q5 b fun c44=>
 Qh c44 32 fun c45=>
 LdK j8 c45 fun c46=>
 Qb prog 104 #[c46,a] j8 fun c47 f4=>
 QG (fun f5=>
 Q5 b fun c48=>
 Qh c48 33 fun c49=>
 LdK f4 c49 fun c50=>
 Qr prog .neq 140 c50 (.slice none 0 0) fun c51=>
 IfK c51
 (Q5 b fun c52=>
 Qh c52 33 fun c53=>
 LdK f4 c53 fun c54=>
 YQ c54 fun j=>
 Qf4 f4 65 4 z65 j j fun s3 c55=>
 QG (fun j9=>
 YH [(.int .i64 0)] c55 fun s4 s5=>∀l:Value,∀b6:Qe,s4 s5 [l] b6->
 Qr prog .lss 3 l j fun c56=>
 IfK c56
 (Q5 b fun c57=>
 Qh c57 33 fun c58=>
 LdK b6 c58 fun c59=>
 Y7 1 c59 l fun c60=>
 LdK b6 c60 fun c61=>
 Qb prog 105 #[c61,a] b6 fun c62 c63=>
 Y7 1 s3 l fun c64=>
 StK c63 1 c64 c62 fun c65=>
 Qr prog .add 3 l (.int .i64 1) fun c66=>
 QZ s4 s5 [c66] c65)
 (j9 [l] b6)) fun j9=>∀c67:Value,∀s6:Qe,j9 [c67] s6->
 Qb prog 106 #[a,j] s6 fun _x494 c68=>
 QG (fun l0=>
 Qr prog .sub 3 j (.int .i64 1) fun c69=>
 YH [c69] c68 fun s7 s8=>∀b7:Value,∀f6:Qe,s7 s8 [b7] f6->
 Qr prog .geq 3 b7 (.int .i64 0) fun c70=>
 IfK c70
 (Y7 1 s3 b7 fun c71=>
 LdK f6 c71 fun c72=>
 Qb prog 73 #[a,c72] f6 fun _x506 c73=>
 Qr prog .sub 3 b7 (.int .i64 1) fun c74=>
 QZ s7 s8 [c74] c73)
 (l0 [b7] f6)) fun l0=>∀c75:Value,∀s9:Qe,l0 [c75] s9->
 Qb prog 90 #[a,j] s9 fun c76 c77=>
 f5 [c76] c77)
 (f5 [(.int .u32 0)] f4)) fun f5=>∀t0:Value,∀b8:Qe,f5 [t0] b8->
 QG (fun f7=>
 Q5 b fun c78=>
 Qh c78 35 fun c79=>
 LdK b8 c79 fun c80=>
 Qr prog .neq 35 c80 (.slice none 0 0) fun c81=>
 IfK c81
 (Q5 b fun c82=>
 Qh c82 35 fun c83=>
 LdK b8 c83 fun c84=>
 YQ c84 fun l1=>
 Qb prog 107 #[a,l1] b8 fun _x522 c85=>
 QG (fun l2=>
 Qr prog .sub 3 l1 (.int .i64 1) fun c86=>
 YH [c86] c85 fun t1 t2=>∀b9:Value,∀c0:Qe,t1 t2 [b9] c0->
 Qr prog .geq 3 b9 (.int .i64 0) fun c87=>
 IfK c87
 (Q5 b fun c88=>
 Qh c88 35 fun c89=>
 LdK c0 c89 fun c90=>
 Y7 1 c90 b9 fun c91=>
 LdK c0 c91 fun c92=>
 Qb prog 108 #[a,c92] c0 fun _x537 c93=>
 Qr prog .sub 3 b9 (.int .i64 1) fun c94=>
 QZ t1 t2 [c94] c93)
 (l2 [b9] c0)) fun l2=>∀c95:Value,∀t3:Qe,l2 [c95] t3->
 Qb prog 90 #[a,l1] t3 fun c96 c97=>
 f7 [c96] c97)
 (f7 [(.int .u32 0)] b8)) fun f7=>∀t4:Value,∀c1:Qe,f7 [t4] c1->
 QG (fun f8=>
 Q5 b fun c98=>
 Qh c98 36 fun c99=>
 LdK c1 c99 fun d00=>
 Qr prog .neq 140 d00 (.slice none 0 0) fun d01=>
 IfK d01
 (Q5 b fun d02=>
 Qh d02 36 fun d03=>
 LdK c1 d03 fun d04=>
 YQ d04 fun m=>
 Qf4 c1 65 4 z65 m m fun t5 d05=>
 QG (fun l3=>
 YH [(.int .i64 0)] d05 fun t6 t7=>∀o:Value,∀c2:Qe,t6 t7 [o] c2->
 Qr prog .lss 3 o m fun d06=>
 IfK d06
 (Q5 b fun d07=>
 Qh d07 36 fun d08=>
 LdK c2 d08 fun d09=>
 Y7 1 d09 o fun d10=>
 LdK c2 d10 fun d11=>
 Qb prog 105 #[d11,a] c2 fun d12 d13=>
 Y7 1 t5 o fun d14=>
 StK d13 1 d14 d12 fun d15=>
 Qr prog .add 3 o (.int .i64 1) fun d16=>
 QZ t6 t7 [d16] d15)
 (l3 [o] c2)) fun l3=>∀d17:Value,∀t8:Qe,l3 [d17] t8->
 Qb prog 109 #[a,m] t8 fun _x572 d18=>
 QG (fun l4=>
 Qr prog .sub 3 m (.int .i64 1) fun d19=>
 YH [d19] d18 fun t9 u0=>∀c3:Value,∀f9:Qe,t9 u0 [c3] f9->
 Qr prog .geq 3 c3 (.int .i64 0) fun d20=>
 IfK d20
 (Y7 1 t5 c3 fun d21=>
 LdK f9 d21 fun d22=>
 Qb prog 73 #[a,d22] f9 fun _x584 d23=>
 Qr prog .sub 3 c3 (.int .i64 1) fun d24=>
 QZ t9 u0 [d24] d23)
 (l4 [c3] f9)) fun l4=>∀d25:Value,∀u1:Qe,l4 [d25] u1->
 Qb prog 90 #[a,m] u1 fun d26 d27=>
 f8 [d26] d27)
 (f8 [(.int .u32 0)] c1)) fun f8=>∀u2:Value,∀c4:Qe,f8 [u2] c4->
 QG (fun g0=>
 Q5 b fun d28=>
 Qh d28 38 fun d29=>
 LdK c4 d29 fun d30=>
 Qr prog .neq 35 d30 (.slice none 0 0) fun d31=>
 IfK d31
 (Q5 b fun d32=>
 Qh d32 38 fun d33=>
 LdK c4 d33 fun d34=>
 YQ d34 fun l5=>
 Qb prog 110 #[a,l5] c4 fun _x600 d35=>
 QG (fun l6=>
 Qr prog .sub 3 l5 (.int .i64 1) fun d36=>
 YH [d36] d35 fun u3 u4=>∀c5:Value,∀c6:Qe,u3 u4 [c5] c6->
 Qr prog .geq 3 c5 (.int .i64 0) fun d37=>
 IfK d37
 (Q5 b fun d38=>
 Qh d38 38 fun d39=>
 LdK c6 d39 fun d40=>
 Y7 1 d40 c5 fun d41=>
 LdK c6 d41 fun d42=>
 Qb prog 108 #[a,d42] c6 fun _x615 d43=>
 Qr prog .sub 3 c5 (.int .i64 1) fun d44=>
 QZ u3 u4 [d44] d43)
 (l6 [c5] c6)) fun l6=>∀d45:Value,∀u5:Qe,l6 [d45] u5->
 Qb prog 90 #[a,l5] u5 fun d46 d47=>
 g0 [d46] d47)
 (g0 [(.int .u32 0)] c4)) fun g0=>∀u6:Value,∀c7:Qe,g0 [u6] c7->
 QG (fun g1=>
 Q5 b fun d48=>
 Qh d48 40 fun d49=>
 LdK c7 d49 fun d50=>
 Qr prog .neq 35 d50 (.slice none 0 0) fun d51=>
 IfK d51
 (Q5 b fun d52=>
 Qh d52 40 fun d53=>
 LdK c7 d53 fun d54=>
 YQ d54 fun l7=>
 Qb prog 111 #[a,l7] c7 fun _x631 d55=>
 QG (fun l8=>
 Qr prog .sub 3 l7 (.int .i64 1) fun d56=>
 YH [d56] d55 fun u7 u8=>∀c8:Value,∀c9:Qe,u7 u8 [c8] c9->
 Qr prog .geq 3 c8 (.int .i64 0) fun d57=>
 IfK d57
 (Q5 b fun d58=>
 Qh d58 40 fun d59=>
 LdK c9 d59 fun d60=>
 Y7 1 d60 c8 fun d61=>
 LdK c9 d61 fun d62=>
 Qb prog 108 #[a,d62] c9 fun _x646 d63=>
 Qr prog .sub 3 c8 (.int .i64 1) fun d64=>
 QZ u7 u8 [d64] d63)
 (l8 [c8] c9)) fun l8=>∀d65:Value,∀u9:Qe,l8 [d65] u9->
 Qb prog 90 #[a,l7] u9 fun d66 d67=>
 g1 [d66] d67)
 (g1 [(.int .u32 0)] c7)) fun g1=>∀v0:Value,∀l9:Qe,g1 [v0] l9->
 Q5 b fun d68=>
 Qh d68 41 fun d69=>
 LdK l9 d69 fun d70=>
 Qb prog 112 #[d70,a] l9 fun d71 v1=>
 Q5 b fun d72=>
 Qh d72 42 fun d73=>
 LdK v1 d73 fun d74=>
 Qb prog 113 #[d74,a] v1 fun d75 g2=>
 QG (fun g3=>
 Q5 b fun d76=>
 Qh d76 43 fun d77=>
 LdK g2 d77 fun d78=>
 Qr prog .neq 152 d78 (.slice none 0 0) fun d79=>
 IfK d79
 (Q5 b fun d80=>
 Qh d80 43 fun d81=>
 LdK g2 d81 fun d82=>
 YQ d82 fun m0=>
 Qb prog 114 #[a,m0] g2 fun _x674 d83=>
 QG (fun m1=>
 Qr prog .sub 3 m0 (.int .i64 1) fun d84=>
 YH [d84] d83 fun v2 v3=>∀d0:Value,∀d1:Qe,v2 v3 [d0] d1->
 Qr prog .geq 3 d0 (.int .i64 0) fun d85=>
 IfK d85
 (Q5 b fun d86=>
 Qh d86 43 fun d87=>
 LdK d1 d87 fun d88=>
 Y7 1 d88 d0 fun d89=>
 LdK d1 d89 fun d90=>
 Qb prog 115 #[a,d90] d1 fun _x689 d91=>
 Qr prog .sub 3 d0 (.int .i64 1) fun d92=>
 QZ v2 v3 [d92] d91)
 (m1 [d0] d1)) fun m1=>∀d93:Value,∀v4:Qe,m1 [d93] v4->
 Qb prog 90 #[a,m0] v4 fun d94 d95=>
 g3 [d94] d95)
 (g3 [(.int .u32 0)] g2)) fun g3=>∀v5:Value,∀v6:Qe,g3 [v5] v6->
 Qb prog 116 #[a] v6 fun _x694 v7=>
 Q5 b fun d96=>
 Qh d96 0 fun d97=>
 LdK v7 d97 fun d98=>
 Qb prog 117 #[d98,a] v7 fun d99 e00=>
 Qb prog 118 #[a,d99] e00 fun _x703 v8=>
 Q5 b fun e01=>
 Qh e01 1 fun e02=>
 LdK v8 e02 fun e03=>
 Qb prog 119 #[a,e03] v8 fun _x709 v9=>
 Q5 b fun e04=>
 Qh e04 2 fun e05=>
 LdK v9 e05 fun e06=>
 Qb prog 120 #[a,e06] v9 fun _x715 e07=>
 Qb prog 121 #[a,z4] e07 fun _x718 e08=>
 Qb prog 122 #[a,m2] e08 fun _x721 w0=>
 Q5 b fun e09=>
 Qh e09 5 fun e10=>
 LdK w0 e10 fun e11=>
 Qb prog 123 #[a,e11] w0 fun _x727 d2=>
 QG (fun g4=>
 Q5 b fun e12=>
 Qh e12 6 fun e13=>
 LdK d2 e13 fun e14=>
 Qr prog .neq 144 e14 (.pointer none) fun e15=>
 IfK e15
 (Q5 b fun e16=>
 Qh e16 6 fun e17=>
 LdK d2 e17 fun e18=>
 Q5 e18 fun e19=>
 Qh e19 0 fun e20=>
 LdK d2 e20 fun e21=>
 Qb prog 124 #[a,e21] d2 fun _x741 e22=>
 g4 [] e22)
 (g4 [] d2)) fun g4=>∀w1:Qe,g4 [] w1->
 Qb prog 125 #[a,a07] w1 fun _x744 e23=>
 Qb prog 126 #[a,m6] e23 fun _x747 e24=>
 Qb prog 127 #[a,o4] e24 fun _x750 e25=>
 Qb prog 128 #[a,p2] e25 fun _x753 e26=>
 Qb prog 129 #[a,a91] e26 fun _x756 e27=>
 Qb prog 130 #[a,p3] e27 fun _x759 e28=>
 Qb prog 131 #[a,b04] e28 fun _x762 w2=>
 Q5 b fun e29=>
 Qh e29 13 fun e30=>
 LdK w2 e30 fun e31=>
 Qb prog 132 #[a,e31] w2 fun _x768 w3=>
 Q5 b fun e32=>
 Qh e32 14 fun e33=>
 LdK w3 e33 fun e34=>
 Qb prog 133 #[a,e34] w3 fun _x774 w4=>
 Q5 b fun e35=>
 Qh e35 15 fun e36=>
 LdK w4 e36 fun e37=>
 Qb prog 134 #[a,e37] w4 fun _x780 w5=>
 Q5 b fun e38=>
 Qh e38 16 fun e39=>
 LdK w5 e39 fun e40=>
 Qb prog 135 #[a,e40] w5 fun _x786 w6=>
 Q5 b fun e41=>
 Qh e41 17 fun e42=>
 LdK w6 e42 fun e43=>
 Qb prog 136 #[a,e43] w6 fun _x792 w7=>
 Q5 b fun e44=>
 Qh e44 18 fun e45=>
 LdK w7 e45 fun e46=>
 Qb prog 137 #[a,e46] w7 fun _x798 w8=>
 Q5 b fun e47=>
 Qh e47 19 fun e48=>
 LdK w8 e48 fun e49=>
 Qb prog 138 #[a,e49] w8 fun _x804 w9=>
 Q5 b fun e50=>
 Qh e50 20 fun e51=>
 LdK w9 e51 fun e52=>
 Qb prog 139 #[a,e52] w9 fun _x810 y0=>
 Q5 b fun e53=>
 Qh e53 21 fun e54=>
 LdK y0 e54 fun e55=>
 Qb prog 140 #[a,e55] y0 fun _x816 e56=>
 Qb prog 141 #[a,p7] e56 fun _x819 y1=>
 Q5 b fun e57=>
 Qh e57 23 fun e58=>
 LdK y1 e58 fun e59=>
 Qb prog 142 #[a,e59] y1 fun _x825 y2=>
 Q5 b fun e60=>
 Qh e60 24 fun e61=>
 LdK y2 e61 fun e62=>
 Qb prog 143 #[a,e62] y2 fun _x831 y3=>
 Q5 b fun e63=>
 Qh e63 25 fun e64=>
 LdK y3 e64 fun e65=>
 Qb prog 144 #[a,e65] y3 fun _x837 e66=>
 Qb prog 145 #[a,q5] e66 fun _x840 e67=>
 Qb prog 146 #[a,q9] e67 fun _x843 e68=>
 Qb prog 147 #[a,r0] e68 fun _x846 e69=>
 Qb prog 148 #[a,r4] e69 fun _x849 e70=>
 Qb prog 149 #[a,r8] e70 fun _x852 e71=>
 Qb prog 150 #[a,s2] e71 fun _x855 e72=>
 Qb prog 151 #[a,c47] e72 fun _x858 e73=>
 Qb prog 152 #[a,t0] e73 fun _x861 y4=>
 Q5 b fun e74=>
 Qh e74 34 fun e75=>
 LdK y4 e75 fun e76=>
 Qb prog 153 #[a,e76] y4 fun _x867 e77=>
 Qb prog 154 #[a,t4] e77 fun _x870 e78=>
 Qb prog 155 #[a,u2] e78 fun _x873 y5=>
 Q5 b fun e79=>
 Qh e79 37 fun e80=>
 LdK y5 e80 fun e81=>
 Qb prog 156 #[a,e81] y5 fun _x879 e82=>
 Qb prog 157 #[a,u6] e82 fun _x882 y6=>
 Q5 b fun e83=>
 Qh e83 39 fun e84=>
 LdK y6 e84 fun e85=>
 Qb prog 158 #[a,e85] y6 fun _x888 e86=>
 Qb prog 159 #[a,v0] e86 fun _x891 d3=>
 QG (fun g5=>
 Q5 b fun e87=>
 Qh e87 41 fun e88=>
 LdK d3 e88 fun e89=>
 Qr prog .neq 150 e89 (.pointer none) fun e90=>
 IfK e90
 (Q5 b fun e91=>
 Qh e91 41 fun e92=>
 LdK d3 e92 fun e93=>
 Q5 e93 fun e94=>
 Qh e94 0 fun e95=>
 LdK d3 e95 fun e96=>
 Qb prog 160 #[a,e96] d3 fun _x905 e97=>
 g5 [] e97)
 (g5 [] d3)) fun g5=>∀y7:Qe,g5 [] y7->
 Qb prog 161 #[a,d71] y7 fun _x908 d4=>
 QG (fun g6=>
 Q5 b fun e98=>
 Qh e98 42 fun e99=>
 LdK d4 e99 fun f00=>
 Qr prog .neq 151 f00 (.pointer none) fun f01=>
 IfK f01
 (Q5 b fun f02=>
 Qh f02 42 fun f03=>
 LdK d4 f03 fun f04=>
 Q5 f04 fun f05=>
 Qh f05 0 fun f06=>
 LdK d4 f06 fun f07=>
 Qb prog 162 #[a,f07] d4 fun _x922 f08=>
 g6 [] f08)
 (g6 [] d4)) fun g6=>∀y8:Qe,g6 [] y8->
 Qb prog 163 #[a,d75] y8 fun _x925 f09=>
 Qb prog 164 #[a,v5] f09 fun _x928 y9=>
 Q5 b fun f10=>
 Qh f10 44 fun f11=>
 LdK y9 f11 fun f12=>
 Qb prog 165 #[a,f12] y9 fun _x934 f13=>
 Qb prog 166 #[a] f13 fun f14 f15=>
 R f14 f15)
theorem w21 {a b h R} (H:s21 a b h R):FnS prog 21 #[a,b] h R:=wq Tryz.func21 (by kernel_rfl) H
theorem w87 {a b h R} (H:tp87 144 166 261 264 264 265 a b h R):FnS prog 87 #[a,b] h R:=wq Tryz.func87 (by kernel_rfl) H
theorem w89 {a b h R} (H:tp89 157 267 a b h R):FnS prog 89 #[a,b] h R:=wq Tryz.func89 (by kernel_rfl) H
def s93 (b a:Value) (h:Qe) (R:Kn):Prop:=
 Qr prog .eql 146 b (.pointer none) fun e=>
 IfK e
 (R (.int .u32 0) h)
 (Q5 b fun f=>
 Qh f 0 fun g=>
 LdK h g fun i=>
 Qb prog 85 #[a,i] h fun j l=>
 Qb prog 269 #[a] l fun _x15 m=>
 Qb prog 270 #[a,j] m fun _x18 c=>
 Q5 b fun o=>
 Qh o 1 fun p=>
 LdK c p fun q=>
 Qb prog 271 #[a,q] c fun _x24 d=>
 Q5 b fun r=>
 Qh r 2 fun s=>
 LdK d s fun t=>
 Qb prog 272 #[a,t] d fun _x30 u=>
 Qb prog 273 #[a] u fun v w=>
 R v w)
theorem w93 {a b h R} (H:s93 a b h R):FnS prog 93 #[a,b] h R:=wq Tryz.func93 (by kernel_rfl) H
theorem w98 {a b h R} (H:tp89 162 275 a b h R):FnS prog 98 #[a,b] h R:=wq Tryz.func98 (by kernel_rfl) H
theorem w104 {a b h R} (H:tp104 149 278 279 a b h R):FnS prog 104 #[a,b] h R:=wq Tryz.func104 (by kernel_rfl) H
theorem w105 {a b h R} (H:tp105 184 280 281 282 a b h R):FnS prog 105 #[a,b] h R:=wq Tryz.func105 (by kernel_rfl) H
theorem w112 {a b h R} (H:tp87 150 170 261 264 264 265 a b h R):FnS prog 112 #[a,b] h R:=wq Tryz.func112 (by kernel_rfl) H
theorem w113 {a b h R} (H:tp87 151 173 66 21 66 21 a b h R):FnS prog 113 #[a,b] h R:=wq Tryz.func113 (by kernel_rfl) H
def s117 (a b:Value) (h:Qe) (R:Kn):Prop:=
 Qr prog .eql 143 a (.pointer none) fun c=>
 IfK c
 (R (.int .u32 0) h)
 (Q5 a fun d=>
 Qh d 0 fun e=>
 LdK h e fun f=>
 Q5 a fun g=>
 Qh g 1 fun i=>
 LdK h i fun j=>
 Q5 a fun l=>
 Qh l 2 fun m=>
 LdK h m fun o=>
 Q5 a fun p=>
 Qh p 3 fun q=>
 LdK h q fun r=>
 Q5 a fun s=>
 Qh s 4 fun t=>
 LdK h t fun u=>
 Q5 a fun v=>
 Qh v 5 fun w=>
 LdK h w fun y=>
 Q5 y fun z=>
 Qh z 0 fun a0=>
 LdK h a0 fun a1=>
 Q5 a fun a2=>
 Qh a2 5 fun a3=>
 LdK h a3 fun a4=>
 Q5 a4 fun a5=>
 Qh a5 1 fun a6=>
 LdK h a6 fun a7=>
 Qb prog 285 #[b,f,j,o,r,u,a1,a7] h fun a8 a9=>
 R a8 a9)
theorem w117 {a b h R} (H:s117 a b h R):FnS prog 117 #[a,b] h R:=wq Tryz.func117 (by kernel_rfl) H
def s176 (a b:Value) (h:Qe) (R:Kn):Prop:=
 Qb prog 199 #[a,(.pointer none)] h fun d e=>
 Qb prog 299 #[d] e fun f g=>
 Qe8 b 0 g f fun i=>
 Qb prog 178 #[a] i fun j l=>
 Qe8 b 1 l j fun m=>
 Qb prog 179 #[a] m fun o p=>
 Qe8 b 2 p o fun q=>
 Qb prog 180 #[a] q fun r c=>
 QiO c r fun s=>
 Qe8 b 3 c s fun t=>
 Qb prog 300 #[a] t fun u v=>
 Qe8 b 4 v u fun w=>
 Qb prog 181 #[a] w fun y z=>
 Qe8 b 5 z y fun a0=>
 uniF prog z208 208 250 252 301 a b 6 a0 fun a1=>
 Qb prog 210 #[a] a1 fun a2 a3=>
 Qcf prog 3 b 7 157 8 z157 a2 a3 (lpO prog z234 234 211 302 a b 7) fun a4=>
 Qb prog 212 #[a] a4 fun a5 a6=>
 Qcf prog 3 b 8 9 16 z9 a5 a6 (lpT prog 213 a b 8) fun a7=>
 Qb prog 214 #[a] a7 fun a8 a9=>
 Qcf prog 3 b 9 66 8 z66 a8 a9 (lpO prog z210 210 215 42 a b 9) fun b0=>
 Qb prog 216 #[a,(.pointer none)] b0 fun b1 b2=>
 Qb prog 42 #[b1] b2 fun b3 b4=>
 Qe8 b 10 b4 b3 fun b5=>
 Qb prog 303 #[a] b5 fun b6 b7=>
 Qe8 b 11 b7 b6 fun b8=>
 Qb prog 219 #[a,(.pointer none)] b8 fun b9 c0=>
 Qb prog 304 #[b9] c0 fun c1 c2=>
 Qe8 b 12 c2 c1 fun c3=>
 Qb prog 182 #[a] c3 fun c4 c5=>
 Qe8 b 13 c5 c4 fun c6=>
 Qb prog 183 #[a] c6 fun c7 c8=>
 Qe8 b 14 c8 c7 fun c9=>
 Qb prog 184 #[a] c9 fun d0 d1=>
 Qe8 b 15 d1 d0 fun d2=>
 Qb prog 185 #[a] d2 fun d3 d4=>
 Qe8 b 16 d4 d3 fun d5=>
 Qb prog 186 #[a] d5 fun d6 d7=>
 Qe8 b 17 d7 d6 fun d8=>
 Qb prog 187 #[a] d8 fun d9 e0=>
 Qe8 b 18 e0 d9 fun e1=>
 Qb prog 188 #[a] e1 fun e2 e3=>
 Qe8 b 19 e3 e2 fun e4=>
 Qb prog 189 #[a] e4 fun e5 e6=>
 Qe8 b 20 e6 e5 fun e7=>
 Qb prog 190 #[a] e7 fun e8 e9=>
 Qe8 b 21 e9 e8 fun f0=>
 Qb prog 223 #[a] f0 fun f1 f2=>
 Qcf prog 3 b 22 4 1 z4 f1 f2 (lpS prog 224 a b 22) fun f3=>
 Qb prog 191 #[a] f3 fun f4 f5=>
 Qe8 b 23 f5 f4 fun f6=>
 Qb prog 192 #[a] f6 fun f7 f8=>
 Qe8 b 24 f8 f7 fun f9=>
 Qb prog 193 #[a] f9 fun g0 g1=>
 Qe8 b 25 g1 g0 fun g2=>
 Qb prog 225 #[a] g2 fun g3 g4=>
 Qcf prog 3 b 26 9 16 z9 g3 g4 (lpT prog 226 a b 26) fun g5=>
 Qb prog 227 #[a] g5 fun g6 g7=>
 Qcf prog 3 b 27 162 8 z162 g6 g7 (lpO prog z242 242 228 305 a b 27) fun g8=>
 Qb prog 306 #[a] g8 fun g9 i0=>
 Qe8 b 28 i0 g9 fun i1=>
 Qb prog 233 #[a] i1 fun i2 i3=>
 Qcf prog 3 b 29 157 8 z157 i2 i3 (lpO prog z234 234 234 302 a b 29) fun i4=>
 Qb prog 235 #[a] i4 fun i5 i6=>
 Qcf prog 3 b 30 2 8 z2 i5 i6 (lpS prog 236 a b 30) fun i7=>
 Qb prog 237 #[a] i7 fun i8 i9=>
 Qcf prog 3 b 31 155 8 z155 i8 i9 (lpS prog 238 a b 31) fun j0=>
 Qb prog 194 #[a,(.pointer none)] j0 fun j1 j2=>
 Qb prog 307 #[j1] j2 fun j3 j4=>
 Qe8 b 32 j4 j3 fun j5=>
 Qb prog 239 #[a] j5 fun j6 j7=>
 Qcf prog 3 b 33 184 8 z184 j6 j7 (lpO prog z247 247 240 308 a b 33) fun j8=>
 Qb prog 195 #[a] j8 fun j9 l0=>
 Qe8 b 34 l0 j9 fun l1=>
 Qb prog 242 #[a] l1 fun l2 l3=>
 Qcf prog 3 b 35 31 8 z31 l2 l3 (lpS prog 243 a b 35) fun l4=>
 Qb prog 244 #[a] l4 fun l5 l6=>
 Qcf prog 3 b 36 184 8 z184 l5 l6 (lpO prog z247 247 245 308 a b 36) fun l7=>
 Qb prog 196 #[a] l7 fun l8 l9=>
 Qe8 b 37 l9 l8 fun m0=>
 Qb prog 246 #[a] m0 fun m1 m2=>
 Qcf prog 3 b 38 31 8 z31 m1 m2 (lpS prog 247 a b 38) fun m3=>
 Qb prog 197 #[a] m3 fun m4 m5=>
 Qe8 b 39 m5 m4 fun m6=>
 Qb prog 248 #[a] m6 fun m7 m8=>
 Qcf prog 3 b 40 31 8 z31 m7 m8 (lpS prog 249 a b 40) fun m9=>
 uniF prog z208 208 253 254 309 a b 41 m9 fun o0=>
 uniF prog z208 208 256 255 310 a b 42 o0 fun o1=>
 Qb prog 257 #[a] o1 fun o2 o3=>
 Qcf prog 3 b 43 135 1 z135 o2 o3 (lpS prog 258 a b 43) fun o4=>
 Qb prog 198 #[a] o4 fun o5 o6=>
 Qe8 b 44 o6 o5 fun o7=>
 R (.tuple #[]) o7
theorem w176 {a b h R} (H:s176 a b h R):FnS prog 176 #[a,b] h R:=wq Tryz.func176 (by kernel_rfl) H
theorem w264 {a b h R} (H:tp105 261 339 340 341 a b h R):FnS prog 264 #[a,b] h R:=wq Tryz.func264 (by kernel_rfl) H
theorem w265 {a b h R} (H:tp104 264 342 343 a b h R):FnS prog 265 #[a,b] h R:=wq Tryz.func265 (by kernel_rfl) H
def s356 (a b:Value) (h:Qe) (R:Kn):Prop:=
 Qb prog 201 #[a] h fun c d=>
 Qe8 b 0 d c fun e=>
 Qb prog 202 #[a] e fun f g=>
 Qe8 b 1 g f fun i=>
 Qb prog 203 #[a] i fun j l=>
 Qe8 b 2 l j fun m=>
 Qb prog 204 #[a] m fun o p=>
 Qe8 b 3 p o fun q=>
 Qb prog 205 #[a] q fun r s=>
 Qe8 b 4 s r fun t=>
 Qb prog 200 #[a,(.pointer none)] t fun u v=>
 Qb prog 302 #[u] v fun w y=>
 Qe8 b 5 y w fun z=>
 R (.tuple #[]) z
theorem w356 {a b h R} (H:s356 a b h R):FnS prog 356 #[a,b] h R:=wq Tryz.func356 (by kernel_rfl) H
theorem w358 {a b h R} (H:tp358 206 207 a b h R):FnS prog 358 #[a,b] h R:=wq Tryz.func358 (by kernel_rfl) H
def s359 (a b:Value) (h:Qe) (R:Kn):Prop:=
 Qb prog 220 #[a] h fun d c=>
 QiO c d fun e=>
 Qe8 b 0 c e fun f=>
 Qb prog 221 #[a] f fun g i=>
 Qe8 b 1 i g fun j=>
 Qb prog 222 #[a] j fun l m=>
 Qe8 b 2 m l fun o=>
 R (.tuple #[]) o
theorem w359 {a b h R} (H:s359 a b h R):FnS prog 359 #[a,b] h R:=wq Tryz.func359 (by kernel_rfl) H
theorem w360 {a b h R} (H:tp358 229 230 a b h R):FnS prog 360 #[a,b] h R:=wq Tryz.func360 (by kernel_rfl) H
def s361 (a b:Value) (h:Qe) (R:Kn):Prop:=
 R (.tuple #[]) h
theorem w361 {a b h R} (H:s361 a b h R):FnS prog 361 #[a,b] h R:=wq Tryz.func361 (by kernel_rfl) H
def s362 (a b:Value) (h:Qe) (R:Kn):Prop:=
 Qb prog 241 #[a] h fun c d=>
 Qe8 b 0 d c fun e=>
 R (.tuple #[]) e
theorem w362 {a b h R} (H:s362 a b h R):FnS prog 362 #[a,b] h R:=wq Tryz.func362 (by kernel_rfl) H
def s389 (a b:Value) (h:Qe) (R:Kn):Prop:=
 Qb prog 336 #[a] h fun c d=>
 Qe8 b 0 d c fun e=>
 R (.tuple #[]) e
theorem w389 {a b h R} (H:s389 a b h R):FnS prog 389 #[a,b] h R:=wq Tryz.func389 (by kernel_rfl) H
end Go.Proofs
namespace Go.Proofs
open Go Go.Vc
open Tryz (prog)
theorem QfE (xs:List UInt8) (S:BS):(createStr xs S).buf=leB (xs.length:Int) 4++(xs++([0]++(List.replicate (padOf 4 (S.buf.length+(xs.length+1))) 0++S.buf))):=by
 simp[createStr,QiT,place,prep]
theorem Qic (xs:List UInt8) (S:BS):(createStr xs S).buf.length=4+xs.length+1+padOf 4 (S.buf.length+(xs.length+1))+S.buf.length:=by
 rw[QfE];simp[Qf];omega
theorem Inv.createStr {S:BS} (h:Inv S) (xs:List UInt8):Inv (Proofs.createStr xs S)/\(Proofs.createStr xs S).buf.length<=S.buf.length+xs.length+8/\S.buf.length+5<=(Proofs.createStr xs S).buf.length:=by
 have hp:=Zw (size:=4) (n:=S.buf.length+(xs.length+1)) (by decide)
 have hl:=Qic xs S
 refine ⟨⟨rfl,h.vts.ext (S':=Proofs.createStr xs S) rfl (x:=leB (xs.length:Int) 4++(xs++([0]++List.replicate (padOf 4 (S.buf.length+(xs.length+1))) 0))) (by rw[QfE];simp),?_,h.min.max P2_4⟩,by omega,by omega⟩
 have:=h.nv
 show S.vts.length<=_
 omega
def endT (S:BS):BS×Nat:=(endObj S,(putOff 0 S).buf.length)
structure Yt (S:BS) (c:Nat) (q:BS×Nat):Prop where
 inv:Inv q.1
 len:q.1.buf.length<=S.buf.length+c
 le:S.buf.length<=q.1.buf.length
 off:q.2<=q.1.buf.length
theorem Yt.endT {S0 S:BS} {n c:Nat} (h:YA S0 n c S) (h0:Inv S0) (hn:n<1000):Yt S0 (c+3*n+16) (Proofs.endT S)/\0<(Proofs.endT S).2:=by
 obtain ⟨h1,h2,h3,h4⟩:=Inv.endObj h h0 hn
 have h5:=h.len
 have h6:=h.le
 obtain ⟨y,hy,hy1,hy2⟩:=QdT 0 S
 refine ⟨⟨h1,?_,?_,h4⟩,?_⟩
 ·show (endObj S).buf.length<=_;omega
 ·show _<=(endObj S).buf.length;omega
 ·show 0<(putOff 0 S).buf.length
  rw[hy,List.length_append];omega
def QcL (d:Qan) (S:BS):BS×Nat:=
 endT (slotN 2 d.count.toNat 0 2 (slotN 8 d.val.toNat 0 1 (slotOff (createStr d.id S).buf.length 0 (Qs 3 (createStr d.id S)))))
def Qbr (x:UInt64) (S:BS):BS×Nat:=endT (slotN 8 x.toNat 0 0 (Qs 1 S))
def QdX (S:BS):BS×Nat:=endT (Qs 0 S)
def Qdf (c:UInt8) (S:BS):BS×Nat:=endT (slotN 1 c.toNat 2 0 (Qs 1 S))
theorem packStat_ok (d:Qan) {S:BS} (h:Inv S):Yt S (d.id.length+100) (QcL d S)/\0<(QcL d S).2:=by
 obtain ⟨h1,h2,h3⟩:=h.createStr d.id
 have:=Yt.endT (((YA.start (n:=3) h1.min).slotOff (off:=(createStr d.id S).buf.length) (o:=0)).slotN (x:=d.val.toNat) (d:=0) (o:=1) Qg6 |>.slotN (x:=d.count.toNat) (d:=0) (o:=2) P2_2) h1 (by decide)
 refine ⟨⟨this.1.inv,?_,?_,this.1.off⟩,this.2⟩
 ·have:=this.1.len;show (QcL d S).1.buf.length<=_;unfold QcL;omega
 ·have:=this.1.le;show _<=(QcL d S).1.buf.length;unfold QcL;omega
theorem Qfe (x:UInt64) {S:BS} (h:Inv S):Yt S 40 (Qbr x S)/\0<(Qbr x S).2:=by
 have:=Yt.endT ((YA.start (n:=1) h.min).slotN (x:=x.toNat) (d:=0) (o:=0) Qg6) h (by decide)
 exact ⟨⟨this.1.inv,by have:=this.1.len;unfold Qbr;omega,this.1.le,this.1.off⟩,this.2⟩
theorem packParent_ok {S:BS} (h:Inv S):Yt S 40 (QdX S)/\0<(QdX S).2:=by
 have:=Yt.endT (YA.start (n:=0) h.min) h (by decide)
 exact ⟨⟨this.1.inv,by have:=this.1.len;unfold QdX;omega,this.1.le,this.1.off⟩,this.2⟩
theorem packSimple_ok (c:UInt8) {S:BS} (h:Inv S):Yt S 40 (Qdf c S)/\0<(Qdf c S).2:=by
 have:=Yt.endT ((YA.start (n:=1) h.min).slotN (x:=c.toNat) (d:=2) (o:=0) P2_1) h (by decide)
 exact ⟨⟨this.1.inv,by have:=this.1.len;unfold Qdf;omega,this.1.le,this.1.off⟩,this.2⟩
section
variable {H:Qe} {p:Nat} {S:BS} {F:Cut} {r:Nat} (hB:Qc H p S F r) {R:Kn}
include hB
theorem StatT_Pack {v:Value} {d:Qan} (hI:Inv S) (hv:YR F v #[Yx d.id,Qdi d.val,u16V d.count]) (hl:S.buf.length+d.id.length+5000<=536870912)
  (hR:∀H',Qc H' p (QcL d S).1 F 0->R (.int .u32 ((QcL d S).2:Nat)) H'):
  FnS prog 93 #[v,.pointer (some ⟨p,0,none⟩)] H R:=by
 obtain ⟨h1,h2,h3⟩:=hI.createStr d.id
 apply w93
 unfold s93
 obtain ⟨q,e,rfl,hq⟩:=hv
 have hv:YR F (.pointer (some ⟨q,0,none⟩)) #[Yx d.id,Qdi d.val,u16V d.count]:=⟨q,e,rfl,hq⟩
 rw[Ys (by kernel_rfl)]
 show IfK (.bool false) _ _
 rw[Qao]
 refine hv.ld hB.cut (i:=0) (Yx d.id) rfl ?_
 refine QcR hB (QgI _) hI.nested (by omega) ?_
 intro H1 g1
 refine Qio g1 h1.nested ?_
 intro H2 g2
 have i2:=YA.start (n:=3) h1.min
 refine QiG g2 (Nat.le_refl _) (by rw[i2.vtl];decide) (by have:=i2.len;omega) ?_
 intro H3 g3
 have i3:=i2.slotOff (off:=(createStr d.id S).buf.length) (o:=0)
 refine hv.ld g3.cut (i:=1) (Qdi d.val) rfl ?_
 refine Qi7 g3 d.val.toNat_lt (by rw[i3.vtl];decide) (by have:=i3.len;omega) ?_
 intro H4 g4
 have i4:=i3.slotN (k:=8) (x:=d.val.toNat) (d:=0) (o:=1) Qg6
 refine hv.ld g4.cut (i:=2) (u16V d.count) rfl ?_
 refine Qh9 g4 d.count.toNat_lt (by rw[i4.vtl];decide) (by have:=i4.len;omega) ?_
 intro H5 g5
 have i5:=i4.slotN (k:=2) (x:=d.count.toNat) (d:=0) (o:=2) P2_2
 refine Example_StatEnd g5 i5 (by decide) h1.vts (by omega) h1.nv ?_
 intro H6 g6
 exact hR H6 g6
theorem QfZ {v:Value} {x:UInt64} (hI:Inv S) (hv:YR F v #[YY x]) (hl:S.buf.length+5000<=536870912)
  (hR:∀H',Qc H' p (Qbr x S).1 F 0->R (.int .u32 ((Qbr x S).2:Nat)) H'):
  FnS prog 105 #[v,.pointer (some ⟨p,0,none⟩)] H R:=by
 apply w105
 unfold tp105
 obtain ⟨q,e,rfl,hq⟩:=hv
 have hv:YR F (.pointer (some ⟨q,0,none⟩)) #[YY x]:=⟨q,e,rfl,hq⟩
 rw[Ys (by kernel_rfl)]
 show IfK (.bool false) _ _
 rw[Qao]
 refine Qfn hB hI.nested ?_
 intro H2 g2
 have i2:=YA.start (n:=1) hI.min
 refine hv.ld g2.cut (i:=0) (YY x) rfl ?_
 refine QfK g2 x.toNat_lt (by rw[i2.vtl];decide) (by have:=i2.len;omega) ?_
 intro H4 g4
 have i4:=i2.slotN (k:=8) (x:=x.toNat) (d:=0) (o:=0) Qg6
 refine Qgy g4 i4 (by decide) hI.vts (by omega) hI.nv ?_
 intro H6 g6
 exact hR H6 g6
theorem QcM {v:Value} (hI:Inv S) (hv:v= .pointer none\/∃a,v= .pointer (some a)) (hl:S.buf.length+5000<=536870912)
  (h0:v= .pointer none->R (.int .u32 0) H) (hR:v≠.pointer none->∀H',Qc H' p (QdX S).1 F 0->R (.int .u32 ((QdX S).2:Nat)) H'):
  FnS prog 104 #[v,.pointer (some ⟨p,0,none⟩)] H R:=by
 apply w104
 unfold tp104
 rcases hv with rfl|⟨a,rfl⟩
 ·rw[Ys (by kernel_rfl)]
  exact h0 rfl
 ·rw[Ys (by kernel_rfl)]
  show IfK (.bool false) _ _
  rw[Qao]
  refine QdD hB hI.nested ?_
  intro H2 g2
  have i2:=YA.start (n:=0) hI.min
  refine Qeb g2 i2 (by decide) hI.vts (by omega) hI.nv ?_
  intro H6 g6
  exact hR (by simp) H6 g6
theorem QiW {v:Value} {c:UInt8} (hI:Inv S) (hv:YR F v #[.int .u8 (c.toNat:Int)]) (hl:S.buf.length+5000<=536870912)
  (hR:∀H',Qc H' p (Qdf c S).1 F 0->R (.int .u32 ((Qdf c S).2:Nat)) H'):
  FnS prog 264 #[v,.pointer (some ⟨p,0,none⟩)] H R:=by
 apply w264
 unfold tp105
 obtain ⟨q,e,rfl,hq⟩:=hv
 have hv:YR F (.pointer (some ⟨q,0,none⟩)) #[.int .u8 (c.toNat:Int)]:=⟨q,e,rfl,hq⟩
 rw[Ys (by kernel_rfl)]
 show IfK (.bool false) _ _
 rw[Qao]
 refine Qc2 hB hI.nested ?_
 intro H2 g2
 have i2:=YA.start (n:=1) hI.min
 refine hv.ld g2.cut (i:=0) (.int .u8 (c.toNat:Int)) rfl ?_
 refine Qbp g2 c.toNat_lt (by rw[i2.vtl];decide) (by have:=i2.len;omega) ?_
 intro H4 g4
 have i4:=i2.slotN (k:=1) (x:=c.toNat) (d:=2) (o:=0) P2_1
 refine Qcu g4 i4 (by decide) hI.vts (by omega) hI.nv ?_
 intro H6 g6
 exact hR H6 g6
theorem TestT_Pack {v:Value} {d:Qbf} (hv:YR F v #[Qbh d.a,i8V d.b]) (hr:4<=r) (ha:S.buf.length%2=0) (hm:2<=S.min) (hl:S.buf.length+32<=536870912)
  (hR:∀H' w,Qc H' p (place (QaJ d.a.toNat d.b.toNat) S) F (r-4)->R w H'):
  FnS prog 89 #[v,.pointer (some ⟨p,0,none⟩)] H R:=by
 apply w89
 unfold tp89
 obtain ⟨q,e,rfl,hq⟩:=hv
 have hv:YR F (.pointer (some ⟨q,0,none⟩)) #[Qbh d.a,i8V d.b]:=⟨q,e,rfl,hq⟩
 rw[Ys (by kernel_rfl)]
 show IfK (.bool false) _ _
 rw[Qao]
 refine hv.ld hB.cut (i:=0) (Qbh d.a) rfl ?_
 refine hv.ld hB.cut (i:=1) (i8V d.b) rfl ?_
 refine QhM hB hr ha hm hl ?_
 exact hR
theorem AbilityT_Pack {v:Value} {d:Qe7} (hv:YR F v #[Zs d.id,Zs d.dist]) (hr:8<=r) (ha:S.buf.length%4=0) (hm:4<=S.min) (hl:S.buf.length+32<=536870912)
  (hR:∀H' w,Qc H' p (place (Zv d.id.toNat d.dist.toNat) S) F (r-8)->R w H'):
  FnS prog 98 #[v,.pointer (some ⟨p,0,none⟩)] H R:=by
 apply w98
 unfold tp89
 obtain ⟨q,e,rfl,hq⟩:=hv
 have hv:YR F (.pointer (some ⟨q,0,none⟩)) #[Zs d.id,Zs d.dist]:=⟨q,e,rfl,hq⟩
 rw[Ys (by kernel_rfl)]
 show IfK (.bool false) _ _
 rw[Qao]
 refine hv.ld hB.cut (i:=0) (Zs d.id) rfl ?_
 refine hv.ld hB.cut (i:=1) (Zs d.dist) rfl ?_
 refine Qgz hB hr ha hm hl ?_
 exact hR
def QgU (d:Qav):List UInt8:=vec3B d.x.toNat d.y.toNat d.z.toNat d.t1.toNat d.t2.toNat d.a.toNat d.b.toNat
theorem Vec3T_Pack {v w:Value} {d:Qav} (hv:YR F v #[QcV d.x,QcV d.y,QcV d.z,f64V d.t1,.int .u8 (d.t2.toNat:Int),w]) (hw:YR F w #[Qbh d.a,i8V d.b]) (hl:S.buf.length+96<=536870912)
  (hR:∀H',Qc H' p (place (QgU d) (prep 8 32 S)) F 0->R (.int .u32 ((place (QgU d) (prep 8 32 S)).buf.length:Nat)) H'):
  FnS prog 117 #[v,.pointer (some ⟨p,0,none⟩)] H R:=by
 apply w117
 unfold s117
 obtain ⟨q,e,rfl,hq⟩:=hv
 have hv:YR F (.pointer (some ⟨q,0,none⟩)) #[QcV d.x,QcV d.y,QcV d.z,f64V d.t1,.int .u8 (d.t2.toNat:Int),w]:=⟨q,e,rfl,hq⟩
 rw[Ys (by kernel_rfl)]
 show IfK (.bool false) _ _
 rw[Qao]
 refine hv.ld hB.cut (i:=0) (QcV d.x) rfl ?_
 refine hv.ld hB.cut (i:=1) (QcV d.y) rfl ?_
 refine hv.ld hB.cut (i:=2) (QcV d.z) rfl ?_
 refine hv.ld hB.cut (i:=3) (f64V d.t1) rfl ?_
 refine hv.ld hB.cut (i:=4) (.int .u8 (d.t2.toNat:Int)) rfl ?_
 refine hv.ld hB.cut (i:=5) w rfl ?_
 refine hw.ld hB.cut (i:=0) (Qbh d.a) rfl ?_
 refine hv.ld hB.cut (i:=5) w rfl ?_
 refine hw.ld hB.cut (i:=1) (i8V d.b) rfl ?_
 refine QhQ hB d.t2.toNat_lt hl ?_
 exact hR
end
end Go.Proofs
namespace Go.Proofs
open Go Go.Vc
open Tryz (prog)
def vecS (es al:Nat) (items:List (List UInt8)) (S:BS):BS:=QiT items.length (place items.flatten (QF es items.length al S))
def Zr (L:Nat):List Nat->List (List UInt8)
 |[]=>[]
 |o::os=>leB ((L+4*os.length-o+4:Nat):Int) 4::Zr L os
theorem Qdz (L:Nat):∀os,(Zr L os).length=os.length
 |[]=>rfl
 |o::os=>by simp[Zr,Qdz L os]
def Qfg (offs:List Nat) (S:BS):BS:=vecS 4 4 (Zr (QF 4 offs.length 4 S).buf.length offs) S
def Q1 {α:Type} (f:α->BS->BS×Nat):List α->BS->BS×List Nat
 |[],S=>(S,[])
 |x::xs,S=>((Q1 f xs (f x S).1).1,(f x S).2::(Q1 f xs (f x S).1).2)
theorem QhY {α:Type} (f:α->BS->BS×Nat) (x:α):∀(xs:List α) (S:BS),
  Q1 f (xs++[x]) S=((f x (Q1 f xs S).1).1,(Q1 f xs S).2++[(f x (Q1 f xs S).1).2])
 |[],S=>rfl
 |y::xs,S=>by
  rw[List.cons_append,Q1,QhY f x xs]
  rfl
theorem Qaf {α:Type} (f:α->BS->BS×Nat):∀(xs:List α) (S:BS),(Q1 f xs S).2.length=xs.length
 |[],S=>rfl
 |y::xs,S=>by simp[Q1,Qaf f xs]
theorem QaG {es:Nat}:∀(items:List (List UInt8)),(∀x∈items,x.length=es)->items.flatten.length=es*items.length
 |[],_=>by simp
 |x::xs,h=>by
  rw[List.flatten_cons,List.length_append,QaG xs (fun y hy=>h y (List.mem_cons_of_mem _ hy)),h x List.mem_cons_self,List.length_cons,Nat.mul_add]
  omega
theorem QcT (L:Nat):∀os,∀x∈Zr L os,x.length=4
 |[],x,hx=>by simp[Zr]at hx
 |o::os,x,hx=>by
  rcases List.mem_cons.1 hx with rfl|hx
  ·exact Qf _ _
  ·exact QcT L os x hx
theorem Qdx (es n al:Nat) (S:BS) (hal:0<al):∃x,(QF es n al S).buf=x++S.buf/\x.length<=3+al:=by
 have h1:=Zw (size:=4) (n:=S.buf.length+es*n) (by decide)
 have h2:=Zw (size:=al) (n:=(prep 4 (es*n) {S with nested:=true}).buf.length+es*n) hal
 refine ⟨List.replicate (padOf al ((prep 4 (es*n) {S with nested:=true}).buf.length+es*n)) 0++List.replicate (padOf 4 (S.buf.length+es*n)) 0,?_,?_⟩
 ·exact (List.append_assoc _ _ _).symm
 ·simp;omega
theorem startVec_nested (es n al:Nat) (S:BS):(QF es n al S).nested=true:=rfl
theorem QgB (es n al:Nat) (S:BS):4<=(QF es n al S).min/\al<=(QF es n al S).min:=
 ⟨Nat.le_trans (Nat.le_max_right S.min 4) (Nat.le_max_left _ al),Nat.le_max_right _ al⟩
theorem QeR {es n al k:Nat} (S:BS) (hal:al=2^k):((QF es n al S).buf.length+es*n)%al=0:=by
 have h:=QcE (size:=al) (n:=(prep 4 (es*n) {S with nested:=true}).buf.length+es*n) (by rw[hal];exact Nat.two_pow_pos k)
 have e:(QF es n al S).buf.length=padOf al ((prep 4 (es*n) {S with nested:=true}).buf.length+es*n)+(prep 4 (es*n) {S with nested:=true}).buf.length:=by
  unfold QF;rw[Qar]
 rw[e]
 rw[<-h];congr 1;omega
theorem Y6 {es n al k:Nat} (S:BS) (hal:al=2^k) (hk:k<=3):
  es*n+5<=Nat.max ((4+es*n+1)-padOf al ((prep 4 (es*n) {S with nested:=true}).buf.length+es*n)) (al+es*n+1):=by
 have hc:k=3\/k<=2:=by omega
 rcases hc with rfl|hc
 ·refine Nat.le_trans ?_ (Nat.le_max_right _ _)
  rw[hal];omega
 ·refine Nat.le_trans ?_ (Nat.le_max_left _ _)
  have h1:=QcE (size:=4) (n:=S.buf.length+es*n) (by decide)
  have h2:((prep 4 (es*n) {S with nested:=true}).buf.length+es*n)%al=0:=by
   have e:(prep 4 (es*n) {S with nested:=true}).buf.length+es*n=S.buf.length+es*n+padOf 4 (S.buf.length+es*n):=by
    rw[Qar];show padOf 4 (S.buf.length+es*n)+S.buf.length+es*n=_;omega
   rw[e]
   have hd:al∣4:=by
    rw[hal]
    have:k=0\/k=1\/k=2:=by omega
    rcases this with rfl|rfl|rfl<;>decide
   exact Nat.mod_eq_zero_of_dvd (Nat.dvd_trans hd (Nat.dvd_of_mod_eq_zero h1))
  rw[Za h2];omega
theorem Yt.vecS {S:BS} (h:Inv S) {es al:Nat} {items:List (List UInt8)} (hal:P2 al) (hi:∀x∈items,x.length=es):
  Yt S (es*items.length+15) (Proofs.vecS es al items S,(Proofs.vecS es al items S).buf.length)/\0<(Proofs.vecS es al items S).buf.length:=by
 obtain ⟨x,hx,hxl⟩:=Qdx es items.length al S hal.pos
 have h8:=hal.le
 have hf:=QaG items hi
 have e:(Proofs.vecS es al items S).buf=leB (items.length:Int) 4++(items.flatten++(x++S.buf)):=by
  show leB (items.length:Int) 4++(items.flatten++(QF es items.length al S).buf)=_
  rw[hx]
 have el:(Proofs.vecS es al items S).buf.length=4+es*items.length+x.length+S.buf.length:=by
  rw[e];simp only[List.length_append,Qf,hf];omega
 refine ⟨⟨⟨rfl,h.vts.ext (S':=Proofs.vecS es al items S) rfl (x:=leB (items.length:Int) 4++(items.flatten++x)) (by rw[e];simp),?_,(h.min.max P2_4).max hal⟩,?_,?_,?_⟩,?_⟩
 ·have:=h.nv
  show S.vts.length<=(Proofs.vecS es al items S).buf.length
  omega
 ·show (Proofs.vecS es al items S).buf.length<=_
  omega
 ·show _<=(Proofs.vecS es al items S).buf.length
  omega
 ·exact Nat.le_refl _
 ·omega
theorem Qc7 {α:Type} {f:α->BS->BS×Nat} {c:α->Nat}:∀(xs:List α),(∀x∈xs,∀S,Inv S->Yt S (c x) (f x S))->∀S,Inv S->
  Inv (Q1 f xs S).1/\(Q1 f xs S).1.buf.length<=S.buf.length+(xs.map c).sum/\S.buf.length<=(Q1 f xs S).1.buf.length/\∀o∈(Q1 f xs S).2,o<=(Q1 f xs S).1.buf.length
 |[],_,S,h=>⟨h,by simp[Q1],Nat.le_refl _,by simp[Q1]⟩
 |x::xs,hf,S,h=>by
  have h1:=hf x List.mem_cons_self S h
  obtain ⟨g1,g2,g3,g4⟩:=Qc7 xs (fun y hy=>hf y (List.mem_cons_of_mem _ hy)) (f x S).1 h1.inv
  refine ⟨g1,?_,?_,?_⟩
  ·show (Q1 f xs (f x S).1).1.buf.length<=_
   have:=h1.len
   simp only[List.map_cons,List.sum_cons];omega
  ·show _<=(Q1 f xs (f x S).1).1.buf.length
   have:=h1.le;omega
  ·intro o ho
   show o<=(Q1 f xs (f x S).1).1.buf.length
   rcases List.mem_cons.1 ho with rfl|ho
   ·have:=h1.off;omega
   ·exact g4 o ho
end Go.Proofs
namespace Go.Proofs
open Go Go.Vc
open Tryz (prog)
def optB (xs:List UInt8) (S:BS):BS×Nat:=if xs=[] then (S,0) else (createStr xs S,(createStr xs S).buf.length)
def Qhc (es al:Nat) (items:List (List UInt8)) (S:BS):BS×Nat:=if items=[] then (S,0) else (vecS es al items S,(vecS es al items S).buf.length)
def QiN (q:BS->BS×List Nat) (S:BS):BS×Nat:=
 if (q S).2=[] then (S,0) else (Qfg (q S).2 (q S).1,(Qfg (q S).2 (q S).1).buf.length)
def Qbo (xs:List UInt8) (S:BS):BS×Nat:=(createStr xs S,(createStr xs S).buf.length)
def QhF (d:Option Qan) (S:BS):BS×Nat:=match d with|some d=>QcL d S|none=>(S,0)
def Qe2 (b:Bool) (S:BS):BS×Nat:=if b then QdX S else (S,0)
def QbI (amb:Bool) (ty color:UInt8) (kid:BS->BS×Nat) (S:BS):BS×Nat:=
 if ty=0 then (S,0) else if amb=false/\ty=2 then Qdf color S else kid S
def Qem (b:Bool):List UInt8:=[if b then 1 else 0]
def Qah (x:UInt64):List UInt8:=leB (x.toNat:Int) 8
def Qhj (d:Qbg) (tables:BS->BS×List Nat) (enemy test uniq amb:BS->BS×Nat):List (BS->BS×Nat):=
 [Qbo d.name,optB d.inventory,QbI false d.testTy d.testColor test,Qhc 4 2 (d.test4.map fun t=>QaJ t.a.toNat t.b.toNat),QiN (Q1 Qbo d.strings),QiN tables,enemy,optB d.nested,QhF d.empty,
  Qhc 1 1 (d.bools.map Qem),QiN (Q1 Qbo d.strings2),Qhc 8 4 (d.abilities.map fun t=>Zv t.id.toNat t.dist.toNat),optB d.flex,Qhc 4 2 (d.test5.map fun t=>QaJ t.a.toNat t.b.toNat),
  Qhc 8 8 (d.longs.map Qah),Qhc 8 8 (d.doubles.map Qah),Qe2 d.parent,QiN (Q1 Qbr d.refs),Qhc 8 8 (d.weak.map Qah),QiN (Q1 Qbr d.strong),Qhc 8 8 (d.coOwnings.map Qah),Qhc 8 8 (d.nonOwnings.map Qah),
  QbI false d.uniqTy d.uniqColor uniq,QbI true d.ambTy d.ambColor amb,Qhc 1 1 (d.enums.map fun b=>[b])]
def slotPos (pos:Option Qav) (S:BS):BS:=match pos with|some v=>slotStruct (place (QgU v) (prep 8 32 S)).buf.length 0 (place (QgU v) (prep 8 32 S))|none=>S
def slotTy (ty:UInt8) (o:Nat) (S:BS):BS:=if ty=0 then S else slotN 1 ty.toNat 0 o S
def Yi (d:Qbg) (o:List Nat):List (BS->BS):=
 [slotPos d.pos,slotN 2 d.mana.toNat 150 1,slotN 2 d.hp.toNat 100 2,slotOff (o.getD 0 0) 3,slotOff (o.getD 1 0) 5,slotN 1 d.color.toNat 8 6,slotTy d.testTy 7,slotOff (o.getD 2 0) 8,slotOff (o.getD 3 0) 9,slotOff (o.getD 4 0) 10,slotOff (o.getD 5 0) 11,
  slotOff (o.getD 6 0) 12,slotOff (o.getD 7 0) 13,slotOff (o.getD 8 0) 14,slotN 1 (if d.bool then 1 else 0) 0 15,slotN 4 d.s32.toNat 0 16,slotN 4 d.u32.toNat 0 17,slotN 8 d.s64.toNat 0 18,slotN 8 d.u64.toNat 0 19,
  slotN 4 d.s32a.toNat 0 20,slotN 4 d.u32a.toNat 0 21,slotN 8 d.s64a.toNat 0 22,slotN 8 d.u64a.toNat 0 23,slotOff (o.getD 9 0) 24,slotF d.f.toNat 1078530000 25,slotF d.f2.toNat 1077936128 26,slotF d.f3.toNat 0 27,
  slotOff (o.getD 10 0) 28,slotOff (o.getD 11 0) 29,slotOff (o.getD 12 0) 30,slotOff (o.getD 13 0) 31,slotOff (o.getD 14 0) 32,slotOff (o.getD 15 0) 33,slotOff (o.getD 16 0) 34,slotOff (o.getD 17 0) 35,slotN 8 d.singleWeak.toNat 0 36,
  slotOff (o.getD 18 0) 37,slotOff (o.getD 19 0) 38,slotN 8 d.coOwning.toNat 0 39,slotOff (o.getD 20 0) 40,slotN 8 d.nonOwning.toNat 0 41,slotOff (o.getD 21 0) 42,slotTy d.uniqTy 43,slotOff (o.getD 22 0) 44,slotTy d.ambTy 45,
  slotOff (o.getD 23 0) 46,slotOff (o.getD 24 0) 47,slotN 1 d.signedEnum.toNat 255 48]
def Zt:List (BS->BS)->BS->BS
 |[],S=>S
 |f::fs,S=>Zt fs (f S)
def packT (d:Qbg) (tables:BS->BS×List Nat) (enemy test uniq amb:BS->BS×Nat) (S:BS):BS×Nat:=
 endT (Zt (Yi d (Q1 (fun f=>f) (Qhj d tables enemy test uniq amb) S).2) (Qs 49 (Q1 (fun f=>f) (Qhj d tables enemy test uniq amb) S).1))
mutual
def Qa8:Mon->BS->BS×Nat
 |.mk d tables enemy test uniq amb,S=>packT d (QdJ tables) (Zf enemy) (Zf test) (Zf uniq) (Zf amb) S
def QdJ:List Mon->BS->BS×List Nat
 |[],S=>(S,[])
 |m::ms,S=>((QdJ ms (Qa8 m S).1).1,(Qa8 m S).2::(QdJ ms (Qa8 m S).1).2)
def Zf:List Mon->BS->BS×Nat
 |[],S=>(S,0)
 |m::_,S=>Qa8 m S
end
theorem Qfq:∀(ms:List Mon) (S:BS),QdJ ms S=Q1 Qa8 ms S
 |[],S=>by rw[QdJ,Q1]
 |m::ms,S=>by rw[QdJ,Q1,Qfq ms]
def Qa0 (m:Mon):List UInt8:=(finish (Qa8 m QcW).2 (Qa8 m QcW).1).buf
end Go.Proofs
namespace Go.Proofs
open Go Go.Vc
open Tryz (prog)
abbrev u8n (x:UInt8):Value:=.int .u8 (x.toNat:Int)
def Qez {α:Type} (F:Cut) (v:Value) (l:List α) (cells:α->Array Value):Prop:=
 ∃ptrs:List Value,QaK F v ptrs/\ptrs.length=l.length/\∀(i:Nat) p t,ptrs[i]?=some p->l[i]?=some t->YR F p (cells t)
def testC (t:Qbf):Array Value:=#[Qbh t.a,i8V t.b]
def abilC (t:Qe7):Array Value:=#[Zs t.id,Zs t.dist]
def refC (x:UInt64):Array Value:=#[YY x]
def statC (d:Qan):Array Value:=#[Yx d.id,Qdi d.val,u16V d.count]
def Vec3At (F:Cut) (v:Value) (d:Qav):Prop:=∃w,YR F v #[QcV d.x,QcV d.y,QcV d.z,f64V d.t1,u8n d.t2,w]/\YR F w #[Qbh d.a,i8V d.b]
def OptAt {α:Type} (v:Value) (o:Option α) (at_:α->Prop):Prop:=match o with|none=>v= .pointer none|some x=>at_ x
def Qd1 (F:Cut) (amb:Bool) (ty color:UInt8) (v c:Value) (kids:List Mon):Prop:=
 (ty=0/\v= .pointer none/\kids=[])\/
 (ty≠0/\∃w,YR F v #[u8n ty,w]/\
  ((amb=false/\ty=2/\w= .iface 261 c/\YR F c #[u8n color]/\kids=[])\/
   ((ty=1\/(amb=true/\(ty=2\/ty=3)))/\w= .iface 66 c/\∃k,kids=[k])))
structure MTV where
 pos:Value
 inv:Value
 test:Value
 test4:Value
 strings:Value
 tables:Value
 enemy:Value
 nested:Value
 empty:Value
 bools:Value
 strings2:Value
 abil:Value
 flex:Value
 test5:Value
 longs:Value
 doubles:Value
 parent:Value
 refs:Value
 weak:Value
 strong:Value
 coOwnings:Value
 nonOwnings:Value
 uniq:Value
 amb:Value
 enums:Value
 testC:Value
 uniqC:Value
 ambC:Value
def mtCells (d:Qbg) (v:MTV):Array Value:=
 #[v.pos,Qbh d.mana,Qbh d.hp,Yx d.name,v.inv,u8n d.color,v.test,v.test4,v.strings,v.tables,v.enemy,v.nested,v.empty,.bool d.bool,
  Qf5 d.s32,Zs d.u32,Qdi d.s64,YY d.u64,Qf5 d.s32a,Zs d.u32a,Qdi d.s64a,YY d.u64a,v.bools,QcV d.f,QcV d.f2,QcV d.f3,v.strings2,v.abil,v.flex,v.test5,
  v.longs,v.doubles,v.parent,v.refs,YY d.singleWeak,v.weak,v.strong,YY d.coOwning,v.coOwnings,YY d.nonOwning,v.nonOwnings,v.uniq,v.amb,v.enums,i8V d.signedEnum]
structure MTD (F:Cut) (d:Qbg) (v:MTV) (enemy test uniq amb:List Mon):Prop where
 pos:OptAt v.pos d.pos (Vec3At F v.pos)
 inv:QaK F v.inv (d.inventory.map u8V)
 test:Qd1 F false d.testTy d.testColor v.test v.testC test
 test4:Qez F v.test4 d.test4 testC
 strings:QaK F v.strings (d.strings.map Yx)
 enemy:(enemy=[]/\v.enemy= .pointer none)\/∃k,enemy=[k]
 nested:QaK F v.nested (d.nested.map u8V)
 empty:OptAt v.empty d.empty (fun s=>YR F v.empty (statC s))
 bools:QaK F v.bools (d.bools.map Value.bool)
 strings2:QaK F v.strings2 (d.strings2.map Yx)
 abil:Qez F v.abil d.abilities abilC
 flex:QaK F v.flex (d.flex.map u8V)
 test5:Qez F v.test5 d.test5 testC
 longs:QaK F v.longs (d.longs.map Qdi)
 doubles:QaK F v.doubles (d.doubles.map f64V)
 parent:(d.parent=false/\v.parent= .pointer none)\/(d.parent=true/\∃a,v.parent= .pointer (some a))
 refs:Qez F v.refs d.refs refC
 weak:QaK F v.weak (d.weak.map YY)
 strong:Qez F v.strong d.strong refC
 coOwnings:QaK F v.coOwnings (d.coOwnings.map YY)
 nonOwnings:QaK F v.nonOwnings (d.nonOwnings.map YY)
 uniq:Qd1 F false d.uniqTy d.uniqColor v.uniq v.uniqC uniq
 amb:Qd1 F true d.ambTy d.ambColor v.amb v.ambC amb
 enums:QaK F v.enums (d.enums.map u8V)
inductive MT (F:Cut):Value->Mon->Prop where
 |mk (v:Value) (d:Qbg) (c:MTV) (ptrs:List Value) (tables enemy test uniq amb:List Mon) (obj:YR F v (mtCells d c)) (own:MTD F d c enemy test uniq amb)
   (tl:QaK F c.tables ptrs) (tlen:ptrs.length=tables.length) (tt:∀(i:Nat) p m,ptrs[i]?=some p->tables[i]?=some m->MT F p m)
   (te:∀k,k∈enemy->MT F c.enemy k) (tu:∀k,k∈test->MT F c.testC k) (tq:∀k,k∈uniq->MT F c.uniqC k) (ta:∀k,k∈amb->MT F c.ambC k):MT F v (.mk d tables enemy test uniq amb)
def QiM:Option Qan->Nat
 |some s=>s.id.length
 |none=>0
def Qii (d:Qbg):Nat:=
 d.name.length+d.inventory.length+d.nested.length+d.flex.length+d.enums.length+(d.strings.map List.length).sum+(d.strings2.map List.length).sum+QiM d.empty+
 60*(d.test4.length+d.strings.length+d.bools.length+d.strings2.length+d.abilities.length+d.test5.length+d.longs.length+d.doubles.length+d.refs.length+d.weak.length+d.strong.length+d.coOwnings.length+d.nonOwnings.length)+8000
mutual
def QcY:Mon->Nat
 |.mk d tables enemy test uniq amb=>Qii d+60*tables.length+Qa3 tables+Qa3 enemy+Qa3 test+Qa3 uniq+Qa3 amb
def Qa3:List Mon->Nat
 |[]=>0
 |m::ms=>QcY m+Qa3 ms
end
end Go.Proofs
