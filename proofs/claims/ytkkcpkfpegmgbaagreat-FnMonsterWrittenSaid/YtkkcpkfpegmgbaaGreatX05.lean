/- WHAT IS PROVED: the given statement of FnMonsterWritten, whatever the input: this is part 5 of 14. No conditions. -/
import Derived.Test.YtkkcpkfpegmgbaaGreatX04
set_option linter.all false
namespace Go.Proofs
open Go Go.Vc
open Tryz (prog)
theorem wrap_inj {κ:IntKind} {x y:Nat} (hx:x<2^κ.bits) (hy:y<2^κ.bits) (h:κ.wrap (x:Int)=κ.wrap (y:Int)):x=y:=by
 have h1:=Qfa κ x
 have h2:=Qfa κ y
 rw[h]at h1
 have h3:=h1.symm.trans h2
 have e:(2^κ.bits:Int)=((2^κ.bits:Nat):Int):=by rw[Int.natCast_pow];rfl
 rw[e,<-Int.natCast_emod,<-Int.natCast_emod,Nat.mod_eq_of_lt hx,Nat.mod_eq_of_lt hy]at h3
 omega
theorem QdF {κ:IntKind} {x:Int} {k:Nat} (hk:8*k<=κ.bits):leB (κ.wrap x) k=leB x k:=by
 unfold leB
 apply List.map_congr_left
 intro i hi
 have hi':=List.mem_range.1 hi
 unfold YU
 congr 2
 have h1:=Qfa κ x
 have e:∀z:Int,(z/2^(8*i))%256=((z%(2^κ.bits:Int))/2^(8*i))%256:=by
  intro z
  obtain ⟨m,hm⟩:∃m,κ.bits=8*i+8+m:=⟨κ.bits-(8*i+8),by omega⟩
  have hz:=Int.emod_add_mul_ediv z (2^κ.bits)
  have hpos:(0:Int)<2^(8*i):=Int.pow_pos (by decide)
  have hp:(2^κ.bits:Int)=2^(8*i)*(256*2^m):=by
   rw[hm,Int.pow_add,Int.pow_add,Int.mul_assoc];rfl
  rw[hp]at hz⊢
  have h3:z/2^(8*i)=z%(2^(8*i)*(256*2^m))/2^(8*i)+256*2^m*(z/(2^(8*i)*(256*2^m))):=by
   have h4:z=z%(2^(8*i)*(256*2^m))+2^(8*i)*(256*2^m*(z/(2^(8*i)*(256*2^m)))):=by
    have h0:=hz.symm
    rw[Int.mul_assoc (2^(8*i)) (256*2^m) _]at h0
    exact h0
   have h5:=Int.add_mul_ediv_left (z%(2^(8*i)*(256*2^m))) (256*2^m*(z/(2^(8*i)*(256*2^m)))) (Int.ne_of_gt hpos)
   rw[<-h5,<-h4]
  rw[h3,Int.mul_assoc,Int.add_mul_emod_self_left]
 rw[e (κ.wrap x),e x,h1]
def slotN (k x d o:Nat) (S:BS):BS:=if x=d then S else slot o (putN k (leB (x:Int) k) S)
def slotF (x d o:Nat) (S:BS):BS:=if (FloatKind.f32.format.order x d !=some .eq)=true then slot o (putN 4 (leB (x:Int) 4) S) else S
def slotOff (off o:Nat) (S:BS):BS:=if off=0 then S else slot o (putOff off S)
def slotStruct (off o:Nat) (S:BS):BS:=if off=0 then S else slot o S
theorem BinK_fne {P:Program} {t:TypeId} {q:FloatKind} {a b:Nat} {k:Value->Prop}:Qk P .neq t (.float q a) (.float q b) k=k (.bool (q.format.order a b !=some .eq)):=
 Qde (by simp) (by simp) fun w=>by rw[binOp_float_cmp_neq];rfl
section
variable {H:Qe} {p:Nat} {S:BS} {F:Cut} {r:Nat} (hB:Qd H p S F r) {R:Kn}
include hB
theorem Qfv {x:Nat} (hx:x<256) (hl:S.buf.length+16<=536870912) (hR:∀H',Qd H' p (putN 1 (leB (x:Int) 1) S) F 0->R (.tuple #[]) H'):FnS prog 207 #[.pointer (some ⟨p,0,none⟩),.int .u8 (x:Int)] H R:=by
 have e1:((UInt8.ofNat x).toNat:Int)=(x:Int):=by rw[UInt8.toNat_ofNat_of_lt' hx]
 have e2:leB (x:Int) 1=[UInt8.ofNat x]:=by
  rw[leB_1]
  unfold YU
  congr 2
  simp;omega
 rw[<-e1]
 rw[e2]at hR
 exact Qd0 hB hl (fun H' h=>hR H' (h.room (Nat.zero_le _)))
theorem Qbh {x d o:Nat} (hx:x<65536) (hd:d<65536) (ho:o<S.vt.length) (hl:S.buf.length+16<=536870912) (hR:∀H',Qd H' p (slotN 2 x d o S) F 0->R (.tuple #[]) H'):
  FnS prog 327 #[.pointer (some ⟨p,0,none⟩),.int .i64 (o:Nat),.int .i16 (IntKind.i16.wrap (x:Int)),.int .i16 (IntKind.i16.wrap (d:Int))] H R:=by
 apply w327
 unfold QeW
 rw[Yp]
 unfold slotN at hR
 by_cases h:x=d
 ·subst h
  rw[QM (by simp)]
  rw[if_pos rfl]at hR
  exact hR H (hB.room (Nat.zero_le _))
 ·rw[Yb]
  ·rw[if_neg h]at hR
   refine QcP hB hl ?_
   intro H1 h1
   rw[QdF (by decide)]at h1
   refine YQ h1 ho ?_
   intro H2 h2
   exact hR H2 (h2.room (Nat.zero_le _))
  ·intro hh
   exact h (wrap_inj (κ:=.i16) hx hd hh)
theorem Qeh {x d o:Nat} (hx:x<256) (hd:d<256) (ho:o<S.vt.length) (hl:S.buf.length+16<=536870912) (hR:∀H',Qd H' p (slotN 1 x d o S) F 0->R (.tuple #[]) H'):
  FnS prog 336 #[.pointer (some ⟨p,0,none⟩),.int .i64 (o:Nat),.int .i8 (IntKind.i8.wrap (x:Int)),.int .i8 (IntKind.i8.wrap (d:Int))] H R:=by
 apply w336
 unfold QeW
 rw[Yp]
 unfold slotN at hR
 by_cases h:x=d
 ·subst h
  rw[QM (by simp)]
  rw[if_pos rfl]at hR
  exact hR H (hB.room (Nat.zero_le _))
 ·rw[Yb]
  ·rw[if_neg h]at hR
   refine QcY hB hl ?_
   intro H1 h1
   rw[QdF (by decide)]at h1
   refine YQ h1 ho ?_
   intro H2 h2
   exact hR H2 (h2.room (Nat.zero_le _))
  ·intro hh
   exact h (wrap_inj (κ:=.i8) hx hd hh)
theorem Qbp {x d o:Nat} (hx:x<4294967296) (hd:d<4294967296) (ho:o<S.vt.length) (hl:S.buf.length+16<=536870912) (hR:∀H',Qd H' p (slotN 4 x d o S) F 0->R (.tuple #[]) H'):
  FnS prog 331 #[.pointer (some ⟨p,0,none⟩),.int .i64 (o:Nat),.int .i32 (IntKind.i32.wrap (x:Int)),.int .i32 (IntKind.i32.wrap (d:Int))] H R:=by
 apply w331
 unfold QeW
 rw[Yp]
 unfold slotN at hR
 by_cases h:x=d
 ·subst h
  rw[QM (by simp)]
  rw[if_pos rfl]at hR
  exact hR H (hB.room (Nat.zero_le _))
 ·rw[Yb]
  ·rw[if_neg h]at hR
   refine QfG hB hl ?_
   intro H1 h1
   rw[QdF (by decide)]at h1
   refine YQ h1 ho ?_
   intro H2 h2
   exact hR H2 (h2.room (Nat.zero_le _))
  ·intro hh
   exact h (wrap_inj (κ:=.i32) hx hd hh)
theorem Qa3 {x d o:Nat} (hx:x<18446744073709551616) (hd:d<18446744073709551616) (ho:o<S.vt.length) (hl:S.buf.length+16<=536870912) (hR:∀H',Qd H' p (slotN 8 x d o S) F 0->R (.tuple #[]) H'):
  FnS prog 333 #[.pointer (some ⟨p,0,none⟩),.int .i64 (o:Nat),.int .i64 (IntKind.i64.wrap (x:Int)),.int .i64 (IntKind.i64.wrap (d:Int))] H R:=by
 apply w333
 unfold QeW
 rw[Yp]
 unfold slotN at hR
 by_cases h:x=d
 ·subst h
  rw[QM (by simp)]
  rw[if_pos rfl]at hR
  exact hR H (hB.room (Nat.zero_le _))
 ·rw[Yb]
  ·rw[if_neg h]at hR
   refine QcT hB hl ?_
   intro H1 h1
   rw[QdF (by decide)]at h1
   refine YQ h1 ho ?_
   intro H2 h2
   exact hR H2 (h2.room (Nat.zero_le _))
  ·intro hh
   exact h (wrap_inj (κ:=.i64) hx hd hh)
theorem Qb6 {x d o:Nat} (hx:x<4294967296) (hd:d<4294967296) (ho:o<S.vt.length) (hl:S.buf.length+16<=536870912) (hR:∀H',Qd H' p (slotN 4 x d o S) F 0->R (.tuple #[]) H'):
  FnS prog 332 #[.pointer (some ⟨p,0,none⟩),.int .i64 (o:Nat),.int .u32 (x:Int),.int .u32 (d:Int)] H R:=by
 apply w332
 unfold QeW
 rw[Yp]
 unfold slotN at hR
 by_cases h:x=d
 ·subst h
  rw[QM (by simp)]
  rw[if_pos rfl]at hR
  exact hR H (hB.room (Nat.zero_le _))
 ·rw[Yb]
  ·rw[if_neg h]at hR
   refine Qcd hB hl ?_
   intro H1 h1
   skip
   refine YQ h1 ho ?_
   intro H2 h2
   exact hR H2 (h2.room (Nat.zero_le _))
  ·intro hh
   omega
theorem Y4 {x d o:Nat} (hx:x<18446744073709551616) (hd:d<18446744073709551616) (ho:o<S.vt.length) (hl:S.buf.length+16<=536870912) (hR:∀H',Qd H' p (slotN 8 x d o S) F 0->R (.tuple #[]) H'):
  FnS prog 334 #[.pointer (some ⟨p,0,none⟩),.int .i64 (o:Nat),.int .u64 (x:Int),.int .u64 (d:Int)] H R:=by
 apply w334
 unfold QeW
 rw[Yp]
 unfold slotN at hR
 by_cases h:x=d
 ·subst h
  rw[QM (by simp)]
  rw[if_pos rfl]at hR
  exact hR H (hB.room (Nat.zero_le _))
 ·rw[Yb]
  ·rw[if_neg h]at hR
   refine Qco hB hl ?_
   intro H1 h1
   skip
   refine YQ h1 ho ?_
   intro H2 h2
   exact hR H2 (h2.room (Nat.zero_le _))
  ·intro hh
   omega
theorem QdK {x d o:Nat} (hx:x<65536) (hd:d<65536) (ho:o<S.vt.length) (hl:S.buf.length+16<=536870912) (hR:∀H',Qd H' p (slotN 2 x d o S) F 0->R (.tuple #[]) H'):
  FnS prog 367 #[.pointer (some ⟨p,0,none⟩),.int .i64 (o:Nat),.int .u16 (x:Int),.int .u16 (d:Int)] H R:=by
 apply w367
 unfold QeW
 rw[Yp]
 unfold slotN at hR
 by_cases h:x=d
 ·subst h
  rw[QM (by simp)]
  rw[if_pos rfl]at hR
  exact hR H (hB.room (Nat.zero_le _))
 ·rw[Yb]
  ·rw[if_neg h]at hR
   refine Qf1 hB hl ?_
   intro H1 h1
   skip
   refine YQ h1 ho ?_
   intro H2 h2
   exact hR H2 (h2.room (Nat.zero_le _))
  ·intro hh
   omega
theorem YF {x d o:Nat} (hx:x<256) (hd:d<256) (ho:o<S.vt.length) (hl:S.buf.length+16<=536870912) (hR:∀H',Qd H' p (slotN 1 x d o S) F 0->R (.tuple #[]) H'):
  FnS prog 329 #[.pointer (some ⟨p,0,none⟩),.int .i64 (o:Nat),.int .u8 (x:Int),.int .u8 (d:Int)] H R:=by
 apply w329
 unfold QeW
 rw[Yp]
 unfold slotN at hR
 by_cases h:x=d
 ·subst h
  rw[QM (by simp)]
  rw[if_pos rfl]at hR
  exact hR H (hB.room (Nat.zero_le _))
 ·rw[Yb (by omega)]
  rw[if_neg h]at hR
  refine Qfv hB hx hl ?_
  intro H1 h1
  refine YQ h1 ho ?_
  intro H2 h2
  exact hR H2 (h2.room (Nat.zero_le _))
theorem Qei {x:Bool} {o:Nat} (ho:o<S.vt.length) (hl:S.buf.length+16<=536870912) (hR:∀H',Qd H' p (slotN 1 (if x then 1 else 0) 0 o S) F 0->R (.tuple #[]) H'):
  FnS prog 330 #[.pointer (some ⟨p,0,none⟩),.int .i64 (o:Nat),.bool x,.bool false] H R:=by
 apply w330
 unfold s330
 refine Q0 (fun vs h=>vs=[.int .u8 ((if x then 1 else 0:Nat):Int)]/\h=H) ?_ ?_
 ·cases x
  ·exact ⟨rfl,rfl⟩
  ·exact ⟨rfl,rfl⟩
 ·rintro v h ⟨hv,rfl⟩
  cases hv
  refine Q0 (fun vs h'=>vs=[.int .u8 ((0:Nat):Int)]/\h'=h) ?_ ?_
  ·exact ⟨rfl,rfl⟩
  ·rintro v h' ⟨hv,rfl⟩
   cases hv
   refine YF hB (by split<;>decide) (by decide) ho hl ?_
   intro H1 h1
   exact hR H1 h1
theorem ZM {x d o:Nat} (ho:o<S.vt.length) (hl:S.buf.length+16<=536870912) (hR:∀H',Qd H' p (slotF x d o S) F 0->R (.tuple #[]) H'):
  FnS prog 335 #[.pointer (some ⟨p,0,none⟩),.int .i64 (o:Nat),.float .f32 x,.float .f32 d] H R:=by
 apply w335
 unfold QeW
 rw[BinK_fne]
 unfold slotF at hR
 apply Y9
 ·intro h
  rw[if_pos h]at hR
  refine QbX hB hl ?_
  intro H1 h1
  refine YQ h1 ho ?_
  intro H2 h2
  exact hR H2 (h2.room (Nat.zero_le _))
 ·intro h
  rw[if_neg (by rw[h];decide)]at hR
  exact hR H (hB.room (Nat.zero_le _))
theorem Qq {off o:Nat} (hoff:off<=S.buf.length) (ho:o<S.vt.length) (hl:S.buf.length+16<=536870912) (hR:∀H',Qd H' p (slotOff off o S) F 0->R (.tuple #[]) H'):
  FnS prog 328 #[.pointer (some ⟨p,0,none⟩),.int .i64 (o:Nat),.int .u32 (off:Int),.int .u32 0] H R:=by
 apply w328
 unfold QeW
 rw[Yp]
 unfold slotOff at hR
 by_cases h:off=0
 ·subst h
  rw[QM (by simp)]
  rw[if_pos rfl]at hR
  exact hR H (hB.room (Nat.zero_le _))
 ·rw[Yb (by omega)]
  rw[if_neg h]at hR
  refine Qa8 hB hl hoff ?_
  intro H1 h1
  refine YQ h1 ho ?_
  intro H2 h2
  exact hR H2 (h2.room (Nat.zero_le _))
theorem QdO {off o:Nat} (hn:S.nested=true) (hoff:off=0\/off=S.buf.length) (ho:o<S.vt.length) (hR:∀H',Qd H' p (slotStruct off o S) F 0->R (.tuple #[]) H'):
  FnS prog 326 #[.pointer (some ⟨p,0,none⟩),.int .i64 (o:Nat),.int .u32 (off:Int),.int .u32 0] H R:=by
 apply w326
 unfold s326
 rw[Yp]
 unfold slotStruct at hR
 by_cases h:off=0
 ·subst h
  rw[QM (by simp)]
  rw[if_pos rfl]at hR
  exact hR H (hB.room (Nat.zero_le _))
 ·rw[Yb (by omega)]
  rw[if_neg h]at hR
  have ho2:off=S.buf.length:=by omega
  refine QaB hB hn ?_
  refine Q0 (fun _ h=>h=H) ?_ ?_
  ·refine Yl hB ?_
   rw[Yp,QM (by omega)]
  ·rintro h2 rfl
   refine YQ hB ho ?_
   intro H2 h2
   exact hR H2 (h2.room (Nat.zero_le _))
def finish (off:Nat) (S:BS):BS:={putOff off (prep S.min 4 S) with fin:=true}
theorem Qik {off k:Nat} (hn:S.nested=false) (hm:S.min=2^k) (hk:k<=3) (ho:off<=S.buf.length) (hl:S.buf.length+64<=536870912) (hR:∀H',Qd H' p (finish off S) F 0->R (.tuple #[]) H'):
  FnS prog 64 #[.pointer (some ⟨p,0,none⟩),.int .u32 (off:Int)] H R:=by
 have hB':=hB
 obtain ⟨hd,h1,⟨B,V,T,L,len,vtv,vtsv,e,eB,hr,h2,h3⟩⟩:=hB'
 apply w64
 unfold s64
 refine YW hB hn ?_
 simp only[↓Qs,↓Qm,↓Ql (ld_min hr)]
 refine QY (size:=S.min) (add:=4) (k:=k) hB hm hk rfl (by omega) ?_
 intro H1 g1
 have hpl:padOf S.min (S.buf.length+4)<8+1:=by
  have:padOf S.min (S.buf.length+4)<S.min:=Zr (by rw[hm];exact Nat.two_pow_pos k)
  have:S.min<=8:=by rw[hm];exact Nat.pow_le_pow_right (by decide) hk
  omega
 refine Qa8 g1 (by rw[QcH];omega) (by rw[QcH];omega) ?_
 intro H2 g2
 refine st_fin_at g2 ?_
 intro H3 g3
 exact hR H3 (g3.room (Nat.zero_le _))
theorem Qf0 (hf:S.fin=true) (h0:0<S.buf.length) (hR:∀B hd c,S.buf.length<=c->U8s H B hd S.buf->R (bsl B hd S.buf.length c) H):
  FnS prog 67 #[.pointer (some ⟨p,0,none⟩)] H R:=by
 have hB':=hB
 obtain ⟨hd,h1,⟨B,V,T,L,len,vtv,vtsv,e,eB,hr,h2,h3⟩⟩:=hB'
 have hL:=hr.hlen
 apply w67
 unfold s67
 refine QeI hB hf ?_
 simp only[↓Qs,↓Qm,↓Ql (YM hr)]
 apply w260
 unfold s260
 simp only[↓Qs,↓Qm,↓Ql (YN hr),Qb]
 rw[ZU hr (m:=hd) (by omega),show len-hd=S.buf.length by omega]
 refine hR B hd _ (by omega) ?_
 intro i hi
 rw[QdX hr.hB |>.at (Nat.zero_add _).symm (by omega)]
 rw[Qi7 h3 hi]
end
theorem QgE {z:Array Value} {k:Value->Prop}:Qz z.toList [] k=k (.agg z):=by simp[Qz,YJ]
def Qfr:BS:=⟨[],1,[],0,[],false,false⟩
theorem go_NewBuilder {H:Qe} {F:Cut} {R:Kn} {n:Nat} (hn:n<65536) (hF:∀b o,F b=some o->H[b]?=some o)
  (hR:∀H',Qd H' H.size Qfr F 0->Qaf H H'->R (.pointer (some ⟨H.size,0,none⟩)) H'):
  FnS prog 63 #[.int .i64 (n:Nat)] H R:=by
 apply w63
 unfold s63
 refine Q0 (fun vs h=>vs=[.int .i64 (n:Nat)]/\h=H) ?_ ?_
 ·rw[Qex]
  apply Zd
  ·intro h
   have:n=0:=by omega
   subst this
   exact ⟨rfl,rfl⟩
  ·intro h
   exact ⟨rfl,rfl⟩
 ·rintro x h ⟨hx,rfl⟩
  cases hx
  rw[QgE]
  have hp1:(h.push (.cells z238 238))[h.size]?=_:=Qh
  have hs1:(h.push (.cells z238 238)).size=h.size+1:=size_push
  have hk1:Qaf h (h.push (.cells z238 238)):=Qaf.push _ _
  rw[show Value.cells (.agg z238)=z238 from rfl,Qy]
  generalize h.push (.cells z238 238)=H1 at *
  refine ⟨by omega,by omega,by omega,by omega,?_⟩
  simp only[Int.toNat_natCast]
  rw[mk_u8 (z:=z5) rfl]
  have hp2:(H1.push (.cells (u8c (List.replicate n 0)) 5))[h.size]?=_:=Yy hp1
  have hq2:(H1.push (.cells (u8c (List.replicate n 0)) 5))[H1.size]?=_:=Qh
  have hs2:(H1.push (.cells (u8c (List.replicate n 0)) 5)).size=H1.size+1:=size_push
  have hk2:=hk1.trans (Qaf.push H1 (.cells (u8c (List.replicate n 0)) 5))
  generalize H1.push (.cells (u8c (List.replicate n 0)) 5)=H2 at *
  simp only[↓Qs,↓Qm]
  rw[Qas hp2 (by decide:0<9) (by simp) rfl,QH,QW (by omega) (by omega)]
  rw[Qas (QV hp2) (by decide:5<9) (by simp) rfl,Qe9]
  rw[Qas (QV hp2) (by decide:1<9) (by simp) rfl,Qe9]
  have hk3:=hk2.setB (Nat.le_refl _) (.cells (((z238.setIfInBounds 0 (bsl H1.size 0 n n)).setIfInBounds 5 (.int .u32 (n:Nat))).setIfInBounds 1 (.int .i64 1)) 238 (0,0))
  have hp3:=QV (o:=.cells (((z238.setIfInBounds 0 (bsl H1.size 0 n n)).setIfInBounds 5 (.int .u32 (n:Nat))).setIfInBounds 1 (.int .i64 1)) 238 (0,0)) hp2
  have hq3:=(Qw (H:=H2) (b:=h.size) (b':=H1.size) (o:=.cells (((z238.setIfInBounds 0 (bsl H1.size 0 n n)).setIfInBounds 5 (.int .u32 (n:Nat))).setIfInBounds 1 (.int .i64 1)) 238 (0,0)) (by omega)).trans hq2
  have hs3:=size_setB (H:=H2) (b:=h.size) (o:=.cells (((z238.setIfInBounds 0 (bsl H1.size 0 n n)).setIfInBounds 5 (.int .u32 (n:Nat))).setIfInBounds 1 (.int .i64 1)) 238 (0,0))
  generalize setB H2 h.size (.cells (((z238.setIfInBounds 0 (bsl H1.size 0 n n)).setIfInBounds 5 (.int .u32 (n:Nat))).setIfInBounds 1 (.int .i64 1)) 238 (0,0))=H3 at *
  refine ⟨by decide,by decide,by decide,by decide,?_⟩
  have e16:(16:Int).toNat=16:=rfl
  rw[e16,mk_u32 (z:=z93) rfl]
  have hp4:(H3.push (.cells (QgU (List.replicate 16 0)) 93))[h.size]?=_:=Yy hp3
  have hq4:(H3.push (.cells (QgU (List.replicate 16 0)) 93))[H1.size]?=_:=Yy hq3
  have ht4:(H3.push (.cells (QgU (List.replicate 16 0)) 93))[H3.size]?=_:=Qh
  have hk4:=hk3.trans (Qaf.push H3 (.cells (QgU (List.replicate 16 0)) 93))
  generalize H3.push (.cells (QgU (List.replicate 16 0)) 93)=H4 at *
  show StK H4 1 (.pointer (some ⟨h.size,4,none⟩)) (.slice (some ⟨H3.size,0,none⟩) 0 16) _
  rw[Qas hp4 (by decide:4<9) (by simp) rfl]
  refine hR _ ?_ (hk4.setB (Nat.le_refl _) _)
  refine ⟨n,Nat.zero_le _,⟨H1.size,h.size,H3.size,List.replicate n 0,n,.slice none 0 0,.slice (some ⟨H3.size,0,none⟩) 0 16,238,5,?_,by simp[Qfr],by simp[Qfr]⟩⟩
  refine ⟨?_,?_,Or.inl ⟨rfl,rfl,rfl⟩,⟨List.replicate 16 0,93,by simp[Qfr],?_,by simp[Qfr],by simp[Qfr]⟩,by omega,by omega,by omega,?_,by simp,by omega⟩
  ·rw[QV hp4,List.length_replicate];rfl
  ·rw[Qw (by omega)];exact hq4
  ·rw[Qw (by omega)];exact ht4
  ·intro b o hb
   have h1:=hF b o hb
   have h2:=Y3 h1
   exact ⟨by rw[Qw (by omega)];exact hk4 b o h1,by omega,by omega,by omega,by omega⟩
end Go.Proofs
namespace Go.Proofs
open Go Go.Vc
open Tryz (prog)
theorem QiT {x bs:List UInt8} {i:Nat}:byteN (x++bs) (x.length+i)=byteN bs i:=by
 unfold byteN
 congr 1
 simp[List.getD,List.getElem?_append_right]
theorem le2_append {x bs:List UInt8} {i:Nat}:le2 (x++bs) (x.length+i)=le2 bs i:=by
 unfold le2;rw[QiT,Nat.add_assoc,QiT]
theorem Qiw.ext {S S':BS} (h:Qiw S) (hv:S'.vts=S.vts) {x:List UInt8} (hb:S'.buf=x++S.buf):Qiw S':=by
 intro o ho
 rw[hv]at ho
 obtain ⟨h1,h2,h3,h4⟩:=h o ho
 have e:S'.buf.length-o=x.length+(S.buf.length-o):=by rw[hb,List.length_append];omega
 have e2:le2 S'.buf (S'.buf.length-o)=le2 S.buf (S.buf.length-o):=by rw[e,hb,le2_append]
 rw[e2]
 refine ⟨h1,?_,h3,h4⟩
 rw[hb,List.length_append];omega
def P2 (n:Nat):Prop:=∃k,k<=3/\n=2^k
theorem P2.max {a b:Nat} (ha:P2 a) (hb:P2 b):P2 (Nat.max a b):=by
 rcases Nat.le_total a b with h|h
 ·rw[show Nat.max a b=b from Nat.max_eq_right h];exact hb
 ·rw[show Nat.max a b=a from Nat.max_eq_left h];exact ha
theorem P2.pos {a:Nat} (ha:P2 a):0<a:=by obtain ⟨k,_,rfl⟩:=ha;exact Nat.two_pow_pos k
theorem P2.le {a:Nat} (ha:P2 a):a<=8:=by obtain ⟨k,hk,rfl⟩:=ha;exact Nat.pow_le_pow_right (by decide) hk
theorem P2_1:P2 1:=⟨0,by decide,rfl⟩
theorem P2_2:P2 2:=⟨1,by decide,rfl⟩
theorem P2_4:P2 4:=⟨2,by decide,rfl⟩
theorem P2_8:P2 8:=⟨3,by decide,rfl⟩
structure YS (S0:BS) (n c:Nat) (S:BS):Prop where
 nested:S.nested=true
 vtl:S.vt.length=n
 oe:S.oe=S0.buf.length
 vts:S.vts=S0.vts
 ext:∃x,S.buf=x++S0.buf
 vle:∀j,S.vt.getD j 0<=S.buf.length
 len:S.buf.length<=S0.buf.length+c
 fin:S.fin=S0.fin
 min:P2 S.min
theorem YS.start {S0:BS} {n:Nat} (hm:P2 S0.min):YS S0 n 0 (Qad n S0):=
 ⟨rfl,by simp[Qad],rfl,rfl,⟨[],rfl⟩,fun j=>by
  simp only[Qad,List.getD,List.getElem?_replicate]
  split<;>simp,Nat.le_refl _,rfl,hm⟩
theorem getD_set (l:List Nat) (o j x:Nat):(l.set o x).getD j 0=if o=j/\o<l.length then x else l.getD j 0:=by
 simp only[List.getD,List.getElem?_set]
 by_cases h:o=j
 ·subst h
  by_cases h2:o<l.length
  ·simp[h2]
  ·simp[h2]
 ·simp[h]
theorem YS.mono {S0 S:BS} {n c c':Nat} (h:YS S0 n c S) (hc:c<=c'):YS S0 n c' S:={h with len:=by have:=h.len;omega}
theorem YS.prep {S0 S:BS} {n c k a:Nat} (h:YS S0 n c S) (hk:P2 k):YS S0 n (c+7) (Vc.prep k a S):=by
 obtain ⟨x,hx⟩:=h.ext
 have hp:=Zr (size:=k) (n:=S.buf.length+a) hk.pos
 have hk8:=hk.le
 refine ⟨h.nested,h.vtl,h.oe,h.vts,⟨List.replicate (padOf k (S.buf.length+a)) 0++x,by simp[Vc.prep,place,hx]⟩,fun j=>?_,?_,h.fin,h.min.max hk⟩
 ·have:=h.vle j
  rw[QcH]
  show S.vt.getD j 0<=_
  omega
 ·rw[QcH]
  have:=h.len
  omega
theorem YS.place {S0 S:BS} {n c:Nat} (h:YS S0 n c S) (xs:List UInt8):YS S0 n (c+xs.length) (Vc.place xs S):=by
 obtain ⟨x,hx⟩:=h.ext
 refine ⟨h.nested,h.vtl,h.oe,h.vts,⟨xs++x,by simp[Vc.place,hx]⟩,fun j=>?_,?_,h.fin,h.min⟩
 ·have:=h.vle j
  show S.vt.getD j 0<=(xs++S.buf).length
  rw[List.length_append];omega
 ·show (xs++S.buf).length<=_
  have:=h.len
  rw[List.length_append];omega
theorem YS.slot {S0 S:BS} {n c o:Nat} (h:YS S0 n c S):YS S0 n c (Proofs.slot o S):=by
 refine ⟨h.nested,by simp[Proofs.slot,h.vtl],h.oe,h.vts,h.ext,fun j=>?_,h.len,h.fin,h.min⟩
 have:=h.vle j
 show (S.vt.set o S.buf.length).getD j 0<=S.buf.length
 rw[getD_set]
 split<;>omega
theorem YS.putN {S0 S:BS} {n c k:Nat} {xs:List UInt8} (h:YS S0 n c S) (hk:P2 k) (hx:xs.length<=8):YS S0 n (c+15) (Proofs.putN k xs S):=
 ((h.prep (a:=0) hk).place xs).mono (by omega)
theorem YS.putOff {S0 S:BS} {n c off:Nat} (h:YS S0 n c S):YS S0 n (c+15) (Proofs.putOff off S):=
 ((h.prep (a:=0) P2_4).place _).mono (by rw[Qf];omega)
theorem YS.slotN {S0 S:BS} {n c k x d o:Nat} (h:YS S0 n c S) (hk:P2 k):YS S0 n (c+15) (Proofs.slotN k x d o S):=by
 unfold Proofs.slotN
 split
 ·exact h.mono (by omega)
 ·exact (h.putN hk (by rw[Qf];exact hk.le)).slot
theorem YS.slotF {S0 S:BS} {n c x d o:Nat} (h:YS S0 n c S):YS S0 n (c+15) (Proofs.slotF x d o S):=by
 unfold Proofs.slotF
 split
 ·exact (h.putN P2_4 (by rw[Qf];decide)).slot
 ·exact h.mono (by omega)
theorem YS.slotOff {S0 S:BS} {n c off o:Nat} (h:YS S0 n c S):YS S0 n (c+15) (Proofs.slotOff off o S):=by
 unfold Proofs.slotOff
 split
 ·exact h.mono (by omega)
 ·exact h.putOff.slot
theorem YS.slotStruct {S0 S:BS} {n c off o:Nat} (h:YS S0 n c S):YS S0 n (c+15) (Proofs.slotStruct off o S):=by
 unfold Proofs.slotStruct
 split
 ·exact h.mono (by omega)
 ·exact h.slot.mono (by omega)
theorem YS.le {S0 S:BS} {n c:Nat} (h:YS S0 n c S):S0.buf.length<=S.buf.length:=by
 obtain ⟨x,hx⟩:=h.ext
 rw[hx,List.length_append];omega
theorem QiM (off:Nat) (S:BS):∃x,(putOff off S).buf=x++S.buf/\4<=x.length/\x.length<=7:=by
 have:=Zr (size:=4) (n:=S.buf.length+0) (by decide)
 refine ⟨leB (((prep 4 0 S).buf.length-off+4:Nat):Int) 4++List.replicate (padOf 4 (S.buf.length+0)) 0,by simp[putOff,place,prep],?_,?_⟩
 ·rw[List.length_append,Qf];omega
 ·rw[List.length_append,Qf,List.length_replicate];omega
theorem end_obj {H:Qe} {p:Nat} {S0 S:BS} {F:Cut} {r n c:Nat} (hB:Qd H p S F r) {R:Kn} (h:YS S0 n c S) (hn:n<1000) (hv:Qiw S0) (hl:S0.buf.length+c+4096<=536870912) (hvl:S0.vts.length<=S0.buf.length)
  (hR:∀H',Qd H' p (endObj S) F 0->R (.int .u32 ((putOff 0 S).buf.length:Nat)) H'):
  FnS prog 337 #[.pointer (some ⟨p,0,none⟩)] H R:=by
 obtain ⟨x,hx⟩:=h.ext
 obtain ⟨y,hy,_⟩:=QiM 0 S
 have h1:=h.len
 have h2:=h.le
 refine QgV hB h.nested (by omega) (by rw[h.vtl];exact hn) h.vle (by rw[h.oe];exact h2) (by rw[h.vts];omega) ?_ hR
 exact hv.ext (S':=putOff 0 S) h.vts (x:=y++x) (by rw[hy,hx,List.append_assoc])
end Go.Proofs
namespace Go.Proofs
open Go Go.Vc
open Tryz (prog)
section
variable {H:Qe} {p:Nat} {S:BS} {F:Cut} {r:Nat} (hB:Qd H p S F r) {R:Kn}
include hB
theorem Qd8 {n:Nat} (hn:S.nested=false) (hl:S.buf.length+4*n+24<=536870912)
  (hR:∀H' v,Qd H' p (Yo 4 n 2 S) F (Nat.max ((4+4*n+1)-padOf 2 ((prep 4 (4*n) {S with nested:=true}).buf.length+4*n)) (2+4*n+1))->R v H'):
  FnS prog 180 #[.pointer (some ⟨p,0,none⟩),.int .i64 (n:Nat)] H R:=by
 apply w180
 unfold Qcs
 refine QP (es:=4) (al:=2) (k:=1) hB hn (by decide) (by decide) hl ?_
 intro H' h'
 exact hR H' _ h'
theorem QaD {n:Nat} (hn:S.nested=false) (hl:S.buf.length+4*n+24<=536870912)
  (hR:∀H' v,Qd H' p (Yo 4 n 4 S) F (Nat.max ((4+4*n+1)-padOf 4 ((prep 4 (4*n) {S with nested:=true}).buf.length+4*n)) (4+4*n+1))->R v H'):
  FnS prog 183 #[.pointer (some ⟨p,0,none⟩),.int .i64 (n:Nat)] H R:=by
 apply w183
 unfold Qcs
 refine QP (es:=4) (al:=4) (k:=2) hB hn (by decide) (by decide) hl ?_
 intro H' h'
 exact hR H' _ h'
theorem QaF {n:Nat} (hn:S.nested=false) (hl:S.buf.length+4*n+24<=536870912)
  (hR:∀H' v,Qd H' p (Yo 4 n 4 S) F (Nat.max ((4+4*n+1)-padOf 4 ((prep 4 (4*n) {S with nested:=true}).buf.length+4*n)) (4+4*n+1))->R v H'):
  FnS prog 184 #[.pointer (some ⟨p,0,none⟩),.int .i64 (n:Nat)] H R:=by
 apply w184
 unfold Qcs
 refine QP (es:=4) (al:=4) (k:=2) hB hn (by decide) (by decide) hl ?_
 intro H' h'
 exact hR H' _ h'
theorem QaL {n:Nat} (hn:S.nested=false) (hl:S.buf.length+1*n+24<=536870912)
  (hR:∀H' v,Qd H' p (Yo 1 n 1 S) F (Nat.max ((4+1*n+1)-padOf 1 ((prep 4 (1*n) {S with nested:=true}).buf.length+1*n)) (1+1*n+1))->R v H'):
  FnS prog 186 #[.pointer (some ⟨p,0,none⟩),.int .i64 (n:Nat)] H R:=by
 apply w186
 unfold Qcs
 refine QP (es:=1) (al:=1) (k:=0) hB hn (by decide) (by decide) hl ?_
 intro H' h'
 exact hR H' _ h'
theorem Qaz {n:Nat} (hn:S.nested=false) (hl:S.buf.length+4*n+24<=536870912)
  (hR:∀H' v,Qd H' p (Yo 4 n 4 S) F (Nat.max ((4+4*n+1)-padOf 4 ((prep 4 (4*n) {S with nested:=true}).buf.length+4*n)) (4+4*n+1))->R v H'):
  FnS prog 188 #[.pointer (some ⟨p,0,none⟩),.int .i64 (n:Nat)] H R:=by
 apply w188
 unfold Qcs
 refine QP (es:=4) (al:=4) (k:=2) hB hn (by decide) (by decide) hl ?_
 intro H' h'
 exact hR H' _ h'
theorem Qa9 {n:Nat} (hn:S.nested=false) (hl:S.buf.length+8*n+24<=536870912)
  (hR:∀H' v,Qd H' p (Yo 8 n 4 S) F (Nat.max ((4+8*n+1)-padOf 4 ((prep 4 (8*n) {S with nested:=true}).buf.length+8*n)) (4+8*n+1))->R v H'):
  FnS prog 189 #[.pointer (some ⟨p,0,none⟩),.int .i64 (n:Nat)] H R:=by
 apply w189
 unfold Qcs
 refine QP (es:=8) (al:=4) (k:=2) hB hn (by decide) (by decide) hl ?_
 intro H' h'
 exact hR H' _ h'
theorem Qd1 {n:Nat} (hn:S.nested=false) (hl:S.buf.length+4*n+24<=536870912)
  (hR:∀H' v,Qd H' p (Yo 4 n 2 S) F (Nat.max ((4+4*n+1)-padOf 2 ((prep 4 (4*n) {S with nested:=true}).buf.length+4*n)) (2+4*n+1))->R v H'):
  FnS prog 191 #[.pointer (some ⟨p,0,none⟩),.int .i64 (n:Nat)] H R:=by
 apply w191
 unfold Qcs
 refine QP (es:=4) (al:=2) (k:=1) hB hn (by decide) (by decide) hl ?_
 intro H' h'
 exact hR H' _ h'
theorem Qbk {n:Nat} (hn:S.nested=false) (hl:S.buf.length+8*n+24<=536870912)
  (hR:∀H' v,Qd H' p (Yo 8 n 8 S) F (Nat.max ((4+8*n+1)-padOf 8 ((prep 4 (8*n) {S with nested:=true}).buf.length+8*n)) (8+8*n+1))->R v H'):
  FnS prog 192 #[.pointer (some ⟨p,0,none⟩),.int .i64 (n:Nat)] H R:=by
 apply w192
 unfold Qcs
 refine QP (es:=8) (al:=8) (k:=3) hB hn (by decide) (by decide) hl ?_
 intro H' h'
 exact hR H' _ h'
theorem QaZ {n:Nat} (hn:S.nested=false) (hl:S.buf.length+8*n+24<=536870912)
  (hR:∀H' v,Qd H' p (Yo 8 n 8 S) F (Nat.max ((4+8*n+1)-padOf 8 ((prep 4 (8*n) {S with nested:=true}).buf.length+8*n)) (8+8*n+1))->R v H'):
  FnS prog 194 #[.pointer (some ⟨p,0,none⟩),.int .i64 (n:Nat)] H R:=by
 apply w194
 unfold Qcs
 refine QP (es:=8) (al:=8) (k:=3) hB hn (by decide) (by decide) hl ?_
 intro H' h'
 exact hR H' _ h'
theorem Qar {n:Nat} (hn:S.nested=false) (hl:S.buf.length+4*n+24<=536870912)
  (hR:∀H' v,Qd H' p (Yo 4 n 4 S) F (Nat.max ((4+4*n+1)-padOf 4 ((prep 4 (4*n) {S with nested:=true}).buf.length+4*n)) (4+4*n+1))->R v H'):
  FnS prog 198 #[.pointer (some ⟨p,0,none⟩),.int .i64 (n:Nat)] H R:=by
 apply w198
 unfold Qcs
 refine QP (es:=4) (al:=4) (k:=2) hB hn (by decide) (by decide) hl ?_
 intro H' h'
 exact hR H' _ h'
theorem Qac {n:Nat} (hn:S.nested=false) (hl:S.buf.length+8*n+24<=536870912)
  (hR:∀H' v,Qd H' p (Yo 8 n 8 S) F (Nat.max ((4+8*n+1)-padOf 8 ((prep 4 (8*n) {S with nested:=true}).buf.length+8*n)) (8+8*n+1))->R v H'):
  FnS prog 199 #[.pointer (some ⟨p,0,none⟩),.int .i64 (n:Nat)] H R:=by
 apply w199
 unfold Qcs
 refine QP (es:=8) (al:=8) (k:=3) hB hn (by decide) (by decide) hl ?_
 intro H' h'
 exact hR H' _ h'
theorem Qa1 {n:Nat} (hn:S.nested=false) (hl:S.buf.length+4*n+24<=536870912)
  (hR:∀H' v,Qd H' p (Yo 4 n 4 S) F (Nat.max ((4+4*n+1)-padOf 4 ((prep 4 (4*n) {S with nested:=true}).buf.length+4*n)) (4+4*n+1))->R v H'):
  FnS prog 201 #[.pointer (some ⟨p,0,none⟩),.int .i64 (n:Nat)] H R:=by
 apply w201
 unfold Qcs
 refine QP (es:=4) (al:=4) (k:=2) hB hn (by decide) (by decide) hl ?_
 intro H' h'
 exact hR H' _ h'
theorem ZZ {n:Nat} (hn:S.nested=false) (hl:S.buf.length+8*n+24<=536870912)
  (hR:∀H' v,Qd H' p (Yo 8 n 8 S) F (Nat.max ((4+8*n+1)-padOf 8 ((prep 4 (8*n) {S with nested:=true}).buf.length+8*n)) (8+8*n+1))->R v H'):
  FnS prog 202 #[.pointer (some ⟨p,0,none⟩),.int .i64 (n:Nat)] H R:=by
 apply w202
 unfold Qcs
 refine QP (es:=8) (al:=8) (k:=3) hB hn (by decide) (by decide) hl ?_
 intro H' h'
 exact hR H' _ h'
theorem ZV {n:Nat} (hn:S.nested=false) (hl:S.buf.length+8*n+24<=536870912)
  (hR:∀H' v,Qd H' p (Yo 8 n 8 S) F (Nat.max ((4+8*n+1)-padOf 8 ((prep 4 (8*n) {S with nested:=true}).buf.length+8*n)) (8+8*n+1))->R v H'):
  FnS prog 203 #[.pointer (some ⟨p,0,none⟩),.int .i64 (n:Nat)] H R:=by
 apply w203
 unfold Qcs
 refine QP (es:=8) (al:=8) (k:=3) hB hn (by decide) (by decide) hl ?_
 intro H' h'
 exact hR H' _ h'
theorem Qbe {n:Nat} (hn:S.nested=false) (hl:S.buf.length+1*n+24<=536870912)
  (hR:∀H' v,Qd H' p (Yo 1 n 1 S) F (Nat.max ((4+1*n+1)-padOf 1 ((prep 4 (1*n) {S with nested:=true}).buf.length+1*n)) (1+1*n+1))->R v H'):
  FnS prog 206 #[.pointer (some ⟨p,0,none⟩),.int .i64 (n:Nat)] H R:=by
 apply w206
 unfold Qcs
 refine QP (es:=1) (al:=1) (k:=0) hB hn (by decide) (by decide) hl ?_
 intro H' h'
 exact hR H' _ h'
theorem QgX (hn:S.nested=false) (hR:∀H',Qd H' p (Qad 49 S) F r->R (.tuple #[]) H'):FnS prog 208 #[.pointer (some ⟨p,0,none⟩)] H R:=by
 apply w208
 unfold tp208
 exact Z3 (n:=49) hB hn (by decide) hR
theorem Qdn {off:Nat} (hn:S.nested=true) (hoff:off=0\/off=S.buf.length) (ho:0<S.vt.length) (hR:∀H',Qd H' p (slotStruct off 0 S) F 0->R (.tuple #[]) H'):FnS prog 210 #[.pointer (some ⟨p,0,none⟩),.int .u32 (off:Int)] H R:=by
 apply w210
 unfold Ys
 exact QdO (o:=0) hB hn hoff ho hR
theorem Qg2 {x:Nat} (hx:x<65536) (ho:1<S.vt.length) (hl:S.buf.length+16<=536870912) (hR:∀H',Qd H' p (slotN 2 x 150 1 S) F 0->R (.tuple #[]) H'):FnS prog 211 #[.pointer (some ⟨p,0,none⟩),.int .i16 (IntKind.i16.wrap (x:Int))] H R:=by
 apply w211
 unfold Ys
 exact Qbh (o:=1) (d:=150) hB hx (by decide) ho hl hR
theorem Qh1 {x:Nat} (hx:x<65536) (ho:2<S.vt.length) (hl:S.buf.length+16<=536870912) (hR:∀H',Qd H' p (slotN 2 x 100 2 S) F 0->R (.tuple #[]) H'):FnS prog 212 #[.pointer (some ⟨p,0,none⟩),.int .i16 (IntKind.i16.wrap (x:Int))] H R:=by
 apply w212
 unfold Ys
 exact Qbh (o:=2) (d:=100) hB hx (by decide) ho hl hR
theorem QfW {off:Nat} (hoff:off<=S.buf.length) (ho:3<S.vt.length) (hl:S.buf.length+16<=536870912) (hR:∀H',Qd H' p (slotOff off 3 S) F 0->R (.tuple #[]) H'):FnS prog 213 #[.pointer (some ⟨p,0,none⟩),.int .u32 (off:Int)] H R:=by
 apply w213
 unfold Ys
 exact Qq (o:=3) hB hoff ho hl hR
theorem Qeb {off:Nat} (hoff:off<=S.buf.length) (ho:5<S.vt.length) (hl:S.buf.length+16<=536870912) (hR:∀H',Qd H' p (slotOff off 5 S) F 0->R (.tuple #[]) H'):FnS prog 214 #[.pointer (some ⟨p,0,none⟩),.int .u32 (off:Int)] H R:=by
 apply w214
 unfold Ys
 exact Qq (o:=5) hB hoff ho hl hR
theorem Qfy {x:Nat} (hx:x<256) (ho:6<S.vt.length) (hl:S.buf.length+16<=536870912) (hR:∀H',Qd H' p (slotN 1 x 8 6 S) F 0->R (.tuple #[]) H'):FnS prog 215 #[.pointer (some ⟨p,0,none⟩),.int .u8 (x:Int)] H R:=by
 apply w215
 unfold Ys
 exact YF (o:=6) (d:=8) hB hx (by decide) ho hl hR
theorem Qek {x:Nat} (hx:x<256) (ho:7<S.vt.length) (hl:S.buf.length+16<=536870912) (hR:∀H',Qd H' p (slotN 1 x 0 7 S) F 0->R (.tuple #[]) H'):FnS prog 216 #[.pointer (some ⟨p,0,none⟩),.int .u8 (x:Int)] H R:=by
 apply w216
 unfold Ys
 exact YF (o:=7) (d:=0) hB hx (by decide) ho hl hR
theorem Qg1 {off:Nat} (hoff:off<=S.buf.length) (ho:8<S.vt.length) (hl:S.buf.length+16<=536870912) (hR:∀H',Qd H' p (slotOff off 8 S) F 0->R (.tuple #[]) H'):FnS prog 217 #[.pointer (some ⟨p,0,none⟩),.int .u32 (off:Int)] H R:=by
 apply w217
 unfold Ys
 exact Qq (o:=8) hB hoff ho hl hR
theorem QfH {off:Nat} (hoff:off<=S.buf.length) (ho:9<S.vt.length) (hl:S.buf.length+16<=536870912) (hR:∀H',Qd H' p (slotOff off 9 S) F 0->R (.tuple #[]) H'):FnS prog 218 #[.pointer (some ⟨p,0,none⟩),.int .u32 (off:Int)] H R:=by
 apply w218
 unfold Ys
 exact Qq (o:=9) hB hoff ho hl hR
theorem Qc9 {off:Nat} (hoff:off<=S.buf.length) (ho:10<S.vt.length) (hl:S.buf.length+16<=536870912) (hR:∀H',Qd H' p (slotOff off 10 S) F 0->R (.tuple #[]) H'):FnS prog 219 #[.pointer (some ⟨p,0,none⟩),.int .u32 (off:Int)] H R:=by
 apply w219
 unfold Ys
 exact Qq (o:=10) hB hoff ho hl hR
theorem Qc5 {off:Nat} (hoff:off<=S.buf.length) (ho:11<S.vt.length) (hl:S.buf.length+16<=536870912) (hR:∀H',Qd H' p (slotOff off 11 S) F 0->R (.tuple #[]) H'):FnS prog 220 #[.pointer (some ⟨p,0,none⟩),.int .u32 (off:Int)] H R:=by
 apply w220
 unfold Ys
 exact Qq (o:=11) hB hoff ho hl hR
theorem Qfo {off:Nat} (hoff:off<=S.buf.length) (ho:12<S.vt.length) (hl:S.buf.length+16<=536870912) (hR:∀H',Qd H' p (slotOff off 12 S) F 0->R (.tuple #[]) H'):FnS prog 221 #[.pointer (some ⟨p,0,none⟩),.int .u32 (off:Int)] H R:=by
 apply w221
 unfold Ys
 exact Qq (o:=12) hB hoff ho hl hR
theorem Qby {off:Nat} (hoff:off<=S.buf.length) (ho:13<S.vt.length) (hl:S.buf.length+16<=536870912) (hR:∀H',Qd H' p (slotOff off 13 S) F 0->R (.tuple #[]) H'):FnS prog 222 #[.pointer (some ⟨p,0,none⟩),.int .u32 (off:Int)] H R:=by
 apply w222
 unfold Ys
 exact Qq (o:=13) hB hoff ho hl hR
theorem Qe1 {off:Nat} (hoff:off<=S.buf.length) (ho:14<S.vt.length) (hl:S.buf.length+16<=536870912) (hR:∀H',Qd H' p (slotOff off 14 S) F 0->R (.tuple #[]) H'):FnS prog 223 #[.pointer (some ⟨p,0,none⟩),.int .u32 (off:Int)] H R:=by
 apply w223
 unfold Ys
 exact Qq (o:=14) hB hoff ho hl hR
theorem Qem {x:Bool} (ho:15<S.vt.length) (hl:S.buf.length+16<=536870912) (hR:∀H',Qd H' p (slotN 1 (if x then 1 else 0) 0 15 S) F 0->R (.tuple #[]) H'):FnS prog 224 #[.pointer (some ⟨p,0,none⟩),.bool x] H R:=by
 apply w224
 unfold s224
 exact Qei (o:=15) hB ho hl hR
theorem QcA {x:Nat} (hx:x<4294967296) (ho:16<S.vt.length) (hl:S.buf.length+16<=536870912) (hR:∀H',Qd H' p (slotN 4 x 0 16 S) F 0->R (.tuple #[]) H'):FnS prog 225 #[.pointer (some ⟨p,0,none⟩),.int .i32 (IntKind.i32.wrap (x:Int))] H R:=by
 apply w225
 unfold Ys
 exact Qbp (o:=16) (d:=0) hB hx (by decide) ho hl hR
theorem QcQ {x:Nat} (hx:x<4294967296) (ho:17<S.vt.length) (hl:S.buf.length+16<=536870912) (hR:∀H',Qd H' p (slotN 4 x 0 17 S) F 0->R (.tuple #[]) H'):FnS prog 226 #[.pointer (some ⟨p,0,none⟩),.int .u32 (x:Int)] H R:=by
 apply w226
 unfold Ys
 exact Qb6 (o:=17) (d:=0) hB hx (by decide) ho hl hR
theorem QcE {x:Nat} (hx:x<18446744073709551616) (ho:18<S.vt.length) (hl:S.buf.length+16<=536870912) (hR:∀H',Qd H' p (slotN 8 x 0 18 S) F 0->R (.tuple #[]) H'):FnS prog 227 #[.pointer (some ⟨p,0,none⟩),.int .i64 (IntKind.i64.wrap (x:Int))] H R:=by
 apply w227
 unfold Ys
 exact Qa3 (o:=18) (d:=0) hB hx (by decide) ho hl hR
theorem QcD {x:Nat} (hx:x<18446744073709551616) (ho:19<S.vt.length) (hl:S.buf.length+16<=536870912) (hR:∀H',Qd H' p (slotN 8 x 0 19 S) F 0->R (.tuple #[]) H'):FnS prog 228 #[.pointer (some ⟨p,0,none⟩),.int .u64 (x:Int)] H R:=by
 apply w228
 unfold Ys
 exact Y4 (o:=19) (d:=0) hB hx (by decide) ho hl hR
theorem Qcu {x:Nat} (hx:x<4294967296) (ho:20<S.vt.length) (hl:S.buf.length+16<=536870912) (hR:∀H',Qd H' p (slotN 4 x 0 20 S) F 0->R (.tuple #[]) H'):FnS prog 229 #[.pointer (some ⟨p,0,none⟩),.int .i32 (IntKind.i32.wrap (x:Int))] H R:=by
 apply w229
 unfold Ys
 exact Qbp (o:=20) (d:=0) hB hx (by decide) ho hl hR
theorem Qct {x:Nat} (hx:x<4294967296) (ho:21<S.vt.length) (hl:S.buf.length+16<=536870912) (hR:∀H',Qd H' p (slotN 4 x 0 21 S) F 0->R (.tuple #[]) H'):FnS prog 230 #[.pointer (some ⟨p,0,none⟩),.int .u32 (x:Int)] H R:=by
 apply w230
 unfold Ys
 exact Qb6 (o:=21) (d:=0) hB hx (by decide) ho hl hR
theorem Qcr {x:Nat} (hx:x<18446744073709551616) (ho:22<S.vt.length) (hl:S.buf.length+16<=536870912) (hR:∀H',Qd H' p (slotN 8 x 0 22 S) F 0->R (.tuple #[]) H'):FnS prog 231 #[.pointer (some ⟨p,0,none⟩),.int .i64 (IntKind.i64.wrap (x:Int))] H R:=by
 apply w231
 unfold Ys
 exact Qa3 (o:=22) (d:=0) hB hx (by decide) ho hl hR
theorem Qcw {x:Nat} (hx:x<18446744073709551616) (ho:23<S.vt.length) (hl:S.buf.length+16<=536870912) (hR:∀H',Qd H' p (slotN 8 x 0 23 S) F 0->R (.tuple #[]) H'):FnS prog 232 #[.pointer (some ⟨p,0,none⟩),.int .u64 (x:Int)] H R:=by
 apply w232
 unfold Ys
 exact Y4 (o:=23) (d:=0) hB hx (by decide) ho hl hR
theorem Qcq {off:Nat} (hoff:off<=S.buf.length) (ho:24<S.vt.length) (hl:S.buf.length+16<=536870912) (hR:∀H',Qd H' p (slotOff off 24 S) F 0->R (.tuple #[]) H'):FnS prog 233 #[.pointer (some ⟨p,0,none⟩),.int .u32 (off:Int)] H R:=by
 apply w233
 unfold Ys
 exact Qq (o:=24) hB hoff ho hl hR
theorem Qft {x:Nat} (ho:25<S.vt.length) (hl:S.buf.length+16<=536870912) (hR:∀H',Qd H' p (slotF x 1078530000 25 S) F 0->R (.tuple #[]) H'):FnS prog 234 #[.pointer (some ⟨p,0,none⟩),.float .f32 x] H R:=by
 apply w234
 unfold s234
 exact ZM (o:=25) hB ho hl hR
theorem QeX {x:Nat} (ho:26<S.vt.length) (hl:S.buf.length+16<=536870912) (hR:∀H',Qd H' p (slotF x 1077936128 26 S) F 0->R (.tuple #[]) H'):FnS prog 235 #[.pointer (some ⟨p,0,none⟩),.float .f32 x] H R:=by
 apply w235
 unfold s235
 exact ZM (o:=26) hB ho hl hR
theorem Qf9 {x:Nat} (ho:27<S.vt.length) (hl:S.buf.length+16<=536870912) (hR:∀H',Qd H' p (slotF x 0 27 S) F 0->R (.tuple #[]) H'):FnS prog 236 #[.pointer (some ⟨p,0,none⟩),.float .f32 x] H R:=by
 apply w236
 unfold s236
 exact ZM (o:=27) hB ho hl hR
theorem QbM {off:Nat} (hoff:off<=S.buf.length) (ho:28<S.vt.length) (hl:S.buf.length+16<=536870912) (hR:∀H',Qd H' p (slotOff off 28 S) F 0->R (.tuple #[]) H'):FnS prog 237 #[.pointer (some ⟨p,0,none⟩),.int .u32 (off:Int)] H R:=by
 apply w237
 unfold Ys
 exact Qq (o:=28) hB hoff ho hl hR
theorem Qb2 {off:Nat} (hoff:off<=S.buf.length) (ho:29<S.vt.length) (hl:S.buf.length+16<=536870912) (hR:∀H',Qd H' p (slotOff off 29 S) F 0->R (.tuple #[]) H'):FnS prog 238 #[.pointer (some ⟨p,0,none⟩),.int .u32 (off:Int)] H R:=by
 apply w238
 unfold Ys
 exact Qq (o:=29) hB hoff ho hl hR
theorem QfS {off:Nat} (hoff:off<=S.buf.length) (ho:30<S.vt.length) (hl:S.buf.length+16<=536870912) (hR:∀H',Qd H' p (slotOff off 30 S) F 0->R (.tuple #[]) H'):FnS prog 239 #[.pointer (some ⟨p,0,none⟩),.int .u32 (off:Int)] H R:=by
 apply w239
 unfold Ys
 exact Qq (o:=30) hB hoff ho hl hR
theorem Qff {off:Nat} (hoff:off<=S.buf.length) (ho:31<S.vt.length) (hl:S.buf.length+16<=536870912) (hR:∀H',Qd H' p (slotOff off 31 S) F 0->R (.tuple #[]) H'):FnS prog 240 #[.pointer (some ⟨p,0,none⟩),.int .u32 (off:Int)] H R:=by
 apply w240
 unfold Ys
 exact Qq (o:=31) hB hoff ho hl hR
theorem Qd7 {off:Nat} (hoff:off<=S.buf.length) (ho:32<S.vt.length) (hl:S.buf.length+16<=536870912) (hR:∀H',Qd H' p (slotOff off 32 S) F 0->R (.tuple #[]) H'):FnS prog 241 #[.pointer (some ⟨p,0,none⟩),.int .u32 (off:Int)] H R:=by
 apply w241
 unfold Ys
 exact Qq (o:=32) hB hoff ho hl hR
theorem QcU {off:Nat} (hoff:off<=S.buf.length) (ho:33<S.vt.length) (hl:S.buf.length+16<=536870912) (hR:∀H',Qd H' p (slotOff off 33 S) F 0->R (.tuple #[]) H'):FnS prog 242 #[.pointer (some ⟨p,0,none⟩),.int .u32 (off:Int)] H R:=by
 apply w242
 unfold Ys
 exact Qq (o:=33) hB hoff ho hl hR
theorem QbH {off:Nat} (hoff:off<=S.buf.length) (ho:34<S.vt.length) (hl:S.buf.length+16<=536870912) (hR:∀H',Qd H' p (slotOff off 34 S) F 0->R (.tuple #[]) H'):FnS prog 243 #[.pointer (some ⟨p,0,none⟩),.int .u32 (off:Int)] H R:=by
 apply w243
 unfold Ys
 exact Qq (o:=34) hB hoff ho hl hR
theorem QbF {off:Nat} (hoff:off<=S.buf.length) (ho:35<S.vt.length) (hl:S.buf.length+16<=536870912) (hR:∀H',Qd H' p (slotOff off 35 S) F 0->R (.tuple #[]) H'):FnS prog 244 #[.pointer (some ⟨p,0,none⟩),.int .u32 (off:Int)] H R:=by
 apply w244
 unfold Ys
 exact Qq (o:=35) hB hoff ho hl hR
theorem QbJ {x:Nat} (hx:x<18446744073709551616) (ho:36<S.vt.length) (hl:S.buf.length+16<=536870912) (hR:∀H',Qd H' p (slotN 8 x 0 36 S) F 0->R (.tuple #[]) H'):FnS prog 245 #[.pointer (some ⟨p,0,none⟩),.int .u64 (x:Int)] H R:=by
 apply w245
 unfold Ys
 exact Y4 (o:=36) (d:=0) hB hx (by decide) ho hl hR
theorem Qba {off:Nat} (hoff:off<=S.buf.length) (ho:37<S.vt.length) (hl:S.buf.length+16<=536870912) (hR:∀H',Qd H' p (slotOff off 37 S) F 0->R (.tuple #[]) H'):FnS prog 246 #[.pointer (some ⟨p,0,none⟩),.int .u32 (off:Int)] H R:=by
 apply w246
 unfold Ys
 exact Qq (o:=37) hB hoff ho hl hR
theorem QaI {off:Nat} (hoff:off<=S.buf.length) (ho:38<S.vt.length) (hl:S.buf.length+16<=536870912) (hR:∀H',Qd H' p (slotOff off 38 S) F 0->R (.tuple #[]) H'):FnS prog 247 #[.pointer (some ⟨p,0,none⟩),.int .u32 (off:Int)] H R:=by
 apply w247
 unfold Ys
 exact Qq (o:=38) hB hoff ho hl hR
theorem Qcb {x:Nat} (hx:x<18446744073709551616) (ho:39<S.vt.length) (hl:S.buf.length+16<=536870912) (hR:∀H',Qd H' p (slotN 8 x 0 39 S) F 0->R (.tuple #[]) H'):FnS prog 248 #[.pointer (some ⟨p,0,none⟩),.int .u64 (x:Int)] H R:=by
 apply w248
 unfold Ys
 exact Y4 (o:=39) (d:=0) hB hx (by decide) ho hl hR
theorem Qay {off:Nat} (hoff:off<=S.buf.length) (ho:40<S.vt.length) (hl:S.buf.length+16<=536870912) (hR:∀H',Qd H' p (slotOff off 40 S) F 0->R (.tuple #[]) H'):FnS prog 249 #[.pointer (some ⟨p,0,none⟩),.int .u32 (off:Int)] H R:=by
 apply w249
 unfold Ys
 exact Qq (o:=40) hB hoff ho hl hR
theorem QbR {x:Nat} (hx:x<18446744073709551616) (ho:41<S.vt.length) (hl:S.buf.length+16<=536870912) (hR:∀H',Qd H' p (slotN 8 x 0 41 S) F 0->R (.tuple #[]) H'):FnS prog 250 #[.pointer (some ⟨p,0,none⟩),.int .u64 (x:Int)] H R:=by
 apply w250
 unfold Ys
 exact Y4 (o:=41) (d:=0) hB hx (by decide) ho hl hR
theorem Qaw {off:Nat} (hoff:off<=S.buf.length) (ho:42<S.vt.length) (hl:S.buf.length+16<=536870912) (hR:∀H',Qd H' p (slotOff off 42 S) F 0->R (.tuple #[]) H'):FnS prog 251 #[.pointer (some ⟨p,0,none⟩),.int .u32 (off:Int)] H R:=by
 apply w251
 unfold Ys
 exact Qq (o:=42) hB hoff ho hl hR
theorem Qda {x:Nat} (hx:x<256) (ho:43<S.vt.length) (hl:S.buf.length+16<=536870912) (hR:∀H',Qd H' p (slotN 1 x 0 43 S) F 0->R (.tuple #[]) H'):FnS prog 252 #[.pointer (some ⟨p,0,none⟩),.int .u8 (x:Int)] H R:=by
 apply w252
 unfold Ys
 exact YF (o:=43) (d:=0) hB hx (by decide) ho hl hR
theorem Qef {off:Nat} (hoff:off<=S.buf.length) (ho:44<S.vt.length) (hl:S.buf.length+16<=536870912) (hR:∀H',Qd H' p (slotOff off 44 S) F 0->R (.tuple #[]) H'):FnS prog 253 #[.pointer (some ⟨p,0,none⟩),.int .u32 (off:Int)] H R:=by
 apply w253
 unfold Ys
 exact Qq (o:=44) hB hoff ho hl hR
theorem Qcv {x:Nat} (hx:x<256) (ho:45<S.vt.length) (hl:S.buf.length+16<=536870912) (hR:∀H',Qd H' p (slotN 1 x 0 45 S) F 0->R (.tuple #[]) H'):FnS prog 254 #[.pointer (some ⟨p,0,none⟩),.int .u8 (x:Int)] H R:=by
 apply w254
 unfold Ys
 exact YF (o:=45) (d:=0) hB hx (by decide) ho hl hR
theorem Qdr {off:Nat} (hoff:off<=S.buf.length) (ho:46<S.vt.length) (hl:S.buf.length+16<=536870912) (hR:∀H',Qd H' p (slotOff off 46 S) F 0->R (.tuple #[]) H'):FnS prog 255 #[.pointer (some ⟨p,0,none⟩),.int .u32 (off:Int)] H R:=by
 apply w255
 unfold Ys
 exact Qq (o:=46) hB hoff ho hl hR
theorem Qd2 {off:Nat} (hoff:off<=S.buf.length) (ho:47<S.vt.length) (hl:S.buf.length+16<=536870912) (hR:∀H',Qd H' p (slotOff off 47 S) F 0->R (.tuple #[]) H'):FnS prog 256 #[.pointer (some ⟨p,0,none⟩),.int .u32 (off:Int)] H R:=by
 apply w256
 unfold Ys
 exact Qq (o:=47) hB hoff ho hl hR
theorem QdJ {x:Nat} (hx:x<256) (ho:48<S.vt.length) (hl:S.buf.length+16<=536870912) (hR:∀H',Qd H' p (slotN 1 x 255 48 S) F 0->R (.tuple #[]) H'):FnS prog 257 #[.pointer (some ⟨p,0,none⟩),.int .i8 (IntKind.i8.wrap (x:Int))] H R:=by
 apply w257
 unfold Ys
 exact Qeh (o:=48) (d:=255) hB hx (by decide) ho hl hR
theorem Qic {S0:BS} {n c:Nat} (h:YS S0 n c S) (hn:n<1000) (hv:Qiw S0) (hl:S0.buf.length+c+4096<=536870912) (hvl:S0.vts.length<=S0.buf.length)
  (hR:∀H',Qd H' p (endObj S) F 0->R (.int .u32 ((putOff 0 S).buf.length:Nat)) H'):FnS prog 258 #[.pointer (some ⟨p,0,none⟩)] H R:=by
 apply w258
 unfold QgZ
 exact end_obj hB h hn hv hl hvl hR
theorem QiQ (hn:S.nested=false) (hR:∀H',Qd H' p (Qad 3 S) F r->R (.tuple #[]) H'):FnS prog 309 #[.pointer (some ⟨p,0,none⟩)] H R:=by
 apply w309
 unfold tp208
 exact Z3 (n:=3) hB hn (by decide) hR
theorem Qis {off:Nat} (hoff:off<=S.buf.length) (ho:0<S.vt.length) (hl:S.buf.length+16<=536870912) (hR:∀H',Qd H' p (slotOff off 0 S) F 0->R (.tuple #[]) H'):FnS prog 310 #[.pointer (some ⟨p,0,none⟩),.int .u32 (off:Int)] H R:=by
 apply w310
 unfold Ys
 exact Qq (o:=0) hB hoff ho hl hR
theorem QhR {x:Nat} (hx:x<18446744073709551616) (ho:1<S.vt.length) (hl:S.buf.length+16<=536870912) (hR:∀H',Qd H' p (slotN 8 x 0 1 S) F 0->R (.tuple #[]) H'):FnS prog 311 #[.pointer (some ⟨p,0,none⟩),.int .i64 (IntKind.i64.wrap (x:Int))] H R:=by
 apply w311
 unfold Ys
 exact Qa3 (o:=1) (d:=0) hB hx (by decide) ho hl hR
theorem Qh0 {x:Nat} (hx:x<65536) (ho:2<S.vt.length) (hl:S.buf.length+16<=536870912) (hR:∀H',Qd H' p (slotN 2 x 0 2 S) F 0->R (.tuple #[]) H'):FnS prog 312 #[.pointer (some ⟨p,0,none⟩),.int .u16 (x:Int)] H R:=by
 apply w312
 unfold Ys
 exact QdK (o:=2) (d:=0) hB hx (by decide) ho hl hR
theorem Example_StatEnd {S0:BS} {n c:Nat} (h:YS S0 n c S) (hn:n<1000) (hv:Qiw S0) (hl:S0.buf.length+c+4096<=536870912) (hvl:S0.vts.length<=S0.buf.length)
  (hR:∀H',Qd H' p (endObj S) F 0->R (.int .u32 ((putOff 0 S).buf.length:Nat)) H'):FnS prog 313 #[.pointer (some ⟨p,0,none⟩)] H R:=by
 apply w313
 unfold QgZ
 exact end_obj hB h hn hv hl hvl hR
theorem QdB (hn:S.nested=false) (hR:∀H',Qd H' p (Qad 0 S) F r->R (.tuple #[]) H'):FnS prog 318 #[.pointer (some ⟨p,0,none⟩)] H R:=by
 apply w318
 unfold tp208
 exact Z3 (n:=0) hB hn (by decide) hR
theorem Qed {S0:BS} {n c:Nat} (h:YS S0 n c S) (hn:n<1000) (hv:Qiw S0) (hl:S0.buf.length+c+4096<=536870912) (hvl:S0.vts.length<=S0.buf.length)
  (hR:∀H',Qd H' p (endObj S) F 0->R (.int .u32 ((putOff 0 S).buf.length:Nat)) H'):FnS prog 319 #[.pointer (some ⟨p,0,none⟩)] H R:=by
 apply w319
 unfold QgZ
 exact end_obj hB h hn hv hl hvl hR
theorem Qfz (hn:S.nested=false) (hR:∀H',Qd H' p (Qad 1 S) F r->R (.tuple #[]) H'):FnS prog 320 #[.pointer (some ⟨p,0,none⟩)] H R:=by
 apply w320
 unfold tp208
 exact Z3 (n:=1) hB hn (by decide) hR
theorem Qfe {x:Nat} (hx:x<18446744073709551616) (ho:0<S.vt.length) (hl:S.buf.length+16<=536870912) (hR:∀H',Qd H' p (slotN 8 x 0 0 S) F 0->R (.tuple #[]) H'):FnS prog 321 #[.pointer (some ⟨p,0,none⟩),.int .u64 (x:Int)] H R:=by
 apply w321
 unfold Ys
 exact Y4 (o:=0) (d:=0) hB hx (by decide) ho hl hR
theorem Qgg {S0:BS} {n c:Nat} (h:YS S0 n c S) (hn:n<1000) (hv:Qiw S0) (hl:S0.buf.length+c+4096<=536870912) (hvl:S0.vts.length<=S0.buf.length)
  (hR:∀H',Qd H' p (endObj S) F 0->R (.int .u32 ((putOff 0 S).buf.length:Nat)) H'):FnS prog 322 #[.pointer (some ⟨p,0,none⟩)] H R:=by
 apply w322
 unfold QgZ
 exact end_obj hB h hn hv hl hvl hR
theorem QbQ (hn:S.nested=false) (hR:∀H',Qd H' p (Qad 1 S) F r->R (.tuple #[]) H'):FnS prog 360 #[.pointer (some ⟨p,0,none⟩)] H R:=by
 apply w360
 unfold tp208
 exact Z3 (n:=1) hB hn (by decide) hR
theorem Qbd {x:Nat} (hx:x<256) (ho:0<S.vt.length) (hl:S.buf.length+16<=536870912) (hR:∀H',Qd H' p (slotN 1 x 2 0 S) F 0->R (.tuple #[]) H'):FnS prog 361 #[.pointer (some ⟨p,0,none⟩),.int .u8 (x:Int)] H R:=by
 apply w361
 unfold Ys
 exact YF (o:=0) (d:=2) hB hx (by decide) ho hl hR
theorem Qcp {S0:BS} {n c:Nat} (h:YS S0 n c S) (hn:n<1000) (hv:Qiw S0) (hl:S0.buf.length+c+4096<=536870912) (hvl:S0.vts.length<=S0.buf.length)
  (hR:∀H',Qd H' p (endObj S) F 0->R (.int .u32 ((putOff 0 S).buf.length:Nat)) H'):FnS prog 362 #[.pointer (some ⟨p,0,none⟩)] H R:=by
 apply w362
 unfold QgZ
 exact end_obj hB h hn hv hl hvl hR
omit hB in
theorem Qe7 {k a:Nat} {S:BS} (h:(S.buf.length+a)%k=0) (hm:k<=S.min):prep k a S=S:=by
 unfold prep
 rw[ZY h,show Nat.max S.min k=S.min from Nat.max_eq_left hm]
 rfl
theorem al_Byte {b:UInt8} (ha:S.buf.length%1=0) (hm:1<=S.min) (hl:S.buf.length+16<=536870912) (hR:∀H',Qd H' p (place [b] S) F (r-1)->R (.tuple #[]) H'):FnS prog 207 #[.pointer (some ⟨p,0,none⟩),.int .u8 (b.toNat:Int)] H R:=by
 refine Qd0 hB hl ?_
 intro H' h'
 have e:putN 1 [b] S=place [b] S:=by unfold putN;rw[Qe7 (by simpa using ha) hm]
 rw[e,ZY ha]at h'
 refine hR H' (h'.room ?_)
 have:r-0<=Nat.max (r-0) (1+1):=Nat.le_max_left _ _
 generalize Nat.max (r-0) (1+1)=z at *
 omega
theorem al_Bool {b:Bool} (ha:S.buf.length%1=0) (hm:1<=S.min) (hl:S.buf.length+16<=536870912) (hR:∀H',Qd H' p (place [if b then 1 else 0] S) F (r-1)->R (.tuple #[]) H'):FnS prog 187 #[.pointer (some ⟨p,0,none⟩),.bool b] H R:=by
 refine QfR hB hl ?_
 intro H' h'
 have e:putN 1 [if b then 1 else 0] S=place [if b then 1 else 0] S:=by unfold putN;rw[Qe7 (by simpa using ha) hm]
 rw[e,ZY ha]at h'
 refine hR H' (h'.room ?_)
 have:r-0<=Nat.max (r-0) (1+1):=Nat.le_max_left _ _
 generalize Nat.max (r-0) (1+1)=z at *
 omega
theorem al_Int8 {x:Int} (ha:S.buf.length%1=0) (hm:1<=S.min) (hl:S.buf.length+16<=536870912) (hR:∀H',Qd H' p (place (leB x 1) S) F (r-1)->R (.tuple #[]) H'):FnS prog 365 #[.pointer (some ⟨p,0,none⟩),.int .i8 x] H R:=by
 refine QcY hB hl ?_
 intro H' h'
 have e:putN 1 (leB x 1) S=place (leB x 1) S:=by unfold putN;rw[Qe7 (by simpa using ha) hm]
 rw[e,ZY ha]at h'
 refine hR H' (h'.room ?_)
 have:r-0<=Nat.max (r-0) (1+1):=Nat.le_max_left _ _
 generalize Nat.max (r-0) (1+1)=z at *
 omega
theorem al_Int16 {x:Int} (ha:S.buf.length%2=0) (hm:2<=S.min) (hl:S.buf.length+16<=536870912) (hR:∀H',Qd H' p (place (leB x 2) S) F (r-2)->R (.tuple #[]) H'):FnS prog 366 #[.pointer (some ⟨p,0,none⟩),.int .i16 x] H R:=by
 refine QcP hB hl ?_
 intro H' h'
 have e:putN 2 (leB x 2) S=place (leB x 2) S:=by unfold putN;rw[Qe7 (by simpa using ha) hm]
 rw[e,ZY ha]at h'
 refine hR H' (h'.room ?_)
 have:r-0<=Nat.max (r-0) (2+1):=Nat.le_max_left _ _
 generalize Nat.max (r-0) (2+1)=z at *
 omega
theorem al_Uint32 {x:Int} (ha:S.buf.length%4=0) (hm:4<=S.min) (hl:S.buf.length+16<=536870912) (hR:∀H',Qd H' p (place (leB x 4) S) F (r-4)->R (.tuple #[]) H'):FnS prog 369 #[.pointer (some ⟨p,0,none⟩),.int .u32 x] H R:=by
 refine Qcd hB hl ?_
 intro H' h'
 have e:putN 4 (leB x 4) S=place (leB x 4) S:=by unfold putN;rw[Qe7 (by simpa using ha) hm]
 rw[e,ZY ha]at h'
 refine hR H' (h'.room ?_)
 have:r-0<=Nat.max (r-0) (4+1):=Nat.le_max_left _ _
 generalize Nat.max (r-0) (4+1)=z at *
 omega
theorem Qix {x:Nat} (ha:S.buf.length%4=0) (hm:4<=S.min) (hl:S.buf.length+16<=536870912) (hR:∀H',Qd H' p (place (leB x 4) S) F (r-4)->R (.tuple #[]) H'):FnS prog 373 #[.pointer (some ⟨p,0,none⟩),.float .f32 x] H R:=by
 refine QbX hB hl ?_
 intro H' h'
 have e:putN 4 (leB x 4) S=place (leB x 4) S:=by unfold putN;rw[Qe7 (by simpa using ha) hm]
 rw[e,ZY ha]at h'
 refine hR H' (h'.room ?_)
 have:r-0<=Nat.max (r-0) (4+1):=Nat.le_max_left _ _
 generalize Nat.max (r-0) (4+1)=z at *
 omega
theorem al_Int64 {x:Int} (ha:S.buf.length%8=0) (hm:8<=S.min) (hl:S.buf.length+16<=536870912) (hR:∀H',Qd H' p (place (leB x 8) S) F (r-8)->R (.tuple #[]) H'):FnS prog 193 #[.pointer (some ⟨p,0,none⟩),.int .i64 x] H R:=by
 refine QcT hB hl ?_
 intro H' h'
 have e:putN 8 (leB x 8) S=place (leB x 8) S:=by unfold putN;rw[Qe7 (by simpa using ha) hm]
 rw[e,ZY ha]at h'
 refine hR H' (h'.room ?_)
 have:r-0<=Nat.max (r-0) (8+1):=Nat.le_max_left _ _
 generalize Nat.max (r-0) (8+1)=z at *
 omega
theorem al_Uint64 {x:Int} (ha:S.buf.length%8=0) (hm:8<=S.min) (hl:S.buf.length+16<=536870912) (hR:∀H',Qd H' p (place (leB x 8) S) F (r-8)->R (.tuple #[]) H'):FnS prog 200 #[.pointer (some ⟨p,0,none⟩),.int .u64 x] H R:=by
 refine Qco hB hl ?_
 intro H' h'
 have e:putN 8 (leB x 8) S=place (leB x 8) S:=by unfold putN;rw[Qe7 (by simpa using ha) hm]
 rw[e,ZY ha]at h'
 refine hR H' (h'.room ?_)
 have:r-0<=Nat.max (r-0) (8+1):=Nat.le_max_left _ _
 generalize Nat.max (r-0) (8+1)=z at *
 omega
theorem al_Float64 {x:Nat} (ha:S.buf.length%8=0) (hm:8<=S.min) (hl:S.buf.length+16<=536870912) (hR:∀H',Qd H' p (place (leB x 8) S) F (r-8)->R (.tuple #[]) H'):FnS prog 195 #[.pointer (some ⟨p,0,none⟩),.float .f64 x] H R:=by
 refine QeG hB hl ?_
 intro H' h'
 have e:putN 8 (leB x 8) S=place (leB x 8) S:=by unfold putN;rw[Qe7 (by simpa using ha) hm]
 rw[e,ZY ha]at h'
 refine hR H' (h'.room ?_)
 have:r-0<=Nat.max (r-0) (8+1):=Nat.le_max_left _ _
 generalize Nat.max (r-0) (8+1)=z at *
 omega
theorem al_UOffsetT {off:Nat} (ha:S.buf.length%4=0) (hm:4<=S.min) (ho:off<=S.buf.length) (hl:S.buf.length+16<=536870912) (hR:∀H',Qd H' p (place (leB ((S.buf.length-off+4:Nat):Int) 4) S) F (r-4)->R (.tuple #[]) H'):
  FnS prog 165 #[.pointer (some ⟨p,0,none⟩),.int .u32 (off:Nat)] H R:=by
 refine Qa8 hB hl ho ?_
 intro H' h'
 have e:putOff off S=place (leB ((S.buf.length-off+4:Nat):Int) 4) S:=by unfold putOff;rw[Qe7 (by simpa using ha) hm]
 rw[e,ZY ha]at h'
 refine hR H' (h'.room ?_)
 have:r-0<=Nat.max (r-0) 5:=Nat.le_max_left _ _
 generalize Nat.max (r-0) 5=z at *
 omega
theorem al_Prep {size add k:Nat} (hsz:size=2^k) (hk:k<=3) (ha:(S.buf.length+add)%size=0) (hm:size<=S.min) (hl:S.buf.length+add+16<=536870912) (hR:∀H',Qd H' p S F r->R (.tuple #[]) H'):
  FnS prog 164 #[.pointer (some ⟨p,0,none⟩),.int .i64 (size:Nat),.int .i64 (add:Nat)] H R:=by
 refine QY hB hsz hk rfl hl ?_
 intro H' h'
 rw[Qe7 ha hm,ZY ha]at h'
 exact hR H' (h'.room (Nat.le_max_left _ _))
def QcB (a b:Nat):List UInt8:=leB (a:Int) 2++(leB (b:Int) 1++[0])
def QaJ (a b:Nat):List UInt8:=leB (a:Int) 4++leB (b:Int) 4
def vec3B (x y z t1 t2 a b:Nat):List UInt8:=
 leB (x:Int) 4++(leB (y:Int) 4++(leB (z:Int) 4++([0,0,0,0]++(leB (t1:Int) 8++(leB (t2:Int) 1++([0]++(leB (a:Int) 2++(leB (b:Int) 1++([0]++[0,0])))))))))
omit hB in
theorem Zk (a b:List UInt8) (S:BS):place a (place b S)=place (a++b) S:=by simp[place]
omit hB in
theorem YE (a:List UInt8) (S:BS):(place a S).buf.length=a.length+S.buf.length:=by simp[place]
omit hB in
theorem QaQ (a:List UInt8) (S:BS):(place a S).min=S.min:=rfl
theorem QhQ {a b:Nat} (hr:4<=r) (ha:S.buf.length%2=0) (hm:2<=S.min) (hl:S.buf.length+32<=536870912) (hR:∀H' v,Qd H' p (place (QcB a b) S) F (r-4)->R v H'):
  FnS prog 307 #[.pointer (some ⟨p,0,none⟩),.int .i16 (IntKind.i16.wrap (a:Int)),.int .i8 (IntKind.i8.wrap (b:Int))] H R:=by
 apply w307
 unfold s307
 refine al_Prep (size:=2) (add:=4) (k:=1) hB (by decide) (by decide) (by omega) hm (by omega) ?_
 intro H1 h1
 refine QaU (n:=1) h1 rfl (by omega) ?_
 intro H2 h2
 have e1:(List.replicate 1 (0:UInt8))=[0]:=rfl
 rw[e1]at h2
 refine al_Int8 h2 (by rw[YE];exact Nat.mod_one _) (by rw[QaQ];omega) (by rw[YE];simp;omega) ?_
 intro H3 h3
 rw[QdF (by decide),Zk]at h3
 refine al_Int16 h3 (by rw[YE];simp[Qf];omega) (by rw[QaQ];omega) (by rw[YE];simp[Qf];omega) ?_
 intro H4 h4
 rw[QdF (by decide),Zk]at h4
 refine Yl h4 ?_
 exact hR H4 _ (h4.room (by omega))
theorem Qgq {a b:Nat} (hr:8<=r) (ha:S.buf.length%4=0) (hm:4<=S.min) (hl:S.buf.length+32<=536870912) (hR:∀H' v,Qd H' p (place (QaJ a b) S) F (r-8)->R v H'):
  FnS prog 315 #[.pointer (some ⟨p,0,none⟩),.int .u32 (a:Int),.int .u32 (b:Int)] H R:=by
 apply w315
 unfold s315
 refine al_Prep (size:=4) (add:=8) (k:=2) hB (by decide) (by decide) (by omega) hm (by omega) ?_
 intro H1 h1
 refine al_Uint32 h1 (by omega) hm (by omega) ?_
 intro H3 h3
 refine al_Uint32 h3 (by rw[YE];simp[Qf];omega) (by rw[QaQ];omega) (by rw[YE];simp[Qf];omega) ?_
 intro H4 h4
 rw[Zk]at h4
 refine Yl h4 ?_
 exact hR H4 _ (h4.room (by omega))
set_option maxHeartbeats 1000000 in
theorem QhK {x y z t1 t2 a b:Nat} (ht2:t2<256) (hl:S.buf.length+96<=536870912) (hR:∀H',Qd H' p (place (vec3B x y z t1 t2 a b) (prep 8 32 S)) F 0->R (.int .u32 ((place (vec3B x y z t1 t2 a b) (prep 8 32 S)).buf.length:Nat)) H'):
  FnS prog 325 #[.pointer (some ⟨p,0,none⟩),.float .f32 x,.float .f32 y,.float .f32 z,.float .f64 t1,.int .u8 (t2:Int),.int .i16 (IntKind.i16.wrap (a:Int)),.int .i8 (IntKind.i8.wrap (b:Int))] H R:=by
 apply w325
 unfold s325
 refine QY (size:=8) (add:=32) (k:=3) hB (by decide) (by decide) rfl (by omega) ?_
 intro H1 h1
 have hr1:41<=Nat.max (r-padOf 8 (S.buf.length+32)) (8+32+1):=Nat.le_max_right _ _
 replace h1:=h1.room hr1
 have hm:8<=(prep 8 32 S).min:=Nat.le_max_right _ _
 have hal:(prep 8 32 S).buf.length%8=0:=by
  have:=QeY (size:=8) (n:=S.buf.length+32) (by decide)
  rw[QcH];omega
 have hll:(prep 8 32 S).buf.length<=S.buf.length+7:=by
  have:=Zr (size:=8) (n:=S.buf.length+32) (by decide)
  rw[QcH];omega
 generalize prep 8 32 S=S1 at *
 refine QaU (n:=2) h1 rfl (by omega) ?_
 intro H2 h2
 rw[show List.replicate 2 (0:UInt8)=[0,0] from rfl]at h2
 refine al_Prep (size:=2) (add:=4) (k:=1) h2 (by decide) (by decide) (by rw[YE];simp;omega) (by rw[QaQ];omega) (by rw[YE];simp;omega) ?_
 intro H3 h3
 refine QaU (n:=1) h3 rfl (by omega) ?_
 intro H4 h4
 rw[show List.replicate 1 (0:UInt8)=[0] from rfl,Zk]at h4
 refine al_Int8 h4 (Nat.mod_one _) (by rw[QaQ];omega) (by rw[YE];simp;omega) ?_
 intro H5 h5
 rw[QdF (by decide),Zk]at h5
 refine al_Int16 h5 (by rw[YE];simp[Qf];omega) (by rw[QaQ];omega) (by rw[YE];simp[Qf];omega) ?_
 intro H6 h6
 rw[QdF (by decide),Zk]at h6
 refine QaU (n:=1) h6 rfl (by omega) ?_
 intro H7 h7
 rw[show List.replicate 1 (0:UInt8)=[0] from rfl,Zk]at h7
 have eb:((UInt8.ofNat t2).toNat:Int)=(t2:Int):=by rw[UInt8.toNat_ofNat_of_lt' ht2]
 have eb2:[UInt8.ofNat t2]=leB (t2:Int) 1:=by
  rw[leB_1]
  unfold YU
  congr 2
  simp;omega
 rw[<-eb]
 refine al_Byte h7 (Nat.mod_one _) (by rw[QaQ];omega) (by rw[YE];simp[Qf];omega) ?_
 intro H8 h8
 rw[eb2,Zk]at h8
 refine al_Float64 h8 (by rw[YE];simp[Qf];omega) (by rw[QaQ];omega) (by rw[YE];simp[Qf];omega) ?_
 intro H9 h9
 rw[Zk]at h9
 refine QaU (n:=4) h9 rfl (by omega) ?_
 intro H10 h10
 rw[show List.replicate 4 (0:UInt8)=[0,0,0,0] from rfl,Zk]at h10
 refine Qix h10 (by rw[YE];simp[Qf];omega) (by rw[QaQ];omega) (by rw[YE];simp[Qf];omega) ?_
 intro H11 h11
 rw[Zk]at h11
 refine Qix h11 (by rw[YE];simp[Qf];omega) (by rw[QaQ];omega) (by rw[YE];simp[Qf];omega) ?_
 intro H12 h12
 rw[Zk]at h12
 refine Qix h12 (by rw[YE];simp[Qf];omega) (by rw[QaQ];omega) (by rw[YE];simp[Qf];omega) ?_
 intro H13 h13
 rw[Zk]at h13
 refine Yl h13 ?_
 exact hR H13 (h13.room (Nat.zero_le _))
end
end Go.Proofs
namespace Go.Proofs
open Go Go.Vc
open Tryz (prog)
theorem byteN_getElem? {bs:List UInt8} {i:Nat}:byteN bs i=((bs[i]?).getD 0).toNat:=rfl
theorem byteN_putL {bs xs:List UInt8} {q i:Nat} (h:q+xs.length<=bs.length):byteN (Zt bs q xs) i=if q<=i/\i<q+xs.length then byteN xs (i-q) else byteN bs i:=by
 rw[Qbq _ _ _ h]
 simp only[byteN_getElem?]
 by_cases h1:i<q
 ·have e:(bs.take q++xs++bs.drop (q+xs.length))[i]?=bs[i]?:=by
   rw[List.getElem?_append_left (by simp;omega),List.getElem?_append_left (by simp;omega),List.getElem?_take,if_pos h1]
  rw[e,if_neg (by omega)]
 ·by_cases h2:i<q+xs.length
  ·have e:(bs.take q++xs++bs.drop (q+xs.length))[i]?=xs[i-q]?:=by
    rw[List.getElem?_append_left (by simp;omega),List.getElem?_append_right (by simp;omega)]
    congr 1;simp;omega
   rw[e,if_pos (by omega)]
  ·have e:(bs.take q++xs++bs.drop (q+xs.length))[i]?=bs[i]?:=by
    rw[List.getElem?_append_right (by simp;omega),List.getElem?_drop]
    congr 1;simp;omega
   rw[e,if_neg (by omega)]
theorem Qgi {bs xs:List UInt8} {q i:Nat} (h:q+xs.length<=bs.length) (hi:i+2<=q\/q+xs.length<=i):le2 (Zt bs q xs) i=le2 bs i:=by
 unfold le2
 rw[byteN_putL h,byteN_putL h,if_neg (by omega),if_neg (by omega)]
theorem QhS (x i:Nat):(YU (x:Int) i).toNat=x/2^(8*i)%256:=by
 have h:=byteI_val (x:Int) i
 have e:((x:Int)/2^(8*i))%256=((x/2^(8*i)%256:Nat):Int):=by
  rw[Int.natCast_emod,Int.natCast_ediv,Int.natCast_pow];rfl
 rw[e]at h
 omega
theorem QhZ {x:Int} {k i:Nat} (hi:i<k):byteN (leB x k) i=(YU x i).toNat:=by
 unfold byteN leB
 congr 1
 simp[List.getD,hi]
theorem le2_leB {x:Nat} {k:Nat} (hk:2<=k) (rest:List UInt8):le2 (leB (x:Int) k++rest) 0=x%65536:=by
 have hb:∀i,i<k->byteN (leB (x:Int) k++rest) i=x/2^(8*i)%256:=by
  intro i hi
  have:byteN (leB (x:Int) k++rest) i=byteN (leB (x:Int) k) i:=by
   unfold byteN
   congr 1
   simp only[List.getD]
   rw[List.getElem?_append_left (by rw[Qf];exact hi)]
  rw[this,QhZ hi,QhS]
 unfold le2
 rw[hb 0 (by omega),Nat.zero_add,hb 1 (by omega)]
 simp;omega
theorem le4_leB {x:Nat} {k:Nat} (hk:4<=k) (rest:List UInt8):le4 (leB (x:Int) k++rest) 0=x%4294967296:=by
 have hb:∀i,i<k->byteN (leB (x:Int) k++rest) i=x/2^(8*i)%256:=by
  intro i hi
  have:byteN (leB (x:Int) k++rest) i=byteN (leB (x:Int) k) i:=by
   unfold byteN
   congr 1
   simp only[List.getD]
   rw[List.getElem?_append_left (by rw[Qf];exact hi)]
  rw[this,QhZ hi,QhS]
 rw[le4_eq,hb 0 (by omega),hb (0+1) (by omega),hb (0+2) (by omega),hb (0+3) (by omega)]
 simp;omega
theorem le8_leB {x:Nat} (rest:List UInt8):le8 (leB (x:Int) 8++rest) 0=x%18446744073709551616:=by
 have hb:∀i,i<8->byteN (leB (x:Int) 8++rest) i=x/2^(8*i)%256:=by
  intro i hi
  have:byteN (leB (x:Int) 8++rest) i=byteN (leB (x:Int) 8) i:=by
   unfold byteN
   congr 1
   simp only[List.getD]
   rw[List.getElem?_append_left (by rw[Qf];exact hi)]
  rw[this,QhZ hi,QhS]
 rw[le8_eq,hb 0 (by omega),hb (0+1) (by omega),hb (0+2) (by omega),hb (0+3) (by omega),hb (0+4) (by omega),hb (0+5) (by omega),hb (0+6) (by omega),hb (0+7) (by omega)]
 simp;omega
structure Inv (S:BS):Prop where
 nested:S.nested=false
 vts:Qiw S
 nv:S.vts.length<=S.buf.length
 min:P2 S.min
theorem Inv.new:Inv Qfr:=⟨rfl,fun o ho=>by simp[Qfr]at ho,Nat.zero_le _,P2_1⟩
theorem wrEnt_ext (oo:Nat):∀(vs:List Nat) (S:BS),∃x,(QaE oo vs S).buf=x++S.buf/\2*vs.length<=x.length/\x.length<=3*vs.length
 |[],S=>⟨[],rfl,by simp,by simp⟩
 |v::vs,S=>by
  obtain ⟨x,hx,h1,h2⟩:=wrEnt_ext oo vs S
  have hp:=Zr (size:=2) (n:=(QaE oo vs S).buf.length+0) (by decide)
  refine ⟨leB ((if v≠0 then oo-v else 0:Nat):Int) 2++(List.replicate (padOf 2 ((QaE oo vs S).buf.length+0)) 0++x),?_,?_,?_⟩
  ·simp[QaE,putN,place,prep,hx]
  ·simp only[List.length_append,Qf,List.length_replicate,List.length_cons];omega
  ·simp only[List.length_append,Qf,List.length_replicate,List.length_cons];omega
theorem putN_ext (k:Nat) (xs:List UInt8) (S:BS):(putN k xs S).buf=xs++(List.replicate (padOf k (S.buf.length+0)) 0++S.buf):=by
 simp[putN,place,prep]
theorem wrEnt_min (oo:Nat):∀(vs:List Nat) (S:BS),P2 S.min->P2 (QaE oo vs S).min
 |[],_,h=>h
 |_::vs,S,h=>(wrEnt_min oo vs S h).max P2_2
theorem Inv.endObj {S0 S:BS} {n c:Nat} (h:YS S0 n c S) (h0:Inv S0) (hn:n<1000):
  Inv (endObj S)/\(endObj S).buf.length<=S.buf.length+3*n+16/\S.buf.length+4<=(endObj S).buf.length/\(putOff 0 S).buf.length<=(endObj S).buf.length:=by
 obtain ⟨x,hx⟩:=h.ext
 obtain ⟨y,hy,hy1,hy2⟩:=QiM 0 S
 have hS1:Qiw (putOff 0 S):=h0.vts.ext (S':=putOff 0 S) h.vts (x:=y++x) (by rw[hy,hx,List.append_assoc])
 have hle:∀o∈S.vts,o<=S.buf.length:=fun o ho=>by
  rw[h.vts]at ho
  have:=(h0.vts o ho).2.1
  rw[hx,List.length_append];omega
 have hS1l:(putOff 0 S).buf.length=y.length+S.buf.length:=by rw[hy,List.length_append]
 have hvl:((putOff 0 S).vt.take (Qa6 (putOff 0 S).vt)).length<=n:=by
  rw[List.length_take]
  have:(putOff 0 S).vt.length=n:=h.vtl
  omega
 have k2:(putOff 0 S).vts=S.vts:=rfl
 have k5:P2 (putOff 0 S).min:=h.min.max P2_4
 rw[endObj_eq S _ _ _ _ rfl rfl rfl rfl]
 generalize hvt:(putOff 0 S).vt.take (Qa6 (putOff 0 S).vt)=vt at *
 generalize QcF (Qc2 vt (putOff 0 S).buf.length (putOff 0 S).buf) (putOff 0 S).vts=ex
 generalize hoo:(putOff 0 S).buf.length=oo at *
 generalize hS1e:putOff 0 S=S1 at *
 by_cases hex:ex=0
 ·rw[if_pos hex]
  have hS2b:({S1 with vt:=vt}:BS).buf=S1.buf:=rfl
  have hS2v:({S1 with vt:=vt}:BS).vts=S1.vts:=rfl
  have hS2m:P2 ({S1 with vt:=vt}:BS).min:=k5
  generalize ({S1 with vt:=vt}:BS)=S2 at *
  obtain ⟨z,hz,hz1,hz2⟩:=wrEnt_ext oo vt S2
  have hS3m:P2 (QaE oo vt S2).min:=wrEnt_min oo vt S2 hS2m
  have hS3v:=(QdY oo vt S2).2.1
  generalize QaE oo vt S2=S3 at *
  have e4:=putN_ext 2 (leB ((oo-S.oe:Nat):Int) 2) S3
  have hS4m:P2 (putN 2 (leB ((oo-S.oe:Nat):Int) 2) S3).min:=hS3m.max P2_2
  have hp4:=Zr (size:=2) (n:=S3.buf.length+0) (by decide)
  generalize putN 2 (leB ((oo-S.oe:Nat):Int) 2) S3=S4 at *
  have e5:=putN_ext 2 (leB ((2*(vt.length+2):Nat):Int) 2) S4
  have hS5m:P2 (putN 2 (leB ((2*(vt.length+2):Nat):Int) 2) S4).min:=hS4m.max P2_2
  have hp5:=Zr (size:=2) (n:=S4.buf.length+0) (by decide)
  have hle2:le2 (putN 2 (leB ((2*(vt.length+2):Nat):Int) 2) S4).buf 0=2*(vt.length+2):=by
   rw[e5,le2_leB (Nat.le_refl _),Nat.mod_eq_of_lt (by omega)]
  generalize putN 2 (leB ((2*(vt.length+2):Nat):Int) 2) S4=S5 at *
  obtain ⟨w,hw,hw1,hw2⟩:∃w,S5.buf=w++S1.buf/\2*vt.length+4<=w.length/\w.length<=3*n+6:=by
   refine ⟨leB ((2*(vt.length+2):Nat):Int) 2++(List.replicate (padOf 2 (S4.buf.length+0)) 0++(leB ((oo-S.oe:Nat):Int) 2++(List.replicate (padOf 2 (S3.buf.length+0)) 0++z))),?_,?_,?_⟩
   ·rw[e5,e4,hz,hS2b];simp
   ·simp only[List.length_append,Qf,List.length_replicate];omega
   ·simp only[List.length_append,Qf,List.length_replicate];omega
  have hw3:S5.buf.length-oo=w.length:=by rw[hw,List.length_append,hoo];omega
  have hwl:S5.buf.length=w.length+oo:=by rw[hw,List.length_append,hoo]
  rw[hw3]
  have hpl:(Zt S5.buf w.length (leB (w.length:Int) 4)).length=S5.buf.length:=Q7 _ _ _
  refine ⟨⟨rfl,?_,?_,hS5m⟩,?_,?_,?_⟩
  ·intro o ho
   show 0<o/\o<=(Zt S5.buf w.length (leB (w.length:Int) 4)).length/\4<=le2 (Zt S5.buf w.length (leB (w.length:Int) 4)) ((Zt S5.buf w.length (leB (w.length:Int) 4)).length-o)/\le2 (Zt S5.buf w.length (leB (w.length:Int) 4)) ((Zt S5.buf w.length (leB (w.length:Int) 4)).length-o)<=o
   rw[hpl]
   rcases List.mem_append.1 (show o∈S1.vts++[S5.buf.length] from ho) with ho|ho
   ·have ho2:=hle o (by rw[<-k2];exact ho)
    obtain ⟨q1,q2,q3,q4⟩:=hS1 o ho
    have e:le2 (Zt S5.buf w.length (leB (w.length:Int) 4)) (S5.buf.length-o)=le2 S1.buf (S1.buf.length-o):=by
     rw[Qgi (by rw[Qf];omega) (by rw[Qf];omega),hw,show (w++S1.buf).length-o=w.length+(S1.buf.length-o) by rw[List.length_append];omega,le2_append]
    rw[e]
    exact ⟨q1,by omega,q3,q4⟩
   ·have:o=S5.buf.length:=by simpa using ho
    subst this
    rw[Nat.sub_self,Qgi (by rw[Qf];omega) (by omega),hle2]
    omega
  ·show (S1.vts++[S5.buf.length]).length<=(Zt S5.buf w.length (leB (w.length:Int) 4)).length
   rw[hpl,List.length_append,k2,h.vts]
   have:=h0.nv
   have:=h.le
   simp;omega
  ·show (Zt S5.buf w.length (leB (w.length:Int) 4)).length<=_
   rw[hpl];omega
  ·show _<=(Zt S5.buf w.length (leB (w.length:Int) 4)).length
   rw[hpl];omega
  ·show _<=(Zt S5.buf w.length (leB (w.length:Int) 4)).length
   rw[hpl];omega
 ·rw[if_neg hex]
  have hpl:(Zt S1.buf 0 (leB ((ex:Int)-(oo:Int)) 4)).length=S1.buf.length:=Q7 _ _ _
  refine ⟨⟨rfl,?_,?_,k5⟩,?_,?_,?_⟩
  ·intro o ho
   have ho2:=hle o (by rw[<-k2];exact ho)
   obtain ⟨q1,q2,q3,q4⟩:=hS1 o ho
   show 0<o/\o<=(Zt S1.buf 0 (leB ((ex:Int)-(oo:Int)) 4)).length/\4<=le2 (Zt S1.buf 0 (leB ((ex:Int)-(oo:Int)) 4)) ((Zt S1.buf 0 (leB ((ex:Int)-(oo:Int)) 4)).length-o)/\le2 (Zt S1.buf 0 (leB ((ex:Int)-(oo:Int)) 4)) ((Zt S1.buf 0 (leB ((ex:Int)-(oo:Int)) 4)).length-o)<=o
   rw[hpl,Qgi (by rw[Qf];omega) (by rw[Qf];omega)]
   exact ⟨q1,q2,q3,q4⟩
  ·show S1.vts.length<=(Zt S1.buf 0 (leB ((ex:Int)-(oo:Int)) 4)).length
   rw[hpl,k2,h.vts]
   have:=h0.nv
   have:=h.le
   omega
  ·show (Zt S1.buf 0 (leB ((ex:Int)-(oo:Int)) 4)).length<=_
   rw[hpl];omega
  ·show _<=(Zt S1.buf 0 (leB ((ex:Int)-(oo:Int)) 4)).length
   rw[hpl];omega
  ·show _<=(Zt S1.buf 0 (leB ((ex:Int)-(oo:Int)) 4)).length
   rw[hpl];omega
end Go.Proofs
namespace Go.Proofs
open Go Go.Vc
open Tryz (prog)
set_option maxRecDepth 100000
def s66 (b a:Value) (h:Qe) (R:Kn):Prop:=
 Qk prog .eql 89 b (.pointer none) fun z0=>
 IfK z0
 (R (.int .u32 0) h)
 (Q3 b fun z1=>
 Qg z1 3 fun z2=>
 LdK h z2 fun z3=>
 Qa prog 177 #[a,z3] h fun z4 d5=>
 QD (fun d6=>
 Q3 b fun z5=>
 Qg z5 4 fun z6=>
 LdK d5 z6 fun z7=>
 Qk prog .neq 68 z7 (.slice none 0 0) fun z8=>
 IfK z8
 (Q3 b fun z9=>
 Qg z9 4 fun a00=>
 LdK d5 a00 fun a01=>
 Qa prog 178 #[a,a01] d5 fun a02 a03=>
 d6 [a02] a03)
 (d6 [(.int .u32 0)] d5)) fun d6=>∀m2:Value,∀g7:Qe,d6 [m2] g7->
 Q3 b fun a04=>
 Qg a04 6 fun a05=>
 LdK g7 a05 fun a06=>
 Qa prog 179 #[a06,a] g7 fun a07 d7=>
 QD (fun d8=>
 Q3 b fun a08=>
 Qg a08 7 fun a09=>
 LdK d7 a09 fun a10=>
 Qk prog .neq 147 a10 (.slice none 0 0) fun a11=>
 IfK a11
 (Q3 b fun a12=>
 Qg a12 7 fun a13=>
 LdK d7 a13 fun a14=>
 Yv a14 fun g8=>
 Qa prog 180 #[a,g8] d7 fun _x108 a15=>
 QD (fun g9=>
 Qk prog .sub 3 g8 (.int .i64 1) fun a16=>
 Yu [a16] a15 fun m3 m4=>∀p:Value,∀q:Qe,m3 m4 [p] q->
 Qk prog .geq 3 p (.int .i64 0) fun a17=>
 IfK a17
 (Q3 b fun a18=>
 Qg a18 7 fun a19=>
 LdK q a19 fun a20=>
 Y1 1 a20 p fun a21=>
 LdK q a21 fun a22=>
 Qa prog 181 #[a22,a] q fun _x123 a23=>
 Qk prog .sub 3 p (.int .i64 1) fun a24=>
 QS m3 m4 [a24] a23)
 (g9 [p] q)) fun g9=>∀a25:Value,∀m5:Qe,g9 [a25] m5->
 Qa prog 182 #[a,g8] m5 fun a26 a27=>
 d8 [a26] a27)
 (d8 [(.int .u32 0)] d7)) fun d8=>∀m6:Value,∀r:Qe,d8 [m6] r->
 QD (fun d9=>
 Q3 b fun a28=>
 Qg a28 8 fun a29=>
 LdK r a29 fun a30=>
 Qk prog .neq 28 a30 (.slice none 0 0) fun a31=>
 IfK a31
 (Q3 b fun a32=>
 Qg a32 8 fun a33=>
 LdK r a33 fun a34=>
 Yv a34 fun c=>
 Qe3 r 93 4 z93 c c fun m7 a35=>
 QD (fun i0=>
 Yu [(.int .i64 0)] a35 fun m8 m9=>∀d:Value,∀s:Qe,m8 m9 [d] s->
 Qk prog .lss 3 d c fun a36=>
 IfK a36
 (Q3 b fun a37=>
 Qg a37 8 fun a38=>
 LdK s a38 fun a39=>
 Y1 1 a39 d fun a40=>
 LdK s a40 fun a41=>
 Qa prog 177 #[a,a41] s fun a42 a43=>
 Y1 1 m7 d fun a44=>
 StK a43 1 a44 a42 fun a45=>
 Qk prog .add 3 d (.int .i64 1) fun a46=>
 QS m8 m9 [a46] a45)
 (i0 [d] s)) fun i0=>∀a47:Value,∀o0:Qe,i0 [a47] o0->
 Qa prog 183 #[a,c] o0 fun _x158 a48=>
 QD (fun i1=>
 Qk prog .sub 3 c (.int .i64 1) fun a49=>
 Yu [a49] a48 fun o1 o2=>∀t:Value,∀e0:Qe,o1 o2 [t] e0->
 Qk prog .geq 3 t (.int .i64 0) fun a50=>
 IfK a50
 (Y1 1 m7 t fun a51=>
 LdK e0 a51 fun a52=>
 Qa prog 165 #[a,a52] e0 fun _x170 a53=>
 Qk prog .sub 3 t (.int .i64 1) fun a54=>
 QS o1 o2 [a54] a53)
 (i1 [t] e0)) fun i1=>∀a55:Value,∀o3:Qe,i1 [a55] o3->
 Qa prog 182 #[a,c] o3 fun a56 a57=>
 d9 [a56] a57)
 (d9 [(.int .u32 0)] r)) fun d9=>∀o4:Value,∀u:Qe,d9 [o4] u->
 QD (fun e1=>
 Q3 b fun a58=>
 Qg a58 9 fun a59=>
 LdK u a59 fun a60=>
 Qk prog .neq 148 a60 (.slice none 0 0) fun a61=>
 IfK a61
 (Q3 b fun a62=>
 Qg a62 9 fun a63=>
 LdK u a63 fun a64=>
 Yv a64 fun e=>
 Qe3 u 93 4 z93 e e fun o5 a65=>
 QD (fun i2=>
 Yu [(.int .i64 0)] a65 fun o6 o7=>∀f:Value,∀v:Qe,o6 o7 [f] v->
 Qk prog .lss 3 f e fun a66=>
 IfK a66
 (Q3 b fun a67=>
 Qg a67 9 fun a68=>
 LdK v a68 fun a69=>
 Y1 1 a69 f fun a70=>
 LdK v a70 fun a71=>
 Qa prog 66 #[a71,a] v fun a72 a73=>
 Y1 1 o5 f fun a74=>
 StK a73 1 a74 a72 fun a75=>
 Qk prog .add 3 f (.int .i64 1) fun a76=>
 QS o6 o7 [a76] a75)
 (i2 [f] v)) fun i2=>∀a77:Value,∀o8:Qe,i2 [a77] o8->
 Qa prog 184 #[a,e] o8 fun _x205 a78=>
 QD (fun i3=>
 Qk prog .sub 3 e (.int .i64 1) fun a79=>
 Yu [a79] a78 fun o9 p0=>∀w:Value,∀e2:Qe,o9 p0 [w] e2->
 Qk prog .geq 3 w (.int .i64 0) fun a80=>
 IfK a80
 (Y1 1 o5 w fun a81=>
 LdK e2 a81 fun a82=>
 Qa prog 165 #[a,a82] e2 fun _x217 a83=>
 Qk prog .sub 3 w (.int .i64 1) fun a84=>
 QS o9 p0 [a84] a83)
 (i3 [w] e2)) fun i3=>∀a85:Value,∀p1:Qe,i3 [a85] p1->
 Qa prog 182 #[a,e] p1 fun a86 a87=>
 e1 [a86] a87)
 (e1 [(.int .u32 0)] u)) fun e1=>∀p2:Value,∀i4:Qe,e1 [p2] i4->
 Q3 b fun a88=>
 Qg a88 10 fun a89=>
 LdK i4 a89 fun a90=>
 Qa prog 66 #[a90,a] i4 fun a91 e3=>
 QD (fun e4=>
 Q3 b fun a92=>
 Qg a92 11 fun a93=>
 LdK e3 a93 fun a94=>
 Qk prog .neq 68 a94 (.slice none 0 0) fun a95=>
 IfK a95
 (Q3 b fun a96=>
 Qg a96 11 fun a97=>
 LdK e3 a97 fun a98=>
 Qa prog 178 #[a,a98] e3 fun a99 b00=>
 e4 [a99] b00)
 (e4 [(.int .u32 0)] e3)) fun e4=>∀p3:Value,∀i5:Qe,e4 [p3] i5->
 Q3 b fun b01=>
 Qg b01 12 fun b02=>
 LdK i5 b02 fun b03=>
 Qa prog 185 #[b03,a] i5 fun b04 e5=>
 QD (fun e6=>
 Q3 b fun b05=>
 Qg b05 22 fun b06=>
 LdK e5 b06 fun b07=>
 Qk prog .neq 32 b07 (.slice none 0 0) fun b08=>
 IfK b08
 (Q3 b fun b09=>
 Qg b09 22 fun b10=>
 LdK e5 b10 fun b11=>
 Yv b11 fun i6=>
 Qa prog 186 #[a,i6] e5 fun _x256 b12=>
 QD (fun i7=>
 Qk prog .sub 3 i6 (.int .i64 1) fun b13=>
 Yu [b13] b12 fun p4 p5=>∀y:Value,∀z:Qe,p4 p5 [y] z->
 Qk prog .geq 3 y (.int .i64 0) fun b14=>
 IfK b14
 (Q3 b fun b15=>
 Qg b15 22 fun b16=>
 LdK z b16 fun b17=>
 Y1 1 b17 y fun b18=>
 LdK z b18 fun b19=>
 Qa prog 187 #[a,b19] z fun _x271 b20=>
 Qk prog .sub 3 y (.int .i64 1) fun b21=>
 QS p4 p5 [b21] b20)
 (i7 [y] z)) fun i7=>∀b22:Value,∀p6:Qe,i7 [b22] p6->
 Qa prog 182 #[a,i6] p6 fun b23 b24=>
 e6 [b23] b24)
 (e6 [(.int .u32 0)] e5)) fun e6=>∀p7:Value,∀a0:Qe,e6 [p7] a0->
 QD (fun e7=>
 Q3 b fun b25=>
 Qg b25 26 fun b26=>
 LdK a0 b26 fun b27=>
 Qk prog .neq 28 b27 (.slice none 0 0) fun b28=>
 IfK b28
 (Q3 b fun b29=>
 Qg b29 26 fun b30=>
 LdK a0 b30 fun b31=>
 Yv b31 fun g=>
 Qe3 a0 93 4 z93 g g fun p8 b32=>
 QD (fun i8=>
 Yu [(.int .i64 0)] b32 fun p9 q0=>∀i:Value,∀a1:Qe,p9 q0 [i] a1->
 Qk prog .lss 3 i g fun b33=>
 IfK b33
 (Q3 b fun b34=>
 Qg b34 26 fun b35=>
 LdK a1 b35 fun b36=>
 Y1 1 b36 i fun b37=>
 LdK a1 b37 fun b38=>
 Qa prog 177 #[a,b38] a1 fun b39 b40=>
 Y1 1 p8 i fun b41=>
 StK b40 1 b41 b39 fun b42=>
 Qk prog .add 3 i (.int .i64 1) fun b43=>
 QS p9 q0 [b43] b42)
 (i8 [i] a1)) fun i8=>∀b44:Value,∀q1:Qe,i8 [b44] q1->
 Qa prog 188 #[a,g] q1 fun _x306 b45=>
 QD (fun i9=>
 Qk prog .sub 3 g (.int .i64 1) fun b46=>
 Yu [b46] b45 fun q2 q3=>∀a2:Value,∀e8:Qe,q2 q3 [a2] e8->
 Qk prog .geq 3 a2 (.int .i64 0) fun b47=>
 IfK b47
 (Y1 1 p8 a2 fun b48=>
 LdK e8 b48 fun b49=>
 Qa prog 165 #[a,b49] e8 fun _x318 b50=>
 Qk prog .sub 3 a2 (.int .i64 1) fun b51=>
 QS q2 q3 [b51] b50)
 (i9 [a2] e8)) fun i9=>∀b52:Value,∀q4:Qe,i9 [b52] q4->
 Qa prog 182 #[a,g] q4 fun b53 b54=>
 e7 [b53] b54)
 (e7 [(.int .u32 0)] a0)) fun e7=>∀q5:Value,∀a3:Qe,e7 [q5] a3->
 QD (fun e9=>
 Q3 b fun b55=>
 Qg b55 27 fun b56=>
 LdK a3 b56 fun b57=>
 Qk prog .neq 151 b57 (.slice none 0 0) fun b58=>
 IfK b58
 (Q3 b fun b59=>
 Qg b59 27 fun b60=>
 LdK a3 b60 fun b61=>
 Yv b61 fun j0=>
 Qa prog 189 #[a,j0] a3 fun _x334 b62=>
 QD (fun j1=>
 Qk prog .sub 3 j0 (.int .i64 1) fun b63=>
 Yu [b63] b62 fun q6 q7=>∀a4:Value,∀a5:Qe,q6 q7 [a4] a5->
 Qk prog .geq 3 a4 (.int .i64 0) fun b64=>
 IfK b64
 (Q3 b fun b65=>
 Qg b65 27 fun b66=>
 LdK a5 b66 fun b67=>
 Y1 1 b67 a4 fun b68=>
 LdK a5 b68 fun b69=>
 Qa prog 190 #[b69,a] a5 fun _x349 b70=>
 Qk prog .sub 3 a4 (.int .i64 1) fun b71=>
 QS q6 q7 [b71] b70)
 (j1 [a4] a5)) fun j1=>∀b72:Value,∀q8:Qe,j1 [b72] q8->
 Qa prog 182 #[a,j0] q8 fun b73 b74=>
 e9 [b73] b74)
 (e9 [(.int .u32 0)] a3)) fun e9=>∀q9:Value,∀a6:Qe,e9 [q9] a6->
 QD (fun f0=>
 Q3 b fun b75=>
 Qg b75 28 fun b76=>
 LdK a6 b76 fun b77=>
 Qk prog .neq 68 b77 (.slice none 0 0) fun b78=>
 IfK b78
 (Q3 b fun b79=>
 Qg b79 28 fun b80=>
 LdK a6 b80 fun b81=>
 Qa prog 178 #[a,b81] a6 fun b82 b83=>
 f0 [b82] b83)
 (f0 [(.int .u32 0)] a6)) fun f0=>∀r0:Value,∀a7:Qe,f0 [r0] a7->
 QD (fun f1=>
 Q3 b fun b84=>
 Qg b84 29 fun b85=>
 LdK a7 b85 fun b86=>
 Qk prog .neq 147 b86 (.slice none 0 0) fun b87=>
 IfK b87
 (Q3 b fun b88=>
 Qg b88 29 fun b89=>
 LdK a7 b89 fun b90=>
 Yv b90 fun j2=>
 Qa prog 191 #[a,j2] a7 fun _x376 b91=>
 QD (fun j3=>
 Qk prog .sub 3 j2 (.int .i64 1) fun b92=>
 Yu [b92] b91 fun r1 r2=>∀a8:Value,∀a9:Qe,r1 r2 [a8] a9->
 Qk prog .geq 3 a8 (.int .i64 0) fun b93=>
 IfK b93
 (Q3 b fun b94=>
 Qg b94 29 fun b95=>
 LdK a9 b95 fun b96=>
 Y1 1 b96 a8 fun b97=>
 LdK a9 b97 fun b98=>
 Qa prog 181 #[b98,a] a9 fun _x391 b99=>
 Qk prog .sub 3 a8 (.int .i64 1) fun c00=>
 QS r1 r2 [c00] b99)
 (j3 [a8] a9)) fun j3=>∀c01:Value,∀r3:Qe,j3 [c01] r3->
 Qa prog 182 #[a,j2] r3 fun c02 c03=>
 f1 [c02] c03)
 (f1 [(.int .u32 0)] a7)) fun f1=>∀r4:Value,∀b0:Qe,f1 [r4] b0->
 QD (fun f2=>
 Q3 b fun c04=>
 Qg c04 30 fun c05=>
 LdK b0 c05 fun c06=>
 Qk prog .neq 34 c06 (.slice none 0 0) fun c07=>
 IfK c07
 (Q3 b fun c08=>
 Qg c08 30 fun c09=>
 LdK b0 c09 fun c10=>
 Yv c10 fun j4=>
 Qa prog 192 #[a,j4] b0 fun _x407 c11=>
 QD (fun j5=>
 Qk prog .sub 3 j4 (.int .i64 1) fun c12=>
 Yu [c12] c11 fun r5 r6=>∀b1:Value,∀b2:Qe,r5 r6 [b1] b2->
 Qk prog .geq 3 b1 (.int .i64 0) fun c13=>
 IfK c13
 (Q3 b fun c14=>
 Qg c14 30 fun c15=>
 LdK b2 c15 fun c16=>
 Y1 1 c16 b1 fun c17=>
 LdK b2 c17 fun c18=>
 Qa prog 193 #[a,c18] b2 fun _x422 c19=>
 Qk prog .sub 3 b1 (.int .i64 1) fun c20=>
 QS r5 r6 [c20] c19)
 (j5 [b1] b2)) fun j5=>∀c21:Value,∀r7:Qe,j5 [c21] r7->
 Qa prog 182 #[a,j4] r7 fun c22 c23=>
 f2 [c22] c23)
 (f2 [(.int .u32 0)] b0)) fun f2=>∀r8:Value,∀b3:Qe,f2 [r8] b3->
 QD (fun f3=>
 Q3 b fun c24=>
 Qg c24 31 fun c25=>
 LdK b3 c25 fun c26=>
 Qk prog .neq 152 c26 (.slice none 0 0) fun c27=>
 IfK c27
 (Q3 b fun c28=>
 Qg c28 31 fun c29=>
 LdK b3 c29 fun c30=>
 Yv c30 fun j6=>
 Qa prog 194 #[a,j6] b3 fun _x438 c31=>
 QD (fun j7=>
 Qk prog .sub 3 j6 (.int .i64 1) fun c32=>
 Yu [c32] c31 fun r9 s0=>∀b4:Value,∀b5:Qe,r9 s0 [b4] b5->
 Qk prog .geq 3 b4 (.int .i64 0) fun c33=>
 IfK c33
 (Q3 b fun c34=>
 Qg c34 31 fun c35=>
 LdK b5 c35 fun c36=>
 Y1 1 c36 b4 fun c37=>
 LdK b5 c37 fun c38=>
 Qa prog 195 #[a,c38] b5 fun _x453 c39=>
 Qk prog .sub 3 b4 (.int .i64 1) fun c40=>
 QS r9 s0 [c40] c39)
 (j7 [b4] b5)) fun j7=>∀c41:Value,∀s1:Qe,j7 [c41] s1->
 Qa prog 182 #[a,j6] s1 fun c42 c43=>
 f3 [c42] c43)
 (f3 [(.int .u32 0)] b3)) fun f3=>∀s2:Value,∀j8:Qe,f3 [s2] j8->
 Q3 b fun c44=>
 Qg c44 32 fun c45=>
 LdK j8 c45 fun c46=>
 Qa prog 196 #[c46,a] j8 fun c47 f4=>
 QD (fun f5=>
 Q3 b fun c48=>
 Qg c48 33 fun c49=>
 LdK f4 c49 fun c50=>
 Qk prog .neq 154 c50 (.slice none 0 0) fun c51=>
 IfK c51
 (Q3 b fun c52=>
 Qg c52 33 fun c53=>
 LdK f4 c53 fun c54=>
 Yv c54 fun j=>
 Qe3 f4 93 4 z93 j j fun s3 c55=>
 QD (fun j9=>
 Yu [(.int .i64 0)] c55 fun s4 s5=>∀l:Value,∀b6:Qe,s4 s5 [l] b6->
 Qk prog .lss 3 l j fun c56=>
 IfK c56
 (Q3 b fun c57=>
 Qg c57 33 fun c58=>
 LdK b6 c58 fun c59=>
 Y1 1 c59 l fun c60=>
 LdK b6 c60 fun c61=>
 Qa prog 197 #[c61,a] b6 fun c62 c63=>
 Y1 1 s3 l fun c64=>
 StK c63 1 c64 c62 fun c65=>
 Qk prog .add 3 l (.int .i64 1) fun c66=>
 QS s4 s5 [c66] c65)
 (j9 [l] b6)) fun j9=>∀c67:Value,∀s6:Qe,j9 [c67] s6->
 Qa prog 198 #[a,j] s6 fun _x494 c68=>
 QD (fun l0=>
 Qk prog .sub 3 j (.int .i64 1) fun c69=>
 Yu [c69] c68 fun s7 s8=>∀b7:Value,∀f6:Qe,s7 s8 [b7] f6->
 Qk prog .geq 3 b7 (.int .i64 0) fun c70=>
 IfK c70
 (Y1 1 s3 b7 fun c71=>
 LdK f6 c71 fun c72=>
 Qa prog 165 #[a,c72] f6 fun _x506 c73=>
 Qk prog .sub 3 b7 (.int .i64 1) fun c74=>
 QS s7 s8 [c74] c73)
 (l0 [b7] f6)) fun l0=>∀c75:Value,∀s9:Qe,l0 [c75] s9->
 Qa prog 182 #[a,j] s9 fun c76 c77=>
 f5 [c76] c77)
 (f5 [(.int .u32 0)] f4)) fun f5=>∀t0:Value,∀b8:Qe,f5 [t0] b8->
 QD (fun f7=>
 Q3 b fun c78=>
 Qg c78 35 fun c79=>
 LdK b8 c79 fun c80=>
 Qk prog .neq 35 c80 (.slice none 0 0) fun c81=>
 IfK c81
 (Q3 b fun c82=>
 Qg c82 35 fun c83=>
 LdK b8 c83 fun c84=>
 Yv c84 fun l1=>
 Qa prog 199 #[a,l1] b8 fun _x522 c85=>
 QD (fun l2=>
 Qk prog .sub 3 l1 (.int .i64 1) fun c86=>
 Yu [c86] c85 fun t1 t2=>∀b9:Value,∀c0:Qe,t1 t2 [b9] c0->
 Qk prog .geq 3 b9 (.int .i64 0) fun c87=>
 IfK c87
 (Q3 b fun c88=>
 Qg c88 35 fun c89=>
 LdK c0 c89 fun c90=>
 Y1 1 c90 b9 fun c91=>
 LdK c0 c91 fun c92=>
 Qa prog 200 #[a,c92] c0 fun _x537 c93=>
 Qk prog .sub 3 b9 (.int .i64 1) fun c94=>
 QS t1 t2 [c94] c93)
 (l2 [b9] c0)) fun l2=>∀c95:Value,∀t3:Qe,l2 [c95] t3->
 Qa prog 182 #[a,l1] t3 fun c96 c97=>
 f7 [c96] c97)
 (f7 [(.int .u32 0)] b8)) fun f7=>∀t4:Value,∀c1:Qe,f7 [t4] c1->
 QD (fun f8=>
 Q3 b fun c98=>
 Qg c98 36 fun c99=>
 LdK c1 c99 fun d00=>
 Qk prog .neq 154 d00 (.slice none 0 0) fun d01=>
 IfK d01
 (Q3 b fun d02=>
 Qg d02 36 fun d03=>
 LdK c1 d03 fun d04=>
 Yv d04 fun m=>
 Qe3 c1 93 4 z93 m m fun t5 d05=>
 QD (fun l3=>
 Yu [(.int .i64 0)] d05 fun t6 t7=>∀o:Value,∀c2:Qe,t6 t7 [o] c2->
 Qk prog .lss 3 o m fun d06=>
 IfK d06
 (Q3 b fun d07=>
 Qg d07 36 fun d08=>
 LdK c2 d08 fun d09=>
 Y1 1 d09 o fun d10=>
 LdK c2 d10 fun d11=>
 Qa prog 197 #[d11,a] c2 fun d12 d13=>
 Y1 1 t5 o fun d14=>
 StK d13 1 d14 d12 fun d15=>
 Qk prog .add 3 o (.int .i64 1) fun d16=>
 QS t6 t7 [d16] d15)
 (l3 [o] c2)) fun l3=>∀d17:Value,∀t8:Qe,l3 [d17] t8->
 Qa prog 201 #[a,m] t8 fun _x572 d18=>
 QD (fun l4=>
 Qk prog .sub 3 m (.int .i64 1) fun d19=>
 Yu [d19] d18 fun t9 u0=>∀c3:Value,∀f9:Qe,t9 u0 [c3] f9->
 Qk prog .geq 3 c3 (.int .i64 0) fun d20=>
 IfK d20
 (Y1 1 t5 c3 fun d21=>
 LdK f9 d21 fun d22=>
 Qa prog 165 #[a,d22] f9 fun _x584 d23=>
 Qk prog .sub 3 c3 (.int .i64 1) fun d24=>
 QS t9 u0 [d24] d23)
 (l4 [c3] f9)) fun l4=>∀d25:Value,∀u1:Qe,l4 [d25] u1->
 Qa prog 182 #[a,m] u1 fun d26 d27=>
 f8 [d26] d27)
 (f8 [(.int .u32 0)] c1)) fun f8=>∀u2:Value,∀c4:Qe,f8 [u2] c4->
 QD (fun g0=>
 Q3 b fun d28=>
 Qg d28 38 fun d29=>
 LdK c4 d29 fun d30=>
 Qk prog .neq 35 d30 (.slice none 0 0) fun d31=>
 IfK d31
 (Q3 b fun d32=>
 Qg d32 38 fun d33=>
 LdK c4 d33 fun d34=>
 Yv d34 fun l5=>
 Qa prog 202 #[a,l5] c4 fun _x600 d35=>
 QD (fun l6=>
 Qk prog .sub 3 l5 (.int .i64 1) fun d36=>
 Yu [d36] d35 fun u3 u4=>∀c5:Value,∀c6:Qe,u3 u4 [c5] c6->
 Qk prog .geq 3 c5 (.int .i64 0) fun d37=>
 IfK d37
 (Q3 b fun d38=>
 Qg d38 38 fun d39=>
 LdK c6 d39 fun d40=>
 Y1 1 d40 c5 fun d41=>
 LdK c6 d41 fun d42=>
 Qa prog 200 #[a,d42] c6 fun _x615 d43=>
 Qk prog .sub 3 c5 (.int .i64 1) fun d44=>
 QS u3 u4 [d44] d43)
 (l6 [c5] c6)) fun l6=>∀d45:Value,∀u5:Qe,l6 [d45] u5->
 Qa prog 182 #[a,l5] u5 fun d46 d47=>
 g0 [d46] d47)
 (g0 [(.int .u32 0)] c4)) fun g0=>∀u6:Value,∀c7:Qe,g0 [u6] c7->
 QD (fun g1=>
 Q3 b fun d48=>
 Qg d48 40 fun d49=>
 LdK c7 d49 fun d50=>
 Qk prog .neq 35 d50 (.slice none 0 0) fun d51=>
 IfK d51
 (Q3 b fun d52=>
 Qg d52 40 fun d53=>
 LdK c7 d53 fun d54=>
 Yv d54 fun l7=>
 Qa prog 203 #[a,l7] c7 fun _x631 d55=>
 QD (fun l8=>
 Qk prog .sub 3 l7 (.int .i64 1) fun d56=>
 Yu [d56] d55 fun u7 u8=>∀c8:Value,∀c9:Qe,u7 u8 [c8] c9->
 Qk prog .geq 3 c8 (.int .i64 0) fun d57=>
 IfK d57
 (Q3 b fun d58=>
 Qg d58 40 fun d59=>
 LdK c9 d59 fun d60=>
 Y1 1 d60 c8 fun d61=>
 LdK c9 d61 fun d62=>
 Qa prog 200 #[a,d62] c9 fun _x646 d63=>
 Qk prog .sub 3 c8 (.int .i64 1) fun d64=>
 QS u7 u8 [d64] d63)
 (l8 [c8] c9)) fun l8=>∀d65:Value,∀u9:Qe,l8 [d65] u9->
 Qa prog 182 #[a,l7] u9 fun d66 d67=>
 g1 [d66] d67)
 (g1 [(.int .u32 0)] c7)) fun g1=>∀v0:Value,∀l9:Qe,g1 [v0] l9->
 Q3 b fun d68=>
 Qg d68 41 fun d69=>
 LdK l9 d69 fun d70=>
 Qa prog 204 #[d70,a] l9 fun d71 v1=>
 Q3 b fun d72=>
 Qg d72 42 fun d73=>
 LdK v1 d73 fun d74=>
 Qa prog 205 #[d74,a] v1 fun d75 g2=>
 QD (fun g3=>
 Q3 b fun d76=>
 Qg d76 43 fun d77=>
 LdK g2 d77 fun d78=>
 Qk prog .neq 157 d78 (.slice none 0 0) fun d79=>
 IfK d79
 (Q3 b fun d80=>
 Qg d80 43 fun d81=>
 LdK g2 d81 fun d82=>
 Yv d82 fun m0=>
 Qa prog 206 #[a,m0] g2 fun _x674 d83=>
 QD (fun m1=>
 Qk prog .sub 3 m0 (.int .i64 1) fun d84=>
 Yu [d84] d83 fun v2 v3=>∀d0:Value,∀d1:Qe,v2 v3 [d0] d1->
 Qk prog .geq 3 d0 (.int .i64 0) fun d85=>
 IfK d85
 (Q3 b fun d86=>
 Qg d86 43 fun d87=>
 LdK d1 d87 fun d88=>
 Y1 1 d88 d0 fun d89=>
 LdK d1 d89 fun d90=>
 Qa prog 207 #[a,d90] d1 fun _x689 d91=>
 Qk prog .sub 3 d0 (.int .i64 1) fun d92=>
 QS v2 v3 [d92] d91)
 (m1 [d0] d1)) fun m1=>∀d93:Value,∀v4:Qe,m1 [d93] v4->
 Qa prog 182 #[a,m0] v4 fun d94 d95=>
 g3 [d94] d95)
 (g3 [(.int .u32 0)] g2)) fun g3=>∀v5:Value,∀v6:Qe,g3 [v5] v6->
 Qa prog 208 #[a] v6 fun _x694 v7=>
 Q3 b fun d96=>
 Qg d96 0 fun d97=>
 LdK v7 d97 fun d98=>
 Qa prog 209 #[d98,a] v7 fun d99 e00=>
 Qa prog 210 #[a,d99] e00 fun _x703 v8=>
 Q3 b fun e01=>
 Qg e01 1 fun e02=>
 LdK v8 e02 fun e03=>
 Qa prog 211 #[a,e03] v8 fun _x709 v9=>
 Q3 b fun e04=>
 Qg e04 2 fun e05=>
 LdK v9 e05 fun e06=>
 Qa prog 212 #[a,e06] v9 fun _x715 e07=>
 Qa prog 213 #[a,z4] e07 fun _x718 e08=>
 Qa prog 214 #[a,m2] e08 fun _x721 w0=>
 Q3 b fun e09=>
 Qg e09 5 fun e10=>
 LdK w0 e10 fun e11=>
 Qa prog 215 #[a,e11] w0 fun _x727 d2=>
 QD (fun g4=>
 Q3 b fun e12=>
 Qg e12 6 fun e13=>
 LdK d2 e13 fun e14=>
 Qk prog .neq 146 e14 (.pointer none) fun e15=>
 IfK e15
 (Q3 b fun e16=>
 Qg e16 6 fun e17=>
 LdK d2 e17 fun e18=>
 Q3 e18 fun e19=>
 Qg e19 0 fun e20=>
 LdK d2 e20 fun e21=>
 Qa prog 216 #[a,e21] d2 fun _x741 e22=>
 g4 [] e22)
 (g4 [] d2)) fun g4=>∀w1:Qe,g4 [] w1->
 Qa prog 217 #[a,a07] w1 fun _x744 e23=>
 Qa prog 218 #[a,m6] e23 fun _x747 e24=>
 Qa prog 219 #[a,o4] e24 fun _x750 e25=>
 Qa prog 220 #[a,p2] e25 fun _x753 e26=>
 Qa prog 221 #[a,a91] e26 fun _x756 e27=>
 Qa prog 222 #[a,p3] e27 fun _x759 e28=>
 Qa prog 223 #[a,b04] e28 fun _x762 w2=>
 Q3 b fun e29=>
 Qg e29 13 fun e30=>
 LdK w2 e30 fun e31=>
 Qa prog 224 #[a,e31] w2 fun _x768 w3=>
 Q3 b fun e32=>
 Qg e32 14 fun e33=>
 LdK w3 e33 fun e34=>
 Qa prog 225 #[a,e34] w3 fun _x774 w4=>
 Q3 b fun e35=>
 Qg e35 15 fun e36=>
 LdK w4 e36 fun e37=>
 Qa prog 226 #[a,e37] w4 fun _x780 w5=>
 Q3 b fun e38=>
 Qg e38 16 fun e39=>
 LdK w5 e39 fun e40=>
 Qa prog 227 #[a,e40] w5 fun _x786 w6=>
 Q3 b fun e41=>
 Qg e41 17 fun e42=>
 LdK w6 e42 fun e43=>
 Qa prog 228 #[a,e43] w6 fun _x792 w7=>
 Q3 b fun e44=>
 Qg e44 18 fun e45=>
 LdK w7 e45 fun e46=>
 Qa prog 229 #[a,e46] w7 fun _x798 w8=>
 Q3 b fun e47=>
 Qg e47 19 fun e48=>
 LdK w8 e48 fun e49=>
 Qa prog 230 #[a,e49] w8 fun _x804 w9=>
 Q3 b fun e50=>
 Qg e50 20 fun e51=>
 LdK w9 e51 fun e52=>
 Qa prog 231 #[a,e52] w9 fun _x810 y0=>
 Q3 b fun e53=>
 Qg e53 21 fun e54=>
 LdK y0 e54 fun e55=>
 Qa prog 232 #[a,e55] y0 fun _x816 e56=>
 Qa prog 233 #[a,p7] e56 fun _x819 y1=>
 Q3 b fun e57=>
 Qg e57 23 fun e58=>
 LdK y1 e58 fun e59=>
 Qa prog 234 #[a,e59] y1 fun _x825 y2=>
 Q3 b fun e60=>
 Qg e60 24 fun e61=>
 LdK y2 e61 fun e62=>
 Qa prog 235 #[a,e62] y2 fun _x831 y3=>
 Q3 b fun e63=>
 Qg e63 25 fun e64=>
 LdK y3 e64 fun e65=>
 Qa prog 236 #[a,e65] y3 fun _x837 e66=>
 Qa prog 237 #[a,q5] e66 fun _x840 e67=>
 Qa prog 238 #[a,q9] e67 fun _x843 e68=>
 Qa prog 239 #[a,r0] e68 fun _x846 e69=>
 Qa prog 240 #[a,r4] e69 fun _x849 e70=>
 Qa prog 241 #[a,r8] e70 fun _x852 e71=>
 Qa prog 242 #[a,s2] e71 fun _x855 e72=>
 Qa prog 243 #[a,c47] e72 fun _x858 e73=>
 Qa prog 244 #[a,t0] e73 fun _x861 y4=>
 Q3 b fun e74=>
 Qg e74 34 fun e75=>
 LdK y4 e75 fun e76=>
 Qa prog 245 #[a,e76] y4 fun _x867 e77=>
 Qa prog 246 #[a,t4] e77 fun _x870 e78=>
 Qa prog 247 #[a,u2] e78 fun _x873 y5=>
 Q3 b fun e79=>
 Qg e79 37 fun e80=>
 LdK y5 e80 fun e81=>
 Qa prog 248 #[a,e81] y5 fun _x879 e82=>
 Qa prog 249 #[a,u6] e82 fun _x882 y6=>
 Q3 b fun e83=>
 Qg e83 39 fun e84=>
 LdK y6 e84 fun e85=>
 Qa prog 250 #[a,e85] y6 fun _x888 e86=>
 Qa prog 251 #[a,v0] e86 fun _x891 d3=>
 QD (fun g5=>
 Q3 b fun e87=>
 Qg e87 41 fun e88=>
 LdK d3 e88 fun e89=>
 Qk prog .neq 155 e89 (.pointer none) fun e90=>
 IfK e90
 (Q3 b fun e91=>
 Qg e91 41 fun e92=>
 LdK d3 e92 fun e93=>
 Q3 e93 fun e94=>
 Qg e94 0 fun e95=>
 LdK d3 e95 fun e96=>
 Qa prog 252 #[a,e96] d3 fun _x905 e97=>
 g5 [] e97)
 (g5 [] d3)) fun g5=>∀y7:Qe,g5 [] y7->
 Qa prog 253 #[a,d71] y7 fun _x908 d4=>
 QD (fun g6=>
 Q3 b fun e98=>
 Qg e98 42 fun e99=>
 LdK d4 e99 fun f00=>
 Qk prog .neq 156 f00 (.pointer none) fun f01=>
 IfK f01
 (Q3 b fun f02=>
 Qg f02 42 fun f03=>
 LdK d4 f03 fun f04=>
 Q3 f04 fun f05=>
 Qg f05 0 fun f06=>
 LdK d4 f06 fun f07=>
 Qa prog 254 #[a,f07] d4 fun _x922 f08=>
 g6 [] f08)
 (g6 [] d4)) fun g6=>∀y8:Qe,g6 [] y8->
 Qa prog 255 #[a,d75] y8 fun _x925 f09=>
 Qa prog 256 #[a,v5] f09 fun _x928 y9=>
 Q3 b fun f10=>
 Qg f10 44 fun f11=>
 LdK y9 f11 fun f12=>
 Qa prog 257 #[a,f12] y9 fun _x934 f13=>
 Qa prog 258 #[a] f13 fun f14 f15=>
 R f14 f15)
theorem w66 {a b h R} (H:s66 a b h R):FnS prog 66 #[a,b] h R:=wq Tryz.func66 (by kernel_rfl) H
def s80 (a b:Value) (h:Qe) (R:Kn):Prop:=
 Qa prog 102 #[a,(.pointer none)] h fun d e=>
 Qa prog 262 #[d] e fun f g=>
 Qe5 b 0 g f fun i=>
 Qa prog 81 #[a] i fun j l=>
 Qe5 b 1 l j fun m=>
 Qa prog 82 #[a] m fun o p=>
 Qe5 b 2 p o fun q=>
 Qa prog 83 #[a] q fun r c=>
 QiN c r fun s=>
 Qe5 b 3 c s fun t=>
 Qa prog 263 #[a] t fun u v=>
 Qe5 b 4 v u fun w=>
 Qa prog 84 #[a] w fun y z=>
 Qe5 b 5 z y fun a0=>
 uniF prog z185 185 153 155 264 a b 6 a0 fun a1=>
 Qa prog 113 #[a] a1 fun a2 a3=>
 Qcm prog 3 b 7 165 8 z165 a2 a3 (lpO prog z211 211 114 265 a b 7) fun a4=>
 Qa prog 115 #[a] a4 fun a5 a6=>
 Qcm prog 3 b 8 9 16 z9 a5 a6 (lpT prog 116 a b 8) fun a7=>
 Qa prog 117 #[a] a7 fun a8 a9=>
 Qcm prog 3 b 9 89 8 z89 a8 a9 (lpO prog z187 187 118 33 a b 9) fun b0=>
 Qa prog 119 #[a,(.pointer none)] b0 fun b1 b2=>
 Qa prog 33 #[b1] b2 fun b3 b4=>
 Qe5 b 10 b4 b3 fun b5=>
 Qa prog 266 #[a] b5 fun b6 b7=>
 Qe5 b 11 b7 b6 fun b8=>
 Qa prog 122 #[a,(.pointer none)] b8 fun b9 c0=>
 Qa prog 267 #[b9] c0 fun c1 c2=>
 Qe5 b 12 c2 c1 fun c3=>
 Qa prog 85 #[a] c3 fun c4 c5=>
 Qe5 b 13 c5 c4 fun c6=>
 Qa prog 86 #[a] c6 fun c7 c8=>
 Qe5 b 14 c8 c7 fun c9=>
 Qa prog 87 #[a] c9 fun d0 d1=>
 Qe5 b 15 d1 d0 fun d2=>
 Qa prog 88 #[a] d2 fun d3 d4=>
 Qe5 b 16 d4 d3 fun d5=>
 Qa prog 89 #[a] d5 fun d6 d7=>
 Qe5 b 17 d7 d6 fun d8=>
 Qa prog 90 #[a] d8 fun d9 e0=>
 Qe5 b 18 e0 d9 fun e1=>
 Qa prog 91 #[a] e1 fun e2 e3=>
 Qe5 b 19 e3 e2 fun e4=>
 Qa prog 92 #[a] e4 fun e5 e6=>
 Qe5 b 20 e6 e5 fun e7=>
 Qa prog 93 #[a] e7 fun e8 e9=>
 Qe5 b 21 e9 e8 fun f0=>
 Qa prog 126 #[a] f0 fun f1 f2=>
 Qcm prog 3 b 22 4 1 z4 f1 f2 (lpS prog 127 a b 22) fun f3=>
 Qa prog 94 #[a] f3 fun f4 f5=>
 Qe5 b 23 f5 f4 fun f6=>
 Qa prog 95 #[a] f6 fun f7 f8=>
 Qe5 b 24 f8 f7 fun f9=>
 Qa prog 96 #[a] f9 fun g0 g1=>
 Qe5 b 25 g1 g0 fun g2=>
 Qa prog 128 #[a] g2 fun g3 g4=>
 Qcm prog 3 b 26 9 16 z9 g3 g4 (lpT prog 129 a b 26) fun g5=>
 Qa prog 130 #[a] g5 fun g6 g7=>
 Qcm prog 3 b 27 171 8 z171 g6 g7 (lpO prog z219 219 131 268 a b 27) fun g8=>
 Qa prog 269 #[a] g8 fun g9 i0=>
 Qe5 b 28 i0 g9 fun i1=>
 Qa prog 136 #[a] i1 fun i2 i3=>
 Qcm prog 3 b 29 165 8 z165 i2 i3 (lpO prog z211 211 137 265 a b 29) fun i4=>
 Qa prog 138 #[a] i4 fun i5 i6=>
 Qcm prog 3 b 30 2 8 z2 i5 i6 (lpS prog 139 a b 30) fun i7=>
 Qa prog 140 #[a] i7 fun i8 i9=>
 Qcm prog 3 b 31 164 8 z164 i8 i9 (lpS prog 141 a b 31) fun j0=>
 Qa prog 97 #[a,(.pointer none)] j0 fun j1 j2=>
 Qa prog 270 #[j1] j2 fun j3 j4=>
 Qe5 b 32 j4 j3 fun j5=>
 Qa prog 142 #[a] j5 fun j6 j7=>
 Qcm prog 3 b 33 258 8 z258 j6 j7 (lpO prog z224 224 143 271 a b 33) fun j8=>
 Qa prog 98 #[a] j8 fun j9 l0=>
 Qe5 b 34 l0 j9 fun l1=>
 Qa prog 145 #[a] l1 fun l2 l3=>
 Qcm prog 3 b 35 31 8 z31 l2 l3 (lpS prog 146 a b 35) fun l4=>
 Qa prog 147 #[a] l4 fun l5 l6=>
 Qcm prog 3 b 36 258 8 z258 l5 l6 (lpO prog z224 224 148 271 a b 36) fun l7=>
 Qa prog 99 #[a] l7 fun l8 l9=>
 Qe5 b 37 l9 l8 fun m0=>
 Qa prog 149 #[a] m0 fun m1 m2=>
 Qcm prog 3 b 38 31 8 z31 m1 m2 (lpS prog 150 a b 38) fun m3=>
 Qa prog 100 #[a] m3 fun m4 m5=>
 Qe5 b 39 m5 m4 fun m6=>
 Qa prog 151 #[a] m6 fun m7 m8=>
 Qcm prog 3 b 40 31 8 z31 m7 m8 (lpS prog 152 a b 40) fun m9=>
 uniF prog z185 185 156 157 272 a b 41 m9 fun o0=>
 uniF prog z185 185 159 158 273 a b 42 o0 fun o1=>
 Qa prog 160 #[a] o1 fun o2 o3=>
 Qcm prog 3 b 43 145 1 z145 o2 o3 (lpS prog 161 a b 43) fun o4=>
 Qa prog 101 #[a] o4 fun o5 o6=>
 Qe5 b 44 o6 o5 fun o7=>
 R (.tuple #[]) o7
theorem w80 {a b h R} (H:s80 a b h R):FnS prog 80 #[a,b] h R:=wq Tryz.func80 (by kernel_rfl) H
theorem w179 {a b h R} (H:tp179 146 174 278 304 313 305 a b h R):FnS prog 179 #[a,b] h R:=wq Tryz.func179 (by kernel_rfl) H
theorem w181 {a b h R} (H:tp181 165 307 a b h R):FnS prog 181 #[a,b] h R:=wq Tryz.func181 (by kernel_rfl) H
def s185 (b a:Value) (h:Qe) (R:Kn):Prop:=
 Qk prog .eql 149 b (.pointer none) fun e=>
 IfK e
 (R (.int .u32 0) h)
 (Q3 b fun f=>
 Qg f 0 fun g=>
 LdK h g fun i=>
 Qa prog 177 #[a,i] h fun j l=>
 Qa prog 309 #[a] l fun _x15 m=>
 Qa prog 310 #[a,j] m fun _x18 c=>
 Q3 b fun o=>
 Qg o 1 fun p=>
 LdK c p fun q=>
 Qa prog 311 #[a,q] c fun _x24 d=>
 Q3 b fun r=>
 Qg r 2 fun s=>
 LdK d s fun t=>
 Qa prog 312 #[a,t] d fun _x30 u=>
 Qa prog 313 #[a] u fun v w=>
 R v w)
theorem w185 {a b h R} (H:s185 a b h R):FnS prog 185 #[a,b] h R:=wq Tryz.func185 (by kernel_rfl) H
theorem w190 {a b h R} (H:tp181 171 315 a b h R):FnS prog 190 #[a,b] h R:=wq Tryz.func190 (by kernel_rfl) H
theorem w196 {a b h R} (H:tp196 153 318 319 a b h R):FnS prog 196 #[a,b] h R:=wq Tryz.func196 (by kernel_rfl) H
theorem w197 {a b h R} (H:tp197 258 320 321 322 a b h R):FnS prog 197 #[a,b] h R:=wq Tryz.func197 (by kernel_rfl) H
theorem w204 {a b h R} (H:tp179 155 177 278 304 313 305 a b h R):FnS prog 204 #[a,b] h R:=wq Tryz.func204 (by kernel_rfl) H
theorem w205 {a b h R} (H:tp179 156 180 89 66 89 66 a b h R):FnS prog 205 #[a,b] h R:=wq Tryz.func205 (by kernel_rfl) H
def s209 (a b:Value) (h:Qe) (R:Kn):Prop:=
 Qk prog .eql 144 a (.pointer none) fun c=>
 IfK c
 (R (.int .u32 0) h)
 (Q3 a fun d=>
 Qg d 0 fun e=>
 LdK h e fun f=>
 Q3 a fun g=>
 Qg g 1 fun i=>
 LdK h i fun j=>
 Q3 a fun l=>
 Qg l 2 fun m=>
 LdK h m fun o=>
 Q3 a fun p=>
 Qg p 3 fun q=>
 LdK h q fun r=>
 Q3 a fun s=>
 Qg s 4 fun t=>
 LdK h t fun u=>
 Q3 a fun v=>
 Qg v 5 fun w=>
 LdK h w fun y=>
 Q3 y fun z=>
 Qg z 0 fun a0=>
 LdK h a0 fun a1=>
 Q3 a fun a2=>
 Qg a2 5 fun a3=>
 LdK h a3 fun a4=>
 Q3 a4 fun a5=>
 Qg a5 1 fun a6=>
 LdK h a6 fun a7=>
 Qa prog 325 #[b,f,j,o,r,u,a1,a7] h fun a8 a9=>
 R a8 a9)
theorem w209 {a b h R} (H:s209 a b h R):FnS prog 209 #[a,b] h R:=wq Tryz.func209 (by kernel_rfl) H
theorem w304 {a b h R} (H:tp197 278 360 361 362 a b h R):FnS prog 304 #[a,b] h R:=wq Tryz.func304 (by kernel_rfl) H
def s338 (a b:Value) (h:Qe) (R:Kn):Prop:=
 Qa prog 104 #[a] h fun c d=>
 Qe5 b 0 d c fun e=>
 Qa prog 105 #[a] e fun f g=>
 Qe5 b 1 g f fun i=>
 Qa prog 106 #[a] i fun j l=>
 Qe5 b 2 l j fun m=>
 Qa prog 107 #[a] m fun o p=>
 Qe5 b 3 p o fun q=>
 Qa prog 108 #[a] q fun r s=>
 Qe5 b 4 s r fun t=>
 Qa prog 103 #[a,(.pointer none)] t fun u v=>
 Qa prog 265 #[u] v fun w y=>
 Qe5 b 5 y w fun z=>
 R (.tuple #[]) z
theorem w338 {a b h R} (H:s338 a b h R):FnS prog 338 #[a,b] h R:=wq Tryz.func338 (by kernel_rfl) H
theorem w340 {a b h R} (H:tp340 109 110 a b h R):FnS prog 340 #[a,b] h R:=wq Tryz.func340 (by kernel_rfl) H
def s341 (a b:Value) (h:Qe) (R:Kn):Prop:=
 Qa prog 123 #[a] h fun d c=>
 QiN c d fun e=>
 Qe5 b 0 c e fun f=>
 Qa prog 124 #[a] f fun g i=>
 Qe5 b 1 i g fun j=>
 Qa prog 125 #[a] j fun l m=>
 Qe5 b 2 m l fun o=>
 R (.tuple #[]) o
theorem w341 {a b h R} (H:s341 a b h R):FnS prog 341 #[a,b] h R:=wq Tryz.func341 (by kernel_rfl) H
theorem w342 {a b h R} (H:tp340 132 133 a b h R):FnS prog 342 #[a,b] h R:=wq Tryz.func342 (by kernel_rfl) H
def s343 (a b:Value) (h:Qe) (R:Kn):Prop:=
 R (.tuple #[]) h
theorem w343 {a b h R} (H:s343 a b h R):FnS prog 343 #[a,b] h R:=wq Tryz.func343 (by kernel_rfl) H
def s344 (a b:Value) (h:Qe) (R:Kn):Prop:=
 Qa prog 144 #[a] h fun c d=>
 Qe5 b 0 d c fun e=>
 R (.tuple #[]) e
theorem w344 {a b h R} (H:s344 a b h R):FnS prog 344 #[a,b] h R:=wq Tryz.func344 (by kernel_rfl) H
def s377 (a b:Value) (h:Qe) (R:Kn):Prop:=
 Qa prog 298 #[a] h fun c d=>
 Qe5 b 0 d c fun e=>
 R (.tuple #[]) e
theorem w377 {a b h R} (H:s377 a b h R):FnS prog 377 #[a,b] h R:=wq Tryz.func377 (by kernel_rfl) H
end Go.Proofs
namespace Go.Proofs
open Go Go.Vc
open Tryz (prog)
theorem Qie (xs:List UInt8) (S:BS):(createStr xs S).buf=leB (xs.length:Int) 4++(xs++([0]++(List.replicate (padOf 4 (S.buf.length+(xs.length+1))) 0++S.buf))):=by
 simp[createStr,Qjc,place,prep]
theorem createStr_len (xs:List UInt8) (S:BS):(createStr xs S).buf.length=4+xs.length+1+padOf 4 (S.buf.length+(xs.length+1))+S.buf.length:=by
 rw[Qie];simp[Qf];omega
theorem Inv.createStr {S:BS} (h:Inv S) (xs:List UInt8):Inv (Proofs.createStr xs S)/\(Proofs.createStr xs S).buf.length<=S.buf.length+xs.length+8/\S.buf.length+5<=(Proofs.createStr xs S).buf.length:=by
 have hp:=Zr (size:=4) (n:=S.buf.length+(xs.length+1)) (by decide)
 have hl:=createStr_len xs S
 refine ⟨⟨rfl,h.vts.ext (S':=Proofs.createStr xs S) rfl (x:=leB (xs.length:Int) 4++(xs++([0]++List.replicate (padOf 4 (S.buf.length+(xs.length+1))) 0))) (by rw[Qie];simp),?_,h.min.max P2_4⟩,by omega,by omega⟩
 have:=h.nv
 show S.vts.length<=_
 omega
def endT (S:BS):BS×Nat:=(endObj S,(putOff 0 S).buf.length)
structure YC (S:BS) (c:Nat) (q:BS×Nat):Prop where
 inv:Inv q.1
 len:q.1.buf.length<=S.buf.length+c
 le:S.buf.length<=q.1.buf.length
 off:q.2<=q.1.buf.length
theorem YC.endT {S0 S:BS} {n c:Nat} (h:YS S0 n c S) (h0:Inv S0) (hn:n<1000):YC S0 (c+3*n+16) (Proofs.endT S)/\0<(Proofs.endT S).2:=by
 obtain ⟨h1,h2,h3,h4⟩:=Inv.endObj h h0 hn
 have h5:=h.len
 have h6:=h.le
 obtain ⟨y,hy,hy1,hy2⟩:=QiM 0 S
 refine ⟨⟨h1,?_,?_,h4⟩,?_⟩
 ·show (endObj S).buf.length<=_;omega
 ·show _<=(endObj S).buf.length;omega
 ·show 0<(putOff 0 S).buf.length
  rw[hy,List.length_append];omega
def QdG (d:ZJ) (S:BS):BS×Nat:=
 endT (slotN 2 d.count.toNat 0 2 (slotN 8 d.val.toNat 0 1 (slotOff (createStr d.id S).buf.length 0 (Qad 3 (createStr d.id S)))))
def Qdb (x:UInt64) (S:BS):BS×Nat:=endT (slotN 8 x.toNat 0 0 (Qad 1 S))
def QdS (S:BS):BS×Nat:=endT (Qad 0 S)
def QdW (c:UInt8) (S:BS):BS×Nat:=endT (slotN 1 c.toNat 2 0 (Qad 1 S))
theorem packStat_ok (d:ZJ) {S:BS} (h:Inv S):YC S (d.id.length+100) (QdG d S)/\0<(QdG d S).2:=by
 obtain ⟨h1,h2,h3⟩:=h.createStr d.id
 have:=YC.endT (((YS.start (n:=3) h1.min).slotOff (off:=(createStr d.id S).buf.length) (o:=0)).slotN (x:=d.val.toNat) (d:=0) (o:=1) P2_8 |>.slotN (x:=d.count.toNat) (d:=0) (o:=2) P2_2) h1 (by decide)
 refine ⟨⟨this.1.inv,?_,?_,this.1.off⟩,this.2⟩
 ·have:=this.1.len;show (QdG d S).1.buf.length<=_;unfold QdG;omega
 ·have:=this.1.le;show _<=(QdG d S).1.buf.length;unfold QdG;omega
theorem Qit (x:UInt64) {S:BS} (h:Inv S):YC S 40 (Qdb x S)/\0<(Qdb x S).2:=by
 have:=YC.endT ((YS.start (n:=1) h.min).slotN (x:=x.toNat) (d:=0) (o:=0) P2_8) h (by decide)
 exact ⟨⟨this.1.inv,by have:=this.1.len;unfold Qdb;omega,this.1.le,this.1.off⟩,this.2⟩
theorem packParent_ok {S:BS} (h:Inv S):YC S 40 (QdS S)/\0<(QdS S).2:=by
 have:=YC.endT (YS.start (n:=0) h.min) h (by decide)
 exact ⟨⟨this.1.inv,by have:=this.1.len;unfold QdS;omega,this.1.le,this.1.off⟩,this.2⟩
theorem packSimple_ok (c:UInt8) {S:BS} (h:Inv S):YC S 40 (QdW c S)/\0<(QdW c S).2:=by
 have:=YC.endT ((YS.start (n:=1) h.min).slotN (x:=c.toNat) (d:=2) (o:=0) P2_1) h (by decide)
 exact ⟨⟨this.1.inv,by have:=this.1.len;unfold QdW;omega,this.1.le,this.1.off⟩,this.2⟩
section
variable {H:Qe} {p:Nat} {S:BS} {F:Cut} {r:Nat} (hB:Qd H p S F r) {R:Kn}
include hB
theorem StatT_Pack {v:Value} {d:ZJ} (hI:Inv S) (hv:Za F v #[Yf d.id,Qdw d.val,u16V d.count]) (hl:S.buf.length+d.id.length+5000<=536870912)
  (hR:∀H',Qd H' p (QdG d S).1 F 0->R (.int .u32 ((QdG d S).2:Nat)) H'):
  FnS prog 185 #[v,.pointer (some ⟨p,0,none⟩)] H R:=by
 obtain ⟨h1,h2,h3⟩:=hI.createStr d.id
 apply w185
 unfold s185
 obtain ⟨q,e,rfl,hq⟩:=hv
 have hv:Za F (.pointer (some ⟨q,0,none⟩)) #[Yf d.id,Qdw d.val,u16V d.count]:=⟨q,e,rfl,hq⟩
 rw[Y2 (by kernel_rfl)]
 show IfK (.bool false) _ _
 rw[ZG]
 refine hv.ld hB.cut (i:=0) (Yf d.id) rfl ?_
 refine QcG hB (Qec _) hI.nested (by omega) ?_
 intro H1 g1
 refine QiQ g1 h1.nested ?_
 intro H2 g2
 have i2:=YS.start (n:=3) h1.min
 refine Qis g2 (Nat.le_refl _) (by rw[i2.vtl];decide) (by have:=i2.len;omega) ?_
 intro H3 g3
 have i3:=i2.slotOff (off:=(createStr d.id S).buf.length) (o:=0)
 refine hv.ld g3.cut (i:=1) (Qdw d.val) rfl ?_
 refine QhR g3 d.val.toNat_lt (by rw[i3.vtl];decide) (by have:=i3.len;omega) ?_
 intro H4 g4
 have i4:=i3.slotN (k:=8) (x:=d.val.toNat) (d:=0) (o:=1) P2_8
 refine hv.ld g4.cut (i:=2) (u16V d.count) rfl ?_
 refine Qh0 g4 d.count.toNat_lt (by rw[i4.vtl];decide) (by have:=i4.len;omega) ?_
 intro H5 g5
 have i5:=i4.slotN (k:=2) (x:=d.count.toNat) (d:=0) (o:=2) P2_2
 refine Example_StatEnd g5 i5 (by decide) h1.vts (by omega) h1.nv ?_
 intro H6 g6
 exact hR H6 g6
theorem QfP {v:Value} {x:UInt64} (hI:Inv S) (hv:Za F v #[Ya x]) (hl:S.buf.length+5000<=536870912)
  (hR:∀H',Qd H' p (Qdb x S).1 F 0->R (.int .u32 ((Qdb x S).2:Nat)) H'):
  FnS prog 197 #[v,.pointer (some ⟨p,0,none⟩)] H R:=by
 apply w197
 unfold tp197
 obtain ⟨q,e,rfl,hq⟩:=hv
 have hv:Za F (.pointer (some ⟨q,0,none⟩)) #[Ya x]:=⟨q,e,rfl,hq⟩
 rw[Y2 (by kernel_rfl)]
 show IfK (.bool false) _ _
 rw[ZG]
 refine Qfz hB hI.nested ?_
 intro H2 g2
 have i2:=YS.start (n:=1) hI.min
 refine hv.ld g2.cut (i:=0) (Ya x) rfl ?_
 refine Qfe g2 x.toNat_lt (by rw[i2.vtl];decide) (by have:=i2.len;omega) ?_
 intro H4 g4
 have i4:=i2.slotN (k:=8) (x:=x.toNat) (d:=0) (o:=0) P2_8
 refine Qgg g4 i4 (by decide) hI.vts (by omega) hI.nv ?_
 intro H6 g6
 exact hR H6 g6
theorem QcM {v:Value} (hI:Inv S) (hv:v= .pointer none\/∃a,v= .pointer (some a)) (hl:S.buf.length+5000<=536870912)
  (h0:v= .pointer none->R (.int .u32 0) H) (hR:v≠.pointer none->∀H',Qd H' p (QdS S).1 F 0->R (.int .u32 ((QdS S).2:Nat)) H'):
  FnS prog 196 #[v,.pointer (some ⟨p,0,none⟩)] H R:=by
 apply w196
 unfold tp196
 rcases hv with rfl|⟨a,rfl⟩
 ·rw[Y2 (by kernel_rfl)]
  exact h0 rfl
 ·rw[Y2 (by kernel_rfl)]
  show IfK (.bool false) _ _
  rw[ZG]
  refine QdB hB hI.nested ?_
  intro H2 g2
  have i2:=YS.start (n:=0) hI.min
  refine Qed g2 i2 (by decide) hI.vts (by omega) hI.nv ?_
  intro H6 g6
  exact hR (by simp) H6 g6
theorem QiS {v:Value} {c:UInt8} (hI:Inv S) (hv:Za F v #[.int .u8 (c.toNat:Int)]) (hl:S.buf.length+5000<=536870912)
  (hR:∀H',Qd H' p (QdW c S).1 F 0->R (.int .u32 ((QdW c S).2:Nat)) H'):
  FnS prog 304 #[v,.pointer (some ⟨p,0,none⟩)] H R:=by
 apply w304
 unfold tp197
 obtain ⟨q,e,rfl,hq⟩:=hv
 have hv:Za F (.pointer (some ⟨q,0,none⟩)) #[.int .u8 (c.toNat:Int)]:=⟨q,e,rfl,hq⟩
 rw[Y2 (by kernel_rfl)]
 show IfK (.bool false) _ _
 rw[ZG]
 refine QbQ hB hI.nested ?_
 intro H2 g2
 have i2:=YS.start (n:=1) hI.min
 refine hv.ld g2.cut (i:=0) (.int .u8 (c.toNat:Int)) rfl ?_
 refine Qbd g2 c.toNat_lt (by rw[i2.vtl];decide) (by have:=i2.len;omega) ?_
 intro H4 g4
 have i4:=i2.slotN (k:=1) (x:=c.toNat) (d:=2) (o:=0) P2_1
 refine Qcp g4 i4 (by decide) hI.vts (by omega) hI.nv ?_
 intro H6 g6
 exact hR H6 g6
theorem TestT_Pack {v:Value} {d:Qb8} (hv:Za F v #[Qbc d.a,i8V d.b]) (hr:4<=r) (ha:S.buf.length%2=0) (hm:2<=S.min) (hl:S.buf.length+32<=536870912)
  (hR:∀H' w,Qd H' p (place (QcB d.a.toNat d.b.toNat) S) F (r-4)->R w H'):
  FnS prog 181 #[v,.pointer (some ⟨p,0,none⟩)] H R:=by
 apply w181
 unfold tp181
 obtain ⟨q,e,rfl,hq⟩:=hv
 have hv:Za F (.pointer (some ⟨q,0,none⟩)) #[Qbc d.a,i8V d.b]:=⟨q,e,rfl,hq⟩
 rw[Y2 (by kernel_rfl)]
 show IfK (.bool false) _ _
 rw[ZG]
 refine hv.ld hB.cut (i:=0) (Qbc d.a) rfl ?_
 refine hv.ld hB.cut (i:=1) (i8V d.b) rfl ?_
 refine QhQ hB hr ha hm hl ?_
 exact hR
theorem AbilityT_Pack {v:Value} {d:QeJ} (hv:Za F v #[Zz d.id,Zz d.dist]) (hr:8<=r) (ha:S.buf.length%4=0) (hm:4<=S.min) (hl:S.buf.length+32<=536870912)
  (hR:∀H' w,Qd H' p (place (QaJ d.id.toNat d.dist.toNat) S) F (r-8)->R w H'):
  FnS prog 190 #[v,.pointer (some ⟨p,0,none⟩)] H R:=by
 apply w190
 unfold tp181
 obtain ⟨q,e,rfl,hq⟩:=hv
 have hv:Za F (.pointer (some ⟨q,0,none⟩)) #[Zz d.id,Zz d.dist]:=⟨q,e,rfl,hq⟩
 rw[Y2 (by kernel_rfl)]
 show IfK (.bool false) _ _
 rw[ZG]
 refine hv.ld hB.cut (i:=0) (Zz d.id) rfl ?_
 refine hv.ld hB.cut (i:=1) (Zz d.dist) rfl ?_
 refine Qgq hB hr ha hm hl ?_
 exact hR
def Qj8 (d:ZO):List UInt8:=vec3B d.x.toNat d.y.toNat d.z.toNat d.t1.toNat d.t2.toNat d.a.toNat d.b.toNat
theorem Vec3T_Pack {v w:Value} {d:ZO} (hv:Za F v #[QcW d.x,QcW d.y,QcW d.z,f64V d.t1,.int .u8 (d.t2.toNat:Int),w]) (hw:Za F w #[Qbc d.a,i8V d.b]) (hl:S.buf.length+96<=536870912)
  (hR:∀H',Qd H' p (place (Qj8 d) (prep 8 32 S)) F 0->R (.int .u32 ((place (Qj8 d) (prep 8 32 S)).buf.length:Nat)) H'):
  FnS prog 209 #[v,.pointer (some ⟨p,0,none⟩)] H R:=by
 apply w209
 unfold s209
 obtain ⟨q,e,rfl,hq⟩:=hv
 have hv:Za F (.pointer (some ⟨q,0,none⟩)) #[QcW d.x,QcW d.y,QcW d.z,f64V d.t1,.int .u8 (d.t2.toNat:Int),w]:=⟨q,e,rfl,hq⟩
 rw[Y2 (by kernel_rfl)]
 show IfK (.bool false) _ _
 rw[ZG]
 refine hv.ld hB.cut (i:=0) (QcW d.x) rfl ?_
 refine hv.ld hB.cut (i:=1) (QcW d.y) rfl ?_
 refine hv.ld hB.cut (i:=2) (QcW d.z) rfl ?_
 refine hv.ld hB.cut (i:=3) (f64V d.t1) rfl ?_
 refine hv.ld hB.cut (i:=4) (.int .u8 (d.t2.toNat:Int)) rfl ?_
 refine hv.ld hB.cut (i:=5) w rfl ?_
 refine hw.ld hB.cut (i:=0) (Qbc d.a) rfl ?_
 refine hv.ld hB.cut (i:=5) w rfl ?_
 refine hw.ld hB.cut (i:=1) (i8V d.b) rfl ?_
 refine QhK hB d.t2.toNat_lt hl ?_
 exact hR
end
end Go.Proofs
namespace Go.Proofs
open Go Go.Vc
open Tryz (prog)
def vecS (es al:Nat) (items:List (List UInt8)) (S:BS):BS:=Qjc items.length (place items.flatten (Yo es items.length al S))
def Qbz (L:Nat):List Nat->List (List UInt8)
 |[]=>[]
 |o::os=>leB ((L+4*os.length-o+4:Nat):Int) 4::Qbz L os
theorem Qep (L:Nat):∀os,(Qbz L os).length=os.length
 |[]=>rfl
 |o::os=>by simp[Qbz,Qep L os]
def offsS (offs:List Nat) (S:BS):BS:=vecS 4 4 (Qbz (Yo 4 offs.length 4 S).buf.length offs) S
def QB {α:Type} (f:α->BS->BS×Nat):List α->BS->BS×List Nat
 |[],S=>(S,[])
 |x::xs,S=>((QB f xs (f x S).1).1,(f x S).2::(QB f xs (f x S).1).2)
theorem QhU {α:Type} (f:α->BS->BS×Nat) (x:α):∀(xs:List α) (S:BS),
  QB f (xs++[x]) S=((f x (QB f xs S).1).1,(QB f xs S).2++[(f x (QB f xs S).1).2])
 |[],S=>rfl
 |y::xs,S=>by
  rw[List.cons_append,QB,QhU f x xs]
  rfl
theorem Qce {α:Type} (f:α->BS->BS×Nat):∀(xs:List α) (S:BS),(QB f xs S).2.length=xs.length
 |[],S=>rfl
 |y::xs,S=>by simp[QB,Qce f xs]
theorem Qbf {es:Nat}:∀(items:List (List UInt8)),(∀x∈items,x.length=es)->items.flatten.length=es*items.length
 |[],_=>by simp
 |x::xs,h=>by
  rw[List.flatten_cons,List.length_append,Qbf xs (fun y hy=>h y (List.mem_cons_of_mem _ hy)),h x List.mem_cons_self,List.length_cons,Nat.mul_add]
  omega
theorem Qfp (L:Nat):∀os,∀x∈Qbz L os,x.length=4
 |[],x,hx=>by simp[Qbz]at hx
 |o::os,x,hx=>by
  rcases List.mem_cons.1 hx with rfl|hx
  ·exact Qf _ _
  ·exact Qfp L os x hx
theorem Qgf (es n al:Nat) (S:BS) (hal:0<al):∃x,(Yo es n al S).buf=x++S.buf/\x.length<=3+al:=by
 have h1:=Zr (size:=4) (n:=S.buf.length+es*n) (by decide)
 have h2:=Zr (size:=al) (n:=(prep 4 (es*n) {S with nested:=true}).buf.length+es*n) hal
 refine ⟨List.replicate (padOf al ((prep 4 (es*n) {S with nested:=true}).buf.length+es*n)) 0++List.replicate (padOf 4 (S.buf.length+es*n)) 0,?_,?_⟩
 ·exact (List.append_assoc _ _ _).symm
 ·simp;omega
theorem Qjd (es n al:Nat) (S:BS):4<=(Yo es n al S).min/\al<=(Yo es n al S).min:=
 ⟨Nat.le_trans (Nat.le_max_right S.min 4) (Nat.le_max_left _ al),Nat.le_max_right _ al⟩
theorem Qhc {es n al k:Nat} (S:BS) (hal:al=2^k):((Yo es n al S).buf.length+es*n)%al=0:=by
 have h:=QeY (size:=al) (n:=(prep 4 (es*n) {S with nested:=true}).buf.length+es*n) (by rw[hal];exact Nat.two_pow_pos k)
 have e:(Yo es n al S).buf.length=padOf al ((prep 4 (es*n) {S with nested:=true}).buf.length+es*n)+(prep 4 (es*n) {S with nested:=true}).buf.length:=by
  unfold Yo;rw[QcH]
 rw[e]
 rw[<-h];congr 1;omega
theorem YH {es n al k:Nat} (S:BS) (hal:al=2^k) (hk:k<=3):
  es*n+5<=Nat.max ((4+es*n+1)-padOf al ((prep 4 (es*n) {S with nested:=true}).buf.length+es*n)) (al+es*n+1):=by
 have hc:k=3\/k<=2:=by omega
 rcases hc with rfl|hc
 ·refine Nat.le_trans ?_ (Nat.le_max_right _ _)
  rw[hal];omega
 ·refine Nat.le_trans ?_ (Nat.le_max_left _ _)
  have h1:=QeY (size:=4) (n:=S.buf.length+es*n) (by decide)
  have h2:((prep 4 (es*n) {S with nested:=true}).buf.length+es*n)%al=0:=by
   have e:(prep 4 (es*n) {S with nested:=true}).buf.length+es*n=S.buf.length+es*n+padOf 4 (S.buf.length+es*n):=by
    rw[QcH];show padOf 4 (S.buf.length+es*n)+S.buf.length+es*n=_;omega
   rw[e]
   have hd:al∣4:=by
    rw[hal]
    have:k=0\/k=1\/k=2:=by omega
    rcases this with rfl|rfl|rfl<;>decide
   exact Nat.mod_eq_zero_of_dvd (Nat.dvd_trans hd (Nat.dvd_of_mod_eq_zero h1))
  rw[ZY h2];omega
theorem YC.vecS {S:BS} (h:Inv S) {es al:Nat} {items:List (List UInt8)} (hal:P2 al) (hi:∀x∈items,x.length=es):
  YC S (es*items.length+15) (Proofs.vecS es al items S,(Proofs.vecS es al items S).buf.length)/\0<(Proofs.vecS es al items S).buf.length:=by
 obtain ⟨x,hx,hxl⟩:=Qgf es items.length al S hal.pos
 have h8:=hal.le
 have hf:=Qbf items hi
 have e:(Proofs.vecS es al items S).buf=leB (items.length:Int) 4++(items.flatten++(x++S.buf)):=by
  show leB (items.length:Int) 4++(items.flatten++(Yo es items.length al S).buf)=_
  rw[hx]
 have el:(Proofs.vecS es al items S).buf.length=4+es*items.length+x.length+S.buf.length:=by
  rw[e];simp only[List.length_append,Qf,hf];omega
 refine ⟨⟨⟨rfl,h.vts.ext (S':=Proofs.vecS es al items S) rfl (x:=leB (items.length:Int) 4++(items.flatten++x)) (by rw[e];simp),?_,(h.min.max P2_4).max hal⟩,?_,?_,?_⟩,?_⟩
 ·have:=h.nv
  show S.vts.length<=(Proofs.vecS es al items S).buf.length
  omega
 ·show (Proofs.vecS es al items S).buf.length<=_
  omega
 ·show _<=(Proofs.vecS es al items S).buf.length
  omega
 ·exact Nat.le_refl _
 ·omega
theorem Qe6 {α:Type} {f:α->BS->BS×Nat} {c:α->Nat}:∀(xs:List α),(∀x∈xs,∀S,Inv S->YC S (c x) (f x S))->∀S,Inv S->
  Inv (QB f xs S).1/\(QB f xs S).1.buf.length<=S.buf.length+(xs.map c).sum/\S.buf.length<=(QB f xs S).1.buf.length/\∀o∈(QB f xs S).2,o<=(QB f xs S).1.buf.length
 |[],_,S,h=>⟨h,by simp[QB],Nat.le_refl _,by simp[QB]⟩
 |x::xs,hf,S,h=>by
  have h1:=hf x List.mem_cons_self S h
  obtain ⟨g1,g2,g3,g4⟩:=Qe6 xs (fun y hy=>hf y (List.mem_cons_of_mem _ hy)) (f x S).1 h1.inv
  refine ⟨g1,?_,?_,?_⟩
  ·show (QB f xs (f x S).1).1.buf.length<=_
   have:=h1.len
   simp only[List.map_cons,List.sum_cons];omega
  ·show _<=(QB f xs (f x S).1).1.buf.length
   have:=h1.le;omega
  ·intro o ho
   show o<=(QB f xs (f x S).1).1.buf.length
   rcases List.mem_cons.1 ho with rfl|ho
   ·have:=h1.off;omega
   ·exact g4 o ho
end Go.Proofs
namespace Go.Proofs
open Go Go.Vc
open Tryz (prog)
def optB (xs:List UInt8) (S:BS):BS×Nat:=if xs=[] then (S,0) else (createStr xs S,(createStr xs S).buf.length)
def QhI (es al:Nat) (items:List (List UInt8)) (S:BS):BS×Nat:=if items=[] then (S,0) else (vecS es al items S,(vecS es al items S).buf.length)
def optO (q:BS->BS×List Nat) (S:BS):BS×Nat:=
 if (q S).2=[] then (S,0) else (offsS (q S).2 (q S).1,(offsS (q S).2 (q S).1).buf.length)
def Qd9 (xs:List UInt8) (S:BS):BS×Nat:=(createStr xs S,(createStr xs S).buf.length)
def QiJ (d:Option ZJ) (S:BS):BS×Nat:=match d with|some d=>QdG d S|none=>(S,0)
def Qf2 (b:Bool) (S:BS):BS×Nat:=if b then QdS S else (S,0)
def Qci (amb:Bool) (ty color:UInt8) (kid:BS->BS×Nat) (S:BS):BS×Nat:=
 if ty=0 then (S,0) else if amb=false/\ty=2 then QdW color S else kid S
def Qho (b:Bool):List UInt8:=[if b then 1 else 0]
def Qdt (x:UInt64):List UInt8:=leB (x.toNat:Int) 8
def Qj7 (d:Qbt) (tables:BS->BS×List Nat) (enemy test uniq amb:BS->BS×Nat):List (BS->BS×Nat):=
 [Qd9 d.name,optB d.inventory,Qci false d.testTy d.testColor test,QhI 4 2 (d.test4.map fun t=>QcB t.a.toNat t.b.toNat),optO (QB Qd9 d.strings),optO tables,enemy,optB d.nested,QiJ d.empty,
  QhI 1 1 (d.bools.map Qho),optO (QB Qd9 d.strings2),QhI 8 4 (d.abilities.map fun t=>QaJ t.id.toNat t.dist.toNat),optB d.flex,QhI 4 2 (d.test5.map fun t=>QcB t.a.toNat t.b.toNat),
  QhI 8 8 (d.longs.map Qdt),QhI 8 8 (d.doubles.map Qdt),Qf2 d.parent,optO (QB Qdb d.refs),QhI 8 8 (d.weak.map Qdt),optO (QB Qdb d.strong),QhI 8 8 (d.coOwnings.map Qdt),QhI 8 8 (d.nonOwnings.map Qdt),
  Qci false d.uniqTy d.uniqColor uniq,Qci true d.ambTy d.ambColor amb,QhI 1 1 (d.enums.map fun b=>[b])]
def slotPos (pos:Option ZO) (S:BS):BS:=match pos with|some v=>slotStruct (place (Qj8 v) (prep 8 32 S)).buf.length 0 (place (Qj8 v) (prep 8 32 S))|none=>S
def slotTy (ty:UInt8) (o:Nat) (S:BS):BS:=if ty=0 then S else slotN 1 ty.toNat 0 o S
def slots (d:Qbt) (o:List Nat):List (BS->BS):=
 [slotPos d.pos,slotN 2 d.mana.toNat 150 1,slotN 2 d.hp.toNat 100 2,slotOff (o.getD 0 0) 3,slotOff (o.getD 1 0) 5,slotN 1 d.color.toNat 8 6,slotTy d.testTy 7,slotOff (o.getD 2 0) 8,slotOff (o.getD 3 0) 9,slotOff (o.getD 4 0) 10,slotOff (o.getD 5 0) 11,
  slotOff (o.getD 6 0) 12,slotOff (o.getD 7 0) 13,slotOff (o.getD 8 0) 14,slotN 1 (if d.bool then 1 else 0) 0 15,slotN 4 d.s32.toNat 0 16,slotN 4 d.u32.toNat 0 17,slotN 8 d.s64.toNat 0 18,slotN 8 d.u64.toNat 0 19,
  slotN 4 d.s32a.toNat 0 20,slotN 4 d.u32a.toNat 0 21,slotN 8 d.s64a.toNat 0 22,slotN 8 d.u64a.toNat 0 23,slotOff (o.getD 9 0) 24,slotF d.f.toNat 1078530000 25,slotF d.f2.toNat 1077936128 26,slotF d.f3.toNat 0 27,
  slotOff (o.getD 10 0) 28,slotOff (o.getD 11 0) 29,slotOff (o.getD 12 0) 30,slotOff (o.getD 13 0) 31,slotOff (o.getD 14 0) 32,slotOff (o.getD 15 0) 33,slotOff (o.getD 16 0) 34,slotOff (o.getD 17 0) 35,slotN 8 d.singleWeak.toNat 0 36,
  slotOff (o.getD 18 0) 37,slotOff (o.getD 19 0) 38,slotN 8 d.coOwning.toNat 0 39,slotOff (o.getD 20 0) 40,slotN 8 d.nonOwning.toNat 0 41,slotOff (o.getD 21 0) 42,slotTy d.uniqTy 43,slotOff (o.getD 22 0) 44,slotTy d.ambTy 45,
  slotOff (o.getD 23 0) 46,slotOff (o.getD 24 0) 47,slotN 1 d.signedEnum.toNat 255 48]
def runS:List (BS->BS)->BS->BS
 |[],S=>S
 |f::fs,S=>runS fs (f S)
def packT (d:Qbt) (tables:BS->BS×List Nat) (enemy test uniq amb:BS->BS×Nat) (S:BS):BS×Nat:=
 endT (runS (slots d (QB (fun f=>f) (Qj7 d tables enemy test uniq amb) S).2) (Qad 49 (QB (fun f=>f) (Qj7 d tables enemy test uniq amb) S).1))
def Qch (fc k x d o:Nat) (S:BS):BS:=if x=d/\fc≠o then S else slot o (putN k (leB (x:Int) k) S)
def slotFF (fc x d o:Nat) (S:BS):BS:=if FloatKind.f32.format.order x d=some .eq/\fc≠o then S else slot o (putN 4 (leB (x:Int) 4) S)
def slotsF (fc:Nat) (d:Qbt) (o:List Nat):List (BS->BS):=
 [slotPos d.pos,Qch fc 2 d.mana.toNat 150 1,Qch fc 2 d.hp.toNat 100 2,slotOff (o.getD 0 0) 3,slotOff (o.getD 1 0) 5,Qch fc 1 d.color.toNat 8 6,slotTy d.testTy 7,slotOff (o.getD 2 0) 8,slotOff (o.getD 3 0) 9,slotOff (o.getD 4 0) 10,slotOff (o.getD 5 0) 11,
  slotOff (o.getD 6 0) 12,slotOff (o.getD 7 0) 13,slotOff (o.getD 8 0) 14,Qch fc 1 (if d.bool then 1 else 0) 0 15,Qch fc 4 d.s32.toNat 0 16,Qch fc 4 d.u32.toNat 0 17,Qch fc 8 d.s64.toNat 0 18,Qch fc 8 d.u64.toNat 0 19,
  Qch fc 4 d.s32a.toNat 0 20,Qch fc 4 d.u32a.toNat 0 21,Qch fc 8 d.s64a.toNat 0 22,Qch fc 8 d.u64a.toNat 0 23,slotOff (o.getD 9 0) 24,slotFF fc d.f.toNat 1078530000 25,slotFF fc d.f2.toNat 1077936128 26,slotFF fc d.f3.toNat 0 27,
  slotOff (o.getD 10 0) 28,slotOff (o.getD 11 0) 29,slotOff (o.getD 12 0) 30,slotOff (o.getD 13 0) 31,slotOff (o.getD 14 0) 32,slotOff (o.getD 15 0) 33,slotOff (o.getD 16 0) 34,slotOff (o.getD 17 0) 35,Qch fc 8 d.singleWeak.toNat 0 36,
  slotOff (o.getD 18 0) 37,slotOff (o.getD 19 0) 38,Qch fc 8 d.coOwning.toNat 0 39,slotOff (o.getD 20 0) 40,Qch fc 8 d.nonOwning.toNat 0 41,slotOff (o.getD 21 0) 42,slotTy d.uniqTy 43,slotOff (o.getD 22 0) 44,slotTy d.ambTy 45,
  slotOff (o.getD 23 0) 46,slotOff (o.getD 24 0) 47,Qch fc 1 d.signedEnum.toNat 255 48]
theorem slotNF_ne {fc k x d o:Nat} (h:fc≠o):Qch fc k x d o=slotN k x d o:=by
 funext S
 unfold Qch slotN
 simp only[h,and_true,ne_eq,not_false_eq_true]
theorem slotFF_ne {fc x d o:Nat} (h:fc≠o):slotFF fc x d o=slotF x d o:=by
 funext S
 unfold slotFF slotF
 by_cases h2:FloatKind.f32.format.order x d=some .eq
 ·rw[if_pos ⟨h2,h⟩,if_neg (by rw[h2];decide)]
 ·rw[if_neg (fun g=>h2 g.1),if_pos (by simpa using h2)]
theorem slotsF_49 (d:Qbt) (o:List Nat):slotsF 49 d o=slots d o:=by
 unfold slotsF slots
 simp (decide:=true) only[slotNF_ne,slotFF_ne]
def packTF (fc:Nat) (d:Qbt) (tables:BS->BS×List Nat) (enemy test uniq amb:BS->BS×Nat) (S:BS):BS×Nat:=
 endT (runS (slotsF fc d (QB (fun f=>f) (Qj7 d tables enemy test uniq amb) S).2) (Qad 49 (QB (fun f=>f) (Qj7 d tables enemy test uniq amb) S).1))
theorem packTF_49:packTF 49=packT:=by
 funext d t e u q a S
 unfold packTF packT
 rw[slotsF_49]
mutual
def Qb1:Mon->BS->BS×Nat
 |.mk d tables enemy test uniq amb,S=>packT d (QdZ tables) (Zw enemy) (Zw test) (Zw uniq) (Zw amb) S
def QdZ:List Mon->BS->BS×List Nat
 |[],S=>(S,[])
 |m::ms,S=>((QdZ ms (Qb1 m S).1).1,(Qb1 m S).2::(QdZ ms (Qb1 m S).1).2)
def Zw:List Mon->BS->BS×Nat
 |[],S=>(S,0)
 |m::_,S=>Qb1 m S
end
theorem Qht:∀(ms:List Mon) (S:BS),QdZ ms S=QB Qb1 ms S
 |[],S=>by rw[QdZ,QB]
 |m::ms,S=>by rw[QdZ,QB,Qht ms]
def Qat (m:Mon):List UInt8:=(finish (Qb1 m Qfr).2 (Qb1 m Qfr).1).buf
end Go.Proofs
namespace Go.Proofs
open Go Go.Vc
open Tryz (prog)
abbrev u8n (x:UInt8):Value:=.int .u8 (x.toNat:Int)
def Qez {α:Type} (F:Cut) (v:Value) (l:List α) (cells:α->Array Value):Prop:=
 ∃ptrs:List Value,QaH F v ptrs/\ptrs.length=l.length/\∀(i:Nat) p t,ptrs[i]?=some p->l[i]?=some t->Za F p (cells t)
def testC (t:Qb8):Array Value:=#[Qbc t.a,i8V t.b]
def abilC (t:QeJ):Array Value:=#[Zz t.id,Zz t.dist]
def refC (x:UInt64):Array Value:=#[Ya x]
def statC (d:ZJ):Array Value:=#[Yf d.id,Qdw d.val,u16V d.count]
def Vec3At (F:Cut) (v:Value) (d:ZO):Prop:=∃w,Za F v #[QcW d.x,QcW d.y,QcW d.z,f64V d.t1,u8n d.t2,w]/\Za F w #[Qbc d.a,i8V d.b]
def OptAt {α:Type} (v:Value) (o:Option α) (at_:α->Prop):Prop:=match o with|none=>v= .pointer none|some x=>at_ x
def QcZ (F:Cut) (amb:Bool) (ty color:UInt8) (v c:Value) (kids:List Mon):Prop:=
 (ty=0/\v= .pointer none/\kids=[])\/
 (ty≠0/\∃w,Za F v #[u8n ty,w]/\
  ((amb=false/\ty=2/\w= .iface 278 c/\Za F c #[u8n color]/\kids=[])\/
   ((ty=1\/(amb=true/\(ty=2\/ty=3)))/\w= .iface 89 c/\∃k,kids=[k])))
structure MTV where
 pos:Value
 inv:Value
 test:Value
 test4:Value
 strings:Value
 tables:Value
 enemy:Value
 nested:Value
 empty:Value
 bools:Value
 strings2:Value
 abil:Value
 flex:Value
 test5:Value
 longs:Value
 doubles:Value
 parent:Value
 refs:Value
 weak:Value
 strong:Value
 coOwnings:Value
 nonOwnings:Value
 uniq:Value
 amb:Value
 enums:Value
 testC:Value
 uniqC:Value
 ambC:Value
def mtCells (d:Qbt) (v:MTV):Array Value:=
 #[v.pos,Qbc d.mana,Qbc d.hp,Yf d.name,v.inv,u8n d.color,v.test,v.test4,v.strings,v.tables,v.enemy,v.nested,v.empty,.bool d.bool,
  Qfl d.s32,Zz d.u32,Qdw d.s64,Ya d.u64,Qfl d.s32a,Zz d.u32a,Qdw d.s64a,Ya d.u64a,v.bools,QcW d.f,QcW d.f2,QcW d.f3,v.strings2,v.abil,v.flex,v.test5,
  v.longs,v.doubles,v.parent,v.refs,Ya d.singleWeak,v.weak,v.strong,Ya d.coOwning,v.coOwnings,Ya d.nonOwning,v.nonOwnings,v.uniq,v.amb,v.enums,i8V d.signedEnum]
structure MTD (F:Cut) (d:Qbt) (v:MTV) (enemy test uniq amb:List Mon):Prop where
 pos:OptAt v.pos d.pos (Vec3At F v.pos)
 inv:QaH F v.inv (d.inventory.map u8V)
 test:QcZ F false d.testTy d.testColor v.test v.testC test
 test4:Qez F v.test4 d.test4 testC
 strings:QaH F v.strings (d.strings.map Yf)
 enemy:(enemy=[]/\v.enemy= .pointer none)\/∃k,enemy=[k]
 nested:QaH F v.nested (d.nested.map u8V)
 empty:OptAt v.empty d.empty (fun s=>Za F v.empty (statC s))
 bools:QaH F v.bools (d.bools.map Value.bool)
 strings2:QaH F v.strings2 (d.strings2.map Yf)
 abil:Qez F v.abil d.abilities abilC
 flex:QaH F v.flex (d.flex.map u8V)
 test5:Qez F v.test5 d.test5 testC
 longs:QaH F v.longs (d.longs.map Qdw)
 doubles:QaH F v.doubles (d.doubles.map f64V)
 parent:(d.parent=false/\v.parent= .pointer none)\/(d.parent=true/\∃a,v.parent= .pointer (some a))
 refs:Qez F v.refs d.refs refC
 weak:QaH F v.weak (d.weak.map Ya)
 strong:Qez F v.strong d.strong refC
 coOwnings:QaH F v.coOwnings (d.coOwnings.map Ya)
 nonOwnings:QaH F v.nonOwnings (d.nonOwnings.map Ya)
 uniq:QcZ F false d.uniqTy d.uniqColor v.uniq v.uniqC uniq
 amb:QcZ F true d.ambTy d.ambColor v.amb v.ambC amb
 enums:QaH F v.enums (d.enums.map u8V)
inductive MT (F:Cut):Value->Mon->Prop where
 |mk (v:Value) (d:Qbt) (c:MTV) (ptrs:List Value) (tables enemy test uniq amb:List Mon) (obj:Za F v (mtCells d c)) (own:MTD F d c enemy test uniq amb)
   (tl:QaH F c.tables ptrs) (tlen:ptrs.length=tables.length) (tt:∀(i:Nat) p m,ptrs[i]?=some p->tables[i]?=some m->MT F p m)
   (te:∀k,k∈enemy->MT F c.enemy k) (tu:∀k,k∈test->MT F c.testC k) (tq:∀k,k∈uniq->MT F c.uniqC k) (ta:∀k,k∈amb->MT F c.ambC k):MT F v (.mk d tables enemy test uniq amb)
def statLen:Option ZJ->Nat
 |some s=>s.id.length
 |none=>0
def costD (d:Qbt):Nat:=
 d.name.length+d.inventory.length+d.nested.length+d.flex.length+d.enums.length+(d.strings.map List.length).sum+(d.strings2.map List.length).sum+statLen d.empty+
 60*(d.test4.length+d.strings.length+d.bools.length+d.strings2.length+d.abilities.length+d.test5.length+d.longs.length+d.doubles.length+d.refs.length+d.weak.length+d.strong.length+d.coOwnings.length+d.nonOwnings.length)+8000
mutual
def Qg9:Mon->Nat
 |.mk d tables enemy test uniq amb=>costD d+60*tables.length+Qb9 tables+Qb9 enemy+Qb9 test+Qb9 uniq+Qb9 amb
def Qb9:List Mon->Nat
 |[]=>0
 |m::ms=>Qg9 m+Qb9 ms
end
end Go.Proofs
