/- WHAT IS PROVED: the given statement of FnMonsterRead, whatever the input: this is part 5 of 13. No conditions. -/
import Derived.Test.YtihojnnfjoldnaaGreatX04
set_option linter.all false
namespace Go.Proofs
open Go Go.Vc
open Tryz (prog)
section
variable {H:Qf} {p:Nat} {S:BS} {F:Cut} {r:Nat} (hB:Qc H p S F r) {R:Kn}
include hB
set_option maxHeartbeats 1000000 in
theorem QX {size add k:Nat} {y:Int} (hsz:size=2^k) (hk:k<=3) (hy:y=(add:Nat)) (hlen:S.buf.length+add+16<=536870912)
  (hR:∀H',Qc H' p (prep size add S) F (Nat.max (r-padOf size (S.buf.length+add)) (size+add+1))->R (.tuple #[]) H'):
  FnS prog 70 #[.pointer (some ⟨p,0,none⟩),.int .i64 (size:Nat),.int .i64 y] H R:=by
 subst hy
 have hs1:1<=size/\size<=8:=by
  rw[hsz]
  have:k=0\/k=1\/k=2\/k=3:=by omega
  rcases this with rfl|rfl|rfl|rfl<;>decide
 apply w70
 unfold s70
 refine QK (fun _ h=>Qc h p {S with min:=Nat.max S.min size} F r) ?_ ?_
 ·obtain ⟨hd,h1,⟨B,V,T,L,len,vtv,vtsv,e,eB,hr,h2,h3⟩⟩:=hB
  simp only[↓Qd,↓Qh,↓Qk (ld_min hr),↓Qby]
  apply Z2
  ·intro hlt
   rw[st_min hr]
   have e0:Nat.max S.min size=size:=Nat.max_eq_right (by omega)
   rw[e0]
   exact ⟨hd,h1,⟨B,V,T,L,len,vtv,vtsv,e,eB,Raw.setp hr rfl rfl,h2,h3⟩⟩
  ·intro hlt
   have e0:Nat.max S.min size=S.min:=Nat.max_eq_left (by omega)
   rw[e0]
   exact ⟨hd,h1,⟨B,V,T,L,len,vtv,vtsv,e,eB,hr,h2,h3⟩⟩
 ·intro h2 hb
  have hlt:=hb.lt
  generalize hS1:{S with min:=Nat.max S.min size}=S1 at hb hlt
  have hbuf:S1.buf=S.buf:=by rw[<-hS1]
  obtain ⟨hd,h1,⟨B,V,T,L,len,vtv,vtsv,e,eB,hr,g2,g3⟩⟩:=hb
  have hl:=hr.lt
  have hpl:=Zk (size:=size) (n:=S.buf.length+add) (by omega)
  have hpi:=padOf_int (size:=size) (n:=S.buf.length+add) (by omega)
  simp only[↓Qd,↓Qh,↓Qk (YE hr),↓Qbj]
  apply w166
  unfold s166
  simp only[↓Qd,↓Qh,↓Qk (YC hr),Qb,↓Qm,↓Yk,↓Qx]
  rw[wrap_i64 (n:=(hd:Int)) (by omega) (by omega),wrap_i64 (n:=(len:Int)-(hd:Int)) (by omega) (by omega),wrap_i64 (n:=(len:Int)-(hd:Int)+(add:Int)) (by omega) (by omega)]
  rw[show (len:Int)-(hd:Int)+(add:Int)=((S.buf.length+add:Nat):Int) by rw[hbuf]at g2;omega,PureK_xor,xor_all (by omega)]
  simp only[↓Qx,↓Yk,↓Qg5]
  rw[wrap_i64 (n:=-((S.buf.length+add:Nat):Int)-1+1) (by omega) (by omega),wrap_i64 (n:=(size:Int)-1) (by omega) (by omega),mask_and _ hsz (by omega)]
  rw[show -((S.buf.length+add:Nat):Int)-1+1=-((S.buf.length+add:Nat):Int) by omega,hpi]
  generalize hpad:padOf size (S.buf.length+add)=pad at hpl hR
  refine QK (fun _ h=>∃hd',BuilderH h p S1 F hd'/\r<=hd'/\pad+size+add<hd') ?_ ?_
  ·refine ⟨fun m vs h=>∃hd',BuilderH h p S1 F hd'/\r<=hd'/\m=1073741824-hd',⟨_,hd,⟨B,V,T,L,len,vtv,vtsv,e,eB,hr,g2,g3⟩,h1,rfl⟩,fun m=>?_⟩
   rintro h4 ⟨hd',⟨B,V,T,L,len,vtv,vtsv,e,eB,hr,g2,g3⟩,h1',rfl⟩
   have hl:=hr.lt
   simp only[↓Qd,↓Qh,↓Qk (YC hr),↓Qm,↓Qx,↓Qhh]
   rw[wrap_i64 (n:=(hd':Int)) (by omega) (by omega),wrap_i64 (n:=(pad:Int)+(size:Int)) (by omega) (by omega),wrap_i64 (n:=(pad:Int)+(size:Int)+(add:Int)) (by omega) (by omega)]
   apply Z2
   ·intro hle
    simp only[↓Qk (YE hr),↓Qbj]
    refine go_Builder_grow hr (by rw[hbuf]at g2;omega) ?_
    intro H' B' L' eB' hr' hh
    have hg1:len<grown len:=by unfold grown;split<;>omega
    have hl':=hr'.lt
    simp only[↓Qd,↓Qh,↓Qk (YC hr'),↓Qk (YE hr'),↓Qbj,↓Yk,↓Qm,↓Qx]
    rw[wrap_i64 (n:=(grown len:Int)-(len:Int)) (by omega) (by omega),QV (n:=(grown len:Int)-(len:Int)) (by omega) (by omega),QV (by omega) (by omega)]
    rw[show (hd':Int)+((grown len:Int)-(len:Int))=((hd'+(grown len-len):Nat):Int) by omega,QaL hr']
    refine ⟨1073741824-(hd'+(grown len-len)),by omega,hd'+(grown len-len),⟨B',V,T,L',grown len,vtv,vtsv,e,eB',Raw.setp hr' rfl rfl,by omega,?_⟩,by omega,rfl⟩
    rcases hh with h0|h0
    ·subst h0
     have hb0:S1.buf=[]:=List.eq_nil_of_length_eq_zero (by omega)
     rw[hb0]
     apply List.drop_of_length_le
     simp[grown];omega
    ·have hgl:len=0\/grown len=2*len:=by unfold grown;split<;>omega
     rcases hgl with h00|hgl
     ·subst h00
      have hb0:S1.buf=[]:=List.eq_nil_of_length_eq_zero (by omega)
      rw[hb0]
      apply List.drop_of_length_le
      simp[grown];omega
     ·rw[show hd'+(grown len-len)=len+hd' by omega,<-List.drop_drop,h0,g3]
   ·intro hle
    exact ⟨hd',⟨B,V,T,L,len,vtv,vtsv,e,eB,hr,g2,g3⟩,h1',by omega⟩
  ·rintro h7 ⟨hd',hbh,h1',h2'⟩
   have hat:Qc h7 p S1 F (Nat.max r (pad+size+add+1)):=⟨hd',Nat.max_le.2 ⟨h1',by omega⟩,hbh⟩
   have hm1:=Nat.le_max_left r (pad+size+add+1)
   have hm2:=Nat.le_max_right r (pad+size+add+1)
   have hm1:r<=Nat.max r (pad+size+add+1):=hm1
   have hm2:pad+size+add+1<=Nat.max r (pad+size+add+1):=hm2
   generalize Nat.max r (pad+size+add+1)=mx at hm1 hm2 hat
   refine Qaw (n:=pad) hat rfl (Nat.le_trans (by omega) hm2) ?_
   intro H' hb'
   refine hR H' ?_
   have e1:place (List.replicate pad 0) S1=prep size add S:=by rw[<-hS1,<-hpad];rfl
   rw[e1]at hb'
   exact hb'.room (Nat.max_le.2 ⟨by omega,by omega⟩)
end
end Go.Proofs
namespace Go.Proofs
open Go Go.Vc
open Tryz (prog)
def slot (o:Nat) (S:BS):BS:={S with vt:=S.vt.set o S.buf.length}
def putOff (off:Nat) (S:BS):BS:=place (leB (((prep 4 0 S).buf.length-off+4:Nat):Int) 4) (prep 4 0 S)
def putN (k:Nat) (xs:List UInt8) (S:BS):BS:=place xs (prep k 0 S)
theorem Qa5 {size add:Nat} {S:BS}:(prep size add S).buf.length=padOf size (S.buf.length+add)+S.buf.length:=by
 simp[prep,place]
section
variable {H:Qf} {p:Nat} {S:BS} {F:Cut} {r:Nat} (hB:Qc H p S F r) {R:Kn}
include hB
theorem Qcv {b:UInt8} (hl:S.buf.length+16<=536870912) (hR:∀H',Qc H' p (putN 1 [b] S) F (Nat.max (r-padOf 1 S.buf.length) (1+1)-1)->R (.tuple #[]) H'):FnS prog 113 #[.pointer (some ⟨p,0,none⟩),.int .u8 (b.toNat:Int)] H R:=by
 apply w113
 unfold s113
 refine QX (size:=1) (add:=0) (k:=0) hB (by decide) (by decide) rfl (by omega) ?_
 intro H1 h1
 refine Qa3 h1 (Nat.le_trans (by decide) (Nat.le_max_right _ _)) ?_
 intro H2 h2
 exact hR H2 h2
theorem Qfi {b:Bool} (hl:S.buf.length+16<=536870912) (hR:∀H',Qc H' p (putN 1 [if b then 1 else 0] S) F (Nat.max (r-padOf 1 S.buf.length) (1+1)-1)->R (.tuple #[]) H'):FnS prog 93 #[.pointer (some ⟨p,0,none⟩),.bool b] H R:=by
 apply w93
 unfold s93
 refine QX (size:=1) (add:=0) (k:=0) hB (by decide) (by decide) rfl (by omega) ?_
 intro H1 h1
 refine Qgf h1 (Nat.le_trans (by decide) (Nat.le_max_right _ _)) ?_
 intro H2 h2
 exact hR H2 h2
theorem Qct {x:Int} (hl:S.buf.length+16<=536870912) (hR:∀H',Qc H' p (putN 1 (leB x 1) S) F (Nat.max (r-padOf 1 S.buf.length) (1+1)-1)->R (.tuple #[]) H'):FnS prog 326 #[.pointer (some ⟨p,0,none⟩),.int .i8 x] H R:=by
 apply w326
 unfold s326
 refine QX (size:=1) (add:=0) (k:=0) hB (by decide) (by decide) rfl (by omega) ?_
 intro H1 h1
 refine Qgb h1 (Nat.le_trans (by decide) (Nat.le_max_right _ _)) ?_
 intro H2 h2
 exact hR H2 h2
theorem Qc4 {x:Int} (hl:S.buf.length+16<=536870912) (hR:∀H',Qc H' p (putN 2 (leB x 2) S) F (Nat.max (r-padOf 2 S.buf.length) (2+1)-2)->R (.tuple #[]) H'):FnS prog 327 #[.pointer (some ⟨p,0,none⟩),.int .i16 x] H R:=by
 apply w327
 unfold s327
 refine QX (size:=2) (add:=0) (k:=1) hB (by decide) (by decide) rfl (by omega) ?_
 intro H1 h1
 refine Qfw h1 (Nat.le_trans (by decide) (Nat.le_max_right _ _)) ?_
 intro H2 h2
 exact hR H2 h2
theorem QeB {x:Int} (hl:S.buf.length+16<=536870912) (hR:∀H',Qc H' p (putN 2 (leB x 2) S) F (Nat.max (r-padOf 2 S.buf.length) (2+1)-2)->R (.tuple #[]) H'):FnS prog 355 #[.pointer (some ⟨p,0,none⟩),.int .u16 x] H R:=by
 apply w355
 unfold s355
 refine QX (size:=2) (add:=0) (k:=1) hB (by decide) (by decide) rfl (by omega) ?_
 intro H1 h1
 refine Qfm h1 (Nat.le_trans (by decide) (Nat.le_max_right _ _)) ?_
 intro H2 h2
 exact hR H2 h2
theorem ZR {x:Int} (hl:S.buf.length+16<=536870912) (hR:∀H',Qc H' p (putN 2 (leB x 2) S) F (Nat.max (r-padOf 2 S.buf.length) (2+1)-2)->R (.tuple #[]) H'):FnS prog 362 #[.pointer (some ⟨p,0,none⟩),.int .u16 x] H R:=by
 apply w362
 unfold s362
 refine QX (size:=2) (add:=0) (k:=1) hB (by decide) (by decide) rfl (by omega) ?_
 intro H1 h1
 refine Qey h1 (Nat.le_trans (by decide) (Nat.le_max_right _ _)) ?_
 intro H2 h2
 exact hR H2 h2
theorem Qf4 {x:Int} (hl:S.buf.length+16<=536870912) (hR:∀H',Qc H' p (putN 4 (leB x 4) S) F (Nat.max (r-padOf 4 S.buf.length) (4+1)-4)->R (.tuple #[]) H'):FnS prog 336 #[.pointer (some ⟨p,0,none⟩),.int .i32 x] H R:=by
 apply w336
 unfold s336
 refine QX (size:=4) (add:=0) (k:=2) hB (by decide) (by decide) rfl (by omega) ?_
 intro H1 h1
 refine QfI h1 (Nat.le_trans (by decide) (Nat.le_max_right _ _)) ?_
 intro H2 h2
 exact hR H2 h2
theorem QbT {x:Int} (hl:S.buf.length+16<=536870912) (hR:∀H',Qc H' p (putN 4 (leB x 4) S) F (Nat.max (r-padOf 4 S.buf.length) (4+1)-4)->R (.tuple #[]) H'):FnS prog 330 #[.pointer (some ⟨p,0,none⟩),.int .u32 x] H R:=by
 apply w330
 unfold s330
 refine QX (size:=4) (add:=0) (k:=2) hB (by decide) (by decide) rfl (by omega) ?_
 intro H1 h1
 refine Qfg h1 (Nat.le_trans (by decide) (Nat.le_max_right _ _)) ?_
 intro H2 h2
 exact hR H2 h2
theorem Qbt {x:Nat} (hl:S.buf.length+16<=536870912) (hR:∀H',Qc H' p (putN 4 (leB x 4) S) F (Nat.max (r-padOf 4 S.buf.length) (4+1)-4)->R (.tuple #[]) H'):FnS prog 334 #[.pointer (some ⟨p,0,none⟩),.float .f32 x] H R:=by
 apply w334
 unfold s334
 refine QX (size:=4) (add:=0) (k:=2) hB (by decide) (by decide) rfl (by omega) ?_
 intro H1 h1
 refine Qf2 h1 (Nat.le_trans (by decide) (Nat.le_max_right _ _)) ?_
 intro H2 h2
 exact hR H2 h2
theorem Qcf {x:Int} (hl:S.buf.length+16<=536870912) (hR:∀H',Qc H' p (putN 8 (leB x 8) S) F (Nat.max (r-padOf 8 S.buf.length) (8+1)-8)->R (.tuple #[]) H'):FnS prog 99 #[.pointer (some ⟨p,0,none⟩),.int .i64 x] H R:=by
 apply w99
 unfold s99
 refine QX (size:=8) (add:=0) (k:=3) hB (by decide) (by decide) rfl (by omega) ?_
 intro H1 h1
 refine Qft h1 (Nat.le_trans (by decide) (Nat.le_max_right _ _)) ?_
 intro H2 h2
 exact hR H2 h2
theorem QbQ {x:Int} (hl:S.buf.length+16<=536870912) (hR:∀H',Qc H' p (putN 8 (leB x 8) S) F (Nat.max (r-padOf 8 S.buf.length) (8+1)-8)->R (.tuple #[]) H'):FnS prog 106 #[.pointer (some ⟨p,0,none⟩),.int .u64 x] H R:=by
 apply w106
 unfold s106
 refine QX (size:=8) (add:=0) (k:=3) hB (by decide) (by decide) rfl (by omega) ?_
 intro H1 h1
 refine Qfp h1 (Nat.le_trans (by decide) (Nat.le_max_right _ _)) ?_
 intro H2 h2
 exact hR H2 h2
theorem Qe2 {x:Nat} (hl:S.buf.length+16<=536870912) (hR:∀H',Qc H' p (putN 8 (leB x 8) S) F (Nat.max (r-padOf 8 S.buf.length) (8+1)-8)->R (.tuple #[]) H'):FnS prog 101 #[.pointer (some ⟨p,0,none⟩),.float .f64 x] H R:=by
 apply w101
 unfold s101
 refine QX (size:=8) (add:=0) (k:=3) hB (by decide) (by decide) rfl (by omega) ?_
 intro H1 h1
 refine QeR h1 (Nat.le_trans (by decide) (Nat.le_max_right _ _)) ?_
 intro H2 h2
 exact hR H2 h2
theorem ZL {off:Nat} (hl:S.buf.length+16<=536870912) (ho:off<=S.buf.length) (hR:∀H',Qc H' p (putOff off S) F (Nat.max (r-padOf 4 S.buf.length) 5-4)->R (.tuple #[]) H'):
  FnS prog 71 #[.pointer (some ⟨p,0,none⟩),.int .u32 (off:Nat)] H R:=by
 apply w71
 unfold s71
 refine QX (size:=4) (add:=0) (k:=2) hB (by decide) (by decide) rfl (by omega) ?_
 intro H1 h1
 have hlen:S.buf.length<=(prep 4 0 S).buf.length:=by rw[Qa5];omega
 have hlt:=h1.lt
 refine QK (fun _ h=>h=H1) ?_ ?_
 ·refine Yh h1 ?_
  rw[Qhh,Yo,decide_eq_true (by omega),Bool.not_true,Qbv]
 ·rintro h2 rfl
  refine Yh h1 ?_
  rw[Yk,Qx,QV (n:=((prep 4 0 S).buf.length:Int)-(off:Int)) (by omega) (by omega),QV (by omega) (by omega)]
  rw[show ((prep 4 0 S).buf.length:Int)-(off:Int)+4=(((prep 4 0 S).buf.length-off+4:Nat):Int) by omega]
  refine QbR h1 (Nat.le_trans (by decide) (Nat.le_max_right _ _)) ?_
  intro H2 h2
  exact hR H2 h2
theorem QdP (hl:S.buf.length+16<=536870912) (hR:∀H',Qc H' p (putOff 0 S) F (Nat.max (r-padOf 4 S.buf.length) 5-4)->R (.tuple #[]) H'):
  FnS prog 359 #[.pointer (some ⟨p,0,none⟩),.int .i32 0] H R:=by
 apply w359
 unfold s359
 refine QX (size:=4) (add:=0) (k:=2) hB (by decide) (by decide) rfl (by omega) ?_
 intro H1 h1
 have hlt:=h1.lt
 refine QK (fun _ h=>h=H1) ?_ ?_
 ·rw[Qm]
  refine Yh h1 ?_
  rw[Qhh,Yo,decide_eq_true (by rw[show IntKind.u32.wrap 0=0 from rfl];omega),Bool.not_true,Qbv]
 ·rintro h2 rfl
  refine Yh h1 ?_
  rw[Qm,Yk,Qx,YV (n:=((prep 4 0 S).buf.length:Int)) (by omega) (by omega),YV (n:=((prep 4 0 S).buf.length:Int)-0) (by omega) (by omega),YV (by omega) (by omega)]
  rw[show ((prep 4 0 S).buf.length:Int)-0+4=(((prep 4 0 S).buf.length-0+4:Nat):Int) by omega]
  refine Qef h1 (Nat.le_trans (by decide) (Nat.le_max_right _ _)) ?_
  intro H2 h2
  exact hR H2 h2
theorem YL {o:Nat} (ho:o<S.vt.length) (hR:∀H',Qc H' p (slot o S) F r->R (.tuple #[]) H'):
  FnS prog 335 #[.pointer (some ⟨p,0,none⟩),.int .i64 (o:Nat)] H R:=by
 have hB':=hB
 obtain ⟨hd,h1,⟨B,V,T,L,len,vtv,vtsv,e,eB,hr,h2,h3⟩⟩:=hB
 apply w335
 unfold s335
 simp only[↓Qd,↓Qh,↓Qk (QhK hr)]
 refine Yh hB' ?_
 rw[Qb]
 rcases hr.hV with ⟨rfl,hn,_⟩|⟨⟨W,eW,rfl,hW,hW2,hW3⟩,n1,n2,n3⟩
 ·rw[hn]at ho;simp at ho
 ·rw[QR (by omega) (by omega),Int.toNat_natCast,Nat.mul_one,Nat.zero_add,ZQ hW (by rw[Qhc];omega) (by simp) rfl,u32c_set]
  refine hR _ ⟨hd,h1,⟨B,V,T,L,len,.slice (some ⟨V,0,none⟩) S.vt.length W.length,vtsv,e,eB,?_,h2,h3⟩⟩
  refine ⟨by rw[Q0 (Ne.symm n1)];exact hr.hp,by rw[Q0 (Ne.symm n2)];exact hr.hB,Or.inr ⟨⟨W.set o S.buf.length,eW,by simp[slot],QH hW,?_,?_⟩,n1,n2,n3⟩,hr.hT.mono (Q0 (Ne.symm n3)),hr.pB,hr.pT,hr.BT,?_,hr.hlen,hr.lt⟩
  ·simp only[slot,List.length_set]
   rw[List.take_set,hW2]
  ·simp only[slot,List.length_set];exact hW3
  ·intro b o hb
   have:=hr.hF b o hb
   exact ⟨by rw[Q0 this.2.2.2.1];exact this.1,this.2⟩
def QL (es n al:Nat) (S:BS):BS:=prep al (es*n) (prep 4 (es*n) {S with nested:=true})
omit hB in
theorem startVec_len {es n al:Nat}:(QL es n al S).buf.length=padOf al (padOf 4 (S.buf.length+es*n)+S.buf.length+es*n)+(padOf 4 (S.buf.length+es*n)+S.buf.length):=by
 unfold QL
 rw[Qa5,Qa5]
theorem QN {es n al k:Nat} (hn:S.nested=false) (hal:al=2^k) (hk:k<=3) (hl:S.buf.length+es*n+24<=536870912)
  (hR:∀H',Qc H' p (QL es n al S) F (Nat.max ((4+es*n+1)-padOf al ((prep 4 (es*n) {S with nested:=true}).buf.length+es*n)) (al+es*n+1))->R (.int .u32 ((QL es n al S).buf.length:Nat)) H'):
  FnS prog 260 #[.pointer (some ⟨p,0,none⟩),.int .i64 (es:Nat),.int .i64 (n:Nat),.int .i64 (al:Nat)] H R:=by
 have hes:((es:Int)*(n:Int))=((es*n:Nat):Int):=by rw[Int.natCast_mul]
 have hpp:=Zk (size:=4) (n:=S.buf.length+es*n) (by decide)
 apply w260
 unfold s260
 refine YR hB hn ?_
 simp only[↓Qd,↓Qh]
 refine QbN hB ?_
 intro H1 h1
 rw[YQ,hes,wrap_i64 (n:=((es*n:Nat):Int)) (by omega) (by omega)]
 refine QX (size:=4) (add:=es*n) (k:=2) h1 (by decide) (by decide) rfl (by show S.buf.length+es*n+16<=536870912;omega) ?_
 intro H2 h2
 rw[YQ,hes,wrap_i64 (n:=((es*n:Nat):Int)) (by omega) (by omega)]
 refine QX (size:=al) (add:=es*n) (k:=k) h2 hal hk rfl ?_ ?_
 ·rw[Qa5]
  show padOf 4 (S.buf.length+es*n)+S.buf.length+es*n+16<=536870912
  omega
 ·intro H3 h3
  refine Yh h3 ?_
  refine hR H3 (h3.room ?_)
  have g1:4+es*n+1<=Nat.max (r-padOf 4 ((({S with nested:=true}:BS)).buf.length+es*n)) (4+es*n+1):=Nat.le_max_right _ _
  generalize Nat.max (r-padOf 4 ((({S with nested:=true}:BS)).buf.length+es*n)) (4+es*n+1)=x at *
  exact Nat.max_le.2 ⟨Nat.le_trans (by omega) (Nat.le_max_left _ _),Nat.le_max_right _ _⟩
def QhY (n:Nat) (S:BS):BS:={place (leB (n:Int) 4) S with nested:=false}
theorem Qa2 {n:Nat} (hn:S.nested=true) (hr:4<=r) (hlt:n<4294967296) (hR:∀H',Qc H' p (QhY n S) F (r-4)->R (.int .u32 ((QhY n S).buf.length:Nat)) H'):
  FnS prog 88 #[.pointer (some ⟨p,0,none⟩),.int .i64 (n:Nat)] H R:=by
 apply w88
 unfold s88
 refine Qao hB hn ?_
 rw[Qm,QV (by omega) (by omega)]
 refine QbR hB hr ?_
 intro H1 h1
 simp only[↓Qd,↓Qh]
 refine QbN h1 ?_
 intro H2 h2
 refine Yh h2 ?_
 exact hR H2 h2
end
end Go.Proofs
namespace Go.Proofs
open Go Go.Vc
open Tryz (prog)
def createStr (xs:List UInt8) (S:BS):BS:=QhY xs.length (place xs (place [0] (prep 4 (xs.length+1) {S with nested:=true})))
section
variable {H:Qf} {p:Nat} {S:BS} {F:Cut} {r:Nat} (hB:Qc H p S F r) {R:Kn}
include hB
theorem copy_in {xs:List UInt8} {kp:Qf->Prop} {y:Value} {k:Kn} (hx:xs.length<r) (h0:0<S.buf.length)
  (hy:∀H',(∀b o,F b=some o->H'[b]?=some o)->QhQ H' 1 xs.length y=some (xs.map u8V)) (hly:lenV y=xs.length)
  (hk:∀H',Qc H' p (place xs S) F (r-xs.length)->k (.int .i64 (Nat.min (lenV y) xs.length)) H'):
  LdK H (.pointer (some ⟨p,5,none⟩)) fun x25=>Ql prog .sub 68 x25 (.int .u32 (xs.length:Nat)) fun x27=>
   StK H 1 (.pointer (some ⟨p,5,none⟩)) x27 fun h5=>
   LdK h5 (.pointer (some ⟨p,0,none⟩)) fun x33=>LdK h5 (.pointer (some ⟨p,5,none⟩)) fun x37=>LdK h5 (.pointer (some ⟨p,5,none⟩)) fun x41=>
   Ql prog .add 68 x41 (.int .u32 (xs.length:Nat)) fun x43=>QbH 1 x33 (some x37) (some x43) fun x44=>CopyK h5 1 x44 y k:=by
 obtain ⟨hd,h1,⟨B,V,T,L,len,vtv,vtsv,e,eB,hr,h2,h3⟩⟩:=hB
 have hl:=hr.lt;have hlL:=hr.hlen
 rw[Qk (YC hr),Yk,QV (by omega) (by omega),show (hd:Int)-(xs.length:Int)=((hd-xs.length:Nat):Int) by omega,QaL hr]
 have hr2:=Raw.setp (S':=S) (head':=hd-xs.length) hr rfl rfl
 rw[Qk (YE hr2),Qk (YC hr2),Qk (YC hr2),Qx,QV (by omega) (by omega),bsl,QfN (by omega) (by omega) (by omega)]
 have hne:¬L.length=((hd-xs.length:Nat):Int).toNat:=by omega
 rw[if_neg hne]
 simp only[Int.toNat_natCast,Nat.mul_one,Nat.zero_add]
 have hn:(((hd-xs.length:Nat):Int)+(xs.length:Int)).toNat-(hd-xs.length)=xs.length:=by omega
 rw[hn]
 have hmin:Nat.min (lenV y) xs.length=xs.length:=by rw[hly];exact Nat.min_self _
 refine ⟨xs.map u8V,?_,?_⟩
 ·rw[hmin]
  exact hy _ (fun b o hb=>(hr2.hF b o hb).1)
 ·refine ⟨_,setN_u8 hr2.hB (by omega),?_⟩
  refine hk _ ⟨hd-xs.length,by omega,⟨B,V,T,_,len,vtv,vtsv,e,eB,Raw.wr hr2 (Yi _ _ _) rfl rfl rfl,?_,?_⟩⟩
  ·simp only[place,List.length_append];omega
  ·exact Qak hr.hlen h2 h3 (by omega)
omit hB in
theorem byteCells_all (s:ByteArray):(Zy (s.extract 0 s.size)).toList=s.toList.map u8V:=by
 have:s.extract 0 s.size=s:=by simp
 rw[this]
 simp[Zy,ByteArray.toList_eq]
set_option maxHeartbeats 1000000 in
theorem Qcj {s:ByteArray} {xs:List UInt8} (hs:s.toList=xs) (hn:S.nested=false) (hl:S.buf.length+xs.length+24<=536870912)
  (hR:∀H',Qc H' p (createStr xs S) F 0->R (.int .u32 ((createStr xs S).buf.length:Nat)) H'):
  FnS prog 83 #[.pointer (some ⟨p,0,none⟩),.string s] H R:=by
 have hsz:s.size=xs.length:=by rw[<-hs,ByteArray.toList_eq,Array.length_toList];rfl
 apply w83
 unfold s83
 refine YR hB hn ?_
 simp only[↓Qd,↓Qh,↓Qem,hsz]
 refine QbN hB ?_
 intro H1 h1
 rw[Qx,YQ,wrap_i64 (n:=(xs.length:Int)+1) (by omega) (by omega),wrap_i64 (by omega) (by omega)]
 refine QX (size:=4) (add:=xs.length+1) (k:=2) h1 (by decide) (by decide) (by omega) (by show S.buf.length+(xs.length+1)+16<=536870912;omega) ?_
 intro H2 h2
 have g1:4+(xs.length+1)+1<=Nat.max (r-padOf 4 ((({S with nested:=true}:BS)).buf.length+(xs.length+1))) (4+(xs.length+1)+1):=Nat.le_max_right _ _
 refine Qa3 (b:=0) (h2.room g1) (by omega) ?_
 intro H3 h3
 rw[Qm,QV (by omega) (by omega)]
 refine copy_in (xs:=xs) (kp:=fun _=>True) h3 (by omega) (by simp[place]) ?_ hsz ?_
 ·intro H' _
  show some (Zy (s.extract 0 xs.length)).toList=_
  rw[<-hsz,byteCells_all,hs]
 ·intro H4 h4
  refine Qa2 h4 (by simp[place,prep]) (by omega) (by omega) ?_
  intro H5 h5
  exact hR H5 (h5.room (by omega))
set_option maxHeartbeats 1000000 in
theorem Qdv {xs:List UInt8} {a:Option Addr} {c:Nat} (hs:∀H',(∀b o,F b=some o->H'[b]?=some o)->QhQ H' 1 xs.length (.slice a xs.length c)=some (xs.map u8V)) (hn:S.nested=false) (hl:S.buf.length+xs.length+24<=536870912)
  (hR:∀H',Qc H' p (createStr xs S) F 0->R (.int .u32 ((createStr xs S).buf.length:Nat)) H'):
  FnS prog 84 #[.pointer (some ⟨p,0,none⟩),.slice a xs.length c] H R:=by
 apply w84
 unfold s84
 refine YR hB hn ?_
 simp only[↓Qd,↓Qh,↓Qbj]
 refine QbN hB ?_
 intro H1 h1
 rw[Qx,YQ,wrap_i64 (n:=(xs.length:Int)+1) (by omega) (by omega),wrap_i64 (by omega) (by omega)]
 refine QX (size:=4) (add:=xs.length+1) (k:=2) h1 (by decide) (by decide) (by omega) (by show S.buf.length+(xs.length+1)+16<=536870912;omega) ?_
 intro H2 h2
 have g1:4+(xs.length+1)+1<=Nat.max (r-padOf 4 ((({S with nested:=true}:BS)).buf.length+(xs.length+1))) (4+(xs.length+1)+1):=Nat.le_max_right _ _
 refine Qa3 (b:=0) (h2.room g1) (by omega) ?_
 intro H3 h3
 rw[Qm,QV (by omega) (by omega)]
 refine copy_in (xs:=xs) (kp:=fun _=>True) h3 (by omega) (by simp[place]) hs rfl ?_
 intro H4 h4
 refine Qa2 h4 (by simp[place,prep]) (by omega) (by omega) ?_
 intro H5 h5
 exact hR H5 (h5.room (by omega))
def Qw (n:Nat) (S:BS):BS:={S with nested:=true,vt:=List.replicate n 0,oe:=S.buf.length}
omit hB in
theorem set_rep (n i:Nat) (W:List Nat) (hi:i<n) (hn:n<=W.length) (h:W.take i=List.replicate i 0):(W.set i 0).take (i+1)=List.replicate (i+1) 0:=by
 rw[List.take_set,List.take_add_one,h]
 have:W[i]?.toList=[W[i]'(by omega)]:=by rw[List.getElem?_eq_getElem (by omega)];rfl
 rw[this,List.set_append]
 simp[List.replicate_succ']
set_option maxHeartbeats 1000000 in
theorem YU {n:Nat} (hn:S.nested=false) (hlt:n<1000)
  (hR:∀H',Qc H' p (Qw n S) F r->R (.tuple #[]) H'):
  FnS prog 278 #[.pointer (some ⟨p,0,none⟩),.int .i64 (n:Nat)] H R:=by
 apply w278
 unfold s278
 refine YR hB hn ?_
 simp only[↓Qd,↓Qh]
 refine QbN hB ?_
 intro H1 h1
 have key:∀H2,Qc H2 p {S with nested:=true,vt:=List.replicate n 0} F r->FnS prog 255 #[.pointer (some ⟨p,0,none⟩)] H2 fun x55 h14=>
   StK h14 1 (.pointer (some ⟨p,3,none⟩)) x55 fun h15=>R (.tuple #[]) h15:=by
  intro H2 h2
  refine Yh h2 ?_
  refine st_oe_at h2 ?_
  intro H3 h3
  exact hR H3 h3
 obtain ⟨hd,hh,⟨B,V,T,L,len,vtv,vtsv,e,eB,hr,g2,g3⟩⟩:=h1
 refine QK (fun _ h=>Qc h p {S with nested:=true,vt:=List.replicate n 0} F r) ?_ ?_
 ·simp only[↓Qd,↓Qh,↓Qk (QhK hr)]
  obtain ⟨l1,l2,l3,l4⟩:=hr.V_lt
  have fresh:Qf5 H1 68 4 z68 (.int .i64 (n:Nat)) (.int .i64 (n:Nat)) fun x26 h8=>
    StK h8 1 (.pointer (some ⟨p,2,none⟩)) x26 fun h9=>Qc h9 p {S with nested:=true,vt:=List.replicate n 0} F r:=by
   refine ⟨by omega,by omega,by omega,by omega,?_⟩
   simp only[Int.toNat_natCast]
   rw[mk_u32 (z:=z68) rfl]
   have hp:(H1.push (.cells (Qfq (List.replicate n 0)) 68))[p]?=_:=YF hr.hp
   rw[ZQ hp (by decide:2<9) (by simp) rfl]
   refine ⟨hd,hh,⟨B,H1.size,T,L,len,.slice (some ⟨H1.size,0,none⟩) n n,vtsv,e,eB,?_,g2,g3⟩⟩
   refine ⟨QH hp,?_,Or.inr ⟨⟨List.replicate n 0,68,by simp,?_,by simp,by simp⟩,by omega,by omega,by omega⟩,?_,hr.pB,hr.pT,hr.BT,?_,hr.hlen,hr.lt⟩
   ·rw[Q0 (Ne.symm hr.pB)];exact YF hr.hB
   ·rw[Q0 (by omega)];exact Qp
   ·refine hr.hT.mono ?_
    rw[Q0 (Ne.symm hr.pT),Array.getElem?_push,if_neg (by omega)]
   ·intro b o hb
    have:=hr.hF b o hb
    have hbl:=YD this.1
    exact ⟨by rw[Q0 this.2.1];exact YF this.1,this.2.1,this.2.2.1,by omega,this.2.2.2.2⟩
  rcases hr.hV with ⟨rfl,hvn,hVp⟩|⟨⟨W,eW,rfl,hW,hW2,hW3⟩,n1,n2,n3⟩
  ·simp only[↓CapK_sl,↓Y2]
   by_cases h0:((0:Nat):Int)<(n:Int)
   ·simp only[decide_eq_true h0,↓Y0,↓Yq,↓Qf3]
    exact fresh
   ·simp only[decide_eq_false h0,↓Yy,↓Qd,↓Qh,↓Qk (QhK hr)]
    rw[BinK_sleq (e:=68) (by kernel_rfl)]
    simp only[Option.isNone_none,↓ZM,↓Qf3]
    exact fresh
  ·simp only[↓CapK_sl,↓Y2]
   by_cases h0:(W.length:Int)<(n:Int)
   ·simp only[decide_eq_true h0,↓Y0,↓Yq,↓Qf3]
    exact fresh
   ·simp only[decide_eq_false h0,↓Yy,↓Qd,↓Qh,↓Qk (QhK hr)]
    rw[BinK_sleq (e:=68) (by kernel_rfl)]
    simp only[Option.isNone_some,↓ZM,↓Qbv]
    rw[SlcK_hi (by omega) (by omega),Int.toNat_natCast,ZQ hr.hp (by decide:2<9) (by simp) rfl]
    have hp2:=QH (o:=.cells ((Qfc B len L.length {S with nested:=true} (.slice (some ⟨V,0,none⟩) S.vt.length W.length) vtsv hd).setIfInBounds 2 (.slice (some ⟨V,0,none⟩) n W.length)) e (0,0)) hr.hp
    refine ⟨fun m vs h=>∃i:Nat,vs=[.int .i64 (i:Int)]/\i<=n/\m=n-i/\∃W':List Nat,W'.length=W.length/\W'.take i=List.replicate i 0/\
     Raw h p {S with nested:=true,vt:=W'.take n} F B V T L len hd (.slice (some ⟨V,0,none⟩) n W.length) vtsv e eB/\h[V]?=some (.cells (Qfq W') eW (0,0)),⟨n,0,rfl,by omega,by omega,W,rfl,rfl,?_,?_⟩,fun m=>?_⟩
    ·refine ⟨hp2,?_,Or.inr ⟨⟨W,eW,?_,?_,?_,?_⟩,n1,n2,n3⟩,hr.hT.mono (Q0 (Ne.symm hr.pT)),hr.pB,hr.pT,hr.BT,?_,hr.hlen,hr.lt⟩
     ·rw[Q0 (Ne.symm hr.pB)];exact hr.hB
     ·have:(W.take n).length=n:=by simp;omega
      rw[this]
     ·rw[Q0 n1];exact hW
     ·have:(W.take n).length=n:=by simp;omega
      rw[this]
     ·simp;omega
     ·intro b o hb
      have:=hr.hF b o hb
      exact ⟨by rw[Q0 this.2.1];exact this.1,this.2⟩
    ·rw[Q0 n1];exact hW
    ·rintro x4 h11 ⟨i,hx,hi,rfl,W',hWl,hWt,hr',hWc⟩
     cases hx
     simp only[↓Qk (QhK hr'),↓Qbj,↓Y2]
     apply Z2
     ·intro hlt'
      rw[QR (by omega) (by omega),Int.toNat_natCast,Nat.mul_one,Nat.zero_add]
      have:(Value.int .u32 0)= .int .u32 ((0:Nat):Int):=rfl
      rw[this,ZQ hWc (by rw[Qhc];omega) (by simp) rfl,u32c_set,Qx,wrap_i64 (by omega) (by omega)]
      refine ⟨n-(i+1),by omega,i+1,rfl,by omega,rfl,W'.set i 0,by simp[hWl],set_rep n i W' (by omega) (by omega) hWt,?_,QH hWc⟩
      refine ⟨by rw[Q0 (Ne.symm n1)];exact hr'.hp,by rw[Q0 (Ne.symm n2)];exact hr'.hB,Or.inr ⟨⟨W'.set i 0,eW,?_,QH hWc,?_,?_⟩,n1,n2,n3⟩,hr'.hT.mono (Q0 (Ne.symm n3)),hr.pB,hr.pT,hr.BT,?_,hr.hlen,hr.lt⟩
      ·have:((W'.set i 0).take n).length=n:=by simp;omega
       rw[this,List.length_set,hWl]
      ·have:((W'.set i 0).take n).length=n:=by simp;omega
       rw[this]
      ·simp;omega
      ·intro b o hb
       have:=hr'.hF b o hb
       exact ⟨by rw[Q0 this.2.2.2.1];exact this.1,this.2⟩
     ·intro hge
      have:i=n:=by omega
      subst this
      rw[hWt]at hr'
      exact ⟨hd,hh,⟨B,V,T,L,len,_,vtsv,e,eB,hr',g2,g3⟩⟩
 ·intro h13 hb
  exact key h13 hb
end
end Go.Proofs
namespace Go.Proofs
open Go Go.Vc
open Tryz (prog)
def Zp:List Nat->Nat
 |[]=>0
 |x::xs=>if Zp xs=0/\x=0 then 0 else Zp xs+1
theorem Qhx:∀l:List Nat,Zp l<=l.length
 |[]=>by simp[Zp]
 |x::xs=>by
  have:=Qhx xs
  simp only[Zp,List.length_cons]
  split<;>omega
theorem Qfu:∀(l:List Nat),(∀j,j<l.length->l.getD j 0=0)->Zp l=0
 |[],_=>rfl
 |x::xs,h=>by
  have h0:x=0:=by simpa using h 0 (by simp)
  have h1:=Qfu xs (fun j hj=>by simpa using h (j+1) (by simp;omega))
  simp[Zp,h0,h1]
theorem Qhv:∀(l:List Nat) (i:Nat),(∀j,i<=j->j<l.length->l.getD j 0=0)->i<=l.length->(i=0\/l.getD (i-1) 0≠0)->Zp l=i
 |l,0,h,_,_=>Qfu l (fun j hj=>h j (by omega) hj)
 |[],i+1,_,h,_=>by simp at h
 |x::xs,1,h,_,h2=>by
  have h1:=Qfu xs (fun j hj=>by simpa using h (j+1) (by omega) (by simp;omega))
  rcases h2 with h2|h2
  ·omega
  ·simp only[Nat.sub_self,List.getD_cons_zero]at h2
   simp[Zp,h1,h2]
 |x::xs,i+2,h,hl,h2=>by
  have h1:=Qhv xs (i+1) (fun j hj hj2=>by simpa using h (j+1) (by omega) (by simp;omega)) (by simp at hl;omega) (by
   rcases h2 with h2|h2
   ·omega
   ·right
    have e:i+2-1=(i+1-1)+1:=by omega
    rw[e,List.getD_cons_succ]at h2
    exact h2)
  simp only[Zp,h1]
  rw[if_neg (by omega)]
def VtSl (H:Qf) (V:Nat) (v:Value) (l:List Nat):Prop:=(v= .slice none 0 0/\l=[])\/U32Sl H V v l
theorem VtSl.len {H:Qf} {V:Nat} {v:Value} {l:List Nat} (h:VtSl H V v l) {k:Value->Prop}:Y8 v k=k (.int .i64 l.length):=by
 rcases h with ⟨rfl,rfl⟩|⟨W,e,rfl,_⟩<;>rfl
theorem VtSl.idx {H:Qf} {V:Nat} {v:Value} {l:List Nat} (h:VtSl H V v l) {j:Nat} {x:Int} (hx:x=(j:Nat)) (hj:j<l.length):
  (∀k:Value->Prop,Yn 1 v (.int .i64 x) k=k (.pointer (some ⟨V,j,none⟩)))/\QaH H ⟨V,j,none⟩=some (.int .u32 (l.getD j 0:Nat)):=by
 subst hx
 rcases h with ⟨rfl,rfl⟩|⟨W,e,rfl,h2,h3,h4⟩
 ·simp at hj
 ·constructor
  ·intro k
   rw[QR (by omega) (by omega),Int.toNat_natCast,Nat.mul_one,Nat.zero_add]
  ·rw[Qu h2,u32c_get (by omega),<-h3]
   congr 2
   simp[List.getD,List.getElem?_take,hj]
theorem Raw.vtSl {H:Qf} {p:Nat} {S:BS} {F:Cut} {B V T:Nat} {L:List UInt8} {len head:Nat} {vtv vtsv:Value} {e eB:TypeId}
  (hr:Raw H p S F B V T L len head vtv vtsv e eB):VtSl H V vtv S.vt:=by
 rcases hr.hV with ⟨h1,h2,_⟩|⟨h,_⟩
 ·exact Or.inl ⟨h1,h2⟩
 ·exact Or.inr h
theorem st_vt_take {H:Qf} {p:Nat} {S:BS} {F:Cut} {B V T:Nat} {L:List UInt8} {len head:Nat} {vtv vtsv:Value} {e eB:TypeId}
  (hr:Raw H p S F B V T L len head vtv vtsv e eB) {i:Nat} {x:Int} (hx:x=(i:Nat)) (hi:i<=S.vt.length) {kp:Qf->Prop}
  (hk:∀H' vtv',Raw H' p {S with vt:=S.vt.take i} F B V T L len head vtv' vtsv e eB->kp H'):
  QbH 1 vtv none (some (.int .i64 x)) fun x50=>StK H 1 (.pointer (some ⟨p,2,none⟩)) x50 kp:=by
 subst hx
 rcases hr.hV with ⟨rfl,hn,hVp⟩|⟨⟨W,eW,rfl,hW,hW2,hW3⟩,n1,n2,n3⟩
 ·rw[hn]at hi
  have h0:i=0:=by simpa using hi
  subst h0
  rw[SlcK_hi (by omega) (by omega),ZQ hr.hp (by decide:2<9) (by simp) rfl]
  refine hk _ (.slice none 0 0) ?_
  refine ⟨QH hr.hp,?_,Or.inl ⟨rfl,by simp,hVp⟩,hr.hT.mono (Q0 (Ne.symm hr.pT)),hr.pB,hr.pT,hr.BT,?_,hr.hlen,hr.lt⟩
  ·rw[Q0 (Ne.symm hr.pB)];exact hr.hB
  ·intro b o hb
   have:=hr.hF b o hb
   exact ⟨by rw[Q0 this.2.1];exact this.1,this.2⟩
 ·rw[SlcK_hi (by omega) (by omega),Int.toNat_natCast,ZQ hr.hp (by decide:2<9) (by simp) rfl]
  refine hk _ (.slice (some ⟨V,0,none⟩) i W.length) ?_
  have hl:(S.vt.take i).length=i:=by simp;omega
  refine ⟨QH hr.hp,?_,Or.inr ⟨⟨W,eW,?_,?_,?_,?_⟩,n1,n2,n3⟩,hr.hT.mono (Q0 (Ne.symm hr.pT)),hr.pB,hr.pT,hr.BT,?_,hr.hlen,hr.lt⟩
  ·rw[Q0 (Ne.symm hr.pB)];exact hr.hB
  ·rw[hl]
  ·rw[Q0 n1];exact hW
  ·rw[hl,<-hW2,List.take_take,Nat.min_eq_left hi]
  ·rw[hl];omega
  ·intro b o hb
   have:=hr.hF b o hb
   exact ⟨by rw[Q0 this.2.1];exact this.1,this.2⟩
def QgV (l:List Nat) (oo:Nat) (bs:List UInt8) (o n:Nat):Bool:=
 decide (2*l.length=n)&&(List.range l.length).all fun i=>(decide (le2 bs (o+2*i)=0)&&decide (l.getD i 0=0))||decide ((le2 bs (o+2*i):Int)=(oo:Int)-(l.getD i 0:Nat))
theorem Qi6 {l:List Nat} {oo n o o':Nat} {bs bs':List UInt8} (h:∀i,i<n->byteN bs (o+i)=byteN bs' (o'+i)):QgV l oo bs o n=QgV l oo bs' o' n:=by
 unfold QgV
 by_cases hl:2*l.length=n
 ·rw[decide_eq_true hl,Bool.true_and,Bool.true_and]
  apply Bool.eq_iff_iff.2
  simp only[List.all_eq_true,List.mem_range]
  have e:∀i,i<l.length->le2 bs (o+2*i)=le2 bs' (o'+2*i):=by
   intro i hi
   unfold le2
   rw[h (2*i) (by omega),Nat.add_assoc o,h (2*i+1) (by omega)]
   rfl
  constructor
  ·intro hh i hi;rw[<-e i hi];exact hh i hi
  ·intro hh i hi;rw[e i hi];exact hh i hi
 ·rw[decide_eq_false hl,Bool.false_and,Bool.false_and]
section
variable {H:Qf} {R:Kn}
set_option maxHeartbeats 1000000 in
theorem go_vtableEqual {V B o n c oo:Nat} {v:Value} {l:List Nat} {bs:List UInt8} (hv:VtSl H V v l) (hb:U8s H B 0 bs) (hn:o+n<=bs.length) (hc:n<=c) (hbn:n<1073741824)
  (hoo:oo<1073741824) (hl:∀j,l.getD j 0<=oo) (hll:l.length<1073741824) (hR:R (.bool (QgV l oo bs o n)) H):
  FnS prog 361 #[v,.int .u32 (oo:Nat),bsl B o n c] H R:=by
 apply w361
 unfold s361
 rw[hv.len,YQ,bsl,Qbj,Qy]
 by_cases heq:2*l.length=n
 ·rw[wrap_i64 (by omega) (by omega),Q2 (by omega)]
  unfold QgV at hR
  rw[decide_eq_true heq,Bool.true_and]at hR
  refine QK (fun _ h=>h=H/\(List.range l.length).all (fun i=>(decide (le2 bs (o+2*i)=0)&&decide (l.getD i 0=0))||decide ((le2 bs (o+2*i):Int)=(oo:Int)-(l.getD i 0:Nat)))=true) ?_ ?_
  ·refine ⟨fun m vs h=>∃(i:Nat) (b:Value),vs=[.int .i64 (i:Int),b]/\i<=l.length/\m=l.length-i/\h=H/\
    ∀j,j<i->((decide (le2 bs (o+2*j)=0)&&decide (l.getD j 0=0))||decide ((le2 bs (o+2*j):Int)=(oo:Int)-(l.getD j 0:Nat)))=true,⟨l.length,0,_,rfl,by omega,by omega,rfl,by omega⟩,fun m=>?_⟩
   rintro x7 x6 h1 ⟨i,b,hx,hi,rfl,rfl,hall⟩
   cases hx
   rw[hv.len,Y2]
   by_cases hlt:i<l.length
   ·rw[Q1 (by omega)]
    obtain ⟨hidx,hcell⟩:=hv.idx (j:=i) rfl hlt
    have h2b:=le2_lt bs (o+2*i)
    have hlj:=hl i
    have again:((decide (le2 bs (o+2*i)=0)&&decide (l.getD i 0=0))||decide ((le2 bs (o+2*i):Int)=(oo:Int)-(l.getD i 0:Nat)))=true->
      Ql prog .add 3 (.int .i64 (i:Int)) (.int .i64 1) fun x21=>Yb (fun m vs h=>∃(i:Nat) (b:Value),vs=[.int .i64 (i:Int),b]/\i<=l.length/\m=l.length-i/\h=h1/\
       ∀j,j<i->((decide (le2 bs (o+2*j)=0)&&decide (l.getD j 0=0))||decide ((le2 bs (o+2*j):Int)=(oo:Int)-(l.getD j 0:Nat)))=true) (l.length-i) [x21,x6] h1:=by
     intro hh
     rw[Qx,wrap_i64 (by omega) (by omega)]
     refine ⟨l.length-(i+1),by omega,i+1,x6,rfl,by omega,rfl,rfl,?_⟩
     intro j hj
     by_cases hji:j<i
     ·exact hall j hji
     ·have:j=i:=by omega
      subst this;exact hh
    refine QK (fun vs h=>vs=[x6]/\h=h1/\((decide (le2 bs (o+2*i)=0)&&decide (l.getD i 0=0))||decide ((le2 bs (o+2*i):Int)=(oo:Int)-(l.getD i 0:Nat)))=true) ?_ ?_
    ·rw[YQ,Qx,YQ,wrap_i64 (n:=(i:Int)*2) (by omega) (by omega),wrap_i64 (n:=(i:Int)+1) (by omega) (by omega),wrap_i64 (by omega) (by omega)]
     rw[QfN (by omega) (by omega) (by omega)]
     have hne:¬c=((i:Int)*2).toNat:=by omega
     rw[if_neg hne]
     have e1:o+((i:Int)*2).toNat*1=o+2*i:=by omega
     rw[e1]
     refine QcQ hb (by omega) (by omega) ?_
     rw[Yt]
     by_cases hz:le2 bs (o+2*i)=0
     ·simp only[hz,show ((0:Nat):Int)=0 from rfl,decide_true,↓Yf,hidx,↓Qk hcell,↓Yt,↓Yq]
      apply Z2
      ·intro h0
       have h0':l.getD i 0=0:=by omega
       exact ⟨by first|rfl|trivial,by first|rfl|trivial,by rw[h0'];rfl⟩
      ·intro h0
       have h0':¬l.getD i 0=0:=by omega
       simp only[↓Qm,↓Yk,↓Qy]
       rw[YV (n:=(oo:Int)) (by omega) (by omega),YV (n:=((l.getD i 0:Nat):Int)) (by omega) (by omega),YV (n:=(oo:Int)-((l.getD i 0:Nat):Int)) (by omega) (by omega),YV (n:=(0:Int)) (by omega) (by omega)]
       apply Z2
       ·intro hne2
        have hf:(List.range l.length).all (fun i=>(decide (le2 bs (o+2*i)=0)&&decide (l.getD i 0=0))||decide ((le2 bs (o+2*i):Int)=(oo:Int)-(l.getD i 0:Nat)))=false:=by
         rw[List.all_eq_false]
         refine ⟨i,List.mem_range.2 hlt,?_⟩
         rw[hz]
         simp only[decide_true,Bool.true_and,Bool.or_eq_true,decide_eq_true_eq,not_or]
         exact ⟨h0',hne2⟩
        rw[hf]at hR
        exact hR
       ·intro heq2
        refine ⟨by first|rfl|trivial,by first|rfl|trivial,?_⟩
        simp only[Bool.or_eq_true,decide_eq_true_eq]
        right;omega
     ·have hz2:¬(le2 bs (o+2*i):Int)=0:=by omega
      simp only[decide_eq_false hz2,↓Zo,↓ZM,↓Qbv]
      simp only[↓Qm,hidx,↓Qk hcell,↓Yk,↓Qy]
      rw[YV (n:=(oo:Int)) (by omega) (by omega),YV (n:=((l.getD i 0:Nat):Int)) (by omega) (by omega),YV (n:=(oo:Int)-((l.getD i 0:Nat):Int)) (by omega) (by omega),YV (n:=(le2 bs (o+2*i):Int)) (by omega) (by omega)]
      apply Z2
      ·intro hne2
       have hf:(List.range l.length).all (fun i=>(decide (le2 bs (o+2*i)=0)&&decide (l.getD i 0=0))||decide ((le2 bs (o+2*i):Int)=(oo:Int)-(l.getD i 0:Nat)))=false:=by
        rw[List.all_eq_false]
        refine ⟨i,List.mem_range.2 hlt,?_⟩
        simp only[decide_eq_false hz,Bool.false_and,Bool.false_or,decide_eq_true_eq]
        exact hne2
       rw[hf]at hR
       exact hR
      ·intro heq2
       refine ⟨by first|rfl|trivial,by first|rfl|trivial,?_⟩
       simp only[decide_eq_false hz,Bool.false_and,Bool.false_or,decide_eq_true_eq]
       omega
    ·rintro x h8 ⟨hx,rfl,hh⟩
     cases hx
     exact again hh
   ·rw[Q2 (by omega)]
    refine ⟨rfl,?_⟩
    rw[List.all_eq_true]
    intro j hj
    exact hall j (by have:=List.mem_range.1 hj;omega)
  ·rintro x7 x6 h9 ⟨rfl,hh⟩
   rw[hh]at hR
   exact hR
 ·rw[Q1]
  ·unfold QgV at hR
   rw[decide_eq_false heq,Bool.false_and]at hR
   exact hR
  ·rw[wrap_i64 (by omega) (by omega)]
   omega
end
end Go.Proofs
namespace Go.Proofs
open Go Go.Vc
open Tryz (prog)
def QbO (f:Nat->Bool):List Nat->Nat
 |[]=>0
 |x::xs=>if QbO f xs≠0 then QbO f xs else if f x=true then x else 0
theorem findVt_snoc (f:Nat->Bool) (x:Nat) (hx:x≠0):∀l:List Nat,QbO f (l++[x])=if f x=true then x else QbO f l
 |[]=>by simp[QbO]
 |y::l=>by
  rw[List.cons_append,QbO,findVt_snoc f x hx l,QbO]
  by_cases h:f x=true
  ·simp[h,hx]
  ·simp[h]
theorem Qht (f:Nat->Bool):∀l:List Nat,QbO f l≠0->QbO f l∈l/\f (QbO f l)=true
 |[],h=>absurd rfl h
 |x::xs,h=>by
  rw[QbO]at h⊢
  by_cases h1:QbO f xs≠0
  ·rw[if_pos h1]
   have:=Qht f xs h1
   exact ⟨List.mem_cons_of_mem _ this.1,this.2⟩
  ·rw[if_neg h1]at h⊢
   by_cases h2:f x=true
   ·rw[if_pos h2];exact ⟨List.mem_cons_self,h2⟩
   ·rw[if_neg h2]at h;exact absurd rfl h
def ZH (oo:Nat):List Nat->BS->BS
 |[],S=>S
 |v::vs,S=>putN 2 (leB ((if v≠0 then oo-v else 0:Nat):Int) 2) (ZH oo vs S)
theorem Qhd {k:Nat} {xs:List UInt8} {S:BS}:(putN k xs S).buf.length=xs.length+padOf k S.buf.length+S.buf.length:=by
 simp[putN,place,prep];omega
theorem QdB (oo:Nat):∀(vs:List Nat) (S:BS),(ZH oo vs S).vt=S.vt/\(ZH oo vs S).vts=S.vts/\(ZH oo vs S).oe=S.oe/\(ZH oo vs S).nested=S.nested/\(ZH oo vs S).fin=S.fin
 |[],S=>⟨rfl,rfl,rfl,rfl,rfl⟩
 |v::vs,S=>QdB oo vs S
theorem wrEnt_len (oo:Nat):∀(vs:List Nat) (S:BS),S.buf.length<=(ZH oo vs S).buf.length/\(ZH oo vs S).buf.length<=S.buf.length+3*vs.length
 |[],S=>by simp[ZH]
 |v::vs,S=>by
  have:=wrEnt_len oo vs S
  have h2:=Zk (size:=2) (n:=(ZH oo vs S).buf.length) (by decide)
  rw[ZH,Qhd,Qi,List.length_cons]
  omega
def QcT (q:Nat) (x:Int) (S:BS):BS:={S with buf:=QaC S.buf q (leB x 4)}
def Qai (vt:List Nat) (oo:Nat) (buf:List UInt8) (o:Nat):Bool:=QgV vt oo buf (oo-o+4) (le2 buf (oo-o)-4)
def endObj (S:BS):BS:=
 let S1:=putOff 0 S
 let oo:=S1.buf.length
 let vt:=S1.vt.take (Zp S1.vt)
 let ex:=QbO (Qai vt oo S1.buf) S1.vts
 if ex=0 then
  let S2:=putN 2 (leB ((2*(vt.length+2):Nat):Int) 2) (putN 2 (leB ((oo-S.oe:Nat):Int) 2) (ZH oo vt {S1 with vt:=vt}))
  {QcT (S2.buf.length-oo) ((S2.buf.length-oo:Nat):Int) S2 with vts:=S2.vts++[S2.buf.length],vt:=[],nested:=false}
 else {QcT 0 ((ex:Int)-(oo:Int)) S1 with vt:=[],nested:=false}
def Qgx (S:BS):Prop:=∀o∈S.vts,0<o/\o<=S.buf.length/\4<=le2 S.buf (S.buf.length-o)/\le2 S.buf (S.buf.length-o)<=o
theorem Qh2 {L:List UInt8} {len head q:Nat} {buf:List UInt8} (h:(L.take len).drop head=buf) (hq:q<buf.length):byteN L (head+q)=byteN buf q:=by
 unfold byteN
 congr 1
 have hb:buf.length=(L.take len).length-head:=by rw[<-h,List.length_drop]
 have hlt:head+q<(L.take len).length:=by omega
 have h1:buf[q]?=(L.take len)[head+q]?:=by rw[<-h,List.getElem?_drop]
 have h2:(L.take len)[head+q]?=L[head+q]?:=by
  rw[List.getElem?_take,if_pos]
  simp at hlt;omega
 simp only[List.getD,h1,h2]
theorem le2_sub {L:List UInt8} {len head q:Nat} {buf:List UInt8} (h:(L.take len).drop head=buf) (hq:q+2<=buf.length):le2 L (head+q)=le2 buf q:=by
 unfold le2
 rw[Qh2 h (by omega),Nat.add_assoc,Qh2 h (by omega)]
theorem put_mid {L:List UInt8} {len head q:Nat} {xs buf:List UInt8} (hl:len<=L.length) (hh:head+buf.length=len) (hb:(L.take len).drop head=buf) (hx:q+xs.length<=buf.length):
  ((QaC L (head+q) xs).take len).drop head=QaC buf q xs:=by
 rw[QdY _ _ _ (by omega),QdY _ _ _ hx,<-hb]
 apply List.ext_getElem?
 intro i
 simp only[List.getElem?_drop,List.getElem?_take,List.getElem?_append,List.length_append,List.length_take]
 have m1:min (head+q) L.length=head+q:=by omega
 have m2:min q ((L.take len).drop head).length=q:=by simp;omega
 have m3:min (head+q) L.length=head+q:=by omega
 simp only[m1,List.length_drop,List.length_take]
 have m4:min q (min len L.length-head)=q:=by omega
 rw[m4]
 by_cases h1:head+i<len
 ·rw[if_pos h1]
  by_cases h2:head+i<head+q+xs.length
  ·have h2':i<q+xs.length:=by omega
   rw[if_pos h2,if_pos h2']
   by_cases h3:head+i<head+q
   ·have h3':i<q:=by omega
    rw[if_pos h3,if_pos h3',if_pos h3,if_pos h3',if_pos h1]
   ·have h3':¬i<q:=by omega
    rw[if_neg h3,if_neg h3']
    congr 1;omega
  ·have h2':¬i<q+xs.length:=by omega
   rw[if_neg h2,if_neg h2']
   have e:head+(q+xs.length+(i-(q+xs.length)))=head+i:=by omega
   rw[e,if_pos h1]
   congr 1;omega
 ·rw[if_neg h1]
  have h2':¬i<q+xs.length:=by omega
  rw[if_neg h2',if_neg (show ¬head+(q+xs.length+(i-(q+xs.length)))<len by omega)]
theorem Qhm (x:Int):leB (IntKind.u16.wrap x) 2=leB x 2:=by
 rw[leB_2,leB_2]
 have h:IntKind.u16.wrap x=x%65536:=by simp[IntKind.wrap,IntKind.bits,IntKind.signed]
 have e0:Zc (x%65536) 0=Zc x 0:=by
  unfold Zc
  congr 2
  first|(simp;done)|(simp;omega)
 have e1:Zc (x%65536) 1=Zc x 1:=by
  unfold Zc
  congr 2
  first|(simp;done)|(simp;omega)
 rw[h,e0,e1]
end Go.Proofs
namespace Go.Proofs
open Go Go.Vc
open Tryz (prog)
theorem app_vts {H:Qf} {p:Nat} {S:BS} {F:Cut} {B V T:Nat} {L:List UInt8} {len head:Nat} {vtv vtsv:Value} {e eB:TypeId}
  (hr:Raw H p S F B V T L len head vtv vtsv e eB) {x Y:Nat} {et:TypeId} {kp:Qf->Prop} (hY:H[Y]?=some (.cells #[.int .u32 (x:Int)] et (0,0))) (hYp:Y≠p/\Y≠B/\Y≠V/\Y≠T) (hlt:S.vts.length<1073741824)
  (hk:∀H' T' vtsv',Raw H' p {S with vts:=S.vts++[x]} F B V T' L len head vtv vtsv' e eB->kp H'):
  QdL H et 1 4 z68 vtsv (.slice (some ⟨Y,0,none⟩) 1 1) fun x190 h28=>StK h28 1 (.pointer (some ⟨p,4,none⟩)) x190 kp:=by
 obtain ⟨W,eW,rfl,hW,hW2,hW3⟩:=hr.hT
 obtain ⟨l1,l2,l3,l4⟩:=hr.V_lt
 have hnew:Qgk H (1*1) (.slice (some ⟨Y,0,none⟩) 1 1)=some [.int .u32 (x:Int)]:=by
  show Ze H ⟨Y,0,none⟩ 0 1=_
  rw[Q9 hY 1 (by simp)]
  rfl
 constructor
 ·intro hcap
  refine ⟨_,hnew,?_⟩
  have hW':H[T]?=some (.cells (W.map fun (n:Nat)=>Value.int .u32 (n:Int)).toArray eW (0,0)):=hW
  have hs:=QdU [.int .u32 (x:Int)] (o:=S.vts.length) (i:=0) hW' (by simp[Value.oneCell']) (by simp;omega) (by simp)
  have e1:(QaC (W.map fun (n:Nat)=>Value.int .u32 (n:Int)) (S.vts.length+0) [.int .u32 (x:Int)]).toArray=Qfq (W.set S.vts.length x):=by
   simp[QaC,Qfq,List.map_set]
  simp only[e1]at hs
  refine ⟨setB H T (.cells (Qfq (W.set S.vts.length x)) eW (0,0)),?_,?_⟩
  ·rw[Qf9,Nat.mul_one,Nat.zero_add]
   exact hs
  ·show StK _ 1 _ _ kp
   have hp:(setB H T (.cells (Qfq (W.set S.vts.length x)) eW (0,0)))[p]?=_:=(Q0 hr.pT).trans hr.hp
   rw[ZQ hp (by decide:4<9) (by simp) rfl]
   refine hk _ T (.slice (some ⟨T,0,none⟩) (S.vts.length+1) W.length) ?_
   refine ⟨QH hp,?_,?_,⟨W.set S.vts.length x,eW,?_,?_,?_,?_⟩,hr.pB,hr.pT,hr.BT,?_,hr.hlen,hr.lt⟩
   ·rw[Q0 (Ne.symm hr.pB),Q0 hr.BT];exact hr.hB
   ·rcases hr.hV with g|⟨g,g2,g3,g4⟩
    ·exact Or.inl g
    ·exact Or.inr ⟨g.mono (by rw[Q0 g2,Q0 g4]),g2,g3,g4⟩
   ·simp
   ·rw[Q0 (Ne.symm hr.pT),QH hW]
   ·simp only[List.length_append,List.length_cons,List.length_nil,Nat.zero_add]
    rw[List.take_set,List.take_add_one,hW2]
    have:W[S.vts.length]?.toList=[W[S.vts.length]'(by omega)]:=by rw[List.getElem?_eq_getElem (by omega)];rfl
    rw[this,List.set_append]
    simp
   ·simp;omega
   ·intro b o hb
    have:=hr.hF b o hb
    exact ⟨by rw[Q0 this.2.1,Q0 this.2.2.2.2];exact this.1,this.2⟩
 ·intro hcap
  refine ⟨by decide,by omega,(S.vts.map fun (n:Nat)=>Value.int .u32 (n:Int)),_,?_,hnew,?_⟩
  ·show Ze H ⟨T,0,none⟩ 0 (S.vts.length*1)=_
   rw[Nat.mul_one,Q9 hW _ (by rw[Qhc];omega)]
   simp only[Nat.zero_add,List.drop_zero,Qfq,Option.some.injEq]
   rw[<-List.map_take,hW2]
  ·intro c hc1 hc2
   have e1:(S.vts.map (fun (n:Nat)=>Value.int .u32 (n:Int))++[Value.int .u32 (x:Int)]).toArray++Builtin.zeroCells z68 (c-(S.vts.length+1))=Qfq (S.vts++[x]++List.replicate (c-(S.vts.length+1)) 0):=by
    rw[zero_u32 (z:=z68) rfl]
    simp[Qfq]
   rw[e1]
   have hp:(H.push (.cells (Qfq (S.vts++[x]++List.replicate (c-(S.vts.length+1)) 0)) et))[p]?=_:=YF hr.hp
   rw[ZQ hp (by decide:4<9) (by simp) rfl]
   refine hk _ H.size (.slice (some ⟨H.size,0,none⟩) (S.vts.length+1) c) ?_
   refine ⟨QH hp,?_,?_,⟨S.vts++[x]++List.replicate (c-(S.vts.length+1)) 0,et,?_,?_,?_,?_⟩,hr.pB,by omega,by omega,?_,hr.hlen,hr.lt⟩
   ·rw[Q0 (Ne.symm hr.pB)];exact YF hr.hB
   ·rcases hr.hV with g|⟨g,g2,g3,g4⟩
    ·exact Or.inl g
    ·refine Or.inr ⟨g.mono ?_,g2,g3,by omega⟩
     rw[Q0 g2,Array.getElem?_push,if_neg (by omega)]
   ·simp only[List.length_append,List.length_cons,List.length_nil,List.length_replicate];congr 1;omega
   ·rw[Q0 (by omega)];exact Qp
   ·simp only[List.length_append,List.length_cons,List.length_nil,Nat.zero_add]
    rw[List.take_append_of_le_length (by simp),List.take_of_length_le (by simp)]
   ·simp only[List.length_append,List.length_cons,List.length_nil,List.length_replicate];omega
   ·intro b o hb
    have:=hr.hF b o hb
    have hbl:=YD this.1
    exact ⟨by rw[Q0 this.2.1];exact YF this.1,this.2.1,this.2.2.1,this.2.2.2.1,by omega⟩
theorem QfB (S:BS):∀S1 oo vt ex,S1=putOff 0 S->oo=S1.buf.length->vt=S1.vt.take (Zp S1.vt)->ex=QbO (Qai vt oo S1.buf) S1.vts->
  endObj S=if ex=0 then
   {QcT ((putN 2 (leB ((2*(vt.length+2):Nat):Int) 2) (putN 2 (leB ((oo-S.oe:Nat):Int) 2) (ZH oo vt {S1 with vt:=vt}))).buf.length-oo)
     (((putN 2 (leB ((2*(vt.length+2):Nat):Int) 2) (putN 2 (leB ((oo-S.oe:Nat):Int) 2) (ZH oo vt {S1 with vt:=vt}))).buf.length-oo:Nat):Int)
     (putN 2 (leB ((2*(vt.length+2):Nat):Int) 2) (putN 2 (leB ((oo-S.oe:Nat):Int) 2) (ZH oo vt {S1 with vt:=vt}))) with
    vts:=S1.vts++[(putN 2 (leB ((2*(vt.length+2):Nat):Int) 2) (putN 2 (leB ((oo-S.oe:Nat):Int) 2) (ZH oo vt {S1 with vt:=vt}))).buf.length],vt:=[],nested:=false}
  else {QcT 0 ((ex:Int)-(oo:Int)) S1 with vt:=[],nested:=false}:=by
 rintro S1 oo vt ex rfl rfl rfl rfl
 unfold endObj
 simp only
 split
 ·have:=(QdB (putOff 0 S).buf.length ((putOff 0 S).vt.take (Zp (putOff 0 S).vt)) {(putOff 0 S) with vt:=(putOff 0 S).vt.take (Zp (putOff 0 S).vt)}).2.1
  congr 1
  show (ZH _ _ _).vts++_=_
  rw[this]
 ·rfl
section
variable {H:Qf} {p:Nat} {S:BS} {F:Cut} {r:Nat} (hB:Qc H p S F r) {R:Kn}
include hB
set_option maxHeartbeats 4000000 in
theorem Qfh (hnest:S.nested=true) (hlen:S.buf.length+4096<=536870912) (hvl:S.vt.length<1000) (hvt:∀j,S.vt.getD j 0<=S.buf.length) (hoe:S.oe<=S.buf.length) (hvts:S.vts.length<536870912)
  (hok:Qgx (putOff 0 S))
  (hR:∀H',Qc H' p {endObj S with nested:=true} F 0->R (.int .u32 ((putOff 0 S).buf.length:Nat)) H'):
  FnS prog 337 #[.pointer (some ⟨p,0,none⟩)] H R:=by
 have hS1l:S.buf.length+4<=(putOff 0 S).buf.length/\(putOff 0 S).buf.length<=S.buf.length+7:=by
  have:=Zk (size:=4) (n:=S.buf.length+0) (by decide)
  unfold putOff
  simp only[place,List.length_append,Qi,Qa5]
  omega
 have hk1:(putOff 0 S).vt=S.vt/\(putOff 0 S).vts=S.vts/\(putOff 0 S).oe=S.oe/\(putOff 0 S).nested=S.nested:=⟨rfl,rfl,rfl,rfl⟩
 obtain ⟨k1,k2,k3,k4⟩:=hk1
 apply w337
 unfold s337
 refine QdP hB (by omega) ?_
 intro H1 h1
 replace h1:=h1.room (Nat.zero_le _)
 have hend:=QfB S
 generalize hS1:putOff 0 S=S1 at *
 have hlt1:=h1.lt
 refine Yh h1 ?_
 generalize hoo:S1.buf.length=oo at *
 obtain ⟨hd,hh,⟨B,V,T,L,len,vtv,vtsv,e,eB,hr,g2,g3⟩⟩:=h1
 have htl:=Qhx S1.vt
 have hvl1:S1.vt.length<1000:=by rw[k1];exact hvl
 have hvts1:S1.vts.length<536870912:=by rw[k2];exact hvts
 have hvt1:∀j,S1.vt.getD j 0<=oo:=fun j=>by rw[k1];exact Nat.le_trans (hvt j) (by omega)
 simp only[↓Qd,↓Qh,↓Qk (QhK hr),↓(Raw.vtSl hr).len,↓Yk]
 rw[wrap_i64 (by omega) (by omega)]
 refine QK (fun vs h=>vs=[.int .i64 ((Zp S1.vt:Int)-1)]/\h=H1) ?_ ?_
 ·refine ⟨fun m vs h=>∃i:Nat,vs=[.int .i64 ((i:Int)-1)]/\i<=S1.vt.length/\m=i/\h=H1/\∀j,i<=j->j<S1.vt.length->S1.vt.getD j 0=0,⟨_,S1.vt.length,rfl,by omega,rfl,rfl,by omega⟩,fun m=>?_⟩
  rintro x5 h3 ⟨i,hx,hi,rfl,rfl,hall⟩
  cases hx
  rw[Qg2]
  by_cases h0:0<m
  ·obtain ⟨hidx,hcell⟩:=(Raw.vtSl hr).idx (j:=m-1) (x:=(m:Int)-1) (by omega) (by omega)
   have hge:(0:Int)<=(m:Int)-1:=by omega
   simp only[decide_eq_true hge,↓Yf,↓Qd,↓Qh,↓Qk (QhK hr),hidx,↓Qk hcell,↓Yt,↓Yq]
   apply Z2
   ·intro hz
    rw[Yk,wrap_i64 (by omega) (by omega)]
    refine ⟨m-1,by omega,m-1,?_,by omega,rfl,rfl,?_⟩
    ·congr 2;omega
    ·intro j hj hj2
     by_cases hjm:j=m-1
     ·subst hjm;omega
     ·exact hall j (by omega) hj2
   ·intro hz
    have ht:Zp S1.vt=m:=Qhv S1.vt m hall hi (Or.inr (by omega))
    simp only[ht,and_self]
  ·have hge:¬(0:Int)<=(m:Int)-1:=by omega
   simp only[decide_eq_false hge,↓Zo,↓ZM,↓Qbv]
   have hm0:m=0:=by omega
   subst hm0
   have ht:Zp S1.vt=0:=Qhv S1.vt 0 hall hi (Or.inl rfl)
   simp only[ht,and_self]
 ·rintro x5 h12 ⟨hx,rfl⟩
  cases hx
  simp only[↓Qd,↓Qh,↓Qk (QhK hr),↓Qx]
  rw[wrap_i64 (by omega) (by omega)]
  refine st_vt_take hr (i:=Zp S1.vt) (by omega) (by omega) ?_
  intro H2 vtv2 hr2
  generalize hvt2:S1.vt.take (Zp S1.vt)=vt at *
  have hvl2:vt.length<=1000:=by rw[<-hvt2,List.length_take];omega
  have hvtle:∀j,vt.getD j 0<=oo:=by
   intro j
   have h1:=hvt1 j
   rw[<-hvt2]
   by_cases hj:j<Zp S1.vt
   ·simp only[List.getD,List.getElem?_take,if_pos hj]at h1⊢;exact h1
   ·simp[List.getD,List.getElem?_take,hj]
  have hVt:VtSl H2 V vtv2 vt:=Raw.vtSl hr2
  refine QK (fun vs h=>(∃y,vs=[y,.int .u32 (QbO (Qai vt oo S1.buf) S1.vts:Nat)])/\h=H2) ?_ ?_
  ·obtain ⟨W,eW,rfl,hW,hW2,hW3⟩:=hr2.hT
   have hT:VtSl H2 T (.slice (some ⟨T,0,none⟩) S1.vts.length W.length) S1.vts:=Or.inr ⟨W,eW,rfl,hW,hW2,hW3⟩
   simp only[↓Qd,↓Qh,↓Qk (ld_vts hr2),↓Qbj,↓Yk]
   rw[wrap_i64 (by omega) (by omega)]
   refine ⟨fun m vs h=>∃i:Nat,vs=[.int .i64 ((i:Int)-1),.int .u32 0]/\i<=S1.vts.length/\m=i/\h=H2/\QbO (Qai vt oo S1.buf) (S1.vts.take i)=QbO (Qai vt oo S1.buf) S1.vts,⟨_,S1.vts.length,rfl,by omega,rfl,rfl,by rw[List.take_length]⟩,fun m=>?_⟩
   rintro x6 x4 h14 ⟨i,hx,hi,rfl,rfl,hfind⟩
   cases hx
   rw[Qg2]
   apply Z2
   ·intro hge
    obtain ⟨hidx,hcell⟩:=hT.idx (j:=m-1) (x:=(m:Int)-1) (by omega) (by omega)
    have hmem:S1.vts.getD (m-1) 0∈S1.vts:=by
     rw[List.getD_eq_getElem?_getD,List.getElem?_eq_getElem (by omega)]
     exact List.getElem_mem _
    obtain ⟨o1,o2,o3,o4⟩:=hok _ hmem
    generalize hov:S1.vts.getD (m-1) 0=o at *
    have htake:S1.vts.take m=S1.vts.take (m-1)++[o]:=by
     have:m=(m-1)+1:=by omega
     rw[this,List.take_add_one,Nat.add_sub_cancel]
     congr 1
     rw[List.getElem?_eq_getElem (by omega)]
     rw[List.getD_eq_getElem?_getD,List.getElem?_eq_getElem (by omega)]at hov
     simpa using hov
    rw[htake,findVt_snoc _ _ (by omega)]at hfind
    have hlo:=hr2.lt
    have hlL:=hr2.hlen
    rw[hoo]at o2 o3 o4
    simp only[↓Qd,↓Qh,↓Qk (ld_vts hr2),hidx,↓Qk hcell,↓Qk (YE hr2),↓Qbj,↓Qm,↓Yk]
    rw[wrap_i64 (n:=(o:Int)) (by omega) (by omega),wrap_i64 (n:=(len:Int)-(o:Int)) (by omega) (by omega)]
    rw[show (len:Int)-(o:Int)=((hd+(oo-o):Nat):Int) by omega]
    rw[Z0 hr2 (m:=hd+(oo-o)) (by omega)]
    refine QcQ (Qe8 hr2.hB) (by omega) (by omega) ?_
    have hl2:le2 L (hd+(oo-o))=le2 S1.buf (oo-o):=le2_sub g3 (by rw[hoo];omega)
    rw[hl2]
    have hl3:=le2_lt S1.buf (oo-o)
    simp only[↓Qd,↓Qh,↓Qk (YE hr2),↓Qk (QhK hr2),↓Qm,↓Qx]
    rw[wrap_i64 (n:=(le2 S1.buf (oo-o):Int)) (by omega) (by omega),wrap_i64 (n:=((hd+(oo-o):Nat):Int)+(le2 S1.buf (oo-o):Int)) (by omega) (by omega),wrap_i64 (n:=((hd+(oo-o):Nat):Int)+4) (by omega) (by omega)]
    obtain ⟨o',n',c',hslc,q1,q2,q4,q3⟩:∃o' n' c':Nat,(∀k:Value->Prop,QbH 1 (bsl B 0 len L.length) (some (.int .i64 (((hd+(oo-o):Nat):Int)+4))) (some (.int .i64 (((hd+(oo-o):Nat):Int)+(le2 S1.buf (oo-o):Int)))) k=k (bsl B o' n' c'))/\
      o'+n'<=L.length/\n'<=c'/\n'<1073741824/\QgV vt oo L o' n'=Qai vt oo S1.buf o:=by
     by_cases hfull:L.length=(((hd+(oo-o):Nat):Int)+4).toNat
     ·refine ⟨0,0,0,?_,by omega,by omega,by omega,?_⟩
      ·intro k
       rw[bsl,QfN (by omega) (by omega) (by omega),if_pos hfull]
       have e1:(((hd+(oo-o):Nat):Int)+(le2 S1.buf (oo-o):Int)).toNat-(((hd+(oo-o):Nat):Int)+4).toNat=0:=by omega
       rw[e1,show L.length-(((hd+(oo-o):Nat):Int)+4).toNat=0 by omega]
      ·unfold Qai
       rw[show le2 S1.buf (oo-o)-4=0 by omega]
       exact Qi6 (fun i hi=>by omega)
     ·refine ⟨hd+(oo-o)+4,le2 S1.buf (oo-o)-4,L.length-(hd+(oo-o)+4),?_,by omega,by omega,by omega,?_⟩
      ·intro k
       rw[bsl,QfN (by omega) (by omega) (by omega),if_neg hfull]
       have e1:(((hd+(oo-o):Nat):Int)+(le2 S1.buf (oo-o):Int)).toNat-(((hd+(oo-o):Nat):Int)+4).toNat=le2 S1.buf (oo-o)-4:=by omega
       have e2:(((hd+(oo-o):Nat):Int)+4).toNat=hd+(oo-o)+4:=by omega
       rw[e1,e2,Nat.zero_add,Nat.mul_one]
      ·unfold Qai
       refine Qi6 (fun i hi=>?_)
       rw[show hd+(oo-o)+4+i=hd+(oo-o+4+i) by omega]
       exact Qh2 g3 (by omega)
    rw[hslc]
    refine go_vtableEqual hVt (Qe8 hr2.hB) q1 q2 q4 (by omega) hvtle (by omega) ?_
    rw[q3]
    by_cases hs:Qai vt oo S1.buf o=true
    ·rw[hs,if_pos rfl]at hfind
     rw[hs,Qf3]
     exact ⟨⟨.int .i64 ((m:Int)-1),by rw[<-hfind]⟩,rfl⟩
    ·rw[if_neg hs]at hfind
     rw[Bool.not_eq_true]at hs
     rw[hs,Qbv,wrap_i64 (by omega) (by omega)]
     refine ⟨m-1,by omega,m-1,?_,by omega,rfl,rfl,hfind⟩
     congr 2;omega
   ·intro hge
    have hm0:m=0:=by omega
    subst hm0
    refine ⟨⟨.int .i64 ((0:Nat)-1:Int),?_⟩,rfl⟩
    rw[<-hfind]
    rfl
  ·rintro x6 x4 h17 ⟨⟨y,hx⟩,rfl⟩
   cases hx
   generalize hex:QbO (Qai vt oo S1.buf) S1.vts=ex at *
   have hexle:ex<=oo:=by
    by_cases h0:ex=0
    ·omega
    ·have:=Qht (Qai vt oo S1.buf) S1.vts (by rw[hex];exact h0)
     rw[hex]at this
     have:=(hok _ this.1).2.1
     omega
   have hlo:=hr2.lt
   have hlL:=hr2.hlen
   have hat:Qc h17 p {S1 with vt:=vt} F 0:=⟨hd,Nat.zero_le _,⟨B,V,T,L,len,vtv2,vtsv,e,eB,hr2,g2,g3⟩⟩
   have hend':=hend S1 oo vt ex rfl hoo.symm hvt2.symm hex.symm
   clear hend
   generalize hS2:({S1 with vt:=vt}:BS)=S2 at hend' hat
   have s2v:S2.vt=vt:=by rw[<-hS2]
   have s2o:S2.oe=S1.oe:=by rw[<-hS2]
   have s2b:S2.buf.length=oo:=by rw[<-hS2];exact hoo
   have s2n:S2.nested=true:=by rw[<-hS2];exact k4.trans hnest
   have s2s:S2.vts=S1.vts:=by rw[<-hS2]
   refine QK (fun _ h=>Qc h p {endObj S with nested:=true,vt:=vt} F 0) ?_ ?_
   ·rw[Yt]
    apply Z2
    ·intro h0
     have h0':ex=0:=by omega
     rw[if_pos h0']at hend'
     refine QK (fun _ h=>Qc h p (ZH oo vt S2) F 0) ?_ ?_
     ·simp only[↓Qd,↓Qh,↓Qk (QhK hr2),↓hVt.len,↓Yk]
      rw[wrap_i64 (by omega) (by omega)]
      refine ⟨fun m vs h=>∃i:Nat,vs=[.int .i64 ((i:Int)-1)]/\i<=vt.length/\m=i/\Qc h p (ZH oo (vt.drop i) S2) F 0,⟨_,vt.length,rfl,by omega,rfl,?_⟩,fun m=>?_⟩
      ·rw[List.drop_length];exact hat
      ·rintro x13 h18 ⟨i,hx,hi,rfl,hb⟩
       cases hx
       rw[Qg2]
       apply Z2
       ·intro hge
        obtain ⟨w1,w2,w3,w4,w5⟩:=QdB oo (vt.drop m) S2
        have hwl:=wrEnt_len oo (vt.drop m) S2
        rw[List.length_drop]at hwl
        have hvtm:=hvtle (m-1)
        have hdrop:vt.drop (m-1)=vt.getD (m-1) 0::vt.drop m:=by
         rw[List.drop_eq_getElem_cons (by omega),List.getD_eq_getElem?_getD,List.getElem?_eq_getElem (by omega)]
         rw[show m-1+1=m by omega];rfl
        have hb2:=hb
        obtain ⟨hd3,hh3,⟨B3,V3,T3,L3,len3,vtv3,vtsv3,e3,eB3,hr3,g5,g6⟩⟩:=hb
        have hV3:=Raw.vtSl hr3
        rw[w1,s2v]at hV3
        obtain ⟨hidx,hcell⟩:=hV3.idx (j:=m-1) (x:=(m:Int)-1) (by omega) (by omega)
        generalize vt.getD (m-1) 0=v at *
        refine QK (fun vs h=>vs=[.int .u32 ((if v≠0 then oo-v else 0:Nat):Int)]/\h=h18) ?_ ?_
        ·simp only[↓Qd,↓Qh,↓Qk (QhK hr3),hidx,↓Qk hcell,↓Qy,↓Yk]
         apply Z2
         ·intro hne
          rw[QV (by omega) (by omega),if_pos (by omega)]
          refine ⟨?_,by first|rfl|trivial⟩
          congr 2;omega
         ·intro hne
          rw[if_neg (by omega)]
          exact ⟨rfl,by first|rfl|trivial⟩
        ·rintro x14 h19 ⟨hx,rfl⟩
         cases hx
         rw[Qm]
         refine ZR hb2 (by omega) ?_
         intro h20 hb3
         rw[Qhm]at hb3
         rw[Yk,wrap_i64 (by omega) (by omega)]
         refine ⟨m-1,by omega,m-1,?_,by omega,rfl,?_⟩
         ·congr 2;omega
         ·rw[hdrop];exact hb3.room (Nat.zero_le _)
       ·intro hge
        have hm0:m=0:=by omega
        subst hm0
        exact hb
     ·intro x13 h21 hb
      obtain ⟨w1,w2,w3,w4,w5⟩:=QdB oo vt S2
      have hwl:=wrEnt_len oo vt S2
      have hb2:=hb
      obtain ⟨hd3,hh3,⟨B3,V3,T3,L3,len3,vtv3,vtsv3,e3,eB3,hr3,g5,g6⟩⟩:=hb
      have e1:(ZH oo vt S2).oe=S.oe:=by rw[w3,s2o,k3]
      simp only[↓Qd,↓Qh,↓Qk (ld_oe hr3),e1,↓Yk,↓Qm]
      rw[QV (by omega) (by omega),show (oo:Int)-(S.oe:Int)=((oo-S.oe:Nat):Int) by omega]
      refine ZR hb2 (by omega) ?_
      intro h22 hb3
      rw[Qhm]at hb3
      have hl3:(putN 2 (leB ((oo-S.oe:Nat):Int) 2) (ZH oo vt S2)).buf.length<=(ZH oo vt S2).buf.length+3:=by
       have:=Zk (size:=2) (n:=(ZH oo vt S2).buf.length) (by decide)
       rw[Qhd,Qi];omega
      have hl3':(ZH oo vt S2).buf.length<=(putN 2 (leB ((oo-S.oe:Nat):Int) 2) (ZH oo vt S2)).buf.length:=by rw[Qhd];omega
      have v3:(putN 2 (leB ((oo-S.oe:Nat):Int) 2) (ZH oo vt S2)).vt=vt:=by show (ZH oo vt S2).vt=vt;rw[w1,s2v]
      have v4:(putN 2 (leB ((oo-S.oe:Nat):Int) 2) (ZH oo vt S2)).vts=S1.vts:=by show (ZH oo vt S2).vts=S1.vts;rw[w2,s2s]
      have v5:(putN 2 (leB ((oo-S.oe:Nat):Int) 2) (ZH oo vt S2)).nested=true:=by show (ZH oo vt S2).nested=true;rw[w4,s2n]
      generalize putN 2 (leB ((oo-S.oe:Nat):Int) 2) (ZH oo vt S2)=S3 at *
      have hb4:=hb3
      obtain ⟨hd4,hh4,⟨B4,V4,T4,L4,len4,vtv4,vtsv4,e4,eB4,hr4,g7,g8⟩⟩:=hb3
      have hV4:=Raw.vtSl hr4
      rw[v3]at hV4
      simp only[↓Qd,↓Qh,↓Qk (QhK hr4),↓hV4.len,↓Qx,↓YQ,↓Qm]
      rw[wrap_i64 (n:=(vt.length:Int)+2) (by omega) (by omega),wrap_i64 (n:=((vt.length:Int)+2)*2) (by omega) (by omega),show ((vt.length:Int)+2)*2=((2*(vt.length+2):Nat):Int) by omega]
      refine ZR hb4 (by omega) ?_
      intro h23 hb5
      rw[Qhm]at hb5
      have hl5:(putN 2 (leB ((2*(vt.length+2):Nat):Int) 2) S3).buf.length<=S3.buf.length+3:=by
       have:=Zk (size:=2) (n:=S3.buf.length) (by decide)
       rw[Qhd,Qi];omega
      have hl5':S3.buf.length+2<=(putN 2 (leB ((2*(vt.length+2):Nat):Int) 2) S3).buf.length:=by rw[Qhd,Qi];omega
      have v6:(putN 2 (leB ((2*(vt.length+2):Nat):Int) 2) S3).vts=S1.vts:=v4
      have v7:(putN 2 (leB ((2*(vt.length+2):Nat):Int) 2) S3).nested=true:=v5
      have v8:(putN 2 (leB ((2*(vt.length+2):Nat):Int) 2) S3).vt=vt:=v3
      generalize putN 2 (leB ((2*(vt.length+2):Nat):Int) 2) S3=S5 at *
      have hb6:=hb5
      obtain ⟨hd6,hh6,⟨B6,V6,T6,L6,len6,vtv6,vtsv6,e6,eB6,hr6,g9,g10⟩⟩:=hb5
      have hl6:=hr6.lt
      have hL6:=hr6.hlen
      simp only[↓Qd,↓Qh,↓Qk (YE hr6),↓Qbj,↓Qm,↓Yk]
      rw[YV (n:=(len6:Int)) (by omega) (by omega),YV (n:=(oo:Int)) (by omega) (by omega),YV (n:=(len6:Int)-(oo:Int)) (by omega) (by omega)]
      rw[show (len6:Int)-(oo:Int)=((hd6+(S5.buf.length-oo):Nat):Int) by omega,Z0 hr6 (m:=hd6+(S5.buf.length-oo)) (by omega)]
      refine Yh hb6 ?_
      rw[Qb,Qm,Yk,YV (n:=(S5.buf.length:Int)) (by omega) (by omega),YV (n:=(S5.buf.length:Int)-(oo:Int)) (by omega) (by omega),show (S5.buf.length:Int)-(oo:Int)=((S5.buf.length-oo:Nat):Int) by omega]
      refine Qd4 hr6.hB (by omega) (by omega) ?_
      have hr7:=Raw.wr (S':=QcT (S5.buf.length-oo) ((S5.buf.length-oo:Nat):Int) S5) hr6 (Yi (leB ((S5.buf.length-oo:Nat):Int) 4) L6 (hd6+(S5.buf.length-oo))) rfl rfl rfl
      have hpl:(QcT (S5.buf.length-oo) ((S5.buf.length-oo:Nat):Int) S5).buf.length=S5.buf.length:=by simp[QcT,Yi]
      have g11:((QaC L6 (hd6+(S5.buf.length-oo)) (leB ((S5.buf.length-oo:Nat):Int) 4)).take len6).drop hd6=(QcT (S5.buf.length-oo) ((S5.buf.length-oo:Nat):Int) S5).buf:=
       put_mid hL6 g9 g10 (by rw[Qi];omega)
      have vp:(QcT (S5.buf.length-oo) ((S5.buf.length-oo:Nat):Int) S5).vts=S1.vts:=v6
      generalize hH7:wr h23 B6 eB6 (QaC L6 (hd6+(S5.buf.length-oo)) (leB ((S5.buf.length-oo:Nat):Int) 4))=H7 at *
      generalize hL7:QaC L6 (hd6+(S5.buf.length-oo)) (leB ((S5.buf.length-oo:Nat):Int) 4)=L7 at *
      have hb7:Qc H7 p (QcT (S5.buf.length-oo) ((S5.buf.length-oo:Nat):Int) S5) F 0:=⟨hd6,Nat.zero_le _,⟨B6,V6,T6,L7,len6,vtv6,vtsv6,e6,eB6,hr7,by rw[hpl];exact g9,g11⟩⟩
      simp only[↓Qd,↓Qh,↓Qk (ld_vts hr7)]
      refine Yh hb7 ?_
      rw[Qb,hpl]
      show Ya H7 _ 1 [Value.int .u32 0] _ _
      refine Q8 (QaB.push _ _).ext ?_
      have hr8:Raw (H7.push (.cells #[.int .u32 (S5.buf.length:Nat)] 68)) p (QcT (S5.buf.length-oo) ((S5.buf.length-oo:Nat):Int) S5) F B6 V6 T6 L7 len6 hd6 vtv6 vtsv6 e6 eB6:=by
       obtain ⟨l1,l2,l3,l4⟩:=hr7.V_lt
       refine hr7.frame ?_ ?_
       ·intro b hb
        rw[Array.getElem?_push,if_neg]
        rcases hb with rfl|rfl|rfl|rfl<;>omega
       ·intro b o hb
        have:=hr7.hF b o hb
        exact ⟨YF this.1,this.2⟩
      obtain ⟨l1,l2,l3,l4⟩:=hr7.V_lt
      refine app_vts hr8 (x:=S5.buf.length) (Y:=H7.size) Qp ⟨by omega,by omega,by omega,by omega⟩ (by rw[vp];omega) ?_
      intro H9 T9 vtsv9 hr9
      rw[hend']
      refine ⟨hd6,Nat.zero_le _,⟨B6,V6,T9,L7,len6,vtv6,vtsv9,e6,eB6,?_,by show hd6+(QcT _ _ S5).buf.length=len6;rw[hpl];exact g9,g11⟩⟩
      have e5:({QcT (S5.buf.length-oo) ((S5.buf.length-oo:Nat):Int) S5 with vts:=(QcT (S5.buf.length-oo) ((S5.buf.length-oo:Nat):Int) S5).vts++[S5.buf.length]}:BS)=
        {QcT (S5.buf.length-oo) ((S5.buf.length-oo:Nat):Int) S5 with vts:=S1.vts++[S5.buf.length],vt:=vt,nested:=true}:=by
       simp only[QcT,v6,v7,v8]
      rw[e5]at hr9
      exact hr9
    ·intro h0
     have h0':¬ex=0:=by omega
     rw[if_neg h0']at hend'
     simp only[↓Qd,↓Qh,↓Qk (YE hr2),↓Qbj,↓Qm,↓Yk]
     rw[YV (n:=(len:Int)) (by omega) (by omega),YV (n:=(oo:Int)) (by omega) (by omega),YV (n:=(len:Int)-(oo:Int)) (by omega) (by omega),QV (by omega) (by omega)]
     rw[show (len:Int)-(oo:Int)=((hd:Nat):Int) by omega,QaL hr2]
     have hr3:=Raw.setp (S':={S1 with vt:=vt}) (head':=hd) hr2 rfl rfl
     simp only[↓Qk (YE hr3),↓Qk (YC hr3)]
     rw[Z0 hr3 (m:=hd) (by omega),YV (n:=(ex:Int)) (by omega) (by omega),YV (n:=(ex:Int)-(oo:Int)) (by omega) (by omega)]
     refine Qd4 hr3.hB (by omega) (by omega) ?_
     rw[hend']
     have hr4:=Raw.wr (S':={QcT 0 ((ex:Int)-(oo:Int)) S1 with vt:=vt,nested:=true}) hr3 (Yi (leB ((ex:Int)-(oo:Int)) 4) L hd) (by
      show Qfc B len L.length _ vtv2 vtsv hd=_
      simp only[Qfc,QcT]
      rw[k4,hnest]) rfl rfl
     refine ⟨hd,Nat.zero_le _,⟨B,V,T,_,len,vtv2,vtsv,e,eB,hr4,?_,?_⟩⟩
     ·show hd+(QcT 0 _ S1).buf.length=len
      simp only[QcT,Yi];exact g2
     ·have:=put_mid (q:=0) (xs:=leB ((ex:Int)-(oo:Int)) 4) hlL g2 g3 (by rw[Qi];omega)
      exact this
   ·intro h32 hb
    obtain ⟨hd6,hh6,⟨B6,V6,T6,L6,len6,vtv6,vtsv6,e6,eB6,hr6,g9,g10⟩⟩:=hb
    simp only[↓Qd,↓Qh,↓Qk (QhK hr6)]
    refine st_vt_take hr6 (i:=0) rfl (Nat.zero_le _) ?_
    intro H' vtv' hr'
    refine hR H' ?_
    have ev:(endObj S).vt=[]:=by
     rw[hend'];split<;>rfl
    refine ⟨hd6,Nat.zero_le _,⟨B6,V6,T6,L6,len6,vtv',vtsv6,e6,eB6,?_,g9,g10⟩⟩
    have e7:({endObj S with nested:=true,vt:=vt.take 0}:BS)={endObj S with nested:=true}:=by
     rw[List.take_zero,<-ev]
    have hr'':Raw H' p ({endObj S with nested:=true,vt:=vt.take 0}:BS) F B6 V6 T6 L6 len6 hd6 vtv' vtsv6 e6 eB6:=hr'
    rw[e7]at hr''
    exact hr''
theorem Qgd (hnest:S.nested=true) (hlen:S.buf.length+4096<=536870912) (hvl:S.vt.length<1000) (hvt:∀j,S.vt.getD j 0<=S.buf.length) (hoe:S.oe<=S.buf.length) (hvts:S.vts.length<536870912)
  (hok:Qgx (putOff 0 S))
  (hR:∀H',Qc H' p (endObj S) F 0->R (.int .u32 ((putOff 0 S).buf.length:Nat)) H'):
  FnS prog 291 #[.pointer (some ⟨p,0,none⟩)] H R:=by
 apply w291
 unfold s291
 refine Qao hB hnest ?_
 refine Qfh hB hnest hlen hvl hvt hoe hvts hok ?_
 intro H1 h1
 simp only[↓Qd,↓Qh]
 refine QbN h1 ?_
 intro H2 h2
 refine hR H2 ?_
 have en:(endObj S).nested=false:=by
  rw[QfB S _ _ _ _ rfl rfl rfl rfl];split<;>rfl
 have e8:({({endObj S with nested:=true}:BS) with nested:=false}:BS)=endObj S:=by
  show ({endObj S with nested:=false}:BS)=endObj S
  rw[<-en]
 rw[e8]at h2
 exact h2
end
end Go.Proofs
namespace Go.Proofs
open Go Go.Vc
open Tryz (prog)
theorem wrap_inj {κ:IntKind} {x y:Nat} (hx:x<2^κ.bits) (hy:y<2^κ.bits) (h:κ.wrap (x:Int)=κ.wrap (y:Int)):x=y:=by
 have h1:=QcX κ x
 have h2:=QcX κ y
 rw[h]at h1
 have h3:=h1.symm.trans h2
 have e:(2^κ.bits:Int)=((2^κ.bits:Nat):Int):=by rw[Int.natCast_pow];rfl
 rw[e,<-Int.natCast_emod,<-Int.natCast_emod,Nat.mod_eq_of_lt hx,Nat.mod_eq_of_lt hy]at h3
 omega
theorem Qdj {κ:IntKind} {x:Int} {k:Nat} (hk:8*k<=κ.bits):leB (κ.wrap x) k=leB x k:=by
 unfold leB
 apply List.map_congr_left
 intro i hi
 have hi':=List.mem_range.1 hi
 unfold Zc
 congr 2
 have h1:=QcX κ x
 have e:∀z:Int,(z/2^(8*i))%256=((z%(2^κ.bits:Int))/2^(8*i))%256:=by
  intro z
  obtain ⟨m,hm⟩:∃m,κ.bits=8*i+8+m:=⟨κ.bits-(8*i+8),by omega⟩
  have hz:=Int.emod_add_mul_ediv z (2^κ.bits)
  have hpos:(0:Int)<2^(8*i):=Int.pow_pos (by decide)
  have hp:(2^κ.bits:Int)=2^(8*i)*(256*2^m):=by
   rw[hm,Int.pow_add,Int.pow_add,Int.mul_assoc];rfl
  rw[hp]at hz⊢
  have h3:z/2^(8*i)=z%(2^(8*i)*(256*2^m))/2^(8*i)+256*2^m*(z/(2^(8*i)*(256*2^m))):=by
   have h4:z=z%(2^(8*i)*(256*2^m))+2^(8*i)*(256*2^m*(z/(2^(8*i)*(256*2^m)))):=by
    have h0:=hz.symm
    rw[Int.mul_assoc (2^(8*i)) (256*2^m) _]at h0
    exact h0
   have h5:=Int.add_mul_ediv_left (z%(2^(8*i)*(256*2^m))) (256*2^m*(z/(2^(8*i)*(256*2^m)))) (Int.ne_of_gt hpos)
   rw[<-h5,<-h4]
  rw[h3,Int.mul_assoc,Int.add_mul_emod_self_left]
 rw[e (κ.wrap x),e x,h1]
def slotN (k x d o:Nat) (S:BS):BS:=if x=d then S else slot o (putN k (leB (x:Int) k) S)
def slotF (x d o:Nat) (S:BS):BS:=if (FloatKind.f32.format.order x d !=some .eq)=true then slot o (putN 4 (leB (x:Int) 4) S) else S
def slotOff (off o:Nat) (S:BS):BS:=if off=0 then S else slot o (putOff off S)
def slotStruct (off o:Nat) (S:BS):BS:=if off=0 then S else slot o S
theorem BinK_fne {P:Program} {t:TypeId} {q:FloatKind} {a b:Nat} {k:Value->Prop}:Ql P .neq t (.float q a) (.float q b) k=k (.bool (q.format.order a b !=some .eq)):=
 Qcz (by simp) (by simp) fun w=>by rw[binOp_float_cmp_neq];rfl
section
variable {H:Qf} {p:Nat} {S:BS} {F:Cut} {r:Nat} (hB:Qc H p S F r) {R:Kn}
include hB
theorem Qf6 {x:Nat} (hx:x<256) (hl:S.buf.length+16<=536870912) (hR:∀H',Qc H' p (putN 1 (leB (x:Int) 1) S) F 0->R (.tuple #[]) H'):FnS prog 113 #[.pointer (some ⟨p,0,none⟩),.int .u8 (x:Int)] H R:=by
 have e1:((UInt8.ofNat x).toNat:Int)=(x:Int):=by rw[UInt8.toNat_ofNat_of_lt' hx]
 have e2:leB (x:Int) 1=[UInt8.ofNat x]:=by
  rw[leB_1]
  unfold Zc
  congr 2
  simp;omega
 rw[<-e1]
 rw[e2]at hR
 exact Qcv hB hl (fun H' h=>hR H' (h.room (Nat.zero_le _)))
theorem QaQ {x d o:Nat} (hx:x<65536) (hd:d<65536) (ho:o<S.vt.length) (hl:S.buf.length+16<=536870912) (hR:∀H',Qc H' p (slotN 2 x d o S) F 0->R (.tuple #[]) H'):
  FnS prog 281 #[.pointer (some ⟨p,0,none⟩),.int .i64 (o:Nat),.int .i16 (IntKind.i16.wrap (x:Int)),.int .i16 (IntKind.i16.wrap (d:Int))] H R:=by
 apply w281
 unfold s281
 rw[Qy]
 unfold slotN at hR
 by_cases h:x=d
 ·subst h
  rw[Q2 (by simp)]
  rw[if_pos rfl]at hR
  exact hR H (hB.room (Nat.zero_le _))
 ·rw[Q1]
  ·rw[if_neg h]at hR
   refine Qc4 hB hl ?_
   intro H1 h1
   rw[Qdj (by decide)]at h1
   refine YL h1 ho ?_
   intro H2 h2
   exact hR H2 (h2.room (Nat.zero_le _))
  ·intro hh
   exact h (wrap_inj (κ:=.i16) hx hd hh)
theorem QdK {x d o:Nat} (hx:x<256) (hd:d<256) (ho:o<S.vt.length) (hl:S.buf.length+16<=536870912) (hR:∀H',Qc H' p (slotN 1 x d o S) F 0->R (.tuple #[]) H'):
  FnS prog 290 #[.pointer (some ⟨p,0,none⟩),.int .i64 (o:Nat),.int .i8 (IntKind.i8.wrap (x:Int)),.int .i8 (IntKind.i8.wrap (d:Int))] H R:=by
 apply w290
 unfold s290
 rw[Qy]
 unfold slotN at hR
 by_cases h:x=d
 ·subst h
  rw[Q2 (by simp)]
  rw[if_pos rfl]at hR
  exact hR H (hB.room (Nat.zero_le _))
 ·rw[Q1]
  ·rw[if_neg h]at hR
   refine Qct hB hl ?_
   intro H1 h1
   rw[Qdj (by decide)]at h1
   refine YL h1 ho ?_
   intro H2 h2
   exact hR H2 (h2.room (Nat.zero_le _))
  ·intro hh
   exact h (wrap_inj (κ:=.i8) hx hd hh)
theorem QaK {x d o:Nat} (hx:x<4294967296) (hd:d<4294967296) (ho:o<S.vt.length) (hl:S.buf.length+16<=536870912) (hR:∀H',Qc H' p (slotN 4 x d o S) F 0->R (.tuple #[]) H'):
  FnS prog 285 #[.pointer (some ⟨p,0,none⟩),.int .i64 (o:Nat),.int .i32 (IntKind.i32.wrap (x:Int)),.int .i32 (IntKind.i32.wrap (d:Int))] H R:=by
 apply w285
 unfold s285
 rw[Qy]
 unfold slotN at hR
 by_cases h:x=d
 ·subst h
  rw[Q2 (by simp)]
  rw[if_pos rfl]at hR
  exact hR H (hB.room (Nat.zero_le _))
 ·rw[Q1]
  ·rw[if_neg h]at hR
   refine Qf4 hB hl ?_
   intro H1 h1
   rw[Qdj (by decide)]at h1
   refine YL h1 ho ?_
   intro H2 h2
   exact hR H2 (h2.room (Nat.zero_le _))
  ·intro hh
   exact h (wrap_inj (κ:=.i32) hx hd hh)
theorem ZE {x d o:Nat} (hx:x<18446744073709551616) (hd:d<18446744073709551616) (ho:o<S.vt.length) (hl:S.buf.length+16<=536870912) (hR:∀H',Qc H' p (slotN 8 x d o S) F 0->R (.tuple #[]) H'):
  FnS prog 287 #[.pointer (some ⟨p,0,none⟩),.int .i64 (o:Nat),.int .i64 (IntKind.i64.wrap (x:Int)),.int .i64 (IntKind.i64.wrap (d:Int))] H R:=by
 apply w287
 unfold s287
 rw[Qy]
 unfold slotN at hR
 by_cases h:x=d
 ·subst h
  rw[Q2 (by simp)]
  rw[if_pos rfl]at hR
  exact hR H (hB.room (Nat.zero_le _))
 ·rw[Q1]
  ·rw[if_neg h]at hR
   refine Qcf hB hl ?_
   intro H1 h1
   rw[Qdj (by decide)]at h1
   refine YL h1 ho ?_
   intro H2 h2
   exact hR H2 (h2.room (Nat.zero_le _))
  ·intro hh
   exact h (wrap_inj (κ:=.i64) hx hd hh)
theorem QaE {x d o:Nat} (hx:x<4294967296) (hd:d<4294967296) (ho:o<S.vt.length) (hl:S.buf.length+16<=536870912) (hR:∀H',Qc H' p (slotN 4 x d o S) F 0->R (.tuple #[]) H'):
  FnS prog 286 #[.pointer (some ⟨p,0,none⟩),.int .i64 (o:Nat),.int .u32 (x:Int),.int .u32 (d:Int)] H R:=by
 apply w286
 unfold s286
 rw[Qy]
 unfold slotN at hR
 by_cases h:x=d
 ·subst h
  rw[Q2 (by simp)]
  rw[if_pos rfl]at hR
  exact hR H (hB.room (Nat.zero_le _))
 ·rw[Q1]
  ·rw[if_neg h]at hR
   refine QbT hB hl ?_
   intro H1 h1
   skip
   refine YL h1 ho ?_
   intro H2 h2
   exact hR H2 (h2.room (Nat.zero_le _))
  ·intro hh
   omega
theorem Yx {x d o:Nat} (hx:x<18446744073709551616) (hd:d<18446744073709551616) (ho:o<S.vt.length) (hl:S.buf.length+16<=536870912) (hR:∀H',Qc H' p (slotN 8 x d o S) F 0->R (.tuple #[]) H'):
  FnS prog 288 #[.pointer (some ⟨p,0,none⟩),.int .i64 (o:Nat),.int .u64 (x:Int),.int .u64 (d:Int)] H R:=by
 apply w288
 unfold s288
 rw[Qy]
 unfold slotN at hR
 by_cases h:x=d
 ·subst h
  rw[Q2 (by simp)]
  rw[if_pos rfl]at hR
  exact hR H (hB.room (Nat.zero_le _))
 ·rw[Q1]
  ·rw[if_neg h]at hR
   refine QbQ hB hl ?_
   intro H1 h1
   skip
   refine YL h1 ho ?_
   intro H2 h2
   exact hR H2 (h2.room (Nat.zero_le _))
  ·intro hh
   omega
theorem Qdd {x d o:Nat} (hx:x<65536) (hd:d<65536) (ho:o<S.vt.length) (hl:S.buf.length+16<=536870912) (hR:∀H',Qc H' p (slotN 2 x d o S) F 0->R (.tuple #[]) H'):
  FnS prog 328 #[.pointer (some ⟨p,0,none⟩),.int .i64 (o:Nat),.int .u16 (x:Int),.int .u16 (d:Int)] H R:=by
 apply w328
 unfold s328
 rw[Qy]
 unfold slotN at hR
 by_cases h:x=d
 ·subst h
  rw[Q2 (by simp)]
  rw[if_pos rfl]at hR
  exact hR H (hB.room (Nat.zero_le _))
 ·rw[Q1]
  ·rw[if_neg h]at hR
   refine QeB hB hl ?_
   intro H1 h1
   skip
   refine YL h1 ho ?_
   intro H2 h2
   exact hR H2 (h2.room (Nat.zero_le _))
  ·intro hh
   omega
theorem Y5 {x d o:Nat} (hx:x<256) (hd:d<256) (ho:o<S.vt.length) (hl:S.buf.length+16<=536870912) (hR:∀H',Qc H' p (slotN 1 x d o S) F 0->R (.tuple #[]) H'):
  FnS prog 283 #[.pointer (some ⟨p,0,none⟩),.int .i64 (o:Nat),.int .u8 (x:Int),.int .u8 (d:Int)] H R:=by
 apply w283
 unfold s283
 rw[Qy]
 unfold slotN at hR
 by_cases h:x=d
 ·subst h
  rw[Q2 (by simp)]
  rw[if_pos rfl]at hR
  exact hR H (hB.room (Nat.zero_le _))
 ·rw[Q1 (by omega)]
  rw[if_neg h]at hR
  refine Qf6 hB hx hl ?_
  intro H1 h1
  refine YL h1 ho ?_
  intro H2 h2
  exact hR H2 (h2.room (Nat.zero_le _))
theorem QdN {x:Bool} {o:Nat} (ho:o<S.vt.length) (hl:S.buf.length+16<=536870912) (hR:∀H',Qc H' p (slotN 1 (if x then 1 else 0) 0 o S) F 0->R (.tuple #[]) H'):
  FnS prog 284 #[.pointer (some ⟨p,0,none⟩),.int .i64 (o:Nat),.bool x,.bool false] H R:=by
 apply w284
 unfold s284
 refine QK (fun vs h=>vs=[.int .u8 ((if x then 1 else 0:Nat):Int)]/\h=H) ?_ ?_
 ·cases x
  ·exact ⟨rfl,rfl⟩
  ·exact ⟨rfl,rfl⟩
 ·rintro v h ⟨hv,rfl⟩
  cases hv
  refine QK (fun vs h'=>vs=[.int .u8 ((0:Nat):Int)]/\h'=h) ?_ ?_
  ·exact ⟨rfl,rfl⟩
  ·rintro v h' ⟨hv,rfl⟩
   cases hv
   refine Y5 hB (by split<;>decide) (by decide) ho hl ?_
   intro H1 h1
   exact hR H1 h1
theorem Zw {x d o:Nat} (ho:o<S.vt.length) (hl:S.buf.length+16<=536870912) (hR:∀H',Qc H' p (slotF x d o S) F 0->R (.tuple #[]) H'):
  FnS prog 289 #[.pointer (some ⟨p,0,none⟩),.int .i64 (o:Nat),.float .f32 x,.float .f32 d] H R:=by
 apply w289
 unfold s289
 rw[BinK_fne]
 unfold slotF at hR
 apply ZF
 ·intro h
  rw[if_pos h]at hR
  refine Qbt hB hl ?_
  intro H1 h1
  refine YL h1 ho ?_
  intro H2 h2
  exact hR H2 (h2.room (Nat.zero_le _))
 ·intro h
  rw[if_neg (by rw[h];decide)]at hR
  exact hR H (hB.room (Nat.zero_le _))
theorem Qo {off o:Nat} (hoff:off<=S.buf.length) (ho:o<S.vt.length) (hl:S.buf.length+16<=536870912) (hR:∀H',Qc H' p (slotOff off o S) F 0->R (.tuple #[]) H'):
  FnS prog 282 #[.pointer (some ⟨p,0,none⟩),.int .i64 (o:Nat),.int .u32 (off:Int),.int .u32 0] H R:=by
 apply w282
 unfold s282
 rw[Qy]
 unfold slotOff at hR
 by_cases h:off=0
 ·subst h
  rw[Q2 (by simp)]
  rw[if_pos rfl]at hR
  exact hR H (hB.room (Nat.zero_le _))
 ·rw[Q1 (by omega)]
  rw[if_neg h]at hR
  refine ZL hB hl hoff ?_
  intro H1 h1
  refine YL h1 ho ?_
  intro H2 h2
  exact hR H2 (h2.room (Nat.zero_le _))
theorem Qdh {off o:Nat} (hn:S.nested=true) (hoff:off=0\/off=S.buf.length) (ho:o<S.vt.length) (hR:∀H',Qc H' p (slotStruct off o S) F 0->R (.tuple #[]) H'):
  FnS prog 280 #[.pointer (some ⟨p,0,none⟩),.int .i64 (o:Nat),.int .u32 (off:Int),.int .u32 0] H R:=by
 apply w280
 unfold s280
 rw[Qy]
 unfold slotStruct at hR
 by_cases h:off=0
 ·subst h
  rw[Q2 (by simp)]
  rw[if_pos rfl]at hR
  exact hR H (hB.room (Nat.zero_le _))
 ·rw[Q1 (by omega)]
  rw[if_neg h]at hR
  have ho2:off=S.buf.length:=by omega
  refine Qao hB hn ?_
  refine QK (fun _ h=>h=H) ?_ ?_
  ·refine Yh hB ?_
   rw[Qy,Q2 (by omega)]
  ·rintro h2 rfl
   refine YL hB ho ?_
   intro H2 h2
   exact hR H2 (h2.room (Nat.zero_le _))
def finish (off:Nat) (S:BS):BS:={putOff off (prep S.min 4 S) with fin:=true}
theorem QhH {off k:Nat} (hn:S.nested=false) (hm:S.min=2^k) (hk:k<=3) (ho:off<=S.buf.length) (hl:S.buf.length+64<=536870912) (hR:∀H',Qc H' p (finish off S) F 0->R (.tuple #[]) H'):
  FnS prog 19 #[.pointer (some ⟨p,0,none⟩),.int .u32 (off:Int)] H R:=by
 have hB':=hB
 obtain ⟨hd,h1,⟨B,V,T,L,len,vtv,vtsv,e,eB,hr,h2,h3⟩⟩:=hB'
 apply w19
 unfold s19
 refine YR hB hn ?_
 simp only[↓Qd,↓Qh,↓Qk (ld_min hr)]
 refine QX (size:=S.min) (add:=4) (k:=k) hB hm hk rfl (by omega) ?_
 intro H1 g1
 have hpl:padOf S.min (S.buf.length+4)<8+1:=by
  have:padOf S.min (S.buf.length+4)<S.min:=Zk (by rw[hm];exact Nat.two_pow_pos k)
  have:S.min<=8:=by rw[hm];exact Nat.pow_le_pow_right (by decide) hk
  omega
 refine ZL g1 (by rw[Qa5];omega) (by rw[Qa5];omega) ?_
 intro H2 g2
 refine st_fin_at g2 ?_
 intro H3 g3
 exact hR H3 (g3.room (Nat.zero_le _))
theorem Qev (hf:S.fin=true) (h0:0<S.buf.length) (hR:∀B hd c,S.buf.length<=c->U8s H B hd S.buf->R (bsl B hd S.buf.length c) H):
  FnS prog 22 #[.pointer (some ⟨p,0,none⟩)] H R:=by
 have hB':=hB
 obtain ⟨hd,h1,⟨B,V,T,L,len,vtv,vtsv,e,eB,hr,h2,h3⟩⟩:=hB'
 have hL:=hr.hlen
 apply w22
 unfold s22
 refine QdZ hB hf ?_
 simp only[↓Qd,↓Qh,↓Qk (YE hr)]
 apply w166
 unfold s166
 simp only[↓Qd,↓Qh,↓Qk (YC hr),Qb]
 rw[Z0 hr (m:=hd) (by omega),show len-hd=S.buf.length by omega]
 refine hR B hd _ (by omega) ?_
 intro i hi
 rw[Qe8 hr.hB |>.at (Nat.zero_add _).symm (by omega)]
 rw[Qh2 h3 hi]
end
theorem Qg1 {z:Array Value} {k:Value->Prop}:QQ z.toList [] k=k (.agg z):=by simp[QQ,Z7]
def Qcp:BS:=⟨[],1,[],0,[],false,false⟩
theorem go_NewBuilder {H:Qf} {F:Cut} {R:Kn} {n:Nat} (hn:n<65536) (hF:∀b o,F b=some o->H[b]?=some o)
  (hR:∀H',Qc H' H.size Qcp F 0->QaB H H'->R (.pointer (some ⟨H.size,0,none⟩)) H'):
  FnS prog 18 #[.int .i64 (n:Nat)] H R:=by
 apply w18
 unfold s18
 refine QK (fun vs h=>vs=[.int .i64 (n:Nat)]/\h=H) ?_ ?_
 ·rw[Qhh]
  apply Z2
  ·intro h
   have:n=0:=by omega
   subst this
   exact ⟨rfl,rfl⟩
  ·intro h
   exact ⟨rfl,rfl⟩
 ·rintro x h ⟨hx,rfl⟩
  cases hx
  rw[Qg1]
  have hp1:(h.push (.cells z134 134))[h.size]?=_:=Qp
  have hs1:(h.push (.cells z134 134)).size=h.size+1:=size_push
  have hk1:QaB h (h.push (.cells z134 134)):=QaB.push _ _
  rw[show Value.cells (.agg z134)=z134 from rfl,QB]
  generalize h.push (.cells z134 134)=H1 at *
  refine ⟨by omega,by omega,by omega,by omega,?_⟩
  simp only[Int.toNat_natCast]
  rw[mk_u8 (z:=z5) rfl]
  have hp2:(H1.push (.cells (u8c (List.replicate n 0)) 5))[h.size]?=_:=YF hp1
  have hq2:(H1.push (.cells (u8c (List.replicate n 0)) 5))[H1.size]?=_:=Qp
  have hs2:(H1.push (.cells (u8c (List.replicate n 0)) 5)).size=H1.size+1:=size_push
  have hk2:=hk1.trans (QaB.push H1 (.cells (u8c (List.replicate n 0)) 5))
  generalize H1.push (.cells (u8c (List.replicate n 0)) 5)=H2 at *
  simp only[↓Qd,↓Qh]
  rw[ZQ hp2 (by decide:0<9) (by simp) rfl,Qm,QV (by omega) (by omega)]
  rw[ZQ (QH hp2) (by decide:5<9) (by simp) rfl,ZW]
  rw[ZQ (QH hp2) (by decide:1<9) (by simp) rfl,ZW]
  have hk3:=hk2.setB (Nat.le_refl _) (.cells (((z134.setIfInBounds 0 (bsl H1.size 0 n n)).setIfInBounds 5 (.int .u32 (n:Nat))).setIfInBounds 1 (.int .i64 1)) 134 (0,0))
  have hp3:=QH (o:=.cells (((z134.setIfInBounds 0 (bsl H1.size 0 n n)).setIfInBounds 5 (.int .u32 (n:Nat))).setIfInBounds 1 (.int .i64 1)) 134 (0,0)) hp2
  have hq3:=(Q0 (H:=H2) (b:=h.size) (b':=H1.size) (o:=.cells (((z134.setIfInBounds 0 (bsl H1.size 0 n n)).setIfInBounds 5 (.int .u32 (n:Nat))).setIfInBounds 1 (.int .i64 1)) 134 (0,0)) (by omega)).trans hq2
  have hs3:=size_setB (H:=H2) (b:=h.size) (o:=.cells (((z134.setIfInBounds 0 (bsl H1.size 0 n n)).setIfInBounds 5 (.int .u32 (n:Nat))).setIfInBounds 1 (.int .i64 1)) 134 (0,0))
  generalize setB H2 h.size (.cells (((z134.setIfInBounds 0 (bsl H1.size 0 n n)).setIfInBounds 5 (.int .u32 (n:Nat))).setIfInBounds 1 (.int .i64 1)) 134 (0,0))=H3 at *
  refine ⟨by decide,by decide,by decide,by decide,?_⟩
  have e16:(16:Int).toNat=16:=rfl
  rw[e16,mk_u32 (z:=z68) rfl]
  have hp4:(H3.push (.cells (Qfq (List.replicate 16 0)) 68))[h.size]?=_:=YF hp3
  have hq4:(H3.push (.cells (Qfq (List.replicate 16 0)) 68))[H1.size]?=_:=YF hq3
  have ht4:(H3.push (.cells (Qfq (List.replicate 16 0)) 68))[H3.size]?=_:=Qp
  have hk4:=hk3.trans (QaB.push H3 (.cells (Qfq (List.replicate 16 0)) 68))
  generalize H3.push (.cells (Qfq (List.replicate 16 0)) 68)=H4 at *
  show StK H4 1 (.pointer (some ⟨h.size,4,none⟩)) (.slice (some ⟨H3.size,0,none⟩) 0 16) _
  rw[ZQ hp4 (by decide:4<9) (by simp) rfl]
  refine hR _ ?_ (hk4.setB (Nat.le_refl _) _)
  refine ⟨n,Nat.zero_le _,⟨H1.size,h.size,H3.size,List.replicate n 0,n,.slice none 0 0,.slice (some ⟨H3.size,0,none⟩) 0 16,134,5,?_,by simp[Qcp],by simp[Qcp]⟩⟩
  refine ⟨?_,?_,Or.inl ⟨rfl,rfl,rfl⟩,⟨List.replicate 16 0,68,by simp[Qcp],?_,by simp[Qcp],by simp[Qcp]⟩,by omega,by omega,by omega,?_,by simp,by omega⟩
  ·rw[QH hp4,List.length_replicate];rfl
  ·rw[Q0 (by omega)];exact hq4
  ·rw[Q0 (by omega)];exact ht4
  ·intro b o hb
   have h1:=hF b o hb
   have h2:=YD h1
   exact ⟨by rw[Q0 (by omega)];exact hk4 b o h1,by omega,by omega,by omega,by omega⟩
end Go.Proofs
namespace Go.Proofs
open Go Go.Vc
open Tryz (prog)
theorem QbS {x bs:List UInt8} {i:Nat}:byteN (x++bs) (x.length+i)=byteN bs i:=by
 unfold byteN
 congr 1
 simp[List.getD,List.getElem?_append_right]
theorem byteN_append' {x bs:List UInt8} {i j:Nat} (h:j=x.length+i):byteN (x++bs) j=byteN bs i:=by subst h;exact QbS
theorem YP {x bs:List UInt8} {i:Nat}:le2 (x++bs) (x.length+i)=le2 bs i:=by
 unfold le2;rw[QbS,Nat.add_assoc,QbS]
theorem Qav {x bs:List UInt8} {i:Nat}:le4 (x++bs) (x.length+i)=le4 bs i:=by
 unfold le4;rw[YP,Nat.add_assoc,YP]
theorem le8_append {x bs:List UInt8} {i:Nat}:le8 (x++bs) (x.length+i)=le8 bs i:=by
 unfold le8;rw[Qav,Nat.add_assoc,Qav]
theorem Qgx.ext {S S':BS} (h:Qgx S) (hv:S'.vts=S.vts) {x:List UInt8} (hb:S'.buf=x++S.buf):Qgx S':=by
 intro o ho
 rw[hv]at ho
 obtain ⟨h1,h2,h3,h4⟩:=h o ho
 have e:S'.buf.length-o=x.length+(S.buf.length-o):=by rw[hb,List.length_append];omega
 have e2:le2 S'.buf (S'.buf.length-o)=le2 S.buf (S.buf.length-o):=by rw[e,hb,YP]
 rw[e2]
 refine ⟨h1,?_,h3,h4⟩
 rw[hb,List.length_append];omega
def P2 (n:Nat):Prop:=∃k,k<=3/\n=2^k
theorem P2.max {a b:Nat} (ha:P2 a) (hb:P2 b):P2 (Nat.max a b):=by
 rcases Nat.le_total a b with h|h
 ·rw[show Nat.max a b=b from Nat.max_eq_right h];exact hb
 ·rw[show Nat.max a b=a from Nat.max_eq_left h];exact ha
theorem P2.pos {a:Nat} (ha:P2 a):0<a:=by obtain ⟨k,_,rfl⟩:=ha;exact Nat.two_pow_pos k
theorem P2.le {a:Nat} (ha:P2 a):a<=8:=by obtain ⟨k,hk,rfl⟩:=ha;exact Nat.pow_le_pow_right (by decide) hk
theorem P2_1:P2 1:=⟨0,by decide,rfl⟩
theorem P2_2:P2 2:=⟨1,by decide,rfl⟩
theorem P2_4:P2 4:=⟨2,by decide,rfl⟩
theorem Qfj:P2 8:=⟨3,by decide,rfl⟩
structure YA (S0:BS) (n c:Nat) (S:BS):Prop where
 nested:S.nested=true
 vtl:S.vt.length=n
 oe:S.oe=S0.buf.length
 vts:S.vts=S0.vts
 ext:∃x,S.buf=x++S0.buf
 vle:∀j,S.vt.getD j 0<=S.buf.length
 len:S.buf.length<=S0.buf.length+c
 fin:S.fin=S0.fin
 min:P2 S.min
theorem YA.start {S0:BS} {n:Nat} (hm:P2 S0.min):YA S0 n 0 (Qw n S0):=
 ⟨rfl,by simp[Qw],rfl,rfl,⟨[],rfl⟩,fun j=>by
  simp only[Qw,List.getD,List.getElem?_replicate]
  split<;>simp,Nat.le_refl _,rfl,hm⟩
theorem getD_set (l:List Nat) (o j x:Nat):(l.set o x).getD j 0=if o=j/\o<l.length then x else l.getD j 0:=by
 simp only[List.getD,List.getElem?_set]
 by_cases h:o=j
 ·subst h
  by_cases h2:o<l.length
  ·simp[h2]
  ·simp[h2]
 ·simp[h]
theorem YA.mono {S0 S:BS} {n c c':Nat} (h:YA S0 n c S) (hc:c<=c'):YA S0 n c' S:={h with len:=by have:=h.len;omega}
theorem YA.prep {S0 S:BS} {n c k a:Nat} (h:YA S0 n c S) (hk:P2 k):YA S0 n (c+7) (Vc.prep k a S):=by
 obtain ⟨x,hx⟩:=h.ext
 have hp:=Zk (size:=k) (n:=S.buf.length+a) hk.pos
 have hk8:=hk.le
 refine ⟨h.nested,h.vtl,h.oe,h.vts,⟨List.replicate (padOf k (S.buf.length+a)) 0++x,by simp[Vc.prep,place,hx]⟩,fun j=>?_,?_,h.fin,h.min.max hk⟩
 ·have:=h.vle j
  rw[Qa5]
  show S.vt.getD j 0<=_
  omega
 ·rw[Qa5]
  have:=h.len
  omega
theorem YA.place {S0 S:BS} {n c:Nat} (h:YA S0 n c S) (xs:List UInt8):YA S0 n (c+xs.length) (Vc.place xs S):=by
 obtain ⟨x,hx⟩:=h.ext
 refine ⟨h.nested,h.vtl,h.oe,h.vts,⟨xs++x,by simp[Vc.place,hx]⟩,fun j=>?_,?_,h.fin,h.min⟩
 ·have:=h.vle j
  show S.vt.getD j 0<=(xs++S.buf).length
  rw[List.length_append];omega
 ·show (xs++S.buf).length<=_
  have:=h.len
  rw[List.length_append];omega
theorem YA.slot {S0 S:BS} {n c o:Nat} (h:YA S0 n c S):YA S0 n c (Proofs.slot o S):=by
 refine ⟨h.nested,by simp[Proofs.slot,h.vtl],h.oe,h.vts,h.ext,fun j=>?_,h.len,h.fin,h.min⟩
 have:=h.vle j
 show (S.vt.set o S.buf.length).getD j 0<=S.buf.length
 rw[getD_set]
 split<;>omega
theorem YA.putN {S0 S:BS} {n c k:Nat} {xs:List UInt8} (h:YA S0 n c S) (hk:P2 k) (hx:xs.length<=8):YA S0 n (c+15) (Proofs.putN k xs S):=
 ((h.prep (a:=0) hk).place xs).mono (by omega)
theorem YA.putOff {S0 S:BS} {n c off:Nat} (h:YA S0 n c S):YA S0 n (c+15) (Proofs.putOff off S):=
 ((h.prep (a:=0) P2_4).place _).mono (by rw[Qi];omega)
theorem YA.slotN {S0 S:BS} {n c k x d o:Nat} (h:YA S0 n c S) (hk:P2 k):YA S0 n (c+15) (Proofs.slotN k x d o S):=by
 unfold Proofs.slotN
 split
 ·exact h.mono (by omega)
 ·exact (h.putN hk (by rw[Qi];exact hk.le)).slot
theorem YA.slotF {S0 S:BS} {n c x d o:Nat} (h:YA S0 n c S):YA S0 n (c+15) (Proofs.slotF x d o S):=by
 unfold Proofs.slotF
 split
 ·exact (h.putN P2_4 (by rw[Qi];decide)).slot
 ·exact h.mono (by omega)
theorem YA.slotOff {S0 S:BS} {n c off o:Nat} (h:YA S0 n c S):YA S0 n (c+15) (Proofs.slotOff off o S):=by
 unfold Proofs.slotOff
 split
 ·exact h.mono (by omega)
 ·exact h.putOff.slot
theorem YA.slotStruct {S0 S:BS} {n c off o:Nat} (h:YA S0 n c S):YA S0 n (c+15) (Proofs.slotStruct off o S):=by
 unfold Proofs.slotStruct
 split
 ·exact h.mono (by omega)
 ·exact h.slot.mono (by omega)
theorem YA.le {S0 S:BS} {n c:Nat} (h:YA S0 n c S):S0.buf.length<=S.buf.length:=by
 obtain ⟨x,hx⟩:=h.ext
 rw[hx,List.length_append];omega
theorem Qdp (off:Nat) (S:BS):∃x,(putOff off S).buf=x++S.buf/\4<=x.length/\x.length<=7:=by
 have:=Zk (size:=4) (n:=S.buf.length+0) (by decide)
 refine ⟨leB (((prep 4 0 S).buf.length-off+4:Nat):Int) 4++List.replicate (padOf 4 (S.buf.length+0)) 0,by simp[putOff,place,prep],?_,?_⟩
 ·rw[List.length_append,Qi];omega
 ·rw[List.length_append,Qi,List.length_replicate];omega
theorem QhC {H:Qf} {p:Nat} {S0 S:BS} {F:Cut} {r n c:Nat} (hB:Qc H p S F r) {R:Kn} (h:YA S0 n c S) (hn:n<1000) (hv:Qgx S0) (hl:S0.buf.length+c+4096<=536870912) (hvl:S0.vts.length<=S0.buf.length)
  (hR:∀H',Qc H' p (endObj S) F 0->R (.int .u32 ((putOff 0 S).buf.length:Nat)) H'):
  FnS prog 291 #[.pointer (some ⟨p,0,none⟩)] H R:=by
 obtain ⟨x,hx⟩:=h.ext
 obtain ⟨y,hy,_⟩:=Qdp 0 S
 have h1:=h.len
 have h2:=h.le
 refine Qgd hB h.nested (by omega) (by rw[h.vtl];exact hn) h.vle (by rw[h.oe];exact h2) (by rw[h.vts];omega) ?_ hR
 exact hv.ext (S':=putOff 0 S) h.vts (x:=y++x) (by rw[hy,hx,List.append_assoc])
end Go.Proofs
