/- WHAT IS PROVED: the given statement of FnMonsterRead, whatever the input: this is part 4 of 13. No conditions. -/
import Derived.Test.YtihojnnfjoldnaaGreatX03
set_option linter.all false
namespace Go.Proofs
open Go Go.Vc
open Tryz (prog)
def Sc (k:Nat) (bs:List UInt8) (pos vt vo d x:Nat):Prop:=
 (slotAt bs vt vo=0/\x=d)\/(slotAt bs vt vo≠0/\pos+slotAt bs vt vo+k<=bs.length/\x=leN k bs (pos+slotAt bs vt vo))
def Qc2 (k:Nat) (bs:List UInt8) (pos vt vo n at_:Nat):Prop:=
 (slotAt bs vt vo=0/\n=0)\/
 (slotAt bs vt vo≠0/\pos+slotAt bs vt vo+4<=bs.length/\at_=tgt bs (pos+slotAt bs vt vo)+4/\le4 bs (tgt bs (pos+slotAt bs vt vo))=n/\at_+k*n<=bs.length/\at_<=bs.length)
def StrAt (bs:List UInt8) (o n:Nat):Prop:=o+4<=bs.length/\le4 bs (tgt bs o)=n/\tgt bs o+4+n<bs.length
theorem YZ {H:Qf} {o o':Obj}:setB (H.push o) H.size o'=H.push o':=by
 apply Array.ext_getElem?
 intro j
 simp only[setB,Array.getElem?_setIfInBounds,Array.getElem?_push,Array.size_push]
 by_cases h:H.size=j
 ·subst h;simp
 ·rw[if_neg h]
  by_cases h2:j=H.size
  ·exact absurd h2.symm h
  ·rw[if_neg h2,if_neg h2]
section
variable {H:Qf} {p B:Nat} {bs:List UInt8} {pos:Nat} (ht:Tab H p B bs pos) {R:Kn}
include ht
theorem Tab.push (o:Obj):Tab (H.push o) p B bs pos:=ht.ext (QaB.push H o).ext
theorem Tab.slot_add {vt vo k:Nat} (h:pos+slotAt bs vt vo+k<=bs.length):IntKind.u32.wrap ((slotAt bs vt vo:Int)+pos)=((pos+slotAt bs vt vo:Nat):Int):=by
 have:=ht.lt
 rw[QV (by omega) (by omega)];omega
theorem Tab.add {o k:Nat} (h:pos+o+k<=bs.length):IntKind.u32.wrap ((pos:Int)+(o:Nat))=((pos+o:Nat):Int):=by
 have:=ht.lt
 rw[QV (by omega) (by omega)];omega
theorem Tab.item {a i k m:Nat} (h:a+k*i+m<=bs.length):IntKind.u32.wrap ((a:Int)+IntKind.u32.wrap (IntKind.i64.wrap ((i:Int)*(k:Nat))))=((a+k*i:Nat):Int):=by
 have:=ht.lt
 have e:(i:Int)*(k:Nat)=((k*i:Nat):Int):=by rw[Int.natCast_mul,Int.mul_comm]
 rw[e,wrap_i64 (by omega) (by omega),QV (n:=((k*i:Nat):Int)) (by omega) (by omega),QV (by omega) (by omega)];omega
theorem Tab.item' {a i k m:Nat} (hi:i<2147483648) (h:a+k*i+m<=bs.length):IntKind.u32.wrap ((a:Int)+IntKind.u32.wrap (IntKind.u32.wrap (i:Int)*(k:Nat)))=((a+k*i:Nat):Int):=by
 have:=ht.lt
 rw[QV (n:=(i:Int)) (by omega) (by omega)]
 have e:(i:Int)*(k:Nat)=((k*i:Nat):Int):=by rw[Int.natCast_mul,Int.mul_comm]
 rw[e,QV (n:=((k*i:Nat):Int)) (by omega) (by omega),QV (by omega) (by omega)];omega
theorem QE {vt vo:Nat}:IntKind.u32.wrap (slotAt bs vt vo:Int)=(slotAt bs vt vo:Int):=by
 have:=slotAt_lt bs vt vo
 exact QV (by omega) (by omega)
theorem Qd7 {vt x:Nat} (hv:VT bs pos vt) (hs:Sc 2 bs pos vt 6 150 x) (hR:R (.int .i16 (IntKind.i16.wrap (x:Int))) H):
  FnS prog 167 #[.pointer (some ⟨p,0,none⟩)] H R:=by
 have e0:=QE ht (vt:=vt) (vo:=6)
 apply w167
 unfold s167
 simp only[↓Qd,↓Qh]
 refine Qj ht hv (by decide) ?_
 simp only[↓Qm,↓Qy,e0]
 rcases hs with ⟨h0,rfl⟩|⟨h0,h1,rfl⟩
 ·rw[Q2 (by omega)]
  exact hR
 ·rw[Q1 (by omega)]
  simp only[↓Qd,↓Qh,↓Qk ht.c1,↓Qx]
  exact QcF ht (Tab.slot_add ht h1) h1 hR
theorem Qc9 {vt x:Nat} (hv:VT bs pos vt) (hs:Sc 2 bs pos vt 8 100 x) (hR:R (.int .i16 (IntKind.i16.wrap (x:Int))) H):
  FnS prog 168 #[.pointer (some ⟨p,0,none⟩)] H R:=by
 have e0:=QE ht (vt:=vt) (vo:=8)
 apply w168
 unfold s168
 simp only[↓Qd,↓Qh]
 refine Qj ht hv (by decide) ?_
 simp only[↓Qm,↓Qy,e0]
 rcases hs with ⟨h0,rfl⟩|⟨h0,h1,rfl⟩
 ·rw[Q2 (by omega)]
  exact hR
 ·rw[Q1 (by omega)]
  simp only[↓Qd,↓Qh,↓Qk ht.c1,↓Qx]
  exact QcF ht (Tab.slot_add ht h1) h1 hR
theorem Qa4 {vt:Nat} (hv:VT bs pos vt) (h0:slotAt bs vt 10=0->R (.slice none 0 0) H)
  (h1:slotAt bs vt 10≠0->∃n,StrAt bs (pos+slotAt bs vt 10) n/\R (bsl B (tgt bs (pos+slotAt bs vt 10)+4) n (bs.length-(tgt bs (pos+slotAt bs vt 10)+4))) H):
  FnS prog 169 #[.pointer (some ⟨p,0,none⟩)] H R:=by
 have e0:=QE ht (vt:=vt) (vo:=10)
 apply w169
 unfold s169
 simp only[↓Qd,↓Qh]
 refine Qj ht hv (by decide) ?_
 simp only[↓Qm,↓Qy,e0]
 by_cases hz:slotAt bs vt 10=0
 ·rw[Q2 (by omega)]
  exact h0 hz
 ·rw[Q1 (by omega)]
  obtain ⟨n,⟨g1,g2,g3⟩,hR⟩:=h1 hz
  simp only[↓Qd,↓Qh,↓Qk ht.c1,↓Qx]
  exact Qag ht (Tab.slot_add ht g1) g1 g2 (by omega) (by omega) hR
theorem Zt {vt x:Nat} (hv:VT bs pos vt) (hs:Sc 1 bs pos vt 16 8 x) (hR:R (.int .u8 (x:Int)) H):
  FnS prog 170 #[.pointer (some ⟨p,0,none⟩)] H R:=by
 have e0:=QE ht (vt:=vt) (vo:=16)
 apply w170
 unfold s170
 simp only[↓Qd,↓Qh]
 refine Qj ht hv (by decide) ?_
 simp only[↓Qm,↓Qy,e0]
 rcases hs with ⟨h0,rfl⟩|⟨h0,h1,rfl⟩
 ·rw[Q2 (by omega)]
  exact hR
 ·rw[Q1 (by omega)]
  simp only[↓Qd,↓Qh,↓Qk ht.c1,↓Qx]
  exact YN ht (Tab.slot_add ht h1) h1 hR
theorem YJ {vt x:Nat} (hv:VT bs pos vt) (hs:Sc 1 bs pos vt 34 0 x) (hR:R (.bool (decide ((x:Int)=1))) H):
  FnS prog 171 #[.pointer (some ⟨p,0,none⟩)] H R:=by
 have e0:=QE ht (vt:=vt) (vo:=34)
 apply w171
 unfold s171
 simp only[↓Qd,↓Qh]
 refine Qj ht hv (by decide) ?_
 simp only[↓Qm,↓Qy,e0]
 rcases hs with ⟨h0,rfl⟩|⟨h0,h1,rfl⟩
 ·rw[Q2 (by omega)]
  exact hR
 ·rw[Q1 (by omega)]
  simp only[↓Qd,↓Qh,↓Qk ht.c1,↓Qx]
  exact Qfb ht (Tab.slot_add ht h1) h1 hR
theorem Yg {vt x:Nat} (hv:VT bs pos vt) (hs:Sc 4 bs pos vt 36 0 x) (hR:R (.int .i32 (IntKind.i32.wrap (x:Int))) H):
  FnS prog 172 #[.pointer (some ⟨p,0,none⟩)] H R:=by
 have e0:=QE ht (vt:=vt) (vo:=36)
 apply w172
 unfold s172
 simp only[↓Qd,↓Qh]
 refine Qj ht hv (by decide) ?_
 simp only[↓Qm,↓Qy,e0]
 rcases hs with ⟨h0,rfl⟩|⟨h0,h1,rfl⟩
 ·rw[Q2 (by omega)]
  exact hR
 ·rw[Q1 (by omega)]
  simp only[↓Qd,↓Qh,↓Qk ht.c1,↓Qx]
  exact Qej ht (Tab.slot_add ht h1) h1 hR
theorem QZ {vt x:Nat} (hv:VT bs pos vt) (hs:Sc 4 bs pos vt 38 0 x) (hR:R (.int .u32 (x:Int)) H):
  FnS prog 173 #[.pointer (some ⟨p,0,none⟩)] H R:=by
 have e0:=QE ht (vt:=vt) (vo:=38)
 apply w173
 unfold s173
 simp only[↓Qd,↓Qh]
 refine Qj ht hv (by decide) ?_
 simp only[↓Qm,↓Qy,e0]
 rcases hs with ⟨h0,rfl⟩|⟨h0,h1,rfl⟩
 ·rw[Q2 (by omega)]
  exact hR
 ·rw[Q1 (by omega)]
  simp only[↓Qd,↓Qh,↓Qk ht.c1,↓Qx]
  exact QaD ht (Tab.slot_add ht h1) h1 hR
theorem QU {vt x:Nat} (hv:VT bs pos vt) (hs:Sc 8 bs pos vt 40 0 x) (hR:R (.int .i64 (IntKind.i64.wrap (x:Int))) H):
  FnS prog 174 #[.pointer (some ⟨p,0,none⟩)] H R:=by
 have e0:=QE ht (vt:=vt) (vo:=40)
 apply w174
 unfold s174
 simp only[↓Qd,↓Qh]
 refine Qj ht hv (by decide) ?_
 simp only[↓Qm,↓Qy,e0]
 rcases hs with ⟨h0,rfl⟩|⟨h0,h1,rfl⟩
 ·rw[Q2 (by omega)]
  exact hR
 ·rw[Q1 (by omega)]
  simp only[↓Qd,↓Qh,↓Qk ht.c1,↓Qx]
  exact Qb1 ht (Tab.slot_add ht h1) h1 hR
theorem QM {vt x:Nat} (hv:VT bs pos vt) (hs:Sc 8 bs pos vt 42 0 x) (hR:R (.int .u64 (x:Int)) H):
  FnS prog 175 #[.pointer (some ⟨p,0,none⟩)] H R:=by
 have e0:=QE ht (vt:=vt) (vo:=42)
 apply w175
 unfold s175
 simp only[↓Qd,↓Qh]
 refine Qj ht hv (by decide) ?_
 simp only[↓Qm,↓Qy,e0]
 rcases hs with ⟨h0,rfl⟩|⟨h0,h1,rfl⟩
 ·rw[Q2 (by omega)]
  exact hR
 ·rw[Q1 (by omega)]
  simp only[↓Qd,↓Qh,↓Qk ht.c1,↓Qx]
  exact YH ht (Tab.slot_add ht h1) h1 hR
theorem QF {vt x:Nat} (hv:VT bs pos vt) (hs:Sc 4 bs pos vt 44 0 x) (hR:R (.int .i32 (IntKind.i32.wrap (x:Int))) H):
  FnS prog 176 #[.pointer (some ⟨p,0,none⟩)] H R:=by
 have e0:=QE ht (vt:=vt) (vo:=44)
 apply w176
 unfold s176
 simp only[↓Qd,↓Qh]
 refine Qj ht hv (by decide) ?_
 simp only[↓Qm,↓Qy,e0]
 rcases hs with ⟨h0,rfl⟩|⟨h0,h1,rfl⟩
 ·rw[Q2 (by omega)]
  exact hR
 ·rw[Q1 (by omega)]
  simp only[↓Qd,↓Qh,↓Qk ht.c1,↓Qx]
  exact Qej ht (Tab.slot_add ht h1) h1 hR
theorem QD {vt x:Nat} (hv:VT bs pos vt) (hs:Sc 4 bs pos vt 46 0 x) (hR:R (.int .u32 (x:Int)) H):
  FnS prog 177 #[.pointer (some ⟨p,0,none⟩)] H R:=by
 have e0:=QE ht (vt:=vt) (vo:=46)
 apply w177
 unfold s177
 simp only[↓Qd,↓Qh]
 refine Qj ht hv (by decide) ?_
 simp only[↓Qm,↓Qy,e0]
 rcases hs with ⟨h0,rfl⟩|⟨h0,h1,rfl⟩
 ·rw[Q2 (by omega)]
  exact hR
 ·rw[Q1 (by omega)]
  simp only[↓Qd,↓Qh,↓Qk ht.c1,↓Qx]
  exact QaD ht (Tab.slot_add ht h1) h1 hR
theorem QA {vt x:Nat} (hv:VT bs pos vt) (hs:Sc 8 bs pos vt 48 0 x) (hR:R (.int .i64 (IntKind.i64.wrap (x:Int))) H):
  FnS prog 178 #[.pointer (some ⟨p,0,none⟩)] H R:=by
 have e0:=QE ht (vt:=vt) (vo:=48)
 apply w178
 unfold s178
 simp only[↓Qd,↓Qh]
 refine Qj ht hv (by decide) ?_
 simp only[↓Qm,↓Qy,e0]
 rcases hs with ⟨h0,rfl⟩|⟨h0,h1,rfl⟩
 ·rw[Q2 (by omega)]
  exact hR
 ·rw[Q1 (by omega)]
  simp only[↓Qd,↓Qh,↓Qk ht.c1,↓Qx]
  exact Qb1 ht (Tab.slot_add ht h1) h1 hR
theorem Q7 {vt x:Nat} (hv:VT bs pos vt) (hs:Sc 8 bs pos vt 50 0 x) (hR:R (.int .u64 (x:Int)) H):
  FnS prog 179 #[.pointer (some ⟨p,0,none⟩)] H R:=by
 have e0:=QE ht (vt:=vt) (vo:=50)
 apply w179
 unfold s179
 simp only[↓Qd,↓Qh]
 refine Qj ht hv (by decide) ?_
 simp only[↓Qm,↓Qy,e0]
 rcases hs with ⟨h0,rfl⟩|⟨h0,h1,rfl⟩
 ·rw[Q2 (by omega)]
  exact hR
 ·rw[Q1 (by omega)]
  simp only[↓Qd,↓Qh,↓Qk ht.c1,↓Qx]
  exact YH ht (Tab.slot_add ht h1) h1 hR
theorem QS {vt x:Nat} (hv:VT bs pos vt) (hs:Sc 4 bs pos vt 54 1078530000 x) (hR:R (.float .f32 (x)) H):
  FnS prog 181 #[.pointer (some ⟨p,0,none⟩)] H R:=by
 have e0:=QE ht (vt:=vt) (vo:=54)
 apply w181
 unfold s181
 simp only[↓Qd,↓Qh]
 refine Qj ht hv (by decide) ?_
 simp only[↓Qm,↓Qy,e0]
 rcases hs with ⟨h0,rfl⟩|⟨h0,h1,rfl⟩
 ·rw[Q2 (by omega)]
  exact hR
 ·rw[Q1 (by omega)]
  simp only[↓Qd,↓Qh,↓Qk ht.c1,↓Qx]
  exact Zq ht (Tab.slot_add ht h1) h1 hR
theorem QI {vt x:Nat} (hv:VT bs pos vt) (hs:Sc 4 bs pos vt 56 1077936128 x) (hR:R (.float .f32 (x)) H):
  FnS prog 182 #[.pointer (some ⟨p,0,none⟩)] H R:=by
 have e0:=QE ht (vt:=vt) (vo:=56)
 apply w182
 unfold s182
 simp only[↓Qd,↓Qh]
 refine Qj ht hv (by decide) ?_
 simp only[↓Qm,↓Qy,e0]
 rcases hs with ⟨h0,rfl⟩|⟨h0,h1,rfl⟩
 ·rw[Q2 (by omega)]
  exact hR
 ·rw[Q1 (by omega)]
  simp only[↓Qd,↓Qh,↓Qk ht.c1,↓Qx]
  exact Zq ht (Tab.slot_add ht h1) h1 hR
theorem QG {vt x:Nat} (hv:VT bs pos vt) (hs:Sc 4 bs pos vt 58 0 x) (hR:R (.float .f32 (x)) H):
  FnS prog 183 #[.pointer (some ⟨p,0,none⟩)] H R:=by
 have e0:=QE ht (vt:=vt) (vo:=58)
 apply w183
 unfold s183
 simp only[↓Qd,↓Qh]
 refine Qj ht hv (by decide) ?_
 simp only[↓Qm,↓Qy,e0]
 rcases hs with ⟨h0,rfl⟩|⟨h0,h1,rfl⟩
 ·rw[Q2 (by omega)]
  exact hR
 ·rw[Q1 (by omega)]
  simp only[↓Qd,↓Qh,↓Qk ht.c1,↓Qx]
  exact Zq ht (Tab.slot_add ht h1) h1 hR
theorem QbD {vt:Nat} (hv:VT bs pos vt) (h0:slotAt bs vt 72=0->R (.pointer none) H)
  (h1:slotAt bs vt 72≠0->pos+slotAt bs vt 72+4<=bs.length/\tgt bs (pos+slotAt bs vt 72)<=bs.length/\R (.pointer (some ⟨H.size,0,none⟩)) (H.push (.cells #[bsl B 0 bs.length bs.length,.int .u32 (tgt bs (pos+slotAt bs vt 72):Nat)] 290))):
  FnS prog 184 #[.pointer (some ⟨p,0,none⟩),.pointer none] H R:=by
 have e0:=QE ht (vt:=vt) (vo:=72)
 apply w184
 unfold s184
 simp only[↓Qd,↓Qh]
 refine Qj ht hv (by decide) ?_
 simp only[↓Qm,↓Qy,e0]
 by_cases hz:slotAt bs vt 72=0
 ·rw[Q2 (by omega)]
  exact h0 hz
 ·rw[Q1 (by omega)]
  obtain ⟨g1,g2,hR⟩:=h1 hz
  simp only[↓Qd,↓Qh,↓Qk ht.c1,↓Qx]
  refine Z8 ht (Tab.slot_add ht g1) g1 g2 ?_
  refine QK (fun vs h=>vs=[.pointer (some ⟨H.size,0,none⟩)]/\h=H.push (.cells z290 290)) ?_ ?_
  ·rw[Y1 (by kernel_rfl)]
   exact ⟨rfl,rfl⟩
  ·rintro x h ⟨hx,rfl⟩
   cases hx
   have ht2:=Tab.push ht (.cells z290 290)
   simp only[↓Qd,↓Qh,↓Qk ht2.c0]
   refine Qd6 Qp (by simp[z290]) rfl rfl ?_
   rw[YZ]
   exact hR
theorem Qr {vt x:Nat} (hv:VT bs pos vt) (hs:Sc 8 bs pos vt 76 0 x) (hR:R (.int .u64 (x:Int)) H):
  FnS prog 185 #[.pointer (some ⟨p,0,none⟩)] H R:=by
 have e0:=QE ht (vt:=vt) (vo:=76)
 apply w185
 unfold s185
 simp only[↓Qd,↓Qh]
 refine Qj ht hv (by decide) ?_
 simp only[↓Qm,↓Qy,e0]
 rcases hs with ⟨h0,rfl⟩|⟨h0,h1,rfl⟩
 ·rw[Q2 (by omega)]
  exact hR
 ·rw[Q1 (by omega)]
  simp only[↓Qd,↓Qh,↓Qk ht.c1,↓Qx]
  exact YH ht (Tab.slot_add ht h1) h1 hR
theorem Qv {vt x:Nat} (hv:VT bs pos vt) (hs:Sc 8 bs pos vt 82 0 x) (hR:R (.int .u64 (x:Int)) H):
  FnS prog 186 #[.pointer (some ⟨p,0,none⟩)] H R:=by
 have e0:=QE ht (vt:=vt) (vo:=82)
 apply w186
 unfold s186
 simp only[↓Qd,↓Qh]
 refine Qj ht hv (by decide) ?_
 simp only[↓Qm,↓Qy,e0]
 rcases hs with ⟨h0,rfl⟩|⟨h0,h1,rfl⟩
 ·rw[Q2 (by omega)]
  exact hR
 ·rw[Q1 (by omega)]
  simp only[↓Qd,↓Qh,↓Qk ht.c1,↓Qx]
  exact YH ht (Tab.slot_add ht h1) h1 hR
theorem Qq {vt x:Nat} (hv:VT bs pos vt) (hs:Sc 8 bs pos vt 86 0 x) (hR:R (.int .u64 (x:Int)) H):
  FnS prog 187 #[.pointer (some ⟨p,0,none⟩)] H R:=by
 have e0:=QE ht (vt:=vt) (vo:=86)
 apply w187
 unfold s187
 simp only[↓Qd,↓Qh]
 refine Qj ht hv (by decide) ?_
 simp only[↓Qm,↓Qy,e0]
 rcases hs with ⟨h0,rfl⟩|⟨h0,h1,rfl⟩
 ·rw[Q2 (by omega)]
  exact hR
 ·rw[Q1 (by omega)]
  simp only[↓Qd,↓Qh,↓Qk ht.c1,↓Qx]
  exact YH ht (Tab.slot_add ht h1) h1 hR
theorem Qz {vt x:Nat} (hv:VT bs pos vt) (hs:Sc 1 bs pos vt 100 255 x) (hR:R (.int .i8 (IntKind.i8.wrap (x:Int))) H):
  FnS prog 188 #[.pointer (some ⟨p,0,none⟩)] H R:=by
 have e0:=QE ht (vt:=vt) (vo:=100)
 apply w188
 unfold s188
 simp only[↓Qd,↓Qh]
 refine Qj ht hv (by decide) ?_
 simp only[↓Qm,↓Qy,e0]
 rcases hs with ⟨h0,rfl⟩|⟨h0,h1,rfl⟩
 ·rw[Q2 (by omega)]
  exact hR
 ·rw[Q1 (by omega)]
  simp only[↓Qd,↓Qh,↓Qk ht.c1,↓Qx]
  exact Qf7 ht (Tab.slot_add ht h1) h1 hR
theorem QgH {vt:Nat} (hv:VT bs pos vt) (h0:slotAt bs vt 4=0->R (.pointer none) H)
  (h1:slotAt bs vt 4≠0->pos+slotAt bs vt 4<=bs.length/\R (.pointer (some ⟨H.size,0,none⟩)) (H.push (.cells #[bsl B 0 bs.length bs.length,.int .u32 (pos+slotAt bs vt 4:Nat)] 292))):
  FnS prog 189 #[.pointer (some ⟨p,0,none⟩),.pointer none] H R:=by
 have e0:=QE ht (vt:=vt) (vo:=4)
 apply w189
 unfold s189
 simp only[↓Qd,↓Qh]
 refine Qj ht hv (by decide) ?_
 simp only[↓Qm,↓Qy,e0]
 by_cases hz:slotAt bs vt 4=0
 ·rw[Q2 (by omega)]
  exact h0 hz
 ·rw[Q1 (by omega)]
  obtain ⟨g1,hR⟩:=h1 hz
  simp only[↓Qd,↓Qh,↓Qk ht.c1,↓Qx]
  rw[Tab.slot_add ht (k:=0) (by omega)]
  refine QK (fun vs h=>vs=[.pointer (some ⟨H.size,0,none⟩)]/\h=H.push (.cells z292 292)) ?_ ?_
  ·rw[Y1 (by kernel_rfl)]
   exact ⟨rfl,rfl⟩
  ·rintro x h ⟨hx,rfl⟩
   cases hx
   have ht2:=Tab.push ht (.cells z292 292)
   simp only[↓Qd,↓Qh,↓Qk ht2.c0]
   refine QhM Qp (by simp[z292]) rfl rfl ?_
   rw[YZ]
   exact hR
theorem QgN (hl:pos+26<=bs.length) (hR:R (.pointer (some ⟨H.size,0,none⟩)) (H.push (.cells #[bsl B 0 bs.length bs.length,.int .u32 (pos+26:Nat)] 228))):
  FnS prog 190 #[.pointer (some ⟨p,0,none⟩),.pointer none] H R:=by
 apply w190
 unfold s190
 refine QK (fun vs h=>vs=[.pointer (some ⟨H.size,0,none⟩)]/\h=H.push (.cells z228 228)) ?_ ?_
 ·rw[Y1 (by kernel_rfl)]
  exact ⟨rfl,rfl⟩
 ·rintro x h ⟨hx,rfl⟩
  cases hx
  have ht2:=Tab.push ht (.cells z228 228)
  have ea:=Tab.add ht (o:=26) (k:=0) (by omega)
  simp only[↓Qd,↓Qh,↓Qk ht2.c0,↓Qk ht2.c1,↓Qx]
  rw[show ((pos:Int)+(26:Int))=(pos:Int)+((26:Nat):Int) from rfl,ea]
  refine QcC Qp (by simp[z228]) rfl rfl ?_
  rw[YZ]
  exact hR
theorem Example_Vec3_X (hl:pos+0+4<=bs.length) (hR:R (.float .f32 (le4 bs (pos+0))) H):
  FnS prog 191 #[.pointer (some ⟨p,0,none⟩)] H R:=by
 apply w191
 unfold s191
 have ea:=Tab.add ht (o:=0) (k:=4) (by omega)
 simp only[↓Qd,↓Qh,↓Qk ht.c1,↓Qx]
 exact Zq ht (o:=pos+0) ea (by omega) hR
theorem Example_Vec3_Y (hl:pos+4+4<=bs.length) (hR:R (.float .f32 (le4 bs (pos+4))) H):
  FnS prog 192 #[.pointer (some ⟨p,0,none⟩)] H R:=by
 apply w192
 unfold s192
 have ea:=Tab.add ht (o:=4) (k:=4) (by omega)
 simp only[↓Qd,↓Qh,↓Qk ht.c1,↓Qx]
 exact Zq ht (o:=pos+4) ea (by omega) hR
theorem Example_Vec3_Z (hl:pos+8+4<=bs.length) (hR:R (.float .f32 (le4 bs (pos+8))) H):
  FnS prog 193 #[.pointer (some ⟨p,0,none⟩)] H R:=by
 apply w193
 unfold s193
 have ea:=Tab.add ht (o:=8) (k:=4) (by omega)
 simp only[↓Qd,↓Qh,↓Qk ht.c1,↓Qx]
 exact Zq ht (o:=pos+8) ea (by omega) hR
theorem QgQ (hl:pos+16+8<=bs.length) (hR:R (.float .f64 (le8 bs (pos+16))) H):
  FnS prog 195 #[.pointer (some ⟨p,0,none⟩)] H R:=by
 apply w195
 unfold s195
 have ea:=Tab.add ht (o:=16) (k:=8) (by omega)
 simp only[↓Qd,↓Qh,↓Qk ht.c1,↓Qx]
 exact QdH ht (o:=pos+16) ea (by omega) hR
theorem Qhb (hl:pos+24+1<=bs.length) (hR:R (.int .u8 (byteN bs (pos+24):Int)) H):
  FnS prog 196 #[.pointer (some ⟨p,0,none⟩)] H R:=by
 apply w196
 unfold s196
 have ea:=Tab.add ht (o:=24) (k:=1) (by omega)
 simp only[↓Qd,↓Qh,↓Qk ht.c1,↓Qx]
 exact YN ht (o:=pos+24) ea (by omega) hR
theorem QdV (hl:pos+0+2<=bs.length) (hR:R (.int .i16 (IntKind.i16.wrap (le2 bs (pos+0):Int))) H):
  FnS prog 197 #[.pointer (some ⟨p,0,none⟩)] H R:=by
 apply w197
 unfold s197
 have ea:=Tab.add ht (o:=0) (k:=2) (by omega)
 simp only[↓Qd,↓Qh,↓Qk ht.c1,↓Qx]
 exact QcF ht (o:=pos+0) ea (by omega) hR
theorem Qeb (hl:pos+2+1<=bs.length) (hR:R (.int .i8 (IntKind.i8.wrap (byteN bs (pos+2):Int))) H):
  FnS prog 198 #[.pointer (some ⟨p,0,none⟩)] H R:=by
 apply w198
 unfold s198
 have ea:=Tab.add ht (o:=2) (k:=1) (by omega)
 simp only[↓Qd,↓Qh,↓Qk ht.c1,↓Qx]
 exact Qf7 ht (o:=pos+2) ea (by omega) hR
theorem QcI {vt k n at_:Nat} (hv:VT bs pos vt) (hs:Qc2 k bs pos vt 14 n at_) (hR:R (.int .i64 n) H):
  FnS prog 199 #[.pointer (some ⟨p,0,none⟩)] H R:=by
 have e0:=QE ht (vt:=vt) (vo:=14)
 apply w199
 unfold s199
 simp only[↓Qd,↓Qh]
 refine Qj ht hv (by decide) ?_
 simp only[↓Qm,↓Qy,e0]
 rcases hs with ⟨h0,rfl⟩|⟨h0,h1,rfl,h3,h4,h5⟩
 ·rw[Q2 (by omega)]
  exact hR
 ·rw[Q1 (by omega)]
  try simp only[↓Qd,↓Qh]
  refine QT ht rfl (by omega) (by omega) ?_
  rw[h3];exact hR
theorem Qe0 {vt n at_ i:Nat} (hv:VT bs pos vt) (hs:Qc2 1 bs pos vt 14 n at_) (hi:i<n) (hR:R (.int .u8 (byteN bs (at_+1*i):Int)) H):
  FnS prog 200 #[.pointer (some ⟨p,0,none⟩),.int .i64 (i:Nat)] H R:=by
 have e0:=QE ht (vt:=vt) (vo:=14)
 apply w200
 unfold s200
 simp only[↓Qd,↓Qh]
 refine Qj ht hv (by decide) ?_
 simp only[↓Qm,↓Qy,e0]
 rcases hs with ⟨h0,rfl⟩|⟨h0,h1,rfl,h3,h4,h5⟩
 ·omega
 ·rw[Q1 (by omega)]
  try simp only[↓Qd,↓Qh]
  refine Ye ht rfl (by omega) (by omega) ?_
  simp only[↓Qd,↓Qh,↓YQ,↓Qx,↓Qm]
  have h6:tgt bs (pos+slotAt bs vt 14)+4+1*i+1<=bs.length:=by omega
  exact YN ht (Tab.item ht h6) h6 hR
theorem QdG {vt k n at_:Nat} (hv:VT bs pos vt) (hs:Qc2 k bs pos vt 22 n at_) (hR:R (.int .i64 n) H):
  FnS prog 201 #[.pointer (some ⟨p,0,none⟩)] H R:=by
 have e0:=QE ht (vt:=vt) (vo:=22)
 apply w201
 unfold s201
 simp only[↓Qd,↓Qh]
 refine Qj ht hv (by decide) ?_
 simp only[↓Qm,↓Qy,e0]
 rcases hs with ⟨h0,rfl⟩|⟨h0,h1,rfl,h3,h4,h5⟩
 ·rw[Q2 (by omega)]
  exact hR
 ·rw[Q1 (by omega)]
  try simp only[↓Qd,↓Qh]
  refine QT ht rfl (by omega) (by omega) ?_
  rw[h3];exact hR
theorem QfF {vt n at_ i q:Nat} {c:Array Value} {e:TypeId} (hv:VT bs pos vt) (hs:Qc2 4 bs pos vt 22 n at_) (hi:i<n) (hq:H[q]?=some (.cells c e (0,0))) (hc:c.size=2)
  (hR:R (.bool true) (setB H q (.cells #[bsl B 0 bs.length bs.length,.int .u32 (at_+4*i:Nat)] e (0,0)))):
  FnS prog 202 #[.pointer (some ⟨p,0,none⟩),.pointer (some ⟨q,0,none⟩),.int .i64 (i:Nat)] H R:=by
 have e0:=QE ht (vt:=vt) (vo:=22)
 apply w202
 unfold s202
 simp only[↓Qd,↓Qh]
 refine Qj ht hv (by decide) ?_
 simp only[↓Qm,↓Qy,e0]
 rcases hs with ⟨h0,rfl⟩|⟨h0,h1,rfl,h3,h4,h5⟩
 ·omega
 ·rw[Q1 (by omega)]
  try simp only[↓Qd,↓Qh]
  refine Ye ht rfl (by omega) (by omega) ?_
  have h6:tgt bs (pos+slotAt bs vt 22)+4+4*i+4<=bs.length:=by omega
  have:=ht.lt
  have ea:=Tab.item' ht (a:=tgt bs (pos+slotAt bs vt 22)+4) (k:=4) (by omega) h6
  simp only[↓Qm,↓YQ,↓Qx]
  rw[show ((4:Int))=((4:Nat):Int) from rfl,ea]
  try simp only[↓Qd,↓Qh,↓Qk ht.c0]
  exact QcC hq hc rfl rfl hR
theorem QaN {vt k n at_:Nat} (hv:VT bs pos vt) (hs:Qc2 k bs pos vt 24 n at_) (hR:R (.int .i64 n) H):
  FnS prog 203 #[.pointer (some ⟨p,0,none⟩)] H R:=by
 have e0:=QE ht (vt:=vt) (vo:=24)
 apply w203
 unfold s203
 simp only[↓Qd,↓Qh]
 refine Qj ht hv (by decide) ?_
 simp only[↓Qm,↓Qy,e0]
 rcases hs with ⟨h0,rfl⟩|⟨h0,h1,rfl,h3,h4,h5⟩
 ·rw[Q2 (by omega)]
  exact hR
 ·rw[Q1 (by omega)]
  try simp only[↓Qd,↓Qh]
  refine QT ht rfl (by omega) (by omega) ?_
  rw[h3];exact hR
theorem Qce {vt n at_ i m:Nat} (hv:VT bs pos vt) (hs:Qc2 4 bs pos vt 24 n at_) (hi:i<n) (hm:StrAt bs (at_+4*i) m)
  (hR:R (bsl B (tgt bs (at_+4*i)+4) m (bs.length-(tgt bs (at_+4*i)+4))) H):
  FnS prog 204 #[.pointer (some ⟨p,0,none⟩),.int .i64 (i:Nat)] H R:=by
 have e0:=QE ht (vt:=vt) (vo:=24)
 apply w204
 unfold s204
 simp only[↓Qd,↓Qh]
 refine Qj ht hv (by decide) ?_
 simp only[↓Qm,↓Qy,e0]
 rcases hs with ⟨h0,rfl⟩|⟨h0,h1,rfl,h3,h4,h5⟩
 ·omega
 ·rw[Q1 (by omega)]
  try simp only[↓Qd,↓Qh]
  refine Ye ht rfl (by omega) (by omega) ?_
  simp only[↓Qd,↓Qh,↓YQ,↓Qx,↓Qm]
  obtain ⟨g1,g2,g3⟩:=hm
  exact Qag ht (Tab.item ht g1) g1 g2 (Nat.le_of_lt g3) (Nat.lt_of_le_of_lt (Nat.le_add_right _ _) g3) hR
theorem QaM {vt k n at_:Nat} (hv:VT bs pos vt) (hs:Qc2 k bs pos vt 26 n at_) (hR:R (.int .i64 n) H):
  FnS prog 205 #[.pointer (some ⟨p,0,none⟩)] H R:=by
 have e0:=QE ht (vt:=vt) (vo:=26)
 apply w205
 unfold s205
 simp only[↓Qd,↓Qh]
 refine Qj ht hv (by decide) ?_
 simp only[↓Qm,↓Qy,e0]
 rcases hs with ⟨h0,rfl⟩|⟨h0,h1,rfl,h3,h4,h5⟩
 ·rw[Q2 (by omega)]
  exact hR
 ·rw[Q1 (by omega)]
  try simp only[↓Qd,↓Qh]
  refine QT ht rfl (by omega) (by omega) ?_
  rw[h3];exact hR
theorem Qcg {vt n at_ i q:Nat} {c:Array Value} {e:TypeId} (hv:VT bs pos vt) (hs:Qc2 4 bs pos vt 26 n at_) (hi:i<n) (hm:at_+4*i+4<=bs.length) (hm2:tgt bs (at_+4*i)<=bs.length) (hq:H[q]?=some (.cells c e (0,0))) (hc:c.size=2)
  (hR:R (.bool true) (setB H q (.cells #[bsl B 0 bs.length bs.length,.int .u32 (tgt bs (at_+4*i):Nat)] e (0,0)))):
  FnS prog 206 #[.pointer (some ⟨p,0,none⟩),.pointer (some ⟨q,0,none⟩),.int .i64 (i:Nat)] H R:=by
 have e0:=QE ht (vt:=vt) (vo:=26)
 apply w206
 unfold s206
 simp only[↓Qd,↓Qh]
 refine Qj ht hv (by decide) ?_
 simp only[↓Qm,↓Qy,e0]
 rcases hs with ⟨h0,rfl⟩|⟨h0,h1,rfl,h3,h4,h5⟩
 ·omega
 ·rw[Q1 (by omega)]
  try simp only[↓Qd,↓Qh]
  refine Ye ht rfl (by omega) (by omega) ?_
  have h6:tgt bs (pos+slotAt bs vt 26)+4+4*i+4<=bs.length:=by omega
  have:=ht.lt
  have ea:=Tab.item' ht (a:=tgt bs (pos+slotAt bs vt 26)+4) (k:=4) (by omega) h6
  simp only[↓Qm,↓YQ,↓Qx]
  rw[show ((4:Int))=((4:Nat):Int) from rfl,ea]
  try simp only[↓Qd,↓Qh,↓Qk ht.c0]
  refine Z8 ht rfl hm hm2 ?_
  try simp only[↓Qd,↓Qh,↓Qk ht.c0]
  exact Zx hq hc rfl rfl hR
theorem QfL {vt:Nat} (hv:VT bs pos vt) (h0:slotAt bs vt 28=0->R (.pointer none) H)
  (h1:slotAt bs vt 28≠0->pos+slotAt bs vt 28+4<=bs.length/\tgt bs (pos+slotAt bs vt 28)<=bs.length/\R (.pointer (some ⟨H.size,0,none⟩)) (H.push (.cells #[bsl B 0 bs.length bs.length,.int .u32 (tgt bs (pos+slotAt bs vt 28):Nat)] 232))):
  FnS prog 207 #[.pointer (some ⟨p,0,none⟩),.pointer none] H R:=by
 have e0:=QE ht (vt:=vt) (vo:=28)
 apply w207
 unfold s207
 simp only[↓Qd,↓Qh]
 refine Qj ht hv (by decide) ?_
 simp only[↓Qm,↓Qy,e0]
 by_cases hz:slotAt bs vt 28=0
 ·rw[Q2 (by omega)]
  exact h0 hz
 ·rw[Q1 (by omega)]
  obtain ⟨g1,g2,hR⟩:=h1 hz
  simp only[↓Qd,↓Qh,↓Qk ht.c1,↓Qx]
  refine Z8 ht (Tab.slot_add ht g1) g1 g2 ?_
  refine QK (fun vs h=>vs=[.pointer (some ⟨H.size,0,none⟩)]/\h=H.push (.cells z232 232)) ?_ ?_
  ·rw[Y1 (by kernel_rfl)]
   exact ⟨rfl,rfl⟩
  ·rintro x h ⟨hx,rfl⟩
   cases hx
   have ht2:=Tab.push ht (.cells z232 232)
   simp only[↓Qd,↓Qh,↓Qk ht2.c0]
   refine Zx Qp (by simp[z232]) rfl rfl ?_
   rw[YZ]
   exact hR
theorem Qat {vt k n at_:Nat} (hv:VT bs pos vt) (hs:Qc2 k bs pos vt 30 n at_) (hR:R (.int .i64 n) H):
  FnS prog 208 #[.pointer (some ⟨p,0,none⟩)] H R:=by
 have e0:=QE ht (vt:=vt) (vo:=30)
 apply w208
 unfold s208
 simp only[↓Qd,↓Qh]
 refine Qj ht hv (by decide) ?_
 simp only[↓Qm,↓Qy,e0]
 rcases hs with ⟨h0,rfl⟩|⟨h0,h1,rfl,h3,h4,h5⟩
 ·rw[Q2 (by omega)]
  exact hR
 ·rw[Q1 (by omega)]
  try simp only[↓Qd,↓Qh]
  refine QT ht rfl (by omega) (by omega) ?_
  rw[h3];exact hR
theorem Qbs {vt n at_ i:Nat} (hv:VT bs pos vt) (hs:Qc2 1 bs pos vt 30 n at_) (hi:i<n) (hR:R (.int .u8 (byteN bs (at_+1*i):Int)) H):
  FnS prog 209 #[.pointer (some ⟨p,0,none⟩),.int .i64 (i:Nat)] H R:=by
 have e0:=QE ht (vt:=vt) (vo:=30)
 apply w209
 unfold s209
 simp only[↓Qd,↓Qh]
 refine Qj ht hv (by decide) ?_
 simp only[↓Qm,↓Qy,e0]
 rcases hs with ⟨h0,rfl⟩|⟨h0,h1,rfl,h3,h4,h5⟩
 ·omega
 ·rw[Q1 (by omega)]
  try simp only[↓Qd,↓Qh]
  refine Ye ht rfl (by omega) (by omega) ?_
  simp only[↓Qd,↓Qh,↓YQ,↓Qx,↓Qm]
  have h6:tgt bs (pos+slotAt bs vt 30)+4+1*i+1<=bs.length:=by omega
  exact YN ht (Tab.item ht h6) h6 hR
theorem Qe9 {vt:Nat} (hv:VT bs pos vt) (h0:slotAt bs vt 32=0->R (.pointer none) H)
  (h1:slotAt bs vt 32≠0->pos+slotAt bs vt 32+4<=bs.length/\tgt bs (pos+slotAt bs vt 32)<=bs.length/\R (.pointer (some ⟨H.size,0,none⟩)) (H.push (.cells #[bsl B 0 bs.length bs.length,.int .u32 (tgt bs (pos+slotAt bs vt 32):Nat)] 295))):
  FnS prog 210 #[.pointer (some ⟨p,0,none⟩),.pointer none] H R:=by
 have e0:=QE ht (vt:=vt) (vo:=32)
 apply w210
 unfold s210
 simp only[↓Qd,↓Qh]
 refine Qj ht hv (by decide) ?_
 simp only[↓Qm,↓Qy,e0]
 by_cases hz:slotAt bs vt 32=0
 ·rw[Q2 (by omega)]
  exact h0 hz
 ·rw[Q1 (by omega)]
  obtain ⟨g1,g2,hR⟩:=h1 hz
  simp only[↓Qd,↓Qh,↓Qk ht.c1,↓Qx]
  refine Z8 ht (Tab.slot_add ht g1) g1 g2 ?_
  refine QK (fun vs h=>vs=[.pointer (some ⟨H.size,0,none⟩)]/\h=H.push (.cells z295 295)) ?_ ?_
  ·rw[Y1 (by kernel_rfl)]
   exact ⟨rfl,rfl⟩
  ·rintro x h ⟨hx,rfl⟩
   cases hx
   have ht2:=Tab.push ht (.cells z295 295)
   simp only[↓Qd,↓Qh,↓Qk ht2.c0]
   refine QhD Qp (by simp[z295]) rfl rfl ?_
   rw[YZ]
   exact hR
theorem Example_Stat_Id {vt:Nat} (hv:VT bs pos vt) (h0:slotAt bs vt 4=0->R (.slice none 0 0) H)
  (h1:slotAt bs vt 4≠0->∃n,StrAt bs (pos+slotAt bs vt 4) n/\R (bsl B (tgt bs (pos+slotAt bs vt 4)+4) n (bs.length-(tgt bs (pos+slotAt bs vt 4)+4))) H):
  FnS prog 211 #[.pointer (some ⟨p,0,none⟩)] H R:=by
 have e0:=QE ht (vt:=vt) (vo:=4)
 apply w211
 unfold s211
 simp only[↓Qd,↓Qh]
 refine Qj ht hv (by decide) ?_
 simp only[↓Qm,↓Qy,e0]
 by_cases hz:slotAt bs vt 4=0
 ·rw[Q2 (by omega)]
  exact h0 hz
 ·rw[Q1 (by omega)]
  obtain ⟨n,⟨g1,g2,g3⟩,hR⟩:=h1 hz
  simp only[↓Qd,↓Qh,↓Qk ht.c1,↓Qx]
  exact Qag ht (Tab.slot_add ht g1) g1 g2 (by omega) (by omega) hR
theorem Qib {vt x:Nat} (hv:VT bs pos vt) (hs:Sc 8 bs pos vt 6 0 x) (hR:R (.int .i64 (IntKind.i64.wrap (x:Int))) H):
  FnS prog 212 #[.pointer (some ⟨p,0,none⟩)] H R:=by
 have e0:=QE ht (vt:=vt) (vo:=6)
 apply w212
 unfold s212
 simp only[↓Qd,↓Qh]
 refine Qj ht hv (by decide) ?_
 simp only[↓Qm,↓Qy,e0]
 rcases hs with ⟨h0,rfl⟩|⟨h0,h1,rfl⟩
 ·rw[Q2 (by omega)]
  exact hR
 ·rw[Q1 (by omega)]
  simp only[↓Qd,↓Qh,↓Qk ht.c1,↓Qx]
  exact Qb1 ht (Tab.slot_add ht h1) h1 hR
theorem QgZ {vt x:Nat} (hv:VT bs pos vt) (hs:Sc 2 bs pos vt 8 0 x) (hR:R (.int .u16 (x:Int)) H):
  FnS prog 213 #[.pointer (some ⟨p,0,none⟩)] H R:=by
 have e0:=QE ht (vt:=vt) (vo:=8)
 apply w213
 unfold s213
 simp only[↓Qd,↓Qh]
 refine Qj ht hv (by decide) ?_
 simp only[↓Qm,↓Qy,e0]
 rcases hs with ⟨h0,rfl⟩|⟨h0,h1,rfl⟩
 ·rw[Q2 (by omega)]
  exact hR
 ·rw[Q1 (by omega)]
  simp only[↓Qd,↓Qh,↓Qk ht.c1,↓Qx]
  exact Qhe ht (Tab.slot_add ht h1) h1 hR
theorem Qb7 {vt k n at_:Nat} (hv:VT bs pos vt) (hs:Qc2 k bs pos vt 52 n at_) (hR:R (.int .i64 n) H):
  FnS prog 214 #[.pointer (some ⟨p,0,none⟩)] H R:=by
 have e0:=QE ht (vt:=vt) (vo:=52)
 apply w214
 unfold s214
 simp only[↓Qd,↓Qh]
 refine Qj ht hv (by decide) ?_
 simp only[↓Qm,↓Qy,e0]
 rcases hs with ⟨h0,rfl⟩|⟨h0,h1,rfl,h3,h4,h5⟩
 ·rw[Q2 (by omega)]
  exact hR
 ·rw[Q1 (by omega)]
  try simp only[↓Qd,↓Qh]
  refine QT ht rfl (by omega) (by omega) ?_
  rw[h3];exact hR
theorem Qcr {vt n at_ i:Nat} (hv:VT bs pos vt) (hs:Qc2 1 bs pos vt 52 n at_) (hi:i<n) (hR:R (.bool (decide ((byteN bs (at_+1*i):Int)=1))) H):
  FnS prog 215 #[.pointer (some ⟨p,0,none⟩),.int .i64 (i:Nat)] H R:=by
 have e0:=QE ht (vt:=vt) (vo:=52)
 apply w215
 unfold s215
 simp only[↓Qd,↓Qh]
 refine Qj ht hv (by decide) ?_
 simp only[↓Qm,↓Qy,e0]
 rcases hs with ⟨h0,rfl⟩|⟨h0,h1,rfl,h3,h4,h5⟩
 ·omega
 ·rw[Q1 (by omega)]
  try simp only[↓Qd,↓Qh]
  refine Ye ht rfl (by omega) (by omega) ?_
  simp only[↓Qd,↓Qh,↓YQ,↓Qx,↓Qm]
  have h6:tgt bs (pos+slotAt bs vt 52)+4+1*i+1<=bs.length:=by omega
  exact Qfb ht (Tab.item ht h6) h6 hR
theorem QaF {vt k n at_:Nat} (hv:VT bs pos vt) (hs:Qc2 k bs pos vt 60 n at_) (hR:R (.int .i64 n) H):
  FnS prog 216 #[.pointer (some ⟨p,0,none⟩)] H R:=by
 have e0:=QE ht (vt:=vt) (vo:=60)
 apply w216
 unfold s216
 simp only[↓Qd,↓Qh]
 refine Qj ht hv (by decide) ?_
 simp only[↓Qm,↓Qy,e0]
 rcases hs with ⟨h0,rfl⟩|⟨h0,h1,rfl,h3,h4,h5⟩
 ·rw[Q2 (by omega)]
  exact hR
 ·rw[Q1 (by omega)]
  try simp only[↓Qd,↓Qh]
  refine QT ht rfl (by omega) (by omega) ?_
  rw[h3];exact hR
theorem QbW {vt n at_ i m:Nat} (hv:VT bs pos vt) (hs:Qc2 4 bs pos vt 60 n at_) (hi:i<n) (hm:StrAt bs (at_+4*i) m)
  (hR:R (bsl B (tgt bs (at_+4*i)+4) m (bs.length-(tgt bs (at_+4*i)+4))) H):
  FnS prog 217 #[.pointer (some ⟨p,0,none⟩),.int .i64 (i:Nat)] H R:=by
 have e0:=QE ht (vt:=vt) (vo:=60)
 apply w217
 unfold s217
 simp only[↓Qd,↓Qh]
 refine Qj ht hv (by decide) ?_
 simp only[↓Qm,↓Qy,e0]
 rcases hs with ⟨h0,rfl⟩|⟨h0,h1,rfl,h3,h4,h5⟩
 ·omega
 ·rw[Q1 (by omega)]
  try simp only[↓Qd,↓Qh]
  refine Ye ht rfl (by omega) (by omega) ?_
  simp only[↓Qd,↓Qh,↓YQ,↓Qx,↓Qm]
  obtain ⟨g1,g2,g3⟩:=hm
  exact Qag ht (Tab.item ht g1) g1 g2 (Nat.le_of_lt g3) (Nat.lt_of_le_of_lt (Nat.le_add_right _ _) g3) hR
theorem Qa6 {vt k n at_:Nat} (hv:VT bs pos vt) (hs:Qc2 k bs pos vt 62 n at_) (hR:R (.int .i64 n) H):
  FnS prog 218 #[.pointer (some ⟨p,0,none⟩)] H R:=by
 have e0:=QE ht (vt:=vt) (vo:=62)
 apply w218
 unfold s218
 simp only[↓Qd,↓Qh]
 refine Qj ht hv (by decide) ?_
 simp only[↓Qm,↓Qy,e0]
 rcases hs with ⟨h0,rfl⟩|⟨h0,h1,rfl,h3,h4,h5⟩
 ·rw[Q2 (by omega)]
  exact hR
 ·rw[Q1 (by omega)]
  try simp only[↓Qd,↓Qh]
  refine QT ht rfl (by omega) (by omega) ?_
  rw[h3];exact hR
theorem QaS {vt n at_ i q:Nat} {c:Array Value} {e:TypeId} (hv:VT bs pos vt) (hs:Qc2 8 bs pos vt 62 n at_) (hi:i<n) (hq:H[q]?=some (.cells c e (0,0))) (hc:c.size=2)
  (hR:R (.bool true) (setB H q (.cells #[bsl B 0 bs.length bs.length,.int .u32 (at_+8*i:Nat)] e (0,0)))):
  FnS prog 219 #[.pointer (some ⟨p,0,none⟩),.pointer (some ⟨q,0,none⟩),.int .i64 (i:Nat)] H R:=by
 have e0:=QE ht (vt:=vt) (vo:=62)
 apply w219
 unfold s219
 simp only[↓Qd,↓Qh]
 refine Qj ht hv (by decide) ?_
 simp only[↓Qm,↓Qy,e0]
 rcases hs with ⟨h0,rfl⟩|⟨h0,h1,rfl,h3,h4,h5⟩
 ·omega
 ·rw[Q1 (by omega)]
  try simp only[↓Qd,↓Qh]
  refine Ye ht rfl (by omega) (by omega) ?_
  have h6:tgt bs (pos+slotAt bs vt 62)+4+8*i+8<=bs.length:=by omega
  have:=ht.lt
  have ea:=Tab.item' ht (a:=tgt bs (pos+slotAt bs vt 62)+4) (k:=8) (by omega) h6
  simp only[↓Qm,↓YQ,↓Qx]
  rw[show ((8:Int))=((8:Nat):Int) from rfl,ea]
  try simp only[↓Qd,↓Qh,↓Qk ht.c0]
  exact Qge hq hc rfl rfl hR
theorem Qh7 (hl:pos+0+4<=bs.length) (hR:R (.int .u32 (le4 bs (pos+0):Int)) H):
  FnS prog 220 #[.pointer (some ⟨p,0,none⟩)] H R:=by
 apply w220
 unfold s220
 have ea:=Tab.add ht (o:=0) (k:=4) (by omega)
 simp only[↓Qd,↓Qh,↓Qk ht.c1,↓Qx]
 exact QaD ht (o:=pos+0) ea (by omega) hR
theorem Qei (hl:pos+4+4<=bs.length) (hR:R (.int .u32 (le4 bs (pos+4):Int)) H):
  FnS prog 221 #[.pointer (some ⟨p,0,none⟩)] H R:=by
 apply w221
 unfold s221
 have ea:=Tab.add ht (o:=4) (k:=4) (by omega)
 simp only[↓Qd,↓Qh,↓Qk ht.c1,↓Qx]
 exact QaD ht (o:=pos+4) ea (by omega) hR
theorem QdM {vt k n at_:Nat} (hv:VT bs pos vt) (hs:Qc2 k bs pos vt 64 n at_) (hR:R (.int .i64 n) H):
  FnS prog 222 #[.pointer (some ⟨p,0,none⟩)] H R:=by
 have e0:=QE ht (vt:=vt) (vo:=64)
 apply w222
 unfold s222
 simp only[↓Qd,↓Qh]
 refine Qj ht hv (by decide) ?_
 simp only[↓Qm,↓Qy,e0]
 rcases hs with ⟨h0,rfl⟩|⟨h0,h1,rfl,h3,h4,h5⟩
 ·rw[Q2 (by omega)]
  exact hR
 ·rw[Q1 (by omega)]
  try simp only[↓Qd,↓Qh]
  refine QT ht rfl (by omega) (by omega) ?_
  rw[h3];exact hR
theorem Qg8 {vt n at_ i:Nat} (hv:VT bs pos vt) (hs:Qc2 1 bs pos vt 64 n at_) (hi:i<n) (hR:R (.int .u8 (byteN bs (at_+1*i):Int)) H):
  FnS prog 223 #[.pointer (some ⟨p,0,none⟩),.int .i64 (i:Nat)] H R:=by
 have e0:=QE ht (vt:=vt) (vo:=64)
 apply w223
 unfold s223
 simp only[↓Qd,↓Qh]
 refine Qj ht hv (by decide) ?_
 simp only[↓Qm,↓Qy,e0]
 rcases hs with ⟨h0,rfl⟩|⟨h0,h1,rfl,h3,h4,h5⟩
 ·omega
 ·rw[Q1 (by omega)]
  try simp only[↓Qd,↓Qh]
  refine Ye ht rfl (by omega) (by omega) ?_
  simp only[↓Qd,↓Qh,↓YQ,↓Qx,↓Qm]
  have h6:tgt bs (pos+slotAt bs vt 64)+4+1*i+1<=bs.length:=by omega
  exact YN ht (Tab.item ht h6) h6 hR
theorem Qdt {vt k n at_:Nat} (hv:VT bs pos vt) (hs:Qc2 k bs pos vt 66 n at_) (hR:R (.int .i64 n) H):
  FnS prog 224 #[.pointer (some ⟨p,0,none⟩)] H R:=by
 have e0:=QE ht (vt:=vt) (vo:=66)
 apply w224
 unfold s224
 simp only[↓Qd,↓Qh]
 refine Qj ht hv (by decide) ?_
 simp only[↓Qm,↓Qy,e0]
 rcases hs with ⟨h0,rfl⟩|⟨h0,h1,rfl,h3,h4,h5⟩
 ·rw[Q2 (by omega)]
  exact hR
 ·rw[Q1 (by omega)]
  try simp only[↓Qd,↓Qh]
  refine QT ht rfl (by omega) (by omega) ?_
  rw[h3];exact hR
theorem QfQ {vt n at_ i q:Nat} {c:Array Value} {e:TypeId} (hv:VT bs pos vt) (hs:Qc2 4 bs pos vt 66 n at_) (hi:i<n) (hq:H[q]?=some (.cells c e (0,0))) (hc:c.size=2)
  (hR:R (.bool true) (setB H q (.cells #[bsl B 0 bs.length bs.length,.int .u32 (at_+4*i:Nat)] e (0,0)))):
  FnS prog 225 #[.pointer (some ⟨p,0,none⟩),.pointer (some ⟨q,0,none⟩),.int .i64 (i:Nat)] H R:=by
 have e0:=QE ht (vt:=vt) (vo:=66)
 apply w225
 unfold s225
 simp only[↓Qd,↓Qh]
 refine Qj ht hv (by decide) ?_
 simp only[↓Qm,↓Qy,e0]
 rcases hs with ⟨h0,rfl⟩|⟨h0,h1,rfl,h3,h4,h5⟩
 ·omega
 ·rw[Q1 (by omega)]
  try simp only[↓Qd,↓Qh]
  refine Ye ht rfl (by omega) (by omega) ?_
  have h6:tgt bs (pos+slotAt bs vt 66)+4+4*i+4<=bs.length:=by omega
  have:=ht.lt
  have ea:=Tab.item' ht (a:=tgt bs (pos+slotAt bs vt 66)+4) (k:=4) (by omega) h6
  simp only[↓Qm,↓YQ,↓Qx]
  rw[show ((4:Int))=((4:Nat):Int) from rfl,ea]
  try simp only[↓Qd,↓Qh,↓Qk ht.c0]
  exact QcC hq hc rfl rfl hR
theorem QbG {vt k n at_:Nat} (hv:VT bs pos vt) (hs:Qc2 k bs pos vt 68 n at_) (hR:R (.int .i64 n) H):
  FnS prog 226 #[.pointer (some ⟨p,0,none⟩)] H R:=by
 have e0:=QE ht (vt:=vt) (vo:=68)
 apply w226
 unfold s226
 simp only[↓Qd,↓Qh]
 refine Qj ht hv (by decide) ?_
 simp only[↓Qm,↓Qy,e0]
 rcases hs with ⟨h0,rfl⟩|⟨h0,h1,rfl,h3,h4,h5⟩
 ·rw[Q2 (by omega)]
  exact hR
 ·rw[Q1 (by omega)]
  try simp only[↓Qd,↓Qh]
  refine QT ht rfl (by omega) (by omega) ?_
  rw[h3];exact hR
theorem Qd3 {vt n at_ i:Nat} (hv:VT bs pos vt) (hs:Qc2 8 bs pos vt 68 n at_) (hi:i<n) (hR:R (.int .i64 (IntKind.i64.wrap (le8 bs (at_+8*i):Int))) H):
  FnS prog 227 #[.pointer (some ⟨p,0,none⟩),.int .i64 (i:Nat)] H R:=by
 have e0:=QE ht (vt:=vt) (vo:=68)
 apply w227
 unfold s227
 simp only[↓Qd,↓Qh]
 refine Qj ht hv (by decide) ?_
 simp only[↓Qm,↓Qy,e0]
 rcases hs with ⟨h0,rfl⟩|⟨h0,h1,rfl,h3,h4,h5⟩
 ·omega
 ·rw[Q1 (by omega)]
  try simp only[↓Qd,↓Qh]
  refine Ye ht rfl (by omega) (by omega) ?_
  simp only[↓Qd,↓Qh,↓YQ,↓Qx,↓Qm]
  have h6:tgt bs (pos+slotAt bs vt 68)+4+8*i+8<=bs.length:=by omega
  exact Qb1 ht (Tab.item ht h6) h6 hR
theorem Qbg {vt k n at_:Nat} (hv:VT bs pos vt) (hs:Qc2 k bs pos vt 70 n at_) (hR:R (.int .i64 n) H):
  FnS prog 228 #[.pointer (some ⟨p,0,none⟩)] H R:=by
 have e0:=QE ht (vt:=vt) (vo:=70)
 apply w228
 unfold s228
 simp only[↓Qd,↓Qh]
 refine Qj ht hv (by decide) ?_
 simp only[↓Qm,↓Qy,e0]
 rcases hs with ⟨h0,rfl⟩|⟨h0,h1,rfl,h3,h4,h5⟩
 ·rw[Q2 (by omega)]
  exact hR
 ·rw[Q1 (by omega)]
  try simp only[↓Qd,↓Qh]
  refine QT ht rfl (by omega) (by omega) ?_
  rw[h3];exact hR
theorem QcH {vt n at_ i:Nat} (hv:VT bs pos vt) (hs:Qc2 8 bs pos vt 70 n at_) (hi:i<n) (hR:R (.float .f64 (le8 bs (at_+8*i))) H):
  FnS prog 229 #[.pointer (some ⟨p,0,none⟩),.int .i64 (i:Nat)] H R:=by
 have e0:=QE ht (vt:=vt) (vo:=70)
 apply w229
 unfold s229
 simp only[↓Qd,↓Qh]
 refine Qj ht hv (by decide) ?_
 simp only[↓Qm,↓Qy,e0]
 rcases hs with ⟨h0,rfl⟩|⟨h0,h1,rfl,h3,h4,h5⟩
 ·omega
 ·rw[Q1 (by omega)]
  try simp only[↓Qd,↓Qh]
  refine Ye ht rfl (by omega) (by omega) ?_
  simp only[↓Qd,↓Qh,↓YQ,↓Qx,↓Qm]
  have h6:tgt bs (pos+slotAt bs vt 70)+4+8*i+8<=bs.length:=by omega
  exact QdH ht (Tab.item ht h6) h6 hR
theorem Qay {vt k n at_:Nat} (hv:VT bs pos vt) (hs:Qc2 k bs pos vt 74 n at_) (hR:R (.int .i64 n) H):
  FnS prog 230 #[.pointer (some ⟨p,0,none⟩)] H R:=by
 have e0:=QE ht (vt:=vt) (vo:=74)
 apply w230
 unfold s230
 simp only[↓Qd,↓Qh]
 refine Qj ht hv (by decide) ?_
 simp only[↓Qm,↓Qy,e0]
 rcases hs with ⟨h0,rfl⟩|⟨h0,h1,rfl,h3,h4,h5⟩
 ·rw[Q2 (by omega)]
  exact hR
 ·rw[Q1 (by omega)]
  try simp only[↓Qd,↓Qh]
  refine QT ht rfl (by omega) (by omega) ?_
  rw[h3];exact hR
theorem QbA {vt n at_ i q:Nat} {c:Array Value} {e:TypeId} (hv:VT bs pos vt) (hs:Qc2 4 bs pos vt 74 n at_) (hi:i<n) (hm:at_+4*i+4<=bs.length) (hm2:tgt bs (at_+4*i)<=bs.length) (hq:H[q]?=some (.cells c e (0,0))) (hc:c.size=2)
  (hR:R (.bool true) (setB H q (.cells #[bsl B 0 bs.length bs.length,.int .u32 (tgt bs (at_+4*i):Nat)] e (0,0)))):
  FnS prog 231 #[.pointer (some ⟨p,0,none⟩),.pointer (some ⟨q,0,none⟩),.int .i64 (i:Nat)] H R:=by
 have e0:=QE ht (vt:=vt) (vo:=74)
 apply w231
 unfold s231
 simp only[↓Qd,↓Qh]
 refine Qj ht hv (by decide) ?_
 simp only[↓Qm,↓Qy,e0]
 rcases hs with ⟨h0,rfl⟩|⟨h0,h1,rfl,h3,h4,h5⟩
 ·omega
 ·rw[Q1 (by omega)]
  try simp only[↓Qd,↓Qh]
  refine Ye ht rfl (by omega) (by omega) ?_
  have h6:tgt bs (pos+slotAt bs vt 74)+4+4*i+4<=bs.length:=by omega
  have:=ht.lt
  have ea:=Tab.item' ht (a:=tgt bs (pos+slotAt bs vt 74)+4) (k:=4) (by omega) h6
  simp only[↓Qm,↓YQ,↓Qx]
  rw[show ((4:Int))=((4:Nat):Int) from rfl,ea]
  try simp only[↓Qd,↓Qh,↓Qk ht.c0]
  refine Z8 ht rfl hm hm2 ?_
  try simp only[↓Qd,↓Qh,↓Qk ht.c0]
  exact Qc5 hq hc rfl rfl hR
theorem QcW {vt x:Nat} (hv:VT bs pos vt) (hs:Sc 8 bs pos vt 4 0 x) (hR:R (.int .u64 (x:Int)) H):
  FnS prog 232 #[.pointer (some ⟨p,0,none⟩)] H R:=by
 have e0:=QE ht (vt:=vt) (vo:=4)
 apply w232
 unfold s232
 simp only[↓Qd,↓Qh]
 refine Qj ht hv (by decide) ?_
 simp only[↓Qm,↓Qy,e0]
 rcases hs with ⟨h0,rfl⟩|⟨h0,h1,rfl⟩
 ·rw[Q2 (by omega)]
  exact hR
 ·rw[Q1 (by omega)]
  simp only[↓Qd,↓Qh,↓Qk ht.c1,↓Qx]
  exact YH ht (Tab.slot_add ht h1) h1 hR
theorem Qaa {vt k n at_:Nat} (hv:VT bs pos vt) (hs:Qc2 k bs pos vt 78 n at_) (hR:R (.int .i64 n) H):
  FnS prog 233 #[.pointer (some ⟨p,0,none⟩)] H R:=by
 have e0:=QE ht (vt:=vt) (vo:=78)
 apply w233
 unfold s233
 simp only[↓Qd,↓Qh]
 refine Qj ht hv (by decide) ?_
 simp only[↓Qm,↓Qy,e0]
 rcases hs with ⟨h0,rfl⟩|⟨h0,h1,rfl,h3,h4,h5⟩
 ·rw[Q2 (by omega)]
  exact hR
 ·rw[Q1 (by omega)]
  try simp only[↓Qd,↓Qh]
  refine QT ht rfl (by omega) (by omega) ?_
  rw[h3];exact hR
theorem Qb5 {vt n at_ i:Nat} (hv:VT bs pos vt) (hs:Qc2 8 bs pos vt 78 n at_) (hi:i<n) (hR:R (.int .u64 (le8 bs (at_+8*i):Int)) H):
  FnS prog 234 #[.pointer (some ⟨p,0,none⟩),.int .i64 (i:Nat)] H R:=by
 have e0:=QE ht (vt:=vt) (vo:=78)
 apply w234
 unfold s234
 simp only[↓Qd,↓Qh]
 refine Qj ht hv (by decide) ?_
 simp only[↓Qm,↓Qy,e0]
 rcases hs with ⟨h0,rfl⟩|⟨h0,h1,rfl,h3,h4,h5⟩
 ·omega
 ·rw[Q1 (by omega)]
  try simp only[↓Qd,↓Qh]
  refine Ye ht rfl (by omega) (by omega) ?_
  simp only[↓Qd,↓Qh,↓YQ,↓Qx,↓Qm]
  have h6:tgt bs (pos+slotAt bs vt 78)+4+8*i+8<=bs.length:=by omega
  exact YH ht (Tab.item ht h6) h6 hR
theorem Qa1 {vt k n at_:Nat} (hv:VT bs pos vt) (hs:Qc2 k bs pos vt 80 n at_) (hR:R (.int .i64 n) H):
  FnS prog 235 #[.pointer (some ⟨p,0,none⟩)] H R:=by
 have e0:=QE ht (vt:=vt) (vo:=80)
 apply w235
 unfold s235
 simp only[↓Qd,↓Qh]
 refine Qj ht hv (by decide) ?_
 simp only[↓Qm,↓Qy,e0]
 rcases hs with ⟨h0,rfl⟩|⟨h0,h1,rfl,h3,h4,h5⟩
 ·rw[Q2 (by omega)]
  exact hR
 ·rw[Q1 (by omega)]
  try simp only[↓Qd,↓Qh]
  refine QT ht rfl (by omega) (by omega) ?_
  rw[h3];exact hR
theorem QaA {vt n at_ i q:Nat} {c:Array Value} {e:TypeId} (hv:VT bs pos vt) (hs:Qc2 4 bs pos vt 80 n at_) (hi:i<n) (hm:at_+4*i+4<=bs.length) (hm2:tgt bs (at_+4*i)<=bs.length) (hq:H[q]?=some (.cells c e (0,0))) (hc:c.size=2)
  (hR:R (.bool true) (setB H q (.cells #[bsl B 0 bs.length bs.length,.int .u32 (tgt bs (at_+4*i):Nat)] e (0,0)))):
  FnS prog 236 #[.pointer (some ⟨p,0,none⟩),.pointer (some ⟨q,0,none⟩),.int .i64 (i:Nat)] H R:=by
 have e0:=QE ht (vt:=vt) (vo:=80)
 apply w236
 unfold s236
 simp only[↓Qd,↓Qh]
 refine Qj ht hv (by decide) ?_
 simp only[↓Qm,↓Qy,e0]
 rcases hs with ⟨h0,rfl⟩|⟨h0,h1,rfl,h3,h4,h5⟩
 ·omega
 ·rw[Q1 (by omega)]
  try simp only[↓Qd,↓Qh]
  refine Ye ht rfl (by omega) (by omega) ?_
  have h6:tgt bs (pos+slotAt bs vt 80)+4+4*i+4<=bs.length:=by omega
  have:=ht.lt
  have ea:=Tab.item' ht (a:=tgt bs (pos+slotAt bs vt 80)+4) (k:=4) (by omega) h6
  simp only[↓Qm,↓YQ,↓Qx]
  rw[show ((4:Int))=((4:Nat):Int) from rfl,ea]
  try simp only[↓Qd,↓Qh,↓Qk ht.c0]
  refine Z8 ht rfl hm hm2 ?_
  try simp only[↓Qd,↓Qh,↓Qk ht.c0]
  exact Qc5 hq hc rfl rfl hR
theorem ZY {vt k n at_:Nat} (hv:VT bs pos vt) (hs:Qc2 k bs pos vt 84 n at_) (hR:R (.int .i64 n) H):
  FnS prog 237 #[.pointer (some ⟨p,0,none⟩)] H R:=by
 have e0:=QE ht (vt:=vt) (vo:=84)
 apply w237
 unfold s237
 simp only[↓Qd,↓Qh]
 refine Qj ht hv (by decide) ?_
 simp only[↓Qm,↓Qy,e0]
 rcases hs with ⟨h0,rfl⟩|⟨h0,h1,rfl,h3,h4,h5⟩
 ·rw[Q2 (by omega)]
  exact hR
 ·rw[Q1 (by omega)]
  try simp only[↓Qd,↓Qh]
  refine QT ht rfl (by omega) (by omega) ?_
  rw[h3];exact hR
theorem Qau {vt n at_ i:Nat} (hv:VT bs pos vt) (hs:Qc2 8 bs pos vt 84 n at_) (hi:i<n) (hR:R (.int .u64 (le8 bs (at_+8*i):Int)) H):
  FnS prog 238 #[.pointer (some ⟨p,0,none⟩),.int .i64 (i:Nat)] H R:=by
 have e0:=QE ht (vt:=vt) (vo:=84)
 apply w238
 unfold s238
 simp only[↓Qd,↓Qh]
 refine Qj ht hv (by decide) ?_
 simp only[↓Qm,↓Qy,e0]
 rcases hs with ⟨h0,rfl⟩|⟨h0,h1,rfl,h3,h4,h5⟩
 ·omega
 ·rw[Q1 (by omega)]
  try simp only[↓Qd,↓Qh]
  refine Ye ht rfl (by omega) (by omega) ?_
  simp only[↓Qd,↓Qh,↓YQ,↓Qx,↓Qm]
  have h6:tgt bs (pos+slotAt bs vt 84)+4+8*i+8<=bs.length:=by omega
  exact YH ht (Tab.item ht h6) h6 hR
theorem ZN {vt k n at_:Nat} (hv:VT bs pos vt) (hs:Qc2 k bs pos vt 88 n at_) (hR:R (.int .i64 n) H):
  FnS prog 239 #[.pointer (some ⟨p,0,none⟩)] H R:=by
 have e0:=QE ht (vt:=vt) (vo:=88)
 apply w239
 unfold s239
 simp only[↓Qd,↓Qh]
 refine Qj ht hv (by decide) ?_
 simp only[↓Qm,↓Qy,e0]
 rcases hs with ⟨h0,rfl⟩|⟨h0,h1,rfl,h3,h4,h5⟩
 ·rw[Q2 (by omega)]
  exact hR
 ·rw[Q1 (by omega)]
  try simp only[↓Qd,↓Qh]
  refine QT ht rfl (by omega) (by omega) ?_
  rw[h3];exact hR
theorem Qal {vt n at_ i:Nat} (hv:VT bs pos vt) (hs:Qc2 8 bs pos vt 88 n at_) (hi:i<n) (hR:R (.int .u64 (le8 bs (at_+8*i):Int)) H):
  FnS prog 240 #[.pointer (some ⟨p,0,none⟩),.int .i64 (i:Nat)] H R:=by
 have e0:=QE ht (vt:=vt) (vo:=88)
 apply w240
 unfold s240
 simp only[↓Qd,↓Qh]
 refine Qj ht hv (by decide) ?_
 simp only[↓Qm,↓Qy,e0]
 rcases hs with ⟨h0,rfl⟩|⟨h0,h1,rfl,h3,h4,h5⟩
 ·omega
 ·rw[Q1 (by omega)]
  try simp only[↓Qd,↓Qh]
  refine Ye ht rfl (by omega) (by omega) ?_
  simp only[↓Qd,↓Qh,↓YQ,↓Qx,↓Qm]
  have h6:tgt bs (pos+slotAt bs vt 88)+4+8*i+8<=bs.length:=by omega
  exact YH ht (Tab.item ht h6) h6 hR
theorem Qgg {vt q:Nat} {c:Array Value} {e:TypeId} (hv:VT bs pos vt) (hq:H[q]?=some (.cells c e (0,0))) (hc:c.size=2) (hpq:q≠p) (h0:slotAt bs vt 20=0->R (.bool false) H)
  (h1:slotAt bs vt 20≠0->pos+slotAt bs vt 20+4<=bs.length/\tgt bs (pos+slotAt bs vt 20)<=bs.length/\R (.bool true) (setB H q (.cells #[bsl B 0 bs.length bs.length,.int .u32 (tgt bs (pos+slotAt bs vt 20):Nat)] e (0,0)))):
  FnS prog 241 #[.pointer (some ⟨p,0,none⟩),.pointer (some ⟨q,0,none⟩)] H R:=by
 have e0:=QE ht (vt:=vt) (vo:=20)
 apply w241
 unfold s241
 simp only[↓Qd,↓Qh]
 refine Qj ht hv (by decide) ?_
 simp only[↓Qm,↓Qy,e0]
 by_cases hz:slotAt bs vt 20=0
 ·rw[Q2 (by omega)]
  exact h0 hz
 ·rw[Q1 (by omega)]
  obtain ⟨g1,g2,hR⟩:=h1 hz
  try simp only[↓Qd,↓Qh]
  exact QdW ht rfl g1 g2 hq hc hpq hR
theorem QeC {vt x:Nat} (hv:VT bs pos vt) (hs:Sc 1 bs pos vt 18 0 x) (hR:R (.int .u8 (x:Int)) H):
  FnS prog 243 #[.pointer (some ⟨p,0,none⟩)] H R:=by
 have e0:=QE ht (vt:=vt) (vo:=18)
 apply w243
 unfold s243
 simp only[↓Qd,↓Qh]
 refine Qj ht hv (by decide) ?_
 simp only[↓Qm,↓Qy,e0]
 rcases hs with ⟨h0,rfl⟩|⟨h0,h1,rfl⟩
 ·rw[Q2 (by omega)]
  exact hR
 ·rw[Q1 (by omega)]
  simp only[↓Qd,↓Qh,↓Qk ht.c1,↓Qx]
  exact YN ht (Tab.slot_add ht h1) h1 hR
theorem Qec {vt q:Nat} {c:Array Value} {e:TypeId} (hv:VT bs pos vt) (hq:H[q]?=some (.cells c e (0,0))) (hc:c.size=2) (hpq:q≠p) (h0:slotAt bs vt 92=0->R (.bool false) H)
  (h1:slotAt bs vt 92≠0->pos+slotAt bs vt 92+4<=bs.length/\tgt bs (pos+slotAt bs vt 92)<=bs.length/\R (.bool true) (setB H q (.cells #[bsl B 0 bs.length bs.length,.int .u32 (tgt bs (pos+slotAt bs vt 92):Nat)] e (0,0)))):
  FnS prog 244 #[.pointer (some ⟨p,0,none⟩),.pointer (some ⟨q,0,none⟩)] H R:=by
 have e0:=QE ht (vt:=vt) (vo:=92)
 apply w244
 unfold s244
 simp only[↓Qd,↓Qh]
 refine Qj ht hv (by decide) ?_
 simp only[↓Qm,↓Qy,e0]
 by_cases hz:slotAt bs vt 92=0
 ·rw[Q2 (by omega)]
  exact h0 hz
 ·rw[Q1 (by omega)]
  obtain ⟨g1,g2,hR⟩:=h1 hz
  try simp only[↓Qd,↓Qh]
  exact QdW ht rfl g1 g2 hq hc hpq hR
theorem Qd2 {vt x:Nat} (hv:VT bs pos vt) (hs:Sc 1 bs pos vt 90 0 x) (hR:R (.int .u8 (x:Int)) H):
  FnS prog 245 #[.pointer (some ⟨p,0,none⟩)] H R:=by
 have e0:=QE ht (vt:=vt) (vo:=90)
 apply w245
 unfold s245
 simp only[↓Qd,↓Qh]
 refine Qj ht hv (by decide) ?_
 simp only[↓Qm,↓Qy,e0]
 rcases hs with ⟨h0,rfl⟩|⟨h0,h1,rfl⟩
 ·rw[Q2 (by omega)]
  exact hR
 ·rw[Q1 (by omega)]
  simp only[↓Qd,↓Qh,↓Qk ht.c1,↓Qx]
  exact YN ht (Tab.slot_add ht h1) h1 hR
theorem Qcs {vt x:Nat} (hv:VT bs pos vt) (hs:Sc 1 bs pos vt 94 0 x) (hR:R (.int .u8 (x:Int)) H):
  FnS prog 246 #[.pointer (some ⟨p,0,none⟩)] H R:=by
 have e0:=QE ht (vt:=vt) (vo:=94)
 apply w246
 unfold s246
 simp only[↓Qd,↓Qh]
 refine Qj ht hv (by decide) ?_
 simp only[↓Qm,↓Qy,e0]
 rcases hs with ⟨h0,rfl⟩|⟨h0,h1,rfl⟩
 ·rw[Q2 (by omega)]
  exact hR
 ·rw[Q1 (by omega)]
  simp only[↓Qd,↓Qh,↓Qk ht.c1,↓Qx]
  exact YN ht (Tab.slot_add ht h1) h1 hR
theorem Qdi {vt q:Nat} {c:Array Value} {e:TypeId} (hv:VT bs pos vt) (hq:H[q]?=some (.cells c e (0,0))) (hc:c.size=2) (hpq:q≠p) (h0:slotAt bs vt 96=0->R (.bool false) H)
  (h1:slotAt bs vt 96≠0->pos+slotAt bs vt 96+4<=bs.length/\tgt bs (pos+slotAt bs vt 96)<=bs.length/\R (.bool true) (setB H q (.cells #[bsl B 0 bs.length bs.length,.int .u32 (tgt bs (pos+slotAt bs vt 96):Nat)] e (0,0)))):
  FnS prog 247 #[.pointer (some ⟨p,0,none⟩),.pointer (some ⟨q,0,none⟩)] H R:=by
 have e0:=QE ht (vt:=vt) (vo:=96)
 apply w247
 unfold s247
 simp only[↓Qd,↓Qh]
 refine Qj ht hv (by decide) ?_
 simp only[↓Qm,↓Qy,e0]
 by_cases hz:slotAt bs vt 96=0
 ·rw[Q2 (by omega)]
  exact h0 hz
 ·rw[Q1 (by omega)]
  obtain ⟨g1,g2,hR⟩:=h1 hz
  try simp only[↓Qd,↓Qh]
  exact QdW ht rfl g1 g2 hq hc hpq hR
theorem QbC {vt k n at_:Nat} (hv:VT bs pos vt) (hs:Qc2 k bs pos vt 98 n at_) (hR:R (.int .i64 n) H):
  FnS prog 249 #[.pointer (some ⟨p,0,none⟩)] H R:=by
 have e0:=QE ht (vt:=vt) (vo:=98)
 apply w249
 unfold s249
 simp only[↓Qd,↓Qh]
 refine Qj ht hv (by decide) ?_
 simp only[↓Qm,↓Qy,e0]
 rcases hs with ⟨h0,rfl⟩|⟨h0,h1,rfl,h3,h4,h5⟩
 ·rw[Q2 (by omega)]
  exact hR
 ·rw[Q1 (by omega)]
  try simp only[↓Qd,↓Qh]
  refine QT ht rfl (by omega) (by omega) ?_
  rw[h3];exact hR
theorem Qd1 {vt n at_ i:Nat} (hv:VT bs pos vt) (hs:Qc2 1 bs pos vt 98 n at_) (hi:i<n) (hR:R (.int .u8 (byteN bs (at_+1*i):Int)) H):
  FnS prog 250 #[.pointer (some ⟨p,0,none⟩),.int .i64 (i:Nat)] H R:=by
 have e0:=QE ht (vt:=vt) (vo:=98)
 apply w250
 unfold s250
 simp only[↓Qd,↓Qh]
 refine Qj ht hv (by decide) ?_
 simp only[↓Qm,↓Qy,e0]
 rcases hs with ⟨h0,rfl⟩|⟨h0,h1,rfl,h3,h4,h5⟩
 ·omega
 ·rw[Q1 (by omega)]
  try simp only[↓Qd,↓Qh]
  refine Ye ht rfl (by omega) (by omega) ?_
  simp only[↓Qd,↓Qh,↓YQ,↓Qx,↓Qm]
  have h6:tgt bs (pos+slotAt bs vt 98)+4+1*i+1<=bs.length:=by omega
  exact YN ht (Tab.item ht h6) h6 hR
theorem Qbf {vt x:Nat} (hv:VT bs pos vt) (hs:Sc 1 bs pos vt 4 2 x) (hR:R (.int .u8 (x:Int)) H):
  FnS prog 316 #[.pointer (some ⟨p,0,none⟩)] H R:=by
 have e0:=QE ht (vt:=vt) (vo:=4)
 apply w316
 unfold s316
 simp only[↓Qd,↓Qh]
 refine Qj ht hv (by decide) ?_
 simp only[↓Qm,↓Qy,e0]
 rcases hs with ⟨h0,rfl⟩|⟨h0,h1,rfl⟩
 ·rw[Q2 (by omega)]
  exact hR
 ·rw[Q1 (by omega)]
  simp only[↓Qd,↓Qh,↓Qk ht.c1,↓Qx]
  exact YN ht (Tab.slot_add ht h1) h1 hR
end
end Go.Proofs
namespace Go.Proofs
open Go Go.Vc
open Tryz (prog)
section
variable {H:Qf} {B o n c:Nat} {L:List UInt8} {e:TypeId} (hB:H[B]?=some (.cells (u8c L) e (0,0))) {R:Kn}
include hB
set_option maxHeartbeats 1000000 in
theorem Qgm {x:Int} (ho:o+2<=L.length) (hn:2<=n) (hR:R (.tuple #[]) (wr H B e (QaC L o (leB x 2)))):FnS prog 373 #[bsl B o n c,.int .u16 x] H R:=by
 rw[leB_2]at hR
 have hc:=Zu (Qe8 hB) (o:=o) (i:=1) (by omega)
 have i0:(0:Int)<n:=by omega
 have i1:(1:Int)<n:=by omega
 apply w373
 unfold s373
 have e0:IntKind.u8.wrap x=((Zc x 0).toNat:Int):=byte_0 x
 have e1:IntKind.u8.wrap (x.fdiv (2^(min (Int.toNat 8) IntKind.u16.bits)))=((Zc x 1).toNat:Int):=Zl x 1
 simp only[↓QR (by decide:(0:Int)<=0) i0,↓QR (by decide:(0:Int)<=1) i1,show Int.toNat 0=0 from rfl,show Int.toNat 1=1 from rfl,Nat.mul_one,Nat.zero_mul,Nat.one_mul,↓Qk hc,↓Qm,↓Zb (by decide:(0:Int)<=8),e0,e1]
 rw[<-Qe4 hB]
 rw[Z5 hB (by simp;omega)]
 rw[Z5 hB (by simp;omega)]
 exact hR
set_option maxHeartbeats 1000000 in
theorem go_WriteInt16 {x:Int} (ho:o+2<=L.length) (hn:2<=n) (hR:R (.tuple #[]) (wr H B e (QaC L o (leB x 2)))):FnS prog 367 #[bsl B o n c,.int .i16 x] H R:=by
 rw[leB_2]at hR
 have hc:=Zu (Qe8 hB) (o:=o) (i:=1) (by omega)
 have i0:(0:Int)<n:=by omega
 have i1:(1:Int)<n:=by omega
 apply w367
 unfold s367
 have e0:IntKind.u8.wrap x=((Zc x 0).toNat:Int):=byte_0 x
 have e1:IntKind.u8.wrap (x.fdiv (2^(min (Int.toNat 8) IntKind.i16.bits)))=((Zc x 1).toNat:Int):=Zl x 1
 simp only[↓QR (by decide:(0:Int)<=0) i0,↓QR (by decide:(0:Int)<=1) i1,show Int.toNat 0=0 from rfl,show Int.toNat 1=1 from rfl,Nat.mul_one,Nat.zero_mul,Nat.one_mul,↓Qk hc,↓Qm,↓Zb (by decide:(0:Int)<=8),e0,e1]
 rw[<-Qe4 hB]
 rw[Z5 hB (by simp;omega)]
 rw[Z5 hB (by simp;omega)]
 exact hR
set_option maxHeartbeats 1000000 in
theorem Qe3 {x:Int} (ho:o+4<=L.length) (hn:4<=n) (hR:R (.tuple #[]) (wr H B e (QaC L o (leB x 4)))):FnS prog 351 #[bsl B o n c,.int .u32 x] H R:=by
 rw[leB_4]at hR
 have hc:=Zu (Qe8 hB) (o:=o) (i:=3) (by omega)
 have i0:(0:Int)<n:=by omega
 have i1:(1:Int)<n:=by omega
 have i2:(2:Int)<n:=by omega
 have i3:(3:Int)<n:=by omega
 apply w351
 unfold s351
 have e0:IntKind.u8.wrap x=((Zc x 0).toNat:Int):=byte_0 x
 have e1:IntKind.u8.wrap (x.fdiv (2^(min (Int.toNat 8) IntKind.u32.bits)))=((Zc x 1).toNat:Int):=Zl x 1
 have e2:IntKind.u8.wrap (x.fdiv (2^(min (Int.toNat 16) IntKind.u32.bits)))=((Zc x 2).toNat:Int):=Zl x 2
 have e3:IntKind.u8.wrap (x.fdiv (2^(min (Int.toNat 24) IntKind.u32.bits)))=((Zc x 3).toNat:Int):=Zl x 3
 simp only[↓QR (by decide:(0:Int)<=0) i0,↓QR (by decide:(0:Int)<=1) i1,↓QR (by decide:(0:Int)<=2) i2,↓QR (by decide:(0:Int)<=3) i3,show Int.toNat 0=0 from rfl,show Int.toNat 1=1 from rfl,show Int.toNat 2=2 from rfl,show Int.toNat 3=3 from rfl,Nat.mul_one,Nat.zero_mul,Nat.one_mul,↓Qk hc,↓Qm,↓Zb (by decide:(0:Int)<=8),↓Zb (by decide:(0:Int)<=16),↓Zb (by decide:(0:Int)<=24),e0,e1,e2,e3]
 rw[<-Qe4 hB]
 rw[Z5 hB (by simp;omega)]
 rw[Z5 hB (by simp;omega)]
 rw[Z5 hB (by simp;omega)]
 rw[Z5 hB (by simp;omega)]
 exact hR
set_option maxHeartbeats 1000000 in
theorem QgU {x:Int} (ho:o+4<=L.length) (hn:4<=n) (hR:R (.tuple #[]) (wr H B e (QaC L o (leB x 4)))):FnS prog 370 #[bsl B o n c,.int .i32 x] H R:=by
 rw[leB_4]at hR
 have hc:=Zu (Qe8 hB) (o:=o) (i:=3) (by omega)
 have i0:(0:Int)<n:=by omega
 have i1:(1:Int)<n:=by omega
 have i2:(2:Int)<n:=by omega
 have i3:(3:Int)<n:=by omega
 apply w370
 unfold s370
 have e0:IntKind.u8.wrap x=((Zc x 0).toNat:Int):=byte_0 x
 have e1:IntKind.u8.wrap (x.fdiv (2^(min (Int.toNat 8) IntKind.i32.bits)))=((Zc x 1).toNat:Int):=Zl x 1
 have e2:IntKind.u8.wrap (x.fdiv (2^(min (Int.toNat 16) IntKind.i32.bits)))=((Zc x 2).toNat:Int):=Zl x 2
 have e3:IntKind.u8.wrap (x.fdiv (2^(min (Int.toNat 24) IntKind.i32.bits)))=((Zc x 3).toNat:Int):=Zl x 3
 simp only[↓QR (by decide:(0:Int)<=0) i0,↓QR (by decide:(0:Int)<=1) i1,↓QR (by decide:(0:Int)<=2) i2,↓QR (by decide:(0:Int)<=3) i3,show Int.toNat 0=0 from rfl,show Int.toNat 1=1 from rfl,show Int.toNat 2=2 from rfl,show Int.toNat 3=3 from rfl,Nat.mul_one,Nat.zero_mul,Nat.one_mul,↓Qk hc,↓Qm,↓Zb (by decide:(0:Int)<=8),↓Zb (by decide:(0:Int)<=16),↓Zb (by decide:(0:Int)<=24),e0,e1,e2,e3]
 rw[<-Qe4 hB]
 rw[Z5 hB (by simp;omega)]
 rw[Z5 hB (by simp;omega)]
 rw[Z5 hB (by simp;omega)]
 rw[Z5 hB (by simp;omega)]
 exact hR
set_option maxHeartbeats 1000000 in
theorem Qgj {x:Int} (ho:o+8<=L.length) (hn:8<=n) (hR:R (.tuple #[]) (wr H B e (QaC L o (leB x 8)))):FnS prog 333 #[bsl B o n c,.int .u64 x] H R:=by
 rw[leB_8]at hR
 have hc:=Zu (Qe8 hB) (o:=o) (i:=7) (by omega)
 have i0:(0:Int)<n:=by omega
 have i1:(1:Int)<n:=by omega
 have i2:(2:Int)<n:=by omega
 have i3:(3:Int)<n:=by omega
 have i4:(4:Int)<n:=by omega
 have i5:(5:Int)<n:=by omega
 have i6:(6:Int)<n:=by omega
 have i7:(7:Int)<n:=by omega
 apply w333
 unfold s333
 have e0:IntKind.u8.wrap x=((Zc x 0).toNat:Int):=byte_0 x
 have e1:IntKind.u8.wrap (x.fdiv (2^(min (Int.toNat 8) IntKind.u64.bits)))=((Zc x 1).toNat:Int):=Zl x 1
 have e2:IntKind.u8.wrap (x.fdiv (2^(min (Int.toNat 16) IntKind.u64.bits)))=((Zc x 2).toNat:Int):=Zl x 2
 have e3:IntKind.u8.wrap (x.fdiv (2^(min (Int.toNat 24) IntKind.u64.bits)))=((Zc x 3).toNat:Int):=Zl x 3
 have e4:IntKind.u8.wrap (x.fdiv (2^(min (Int.toNat 32) IntKind.u64.bits)))=((Zc x 4).toNat:Int):=Zl x 4
 have e5:IntKind.u8.wrap (x.fdiv (2^(min (Int.toNat 40) IntKind.u64.bits)))=((Zc x 5).toNat:Int):=Zl x 5
 have e6:IntKind.u8.wrap (x.fdiv (2^(min (Int.toNat 48) IntKind.u64.bits)))=((Zc x 6).toNat:Int):=Zl x 6
 have e7:IntKind.u8.wrap (x.fdiv (2^(min (Int.toNat 56) IntKind.u64.bits)))=((Zc x 7).toNat:Int):=Zl x 7
 simp only[↓QR (by decide:(0:Int)<=0) i0,↓QR (by decide:(0:Int)<=1) i1,↓QR (by decide:(0:Int)<=2) i2,↓QR (by decide:(0:Int)<=3) i3,↓QR (by decide:(0:Int)<=4) i4,↓QR (by decide:(0:Int)<=5) i5,↓QR (by decide:(0:Int)<=6) i6,↓QR (by decide:(0:Int)<=7) i7,show Int.toNat 0=0 from rfl,show Int.toNat 1=1 from rfl,show Int.toNat 2=2 from rfl,show Int.toNat 3=3 from rfl,show Int.toNat 4=4 from rfl,show Int.toNat 5=5 from rfl,show Int.toNat 6=6 from rfl,show Int.toNat 7=7 from rfl,Nat.mul_one,Nat.zero_mul,Nat.one_mul,↓Qk hc,↓Qm,↓Zb (by decide:(0:Int)<=8),↓Zb (by decide:(0:Int)<=16),↓Zb (by decide:(0:Int)<=24),↓Zb (by decide:(0:Int)<=32),↓Zb (by decide:(0:Int)<=40),↓Zb (by decide:(0:Int)<=48),↓Zb (by decide:(0:Int)<=56),e0,e1,e2,e3,e4,e5,e6,e7]
 rw[<-Qe4 hB]
 rw[Z5 hB (by simp;omega)]
 rw[Z5 hB (by simp;omega)]
 rw[Z5 hB (by simp;omega)]
 rw[Z5 hB (by simp;omega)]
 rw[Z5 hB (by simp;omega)]
 rw[Z5 hB (by simp;omega)]
 rw[Z5 hB (by simp;omega)]
 rw[Z5 hB (by simp;omega)]
 exact hR
set_option maxHeartbeats 1000000 in
theorem go_WriteInt64 {x:Int} (ho:o+8<=L.length) (hn:8<=n) (hR:R (.tuple #[]) (wr H B e (QaC L o (leB x 8)))):FnS prog 331 #[bsl B o n c,.int .i64 x] H R:=by
 rw[leB_8]at hR
 have hc:=Zu (Qe8 hB) (o:=o) (i:=7) (by omega)
 have i0:(0:Int)<n:=by omega
 have i1:(1:Int)<n:=by omega
 have i2:(2:Int)<n:=by omega
 have i3:(3:Int)<n:=by omega
 have i4:(4:Int)<n:=by omega
 have i5:(5:Int)<n:=by omega
 have i6:(6:Int)<n:=by omega
 have i7:(7:Int)<n:=by omega
 apply w331
 unfold s331
 have e0:IntKind.u8.wrap x=((Zc x 0).toNat:Int):=byte_0 x
 have e1:IntKind.u8.wrap (x.fdiv (2^(min (Int.toNat 8) IntKind.i64.bits)))=((Zc x 1).toNat:Int):=Zl x 1
 have e2:IntKind.u8.wrap (x.fdiv (2^(min (Int.toNat 16) IntKind.i64.bits)))=((Zc x 2).toNat:Int):=Zl x 2
 have e3:IntKind.u8.wrap (x.fdiv (2^(min (Int.toNat 24) IntKind.i64.bits)))=((Zc x 3).toNat:Int):=Zl x 3
 have e4:IntKind.u8.wrap (x.fdiv (2^(min (Int.toNat 32) IntKind.i64.bits)))=((Zc x 4).toNat:Int):=Zl x 4
 have e5:IntKind.u8.wrap (x.fdiv (2^(min (Int.toNat 40) IntKind.i64.bits)))=((Zc x 5).toNat:Int):=Zl x 5
 have e6:IntKind.u8.wrap (x.fdiv (2^(min (Int.toNat 48) IntKind.i64.bits)))=((Zc x 6).toNat:Int):=Zl x 6
 have e7:IntKind.u8.wrap (x.fdiv (2^(min (Int.toNat 56) IntKind.i64.bits)))=((Zc x 7).toNat:Int):=Zl x 7
 simp only[↓QR (by decide:(0:Int)<=0) i0,↓QR (by decide:(0:Int)<=1) i1,↓QR (by decide:(0:Int)<=2) i2,↓QR (by decide:(0:Int)<=3) i3,↓QR (by decide:(0:Int)<=4) i4,↓QR (by decide:(0:Int)<=5) i5,↓QR (by decide:(0:Int)<=6) i6,↓QR (by decide:(0:Int)<=7) i7,show Int.toNat 0=0 from rfl,show Int.toNat 1=1 from rfl,show Int.toNat 2=2 from rfl,show Int.toNat 3=3 from rfl,show Int.toNat 4=4 from rfl,show Int.toNat 5=5 from rfl,show Int.toNat 6=6 from rfl,show Int.toNat 7=7 from rfl,Nat.mul_one,Nat.zero_mul,Nat.one_mul,↓Qk hc,↓Qm,↓Zb (by decide:(0:Int)<=8),↓Zb (by decide:(0:Int)<=16),↓Zb (by decide:(0:Int)<=24),↓Zb (by decide:(0:Int)<=32),↓Zb (by decide:(0:Int)<=40),↓Zb (by decide:(0:Int)<=48),↓Zb (by decide:(0:Int)<=56),e0,e1,e2,e3,e4,e5,e6,e7]
 rw[<-Qe4 hB]
 rw[Z5 hB (by simp;omega)]
 rw[Z5 hB (by simp;omega)]
 rw[Z5 hB (by simp;omega)]
 rw[Z5 hB (by simp;omega)]
 rw[Z5 hB (by simp;omega)]
 rw[Z5 hB (by simp;omega)]
 rw[Z5 hB (by simp;omega)]
 rw[Z5 hB (by simp;omega)]
 exact hR
set_option maxHeartbeats 1000000 in
theorem go_WriteInt8 {x:Int} (ho:o+1<=L.length) (hn:1<=n) (hR:R (.tuple #[]) (wr H B e (QaC L o (leB x 1)))):FnS prog 366 #[bsl B o n c,.int .i8 x] H R:=by
 rw[leB_1]at hR
 have hc:=Zu (Qe8 hB) (o:=o) (i:=0) (by omega)
 have i0:(0:Int)<n:=by omega
 apply w366
 unfold s366
 have e0:IntKind.u8.wrap x=((Zc x 0).toNat:Int):=byte_0 x
 simp only[↓QR (by decide:(0:Int)<=0) i0,show Int.toNat 0=0 from rfl,Nat.mul_one,Nat.zero_mul,Nat.one_mul,↓Qm,e0]
 rw[<-Qe4 hB]
 rw[Z5 hB (by simp;omega)]
 exact hR
theorem go_WriteUint8 {b:UInt8} (ho:o+1<=L.length) (hn:1<=n) (hR:R (.tuple #[]) (wr H B e (QaC L o [b]))):FnS prog 352 #[bsl B o n c,.int .u8 (b.toNat:Int)] H R:=by
 have i0:(0:Int)<n:=by omega
 apply w352
 unfold s352
 simp only[↓QR (by decide:(0:Int)<=0) i0,show Int.toNat 0=0 from rfl,Nat.zero_mul]
 rw[<-Qe4 hB,Z5 hB (by omega)]
 exact hR
theorem go_WriteByte {b:UInt8} (ho:o+1<=L.length) (hn:1<=n) (hR:R (.tuple #[]) (wr H B e (QaC L o [b]))):FnS prog 320 #[bsl B o n c,.int .u8 (b.toNat:Int)] H R:=by
 apply w320
 unfold s320
 exact go_WriteUint8 hB ho hn hR
theorem go_WriteBool {b:Bool} (ho:o+1<=L.length) (hn:1<=n) (hR:R (.tuple #[]) (wr H B e (QaC L o [if b then 1 else 0]))):FnS prog 329 #[bsl B o n c,.bool b] H R:=by
 have i0:(0:Int)<n:=by omega
 apply w329
 unfold s329
 simp only[↓QR (by decide:(0:Int)<=0) i0,show Int.toNat 0=0 from rfl,Nat.zero_mul]
 have s0:(Value.int .u8 0)= .int .u8 ((0:UInt8).toNat:Int):=rfl
 have s1:(Value.int .u8 1)= .int .u8 ((1:UInt8).toNat:Int):=rfl
 rw[<-Qe4 hB,s0,Z5 hB (by omega)]
 cases b
 ·exact hR
 ·rw[Qf3,s1,Z5 hB (by simp only[List.length_set];omega),Nat.add_zero,List.set_set]
  exact hR
theorem Qii {x:Int} (ho:o+4<=L.length) (hn:4<=n) (hR:R (.tuple #[]) (wr H B e (QaC L o (leB x 4)))):FnS prog 319 #[bsl B o n c,.int .u32 x] H R:=by
 apply w319
 unfold s319
 exact Qe3 hB ho hn hR
theorem Qd4 {x:Int} (ho:o+4<=L.length) (hn:4<=n) (hR:R (.tuple #[]) (wr H B e (QaC L o (leB x 4)))):FnS prog 363 #[bsl B o n c,.int .i32 x] H R:=by
 apply w363
 unfold s363
 exact QgU hB ho hn hR
theorem Qih {x:Int} (ho:o+2<=L.length) (hn:2<=n) (hR:R (.tuple #[]) (wr H B e (QaC L o (leB x 2)))):FnS prog 374 #[bsl B o n c,.int .u16 x] H R:=by
 apply w374
 unfold s374
 exact Qgm hB ho hn hR
omit hB in
theorem Qt {w:World} {n:Nat}:(callFunc 180 #[.float .f32 n]).run prog w= .ok (.value (.int .u32 n)) w:=by
 simp only[callFunc,Sem.run_bind,run_program,Result.andThen_ok,Tryz.func180]
 rfl
omit hB in
theorem Qds {w:World} {n:Nat}:(callFunc 194 #[.float .f64 n]).run prog w= .ok (.value (.int .u64 n)) w:=by
 simp only[callFunc,Sem.run_bind,run_program,Result.andThen_ok,Tryz.func194]
 rfl
theorem go_WriteFloat32 {x:Nat} (ho:o+4<=L.length) (hn:4<=n) (hR:R (.tuple #[]) (wr H B e (QaC L o (leB x 4)))):FnS prog 369 #[bsl B o n c,.float .f32 x] H R:=by
 apply w369
 unfold s369
 refine QW (fun w=>Qt) ?_
 exact Qe3 hB ho hn hR
theorem go_WriteFloat64 {x:Nat} (ho:o+8<=L.length) (hn:8<=n) (hR:R (.tuple #[]) (wr H B e (QaC L o (leB x 8)))):FnS prog 332 #[bsl B o n c,.float .f64 x] H R:=by
 apply w332
 unfold s332
 refine QW (fun w=>Qds) ?_
 exact Qgj hB ho hn hR
end
end Go.Proofs
namespace Go.Proofs
open Go Go.Vc
open Tryz (prog)
set_option maxRecDepth 100000
def s18 (d:Value) (h:Qf) (R:Kn):Prop:=
 QO (fun b=>
 Ql prog .leq 3 d (.int .i64 0) fun f=>
 IfK f
 (b [(.int .i64 0)] h)
 (b [d] h)) fun b=>∀c:Value,∀e:Qf,b [c] e->
 QQ z134.toList [] fun g=>
 YO e (.cells (Value.cells g) 134) fun a i=>
 Qf5 i 5 1 z5 c c fun j l=>
 Qs a fun m=>
 Qg m 0 fun o=>
 StK l 1 o j fun p=>
 QC .u32 c fun q=>
 Qs a fun r=>
 Qg r 5 fun s=>
 StK p 1 s q fun t=>
 Qs a fun u=>
 Qg u 1 fun v=>
 StK t 1 v (.int .i64 1) fun w=>
 Qf5 w 68 4 z68 (.int .i64 0) (.int .i64 16) fun y z=>
 Qs a fun a0=>
 Qg a0 4 fun a1=>
 StK z 1 a1 y fun a2=>
 R a a2
theorem w18 {a h R} (H:s18 a h R):FnS prog 18 #[a] h R:=wq Tryz.func18 (by kernel_rfl) H
def s19 (a c:Value) (h:Qf) (R:Kn):Prop:=
 Qa prog 69 #[a] h fun _x5 b=>
 Qs a fun d=>
 Qg d 1 fun e=>
 LdK b e fun f=>
 Qa prog 70 #[a,f,(.int .i64 4)] b fun _x11 g=>
 Qa prog 71 #[a,c] g fun _x14 i=>
 Qs a fun j=>
 Qg j 7 fun l=>
 StK i 1 l (.bool true) fun m=>
 R (.tuple #[]) m
theorem w19 {a b h R} (H:s19 a b h R):FnS prog 19 #[a,b] h R:=wq Tryz.func19 (by kernel_rfl) H
def s22 (a:Value) (h:Qf) (R:Kn):Prop:=
 Qa prog 165 #[a] h fun _x4 b=>
 Qs a fun d=>
 Qg d 0 fun e=>
 LdK b e fun f=>
 Qa prog 166 #[a] b fun g c=>
 Qn b c<|
 QbH 1 f (some g) none fun i=>
 R i c
theorem w22 {a h R} (H:s22 a h R):FnS prog 22 #[a] h R:=wq Tryz.func22 (by kernel_rfl) H
def s69 (a:Value) (h:Qf) (R:Kn):Prop:=
 Qs a fun b=>
 Qg b 6 fun c=>
 LdK h c fun d=>
 IfK d
 (False)
 (R (.tuple #[]) h)
theorem w69 {a h R} (H:s69 a h R):FnS prog 69 #[a] h R:=wq Tryz.func69 (by kernel_rfl) H
def s70 (a c i:Value) (h:Qf) (R:Kn):Prop:=
 QO (fun d=>
 Qs a fun q=>
 Qg q 1 fun r=>
 LdK h r fun s=>
 Ql prog .gtr 3 c s fun t=>
 IfK t
 (Qs a fun u=>
 Qg u 1 fun v=>
 StK h 1 v c fun w=>
 d [] w)
 (d [] h)) fun d=>∀e:Qf,d [] e->
 Qs a fun y=>
 Qg y 0 fun z=>
 LdK e z fun a0=>
 Y8 a0 fun a1=>
 Qa prog 166 #[a] e fun a2 j=>
 Qn e j<|
 QC .i64 a2 fun a3=>
 Ql prog .sub 3 a1 a3 fun a4=>
 Ql prog .add 3 a4 i fun a5=>
 Z1 prog (Op.unary .xor a5) fun a6=>
 Ql prog .add 3 a6 (.int .i64 1) fun a7=>
 Ql prog .sub 3 c (.int .i64 1) fun a8=>
 Ql prog .and 3 a7 a8 fun l=>
 QO (fun f=>
 Y6 [] j fun m o=>∀b:Qf,m o [] b->
 Qs a fun a9=>
 Qg a9 5 fun b0=>
 LdK b b0 fun b1=>
 QC .i64 b1 fun b2=>
 Ql prog .add 3 l c fun b3=>
 Ql prog .add 3 b3 i fun b4=>
 Ql prog .leq 3 b2 b4 fun b5=>
 IfK b5
 (Qs a fun b6=>
 Qg b6 0 fun b7=>
 LdK b b7 fun b8=>
 Y8 b8 fun b9=>
 Qa prog 253 #[a] b fun _x52 g=>
 Qs a fun c0=>
 Qg c0 5 fun c1=>
 LdK g c1 fun c2=>
 Qs a fun c3=>
 Qg c3 0 fun c4=>
 LdK g c4 fun c5=>
 Y8 c5 fun c6=>
 Ql prog .sub 3 c6 b9 fun c7=>
 QC .u32 c7 fun c8=>
 Ql prog .add 68 c2 c8 fun c9=>
 Qs a fun d0=>
 Qg d0 5 fun d1=>
 StK g 1 d1 c9 fun d2=>
 Yb m o [] d2)
 (f [] b)) fun f=>∀p:Qf,f [] p->
 Qa prog 254 #[a,l] p fun _x70 d3=>
 R (.tuple #[]) d3
theorem w70 {a b c h R} (H:s70 a b c h R):FnS prog 70 #[a,b,c] h R:=wq Tryz.func70 (by kernel_rfl) H
def s71 (a c:Value) (h:Qf) (R:Kn):Prop:=
 Qa prog 70 #[a,(.int .i64 4),(.int .i64 0)] h fun _x6 e=>
 QO (fun b=>
 Qa prog 255 #[a] e fun f g=>
 Ql prog .leq 68 c f fun i=>
 Z1 prog (Op.unary .not i) fun j=>
 IfK j
 (False)
 (b [] g)) fun b=>∀d:Qf,b [] d->
 Qa prog 255 #[a] d fun l m=>
 Ql prog .sub 68 l c fun o=>
 Ql prog .add 68 o (.int .u32 4) fun p=>
 Qa prog 256 #[a,p] m fun _x20 q=>
 R (.tuple #[]) q
theorem w71 {a b h R} (H:s71 a b h R):FnS prog 71 #[a,b] h R:=wq Tryz.func71 (by kernel_rfl) H
def s83 (a b:Value) (h:Qf) (R:Kn):Prop:=
 Qa prog 69 #[a] h fun _x7 f=>
 Qs a fun g=>
 Qg g 6 fun i=>
 StK f 1 i (.bool true) fun j=>
 Qfo b fun l=>
 Ql prog .add 3 l (.int .i64 1) fun m=>
 Ql prog .mul 3 m (.int .i64 1) fun o=>
 Qa prog 70 #[a,(.int .i64 4),o] j fun _x16 p=>
 Qa prog 257 #[a,(.int .u8 0)] p fun _x18 d=>
 Qfo b fun q=>
 QC .u32 q fun e=>
 Qs a fun r=>
 Qg r 5 fun s=>
 LdK d s fun t=>
 Ql prog .sub 68 t e fun u=>
 Qs a fun v=>
 Qg v 5 fun w=>
 StK d 1 w u fun c=>
 Qs a fun y=>
 Qg y 0 fun z=>
 LdK c z fun a0=>
 Qs a fun a1=>
 Qg a1 5 fun a2=>
 LdK c a2 fun a3=>
 Qs a fun a4=>
 Qg a4 5 fun a5=>
 LdK c a5 fun a6=>
 Ql prog .add 68 a6 e fun a7=>
 QbH 1 a0 (some a3) (some a7) fun a8=>
 CopyK c 1 a8 b fun _x46 a9=>
 Qfo b fun b0=>
 Qa prog 88 #[a,b0] a9 fun b1 b2=>
 R b1 b2
theorem w83 {a b h R} (H:s83 a b h R):FnS prog 83 #[a,b] h R:=wq Tryz.func83 (by kernel_rfl) H
def s84 (a b:Value) (h:Qf) (R:Kn):Prop:=
 Qa prog 69 #[a] h fun _x7 f=>
 Qs a fun g=>
 Qg g 6 fun i=>
 StK f 1 i (.bool true) fun j=>
 Y8 b fun l=>
 Ql prog .add 3 l (.int .i64 1) fun m=>
 Ql prog .mul 3 m (.int .i64 1) fun o=>
 Qa prog 70 #[a,(.int .i64 4),o] j fun _x16 p=>
 Qa prog 257 #[a,(.int .u8 0)] p fun _x18 d=>
 Y8 b fun q=>
 QC .u32 q fun e=>
 Qs a fun r=>
 Qg r 5 fun s=>
 LdK d s fun t=>
 Ql prog .sub 68 t e fun u=>
 Qs a fun v=>
 Qg v 5 fun w=>
 StK d 1 w u fun c=>
 Qs a fun y=>
 Qg y 0 fun z=>
 LdK c z fun a0=>
 Qs a fun a1=>
 Qg a1 5 fun a2=>
 LdK c a2 fun a3=>
 Qs a fun a4=>
 Qg a4 5 fun a5=>
 LdK c a5 fun a6=>
 Ql prog .add 68 a6 e fun a7=>
 QbH 1 a0 (some a3) (some a7) fun a8=>
 CopyK c 1 a8 b fun _x46 a9=>
 Y8 b fun b0=>
 Qa prog 88 #[a,b0] a9 fun b1 b2=>
 R b1 b2
theorem w84 {a b h R} (H:s84 a b h R):FnS prog 84 #[a,b] h R:=wq Tryz.func84 (by kernel_rfl) H
def s88 (a b:Value) (h:Qf) (R:Kn):Prop:=
 Qa prog 262 #[a] h fun _x6 c=>
 QC .u32 b fun d=>
 Qa prog 256 #[a,d] c fun _x10 e=>
 Qs a fun f=>
 Qg f 6 fun g=>
 StK e 1 g (.bool false) fun i=>
 Qa prog 255 #[a] i fun j l=>
 R j l
theorem w88 {a b h R} (H:s88 a b h R):FnS prog 88 #[a,b] h R:=wq Tryz.func88 (by kernel_rfl) H
def s93 (a b:Value) (h:Qf) (R:Kn):Prop:=
 Qa prog 70 #[a,(.int .i64 1),(.int .i64 0)] h fun _x5 c=>
 Qa prog 268 #[a,b] c fun _x8 d=>
 R (.tuple #[]) d
theorem w93 {a b h R} (H:s93 a b h R):FnS prog 93 #[a,b] h R:=wq Tryz.func93 (by kernel_rfl) H
def s99 (a b:Value) (h:Qf) (R:Kn):Prop:=
 Qa prog 70 #[a,(.int .i64 8),(.int .i64 0)] h fun _x5 c=>
 Qa prog 270 #[a,b] c fun _x8 d=>
 R (.tuple #[]) d
theorem w99 {a b h R} (H:s99 a b h R):FnS prog 99 #[a,b] h R:=wq Tryz.func99 (by kernel_rfl) H
def s101 (a b:Value) (h:Qf) (R:Kn):Prop:=
 Qa prog 70 #[a,(.int .i64 8),(.int .i64 0)] h fun _x5 c=>
 Qa prog 271 #[a,b] c fun _x8 d=>
 R (.tuple #[]) d
theorem w101 {a b h R} (H:s101 a b h R):FnS prog 101 #[a,b] h R:=wq Tryz.func101 (by kernel_rfl) H
def s106 (a b:Value) (h:Qf) (R:Kn):Prop:=
 Qa prog 70 #[a,(.int .i64 8),(.int .i64 0)] h fun _x5 c=>
 Qa prog 277 #[a,b] c fun _x8 d=>
 R (.tuple #[]) d
theorem w106 {a b h R} (H:s106 a b h R):FnS prog 106 #[a,b] h R:=wq Tryz.func106 (by kernel_rfl) H
def s113 (a b:Value) (h:Qf) (R:Kn):Prop:=
 Qa prog 70 #[a,(.int .i64 1),(.int .i64 0)] h fun _x5 c=>
 Qa prog 257 #[a,b] c fun _x8 d=>
 R (.tuple #[]) d
theorem w113 {a b h R} (H:s113 a b h R):FnS prog 113 #[a,b] h R:=wq Tryz.func113 (by kernel_rfl) H
def s165 (a:Value) (h:Qf) (R:Kn):Prop:=
 Qs a fun b=>
 Qg b 7 fun c=>
 LdK h c fun d=>
 Z1 prog (Op.unary .not d) fun e=>
 IfK e
 (False)
 (R (.tuple #[]) h)
theorem w165 {a h R} (H:s165 a h R):FnS prog 165 #[a] h R:=wq Tryz.func165 (by kernel_rfl) H
def s166 (a:Value) (h:Qf) (R:Kn):Prop:=
 Qs a fun b=>
 Qg b 5 fun c=>
 LdK h c fun d=>
 R d h
theorem w166 {a h R} (H:s166 a h R):FnS prog 166 #[a] h R:=wq Tryz.func166 (by kernel_rfl) H
def s253 (a:Value) (h:Qf) (R:Kn):Prop:=
 QO (fun i=>
 Qs a fun p=>
 Qg p 0 fun q=>
 LdK h q fun r=>
 Y8 r fun s=>
 Ql prog .and 2 s (.int .i64 3221225472) fun t=>
 Ql prog .neq 2 t (.int .i64 0) fun u=>
 IfK u
 (False)
 (i [] h)) fun i=>∀d:Qf,i [] d->
 Qs a fun v=>
 Qg v 0 fun w=>
 LdK d w fun y=>
 Y8 y fun z=>
 Ql prog .mul 3 z (.int .i64 2) fun j=>
 QO (fun e=>
 Ql prog .eql 3 j (.int .i64 0) fun a0=>
 IfK a0
 (e [(.int .i64 1)] d)
 (e [j] d)) fun e=>∀c:Value,∀b:Qf,e [c] b->
 QO (fun f=>
 Qs a fun a1=>
 Qg a1 0 fun a2=>
 LdK b a2 fun a3=>
 CapK a3 fun a4=>
 Ql prog .geq 3 a4 c fun a5=>
 IfK a5
 (Qs a fun a6=>
 Qg a6 0 fun a7=>
 LdK b a7 fun a8=>
 QbH 1 a8 none (some c) fun a9=>
 Qs a fun b0=>
 Qg b0 0 fun b1=>
 StK b 1 b1 a9 fun b2=>
 f [] b2)
 (Qs a fun b3=>
 Qg b3 0 fun b4=>
 LdK b b4 fun b5=>
 Y8 b5 fun b6=>
 Ql prog .sub 3 c b6 fun l=>
 Qf5 b 5 1 z5 l l fun b7 m=>
 Qs a fun b8=>
 Qg b8 0 fun b9=>
 LdK m b9 fun c0=>
 QdL m 5 1 1 z5 c0 b7 fun c1 c2=>
 Qs a fun c3=>
 Qg c3 0 fun c4=>
 StK c2 1 c4 c1 fun c5=>
 f [] c5)) fun f=>∀g:Qf,f [] g->
 Ql prog .quo 3 c (.int .i64 2) fun o=>
 Qs a fun c6=>
 Qg c6 0 fun c7=>
 LdK g c7 fun c8=>
 QbH 1 c8 (some o) none fun c9=>
 Qs a fun d0=>
 Qg d0 0 fun d1=>
 LdK g d1 fun d2=>
 QbH 1 d2 none (some o) fun d3=>
 CopyK g 1 c9 d3 fun _x68 d4=>
 R (.tuple #[]) d4
theorem w253 {a h R} (H:s253 a h R):FnS prog 253 #[a] h R:=wq Tryz.func253 (by kernel_rfl) H
def s254 (e f:Value) (h:Qf) (R:Kn):Prop:=
 Y6 [(.int .i64 0)] h fun c d=>∀a:Value,∀b:Qf,c d [a] b->
 Ql prog .lss 3 a f fun g=>
 IfK g
 (Qa prog 257 #[e,(.int .u8 0)] b fun _x11 i=>
 Ql prog .add 3 a (.int .i64 1) fun j=>
 Yb c d [j] i)
 (R (.tuple #[]) b)
theorem w254 {a b h R} (H:s254 a b h R):FnS prog 254 #[a,b] h R:=wq Tryz.func254 (by kernel_rfl) H
def s255 (a:Value) (h:Qf) (R:Kn):Prop:=
 Qs a fun b=>
 Qg b 0 fun c=>
 LdK h c fun d=>
 Y8 d fun e=>
 QC .u32 e fun f=>
 Qs a fun g=>
 Qg g 5 fun i=>
 LdK h i fun j=>
 Ql prog .sub 68 f j fun l=>
 R l h
theorem w255 {a h R} (H:s255 a h R):FnS prog 255 #[a] h R:=wq Tryz.func255 (by kernel_rfl) H
def s256 (a c:Value) (h:Qf) (R:Kn):Prop:=
 Qs a fun d=>
 Qg d 5 fun e=>
 LdK h e fun f=>
 Ql prog .sub 68 f (.int .u32 4) fun g=>
 Qs a fun i=>
 Qg i 5 fun j=>
 StK h 1 j g fun b=>
 Qs a fun l=>
 Qg l 0 fun m=>
 LdK b m fun o=>
 Qs a fun p=>
 Qg p 5 fun q=>
 LdK b q fun r=>
 QbH 1 o (some r) none fun s=>
 Qa prog 319 #[s,c] b fun _x21 t=>
 R (.tuple #[]) t
theorem w256 {a b h R} (H:s256 a b h R):FnS prog 256 #[a,b] h R:=wq Tryz.func256 (by kernel_rfl) H
def s257 (a c:Value) (h:Qf) (R:Kn):Prop:=
 Qs a fun d=>
 Qg d 5 fun e=>
 LdK h e fun f=>
 Ql prog .sub 68 f (.int .u32 1) fun g=>
 Qs a fun i=>
 Qg i 5 fun j=>
 StK h 1 j g fun b=>
 Qs a fun l=>
 Qg l 0 fun m=>
 LdK b m fun o=>
 Qs a fun p=>
 Qg p 5 fun q=>
 LdK b q fun r=>
 QbH 1 o (some r) none fun s=>
 Qa prog 320 #[s,c] b fun _x21 t=>
 R (.tuple #[]) t
theorem w257 {a b h R} (H:s257 a b h R):FnS prog 257 #[a,b] h R:=wq Tryz.func257 (by kernel_rfl) H
def s260 (a b c d:Value) (h:Qf) (R:Kn):Prop:=
 Qa prog 69 #[a] h fun _x10 e=>
 Qs a fun f=>
 Qg f 6 fun g=>
 StK e 1 g (.bool true) fun i=>
 Ql prog .mul 3 b c fun j=>
 Qa prog 70 #[a,(.int .i64 4),j] i fun _x18 l=>
 Ql prog .mul 3 b c fun m=>
 Qa prog 70 #[a,d,m] l fun _x24 o=>
 Qa prog 255 #[a] o fun p q=>
 R p q
theorem w260 {a b c d h R} (H:s260 a b c d h R):FnS prog 260 #[a,b,c,d] h R:=wq Tryz.func260 (by kernel_rfl) H
def s262 (a:Value) (h:Qf) (R:Kn):Prop:=
 Qs a fun b=>
 Qg b 6 fun c=>
 LdK h c fun d=>
 Z1 prog (Op.unary .not d) fun e=>
 IfK e
 (False)
 (R (.tuple #[]) h)
theorem w262 {a h R} (H:s262 a h R):FnS prog 262 #[a] h R:=wq Tryz.func262 (by kernel_rfl) H
def s268 (a c:Value) (h:Qf) (R:Kn):Prop:=
 Qs a fun d=>
 Qg d 5 fun e=>
 LdK h e fun f=>
 Ql prog .sub 68 f (.int .u32 1) fun g=>
 Qs a fun i=>
 Qg i 5 fun j=>
 StK h 1 j g fun b=>
 Qs a fun l=>
 Qg l 0 fun m=>
 LdK b m fun o=>
 Qs a fun p=>
 Qg p 5 fun q=>
 LdK b q fun r=>
 QbH 1 o (some r) none fun s=>
 Qa prog 329 #[s,c] b fun _x21 t=>
 R (.tuple #[]) t
theorem w268 {a b h R} (H:s268 a b h R):FnS prog 268 #[a,b] h R:=wq Tryz.func268 (by kernel_rfl) H
def s270 (a c:Value) (h:Qf) (R:Kn):Prop:=
 Qs a fun d=>
 Qg d 5 fun e=>
 LdK h e fun f=>
 Ql prog .sub 68 f (.int .u32 8) fun g=>
 Qs a fun i=>
 Qg i 5 fun j=>
 StK h 1 j g fun b=>
 Qs a fun l=>
 Qg l 0 fun m=>
 LdK b m fun o=>
 Qs a fun p=>
 Qg p 5 fun q=>
 LdK b q fun r=>
 QbH 1 o (some r) none fun s=>
 Qa prog 331 #[s,c] b fun _x21 t=>
 R (.tuple #[]) t
theorem w270 {a b h R} (H:s270 a b h R):FnS prog 270 #[a,b] h R:=wq Tryz.func270 (by kernel_rfl) H
def s271 (a c:Value) (h:Qf) (R:Kn):Prop:=
 Qs a fun d=>
 Qg d 5 fun e=>
 LdK h e fun f=>
 Ql prog .sub 68 f (.int .u32 8) fun g=>
 Qs a fun i=>
 Qg i 5 fun j=>
 StK h 1 j g fun b=>
 Qs a fun l=>
 Qg l 0 fun m=>
 LdK b m fun o=>
 Qs a fun p=>
 Qg p 5 fun q=>
 LdK b q fun r=>
 QbH 1 o (some r) none fun s=>
 Qa prog 332 #[s,c] b fun _x21 t=>
 R (.tuple #[]) t
theorem w271 {a b h R} (H:s271 a b h R):FnS prog 271 #[a,b] h R:=wq Tryz.func271 (by kernel_rfl) H
def s277 (a c:Value) (h:Qf) (R:Kn):Prop:=
 Qs a fun d=>
 Qg d 5 fun e=>
 LdK h e fun f=>
 Ql prog .sub 68 f (.int .u32 8) fun g=>
 Qs a fun i=>
 Qg i 5 fun j=>
 StK h 1 j g fun b=>
 Qs a fun l=>
 Qg l 0 fun m=>
 LdK b m fun o=>
 Qs a fun p=>
 Qg p 5 fun q=>
 LdK b q fun r=>
 QbH 1 o (some r) none fun s=>
 Qa prog 333 #[s,c] b fun _x21 t=>
 R (.tuple #[]) t
theorem w277 {a b h R} (H:s277 a b h R):FnS prog 277 #[a,b] h R:=wq Tryz.func277 (by kernel_rfl) H
def s278 (a d:Value) (h:Qf) (R:Kn):Prop:=
 Qa prog 69 #[a] h fun _x6 s=>
 Qs a fun t=>
 Qg t 6 fun u=>
 StK s 1 u (.bool true) fun g=>
 QO (fun e=>
 Qs a fun v=>
 Qg v 2 fun w=>
 LdK g w fun y=>
 CapK y fun z=>
 Ql prog .lss 3 z d fun b=>
 Qe b false (fun a0=>a0 a g) g fun a1 l=>
 Qe b false (fun a2=>Qs a1 fun a3=>a2 a3 l) l fun a4 m=>
 Qe b false (fun a5=>Qg a4 2 fun a6=>a5 a6 m) m fun a7 i=>
 Qe b false (fun a8=>LdK i a7 fun a9=>a8 a9 i) i fun b0 o=>
 Qe b false (fun b1=>Ql prog .eql 131 b0 (.slice none 0 0) fun b2=>b1 b2 o) o fun b3 j=>
 Yj b (.bool true) b3 fun b4=>
 IfK b4
 (Qf5 j 68 4 z68 d d fun b5 b6=>
 Qs a fun b7=>
 Qg b7 2 fun b8=>
 StK b6 1 b8 b5 fun b9=>
 e [] b9)
 (Qs a fun c0=>
 Qg c0 2 fun c1=>
 LdK j c1 fun c2=>
 QbH 1 c2 none (some d) fun c3=>
 Qs a fun c4=>
 Qg c4 2 fun c5=>
 StK j 1 c5 c3 fun c6=>
 Y6 [(.int .i64 0)] c6 fun p q=>∀f:Value,∀c:Qf,p q [f] c->
 Qs a fun c7=>
 Qg c7 2 fun c8=>
 LdK c c8 fun c9=>
 Y8 c9 fun d0=>
 Ql prog .lss 3 f d0 fun d1=>
 IfK d1
 (Qs a fun d2=>
 Qg d2 2 fun d3=>
 LdK c d3 fun d4=>
 Yn 1 d4 f fun d5=>
 StK c 1 d5 (.int .u32 0) fun d6=>
 Ql prog .add 3 f (.int .i64 1) fun d7=>
 Yb p q [d7] d6)
 (e [] c))) fun e=>∀r:Qf,e [] r->
 Qa prog 255 #[a] r fun d8 d9=>
 Qs a fun e0=>
 Qg e0 3 fun e1=>
 StK d9 1 e1 d8 fun e2=>
 R (.tuple #[]) e2
theorem w278 {a b h R} (H:s278 a b h R):FnS prog 278 #[a,b] h R:=wq Tryz.func278 (by kernel_rfl) H
def s280 (a e c f:Value) (h:Qf) (R:Kn):Prop:=
 Ql prog .neq 68 c f fun g=>
 IfK g
 (Qa prog 262 #[a] h fun _x12 i=>
 QO (fun b=>
 Qa prog 255 #[a] i fun j l=>
 Ql prog .neq 68 c j fun m=>
 IfK m
 (False)
 (b [] l)) fun b=>∀d:Qf,b [] d->
 Qa prog 335 #[a,e] d fun _x20 o=>
 R (.tuple #[]) o)
 (R (.tuple #[]) h)
theorem w280 {a b c d h R} (H:s280 a b c d h R):FnS prog 280 #[a,b,c,d] h R:=wq Tryz.func280 (by kernel_rfl) H
def s281 (a c b d:Value) (h:Qf) (R:Kn):Prop:=
 Ql prog .neq 23 b d fun e=>
 IfK e
 (Qa prog 327 #[a,b] h fun _x13 f=>
 Qa prog 335 #[a,c] f fun _x16 g=>
 R (.tuple #[]) g)
 (R (.tuple #[]) h)
theorem w281 {a b c d h R} (H:s281 a b c d h R):FnS prog 281 #[a,b,c,d] h R:=wq Tryz.func281 (by kernel_rfl) H
def s282 (a c b d:Value) (h:Qf) (R:Kn):Prop:=
 Ql prog .neq 68 b d fun e=>
 IfK e
 (Qa prog 71 #[a,b] h fun _x13 f=>
 Qa prog 335 #[a,c] f fun _x16 g=>
 R (.tuple #[]) g)
 (R (.tuple #[]) h)
theorem w282 {a b c d h R} (H:s282 a b c d h R):FnS prog 282 #[a,b,c,d] h R:=wq Tryz.func282 (by kernel_rfl) H
def s283 (a c b d:Value) (h:Qf) (R:Kn):Prop:=
 Ql prog .neq 5 b d fun e=>
 IfK e
 (Qa prog 113 #[a,b] h fun _x13 f=>
 Qa prog 335 #[a,c] f fun _x16 g=>
 R (.tuple #[]) g)
 (R (.tuple #[]) h)
theorem w283 {a b c d h R} (H:s283 a b c d h R):FnS prog 283 #[a,b,c,d] h R:=wq Tryz.func283 (by kernel_rfl) H
def s284 (g i j l:Value) (h:Qf) (R:Kn):Prop:=
 QO (fun a=>
 IfK j
 (a [(.int .u8 1)] h)
 (a [(.int .u8 0)] h)) fun a=>∀d:Value,∀c:Qf,a [d] c->
 QO (fun b=>
 IfK l
 (b [(.int .u8 1)] c)
 (b [(.int .u8 0)] c)) fun b=>∀e:Value,∀f:Qf,b [e] f->
 Qa prog 283 #[g,i,d,e] f fun _x16 m=>
 R (.tuple #[]) m
theorem w284 {a b c d h R} (H:s284 a b c d h R):FnS prog 284 #[a,b,c,d] h R:=wq Tryz.func284 (by kernel_rfl) H
def s285 (a c b d:Value) (h:Qf) (R:Kn):Prop:=
 Ql prog .neq 21 b d fun e=>
 IfK e
 (Qa prog 336 #[a,b] h fun _x13 f=>
 Qa prog 335 #[a,c] f fun _x16 g=>
 R (.tuple #[]) g)
 (R (.tuple #[]) h)
theorem w285 {a b c d h R} (H:s285 a b c d h R):FnS prog 285 #[a,b,c,d] h R:=wq Tryz.func285 (by kernel_rfl) H
def s286 (a c b d:Value) (h:Qf) (R:Kn):Prop:=
 Ql prog .neq 30 b d fun e=>
 IfK e
 (Qa prog 330 #[a,b] h fun _x13 f=>
 Qa prog 335 #[a,c] f fun _x16 g=>
 R (.tuple #[]) g)
 (R (.tuple #[]) h)
theorem w286 {a b c d h R} (H:s286 a b c d h R):FnS prog 286 #[a,b,c,d] h R:=wq Tryz.func286 (by kernel_rfl) H
def s287 (a c b d:Value) (h:Qf) (R:Kn):Prop:=
 Ql prog .neq 2 b d fun e=>
 IfK e
 (Qa prog 99 #[a,b] h fun _x13 f=>
 Qa prog 335 #[a,c] f fun _x16 g=>
 R (.tuple #[]) g)
 (R (.tuple #[]) h)
theorem w287 {a b c d h R} (H:s287 a b c d h R):FnS prog 287 #[a,b,c,d] h R:=wq Tryz.func287 (by kernel_rfl) H
def s288 (a c b d:Value) (h:Qf) (R:Kn):Prop:=
 Ql prog .neq 31 b d fun e=>
 IfK e
 (Qa prog 106 #[a,b] h fun _x13 f=>
 Qa prog 335 #[a,c] f fun _x16 g=>
 R (.tuple #[]) g)
 (R (.tuple #[]) h)
theorem w288 {a b c d h R} (H:s288 a b c d h R):FnS prog 288 #[a,b,c,d] h R:=wq Tryz.func288 (by kernel_rfl) H
def s289 (a c b d:Value) (h:Qf) (R:Kn):Prop:=
 Ql prog .neq 139 b d fun e=>
 IfK e
 (Qa prog 334 #[a,b] h fun _x13 f=>
 Qa prog 335 #[a,c] f fun _x16 g=>
 R (.tuple #[]) g)
 (R (.tuple #[]) h)
theorem w289 {a b c d h R} (H:s289 a b c d h R):FnS prog 289 #[a,b,c,d] h R:=wq Tryz.func289 (by kernel_rfl) H
def s290 (a c b d:Value) (h:Qf) (R:Kn):Prop:=
 Ql prog .neq 36 b d fun e=>
 IfK e
 (Qa prog 326 #[a,b] h fun _x13 f=>
 Qa prog 335 #[a,c] f fun _x16 g=>
 R (.tuple #[]) g)
 (R (.tuple #[]) h)
theorem w290 {a b c d h R} (H:s290 a b c d h R):FnS prog 290 #[a,b,c,d] h R:=wq Tryz.func290 (by kernel_rfl) H
def s291 (a:Value) (h:Qf) (R:Kn):Prop:=
 Qa prog 262 #[a] h fun _x5 b=>
 Qa prog 337 #[a] b fun c d=>
 Qs a fun e=>
 Qg e 6 fun f=>
 StK d 1 f (.bool false) fun g=>
 R c g
theorem w291 {a h R} (H:s291 a h R):FnS prog 291 #[a] h R:=wq Tryz.func291 (by kernel_rfl) H
def s326 (a b:Value) (h:Qf) (R:Kn):Prop:=
 Qa prog 70 #[a,(.int .i64 1),(.int .i64 0)] h fun _x5 c=>
 Qa prog 353 #[a,b] c fun _x8 d=>
 R (.tuple #[]) d
theorem w326 {a b h R} (H:s326 a b h R):FnS prog 326 #[a,b] h R:=wq Tryz.func326 (by kernel_rfl) H
def s327 (a b:Value) (h:Qf) (R:Kn):Prop:=
 Qa prog 70 #[a,(.int .i64 2),(.int .i64 0)] h fun _x5 c=>
 Qa prog 354 #[a,b] c fun _x8 d=>
 R (.tuple #[]) d
theorem w327 {a b h R} (H:s327 a b h R):FnS prog 327 #[a,b] h R:=wq Tryz.func327 (by kernel_rfl) H
def s328 (a c b d:Value) (h:Qf) (R:Kn):Prop:=
 Ql prog .neq 39 b d fun e=>
 IfK e
 (Qa prog 355 #[a,b] h fun _x13 f=>
 Qa prog 335 #[a,c] f fun _x16 g=>
 R (.tuple #[]) g)
 (R (.tuple #[]) h)
theorem w328 {a b c d h R} (H:s328 a b c d h R):FnS prog 328 #[a,b,c,d] h R:=wq Tryz.func328 (by kernel_rfl) H
def s330 (a b:Value) (h:Qf) (R:Kn):Prop:=
 Qa prog 70 #[a,(.int .i64 4),(.int .i64 0)] h fun _x5 c=>
 Qa prog 356 #[a,b] c fun _x8 d=>
 R (.tuple #[]) d
theorem w330 {a b h R} (H:s330 a b h R):FnS prog 330 #[a,b] h R:=wq Tryz.func330 (by kernel_rfl) H
def s334 (a b:Value) (h:Qf) (R:Kn):Prop:=
 Qa prog 70 #[a,(.int .i64 4),(.int .i64 0)] h fun _x5 c=>
 Qa prog 357 #[a,b] c fun _x8 d=>
 R (.tuple #[]) d
theorem w334 {a b h R} (H:s334 a b h R):FnS prog 334 #[a,b] h R:=wq Tryz.func334 (by kernel_rfl) H
def s335 (a c:Value) (h:Qf) (R:Kn):Prop:=
 Qs a fun d=>
 Qg d 2 fun e=>
 LdK h e fun f=>
 Qa prog 255 #[a] h fun g b=>
 Qn h b<|
 Yn 1 f c fun i=>
 StK b 1 i g fun j=>
 R (.tuple #[]) j
theorem w335 {a b h R} (H:s335 a b h R):FnS prog 335 #[a,b] h R:=wq Tryz.func335 (by kernel_rfl) H
def s336 (a b:Value) (h:Qf) (R:Kn):Prop:=
 Qa prog 70 #[a,(.int .i64 4),(.int .i64 0)] h fun _x5 c=>
 Qa prog 358 #[a,b] c fun _x8 d=>
 R (.tuple #[]) d
theorem w336 {a b h R} (H:s336 a b h R):FnS prog 336 #[a,b] h R:=wq Tryz.func336 (by kernel_rfl) H
def s337 (a:Value) (h:Qf) (R:Kn):Prop:=
 Qa prog 359 #[a,(.int .i32 0)] h fun _x20 c8=>
 Qa prog 255 #[a] c8 fun c a6=>
 Qs a fun c9=>
 Qg c9 2 fun d0=>
 LdK a6 d0 fun d1=>
 Y8 d1 fun d2=>
 Ql prog .sub 3 d2 (.int .i64 1) fun d3=>
 QO (fun q=>
 Y6 [d3] a6 fun a7 a8=>∀i:Value,∀r:Qf,a7 a8 [i] r->
 Ql prog .geq 3 i (.int .i64 0) fun b=>
 Qe b true (fun d4=>d4 a r) r fun d5 a9=>
 Qe b true (fun d6=>Qs d5 fun d7=>d6 d7 a9) a9 fun d8 b0=>
 Qe b true (fun d9=>Qg d8 2 fun e0=>d9 e0 b0) b0 fun e1 s=>
 Qe b true (fun e2=>LdK s e1 fun e3=>e2 e3 s) s fun e4 b1=>
 Qe b true (fun e5=>e5 i b1) b1 fun e6 b2=>
 Qe b true (fun e7=>Yn 1 e4 e6 fun e8=>e7 e8 b2) b2 fun e9 t=>
 Qe b true (fun f0=>LdK t e9 fun f1=>f0 f1 t) t fun f2 b3=>
 Qe b true (fun f3=>Ql prog .eql 68 f2 (.int .u32 0) fun f4=>f3 f4 b3) b3 fun f5 b4=>
 Yj b f5 (.bool false) fun f6=>
 IfK f6
 (Ql prog .sub 3 i (.int .i64 1) fun f7=>
 Yb a7 a8 [f7] b4)
 (q [i] b4)) fun q=>∀b5:Value,∀u:Qf,q [b5] u->
 Qs a fun f8=>
 Qg f8 2 fun f9=>
 LdK u f9 fun g0=>
 Ql prog .add 3 b5 (.int .i64 1) fun g1=>
 QbH 1 g0 none (some g1) fun g2=>
 Qs a fun g3=>
 Qg g3 2 fun g4=>
 StK u 1 g4 g2 fun b6=>
 QO (fun l=>
 Qs a fun g5=>
 Qg g5 4 fun g6=>
 LdK b6 g6 fun g7=>
 Y8 g7 fun g8=>
 Ql prog .sub 3 g8 (.int .i64 1) fun g9=>
 Y6 [g9,(.int .u32 0)] b6 fun b7 b8=>∀f v:Value,∀e:Qf,b7 b8 [f,v] e->
 Ql prog .geq 3 f (.int .i64 0) fun i0=>
 IfK i0
 (Qs a fun i1=>
 Qg i1 4 fun i2=>
 LdK e i2 fun i3=>
 Yn 1 i3 f fun i4=>
 LdK e i4 fun b9=>
 Qs a fun i5=>
 Qg i5 0 fun i6=>
 LdK e i6 fun i7=>
 Y8 i7 fun i8=>
 QC .i64 b9 fun i9=>
 Ql prog .sub 3 i8 i9 fun w=>
 Qs a fun j0=>
 Qg j0 0 fun j1=>
 LdK e j1 fun j2=>
 QbH 1 j2 (some w) none fun j3=>
 Qa prog 360 #[j3] e fun j4 y=>
 QC .i64 j4 fun j5=>
 Ql prog .add 3 w j5 fun j6=>
 Qs a fun j7=>
 Qg j7 0 fun j8=>
 LdK y j8 fun j9=>
 Ql prog .add 3 w (.int .i64 4) fun l0=>
 QbH 1 j9 (some l0) (some j6) fun l1=>
 Qs a fun l2=>
 Qg l2 2 fun l3=>
 LdK y l3 fun l4=>
 Qa prog 361 #[l4,c,l1] y fun l5 c0=>
 IfK l5
 (l [f,b9] c0)
 (Ql prog .sub 3 f (.int .i64 1) fun l6=>
 Yb b7 b8 [l6,v] c0))
 (l [f,v] e)) fun l=>∀l7 z:Value,∀j:Qf,l [l7,z] j->
 QO (fun m=>
 Ql prog .eql 68 z (.int .u32 0) fun l8=>
 IfK l8
 (QO (fun a0=>
 Qs a fun l9=>
 Qg l9 2 fun m0=>
 LdK j m0 fun m1=>
 Y8 m1 fun m2=>
 Ql prog .sub 3 m2 (.int .i64 1) fun m3=>
 Y6 [m3] j fun c1 c2=>∀g:Value,∀d:Qf,c1 c2 [g] d->
 Ql prog .geq 3 g (.int .i64 0) fun m4=>
 IfK m4
 (QO (fun o=>
 Qs a fun m5=>
 Qg m5 2 fun m6=>
 LdK d m6 fun m7=>
 Yn 1 m7 g fun m8=>
 LdK d m8 fun m9=>
 Ql prog .neq 68 m9 (.int .u32 0) fun o0=>
 IfK o0
 (Qs a fun o1=>
 Qg o1 2 fun o2=>
 LdK d o2 fun o3=>
 Yn 1 o3 g fun o4=>
 LdK d o4 fun o5=>
 Ql prog .sub 68 c o5 fun o6=>
 o [o6] d)
 (o [(.int .u32 0)] d)) fun o=>∀c3:Value,∀c4:Qf,o [c3] c4->
 QC .u16 c3 fun o7=>
 Qa prog 362 #[a,o7] c4 fun _x138 o8=>
 Ql prog .sub 3 g (.int .i64 1) fun o9=>
 Yb c1 c2 [o9] o8)
 (a0 [g] d)) fun a0=>∀p0:Value,∀a1:Qf,a0 [p0] a1->
 Qs a fun p1=>
 Qg p1 3 fun p2=>
 LdK a1 p2 fun p3=>
 Ql prog .sub 68 c p3 fun p4=>
 QC .u16 p4 fun p5=>
 Qa prog 362 #[a,p5] a1 fun _x148 c5=>
 Qs a fun p6=>
 Qg p6 2 fun p7=>
 LdK c5 p7 fun p8=>
 Y8 p8 fun p9=>
 Ql prog .add 3 p9 (.int .i64 2) fun q0=>
 Ql prog .mul 3 q0 (.int .i64 2) fun q1=>
 QC .u16 q1 fun q2=>
 Qa prog 362 #[a,q2] c5 fun _x159 p=>
 Qs a fun q3=>
 Qg q3 0 fun q4=>
 LdK p q4 fun q5=>
 Y8 q5 fun q6=>
 QC .i32 q6 fun q7=>
 QC .i32 c fun q8=>
 Ql prog .sub 313 q7 q8 fun q9=>
 Qs a fun r0=>
 Qg r0 0 fun r1=>
 LdK p r1 fun r2=>
 QbH 1 r2 (some q9) none fun r3=>
 QC .i32 c fun r4=>
 Qa prog 255 #[a] p fun r5 c6=>
 Qn p c6<|
 QC .i32 r5 fun r6=>
 Ql prog .sub 313 r6 r4 fun r7=>
 Qa prog 363 #[r3,r7] c6 fun _x181 a2=>
 Qs a fun r8=>
 Qg r8 4 fun r9=>
 LdK a2 r9 fun s0=>
 Qa prog 255 #[a] a2 fun s1 a3=>
 Qn a2 a3<|
 Ya a3 68 1 (ZA z68.toList 1) [(0,1,s1)] fun s2 c7=>
 Qn a3 c7<|
 QdL c7 68 1 4 z68 s0 s2 fun s3 s4=>
 Qs a fun s5=>
 Qg s5 4 fun s6=>
 StK s4 1 s6 s3 fun s7=>
 m [] s7)
 (Qs a fun s8=>
 Qg s8 0 fun s9=>
 LdK j s9 fun t0=>
 Y8 t0 fun t1=>
 QC .i32 t1 fun t2=>
 QC .i32 c fun t3=>
 Ql prog .sub 313 t2 t3 fun t4=>
 QC .u32 t4 fun t5=>
 Qs a fun t6=>
 Qg t6 5 fun t7=>
 StK j 1 t7 t5 fun a4=>
 Qs a fun t8=>
 Qg t8 0 fun t9=>
 LdK a4 t9 fun u0=>
 Qs a fun u1=>
 Qg u1 5 fun u2=>
 LdK a4 u2 fun u3=>
 QbH 1 u0 (some u3) none fun u4=>
 QC .i32 z fun u5=>
 QC .i32 c fun u6=>
 Ql prog .sub 313 u5 u6 fun u7=>
 Qa prog 363 #[u4,u7] a4 fun _x221 u8=>
 m [] u8)) fun m=>∀a5:Qf,m [] a5->
 Qs a fun u9=>
 Qg u9 2 fun v0=>
 LdK a5 v0 fun v1=>
 QbH 1 v1 none (some (.int .i64 0)) fun v2=>
 Qs a fun v3=>
 Qg v3 2 fun v4=>
 StK a5 1 v4 v2 fun v5=>
 R c v5
theorem w337 {a h R} (H:s337 a h R):FnS prog 337 #[a] h R:=wq Tryz.func337 (by kernel_rfl) H
def s353 (a c:Value) (h:Qf) (R:Kn):Prop:=
 Qs a fun d=>
 Qg d 5 fun e=>
 LdK h e fun f=>
 Ql prog .sub 68 f (.int .u32 1) fun g=>
 Qs a fun i=>
 Qg i 5 fun j=>
 StK h 1 j g fun b=>
 Qs a fun l=>
 Qg l 0 fun m=>
 LdK b m fun o=>
 Qs a fun p=>
 Qg p 5 fun q=>
 LdK b q fun r=>
 QbH 1 o (some r) none fun s=>
 Qa prog 366 #[s,c] b fun _x21 t=>
 R (.tuple #[]) t
theorem w353 {a b h R} (H:s353 a b h R):FnS prog 353 #[a,b] h R:=wq Tryz.func353 (by kernel_rfl) H
def s354 (a c:Value) (h:Qf) (R:Kn):Prop:=
 Qs a fun d=>
 Qg d 5 fun e=>
 LdK h e fun f=>
 Ql prog .sub 68 f (.int .u32 2) fun g=>
 Qs a fun i=>
 Qg i 5 fun j=>
 StK h 1 j g fun b=>
 Qs a fun l=>
 Qg l 0 fun m=>
 LdK b m fun o=>
 Qs a fun p=>
 Qg p 5 fun q=>
 LdK b q fun r=>
 QbH 1 o (some r) none fun s=>
 Qa prog 367 #[s,c] b fun _x21 t=>
 R (.tuple #[]) t
theorem w354 {a b h R} (H:s354 a b h R):FnS prog 354 #[a,b] h R:=wq Tryz.func354 (by kernel_rfl) H
def s355 (a b:Value) (h:Qf) (R:Kn):Prop:=
 Qa prog 70 #[a,(.int .i64 2),(.int .i64 0)] h fun _x5 c=>
 Qa prog 368 #[a,b] c fun _x8 d=>
 R (.tuple #[]) d
theorem w355 {a b h R} (H:s355 a b h R):FnS prog 355 #[a,b] h R:=wq Tryz.func355 (by kernel_rfl) H
def s356 (a c:Value) (h:Qf) (R:Kn):Prop:=
 Qs a fun d=>
 Qg d 5 fun e=>
 LdK h e fun f=>
 Ql prog .sub 68 f (.int .u32 4) fun g=>
 Qs a fun i=>
 Qg i 5 fun j=>
 StK h 1 j g fun b=>
 Qs a fun l=>
 Qg l 0 fun m=>
 LdK b m fun o=>
 Qs a fun p=>
 Qg p 5 fun q=>
 LdK b q fun r=>
 QbH 1 o (some r) none fun s=>
 Qa prog 351 #[s,c] b fun _x21 t=>
 R (.tuple #[]) t
theorem w356 {a b h R} (H:s356 a b h R):FnS prog 356 #[a,b] h R:=wq Tryz.func356 (by kernel_rfl) H
def s357 (a c:Value) (h:Qf) (R:Kn):Prop:=
 Qs a fun d=>
 Qg d 5 fun e=>
 LdK h e fun f=>
 Ql prog .sub 68 f (.int .u32 4) fun g=>
 Qs a fun i=>
 Qg i 5 fun j=>
 StK h 1 j g fun b=>
 Qs a fun l=>
 Qg l 0 fun m=>
 LdK b m fun o=>
 Qs a fun p=>
 Qg p 5 fun q=>
 LdK b q fun r=>
 QbH 1 o (some r) none fun s=>
 Qa prog 369 #[s,c] b fun _x21 t=>
 R (.tuple #[]) t
theorem w357 {a b h R} (H:s357 a b h R):FnS prog 357 #[a,b] h R:=wq Tryz.func357 (by kernel_rfl) H
def s358 (a c:Value) (h:Qf) (R:Kn):Prop:=
 Qs a fun d=>
 Qg d 5 fun e=>
 LdK h e fun f=>
 Ql prog .sub 68 f (.int .u32 4) fun g=>
 Qs a fun i=>
 Qg i 5 fun j=>
 StK h 1 j g fun b=>
 Qs a fun l=>
 Qg l 0 fun m=>
 LdK b m fun o=>
 Qs a fun p=>
 Qg p 5 fun q=>
 LdK b q fun r=>
 QbH 1 o (some r) none fun s=>
 Qa prog 370 #[s,c] b fun _x21 t=>
 R (.tuple #[]) t
theorem w358 {a b h R} (H:s358 a b h R):FnS prog 358 #[a,b] h R:=wq Tryz.func358 (by kernel_rfl) H
def s359 (a c:Value) (h:Qf) (R:Kn):Prop:=
 Qa prog 70 #[a,(.int .i64 4),(.int .i64 0)] h fun _x6 e=>
 QO (fun b=>
 QC .u32 c fun f=>
 Qa prog 255 #[a] e fun g i=>
 Ql prog .leq 68 f g fun j=>
 Z1 prog (Op.unary .not j) fun l=>
 IfK l
 (False)
 (b [] i)) fun b=>∀d:Qf,b [] d->
 Qa prog 255 #[a] d fun m o=>
 QC .i32 m fun p=>
 Ql prog .sub 313 p c fun q=>
 Ql prog .add 313 q (.int .i32 4) fun r=>
 Qa prog 371 #[a,r] o fun _x22 s=>
 R (.tuple #[]) s
theorem w359 {a b h R} (H:s359 a b h R):FnS prog 359 #[a,b] h R:=wq Tryz.func359 (by kernel_rfl) H
def s361 (c y l:Value) (h:Qf) (R:Kn):Prop:=
 Y8 c fun z=>
 Ql prog .mul 3 z (.int .i64 2) fun a0=>
 Y8 l fun a1=>
 Ql prog .neq 3 a0 a1 fun a2=>
 IfK a2
 (R (.bool false) h)
 (QO (fun g=>
 Y6 [(.int .i64 0),(.bool false)] h fun m o=>∀a d:Value,∀i:Qf,m o [a,d] i->
 Y8 c fun a3=>
 Ql prog .lss 3 a a3 fun a4=>
 IfK a4
 (QO (fun e=>
 Ql prog .mul 3 a (.int .i64 2) fun a5=>
 Ql prog .add 3 a (.int .i64 1) fun a6=>
 Ql prog .mul 3 a6 (.int .i64 2) fun a7=>
 QbH 1 l (some a5) (some a7) fun a8=>
 Qa prog 360 #[a8] i fun p q=>
 Ql prog .eql 277 p (.int .u16 0) fun b=>
 Qe b true (fun a9=>a9 c q) q fun b0 r=>
 Qe b true (fun b1=>b1 a r) r fun b2 s=>
 Qe b true (fun b3=>Yn 1 b0 b2 fun b4=>b3 b4 s) s fun b5 j=>
 Qe b true (fun b6=>LdK j b5 fun b7=>b6 b7 j) j fun b8 t=>
 Qe b true (fun b9=>Ql prog .eql 68 b8 (.int .u32 0) fun c0=>b9 c0 t) t fun c1 f=>
 Yj b c1 (.bool false) fun c2=>
 IfK c2
 (e [d] f)
 (QC .i32 y fun c3=>
 Yn 1 c a fun c4=>
 LdK f c4 fun c5=>
 QC .i32 c5 fun c6=>
 Ql prog .sub 313 c3 c6 fun c7=>
 QC .i32 p fun c8=>
 Ql prog .neq 313 c8 c7 fun c9=>
 IfK c9
 (R (.bool false) f)
 (e [d] f))) fun e=>∀u:Value,∀v:Qf,e [u] v->
 Ql prog .add 3 a (.int .i64 1) fun d0=>
 Yb m o [d0,u] v)
 (g [a,d] i)) fun g=>∀d1 d2:Value,∀w:Qf,g [d1,d2] w->
 R (.bool true) w)
theorem w361 {a b c h R} (H:s361 a b c h R):FnS prog 361 #[a,b,c] h R:=wq Tryz.func361 (by kernel_rfl) H
def s362 (a b:Value) (h:Qf) (R:Kn):Prop:=
 Qa prog 70 #[a,(.int .i64 2),(.int .i64 0)] h fun _x5 c=>
 Qa prog 372 #[a,b] c fun _x8 d=>
 R (.tuple #[]) d
theorem w362 {a b h R} (H:s362 a b h R):FnS prog 362 #[a,b] h R:=wq Tryz.func362 (by kernel_rfl) H
def s368 (a c:Value) (h:Qf) (R:Kn):Prop:=
 Qs a fun d=>
 Qg d 5 fun e=>
 LdK h e fun f=>
 Ql prog .sub 68 f (.int .u32 2) fun g=>
 Qs a fun i=>
 Qg i 5 fun j=>
 StK h 1 j g fun b=>
 Qs a fun l=>
 Qg l 0 fun m=>
 LdK b m fun o=>
 Qs a fun p=>
 Qg p 5 fun q=>
 LdK b q fun r=>
 QbH 1 o (some r) none fun s=>
 Qa prog 373 #[s,c] b fun _x21 t=>
 R (.tuple #[]) t
theorem w368 {a b h R} (H:s368 a b h R):FnS prog 368 #[a,b] h R:=wq Tryz.func368 (by kernel_rfl) H
def s371 (a c:Value) (h:Qf) (R:Kn):Prop:=
 Qs a fun d=>
 Qg d 5 fun e=>
 LdK h e fun f=>
 Ql prog .sub 68 f (.int .u32 4) fun g=>
 Qs a fun i=>
 Qg i 5 fun j=>
 StK h 1 j g fun b=>
 Qs a fun l=>
 Qg l 0 fun m=>
 LdK b m fun o=>
 Qs a fun p=>
 Qg p 5 fun q=>
 LdK b q fun r=>
 QbH 1 o (some r) none fun s=>
 Qa prog 363 #[s,c] b fun _x21 t=>
 R (.tuple #[]) t
theorem w371 {a b h R} (H:s371 a b h R):FnS prog 371 #[a,b] h R:=wq Tryz.func371 (by kernel_rfl) H
def s372 (a c:Value) (h:Qf) (R:Kn):Prop:=
 Qs a fun d=>
 Qg d 5 fun e=>
 LdK h e fun f=>
 Ql prog .sub 68 f (.int .u32 2) fun g=>
 Qs a fun i=>
 Qg i 5 fun j=>
 StK h 1 j g fun b=>
 Qs a fun l=>
 Qg l 0 fun m=>
 LdK b m fun o=>
 Qs a fun p=>
 Qg p 5 fun q=>
 LdK b q fun r=>
 QbH 1 o (some r) none fun s=>
 Qa prog 374 #[s,c] b fun _x21 t=>
 R (.tuple #[]) t
theorem w372 {a b h R} (H:s372 a b h R):FnS prog 372 #[a,b] h R:=wq Tryz.func372 (by kernel_rfl) H
end Go.Proofs
namespace Go.Proofs
open Go Go.Vc
open Tryz (prog)
section
variable {H:Qf} {p:Nat} {S:BS} {F:Cut} {B V T:Nat} {L:List UInt8} {len head:Nat} {vtv vtsv:Value} {e eB:TypeId}
 (hr:Raw H p S F B V T L len head vtv vtsv e eB)
include hr
theorem YE:QaH H ⟨p,0,none⟩=some (bsl B 0 len L.length):=(Qu hr.hp).trans rfl
theorem ld_min:QaH H ⟨p,1,none⟩=some (.int .i64 S.min):=(Qu hr.hp).trans rfl
theorem QhK:QaH H ⟨p,2,none⟩=some vtv:=(Qu hr.hp).trans rfl
theorem ld_oe:QaH H ⟨p,3,none⟩=some (.int .u32 S.oe):=(Qu hr.hp).trans rfl
theorem ld_vts:QaH H ⟨p,4,none⟩=some vtsv:=(Qu hr.hp).trans rfl
theorem YC:QaH H ⟨p,5,none⟩=some (.int .u32 head):=(Qu hr.hp).trans rfl
theorem ld_nested:QaH H ⟨p,6,none⟩=some (.bool S.nested):=(Qu hr.hp).trans rfl
theorem ld_fin:QaH H ⟨p,7,none⟩=some (.bool S.fin):=(Qu hr.hp).trans rfl
theorem st_min {kp:Qf->Prop} {m:Nat}:StK H 1 (.pointer (some ⟨p,1,none⟩)) (.int .i64 (m:Int)) kp=kp (setB H p (.cells (Qfc B len L.length {S with min:=m} vtv vtsv head) e (0,0))):=ZQ hr.hp (by decide:1<9) (by simp) rfl
theorem st_oe {kp:Qf->Prop} {m:Nat}:StK H 1 (.pointer (some ⟨p,3,none⟩)) (.int .u32 (m:Int)) kp=kp (setB H p (.cells (Qfc B len L.length {S with oe:=m} vtv vtsv head) e (0,0))):=ZQ hr.hp (by decide:3<9) (by simp) rfl
theorem QaL {kp:Qf->Prop} {m:Nat}:StK H 1 (.pointer (some ⟨p,5,none⟩)) (.int .u32 (m:Int)) kp=kp (setB H p (.cells (Qfc B len L.length S vtv vtsv m) e (0,0))):=ZQ hr.hp (by decide:5<9) (by simp) rfl
theorem st_nested {kp:Qf->Prop} {m:Bool}:StK H 1 (.pointer (some ⟨p,6,none⟩)) (.bool m) kp=kp (setB H p (.cells (Qfc B len L.length {S with nested:=m} vtv vtsv head) e (0,0))):=ZQ hr.hp (by decide:6<9) (by simp) rfl
theorem st_fin {kp:Qf->Prop} {m:Bool}:StK H 1 (.pointer (some ⟨p,7,none⟩)) (.bool m) kp=kp (setB H p (.cells (Qfc B len L.length {S with fin:=m} vtv vtsv head) e (0,0))):=ZQ hr.hp (by decide:7<9) (by simp) rfl
theorem Z0 {k:Value->Prop} {κ:IntKind} {m:Nat} (hm:m<len):QbH 1 (bsl B 0 len L.length) (some (.int κ (m:Int))) none k=k (bsl B m (len-m) (L.length-m)):=by
 have:=hr.hlen
 rw[bsl,SlcK_lo (by omega) (by omega) hr.hlen]
 have:¬L.length=m:=by omega
 simp[this]
end
section
variable {H:Qf} {p:Nat} {S:BS} {F:Cut} {r:Nat} (hB:Qc H p S F r) {R:Kn}
include hB
theorem Yh (hR:R (.int .u32 (S.buf.length:Nat)) H):FnS prog 255 #[.pointer (some ⟨p,0,none⟩)] H R:=by
 obtain ⟨hd,h1,⟨B,V,T,L,len,vtv,vtsv,e,eB,hr,h2,h3⟩⟩:=hB
 have:=hr.lt
 apply w255
 unfold s255
 simp only[↓Qd,↓Qh,↓Qk (YE hr),↓Qk (YC hr),↓Qbj,↓Qm,↓Yk]
 rw[QV (n:=(len:Int)) (by omega) (by omega),QV (by omega) (by omega)]
 rw[show ((len:Int)-(hd:Int))=((S.buf.length:Nat):Int) by omega]
 exact hR
theorem go_Builder_Head {k:Nat->Prop} (hR:∀head,BuilderH H p S F head->R (.int .u32 (head:Nat)) H):FnS prog 166 #[.pointer (some ⟨p,0,none⟩)] H R:=by
 obtain ⟨hd,h1,⟨B,V,T,L,len,vtv,vtsv,e,eB,hr,h2,h3⟩⟩:=hB
 apply w166
 unfold s166
 simp only[↓Qd,↓Qh,↓Qk (YC hr)]
 exact hR hd ⟨B,V,T,L,len,vtv,vtsv,e,eB,hr,h2,h3⟩
theorem YR (hn:S.nested=false) (hR:R (.tuple #[]) H):FnS prog 69 #[.pointer (some ⟨p,0,none⟩)] H R:=by
 obtain ⟨hd,h1,⟨B,V,T,L,len,vtv,vtsv,e,eB,hr,h2,h3⟩⟩:=hB
 apply w69
 unfold s69
 simp only[↓Qd,↓Qh,↓Qk (ld_nested hr),hn]
 exact hR
theorem Qao (hn:S.nested=true) (hR:R (.tuple #[]) H):FnS prog 262 #[.pointer (some ⟨p,0,none⟩)] H R:=by
 obtain ⟨hd,h1,⟨B,V,T,L,len,vtv,vtsv,e,eB,hr,h2,h3⟩⟩:=hB
 apply w262
 unfold s262
 simp only[↓Qd,↓Qh,↓Qk (ld_nested hr),hn,↓Yo]
 exact hR
theorem QdZ (hn:S.fin=true) (hR:R (.tuple #[]) H):FnS prog 165 #[.pointer (some ⟨p,0,none⟩)] H R:=by
 obtain ⟨hd,h1,⟨B,V,T,L,len,vtv,vtsv,e,eB,hr,h2,h3⟩⟩:=hB
 apply w165
 unfold s165
 simp only[↓Qd,↓Qh,↓Qk (ld_fin hr),hn,↓Yo]
 exact hR
theorem QbN {kp:Qf->Prop} {m:Bool} (hk:∀H',Qc H' p {S with nested:=m} F r->kp H'):StK H 1 (.pointer (some ⟨p,6,none⟩)) (.bool m) kp:=by
 obtain ⟨hd,h1,⟨B,V,T,L,len,vtv,vtsv,e,eB,hr,h2,h3⟩⟩:=hB
 rw[st_nested hr]
 exact hk _ ⟨hd,h1,⟨B,V,T,L,len,vtv,vtsv,e,eB,Raw.setp hr rfl rfl,h2,h3⟩⟩
theorem st_fin_at {kp:Qf->Prop} {m:Bool} (hk:∀H',Qc H' p {S with fin:=m} F r->kp H'):StK H 1 (.pointer (some ⟨p,7,none⟩)) (.bool m) kp:=by
 obtain ⟨hd,h1,⟨B,V,T,L,len,vtv,vtsv,e,eB,hr,h2,h3⟩⟩:=hB
 rw[st_fin hr]
 exact hk _ ⟨hd,h1,⟨B,V,T,L,len,vtv,vtsv,e,eB,Raw.setp hr rfl rfl,h2,h3⟩⟩
theorem st_oe_at {kp:Qf->Prop} {m:Nat} (hk:∀H',Qc H' p {S with oe:=m} F r->kp H'):StK H 1 (.pointer (some ⟨p,3,none⟩)) (.int .u32 (m:Int)) kp:=by
 obtain ⟨hd,h1,⟨B,V,T,L,len,vtv,vtsv,e,eB,hr,h2,h3⟩⟩:=hB
 rw[st_oe hr]
 exact hk _ ⟨hd,h1,⟨B,V,T,L,len,vtv,vtsv,e,eB,Raw.setp hr rfl rfl,h2,h3⟩⟩
theorem st_min_at {kp:Qf->Prop} {m:Nat} (hk:∀H',Qc H' p {S with min:=m} F r->kp H'):StK H 1 (.pointer (some ⟨p,1,none⟩)) (.int .i64 (m:Int)) kp:=by
 obtain ⟨hd,h1,⟨B,V,T,L,len,vtv,vtsv,e,eB,hr,h2,h3⟩⟩:=hB
 rw[st_min hr]
 exact hk _ ⟨hd,h1,⟨B,V,T,L,len,vtv,vtsv,e,eB,Raw.setp hr rfl rfl,h2,h3⟩⟩
theorem Qa3 {b:UInt8} (hk:1<=r) (hR:∀H',Qc H' p (place [b] S) F (r-1)->R (.tuple #[]) H'):FnS prog 257 #[.pointer (some ⟨p,0,none⟩),.int .u8 (b.toNat:Int)] H R:=by
 obtain ⟨hd,h1,⟨B,V,T,L,len,vtv,vtsv,e,eB,hr,h2,h3⟩⟩:=hB
 have:=hr.lt;have:=hr.hlen
 have e1:IntKind.u32.wrap ((hd:Int)-1)=((hd-1:Nat):Int):=by rw[QV (by omega) (by omega)];omega
 apply w257
 unfold s257
 simp only[↓Qd,↓Qh,↓Qk (YC hr),↓Yk,e1,↓QaL hr]
 have hr2:=Raw.setp (S':=S) (head':=hd-1) hr rfl rfl
 simp only[↓Qk (YE hr2),↓Qk (YC hr2),↓Z0 hr2 (m:=hd-1) (by omega)]
 refine go_WriteByte hr2.hB (by omega) (by omega) ?_
 refine hR _ ⟨hd-1,by omega,⟨B,V,T,_,len,vtv,vtsv,e,eB,Raw.wr hr2 (Yi _ _ _) rfl rfl rfl,?_,?_⟩⟩
 ·have hl:([b]:List UInt8).length=1:=by simp[Qi]
  simp only[place,List.length_append,hl];omega
 ·have hl:([b]:List UInt8).length=1:=by simp[Qi]
  have:=Qak (xs:=[b]) hr.hlen h2 h3 (by omega)
  rw[hl]at this
  exact this
theorem Qgf {b:Bool} (hk:1<=r) (hR:∀H',Qc H' p (place [if b then 1 else 0] S) F (r-1)->R (.tuple #[]) H'):FnS prog 268 #[.pointer (some ⟨p,0,none⟩),.bool b] H R:=by
 obtain ⟨hd,h1,⟨B,V,T,L,len,vtv,vtsv,e,eB,hr,h2,h3⟩⟩:=hB
 have:=hr.lt;have:=hr.hlen
 have e1:IntKind.u32.wrap ((hd:Int)-1)=((hd-1:Nat):Int):=by rw[QV (by omega) (by omega)];omega
 apply w268
 unfold s268
 simp only[↓Qd,↓Qh,↓Qk (YC hr),↓Yk,e1,↓QaL hr]
 have hr2:=Raw.setp (S':=S) (head':=hd-1) hr rfl rfl
 simp only[↓Qk (YE hr2),↓Qk (YC hr2),↓Z0 hr2 (m:=hd-1) (by omega)]
 refine go_WriteBool hr2.hB (by omega) (by omega) ?_
 refine hR _ ⟨hd-1,by omega,⟨B,V,T,_,len,vtv,vtsv,e,eB,Raw.wr hr2 (Yi _ _ _) rfl rfl rfl,?_,?_⟩⟩
 ·have hl:([if b then 1 else 0]:List UInt8).length=1:=by simp[Qi]
  simp only[place,List.length_append,hl];omega
 ·have hl:([if b then 1 else 0]:List UInt8).length=1:=by simp[Qi]
  have:=Qak (xs:=[if b then 1 else 0]) hr.hlen h2 h3 (by omega)
  rw[hl]at this
  exact this
theorem Qgb {x:Int} (hk:1<=r) (hR:∀H',Qc H' p (place (leB x 1) S) F (r-1)->R (.tuple #[]) H'):FnS prog 353 #[.pointer (some ⟨p,0,none⟩),.int .i8 x] H R:=by
 obtain ⟨hd,h1,⟨B,V,T,L,len,vtv,vtsv,e,eB,hr,h2,h3⟩⟩:=hB
 have:=hr.lt;have:=hr.hlen
 have e1:IntKind.u32.wrap ((hd:Int)-1)=((hd-1:Nat):Int):=by rw[QV (by omega) (by omega)];omega
 apply w353
 unfold s353
 simp only[↓Qd,↓Qh,↓Qk (YC hr),↓Yk,e1,↓QaL hr]
 have hr2:=Raw.setp (S':=S) (head':=hd-1) hr rfl rfl
 simp only[↓Qk (YE hr2),↓Qk (YC hr2),↓Z0 hr2 (m:=hd-1) (by omega)]
 refine go_WriteInt8 hr2.hB (by omega) (by omega) ?_
 refine hR _ ⟨hd-1,by omega,⟨B,V,T,_,len,vtv,vtsv,e,eB,Raw.wr hr2 (Yi _ _ _) rfl rfl rfl,?_,?_⟩⟩
 ·have hl:((leB x 1):List UInt8).length=1:=by simp[Qi]
  simp only[place,List.length_append,hl];omega
 ·have hl:((leB x 1):List UInt8).length=1:=by simp[Qi]
  have:=Qak (xs:=(leB x 1)) hr.hlen h2 h3 (by omega)
  rw[hl]at this
  exact this
theorem Qfw {x:Int} (hk:2<=r) (hR:∀H',Qc H' p (place (leB x 2) S) F (r-2)->R (.tuple #[]) H'):FnS prog 354 #[.pointer (some ⟨p,0,none⟩),.int .i16 x] H R:=by
 obtain ⟨hd,h1,⟨B,V,T,L,len,vtv,vtsv,e,eB,hr,h2,h3⟩⟩:=hB
 have:=hr.lt;have:=hr.hlen
 have e1:IntKind.u32.wrap ((hd:Int)-2)=((hd-2:Nat):Int):=by rw[QV (by omega) (by omega)];omega
 apply w354
 unfold s354
 simp only[↓Qd,↓Qh,↓Qk (YC hr),↓Yk,e1,↓QaL hr]
 have hr2:=Raw.setp (S':=S) (head':=hd-2) hr rfl rfl
 simp only[↓Qk (YE hr2),↓Qk (YC hr2),↓Z0 hr2 (m:=hd-2) (by omega)]
 refine go_WriteInt16 hr2.hB (by omega) (by omega) ?_
 refine hR _ ⟨hd-2,by omega,⟨B,V,T,_,len,vtv,vtsv,e,eB,Raw.wr hr2 (Yi _ _ _) rfl rfl rfl,?_,?_⟩⟩
 ·have hl:((leB x 2):List UInt8).length=2:=by simp[Qi]
  simp only[place,List.length_append,hl];omega
 ·have hl:((leB x 2):List UInt8).length=2:=by simp[Qi]
  have:=Qak (xs:=(leB x 2)) hr.hlen h2 h3 (by omega)
  rw[hl]at this
  exact this
theorem Qfm {x:Int} (hk:2<=r) (hR:∀H',Qc H' p (place (leB x 2) S) F (r-2)->R (.tuple #[]) H'):FnS prog 368 #[.pointer (some ⟨p,0,none⟩),.int .u16 x] H R:=by
 obtain ⟨hd,h1,⟨B,V,T,L,len,vtv,vtsv,e,eB,hr,h2,h3⟩⟩:=hB
 have:=hr.lt;have:=hr.hlen
 have e1:IntKind.u32.wrap ((hd:Int)-2)=((hd-2:Nat):Int):=by rw[QV (by omega) (by omega)];omega
 apply w368
 unfold s368
 simp only[↓Qd,↓Qh,↓Qk (YC hr),↓Yk,e1,↓QaL hr]
 have hr2:=Raw.setp (S':=S) (head':=hd-2) hr rfl rfl
 simp only[↓Qk (YE hr2),↓Qk (YC hr2),↓Z0 hr2 (m:=hd-2) (by omega)]
 refine Qgm hr2.hB (by omega) (by omega) ?_
 refine hR _ ⟨hd-2,by omega,⟨B,V,T,_,len,vtv,vtsv,e,eB,Raw.wr hr2 (Yi _ _ _) rfl rfl rfl,?_,?_⟩⟩
 ·have hl:((leB x 2):List UInt8).length=2:=by simp[Qi]
  simp only[place,List.length_append,hl];omega
 ·have hl:((leB x 2):List UInt8).length=2:=by simp[Qi]
  have:=Qak (xs:=(leB x 2)) hr.hlen h2 h3 (by omega)
  rw[hl]at this
  exact this
theorem Qey {x:Int} (hk:2<=r) (hR:∀H',Qc H' p (place (leB x 2) S) F (r-2)->R (.tuple #[]) H'):FnS prog 372 #[.pointer (some ⟨p,0,none⟩),.int .u16 x] H R:=by
 obtain ⟨hd,h1,⟨B,V,T,L,len,vtv,vtsv,e,eB,hr,h2,h3⟩⟩:=hB
 have:=hr.lt;have:=hr.hlen
 have e1:IntKind.u32.wrap ((hd:Int)-2)=((hd-2:Nat):Int):=by rw[QV (by omega) (by omega)];omega
 apply w372
 unfold s372
 simp only[↓Qd,↓Qh,↓Qk (YC hr),↓Yk,e1,↓QaL hr]
 have hr2:=Raw.setp (S':=S) (head':=hd-2) hr rfl rfl
 simp only[↓Qk (YE hr2),↓Qk (YC hr2),↓Z0 hr2 (m:=hd-2) (by omega)]
 refine Qih hr2.hB (by omega) (by omega) ?_
 refine hR _ ⟨hd-2,by omega,⟨B,V,T,_,len,vtv,vtsv,e,eB,Raw.wr hr2 (Yi _ _ _) rfl rfl rfl,?_,?_⟩⟩
 ·have hl:((leB x 2):List UInt8).length=2:=by simp[Qi]
  simp only[place,List.length_append,hl];omega
 ·have hl:((leB x 2):List UInt8).length=2:=by simp[Qi]
  have:=Qak (xs:=(leB x 2)) hr.hlen h2 h3 (by omega)
  rw[hl]at this
  exact this
theorem QfI {x:Int} (hk:4<=r) (hR:∀H',Qc H' p (place (leB x 4) S) F (r-4)->R (.tuple #[]) H'):FnS prog 358 #[.pointer (some ⟨p,0,none⟩),.int .i32 x] H R:=by
 obtain ⟨hd,h1,⟨B,V,T,L,len,vtv,vtsv,e,eB,hr,h2,h3⟩⟩:=hB
 have:=hr.lt;have:=hr.hlen
 have e1:IntKind.u32.wrap ((hd:Int)-4)=((hd-4:Nat):Int):=by rw[QV (by omega) (by omega)];omega
 apply w358
 unfold s358
 simp only[↓Qd,↓Qh,↓Qk (YC hr),↓Yk,e1,↓QaL hr]
 have hr2:=Raw.setp (S':=S) (head':=hd-4) hr rfl rfl
 simp only[↓Qk (YE hr2),↓Qk (YC hr2),↓Z0 hr2 (m:=hd-4) (by omega)]
 refine QgU hr2.hB (by omega) (by omega) ?_
 refine hR _ ⟨hd-4,by omega,⟨B,V,T,_,len,vtv,vtsv,e,eB,Raw.wr hr2 (Yi _ _ _) rfl rfl rfl,?_,?_⟩⟩
 ·have hl:((leB x 4):List UInt8).length=4:=by simp[Qi]
  simp only[place,List.length_append,hl];omega
 ·have hl:((leB x 4):List UInt8).length=4:=by simp[Qi]
  have:=Qak (xs:=(leB x 4)) hr.hlen h2 h3 (by omega)
  rw[hl]at this
  exact this
theorem Qfg {x:Int} (hk:4<=r) (hR:∀H',Qc H' p (place (leB x 4) S) F (r-4)->R (.tuple #[]) H'):FnS prog 356 #[.pointer (some ⟨p,0,none⟩),.int .u32 x] H R:=by
 obtain ⟨hd,h1,⟨B,V,T,L,len,vtv,vtsv,e,eB,hr,h2,h3⟩⟩:=hB
 have:=hr.lt;have:=hr.hlen
 have e1:IntKind.u32.wrap ((hd:Int)-4)=((hd-4:Nat):Int):=by rw[QV (by omega) (by omega)];omega
 apply w356
 unfold s356
 simp only[↓Qd,↓Qh,↓Qk (YC hr),↓Yk,e1,↓QaL hr]
 have hr2:=Raw.setp (S':=S) (head':=hd-4) hr rfl rfl
 simp only[↓Qk (YE hr2),↓Qk (YC hr2),↓Z0 hr2 (m:=hd-4) (by omega)]
 refine Qe3 hr2.hB (by omega) (by omega) ?_
 refine hR _ ⟨hd-4,by omega,⟨B,V,T,_,len,vtv,vtsv,e,eB,Raw.wr hr2 (Yi _ _ _) rfl rfl rfl,?_,?_⟩⟩
 ·have hl:((leB x 4):List UInt8).length=4:=by simp[Qi]
  simp only[place,List.length_append,hl];omega
 ·have hl:((leB x 4):List UInt8).length=4:=by simp[Qi]
  have:=Qak (xs:=(leB x 4)) hr.hlen h2 h3 (by omega)
  rw[hl]at this
  exact this
theorem QbR {x:Int} (hk:4<=r) (hR:∀H',Qc H' p (place (leB x 4) S) F (r-4)->R (.tuple #[]) H'):FnS prog 256 #[.pointer (some ⟨p,0,none⟩),.int .u32 x] H R:=by
 obtain ⟨hd,h1,⟨B,V,T,L,len,vtv,vtsv,e,eB,hr,h2,h3⟩⟩:=hB
 have:=hr.lt;have:=hr.hlen
 have e1:IntKind.u32.wrap ((hd:Int)-4)=((hd-4:Nat):Int):=by rw[QV (by omega) (by omega)];omega
 apply w256
 unfold s256
 simp only[↓Qd,↓Qh,↓Qk (YC hr),↓Yk,e1,↓QaL hr]
 have hr2:=Raw.setp (S':=S) (head':=hd-4) hr rfl rfl
 simp only[↓Qk (YE hr2),↓Qk (YC hr2),↓Z0 hr2 (m:=hd-4) (by omega)]
 refine Qii hr2.hB (by omega) (by omega) ?_
 refine hR _ ⟨hd-4,by omega,⟨B,V,T,_,len,vtv,vtsv,e,eB,Raw.wr hr2 (Yi _ _ _) rfl rfl rfl,?_,?_⟩⟩
 ·have hl:((leB x 4):List UInt8).length=4:=by simp[Qi]
  simp only[place,List.length_append,hl];omega
 ·have hl:((leB x 4):List UInt8).length=4:=by simp[Qi]
  have:=Qak (xs:=(leB x 4)) hr.hlen h2 h3 (by omega)
  rw[hl]at this
  exact this
theorem Qef {x:Int} (hk:4<=r) (hR:∀H',Qc H' p (place (leB x 4) S) F (r-4)->R (.tuple #[]) H'):FnS prog 371 #[.pointer (some ⟨p,0,none⟩),.int .i32 x] H R:=by
 obtain ⟨hd,h1,⟨B,V,T,L,len,vtv,vtsv,e,eB,hr,h2,h3⟩⟩:=hB
 have:=hr.lt;have:=hr.hlen
 have e1:IntKind.u32.wrap ((hd:Int)-4)=((hd-4:Nat):Int):=by rw[QV (by omega) (by omega)];omega
 apply w371
 unfold s371
 simp only[↓Qd,↓Qh,↓Qk (YC hr),↓Yk,e1,↓QaL hr]
 have hr2:=Raw.setp (S':=S) (head':=hd-4) hr rfl rfl
 simp only[↓Qk (YE hr2),↓Qk (YC hr2),↓Z0 hr2 (m:=hd-4) (by omega)]
 refine Qd4 hr2.hB (by omega) (by omega) ?_
 refine hR _ ⟨hd-4,by omega,⟨B,V,T,_,len,vtv,vtsv,e,eB,Raw.wr hr2 (Yi _ _ _) rfl rfl rfl,?_,?_⟩⟩
 ·have hl:((leB x 4):List UInt8).length=4:=by simp[Qi]
  simp only[place,List.length_append,hl];omega
 ·have hl:((leB x 4):List UInt8).length=4:=by simp[Qi]
  have:=Qak (xs:=(leB x 4)) hr.hlen h2 h3 (by omega)
  rw[hl]at this
  exact this
theorem Qf2 {x:Nat} (hk:4<=r) (hR:∀H',Qc H' p (place (leB x 4) S) F (r-4)->R (.tuple #[]) H'):FnS prog 357 #[.pointer (some ⟨p,0,none⟩),.float .f32 x] H R:=by
 obtain ⟨hd,h1,⟨B,V,T,L,len,vtv,vtsv,e,eB,hr,h2,h3⟩⟩:=hB
 have:=hr.lt;have:=hr.hlen
 have e1:IntKind.u32.wrap ((hd:Int)-4)=((hd-4:Nat):Int):=by rw[QV (by omega) (by omega)];omega
 apply w357
 unfold s357
 simp only[↓Qd,↓Qh,↓Qk (YC hr),↓Yk,e1,↓QaL hr]
 have hr2:=Raw.setp (S':=S) (head':=hd-4) hr rfl rfl
 simp only[↓Qk (YE hr2),↓Qk (YC hr2),↓Z0 hr2 (m:=hd-4) (by omega)]
 refine go_WriteFloat32 hr2.hB (by omega) (by omega) ?_
 refine hR _ ⟨hd-4,by omega,⟨B,V,T,_,len,vtv,vtsv,e,eB,Raw.wr hr2 (Yi _ _ _) rfl rfl rfl,?_,?_⟩⟩
 ·have hl:((leB x 4):List UInt8).length=4:=by simp[Qi]
  simp only[place,List.length_append,hl];omega
 ·have hl:((leB x 4):List UInt8).length=4:=by simp[Qi]
  have:=Qak (xs:=(leB x 4)) hr.hlen h2 h3 (by omega)
  rw[hl]at this
  exact this
theorem Qft {x:Int} (hk:8<=r) (hR:∀H',Qc H' p (place (leB x 8) S) F (r-8)->R (.tuple #[]) H'):FnS prog 270 #[.pointer (some ⟨p,0,none⟩),.int .i64 x] H R:=by
 obtain ⟨hd,h1,⟨B,V,T,L,len,vtv,vtsv,e,eB,hr,h2,h3⟩⟩:=hB
 have:=hr.lt;have:=hr.hlen
 have e1:IntKind.u32.wrap ((hd:Int)-8)=((hd-8:Nat):Int):=by rw[QV (by omega) (by omega)];omega
 apply w270
 unfold s270
 simp only[↓Qd,↓Qh,↓Qk (YC hr),↓Yk,e1,↓QaL hr]
 have hr2:=Raw.setp (S':=S) (head':=hd-8) hr rfl rfl
 simp only[↓Qk (YE hr2),↓Qk (YC hr2),↓Z0 hr2 (m:=hd-8) (by omega)]
 refine go_WriteInt64 hr2.hB (by omega) (by omega) ?_
 refine hR _ ⟨hd-8,by omega,⟨B,V,T,_,len,vtv,vtsv,e,eB,Raw.wr hr2 (Yi _ _ _) rfl rfl rfl,?_,?_⟩⟩
 ·have hl:((leB x 8):List UInt8).length=8:=by simp[Qi]
  simp only[place,List.length_append,hl];omega
 ·have hl:((leB x 8):List UInt8).length=8:=by simp[Qi]
  have:=Qak (xs:=(leB x 8)) hr.hlen h2 h3 (by omega)
  rw[hl]at this
  exact this
theorem Qfp {x:Int} (hk:8<=r) (hR:∀H',Qc H' p (place (leB x 8) S) F (r-8)->R (.tuple #[]) H'):FnS prog 277 #[.pointer (some ⟨p,0,none⟩),.int .u64 x] H R:=by
 obtain ⟨hd,h1,⟨B,V,T,L,len,vtv,vtsv,e,eB,hr,h2,h3⟩⟩:=hB
 have:=hr.lt;have:=hr.hlen
 have e1:IntKind.u32.wrap ((hd:Int)-8)=((hd-8:Nat):Int):=by rw[QV (by omega) (by omega)];omega
 apply w277
 unfold s277
 simp only[↓Qd,↓Qh,↓Qk (YC hr),↓Yk,e1,↓QaL hr]
 have hr2:=Raw.setp (S':=S) (head':=hd-8) hr rfl rfl
 simp only[↓Qk (YE hr2),↓Qk (YC hr2),↓Z0 hr2 (m:=hd-8) (by omega)]
 refine Qgj hr2.hB (by omega) (by omega) ?_
 refine hR _ ⟨hd-8,by omega,⟨B,V,T,_,len,vtv,vtsv,e,eB,Raw.wr hr2 (Yi _ _ _) rfl rfl rfl,?_,?_⟩⟩
 ·have hl:((leB x 8):List UInt8).length=8:=by simp[Qi]
  simp only[place,List.length_append,hl];omega
 ·have hl:((leB x 8):List UInt8).length=8:=by simp[Qi]
  have:=Qak (xs:=(leB x 8)) hr.hlen h2 h3 (by omega)
  rw[hl]at this
  exact this
theorem QeR {x:Nat} (hk:8<=r) (hR:∀H',Qc H' p (place (leB x 8) S) F (r-8)->R (.tuple #[]) H'):FnS prog 271 #[.pointer (some ⟨p,0,none⟩),.float .f64 x] H R:=by
 obtain ⟨hd,h1,⟨B,V,T,L,len,vtv,vtsv,e,eB,hr,h2,h3⟩⟩:=hB
 have:=hr.lt;have:=hr.hlen
 have e1:IntKind.u32.wrap ((hd:Int)-8)=((hd-8:Nat):Int):=by rw[QV (by omega) (by omega)];omega
 apply w271
 unfold s271
 simp only[↓Qd,↓Qh,↓Qk (YC hr),↓Yk,e1,↓QaL hr]
 have hr2:=Raw.setp (S':=S) (head':=hd-8) hr rfl rfl
 simp only[↓Qk (YE hr2),↓Qk (YC hr2),↓Z0 hr2 (m:=hd-8) (by omega)]
 refine go_WriteFloat64 hr2.hB (by omega) (by omega) ?_
 refine hR _ ⟨hd-8,by omega,⟨B,V,T,_,len,vtv,vtsv,e,eB,Raw.wr hr2 (Yi _ _ _) rfl rfl rfl,?_,?_⟩⟩
 ·have hl:((leB x 8):List UInt8).length=8:=by simp[Qi]
  simp only[place,List.length_append,hl];omega
 ·have hl:((leB x 8):List UInt8).length=8:=by simp[Qi]
  have:=Qak (xs:=(leB x 8)) hr.hlen h2 h3 (by omega)
  rw[hl]at this
  exact this
end
end Go.Proofs
namespace Go.Proofs
open Go Go.Vc
open Tryz (prog)
section
variable {H:Qf} {p:Nat} {S:BS} {F:Cut} {r:Nat} (hB:Qc H p S F r) {R:Kn}
include hB
theorem Qaw {n:Nat} {x:Int} (hx:x=(n:Nat)) (hn:n<=r) (hR:∀H',Qc H' p (place (List.replicate n 0) S) F (r-n)->R (.tuple #[]) H'):
  FnS prog 254 #[.pointer (some ⟨p,0,none⟩),.int .i64 x] H R:=by
 subst hx
 have hlt:=hB.lt
 apply w254
 unfold s254
 refine ⟨fun m vs h=>∃i:Nat,vs=[.int .i64 (i:Int)]/\i<=n/\m=n-i/\Qc h p (place (List.replicate i 0) S) F (r-i),⟨n,0,rfl,by omega,by omega,?_⟩,fun m=>?_⟩
 ·exact hB
 ·rintro x4 h1 ⟨i,hx,hi,rfl,hb⟩
  cases hx
  rw[Y2]
  have hl2:=hb.lt
  simp only[place,List.length_append,List.length_replicate]at hl2
  by_cases hlt:i<n
  ·rw[Q1 (by omega)]
   refine Qa3 (b:=0) hb (by omega) ?_
   intro h2 hb2
   rw[Qx,wrap_i64 (by omega) (by omega)]
   refine ⟨n-(i+1),by omega,i+1,rfl,by omega,rfl,?_⟩
   have e1:place [0] (place (List.replicate i 0) S)=place (List.replicate (i+1) 0) S:=by
    simp[place,List.replicate_succ]
   rw[e1]at hb2
   exact hb2.room (by omega)
  ·rw[Q2 (by omega)]
   have:i=n:=by omega
   subst this
   exact hR _ hb
end
section
variable {H:Qf} {p:Nat} {S:BS} {F:Cut} {B V T:Nat} {L:List UInt8} {len head:Nat} {vtv vtsv:Value} {e eB:TypeId}
 (hr:Raw H p S F B V T L len head vtv vtsv e eB) {R:Kn}
include hr
def grown (n:Nat):Nat:=if n=0 then 1 else 2*n
omit hr in
theorem grow_copy {len:Nat} {L:List UInt8} (h:grown len<=L.length) (h0:len≠0):((QaC L len (L.take len)).take (grown len)).drop len=L.take len:=by
 have hg:grown len=2*len:=by unfold grown;rw[if_neg h0]
 have hl:(L.take len).length=len:=by simp;omega
 rw[QdY _ _ _ (by omega),hg,hl]
 rw[List.take_append]
 have h2:(L.take len++L.take len).length=2*len:=by simp;omega
 rw[h2,Nat.sub_self,List.take_zero,List.append_nil,List.take_of_length_le (by omega),List.drop_append,hl,Nat.sub_self,List.drop_zero,List.drop_of_length_le (by omega),List.nil_append]
set_option maxHeartbeats 1000000 in
theorem go_Builder_grow (hlt:len<536870912)
  (hR:∀H' B' L' eB',Raw H' p S F B' V T L' (grown len) head vtv vtsv e eB'->(len=0\/(L'.take (grown len)).drop len=L.take len)->R (.tuple #[]) H'):
  FnS prog 253 #[.pointer (some ⟨p,0,none⟩)] H R:=by
 have hlL:=hr.hlen
 have hg1:1<=grown len:=by unfold grown;split<;>omega
 have hg2:grown len<1073741824:=by unfold grown;split<;>omega
 have hg3:len<grown len:=by unfold grown;split<;>omega
 have hq:(grown len:Int).tdiv 2=(len:Int):=by
  unfold grown;split
  ·rename_i h;subst h;rfl
  ·rw[show ((2*len:Nat):Int)=(len:Int)*2 by omega];exact Int.mul_tdiv_cancel _ (by decide)
 apply w253
 unfold s253
 refine QK (fun _ h=>h=H) ?_ ?_
 ·simp only[↓Qd,↓Qh,↓Qk (YE hr),↓Qbj,↓Qg5,high_and (show len<1073741824 by omega),↓Qy]
  rw[Q2 (by decide)]
  trivial
 ·rintro h1 rfl
  simp only[↓Qd,↓Qh,↓Qk (YE hr),↓Qbj,↓YQ]
  rw[wrap_i64 (n:=(len:Int)*2) (by omega) (by omega)]
  refine QK (fun vs h=>vs=[.int .i64 (grown len:Nat)]/\h=h1) ?_ ?_
  ·rw[Yt]
   apply Z2
   ·intro h0
    have h0':len=0:=by omega
    subst h0'
    exact ⟨rfl,rfl⟩
   ·intro h0
    refine ⟨?_,rfl⟩
    unfold grown
    rw[if_neg (by omega),show ((2*len:Nat):Int)=(len:Int)*2 by omega]
  ·rintro x2 h2 ⟨hx,rfl⟩
   cases hx
   refine QK (fun _ h=>∃B' L' eB',Raw h p S F B' V T L' (grown len) head vtv vtsv e eB'/\L'.take len=L.take len) ?_ ?_
   ·simp only[↓Qd,↓Qh,↓Qk (YE hr),↓CapK_sl,↓Qg2]
    apply Z2
    ·intro hc
     rw[bsl,SlcK_hi (by omega) (by omega),Int.toNat_natCast]
     rw[ZQ hr.hp (by decide:0<9) (by simp) rfl]
     refine ⟨B,L,eB,?_,rfl⟩
     have hset:=Raw.setp (S':=S) (head':=head) hr rfl rfl
     refine ⟨QH hr.hp,?_,?_,?_,hr.pB,hr.pT,hr.BT,?_,by omega,hg2⟩
     ·rw[Q0 (Ne.symm hr.pB)];exact hr.hB
     ·rcases hr.hV with g|⟨g,g2,g3,g4⟩
      ·exact Or.inl g
      ·exact Or.inr ⟨g.mono (Q0 g2),g2,g3,g4⟩
     ·exact hr.hT.mono (Q0 (Ne.symm hr.pT))
     ·intro b o hb
      have:=hr.hF b o hb
      exact ⟨by rw[Q0 this.2.1];exact this.1,this.2⟩
    ·intro hc
     simp only[↓Qbj,↓Yk]
     rw[wrap_i64 (n:=(grown len:Int)-(len:Int)) (by omega) (by omega),show ((grown len:Int)-(len:Int))=((grown len-len:Nat):Int) by omega]
     refine ⟨by omega,by omega,by omega,by omega,?_⟩
     simp only[Int.toNat_natCast,mk_u8 (z:=z5) rfl]
     obtain ⟨l1,l2,l3,l4⟩:=hr.V_lt
     have hr2:Raw (h2.push (.cells (u8c (List.replicate (grown len-len) 0)) 5)) p S F B V T L len head vtv vtsv e eB:=by
      refine hr.frame ?_ ?_
      ·intro b hb
       rw[Array.getElem?_push,if_neg]
       rcases hb with rfl|rfl|rfl|rfl<;>omega
      ·intro b o hb
       have:=hr.hF b o hb
       exact ⟨YF this.1,this.2⟩
     simp only[↓Qk (YE hr2)]
     refine ⟨fun hh=>by omega,fun _=>⟨by decide,by omega,(L.take len).map u8V,(List.replicate (grown len-len) (0:UInt8)).map u8V,?_,?_,?_⟩⟩
     ·show Ze _ ⟨B,0,none⟩ 0 (len*1)=_
      rw[Nat.mul_one,cellsH_u8 hr2.hB (by omega),List.drop_zero]
     ·show Ze _ ⟨h2.size,0,none⟩ 0 ((grown len-len)*1)=_
      rw[Nat.mul_one,cellsH_u8 (Qp) (by simp)]
      simp
     ·intro c hc1 hc2
      rw[zero_u8 (z:=z5) rfl,<-List.map_append,u8V_arr,u8c_append]
      have hL':(L.take len++List.replicate (grown len-len) 0++List.replicate (c-(len+(grown len-len))) (0:UInt8)).length=c:=by simp;omega
      generalize hLL:L.take len++List.replicate (grown len-len) 0++List.replicate (c-(len+(grown len-len))) (0:UInt8)=L' at hL'
      have htl:L'.take len=L.take len:=by
       rw[<-hLL,List.append_assoc,List.take_append]
       have:(L.take len).length=len:=by simp;omega
       rw[this,Nat.sub_self,List.take_zero,List.append_nil,List.take_of_length_le (by omega)]
      have s2:(h2.push (.cells (u8c (List.replicate (grown len-len) 0)) 5)).size=h2.size+1:=size_push
      generalize hH3:h2.push (.cells (u8c (List.replicate (grown len-len) 0)) 5)=H3 at hr2 s2
      have hr3:Raw (H3.push (.cells (u8c L') 5)) p S F B V T L len head vtv vtsv e eB:=by
       obtain ⟨m1,m2,m3,m4⟩:=hr2.V_lt
       refine hr2.frame ?_ ?_
       ·intro b hb
        rw[Array.getElem?_push,if_neg]
        rcases hb with rfl|rfl|rfl|rfl<;>omega
       ·intro b o hb
        have:=hr2.hF b o hb
        exact ⟨YF this.1,this.2⟩
      rw[show len+(grown len-len)=grown len by omega,ZQ hr3.hp (by decide:0<9) (by simp) rfl]
      refine ⟨H3.size,L',5,?_,htl⟩
      have hset:=Raw.setp (S':=S) (head':=head) hr3 rfl rfl
      obtain ⟨m1,m2,m3,m4⟩:=hr2.V_lt
      refine ⟨?_,?_,?_,?_,by omega,hr.pT,by omega,?_,by omega,hg2⟩
      ·rw[QH hr3.hp,hL'];rfl
      ·rw[Q0 (by omega),Qp]
      ·rcases hset.hV with g|⟨g,g2,g3,g4⟩
       ·exact Or.inl g
       ·refine Or.inr ⟨g.mono ?_,g2,by omega,g4⟩
        rw[Q0 g2,Q0 g2]
      ·refine hset.hT.mono ?_
       rw[Q0 (Ne.symm hr.pT),Q0 (Ne.symm hr.pT)]
      ·intro b o hb
       have:=hset.hF b o hb
       have hlt':=YD (hr2.hF b o hb).1
       refine ⟨?_,this.2.1,by omega,this.2.2.2⟩
       rw[Q0 this.2.1,<-Q0 (H:=H3.push (.cells (u8c L') 5)) this.2.1]
       exact this.1
   ·rintro h7 ⟨B',L',eB',hr',htl⟩
    have hlL':=hr'.hlen
    rw[BinK_quo (by decide),hq,wrap_i64 (by omega) (by omega)]
    simp only[↓Qd,↓Qh,↓Qk (YE hr'),↓Z0 hr' (m:=len) hg3]
    rw[bsl,SlcK_hi (by omega) (by omega),Int.toNat_natCast]
    have hmin:Nat.min (lenV (.slice (some ⟨B',0,none⟩) len L'.length)) (grown len-len)=len:=by
     show Nat.min len (grown len-len)=len
     apply Nat.min_eq_left
     unfold grown;split<;>omega
    refine ⟨(L'.take len).map u8V,?_,?_⟩
    ·rw[hmin]
     show Ze _ ⟨B',0,none⟩ 0 (len*1)=_
     rw[Nat.mul_one,cellsH_u8 hr'.hB (by omega),List.drop_zero]
    ·have htl2:(L'.take len).length<=len:=by simp;omega
     have hll:len+(L'.take len).length<=L'.length:=by
      by_cases h0:len=0
      ·subst h0;simp
      ·have:grown len=2*len:=by unfold grown;rw[if_neg h0]
       omega
     refine ⟨_,setN_u8 hr'.hB hll,?_⟩
     refine hR _ B' _ eB' (Raw.wr hr' (Yi _ _ _) rfl rfl rfl) ?_
     by_cases h0:len=0
     ·exact Or.inl h0
     ·right;rw[grow_copy hlL' h0,htl]
end
end Go.Proofs
