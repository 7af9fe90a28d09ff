/- WHAT IS PROVED: the given statement of FnMonsterWritten, whatever the input: this is part 6 of 14. No conditions. -/
import Derived.Test.YtkkcpkfpegmgbaaGreatX05
set_option linter.all false
namespace Go.Proofs
open Go Go.Vc
open Tryz (prog)
def VecBlock (q fld start endv f:Nat) (tsl:TypeId) (args:Value->Array Value) (x1:Value) (h4:Qe) (rest:Kn):Prop:=
 QD (fun M2=>
  Q3 (.pointer (some ⟨q,0,none⟩)) fun x97=>Qg x97 fld fun x98=>LdK h4 x98 fun x99=>
  Qk prog .neq tsl x99 (.slice none 0 0) fun x100=>
  IfK x100
  (Q3 (.pointer (some ⟨q,0,none⟩)) fun x102=>Qg x102 fld fun x103=>LdK h4 x103 fun x104=>
   Yv x104 fun x105=>
   Qa prog start #[x1,x105] h4 fun _x108 h5=>
   QD (fun M3=>
    Qk prog .sub 3 x105 (.int .i64 1) fun x110=>
    Yu [x110] h5 fun I4 n5=>∀x10:Value,∀h6:Qe,I4 n5 [x10] h6->
    Qk prog .geq 3 x10 (.int .i64 0) fun x112=>
    IfK x112
    (Q3 (.pointer (some ⟨q,0,none⟩)) fun x116=>Qg x116 fld fun x117=>LdK h6 x117 fun x118=>
     Y1 1 x118 x10 fun x120=>LdK h6 x120 fun x121=>
     Qa prog f (args x121) h6 fun _x123 h7=>
     Qk prog .sub 3 x10 (.int .i64 1) fun x114=>
     QS I4 n5 [x114] h7)
    (M3 [x10] h6)) fun M3=>∀x10_1:Value,∀h8:Qe,M3 [x10_1] h8->
   Qa prog endv #[x1,x105] h8 fun x126 h9=>M2 [x126] h9)
  (M2 [(.int .u32 0)] h4)) fun M2=>∀x8:Value,∀h10:Qe,M2 [x8] h10->rest x8 h10
theorem flatten_drop {items:List (List UInt8)} {i:Nat} (hi:i<items.length):(items.drop i).flatten=items[i]++(items.drop (i+1)).flatten:=by
 rw[List.drop_eq_getElem_cons hi,List.flatten_cons]
set_option maxHeartbeats 1000000 in
theorem Qdl {H:Qe} {p:Nat} {S:BS} {F:Cut} {r:Nat} (hB:Qd H p S F r) {q fld start f:Nat} {tsl e0:TypeId} {args:Value->Array Value} {v0:Value} {cells:Array Value} {vs:List Value} {es al k:Nat}
  {items:List (List UInt8)} {rest:Kn} (ht:(prog).underlying tsl=some (.slice e0)) (hq:Za F (.pointer (some ⟨q,0,none⟩)) cells) (hf:cells[fld]?=some v0) (hv:QaH F v0 vs) (hvi:vs.length=items.length)
  (hi:∀x∈items,x.length=es) (hI:Inv S) (hal:al=2^k) (hk:k<=3) (hn:items.length<536870912) (hl:S.buf.length+es*items.length+80<=536870912)
  (hstart:∀H,Qd H p S F 0->∀R:Kn,(∀H' v,Qd H' p (Yo es items.length al S) F (es*items.length+5)->R v H')->FnS prog start #[.pointer (some ⟨p,0,none⟩),.int .i64 (items.length:Nat)] H R)
  (hstep:∀(i:Nat) (hi1:i<vs.length) (hi2:i<items.length) (S':BS) (H':Qe) (r':Nat),Qd H' p S' F r'->es<=r'->(S'.buf.length+es*(i+1))%al=0->4<=S'.min->al<=S'.min->S'.buf.length+64<=536870912->
   ∀R:Kn,(∀H'' w,Qd H'' p (place (items[i]'hi2) S') F (r'-es)->R w H'')->FnS prog f (args (vs[i]'hi1)) H' R)
  (hrest:∀H',Qd H' p (QhI es al items S).1 F 0->rest (.int .u32 ((QhI es al items S).2:Nat)) H'):
  VecBlock q fld start 182 f tsl args (.pointer (some ⟨p,0,none⟩)) H rest:=by
 have hfl:=Qbf items hi
 have hemp:(vs=[])↔(items=[]):=by
  rw[<-List.length_eq_zero_iff,<-List.length_eq_zero_iff,hvi]
 unfold VecBlock
 refine Q0 (fun ws h=>ws=[.int .u32 ((QhI es al items S).2:Nat)]/\Qd h p (QhI es al items S).1 F 0) ?_ ?_
 ·refine hq.ld hB.cut (i:=fld) v0 hf ?_
  rw[hv.neq ht]
  by_cases h0:items=[]
  ·have hvn:¬vs≠[]:=fun h=>h (hemp.2 h0)
   rw[QM hvn]
   unfold QhI
   rw[if_pos h0]
   exact ⟨rfl,hB.room (Nat.zero_le _)⟩
  ·have hvn:vs≠[]:=fun h=>h0 (hemp.1 h)
   rw[Yb hvn]
   refine hq.ld hB.cut (i:=fld) v0 hf ?_
   rw[hv.1.len,hvi]
   refine hstart H (hB.room (Nat.zero_le _)) _ ?_
   intro H1 w h1
   have hm:=Qjd es items.length al S
   have ha:=Qhc (es:=es) (n:=items.length) S hal
   obtain ⟨x,hx,hxl⟩:=Qgf es items.length al S (by rw[hal];exact Nat.two_pow_pos k)
   have hal8:al<=8:=by rw[hal];exact Nat.pow_le_pow_right (by decide) hk
   have hS1l:(Yo es items.length al S).buf.length<=S.buf.length+11:=by rw[hx,List.length_append];omega
   have hS1n:(Yo es items.length al S).nested=true:=rfl
   have hopt:QhI es al items S=(Qjc items.length (place items.flatten (Yo es items.length al S)),(Qjc items.length (place items.flatten (Yo es items.length al S))).buf.length):=by
    unfold QhI vecS;rw[if_neg h0]
   rw[hopt]
   generalize Yo es items.length al S=S1 at *
   refine Q0 (fun _ h=>Qd h p (place items.flatten S1) F 5) ?_ ?_
   ·rw[QZ,wrap_i64 (by omega) (by omega)]
    refine ⟨fun m ws h=>∃i:Nat,ws=[.int .i64 ((i:Int)-1)]/\i<=items.length/\m=i/\Qd h p (place (items.drop i).flatten S1) F (es*i+5),⟨_,items.length,rfl,Nat.le_refl _,rfl,?_⟩,fun m=>?_⟩
    ·rw[List.drop_length];exact h1
    ·rintro x10 h6 ⟨i,hx,hi',rfl,hb⟩
     cases hx
     rw[QgK]
     apply Zd
     ·intro hge
      have hm1:m-1<items.length:=by omega
      have hm2:m-1+1=m:=by omega
      refine hq.ld hb.cut (i:=fld) v0 hf ?_
      refine hv.1.item hb.cut (i:=m-1) (by omega) (by omega) ?_
      have hdl:(items.drop m).flatten.length=es*(items.length-m):=by
       rw[Qbf (items.drop m) (fun y hy=>hi y (List.mem_of_mem_drop hy)),List.length_drop]
      have hsum:es*(items.length-m)+es*m=es*items.length:=by rw[<-Nat.mul_add,show items.length-m+m=items.length by omega]
      have hmul:es*m=es*(m-1)+es:=by
       obtain ⟨m',rfl⟩:∃m',m=m'+1:=⟨m-1,by omega⟩
       simp[Nat.mul_add]
      refine hstep (m-1) (by omega) hm1 _ h6 _ hb (by omega) ?_ ?_ ?_ ?_ _ ?_
      ·rw[YE,hdl,hm2,show es*(items.length-m)+S1.buf.length+es*m=S1.buf.length+es*items.length by omega]
       exact ha
      ·exact hm.1
      ·exact hm.2
      ·rw[YE,hdl]
       have:es*(items.length-m)<=es*items.length:=by omega
       omega
      ·intro h7 w7 hb7
       rw[QZ,wrap_i64 (by omega) (by omega)]
       refine ⟨m-1,by omega,m-1,by rw[show ((m:Int)-1-1)=(((m-1:Nat):Int)-1) by omega],by omega,rfl,?_⟩
       rw[Zk]at hb7
       rw[flatten_drop hm1,hm2]
       exact hb7.room (by omega)
     ·intro hge
      have hm0:m=0:=by omega
      subst hm0
      exact hb
   ·intro x10 h8 hb8
    refine Qap hb8 hS1n (by decide) (by omega) ?_
    intro h9 hb9
    exact ⟨rfl,hb9.room (by decide)⟩
 ·rintro x8 h10 ⟨hx,hb⟩
  cases hx
  exact hrest h10 hb
end Go.Proofs
namespace Go.Proofs
open Go Go.Vc
open Tryz (prog)
theorem Cut.upd_upd {F:Cut} {b:Nat} {o o':Obj}:(F.upd b o).upd b o'=F.upd b o':=by
 funext b'
 by_cases h:b'=b
 ·subst h;rw[Cut.upd_same,Cut.upd_same]
 ·rw[Cut.upd_ne h,Cut.upd_ne h,Cut.upd_ne h]
theorem MT.mono {F G:Cut} (hFG:F.le G) {v:Value} {m:Mon} (h:MT F v m):MT G v m:=by
 have lm:∀{α:Type} {v:Value} {l:List α} {cells:α->Array Value},Qez F v l cells->Qez G v l cells:=by
  rintro α v l cells ⟨ptrs,h1,h2,h3⟩
  exact ⟨ptrs,h1.mono hFG,h2,fun i p t hp ht=>(h3 i p t hp ht).mono hFG⟩
 have um:∀{amb:Bool} {ty color:UInt8} {v c:Value} {kids:List Mon},QcZ F amb ty color v c kids->QcZ G amb ty color v c kids:=by
  rintro amb ty color v c kids (h|⟨h1,w,h2,h3⟩)
  ·exact Or.inl h
  ·refine Or.inr ⟨h1,w,h2.mono hFG,?_⟩
   rcases h3 with ⟨a,b,c',d,e⟩|h3
   ·exact Or.inl ⟨a,b,c',d.mono hFG,e⟩
   ·exact Or.inr h3
 induction h with
 |mk v d c ptrs tables enemy test uniq amb obj own tl tlen tt te tu tq ta it ie iu iq ia=>
  refine MT.mk v d c ptrs tables enemy test uniq amb (obj.mono hFG) ?_ (tl.mono hFG) tlen it ie iu iq ia
  refine ⟨?_,own.inv.mono hFG,um own.test,lm own.test4,own.strings.mono hFG,own.enemy,own.nested.mono hFG,?_,own.bools.mono hFG,own.strings2.mono hFG,lm own.abil,own.flex.mono hFG,lm own.test5,own.longs.mono hFG,own.doubles.mono hFG,
   own.parent,lm own.refs,own.weak.mono hFG,lm own.strong,own.coOwnings.mono hFG,own.nonOwnings.mono hFG,um own.uniq,um own.amb,own.enums.mono hFG⟩
  ·have:=own.pos
   cases hp:d.pos with
   |none=>rw[hp]at this;exact this
   |some x=>
    rw[hp]at this
    obtain ⟨w,h1,h2⟩:=this
    exact ⟨w,h1.mono hFG,h2.mono hFG⟩
  ·have:=own.empty
   cases hp:d.empty with
   |none=>rw[hp]at this;exact this
   |some x=>rw[hp]at this;exact Za.mono hFG this
def BytesBlock (q fld:Nat) (tsl:TypeId) (x1:Value) (h1:Qe) (rest:Kn):Prop:=
 QD (fun M1=>
  Q3 (.pointer (some ⟨q,0,none⟩)) fun x80=>Qg x80 fld fun x81=>LdK h1 x81 fun x82=>
  Qk prog .neq tsl x82 (.slice none 0 0) fun x83=>
  IfK x83
  (Q3 (.pointer (some ⟨q,0,none⟩)) fun x86=>Qg x86 fld fun x87=>LdK h1 x87 fun x88=>
   Qa prog 178 #[x1,x88] h1 fun x89 h2=>M1 [x89] h2)
  (M1 [(.int .u32 0)] h1)) fun M1=>∀x6:Value,∀h3:Qe,M1 [x6] h3->rest x6 h3
theorem Qiy {H:Qe} {p:Nat} {S:BS} {F:Cut} {r:Nat} (hB:Qd H p S F r) {q fld:Nat} {tsl e0:TypeId} {v0:Value} {cells:Array Value} {xs:List UInt8} {rest:Kn}
  (ht:(prog).underlying tsl=some (.slice e0)) (hq:Za F (.pointer (some ⟨q,0,none⟩)) cells) (hf:cells[fld]?=some v0) (hv:QaH F v0 (xs.map u8V)) (hI:Inv S) (hl:S.buf.length+xs.length+80<=536870912)
  (hrest:∀H',Qd H' p (optB xs S).1 F 0->rest (.int .u32 ((optB xs S).2:Nat)) H'):
  BytesBlock q fld tsl (.pointer (some ⟨p,0,none⟩)) H rest:=by
 unfold BytesBlock
 refine Q0 (fun ws h=>ws=[.int .u32 ((optB xs S).2:Nat)]/\Qd h p (optB xs S).1 F 0) ?_ ?_
 ·refine hq.ld hB.cut (i:=fld) v0 hf ?_
  rw[hv.neq ht]
  by_cases h0:xs=[]
  ·have hvn:¬xs.map u8V≠[]:=by rw[h0];simp
   rw[QM hvn]
   unfold optB
   rw[if_pos h0]
   exact ⟨rfl,hB.room (Nat.zero_le _)⟩
  ·have hvn:xs.map u8V≠[]:=by simpa using h0
   rw[Yb hvn]
   refine hq.ld hB.cut (i:=fld) v0 hf ?_
   obtain ⟨a,c,rfl,hb⟩:=hv.1.bytes
   refine Qea hB (fun H' hF=>hb H' hF) hI.nested (by omega) ?_
   intro H1 h1
   unfold optB
   rw[if_neg h0]
   exact ⟨rfl,h1⟩
 ·rintro x8 h10 ⟨hx,hb⟩
  cases hx
  exact hrest h10 hb
def OffBlock (q fld start f:Nat) (tsl:TypeId) (args:Value->Array Value) (x1:Value) (h10:Qe) (rest:Kn):Prop:=
 QD (fun M6=>
  Q3 (.pointer (some ⟨q,0,none⟩)) fun x128=>Qg x128 fld fun x129=>LdK h10 x129 fun x130=>
  Qk prog .neq tsl x130 (.slice none 0 0) fun x131=>
  IfK x131
  (Q3 (.pointer (some ⟨q,0,none⟩)) fun x133=>Qg x133 fld fun x134=>LdK h10 x134 fun x135=>
   Yv x135 fun x136=>
   Qe3 h10 93 4 z93 x136 x136 fun x138 h11=>
   QD (fun M7=>
    Yu [(.int .i64 0)] h11 fun I8 n9=>∀x14:Value,∀h12:Qe,I8 n9 [x14] h12->
    Qk prog .lss 3 x14 x136 fun x141=>
    IfK x141
    (Q3 (.pointer (some ⟨q,0,none⟩)) fun x148=>Qg x148 fld fun x149=>LdK h12 x149 fun x150=>
     Y1 1 x150 x14 fun x152=>LdK h12 x152 fun x153=>
     Qa prog f (args x153) h12 fun x154 h13=>
     Y1 1 x138 x14 fun x155=>StK h13 1 x155 x154 fun h14=>
     Qk prog .add 3 x14 (.int .i64 1) fun x143=>
     QS I8 n9 [x143] h14)
    (M7 [x14] h12)) fun M7=>∀x14_1:Value,∀h15:Qe,M7 [x14_1] h15->
   Qa prog start #[x1,x136] h15 fun _x158 h16=>
   QD (fun M10=>
    Qk prog .sub 3 x136 (.int .i64 1) fun x160=>
    Yu [x160] h16 fun I11 n12=>∀x15:Value,∀h17:Qe,I11 n12 [x15] h17->
    Qk prog .geq 3 x15 (.int .i64 0) fun x162=>
    IfK x162
    (Y1 1 x138 x15 fun x168=>LdK h17 x168 fun x169=>
     Qa prog 165 #[x1,x169] h17 fun _x170 h18=>
     Qk prog .sub 3 x15 (.int .i64 1) fun x164=>
     QS I11 n12 [x164] h18)
    (M10 [x15] h17)) fun M10=>∀x15_1:Value,∀h19:Qe,M10 [x15_1] h19->
   Qa prog 182 #[x1,x136] h19 fun x173 h20=>M6 [x173] h20)
  (M6 [(.int .u32 0)] h10)) fun M6=>∀x11:Value,∀h21:Qe,M6 [x11] h21->rest x11 h21
set_option maxHeartbeats 2000000 in
theorem Qi4 {α:Type} {H:Qe} {p:Nat} {S:BS} {F:Cut} {r:Nat} (hB:Qd H p S F r) {q fld start f:Nat} {tsl e0:TypeId} {args:Value->Array Value} {v0:Value} {cells:Array Value} {vs:List Value} {xs:List α}
  {pk:α->BS->BS×Nat} {c:α->Nat} {sl:Nat} {rest:Kn} (ht:(prog).underlying tsl=some (.slice e0)) (hq:Za F (.pointer (some ⟨q,0,none⟩)) cells) (hf:cells[fld]?=some v0) (hv:QaH F v0 vs) (hvi:vs.length=xs.length)
  (hI:Inv S) (hn:xs.length<536870912) (hc:∀x∈xs,∀S,Inv S->YC S (c x) (pk x S)) (hl:S.buf.length+(xs.map c).sum+4*xs.length+80+sl<=536870912)
  (hstart:∀H S F,Qd H p S F 0->Inv S->S.buf.length+4*xs.length+80<=536870912->∀R:Kn,(∀H' v,Qd H' p (Yo 4 xs.length 4 S) F (4*xs.length+5)->R v H')->FnS prog start #[.pointer (some ⟨p,0,none⟩),.int .i64 (xs.length:Nat)] H R)
  (hstep:∀(i:Nat) (hi1:i<vs.length) (hi2:i<xs.length) (S':BS) (H':Qe) (F':Cut),F.le F'->Qd H' p S' F' 0->Inv S'->S'.buf.length+c (xs[i]'hi2)+sl<=536870912->
   ∀R:Kn,(∀H'',Qd H'' p (pk (xs[i]'hi2) S').1 F' 0->R (.int .u32 ((pk (xs[i]'hi2) S').2:Nat)) H'')->FnS prog f (args (vs[i]'hi1)) H' R)
  (hrest:∀H',Qd H' p (optO (QB pk xs) S).1 F 0->rest (.int .u32 ((optO (QB pk xs) S).2:Nat)) H'):
  OffBlock q fld start f tsl args (.pointer (some ⟨p,0,none⟩)) H rest:=by
 have hfl:=Qce pk xs S
 have hemp:(vs=[])↔(xs=[]):=by
  rw[<-List.length_eq_zero_iff,<-List.length_eq_zero_iff,hvi]
 have hemp2:((QB pk xs S).2=[])↔(xs=[]):=by
  rw[<-List.length_eq_zero_iff,<-List.length_eq_zero_iff,hfl]
 unfold OffBlock
 refine Q0 (fun ws h=>ws=[.int .u32 ((optO (QB pk xs) S).2:Nat)]/\Qd h p (optO (QB pk xs) S).1 F 0) ?_ ?_
 ·refine hq.ld hB.cut (i:=fld) v0 hf ?_
  rw[hv.neq ht]
  by_cases h0:xs=[]
  ·have hvn:¬vs≠[]:=fun h=>h (hemp.2 h0)
   rw[QM hvn]
   unfold optO
   rw[if_pos (hemp2.2 h0)]
   exact ⟨rfl,hB.room (Nat.zero_le _)⟩
  ·have hvn:vs≠[]:=fun h=>h0 (hemp.1 h)
   rw[Yb hvn]
   refine hq.ld hB.cut (i:=fld) v0 hf ?_
   rw[hv.1.len,hvi]
   refine ⟨by omega,by omega,by omega,by omega,?_⟩
   simp only[Int.toNat_natCast]
   rw[mk_u32 (z:=z93) rfl]
   have hB1:=(hB.room (Nat.zero_le _)).push (.cells (QgU (List.replicate xs.length 0)) 93)
   have hFn:=hB.none
   generalize H.size=b at *
   have hle:∀o,F.le (F.upd b o):=fun o=>Cut.le_upd hFn
   obtain ⟨hI2,hI3,hI4,hI5⟩:=Qe6 (c:=c) xs hc S hI
   refine Q0 (fun _ h=>Qd h p (QB pk xs S).1 (F.upd b (.cells (QgU (QB pk xs S).2) 93)) 0) ?_ ?_
   ·refine ⟨fun m ws h=>∃i:Nat,ws=[.int .i64 (i:Int)]/\i<=xs.length/\m=xs.length-i/\
     Qd h p (QB pk (xs.take i) S).1 (F.upd b (.cells (QgU ((QB pk (xs.take i) S).2++List.replicate (xs.length-i) 0)) 93)) 0,⟨_,0,rfl,Nat.zero_le _,rfl,?_⟩,fun m=>?_⟩
    ·exact hB1
    ·rintro x14 h12 ⟨i,hx,hi,rfl,hb⟩
     cases hx
     rw[Yr]
     apply Zd
     ·intro hlt
      have hi2:i<xs.length:=by omega
      have htake:xs.take (i+1)=xs.take i++[xs[i]]:=by
       rw[List.take_add_one,List.getElem?_eq_getElem hi2]
       simp
      obtain ⟨g1,g2,g3,g4⟩:=Qe6 (c:=c) (xs.take i) (fun x hx=>hc x (List.mem_of_mem_take hx)) S hI
      have hlen2:=Qce pk (xs.take i) S
      rw[List.length_take,Nat.min_eq_left (by omega)]at hlen2
      have hsum:((xs.take i).map c).sum+c xs[i]<=(xs.map c).sum:=by
       have e1:((xs.take (i+1)).map c).sum=((xs.take i).map c).sum+c xs[i]:=by rw[htake,List.map_append,List.sum_append,List.map_cons,List.map_nil,List.sum_cons,List.sum_nil,Nat.add_zero]
       have e2:(xs.map c).sum=((xs.take (i+1)).map c).sum+((xs.drop (i+1)).map c).sum:=by
        rw[<-List.sum_append,<-List.map_append,List.take_append_drop]
       omega
      refine (hq.mono (hle _)).ld hb.cut (i:=fld) v0 hf ?_
      refine (hv.1.mono (hle _)).item hb.cut (i:=i) rfl (by omega) ?_
      refine hstep i (by omega) hi2 _ h12 _ (hle _) hb g1 (by omega) _ ?_
      intro h13 hb2
      rw[QR (by omega) (by omega),Int.toNat_natCast,Nat.mul_one,Nat.zero_add]
      have hcell:=hb2.get (b:=b) Cut.upd_same
      rw[Qas hcell (by rw[QhW];simp[hlen2];omega) (by simp) rfl,u32c_set,QA,wrap_i64 (by omega) (by omega)]
      refine ⟨xs.length-(i+1),by omega,i+1,rfl,by omega,rfl,?_⟩
      have hb3:=hb2.set (b:=b) Cut.upd_same (.cells (QgU (((QB pk (xs.take i) S).2++List.replicate (xs.length-i) 0).set i (pk xs[i] (QB pk (xs.take i) S).1).2)) 93 (0,0))
      rw[Cut.upd_upd]at hb3
      rw[htake,QhU]
      have e3:((QB pk (xs.take i) S).2++List.replicate (xs.length-i) 0).set i (pk xs[i] (QB pk (xs.take i) S).1).2=
        (QB pk (xs.take i) S).2++[(pk xs[i] (QB pk (xs.take i) S).1).2]++List.replicate (xs.length-(i+1)) 0:=by
       rw[List.set_append_right _ _ (by omega),hlen2,Nat.sub_self]
       obtain ⟨k,hk⟩:∃k,xs.length-i=k+1:=⟨xs.length-i-1,by omega⟩
       rw[hk,List.replicate_succ,List.set_cons_zero,show xs.length-(i+1)=k by omega]
       simp
      rw[e3]at hb3⊢
      exact hb3
     ·intro hge
      have:i=xs.length:=by omega
      subst this
      rw[List.take_length,Nat.sub_self,List.replicate_zero,List.append_nil]at hb
      exact hb
   ·intro x14 h15 hb
    have hopt:optO (QB pk xs) S=(offsS (QB pk xs S).2 (QB pk xs S).1,(offsS (QB pk xs S).2 (QB pk xs S).1).buf.length):=by
     unfold optO;rw[if_neg (fun h=>h0 (hemp2.1 h))]
    rw[hopt]
    generalize (QB pk xs S).2=offs at *
    generalize (QB pk xs S).1=S2 at *
    refine hstart h15 S2 _ hb hI2 (by omega) _ ?_
    intro h16 w hb16
    have hm:=Qjd 4 xs.length 4 S2
    have ha:=Qhc (es:=4) (n:=xs.length) S2 (al:=4) (k:=2) rfl
    obtain ⟨x,hx,hxl⟩:=Qgf 4 xs.length 4 S2 (by decide)
    have hS1l:(Yo 4 xs.length 4 S2).buf.length<=S2.buf.length+7:=by rw[hx,List.length_append];omega
    have hS1g:S2.buf.length<=(Yo 4 xs.length 4 S2).buf.length:=by rw[hx,List.length_append];omega
    have hS1n:(Yo 4 xs.length 4 S2).nested=true:=rfl
    have hofs:offsS offs S2=Qjc xs.length (place (Qbz (Yo 4 xs.length 4 S2).buf.length offs).flatten (Yo 4 xs.length 4 S2)):=by
     unfold offsS vecS;rw[Qep,hfl]
    rw[hofs]
    generalize Yo 4 xs.length 4 S2=S1 at *
    refine Q0 (fun _ h=>Qd h p (place (Qbz S1.buf.length offs).flatten S1) (F.upd b (.cells (QgU offs) 93)) 5) ?_ ?_
    ·rw[QZ,wrap_i64 (by omega) (by omega)]
     refine ⟨fun m ws h=>∃i:Nat,ws=[.int .i64 ((i:Int)-1)]/\i<=xs.length/\m=i/\Qd h p (place (Qbz S1.buf.length (offs.drop i)).flatten S1) (F.upd b (.cells (QgU offs) 93)) (4*i+5),⟨_,xs.length,rfl,Nat.le_refl _,rfl,?_⟩,fun m=>?_⟩
     ·rw[<-hfl,List.drop_length]
      rw[<-hfl]at hb16
      exact hb16
     ·rintro x15 h17 ⟨i,hx,hi',rfl,hb⟩
      cases hx
      rw[QgK]
      apply Zd
      ·intro hge
       have hm1:m-1<offs.length:=by omega
       have hm2:m-1+1=m:=by omega
       rw[QR (by omega) (by omega)]
       have hto:((m:Int)-1).toNat=m-1:=by omega
       have hcell:=hb.get (b:=b) Cut.upd_same
       rw[hto,Nat.mul_one,Nat.zero_add,Ql ((Qj hcell).trans (u32c_get hm1))]
       have hdl:(Qbz S1.buf.length (offs.drop m)).flatten.length=4*(offs.length-m):=by
        rw[Qbf _ (Qfp _ _),Qep,List.length_drop]
       have hget:offs.getD (m-1) 0=offs[m-1]:=by simp[List.getD,hm1]
       have hoff:offs[m-1]<=S2.buf.length:=hI5 _ (List.getElem_mem hm1)
       have hdrop:offs.drop (m-1)=offs[m-1]::offs.drop m:=by rw[List.drop_eq_getElem_cons hm1,hm2]
       rw[hget]
       refine al_UOffsetT hb ?_ (by rw[QaQ];exact hm.1) (by rw[YE];omega) (by rw[YE,hdl];omega) ?_
       ·rw[YE,hdl]
        have e4:(4*(offs.length-m)+S1.buf.length)+4*m=S1.buf.length+4*xs.length:=by omega
        omega
       ·intro h18 hb18
        rw[QZ,wrap_i64 (by omega) (by omega)]
        refine ⟨m-1,by omega,m-1,by rw[show ((m:Int)-1-1)=(((m-1:Nat):Int)-1) by omega],by omega,rfl,?_⟩
        rw[Zk,YE,hdl]at hb18
        rw[hdrop,Qbz,List.flatten_cons,List.length_drop,show S1.buf.length+4*(offs.length-m)=4*(offs.length-m)+S1.buf.length by omega]
        exact hb18.room (by omega)
      ·intro hge
       have hm0:m=0:=by omega
       subst hm0
       exact hb
    ·intro x15 h19 hb19
     refine Qap hb19 hS1n (by decide) (by omega) ?_
     intro h20 hb20
     exact ⟨rfl,(hb20.room (by decide)).weaken (hle _)⟩
 ·rintro x8 h21 ⟨hx,hb⟩
  cases hx
  exact hrest h21 hb
end Go.Proofs
namespace Go.Proofs
open Go Go.Vc
open Tryz (prog)
theorem Qd6 {t:TypeId} {ok:Bool} {z v:Value} {k:Value->Prop}:Qjf t ok z (.iface t v) k=k (if ok then .tuple #[v,.bool true] else v):=by
 show (if t=t then _ else _)=_
 rw[if_pos rfl]
def KidOk (p:Nat) (S:BS) (F:Cut) (H:Qe) (c:Value) (kids:List Mon):Prop:=
 ∀k,kids=[k]->∀R:Kn,(∀H',Qd H' p (Qb1 k S).1 F 0->R (.int .u32 ((Qb1 k S).2:Nat)) H')->FnS prog 66 #[c,.pointer (some ⟨p,0,none⟩)] H R
theorem AnyT_Pack {H:Qe} {p:Nat} {S:BS} {F:Cut} {r:Nat} (hB:Qd H p S F r) {R:Kn} {ty color:UInt8} {v c:Value} {kids:List Mon} (hv:QcZ F false ty color v c kids) (hkid:KidOk p S F H c kids) (hI:Inv S) (hl:S.buf.length+5000<=536870912)
  (hR:∀H',Qd H' p (Qci false ty color (Zw kids) S).1 F 0->R (.int .u32 ((Qci false ty color (Zw kids) S).2:Nat)) H'):
  FnS prog 179 #[v,.pointer (some ⟨p,0,none⟩)] H R:=by
 apply w179
 unfold tp179
 rcases hv with ⟨rfl,rfl,rfl⟩|⟨h0,w,hv',hu⟩
 ·rw[Y2 (by kernel_rfl)]
  exact hR H (hB.room (Nat.zero_le _))
 ·obtain ⟨q,e,rfl,hq⟩:=hv'
  have hv':Za F (.pointer (some ⟨q,0,none⟩)) #[u8n ty,w]:=⟨q,e,rfl,hq⟩
  rw[Y2 (by kernel_rfl)]
  show IfK (.bool false) _ _
  rw[ZG]
  rcases hu with ⟨_,rfl,rfl,hc,rfl⟩|⟨hty,rfl,k,rfl⟩
  ·refine hv'.ld hB.cut (i:=0) (u8n 2) rfl ?_
   rw[Yt,QM (by decide),Yt,Yb (by decide)]
   refine hv'.ld hB.cut (i:=1) (.iface 278 c) rfl ?_
   rw[Qd6]
   refine QiS hB hI hc hl ?_
   intro H' h'
   exact hR H' h'
  ·have h1:ty=1:=by
    rcases hty with h|⟨h,_⟩
    ·exact h
    ·cases h
   subst h1
   refine hv'.ld hB.cut (i:=0) (u8n 1) rfl ?_
   rw[Yt,Yb (by decide)]
   refine hv'.ld hB.cut (i:=1) (.iface 89 c) rfl ?_
   rw[Qd6]
   refine hkid k rfl _ ?_
   intro H' h'
   have e:Qci false 1 color (Zw [k]) S=Qb1 k S:=by
    unfold Qci
    rw[if_neg (by decide),if_neg (by decide),Zw]
   rw[e]at hR
   exact hR H' h'
theorem Qg0 {H:Qe} {p:Nat} {S:BS} {F:Cut} {r:Nat} (hB:Qd H p S F r) {R:Kn} {ty color:UInt8} {v c:Value} {kids:List Mon} (hv:QcZ F false ty color v c kids) (hkid:KidOk p S F H c kids) (hI:Inv S) (hl:S.buf.length+5000<=536870912)
  (hR:∀H',Qd H' p (Qci false ty color (Zw kids) S).1 F 0->R (.int .u32 ((Qci false ty color (Zw kids) S).2:Nat)) H'):
  FnS prog 204 #[v,.pointer (some ⟨p,0,none⟩)] H R:=by
 apply w204
 unfold tp179
 rcases hv with ⟨rfl,rfl,rfl⟩|⟨h0,w,hv',hu⟩
 ·rw[Y2 (by kernel_rfl)]
  exact hR H (hB.room (Nat.zero_le _))
 ·obtain ⟨q,e,rfl,hq⟩:=hv'
  have hv':Za F (.pointer (some ⟨q,0,none⟩)) #[u8n ty,w]:=⟨q,e,rfl,hq⟩
  rw[Y2 (by kernel_rfl)]
  show IfK (.bool false) _ _
  rw[ZG]
  rcases hu with ⟨_,rfl,rfl,hc,rfl⟩|⟨hty,rfl,k,rfl⟩
  ·refine hv'.ld hB.cut (i:=0) (u8n 2) rfl ?_
   rw[Yt,QM (by decide),Yt,Yb (by decide)]
   refine hv'.ld hB.cut (i:=1) (.iface 278 c) rfl ?_
   rw[Qd6]
   refine QiS hB hI hc hl ?_
   intro H' h'
   exact hR H' h'
  ·have h1:ty=1:=by
    rcases hty with h|⟨h,_⟩
    ·exact h
    ·cases h
   subst h1
   refine hv'.ld hB.cut (i:=0) (u8n 1) rfl ?_
   rw[Yt,Yb (by decide)]
   refine hv'.ld hB.cut (i:=1) (.iface 89 c) rfl ?_
   rw[Qd6]
   refine hkid k rfl _ ?_
   intro H' h'
   have e:Qci false 1 color (Zw [k]) S=Qb1 k S:=by
    unfold Qci
    rw[if_neg (by decide),if_neg (by decide),Zw]
   rw[e]at hR
   exact hR H' h'
theorem QeP {H:Qe} {p:Nat} {S:BS} {F:Cut} {r:Nat} (hB:Qd H p S F r) {R:Kn} {ty color:UInt8} {v c:Value} {kids:List Mon} (hv:QcZ F true ty color v c kids) (hkid:KidOk p S F H c kids) (hI:Inv S) (hl:S.buf.length+5000<=536870912)
  (hR:∀H',Qd H' p (Qci true ty color (Zw kids) S).1 F 0->R (.int .u32 ((Qci true ty color (Zw kids) S).2:Nat)) H'):
  FnS prog 205 #[v,.pointer (some ⟨p,0,none⟩)] H R:=by
 apply w205
 unfold tp179
 rcases hv with ⟨rfl,rfl,rfl⟩|⟨h0,w,hv',hu⟩
 ·rw[Y2 (by kernel_rfl)]
  exact hR H (hB.room (Nat.zero_le _))
 ·obtain ⟨q,e,rfl,hq⟩:=hv'
  have hv':Za F (.pointer (some ⟨q,0,none⟩)) #[u8n ty,w]:=⟨q,e,rfl,hq⟩
  rw[Y2 (by kernel_rfl)]
  show IfK (.bool false) _ _
  rw[ZG]
  rcases hu with ⟨h,_⟩|⟨hty,rfl,k,rfl⟩
  ·cases h
  ·have e:Qci true ty color (Zw [k]) S=Qb1 k S:=by
    unfold Qci
    rw[if_neg h0,if_neg (by simp),Zw]
   rw[e]at hR
   have go:∀x,x=ty->True:=fun _ _=>trivial
   refine hv'.ld hB.cut (i:=0) (u8n ty) rfl ?_
   rcases hty with rfl|⟨_,rfl|rfl⟩
   ·rw[Yt,Yb (by decide)]
    refine hv'.ld hB.cut (i:=1) (.iface 89 c) rfl ?_
    rw[Qd6]
    exact hkid k rfl _ hR
   ·rw[Yt,QM (by decide),Yt,Yb (by decide)]
    refine hv'.ld hB.cut (i:=1) (.iface 89 c) rfl ?_
    rw[Qd6]
    exact hkid k rfl _ hR
   ·rw[Yt,QM (by decide),Yt,QM (by decide),Yt,Yb (by decide)]
    refine hv'.ld hB.cut (i:=1) (.iface 89 c) rfl ?_
    rw[Qd6]
    exact hkid k rfl _ hR
end Go.Proofs
namespace Go.Proofs
open Go Go.Vc
open Tryz (prog)
theorem YC.id {S:BS} (h:Inv S):YC S 0 (S,0):=⟨h,Nat.le_refl _,Nat.le_refl _,Nat.zero_le _⟩
theorem YC.mono {S:BS} {c c':Nat} {q:BS×Nat} (h:YC S c q) (hc:c<=c'):YC S c' q:=⟨h.inv,Nat.le_trans h.len (by omega),h.le,h.off⟩
theorem QdV (xs:List UInt8) {S:BS} (h:Inv S):YC S (xs.length+8) (Qd9 xs S):=by
 obtain ⟨h1,h2,h3⟩:=h.createStr xs
 exact ⟨h1,by show (createStr xs S).buf.length<=_;omega,by show _<=(createStr xs S).buf.length;omega,Nat.le_refl _⟩
theorem QiD (xs:List UInt8) {S:BS} (h:Inv S):YC S (xs.length+8) (optB xs S):=by
 unfold optB
 split
 ·exact (YC.id h).mono (by omega)
 ·exact QdV xs h
theorem QbG {es al:Nat} {items:List (List UInt8)} (hal:P2 al) (hi:∀x∈items,x.length=es) {S:BS} (h:Inv S):YC S (es*items.length+15) (QhI es al items S):=by
 unfold QhI
 split
 ·exact (YC.id h).mono (by omega)
 ·exact (YC.vecS h hal hi).1
theorem optO_ok {q:BS->BS×List Nat} {c n:Nat} {S:BS} (hI:Inv S) (hq:Inv (q S).1/\(q S).1.buf.length<=S.buf.length+c/\S.buf.length<=(q S).1.buf.length) (hn:(q S).2.length=n):YC S (c+4*n+15) (optO q S):=by
 obtain ⟨h1,h2,h3⟩:=hq
 unfold optO
 split
 ·exact (YC.id hI).mono (by omega)
 ·have:=(YC.vecS (es:=4) (al:=4) (items:=Qbz (Yo 4 (q S).2.length 4 (q S).1).buf.length (q S).2) h1 P2_4 (Qfp _ _)).1
  have e:(Qbz (Yo 4 (q S).2.length 4 (q S).1).buf.length (q S).2).length=n:=by rw[Qep,hn]
  refine ⟨this.inv,?_,?_,this.off⟩
  ·have l:=this.len
   rw[e]at l
   refine Nat.le_trans l ?_
   omega
  ·exact Nat.le_trans h3 this.le
theorem optStat_ok (d:Option ZJ) {S:BS} (h:Inv S):YC S (statLen d+100) (QiJ d S):=by
 unfold QiJ
 cases d with
 |none=>exact (YC.id h).mono (by omega)
 |some s=>exact (packStat_ok s h).1
theorem QiY (b:Bool) {S:BS} (h:Inv S):YC S 40 (Qf2 b S):=by
 unfold Qf2
 cases b
 ·exact (YC.id h).mono (by omega)
 ·exact (packParent_ok h).1
theorem Qfb {amb:Bool} {ty color:UInt8} {kid:BS->BS×Nat} {c:Nat} {S:BS} (h:Inv S) (hk:YC S c (kid S)):YC S (c+40) (Qci amb ty color kid S):=by
 unfold Qci
 split
 ·exact (YC.id h).mono (by omega)
 ·split
  ·exact (packSimple_ok color h).1.mono (by omega)
  ·exact hk.mono (by omega)
theorem QdH {α:Type} (c:Nat):∀l:List α,(l.map fun _=>c).sum=c*l.length
 |[]=>by simp
 |x::l=>by simp[QdH c l,Nat.mul_add];omega
theorem Qfn {α:Type} (f:α->Nat) (c:Nat):∀l:List α,(l.map fun x=>f x+c).sum=(l.map f).sum+c*l.length
 |[]=>by simp
 |x::l=>by simp[Qfn f c l,Nat.mul_add];omega
theorem strs_ok (l:List (List UInt8)) {S:BS} (h:Inv S):YC S ((l.map List.length).sum+12*l.length+15) (optO (QB Qd9 l) S):=by
 obtain ⟨h1,h2,h3,_⟩:=Qe6 (f:=Qd9) (c:=fun x=>x.length+8) l (fun x _ S hS=>QdV x hS) S h
 rw[Qfn]at h2
 exact (optO_ok h ⟨h1,h2,h3⟩ (Qce _ _ _)).mono (by omega)
theorem refs_ok (l:List UInt64) {S:BS} (h:Inv S):YC S (44*l.length+15) (optO (QB Qdb l) S):=by
 obtain ⟨h1,h2,h3,_⟩:=Qe6 (f:=Qdb) (c:=fun _=>40) l (fun x _ S hS=>(Qit x hS).1) S h
 rw[QdH]at h2
 exact (optO_ok h ⟨h1,h2,h3⟩ (Qce _ _ _)).mono (by omega)
end Go.Proofs
namespace Go.Proofs
open Go Go.Vc
open Tryz (prog)
theorem foldMk_ok:∀(fs:List (BS->BS×Nat)) (cs:List Nat),fs.length=cs.length->(∀(i:Nat) f c,fs[i]?=some f->cs[i]?=some c->∀S,Inv S->YC S c (f S))->∀S,Inv S->
  Inv (QB (fun f=>f) fs S).1/\(QB (fun f=>f) fs S).1.buf.length<=S.buf.length+cs.sum/\S.buf.length<=(QB (fun f=>f) fs S).1.buf.length/\∀o∈(QB (fun f=>f) fs S).2,o<=(QB (fun f=>f) fs S).1.buf.length
 |[],[],_,_,S,h=>⟨h,by simp[QB],Nat.le_refl _,by simp[QB]⟩
 |f::fs,c::cs,hl,hf,S,h=>by
  have h1:=hf 0 f c rfl rfl S h
  obtain ⟨g1,g2,g3,g4⟩:=foldMk_ok fs cs (by simpa using hl) (fun i f c a b=>hf (i+1) f c (by simpa using a) (by simpa using b)) (f S).1 h1.inv
  have h2:=h1.len
  have h3:=h1.le
  have h4:=h1.off
  refine ⟨g1,?_,?_,?_⟩
  ·show (QB (fun f=>f) fs (f S).1).1.buf.length<=_
   simp only[List.sum_cons];omega
  ·show _<=(QB (fun f=>f) fs (f S).1).1.buf.length
   omega
  ·intro o ho
   show o<=(QB (fun f=>f) fs (f S).1).1.buf.length
   rcases List.mem_cons.1 ho with rfl|ho
   ·exact Nat.le_trans h4 g3
   ·exact g4 o ho
def MkOk:List (BS->BS×Nat)->List Nat->Prop
 |[],[]=>True
 |f::fs,c::cs=>(∀S,Inv S->YC S c (f S))/\MkOk fs cs
 |_,_=>False
theorem MkOk.to:∀{fs:List (BS->BS×Nat)} {cs:List Nat},MkOk fs cs->fs.length=cs.length/\∀(i:Nat) f c,fs[i]?=some f->cs[i]?=some c->∀S,Inv S->YC S c (f S)
 |[],[],_=>⟨rfl,fun i f c h=>by simp at h⟩
 |f::fs,c::cs,h=>by
  obtain ⟨h1,h2⟩:=h
  obtain ⟨g1,g2⟩:=MkOk.to h2
  refine ⟨by simp[g1],fun i f' c' a b=>?_⟩
  cases i with
  |zero=>simp at a b;subst a;subst b;exact h1
  |succ i=>exact g2 i f' c' (by simpa using a) (by simpa using b)
 |[],_::_,h=>h.elim
 |_::_,[],h=>h.elim
theorem runS_ok {S0:BS} {n k:Nat}:∀(fs:List (BS->BS)),(∀f∈fs,∀c S,YS S0 n c S->YS S0 n (c+k) (f S))->∀c S,YS S0 n c S->YS S0 n (c+k*fs.length) (runS fs S)
 |[],_,c,S,h=>by simpa [runS]using h
 |f::fs,hf,c,S,h=>by
  have h1:=hf f List.mem_cons_self c S h
  have h2:=runS_ok fs (fun g hg=>hf g (List.mem_cons_of_mem _ hg)) (c+k) (f S) h1
  refine h2.mono ?_
  simp only[List.length_cons,Nat.mul_add];omega
theorem vec3_len (v:ZO):(Qj8 v).length=32:=by simp[Qj8,vec3B,Qf]
theorem YS.slotPos {S0 S:BS} {n c:Nat} (h:YS S0 n c S) (pos:Option ZO):YS S0 n (c+64) (Proofs.slotPos pos S):=by
 unfold Proofs.slotPos
 cases pos with
 |none=>exact h.mono (by omega)
 |some v=>
  have h1:=((h.prep (a:=32) P2_8).place (Qj8 v)).slotStruct (off:=(Vc.place (Qj8 v) (Vc.prep 8 32 S)).buf.length) (o:=0)
  exact h1.mono (by rw[vec3_len];omega)
theorem YS.slotTy {S0 S:BS} {n c o:Nat} {ty:UInt8} (h:YS S0 n c S):YS S0 n (c+64) (Proofs.slotTy ty o S):=by
 unfold Proofs.slotTy
 split
 ·exact h.mono (by omega)
 ·exact (h.slotN P2_1).mono (by omega)
set_option maxRecDepth 4000 in
theorem slotsF_ok (fc:Nat) (d:Qbt) (o:List Nat) {S0:BS} {n:Nat}:∀f∈slotsF fc d o,∀c S,YS S0 n c S->YS S0 n (c+64) (f S):=by
 intro f hf c S h
 have hP:∀{k oo x:Nat},P2 k->YS S0 n (c+64) (slot oo (putN k (leB (x:Int) k) S)):=fun hk=>((h.putN hk (by rw[Qf];exact hk.le)).slot).mono (by omega)
 have hN:∀{k x dd oo:Nat},P2 k->YS S0 n (c+64) (Qch fc k x dd oo S):=fun hk=>by unfold Qch;split;exact h.mono (by omega);exact hP hk
 have hO:∀{x oo:Nat},YS S0 n (c+64) (slotOff x oo S):=h.slotOff.mono (by omega)
 have hFl:∀{x dd oo:Nat},YS S0 n (c+64) (slotFF fc x dd oo S):=by intro x dd oo;unfold slotFF;split;exact h.mono (by omega);exact hP P2_4
 unfold slotsF at hf
 simp only[List.mem_cons,List.not_mem_nil,or_false]at hf
 rcases hf with rfl|rfl|rfl|rfl|rfl|rfl|rfl|rfl|rfl|rfl|rfl|rfl|rfl|rfl|rfl|rfl|rfl|rfl|rfl|rfl|rfl|rfl|rfl|rfl|rfl|rfl|rfl|rfl|rfl|rfl|rfl|rfl|rfl|rfl|rfl|rfl|rfl|rfl|rfl|rfl|rfl|rfl|rfl|rfl|rfl|rfl|rfl|rfl
 all_goals first
  |exact h.slotPos _
  |exact h.slotTy
  |exact hO
  |exact hFl
  |exact hN P2_1
  |exact hN P2_2
  |exact hN P2_4
  |exact hN P2_8
end Go.Proofs
namespace Go.Proofs
open Go Go.Vc
open Tryz (prog)
theorem Qbi (a b:Nat):(QcB a b).length=4:=by simp[QcB,Qf]
theorem Qcl (a b:Nat):(QaJ a b).length=8:=by simp[QaJ,Qf]
theorem Yh {α:Type} {f:α->List UInt8} {k:Nat} (h:∀x,(f x).length=k) {l:List α}:∀y∈l.map f,y.length=k:=by
 intro y hy
 obtain ⟨x,_,rfl⟩:=List.mem_map.1 hy
 exact h x
def mkCosts (d:Qbt) (ct nt ce cu cq ca:Nat):List Nat:=
 [d.name.length+8,d.inventory.length+8,cu+40,4*d.test4.length+15,(d.strings.map List.length).sum+12*d.strings.length+15,ct+4*nt+15,ce,d.nested.length+8,statLen d.empty+100,
  1*d.bools.length+15,(d.strings2.map List.length).sum+12*d.strings2.length+15,8*d.abilities.length+15,d.flex.length+8,4*d.test5.length+15,8*d.longs.length+15,8*d.doubles.length+15,40,
  44*d.refs.length+15,8*d.weak.length+15,44*d.strong.length+15,8*d.coOwnings.length+15,8*d.nonOwnings.length+15,cq+40,ca+40,1*d.enums.length+15]
theorem makers_ok (d:Qbt) {tables:BS->BS×List Nat} {enemy test uniq amb:BS->BS×Nat} {ct nt ce cu cq ca:Nat}
  (ht:∀S,Inv S->(Inv (tables S).1/\(tables S).1.buf.length<=S.buf.length+ct/\S.buf.length<=(tables S).1.buf.length)/\(tables S).2.length=nt)
  (he:∀S,Inv S->YC S ce (enemy S)) (hu:∀S,Inv S->YC S cu (test S)) (hq:∀S,Inv S->YC S cq (uniq S)) (ha:∀S,Inv S->YC S ca (amb S)):
  MkOk (Qj7 d tables enemy test uniq amb) (mkCosts d ct nt ce cu cq ca):=by
 have hu8:∀x,(Qdt x).length=8:=fun x=>Qf _ _
 have v8:∀(l:List UInt64) S,Inv S->YC S (8*l.length+15) (QhI 8 8 (l.map Qdt) S):=fun l S h=>by
  have:=QbG (es:=8) P2_8 (Yh hu8 (l:=l)) h
  rwa [List.length_map]at this
 refine ⟨fun S h=>QdV _ h,fun S h=>QiD _ h,fun S h=>Qfb h (hu S h),fun S h=>?_,fun S h=>strs_ok _ h,fun S h=>optO_ok h (ht S h).1 (ht S h).2,he,fun S h=>QiD _ h,fun S h=>optStat_ok _ h,fun S h=>?_,fun S h=>strs_ok _ h,
  fun S h=>?_,fun S h=>QiD _ h,fun S h=>?_,v8 _,v8 _,fun S h=>QiY _ h,fun S h=>refs_ok _ h,v8 _,fun S h=>refs_ok _ h,v8 _,v8 _,fun S h=>Qfb h (hq S h),fun S h=>Qfb h (ha S h),fun S h=>?_,trivial⟩
 ·have:=QbG (es:=4) P2_2 (Yh (fun t:Qb8=>Qbi t.a.toNat t.b.toNat) (l:=d.test4)) h
  rwa [List.length_map]at this
 ·have:=QbG (es:=1) P2_1 (Yh (fun b:Bool=>(rfl:(Qho b).length=1)) (l:=d.bools)) h
  rwa [List.length_map]at this
 ·have:=QbG (es:=8) P2_4 (Yh (fun t:QeJ=>Qcl t.id.toNat t.dist.toNat) (l:=d.abilities)) h
  rwa [List.length_map]at this
 ·have:=QbG (es:=4) P2_2 (Yh (fun t:Qb8=>Qbi t.a.toNat t.b.toNat) (l:=d.test5)) h
  rwa [List.length_map]at this
 ·have:=QbG (es:=1) P2_1 (Yh (fun b:UInt8=>(rfl:[b].length=1)) (l:=d.enums)) h
  rwa [List.length_map]at this
theorem packTF_ok (fc:Nat) (d:Qbt) {tables:BS->BS×List Nat} {enemy test uniq amb:BS->BS×Nat} {ct nt ce cu cq ca:Nat}
  (ht:∀S,Inv S->(Inv (tables S).1/\(tables S).1.buf.length<=S.buf.length+ct/\S.buf.length<=(tables S).1.buf.length)/\(tables S).2.length=nt)
  (he:∀S,Inv S->YC S ce (enemy S)) (hu:∀S,Inv S->YC S cu (test S)) (hq:∀S,Inv S->YC S cq (uniq S)) (ha:∀S,Inv S->YC S ca (amb S)) {S:BS} (h:Inv S):
  YC S (costD d+60*nt+ct+ce+cu+cq+ca) (packTF fc d tables enemy test uniq amb S)/\0<(packTF fc d tables enemy test uniq amb S).2:=by
 obtain ⟨m1,m2⟩:=MkOk.to (makers_ok d ht he hu hq ha)
 obtain ⟨g1,g2,g3,g4⟩:=foldMk_ok _ _ m1 m2 S h
 unfold packTF
 generalize QB (fun f=>f) (Qj7 d tables enemy test uniq amb) S=q at *
 have hs:=runS_ok (slotsF fc d q.2) (slotsF_ok fc d q.2) 0 _ (YS.start (n:=49) g1.min)
 have hp:=YC.endT hs g1 (by decide)
 refine ⟨⟨hp.1.inv,?_,Nat.le_trans g3 hp.1.le,hp.1.off⟩,hp.2⟩
 have h1:=hp.1.len
 have hl:(slotsF fc d q.2).length=48:=rfl
 rw[hl]at h1
 have hsum:(mkCosts d ct nt ce cu cq ca).sum+4000<=costD d+60*nt+ct+ce+cu+cq+ca:=by
  unfold mkCosts costD
  simp only[List.sum_cons,List.sum_nil]
  omega
 omega
mutual
theorem packM_ok:∀(m:Mon) (S:BS),Inv S->YC S (Qg9 m) (Qb1 m S)/\0<(Qb1 m S).2
 |.mk d tables enemy test uniq amb,S,h=>by
  have:=packTF_ok 49 (d:=d) (ct:=Qb9 tables) (nt:=tables.length) (ce:=Qb9 enemy) (cu:=Qb9 test) (cq:=Qb9 uniq) (ca:=Qb9 amb) (tables:=QdZ tables) (enemy:=Zw enemy) (test:=Zw test) (uniq:=Zw uniq) (amb:=Zw amb)
   (fun S h=>packMs_ok tables S h) (fun S h=>Qdm enemy S h) (fun S h=>Qdm test S h) (fun S h=>Qdm uniq S h) (fun S h=>Qdm amb S h) h
  rw[Qb1,<-packTF_49]
  refine ⟨this.1.mono ?_,this.2⟩
  rw[Qg9];omega
theorem packMs_ok:∀(ms:List Mon) (S:BS),Inv S->(Inv (QdZ ms S).1/\(QdZ ms S).1.buf.length<=S.buf.length+Qb9 ms/\S.buf.length<=(QdZ ms S).1.buf.length)/\(QdZ ms S).2.length=ms.length
 |[],S,h=>by rw[QdZ];exact ⟨⟨h,Nat.le_add_right _ _,Nat.le_refl _⟩,rfl⟩
 |m::ms,S,h=>by
  have h1:=(packM_ok m S h).1
  have h2:=packMs_ok ms (Qb1 m S).1 h1.inv
  have:=h1.len
  have:=h1.le
  have:=h2.1.2.1
  have:=h2.1.2.2
  rw[QdZ,Qb9]
  exact ⟨⟨h2.1.1,by show (QdZ ms (Qb1 m S).1).1.buf.length<=_;omega,by show _<=(QdZ ms (Qb1 m S).1).1.buf.length;omega⟩,by simp[h2.2]⟩
theorem Qdm:∀(ms:List Mon) (S:BS),Inv S->YC S (Qb9 ms) (Zw ms S)
 |[],S,h=>by rw[Zw];exact (YC.id h).mono (Nat.zero_le _)
 |m::ms,S,h=>by
  rw[Zw,Qb9]
  exact (packM_ok m S h).1.mono (by omega)
end
end Go.Proofs
namespace Go.Proofs
open Go Go.Vc
open Tryz (prog)
theorem costs_mem:∀{k:Mon} {l:List Mon},k∈l->Qg9 k<=Qb9 l
 |k,[],h=>by simp at h
 |k,m::ms,h=>by
  rw[Qb9]
  rcases List.mem_cons.1 h with rfl|h
  ·omega
  ·have:=costs_mem h;omega
theorem costs_sum:∀l:List Mon,(l.map Qg9).sum=Qb9 l
 |[]=>rfl
 |m::ms=>by rw[List.map_cons,List.sum_cons,Qb9,costs_sum ms]
def PackOk (n:Nat):Prop:=∀(m:Mon),Qg9 m<n->∀(H:Qe) (p:Nat) (S:BS) (F:Cut) (r:Nat) (v:Value) (R:Kn),Qd H p S F r->Inv S->MT F v m->S.buf.length+Qg9 m+20000<=536870912->
 (∀H',Qd H' p (Qb1 m S).1 F 0->R (.int .u32 ((Qb1 m S).2:Nat)) H')->FnS prog 66 #[v,.pointer (some ⟨p,0,none⟩)] H R
theorem kidOk {n:Nat} (ih:PackOk n) {p:Nat} {S:BS} {F:Cut} {r:Nat} {H:Qe} {c:Value} {kids:List Mon} (hB:Qd H p S F r) (hI:Inv S) (hs:Qb9 kids<n) (hm:∀k,k∈kids->MT F c k) (hl:S.buf.length+Qb9 kids+20000<=536870912):KidOk p S F H c kids:=by
 rintro k rfl R hR
 refine ih k ?_ H p S F r c R hB hI (hm k (by simp)) ?_ hR
 ·rw[Qb9,Qb9]at hs;omega
 ·rw[Qb9,Qb9]at hl;omega
end Go.Proofs
namespace Go.Proofs
open Go Go.Vc
open Tryz (prog)
set_option maxRecDepth 4000
def packTail (x0 x1 x78 x6 x95 x8 x11 x16 x226 x22 x243 x24 x27 x32 x35 x36 x39 x42 x462 x46 x51 x54 x59 x62 x655 x661 x67:Value) (h128:Qe) (R:Kn):Prop:=
 Qa prog 208 #[x1] h128 fun _x694 h129=>
 Q3 x0 fun x696=>
 Qg x696 0 fun x697=>
 LdK h129 x697 fun x698=>
 Qa prog 209 #[x698,x1] h129 fun x700 h130=>
 Qa prog 210 #[x1,x700] h130 fun _x703 h131=>
 Q3 x0 fun x706=>
 Qg x706 1 fun x707=>
 LdK h131 x707 fun x708=>
 Qa prog 211 #[x1,x708] h131 fun _x709 h132=>
 Q3 x0 fun x712=>
 Qg x712 2 fun x713=>
 LdK h132 x713 fun x714=>
 Qa prog 212 #[x1,x714] h132 fun _x715 h133=>
 Qa prog 213 #[x1,x78] h133 fun _x718 h134=>
 Qa prog 214 #[x1,x6] h134 fun _x721 h135=>
 Q3 x0 fun x724=>
 Qg x724 5 fun x725=>
 LdK h135 x725 fun x726=>
 Qa prog 215 #[x1,x726] h135 fun _x727 h136=>
 QD (fun M79=>
 Q3 x0 fun x729=>
 Qg x729 6 fun x730=>
 LdK h136 x730 fun x731=>
 Qk prog .neq 146 x731 (.pointer none) fun x732=>
 IfK x732
 (Q3 x0 fun x735=>
 Qg x735 6 fun x736=>
 LdK h136 x736 fun x737=>
 Q3 x737 fun x738=>
 Qg x738 0 fun x739=>
 LdK h136 x739 fun x740=>
 Qa prog 216 #[x1,x740] h136 fun _x741 h137=>
 M79 [] h137)
 (M79 [] h136)) fun M79=>∀h138:Qe,M79 [] h138->
 Qa prog 217 #[x1,x95] h138 fun _x744 h139=>
 Qa prog 218 #[x1,x8] h139 fun _x747 h140=>
 Qa prog 219 #[x1,x11] h140 fun _x750 h141=>
 Qa prog 220 #[x1,x16] h141 fun _x753 h142=>
 Qa prog 221 #[x1,x226] h142 fun _x756 h143=>
 Qa prog 222 #[x1,x22] h143 fun _x759 h144=>
 Qa prog 223 #[x1,x243] h144 fun _x762 h145=>
 Q3 x0 fun x765=>
 Qg x765 13 fun x766=>
 LdK h145 x766 fun x767=>
 Qa prog 224 #[x1,x767] h145 fun _x768 h146=>
 Q3 x0 fun x771=>
 Qg x771 14 fun x772=>
 LdK h146 x772 fun x773=>
 Qa prog 225 #[x1,x773] h146 fun _x774 h147=>
 Q3 x0 fun x777=>
 Qg x777 15 fun x778=>
 LdK h147 x778 fun x779=>
 Qa prog 226 #[x1,x779] h147 fun _x780 h148=>
 Q3 x0 fun x783=>
 Qg x783 16 fun x784=>
 LdK h148 x784 fun x785=>
 Qa prog 227 #[x1,x785] h148 fun _x786 h149=>
 Q3 x0 fun x789=>
 Qg x789 17 fun x790=>
 LdK h149 x790 fun x791=>
 Qa prog 228 #[x1,x791] h149 fun _x792 h150=>
 Q3 x0 fun x795=>
 Qg x795 18 fun x796=>
 LdK h150 x796 fun x797=>
 Qa prog 229 #[x1,x797] h150 fun _x798 h151=>
 Q3 x0 fun x801=>
 Qg x801 19 fun x802=>
 LdK h151 x802 fun x803=>
 Qa prog 230 #[x1,x803] h151 fun _x804 h152=>
 Q3 x0 fun x807=>
 Qg x807 20 fun x808=>
 LdK h152 x808 fun x809=>
 Qa prog 231 #[x1,x809] h152 fun _x810 h153=>
 Q3 x0 fun x813=>
 Qg x813 21 fun x814=>
 LdK h153 x814 fun x815=>
 Qa prog 232 #[x1,x815] h153 fun _x816 h154=>
 Qa prog 233 #[x1,x24] h154 fun _x819 h155=>
 Q3 x0 fun x822=>
 Qg x822 23 fun x823=>
 LdK h155 x823 fun x824=>
 Qa prog 234 #[x1,x824] h155 fun _x825 h156=>
 Q3 x0 fun x828=>
 Qg x828 24 fun x829=>
 LdK h156 x829 fun x830=>
 Qa prog 235 #[x1,x830] h156 fun _x831 h157=>
 Q3 x0 fun x834=>
 Qg x834 25 fun x835=>
 LdK h157 x835 fun x836=>
 Qa prog 236 #[x1,x836] h157 fun _x837 h158=>
 Qa prog 237 #[x1,x27] h158 fun _x840 h159=>
 Qa prog 238 #[x1,x32] h159 fun _x843 h160=>
 Qa prog 239 #[x1,x35] h160 fun _x846 h161=>
 Qa prog 240 #[x1,x36] h161 fun _x849 h162=>
 Qa prog 241 #[x1,x39] h162 fun _x852 h163=>
 Qa prog 242 #[x1,x42] h163 fun _x855 h164=>
 Qa prog 243 #[x1,x462] h164 fun _x858 h165=>
 Qa prog 244 #[x1,x46] h165 fun _x861 h166=>
 Q3 x0 fun x864=>
 Qg x864 34 fun x865=>
 LdK h166 x865 fun x866=>
 Qa prog 245 #[x1,x866] h166 fun _x867 h167=>
 Qa prog 246 #[x1,x51] h167 fun _x870 h168=>
 Qa prog 247 #[x1,x54] h168 fun _x873 h169=>
 Q3 x0 fun x876=>
 Qg x876 37 fun x877=>
 LdK h169 x877 fun x878=>
 Qa prog 248 #[x1,x878] h169 fun _x879 h170=>
 Qa prog 249 #[x1,x59] h170 fun _x882 h171=>
 Q3 x0 fun x885=>
 Qg x885 39 fun x886=>
 LdK h171 x886 fun x887=>
 Qa prog 250 #[x1,x887] h171 fun _x888 h172=>
 Qa prog 251 #[x1,x62] h172 fun _x891 h173=>
 QD (fun M80=>
 Q3 x0 fun x893=>
 Qg x893 41 fun x894=>
 LdK h173 x894 fun x895=>
 Qk prog .neq 155 x895 (.pointer none) fun x896=>
 IfK x896
 (Q3 x0 fun x899=>
 Qg x899 41 fun x900=>
 LdK h173 x900 fun x901=>
 Q3 x901 fun x902=>
 Qg x902 0 fun x903=>
 LdK h173 x903 fun x904=>
 Qa prog 252 #[x1,x904] h173 fun _x905 h174=>
 M80 [] h174)
 (M80 [] h173)) fun M80=>∀h175:Qe,M80 [] h175->
 Qa prog 253 #[x1,x655] h175 fun _x908 h176=>
 QD (fun M81=>
 Q3 x0 fun x910=>
 Qg x910 42 fun x911=>
 LdK h176 x911 fun x912=>
 Qk prog .neq 156 x912 (.pointer none) fun x913=>
 IfK x913
 (Q3 x0 fun x916=>
 Qg x916 42 fun x917=>
 LdK h176 x917 fun x918=>
 Q3 x918 fun x919=>
 Qg x919 0 fun x920=>
 LdK h176 x920 fun x921=>
 Qa prog 254 #[x1,x921] h176 fun _x922 h177=>
 M81 [] h177)
 (M81 [] h176)) fun M81=>∀h178:Qe,M81 [] h178->
 Qa prog 255 #[x1,x661] h178 fun _x925 h179=>
 Qa prog 256 #[x1,x67] h179 fun _x928 h180=>
 Q3 x0 fun x931=>
 Qg x931 44 fun x932=>
 LdK h180 x932 fun x933=>
 Qa prog 257 #[x1,x933] h180 fun _x934 h181=>
 Qa prog 258 #[x1] h181 fun x936 h182=>
 R x936 h182
def packHead (x0 x1:Value) (h:Qe) (R:Kn):Prop:=
 Qk prog .eql 89 x0 (.pointer none) fun x72=>
 IfK x72
 (R (.int .u32 0) h)
 (Q3 x0 fun x75=>
 Qg x75 3 fun x76=>
 LdK h x76 fun x77=>
 Qa prog 177 #[x1,x77] h fun x78 h1=>
 QD (fun M1=>
 Q3 x0 fun x80=>
 Qg x80 4 fun x81=>
 LdK h1 x81 fun x82=>
 Qk prog .neq 68 x82 (.slice none 0 0) fun x83=>
 IfK x83
 (Q3 x0 fun x86=>
 Qg x86 4 fun x87=>
 LdK h1 x87 fun x88=>
 Qa prog 178 #[x1,x88] h1 fun x89 h2=>
 M1 [x89] h2)
 (M1 [(.int .u32 0)] h1)) fun M1=>∀x6:Value,∀h3:Qe,M1 [x6] h3->
 Q3 x0 fun x91=>
 Qg x91 6 fun x92=>
 LdK h3 x92 fun x93=>
 Qa prog 179 #[x93,x1] h3 fun x95 h4=>
 QD (fun M2=>
 Q3 x0 fun x97=>
 Qg x97 7 fun x98=>
 LdK h4 x98 fun x99=>
 Qk prog .neq 147 x99 (.slice none 0 0) fun x100=>
 IfK x100
 (Q3 x0 fun x102=>
 Qg x102 7 fun x103=>
 LdK h4 x103 fun x104=>
 Yv x104 fun x105=>
 Qa prog 180 #[x1,x105] h4 fun _x108 h5=>
 QD (fun M3=>
 Qk prog .sub 3 x105 (.int .i64 1) fun x110=>
 Yu [x110] h5 fun I4 n5=>∀x10:Value,∀h6:Qe,I4 n5 [x10] h6->
 Qk prog .geq 3 x10 (.int .i64 0) fun x112=>
 IfK x112
 (Q3 x0 fun x116=>
 Qg x116 7 fun x117=>
 LdK h6 x117 fun x118=>
 Y1 1 x118 x10 fun x120=>
 LdK h6 x120 fun x121=>
 Qa prog 181 #[x121,x1] h6 fun _x123 h7=>
 Qk prog .sub 3 x10 (.int .i64 1) fun x114=>
 QS I4 n5 [x114] h7)
 (M3 [x10] h6)) fun M3=>∀x10_1:Value,∀h8:Qe,M3 [x10_1] h8->
 Qa prog 182 #[x1,x105] h8 fun x126 h9=>
 M2 [x126] h9)
 (M2 [(.int .u32 0)] h4)) fun M2=>∀x8:Value,∀h10:Qe,M2 [x8] h10->
 QD (fun M6=>
 Q3 x0 fun x128=>
 Qg x128 8 fun x129=>
 LdK h10 x129 fun x130=>
 Qk prog .neq 28 x130 (.slice none 0 0) fun x131=>
 IfK x131
 (Q3 x0 fun x133=>
 Qg x133 8 fun x134=>
 LdK h10 x134 fun x135=>
 Yv x135 fun x136=>
 Qe3 h10 93 4 z93 x136 x136 fun x138 h11=>
 QD (fun M7=>
 Yu [(.int .i64 0)] h11 fun I8 n9=>∀x14:Value,∀h12:Qe,I8 n9 [x14] h12->
 Qk prog .lss 3 x14 x136 fun x141=>
 IfK x141
 (Q3 x0 fun x148=>
 Qg x148 8 fun x149=>
 LdK h12 x149 fun x150=>
 Y1 1 x150 x14 fun x152=>
 LdK h12 x152 fun x153=>
 Qa prog 177 #[x1,x153] h12 fun x154 h13=>
 Y1 1 x138 x14 fun x155=>
 StK h13 1 x155 x154 fun h14=>
 Qk prog .add 3 x14 (.int .i64 1) fun x143=>
 QS I8 n9 [x143] h14)
 (M7 [x14] h12)) fun M7=>∀x14_1:Value,∀h15:Qe,M7 [x14_1] h15->
 Qa prog 183 #[x1,x136] h15 fun _x158 h16=>
 QD (fun M10=>
 Qk prog .sub 3 x136 (.int .i64 1) fun x160=>
 Yu [x160] h16 fun I11 n12=>∀x15:Value,∀h17:Qe,I11 n12 [x15] h17->
 Qk prog .geq 3 x15 (.int .i64 0) fun x162=>
 IfK x162
 (Y1 1 x138 x15 fun x168=>
 LdK h17 x168 fun x169=>
 Qa prog 165 #[x1,x169] h17 fun _x170 h18=>
 Qk prog .sub 3 x15 (.int .i64 1) fun x164=>
 QS I11 n12 [x164] h18)
 (M10 [x15] h17)) fun M10=>∀x15_1:Value,∀h19:Qe,M10 [x15_1] h19->
 Qa prog 182 #[x1,x136] h19 fun x173 h20=>
 M6 [x173] h20)
 (M6 [(.int .u32 0)] h10)) fun M6=>∀x11:Value,∀h21:Qe,M6 [x11] h21->
 QD (fun M13=>
 Q3 x0 fun x175=>
 Qg x175 9 fun x176=>
 LdK h21 x176 fun x177=>
 Qk prog .neq 148 x177 (.slice none 0 0) fun x178=>
 IfK x178
 (Q3 x0 fun x180=>
 Qg x180 9 fun x181=>
 LdK h21 x181 fun x182=>
 Yv x182 fun x183=>
 Qe3 h21 93 4 z93 x183 x183 fun x185 h22=>
 QD (fun M14=>
 Yu [(.int .i64 0)] h22 fun I15 n16=>∀x19:Value,∀h23:Qe,I15 n16 [x19] h23->
 Qk prog .lss 3 x19 x183 fun x188=>
 IfK x188
 (Q3 x0 fun x194=>
 Qg x194 9 fun x195=>
 LdK h23 x195 fun x196=>
 Y1 1 x196 x19 fun x198=>
 LdK h23 x198 fun x199=>
 Qa prog 66 #[x199,x1] h23 fun x201 h24=>
 Y1 1 x185 x19 fun x202=>
 StK h24 1 x202 x201 fun h25=>
 Qk prog .add 3 x19 (.int .i64 1) fun x190=>
 QS I15 n16 [x190] h25)
 (M14 [x19] h23)) fun M14=>∀x19_1:Value,∀h26:Qe,M14 [x19_1] h26->
 Qa prog 184 #[x1,x183] h26 fun _x205 h27=>
 QD (fun M17=>
 Qk prog .sub 3 x183 (.int .i64 1) fun x207=>
 Yu [x207] h27 fun I18 n19=>∀x20:Value,∀h28:Qe,I18 n19 [x20] h28->
 Qk prog .geq 3 x20 (.int .i64 0) fun x209=>
 IfK x209
 (Y1 1 x185 x20 fun x215=>
 LdK h28 x215 fun x216=>
 Qa prog 165 #[x1,x216] h28 fun _x217 h29=>
 Qk prog .sub 3 x20 (.int .i64 1) fun x211=>
 QS I18 n19 [x211] h29)
 (M17 [x20] h28)) fun M17=>∀x20_1:Value,∀h30:Qe,M17 [x20_1] h30->
 Qa prog 182 #[x1,x183] h30 fun x220 h31=>
 M13 [x220] h31)
 (M13 [(.int .u32 0)] h21)) fun M13=>∀x16:Value,∀h32:Qe,M13 [x16] h32->
 Q3 x0 fun x222=>
 Qg x222 10 fun x223=>
 LdK h32 x223 fun x224=>
 Qa prog 66 #[x224,x1] h32 fun x226 h33=>
 QD (fun M20=>
 Q3 x0 fun x228=>
 Qg x228 11 fun x229=>
 LdK h33 x229 fun x230=>
 Qk prog .neq 68 x230 (.slice none 0 0) fun x231=>
 IfK x231
 (Q3 x0 fun x234=>
 Qg x234 11 fun x235=>
 LdK h33 x235 fun x236=>
 Qa prog 178 #[x1,x236] h33 fun x237 h34=>
 M20 [x237] h34)
 (M20 [(.int .u32 0)] h33)) fun M20=>∀x22:Value,∀h35:Qe,M20 [x22] h35->
 Q3 x0 fun x239=>
 Qg x239 12 fun x240=>
 LdK h35 x240 fun x241=>
 Qa prog 185 #[x241,x1] h35 fun x243 h36=>
 QD (fun M21=>
 Q3 x0 fun x245=>
 Qg x245 22 fun x246=>
 LdK h36 x246 fun x247=>
 Qk prog .neq 32 x247 (.slice none 0 0) fun x248=>
 IfK x248
 (Q3 x0 fun x250=>
 Qg x250 22 fun x251=>
 LdK h36 x251 fun x252=>
 Yv x252 fun x253=>
 Qa prog 186 #[x1,x253] h36 fun _x256 h37=>
 QD (fun M22=>
 Qk prog .sub 3 x253 (.int .i64 1) fun x258=>
 Yu [x258] h37 fun I23 n24=>∀x26:Value,∀h38:Qe,I23 n24 [x26] h38->
 Qk prog .geq 3 x26 (.int .i64 0) fun x260=>
 IfK x260
 (Q3 x0 fun x265=>
 Qg x265 22 fun x266=>
 LdK h38 x266 fun x267=>
 Y1 1 x267 x26 fun x269=>
 LdK h38 x269 fun x270=>
 Qa prog 187 #[x1,x270] h38 fun _x271 h39=>
 Qk prog .sub 3 x26 (.int .i64 1) fun x262=>
 QS I23 n24 [x262] h39)
 (M22 [x26] h38)) fun M22=>∀x26_1:Value,∀h40:Qe,M22 [x26_1] h40->
 Qa prog 182 #[x1,x253] h40 fun x274 h41=>
 M21 [x274] h41)
 (M21 [(.int .u32 0)] h36)) fun M21=>∀x24:Value,∀h42:Qe,M21 [x24] h42->
 QD (fun M25=>
 Q3 x0 fun x276=>
 Qg x276 26 fun x277=>
 LdK h42 x277 fun x278=>
 Qk prog .neq 28 x278 (.slice none 0 0) fun x279=>
 IfK x279
 (Q3 x0 fun x281=>
 Qg x281 26 fun x282=>
 LdK h42 x282 fun x283=>
 Yv x283 fun x284=>
 Qe3 h42 93 4 z93 x284 x284 fun x286 h43=>
 QD (fun M26=>
 Yu [(.int .i64 0)] h43 fun I27 n28=>∀x30:Value,∀h44:Qe,I27 n28 [x30] h44->
 Qk prog .lss 3 x30 x284 fun x289=>
 IfK x289
 (Q3 x0 fun x296=>
 Qg x296 26 fun x297=>
 LdK h44 x297 fun x298=>
 Y1 1 x298 x30 fun x300=>
 LdK h44 x300 fun x301=>
 Qa prog 177 #[x1,x301] h44 fun x302 h45=>
 Y1 1 x286 x30 fun x303=>
 StK h45 1 x303 x302 fun h46=>
 Qk prog .add 3 x30 (.int .i64 1) fun x291=>
 QS I27 n28 [x291] h46)
 (M26 [x30] h44)) fun M26=>∀x30_1:Value,∀h47:Qe,M26 [x30_1] h47->
 Qa prog 188 #[x1,x284] h47 fun _x306 h48=>
 QD (fun M29=>
 Qk prog .sub 3 x284 (.int .i64 1) fun x308=>
 Yu [x308] h48 fun I30 n31=>∀x31:Value,∀h49:Qe,I30 n31 [x31] h49->
 Qk prog .geq 3 x31 (.int .i64 0) fun x310=>
 IfK x310
 (Y1 1 x286 x31 fun x316=>
 LdK h49 x316 fun x317=>
 Qa prog 165 #[x1,x317] h49 fun _x318 h50=>
 Qk prog .sub 3 x31 (.int .i64 1) fun x312=>
 QS I30 n31 [x312] h50)
 (M29 [x31] h49)) fun M29=>∀x31_1:Value,∀h51:Qe,M29 [x31_1] h51->
 Qa prog 182 #[x1,x284] h51 fun x321 h52=>
 M25 [x321] h52)
 (M25 [(.int .u32 0)] h42)) fun M25=>∀x27:Value,∀h53:Qe,M25 [x27] h53->
 QD (fun M32=>
 Q3 x0 fun x323=>
 Qg x323 27 fun x324=>
 LdK h53 x324 fun x325=>
 Qk prog .neq 151 x325 (.slice none 0 0) fun x326=>
 IfK x326
 (Q3 x0 fun x328=>
 Qg x328 27 fun x329=>
 LdK h53 x329 fun x330=>
 Yv x330 fun x331=>
 Qa prog 189 #[x1,x331] h53 fun _x334 h54=>
 QD (fun M33=>
 Qk prog .sub 3 x331 (.int .i64 1) fun x336=>
 Yu [x336] h54 fun I34 n35=>∀x34:Value,∀h55:Qe,I34 n35 [x34] h55->
 Qk prog .geq 3 x34 (.int .i64 0) fun x338=>
 IfK x338
 (Q3 x0 fun x342=>
 Qg x342 27 fun x343=>
 LdK h55 x343 fun x344=>
 Y1 1 x344 x34 fun x346=>
 LdK h55 x346 fun x347=>
 Qa prog 190 #[x347,x1] h55 fun _x349 h56=>
 Qk prog .sub 3 x34 (.int .i64 1) fun x340=>
 QS I34 n35 [x340] h56)
 (M33 [x34] h55)) fun M33=>∀x34_1:Value,∀h57:Qe,M33 [x34_1] h57->
 Qa prog 182 #[x1,x331] h57 fun x352 h58=>
 M32 [x352] h58)
 (M32 [(.int .u32 0)] h53)) fun M32=>∀x32:Value,∀h59:Qe,M32 [x32] h59->
 QD (fun M36=>
 Q3 x0 fun x354=>
 Qg x354 28 fun x355=>
 LdK h59 x355 fun x356=>
 Qk prog .neq 68 x356 (.slice none 0 0) fun x357=>
 IfK x357
 (Q3 x0 fun x360=>
 Qg x360 28 fun x361=>
 LdK h59 x361 fun x362=>
 Qa prog 178 #[x1,x362] h59 fun x363 h60=>
 M36 [x363] h60)
 (M36 [(.int .u32 0)] h59)) fun M36=>∀x35:Value,∀h61:Qe,M36 [x35] h61->
 QD (fun M37=>
 Q3 x0 fun x365=>
 Qg x365 29 fun x366=>
 LdK h61 x366 fun x367=>
 Qk prog .neq 147 x367 (.slice none 0 0) fun x368=>
 IfK x368
 (Q3 x0 fun x370=>
 Qg x370 29 fun x371=>
 LdK h61 x371 fun x372=>
 Yv x372 fun x373=>
 Qa prog 191 #[x1,x373] h61 fun _x376 h62=>
 QD (fun M38=>
 Qk prog .sub 3 x373 (.int .i64 1) fun x378=>
 Yu [x378] h62 fun I39 n40=>∀x38:Value,∀h63:Qe,I39 n40 [x38] h63->
 Qk prog .geq 3 x38 (.int .i64 0) fun x380=>
 IfK x380
 (Q3 x0 fun x384=>
 Qg x384 29 fun x385=>
 LdK h63 x385 fun x386=>
 Y1 1 x386 x38 fun x388=>
 LdK h63 x388 fun x389=>
 Qa prog 181 #[x389,x1] h63 fun _x391 h64=>
 Qk prog .sub 3 x38 (.int .i64 1) fun x382=>
 QS I39 n40 [x382] h64)
 (M38 [x38] h63)) fun M38=>∀x38_1:Value,∀h65:Qe,M38 [x38_1] h65->
 Qa prog 182 #[x1,x373] h65 fun x394 h66=>
 M37 [x394] h66)
 (M37 [(.int .u32 0)] h61)) fun M37=>∀x36:Value,∀h67:Qe,M37 [x36] h67->
 QD (fun M41=>
 Q3 x0 fun x396=>
 Qg x396 30 fun x397=>
 LdK h67 x397 fun x398=>
 Qk prog .neq 34 x398 (.slice none 0 0) fun x399=>
 IfK x399
 (Q3 x0 fun x401=>
 Qg x401 30 fun x402=>
 LdK h67 x402 fun x403=>
 Yv x403 fun x404=>
 Qa prog 192 #[x1,x404] h67 fun _x407 h68=>
 QD (fun M42=>
 Qk prog .sub 3 x404 (.int .i64 1) fun x409=>
 Yu [x409] h68 fun I43 n44=>∀x41:Value,∀h69:Qe,I43 n44 [x41] h69->
 Qk prog .geq 3 x41 (.int .i64 0) fun x411=>
 IfK x411
 (Q3 x0 fun x416=>
 Qg x416 30 fun x417=>
 LdK h69 x417 fun x418=>
 Y1 1 x418 x41 fun x420=>
 LdK h69 x420 fun x421=>
 Qa prog 193 #[x1,x421] h69 fun _x422 h70=>
 Qk prog .sub 3 x41 (.int .i64 1) fun x413=>
 QS I43 n44 [x413] h70)
 (M42 [x41] h69)) fun M42=>∀x41_1:Value,∀h71:Qe,M42 [x41_1] h71->
 Qa prog 182 #[x1,x404] h71 fun x425 h72=>
 M41 [x425] h72)
 (M41 [(.int .u32 0)] h67)) fun M41=>∀x39:Value,∀h73:Qe,M41 [x39] h73->
 QD (fun M45=>
 Q3 x0 fun x427=>
 Qg x427 31 fun x428=>
 LdK h73 x428 fun x429=>
 Qk prog .neq 152 x429 (.slice none 0 0) fun x430=>
 IfK x430
 (Q3 x0 fun x432=>
 Qg x432 31 fun x433=>
 LdK h73 x433 fun x434=>
 Yv x434 fun x435=>
 Qa prog 194 #[x1,x435] h73 fun _x438 h74=>
 QD (fun M46=>
 Qk prog .sub 3 x435 (.int .i64 1) fun x440=>
 Yu [x440] h74 fun I47 n48=>∀x44:Value,∀h75:Qe,I47 n48 [x44] h75->
 Qk prog .geq 3 x44 (.int .i64 0) fun x442=>
 IfK x442
 (Q3 x0 fun x447=>
 Qg x447 31 fun x448=>
 LdK h75 x448 fun x449=>
 Y1 1 x449 x44 fun x451=>
 LdK h75 x451 fun x452=>
 Qa prog 195 #[x1,x452] h75 fun _x453 h76=>
 Qk prog .sub 3 x44 (.int .i64 1) fun x444=>
 QS I47 n48 [x444] h76)
 (M46 [x44] h75)) fun M46=>∀x44_1:Value,∀h77:Qe,M46 [x44_1] h77->
 Qa prog 182 #[x1,x435] h77 fun x456 h78=>
 M45 [x456] h78)
 (M45 [(.int .u32 0)] h73)) fun M45=>∀x42:Value,∀h79:Qe,M45 [x42] h79->
 Q3 x0 fun x458=>
 Qg x458 32 fun x459=>
 LdK h79 x459 fun x460=>
 Qa prog 196 #[x460,x1] h79 fun x462 h80=>
 QD (fun M49=>
 Q3 x0 fun x464=>
 Qg x464 33 fun x465=>
 LdK h80 x465 fun x466=>
 Qk prog .neq 154 x466 (.slice none 0 0) fun x467=>
 IfK x467
 (Q3 x0 fun x469=>
 Qg x469 33 fun x470=>
 LdK h80 x470 fun x471=>
 Yv x471 fun x472=>
 Qe3 h80 93 4 z93 x472 x472 fun x474 h81=>
 QD (fun M50=>
 Yu [(.int .i64 0)] h81 fun I51 n52=>∀x49:Value,∀h82:Qe,I51 n52 [x49] h82->
 Qk prog .lss 3 x49 x472 fun x477=>
 IfK x477
 (Q3 x0 fun x483=>
 Qg x483 33 fun x484=>
 LdK h82 x484 fun x485=>
 Y1 1 x485 x49 fun x487=>
 LdK h82 x487 fun x488=>
 Qa prog 197 #[x488,x1] h82 fun x490 h83=>
 Y1 1 x474 x49 fun x491=>
 StK h83 1 x491 x490 fun h84=>
 Qk prog .add 3 x49 (.int .i64 1) fun x479=>
 QS I51 n52 [x479] h84)
 (M50 [x49] h82)) fun M50=>∀x49_1:Value,∀h85:Qe,M50 [x49_1] h85->
 Qa prog 198 #[x1,x472] h85 fun _x494 h86=>
 QD (fun M53=>
 Qk prog .sub 3 x472 (.int .i64 1) fun x496=>
 Yu [x496] h86 fun I54 n55=>∀x50:Value,∀h87:Qe,I54 n55 [x50] h87->
 Qk prog .geq 3 x50 (.int .i64 0) fun x498=>
 IfK x498
 (Y1 1 x474 x50 fun x504=>
 LdK h87 x504 fun x505=>
 Qa prog 165 #[x1,x505] h87 fun _x506 h88=>
 Qk prog .sub 3 x50 (.int .i64 1) fun x500=>
 QS I54 n55 [x500] h88)
 (M53 [x50] h87)) fun M53=>∀x50_1:Value,∀h89:Qe,M53 [x50_1] h89->
 Qa prog 182 #[x1,x472] h89 fun x509 h90=>
 M49 [x509] h90)
 (M49 [(.int .u32 0)] h80)) fun M49=>∀x46:Value,∀h91:Qe,M49 [x46] h91->
 QD (fun M56=>
 Q3 x0 fun x511=>
 Qg x511 35 fun x512=>
 LdK h91 x512 fun x513=>
 Qk prog .neq 35 x513 (.slice none 0 0) fun x514=>
 IfK x514
 (Q3 x0 fun x516=>
 Qg x516 35 fun x517=>
 LdK h91 x517 fun x518=>
 Yv x518 fun x519=>
 Qa prog 199 #[x1,x519] h91 fun _x522 h92=>
 QD (fun M57=>
 Qk prog .sub 3 x519 (.int .i64 1) fun x524=>
 Yu [x524] h92 fun I58 n59=>∀x53:Value,∀h93:Qe,I58 n59 [x53] h93->
 Qk prog .geq 3 x53 (.int .i64 0) fun x526=>
 IfK x526
 (Q3 x0 fun x531=>
 Qg x531 35 fun x532=>
 LdK h93 x532 fun x533=>
 Y1 1 x533 x53 fun x535=>
 LdK h93 x535 fun x536=>
 Qa prog 200 #[x1,x536] h93 fun _x537 h94=>
 Qk prog .sub 3 x53 (.int .i64 1) fun x528=>
 QS I58 n59 [x528] h94)
 (M57 [x53] h93)) fun M57=>∀x53_1:Value,∀h95:Qe,M57 [x53_1] h95->
 Qa prog 182 #[x1,x519] h95 fun x540 h96=>
 M56 [x540] h96)
 (M56 [(.int .u32 0)] h91)) fun M56=>∀x51:Value,∀h97:Qe,M56 [x51] h97->
 QD (fun M60=>
 Q3 x0 fun x542=>
 Qg x542 36 fun x543=>
 LdK h97 x543 fun x544=>
 Qk prog .neq 154 x544 (.slice none 0 0) fun x545=>
 IfK x545
 (Q3 x0 fun x547=>
 Qg x547 36 fun x548=>
 LdK h97 x548 fun x549=>
 Yv x549 fun x550=>
 Qe3 h97 93 4 z93 x550 x550 fun x552 h98=>
 QD (fun M61=>
 Yu [(.int .i64 0)] h98 fun I62 n63=>∀x57:Value,∀h99:Qe,I62 n63 [x57] h99->
 Qk prog .lss 3 x57 x550 fun x555=>
 IfK x555
 (Q3 x0 fun x561=>
 Qg x561 36 fun x562=>
 LdK h99 x562 fun x563=>
 Y1 1 x563 x57 fun x565=>
 LdK h99 x565 fun x566=>
 Qa prog 197 #[x566,x1] h99 fun x568 h100=>
 Y1 1 x552 x57 fun x569=>
 StK h100 1 x569 x568 fun h101=>
 Qk prog .add 3 x57 (.int .i64 1) fun x557=>
 QS I62 n63 [x557] h101)
 (M61 [x57] h99)) fun M61=>∀x57_1:Value,∀h102:Qe,M61 [x57_1] h102->
 Qa prog 201 #[x1,x550] h102 fun _x572 h103=>
 QD (fun M64=>
 Qk prog .sub 3 x550 (.int .i64 1) fun x574=>
 Yu [x574] h103 fun I65 n66=>∀x58:Value,∀h104:Qe,I65 n66 [x58] h104->
 Qk prog .geq 3 x58 (.int .i64 0) fun x576=>
 IfK x576
 (Y1 1 x552 x58 fun x582=>
 LdK h104 x582 fun x583=>
 Qa prog 165 #[x1,x583] h104 fun _x584 h105=>
 Qk prog .sub 3 x58 (.int .i64 1) fun x578=>
 QS I65 n66 [x578] h105)
 (M64 [x58] h104)) fun M64=>∀x58_1:Value,∀h106:Qe,M64 [x58_1] h106->
 Qa prog 182 #[x1,x550] h106 fun x587 h107=>
 M60 [x587] h107)
 (M60 [(.int .u32 0)] h97)) fun M60=>∀x54:Value,∀h108:Qe,M60 [x54] h108->
 QD (fun M67=>
 Q3 x0 fun x589=>
 Qg x589 38 fun x590=>
 LdK h108 x590 fun x591=>
 Qk prog .neq 35 x591 (.slice none 0 0) fun x592=>
 IfK x592
 (Q3 x0 fun x594=>
 Qg x594 38 fun x595=>
 LdK h108 x595 fun x596=>
 Yv x596 fun x597=>
 Qa prog 202 #[x1,x597] h108 fun _x600 h109=>
 QD (fun M68=>
 Qk prog .sub 3 x597 (.int .i64 1) fun x602=>
 Yu [x602] h109 fun I69 n70=>∀x61:Value,∀h110:Qe,I69 n70 [x61] h110->
 Qk prog .geq 3 x61 (.int .i64 0) fun x604=>
 IfK x604
 (Q3 x0 fun x609=>
 Qg x609 38 fun x610=>
 LdK h110 x610 fun x611=>
 Y1 1 x611 x61 fun x613=>
 LdK h110 x613 fun x614=>
 Qa prog 200 #[x1,x614] h110 fun _x615 h111=>
 Qk prog .sub 3 x61 (.int .i64 1) fun x606=>
 QS I69 n70 [x606] h111)
 (M68 [x61] h110)) fun M68=>∀x61_1:Value,∀h112:Qe,M68 [x61_1] h112->
 Qa prog 182 #[x1,x597] h112 fun x618 h113=>
 M67 [x618] h113)
 (M67 [(.int .u32 0)] h108)) fun M67=>∀x59:Value,∀h114:Qe,M67 [x59] h114->
 QD (fun M71=>
 Q3 x0 fun x620=>
 Qg x620 40 fun x621=>
 LdK h114 x621 fun x622=>
 Qk prog .neq 35 x622 (.slice none 0 0) fun x623=>
 IfK x623
 (Q3 x0 fun x625=>
 Qg x625 40 fun x626=>
 LdK h114 x626 fun x627=>
 Yv x627 fun x628=>
 Qa prog 203 #[x1,x628] h114 fun _x631 h115=>
 QD (fun M72=>
 Qk prog .sub 3 x628 (.int .i64 1) fun x633=>
 Yu [x633] h115 fun I73 n74=>∀x64:Value,∀h116:Qe,I73 n74 [x64] h116->
 Qk prog .geq 3 x64 (.int .i64 0) fun x635=>
 IfK x635
 (Q3 x0 fun x640=>
 Qg x640 40 fun x641=>
 LdK h116 x641 fun x642=>
 Y1 1 x642 x64 fun x644=>
 LdK h116 x644 fun x645=>
 Qa prog 200 #[x1,x645] h116 fun _x646 h117=>
 Qk prog .sub 3 x64 (.int .i64 1) fun x637=>
 QS I73 n74 [x637] h117)
 (M72 [x64] h116)) fun M72=>∀x64_1:Value,∀h118:Qe,M72 [x64_1] h118->
 Qa prog 182 #[x1,x628] h118 fun x649 h119=>
 M71 [x649] h119)
 (M71 [(.int .u32 0)] h114)) fun M71=>∀x62:Value,∀h120:Qe,M71 [x62] h120->
 Q3 x0 fun x651=>
 Qg x651 41 fun x652=>
 LdK h120 x652 fun x653=>
 Qa prog 204 #[x653,x1] h120 fun x655 h121=>
 Q3 x0 fun x657=>
 Qg x657 42 fun x658=>
 LdK h121 x658 fun x659=>
 Qa prog 205 #[x659,x1] h121 fun x661 h122=>
 QD (fun M75=>
 Q3 x0 fun x663=>
 Qg x663 43 fun x664=>
 LdK h122 x664 fun x665=>
 Qk prog .neq 157 x665 (.slice none 0 0) fun x666=>
 IfK x666
 (Q3 x0 fun x668=>
 Qg x668 43 fun x669=>
 LdK h122 x669 fun x670=>
 Yv x670 fun x671=>
 Qa prog 206 #[x1,x671] h122 fun _x674 h123=>
 QD (fun M76=>
 Qk prog .sub 3 x671 (.int .i64 1) fun x676=>
 Yu [x676] h123 fun I77 n78=>∀x69:Value,∀h124:Qe,I77 n78 [x69] h124->
 Qk prog .geq 3 x69 (.int .i64 0) fun x678=>
 IfK x678
 (Q3 x0 fun x683=>
 Qg x683 43 fun x684=>
 LdK h124 x684 fun x685=>
 Y1 1 x685 x69 fun x687=>
 LdK h124 x687 fun x688=>
 Qa prog 207 #[x1,x688] h124 fun _x689 h125=>
 Qk prog .sub 3 x69 (.int .i64 1) fun x680=>
 QS I77 n78 [x680] h125)
 (M76 [x69] h124)) fun M76=>∀x69_1:Value,∀h126:Qe,M76 [x69_1] h126->
 Qa prog 182 #[x1,x671] h126 fun x692 h127=>
 M75 [x692] h127)
 (M75 [(.int .u32 0)] h122)) fun M75=>∀x67:Value,∀h128:Qe,M75 [x67] h128->
 packTail x0 x1 x78 x6 x95 x8 x11 x16 x226 x22 x243 x24 x27 x32 x35 x36 x39 x42 x462 x46 x51 x54 x59 x62 x655 x661 x67 h128 R)
theorem packHead_eq (x0 x1:Value) (h:Qe) (R:Kn):s66 x0 x1 h R=packHead x0 x1 h R:=by kernel_rfl
section
variable {H:Qe} {p:Nat} {S:BS} {F:Cut} {r:Nat} (hB:Qd H p S F r) {R:Kn}
include hB
theorem pos_slot {S0:BS} {c:Nat} {v:Value} {o:Option ZO} (hI:YS S0 49 c S) (ho:OptAt v o (Vec3At F v)) (hl:S.buf.length+200<=536870912)
  (hR:∀H',Qd H' p (slotPos o S) F 0->R (.tuple #[]) H'):FnS prog 209 #[v,.pointer (some ⟨p,0,none⟩)] H fun x h=>FnS prog 210 #[.pointer (some ⟨p,0,none⟩),x] h R:=by
 cases o with
 |none=>
  have hv:v= .pointer none:=ho
  subst hv
  apply w209
  unfold s209
  rw[Y2 (by kernel_rfl)]
  refine Qdn (off:=0) hB hI.nested (Or.inl rfl) (by rw[hI.vtl];decide) ?_
  exact hR
 |some d=>
  obtain ⟨w,h1,h2⟩:=ho
  refine Vec3T_Pack hB h1 h2 (by omega) ?_
  intro H1 g1
  have i1:=(hI.prep (k:=8) (a:=32) P2_8).place (Qj8 d)
  refine Qdn g1 i1.nested (Or.inr rfl) (by rw[i1.vtl];decide) ?_
  exact hR
theorem ty_slot {S0:BS} {c:Nat} {amb:Bool} {ty color:UInt8} {v cc:Value} {kids:List Mon} {o:Nat} {t:TypeId} {q i f:Nat} {cells:Array Value} {k:Qe->Prop} (hu:(prog).underlying t=some (.pointer ((prog).pointee t))) (hI:YS S0 49 c S) (obj:Za F (.pointer (some ⟨q,0,none⟩)) cells) (hc:cells[i]?=some v) (hv:QcZ F amb ty color v cc kids)
  (hf:∀H,Qd H p S F 0->∀R:Kn,(∀H',Qd H' p (slotN 1 ty.toNat 0 o S) F 0->R (.tuple #[]) H')->FnS prog f #[.pointer (some ⟨p,0,none⟩),u8n ty] H R)
  (hk:∀H',Qd H' p (slotTy ty o S) F 0->k H'):
  QD (fun M79=>Q3 (.pointer (some ⟨q,0,none⟩)) fun x729=>Qg x729 i fun x730=>LdK H x730 fun x731=>Qk prog .neq t x731 (.pointer none) fun x732=>
   IfK x732 (Q3 (.pointer (some ⟨q,0,none⟩)) fun x735=>Qg x735 i fun x736=>LdK H x736 fun x737=>Q3 x737 fun x738=>Qg x738 0 fun x739=>LdK H x739 fun x740=>Qa prog f #[.pointer (some ⟨p,0,none⟩),x740] H fun _x741 h137=>M79 [] h137)
   (M79 [] H)) fun M79=>∀h138:Qe,M79 [] h138->k h138:=by
 refine Q0 (fun _ h=>Qd h p (slotTy ty o S) F 0) ?_ (fun h hb=>hk h hb)
 refine obj.ld hB.cut (i:=i) v hc ?_
 rcases hv with ⟨rfl,rfl,_⟩|⟨h0,w,hv,_⟩
 ·rw[QT hu]
  exact hB.room (Nat.zero_le _)
 ·obtain ⟨q2,e2,rfl,hq2⟩:=hv
  have hv:Za F (.pointer (some ⟨q2,0,none⟩)) #[u8n ty,w]:=⟨q2,e2,rfl,hq2⟩
  rw[QT hu]
  show IfK (.bool true) _ _
  rw[QbS]
  refine obj.ld hB.cut (i:=i) _ hc ?_
  refine hv.ld hB.cut (i:=0) (u8n ty) rfl ?_
  refine hf H (hB.room (Nat.zero_le _)) _ ?_
  intro H' h'
  have e1:slotTy ty o S=slotN 1 ty.toNat 0 o S:=by unfold slotTy;rw[if_neg h0]
  rw[e1]
  exact h'
end
set_option maxHeartbeats 4000000 in
theorem packTail_ok {H:Qe} {p:Nat} {S:BS} {F:Cut} {r:Nat} (hB:Qd H p S F r) {R:Kn} {q:Nat} {d:Qbt} {c:MTV} {enemy test uniq amb:List Mon} (hI:Inv S) (obj:Za F (.pointer (some ⟨q,0,none⟩)) (mtCells d c)) (own:MTD F d c enemy test uniq amb) (hl:S.buf.length+10000<=536870912)
  {o0 o1 o2 o3 o4 o5 o6 o7 o8 o9 o10 o11 o12 o13 o14 o15 o16 o17 o18 o19 o20 o21 o22 o23 o24:Nat} (p0:o0<=S.buf.length) (p1:o1<=S.buf.length) (p2:o2<=S.buf.length) (p3:o3<=S.buf.length) (p4:o4<=S.buf.length) (p5:o5<=S.buf.length) (p6:o6<=S.buf.length) (p7:o7<=S.buf.length) (p8:o8<=S.buf.length) (p9:o9<=S.buf.length) (p10:o10<=S.buf.length) (p11:o11<=S.buf.length) (p12:o12<=S.buf.length) (p13:o13<=S.buf.length) (p14:o14<=S.buf.length) (p15:o15<=S.buf.length) (p16:o16<=S.buf.length) (p17:o17<=S.buf.length) (p18:o18<=S.buf.length) (p19:o19<=S.buf.length) (p20:o20<=S.buf.length) (p21:o21<=S.buf.length) (p22:o22<=S.buf.length) (p23:o23<=S.buf.length) (p24:o24<=S.buf.length)
  (hR:∀H',Qd H' p (endT (runS (slots d [o0,o1,o2,o3,o4,o5,o6,o7,o8,o9,o10,o11,o12,o13,o14,o15,o16,o17,o18,o19,o20,o21,o22,o23,o24]) (Qad 49 S))).1 F 0->R (.int .u32 ((endT (runS (slots d [o0,o1,o2,o3,o4,o5,o6,o7,o8,o9,o10,o11,o12,o13,o14,o15,o16,o17,o18,o19,o20,o21,o22,o23,o24]) (Qad 49 S))).2:Nat)) H'):
  packTail (.pointer (some ⟨q,0,none⟩)) (.pointer (some ⟨p,0,none⟩)) (.int .u32 (o0:Nat)) (.int .u32 (o1:Nat)) (.int .u32 (o2:Nat)) (.int .u32 (o3:Nat)) (.int .u32 (o4:Nat)) (.int .u32 (o5:Nat)) (.int .u32 (o6:Nat)) (.int .u32 (o7:Nat)) (.int .u32 (o8:Nat)) (.int .u32 (o9:Nat)) (.int .u32 (o10:Nat)) (.int .u32 (o11:Nat)) (.int .u32 (o12:Nat)) (.int .u32 (o13:Nat)) (.int .u32 (o14:Nat)) (.int .u32 (o15:Nat)) (.int .u32 (o16:Nat)) (.int .u32 (o17:Nat)) (.int .u32 (o18:Nat)) (.int .u32 (o19:Nat)) (.int .u32 (o20:Nat)) (.int .u32 (o21:Nat)) (.int .u32 (o22:Nat)) (.int .u32 (o23:Nat)) (.int .u32 (o24:Nat)) H R:=by
 unfold packTail
 refine QgX hB hI.nested ?_
 intro H0 g0
 have i0:=YS.start (n:=49) hI.min
 refine obj.ld g0.cut (i:=0) c.pos rfl ?_
 refine pos_slot g0 i0 own.pos (by have:=i0.len;omega) ?_
 intro H1 g1
 have i1:=i0.slotPos d.pos
 refine obj.ld g1.cut (i:=1) (Qbc d.mana) rfl ?_
 refine Qg2 (x:=d.mana.toNat) g1 d.mana.toNat_lt (by rw[i1.vtl];decide) (by have:=i1.len;omega) ?_
 intro H2 g2
 have i2:=i1.slotN (k:=2) (x:=d.mana.toNat) (d:=150) (o:=1) P2_2
 refine obj.ld g2.cut (i:=2) (Qbc d.hp) rfl ?_
 refine Qh1 (x:=d.hp.toNat) g2 d.hp.toNat_lt (by rw[i2.vtl];decide) (by have:=i2.len;omega) ?_
 intro H3 g3
 have i3:=i2.slotN (k:=2) (x:=d.hp.toNat) (d:=100) (o:=2) P2_2
 refine QfW (off:=o0) g3 (by have:=i3.le;omega) (by rw[i3.vtl];decide) (by have:=i3.len;omega) ?_
 intro H4 g4
 have i4:=i3.slotOff (off:=o0) (o:=3)
 refine Qeb (off:=o1) g4 (by have:=i4.le;omega) (by rw[i4.vtl];decide) (by have:=i4.len;omega) ?_
 intro H5 g5
 have i5:=i4.slotOff (off:=o1) (o:=5)
 refine obj.ld g5.cut (i:=5) (u8n d.color) rfl ?_
 refine Qfy (x:=d.color.toNat) g5 d.color.toNat_lt (by rw[i5.vtl];decide) (by have:=i5.len;omega) ?_
 intro H6 g6
 have i6:=i5.slotN (k:=1) (x:=d.color.toNat) (d:=8) (o:=6) P2_1
 refine ty_slot g6 (ty:=d.testTy) (o:=7) (by kernel_rfl) i6 obj (i:=6) rfl own.test (fun H hb R hR=>Qek hb d.testTy.toNat_lt (by rw[i6.vtl];decide) (by have:=i6.len;omega) hR) ?_
 intro H7 g7
 have i7:=i6.slotTy (ty:=d.testTy) (o:=7)
 refine Qg1 (off:=o2) g7 (by have:=i7.le;omega) (by rw[i7.vtl];decide) (by have:=i7.len;omega) ?_
 intro H8 g8
 have i8:=i7.slotOff (off:=o2) (o:=8)
 refine QfH (off:=o3) g8 (by have:=i8.le;omega) (by rw[i8.vtl];decide) (by have:=i8.len;omega) ?_
 intro H9 g9
 have i9:=i8.slotOff (off:=o3) (o:=9)
 refine Qc9 (off:=o4) g9 (by have:=i9.le;omega) (by rw[i9.vtl];decide) (by have:=i9.len;omega) ?_
 intro H10 g10
 have i10:=i9.slotOff (off:=o4) (o:=10)
 refine Qc5 (off:=o5) g10 (by have:=i10.le;omega) (by rw[i10.vtl];decide) (by have:=i10.len;omega) ?_
 intro H11 g11
 have i11:=i10.slotOff (off:=o5) (o:=11)
 refine Qfo (off:=o6) g11 (by have:=i11.le;omega) (by rw[i11.vtl];decide) (by have:=i11.len;omega) ?_
 intro H12 g12
 have i12:=i11.slotOff (off:=o6) (o:=12)
 refine Qby (off:=o7) g12 (by have:=i12.le;omega) (by rw[i12.vtl];decide) (by have:=i12.len;omega) ?_
 intro H13 g13
 have i13:=i12.slotOff (off:=o7) (o:=13)
 refine Qe1 (off:=o8) g13 (by have:=i13.le;omega) (by rw[i13.vtl];decide) (by have:=i13.len;omega) ?_
 intro H14 g14
 have i14:=i13.slotOff (off:=o8) (o:=14)
 refine obj.ld g14.cut (i:=13) (.bool d.bool) rfl ?_
 refine Qem g14 (by rw[i14.vtl];decide) (by have:=i14.len;omega) ?_
 intro H15 g15
 have i15:=i14.slotN (k:=1) (x:=if d.bool then 1 else 0) (d:=0) (o:=15) P2_1
 refine obj.ld g15.cut (i:=14) (Qfl d.s32) rfl ?_
 refine QcA (x:=d.s32.toNat) g15 d.s32.toNat_lt (by rw[i15.vtl];decide) (by have:=i15.len;omega) ?_
 intro H16 g16
 have i16:=i15.slotN (k:=4) (x:=d.s32.toNat) (d:=0) (o:=16) P2_4
 refine obj.ld g16.cut (i:=15) (Zz d.u32) rfl ?_
 refine QcQ (x:=d.u32.toNat) g16 d.u32.toNat_lt (by rw[i16.vtl];decide) (by have:=i16.len;omega) ?_
 intro H17 g17
 have i17:=i16.slotN (k:=4) (x:=d.u32.toNat) (d:=0) (o:=17) P2_4
 refine obj.ld g17.cut (i:=16) (Qdw d.s64) rfl ?_
 refine QcE (x:=d.s64.toNat) g17 d.s64.toNat_lt (by rw[i17.vtl];decide) (by have:=i17.len;omega) ?_
 intro H18 g18
 have i18:=i17.slotN (k:=8) (x:=d.s64.toNat) (d:=0) (o:=18) P2_8
 refine obj.ld g18.cut (i:=17) (Ya d.u64) rfl ?_
 refine QcD (x:=d.u64.toNat) g18 d.u64.toNat_lt (by rw[i18.vtl];decide) (by have:=i18.len;omega) ?_
 intro H19 g19
 have i19:=i18.slotN (k:=8) (x:=d.u64.toNat) (d:=0) (o:=19) P2_8
 refine obj.ld g19.cut (i:=18) (Qfl d.s32a) rfl ?_
 refine Qcu (x:=d.s32a.toNat) g19 d.s32a.toNat_lt (by rw[i19.vtl];decide) (by have:=i19.len;omega) ?_
 intro H20 g20
 have i20:=i19.slotN (k:=4) (x:=d.s32a.toNat) (d:=0) (o:=20) P2_4
 refine obj.ld g20.cut (i:=19) (Zz d.u32a) rfl ?_
 refine Qct (x:=d.u32a.toNat) g20 d.u32a.toNat_lt (by rw[i20.vtl];decide) (by have:=i20.len;omega) ?_
 intro H21 g21
 have i21:=i20.slotN (k:=4) (x:=d.u32a.toNat) (d:=0) (o:=21) P2_4
 refine obj.ld g21.cut (i:=20) (Qdw d.s64a) rfl ?_
 refine Qcr (x:=d.s64a.toNat) g21 d.s64a.toNat_lt (by rw[i21.vtl];decide) (by have:=i21.len;omega) ?_
 intro H22 g22
 have i22:=i21.slotN (k:=8) (x:=d.s64a.toNat) (d:=0) (o:=22) P2_8
 refine obj.ld g22.cut (i:=21) (Ya d.u64a) rfl ?_
 refine Qcw (x:=d.u64a.toNat) g22 d.u64a.toNat_lt (by rw[i22.vtl];decide) (by have:=i22.len;omega) ?_
 intro H23 g23
 have i23:=i22.slotN (k:=8) (x:=d.u64a.toNat) (d:=0) (o:=23) P2_8
 refine Qcq (off:=o9) g23 (by have:=i23.le;omega) (by rw[i23.vtl];decide) (by have:=i23.len;omega) ?_
 intro H24 g24
 have i24:=i23.slotOff (off:=o9) (o:=24)
 refine obj.ld g24.cut (i:=23) (QcW d.f) rfl ?_
 refine Qft g24 (by rw[i24.vtl];decide) (by have:=i24.len;omega) ?_
 intro H25 g25
 have i25:=i24.slotF (x:=d.f.toNat) (d:=1078530000) (o:=25)
 refine obj.ld g25.cut (i:=24) (QcW d.f2) rfl ?_
 refine QeX g25 (by rw[i25.vtl];decide) (by have:=i25.len;omega) ?_
 intro H26 g26
 have i26:=i25.slotF (x:=d.f2.toNat) (d:=1077936128) (o:=26)
 refine obj.ld g26.cut (i:=25) (QcW d.f3) rfl ?_
 refine Qf9 g26 (by rw[i26.vtl];decide) (by have:=i26.len;omega) ?_
 intro H27 g27
 have i27:=i26.slotF (x:=d.f3.toNat) (d:=0) (o:=27)
 refine QbM (off:=o10) g27 (by have:=i27.le;omega) (by rw[i27.vtl];decide) (by have:=i27.len;omega) ?_
 intro H28 g28
 have i28:=i27.slotOff (off:=o10) (o:=28)
 refine Qb2 (off:=o11) g28 (by have:=i28.le;omega) (by rw[i28.vtl];decide) (by have:=i28.len;omega) ?_
 intro H29 g29
 have i29:=i28.slotOff (off:=o11) (o:=29)
 refine QfS (off:=o12) g29 (by have:=i29.le;omega) (by rw[i29.vtl];decide) (by have:=i29.len;omega) ?_
 intro H30 g30
 have i30:=i29.slotOff (off:=o12) (o:=30)
 refine Qff (off:=o13) g30 (by have:=i30.le;omega) (by rw[i30.vtl];decide) (by have:=i30.len;omega) ?_
 intro H31 g31
 have i31:=i30.slotOff (off:=o13) (o:=31)
 refine Qd7 (off:=o14) g31 (by have:=i31.le;omega) (by rw[i31.vtl];decide) (by have:=i31.len;omega) ?_
 intro H32 g32
 have i32:=i31.slotOff (off:=o14) (o:=32)
 refine QcU (off:=o15) g32 (by have:=i32.le;omega) (by rw[i32.vtl];decide) (by have:=i32.len;omega) ?_
 intro H33 g33
 have i33:=i32.slotOff (off:=o15) (o:=33)
 refine QbH (off:=o16) g33 (by have:=i33.le;omega) (by rw[i33.vtl];decide) (by have:=i33.len;omega) ?_
 intro H34 g34
 have i34:=i33.slotOff (off:=o16) (o:=34)
 refine QbF (off:=o17) g34 (by have:=i34.le;omega) (by rw[i34.vtl];decide) (by have:=i34.len;omega) ?_
 intro H35 g35
 have i35:=i34.slotOff (off:=o17) (o:=35)
 refine obj.ld g35.cut (i:=34) (Ya d.singleWeak) rfl ?_
 refine QbJ (x:=d.singleWeak.toNat) g35 d.singleWeak.toNat_lt (by rw[i35.vtl];decide) (by have:=i35.len;omega) ?_
 intro H36 g36
 have i36:=i35.slotN (k:=8) (x:=d.singleWeak.toNat) (d:=0) (o:=36) P2_8
 refine Qba (off:=o18) g36 (by have:=i36.le;omega) (by rw[i36.vtl];decide) (by have:=i36.len;omega) ?_
 intro H37 g37
 have i37:=i36.slotOff (off:=o18) (o:=37)
 refine QaI (off:=o19) g37 (by have:=i37.le;omega) (by rw[i37.vtl];decide) (by have:=i37.len;omega) ?_
 intro H38 g38
 have i38:=i37.slotOff (off:=o19) (o:=38)
 refine obj.ld g38.cut (i:=37) (Ya d.coOwning) rfl ?_
 refine Qcb (x:=d.coOwning.toNat) g38 d.coOwning.toNat_lt (by rw[i38.vtl];decide) (by have:=i38.len;omega) ?_
 intro H39 g39
 have i39:=i38.slotN (k:=8) (x:=d.coOwning.toNat) (d:=0) (o:=39) P2_8
 refine Qay (off:=o20) g39 (by have:=i39.le;omega) (by rw[i39.vtl];decide) (by have:=i39.len;omega) ?_
 intro H40 g40
 have i40:=i39.slotOff (off:=o20) (o:=40)
 refine obj.ld g40.cut (i:=39) (Ya d.nonOwning) rfl ?_
 refine QbR (x:=d.nonOwning.toNat) g40 d.nonOwning.toNat_lt (by rw[i40.vtl];decide) (by have:=i40.len;omega) ?_
 intro H41 g41
 have i41:=i40.slotN (k:=8) (x:=d.nonOwning.toNat) (d:=0) (o:=41) P2_8
 refine Qaw (off:=o21) g41 (by have:=i41.le;omega) (by rw[i41.vtl];decide) (by have:=i41.len;omega) ?_
 intro H42 g42
 have i42:=i41.slotOff (off:=o21) (o:=42)
 refine ty_slot g42 (ty:=d.uniqTy) (o:=43) (by kernel_rfl) i42 obj (i:=41) rfl own.uniq (fun H hb R hR=>Qda hb d.uniqTy.toNat_lt (by rw[i42.vtl];decide) (by have:=i42.len;omega) hR) ?_
 intro H43 g43
 have i43:=i42.slotTy (ty:=d.uniqTy) (o:=43)
 refine Qef (off:=o22) g43 (by have:=i43.le;omega) (by rw[i43.vtl];decide) (by have:=i43.len;omega) ?_
 intro H44 g44
 have i44:=i43.slotOff (off:=o22) (o:=44)
 refine ty_slot g44 (ty:=d.ambTy) (o:=45) (by kernel_rfl) i44 obj (i:=42) rfl own.amb (fun H hb R hR=>Qcv hb d.ambTy.toNat_lt (by rw[i44.vtl];decide) (by have:=i44.len;omega) hR) ?_
 intro H45 g45
 have i45:=i44.slotTy (ty:=d.ambTy) (o:=45)
 refine Qdr (off:=o23) g45 (by have:=i45.le;omega) (by rw[i45.vtl];decide) (by have:=i45.len;omega) ?_
 intro H46 g46
 have i46:=i45.slotOff (off:=o23) (o:=46)
 refine Qd2 (off:=o24) g46 (by have:=i46.le;omega) (by rw[i46.vtl];decide) (by have:=i46.len;omega) ?_
 intro H47 g47
 have i47:=i46.slotOff (off:=o24) (o:=47)
 refine obj.ld g47.cut (i:=44) (i8V d.signedEnum) rfl ?_
 refine QdJ (x:=d.signedEnum.toNat) g47 d.signedEnum.toNat_lt (by rw[i47.vtl];decide) (by have:=i47.len;omega) ?_
 intro H48 g48
 have i48:=i47.slotN (k:=1) (x:=d.signedEnum.toNat) (d:=255) (o:=48) P2_1
 refine Qic g48 i48 (by decide) hI.vts (by omega) hI.nv ?_
 intro H' h'
 exact hR H' h'
end Go.Proofs
namespace Go.Proofs
open Go Go.Vc
open Tryz (prog)
section
variable {H:Qe} {p:Nat} {S:BS} {F:Cut} {r:Nat} (hB:Qd H p S F r) {R:Kn}
include hB
theorem str_pack {xs:List UInt8} (hI:Inv S) (hl:S.buf.length+xs.length+24<=536870912) (hR:∀H',Qd H' p (Qd9 xs S).1 F 0->R (.int .u32 ((Qd9 xs S).2:Nat)) H'):
  FnS prog 177 #[.pointer (some ⟨p,0,none⟩),Yf xs] H R:=QcG hB (Qec _) hI.nested hl hR
theorem enemy_pack {n:Nat} (ih:PackOk n) {v:Value} {kids:List Mon} (hI:Inv S) (he:(kids=[]/\v= .pointer none)\/∃k,kids=[k]) (hs:Qb9 kids<n) (hm:∀k,k∈kids->MT F v k) (hl:S.buf.length+Qb9 kids+20000<=536870912)
  (hR:∀H',Qd H' p (Zw kids S).1 F 0->R (.int .u32 ((Zw kids S).2:Nat)) H'):FnS prog 66 #[v,.pointer (some ⟨p,0,none⟩)] H R:=by
 rcases he with ⟨rfl,rfl⟩|⟨k,rfl⟩
 ·rw[Zw]at hR
  apply w66
  unfold s66
  rw[Y2 (by kernel_rfl)]
  exact hR H (hB.room (Nat.zero_le _))
 ·rw[Zw]at hR
  exact kidOk ih hB hI hs hm hl k rfl R hR
theorem stat_pack {v:Value} {o:Option ZJ} (hI:Inv S) (ho:OptAt v o (fun s=>Za F v (statC s))) (hl:S.buf.length+statLen o+5000<=536870912)
  (hR:∀H',Qd H' p (QiJ o S).1 F 0->R (.int .u32 ((QiJ o S).2:Nat)) H'):FnS prog 185 #[v,.pointer (some ⟨p,0,none⟩)] H R:=by
 cases o with
 |none=>
  have hv:v= .pointer none:=ho
  subst hv
  apply w185
  unfold s185
  rw[Y2 (by kernel_rfl)]
  exact hR H (hB.room (Nat.zero_le _))
 |some d=>exact StatT_Pack hB hI ho hl hR
theorem parent_pack {v:Value} {b:Bool} (hI:Inv S) (ho:(b=false/\v= .pointer none)\/(b=true/\∃a,v= .pointer (some a))) (hl:S.buf.length+5000<=536870912)
  (hR:∀H',Qd H' p (Qf2 b S).1 F 0->R (.int .u32 ((Qf2 b S).2:Nat)) H'):FnS prog 196 #[v,.pointer (some ⟨p,0,none⟩)] H R:=by
 rcases ho with ⟨rfl,rfl⟩|⟨rfl,a,rfl⟩
 ·exact QcM hB hI (Or.inl rfl) hl (fun _=>hR H (hB.room (Nat.zero_le _))) (fun h=>absurd rfl h)
 ·exact QcM hB hI (Or.inr ⟨a,rfl⟩) hl (fun h=>by cases h) (fun _=>hR)
end
set_option maxHeartbeats 4000000 in
set_option maxRecDepth 4000 in
theorem packStep {n:Nat} (ih:PackOk n):PackOk (n+1):=by
 intro m hm H p S F r v R hB hI hv hl hR
 cases hv with
 |mk v d c ptrs tables enemy test uniq amb obj own tl tlen tt te tu tq ta=>
 have hpk:Qb1 (.mk d tables enemy test uniq amb) S=packT d (QB Qb1 tables) (Zw enemy) (Zw test) (Zw uniq) (Zw amb) S:=by rw[Qb1,funext (Qht tables)]
 have hcost:Qg9 (.mk d tables enemy test uniq amb)=costD d+60*tables.length+Qb9 tables+Qb9 enemy+Qb9 test+Qb9 uniq+Qb9 amb:=by rw[Qg9]
 have hD:costD d=costD d:=rfl
 conv at hD=>rhs;unfold costD
 rw[hcost]at hm hl
 rw[hpk]at hR
 clear hpk hcost
 apply w66
 rw[packHead_eq]
 unfold packHead
 obtain ⟨q,e,rfl,hq⟩:=obj
 have obj:Za F (.pointer (some ⟨q,0,none⟩)) (mtCells d c):=⟨q,e,rfl,hq⟩
 rw[Y2 (by kernel_rfl)]
 show IfK (.bool false) _ _
 rw[ZG]
 refine obj.ld hB.cut (i:=3) (Yf d.name) rfl ?_
 refine str_pack hB hI (by omega) ?_
 intro H1 b1
 have k1:=QdV d.name hI
 have l1:=k1.len
 generalize hq1:Qd9 d.name S=q1 at *
 refine Qiy b1 (e0:=5) (xs:=d.inventory) (by kernel_rfl) obj (fld:=4) rfl own.inv k1.inv (by omega) ?_
 intro H2 b2
 have k2:=QiD d.inventory k1.inv
 have l2:=k2.len
 generalize hq2:optB d.inventory q1.1=q2 at *
 refine obj.ld b2.cut (i:=6) c.test rfl ?_
 refine AnyT_Pack b2 own.test (kidOk ih b2 k2.inv (by omega) tu (by omega)) k2.inv (by omega) ?_
 intro H3 b3
 have k3:=Qfb (amb:=false) (ty:=d.testTy) (color:=d.testColor) k2.inv (Qdm test q2.1 k2.inv)
 have l3:=k3.len
 generalize hq3:Qci false d.testTy d.testColor (Zw test) q2.1=q3 at *
 obtain ⟨pl3,pn3,pe3,pt3⟩:=own.test4
 refine Qdl b3 (e0:=165) (es:=4) (al:=2) (k:=1) (items:=(d.test4.map (fun t:Qb8=>QcB t.a.toNat t.b.toNat))) (by kernel_rfl) obj (fld:=7) rfl pn3 (by rw[List.length_map];exact pe3) (Yh (f:=(fun t:Qb8=>QcB t.a.toNat t.b.toNat)) (k:=4) (fun _=>Qbi _ _)) k3.inv rfl (by decide) (by rw[List.length_map];omega) (by rw[List.length_map];omega) ?_ ?_ ?_
 ·intro H0 hb0 R0 h0
  refine Qd8 hb0 k3.inv.nested (by rw[List.length_map];omega) ?_
  intro H' v' h'
  exact h0 H' v' (h'.room (YH (k:=1) _ rfl (by decide)))
 ·intro i h1 h2 S' H' r' hb' hr ha hmn hal hl' R' h'
  simp only[List.getElem_map]at h'⊢
  refine TestT_Pack hb' (pt3 i _ _ (List.getElem?_eq_getElem h1) (List.getElem?_eq_getElem (by simpa using h2))) hr (by omega) (by omega) (by omega) ?_
  exact h'
 intro H4 b4
 have k4:=QbG (es:=4) (al:=2) (items:=(d.test4.map (fun t:Qb8=>QcB t.a.toNat t.b.toNat))) P2_2 (Yh (f:=(fun t:Qb8=>QcB t.a.toNat t.b.toNat)) (k:=4) (fun _=>Qbi _ _) (l:=d.test4)) k3.inv
 have l4:=k4.len
 generalize hq4:QhI 4 2 (d.test4.map (fun t:Qb8=>QcB t.a.toNat t.b.toNat)) q3.1=q4 at *
 rw[List.length_map]at l4
 refine Qi4 b4 (e0:=9) (xs:=d.strings) (pk:=Qd9) (c:=(fun x=>x.length+8)) (sl:=5000) (by kernel_rfl) obj (fld:=8) rfl own.strings (by rw[List.length_map]) k4.inv (by omega) (fun x _ S h=>QdV x h) (by rw[Qfn];omega) ?_ ?_ ?_
 ·intro H0 S0 F0 hb0 hi0 hl0 R0 h0
  refine QaD hb0 hi0.nested (by omega) ?_
  intro H' v' h'
  exact h0 H' v' (h'.room (YH (k:=2) _ rfl (by decide)))
 ·intro i h1 h2 S' H' F' hF hb' hi' hl' R' h'
  simp only[List.getElem_map]
  have hl2:S'.buf.length+(d.strings[i].length+8)+5000<=536870912:=hl'
  exact str_pack hb' hi' (by omega) h'
 intro H5 b5
 have k5:=strs_ok d.strings k4.inv
 have l5:=k5.len
 generalize hq5:optO (QB Qd9 d.strings) q4.1=q5 at *
 have hts:=costs_sum tables
 refine Qi4 b5 (e0:=89) (xs:=tables) (pk:=Qb1) (c:=Qg9) (sl:=20000) (by kernel_rfl) obj (fld:=9) rfl tl tlen k5.inv (by omega) (fun x _ S h=>(packM_ok x S h).1) (by rw[hts];omega) ?_ ?_ ?_
 ·intro H0 S0 F0 hb0 hi0 hl0 R0 h0
  refine QaF hb0 hi0.nested (by omega) ?_
  intro H' v' h'
  exact h0 H' v' (h'.room (YH (k:=2) _ rfl (by decide)))
 ·intro i h1 h2 S' H' F' hF hb' hi' hl' R' h'
  have hcm:=costs_mem (List.getElem_mem h2)
  exact ih _ (by omega) H' p S' F' _ _ R' hb' hi' ((tt i _ _ (List.getElem?_eq_getElem h1) (List.getElem?_eq_getElem h2)).mono hF) hl' h'
 intro H6 b6
 have k6:=optO_ok (q:=QB Qb1 tables) (c:=Qb9 tables) (n:=tables.length) k5.inv (by have:=(packMs_ok tables _ k5.inv).1;rwa [Qht]at this) (Qce _ _ _)
 have l6:=k6.len
 generalize hq6:optO (QB Qb1 tables) q5.1=q6 at *
 refine obj.ld b6.cut (i:=10) c.enemy rfl ?_
 refine enemy_pack b6 ih k6.inv own.enemy (by omega) te (by omega) ?_
 intro H7 b7
 have k7:=Qdm enemy q6.1 k6.inv
 have l7:=k7.len
 generalize hq7:Zw enemy q6.1=q7 at *
 refine Qiy b7 (e0:=5) (xs:=d.nested) (by kernel_rfl) obj (fld:=11) rfl own.nested k7.inv (by omega) ?_
 intro H8 b8
 have k8:=QiD d.nested k7.inv
 have l8:=k8.len
 generalize hq8:optB d.nested q7.1=q8 at *
 refine obj.ld b8.cut (i:=12) c.empty rfl ?_
 refine stat_pack b8 k8.inv own.empty (by omega) ?_
 intro H9 b9
 have k9:=optStat_ok d.empty k8.inv
 have l9:=k9.len
 generalize hq9:QiJ d.empty q8.1=q9 at *
 refine Qdl b9 (e0:=4) (es:=1) (al:=1) (k:=0) (items:=(d.bools.map Qho)) (by kernel_rfl) obj (fld:=22) rfl own.bools (by rw[List.length_map,List.length_map]) (Yh (f:=Qho) (k:=1) (fun _=>rfl)) k9.inv rfl (by decide) (by rw[List.length_map];omega) (by rw[List.length_map];omega) ?_ ?_ ?_
 ·intro H0 hb0 R0 h0
  refine QaL hb0 k9.inv.nested (by rw[List.length_map];omega) ?_
  intro H' v' h'
  exact h0 H' v' (h'.room (YH (k:=0) _ rfl (by decide)))
 ·intro i h1 h2 S' H' r' hb' hr ha hmn hal hl' R' h'
  simp only[List.getElem_map]at h'⊢
  refine al_Bool hb' (by omega) (by omega) (by omega) ?_
  intro H'' h''
  exact h' H'' _ h''
 intro H10 b10
 have k10:=QbG (es:=1) (al:=1) (items:=(d.bools.map Qho)) P2_1 (Yh (f:=Qho) (k:=1) (fun _=>rfl) (l:=d.bools)) k9.inv
 have l10:=k10.len
 generalize hq10:QhI 1 1 (d.bools.map Qho) q9.1=q10 at *
 rw[List.length_map]at l10
 refine Qi4 b10 (e0:=9) (xs:=d.strings2) (pk:=Qd9) (c:=(fun x=>x.length+8)) (sl:=5000) (by kernel_rfl) obj (fld:=26) rfl own.strings2 (by rw[List.length_map]) k10.inv (by omega) (fun x _ S h=>QdV x h) (by rw[Qfn];omega) ?_ ?_ ?_
 ·intro H0 S0 F0 hb0 hi0 hl0 R0 h0
  refine Qaz hb0 hi0.nested (by omega) ?_
  intro H' v' h'
  exact h0 H' v' (h'.room (YH (k:=2) _ rfl (by decide)))
 ·intro i h1 h2 S' H' F' hF hb' hi' hl' R' h'
  simp only[List.getElem_map]
  have hl2:S'.buf.length+(d.strings2[i].length+8)+5000<=536870912:=hl'
  exact str_pack hb' hi' (by omega) h'
 intro H11 b11
 have k11:=strs_ok d.strings2 k10.inv
 have l11:=k11.len
 generalize hq11:optO (QB Qd9 d.strings2) q10.1=q11 at *
 obtain ⟨pl11,pn11,pe11,pt11⟩:=own.abil
 refine Qdl b11 (e0:=171) (es:=8) (al:=4) (k:=2) (items:=(d.abilities.map (fun t:QeJ=>QaJ t.id.toNat t.dist.toNat))) (by kernel_rfl) obj (fld:=27) rfl pn11 (by rw[List.length_map];exact pe11) (Yh (f:=(fun t:QeJ=>QaJ t.id.toNat t.dist.toNat)) (k:=8) (fun _=>Qcl _ _)) k11.inv rfl (by decide) (by rw[List.length_map];omega) (by rw[List.length_map];omega) ?_ ?_ ?_
 ·intro H0 hb0 R0 h0
  refine Qa9 hb0 k11.inv.nested (by rw[List.length_map];omega) ?_
  intro H' v' h'
  exact h0 H' v' (h'.room (YH (k:=2) _ rfl (by decide)))
 ·intro i h1 h2 S' H' r' hb' hr ha hmn hal hl' R' h'
  simp only[List.getElem_map]at h'⊢
  refine AbilityT_Pack hb' (pt11 i _ _ (List.getElem?_eq_getElem h1) (List.getElem?_eq_getElem (by simpa using h2))) hr (by omega) (by omega) (by omega) ?_
  exact h'
 intro H12 b12
 have k12:=QbG (es:=8) (al:=4) (items:=(d.abilities.map (fun t:QeJ=>QaJ t.id.toNat t.dist.toNat))) P2_4 (Yh (f:=(fun t:QeJ=>QaJ t.id.toNat t.dist.toNat)) (k:=8) (fun _=>Qcl _ _) (l:=d.abilities)) k11.inv
 have l12:=k12.len
 generalize hq12:QhI 8 4 (d.abilities.map (fun t:QeJ=>QaJ t.id.toNat t.dist.toNat)) q11.1=q12 at *
 rw[List.length_map]at l12
 refine Qiy b12 (e0:=5) (xs:=d.flex) (by kernel_rfl) obj (fld:=28) rfl own.flex k12.inv (by omega) ?_
 intro H13 b13
 have k13:=QiD d.flex k12.inv
 have l13:=k13.len
 generalize hq13:optB d.flex q12.1=q13 at *
 obtain ⟨pl13,pn13,pe13,pt13⟩:=own.test5
 refine Qdl b13 (e0:=165) (es:=4) (al:=2) (k:=1) (items:=(d.test5.map (fun t:Qb8=>QcB t.a.toNat t.b.toNat))) (by kernel_rfl) obj (fld:=29) rfl pn13 (by rw[List.length_map];exact pe13) (Yh (f:=(fun t:Qb8=>QcB t.a.toNat t.b.toNat)) (k:=4) (fun _=>Qbi _ _)) k13.inv rfl (by decide) (by rw[List.length_map];omega) (by rw[List.length_map];omega) ?_ ?_ ?_
 ·intro H0 hb0 R0 h0
  refine Qd1 hb0 k13.inv.nested (by rw[List.length_map];omega) ?_
  intro H' v' h'
  exact h0 H' v' (h'.room (YH (k:=1) _ rfl (by decide)))
 ·intro i h1 h2 S' H' r' hb' hr ha hmn hal hl' R' h'
  simp only[List.getElem_map]at h'⊢
  refine TestT_Pack hb' (pt13 i _ _ (List.getElem?_eq_getElem h1) (List.getElem?_eq_getElem (by simpa using h2))) hr (by omega) (by omega) (by omega) ?_
  exact h'
 intro H14 b14
 have k14:=QbG (es:=4) (al:=2) (items:=(d.test5.map (fun t:Qb8=>QcB t.a.toNat t.b.toNat))) P2_2 (Yh (f:=(fun t:Qb8=>QcB t.a.toNat t.b.toNat)) (k:=4) (fun _=>Qbi _ _) (l:=d.test5)) k13.inv
 have l14:=k14.len
 generalize hq14:QhI 4 2 (d.test5.map (fun t:Qb8=>QcB t.a.toNat t.b.toNat)) q13.1=q14 at *
 rw[List.length_map]at l14
 refine Qdl b14 (e0:=2) (es:=8) (al:=8) (k:=3) (items:=(d.longs.map Qdt)) (by kernel_rfl) obj (fld:=30) rfl own.longs (by rw[List.length_map,List.length_map]) (Yh (f:=Qdt) (k:=8) (fun _=>Qf _ _)) k14.inv rfl (by decide) (by rw[List.length_map];omega) (by rw[List.length_map];omega) ?_ ?_ ?_
 ·intro H0 hb0 R0 h0
  refine Qbk hb0 k14.inv.nested (by rw[List.length_map];omega) ?_
  intro H' v' h'
  exact h0 H' v' (h'.room (YH (k:=3) _ rfl (by decide)))
 ·intro i h1 h2 S' H' r' hb' hr ha hmn hal hl' R' h'
  simp only[List.getElem_map]at h'⊢
  refine al_Int64 hb' (by omega) (by omega) (by omega) ?_
  intro H'' h''
  rw[QdF (by decide)]at h''
  exact h' H'' _ h''
 intro H15 b15
 have k15:=QbG (es:=8) (al:=8) (items:=(d.longs.map Qdt)) P2_8 (Yh (f:=Qdt) (k:=8) (fun _=>Qf _ _) (l:=d.longs)) k14.inv
 have l15:=k15.len
 generalize hq15:QhI 8 8 (d.longs.map Qdt) q14.1=q15 at *
 rw[List.length_map]at l15
 refine Qdl b15 (e0:=164) (es:=8) (al:=8) (k:=3) (items:=(d.doubles.map Qdt)) (by kernel_rfl) obj (fld:=31) rfl own.doubles (by rw[List.length_map,List.length_map]) (Yh (f:=Qdt) (k:=8) (fun _=>Qf _ _)) k15.inv rfl (by decide) (by rw[List.length_map];omega) (by rw[List.length_map];omega) ?_ ?_ ?_
 ·intro H0 hb0 R0 h0
  refine QaZ hb0 k15.inv.nested (by rw[List.length_map];omega) ?_
  intro H' v' h'
  exact h0 H' v' (h'.room (YH (k:=3) _ rfl (by decide)))
 ·intro i h1 h2 S' H' r' hb' hr ha hmn hal hl' R' h'
  simp only[List.getElem_map]at h'⊢
  refine al_Float64 hb' (by omega) (by omega) (by omega) ?_
  intro H'' h''
  exact h' H'' _ h''
 intro H16 b16
 have k16:=QbG (es:=8) (al:=8) (items:=(d.doubles.map Qdt)) P2_8 (Yh (f:=Qdt) (k:=8) (fun _=>Qf _ _) (l:=d.doubles)) k15.inv
 have l16:=k16.len
 generalize hq16:QhI 8 8 (d.doubles.map Qdt) q15.1=q16 at *
 rw[List.length_map]at l16
 refine obj.ld b16.cut (i:=32) c.parent rfl ?_
 refine parent_pack b16 k16.inv own.parent (by omega) ?_
 intro H17 b17
 have k17:=QiY d.parent k16.inv
 have l17:=k17.len
 generalize hq17:Qf2 d.parent q16.1=q17 at *
 obtain ⟨pl17,pn17,pe17,pt17⟩:=own.refs
 refine Qi4 b17 (e0:=258) (xs:=d.refs) (pk:=Qdb) (c:=(fun _=>40)) (sl:=5000) (by kernel_rfl) obj (fld:=33) rfl pn17 pe17 k17.inv (by omega) (fun x _ S h=>(Qit x h).1) (by rw[QdH];omega) ?_ ?_ ?_
 ·intro H0 S0 F0 hb0 hi0 hl0 R0 h0
  refine Qar hb0 hi0.nested (by omega) ?_
  intro H' v' h'
  exact h0 H' v' (h'.room (YH (k:=2) _ rfl (by decide)))
 ·intro i h1 h2 S' H' F' hF hb' hi' hl' R' h'
  have hl2:S'.buf.length+40+5000<=536870912:=hl'
  exact QfP hb' hi' ((pt17 i _ _ (List.getElem?_eq_getElem h1) (List.getElem?_eq_getElem h2)).mono hF) (by omega) h'
 intro H18 b18
 have k18:=refs_ok d.refs k17.inv
 have l18:=k18.len
 generalize hq18:optO (QB Qdb d.refs) q17.1=q18 at *
 refine Qdl b18 (e0:=31) (es:=8) (al:=8) (k:=3) (items:=(d.weak.map Qdt)) (by kernel_rfl) obj (fld:=35) rfl own.weak (by rw[List.length_map,List.length_map]) (Yh (f:=Qdt) (k:=8) (fun _=>Qf _ _)) k18.inv rfl (by decide) (by rw[List.length_map];omega) (by rw[List.length_map];omega) ?_ ?_ ?_
 ·intro H0 hb0 R0 h0
  refine Qac hb0 k18.inv.nested (by rw[List.length_map];omega) ?_
  intro H' v' h'
  exact h0 H' v' (h'.room (YH (k:=3) _ rfl (by decide)))
 ·intro i h1 h2 S' H' r' hb' hr ha hmn hal hl' R' h'
  simp only[List.getElem_map]at h'⊢
  refine al_Uint64 hb' (by omega) (by omega) (by omega) ?_
  intro H'' h''
  exact h' H'' _ h''
 intro H19 b19
 have k19:=QbG (es:=8) (al:=8) (items:=(d.weak.map Qdt)) P2_8 (Yh (f:=Qdt) (k:=8) (fun _=>Qf _ _) (l:=d.weak)) k18.inv
 have l19:=k19.len
 generalize hq19:QhI 8 8 (d.weak.map Qdt) q18.1=q19 at *
 rw[List.length_map]at l19
 obtain ⟨pl19,pn19,pe19,pt19⟩:=own.strong
 refine Qi4 b19 (e0:=258) (xs:=d.strong) (pk:=Qdb) (c:=(fun _=>40)) (sl:=5000) (by kernel_rfl) obj (fld:=36) rfl pn19 pe19 k19.inv (by omega) (fun x _ S h=>(Qit x h).1) (by rw[QdH];omega) ?_ ?_ ?_
 ·intro H0 S0 F0 hb0 hi0 hl0 R0 h0
  refine Qa1 hb0 hi0.nested (by omega) ?_
  intro H' v' h'
  exact h0 H' v' (h'.room (YH (k:=2) _ rfl (by decide)))
 ·intro i h1 h2 S' H' F' hF hb' hi' hl' R' h'
  have hl2:S'.buf.length+40+5000<=536870912:=hl'
  exact QfP hb' hi' ((pt19 i _ _ (List.getElem?_eq_getElem h1) (List.getElem?_eq_getElem h2)).mono hF) (by omega) h'
 intro H20 b20
 have k20:=refs_ok d.strong k19.inv
 have l20:=k20.len
 generalize hq20:optO (QB Qdb d.strong) q19.1=q20 at *
 refine Qdl b20 (e0:=31) (es:=8) (al:=8) (k:=3) (items:=(d.coOwnings.map Qdt)) (by kernel_rfl) obj (fld:=38) rfl own.coOwnings (by rw[List.length_map,List.length_map]) (Yh (f:=Qdt) (k:=8) (fun _=>Qf _ _)) k20.inv rfl (by decide) (by rw[List.length_map];omega) (by rw[List.length_map];omega) ?_ ?_ ?_
 ·intro H0 hb0 R0 h0
  refine ZZ hb0 k20.inv.nested (by rw[List.length_map];omega) ?_
  intro H' v' h'
  exact h0 H' v' (h'.room (YH (k:=3) _ rfl (by decide)))
 ·intro i h1 h2 S' H' r' hb' hr ha hmn hal hl' R' h'
  simp only[List.getElem_map]at h'⊢
  refine al_Uint64 hb' (by omega) (by omega) (by omega) ?_
  intro H'' h''
  exact h' H'' _ h''
 intro H21 b21
 have k21:=QbG (es:=8) (al:=8) (items:=(d.coOwnings.map Qdt)) P2_8 (Yh (f:=Qdt) (k:=8) (fun _=>Qf _ _) (l:=d.coOwnings)) k20.inv
 have l21:=k21.len
 generalize hq21:QhI 8 8 (d.coOwnings.map Qdt) q20.1=q21 at *
 rw[List.length_map]at l21
 refine Qdl b21 (e0:=31) (es:=8) (al:=8) (k:=3) (items:=(d.nonOwnings.map Qdt)) (by kernel_rfl) obj (fld:=40) rfl own.nonOwnings (by rw[List.length_map,List.length_map]) (Yh (f:=Qdt) (k:=8) (fun _=>Qf _ _)) k21.inv rfl (by decide) (by rw[List.length_map];omega) (by rw[List.length_map];omega) ?_ ?_ ?_
 ·intro H0 hb0 R0 h0
  refine ZV hb0 k21.inv.nested (by rw[List.length_map];omega) ?_
  intro H' v' h'
  exact h0 H' v' (h'.room (YH (k:=3) _ rfl (by decide)))
 ·intro i h1 h2 S' H' r' hb' hr ha hmn hal hl' R' h'
  simp only[List.getElem_map]at h'⊢
  refine al_Uint64 hb' (by omega) (by omega) (by omega) ?_
  intro H'' h''
  exact h' H'' _ h''
 intro H22 b22
 have k22:=QbG (es:=8) (al:=8) (items:=(d.nonOwnings.map Qdt)) P2_8 (Yh (f:=Qdt) (k:=8) (fun _=>Qf _ _) (l:=d.nonOwnings)) k21.inv
 have l22:=k22.len
 generalize hq22:QhI 8 8 (d.nonOwnings.map Qdt) q21.1=q22 at *
 rw[List.length_map]at l22
 refine obj.ld b22.cut (i:=41) c.uniq rfl ?_
 refine Qg0 b22 own.uniq (kidOk ih b22 k22.inv (by omega) tq (by omega)) k22.inv (by omega) ?_
 intro H23 b23
 have k23:=Qfb (amb:=false) (ty:=d.uniqTy) (color:=d.uniqColor) k22.inv (Qdm uniq q22.1 k22.inv)
 have l23:=k23.len
 generalize hq23:Qci false d.uniqTy d.uniqColor (Zw uniq) q22.1=q23 at *
 refine obj.ld b23.cut (i:=42) c.amb rfl ?_
 refine QeP b23 own.amb (kidOk ih b23 k23.inv (by omega) ta (by omega)) k23.inv (by omega) ?_
 intro H24 b24
 have k24:=Qfb (amb:=true) (ty:=d.ambTy) (color:=d.ambColor) k23.inv (Qdm amb q23.1 k23.inv)
 have l24:=k24.len
 generalize hq24:Qci true d.ambTy d.ambColor (Zw amb) q23.1=q24 at *
 refine Qdl b24 (e0:=145) (es:=1) (al:=1) (k:=0) (items:=(d.enums.map (fun b:UInt8=>[b]))) (by kernel_rfl) obj (fld:=43) rfl own.enums (by rw[List.length_map,List.length_map]) (Yh (f:=(fun b:UInt8=>[b])) (k:=1) (fun _=>rfl)) k24.inv rfl (by decide) (by rw[List.length_map];omega) (by rw[List.length_map];omega) ?_ ?_ ?_
 ·intro H0 hb0 R0 h0
  refine Qbe hb0 k24.inv.nested (by rw[List.length_map];omega) ?_
  intro H' v' h'
  exact h0 H' v' (h'.room (YH (k:=0) _ rfl (by decide)))
 ·intro i h1 h2 S' H' r' hb' hr ha hmn hal hl' R' h'
  simp only[List.getElem_map]at h'⊢
  refine al_Byte hb' (by omega) (by omega) (by omega) ?_
  intro H'' h''
  exact h' H'' _ h''
 intro H25 b25
 have k25:=QbG (es:=1) (al:=1) (items:=(d.enums.map (fun b:UInt8=>[b]))) P2_1 (Yh (f:=(fun b:UInt8=>[b])) (k:=1) (fun _=>rfl) (l:=d.enums)) k24.inv
 have l25:=k25.len
 generalize hq25:QhI 1 1 (d.enums.map (fun b:UInt8=>[b])) q24.1=q25 at *
 rw[List.length_map]at l25
 have hl25:q25.1.buf.length+10000<=536870912:=by omega
 have n25:q25.1.buf.length<=q25.1.buf.length:=Nat.le_refl _
 have n24:q24.1.buf.length<=q25.1.buf.length:=Nat.le_trans k25.le n25
 have n23:q23.1.buf.length<=q25.1.buf.length:=Nat.le_trans k24.le n24
 have n22:q22.1.buf.length<=q25.1.buf.length:=Nat.le_trans k23.le n23
 have n21:q21.1.buf.length<=q25.1.buf.length:=Nat.le_trans k22.le n22
 have n20:q20.1.buf.length<=q25.1.buf.length:=Nat.le_trans k21.le n21
 have n19:q19.1.buf.length<=q25.1.buf.length:=Nat.le_trans k20.le n20
 have n18:q18.1.buf.length<=q25.1.buf.length:=Nat.le_trans k19.le n19
 have n17:q17.1.buf.length<=q25.1.buf.length:=Nat.le_trans k18.le n18
 have n16:q16.1.buf.length<=q25.1.buf.length:=Nat.le_trans k17.le n17
 have n15:q15.1.buf.length<=q25.1.buf.length:=Nat.le_trans k16.le n16
 have n14:q14.1.buf.length<=q25.1.buf.length:=Nat.le_trans k15.le n15
 have n13:q13.1.buf.length<=q25.1.buf.length:=Nat.le_trans k14.le n14
 have n12:q12.1.buf.length<=q25.1.buf.length:=Nat.le_trans k13.le n13
 have n11:q11.1.buf.length<=q25.1.buf.length:=Nat.le_trans k12.le n12
 have n10:q10.1.buf.length<=q25.1.buf.length:=Nat.le_trans k11.le n11
 have n9:q9.1.buf.length<=q25.1.buf.length:=Nat.le_trans k10.le n10
 have n8:q8.1.buf.length<=q25.1.buf.length:=Nat.le_trans k9.le n9
 have n7:q7.1.buf.length<=q25.1.buf.length:=Nat.le_trans k8.le n8
 have n6:q6.1.buf.length<=q25.1.buf.length:=Nat.le_trans k7.le n7
 have n5:q5.1.buf.length<=q25.1.buf.length:=Nat.le_trans k6.le n6
 have n4:q4.1.buf.length<=q25.1.buf.length:=Nat.le_trans k5.le n5
 have n3:q3.1.buf.length<=q25.1.buf.length:=Nat.le_trans k4.le n4
 have n2:q2.1.buf.length<=q25.1.buf.length:=Nat.le_trans k3.le n3
 have n1:q1.1.buf.length<=q25.1.buf.length:=Nat.le_trans k2.le n2
 have hfold:QB (fun f=>f) (Qj7 d (QB Qb1 tables) (Zw enemy) (Zw test) (Zw uniq) (Zw amb)) S=(q25.1,[q1.2,q2.2,q3.2,q4.2,q5.2,q6.2,q7.2,q8.2,q9.2,q10.2,q11.2,q12.2,q13.2,q14.2,q15.2,q16.2,q17.2,q18.2,q19.2,q20.2,q21.2,q22.2,q23.2,q24.2,q25.2]):=by
  simp only[Qj7,QB,hq1,hq2,hq3,hq4,hq5,hq6,hq7,hq8,hq9,hq10,hq11,hq12,hq13,hq14,hq15,hq16,hq17,hq18,hq19,hq20,hq21,hq22,hq23,hq24,hq25]
 refine packTail_ok b25 k25.inv obj own hl25 (Nat.le_trans k1.off n1) (Nat.le_trans k2.off n2) (Nat.le_trans k3.off n3) (Nat.le_trans k4.off n4) (Nat.le_trans k5.off n5) (Nat.le_trans k6.off n6) (Nat.le_trans k7.off n7) (Nat.le_trans k8.off n8) (Nat.le_trans k9.off n9) (Nat.le_trans k10.off n10) (Nat.le_trans k11.off n11) (Nat.le_trans k12.off n12) (Nat.le_trans k13.off n13) (Nat.le_trans k14.off n14) (Nat.le_trans k15.off n15) (Nat.le_trans k16.off n16) (Nat.le_trans k17.off n17) (Nat.le_trans k18.off n18) (Nat.le_trans k19.off n19) (Nat.le_trans k20.off n20) (Nat.le_trans k21.off n21) (Nat.le_trans k22.off n22) (Nat.le_trans k23.off n23) (Nat.le_trans k24.off n24) (Nat.le_trans k25.off n25) ?_
 intro H' h'
 unfold packT at hR
 rw[hfold]at hR
 exact hR H' h'
theorem QeQ:∀n,PackOk n
 |0=>fun m hm=>by omega
 |n+1=>packStep (QeQ n)
theorem MonsterT_Pack {m:Mon} {H:Qe} {p:Nat} {S:BS} {F:Cut} {r:Nat} {v:Value} {R:Kn} (hB:Qd H p S F r) (hI:Inv S) (hv:MT F v m) (hl:S.buf.length+Qg9 m+20000<=536870912)
  (hR:∀H',Qd H' p (Qb1 m S).1 F 0->R (.int .u32 ((Qb1 m S).2:Nat)) H'):FnS prog 66 #[v,.pointer (some ⟨p,0,none⟩)] H R:=
 QeQ (Qg9 m+1) m (Nat.lt_succ_self _) H p S F r v R hB hI hv hl hR
end Go.Proofs
namespace Go.Proofs
open Go Go.Vc
open Tryz (prog)
end Go.Proofs
namespace Go.Proofs
open Go Go.Vc
open Tryz (prog)
abbrev PP:=Nat->List UInt8->Nat->Prop
def Stable (P:PP):Prop:=∀A A' bs x p,A<=A'->P A bs p->P A' (x++bs) (x.length+p)
structure Spec where
 o:Nat
 ab:Prop
 q:PP
def Fact (L0:Nat) (S:BS) (s:Spec):Prop:=
 (S.vt.getD s.o 0=0/\s.ab)\/(S.vt.getD s.o 0≠0/\¬s.ab/\L0<S.vt.getD s.o 0/\S.vt.getD s.o 0<=S.buf.length/\s.q S.min S.buf (S.buf.length-S.vt.getD s.o 0))
structure Op (f:BS->BS) (L0:Nat) (s:Spec):Prop where
 st:Stable s.q
 ext:∀S,∃x,(f S).buf=x++S.buf
 min:∀S,S.min<=(f S).min
 len:∀S,(f S).buf.length<=S.buf.length+64
 vl:∀S,(f S).vt.length=S.vt.length
 oth:∀S j,j≠s.o->(f S).vt.getD j 0=S.vt.getD j 0
 own:∀S,L0<=S.buf.length->S.buf.length<4000000000->s.o<S.vt.length->S.vt.getD s.o 0=0->Fact L0 (f S) s
def Facts (L0:Nat) (S:BS):List Spec->Prop
 |[]=>True
 |s::ss=>Fact L0 S s/\Facts L0 S ss
theorem vec3_len' (v:ZO):(Qj8 v).length=32:=by simp[Qj8,vec3B,Qf]
end Go.Proofs
namespace Go.Proofs
open Go Go.Vc
open Tryz (prog)
def YD (A:Nat) (bs:List UInt8) (pos vt vo:Nat) (ab:Prop) (Q:PP):Prop:=
 (slotAt bs vt vo=0/\ab)\/(slotAt bs vt vo≠0/\¬ab/\Q A bs (pos+slotAt bs vt vo))
end Go.Proofs
namespace Go.Proofs
open Go Go.Vc
open Tryz (prog)
end Go.Proofs
namespace Go.Proofs
open Go Go.Vc
open Tryz (prog)
theorem YD.there {A:Nat} {bs:List UInt8} {pos vt vo:Nat} {Q:PP} (h:YD A bs pos vt vo False Q):slotAt bs vt vo≠0/\Q A bs (pos+slotAt bs vt vo):=by
 rcases h with ⟨_,h⟩|⟨h1,_,h3⟩
 ·exact h.elim
 ·exact ⟨h1,h3⟩
theorem YD.zero {A:Nat} {bs:List UInt8} {pos vt vo:Nat} {ab:Prop} {Q:PP} (h:YD A bs pos vt vo ab Q) (h0:slotAt bs vt vo=0):ab:=by
 rcases h with h|h
 ·exact h.2
 ·exact absurd h0 h.1
theorem YD.got {A:Nat} {bs:List UInt8} {pos vt vo:Nat} {ab:Prop} {Q:PP} (h:YD A bs pos vt vo ab Q) (h0:slotAt bs vt vo≠0):¬ab/\Q A bs (pos+slotAt bs vt vo):=by
 rcases h with h|h
 ·exact absurd h.1 h0
 ·exact h.2
def Qx (bs:List UInt8) (p:Nat) (xs:List UInt8):Prop:=p+xs.length<=bs.length/\(bs.drop p).take xs.length=xs
theorem Qx.byte {bs xs:List UInt8} {p i:Nat} (h:Qx bs p xs) (hi:i<xs.length):byteN bs (p+i)=byteN xs i:=by
 have e:xs[i]?=bs[p+i]?:=by
  conv=>lhs;rw[<-h.2]
  rw[List.getElem?_take,if_pos hi,List.getElem?_drop]
 unfold byteN
 congr 1
 simp only[List.getD]
 rw[e]
theorem Qx.le2 {bs xs:List UInt8} {p i:Nat} (h:Qx bs p xs) (hi:i+2<=xs.length):Vc.le2 bs (p+i)=Vc.le2 xs i:=by
 unfold Vc.le2;rw[h.byte (by omega),Nat.add_assoc,h.byte (by omega)]
theorem Qx.le4 {bs xs:List UInt8} {p i:Nat} (h:Qx bs p xs) (hi:i+4<=xs.length):Vc.le4 bs (p+i)=Vc.le4 xs i:=by
 unfold Vc.le4;rw[h.le2 (by omega),Nat.add_assoc,h.le2 (by omega)]
theorem Qx.le8 {bs xs:List UInt8} {p i:Nat} (h:Qx bs p xs) (hi:i+8<=xs.length):Vc.le8 bs (p+i)=Vc.le8 xs i:=by
 unfold Vc.le8;rw[h.le4 (by omega),Nat.add_assoc,h.le4 (by omega)]
theorem Qx.sub {bs xs ys:List UInt8} {p o:Nat} (h:Qx bs p xs) (hy:Qx xs o ys):Qx bs (p+o) ys:=by
 refine ⟨by have:=h.1;have:=hy.1;omega,?_⟩
 have h1:=hy.1
 have e:(bs.drop (p+o)).take ys.length=(((bs.drop p).take xs.length).drop o).take ys.length:=by
  rw[List.drop_take,List.take_take,List.drop_drop,Nat.min_eq_left (by omega)]
 rw[e,h.2,hy.2]
theorem leB1_at {bs:List UInt8} {p:Nat} {x:Nat} (h:Qx bs p (leB (x:Int) 1)):byteN bs p=x%256:=by
 have:=h.byte (i:=0) (by rw[Qf];decide)
 rw[Nat.add_zero]at this
 rw[this,QhZ (by decide),QhS];simp
theorem leB2_at {bs:List UInt8} {p:Nat} {x:Nat} (h:Qx bs p (leB (x:Int) 2)):le2 bs p=x%65536:=by
 have:=h.le2 (i:=0) (by rw[Qf];decide)
 rw[Nat.add_zero]at this
 have e:=le2_leB (x:=x) (Nat.le_refl 2) []
 rw[List.append_nil]at e
 rw[this,e]
theorem QhG {bs:List UInt8} {p:Nat} {x:Nat} (h:Qx bs p (leB (x:Int) 4)):le4 bs p=x%4294967296:=by
 have:=h.le4 (i:=0) (by rw[Qf];decide)
 rw[Nat.add_zero]at this
 have e:=le4_leB (x:=x) (Nat.le_refl 4) []
 rw[List.append_nil]at e
 rw[this,e]
theorem leB8_at {bs:List UInt8} {p:Nat} {x:Nat} (h:Qx bs p (leB (x:Int) 8)):le8 bs p=x%18446744073709551616:=by
 have:=h.le8 (i:=0) (by rw[Qf];decide)
 rw[Nat.add_zero]at this
 have e:=le8_leB (x:=x) []
 rw[List.append_nil]at e
 rw[this,e]
theorem QeF {bs:List UInt8} {p:Nat} {x:UInt64} (h:Qx bs p (Qdt x)):le8 bs p=x.toNat:=by
 rw[leB8_at h];have:=x.toNat_lt;omega
theorem Qx.left {bs a b:List UInt8} {p:Nat} (h:Qx bs p (a++b)):Qx bs p a:=by
 have:=h.sub (o:=0) (ys:=a) ⟨by rw[List.length_append];omega,by rw[List.drop_zero,List.take_left]⟩
 rwa [Nat.add_zero]at this
theorem Qx.right {bs a b:List UInt8} {p n:Nat} (h:Qx bs p (a++b)) (hn:a.length=n):Qx bs (p+n) b:=by
 subst hn
 exact h.sub ⟨by rw[List.length_append];omega,by rw[List.drop_left,List.take_of_length_le (Nat.le_refl _)]⟩
theorem testB_at {bs:List UInt8} {p:Nat} {t:Qb8} (h:Qx bs p (QcB t.a.toNat t.b.toNat)):p+4<=bs.length/\le2 bs (p+0)=t.a.toNat/\byteN bs (p+2)=t.b.toNat:=by
 have hl:=h.1
 rw[Qbi]at hl
 refine ⟨hl,?_,?_⟩
 ·rw[Nat.add_zero,leB2_at h.left];have:=t.a.toNat_lt;omega
 ·rw[leB1_at (h.right (Qf _ _)).left];have:=t.b.toNat_lt;omega
theorem abilB_at {bs:List UInt8} {p:Nat} {t:QeJ} (h:Qx bs p (QaJ t.id.toNat t.dist.toNat)):p+8<=bs.length/\le4 bs (p+0)=t.id.toNat/\le4 bs (p+4)=t.dist.toNat:=by
 have hl:=h.1
 rw[Qcl]at hl
 refine ⟨hl,?_,?_⟩
 ·rw[Nat.add_zero,QhG h.left];have:=t.id.toNat_lt;omega
 ·rw[QhG (h.right (Qf _ _))];have:=t.dist.toNat_lt;omega
theorem vec3_at {bs:List UInt8} {p:Nat} {v:ZO} (h:Qx bs p (Qj8 v)):p+32<=bs.length/\le4 bs (p+0)=v.x.toNat/\le4 bs (p+4)=v.y.toNat/\le4 bs (p+8)=v.z.toNat/\le8 bs (p+16)=v.t1.toNat/\byteN bs (p+24)=v.t2.toNat/\le2 bs (p+26)=v.a.toNat/\byteN bs (p+28)=v.b.toNat:=by
 have hl:=h.1
 rw[vec3_len]at hl
 have h1:=h.right (Qf (v.x.toNat:Int) 4)
 have h2:=h1.right (Qf (v.y.toNat:Int) 4)
 have h3:=h2.right (Qf (v.z.toNat:Int) 4)
 have h4:=h3.right (n:=4) rfl
 have h5:=h4.right (Qf (v.t1.toNat:Int) 8)
 have h6:=h5.right (Qf (v.t2.toNat:Int) 1)
 have h7:=h6.right (n:=1) rfl
 have h8:=h7.right (Qf (v.a.toNat:Int) 2)
 have:=v.x.toNat_lt;have:=v.y.toNat_lt;have:=v.z.toNat_lt;have:=v.t1.toNat_lt;have:=v.t2.toNat_lt;have:=v.a.toNat_lt;have:=v.b.toNat_lt
 refine ⟨hl,?_,?_,?_,?_,?_,?_,?_⟩
 ·rw[Nat.add_zero,QhG h.left];omega
 ·rw[QhG h1.left];omega
 ·rw[QhG (x:=v.z.toNat) (p:=p+8) h2.left];omega
 ·rw[leB8_at (x:=v.t1.toNat) (p:=p+16) h4.left];omega
 ·rw[leB1_at (x:=v.t2.toNat) (p:=p+24) h5.left];omega
 ·rw[leB2_at (x:=v.a.toNat) (p:=p+26) h7.left];omega
 ·rw[leB1_at (x:=v.b.toNat) (p:=p+28) h8.left];omega
end Go.Proofs
namespace Go.Proofs
open Go Go.Vc
open Tryz (prog)
def Qb3 (P:PP):PP:=fun A bs f=>f+4<=bs.length/\True/\tgt bs f<=bs.length/\P A bs (tgt bs f)
def QhF (xs:List UInt8):PP:=fun _ bs t=>t+4+xs.length<bs.length/\le4 bs t=xs.length/\(bs.drop (t+4)).take xs.length=xs
def QdM (k:Nat) (items:List (List UInt8)):PP:=fun _ bs t=>t+4+k*items.length<=bs.length/\le4 bs t=items.length/\(bs.drop (t+4)).take items.flatten.length=items.flatten
def VecPW (k n:Nat):PP:=fun _ bs t=>t+4+k*n<=bs.length/\le4 bs t=n
def VecTW {α:Type} (l:List α) (P:α->PP):PP:=fun A bs t=>VecPW 4 l.length A bs t/\∀(i:Nat) a,l[i]?=some a->Qb3 (P a) A bs (t+4+4*i)
def RefPW (x:UInt64):PP:=fun _ bs p=>∃vt,VT bs p vt/\Sc 8 bs p vt 4 0 x.toNat
def SimpleW (x:UInt8):PP:=fun _ bs p=>∃vt,VT bs p vt/\Sc 1 bs p vt 4 2 x.toNat
def ParentW:PP:=fun _ _ _=>True
def StatW (d:ZJ):PP:=fun A bs p=>∃vt,VT bs p vt/\YD A bs p vt 4 False (Qb3 (QhF d.id))/\Sc 8 bs p vt 6 0 d.val.toNat/\Sc 2 bs p vt 8 0 d.count.toNat
def posW (pos:Option ZO):PP:=fun _ bs p=>match pos with|none=>True|some v=>Qx bs p (Qj8 v)
def UnW (amb:Bool) (ty color:UInt8) (K:PP):PP:=fun A bs t=>if amb=false/\ty=2 then SimpleW color A bs t else K A bs t
theorem QhF.at {A:Nat} {bs xs:List UInt8} {o:Nat} (h:Qb3 (QhF xs) A bs o):StrAt bs o xs.length/\Qx bs (tgt bs o+4) xs:=by
 obtain ⟨h1,_,h3,h4,h6,h7⟩:=h
 exact ⟨⟨h1,h6,h4⟩,by omega,h7⟩
theorem YD.strW {A:Nat} {bs xs:List UInt8} {pos vt vo:Nat} (h:YD A bs pos vt vo (xs=[]) (Qb3 (QhF xs))):∃at_,Qej 1 bs pos vt vo xs.length at_/\Qx bs at_ xs:=by
 rcases h with ⟨h1,h2⟩|⟨h1,_,h3⟩
 ·exact ⟨0,Or.inl ⟨h1,by rw[h2];rfl⟩,by subst h2;exact ⟨Nat.zero_le _,rfl⟩⟩
 ·obtain ⟨h5,h6⟩:=QhF.at h3
  exact ⟨tgt bs (pos+slotAt bs vt vo)+4,Or.inr ⟨h1,h5.1,rfl,h5.2.1,by have:=h5.2.2;omega,by have:=h5.2.2;omega⟩,h6⟩
theorem items_at {k:Nat} {items:List (List UInt8)} {bs:List UInt8} {a:Nat} (hi:∀x∈items,x.length=k) (hl:a+k*items.length<=bs.length) (hb:(bs.drop a).take items.flatten.length=items.flatten) {i:Nat} {x:List UInt8} (hx:items[i]?=some x):Qx bs (a+k*i) x:=by
 have hf:=Qbf items hi
 have hB:Qx bs a items.flatten:=⟨by omega,hb⟩
 have hfx:∀(l:List (List UInt8)),(∀y∈l,y.length=k)->∀j,l[j]?=some x->Qx l.flatten (k*j) x:=by
  intro l hl2
  induction l with
  |nil=>intro j hj;simp at hj
  |cons y ys ih=>
   intro j hj
   have hy:=hl2 y List.mem_cons_self
   cases j with
   |zero=>
    have:y=x:=by simpa using hj
    subst this
    rw[List.flatten_cons,Nat.mul_zero]
    exact ⟨by rw[List.length_append];omega,by rw[List.drop_zero,List.take_left]⟩
   |succ j=>
    have:=ih (fun z hz=>hl2 z (List.mem_cons_of_mem _ hz)) j (by simpa using hj)
    rw[List.flatten_cons]
    refine ⟨by rw[List.length_append,Nat.mul_add];have:=this.1;omega,?_⟩
    rw[show k*(j+1)=y.length+k*j by rw[hy,Nat.mul_add];omega,List.drop_append,List.drop_eq_nil_of_le (by omega),List.nil_append,show y.length+k*j-y.length=k*j by omega]
    exact this.2
 exact hB.sub (hfx items hi i hx)
theorem YD.vecW {A k:Nat} {bs:List UInt8} {items:List (List UInt8)} {pos vt vo:Nat} (hi:∀x∈items,x.length=k) (h:YD A bs pos vt vo (items=[]) (Qb3 (QdM k items))):
  ∃at_,Qej k bs pos vt vo items.length at_/\∀(i:Nat) x,items[i]?=some x->Qx bs (at_+k*i) x:=by
 rcases h with ⟨h1,h2⟩|⟨h1,_,h3⟩
 ·subst h2
  exact ⟨0,Or.inl ⟨h1,rfl⟩,fun i x h=>by simp at h⟩
 ·obtain ⟨q1,_,q3,v1,v2,v3⟩:=h3
  exact ⟨tgt bs (pos+slotAt bs vt vo)+4,Or.inr ⟨h1,q1,rfl,v2,v1,by omega⟩,fun i x hx=>items_at hi v1 v3 hx⟩
theorem YD.vecTW {α:Type} {A:Nat} {bs:List UInt8} {l:List α} {P:α->PP} {pos vt vo:Nat} (h:YD A bs pos vt vo (l=[]) (Qb3 (VecTW l P))):
  ∃at_,Qej 4 bs pos vt vo l.length at_/\∀(i:Nat) a,l[i]?=some a->Qb3 (P a) A bs (at_+4*i):=by
 rcases h with ⟨h1,h2⟩|⟨h1,_,h3⟩
 ·subst h2
  exact ⟨0,Or.inl ⟨h1,rfl⟩,fun i x h=>by simp at h⟩
 ·obtain ⟨q1,_,q3,⟨v1,v2⟩,q5⟩:=h3
  exact ⟨tgt bs (pos+slotAt bs vt vo)+4,Or.inr ⟨h1,q1,rfl,v2,v1,by omega⟩,q5⟩
structure OwnW (A:Nat) (bs:List UInt8) (pos vt:Nat) (d:Qbt):Prop where
 tab:VT bs pos vt
 pos0:YD A bs pos vt 4 (d.pos=none) (posW d.pos)
 mana:Sc 2 bs pos vt 6 150 d.mana.toNat
 hp:Sc 2 bs pos vt 8 100 d.hp.toNat
 name:YD A bs pos vt 10 (False) (Qb3 (QhF d.name))
 inventory:YD A bs pos vt 14 (d.inventory=[]) (Qb3 (QhF d.inventory))
 color:Sc 1 bs pos vt 16 8 d.color.toNat
 testTy:Sc 1 bs pos vt 18 0 d.testTy.toNat
 test4:YD A bs pos vt 22 ((d.test4.map fun t=>QcB t.a.toNat t.b.toNat)=[]) (Qb3 (QdM 4 (d.test4.map fun t=>QcB t.a.toNat t.b.toNat)))
 strings:YD A bs pos vt 24 (d.strings=[]) (Qb3 (VecTW d.strings QhF))
 nested:YD A bs pos vt 30 (d.nested=[]) (Qb3 (QhF d.nested))
 empty:YD A bs pos vt 32 (d.empty=none) (Qb3 ((fun A bs p=>∀s,d.empty=some s->StatW s A bs p)))
 bool:Sc 1 bs pos vt 34 0 (if d.bool then 1 else 0)
 s32:Sc 4 bs pos vt 36 0 d.s32.toNat
 u32:Sc 4 bs pos vt 38 0 d.u32.toNat
 s64:Sc 8 bs pos vt 40 0 d.s64.toNat
 u64:Sc 8 bs pos vt 42 0 d.u64.toNat
 s32a:Sc 4 bs pos vt 44 0 d.s32a.toNat
 u32a:Sc 4 bs pos vt 46 0 d.u32a.toNat
 s64a:Sc 8 bs pos vt 48 0 d.s64a.toNat
 u64a:Sc 8 bs pos vt 50 0 d.u64a.toNat
 bools:YD A bs pos vt 52 ((d.bools.map Qho)=[]) (Qb3 (QdM 1 (d.bools.map Qho)))
 f:Sc 4 bs pos vt 54 1078530000 d.f.toNat
 f2:Sc 4 bs pos vt 56 1077936128 d.f2.toNat
 f3:Sc 4 bs pos vt 58 0 d.f3.toNat
 strings2:YD A bs pos vt 60 (d.strings2=[]) (Qb3 (VecTW d.strings2 QhF))
 abilities:YD A bs pos vt 62 ((d.abilities.map fun t=>QaJ t.id.toNat t.dist.toNat)=[]) (Qb3 (QdM 8 (d.abilities.map fun t=>QaJ t.id.toNat t.dist.toNat)))
 flex:YD A bs pos vt 64 (d.flex=[]) (Qb3 (QhF d.flex))
 test5:YD A bs pos vt 66 ((d.test5.map fun t=>QcB t.a.toNat t.b.toNat)=[]) (Qb3 (QdM 4 (d.test5.map fun t=>QcB t.a.toNat t.b.toNat)))
 longs:YD A bs pos vt 68 ((d.longs.map Qdt)=[]) (Qb3 (QdM 8 (d.longs.map Qdt)))
 doubles:YD A bs pos vt 70 ((d.doubles.map Qdt)=[]) (Qb3 (QdM 8 (d.doubles.map Qdt)))
 parent:YD A bs pos vt 72 (d.parent=false) (Qb3 (ParentW))
 refs:YD A bs pos vt 74 (d.refs=[]) (Qb3 (VecTW d.refs RefPW))
 singleWeak:Sc 8 bs pos vt 76 0 d.singleWeak.toNat
 weak:YD A bs pos vt 78 ((d.weak.map Qdt)=[]) (Qb3 (QdM 8 (d.weak.map Qdt)))
 strong:YD A bs pos vt 80 (d.strong=[]) (Qb3 (VecTW d.strong RefPW))
 coOwning:Sc 8 bs pos vt 82 0 d.coOwning.toNat
 coOwnings:YD A bs pos vt 84 ((d.coOwnings.map Qdt)=[]) (Qb3 (QdM 8 (d.coOwnings.map Qdt)))
 nonOwning:Sc 8 bs pos vt 86 0 d.nonOwning.toNat
 nonOwnings:YD A bs pos vt 88 ((d.nonOwnings.map Qdt)=[]) (Qb3 (QdM 8 (d.nonOwnings.map Qdt)))
 uniqTy:Sc 1 bs pos vt 90 0 d.uniqTy.toNat
 ambTy:Sc 1 bs pos vt 94 0 d.ambTy.toNat
 enums:YD A bs pos vt 98 ((d.enums.map fun b=>[b])=[]) (Qb3 (QdM 1 (d.enums.map fun b=>[b])))
 signedEnum:Sc 1 bs pos vt 100 255 d.signedEnum.toNat
def flU (x D:UInt32):UInt32:=if FloatKind.f32.format.order x.toNat D.toNat=some .eq then D else x
def flD (d:Qbt):Qbt:={d with f:=flU d.f 1078530000,f2:=flU d.f2 1077936128,f3:=flU d.f3 0}
def MonW (d:Qbt) (abT:Prop) (PT:PP) (abE:Prop) (PE PU PQ PA:PP):PP:=fun A bs pos=>∃vt,OwnW A bs pos vt d/\
 YD A bs pos vt 26 abT (Qb3 PT)/\YD A bs pos vt 28 abE (Qb3 PE)/\YD A bs pos vt 20 (d.testTy=0) (Qb3 (UnW false d.testTy d.testColor PU))/\
 YD A bs pos vt 92 (d.uniqTy=0) (Qb3 (UnW false d.uniqTy d.uniqColor PQ))/\YD A bs pos vt 96 (d.ambTy=0) (Qb3 (UnW true d.ambTy d.ambColor PA))
mutual
def RwM:Mon->PP
 |.mk d tables enemy test uniq amb=>MonW d (tables=[]) (fun A bs t=>VecPW 4 tables.length A bs t/\RwL tables A bs (t+4)) (enemy=[]) (Rw1 enemy) (Rw1 test) (Rw1 uniq) (Rw1 amb)
def RwL:List Mon->PP
 |[]=>fun _ _ _=>True
 |m::ms=>fun A bs p=>Qb3 (RwM m) A bs p/\RwL ms A bs (p+4)
def Rw1:List Mon->PP
 |[]=>fun _ _ _=>False
 |m::_=>RwM m
end
theorem RwL_get:∀(ms:List Mon) {A:Nat} {bs:List UInt8} {p:Nat},RwL ms A bs p->∀(i:Nat) a,ms[i]?=some a->Qb3 (RwM a) A bs (p+4*i)
 |[],_,_,_,_,i,a,h=>by simp at h
 |m::ms,A,bs,p,h,i,a,ha=>by
  rw[RwL]at h
  cases i with
  |zero=>
   have:m=a:=by simpa using ha
   subst this;exact h.1
  |succ i=>
   have:=RwL_get ms h.2 i a (by simpa using ha)
   rwa [show p+4*(i+1)=p+4+4*i by omega]
mutual
def flM:Mon->Mon
 |.mk d tables enemy test uniq amb=>.mk (flD d) (flMs tables) (flMs enemy) (flMs test) (flMs uniq) (flMs amb)
def flMs:List Mon->List Mon
 |[]=>[]
 |m::ms=>flM m::flMs ms
end
structure RootRw (bs:List UInt8) (m:Mon):Prop where
 len:4<=bs.length
 le:le4 bs 0<=bs.length
 rd:∃A,RwM m A bs (le4 bs 0)
end Go.Proofs
namespace Go.Proofs
open Go Go.Vc
open Tryz (prog)
structure RS (G0:Cut) (H0:Qe) (t:TypeId) (ob:Obj) (q2 q3:Nat) (G:Cut) (H:Qe) (cells:List Value):Prop where
 ext:Ext G0 H0 G H
 o2:Yj H0 G H q2 ob
 o3:Yj H0 G H q3 (.cells cells.toArray t (0,0))
 ne:q2≠q3
def badq (q2 q3:Nat):Nat->Prop:=fun b=>b=q2\/b=q3
section
variable {G0:Cut} {H0:Qe} {t:TypeId} {ob:Obj} {q2 q3:Nat} {G:Cut} {H:Qe} {cells:List Value} (rs:RS G0 H0 t ob q2 q3 G H cells)
include rs
theorem RS.bad_lt:∀b,badq q2 q3 b->b<H.size:=fun b hb=>by
 rcases hb with rfl|rfl
 ·exact Y3 rs.o2.get
 ·exact Y3 rs.o3.get
theorem RS.push (o:Obj):RS G0 H0 t ob q2 q3 G (H.push o) cells:=⟨rs.ext.push o,rs.o2.push o,rs.o3.push o,rs.ne⟩
theorem RS.next {G':Cut} {H':Qe} (h:Ext G H G' H'):RS G0 H0 t ob q2 q3 G' H' cells:=⟨rs.ext.trans h,rs.o2.ext h,rs.o3.ext h,rs.ne⟩
theorem RS.st (i:Nat) (v:Value):RS G0 H0 t ob q2 q3 G (setB H q3 (.cells (cells.set i v).toArray t (0,0))) (cells.set i v):=
 ⟨rs.ext.set rs.o3.out rs.o3.new _,rs.o2.set_ne rs.ne _,rs.o3.set _,rs.ne⟩
theorem RS.ld {i:Nat} {v:Value} (hi:cells[i]?=some v) {k:Value->Prop}:LdK H (.pointer (some ⟨q3,i,none⟩)) k=k v:=
 Ql ((Qj rs.o3.get).trans (by simpa using hi))
theorem RS.store {i:Nat} {v:Value} (hi:i<cells.length) (hv:v.oneCell'=true) {kp:Qe->Prop} (hk:∀H',RS G0 H0 t ob q2 q3 G H' (cells.set i v)->H'=setB H q3 (.cells (cells.set i v).toArray t (0,0))->kp H'):
  Qg (.pointer (some ⟨q3,0,none⟩)) i fun a=>StK H 1 a v kp:=by
 rw[Qm,Qas rs.o3.get (by simpa using hi) (by simp) hv]
 have e:cells.toArray.setIfInBounds i v=(cells.set i v).toArray:=by simp
 rw[e]
 exact hk _ (rs.st i v) rfl
theorem RS.tab {p B:Nat} {bs:List UInt8} {pos:Nat} (h:Tab H0 p B bs pos):Tab H p B bs pos:=h.ext rs.ext.keep.ext
theorem RS.push_item {fld es bts:Nat} {et:TypeId} {zs:Array Value} {cur:Value} {items:List (List Value)} (hc:Cur H0 G H et es cur items (badq q2 q3)) {v:Value} {it:List Value} (hv:v.cells.toList=it) (hl:it.length=es) (hone:∀x∈it,x.oneCell'=true)
  (hes:0<es) (hz:zs.size=es) (hb:0<bts) (hn:(items.length+1)*bts<=140737488355328) (hf:fld<cells.length) {k:Qe->Prop} (hk:∀H' c,RS G0 H0 t ob q2 q3 G H' (cells.set fld c)->Cur H0 G H' et es c (items++[it]) (badq q2 q3)->k H'):
  Q8 H et 1 (YV zs.toList 1) [(0,es,v)] fun y h2=>Qi H h2 (Qbs h2 et es bts zs cur y fun c h3=>Qg (.pointer (some ⟨q3,0,none⟩)) fld fun a=>StK h3 1 a c k):=by
 have hvs:v.cells.size=es:=by rw[<-hl,<-hv];simp
 have hfill:YJ (YV zs.toList 1) [(0,es,v)]=some it:=by
  show (if v.cells.size=es/\0+v.cells.size<=(YV zs.toList 1).length then _ else _)=_
  have hrl:(YV zs.toList 1).length=es:=by simp[YV,hz]
  rw[if_pos ⟨hvs,by rw[hrl];omega⟩]
  show some _=_
  rw[hv,hvs,Nat.zero_add,List.drop_eq_nil_of_le (by omega)];simp
 unfold Q8
 simp only[hfill]
 refine Qn (Qaf.push _ _).ext ?_
 have rs1:=rs.push (.cells it.toArray et (0,0))
 refine (hc.push _).app rs1.ext (y:=H.size) (yo:=0) (cells:=it.toArray) (ye:=et) (fr:=(0,0)) (it:=it) Qh (by simp[hl]) (by rw[List.drop_zero];simp[<-hl]) hone hes hb hn hz rs1.bad_lt ?_
 intro c H' he hcur hown
 have rs2:RS G0 H0 t ob q2 q3 G H' cells:=⟨he,hown _ _ (Or.inl rfl) rs1.o2,hown _ _ (Or.inr rfl) rs1.o3,rs.ne⟩
 refine rs2.store hf hcur.one ?_
 intro H2 rs3 hH2
 subst hH2
 exact hk _ _ rs3 (hcur.set (Or.inr rfl) _)
end
theorem foldl_bytes (xs:List UInt8):(xs.map fun b=>(b.toNat:Int)).foldl (fun r n=>r.push (UInt8.ofNat n.toNat)) ByteArray.empty=⟨xs.toArray⟩:=by
 have h:∀(xs:List UInt8) (a:List UInt8),(xs.map fun b=>(b.toNat:Int)).foldl (fun r n=>r.push (UInt8.ofNat n.toNat)) (ByteArray.mk a.toArray)=⟨(a++xs).toArray⟩:=by
  intro xs
  induction xs with
  |nil=>intro a;simp
  |cons x xs ih=>
   intro a
   rw[List.map_cons,List.foldl_cons]
   have e:(ByteArray.mk a.toArray).push (UInt8.ofNat ((x.toNat:Int)).toNat)=ByteArray.mk (a++[x]).toArray:=by
    show ByteArray.mk (a.toArray.push _)=_
    congr 1
    simp
   rw[e,ih]
   simp
 exact h xs []
theorem map_u8V (xs:List UInt8):xs.map u8V=(xs.map fun b=>(b.toNat:Int)).map (Value.int .u8):=by rw[List.map_map];rfl
theorem Qhn {H:Qe} {a:Addr} {n c:Nat} {xs:List UInt8} {k:Value->Prop} (h:Zf H a 0 n=some (xs.map u8V)) (hk:k (Yf xs)):QiN H (.slice (some a) n c) k:=by
 refine ⟨xs.map fun b=>(b.toNat:Int),by rw[h,map_u8V],?_⟩
 rw[foldl_bytes];exact hk
theorem QiA {H:Qe} {B:Nat} {bs:List UInt8} (h:U8s H B 0 bs) {o:Nat}:∀{n i:Nat},o+i+n<=bs.length->Zf H ⟨B,o,none⟩ i n=some (((bs.drop (o+i)).take n).map u8V)
 |0,i,_=>by simp[Zf]
 |n+1,i,hl=>by
  have h1:=h (o+i) (by omega)
  rw[Nat.zero_add]at h1
  rw[Zf,QeC,h1]
  simp only
  rw[QiA h (n:=n) (i:=i+1) (by omega)]
  simp only
  have e:bs.drop (o+i)=(bs[o+i]'(by omega))::bs.drop (o+(i+1)):=by rw[<-Nat.add_assoc];exact List.drop_eq_getElem_cons (by omega)
  rw[e,List.take_succ_cons,List.map_cons]
  congr 2
  unfold byteN u8V
  simp[List.getD,List.getElem?_eq_getElem (show o+i<bs.length by omega)]
theorem Tab.str {H:Qe} {p B:Nat} {bs:List UInt8} {pos:Nat} (ht:Tab H p B bs pos) {o n c:Nat} {xs:List UInt8} (hx:Qx bs o xs) (hn:xs.length=n) {k:Value->Prop} (hk:k (Yf xs)):QiN H (bsl B o n c) k:=by
 subst hn
 refine Qhn (xs:=xs) ?_ hk
 rw[QiA ht.u8 (by have:=hx.1;omega),Nat.add_zero,hx.2]
theorem strV_add (xs ys:List UInt8):(ByteArray.mk xs.toArray)++(ByteArray.mk ys.toArray)=ByteArray.mk (xs++ys).toArray:=by
 apply ByteArray.ext
 rw[ByteArray.data_append]
 simp
theorem RS.push_byte {G0:Cut} {H0:Qe} {t:TypeId} {ob:Obj} {q2 q3:Nat} {G:Cut} {H:Qe} {cells:List Value} (rs:RS G0 H0 t ob q2 q3 G H cells) {P:Program} {fld:Nat} {et st:TypeId} {zs:Array Value} {xs:List UInt8} {b:UInt8} (hz:zs.size=1) (hl:xs.length+1<=9223372036854775807) (hf:fld<cells.length)
  {k:Qe->Prop} (hk:∀H',RS G0 H0 t ob q2 q3 G H' (cells.set fld (Yf (xs++[b])))->k H'):
  Q8 H et 1 (YV zs.toList 1) [(0,1,u8V b)] fun y h2=>Qi H h2 (QiN h2 y fun s=>Qk P .add st (Yf xs) s fun c=>Qg (.pointer (some ⟨q3,0,none⟩)) fld fun a=>StK h2 1 a c k):=by
 have hfill:YJ (YV zs.toList 1) [(0,1,u8V b)]=some [u8V b]:=by
  have hrl:(YV zs.toList 1).length=1:=by simp[YV,hz]
  show (if (1:Nat)=1/\0+1<=(YV zs.toList 1).length then _ else _)=_
  rw[if_pos ⟨rfl,by omega⟩]
  show some (List.take 0 (YV zs.toList 1)++[u8V b]++List.drop (0+1) (YV zs.toList 1))=_
  rw[List.drop_eq_nil_of_le (by omega)];rfl
 unfold Q8
 simp only[hfill]
 refine Qn (Qaf.push _ _).ext ?_
 have rs1:=rs.push (.cells [u8V b].toArray et (0,0))
 refine Qhn (xs:=[b]) ?_ ?_
 ·rw[Q4 (Qh) 1 (by simp)];rfl
 ·rw[BinK_stradd (by rw[Qau,Qau];exact hl),strV_add]
  exact rs1.store hf rfl (fun H' h _=>hk H' h)
theorem Qej.n_le {k:Nat} {bs:List UInt8} {pos vt vo n at_:Nat} (h:Qej k bs pos vt vo n at_) (hk:1<=k):n<=bs.length:=by
 rcases h with ⟨_,h⟩|⟨_,_,_,_,h,_⟩
 ·omega
 ·have:1*n<=k*n:=Nat.mul_le_mul_right _ hk
  omega
end Go.Proofs
