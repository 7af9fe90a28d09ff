/- WHAT IS PROVED: the given statement of FnMonsterAgain, whatever the input: this is part 6 of 13. No conditions. -/
import Derived.Test.YtjfnlghdpijgeaaGreatX05
set_option linter.all false
namespace Go.Proofs
open Go Go.Vc
open Tryz (prog)
def VecBlock (q fld start endv f:Nat) (tsl:TypeId) (args:Value->Array Value) (x1:Value) (h4:Qe) (rest:Kn):Prop:=
 QG (fun M2=>
  Q5 (.pointer (some ⟨q,0,none⟩)) fun x97=>Qh x97 fld fun x98=>LdK h4 x98 fun x99=>
  Qr prog .neq tsl x99 (.slice none 0 0) fun x100=>
  IfK x100
  (Q5 (.pointer (some ⟨q,0,none⟩)) fun x102=>Qh x102 fld fun x103=>LdK h4 x103 fun x104=>
   YQ x104 fun x105=>
   Qb prog start #[x1,x105] h4 fun _x108 h5=>
   QG (fun M3=>
    Qr prog .sub 3 x105 (.int .i64 1) fun x110=>
    YH [x110] h5 fun I4 n5=>∀x10:Value,∀h6:Qe,I4 n5 [x10] h6->
    Qr prog .geq 3 x10 (.int .i64 0) fun x112=>
    IfK x112
    (Q5 (.pointer (some ⟨q,0,none⟩)) fun x116=>Qh x116 fld fun x117=>LdK h6 x117 fun x118=>
     Y7 1 x118 x10 fun x120=>LdK h6 x120 fun x121=>
     Qb prog f (args x121) h6 fun _x123 h7=>
     Qr prog .sub 3 x10 (.int .i64 1) fun x114=>
     QZ I4 n5 [x114] h7)
    (M3 [x10] h6)) fun M3=>∀x10_1:Value,∀h8:Qe,M3 [x10_1] h8->
   Qb prog endv #[x1,x105] h8 fun x126 h9=>M2 [x126] h9)
  (M2 [(.int .u32 0)] h4)) fun M2=>∀x8:Value,∀h10:Qe,M2 [x8] h10->rest x8 h10
theorem flatten_drop {items:List (List UInt8)} {i:Nat} (hi:i<items.length):(items.drop i).flatten=items[i]++(items.drop (i+1)).flatten:=by
 rw[List.drop_eq_getElem_cons hi,List.flatten_cons]
set_option maxHeartbeats 1000000 in
theorem Qdn {H:Qe} {p:Nat} {S:BS} {F:Cut} {r:Nat} (hB:Qc H p S F r) {q fld start f:Nat} {tsl e0:TypeId} {args:Value->Array Value} {v0:Value} {cells:Array Value} {vs:List Value} {es al k:Nat}
  {items:List (List UInt8)} {rest:Kn} (ht:(prog).underlying tsl=some (.slice e0)) (hq:YR F (.pointer (some ⟨q,0,none⟩)) cells) (hf:cells[fld]?=some v0) (hv:QaK F v0 vs) (hvi:vs.length=items.length)
  (hi:∀x∈items,x.length=es) (hI:Inv S) (hal:al=2^k) (hk:k<=3) (hn:items.length<536870912) (hl:S.buf.length+es*items.length+80<=536870912)
  (hstart:∀H,Qc H p S F 0->∀R:Kn,(∀H' v,Qc H' p (QF es items.length al S) F (es*items.length+5)->R v H')->FnS prog start #[.pointer (some ⟨p,0,none⟩),.int .i64 (items.length:Nat)] H R)
  (hstep:∀(i:Nat) (hi1:i<vs.length) (hi2:i<items.length) (S':BS) (H':Qe) (r':Nat),Qc H' p S' F r'->es<=r'->(S'.buf.length+es*(i+1))%al=0->4<=S'.min->al<=S'.min->S'.buf.length+64<=536870912->
   ∀R:Kn,(∀H'' w,Qc H'' p (place (items[i]'hi2) S') F (r'-es)->R w H'')->FnS prog f (args (vs[i]'hi1)) H' R)
  (hrest:∀H',Qc H' p (Qhc es al items S).1 F 0->rest (.int .u32 ((Qhc es al items S).2:Nat)) H'):
  VecBlock q fld start 90 f tsl args (.pointer (some ⟨p,0,none⟩)) H rest:=by
 have hfl:=QaG items hi
 have hemp:(vs=[])↔(items=[]):=by
  rw[<-List.length_eq_zero_iff,<-List.length_eq_zero_iff,hvi]
 unfold VecBlock
 refine Q8 (fun ws h=>ws=[.int .u32 ((Qhc es al items S).2:Nat)]/\Qc h p (Qhc es al items S).1 F 0) ?_ ?_
 ·refine hq.ld hB.cut (i:=fld) v0 hf ?_
  rw[hv.neq ht]
  by_cases h0:items=[]
  ·have hvn:¬vs≠[]:=fun h=>h (hemp.2 h0)
   rw[QK hvn]
   unfold Qhc
   rw[if_pos h0]
   exact ⟨rfl,hB.room (Nat.zero_le _)⟩
  ·have hvn:vs≠[]:=fun h=>h0 (hemp.1 h)
   rw[QY hvn]
   refine hq.ld hB.cut (i:=fld) v0 hf ?_
   rw[hv.1.len,hvi]
   refine hstart H (hB.room (Nat.zero_le _)) _ ?_
   intro H1 w h1
   have hm:=QgB es items.length al S
   have ha:=QeR (es:=es) (n:=items.length) S hal
   obtain ⟨x,hx,hxl⟩:=Qdx es items.length al S (by rw[hal];exact Nat.two_pow_pos k)
   have hal8:al<=8:=by rw[hal];exact Nat.pow_le_pow_right (by decide) hk
   have hS1l:(QF es items.length al S).buf.length<=S.buf.length+11:=by rw[hx,List.length_append];omega
   have hS1n:(QF es items.length al S).nested=true:=rfl
   have hopt:Qhc es al items S=(QiT items.length (place items.flatten (QF es items.length al S)),(QiT items.length (place items.flatten (QF es items.length al S))).buf.length):=by
    unfold Qhc vecS;rw[if_neg h0]
   rw[hopt]
   generalize QF es items.length al S=S1 at *
   refine Q8 (fun _ h=>Qc h p (place items.flatten S1) F 5) ?_ ?_
   ·rw[Yh,wrap_i64 (by omega) (by omega)]
    refine ⟨fun m ws h=>∃i:Nat,ws=[.int .i64 ((i:Int)-1)]/\i<=items.length/\m=i/\Qc h p (place (items.drop i).flatten S1) F (es*i+5),⟨_,items.length,rfl,Nat.le_refl _,rfl,?_⟩,fun m=>?_⟩
    ·rw[List.drop_length];exact h1
    ·rintro x10 h6 ⟨i,hx,hi',rfl,hb⟩
     cases hx
     rw[QgW]
     apply ZV
     ·intro hge
      have hm1:m-1<items.length:=by omega
      have hm2:m-1+1=m:=by omega
      refine hq.ld hb.cut (i:=fld) v0 hf ?_
      refine hv.1.item hb.cut (i:=m-1) (by omega) (by omega) ?_
      have hdl:(items.drop m).flatten.length=es*(items.length-m):=by
       rw[QaG (items.drop m) (fun y hy=>hi y (List.mem_of_mem_drop hy)),List.length_drop]
      have hsum:es*(items.length-m)+es*m=es*items.length:=by rw[<-Nat.mul_add,show items.length-m+m=items.length by omega]
      have hmul:es*m=es*(m-1)+es:=by
       obtain ⟨m',rfl⟩:∃m',m=m'+1:=⟨m-1,by omega⟩
       simp[Nat.mul_add]
      refine hstep (m-1) (by omega) hm1 _ h6 _ hb (by omega) ?_ ?_ ?_ ?_ _ ?_
      ·rw[Y2,hdl,hm2,show es*(items.length-m)+S1.buf.length+es*m=S1.buf.length+es*items.length by omega]
       exact ha
      ·exact hm.1
      ·exact hm.2
      ·rw[Y2,hdl]
       have:es*(items.length-m)<=es*items.length:=by omega
       omega
      ·intro h7 w7 hb7
       rw[Yh,wrap_i64 (by omega) (by omega)]
       refine ⟨m-1,by omega,m-1,by rw[show ((m:Int)-1-1)=(((m-1:Nat):Int)-1) by omega],by omega,rfl,?_⟩
       rw[Zh]at hb7
       rw[flatten_drop hm1,hm2]
       exact hb7.room (by omega)
     ·intro hge
      have hm0:m=0:=by omega
      subst hm0
      exact hb
   ·intro x10 h8 hb8
    refine Qat hb8 hS1n (by decide) (by omega) ?_
    intro h9 hb9
    exact ⟨rfl,hb9.room (by decide)⟩
 ·rintro x8 h10 ⟨hx,hb⟩
  cases hx
  exact hrest h10 hb
end Go.Proofs
namespace Go.Proofs
open Go Go.Vc
open Tryz (prog)
theorem Cut.upd_upd {F:Cut} {b:Nat} {o o':Obj}:(F.upd b o).upd b o'=F.upd b o':=by
 funext b'
 by_cases h:b'=b
 ·subst h;rw[Cut.upd_same,Cut.upd_same]
 ·rw[Cut.upd_ne h,Cut.upd_ne h,Cut.upd_ne h]
theorem MT.mono {F G:Cut} (hFG:F.le G) {v:Value} {m:Mon} (h:MT F v m):MT G v m:=by
 have lm:∀{α:Type} {v:Value} {l:List α} {cells:α->Array Value},Qez F v l cells->Qez G v l cells:=by
  rintro α v l cells ⟨ptrs,h1,h2,h3⟩
  exact ⟨ptrs,h1.mono hFG,h2,fun i p t hp ht=>(h3 i p t hp ht).mono hFG⟩
 have um:∀{amb:Bool} {ty color:UInt8} {v c:Value} {kids:List Mon},Qd1 F amb ty color v c kids->Qd1 G amb ty color v c kids:=by
  rintro amb ty color v c kids (h|⟨h1,w,h2,h3⟩)
  ·exact Or.inl h
  ·refine Or.inr ⟨h1,w,h2.mono hFG,?_⟩
   rcases h3 with ⟨a,b,c',d,e⟩|h3
   ·exact Or.inl ⟨a,b,c',d.mono hFG,e⟩
   ·exact Or.inr h3
 induction h with
 |mk v d c ptrs tables enemy test uniq amb obj own tl tlen tt te tu tq ta it ie iu iq ia=>
  refine MT.mk v d c ptrs tables enemy test uniq amb (obj.mono hFG) ?_ (tl.mono hFG) tlen it ie iu iq ia
  refine ⟨?_,own.inv.mono hFG,um own.test,lm own.test4,own.strings.mono hFG,own.enemy,own.nested.mono hFG,?_,own.bools.mono hFG,own.strings2.mono hFG,lm own.abil,own.flex.mono hFG,lm own.test5,own.longs.mono hFG,own.doubles.mono hFG,
   own.parent,lm own.refs,own.weak.mono hFG,lm own.strong,own.coOwnings.mono hFG,own.nonOwnings.mono hFG,um own.uniq,um own.amb,own.enums.mono hFG⟩
  ·have:=own.pos
   cases hp:d.pos with
   |none=>rw[hp]at this;exact this
   |some x=>
    rw[hp]at this
    obtain ⟨w,h1,h2⟩:=this
    exact ⟨w,h1.mono hFG,h2.mono hFG⟩
  ·have:=own.empty
   cases hp:d.empty with
   |none=>rw[hp]at this;exact this
   |some x=>rw[hp]at this;exact YR.mono hFG this
def BytesBlock (q fld:Nat) (tsl:TypeId) (x1:Value) (h1:Qe) (rest:Kn):Prop:=
 QG (fun M1=>
  Q5 (.pointer (some ⟨q,0,none⟩)) fun x80=>Qh x80 fld fun x81=>LdK h1 x81 fun x82=>
  Qr prog .neq tsl x82 (.slice none 0 0) fun x83=>
  IfK x83
  (Q5 (.pointer (some ⟨q,0,none⟩)) fun x86=>Qh x86 fld fun x87=>LdK h1 x87 fun x88=>
   Qb prog 86 #[x1,x88] h1 fun x89 h2=>M1 [x89] h2)
  (M1 [(.int .u32 0)] h1)) fun M1=>∀x6:Value,∀h3:Qe,M1 [x6] h3->rest x6 h3
theorem QiL {H:Qe} {p:Nat} {S:BS} {F:Cut} {r:Nat} (hB:Qc H p S F r) {q fld:Nat} {tsl e0:TypeId} {v0:Value} {cells:Array Value} {xs:List UInt8} {rest:Kn}
  (ht:(prog).underlying tsl=some (.slice e0)) (hq:YR F (.pointer (some ⟨q,0,none⟩)) cells) (hf:cells[fld]?=some v0) (hv:QaK F v0 (xs.map u8V)) (hI:Inv S) (hl:S.buf.length+xs.length+80<=536870912)
  (hrest:∀H',Qc H' p (optB xs S).1 F 0->rest (.int .u32 ((optB xs S).2:Nat)) H'):
  BytesBlock q fld tsl (.pointer (some ⟨p,0,none⟩)) H rest:=by
 unfold BytesBlock
 refine Q8 (fun ws h=>ws=[.int .u32 ((optB xs S).2:Nat)]/\Qc h p (optB xs S).1 F 0) ?_ ?_
 ·refine hq.ld hB.cut (i:=fld) v0 hf ?_
  rw[hv.neq ht]
  by_cases h0:xs=[]
  ·have hvn:¬xs.map u8V≠[]:=by rw[h0];simp
   rw[QK hvn]
   unfold optB
   rw[if_pos h0]
   exact ⟨rfl,hB.room (Nat.zero_le _)⟩
  ·have hvn:xs.map u8V≠[]:=by simpa using h0
   rw[QY hvn]
   refine hq.ld hB.cut (i:=fld) v0 hf ?_
   obtain ⟨a,c,rfl,hb⟩:=hv.1.bytes
   refine Qe1 hB (fun H' hF=>hb H' hF) hI.nested (by omega) ?_
   intro H1 h1
   unfold optB
   rw[if_neg h0]
   exact ⟨rfl,h1⟩
 ·rintro x8 h10 ⟨hx,hb⟩
  cases hx
  exact hrest h10 hb
def OffBlock (q fld start f:Nat) (tsl:TypeId) (args:Value->Array Value) (x1:Value) (h10:Qe) (rest:Kn):Prop:=
 QG (fun M6=>
  Q5 (.pointer (some ⟨q,0,none⟩)) fun x128=>Qh x128 fld fun x129=>LdK h10 x129 fun x130=>
  Qr prog .neq tsl x130 (.slice none 0 0) fun x131=>
  IfK x131
  (Q5 (.pointer (some ⟨q,0,none⟩)) fun x133=>Qh x133 fld fun x134=>LdK h10 x134 fun x135=>
   YQ x135 fun x136=>
   Qf4 h10 65 4 z65 x136 x136 fun x138 h11=>
   QG (fun M7=>
    YH [(.int .i64 0)] h11 fun I8 n9=>∀x14:Value,∀h12:Qe,I8 n9 [x14] h12->
    Qr prog .lss 3 x14 x136 fun x141=>
    IfK x141
    (Q5 (.pointer (some ⟨q,0,none⟩)) fun x148=>Qh x148 fld fun x149=>LdK h12 x149 fun x150=>
     Y7 1 x150 x14 fun x152=>LdK h12 x152 fun x153=>
     Qb prog f (args x153) h12 fun x154 h13=>
     Y7 1 x138 x14 fun x155=>StK h13 1 x155 x154 fun h14=>
     Qr prog .add 3 x14 (.int .i64 1) fun x143=>
     QZ I8 n9 [x143] h14)
    (M7 [x14] h12)) fun M7=>∀x14_1:Value,∀h15:Qe,M7 [x14_1] h15->
   Qb prog start #[x1,x136] h15 fun _x158 h16=>
   QG (fun M10=>
    Qr prog .sub 3 x136 (.int .i64 1) fun x160=>
    YH [x160] h16 fun I11 n12=>∀x15:Value,∀h17:Qe,I11 n12 [x15] h17->
    Qr prog .geq 3 x15 (.int .i64 0) fun x162=>
    IfK x162
    (Y7 1 x138 x15 fun x168=>LdK h17 x168 fun x169=>
     Qb prog 73 #[x1,x169] h17 fun _x170 h18=>
     Qr prog .sub 3 x15 (.int .i64 1) fun x164=>
     QZ I11 n12 [x164] h18)
    (M10 [x15] h17)) fun M10=>∀x15_1:Value,∀h19:Qe,M10 [x15_1] h19->
   Qb prog 90 #[x1,x136] h19 fun x173 h20=>M6 [x173] h20)
  (M6 [(.int .u32 0)] h10)) fun M6=>∀x11:Value,∀h21:Qe,M6 [x11] h21->rest x11 h21
theorem offItems_drop (L:Nat):∀(os:List Nat) (i:Nat),(Zr L os).drop i=Zr L (os.drop i)
 |os,0=>rfl
 |[],i+1=>by simp[Zr]
 |o::os,i+1=>by rw[Zr,List.drop_succ_cons,List.drop_succ_cons,offItems_drop L os i]
set_option maxHeartbeats 2000000 in
theorem QhW {α:Type} {H:Qe} {p:Nat} {S:BS} {F:Cut} {r:Nat} (hB:Qc H p S F r) {q fld start f:Nat} {tsl e0:TypeId} {args:Value->Array Value} {v0:Value} {cells:Array Value} {vs:List Value} {xs:List α}
  {pk:α->BS->BS×Nat} {c:α->Nat} {sl:Nat} {rest:Kn} (ht:(prog).underlying tsl=some (.slice e0)) (hq:YR F (.pointer (some ⟨q,0,none⟩)) cells) (hf:cells[fld]?=some v0) (hv:QaK F v0 vs) (hvi:vs.length=xs.length)
  (hI:Inv S) (hn:xs.length<536870912) (hc:∀x∈xs,∀S,Inv S->Yt S (c x) (pk x S)) (hl:S.buf.length+(xs.map c).sum+4*xs.length+80+sl<=536870912)
  (hstart:∀H S F,Qc H p S F 0->Inv S->S.buf.length+4*xs.length+80<=536870912->∀R:Kn,(∀H' v,Qc H' p (QF 4 xs.length 4 S) F (4*xs.length+5)->R v H')->FnS prog start #[.pointer (some ⟨p,0,none⟩),.int .i64 (xs.length:Nat)] H R)
  (hstep:∀(i:Nat) (hi1:i<vs.length) (hi2:i<xs.length) (S':BS) (H':Qe) (F':Cut),F.le F'->Qc H' p S' F' 0->Inv S'->S'.buf.length+c (xs[i]'hi2)+sl<=536870912->
   ∀R:Kn,(∀H'',Qc H'' p (pk (xs[i]'hi2) S').1 F' 0->R (.int .u32 ((pk (xs[i]'hi2) S').2:Nat)) H'')->FnS prog f (args (vs[i]'hi1)) H' R)
  (hrest:∀H',Qc H' p (QiN (Q1 pk xs) S).1 F 0->rest (.int .u32 ((QiN (Q1 pk xs) S).2:Nat)) H'):
  OffBlock q fld start f tsl args (.pointer (some ⟨p,0,none⟩)) H rest:=by
 have hfl:=Qaf pk xs S
 have hemp:(vs=[])↔(xs=[]):=by
  rw[<-List.length_eq_zero_iff,<-List.length_eq_zero_iff,hvi]
 have hemp2:((Q1 pk xs S).2=[])↔(xs=[]):=by
  rw[<-List.length_eq_zero_iff,<-List.length_eq_zero_iff,hfl]
 unfold OffBlock
 refine Q8 (fun ws h=>ws=[.int .u32 ((QiN (Q1 pk xs) S).2:Nat)]/\Qc h p (QiN (Q1 pk xs) S).1 F 0) ?_ ?_
 ·refine hq.ld hB.cut (i:=fld) v0 hf ?_
  rw[hv.neq ht]
  by_cases h0:xs=[]
  ·have hvn:¬vs≠[]:=fun h=>h (hemp.2 h0)
   rw[QK hvn]
   unfold QiN
   rw[if_pos (hemp2.2 h0)]
   exact ⟨rfl,hB.room (Nat.zero_le _)⟩
  ·have hvn:vs≠[]:=fun h=>h0 (hemp.1 h)
   rw[QY hvn]
   refine hq.ld hB.cut (i:=fld) v0 hf ?_
   rw[hv.1.len,hvi]
   refine ⟨by omega,by omega,by omega,by omega,?_⟩
   simp only[Int.toNat_natCast]
   rw[mk_u32 (z:=z65) rfl]
   have hB1:=(hB.room (Nat.zero_le _)).push (.cells (Qgf (List.replicate xs.length 0)) 65)
   have hFn:=hB.none
   generalize H.size=b at *
   have hle:∀o,F.le (F.upd b o):=fun o=>Cut.le_upd hFn
   obtain ⟨hI2,hI3,hI4,hI5⟩:=Qc7 (c:=c) xs hc S hI
   refine Q8 (fun _ h=>Qc h p (Q1 pk xs S).1 (F.upd b (.cells (Qgf (Q1 pk xs S).2) 65)) 0) ?_ ?_
   ·refine ⟨fun m ws h=>∃i:Nat,ws=[.int .i64 (i:Int)]/\i<=xs.length/\m=xs.length-i/\
     Qc h p (Q1 pk (xs.take i) S).1 (F.upd b (.cells (Qgf ((Q1 pk (xs.take i) S).2++List.replicate (xs.length-i) 0)) 65)) 0,⟨_,0,rfl,Nat.zero_le _,rfl,?_⟩,fun m=>?_⟩
    ·exact hB1
    ·rintro x14 h12 ⟨i,hx,hi,rfl,hb⟩
     cases hx
     rw[Yw]
     apply ZV
     ·intro hlt
      have hi2:i<xs.length:=by omega
      have htake:xs.take (i+1)=xs.take i++[xs[i]]:=by
       rw[List.take_add_one,List.getElem?_eq_getElem hi2]
       simp
      obtain ⟨g1,g2,g3,g4⟩:=Qc7 (c:=c) (xs.take i) (fun x hx=>hc x (List.mem_of_mem_take hx)) S hI
      have hlen2:=Qaf pk (xs.take i) S
      rw[List.length_take,Nat.min_eq_left (by omega)]at hlen2
      have hsum:((xs.take i).map c).sum+c xs[i]<=(xs.map c).sum:=by
       have e1:((xs.take (i+1)).map c).sum=((xs.take i).map c).sum+c xs[i]:=by rw[htake,List.map_append,List.sum_append,List.map_cons,List.map_nil,List.sum_cons,List.sum_nil,Nat.add_zero]
       have e2:(xs.map c).sum=((xs.take (i+1)).map c).sum+((xs.drop (i+1)).map c).sum:=by
        rw[<-List.sum_append,<-List.map_append,List.take_append_drop]
       omega
      refine (hq.mono (hle _)).ld hb.cut (i:=fld) v0 hf ?_
      refine (hv.1.mono (hle _)).item hb.cut (i:=i) rfl (by omega) ?_
      refine hstep i (by omega) hi2 _ h12 _ (hle _) hb g1 (by omega) _ ?_
      intro h13 hb2
      rw[QO (by omega) (by omega),Int.toNat_natCast,Nat.mul_one,Nat.zero_add]
      have hcell:=hb2.get (b:=b) Cut.upd_same
      rw[Qbe hcell (by rw[QhI];simp[hlen2];omega) (by simp) rfl,u32c_set,QE,wrap_i64 (by omega) (by omega)]
      refine ⟨xs.length-(i+1),by omega,i+1,rfl,by omega,rfl,?_⟩
      have hb3:=hb2.set (b:=b) Cut.upd_same (.cells (Qgf (((Q1 pk (xs.take i) S).2++List.replicate (xs.length-i) 0).set i (pk xs[i] (Q1 pk (xs.take i) S).1).2)) 65 (0,0))
      rw[Cut.upd_upd]at hb3
      rw[htake,QhY]
      have e3:((Q1 pk (xs.take i) S).2++List.replicate (xs.length-i) 0).set i (pk xs[i] (Q1 pk (xs.take i) S).1).2=
        (Q1 pk (xs.take i) S).2++[(pk xs[i] (Q1 pk (xs.take i) S).1).2]++List.replicate (xs.length-(i+1)) 0:=by
       rw[List.set_append_right _ _ (by omega),hlen2,Nat.sub_self]
       obtain ⟨k,hk⟩:∃k,xs.length-i=k+1:=⟨xs.length-i-1,by omega⟩
       rw[hk,List.replicate_succ,List.set_cons_zero,show xs.length-(i+1)=k by omega]
       simp
      rw[e3]at hb3⊢
      exact hb3
     ·intro hge
      have:i=xs.length:=by omega
      subst this
      rw[List.take_length,Nat.sub_self,List.replicate_zero,List.append_nil]at hb
      exact hb
   ·intro x14 h15 hb
    have hopt:QiN (Q1 pk xs) S=(Qfg (Q1 pk xs S).2 (Q1 pk xs S).1,(Qfg (Q1 pk xs S).2 (Q1 pk xs S).1).buf.length):=by
     unfold QiN;rw[if_neg (fun h=>h0 (hemp2.1 h))]
    rw[hopt]
    generalize (Q1 pk xs S).2=offs at *
    generalize (Q1 pk xs S).1=S2 at *
    refine hstart h15 S2 _ hb hI2 (by omega) _ ?_
    intro h16 w hb16
    have hm:=QgB 4 xs.length 4 S2
    have ha:=QeR (es:=4) (n:=xs.length) S2 (al:=4) (k:=2) rfl
    obtain ⟨x,hx,hxl⟩:=Qdx 4 xs.length 4 S2 (by decide)
    have hS1l:(QF 4 xs.length 4 S2).buf.length<=S2.buf.length+7:=by rw[hx,List.length_append];omega
    have hS1g:S2.buf.length<=(QF 4 xs.length 4 S2).buf.length:=by rw[hx,List.length_append];omega
    have hS1n:(QF 4 xs.length 4 S2).nested=true:=rfl
    have hofs:Qfg offs S2=QiT xs.length (place (Zr (QF 4 xs.length 4 S2).buf.length offs).flatten (QF 4 xs.length 4 S2)):=by
     unfold Qfg vecS;rw[Qdz,hfl]
    rw[hofs]
    generalize QF 4 xs.length 4 S2=S1 at *
    refine Q8 (fun _ h=>Qc h p (place (Zr S1.buf.length offs).flatten S1) (F.upd b (.cells (Qgf offs) 65)) 5) ?_ ?_
    ·rw[Yh,wrap_i64 (by omega) (by omega)]
     refine ⟨fun m ws h=>∃i:Nat,ws=[.int .i64 ((i:Int)-1)]/\i<=xs.length/\m=i/\Qc h p (place (Zr S1.buf.length (offs.drop i)).flatten S1) (F.upd b (.cells (Qgf offs) 65)) (4*i+5),⟨_,xs.length,rfl,Nat.le_refl _,rfl,?_⟩,fun m=>?_⟩
     ·rw[<-hfl,List.drop_length]
      rw[<-hfl]at hb16
      exact hb16
     ·rintro x15 h17 ⟨i,hx,hi',rfl,hb⟩
      cases hx
      rw[QgW]
      apply ZV
      ·intro hge
       have hm1:m-1<offs.length:=by omega
       have hm2:m-1+1=m:=by omega
       rw[QO (by omega) (by omega)]
       have hto:((m:Int)-1).toNat=m-1:=by omega
       have hcell:=hb.get (b:=b) Cut.upd_same
       rw[hto,Nat.mul_one,Nat.zero_add,Ql ((Qj hcell).trans (u32c_get hm1))]
       have hdl:(Zr S1.buf.length (offs.drop m)).flatten.length=4*(offs.length-m):=by
        rw[QaG _ (QcT _ _),Qdz,List.length_drop]
       have hget:offs.getD (m-1) 0=offs[m-1]:=by simp[List.getD,hm1]
       have hoff:offs[m-1]<=S2.buf.length:=hI5 _ (List.getElem_mem hm1)
       have hdrop:offs.drop (m-1)=offs[m-1]::offs.drop m:=by rw[List.drop_eq_getElem_cons hm1,hm2]
       rw[hget]
       refine al_UOffsetT hb ?_ (by rw[QaT];exact hm.1) (by rw[Y2];omega) (by rw[Y2,hdl];omega) ?_
       ·rw[Y2,hdl]
        have e4:(4*(offs.length-m)+S1.buf.length)+4*m=S1.buf.length+4*xs.length:=by omega
        omega
       ·intro h18 hb18
        rw[Yh,wrap_i64 (by omega) (by omega)]
        refine ⟨m-1,by omega,m-1,by rw[show ((m:Int)-1-1)=(((m-1:Nat):Int)-1) by omega],by omega,rfl,?_⟩
        rw[Zh,Y2,hdl]at hb18
        rw[hdrop,Zr,List.flatten_cons,List.length_drop,show S1.buf.length+4*(offs.length-m)=4*(offs.length-m)+S1.buf.length by omega]
        exact hb18.room (by omega)
      ·intro hge
       have hm0:m=0:=by omega
       subst hm0
       exact hb
    ·intro x15 h19 hb19
     refine Qat hb19 hS1n (by decide) (by omega) ?_
     intro h20 hb20
     exact ⟨rfl,(hb20.room (by decide)).weaken (hle _)⟩
 ·rintro x8 h21 ⟨hx,hb⟩
  cases hx
  exact hrest h21 hb
end Go.Proofs
namespace Go.Proofs
open Go Go.Vc
open Tryz (prog)
theorem Qdb {t:TypeId} {ok:Bool} {z v:Value} {k:Value->Prop}:Qjb t ok z (.iface t v) k=k (if ok then .tuple #[v,.bool true] else v):=by
 show (if t=t then _ else _)=_
 rw[if_pos rfl]
def KidOk (p:Nat) (S:BS) (F:Cut) (H:Qe) (c:Value) (kids:List Mon):Prop:=
 ∀k,kids=[k]->∀R:Kn,(∀H',Qc H' p (Qa8 k S).1 F 0->R (.int .u32 ((Qa8 k S).2:Nat)) H')->FnS prog 21 #[c,.pointer (some ⟨p,0,none⟩)] H R
theorem AnyT_Pack {H:Qe} {p:Nat} {S:BS} {F:Cut} {r:Nat} (hB:Qc H p S F r) {R:Kn} {ty color:UInt8} {v c:Value} {kids:List Mon} (hv:Qd1 F false ty color v c kids) (hkid:KidOk p S F H c kids) (hI:Inv S) (hl:S.buf.length+5000<=536870912)
  (hR:∀H',Qc H' p (QbI false ty color (Zf kids) S).1 F 0->R (.int .u32 ((QbI false ty color (Zf kids) S).2:Nat)) H'):
  FnS prog 87 #[v,.pointer (some ⟨p,0,none⟩)] H R:=by
 apply w87
 unfold tp87
 rcases hv with ⟨rfl,rfl,rfl⟩|⟨h0,w,hv',hu⟩
 ·rw[Ys (by kernel_rfl)]
  exact hR H (hB.room (Nat.zero_le _))
 ·obtain ⟨q,e,rfl,hq⟩:=hv'
  have hv':YR F (.pointer (some ⟨q,0,none⟩)) #[u8n ty,w]:=⟨q,e,rfl,hq⟩
  rw[Ys (by kernel_rfl)]
  show IfK (.bool false) _ _
  rw[Qao]
  rcases hu with ⟨_,rfl,rfl,hc,rfl⟩|⟨hty,rfl,k,rfl⟩
  ·refine hv'.ld hB.cut (i:=0) (u8n 2) rfl ?_
   rw[Yp,QK (by decide),Yp,QY (by decide)]
   refine hv'.ld hB.cut (i:=1) (.iface 261 c) rfl ?_
   rw[Qdb]
   refine QiW hB hI hc hl ?_
   intro H' h'
   exact hR H' h'
  ·have h1:ty=1:=by
    rcases hty with h|⟨h,_⟩
    ·exact h
    ·cases h
   subst h1
   refine hv'.ld hB.cut (i:=0) (u8n 1) rfl ?_
   rw[Yp,QY (by decide)]
   refine hv'.ld hB.cut (i:=1) (.iface 66 c) rfl ?_
   rw[Qdb]
   refine hkid k rfl _ ?_
   intro H' h'
   have e:QbI false 1 color (Zf [k]) S=Qa8 k S:=by
    unfold QbI
    rw[if_neg (by decide),if_neg (by decide),Zf]
   rw[e]at hR
   exact hR H' h'
theorem Qgi {H:Qe} {p:Nat} {S:BS} {F:Cut} {r:Nat} (hB:Qc H p S F r) {R:Kn} {ty color:UInt8} {v c:Value} {kids:List Mon} (hv:Qd1 F false ty color v c kids) (hkid:KidOk p S F H c kids) (hI:Inv S) (hl:S.buf.length+5000<=536870912)
  (hR:∀H',Qc H' p (QbI false ty color (Zf kids) S).1 F 0->R (.int .u32 ((QbI false ty color (Zf kids) S).2:Nat)) H'):
  FnS prog 112 #[v,.pointer (some ⟨p,0,none⟩)] H R:=by
 apply w112
 unfold tp87
 rcases hv with ⟨rfl,rfl,rfl⟩|⟨h0,w,hv',hu⟩
 ·rw[Ys (by kernel_rfl)]
  exact hR H (hB.room (Nat.zero_le _))
 ·obtain ⟨q,e,rfl,hq⟩:=hv'
  have hv':YR F (.pointer (some ⟨q,0,none⟩)) #[u8n ty,w]:=⟨q,e,rfl,hq⟩
  rw[Ys (by kernel_rfl)]
  show IfK (.bool false) _ _
  rw[Qao]
  rcases hu with ⟨_,rfl,rfl,hc,rfl⟩|⟨hty,rfl,k,rfl⟩
  ·refine hv'.ld hB.cut (i:=0) (u8n 2) rfl ?_
   rw[Yp,QK (by decide),Yp,QY (by decide)]
   refine hv'.ld hB.cut (i:=1) (.iface 261 c) rfl ?_
   rw[Qdb]
   refine QiW hB hI hc hl ?_
   intro H' h'
   exact hR H' h'
  ·have h1:ty=1:=by
    rcases hty with h|⟨h,_⟩
    ·exact h
    ·cases h
   subst h1
   refine hv'.ld hB.cut (i:=0) (u8n 1) rfl ?_
   rw[Yp,QY (by decide)]
   refine hv'.ld hB.cut (i:=1) (.iface 66 c) rfl ?_
   rw[Qdb]
   refine hkid k rfl _ ?_
   intro H' h'
   have e:QbI false 1 color (Zf [k]) S=Qa8 k S:=by
    unfold QbI
    rw[if_neg (by decide),if_neg (by decide),Zf]
   rw[e]at hR
   exact hR H' h'
theorem QeK {H:Qe} {p:Nat} {S:BS} {F:Cut} {r:Nat} (hB:Qc H p S F r) {R:Kn} {ty color:UInt8} {v c:Value} {kids:List Mon} (hv:Qd1 F true ty color v c kids) (hkid:KidOk p S F H c kids) (hI:Inv S) (hl:S.buf.length+5000<=536870912)
  (hR:∀H',Qc H' p (QbI true ty color (Zf kids) S).1 F 0->R (.int .u32 ((QbI true ty color (Zf kids) S).2:Nat)) H'):
  FnS prog 113 #[v,.pointer (some ⟨p,0,none⟩)] H R:=by
 apply w113
 unfold tp87
 rcases hv with ⟨rfl,rfl,rfl⟩|⟨h0,w,hv',hu⟩
 ·rw[Ys (by kernel_rfl)]
  exact hR H (hB.room (Nat.zero_le _))
 ·obtain ⟨q,e,rfl,hq⟩:=hv'
  have hv':YR F (.pointer (some ⟨q,0,none⟩)) #[u8n ty,w]:=⟨q,e,rfl,hq⟩
  rw[Ys (by kernel_rfl)]
  show IfK (.bool false) _ _
  rw[Qao]
  rcases hu with ⟨h,_⟩|⟨hty,rfl,k,rfl⟩
  ·cases h
  ·have e:QbI true ty color (Zf [k]) S=Qa8 k S:=by
    unfold QbI
    rw[if_neg h0,if_neg (by simp),Zf]
   rw[e]at hR
   have go:∀x,x=ty->True:=fun _ _=>trivial
   refine hv'.ld hB.cut (i:=0) (u8n ty) rfl ?_
   rcases hty with rfl|⟨_,rfl|rfl⟩
   ·rw[Yp,QY (by decide)]
    refine hv'.ld hB.cut (i:=1) (.iface 66 c) rfl ?_
    rw[Qdb]
    exact hkid k rfl _ hR
   ·rw[Yp,QK (by decide),Yp,QY (by decide)]
    refine hv'.ld hB.cut (i:=1) (.iface 66 c) rfl ?_
    rw[Qdb]
    exact hkid k rfl _ hR
   ·rw[Yp,QK (by decide),Yp,QK (by decide),Yp,QY (by decide)]
    refine hv'.ld hB.cut (i:=1) (.iface 66 c) rfl ?_
    rw[Qdb]
    exact hkid k rfl _ hR
end Go.Proofs
namespace Go.Proofs
open Go Go.Vc
open Tryz (prog)
theorem Yt.id {S:BS} (h:Inv S):Yt S 0 (S,0):=⟨h,Nat.le_refl _,Nat.le_refl _,Nat.zero_le _⟩
theorem Yt.mono {S:BS} {c c':Nat} {q:BS×Nat} (h:Yt S c q) (hc:c<=c'):Yt S c' q:=⟨h.inv,Nat.le_trans h.len (by omega),h.le,h.off⟩
theorem Qci (xs:List UInt8) {S:BS} (h:Inv S):Yt S (xs.length+8) (Qbo xs S):=by
 obtain ⟨h1,h2,h3⟩:=h.createStr xs
 exact ⟨h1,by show (createStr xs S).buf.length<=_;omega,by show _<=(createStr xs S).buf.length;omega,Nat.le_refl _⟩
theorem QiI (xs:List UInt8) {S:BS} (h:Inv S):Yt S (xs.length+8) (optB xs S):=by
 unfold optB
 split
 ·exact (Yt.id h).mono (by omega)
 ·exact Qci xs h
theorem QbK {es al:Nat} {items:List (List UInt8)} (hal:P2 al) (hi:∀x∈items,x.length=es) {S:BS} (h:Inv S):Yt S (es*items.length+15) (Qhc es al items S):=by
 unfold Qhc
 split
 ·exact (Yt.id h).mono (by omega)
 ·exact (Yt.vecS h hal hi).1
theorem optO_ok {q:BS->BS×List Nat} {c n:Nat} {S:BS} (hI:Inv S) (hq:Inv (q S).1/\(q S).1.buf.length<=S.buf.length+c/\S.buf.length<=(q S).1.buf.length) (hn:(q S).2.length=n):Yt S (c+4*n+15) (QiN q S):=by
 obtain ⟨h1,h2,h3⟩:=hq
 unfold QiN
 split
 ·exact (Yt.id hI).mono (by omega)
 ·have:=(Yt.vecS (es:=4) (al:=4) (items:=Zr (QF 4 (q S).2.length 4 (q S).1).buf.length (q S).2) h1 P2_4 (QcT _ _)).1
  have e:(Zr (QF 4 (q S).2.length 4 (q S).1).buf.length (q S).2).length=n:=by rw[Qdz,hn]
  refine ⟨this.inv,?_,?_,this.off⟩
  ·have l:=this.len
   rw[e]at l
   refine Nat.le_trans l ?_
   omega
  ·exact Nat.le_trans h3 this.le
theorem optStat_ok (d:Option Qan) {S:BS} (h:Inv S):Yt S (QiM d+100) (QhF d S):=by
 unfold QhF
 cases d with
 |none=>exact (Yt.id h).mono (by omega)
 |some s=>exact (packStat_ok s h).1
theorem QiY (b:Bool) {S:BS} (h:Inv S):Yt S 40 (Qe2 b S):=by
 unfold Qe2
 cases b
 ·exact (Yt.id h).mono (by omega)
 ·exact (packParent_ok h).1
theorem QeY {amb:Bool} {ty color:UInt8} {kid:BS->BS×Nat} {c:Nat} {S:BS} (h:Inv S) (hk:Yt S c (kid S)):Yt S (c+40) (QbI amb ty color kid S):=by
 unfold QbI
 split
 ·exact (Yt.id h).mono (by omega)
 ·split
  ·exact (packSimple_ok color h).1.mono (by omega)
  ·exact hk.mono (by omega)
theorem Qby {α:Type} (c:Nat):∀l:List α,(l.map fun _=>c).sum=c*l.length
 |[]=>by simp
 |x::l=>by simp[Qby c l,Nat.mul_add];omega
theorem Qd7 {α:Type} (f:α->Nat) (c:Nat):∀l:List α,(l.map fun x=>f x+c).sum=(l.map f).sum+c*l.length
 |[]=>by simp
 |x::l=>by simp[Qd7 f c l,Nat.mul_add];omega
theorem strs_ok (l:List (List UInt8)) {S:BS} (h:Inv S):Yt S ((l.map List.length).sum+12*l.length+15) (QiN (Q1 Qbo l) S):=by
 obtain ⟨h1,h2,h3,_⟩:=Qc7 (f:=Qbo) (c:=fun x=>x.length+8) l (fun x _ S hS=>Qci x hS) S h
 rw[Qd7]at h2
 exact (optO_ok h ⟨h1,h2,h3⟩ (Qaf _ _ _)).mono (by omega)
theorem refs_ok (l:List UInt64) {S:BS} (h:Inv S):Yt S (44*l.length+15) (QiN (Q1 Qbr l) S):=by
 obtain ⟨h1,h2,h3,_⟩:=Qc7 (f:=Qbr) (c:=fun _=>40) l (fun x _ S hS=>(Qfe x hS).1) S h
 rw[Qby]at h2
 exact (optO_ok h ⟨h1,h2,h3⟩ (Qaf _ _ _)).mono (by omega)
end Go.Proofs
namespace Go.Proofs
open Go Go.Vc
open Tryz (prog)
theorem foldMk_ok:∀(fs:List (BS->BS×Nat)) (cs:List Nat),fs.length=cs.length->(∀(i:Nat) f c,fs[i]?=some f->cs[i]?=some c->∀S,Inv S->Yt S c (f S))->∀S,Inv S->
  Inv (Q1 (fun f=>f) fs S).1/\(Q1 (fun f=>f) fs S).1.buf.length<=S.buf.length+cs.sum/\S.buf.length<=(Q1 (fun f=>f) fs S).1.buf.length/\∀o∈(Q1 (fun f=>f) fs S).2,o<=(Q1 (fun f=>f) fs S).1.buf.length
 |[],[],_,_,S,h=>⟨h,by simp[Q1],Nat.le_refl _,by simp[Q1]⟩
 |f::fs,c::cs,hl,hf,S,h=>by
  have h1:=hf 0 f c rfl rfl S h
  obtain ⟨g1,g2,g3,g4⟩:=foldMk_ok fs cs (by simpa using hl) (fun i f c a b=>hf (i+1) f c (by simpa using a) (by simpa using b)) (f S).1 h1.inv
  have h2:=h1.len
  have h3:=h1.le
  have h4:=h1.off
  refine ⟨g1,?_,?_,?_⟩
  ·show (Q1 (fun f=>f) fs (f S).1).1.buf.length<=_
   simp only[List.sum_cons];omega
  ·show _<=(Q1 (fun f=>f) fs (f S).1).1.buf.length
   omega
  ·intro o ho
   show o<=(Q1 (fun f=>f) fs (f S).1).1.buf.length
   rcases List.mem_cons.1 ho with rfl|ho
   ·exact Nat.le_trans h4 g3
   ·exact g4 o ho
def MkOk:List (BS->BS×Nat)->List Nat->Prop
 |[],[]=>True
 |f::fs,c::cs=>(∀S,Inv S->Yt S c (f S))/\MkOk fs cs
 |_,_=>False
theorem MkOk.to:∀{fs:List (BS->BS×Nat)} {cs:List Nat},MkOk fs cs->fs.length=cs.length/\∀(i:Nat) f c,fs[i]?=some f->cs[i]?=some c->∀S,Inv S->Yt S c (f S)
 |[],[],_=>⟨rfl,fun i f c h=>by simp at h⟩
 |f::fs,c::cs,h=>by
  obtain ⟨h1,h2⟩:=h
  obtain ⟨g1,g2⟩:=MkOk.to h2
  refine ⟨by simp[g1],fun i f' c' a b=>?_⟩
  cases i with
  |zero=>simp at a b;subst a;subst b;exact h1
  |succ i=>exact g2 i f' c' (by simpa using a) (by simpa using b)
 |[],_::_,h=>h.elim
 |_::_,[],h=>h.elim
theorem runS_ok {S0:BS} {n k:Nat}:∀(fs:List (BS->BS)),(∀f∈fs,∀c S,YA S0 n c S->YA S0 n (c+k) (f S))->∀c S,YA S0 n c S->YA S0 n (c+k*fs.length) (Zt fs S)
 |[],_,c,S,h=>by simpa [Zt]using h
 |f::fs,hf,c,S,h=>by
  have h1:=hf f List.mem_cons_self c S h
  have h2:=runS_ok fs (fun g hg=>hf g (List.mem_cons_of_mem _ hg)) (c+k) (f S) h1
  refine h2.mono ?_
  simp only[List.length_cons,Nat.mul_add];omega
theorem vec3_len (v:Qav):(QgU v).length=32:=by simp[QgU,vec3B,Qf]
theorem YA.slotPos {S0 S:BS} {n c:Nat} (h:YA S0 n c S) (pos:Option Qav):YA S0 n (c+64) (Proofs.slotPos pos S):=by
 unfold Proofs.slotPos
 cases pos with
 |none=>exact h.mono (by omega)
 |some v=>
  have h1:=((h.prep (a:=32) Qg6).place (QgU v)).slotStruct (off:=(Vc.place (QgU v) (Vc.prep 8 32 S)).buf.length) (o:=0)
  exact h1.mono (by rw[vec3_len];omega)
theorem YA.slotTy {S0 S:BS} {n c o:Nat} {ty:UInt8} (h:YA S0 n c S):YA S0 n (c+64) (Proofs.slotTy ty o S):=by
 unfold Proofs.slotTy
 split
 ·exact h.mono (by omega)
 ·exact (h.slotN P2_1).mono (by omega)
set_option maxRecDepth 4000 in
theorem slots_ok (d:Qbg) (o:List Nat) {S0:BS} {n:Nat}:∀f∈Yi d o,∀c S,YA S0 n c S->YA S0 n (c+64) (f S):=by
 intro f hf c S h
 have hN:∀{k x dd oo:Nat},P2 k->YA S0 n (c+64) (slotN k x dd oo S):=fun hk=>(h.slotN hk).mono (by omega)
 have hO:∀{x oo:Nat},YA S0 n (c+64) (slotOff x oo S):=h.slotOff.mono (by omega)
 have hFl:∀{x dd oo:Nat},YA S0 n (c+64) (slotF x dd oo S):=h.slotF.mono (by omega)
 unfold Yi at hf
 simp only[List.mem_cons,List.not_mem_nil,or_false]at hf
 rcases hf with rfl|rfl|rfl|rfl|rfl|rfl|rfl|rfl|rfl|rfl|rfl|rfl|rfl|rfl|rfl|rfl|rfl|rfl|rfl|rfl|rfl|rfl|rfl|rfl|rfl|rfl|rfl|rfl|rfl|rfl|rfl|rfl|rfl|rfl|rfl|rfl|rfl|rfl|rfl|rfl|rfl|rfl|rfl|rfl|rfl|rfl|rfl|rfl|rfl
 all_goals first
  |exact h.slotPos _
  |exact h.slotTy
  |exact hO
  |exact hFl
  |exact hN P2_1
  |exact hN P2_2
  |exact hN P2_4
  |exact hN Qg6
end Go.Proofs
namespace Go.Proofs
open Go Go.Vc
open Tryz (prog)
theorem Qax (a b:Nat):(QaJ a b).length=4:=by simp[QaJ,Qf]
theorem Qbi (a b:Nat):(Zv a b).length=8:=by simp[Zv,Qf]
theorem QR {α:Type} {f:α->List UInt8} {k:Nat} (h:∀x,(f x).length=k) {l:List α}:∀y∈l.map f,y.length=k:=by
 intro y hy
 obtain ⟨x,_,rfl⟩:=List.mem_map.1 hy
 exact h x
def Qgx (d:Qbg) (ct nt ce cu cq ca:Nat):List Nat:=
 [d.name.length+8,d.inventory.length+8,cu+40,4*d.test4.length+15,(d.strings.map List.length).sum+12*d.strings.length+15,ct+4*nt+15,ce,d.nested.length+8,QiM d.empty+100,
  1*d.bools.length+15,(d.strings2.map List.length).sum+12*d.strings2.length+15,8*d.abilities.length+15,d.flex.length+8,4*d.test5.length+15,8*d.longs.length+15,8*d.doubles.length+15,40,
  44*d.refs.length+15,8*d.weak.length+15,44*d.strong.length+15,8*d.coOwnings.length+15,8*d.nonOwnings.length+15,cq+40,ca+40,1*d.enums.length+15]
theorem makers_ok (d:Qbg) {tables:BS->BS×List Nat} {enemy test uniq amb:BS->BS×Nat} {ct nt ce cu cq ca:Nat}
  (ht:∀S,Inv S->(Inv (tables S).1/\(tables S).1.buf.length<=S.buf.length+ct/\S.buf.length<=(tables S).1.buf.length)/\(tables S).2.length=nt)
  (he:∀S,Inv S->Yt S ce (enemy S)) (hu:∀S,Inv S->Yt S cu (test S)) (hq:∀S,Inv S->Yt S cq (uniq S)) (ha:∀S,Inv S->Yt S ca (amb S)):
  MkOk (Qhj d tables enemy test uniq amb) (Qgx d ct nt ce cu cq ca):=by
 have hu8:∀x,(Qah x).length=8:=fun x=>Qf _ _
 have v8:∀(l:List UInt64) S,Inv S->Yt S (8*l.length+15) (Qhc 8 8 (l.map Qah) S):=fun l S h=>by
  have:=QbK (es:=8) Qg6 (QR hu8 (l:=l)) h
  rwa [List.length_map]at this
 refine ⟨fun S h=>Qci _ h,fun S h=>QiI _ h,fun S h=>QeY h (hu S h),fun S h=>?_,fun S h=>strs_ok _ h,fun S h=>optO_ok h (ht S h).1 (ht S h).2,he,fun S h=>QiI _ h,fun S h=>optStat_ok _ h,fun S h=>?_,fun S h=>strs_ok _ h,
  fun S h=>?_,fun S h=>QiI _ h,fun S h=>?_,v8 _,v8 _,fun S h=>QiY _ h,fun S h=>refs_ok _ h,v8 _,fun S h=>refs_ok _ h,v8 _,v8 _,fun S h=>QeY h (hq S h),fun S h=>QeY h (ha S h),fun S h=>?_,trivial⟩
 ·have:=QbK (es:=4) P2_2 (QR (fun t:Qbf=>Qax t.a.toNat t.b.toNat) (l:=d.test4)) h
  rwa [List.length_map]at this
 ·have:=QbK (es:=1) P2_1 (QR (fun b:Bool=>(rfl:(Qem b).length=1)) (l:=d.bools)) h
  rwa [List.length_map]at this
 ·have:=QbK (es:=8) P2_4 (QR (fun t:Qe7=>Qbi t.id.toNat t.dist.toNat) (l:=d.abilities)) h
  rwa [List.length_map]at this
 ·have:=QbK (es:=4) P2_2 (QR (fun t:Qbf=>Qax t.a.toNat t.b.toNat) (l:=d.test5)) h
  rwa [List.length_map]at this
 ·have:=QbK (es:=1) P2_1 (QR (fun b:UInt8=>(rfl:[b].length=1)) (l:=d.enums)) h
  rwa [List.length_map]at this
theorem packT_ok (d:Qbg) {tables:BS->BS×List Nat} {enemy test uniq amb:BS->BS×Nat} {ct nt ce cu cq ca:Nat}
  (ht:∀S,Inv S->(Inv (tables S).1/\(tables S).1.buf.length<=S.buf.length+ct/\S.buf.length<=(tables S).1.buf.length)/\(tables S).2.length=nt)
  (he:∀S,Inv S->Yt S ce (enemy S)) (hu:∀S,Inv S->Yt S cu (test S)) (hq:∀S,Inv S->Yt S cq (uniq S)) (ha:∀S,Inv S->Yt S ca (amb S)) {S:BS} (h:Inv S):
  Yt S (Qii d+60*nt+ct+ce+cu+cq+ca) (packT d tables enemy test uniq amb S)/\0<(packT d tables enemy test uniq amb S).2:=by
 obtain ⟨m1,m2⟩:=MkOk.to (makers_ok d ht he hu hq ha)
 obtain ⟨g1,g2,g3,g4⟩:=foldMk_ok _ _ m1 m2 S h
 unfold packT
 generalize Q1 (fun f=>f) (Qhj d tables enemy test uniq amb) S=q at *
 have hs:=runS_ok (Yi d q.2) (slots_ok d q.2) 0 _ (YA.start (n:=49) g1.min)
 have hp:=Yt.endT hs g1 (by decide)
 refine ⟨⟨hp.1.inv,?_,Nat.le_trans g3 hp.1.le,hp.1.off⟩,hp.2⟩
 have h1:=hp.1.len
 have hl:(Yi d q.2).length=48:=rfl
 rw[hl]at h1
 have hsum:(Qgx d ct nt ce cu cq ca).sum+4000<=Qii d+60*nt+ct+ce+cu+cq+ca:=by
  unfold Qgx Qii
  simp only[List.sum_cons,List.sum_nil]
  omega
 omega
mutual
theorem QfG:∀(m:Mon) (S:BS),Inv S->Yt S (QcY m) (Qa8 m S)/\0<(Qa8 m S).2
 |.mk d tables enemy test uniq amb,S,h=>by
  have:=packT_ok (d:=d) (ct:=Qa3 tables) (nt:=tables.length) (ce:=Qa3 enemy) (cu:=Qa3 test) (cq:=Qa3 uniq) (ca:=Qa3 amb) (tables:=QdJ tables) (enemy:=Zf enemy) (test:=Zf test) (uniq:=Zf uniq) (amb:=Zf amb)
   (fun S h=>Qgk tables S h) (fun S h=>QaO enemy S h) (fun S h=>QaO test S h) (fun S h=>QaO uniq S h) (fun S h=>QaO amb S h) h
  rw[Qa8]
  refine ⟨this.1.mono ?_,this.2⟩
  rw[QcY];omega
theorem Qgk:∀(ms:List Mon) (S:BS),Inv S->(Inv (QdJ ms S).1/\(QdJ ms S).1.buf.length<=S.buf.length+Qa3 ms/\S.buf.length<=(QdJ ms S).1.buf.length)/\(QdJ ms S).2.length=ms.length
 |[],S,h=>by rw[QdJ];exact ⟨⟨h,Nat.le_add_right _ _,Nat.le_refl _⟩,rfl⟩
 |m::ms,S,h=>by
  have h1:=(QfG m S h).1
  have h2:=Qgk ms (Qa8 m S).1 h1.inv
  have:=h1.len
  have:=h1.le
  have:=h2.1.2.1
  have:=h2.1.2.2
  rw[QdJ,Qa3]
  exact ⟨⟨h2.1.1,by show (QdJ ms (Qa8 m S).1).1.buf.length<=_;omega,by show _<=(QdJ ms (Qa8 m S).1).1.buf.length;omega⟩,by simp[h2.2]⟩
theorem QaO:∀(ms:List Mon) (S:BS),Inv S->Yt S (Qa3 ms) (Zf ms S)
 |[],S,h=>by rw[Zf];exact (Yt.id h).mono (Nat.zero_le _)
 |m::ms,S,h=>by
  rw[Zf,Qa3]
  exact (QfG m S h).1.mono (by omega)
end
end Go.Proofs
namespace Go.Proofs
open Go Go.Vc
open Tryz (prog)
theorem costs_mem:∀{k:Mon} {l:List Mon},k∈l->QcY k<=Qa3 l
 |k,[],h=>by simp at h
 |k,m::ms,h=>by
  rw[Qa3]
  rcases List.mem_cons.1 h with rfl|h
  ·omega
  ·have:=costs_mem h;omega
theorem costs_sum:∀l:List Mon,(l.map QcY).sum=Qa3 l
 |[]=>rfl
 |m::ms=>by rw[List.map_cons,List.sum_cons,Qa3,costs_sum ms]
def PackOk (n:Nat):Prop:=∀(m:Mon),QcY m<n->∀(H:Qe) (p:Nat) (S:BS) (F:Cut) (r:Nat) (v:Value) (R:Kn),Qc H p S F r->Inv S->MT F v m->S.buf.length+QcY m+20000<=536870912->
 (∀H',Qc H' p (Qa8 m S).1 F 0->R (.int .u32 ((Qa8 m S).2:Nat)) H')->FnS prog 21 #[v,.pointer (some ⟨p,0,none⟩)] H R
theorem kidOk {n:Nat} (ih:PackOk n) {p:Nat} {S:BS} {F:Cut} {r:Nat} {H:Qe} {c:Value} {kids:List Mon} (hB:Qc H p S F r) (hI:Inv S) (hs:Qa3 kids<n) (hm:∀k,k∈kids->MT F c k) (hl:S.buf.length+Qa3 kids+20000<=536870912):KidOk p S F H c kids:=by
 rintro k rfl R hR
 refine ih k ?_ H p S F r c R hB hI (hm k (by simp)) ?_ hR
 ·rw[Qa3,Qa3]at hs;omega
 ·rw[Qa3,Qa3]at hl;omega
end Go.Proofs
namespace Go.Proofs
open Go Go.Vc
open Tryz (prog)
set_option maxRecDepth 4000
def packTail (x0 x1 x78 x6 x95 x8 x11 x16 x226 x22 x243 x24 x27 x32 x35 x36 x39 x42 x462 x46 x51 x54 x59 x62 x655 x661 x67:Value) (h128:Qe) (R:Kn):Prop:=
 Qb prog 116 #[x1] h128 fun _x694 h129=>
 Q5 x0 fun x696=>
 Qh x696 0 fun x697=>
 LdK h129 x697 fun x698=>
 Qb prog 117 #[x698,x1] h129 fun x700 h130=>
 Qb prog 118 #[x1,x700] h130 fun _x703 h131=>
 Q5 x0 fun x706=>
 Qh x706 1 fun x707=>
 LdK h131 x707 fun x708=>
 Qb prog 119 #[x1,x708] h131 fun _x709 h132=>
 Q5 x0 fun x712=>
 Qh x712 2 fun x713=>
 LdK h132 x713 fun x714=>
 Qb prog 120 #[x1,x714] h132 fun _x715 h133=>
 Qb prog 121 #[x1,x78] h133 fun _x718 h134=>
 Qb prog 122 #[x1,x6] h134 fun _x721 h135=>
 Q5 x0 fun x724=>
 Qh x724 5 fun x725=>
 LdK h135 x725 fun x726=>
 Qb prog 123 #[x1,x726] h135 fun _x727 h136=>
 QG (fun M79=>
 Q5 x0 fun x729=>
 Qh x729 6 fun x730=>
 LdK h136 x730 fun x731=>
 Qr prog .neq 144 x731 (.pointer none) fun x732=>
 IfK x732
 (Q5 x0 fun x735=>
 Qh x735 6 fun x736=>
 LdK h136 x736 fun x737=>
 Q5 x737 fun x738=>
 Qh x738 0 fun x739=>
 LdK h136 x739 fun x740=>
 Qb prog 124 #[x1,x740] h136 fun _x741 h137=>
 M79 [] h137)
 (M79 [] h136)) fun M79=>∀h138:Qe,M79 [] h138->
 Qb prog 125 #[x1,x95] h138 fun _x744 h139=>
 Qb prog 126 #[x1,x8] h139 fun _x747 h140=>
 Qb prog 127 #[x1,x11] h140 fun _x750 h141=>
 Qb prog 128 #[x1,x16] h141 fun _x753 h142=>
 Qb prog 129 #[x1,x226] h142 fun _x756 h143=>
 Qb prog 130 #[x1,x22] h143 fun _x759 h144=>
 Qb prog 131 #[x1,x243] h144 fun _x762 h145=>
 Q5 x0 fun x765=>
 Qh x765 13 fun x766=>
 LdK h145 x766 fun x767=>
 Qb prog 132 #[x1,x767] h145 fun _x768 h146=>
 Q5 x0 fun x771=>
 Qh x771 14 fun x772=>
 LdK h146 x772 fun x773=>
 Qb prog 133 #[x1,x773] h146 fun _x774 h147=>
 Q5 x0 fun x777=>
 Qh x777 15 fun x778=>
 LdK h147 x778 fun x779=>
 Qb prog 134 #[x1,x779] h147 fun _x780 h148=>
 Q5 x0 fun x783=>
 Qh x783 16 fun x784=>
 LdK h148 x784 fun x785=>
 Qb prog 135 #[x1,x785] h148 fun _x786 h149=>
 Q5 x0 fun x789=>
 Qh x789 17 fun x790=>
 LdK h149 x790 fun x791=>
 Qb prog 136 #[x1,x791] h149 fun _x792 h150=>
 Q5 x0 fun x795=>
 Qh x795 18 fun x796=>
 LdK h150 x796 fun x797=>
 Qb prog 137 #[x1,x797] h150 fun _x798 h151=>
 Q5 x0 fun x801=>
 Qh x801 19 fun x802=>
 LdK h151 x802 fun x803=>
 Qb prog 138 #[x1,x803] h151 fun _x804 h152=>
 Q5 x0 fun x807=>
 Qh x807 20 fun x808=>
 LdK h152 x808 fun x809=>
 Qb prog 139 #[x1,x809] h152 fun _x810 h153=>
 Q5 x0 fun x813=>
 Qh x813 21 fun x814=>
 LdK h153 x814 fun x815=>
 Qb prog 140 #[x1,x815] h153 fun _x816 h154=>
 Qb prog 141 #[x1,x24] h154 fun _x819 h155=>
 Q5 x0 fun x822=>
 Qh x822 23 fun x823=>
 LdK h155 x823 fun x824=>
 Qb prog 142 #[x1,x824] h155 fun _x825 h156=>
 Q5 x0 fun x828=>
 Qh x828 24 fun x829=>
 LdK h156 x829 fun x830=>
 Qb prog 143 #[x1,x830] h156 fun _x831 h157=>
 Q5 x0 fun x834=>
 Qh x834 25 fun x835=>
 LdK h157 x835 fun x836=>
 Qb prog 144 #[x1,x836] h157 fun _x837 h158=>
 Qb prog 145 #[x1,x27] h158 fun _x840 h159=>
 Qb prog 146 #[x1,x32] h159 fun _x843 h160=>
 Qb prog 147 #[x1,x35] h160 fun _x846 h161=>
 Qb prog 148 #[x1,x36] h161 fun _x849 h162=>
 Qb prog 149 #[x1,x39] h162 fun _x852 h163=>
 Qb prog 150 #[x1,x42] h163 fun _x855 h164=>
 Qb prog 151 #[x1,x462] h164 fun _x858 h165=>
 Qb prog 152 #[x1,x46] h165 fun _x861 h166=>
 Q5 x0 fun x864=>
 Qh x864 34 fun x865=>
 LdK h166 x865 fun x866=>
 Qb prog 153 #[x1,x866] h166 fun _x867 h167=>
 Qb prog 154 #[x1,x51] h167 fun _x870 h168=>
 Qb prog 155 #[x1,x54] h168 fun _x873 h169=>
 Q5 x0 fun x876=>
 Qh x876 37 fun x877=>
 LdK h169 x877 fun x878=>
 Qb prog 156 #[x1,x878] h169 fun _x879 h170=>
 Qb prog 157 #[x1,x59] h170 fun _x882 h171=>
 Q5 x0 fun x885=>
 Qh x885 39 fun x886=>
 LdK h171 x886 fun x887=>
 Qb prog 158 #[x1,x887] h171 fun _x888 h172=>
 Qb prog 159 #[x1,x62] h172 fun _x891 h173=>
 QG (fun M80=>
 Q5 x0 fun x893=>
 Qh x893 41 fun x894=>
 LdK h173 x894 fun x895=>
 Qr prog .neq 150 x895 (.pointer none) fun x896=>
 IfK x896
 (Q5 x0 fun x899=>
 Qh x899 41 fun x900=>
 LdK h173 x900 fun x901=>
 Q5 x901 fun x902=>
 Qh x902 0 fun x903=>
 LdK h173 x903 fun x904=>
 Qb prog 160 #[x1,x904] h173 fun _x905 h174=>
 M80 [] h174)
 (M80 [] h173)) fun M80=>∀h175:Qe,M80 [] h175->
 Qb prog 161 #[x1,x655] h175 fun _x908 h176=>
 QG (fun M81=>
 Q5 x0 fun x910=>
 Qh x910 42 fun x911=>
 LdK h176 x911 fun x912=>
 Qr prog .neq 151 x912 (.pointer none) fun x913=>
 IfK x913
 (Q5 x0 fun x916=>
 Qh x916 42 fun x917=>
 LdK h176 x917 fun x918=>
 Q5 x918 fun x919=>
 Qh x919 0 fun x920=>
 LdK h176 x920 fun x921=>
 Qb prog 162 #[x1,x921] h176 fun _x922 h177=>
 M81 [] h177)
 (M81 [] h176)) fun M81=>∀h178:Qe,M81 [] h178->
 Qb prog 163 #[x1,x661] h178 fun _x925 h179=>
 Qb prog 164 #[x1,x67] h179 fun _x928 h180=>
 Q5 x0 fun x931=>
 Qh x931 44 fun x932=>
 LdK h180 x932 fun x933=>
 Qb prog 165 #[x1,x933] h180 fun _x934 h181=>
 Qb prog 166 #[x1] h181 fun x936 h182=>
 R x936 h182
def packHead (x0 x1:Value) (h:Qe) (R:Kn):Prop:=
 Qr prog .eql 66 x0 (.pointer none) fun x72=>
 IfK x72
 (R (.int .u32 0) h)
 (Q5 x0 fun x75=>
 Qh x75 3 fun x76=>
 LdK h x76 fun x77=>
 Qb prog 85 #[x1,x77] h fun x78 h1=>
 QG (fun M1=>
 Q5 x0 fun x80=>
 Qh x80 4 fun x81=>
 LdK h1 x81 fun x82=>
 Qr prog .neq 69 x82 (.slice none 0 0) fun x83=>
 IfK x83
 (Q5 x0 fun x86=>
 Qh x86 4 fun x87=>
 LdK h1 x87 fun x88=>
 Qb prog 86 #[x1,x88] h1 fun x89 h2=>
 M1 [x89] h2)
 (M1 [(.int .u32 0)] h1)) fun M1=>∀x6:Value,∀h3:Qe,M1 [x6] h3->
 Q5 x0 fun x91=>
 Qh x91 6 fun x92=>
 LdK h3 x92 fun x93=>
 Qb prog 87 #[x93,x1] h3 fun x95 h4=>
 QG (fun M2=>
 Q5 x0 fun x97=>
 Qh x97 7 fun x98=>
 LdK h4 x98 fun x99=>
 Qr prog .neq 136 x99 (.slice none 0 0) fun x100=>
 IfK x100
 (Q5 x0 fun x102=>
 Qh x102 7 fun x103=>
 LdK h4 x103 fun x104=>
 YQ x104 fun x105=>
 Qb prog 88 #[x1,x105] h4 fun _x108 h5=>
 QG (fun M3=>
 Qr prog .sub 3 x105 (.int .i64 1) fun x110=>
 YH [x110] h5 fun I4 n5=>∀x10:Value,∀h6:Qe,I4 n5 [x10] h6->
 Qr prog .geq 3 x10 (.int .i64 0) fun x112=>
 IfK x112
 (Q5 x0 fun x116=>
 Qh x116 7 fun x117=>
 LdK h6 x117 fun x118=>
 Y7 1 x118 x10 fun x120=>
 LdK h6 x120 fun x121=>
 Qb prog 89 #[x121,x1] h6 fun _x123 h7=>
 Qr prog .sub 3 x10 (.int .i64 1) fun x114=>
 QZ I4 n5 [x114] h7)
 (M3 [x10] h6)) fun M3=>∀x10_1:Value,∀h8:Qe,M3 [x10_1] h8->
 Qb prog 90 #[x1,x105] h8 fun x126 h9=>
 M2 [x126] h9)
 (M2 [(.int .u32 0)] h4)) fun M2=>∀x8:Value,∀h10:Qe,M2 [x8] h10->
 QG (fun M6=>
 Q5 x0 fun x128=>
 Qh x128 8 fun x129=>
 LdK h10 x129 fun x130=>
 Qr prog .neq 28 x130 (.slice none 0 0) fun x131=>
 IfK x131
 (Q5 x0 fun x133=>
 Qh x133 8 fun x134=>
 LdK h10 x134 fun x135=>
 YQ x135 fun x136=>
 Qf4 h10 65 4 z65 x136 x136 fun x138 h11=>
 QG (fun M7=>
 YH [(.int .i64 0)] h11 fun I8 n9=>∀x14:Value,∀h12:Qe,I8 n9 [x14] h12->
 Qr prog .lss 3 x14 x136 fun x141=>
 IfK x141
 (Q5 x0 fun x148=>
 Qh x148 8 fun x149=>
 LdK h12 x149 fun x150=>
 Y7 1 x150 x14 fun x152=>
 LdK h12 x152 fun x153=>
 Qb prog 85 #[x1,x153] h12 fun x154 h13=>
 Y7 1 x138 x14 fun x155=>
 StK h13 1 x155 x154 fun h14=>
 Qr prog .add 3 x14 (.int .i64 1) fun x143=>
 QZ I8 n9 [x143] h14)
 (M7 [x14] h12)) fun M7=>∀x14_1:Value,∀h15:Qe,M7 [x14_1] h15->
 Qb prog 91 #[x1,x136] h15 fun _x158 h16=>
 QG (fun M10=>
 Qr prog .sub 3 x136 (.int .i64 1) fun x160=>
 YH [x160] h16 fun I11 n12=>∀x15:Value,∀h17:Qe,I11 n12 [x15] h17->
 Qr prog .geq 3 x15 (.int .i64 0) fun x162=>
 IfK x162
 (Y7 1 x138 x15 fun x168=>
 LdK h17 x168 fun x169=>
 Qb prog 73 #[x1,x169] h17 fun _x170 h18=>
 Qr prog .sub 3 x15 (.int .i64 1) fun x164=>
 QZ I11 n12 [x164] h18)
 (M10 [x15] h17)) fun M10=>∀x15_1:Value,∀h19:Qe,M10 [x15_1] h19->
 Qb prog 90 #[x1,x136] h19 fun x173 h20=>
 M6 [x173] h20)
 (M6 [(.int .u32 0)] h10)) fun M6=>∀x11:Value,∀h21:Qe,M6 [x11] h21->
 QG (fun M13=>
 Q5 x0 fun x175=>
 Qh x175 9 fun x176=>
 LdK h21 x176 fun x177=>
 Qr prog .neq 145 x177 (.slice none 0 0) fun x178=>
 IfK x178
 (Q5 x0 fun x180=>
 Qh x180 9 fun x181=>
 LdK h21 x181 fun x182=>
 YQ x182 fun x183=>
 Qf4 h21 65 4 z65 x183 x183 fun x185 h22=>
 QG (fun M14=>
 YH [(.int .i64 0)] h22 fun I15 n16=>∀x19:Value,∀h23:Qe,I15 n16 [x19] h23->
 Qr prog .lss 3 x19 x183 fun x188=>
 IfK x188
 (Q5 x0 fun x194=>
 Qh x194 9 fun x195=>
 LdK h23 x195 fun x196=>
 Y7 1 x196 x19 fun x198=>
 LdK h23 x198 fun x199=>
 Qb prog 21 #[x199,x1] h23 fun x201 h24=>
 Y7 1 x185 x19 fun x202=>
 StK h24 1 x202 x201 fun h25=>
 Qr prog .add 3 x19 (.int .i64 1) fun x190=>
 QZ I15 n16 [x190] h25)
 (M14 [x19] h23)) fun M14=>∀x19_1:Value,∀h26:Qe,M14 [x19_1] h26->
 Qb prog 92 #[x1,x183] h26 fun _x205 h27=>
 QG (fun M17=>
 Qr prog .sub 3 x183 (.int .i64 1) fun x207=>
 YH [x207] h27 fun I18 n19=>∀x20:Value,∀h28:Qe,I18 n19 [x20] h28->
 Qr prog .geq 3 x20 (.int .i64 0) fun x209=>
 IfK x209
 (Y7 1 x185 x20 fun x215=>
 LdK h28 x215 fun x216=>
 Qb prog 73 #[x1,x216] h28 fun _x217 h29=>
 Qr prog .sub 3 x20 (.int .i64 1) fun x211=>
 QZ I18 n19 [x211] h29)
 (M17 [x20] h28)) fun M17=>∀x20_1:Value,∀h30:Qe,M17 [x20_1] h30->
 Qb prog 90 #[x1,x183] h30 fun x220 h31=>
 M13 [x220] h31)
 (M13 [(.int .u32 0)] h21)) fun M13=>∀x16:Value,∀h32:Qe,M13 [x16] h32->
 Q5 x0 fun x222=>
 Qh x222 10 fun x223=>
 LdK h32 x223 fun x224=>
 Qb prog 21 #[x224,x1] h32 fun x226 h33=>
 QG (fun M20=>
 Q5 x0 fun x228=>
 Qh x228 11 fun x229=>
 LdK h33 x229 fun x230=>
 Qr prog .neq 69 x230 (.slice none 0 0) fun x231=>
 IfK x231
 (Q5 x0 fun x234=>
 Qh x234 11 fun x235=>
 LdK h33 x235 fun x236=>
 Qb prog 86 #[x1,x236] h33 fun x237 h34=>
 M20 [x237] h34)
 (M20 [(.int .u32 0)] h33)) fun M20=>∀x22:Value,∀h35:Qe,M20 [x22] h35->
 Q5 x0 fun x239=>
 Qh x239 12 fun x240=>
 LdK h35 x240 fun x241=>
 Qb prog 93 #[x241,x1] h35 fun x243 h36=>
 QG (fun M21=>
 Q5 x0 fun x245=>
 Qh x245 22 fun x246=>
 LdK h36 x246 fun x247=>
 Qr prog .neq 32 x247 (.slice none 0 0) fun x248=>
 IfK x248
 (Q5 x0 fun x250=>
 Qh x250 22 fun x251=>
 LdK h36 x251 fun x252=>
 YQ x252 fun x253=>
 Qb prog 94 #[x1,x253] h36 fun _x256 h37=>
 QG (fun M22=>
 Qr prog .sub 3 x253 (.int .i64 1) fun x258=>
 YH [x258] h37 fun I23 n24=>∀x26:Value,∀h38:Qe,I23 n24 [x26] h38->
 Qr prog .geq 3 x26 (.int .i64 0) fun x260=>
 IfK x260
 (Q5 x0 fun x265=>
 Qh x265 22 fun x266=>
 LdK h38 x266 fun x267=>
 Y7 1 x267 x26 fun x269=>
 LdK h38 x269 fun x270=>
 Qb prog 95 #[x1,x270] h38 fun _x271 h39=>
 Qr prog .sub 3 x26 (.int .i64 1) fun x262=>
 QZ I23 n24 [x262] h39)
 (M22 [x26] h38)) fun M22=>∀x26_1:Value,∀h40:Qe,M22 [x26_1] h40->
 Qb prog 90 #[x1,x253] h40 fun x274 h41=>
 M21 [x274] h41)
 (M21 [(.int .u32 0)] h36)) fun M21=>∀x24:Value,∀h42:Qe,M21 [x24] h42->
 QG (fun M25=>
 Q5 x0 fun x276=>
 Qh x276 26 fun x277=>
 LdK h42 x277 fun x278=>
 Qr prog .neq 28 x278 (.slice none 0 0) fun x279=>
 IfK x279
 (Q5 x0 fun x281=>
 Qh x281 26 fun x282=>
 LdK h42 x282 fun x283=>
 YQ x283 fun x284=>
 Qf4 h42 65 4 z65 x284 x284 fun x286 h43=>
 QG (fun M26=>
 YH [(.int .i64 0)] h43 fun I27 n28=>∀x30:Value,∀h44:Qe,I27 n28 [x30] h44->
 Qr prog .lss 3 x30 x284 fun x289=>
 IfK x289
 (Q5 x0 fun x296=>
 Qh x296 26 fun x297=>
 LdK h44 x297 fun x298=>
 Y7 1 x298 x30 fun x300=>
 LdK h44 x300 fun x301=>
 Qb prog 85 #[x1,x301] h44 fun x302 h45=>
 Y7 1 x286 x30 fun x303=>
 StK h45 1 x303 x302 fun h46=>
 Qr prog .add 3 x30 (.int .i64 1) fun x291=>
 QZ I27 n28 [x291] h46)
 (M26 [x30] h44)) fun M26=>∀x30_1:Value,∀h47:Qe,M26 [x30_1] h47->
 Qb prog 96 #[x1,x284] h47 fun _x306 h48=>
 QG (fun M29=>
 Qr prog .sub 3 x284 (.int .i64 1) fun x308=>
 YH [x308] h48 fun I30 n31=>∀x31:Value,∀h49:Qe,I30 n31 [x31] h49->
 Qr prog .geq 3 x31 (.int .i64 0) fun x310=>
 IfK x310
 (Y7 1 x286 x31 fun x316=>
 LdK h49 x316 fun x317=>
 Qb prog 73 #[x1,x317] h49 fun _x318 h50=>
 Qr prog .sub 3 x31 (.int .i64 1) fun x312=>
 QZ I30 n31 [x312] h50)
 (M29 [x31] h49)) fun M29=>∀x31_1:Value,∀h51:Qe,M29 [x31_1] h51->
 Qb prog 90 #[x1,x284] h51 fun x321 h52=>
 M25 [x321] h52)
 (M25 [(.int .u32 0)] h42)) fun M25=>∀x27:Value,∀h53:Qe,M25 [x27] h53->
 QG (fun M32=>
 Q5 x0 fun x323=>
 Qh x323 27 fun x324=>
 LdK h53 x324 fun x325=>
 Qr prog .neq 147 x325 (.slice none 0 0) fun x326=>
 IfK x326
 (Q5 x0 fun x328=>
 Qh x328 27 fun x329=>
 LdK h53 x329 fun x330=>
 YQ x330 fun x331=>
 Qb prog 97 #[x1,x331] h53 fun _x334 h54=>
 QG (fun M33=>
 Qr prog .sub 3 x331 (.int .i64 1) fun x336=>
 YH [x336] h54 fun I34 n35=>∀x34:Value,∀h55:Qe,I34 n35 [x34] h55->
 Qr prog .geq 3 x34 (.int .i64 0) fun x338=>
 IfK x338
 (Q5 x0 fun x342=>
 Qh x342 27 fun x343=>
 LdK h55 x343 fun x344=>
 Y7 1 x344 x34 fun x346=>
 LdK h55 x346 fun x347=>
 Qb prog 98 #[x347,x1] h55 fun _x349 h56=>
 Qr prog .sub 3 x34 (.int .i64 1) fun x340=>
 QZ I34 n35 [x340] h56)
 (M33 [x34] h55)) fun M33=>∀x34_1:Value,∀h57:Qe,M33 [x34_1] h57->
 Qb prog 90 #[x1,x331] h57 fun x352 h58=>
 M32 [x352] h58)
 (M32 [(.int .u32 0)] h53)) fun M32=>∀x32:Value,∀h59:Qe,M32 [x32] h59->
 QG (fun M36=>
 Q5 x0 fun x354=>
 Qh x354 28 fun x355=>
 LdK h59 x355 fun x356=>
 Qr prog .neq 69 x356 (.slice none 0 0) fun x357=>
 IfK x357
 (Q5 x0 fun x360=>
 Qh x360 28 fun x361=>
 LdK h59 x361 fun x362=>
 Qb prog 86 #[x1,x362] h59 fun x363 h60=>
 M36 [x363] h60)
 (M36 [(.int .u32 0)] h59)) fun M36=>∀x35:Value,∀h61:Qe,M36 [x35] h61->
 QG (fun M37=>
 Q5 x0 fun x365=>
 Qh x365 29 fun x366=>
 LdK h61 x366 fun x367=>
 Qr prog .neq 136 x367 (.slice none 0 0) fun x368=>
 IfK x368
 (Q5 x0 fun x370=>
 Qh x370 29 fun x371=>
 LdK h61 x371 fun x372=>
 YQ x372 fun x373=>
 Qb prog 99 #[x1,x373] h61 fun _x376 h62=>
 QG (fun M38=>
 Qr prog .sub 3 x373 (.int .i64 1) fun x378=>
 YH [x378] h62 fun I39 n40=>∀x38:Value,∀h63:Qe,I39 n40 [x38] h63->
 Qr prog .geq 3 x38 (.int .i64 0) fun x380=>
 IfK x380
 (Q5 x0 fun x384=>
 Qh x384 29 fun x385=>
 LdK h63 x385 fun x386=>
 Y7 1 x386 x38 fun x388=>
 LdK h63 x388 fun x389=>
 Qb prog 89 #[x389,x1] h63 fun _x391 h64=>
 Qr prog .sub 3 x38 (.int .i64 1) fun x382=>
 QZ I39 n40 [x382] h64)
 (M38 [x38] h63)) fun M38=>∀x38_1:Value,∀h65:Qe,M38 [x38_1] h65->
 Qb prog 90 #[x1,x373] h65 fun x394 h66=>
 M37 [x394] h66)
 (M37 [(.int .u32 0)] h61)) fun M37=>∀x36:Value,∀h67:Qe,M37 [x36] h67->
 QG (fun M41=>
 Q5 x0 fun x396=>
 Qh x396 30 fun x397=>
 LdK h67 x397 fun x398=>
 Qr prog .neq 34 x398 (.slice none 0 0) fun x399=>
 IfK x399
 (Q5 x0 fun x401=>
 Qh x401 30 fun x402=>
 LdK h67 x402 fun x403=>
 YQ x403 fun x404=>
 Qb prog 100 #[x1,x404] h67 fun _x407 h68=>
 QG (fun M42=>
 Qr prog .sub 3 x404 (.int .i64 1) fun x409=>
 YH [x409] h68 fun I43 n44=>∀x41:Value,∀h69:Qe,I43 n44 [x41] h69->
 Qr prog .geq 3 x41 (.int .i64 0) fun x411=>
 IfK x411
 (Q5 x0 fun x416=>
 Qh x416 30 fun x417=>
 LdK h69 x417 fun x418=>
 Y7 1 x418 x41 fun x420=>
 LdK h69 x420 fun x421=>
 Qb prog 101 #[x1,x421] h69 fun _x422 h70=>
 Qr prog .sub 3 x41 (.int .i64 1) fun x413=>
 QZ I43 n44 [x413] h70)
 (M42 [x41] h69)) fun M42=>∀x41_1:Value,∀h71:Qe,M42 [x41_1] h71->
 Qb prog 90 #[x1,x404] h71 fun x425 h72=>
 M41 [x425] h72)
 (M41 [(.int .u32 0)] h67)) fun M41=>∀x39:Value,∀h73:Qe,M41 [x39] h73->
 QG (fun M45=>
 Q5 x0 fun x427=>
 Qh x427 31 fun x428=>
 LdK h73 x428 fun x429=>
 Qr prog .neq 148 x429 (.slice none 0 0) fun x430=>
 IfK x430
 (Q5 x0 fun x432=>
 Qh x432 31 fun x433=>
 LdK h73 x433 fun x434=>
 YQ x434 fun x435=>
 Qb prog 102 #[x1,x435] h73 fun _x438 h74=>
 QG (fun M46=>
 Qr prog .sub 3 x435 (.int .i64 1) fun x440=>
 YH [x440] h74 fun I47 n48=>∀x44:Value,∀h75:Qe,I47 n48 [x44] h75->
 Qr prog .geq 3 x44 (.int .i64 0) fun x442=>
 IfK x442
 (Q5 x0 fun x447=>
 Qh x447 31 fun x448=>
 LdK h75 x448 fun x449=>
 Y7 1 x449 x44 fun x451=>
 LdK h75 x451 fun x452=>
 Qb prog 103 #[x1,x452] h75 fun _x453 h76=>
 Qr prog .sub 3 x44 (.int .i64 1) fun x444=>
 QZ I47 n48 [x444] h76)
 (M46 [x44] h75)) fun M46=>∀x44_1:Value,∀h77:Qe,M46 [x44_1] h77->
 Qb prog 90 #[x1,x435] h77 fun x456 h78=>
 M45 [x456] h78)
 (M45 [(.int .u32 0)] h73)) fun M45=>∀x42:Value,∀h79:Qe,M45 [x42] h79->
 Q5 x0 fun x458=>
 Qh x458 32 fun x459=>
 LdK h79 x459 fun x460=>
 Qb prog 104 #[x460,x1] h79 fun x462 h80=>
 QG (fun M49=>
 Q5 x0 fun x464=>
 Qh x464 33 fun x465=>
 LdK h80 x465 fun x466=>
 Qr prog .neq 140 x466 (.slice none 0 0) fun x467=>
 IfK x467
 (Q5 x0 fun x469=>
 Qh x469 33 fun x470=>
 LdK h80 x470 fun x471=>
 YQ x471 fun x472=>
 Qf4 h80 65 4 z65 x472 x472 fun x474 h81=>
 QG (fun M50=>
 YH [(.int .i64 0)] h81 fun I51 n52=>∀x49:Value,∀h82:Qe,I51 n52 [x49] h82->
 Qr prog .lss 3 x49 x472 fun x477=>
 IfK x477
 (Q5 x0 fun x483=>
 Qh x483 33 fun x484=>
 LdK h82 x484 fun x485=>
 Y7 1 x485 x49 fun x487=>
 LdK h82 x487 fun x488=>
 Qb prog 105 #[x488,x1] h82 fun x490 h83=>
 Y7 1 x474 x49 fun x491=>
 StK h83 1 x491 x490 fun h84=>
 Qr prog .add 3 x49 (.int .i64 1) fun x479=>
 QZ I51 n52 [x479] h84)
 (M50 [x49] h82)) fun M50=>∀x49_1:Value,∀h85:Qe,M50 [x49_1] h85->
 Qb prog 106 #[x1,x472] h85 fun _x494 h86=>
 QG (fun M53=>
 Qr prog .sub 3 x472 (.int .i64 1) fun x496=>
 YH [x496] h86 fun I54 n55=>∀x50:Value,∀h87:Qe,I54 n55 [x50] h87->
 Qr prog .geq 3 x50 (.int .i64 0) fun x498=>
 IfK x498
 (Y7 1 x474 x50 fun x504=>
 LdK h87 x504 fun x505=>
 Qb prog 73 #[x1,x505] h87 fun _x506 h88=>
 Qr prog .sub 3 x50 (.int .i64 1) fun x500=>
 QZ I54 n55 [x500] h88)
 (M53 [x50] h87)) fun M53=>∀x50_1:Value,∀h89:Qe,M53 [x50_1] h89->
 Qb prog 90 #[x1,x472] h89 fun x509 h90=>
 M49 [x509] h90)
 (M49 [(.int .u32 0)] h80)) fun M49=>∀x46:Value,∀h91:Qe,M49 [x46] h91->
 QG (fun M56=>
 Q5 x0 fun x511=>
 Qh x511 35 fun x512=>
 LdK h91 x512 fun x513=>
 Qr prog .neq 35 x513 (.slice none 0 0) fun x514=>
 IfK x514
 (Q5 x0 fun x516=>
 Qh x516 35 fun x517=>
 LdK h91 x517 fun x518=>
 YQ x518 fun x519=>
 Qb prog 107 #[x1,x519] h91 fun _x522 h92=>
 QG (fun M57=>
 Qr prog .sub 3 x519 (.int .i64 1) fun x524=>
 YH [x524] h92 fun I58 n59=>∀x53:Value,∀h93:Qe,I58 n59 [x53] h93->
 Qr prog .geq 3 x53 (.int .i64 0) fun x526=>
 IfK x526
 (Q5 x0 fun x531=>
 Qh x531 35 fun x532=>
 LdK h93 x532 fun x533=>
 Y7 1 x533 x53 fun x535=>
 LdK h93 x535 fun x536=>
 Qb prog 108 #[x1,x536] h93 fun _x537 h94=>
 Qr prog .sub 3 x53 (.int .i64 1) fun x528=>
 QZ I58 n59 [x528] h94)
 (M57 [x53] h93)) fun M57=>∀x53_1:Value,∀h95:Qe,M57 [x53_1] h95->
 Qb prog 90 #[x1,x519] h95 fun x540 h96=>
 M56 [x540] h96)
 (M56 [(.int .u32 0)] h91)) fun M56=>∀x51:Value,∀h97:Qe,M56 [x51] h97->
 QG (fun M60=>
 Q5 x0 fun x542=>
 Qh x542 36 fun x543=>
 LdK h97 x543 fun x544=>
 Qr prog .neq 140 x544 (.slice none 0 0) fun x545=>
 IfK x545
 (Q5 x0 fun x547=>
 Qh x547 36 fun x548=>
 LdK h97 x548 fun x549=>
 YQ x549 fun x550=>
 Qf4 h97 65 4 z65 x550 x550 fun x552 h98=>
 QG (fun M61=>
 YH [(.int .i64 0)] h98 fun I62 n63=>∀x57:Value,∀h99:Qe,I62 n63 [x57] h99->
 Qr prog .lss 3 x57 x550 fun x555=>
 IfK x555
 (Q5 x0 fun x561=>
 Qh x561 36 fun x562=>
 LdK h99 x562 fun x563=>
 Y7 1 x563 x57 fun x565=>
 LdK h99 x565 fun x566=>
 Qb prog 105 #[x566,x1] h99 fun x568 h100=>
 Y7 1 x552 x57 fun x569=>
 StK h100 1 x569 x568 fun h101=>
 Qr prog .add 3 x57 (.int .i64 1) fun x557=>
 QZ I62 n63 [x557] h101)
 (M61 [x57] h99)) fun M61=>∀x57_1:Value,∀h102:Qe,M61 [x57_1] h102->
 Qb prog 109 #[x1,x550] h102 fun _x572 h103=>
 QG (fun M64=>
 Qr prog .sub 3 x550 (.int .i64 1) fun x574=>
 YH [x574] h103 fun I65 n66=>∀x58:Value,∀h104:Qe,I65 n66 [x58] h104->
 Qr prog .geq 3 x58 (.int .i64 0) fun x576=>
 IfK x576
 (Y7 1 x552 x58 fun x582=>
 LdK h104 x582 fun x583=>
 Qb prog 73 #[x1,x583] h104 fun _x584 h105=>
 Qr prog .sub 3 x58 (.int .i64 1) fun x578=>
 QZ I65 n66 [x578] h105)
 (M64 [x58] h104)) fun M64=>∀x58_1:Value,∀h106:Qe,M64 [x58_1] h106->
 Qb prog 90 #[x1,x550] h106 fun x587 h107=>
 M60 [x587] h107)
 (M60 [(.int .u32 0)] h97)) fun M60=>∀x54:Value,∀h108:Qe,M60 [x54] h108->
 QG (fun M67=>
 Q5 x0 fun x589=>
 Qh x589 38 fun x590=>
 LdK h108 x590 fun x591=>
 Qr prog .neq 35 x591 (.slice none 0 0) fun x592=>
 IfK x592
 (Q5 x0 fun x594=>
 Qh x594 38 fun x595=>
 LdK h108 x595 fun x596=>
 YQ x596 fun x597=>
 Qb prog 110 #[x1,x597] h108 fun _x600 h109=>
 QG (fun M68=>
 Qr prog .sub 3 x597 (.int .i64 1) fun x602=>
 YH [x602] h109 fun I69 n70=>∀x61:Value,∀h110:Qe,I69 n70 [x61] h110->
 Qr prog .geq 3 x61 (.int .i64 0) fun x604=>
 IfK x604
 (Q5 x0 fun x609=>
 Qh x609 38 fun x610=>
 LdK h110 x610 fun x611=>
 Y7 1 x611 x61 fun x613=>
 LdK h110 x613 fun x614=>
 Qb prog 108 #[x1,x614] h110 fun _x615 h111=>
 Qr prog .sub 3 x61 (.int .i64 1) fun x606=>
 QZ I69 n70 [x606] h111)
 (M68 [x61] h110)) fun M68=>∀x61_1:Value,∀h112:Qe,M68 [x61_1] h112->
 Qb prog 90 #[x1,x597] h112 fun x618 h113=>
 M67 [x618] h113)
 (M67 [(.int .u32 0)] h108)) fun M67=>∀x59:Value,∀h114:Qe,M67 [x59] h114->
 QG (fun M71=>
 Q5 x0 fun x620=>
 Qh x620 40 fun x621=>
 LdK h114 x621 fun x622=>
 Qr prog .neq 35 x622 (.slice none 0 0) fun x623=>
 IfK x623
 (Q5 x0 fun x625=>
 Qh x625 40 fun x626=>
 LdK h114 x626 fun x627=>
 YQ x627 fun x628=>
 Qb prog 111 #[x1,x628] h114 fun _x631 h115=>
 QG (fun M72=>
 Qr prog .sub 3 x628 (.int .i64 1) fun x633=>
 YH [x633] h115 fun I73 n74=>∀x64:Value,∀h116:Qe,I73 n74 [x64] h116->
 Qr prog .geq 3 x64 (.int .i64 0) fun x635=>
 IfK x635
 (Q5 x0 fun x640=>
 Qh x640 40 fun x641=>
 LdK h116 x641 fun x642=>
 Y7 1 x642 x64 fun x644=>
 LdK h116 x644 fun x645=>
 Qb prog 108 #[x1,x645] h116 fun _x646 h117=>
 Qr prog .sub 3 x64 (.int .i64 1) fun x637=>
 QZ I73 n74 [x637] h117)
 (M72 [x64] h116)) fun M72=>∀x64_1:Value,∀h118:Qe,M72 [x64_1] h118->
 Qb prog 90 #[x1,x628] h118 fun x649 h119=>
 M71 [x649] h119)
 (M71 [(.int .u32 0)] h114)) fun M71=>∀x62:Value,∀h120:Qe,M71 [x62] h120->
 Q5 x0 fun x651=>
 Qh x651 41 fun x652=>
 LdK h120 x652 fun x653=>
 Qb prog 112 #[x653,x1] h120 fun x655 h121=>
 Q5 x0 fun x657=>
 Qh x657 42 fun x658=>
 LdK h121 x658 fun x659=>
 Qb prog 113 #[x659,x1] h121 fun x661 h122=>
 QG (fun M75=>
 Q5 x0 fun x663=>
 Qh x663 43 fun x664=>
 LdK h122 x664 fun x665=>
 Qr prog .neq 152 x665 (.slice none 0 0) fun x666=>
 IfK x666
 (Q5 x0 fun x668=>
 Qh x668 43 fun x669=>
 LdK h122 x669 fun x670=>
 YQ x670 fun x671=>
 Qb prog 114 #[x1,x671] h122 fun _x674 h123=>
 QG (fun M76=>
 Qr prog .sub 3 x671 (.int .i64 1) fun x676=>
 YH [x676] h123 fun I77 n78=>∀x69:Value,∀h124:Qe,I77 n78 [x69] h124->
 Qr prog .geq 3 x69 (.int .i64 0) fun x678=>
 IfK x678
 (Q5 x0 fun x683=>
 Qh x683 43 fun x684=>
 LdK h124 x684 fun x685=>
 Y7 1 x685 x69 fun x687=>
 LdK h124 x687 fun x688=>
 Qb prog 115 #[x1,x688] h124 fun _x689 h125=>
 Qr prog .sub 3 x69 (.int .i64 1) fun x680=>
 QZ I77 n78 [x680] h125)
 (M76 [x69] h124)) fun M76=>∀x69_1:Value,∀h126:Qe,M76 [x69_1] h126->
 Qb prog 90 #[x1,x671] h126 fun x692 h127=>
 M75 [x692] h127)
 (M75 [(.int .u32 0)] h122)) fun M75=>∀x67:Value,∀h128:Qe,M75 [x67] h128->
 packTail x0 x1 x78 x6 x95 x8 x11 x16 x226 x22 x243 x24 x27 x32 x35 x36 x39 x42 x462 x46 x51 x54 x59 x62 x655 x661 x67 h128 R)
theorem packHead_eq (x0 x1:Value) (h:Qe) (R:Kn):s21 x0 x1 h R=packHead x0 x1 h R:=by kernel_rfl
section
variable {H:Qe} {p:Nat} {S:BS} {F:Cut} {r:Nat} (hB:Qc H p S F r) {R:Kn}
include hB
theorem pos_slot {S0:BS} {c:Nat} {v:Value} {o:Option Qav} (hI:YA S0 49 c S) (ho:OptAt v o (Vec3At F v)) (hl:S.buf.length+200<=536870912)
  (hR:∀H',Qc H' p (slotPos o S) F 0->R (.tuple #[]) H'):FnS prog 117 #[v,.pointer (some ⟨p,0,none⟩)] H fun x h=>FnS prog 118 #[.pointer (some ⟨p,0,none⟩),x] h R:=by
 cases o with
 |none=>
  have hv:v= .pointer none:=ho
  subst hv
  apply w117
  unfold s117
  rw[Ys (by kernel_rfl)]
  refine Qdq (off:=0) hB hI.nested (Or.inl rfl) (by rw[hI.vtl];decide) ?_
  exact hR
 |some d=>
  obtain ⟨w,h1,h2⟩:=ho
  refine Vec3T_Pack hB h1 h2 (by omega) ?_
  intro H1 g1
  have i1:=(hI.prep (k:=8) (a:=32) Qg6).place (QgU d)
  refine Qdq g1 i1.nested (Or.inr rfl) (by rw[i1.vtl];decide) ?_
  exact hR
theorem ty_slot {S0:BS} {c:Nat} {amb:Bool} {ty color:UInt8} {v cc:Value} {kids:List Mon} {o:Nat} {t:TypeId} {q i f:Nat} {cells:Array Value} {k:Qe->Prop} (hu:(prog).underlying t=some (.pointer ((prog).pointee t))) (hI:YA S0 49 c S) (obj:YR F (.pointer (some ⟨q,0,none⟩)) cells) (hc:cells[i]?=some v) (hv:Qd1 F amb ty color v cc kids)
  (hf:∀H,Qc H p S F 0->∀R:Kn,(∀H',Qc H' p (slotN 1 ty.toNat 0 o S) F 0->R (.tuple #[]) H')->FnS prog f #[.pointer (some ⟨p,0,none⟩),u8n ty] H R)
  (hk:∀H',Qc H' p (slotTy ty o S) F 0->k H'):
  QG (fun M79=>Q5 (.pointer (some ⟨q,0,none⟩)) fun x729=>Qh x729 i fun x730=>LdK H x730 fun x731=>Qr prog .neq t x731 (.pointer none) fun x732=>
   IfK x732 (Q5 (.pointer (some ⟨q,0,none⟩)) fun x735=>Qh x735 i fun x736=>LdK H x736 fun x737=>Q5 x737 fun x738=>Qh x738 0 fun x739=>LdK H x739 fun x740=>Qb prog f #[.pointer (some ⟨p,0,none⟩),x740] H fun _x741 h137=>M79 [] h137)
   (M79 [] H)) fun M79=>∀h138:Qe,M79 [] h138->k h138:=by
 refine Q8 (fun _ h=>Qc h p (slotTy ty o S) F 0) ?_ (fun h hb=>hk h hb)
 refine obj.ld hB.cut (i:=i) v hc ?_
 rcases hv with ⟨rfl,rfl,_⟩|⟨h0,w,hv,_⟩
 ·rw[QQ hu]
  exact hB.room (Nat.zero_le _)
 ·obtain ⟨q2,e2,rfl,hq2⟩:=hv
  have hv:YR F (.pointer (some ⟨q2,0,none⟩)) #[u8n ty,w]:=⟨q2,e2,rfl,hq2⟩
  rw[QQ hu]
  show IfK (.bool true) _ _
  rw[QcN]
  refine obj.ld hB.cut (i:=i) _ hc ?_
  refine hv.ld hB.cut (i:=0) (u8n ty) rfl ?_
  refine hf H (hB.room (Nat.zero_le _)) _ ?_
  intro H' h'
  have e1:slotTy ty o S=slotN 1 ty.toNat 0 o S:=by unfold slotTy;rw[if_neg h0]
  rw[e1]
  exact h'
end
set_option maxHeartbeats 4000000 in
theorem packTail_ok {H:Qe} {p:Nat} {S:BS} {F:Cut} {r:Nat} (hB:Qc H p S F r) {R:Kn} {q:Nat} {d:Qbg} {c:MTV} {enemy test uniq amb:List Mon} (hI:Inv S) (obj:YR F (.pointer (some ⟨q,0,none⟩)) (mtCells d c)) (own:MTD F d c enemy test uniq amb) (hl:S.buf.length+10000<=536870912)
  {o0 o1 o2 o3 o4 o5 o6 o7 o8 o9 o10 o11 o12 o13 o14 o15 o16 o17 o18 o19 o20 o21 o22 o23 o24:Nat} (p0:o0<=S.buf.length) (p1:o1<=S.buf.length) (p2:o2<=S.buf.length) (p3:o3<=S.buf.length) (p4:o4<=S.buf.length) (p5:o5<=S.buf.length) (p6:o6<=S.buf.length) (p7:o7<=S.buf.length) (p8:o8<=S.buf.length) (p9:o9<=S.buf.length) (p10:o10<=S.buf.length) (p11:o11<=S.buf.length) (p12:o12<=S.buf.length) (p13:o13<=S.buf.length) (p14:o14<=S.buf.length) (p15:o15<=S.buf.length) (p16:o16<=S.buf.length) (p17:o17<=S.buf.length) (p18:o18<=S.buf.length) (p19:o19<=S.buf.length) (p20:o20<=S.buf.length) (p21:o21<=S.buf.length) (p22:o22<=S.buf.length) (p23:o23<=S.buf.length) (p24:o24<=S.buf.length)
  (hR:∀H',Qc H' p (endT (Zt (Yi d [o0,o1,o2,o3,o4,o5,o6,o7,o8,o9,o10,o11,o12,o13,o14,o15,o16,o17,o18,o19,o20,o21,o22,o23,o24]) (Qs 49 S))).1 F 0->R (.int .u32 ((endT (Zt (Yi d [o0,o1,o2,o3,o4,o5,o6,o7,o8,o9,o10,o11,o12,o13,o14,o15,o16,o17,o18,o19,o20,o21,o22,o23,o24]) (Qs 49 S))).2:Nat)) H'):
  packTail (.pointer (some ⟨q,0,none⟩)) (.pointer (some ⟨p,0,none⟩)) (.int .u32 (o0:Nat)) (.int .u32 (o1:Nat)) (.int .u32 (o2:Nat)) (.int .u32 (o3:Nat)) (.int .u32 (o4:Nat)) (.int .u32 (o5:Nat)) (.int .u32 (o6:Nat)) (.int .u32 (o7:Nat)) (.int .u32 (o8:Nat)) (.int .u32 (o9:Nat)) (.int .u32 (o10:Nat)) (.int .u32 (o11:Nat)) (.int .u32 (o12:Nat)) (.int .u32 (o13:Nat)) (.int .u32 (o14:Nat)) (.int .u32 (o15:Nat)) (.int .u32 (o16:Nat)) (.int .u32 (o17:Nat)) (.int .u32 (o18:Nat)) (.int .u32 (o19:Nat)) (.int .u32 (o20:Nat)) (.int .u32 (o21:Nat)) (.int .u32 (o22:Nat)) (.int .u32 (o23:Nat)) (.int .u32 (o24:Nat)) H R:=by
 unfold packTail
 refine Qh2 hB hI.nested ?_
 intro H0 g0
 have i0:=YA.start (n:=49) hI.min
 refine obj.ld g0.cut (i:=0) c.pos rfl ?_
 refine pos_slot g0 i0 own.pos (by have:=i0.len;omega) ?_
 intro H1 g1
 have i1:=i0.slotPos d.pos
 refine obj.ld g1.cut (i:=1) (Qbh d.mana) rfl ?_
 refine Qgb (x:=d.mana.toNat) g1 d.mana.toNat_lt (by rw[i1.vtl];decide) (by have:=i1.len;omega) ?_
 intro H2 g2
 have i2:=i1.slotN (k:=2) (x:=d.mana.toNat) (d:=150) (o:=1) P2_2
 refine obj.ld g2.cut (i:=2) (Qbh d.hp) rfl ?_
 refine Qha (x:=d.hp.toNat) g2 d.hp.toNat_lt (by rw[i2.vtl];decide) (by have:=i2.len;omega) ?_
 intro H3 g3
 have i3:=i2.slotN (k:=2) (x:=d.hp.toNat) (d:=100) (o:=2) P2_2
 refine Qgc (off:=o0) g3 (by have:=i3.le;omega) (by rw[i3.vtl];decide) (by have:=i3.len;omega) ?_
 intro H4 g4
 have i4:=i3.slotOff (off:=o0) (o:=3)
 refine Qe0 (off:=o1) g4 (by have:=i4.le;omega) (by rw[i4.vtl];decide) (by have:=i4.len;omega) ?_
 intro H5 g5
 have i5:=i4.slotOff (off:=o1) (o:=5)
 refine obj.ld g5.cut (i:=5) (u8n d.color) rfl ?_
 refine QfF (x:=d.color.toNat) g5 d.color.toNat_lt (by rw[i5.vtl];decide) (by have:=i5.len;omega) ?_
 intro H6 g6
 have i6:=i5.slotN (k:=1) (x:=d.color.toNat) (d:=8) (o:=6) P2_1
 refine ty_slot g6 (ty:=d.testTy) (o:=7) (by kernel_rfl) i6 obj (i:=6) rfl own.test (fun H hb R hR=>Qej hb d.testTy.toNat_lt (by rw[i6.vtl];decide) (by have:=i6.len;omega) hR) ?_
 intro H7 g7
 have i7:=i6.slotTy (ty:=d.testTy) (o:=7)
 refine Qg5 (off:=o2) g7 (by have:=i7.le;omega) (by rw[i7.vtl];decide) (by have:=i7.len;omega) ?_
 intro H8 g8
 have i8:=i7.slotOff (off:=o2) (o:=8)
 refine Qft (off:=o3) g8 (by have:=i8.le;omega) (by rw[i8.vtl];decide) (by have:=i8.len;omega) ?_
 intro H9 g9
 have i9:=i8.slotOff (off:=o3) (o:=9)
 refine Qc9 (off:=o4) g9 (by have:=i9.le;omega) (by rw[i9.vtl];decide) (by have:=i9.len;omega) ?_
 intro H10 g10
 have i10:=i9.slotOff (off:=o4) (o:=10)
 refine Qc8 (off:=o5) g10 (by have:=i10.le;omega) (by rw[i10.vtl];decide) (by have:=i10.len;omega) ?_
 intro H11 g11
 have i11:=i10.slotOff (off:=o5) (o:=11)
 refine QfB (off:=o6) g11 (by have:=i11.le;omega) (by rw[i11.vtl];decide) (by have:=i11.len;omega) ?_
 intro H12 g12
 have i12:=i11.slotOff (off:=o6) (o:=12)
 refine Qbx (off:=o7) g12 (by have:=i12.le;omega) (by rw[i12.vtl];decide) (by have:=i12.len;omega) ?_
 intro H13 g13
 have i13:=i12.slotOff (off:=o7) (o:=13)
 refine Qe3 (off:=o8) g13 (by have:=i13.le;omega) (by rw[i13.vtl];decide) (by have:=i13.len;omega) ?_
 intro H14 g14
 have i14:=i13.slotOff (off:=o8) (o:=14)
 refine obj.ld g14.cut (i:=13) (.bool d.bool) rfl ?_
 refine Qei g14 (by rw[i14.vtl];decide) (by have:=i14.len;omega) ?_
 intro H15 g15
 have i15:=i14.slotN (k:=1) (x:=if d.bool then 1 else 0) (d:=0) (o:=15) P2_1
 refine obj.ld g15.cut (i:=14) (Qf5 d.s32) rfl ?_
 refine QcK (x:=d.s32.toNat) g15 d.s32.toNat_lt (by rw[i15.vtl];decide) (by have:=i15.len;omega) ?_
 intro H16 g16
 have i16:=i15.slotN (k:=4) (x:=d.s32.toNat) (d:=0) (o:=16) P2_4
 refine obj.ld g16.cut (i:=15) (Zs d.u32) rfl ?_
 refine Qcz (x:=d.u32.toNat) g16 d.u32.toNat_lt (by rw[i16.vtl];decide) (by have:=i16.len;omega) ?_
 intro H17 g17
 have i17:=i16.slotN (k:=4) (x:=d.u32.toNat) (d:=0) (o:=17) P2_4
 refine obj.ld g17.cut (i:=16) (Qdi d.s64) rfl ?_
 refine QcH (x:=d.s64.toNat) g17 d.s64.toNat_lt (by rw[i17.vtl];decide) (by have:=i17.len;omega) ?_
 intro H18 g18
 have i18:=i17.slotN (k:=8) (x:=d.s64.toNat) (d:=0) (o:=18) Qg6
 refine obj.ld g18.cut (i:=17) (YY d.u64) rfl ?_
 refine QcP (x:=d.u64.toNat) g18 d.u64.toNat_lt (by rw[i18.vtl];decide) (by have:=i18.len;omega) ?_
 intro H19 g19
 have i19:=i18.slotN (k:=8) (x:=d.u64.toNat) (d:=0) (o:=19) Qg6
 refine obj.ld g19.cut (i:=18) (Qf5 d.s32a) rfl ?_
 refine Qcw (x:=d.s32a.toNat) g19 d.s32a.toNat_lt (by rw[i19.vtl];decide) (by have:=i19.len;omega) ?_
 intro H20 g20
 have i20:=i19.slotN (k:=4) (x:=d.s32a.toNat) (d:=0) (o:=20) P2_4
 refine obj.ld g20.cut (i:=19) (Zs d.u32a) rfl ?_
 refine Qcr (x:=d.u32a.toNat) g20 d.u32a.toNat_lt (by rw[i20.vtl];decide) (by have:=i20.len;omega) ?_
 intro H21 g21
 have i21:=i20.slotN (k:=4) (x:=d.u32a.toNat) (d:=0) (o:=21) P2_4
 refine obj.ld g21.cut (i:=20) (Qdi d.s64a) rfl ?_
 refine Qcq (x:=d.s64a.toNat) g21 d.s64a.toNat_lt (by rw[i21.vtl];decide) (by have:=i21.len;omega) ?_
 intro H22 g22
 have i22:=i21.slotN (k:=8) (x:=d.s64a.toNat) (d:=0) (o:=22) Qg6
 refine obj.ld g22.cut (i:=21) (YY d.u64a) rfl ?_
 refine Qcs (x:=d.u64a.toNat) g22 d.u64a.toNat_lt (by rw[i22.vtl];decide) (by have:=i22.len;omega) ?_
 intro H23 g23
 have i23:=i22.slotN (k:=8) (x:=d.u64a.toNat) (d:=0) (o:=23) Qg6
 refine Qcv (off:=o9) g23 (by have:=i23.le;omega) (by rw[i23.vtl];decide) (by have:=i23.len;omega) ?_
 intro H24 g24
 have i24:=i23.slotOff (off:=o9) (o:=24)
 refine obj.ld g24.cut (i:=23) (QcV d.f) rfl ?_
 refine QfI g24 (by rw[i24.vtl];decide) (by have:=i24.len;omega) ?_
 intro H25 g25
 have i25:=i24.slotF (x:=d.f.toNat) (d:=1078530000) (o:=25)
 refine obj.ld g25.cut (i:=24) (QcV d.f2) rfl ?_
 refine Qfa g25 (by rw[i25.vtl];decide) (by have:=i25.len;omega) ?_
 intro H26 g26
 have i26:=i25.slotF (x:=d.f2.toNat) (d:=1077936128) (o:=26)
 refine obj.ld g26.cut (i:=25) (QcV d.f3) rfl ?_
 refine QeW g26 (by rw[i26.vtl];decide) (by have:=i26.len;omega) ?_
 intro H27 g27
 have i27:=i26.slotF (x:=d.f3.toNat) (d:=0) (o:=27)
 refine QbY (off:=o10) g27 (by have:=i27.le;omega) (by rw[i27.vtl];decide) (by have:=i27.len;omega) ?_
 intro H28 g28
 have i28:=i27.slotOff (off:=o10) (o:=28)
 refine QaZ (off:=o11) g28 (by have:=i28.le;omega) (by rw[i28.vtl];decide) (by have:=i28.len;omega) ?_
 intro H29 g29
 have i29:=i28.slotOff (off:=o11) (o:=29)
 refine Qg8 (off:=o12) g29 (by have:=i29.le;omega) (by rw[i29.vtl];decide) (by have:=i29.len;omega) ?_
 intro H30 g30
 have i30:=i29.slotOff (off:=o12) (o:=30)
 refine Qfu (off:=o13) g30 (by have:=i30.le;omega) (by rw[i30.vtl];decide) (by have:=i30.len;omega) ?_
 intro H31 g31
 have i31:=i30.slotOff (off:=o13) (o:=31)
 refine Qdd (off:=o14) g31 (by have:=i31.le;omega) (by rw[i31.vtl];decide) (by have:=i31.len;omega) ?_
 intro H32 g32
 have i32:=i31.slotOff (off:=o14) (o:=32)
 refine QcC (off:=o15) g32 (by have:=i32.le;omega) (by rw[i32.vtl];decide) (by have:=i32.len;omega) ?_
 intro H33 g33
 have i33:=i32.slotOff (off:=o15) (o:=33)
 refine QbP (off:=o16) g33 (by have:=i33.le;omega) (by rw[i33.vtl];decide) (by have:=i33.len;omega) ?_
 intro H34 g34
 have i34:=i33.slotOff (off:=o16) (o:=34)
 refine QbQ (off:=o17) g34 (by have:=i34.le;omega) (by rw[i34.vtl];decide) (by have:=i34.len;omega) ?_
 intro H35 g35
 have i35:=i34.slotOff (off:=o17) (o:=35)
 refine obj.ld g35.cut (i:=34) (YY d.singleWeak) rfl ?_
 refine QbL (x:=d.singleWeak.toNat) g35 d.singleWeak.toNat_lt (by rw[i35.vtl];decide) (by have:=i35.len;omega) ?_
 intro H36 g36
 have i36:=i35.slotN (k:=8) (x:=d.singleWeak.toNat) (d:=0) (o:=36) Qg6
 refine Qbd (off:=o18) g36 (by have:=i36.le;omega) (by rw[i36.vtl];decide) (by have:=i36.len;omega) ?_
 intro H37 g37
 have i37:=i36.slotOff (off:=o18) (o:=37)
 refine QaE (off:=o19) g37 (by have:=i37.le;omega) (by rw[i37.vtl];decide) (by have:=i37.len;omega) ?_
 intro H38 g38
 have i38:=i37.slotOff (off:=o19) (o:=38)
 refine obj.ld g38.cut (i:=37) (YY d.coOwning) rfl ?_
 refine Qcb (x:=d.coOwning.toNat) g38 d.coOwning.toNat_lt (by rw[i38.vtl];decide) (by have:=i38.len;omega) ?_
 intro H39 g39
 have i39:=i38.slotN (k:=8) (x:=d.coOwning.toNat) (d:=0) (o:=39) Qg6
 refine Qaz (off:=o20) g39 (by have:=i39.le;omega) (by rw[i39.vtl];decide) (by have:=i39.len;omega) ?_
 intro H40 g40
 have i40:=i39.slotOff (off:=o20) (o:=40)
 refine obj.ld g40.cut (i:=39) (YY d.nonOwning) rfl ?_
 refine Qc0 (x:=d.nonOwning.toNat) g40 d.nonOwning.toNat_lt (by rw[i40.vtl];decide) (by have:=i40.len;omega) ?_
 intro H41 g41
 have i41:=i40.slotN (k:=8) (x:=d.nonOwning.toNat) (d:=0) (o:=41) Qg6
 refine Qay (off:=o21) g41 (by have:=i41.le;omega) (by rw[i41.vtl];decide) (by have:=i41.len;omega) ?_
 intro H42 g42
 have i42:=i41.slotOff (off:=o21) (o:=42)
 refine ty_slot g42 (ty:=d.uniqTy) (o:=43) (by kernel_rfl) i42 obj (i:=41) rfl own.uniq (fun H hb R hR=>Qd2 hb d.uniqTy.toNat_lt (by rw[i42.vtl];decide) (by have:=i42.len;omega) hR) ?_
 intro H43 g43
 have i43:=i42.slotTy (ty:=d.uniqTy) (o:=43)
 refine Qe6 (off:=o22) g43 (by have:=i43.le;omega) (by rw[i43.vtl];decide) (by have:=i43.len;omega) ?_
 intro H44 g44
 have i44:=i43.slotOff (off:=o22) (o:=44)
 refine ty_slot g44 (ty:=d.ambTy) (o:=45) (by kernel_rfl) i44 obj (i:=42) rfl own.amb (fun H hb R hR=>Qcp hb d.ambTy.toNat_lt (by rw[i44.vtl];decide) (by have:=i44.len;omega) hR) ?_
 intro H45 g45
 have i45:=i44.slotTy (ty:=d.ambTy) (o:=45)
 refine Qdu (off:=o23) g45 (by have:=i45.le;omega) (by rw[i45.vtl];decide) (by have:=i45.len;omega) ?_
 intro H46 g46
 have i46:=i45.slotOff (off:=o23) (o:=46)
 refine Qdg (off:=o24) g46 (by have:=i46.le;omega) (by rw[i46.vtl];decide) (by have:=i46.len;omega) ?_
 intro H47 g47
 have i47:=i46.slotOff (off:=o24) (o:=47)
 refine obj.ld g47.cut (i:=44) (i8V d.signedEnum) rfl ?_
 refine QdP (x:=d.signedEnum.toNat) g47 d.signedEnum.toNat_lt (by rw[i47.vtl];decide) (by have:=i47.len;omega) ?_
 intro H48 g48
 have i48:=i47.slotN (k:=1) (x:=d.signedEnum.toNat) (d:=255) (o:=48) P2_1
 refine QhX g48 i48 (by decide) hI.vts (by omega) hI.nv ?_
 intro H' h'
 exact hR H' h'
end Go.Proofs
namespace Go.Proofs
open Go Go.Vc
open Tryz (prog)
section
variable {H:Qe} {p:Nat} {S:BS} {F:Cut} {r:Nat} (hB:Qc H p S F r) {R:Kn}
include hB
theorem str_pack {xs:List UInt8} (hI:Inv S) (hl:S.buf.length+xs.length+24<=536870912) (hR:∀H',Qc H' p (Qbo xs S).1 F 0->R (.int .u32 ((Qbo xs S).2:Nat)) H'):
  FnS prog 85 #[.pointer (some ⟨p,0,none⟩),Yx xs] H R:=QcR hB (QgI _) hI.nested hl hR
theorem enemy_pack {n:Nat} (ih:PackOk n) {v:Value} {kids:List Mon} (hI:Inv S) (he:(kids=[]/\v= .pointer none)\/∃k,kids=[k]) (hs:Qa3 kids<n) (hm:∀k,k∈kids->MT F v k) (hl:S.buf.length+Qa3 kids+20000<=536870912)
  (hR:∀H',Qc H' p (Zf kids S).1 F 0->R (.int .u32 ((Zf kids S).2:Nat)) H'):FnS prog 21 #[v,.pointer (some ⟨p,0,none⟩)] H R:=by
 rcases he with ⟨rfl,rfl⟩|⟨k,rfl⟩
 ·rw[Zf]at hR
  apply w21
  unfold s21
  rw[Ys (by kernel_rfl)]
  exact hR H (hB.room (Nat.zero_le _))
 ·rw[Zf]at hR
  exact kidOk ih hB hI hs hm hl k rfl R hR
theorem stat_pack {v:Value} {o:Option Qan} (hI:Inv S) (ho:OptAt v o (fun s=>YR F v (statC s))) (hl:S.buf.length+QiM o+5000<=536870912)
  (hR:∀H',Qc H' p (QhF o S).1 F 0->R (.int .u32 ((QhF o S).2:Nat)) H'):FnS prog 93 #[v,.pointer (some ⟨p,0,none⟩)] H R:=by
 cases o with
 |none=>
  have hv:v= .pointer none:=ho
  subst hv
  apply w93
  unfold s93
  rw[Ys (by kernel_rfl)]
  exact hR H (hB.room (Nat.zero_le _))
 |some d=>exact StatT_Pack hB hI ho hl hR
theorem parent_pack {v:Value} {b:Bool} (hI:Inv S) (ho:(b=false/\v= .pointer none)\/(b=true/\∃a,v= .pointer (some a))) (hl:S.buf.length+5000<=536870912)
  (hR:∀H',Qc H' p (Qe2 b S).1 F 0->R (.int .u32 ((Qe2 b S).2:Nat)) H'):FnS prog 104 #[v,.pointer (some ⟨p,0,none⟩)] H R:=by
 rcases ho with ⟨rfl,rfl⟩|⟨rfl,a,rfl⟩
 ·exact QcM hB hI (Or.inl rfl) hl (fun _=>hR H (hB.room (Nat.zero_le _))) (fun h=>absurd rfl h)
 ·exact QcM hB hI (Or.inr ⟨a,rfl⟩) hl (fun h=>by cases h) (fun _=>hR)
end
set_option maxHeartbeats 4000000 in
set_option maxRecDepth 4000 in
theorem packStep {n:Nat} (ih:PackOk n):PackOk (n+1):=by
 intro m hm H p S F r v R hB hI hv hl hR
 cases hv with
 |mk v d c ptrs tables enemy test uniq amb obj own tl tlen tt te tu tq ta=>
 have hpk:Qa8 (.mk d tables enemy test uniq amb) S=packT d (Q1 Qa8 tables) (Zf enemy) (Zf test) (Zf uniq) (Zf amb) S:=by rw[Qa8,funext (Qfq tables)]
 have hcost:QcY (.mk d tables enemy test uniq amb)=Qii d+60*tables.length+Qa3 tables+Qa3 enemy+Qa3 test+Qa3 uniq+Qa3 amb:=by rw[QcY]
 have hD:Qii d=Qii d:=rfl
 conv at hD=>rhs;unfold Qii
 rw[hcost]at hm hl
 rw[hpk]at hR
 clear hpk hcost
 apply w21
 rw[packHead_eq]
 unfold packHead
 obtain ⟨q,e,rfl,hq⟩:=obj
 have obj:YR F (.pointer (some ⟨q,0,none⟩)) (mtCells d c):=⟨q,e,rfl,hq⟩
 rw[Ys (by kernel_rfl)]
 show IfK (.bool false) _ _
 rw[Qao]
 refine obj.ld hB.cut (i:=3) (Yx d.name) rfl ?_
 refine str_pack hB hI (by omega) ?_
 intro H1 b1
 have k1:=Qci d.name hI
 have l1:=k1.len
 generalize hq1:Qbo d.name S=q1 at *
 refine QiL b1 (e0:=5) (xs:=d.inventory) (by kernel_rfl) obj (fld:=4) rfl own.inv k1.inv (by omega) ?_
 intro H2 b2
 have k2:=QiI d.inventory k1.inv
 have l2:=k2.len
 generalize hq2:optB d.inventory q1.1=q2 at *
 refine obj.ld b2.cut (i:=6) c.test rfl ?_
 refine AnyT_Pack b2 own.test (kidOk ih b2 k2.inv (by omega) tu (by omega)) k2.inv (by omega) ?_
 intro H3 b3
 have k3:=QeY (amb:=false) (ty:=d.testTy) (color:=d.testColor) k2.inv (QaO test q2.1 k2.inv)
 have l3:=k3.len
 generalize hq3:QbI false d.testTy d.testColor (Zf test) q2.1=q3 at *
 obtain ⟨pl3,pn3,pe3,pt3⟩:=own.test4
 refine Qdn b3 (e0:=157) (es:=4) (al:=2) (k:=1) (items:=(d.test4.map (fun t:Qbf=>QaJ t.a.toNat t.b.toNat))) (by kernel_rfl) obj (fld:=7) rfl pn3 (by rw[List.length_map];exact pe3) (QR (f:=(fun t:Qbf=>QaJ t.a.toNat t.b.toNat)) (k:=4) (fun _=>Qax _ _)) k3.inv rfl (by decide) (by rw[List.length_map];omega) (by rw[List.length_map];omega) ?_ ?_ ?_
 ·intro H0 hb0 R0 h0
  refine Qd8 hb0 k3.inv.nested (by rw[List.length_map];omega) ?_
  intro H' v' h'
  exact h0 H' v' (h'.room (Y6 (k:=1) _ rfl (by decide)))
 ·intro i h1 h2 S' H' r' hb' hr ha hmn hal hl' R' h'
  simp only[List.getElem_map]at h'⊢
  refine TestT_Pack hb' (pt3 i _ _ (List.getElem?_eq_getElem h1) (List.getElem?_eq_getElem (by simpa using h2))) hr (by omega) (by omega) (by omega) ?_
  exact h'
 intro H4 b4
 have k4:=QbK (es:=4) (al:=2) (items:=(d.test4.map (fun t:Qbf=>QaJ t.a.toNat t.b.toNat))) P2_2 (QR (f:=(fun t:Qbf=>QaJ t.a.toNat t.b.toNat)) (k:=4) (fun _=>Qax _ _) (l:=d.test4)) k3.inv
 have l4:=k4.len
 generalize hq4:Qhc 4 2 (d.test4.map (fun t:Qbf=>QaJ t.a.toNat t.b.toNat)) q3.1=q4 at *
 rw[List.length_map]at l4
 refine QhW b4 (e0:=9) (xs:=d.strings) (pk:=Qbo) (c:=(fun x=>x.length+8)) (sl:=5000) (by kernel_rfl) obj (fld:=8) rfl own.strings (by rw[List.length_map]) k4.inv (by omega) (fun x _ S h=>Qci x h) (by rw[Qd7];omega) ?_ ?_ ?_
 ·intro H0 S0 F0 hb0 hi0 hl0 R0 h0
  refine QaM hb0 hi0.nested (by omega) ?_
  intro H' v' h'
  exact h0 H' v' (h'.room (Y6 (k:=2) _ rfl (by decide)))
 ·intro i h1 h2 S' H' F' hF hb' hi' hl' R' h'
  simp only[List.getElem_map]
  have hl2:S'.buf.length+(d.strings[i].length+8)+5000<=536870912:=hl'
  exact str_pack hb' hi' (by omega) h'
 intro H5 b5
 have k5:=strs_ok d.strings k4.inv
 have l5:=k5.len
 generalize hq5:QiN (Q1 Qbo d.strings) q4.1=q5 at *
 have hts:=costs_sum tables
 refine QhW b5 (e0:=66) (xs:=tables) (pk:=Qa8) (c:=QcY) (sl:=20000) (by kernel_rfl) obj (fld:=9) rfl tl tlen k5.inv (by omega) (fun x _ S h=>(QfG x S h).1) (by rw[hts];omega) ?_ ?_ ?_
 ·intro H0 S0 F0 hb0 hi0 hl0 R0 h0
  refine QaF hb0 hi0.nested (by omega) ?_
  intro H' v' h'
  exact h0 H' v' (h'.room (Y6 (k:=2) _ rfl (by decide)))
 ·intro i h1 h2 S' H' F' hF hb' hi' hl' R' h'
  have hcm:=costs_mem (List.getElem_mem h2)
  exact ih _ (by omega) H' p S' F' _ _ R' hb' hi' ((tt i _ _ (List.getElem?_eq_getElem h1) (List.getElem?_eq_getElem h2)).mono hF) hl' h'
 intro H6 b6
 have k6:=optO_ok (q:=Q1 Qa8 tables) (c:=Qa3 tables) (n:=tables.length) k5.inv (by have:=(Qgk tables _ k5.inv).1;rwa [Qfq]at this) (Qaf _ _ _)
 have l6:=k6.len
 generalize hq6:QiN (Q1 Qa8 tables) q5.1=q6 at *
 refine obj.ld b6.cut (i:=10) c.enemy rfl ?_
 refine enemy_pack b6 ih k6.inv own.enemy (by omega) te (by omega) ?_
 intro H7 b7
 have k7:=QaO enemy q6.1 k6.inv
 have l7:=k7.len
 generalize hq7:Zf enemy q6.1=q7 at *
 refine QiL b7 (e0:=5) (xs:=d.nested) (by kernel_rfl) obj (fld:=11) rfl own.nested k7.inv (by omega) ?_
 intro H8 b8
 have k8:=QiI d.nested k7.inv
 have l8:=k8.len
 generalize hq8:optB d.nested q7.1=q8 at *
 refine obj.ld b8.cut (i:=12) c.empty rfl ?_
 refine stat_pack b8 k8.inv own.empty (by omega) ?_
 intro H9 b9
 have k9:=optStat_ok d.empty k8.inv
 have l9:=k9.len
 generalize hq9:QhF d.empty q8.1=q9 at *
 refine Qdn b9 (e0:=4) (es:=1) (al:=1) (k:=0) (items:=(d.bools.map Qem)) (by kernel_rfl) obj (fld:=22) rfl own.bools (by rw[List.length_map,List.length_map]) (QR (f:=Qem) (k:=1) (fun _=>rfl)) k9.inv rfl (by decide) (by rw[List.length_map];omega) (by rw[List.length_map];omega) ?_ ?_ ?_
 ·intro H0 hb0 R0 h0
  refine QaR hb0 k9.inv.nested (by rw[List.length_map];omega) ?_
  intro H' v' h'
  exact h0 H' v' (h'.room (Y6 (k:=0) _ rfl (by decide)))
 ·intro i h1 h2 S' H' r' hb' hr ha hmn hal hl' R' h'
  simp only[List.getElem_map]at h'⊢
  refine al_Bool hb' (by omega) (by omega) (by omega) ?_
  intro H'' h''
  exact h' H'' _ h''
 intro H10 b10
 have k10:=QbK (es:=1) (al:=1) (items:=(d.bools.map Qem)) P2_1 (QR (f:=Qem) (k:=1) (fun _=>rfl) (l:=d.bools)) k9.inv
 have l10:=k10.len
 generalize hq10:Qhc 1 1 (d.bools.map Qem) q9.1=q10 at *
 rw[List.length_map]at l10
 refine QhW b10 (e0:=9) (xs:=d.strings2) (pk:=Qbo) (c:=(fun x=>x.length+8)) (sl:=5000) (by kernel_rfl) obj (fld:=26) rfl own.strings2 (by rw[List.length_map]) k10.inv (by omega) (fun x _ S h=>Qci x h) (by rw[Qd7];omega) ?_ ?_ ?_
 ·intro H0 S0 F0 hb0 hi0 hl0 R0 h0
  refine QaA hb0 hi0.nested (by omega) ?_
  intro H' v' h'
  exact h0 H' v' (h'.room (Y6 (k:=2) _ rfl (by decide)))
 ·intro i h1 h2 S' H' F' hF hb' hi' hl' R' h'
  simp only[List.getElem_map]
  have hl2:S'.buf.length+(d.strings2[i].length+8)+5000<=536870912:=hl'
  exact str_pack hb' hi' (by omega) h'
 intro H11 b11
 have k11:=strs_ok d.strings2 k10.inv
 have l11:=k11.len
 generalize hq11:QiN (Q1 Qbo d.strings2) q10.1=q11 at *
 obtain ⟨pl11,pn11,pe11,pt11⟩:=own.abil
 refine Qdn b11 (e0:=162) (es:=8) (al:=4) (k:=2) (items:=(d.abilities.map (fun t:Qe7=>Zv t.id.toNat t.dist.toNat))) (by kernel_rfl) obj (fld:=27) rfl pn11 (by rw[List.length_map];exact pe11) (QR (f:=(fun t:Qe7=>Zv t.id.toNat t.dist.toNat)) (k:=8) (fun _=>Qbi _ _)) k11.inv rfl (by decide) (by rw[List.length_map];omega) (by rw[List.length_map];omega) ?_ ?_ ?_
 ·intro H0 hb0 R0 h0
  refine Qa7 hb0 k11.inv.nested (by rw[List.length_map];omega) ?_
  intro H' v' h'
  exact h0 H' v' (h'.room (Y6 (k:=2) _ rfl (by decide)))
 ·intro i h1 h2 S' H' r' hb' hr ha hmn hal hl' R' h'
  simp only[List.getElem_map]at h'⊢
  refine AbilityT_Pack hb' (pt11 i _ _ (List.getElem?_eq_getElem h1) (List.getElem?_eq_getElem (by simpa using h2))) hr (by omega) (by omega) (by omega) ?_
  exact h'
 intro H12 b12
 have k12:=QbK (es:=8) (al:=4) (items:=(d.abilities.map (fun t:Qe7=>Zv t.id.toNat t.dist.toNat))) P2_4 (QR (f:=(fun t:Qe7=>Zv t.id.toNat t.dist.toNat)) (k:=8) (fun _=>Qbi _ _) (l:=d.abilities)) k11.inv
 have l12:=k12.len
 generalize hq12:Qhc 8 4 (d.abilities.map (fun t:Qe7=>Zv t.id.toNat t.dist.toNat)) q11.1=q12 at *
 rw[List.length_map]at l12
 refine QiL b12 (e0:=5) (xs:=d.flex) (by kernel_rfl) obj (fld:=28) rfl own.flex k12.inv (by omega) ?_
 intro H13 b13
 have k13:=QiI d.flex k12.inv
 have l13:=k13.len
 generalize hq13:optB d.flex q12.1=q13 at *
 obtain ⟨pl13,pn13,pe13,pt13⟩:=own.test5
 refine Qdn b13 (e0:=157) (es:=4) (al:=2) (k:=1) (items:=(d.test5.map (fun t:Qbf=>QaJ t.a.toNat t.b.toNat))) (by kernel_rfl) obj (fld:=29) rfl pn13 (by rw[List.length_map];exact pe13) (QR (f:=(fun t:Qbf=>QaJ t.a.toNat t.b.toNat)) (k:=4) (fun _=>Qax _ _)) k13.inv rfl (by decide) (by rw[List.length_map];omega) (by rw[List.length_map];omega) ?_ ?_ ?_
 ·intro H0 hb0 R0 h0
  refine Qd5 hb0 k13.inv.nested (by rw[List.length_map];omega) ?_
  intro H' v' h'
  exact h0 H' v' (h'.room (Y6 (k:=1) _ rfl (by decide)))
 ·intro i h1 h2 S' H' r' hb' hr ha hmn hal hl' R' h'
  simp only[List.getElem_map]at h'⊢
  refine TestT_Pack hb' (pt13 i _ _ (List.getElem?_eq_getElem h1) (List.getElem?_eq_getElem (by simpa using h2))) hr (by omega) (by omega) (by omega) ?_
  exact h'
 intro H14 b14
 have k14:=QbK (es:=4) (al:=2) (items:=(d.test5.map (fun t:Qbf=>QaJ t.a.toNat t.b.toNat))) P2_2 (QR (f:=(fun t:Qbf=>QaJ t.a.toNat t.b.toNat)) (k:=4) (fun _=>Qax _ _) (l:=d.test5)) k13.inv
 have l14:=k14.len
 generalize hq14:Qhc 4 2 (d.test5.map (fun t:Qbf=>QaJ t.a.toNat t.b.toNat)) q13.1=q14 at *
 rw[List.length_map]at l14
 refine Qdn b14 (e0:=2) (es:=8) (al:=8) (k:=3) (items:=(d.longs.map Qah)) (by kernel_rfl) obj (fld:=30) rfl own.longs (by rw[List.length_map,List.length_map]) (QR (f:=Qah) (k:=8) (fun _=>Qf _ _)) k14.inv rfl (by decide) (by rw[List.length_map];omega) (by rw[List.length_map];omega) ?_ ?_ ?_
 ·intro H0 hb0 R0 h0
  refine Qbl hb0 k14.inv.nested (by rw[List.length_map];omega) ?_
  intro H' v' h'
  exact h0 H' v' (h'.room (Y6 (k:=3) _ rfl (by decide)))
 ·intro i h1 h2 S' H' r' hb' hr ha hmn hal hl' R' h'
  simp only[List.getElem_map]at h'⊢
  refine al_Int64 hb' (by omega) (by omega) (by omega) ?_
  intro H'' h''
  rw[QdL (by decide)]at h''
  exact h' H'' _ h''
 intro H15 b15
 have k15:=QbK (es:=8) (al:=8) (items:=(d.longs.map Qah)) Qg6 (QR (f:=Qah) (k:=8) (fun _=>Qf _ _) (l:=d.longs)) k14.inv
 have l15:=k15.len
 generalize hq15:Qhc 8 8 (d.longs.map Qah) q14.1=q15 at *
 rw[List.length_map]at l15
 refine Qdn b15 (e0:=155) (es:=8) (al:=8) (k:=3) (items:=(d.doubles.map Qah)) (by kernel_rfl) obj (fld:=31) rfl own.doubles (by rw[List.length_map,List.length_map]) (QR (f:=Qah) (k:=8) (fun _=>Qf _ _)) k15.inv rfl (by decide) (by rw[List.length_map];omega) (by rw[List.length_map];omega) ?_ ?_ ?_
 ·intro H0 hb0 R0 h0
  refine Qb0 hb0 k15.inv.nested (by rw[List.length_map];omega) ?_
  intro H' v' h'
  exact h0 H' v' (h'.room (Y6 (k:=3) _ rfl (by decide)))
 ·intro i h1 h2 S' H' r' hb' hr ha hmn hal hl' R' h'
  simp only[List.getElem_map]at h'⊢
  refine al_Float64 hb' (by omega) (by omega) (by omega) ?_
  intro H'' h''
  exact h' H'' _ h''
 intro H16 b16
 have k16:=QbK (es:=8) (al:=8) (items:=(d.doubles.map Qah)) Qg6 (QR (f:=Qah) (k:=8) (fun _=>Qf _ _) (l:=d.doubles)) k15.inv
 have l16:=k16.len
 generalize hq16:Qhc 8 8 (d.doubles.map Qah) q15.1=q16 at *
 rw[List.length_map]at l16
 refine obj.ld b16.cut (i:=32) c.parent rfl ?_
 refine parent_pack b16 k16.inv own.parent (by omega) ?_
 intro H17 b17
 have k17:=QiY d.parent k16.inv
 have l17:=k17.len
 generalize hq17:Qe2 d.parent q16.1=q17 at *
 obtain ⟨pl17,pn17,pe17,pt17⟩:=own.refs
 refine QhW b17 (e0:=184) (xs:=d.refs) (pk:=Qbr) (c:=(fun _=>40)) (sl:=5000) (by kernel_rfl) obj (fld:=33) rfl pn17 pe17 k17.inv (by omega) (fun x _ S h=>(Qfe x h).1) (by rw[Qby];omega) ?_ ?_ ?_
 ·intro H0 S0 F0 hb0 hi0 hl0 R0 h0
  refine Qaw hb0 hi0.nested (by omega) ?_
  intro H' v' h'
  exact h0 H' v' (h'.room (Y6 (k:=2) _ rfl (by decide)))
 ·intro i h1 h2 S' H' F' hF hb' hi' hl' R' h'
  have hl2:S'.buf.length+40+5000<=536870912:=hl'
  exact QfZ hb' hi' ((pt17 i _ _ (List.getElem?_eq_getElem h1) (List.getElem?_eq_getElem h2)).mono hF) (by omega) h'
 intro H18 b18
 have k18:=refs_ok d.refs k17.inv
 have l18:=k18.len
 generalize hq18:QiN (Q1 Qbr d.refs) q17.1=q18 at *
 refine Qdn b18 (e0:=31) (es:=8) (al:=8) (k:=3) (items:=(d.weak.map Qah)) (by kernel_rfl) obj (fld:=35) rfl own.weak (by rw[List.length_map,List.length_map]) (QR (f:=Qah) (k:=8) (fun _=>Qf _ _)) k18.inv rfl (by decide) (by rw[List.length_map];omega) (by rw[List.length_map];omega) ?_ ?_ ?_
 ·intro H0 hb0 R0 h0
  refine Qae hb0 k18.inv.nested (by rw[List.length_map];omega) ?_
  intro H' v' h'
  exact h0 H' v' (h'.room (Y6 (k:=3) _ rfl (by decide)))
 ·intro i h1 h2 S' H' r' hb' hr ha hmn hal hl' R' h'
  simp only[List.getElem_map]at h'⊢
  refine al_Uint64 hb' (by omega) (by omega) (by omega) ?_
  intro H'' h''
  exact h' H'' _ h''
 intro H19 b19
 have k19:=QbK (es:=8) (al:=8) (items:=(d.weak.map Qah)) Qg6 (QR (f:=Qah) (k:=8) (fun _=>Qf _ _) (l:=d.weak)) k18.inv
 have l19:=k19.len
 generalize hq19:Qhc 8 8 (d.weak.map Qah) q18.1=q19 at *
 rw[List.length_map]at l19
 obtain ⟨pl19,pn19,pe19,pt19⟩:=own.strong
 refine QhW b19 (e0:=184) (xs:=d.strong) (pk:=Qbr) (c:=(fun _=>40)) (sl:=5000) (by kernel_rfl) obj (fld:=36) rfl pn19 pe19 k19.inv (by omega) (fun x _ S h=>(Qfe x h).1) (by rw[Qby];omega) ?_ ?_ ?_
 ·intro H0 S0 F0 hb0 hi0 hl0 R0 h0
  refine ZT hb0 hi0.nested (by omega) ?_
  intro H' v' h'
  exact h0 H' v' (h'.room (Y6 (k:=2) _ rfl (by decide)))
 ·intro i h1 h2 S' H' F' hF hb' hi' hl' R' h'
  have hl2:S'.buf.length+40+5000<=536870912:=hl'
  exact QfZ hb' hi' ((pt19 i _ _ (List.getElem?_eq_getElem h1) (List.getElem?_eq_getElem h2)).mono hF) (by omega) h'
 intro H20 b20
 have k20:=refs_ok d.strong k19.inv
 have l20:=k20.len
 generalize hq20:QiN (Q1 Qbr d.strong) q19.1=q20 at *
 refine Qdn b20 (e0:=31) (es:=8) (al:=8) (k:=3) (items:=(d.coOwnings.map Qah)) (by kernel_rfl) obj (fld:=38) rfl own.coOwnings (by rw[List.length_map,List.length_map]) (QR (f:=Qah) (k:=8) (fun _=>Qf _ _)) k20.inv rfl (by decide) (by rw[List.length_map];omega) (by rw[List.length_map];omega) ?_ ?_ ?_
 ·intro H0 hb0 R0 h0
  refine ZS hb0 k20.inv.nested (by rw[List.length_map];omega) ?_
  intro H' v' h'
  exact h0 H' v' (h'.room (Y6 (k:=3) _ rfl (by decide)))
 ·intro i h1 h2 S' H' r' hb' hr ha hmn hal hl' R' h'
  simp only[List.getElem_map]at h'⊢
  refine al_Uint64 hb' (by omega) (by omega) (by omega) ?_
  intro H'' h''
  exact h' H'' _ h''
 intro H21 b21
 have k21:=QbK (es:=8) (al:=8) (items:=(d.coOwnings.map Qah)) Qg6 (QR (f:=Qah) (k:=8) (fun _=>Qf _ _) (l:=d.coOwnings)) k20.inv
 have l21:=k21.len
 generalize hq21:Qhc 8 8 (d.coOwnings.map Qah) q20.1=q21 at *
 rw[List.length_map]at l21
 refine Qdn b21 (e0:=31) (es:=8) (al:=8) (k:=3) (items:=(d.nonOwnings.map Qah)) (by kernel_rfl) obj (fld:=40) rfl own.nonOwnings (by rw[List.length_map,List.length_map]) (QR (f:=Qah) (k:=8) (fun _=>Qf _ _)) k21.inv rfl (by decide) (by rw[List.length_map];omega) (by rw[List.length_map];omega) ?_ ?_ ?_
 ·intro H0 hb0 R0 h0
  refine ZL hb0 k21.inv.nested (by rw[List.length_map];omega) ?_
  intro H' v' h'
  exact h0 H' v' (h'.room (Y6 (k:=3) _ rfl (by decide)))
 ·intro i h1 h2 S' H' r' hb' hr ha hmn hal hl' R' h'
  simp only[List.getElem_map]at h'⊢
  refine al_Uint64 hb' (by omega) (by omega) (by omega) ?_
  intro H'' h''
  exact h' H'' _ h''
 intro H22 b22
 have k22:=QbK (es:=8) (al:=8) (items:=(d.nonOwnings.map Qah)) Qg6 (QR (f:=Qah) (k:=8) (fun _=>Qf _ _) (l:=d.nonOwnings)) k21.inv
 have l22:=k22.len
 generalize hq22:Qhc 8 8 (d.nonOwnings.map Qah) q21.1=q22 at *
 rw[List.length_map]at l22
 refine obj.ld b22.cut (i:=41) c.uniq rfl ?_
 refine Qgi b22 own.uniq (kidOk ih b22 k22.inv (by omega) tq (by omega)) k22.inv (by omega) ?_
 intro H23 b23
 have k23:=QeY (amb:=false) (ty:=d.uniqTy) (color:=d.uniqColor) k22.inv (QaO uniq q22.1 k22.inv)
 have l23:=k23.len
 generalize hq23:QbI false d.uniqTy d.uniqColor (Zf uniq) q22.1=q23 at *
 refine obj.ld b23.cut (i:=42) c.amb rfl ?_
 refine QeK b23 own.amb (kidOk ih b23 k23.inv (by omega) ta (by omega)) k23.inv (by omega) ?_
 intro H24 b24
 have k24:=QeY (amb:=true) (ty:=d.ambTy) (color:=d.ambColor) k23.inv (QaO amb q23.1 k23.inv)
 have l24:=k24.len
 generalize hq24:QbI true d.ambTy d.ambColor (Zf amb) q23.1=q24 at *
 refine Qdn b24 (e0:=135) (es:=1) (al:=1) (k:=0) (items:=(d.enums.map (fun b:UInt8=>[b]))) (by kernel_rfl) obj (fld:=43) rfl own.enums (by rw[List.length_map,List.length_map]) (QR (f:=(fun b:UInt8=>[b])) (k:=1) (fun _=>rfl)) k24.inv rfl (by decide) (by rw[List.length_map];omega) (by rw[List.length_map];omega) ?_ ?_ ?_
 ·intro H0 hb0 R0 h0
  refine Qbq hb0 k24.inv.nested (by rw[List.length_map];omega) ?_
  intro H' v' h'
  exact h0 H' v' (h'.room (Y6 (k:=0) _ rfl (by decide)))
 ·intro i h1 h2 S' H' r' hb' hr ha hmn hal hl' R' h'
  simp only[List.getElem_map]at h'⊢
  refine al_Byte hb' (by omega) (by omega) (by omega) ?_
  intro H'' h''
  exact h' H'' _ h''
 intro H25 b25
 have k25:=QbK (es:=1) (al:=1) (items:=(d.enums.map (fun b:UInt8=>[b]))) P2_1 (QR (f:=(fun b:UInt8=>[b])) (k:=1) (fun _=>rfl) (l:=d.enums)) k24.inv
 have l25:=k25.len
 generalize hq25:Qhc 1 1 (d.enums.map (fun b:UInt8=>[b])) q24.1=q25 at *
 rw[List.length_map]at l25
 have hl25:q25.1.buf.length+10000<=536870912:=by omega
 have n25:q25.1.buf.length<=q25.1.buf.length:=Nat.le_refl _
 have n24:q24.1.buf.length<=q25.1.buf.length:=Nat.le_trans k25.le n25
 have n23:q23.1.buf.length<=q25.1.buf.length:=Nat.le_trans k24.le n24
 have n22:q22.1.buf.length<=q25.1.buf.length:=Nat.le_trans k23.le n23
 have n21:q21.1.buf.length<=q25.1.buf.length:=Nat.le_trans k22.le n22
 have n20:q20.1.buf.length<=q25.1.buf.length:=Nat.le_trans k21.le n21
 have n19:q19.1.buf.length<=q25.1.buf.length:=Nat.le_trans k20.le n20
 have n18:q18.1.buf.length<=q25.1.buf.length:=Nat.le_trans k19.le n19
 have n17:q17.1.buf.length<=q25.1.buf.length:=Nat.le_trans k18.le n18
 have n16:q16.1.buf.length<=q25.1.buf.length:=Nat.le_trans k17.le n17
 have n15:q15.1.buf.length<=q25.1.buf.length:=Nat.le_trans k16.le n16
 have n14:q14.1.buf.length<=q25.1.buf.length:=Nat.le_trans k15.le n15
 have n13:q13.1.buf.length<=q25.1.buf.length:=Nat.le_trans k14.le n14
 have n12:q12.1.buf.length<=q25.1.buf.length:=Nat.le_trans k13.le n13
 have n11:q11.1.buf.length<=q25.1.buf.length:=Nat.le_trans k12.le n12
 have n10:q10.1.buf.length<=q25.1.buf.length:=Nat.le_trans k11.le n11
 have n9:q9.1.buf.length<=q25.1.buf.length:=Nat.le_trans k10.le n10
 have n8:q8.1.buf.length<=q25.1.buf.length:=Nat.le_trans k9.le n9
 have n7:q7.1.buf.length<=q25.1.buf.length:=Nat.le_trans k8.le n8
 have n6:q6.1.buf.length<=q25.1.buf.length:=Nat.le_trans k7.le n7
 have n5:q5.1.buf.length<=q25.1.buf.length:=Nat.le_trans k6.le n6
 have n4:q4.1.buf.length<=q25.1.buf.length:=Nat.le_trans k5.le n5
 have n3:q3.1.buf.length<=q25.1.buf.length:=Nat.le_trans k4.le n4
 have n2:q2.1.buf.length<=q25.1.buf.length:=Nat.le_trans k3.le n3
 have n1:q1.1.buf.length<=q25.1.buf.length:=Nat.le_trans k2.le n2
 have hfold:Q1 (fun f=>f) (Qhj d (Q1 Qa8 tables) (Zf enemy) (Zf test) (Zf uniq) (Zf amb)) S=(q25.1,[q1.2,q2.2,q3.2,q4.2,q5.2,q6.2,q7.2,q8.2,q9.2,q10.2,q11.2,q12.2,q13.2,q14.2,q15.2,q16.2,q17.2,q18.2,q19.2,q20.2,q21.2,q22.2,q23.2,q24.2,q25.2]):=by
  simp only[Qhj,Q1,hq1,hq2,hq3,hq4,hq5,hq6,hq7,hq8,hq9,hq10,hq11,hq12,hq13,hq14,hq15,hq16,hq17,hq18,hq19,hq20,hq21,hq22,hq23,hq24,hq25]
 refine packTail_ok b25 k25.inv obj own hl25 (Nat.le_trans k1.off n1) (Nat.le_trans k2.off n2) (Nat.le_trans k3.off n3) (Nat.le_trans k4.off n4) (Nat.le_trans k5.off n5) (Nat.le_trans k6.off n6) (Nat.le_trans k7.off n7) (Nat.le_trans k8.off n8) (Nat.le_trans k9.off n9) (Nat.le_trans k10.off n10) (Nat.le_trans k11.off n11) (Nat.le_trans k12.off n12) (Nat.le_trans k13.off n13) (Nat.le_trans k14.off n14) (Nat.le_trans k15.off n15) (Nat.le_trans k16.off n16) (Nat.le_trans k17.off n17) (Nat.le_trans k18.off n18) (Nat.le_trans k19.off n19) (Nat.le_trans k20.off n20) (Nat.le_trans k21.off n21) (Nat.le_trans k22.off n22) (Nat.le_trans k23.off n23) (Nat.le_trans k24.off n24) (Nat.le_trans k25.off n25) ?_
 intro H' h'
 unfold packT at hR
 rw[hfold]at hR
 exact hR H' h'
theorem Qff:∀n,PackOk n
 |0=>fun m hm=>by omega
 |n+1=>packStep (Qff n)
theorem MonsterT_Pack {m:Mon} {H:Qe} {p:Nat} {S:BS} {F:Cut} {r:Nat} {v:Value} {R:Kn} (hB:Qc H p S F r) (hI:Inv S) (hv:MT F v m) (hl:S.buf.length+QcY m+20000<=536870912)
  (hR:∀H',Qc H' p (Qa8 m S).1 F 0->R (.int .u32 ((Qa8 m S).2:Nat)) H'):FnS prog 21 #[v,.pointer (some ⟨p,0,none⟩)] H R:=
 Qff (QcY m+1) m (Nat.lt_succ_self _) H p S F r v R hB hI hv hl hR
end Go.Proofs
namespace Go.Proofs
open Go Go.Vc
open Tryz (prog)
theorem putL_mid {α:Type} (A m xs B:List α) (h:m.length=xs.length):Qb9 (A++(m++B)) A.length xs=A++(xs++B):=by
 rw[QeE _ _ _ (by simp;omega)]
 rw[List.take_left,List.drop_append,<-h]
 have e:List.drop (A.length+m.length) A=[]:=List.drop_eq_nil_of_le (by omega)
 rw[e,show A.length+m.length-A.length=m.length by omega,List.drop_left]
 simp
theorem le4_leBI (x:Int) (rest:List UInt8):(le4 (leB x 4++rest) 0:Int)=x%4294967296:=by
 have hb:∀i,i<4->(byteN (leB x 4++rest) i:Int)=(x/2^(8*i))%256:=by
  intro i hi
  have:byteN (leB x 4++rest) i=byteN (leB x 4) i:=by
   unfold byteN
   congr 1
   simp only[List.getD]
   rw[List.getElem?_append_left (by rw[Qf];exact hi)]
  rw[this,Qfl hi,QhS]
 have h0:=hb 0 (by omega)
 have h1:=hb 1 (by omega)
 have h2:=hb 2 (by omega)
 have h3:=hb 3 (by omega)
 rw[le4_eq]
 rw[show (2:Int)^(8*0)=1 from rfl]at h0
 rw[show (2:Int)^(8*1)=256 from rfl]at h1
 rw[show (2:Int)^(8*2)=65536 from rfl]at h2
 rw[show (2:Int)^(8*3)=16777216 from rfl]at h3
 simp only[Nat.zero_add]
 omega
def entB (oo v:Nat):List UInt8:=leB ((if v≠0 then oo-v else 0:Nat):Int) 2
def ents (oo:Nat) (vs:List Nat):List UInt8:=(vs.map (entB oo)).flatten
theorem ents_len (oo:Nat):∀vs,(ents oo vs).length=2*vs.length
 |[]=>rfl
 |v::vs=>by
  have:=ents_len oo vs
  unfold ents at this⊢
  rw[List.map_cons,List.flatten_cons,List.length_append,this,entB,Qf,List.length_cons];omega
theorem wrEnt_buf (oo:Nat):∀(vs:List Nat) (S:BS),S.buf.length%2=0->(Qa2 oo vs S).buf=ents oo vs++S.buf
 |[],S,_=>rfl
 |v::vs,S,h=>by
  have ih:=wrEnt_buf oo vs S h
  rw[Qa2,Qfm,ih,Za (by rw[List.length_append,ents_len];omega)]
  simp[ents,entB]
theorem le2_ents (oo:Nat) (rest:List UInt8):∀(vs:List Nat) (i:Nat),i<vs.length->le2 (ents oo vs++rest) (2*i)=(if vs.getD i 0≠0 then oo-vs.getD i 0 else 0)%65536
 |v::vs,0,_=>by
  have e:ents oo (v::vs)++rest=leB ((if v≠0 then oo-v else 0:Nat):Int) 2++(ents oo vs++rest):=by simp[ents,entB]
  rw[e]
  exact Qik (Nat.le_refl _) _
 |v::vs,i+1,h=>by
  have e:ents oo (v::vs)++rest=leB ((if v≠0 then oo-v else 0:Nat):Int) 2++(ents oo vs++rest):=by simp[ents,entB]
  have e2:2*(i+1)=(leB ((if v≠0 then oo-v else 0:Nat):Int) 2).length+2*i:=by rw[Qf];omega
  rw[e,e2,YN,le2_ents oo rest vs i (by simpa using h)]
  rfl
theorem QeI:∀(l:List Nat) (j:Nat),Z4 l<=j->l.getD j 0=0
 |[],j,_=>by simp
 |x::xs,j,h=>by
  rw[Z4]at h
  split at h
  ·rename_i hx
   cases j with
   |zero=>simpa using hx.2
   |succ j=>simpa using QeI xs j (by omega)
  ·cases j with
   |zero=>omega
   |succ j=>simpa using QeI xs j (by omega)
theorem getD_take (l:List Nat) (n j:Nat) (h:j<n):(l.take n).getD j 0=l.getD j 0:=by
 simp only[List.getD]
 rw[List.getElem?_take,if_pos h]
structure QdI (S:BS):Prop where
 ev:∀o∈S.vts,o%2=0
 wh:∀o∈S.vts,4<=le2 S.buf (S.buf.length-o+2)/\le2 S.buf (S.buf.length-o+2)<=o
 en:∀o∈S.vts,∀i,6+2*i<=le2 S.buf (S.buf.length-o)->le2 S.buf (S.buf.length-o+(4+2*i))<le2 S.buf (S.buf.length-o+2)
theorem QdI.ext {S S':BS} (h:QdI S) (hk:Qhu S) (hv:S'.vts=S.vts) {x:List UInt8} (hb:S'.buf=x++S.buf):QdI S':=by
 have key:∀o∈S.vts,∀i,le2 S'.buf (S'.buf.length-o+i)=le2 S.buf (S.buf.length-o+i):=fun o ho i=>by
  obtain ⟨h1,h2,h3,h4⟩:=hk o ho
  have e:S'.buf.length-o+i=x.length+(S.buf.length-o+i):=by rw[hb,List.length_append];omega
  rw[e,hb,YN]
 have key0:∀o∈S.vts,le2 S'.buf (S'.buf.length-o)=le2 S.buf (S.buf.length-o):=fun o ho=>key o ho 0
 refine ⟨fun o ho=>h.ev o (hv▸ho),fun o ho=>?_,fun o ho i hi=>?_⟩
 ·rw[hv]at ho;rw[key o ho];exact h.wh o ho
 ·rw[hv]at ho;rw[key o ho,key o ho];rw[key0 o ho]at hi;exact h.en o ho i hi
theorem QdI.new:QdI QcW:=⟨fun o ho=>by simp[QcW]at ho,fun o ho=>by simp[QcW]at ho,fun o ho=>by simp[QcW]at ho⟩
structure ObjRd (bs:List UInt8) (pos vt:Nat) (v:Nat->Nat) (n:Nat):Prop where
 ok:VT bs pos vt
 sl:∀j,j<n->slotAt bs vt (4+2*j)=if v j=0 then 0 else bs.length-pos-v j
 pl:∀j,j<n->v j≠0->v j<bs.length-pos
 w4:4<=le2 bs (vt+2)/\pos+le2 bs (vt+2)<=bs.length
 wl:∀j,j<n->slotAt bs vt (4+2*j)<le2 bs (vt+2)
 al:(bs.length-pos)%4=0/\(bs.length-vt)%2=0
theorem endObj_read {S0 S:BS} {n c:Nat} (h:YA S0 n c S) (hg:∀j,S.vt.getD j 0=0\/S0.buf.length<S.vt.getD j 0) (h0:Inv S0) (h2:QdI S0) (hn:n<1000) (hc:c<60000) (hl:S.buf.length<1000000000):
  QdI (endObj S)/\(∃y,(endObj S).buf=y++S.buf)/\(putOff 0 S).buf.length<=(endObj S).buf.length/\S.buf.length+4<=(putOff 0 S).buf.length/\
   ∃vt,ObjRd (endObj S).buf ((endObj S).buf.length-(putOff 0 S).buf.length) vt (fun j=>S.vt.getD j 0) n:=by
 obtain ⟨x,hx⟩:=h.ext
 have hp:=Zw (size:=4) (n:=S.buf.length+0) (by decide)
 have hpm:=QcE (size:=4) (n:=S.buf.length+0) (by decide)
 generalize hpe:padOf 4 (S.buf.length+0)=pd at *
 have hS1:(putOff 0 S).buf=leB (((prep 4 0 S).buf.length-0+4:Nat):Int) 4++((List.replicate pd 0++x)++S0.buf):=by
  have e:(putOff 0 S).buf=leB (((prep 4 0 S).buf.length-0+4:Nat):Int) 4++(List.replicate (padOf 4 (S.buf.length+0)) 0++S.buf):=rfl
  rw[e,hpe,hx,List.append_assoc]
 have hS1v:(putOff 0 S).vt=S.vt:=rfl
 have hS1t:(putOff 0 S).vts=S0.vts:=h.vts
 have hSl:S.buf.length=x.length+S0.buf.length:=by rw[hx,List.length_append]
 have hle:=h.len
 have hvtl:=h.vtl
 generalize hL:leB (((prep 4 0 S).buf.length-0+4:Nat):Int) 4=L at hS1
 have hLl:L.length=4:=by rw[<-hL,Qf]
 generalize hT:List.replicate pd (0:UInt8)++x=T at *
 have hTl:T.length=pd+x.length:=by rw[<-hT];simp
 have hoo:(putOff 0 S).buf.length=4+T.length+S0.buf.length:=by rw[hS1];simp[hLl];omega
 rw[QgH S _ _ _ _ rfl rfl rfl rfl]
 generalize putOff 0 S=S1 at *
 generalize hvt:S1.vt.take (Z4 S1.vt)=vt
 rw[hS1v]at hvt
 have htl:=QiD S.vt
 have hvtlen:vt.length=Z4 S.vt:=by rw[<-hvt,List.length_take];omega
 have hvtget:∀j,j<vt.length->vt.getD j 0=S.vt.getD j 0:=fun j hj=>by rw[<-hvt];exact getD_take _ _ _ (by omega)
 have hbehind:∀j,vt.length<=j->S.vt.getD j 0=0:=fun j hj=>QeI _ _ (by omega)
 generalize hoo':S1.buf.length=oo at *
 have hoo4:oo%4=0:=by omega
 have hvle:∀j,S.vt.getD j 0+4<=oo:=fun j=>by have:=h.vle j;omega
 generalize hex:Qco (QaH vt oo S1.buf) S1.vts=ex
 rw[hS1t]at hex
 by_cases hz:ex=0
 ·
  rw[if_pos hz]
  have hS2b:({S1 with vt:=vt}:BS).buf=S1.buf:=rfl
  generalize ({S1 with vt:=vt}:BS)=S2 at *
  have hW:(Qa2 oo vt S2).buf=ents oo vt++S1.buf:=by rw[wrEnt_buf oo vt S2 (by rw[hS2b];omega),hS2b]
  have hel:=ents_len oo vt
  have e4:(putN 2 (leB ((oo-S.oe:Nat):Int) 2) (Qa2 oo vt S2)).buf=leB ((oo-S.oe:Nat):Int) 2++(ents oo vt++S1.buf):=by
   rw[Qfm,hW,Za (by rw[List.length_append,hel,hoo'];omega)];rfl
  have e5:(putN 2 (leB ((2*(vt.length+2):Nat):Int) 2) (putN 2 (leB ((oo-S.oe:Nat):Int) 2) (Qa2 oo vt S2))).buf=
    (leB ((2*(vt.length+2):Nat):Int) 2++(leB ((oo-S.oe:Nat):Int) 2++ents oo vt))++(L++(T++S0.buf)):=by
   rw[Qfm,e4,Za (by rw[List.length_append,List.length_append,Qf,hel,hoo'];omega),hS1];simp
  generalize hS5:putN 2 (leB ((2*(vt.length+2):Nat):Int) 2) (putN 2 (leB ((oo-S.oe:Nat):Int) 2) (Qa2 oo vt S2))=S5 at *
  generalize hWd:leB ((2*(vt.length+2):Nat):Int) 2++(leB ((oo-S.oe:Nat):Int) 2++ents oo vt)=W at *
  have hWl:W.length=4+2*vt.length:=by rw[<-hWd];simp only[List.length_append,Qf,hel];omega
  have hS5l:S5.buf.length=W.length+oo:=by rw[e5];simp only[List.length_append,hLl];omega
  have hq:S5.buf.length-oo=W.length:=by omega
  rw[hq,hS1t]
  have hbs:Qb9 S5.buf W.length (leB (W.length:Int) 4)=W++(leB (W.length:Int) 4++(T++S0.buf)):=by
   rw[e5];exact putL_mid _ _ _ _ (by rw[hLl,Qf])
  have hbuf:(Qds W.length (W.length:Int) S5).buf=W++(leB (W.length:Int) 4++(T++S0.buf)):=hbs
  show QdI {Qds W.length (W.length:Int) S5 with vts:=S0.vts++[S5.buf.length],vt:=[],nested:=false}/\_
  have hbl:(W++(leB (W.length:Int) 4++(T++S0.buf))).length=W.length+oo:=by simp only[List.length_append,Qf];omega
  have r0:le2 (W++(leB (W.length:Int) 4++(T++S0.buf))) 0=2*(vt.length+2):=by
   rw[<-hWd,List.append_assoc,Qik (Nat.le_refl _)];omega
  have r2:le2 (W++(leB (W.length:Int) 4++(T++S0.buf))) 2=oo-S.oe:=by
   have q:=YN (x:=leB ((2*(vt.length+2):Nat):Int) 2) (bs:=(leB ((oo-S.oe:Nat):Int) 2++ents oo vt)++(leB (W.length:Int) 4++(T++S0.buf))) (i:=0)
   rw[Qf,<-List.append_assoc,hWd]at q
   rw[q,List.append_assoc,Qik (Nat.le_refl _),h.oe];omega
  have re:∀i,i<vt.length->le2 (W++(leB (W.length:Int) 4++(T++S0.buf))) (4+2*i)=if S.vt.getD i 0=0 then 0 else oo-S.vt.getD i 0:=fun i hi=>by
   have e:4+2*i=(leB ((2*(vt.length+2):Nat):Int) 2).length+((leB ((oo-S.oe:Nat):Int) 2).length+2*i):=by rw[Qf,Qf];omega
   rw[<-hWd,List.append_assoc,e,YN,List.append_assoc,YN,le2_ents _ _ _ _ hi,hvtget i hi]
   by_cases hv:S.vt.getD i 0=0
   ·rw[if_neg (fun h=>h hv),if_pos hv]
   ·rw[if_pos hv,if_neg hv]
    have:=(hg i).resolve_left hv
    omega
  have hlen:({Qds W.length (W.length:Int) S5 with vts:=S0.vts++[S5.buf.length],vt:=[],nested:=false}:BS).buf=W++(leB (W.length:Int) 4++(T++S0.buf)):=hbuf
  have hkey:∀o∈S0.vts,∀i,le2 (W++(leB (W.length:Int) 4++(T++S0.buf))) ((W++(leB (W.length:Int) 4++(T++S0.buf))).length-o+i)=le2 S0.buf (S0.buf.length-o+i):=fun o ho i=>by
   have ho2:=(h0.vts o ho).2.1
   have ea:W++(leB (W.length:Int) 4++(T++S0.buf))=(W++(leB (W.length:Int) 4++T))++S0.buf:=by simp
   rw[ea,show ((W++(leB (W.length:Int) 4++T))++S0.buf).length-o+i=(W++(leB (W.length:Int) 4++T)).length+(S0.buf.length-o+i) by simp only[List.length_append];omega,YN]
  have hoe:=h.oe
  refine ⟨⟨?_,?_,?_⟩,⟨W++(leB (W.length:Int) 4++List.replicate pd 0),?_⟩,?_,by omega,0,?_⟩
  ·intro o ho
   rcases List.mem_append.1 (show o∈S0.vts++[S5.buf.length] from ho) with ho|ho
   ·exact h2.ev o ho
   ·have:o=S5.buf.length:=by simpa using ho
    omega
  ·intro o ho
   rw[hlen]
   rcases List.mem_append.1 (show o∈S0.vts++[S5.buf.length] from ho) with ho|ho
   ·rw[hkey o ho];exact h2.wh o ho
   ·have:o=S5.buf.length:=by simpa using ho
    rw[show (W++(leB (W.length:Int) 4++(T++S0.buf))).length-o+2=2 by omega,r2]
    omega
  ·intro o ho i hi
   rw[hlen]at hi⊢
   rcases List.mem_append.1 (show o∈S0.vts++[S5.buf.length] from ho) with ho|ho
   ·rw[hkey o ho,hkey o ho]
    rw[show (W++(leB (W.length:Int) 4++(T++S0.buf))).length-o=(W++(leB (W.length:Int) 4++(T++S0.buf))).length-o+0 from rfl,hkey o ho]at hi
    exact h2.en o ho i hi
   ·have:o=S5.buf.length:=by simpa using ho
    have e0:(W++(leB (W.length:Int) 4++(T++S0.buf))).length-o=0:=by omega
    rw[e0,r0]at hi
    rw[e0,Nat.zero_add,Nat.zero_add,r2,re i (by omega)]
    split
    ·omega
    ·rename_i hv
     have:=(hg i).resolve_left hv
     have:=hvle i
     omega
  ·rw[hlen,hx,<-hT];simp
  ·rw[hlen,hbl];omega
  ·rw[hlen,hbl,show W.length+oo-oo=W.length by omega]
   have rp:le4 (W++(leB (W.length:Int) 4++(T++S0.buf))) W.length=W.length:=by
    have:=QaW (x:=W) (bs:=leB (W.length:Int) 4++(T++S0.buf)) (i:=0)
    rw[Nat.add_zero]at this
    rw[this,Qgt (Nat.le_refl _)];omega
   have hsl:∀j,j<n->slotAt (W++(leB (W.length:Int) 4++(T++S0.buf))) 0 (4+2*j)=if S.vt.getD j 0=0 then 0 else oo-S.vt.getD j 0:=fun j hj=>by
    unfold slotAt
    rw[r0,Nat.zero_add]
    by_cases hjl:j<vt.length
    ·rw[if_pos (by omega),re j hjl]
    ·rw[if_neg (by omega),if_pos (hbehind j (by omega))]
   refine ⟨⟨by omega,?_,by omega,by omega,by omega⟩,?_,?_,?_,?_,?_⟩
   ·rw[rp,Zd (by omega) (by omega)];omega
   ·intro j hj
    rw[hsl j hj,hbl,show W.length+oo-W.length=oo by omega]
   ·intro j hj hv
    have:=hvle j
    rw[hbl];show S.vt.getD j 0<_;omega
   ·rw[Nat.zero_add,r2,hbl];omega
   ·intro j hj
    rw[hsl j hj,Nat.zero_add,r2]
    split
    ·omega
    ·rename_i hv
     have:=(hg j).resolve_left hv
     have:=hvle j
     omega
   ·rw[hbl];omega
 ·
  rw[if_neg hz]
  obtain ⟨hmem,hserv⟩:=Qiv (QaH vt oo S1.buf) S0.vts (by rw[hex];exact hz)
  rw[hex]at hmem hserv
  obtain ⟨v1,v2,v3,v4⟩:=h0.vts ex hmem
  obtain ⟨w1,w2⟩:=h2.wh ex hmem
  have hev:=h2.ev ex hmem
  have hen:=h2.en ex hmem
  have hbs:Qb9 S1.buf 0 (leB ((ex:Int)-(oo:Int)) 4)=leB ((ex:Int)-(oo:Int)) 4++(T++S0.buf):=by
   rw[hS1];exact putL_mid [] _ _ _ (by rw[hLl,Qf])
  have hlen:({Qds 0 ((ex:Int)-(oo:Int)) S1 with vt:=[],nested:=false}:BS).buf=leB ((ex:Int)-(oo:Int)) 4++(T++S0.buf):=hbs
  have hvts:({Qds 0 ((ex:Int)-(oo:Int)) S1 with vt:=[],nested:=false}:BS).vts=S0.vts:=hS1t
  generalize ({Qds 0 ((ex:Int)-(oo:Int)) S1 with vt:=[],nested:=false}:BS)=E at *
  have hbl:(leB ((ex:Int)-(oo:Int)) 4++(T++S0.buf)).length=oo:=by simp only[List.length_append,Qf];omega
  have hkey:∀(Y:List UInt8),Y.length=4->∀i,le2 (Y++(T++S0.buf)) (oo-ex+i)=le2 S0.buf (S0.buf.length-ex+i):=fun Y hY i=>by
   rw[<-List.append_assoc,show oo-ex+i=(Y++T).length+(S0.buf.length-ex+i) by simp only[List.length_append];omega,YN]
  have k1:=hkey L hLl
  have k2:=hkey (leB ((ex:Int)-(oo:Int)) 4) (by rw[Qf])
  have k10:=k1 0
  have k20:=k2 0
  rw[Nat.add_zero,Nat.add_zero]at k10 k20
  unfold QaH Qib at hserv
  rw[hS1,k10]at hserv
  simp only[Bool.and_eq_true,decide_eq_true_eq,List.all_eq_true,List.mem_range,Bool.or_eq_true]at hserv
  obtain ⟨hs1,hs2⟩:=hserv
  have re:∀i,i<vt.length->le2 S0.buf (S0.buf.length-ex+(4+2*i))=if S.vt.getD i 0=0 then 0 else oo-S.vt.getD i 0:=fun i hi=>by
   have q:=hs2 i hi
   rw[show oo-ex+4+2*i=oo-ex+(4+2*i) by omega,k1,hvtget i hi]at q
   have hb:=hen i (by omega)
   have:=hvle i
   rcases q with ⟨q1,q2⟩|q
   ·rw[if_pos q2,q1]
   ·by_cases hv:S.vt.getD i 0=0
    ·rw[hv]at q;omega
    ·rw[if_neg hv];omega
  have hsl:∀j,j<n->slotAt (leB ((ex:Int)-(oo:Int)) 4++(T++S0.buf)) (oo-ex) (4+2*j)=if S.vt.getD j 0=0 then 0 else oo-S.vt.getD j 0:=fun j hj=>by
   unfold slotAt
   rw[k20,k2]
   by_cases hjl:j<vt.length
   ·rw[if_pos (by omega),re j hjl]
   ·rw[if_neg (by omega),if_pos (hbehind j (by omega))]
  refine ⟨h2.ext (S':=E) h0.vts hvts (x:=leB ((ex:Int)-(oo:Int)) 4++T) (by rw[hlen];simp),⟨leB ((ex:Int)-(oo:Int)) 4++List.replicate pd 0,by rw[hlen,hx,<-hT];simp⟩,by rw[hlen,hbl];exact Nat.le_refl _,by omega,oo-ex,?_⟩
  rw[hlen,hbl,Nat.sub_self]
  refine ⟨⟨by omega,?_,by rw[k20,hbl];omega,by rw[k20];exact v3,by rw[k20];omega⟩,?_,?_,?_,?_,?_⟩
  ·have e:=le4_leBI ((ex:Int)-(oo:Int)) (T++S0.buf)
   have ew:IntKind.i32.wrap ((le4 (leB ((ex:Int)-(oo:Int)) 4++(T++S0.buf)) 0:Nat):Int)=(ex:Int)-(oo:Int):=by
    rw[e]
    have:=Qf7 .i32 (x:=((ex:Int)-(oo:Int))%4294967296) (y:=(ex:Int)-(oo:Int)) (by
     show _%(4294967296:Int)=_%(4294967296:Int)
     rw[Int.emod_emod_of_dvd _ (Int.dvd_refl _)])
    rw[this,Zd (by omega) (by omega)]
   rw[ew];omega
  ·intro j hj
   rw[hsl j hj,hbl,Nat.sub_zero]
  ·intro j hj hv
   have:=hvle j
   rw[hbl];show S.vt.getD j 0<_;omega
  ·rw[k2,hbl];omega
  ·intro j hj
   rw[hsl j hj,k2]
   split
   ·omega
   ·rename_i hv
    have hjl:j<vt.length:=by
     apply Nat.lt_of_not_le
     intro hc
     exact hv (hbehind j hc)
    have:=hen j (by omega)
    rw[re j hjl,if_neg hv]at this
    exact this
  ·rw[hbl];omega
end Go.Proofs
