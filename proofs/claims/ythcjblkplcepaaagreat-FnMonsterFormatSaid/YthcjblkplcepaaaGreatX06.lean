/- WHAT IS PROVED: the given statement of FnMonsterFormat, whatever the input: this is part 6 of 14. No conditions. -/
import Derived.Test.YthcjblkplcepaaaGreatX05
set_option linter.all false
namespace Go.Proofs
open Go Go.Vc
open Tryz (prog)
theorem Cut.upd_upd {F:Cut} {b:Nat} {o o':Obj}:(F.upd b o).upd b o'=F.upd b o':=by
 funext b'
 by_cases h:b'=b
 ·subst h;rw[Cut.upd_same,Cut.upd_same]
 ·rw[Cut.upd_ne h,Cut.upd_ne h,Cut.upd_ne h]
theorem MT.mono {F G:Cut} (hFG:F.le G) {v:Value} {m:Mon} (h:MT F v m):MT G v m:=by
 have lm:∀{α:Type} {v:Value} {l:List α} {cells:α->Array Value},Qer F v l cells->Qer G v l cells:=by
  rintro α v l cells ⟨ptrs,h1,h2,h3⟩
  exact ⟨ptrs,h1.mono hFG,h2,fun i p t hp ht=>(h3 i p t hp ht).mono hFG⟩
 have um:∀{amb:Bool} {ty color:UInt8} {v c:Value} {kids:List Mon},QcP F amb ty color v c kids->QcP G amb ty color v c kids:=by
  rintro amb ty color v c kids (h|⟨h1,w,h2,h3⟩)
  ·exact Or.inl h
  ·refine Or.inr ⟨h1,w,h2.mono hFG,?_⟩
   rcases h3 with ⟨a,b,c',d,e⟩|h3
   ·exact Or.inl ⟨a,b,c',d.mono hFG,e⟩
   ·exact Or.inr h3
 induction h with
 |mk v d c ptrs tables enemy test uniq amb obj own tl tlen tt te tu tq ta it ie iu iq ia=>
  refine MT.mk v d c ptrs tables enemy test uniq amb (obj.mono hFG) ?_ (tl.mono hFG) tlen it ie iu iq ia
  refine ⟨?_,own.inv.mono hFG,um own.test,lm own.test4,own.strings.mono hFG,own.enemy,own.nested.mono hFG,?_,own.bools.mono hFG,own.strings2.mono hFG,lm own.abil,own.flex.mono hFG,lm own.test5,own.longs.mono hFG,own.doubles.mono hFG,
   own.parent,lm own.refs,own.weak.mono hFG,lm own.strong,own.coOwnings.mono hFG,own.nonOwnings.mono hFG,um own.uniq,um own.amb,own.enums.mono hFG⟩
  ·have:=own.pos
   cases hp:d.pos with
   |none=>rw[hp]at this;exact this
   |some x=>
    rw[hp]at this
    obtain ⟨w,h1,h2⟩:=this
    exact ⟨w,h1.mono hFG,h2.mono hFG⟩
  ·have:=own.empty
   cases hp:d.empty with
   |none=>rw[hp]at this;exact this
   |some x=>rw[hp]at this;exact ZS.mono hFG this
def BytesBlock (q fld:Nat) (tsl:TypeId) (x1:Value) (h1:Qe) (rest:Kn):Prop:=
 QA (fun M1=>
  Q1 (.pointer (some ⟨q,0,none⟩)) fun x80=>Qf x80 fld fun x81=>LdK h1 x81 fun x82=>
  Qj prog .neq tsl x82 (.slice none 0 0) fun x83=>
  IfK x83
  (Q1 (.pointer (some ⟨q,0,none⟩)) fun x86=>Qf x86 fld fun x87=>LdK h1 x87 fun x88=>
   Qa prog 75 #[x1,x88] h1 fun x89 h2=>M1 [x89] h2)
  (M1 [(.int .u32 0)] h1)) fun M1=>∀x6:Value,∀h3:Qe,M1 [x6] h3->rest x6 h3
theorem Qiv {H:Qe} {p:Nat} {S:BS} {F:Cut} {r:Nat} (hB:Qc H p S F r) {q fld:Nat} {tsl e0:TypeId} {v0:Value} {cells:Array Value} {xs:List UInt8} {rest:Kn}
  (ht:(prog).underlying tsl=some (.slice e0)) (hq:ZS F (.pointer (some ⟨q,0,none⟩)) cells) (hf:cells[fld]?=some v0) (hv:Qas F v0 (xs.map u8V)) (hI:Inv S) (hl:S.buf.length+xs.length+80<=536870912)
  (hrest:∀H',Qc H' p (optB xs S).1 F 0->rest (.int .u32 ((optB xs S).2:Nat)) H'):
  BytesBlock q fld tsl (.pointer (some ⟨p,0,none⟩)) H rest:=by
 unfold BytesBlock
 refine Q2 (fun ws h=>ws=[.int .u32 ((optB xs S).2:Nat)]/\Qc h p (optB xs S).1 F 0) ?_ ?_
 ·refine hq.ld hB.cut (i:=fld) v0 hf ?_
  rw[hv.neq ht]
  by_cases h0:xs=[]
  ·have hvn:¬xs.map u8V≠[]:=by rw[h0];simp
   rw[Yb hvn]
   unfold optB
   rw[if_pos h0]
   exact ⟨rfl,hB.room (Nat.zero_le _)⟩
  ·have hvn:xs.map u8V≠[]:=by simpa using h0
   rw[Yj hvn]
   refine hq.ld hB.cut (i:=fld) v0 hf ?_
   obtain ⟨a,c,rfl,hb⟩:=hv.1.bytes
   refine Qe9 hB (fun H' hF=>hb H' hF) hI.nested (by omega) ?_
   intro H1 h1
   unfold optB
   rw[if_neg h0]
   exact ⟨rfl,h1⟩
 ·rintro x8 h10 ⟨hx,hb⟩
  cases hx
  exact hrest h10 hb
def OffBlock (q fld start f:Nat) (tsl:TypeId) (args:Value->Array Value) (x1:Value) (h10:Qe) (rest:Kn):Prop:=
 QA (fun M6=>
  Q1 (.pointer (some ⟨q,0,none⟩)) fun x128=>Qf x128 fld fun x129=>LdK h10 x129 fun x130=>
  Qj prog .neq tsl x130 (.slice none 0 0) fun x131=>
  IfK x131
  (Q1 (.pointer (some ⟨q,0,none⟩)) fun x133=>Qf x133 fld fun x134=>LdK h10 x134 fun x135=>
   Y1 x135 fun x136=>
   Qez h10 74 4 z74 x136 x136 fun x138 h11=>
   QA (fun M7=>
    Yu [(.int .i64 0)] h11 fun I8 n9=>∀x14:Value,∀h12:Qe,I8 n9 [x14] h12->
    Qj prog .lss 3 x14 x136 fun x141=>
    IfK x141
    (Q1 (.pointer (some ⟨q,0,none⟩)) fun x148=>Qf x148 fld fun x149=>LdK h12 x149 fun x150=>
     Y2 1 x150 x14 fun x152=>LdK h12 x152 fun x153=>
     Qa prog f (args x153) h12 fun x154 h13=>
     Y2 1 x138 x14 fun x155=>StK h13 1 x155 x154 fun h14=>
     Qj prog .add 3 x14 (.int .i64 1) fun x143=>
     QQ I8 n9 [x143] h14)
    (M7 [x14] h12)) fun M7=>∀x14_1:Value,∀h15:Qe,M7 [x14_1] h15->
   Qa prog start #[x1,x136] h15 fun _x158 h16=>
   QA (fun M10=>
    Qj prog .sub 3 x136 (.int .i64 1) fun x160=>
    Yu [x160] h16 fun I11 n12=>∀x15:Value,∀h17:Qe,I11 n12 [x15] h17->
    Qj prog .geq 3 x15 (.int .i64 0) fun x162=>
    IfK x162
    (Y2 1 x138 x15 fun x168=>LdK h17 x168 fun x169=>
     Qa prog 62 #[x1,x169] h17 fun _x170 h18=>
     Qj prog .sub 3 x15 (.int .i64 1) fun x164=>
     QQ I11 n12 [x164] h18)
    (M10 [x15] h17)) fun M10=>∀x15_1:Value,∀h19:Qe,M10 [x15_1] h19->
   Qa prog 79 #[x1,x136] h19 fun x173 h20=>M6 [x173] h20)
  (M6 [(.int .u32 0)] h10)) fun M6=>∀x11:Value,∀h21:Qe,M6 [x11] h21->rest x11 h21
theorem offItems_drop (L:Nat):∀(os:List Nat) (i:Nat),(Zi L os).drop i=Zi L (os.drop i)
 |os,0=>rfl
 |[],i+1=>by simp[Zi]
 |o::os,i+1=>by rw[Zi,List.drop_succ_cons,List.drop_succ_cons,offItems_drop L os i]
set_option maxHeartbeats 2000000 in
theorem Qi7 {α:Type} {H:Qe} {p:Nat} {S:BS} {F:Cut} {r:Nat} (hB:Qc H p S F r) {q fld start f:Nat} {tsl e0:TypeId} {args:Value->Array Value} {v0:Value} {cells:Array Value} {vs:List Value} {xs:List α}
  {pk:α->BS->BS×Nat} {c:α->Nat} {sl:Nat} {rest:Kn} (ht:(prog).underlying tsl=some (.slice e0)) (hq:ZS F (.pointer (some ⟨q,0,none⟩)) cells) (hf:cells[fld]?=some v0) (hv:Qas F v0 vs) (hvi:vs.length=xs.length)
  (hI:Inv S) (hn:xs.length<536870912) (hc:∀x∈xs,∀S,Inv S->Y0 S (c x) (pk x S)) (hl:S.buf.length+(xs.map c).sum+4*xs.length+80+sl<=536870912)
  (hstart:∀H S F,Qc H p S F 0->Inv S->S.buf.length+4*xs.length+80<=536870912->∀R:Kn,(∀H' v,Qc H' p (QK 4 xs.length 4 S) F (4*xs.length+5)->R v H')->FnS prog start #[.pointer (some ⟨p,0,none⟩),.int .i64 (xs.length:Nat)] H R)
  (hstep:∀(i:Nat) (hi1:i<vs.length) (hi2:i<xs.length) (S':BS) (H':Qe) (F':Cut),F.le F'->Qc H' p S' F' 0->Inv S'->S'.buf.length+c (xs[i]'hi2)+sl<=536870912->
   ∀R:Kn,(∀H'',Qc H'' p (pk (xs[i]'hi2) S').1 F' 0->R (.int .u32 ((pk (xs[i]'hi2) S').2:Nat)) H'')->FnS prog f (args (vs[i]'hi1)) H' R)
  (hrest:∀H',Qc H' p (QiK (Qy pk xs) S).1 F 0->rest (.int .u32 ((QiK (Qy pk xs) S).2:Nat)) H'):
  OffBlock q fld start f tsl args (.pointer (some ⟨p,0,none⟩)) H rest:=by
 have hfl:=Qa0 pk xs S
 have hemp:(vs=[])↔(xs=[]):=by
  rw[<-List.length_eq_zero_iff,<-List.length_eq_zero_iff,hvi]
 have hemp2:((Qy pk xs S).2=[])↔(xs=[]):=by
  rw[<-List.length_eq_zero_iff,<-List.length_eq_zero_iff,hfl]
 unfold OffBlock
 refine Q2 (fun ws h=>ws=[.int .u32 ((QiK (Qy pk xs) S).2:Nat)]/\Qc h p (QiK (Qy pk xs) S).1 F 0) ?_ ?_
 ·refine hq.ld hB.cut (i:=fld) v0 hf ?_
  rw[hv.neq ht]
  by_cases h0:xs=[]
  ·have hvn:¬vs≠[]:=fun h=>h (hemp.2 h0)
   rw[Yb hvn]
   unfold QiK
   rw[if_pos (hemp2.2 h0)]
   exact ⟨rfl,hB.room (Nat.zero_le _)⟩
  ·have hvn:vs≠[]:=fun h=>h0 (hemp.1 h)
   rw[Yj hvn]
   refine hq.ld hB.cut (i:=fld) v0 hf ?_
   rw[hv.1.len,hvi]
   refine ⟨by omega,by omega,by omega,by omega,?_⟩
   simp only[Int.toNat_natCast]
   rw[mk_u32 (z:=z74) rfl]
   have hB1:=(hB.room (Nat.zero_le _)).push (.cells (QgZ (List.replicate xs.length 0)) 74)
   have hFn:=hB.none
   generalize H.size=b at *
   have hle:∀o,F.le (F.upd b o):=fun o=>Cut.le_upd hFn
   obtain ⟨hI2,hI3,hI4,hI5⟩:=QbM (c:=c) xs hc S hI
   refine Q2 (fun _ h=>Qc h p (Qy pk xs S).1 (F.upd b (.cells (QgZ (Qy pk xs S).2) 74)) 0) ?_ ?_
   ·refine ⟨fun m ws h=>∃i:Nat,ws=[.int .i64 (i:Int)]/\i<=xs.length/\m=xs.length-i/\
     Qc h p (Qy pk (xs.take i) S).1 (F.upd b (.cells (QgZ ((Qy pk (xs.take i) S).2++List.replicate (xs.length-i) 0)) 74)) 0,⟨_,0,rfl,Nat.zero_le _,rfl,?_⟩,fun m=>?_⟩
    ·exact hB1
    ·rintro x14 h12 ⟨i,hx,hi,rfl,hb⟩
     cases hx
     rw[Yw]
     apply Z0
     ·intro hlt
      have hi2:i<xs.length:=by omega
      have htake:xs.take (i+1)=xs.take i++[xs[i]]:=by
       rw[List.take_add_one,List.getElem?_eq_getElem hi2]
       simp
      obtain ⟨g1,g2,g3,g4⟩:=QbM (c:=c) (xs.take i) (fun x hx=>hc x (List.mem_of_mem_take hx)) S hI
      have hlen2:=Qa0 pk (xs.take i) S
      rw[List.length_take,Nat.min_eq_left (by omega)]at hlen2
      have hsum:((xs.take i).map c).sum+c xs[i]<=(xs.map c).sum:=by
       have e1:((xs.take (i+1)).map c).sum=((xs.take i).map c).sum+c xs[i]:=by rw[htake,List.map_append,List.sum_append,List.map_cons,List.map_nil,List.sum_cons,List.sum_nil,Nat.add_zero]
       have e2:(xs.map c).sum=((xs.take (i+1)).map c).sum+((xs.drop (i+1)).map c).sum:=by
        rw[<-List.sum_append,<-List.map_append,List.take_append_drop]
       omega
      refine (hq.mono (hle _)).ld hb.cut (i:=fld) v0 hf ?_
      refine (hv.1.mono (hle _)).item hb.cut (i:=i) rfl (by omega) ?_
      refine hstep i (by omega) hi2 _ h12 _ (hle _) hb g1 (by omega) _ ?_
      intro h13 hb2
      rw[QP (by omega) (by omega),Int.toNat_natCast,Nat.mul_one,Nat.zero_add]
      have hcell:=hb2.get (b:=b) Cut.upd_same
      rw[Qax hcell (by rw[QhK];simp[hlen2];omega) (by simp) rfl,u32c_set,Q5,wrap_i64 (by omega) (by omega)]
      refine ⟨xs.length-(i+1),by omega,i+1,rfl,by omega,rfl,?_⟩
      have hb3:=hb2.set (b:=b) Cut.upd_same (.cells (QgZ (((Qy pk (xs.take i) S).2++List.replicate (xs.length-i) 0).set i (pk xs[i] (Qy pk (xs.take i) S).1).2)) 74 (0,0))
      rw[Cut.upd_upd]at hb3
      rw[htake,Qi9]
      have e3:((Qy pk (xs.take i) S).2++List.replicate (xs.length-i) 0).set i (pk xs[i] (Qy pk (xs.take i) S).1).2=
        (Qy pk (xs.take i) S).2++[(pk xs[i] (Qy pk (xs.take i) S).1).2]++List.replicate (xs.length-(i+1)) 0:=by
       rw[List.set_append_right _ _ (by omega),hlen2,Nat.sub_self]
       obtain ⟨k,hk⟩:∃k,xs.length-i=k+1:=⟨xs.length-i-1,by omega⟩
       rw[hk,List.replicate_succ,List.set_cons_zero,show xs.length-(i+1)=k by omega]
       simp
      rw[e3]at hb3⊢
      exact hb3
     ·intro hge
      have:i=xs.length:=by omega
      subst this
      rw[List.take_length,Nat.sub_self,List.replicate_zero,List.append_nil]at hb
      exact hb
   ·intro x14 h15 hb
    have hopt:QiK (Qy pk xs) S=(QeV (Qy pk xs S).2 (Qy pk xs S).1,(QeV (Qy pk xs S).2 (Qy pk xs S).1).buf.length):=by
     unfold QiK;rw[if_neg (fun h=>h0 (hemp2.1 h))]
    rw[hopt]
    generalize (Qy pk xs S).2=offs at *
    generalize (Qy pk xs S).1=S2 at *
    refine hstart h15 S2 _ hb hI2 (by omega) _ ?_
    intro h16 w hb16
    have hm:=Qgd 4 xs.length 4 S2
    have ha:=QeO (es:=4) (n:=xs.length) S2 (al:=4) (k:=2) rfl
    obtain ⟨x,hx,hxl⟩:=Qdi 4 xs.length 4 S2 (by decide)
    have hS1l:(QK 4 xs.length 4 S2).buf.length<=S2.buf.length+7:=by rw[hx,List.length_append];omega
    have hS1g:S2.buf.length<=(QK 4 xs.length 4 S2).buf.length:=by rw[hx,List.length_append];omega
    have hS1n:(QK 4 xs.length 4 S2).nested=true:=rfl
    have hofs:QeV offs S2=Qj7 xs.length (place (Zi (QK 4 xs.length 4 S2).buf.length offs).flatten (QK 4 xs.length 4 S2)):=by
     unfold QeV vecS;rw[Qdl,hfl]
    rw[hofs]
    generalize QK 4 xs.length 4 S2=S1 at *
    refine Q2 (fun _ h=>Qc h p (place (Zi S1.buf.length offs).flatten S1) (F.upd b (.cells (QgZ offs) 74)) 5) ?_ ?_
    ·rw[Yg,wrap_i64 (by omega) (by omega)]
     refine ⟨fun m ws h=>∃i:Nat,ws=[.int .i64 ((i:Int)-1)]/\i<=xs.length/\m=i/\Qc h p (place (Zi S1.buf.length (offs.drop i)).flatten S1) (F.upd b (.cells (QgZ offs) 74)) (4*i+5),⟨_,xs.length,rfl,Nat.le_refl _,rfl,?_⟩,fun m=>?_⟩
     ·rw[<-hfl,List.drop_length]
      rw[<-hfl]at hb16
      exact hb16
     ·rintro x15 h17 ⟨i,hx,hi',rfl,hb⟩
      cases hx
      rw[QfK]
      apply Z0
      ·intro hge
       have hm1:m-1<offs.length:=by omega
       have hm2:m-1+1=m:=by omega
       rw[QP (by omega) (by omega)]
       have hto:((m:Int)-1).toNat=m-1:=by omega
       have hcell:=hb.get (b:=b) Cut.upd_same
       rw[hto,Nat.mul_one,Nat.zero_add,Ql ((Qk hcell).trans (u32c_get hm1))]
       have hdl:(Zi S1.buf.length (offs.drop m)).flatten.length=4*(offs.length-m):=by
        rw[Qau _ (Qck _ _),Qdl,List.length_drop]
       have hget:offs.getD (m-1) 0=offs[m-1]:=by simp[List.getD,hm1]
       have hoff:offs[m-1]<=S2.buf.length:=hI5 _ (List.getElem_mem hm1)
       have hdrop:offs.drop (m-1)=offs[m-1]::offs.drop m:=by rw[List.drop_eq_getElem_cons hm1,hm2]
       rw[hget]
       refine al_UOffsetT hb ?_ (by rw[Qaz];exact hm.1) (by rw[YC];omega) (by rw[YC,hdl];omega) ?_
       ·rw[YC,hdl]
        have e4:(4*(offs.length-m)+S1.buf.length)+4*m=S1.buf.length+4*xs.length:=by omega
        omega
       ·intro h18 hb18
        rw[Yg,wrap_i64 (by omega) (by omega)]
        refine ⟨m-1,by omega,m-1,by rw[show ((m:Int)-1-1)=(((m-1:Nat):Int)-1) by omega],by omega,rfl,?_⟩
        rw[Zg,YC,hdl]at hb18
        rw[hdrop,Zi,List.flatten_cons,List.length_drop,show S1.buf.length+4*(offs.length-m)=4*(offs.length-m)+S1.buf.length by omega]
        exact hb18.room (by omega)
      ·intro hge
       have hm0:m=0:=by omega
       subst hm0
       exact hb
    ·intro x15 h19 hb19
     refine Qa7 hb19 hS1n (by decide) (by omega) ?_
     intro h20 hb20
     exact ⟨rfl,(hb20.room (by decide)).weaken (hle _)⟩
 ·rintro x8 h21 ⟨hx,hb⟩
  cases hx
  exact hrest h21 hb
end Go.Proofs
namespace Go.Proofs
open Go Go.Vc
open Tryz (prog)
theorem Qd3 {t:TypeId} {ok:Bool} {z v:Value} {k:Value->Prop}:TAssK t ok z (.iface t v) k=k (if ok then .tuple #[v,.bool true] else v):=by
 show (if t=t then _ else _)=_
 rw[if_pos rfl]
def KidOk (p:Nat) (S:BS) (F:Cut) (H:Qe) (c:Value) (kids:List Mon):Prop:=
 ∀k,kids=[k]->∀R:Kn,(∀H',Qc H' p (Zv k S).1 F 0->R (.int .u32 ((Zv k S).2:Nat)) H')->FnS prog 23 #[c,.pointer (some ⟨p,0,none⟩)] H R
theorem AnyT_Pack {H:Qe} {p:Nat} {S:BS} {F:Cut} {r:Nat} (hB:Qc H p S F r) {R:Kn} {ty color:UInt8} {v c:Value} {kids:List Mon} (hv:QcP F false ty color v c kids) (hkid:KidOk p S F H c kids) (hI:Inv S) (hl:S.buf.length+5000<=536870912)
  (hR:∀H',Qc H' p (Qbl false ty color (Y9 kids) S).1 F 0->R (.int .u32 ((Qbl false ty color (Y9 kids) S).2:Nat)) H'):
  FnS prog 76 #[v,.pointer (some ⟨p,0,none⟩)] H R:=by
 apply w76
 unfold tp76
 rcases hv with ⟨rfl,rfl,rfl⟩|⟨h0,w,hv',hu⟩
 ·rw[Y6 (by kernel_rfl)]
  exact hR H (hB.room (Nat.zero_le _))
 ·obtain ⟨q,e,rfl,hq⟩:=hv'
  have hv':ZS F (.pointer (some ⟨q,0,none⟩)) #[u8n ty,w]:=⟨q,e,rfl,hq⟩
  rw[Y6 (by kernel_rfl)]
  show IfK (.bool false) _ _
  rw[YQ]
  rcases hu with ⟨_,rfl,rfl,hc,rfl⟩|⟨hty,rfl,k,rfl⟩
  ·refine hv'.ld hB.cut (i:=0) (u8n 2) rfl ?_
   rw[Yi,Yb (by decide),Yi,Yj (by decide)]
   refine hv'.ld hB.cut (i:=1) (.iface 261 c) rfl ?_
   rw[Qd3]
   refine Qj5 hB hI hc hl ?_
   intro H' h'
   exact hR H' h'
  ·have h1:ty=1:=by
    rcases hty with h|⟨h,_⟩
    ·exact h
    ·cases h
   subst h1
   refine hv'.ld hB.cut (i:=0) (u8n 1) rfl ?_
   rw[Yi,Yj (by decide)]
   refine hv'.ld hB.cut (i:=1) (.iface 75 c) rfl ?_
   rw[Qd3]
   refine hkid k rfl _ ?_
   intro H' h'
   have e:Qbl false 1 color (Y9 [k]) S=Zv k S:=by
    unfold Qbl
    rw[if_neg (by decide),if_neg (by decide),Y9]
   rw[e]at hR
   exact hR H' h'
theorem Qg8 {H:Qe} {p:Nat} {S:BS} {F:Cut} {r:Nat} (hB:Qc H p S F r) {R:Kn} {ty color:UInt8} {v c:Value} {kids:List Mon} (hv:QcP F false ty color v c kids) (hkid:KidOk p S F H c kids) (hI:Inv S) (hl:S.buf.length+5000<=536870912)
  (hR:∀H',Qc H' p (Qbl false ty color (Y9 kids) S).1 F 0->R (.int .u32 ((Qbl false ty color (Y9 kids) S).2:Nat)) H'):
  FnS prog 101 #[v,.pointer (some ⟨p,0,none⟩)] H R:=by
 apply w101
 unfold tp76
 rcases hv with ⟨rfl,rfl,rfl⟩|⟨h0,w,hv',hu⟩
 ·rw[Y6 (by kernel_rfl)]
  exact hR H (hB.room (Nat.zero_le _))
 ·obtain ⟨q,e,rfl,hq⟩:=hv'
  have hv':ZS F (.pointer (some ⟨q,0,none⟩)) #[u8n ty,w]:=⟨q,e,rfl,hq⟩
  rw[Y6 (by kernel_rfl)]
  show IfK (.bool false) _ _
  rw[YQ]
  rcases hu with ⟨_,rfl,rfl,hc,rfl⟩|⟨hty,rfl,k,rfl⟩
  ·refine hv'.ld hB.cut (i:=0) (u8n 2) rfl ?_
   rw[Yi,Yb (by decide),Yi,Yj (by decide)]
   refine hv'.ld hB.cut (i:=1) (.iface 261 c) rfl ?_
   rw[Qd3]
   refine Qj5 hB hI hc hl ?_
   intro H' h'
   exact hR H' h'
  ·have h1:ty=1:=by
    rcases hty with h|⟨h,_⟩
    ·exact h
    ·cases h
   subst h1
   refine hv'.ld hB.cut (i:=0) (u8n 1) rfl ?_
   rw[Yi,Yj (by decide)]
   refine hv'.ld hB.cut (i:=1) (.iface 75 c) rfl ?_
   rw[Qd3]
   refine hkid k rfl _ ?_
   intro H' h'
   have e:Qbl false 1 color (Y9 [k]) S=Zv k S:=by
    unfold Qbl
    rw[if_neg (by decide),if_neg (by decide),Y9]
   rw[e]at hR
   exact hR H' h'
theorem QeB {H:Qe} {p:Nat} {S:BS} {F:Cut} {r:Nat} (hB:Qc H p S F r) {R:Kn} {ty color:UInt8} {v c:Value} {kids:List Mon} (hv:QcP F true ty color v c kids) (hkid:KidOk p S F H c kids) (hI:Inv S) (hl:S.buf.length+5000<=536870912)
  (hR:∀H',Qc H' p (Qbl true ty color (Y9 kids) S).1 F 0->R (.int .u32 ((Qbl true ty color (Y9 kids) S).2:Nat)) H'):
  FnS prog 102 #[v,.pointer (some ⟨p,0,none⟩)] H R:=by
 apply w102
 unfold tp76
 rcases hv with ⟨rfl,rfl,rfl⟩|⟨h0,w,hv',hu⟩
 ·rw[Y6 (by kernel_rfl)]
  exact hR H (hB.room (Nat.zero_le _))
 ·obtain ⟨q,e,rfl,hq⟩:=hv'
  have hv':ZS F (.pointer (some ⟨q,0,none⟩)) #[u8n ty,w]:=⟨q,e,rfl,hq⟩
  rw[Y6 (by kernel_rfl)]
  show IfK (.bool false) _ _
  rw[YQ]
  rcases hu with ⟨h,_⟩|⟨hty,rfl,k,rfl⟩
  ·cases h
  ·have e:Qbl true ty color (Y9 [k]) S=Zv k S:=by
    unfold Qbl
    rw[if_neg h0,if_neg (by simp),Y9]
   rw[e]at hR
   have go:∀x,x=ty->True:=fun _ _=>trivial
   refine hv'.ld hB.cut (i:=0) (u8n ty) rfl ?_
   rcases hty with rfl|⟨_,rfl|rfl⟩
   ·rw[Yi,Yj (by decide)]
    refine hv'.ld hB.cut (i:=1) (.iface 75 c) rfl ?_
    rw[Qd3]
    exact hkid k rfl _ hR
   ·rw[Yi,Yb (by decide),Yi,Yj (by decide)]
    refine hv'.ld hB.cut (i:=1) (.iface 75 c) rfl ?_
    rw[Qd3]
    exact hkid k rfl _ hR
   ·rw[Yi,Yb (by decide),Yi,Yb (by decide),Yi,Yj (by decide)]
    refine hv'.ld hB.cut (i:=1) (.iface 75 c) rfl ?_
    rw[Qd3]
    exact hkid k rfl _ hR
end Go.Proofs
namespace Go.Proofs
open Go Go.Vc
open Tryz (prog)
theorem Y0.id {S:BS} (h:Inv S):Y0 S 0 (S,0):=⟨h,Nat.le_refl _,Nat.le_refl _,Nat.zero_le _⟩
theorem Y0.mono {S:BS} {c c':Nat} {q:BS×Nat} (h:Y0 S c q) (hc:c<=c'):Y0 S c' q:=⟨h.inv,Nat.le_trans h.len (by omega),h.le,h.off⟩
theorem Qc4 (xs:List UInt8) {S:BS} (h:Inv S):Y0 S (xs.length+8) (Qb3 xs S):=by
 obtain ⟨h1,h2,h3⟩:=h.createStr xs
 exact ⟨h1,by show (createStr xs S).buf.length<=_;omega,by show _<=(createStr xs S).buf.length;omega,Nat.le_refl _⟩
theorem Qis (xs:List UInt8) {S:BS} (h:Inv S):Y0 S (xs.length+8) (optB xs S):=by
 unfold optB
 split
 ·exact (Y0.id h).mono (by omega)
 ·exact Qc4 xs h
theorem Qbt {es al:Nat} {items:List (List UInt8)} (hal:P2 al) (hi:∀x∈items,x.length=es) {S:BS} (h:Inv S):Y0 S (es*items.length+15) (Qhf es al items S):=by
 unfold Qhf
 split
 ·exact (Y0.id h).mono (by omega)
 ·exact (Y0.vecS h hal hi).1
theorem optO_ok {q:BS->BS×List Nat} {c n:Nat} {S:BS} (hI:Inv S) (hq:Inv (q S).1/\(q S).1.buf.length<=S.buf.length+c/\S.buf.length<=(q S).1.buf.length) (hn:(q S).2.length=n):Y0 S (c+4*n+15) (QiK q S):=by
 obtain ⟨h1,h2,h3⟩:=hq
 unfold QiK
 split
 ·exact (Y0.id hI).mono (by omega)
 ·have:=(Y0.vecS (es:=4) (al:=4) (items:=Zi (QK 4 (q S).2.length 4 (q S).1).buf.length (q S).2) h1 QgV (Qck _ _)).1
  have e:(Zi (QK 4 (q S).2.length 4 (q S).1).buf.length (q S).2).length=n:=by rw[Qdl,hn]
  refine ⟨this.inv,?_,?_,this.off⟩
  ·have l:=this.len
   rw[e]at l
   refine Nat.le_trans l ?_
   omega
  ·exact Nat.le_trans h3 this.le
theorem optStat_ok (d:Option ZU) {S:BS} (h:Inv S):Y0 S (Qik d+100) (Qhq d S):=by
 unfold Qhq
 cases d with
 |none=>exact (Y0.id h).mono (by omega)
 |some s=>exact (packStat_ok s h).1
theorem Qj0 (b:Bool) {S:BS} (h:Inv S):Y0 S 40 (Qed b S):=by
 unfold Qed
 cases b
 ·exact (Y0.id h).mono (by omega)
 ·exact (packParent_ok h).1
theorem QeZ {amb:Bool} {ty color:UInt8} {kid:BS->BS×Nat} {c:Nat} {S:BS} (h:Inv S) (hk:Y0 S c (kid S)):Y0 S (c+40) (Qbl amb ty color kid S):=by
 unfold Qbl
 split
 ·exact (Y0.id h).mono (by omega)
 ·split
  ·exact (packSimple_ok color h).1.mono (by omega)
  ·exact hk.mono (by omega)
theorem Qbe {α:Type} (c:Nat):∀l:List α,(l.map fun _=>c).sum=c*l.length
 |[]=>by simp
 |x::l=>by simp[Qbe c l,Nat.mul_add];omega
theorem Qd4 {α:Type} (f:α->Nat) (c:Nat):∀l:List α,(l.map fun x=>f x+c).sum=(l.map f).sum+c*l.length
 |[]=>by simp
 |x::l=>by simp[Qd4 f c l,Nat.mul_add];omega
theorem strs_ok (l:List (List UInt8)) {S:BS} (h:Inv S):Y0 S ((l.map List.length).sum+12*l.length+15) (QiK (Qy Qb3 l) S):=by
 obtain ⟨h1,h2,h3,_⟩:=QbM (f:=Qb3) (c:=fun x=>x.length+8) l (fun x _ S hS=>Qc4 x hS) S h
 rw[Qd4]at h2
 exact (optO_ok h ⟨h1,h2,h3⟩ (Qa0 _ _ _)).mono (by omega)
theorem refs_ok (l:List UInt64) {S:BS} (h:Inv S):Y0 S (44*l.length+15) (QiK (Qy QaW l) S):=by
 obtain ⟨h1,h2,h3,_⟩:=QbM (f:=QaW) (c:=fun _=>40) l (fun x _ S hS=>(Qf2 x hS).1) S h
 rw[Qbe]at h2
 exact (optO_ok h ⟨h1,h2,h3⟩ (Qa0 _ _ _)).mono (by omega)
end Go.Proofs
namespace Go.Proofs
open Go Go.Vc
open Tryz (prog)
theorem foldMk_ok:∀(fs:List (BS->BS×Nat)) (cs:List Nat),fs.length=cs.length->(∀(i:Nat) f c,fs[i]?=some f->cs[i]?=some c->∀S,Inv S->Y0 S c (f S))->∀S,Inv S->
  Inv (Qy (fun f=>f) fs S).1/\(Qy (fun f=>f) fs S).1.buf.length<=S.buf.length+cs.sum/\S.buf.length<=(Qy (fun f=>f) fs S).1.buf.length/\∀o∈(Qy (fun f=>f) fs S).2,o<=(Qy (fun f=>f) fs S).1.buf.length
 |[],[],_,_,S,h=>⟨h,by simp[Qy],Nat.le_refl _,by simp[Qy]⟩
 |f::fs,c::cs,hl,hf,S,h=>by
  have h1:=hf 0 f c rfl rfl S h
  obtain ⟨g1,g2,g3,g4⟩:=foldMk_ok fs cs (by simpa using hl) (fun i f c a b=>hf (i+1) f c (by simpa using a) (by simpa using b)) (f S).1 h1.inv
  have h2:=h1.len
  have h3:=h1.le
  have h4:=h1.off
  refine ⟨g1,?_,?_,?_⟩
  ·show (Qy (fun f=>f) fs (f S).1).1.buf.length<=_
   simp only[List.sum_cons];omega
  ·show _<=(Qy (fun f=>f) fs (f S).1).1.buf.length
   omega
  ·intro o ho
   show o<=(Qy (fun f=>f) fs (f S).1).1.buf.length
   rcases List.mem_cons.1 ho with rfl|ho
   ·exact Nat.le_trans h4 g3
   ·exact g4 o ho
def MkOk:List (BS->BS×Nat)->List Nat->Prop
 |[],[]=>True
 |f::fs,c::cs=>(∀S,Inv S->Y0 S c (f S))/\MkOk fs cs
 |_,_=>False
theorem MkOk.to:∀{fs:List (BS->BS×Nat)} {cs:List Nat},MkOk fs cs->fs.length=cs.length/\∀(i:Nat) f c,fs[i]?=some f->cs[i]?=some c->∀S,Inv S->Y0 S c (f S)
 |[],[],_=>⟨rfl,fun i f c h=>by simp at h⟩
 |f::fs,c::cs,h=>by
  obtain ⟨h1,h2⟩:=h
  obtain ⟨g1,g2⟩:=MkOk.to h2
  refine ⟨by simp[g1],fun i f' c' a b=>?_⟩
  cases i with
  |zero=>simp at a b;subst a;subst b;exact h1
  |succ i=>exact g2 i f' c' (by simpa using a) (by simpa using b)
 |[],_::_,h=>h.elim
 |_::_,[],h=>h.elim
theorem runS_ok {S0:BS} {n k:Nat}:∀(fs:List (BS->BS)),(∀f∈fs,∀c S,YA S0 n c S->YA S0 n (c+k) (f S))->∀c S,YA S0 n c S->YA S0 n (c+k*fs.length) (runS fs S)
 |[],_,c,S,h=>by simpa [runS]using h
 |f::fs,hf,c,S,h=>by
  have h1:=hf f List.mem_cons_self c S h
  have h2:=runS_ok fs (fun g hg=>hf g (List.mem_cons_of_mem _ hg)) (c+k) (f S) h1
  refine h2.mono ?_
  simp only[List.length_cons,Nat.mul_add];omega
theorem vec3_len (v:Qa9):(Qff v).length=32:=by simp[Qff,vec3B,Qg]
theorem YA.slotPos {S0 S:BS} {n c:Nat} (h:YA S0 n c S) (pos:Option Qa9):YA S0 n (c+64) (Proofs.slotPos pos S):=by
 unfold Proofs.slotPos
 cases pos with
 |none=>exact h.mono (by omega)
 |some v=>
  have h1:=((h.prep (a:=32) QfV).place (Qff v)).slotStruct (off:=(Vc.place (Qff v) (Vc.prep 8 32 S)).buf.length) (o:=0)
  exact h1.mono (by rw[vec3_len];omega)
theorem YA.slotTy {S0 S:BS} {n c o:Nat} {ty:UInt8} (h:YA S0 n c S):YA S0 n (c+64) (Proofs.slotTy ty o S):=by
 unfold Proofs.slotTy
 split
 ·exact h.mono (by omega)
 ·exact (h.slotN P2_1).mono (by omega)
set_option maxRecDepth 4000 in
theorem slotsF_ok (fc:Nat) (d:QaM) (o:List Nat) {S0:BS} {n:Nat}:∀f∈Qhi fc d o,∀c S,YA S0 n c S->YA S0 n (c+64) (f S):=by
 intro f hf c S h
 have hP:∀{k oo x:Nat},P2 k->YA S0 n (c+64) (slot oo (putN k (leB (x:Int) k) S)):=fun hk=>((h.putN hk (by rw[Qg];exact hk.le)).slot).mono (by omega)
 have hN:∀{k x dd oo:Nat},P2 k->YA S0 n (c+64) (slotNF fc k x dd oo S):=fun hk=>by unfold slotNF;split;exact h.mono (by omega);exact hP hk
 have hO:∀{x oo:Nat},YA S0 n (c+64) (slotOff x oo S):=h.slotOff.mono (by omega)
 have hFl:∀{x dd oo:Nat},YA S0 n (c+64) (slotFF fc x dd oo S):=by intro x dd oo;unfold slotFF;split;exact h.mono (by omega);exact hP QgV
 unfold Qhi at hf
 simp only[List.mem_cons,List.not_mem_nil,or_false]at hf
 rcases hf with rfl|rfl|rfl|rfl|rfl|rfl|rfl|rfl|rfl|rfl|rfl|rfl|rfl|rfl|rfl|rfl|rfl|rfl|rfl|rfl|rfl|rfl|rfl|rfl|rfl|rfl|rfl|rfl|rfl|rfl|rfl|rfl|rfl|rfl|rfl|rfl|rfl|rfl|rfl|rfl|rfl|rfl|rfl|rfl|rfl|rfl|rfl|rfl
 all_goals first
  |exact h.slotPos _
  |exact h.slotTy
  |exact hO
  |exact hFl
  |exact hN P2_1
  |exact hN P2_2
  |exact hN QgV
  |exact hN QfV
end Go.Proofs
namespace Go.Proofs
open Go Go.Vc
open Tryz (prog)
theorem Qb1 (a b:Nat):(Qao a b).length=4:=by simp[Qao,Qg]
theorem QbZ (a b:Nat):(Z4 a b).length=8:=by simp[Z4,Qg]
theorem Yd {α:Type} {f:α->List UInt8} {k:Nat} (h:∀x,(f x).length=k) {l:List α}:∀y∈l.map f,y.length=k:=by
 intro y hy
 obtain ⟨x,_,rfl⟩:=List.mem_map.1 hy
 exact h x
def QgH (d:QaM) (ct nt ce cu cq ca:Nat):List Nat:=
 [d.name.length+8,d.inventory.length+8,cu+40,4*d.test4.length+15,(d.strings.map List.length).sum+12*d.strings.length+15,ct+4*nt+15,ce,d.nested.length+8,Qik d.empty+100,
  1*d.bools.length+15,(d.strings2.map List.length).sum+12*d.strings2.length+15,8*d.abilities.length+15,d.flex.length+8,4*d.test5.length+15,8*d.longs.length+15,8*d.doubles.length+15,40,
  44*d.refs.length+15,8*d.weak.length+15,44*d.strong.length+15,8*d.coOwnings.length+15,8*d.nonOwnings.length+15,cq+40,ca+40,1*d.enums.length+15]
theorem makers_ok (d:QaM) {tables:BS->BS×List Nat} {enemy test uniq amb:BS->BS×Nat} {ct nt ce cu cq ca:Nat}
  (ht:∀S,Inv S->(Inv (tables S).1/\(tables S).1.buf.length<=S.buf.length+ct/\S.buf.length<=(tables S).1.buf.length)/\(tables S).2.length=nt)
  (he:∀S,Inv S->Y0 S ce (enemy S)) (hu:∀S,Inv S->Y0 S cu (test S)) (hq:∀S,Inv S->Y0 S cq (uniq S)) (ha:∀S,Inv S->Y0 S ca (amb S)):
  MkOk (Qet d tables enemy test uniq amb) (QgH d ct nt ce cu cq ca):=by
 have hu8:∀x,(Qak x).length=8:=fun x=>Qg _ _
 have v8:∀(l:List UInt64) S,Inv S->Y0 S (8*l.length+15) (Qhf 8 8 (l.map Qak) S):=fun l S h=>by
  have:=Qbt (es:=8) QfV (Yd hu8 (l:=l)) h
  rwa [List.length_map]at this
 refine ⟨fun S h=>Qc4 _ h,fun S h=>Qis _ h,fun S h=>QeZ h (hu S h),fun S h=>?_,fun S h=>strs_ok _ h,fun S h=>optO_ok h (ht S h).1 (ht S h).2,he,fun S h=>Qis _ h,fun S h=>optStat_ok _ h,fun S h=>?_,fun S h=>strs_ok _ h,
  fun S h=>?_,fun S h=>Qis _ h,fun S h=>?_,v8 _,v8 _,fun S h=>Qj0 _ h,fun S h=>refs_ok _ h,v8 _,fun S h=>refs_ok _ h,v8 _,v8 _,fun S h=>QeZ h (hq S h),fun S h=>QeZ h (ha S h),fun S h=>?_,trivial⟩
 ·have:=Qbt (es:=4) P2_2 (Yd (fun t:QbB=>Qb1 t.a.toNat t.b.toNat) (l:=d.test4)) h
  rwa [List.length_map]at this
 ·have:=Qbt (es:=1) P2_1 (Yd (fun b:Bool=>(rfl:(Qf0 b).length=1)) (l:=d.bools)) h
  rwa [List.length_map]at this
 ·have:=Qbt (es:=8) QgV (Yd (fun t:QgK=>QbZ t.id.toNat t.dist.toNat) (l:=d.abilities)) h
  rwa [List.length_map]at this
 ·have:=Qbt (es:=4) P2_2 (Yd (fun t:QbB=>Qb1 t.a.toNat t.b.toNat) (l:=d.test5)) h
  rwa [List.length_map]at this
 ·have:=Qbt (es:=1) P2_1 (Yd (fun b:UInt8=>(rfl:[b].length=1)) (l:=d.enums)) h
  rwa [List.length_map]at this
theorem packTF_ok (fc:Nat) (d:QaM) {tables:BS->BS×List Nat} {enemy test uniq amb:BS->BS×Nat} {ct nt ce cu cq ca:Nat}
  (ht:∀S,Inv S->(Inv (tables S).1/\(tables S).1.buf.length<=S.buf.length+ct/\S.buf.length<=(tables S).1.buf.length)/\(tables S).2.length=nt)
  (he:∀S,Inv S->Y0 S ce (enemy S)) (hu:∀S,Inv S->Y0 S cu (test S)) (hq:∀S,Inv S->Y0 S cq (uniq S)) (ha:∀S,Inv S->Y0 S ca (amb S)) {S:BS} (h:Inv S):
  Y0 S (QiL d+60*nt+ct+ce+cu+cq+ca) (packTF fc d tables enemy test uniq amb S)/\0<(packTF fc d tables enemy test uniq amb S).2:=by
 obtain ⟨m1,m2⟩:=MkOk.to (makers_ok d ht he hu hq ha)
 obtain ⟨g1,g2,g3,g4⟩:=foldMk_ok _ _ m1 m2 S h
 unfold packTF
 generalize Qy (fun f=>f) (Qet d tables enemy test uniq amb) S=q at *
 have hs:=runS_ok (Qhi fc d q.2) (slotsF_ok fc d q.2) 0 _ (YA.start (n:=49) g1.min)
 have hp:=Y0.endT hs g1 (by decide)
 refine ⟨⟨hp.1.inv,?_,Nat.le_trans g3 hp.1.le,hp.1.off⟩,hp.2⟩
 have h1:=hp.1.len
 have hl:(Qhi fc d q.2).length=48:=rfl
 rw[hl]at h1
 have hsum:(QgH d ct nt ce cu cq ca).sum+4000<=QiL d+60*nt+ct+ce+cu+cq+ca:=by
  unfold QgH QiL
  simp only[List.sum_cons,List.sum_nil]
  omega
 omega
mutual
theorem QgU:∀(m:Mon) (S:BS),Inv S->Y0 S (Qa1 m) (Zv m S)/\0<(Zv m S).2
 |.mk d tables enemy test uniq amb,S,h=>by
  have:=packTF_ok 49 (d:=d) (ct:=Z6 tables) (nt:=tables.length) (ce:=Z6 enemy) (cu:=Z6 test) (cq:=Z6 uniq) (ca:=Z6 amb) (tables:=Qcq tables) (enemy:=Y9 enemy) (test:=Y9 test) (uniq:=Y9 uniq) (amb:=Y9 amb)
   (fun S h=>Qfb tables S h) (fun S h=>Z8 enemy S h) (fun S h=>Z8 test S h) (fun S h=>Z8 uniq S h) (fun S h=>Z8 amb S h) h
  rw[Zv,<-packTF_49]
  refine ⟨this.1.mono ?_,this.2⟩
  rw[Qa1];omega
theorem Qfb:∀(ms:List Mon) (S:BS),Inv S->(Inv (Qcq ms S).1/\(Qcq ms S).1.buf.length<=S.buf.length+Z6 ms/\S.buf.length<=(Qcq ms S).1.buf.length)/\(Qcq ms S).2.length=ms.length
 |[],S,h=>by rw[Qcq];exact ⟨⟨h,Nat.le_add_right _ _,Nat.le_refl _⟩,rfl⟩
 |m::ms,S,h=>by
  have h1:=(QgU m S h).1
  have h2:=Qfb ms (Zv m S).1 h1.inv
  have:=h1.len
  have:=h1.le
  have:=h2.1.2.1
  have:=h2.1.2.2
  rw[Qcq,Z6]
  exact ⟨⟨h2.1.1,by show (Qcq ms (Zv m S).1).1.buf.length<=_;omega,by show _<=(Qcq ms (Zv m S).1).1.buf.length;omega⟩,by simp[h2.2]⟩
theorem Z8:∀(ms:List Mon) (S:BS),Inv S->Y0 S (Z6 ms) (Y9 ms S)
 |[],S,h=>by rw[Y9];exact (Y0.id h).mono (Nat.zero_le _)
 |m::ms,S,h=>by
  rw[Y9,Z6]
  exact (QgU m S h).1.mono (by omega)
end
end Go.Proofs
namespace Go.Proofs
open Go Go.Vc
open Tryz (prog)
theorem costs_mem:∀{k:Mon} {l:List Mon},k∈l->Qa1 k<=Z6 l
 |k,[],h=>by simp at h
 |k,m::ms,h=>by
  rw[Z6]
  rcases List.mem_cons.1 h with rfl|h
  ·omega
  ·have:=costs_mem h;omega
theorem costs_sum:∀l:List Mon,(l.map Qa1).sum=Z6 l
 |[]=>rfl
 |m::ms=>by rw[List.map_cons,List.sum_cons,Z6,costs_sum ms]
def PackOk (n:Nat):Prop:=∀(m:Mon),Qa1 m<n->∀(H:Qe) (p:Nat) (S:BS) (F:Cut) (r:Nat) (v:Value) (R:Kn),Qc H p S F r->Inv S->MT F v m->S.buf.length+Qa1 m+20000<=536870912->
 (∀H',Qc H' p (Zv m S).1 F 0->R (.int .u32 ((Zv m S).2:Nat)) H')->FnS prog 23 #[v,.pointer (some ⟨p,0,none⟩)] H R
theorem kidOk {n:Nat} (ih:PackOk n) {p:Nat} {S:BS} {F:Cut} {r:Nat} {H:Qe} {c:Value} {kids:List Mon} (hB:Qc H p S F r) (hI:Inv S) (hs:Z6 kids<n) (hm:∀k,k∈kids->MT F c k) (hl:S.buf.length+Z6 kids+20000<=536870912):KidOk p S F H c kids:=by
 rintro k rfl R hR
 refine ih k ?_ H p S F r c R hB hI (hm k (by simp)) ?_ hR
 ·rw[Z6,Z6]at hs;omega
 ·rw[Z6,Z6]at hl;omega
end Go.Proofs
namespace Go.Proofs
open Go Go.Vc
open Tryz (prog)
set_option maxRecDepth 4000
def packTail (x0 x1 x78 x6 x95 x8 x11 x16 x226 x22 x243 x24 x27 x32 x35 x36 x39 x42 x462 x46 x51 x54 x59 x62 x655 x661 x67:Value) (h128:Qe) (R:Kn):Prop:=
 Qa prog 105 #[x1] h128 fun _x694 h129=>
 Q1 x0 fun x696=>
 Qf x696 0 fun x697=>
 LdK h129 x697 fun x698=>
 Qa prog 106 #[x698,x1] h129 fun x700 h130=>
 Qa prog 107 #[x1,x700] h130 fun _x703 h131=>
 Q1 x0 fun x706=>
 Qf x706 1 fun x707=>
 LdK h131 x707 fun x708=>
 Qa prog 108 #[x1,x708] h131 fun _x709 h132=>
 Q1 x0 fun x712=>
 Qf x712 2 fun x713=>
 LdK h132 x713 fun x714=>
 Qa prog 109 #[x1,x714] h132 fun _x715 h133=>
 Qa prog 110 #[x1,x78] h133 fun _x718 h134=>
 Qa prog 111 #[x1,x6] h134 fun _x721 h135=>
 Q1 x0 fun x724=>
 Qf x724 5 fun x725=>
 LdK h135 x725 fun x726=>
 Qa prog 112 #[x1,x726] h135 fun _x727 h136=>
 QA (fun M79=>
 Q1 x0 fun x729=>
 Qf x729 6 fun x730=>
 LdK h136 x730 fun x731=>
 Qj prog .neq 145 x731 (.pointer none) fun x732=>
 IfK x732
 (Q1 x0 fun x735=>
 Qf x735 6 fun x736=>
 LdK h136 x736 fun x737=>
 Q1 x737 fun x738=>
 Qf x738 0 fun x739=>
 LdK h136 x739 fun x740=>
 Qa prog 113 #[x1,x740] h136 fun _x741 h137=>
 M79 [] h137)
 (M79 [] h136)) fun M79=>∀h138:Qe,M79 [] h138->
 Qa prog 114 #[x1,x95] h138 fun _x744 h139=>
 Qa prog 115 #[x1,x8] h139 fun _x747 h140=>
 Qa prog 116 #[x1,x11] h140 fun _x750 h141=>
 Qa prog 117 #[x1,x16] h141 fun _x753 h142=>
 Qa prog 118 #[x1,x226] h142 fun _x756 h143=>
 Qa prog 119 #[x1,x22] h143 fun _x759 h144=>
 Qa prog 120 #[x1,x243] h144 fun _x762 h145=>
 Q1 x0 fun x765=>
 Qf x765 13 fun x766=>
 LdK h145 x766 fun x767=>
 Qa prog 121 #[x1,x767] h145 fun _x768 h146=>
 Q1 x0 fun x771=>
 Qf x771 14 fun x772=>
 LdK h146 x772 fun x773=>
 Qa prog 122 #[x1,x773] h146 fun _x774 h147=>
 Q1 x0 fun x777=>
 Qf x777 15 fun x778=>
 LdK h147 x778 fun x779=>
 Qa prog 123 #[x1,x779] h147 fun _x780 h148=>
 Q1 x0 fun x783=>
 Qf x783 16 fun x784=>
 LdK h148 x784 fun x785=>
 Qa prog 124 #[x1,x785] h148 fun _x786 h149=>
 Q1 x0 fun x789=>
 Qf x789 17 fun x790=>
 LdK h149 x790 fun x791=>
 Qa prog 125 #[x1,x791] h149 fun _x792 h150=>
 Q1 x0 fun x795=>
 Qf x795 18 fun x796=>
 LdK h150 x796 fun x797=>
 Qa prog 126 #[x1,x797] h150 fun _x798 h151=>
 Q1 x0 fun x801=>
 Qf x801 19 fun x802=>
 LdK h151 x802 fun x803=>
 Qa prog 127 #[x1,x803] h151 fun _x804 h152=>
 Q1 x0 fun x807=>
 Qf x807 20 fun x808=>
 LdK h152 x808 fun x809=>
 Qa prog 128 #[x1,x809] h152 fun _x810 h153=>
 Q1 x0 fun x813=>
 Qf x813 21 fun x814=>
 LdK h153 x814 fun x815=>
 Qa prog 129 #[x1,x815] h153 fun _x816 h154=>
 Qa prog 130 #[x1,x24] h154 fun _x819 h155=>
 Q1 x0 fun x822=>
 Qf x822 23 fun x823=>
 LdK h155 x823 fun x824=>
 Qa prog 131 #[x1,x824] h155 fun _x825 h156=>
 Q1 x0 fun x828=>
 Qf x828 24 fun x829=>
 LdK h156 x829 fun x830=>
 Qa prog 132 #[x1,x830] h156 fun _x831 h157=>
 Q1 x0 fun x834=>
 Qf x834 25 fun x835=>
 LdK h157 x835 fun x836=>
 Qa prog 133 #[x1,x836] h157 fun _x837 h158=>
 Qa prog 134 #[x1,x27] h158 fun _x840 h159=>
 Qa prog 135 #[x1,x32] h159 fun _x843 h160=>
 Qa prog 136 #[x1,x35] h160 fun _x846 h161=>
 Qa prog 137 #[x1,x36] h161 fun _x849 h162=>
 Qa prog 138 #[x1,x39] h162 fun _x852 h163=>
 Qa prog 139 #[x1,x42] h163 fun _x855 h164=>
 Qa prog 140 #[x1,x462] h164 fun _x858 h165=>
 Qa prog 141 #[x1,x46] h165 fun _x861 h166=>
 Q1 x0 fun x864=>
 Qf x864 34 fun x865=>
 LdK h166 x865 fun x866=>
 Qa prog 142 #[x1,x866] h166 fun _x867 h167=>
 Qa prog 143 #[x1,x51] h167 fun _x870 h168=>
 Qa prog 144 #[x1,x54] h168 fun _x873 h169=>
 Q1 x0 fun x876=>
 Qf x876 37 fun x877=>
 LdK h169 x877 fun x878=>
 Qa prog 145 #[x1,x878] h169 fun _x879 h170=>
 Qa prog 146 #[x1,x59] h170 fun _x882 h171=>
 Q1 x0 fun x885=>
 Qf x885 39 fun x886=>
 LdK h171 x886 fun x887=>
 Qa prog 147 #[x1,x887] h171 fun _x888 h172=>
 Qa prog 148 #[x1,x62] h172 fun _x891 h173=>
 QA (fun M80=>
 Q1 x0 fun x893=>
 Qf x893 41 fun x894=>
 LdK h173 x894 fun x895=>
 Qj prog .neq 151 x895 (.pointer none) fun x896=>
 IfK x896
 (Q1 x0 fun x899=>
 Qf x899 41 fun x900=>
 LdK h173 x900 fun x901=>
 Q1 x901 fun x902=>
 Qf x902 0 fun x903=>
 LdK h173 x903 fun x904=>
 Qa prog 149 #[x1,x904] h173 fun _x905 h174=>
 M80 [] h174)
 (M80 [] h173)) fun M80=>∀h175:Qe,M80 [] h175->
 Qa prog 150 #[x1,x655] h175 fun _x908 h176=>
 QA (fun M81=>
 Q1 x0 fun x910=>
 Qf x910 42 fun x911=>
 LdK h176 x911 fun x912=>
 Qj prog .neq 152 x912 (.pointer none) fun x913=>
 IfK x913
 (Q1 x0 fun x916=>
 Qf x916 42 fun x917=>
 LdK h176 x917 fun x918=>
 Q1 x918 fun x919=>
 Qf x919 0 fun x920=>
 LdK h176 x920 fun x921=>
 Qa prog 151 #[x1,x921] h176 fun _x922 h177=>
 M81 [] h177)
 (M81 [] h176)) fun M81=>∀h178:Qe,M81 [] h178->
 Qa prog 152 #[x1,x661] h178 fun _x925 h179=>
 Qa prog 153 #[x1,x67] h179 fun _x928 h180=>
 Q1 x0 fun x931=>
 Qf x931 44 fun x932=>
 LdK h180 x932 fun x933=>
 Qa prog 154 #[x1,x933] h180 fun _x934 h181=>
 Qa prog 155 #[x1] h181 fun x936 h182=>
 R x936 h182
def packHead (x0 x1:Value) (h:Qe) (R:Kn):Prop:=
 Qj prog .eql 75 x0 (.pointer none) fun x72=>
 IfK x72
 (R (.int .u32 0) h)
 (Q1 x0 fun x75=>
 Qf x75 3 fun x76=>
 LdK h x76 fun x77=>
 Qa prog 74 #[x1,x77] h fun x78 h1=>
 QA (fun M1=>
 Q1 x0 fun x80=>
 Qf x80 4 fun x81=>
 LdK h1 x81 fun x82=>
 Qj prog .neq 78 x82 (.slice none 0 0) fun x83=>
 IfK x83
 (Q1 x0 fun x86=>
 Qf x86 4 fun x87=>
 LdK h1 x87 fun x88=>
 Qa prog 75 #[x1,x88] h1 fun x89 h2=>
 M1 [x89] h2)
 (M1 [(.int .u32 0)] h1)) fun M1=>∀x6:Value,∀h3:Qe,M1 [x6] h3->
 Q1 x0 fun x91=>
 Qf x91 6 fun x92=>
 LdK h3 x92 fun x93=>
 Qa prog 76 #[x93,x1] h3 fun x95 h4=>
 QA (fun M2=>
 Q1 x0 fun x97=>
 Qf x97 7 fun x98=>
 LdK h4 x98 fun x99=>
 Qj prog .neq 137 x99 (.slice none 0 0) fun x100=>
 IfK x100
 (Q1 x0 fun x102=>
 Qf x102 7 fun x103=>
 LdK h4 x103 fun x104=>
 Y1 x104 fun x105=>
 Qa prog 77 #[x1,x105] h4 fun _x108 h5=>
 QA (fun M3=>
 Qj prog .sub 3 x105 (.int .i64 1) fun x110=>
 Yu [x110] h5 fun I4 n5=>∀x10:Value,∀h6:Qe,I4 n5 [x10] h6->
 Qj prog .geq 3 x10 (.int .i64 0) fun x112=>
 IfK x112
 (Q1 x0 fun x116=>
 Qf x116 7 fun x117=>
 LdK h6 x117 fun x118=>
 Y2 1 x118 x10 fun x120=>
 LdK h6 x120 fun x121=>
 Qa prog 78 #[x121,x1] h6 fun _x123 h7=>
 Qj prog .sub 3 x10 (.int .i64 1) fun x114=>
 QQ I4 n5 [x114] h7)
 (M3 [x10] h6)) fun M3=>∀x10_1:Value,∀h8:Qe,M3 [x10_1] h8->
 Qa prog 79 #[x1,x105] h8 fun x126 h9=>
 M2 [x126] h9)
 (M2 [(.int .u32 0)] h4)) fun M2=>∀x8:Value,∀h10:Qe,M2 [x8] h10->
 QA (fun M6=>
 Q1 x0 fun x128=>
 Qf x128 8 fun x129=>
 LdK h10 x129 fun x130=>
 Qj prog .neq 28 x130 (.slice none 0 0) fun x131=>
 IfK x131
 (Q1 x0 fun x133=>
 Qf x133 8 fun x134=>
 LdK h10 x134 fun x135=>
 Y1 x135 fun x136=>
 Qez h10 74 4 z74 x136 x136 fun x138 h11=>
 QA (fun M7=>
 Yu [(.int .i64 0)] h11 fun I8 n9=>∀x14:Value,∀h12:Qe,I8 n9 [x14] h12->
 Qj prog .lss 3 x14 x136 fun x141=>
 IfK x141
 (Q1 x0 fun x148=>
 Qf x148 8 fun x149=>
 LdK h12 x149 fun x150=>
 Y2 1 x150 x14 fun x152=>
 LdK h12 x152 fun x153=>
 Qa prog 74 #[x1,x153] h12 fun x154 h13=>
 Y2 1 x138 x14 fun x155=>
 StK h13 1 x155 x154 fun h14=>
 Qj prog .add 3 x14 (.int .i64 1) fun x143=>
 QQ I8 n9 [x143] h14)
 (M7 [x14] h12)) fun M7=>∀x14_1:Value,∀h15:Qe,M7 [x14_1] h15->
 Qa prog 80 #[x1,x136] h15 fun _x158 h16=>
 QA (fun M10=>
 Qj prog .sub 3 x136 (.int .i64 1) fun x160=>
 Yu [x160] h16 fun I11 n12=>∀x15:Value,∀h17:Qe,I11 n12 [x15] h17->
 Qj prog .geq 3 x15 (.int .i64 0) fun x162=>
 IfK x162
 (Y2 1 x138 x15 fun x168=>
 LdK h17 x168 fun x169=>
 Qa prog 62 #[x1,x169] h17 fun _x170 h18=>
 Qj prog .sub 3 x15 (.int .i64 1) fun x164=>
 QQ I11 n12 [x164] h18)
 (M10 [x15] h17)) fun M10=>∀x15_1:Value,∀h19:Qe,M10 [x15_1] h19->
 Qa prog 79 #[x1,x136] h19 fun x173 h20=>
 M6 [x173] h20)
 (M6 [(.int .u32 0)] h10)) fun M6=>∀x11:Value,∀h21:Qe,M6 [x11] h21->
 QA (fun M13=>
 Q1 x0 fun x175=>
 Qf x175 9 fun x176=>
 LdK h21 x176 fun x177=>
 Qj prog .neq 146 x177 (.slice none 0 0) fun x178=>
 IfK x178
 (Q1 x0 fun x180=>
 Qf x180 9 fun x181=>
 LdK h21 x181 fun x182=>
 Y1 x182 fun x183=>
 Qez h21 74 4 z74 x183 x183 fun x185 h22=>
 QA (fun M14=>
 Yu [(.int .i64 0)] h22 fun I15 n16=>∀x19:Value,∀h23:Qe,I15 n16 [x19] h23->
 Qj prog .lss 3 x19 x183 fun x188=>
 IfK x188
 (Q1 x0 fun x194=>
 Qf x194 9 fun x195=>
 LdK h23 x195 fun x196=>
 Y2 1 x196 x19 fun x198=>
 LdK h23 x198 fun x199=>
 Qa prog 23 #[x199,x1] h23 fun x201 h24=>
 Y2 1 x185 x19 fun x202=>
 StK h24 1 x202 x201 fun h25=>
 Qj prog .add 3 x19 (.int .i64 1) fun x190=>
 QQ I15 n16 [x190] h25)
 (M14 [x19] h23)) fun M14=>∀x19_1:Value,∀h26:Qe,M14 [x19_1] h26->
 Qa prog 81 #[x1,x183] h26 fun _x205 h27=>
 QA (fun M17=>
 Qj prog .sub 3 x183 (.int .i64 1) fun x207=>
 Yu [x207] h27 fun I18 n19=>∀x20:Value,∀h28:Qe,I18 n19 [x20] h28->
 Qj prog .geq 3 x20 (.int .i64 0) fun x209=>
 IfK x209
 (Y2 1 x185 x20 fun x215=>
 LdK h28 x215 fun x216=>
 Qa prog 62 #[x1,x216] h28 fun _x217 h29=>
 Qj prog .sub 3 x20 (.int .i64 1) fun x211=>
 QQ I18 n19 [x211] h29)
 (M17 [x20] h28)) fun M17=>∀x20_1:Value,∀h30:Qe,M17 [x20_1] h30->
 Qa prog 79 #[x1,x183] h30 fun x220 h31=>
 M13 [x220] h31)
 (M13 [(.int .u32 0)] h21)) fun M13=>∀x16:Value,∀h32:Qe,M13 [x16] h32->
 Q1 x0 fun x222=>
 Qf x222 10 fun x223=>
 LdK h32 x223 fun x224=>
 Qa prog 23 #[x224,x1] h32 fun x226 h33=>
 QA (fun M20=>
 Q1 x0 fun x228=>
 Qf x228 11 fun x229=>
 LdK h33 x229 fun x230=>
 Qj prog .neq 78 x230 (.slice none 0 0) fun x231=>
 IfK x231
 (Q1 x0 fun x234=>
 Qf x234 11 fun x235=>
 LdK h33 x235 fun x236=>
 Qa prog 75 #[x1,x236] h33 fun x237 h34=>
 M20 [x237] h34)
 (M20 [(.int .u32 0)] h33)) fun M20=>∀x22:Value,∀h35:Qe,M20 [x22] h35->
 Q1 x0 fun x239=>
 Qf x239 12 fun x240=>
 LdK h35 x240 fun x241=>
 Qa prog 82 #[x241,x1] h35 fun x243 h36=>
 QA (fun M21=>
 Q1 x0 fun x245=>
 Qf x245 22 fun x246=>
 LdK h36 x246 fun x247=>
 Qj prog .neq 32 x247 (.slice none 0 0) fun x248=>
 IfK x248
 (Q1 x0 fun x250=>
 Qf x250 22 fun x251=>
 LdK h36 x251 fun x252=>
 Y1 x252 fun x253=>
 Qa prog 83 #[x1,x253] h36 fun _x256 h37=>
 QA (fun M22=>
 Qj prog .sub 3 x253 (.int .i64 1) fun x258=>
 Yu [x258] h37 fun I23 n24=>∀x26:Value,∀h38:Qe,I23 n24 [x26] h38->
 Qj prog .geq 3 x26 (.int .i64 0) fun x260=>
 IfK x260
 (Q1 x0 fun x265=>
 Qf x265 22 fun x266=>
 LdK h38 x266 fun x267=>
 Y2 1 x267 x26 fun x269=>
 LdK h38 x269 fun x270=>
 Qa prog 84 #[x1,x270] h38 fun _x271 h39=>
 Qj prog .sub 3 x26 (.int .i64 1) fun x262=>
 QQ I23 n24 [x262] h39)
 (M22 [x26] h38)) fun M22=>∀x26_1:Value,∀h40:Qe,M22 [x26_1] h40->
 Qa prog 79 #[x1,x253] h40 fun x274 h41=>
 M21 [x274] h41)
 (M21 [(.int .u32 0)] h36)) fun M21=>∀x24:Value,∀h42:Qe,M21 [x24] h42->
 QA (fun M25=>
 Q1 x0 fun x276=>
 Qf x276 26 fun x277=>
 LdK h42 x277 fun x278=>
 Qj prog .neq 28 x278 (.slice none 0 0) fun x279=>
 IfK x279
 (Q1 x0 fun x281=>
 Qf x281 26 fun x282=>
 LdK h42 x282 fun x283=>
 Y1 x283 fun x284=>
 Qez h42 74 4 z74 x284 x284 fun x286 h43=>
 QA (fun M26=>
 Yu [(.int .i64 0)] h43 fun I27 n28=>∀x30:Value,∀h44:Qe,I27 n28 [x30] h44->
 Qj prog .lss 3 x30 x284 fun x289=>
 IfK x289
 (Q1 x0 fun x296=>
 Qf x296 26 fun x297=>
 LdK h44 x297 fun x298=>
 Y2 1 x298 x30 fun x300=>
 LdK h44 x300 fun x301=>
 Qa prog 74 #[x1,x301] h44 fun x302 h45=>
 Y2 1 x286 x30 fun x303=>
 StK h45 1 x303 x302 fun h46=>
 Qj prog .add 3 x30 (.int .i64 1) fun x291=>
 QQ I27 n28 [x291] h46)
 (M26 [x30] h44)) fun M26=>∀x30_1:Value,∀h47:Qe,M26 [x30_1] h47->
 Qa prog 85 #[x1,x284] h47 fun _x306 h48=>
 QA (fun M29=>
 Qj prog .sub 3 x284 (.int .i64 1) fun x308=>
 Yu [x308] h48 fun I30 n31=>∀x31:Value,∀h49:Qe,I30 n31 [x31] h49->
 Qj prog .geq 3 x31 (.int .i64 0) fun x310=>
 IfK x310
 (Y2 1 x286 x31 fun x316=>
 LdK h49 x316 fun x317=>
 Qa prog 62 #[x1,x317] h49 fun _x318 h50=>
 Qj prog .sub 3 x31 (.int .i64 1) fun x312=>
 QQ I30 n31 [x312] h50)
 (M29 [x31] h49)) fun M29=>∀x31_1:Value,∀h51:Qe,M29 [x31_1] h51->
 Qa prog 79 #[x1,x284] h51 fun x321 h52=>
 M25 [x321] h52)
 (M25 [(.int .u32 0)] h42)) fun M25=>∀x27:Value,∀h53:Qe,M25 [x27] h53->
 QA (fun M32=>
 Q1 x0 fun x323=>
 Qf x323 27 fun x324=>
 LdK h53 x324 fun x325=>
 Qj prog .neq 148 x325 (.slice none 0 0) fun x326=>
 IfK x326
 (Q1 x0 fun x328=>
 Qf x328 27 fun x329=>
 LdK h53 x329 fun x330=>
 Y1 x330 fun x331=>
 Qa prog 86 #[x1,x331] h53 fun _x334 h54=>
 QA (fun M33=>
 Qj prog .sub 3 x331 (.int .i64 1) fun x336=>
 Yu [x336] h54 fun I34 n35=>∀x34:Value,∀h55:Qe,I34 n35 [x34] h55->
 Qj prog .geq 3 x34 (.int .i64 0) fun x338=>
 IfK x338
 (Q1 x0 fun x342=>
 Qf x342 27 fun x343=>
 LdK h55 x343 fun x344=>
 Y2 1 x344 x34 fun x346=>
 LdK h55 x346 fun x347=>
 Qa prog 87 #[x347,x1] h55 fun _x349 h56=>
 Qj prog .sub 3 x34 (.int .i64 1) fun x340=>
 QQ I34 n35 [x340] h56)
 (M33 [x34] h55)) fun M33=>∀x34_1:Value,∀h57:Qe,M33 [x34_1] h57->
 Qa prog 79 #[x1,x331] h57 fun x352 h58=>
 M32 [x352] h58)
 (M32 [(.int .u32 0)] h53)) fun M32=>∀x32:Value,∀h59:Qe,M32 [x32] h59->
 QA (fun M36=>
 Q1 x0 fun x354=>
 Qf x354 28 fun x355=>
 LdK h59 x355 fun x356=>
 Qj prog .neq 78 x356 (.slice none 0 0) fun x357=>
 IfK x357
 (Q1 x0 fun x360=>
 Qf x360 28 fun x361=>
 LdK h59 x361 fun x362=>
 Qa prog 75 #[x1,x362] h59 fun x363 h60=>
 M36 [x363] h60)
 (M36 [(.int .u32 0)] h59)) fun M36=>∀x35:Value,∀h61:Qe,M36 [x35] h61->
 QA (fun M37=>
 Q1 x0 fun x365=>
 Qf x365 29 fun x366=>
 LdK h61 x366 fun x367=>
 Qj prog .neq 137 x367 (.slice none 0 0) fun x368=>
 IfK x368
 (Q1 x0 fun x370=>
 Qf x370 29 fun x371=>
 LdK h61 x371 fun x372=>
 Y1 x372 fun x373=>
 Qa prog 88 #[x1,x373] h61 fun _x376 h62=>
 QA (fun M38=>
 Qj prog .sub 3 x373 (.int .i64 1) fun x378=>
 Yu [x378] h62 fun I39 n40=>∀x38:Value,∀h63:Qe,I39 n40 [x38] h63->
 Qj prog .geq 3 x38 (.int .i64 0) fun x380=>
 IfK x380
 (Q1 x0 fun x384=>
 Qf x384 29 fun x385=>
 LdK h63 x385 fun x386=>
 Y2 1 x386 x38 fun x388=>
 LdK h63 x388 fun x389=>
 Qa prog 78 #[x389,x1] h63 fun _x391 h64=>
 Qj prog .sub 3 x38 (.int .i64 1) fun x382=>
 QQ I39 n40 [x382] h64)
 (M38 [x38] h63)) fun M38=>∀x38_1:Value,∀h65:Qe,M38 [x38_1] h65->
 Qa prog 79 #[x1,x373] h65 fun x394 h66=>
 M37 [x394] h66)
 (M37 [(.int .u32 0)] h61)) fun M37=>∀x36:Value,∀h67:Qe,M37 [x36] h67->
 QA (fun M41=>
 Q1 x0 fun x396=>
 Qf x396 30 fun x397=>
 LdK h67 x397 fun x398=>
 Qj prog .neq 34 x398 (.slice none 0 0) fun x399=>
 IfK x399
 (Q1 x0 fun x401=>
 Qf x401 30 fun x402=>
 LdK h67 x402 fun x403=>
 Y1 x403 fun x404=>
 Qa prog 89 #[x1,x404] h67 fun _x407 h68=>
 QA (fun M42=>
 Qj prog .sub 3 x404 (.int .i64 1) fun x409=>
 Yu [x409] h68 fun I43 n44=>∀x41:Value,∀h69:Qe,I43 n44 [x41] h69->
 Qj prog .geq 3 x41 (.int .i64 0) fun x411=>
 IfK x411
 (Q1 x0 fun x416=>
 Qf x416 30 fun x417=>
 LdK h69 x417 fun x418=>
 Y2 1 x418 x41 fun x420=>
 LdK h69 x420 fun x421=>
 Qa prog 90 #[x1,x421] h69 fun _x422 h70=>
 Qj prog .sub 3 x41 (.int .i64 1) fun x413=>
 QQ I43 n44 [x413] h70)
 (M42 [x41] h69)) fun M42=>∀x41_1:Value,∀h71:Qe,M42 [x41_1] h71->
 Qa prog 79 #[x1,x404] h71 fun x425 h72=>
 M41 [x425] h72)
 (M41 [(.int .u32 0)] h67)) fun M41=>∀x39:Value,∀h73:Qe,M41 [x39] h73->
 QA (fun M45=>
 Q1 x0 fun x427=>
 Qf x427 31 fun x428=>
 LdK h73 x428 fun x429=>
 Qj prog .neq 149 x429 (.slice none 0 0) fun x430=>
 IfK x430
 (Q1 x0 fun x432=>
 Qf x432 31 fun x433=>
 LdK h73 x433 fun x434=>
 Y1 x434 fun x435=>
 Qa prog 91 #[x1,x435] h73 fun _x438 h74=>
 QA (fun M46=>
 Qj prog .sub 3 x435 (.int .i64 1) fun x440=>
 Yu [x440] h74 fun I47 n48=>∀x44:Value,∀h75:Qe,I47 n48 [x44] h75->
 Qj prog .geq 3 x44 (.int .i64 0) fun x442=>
 IfK x442
 (Q1 x0 fun x447=>
 Qf x447 31 fun x448=>
 LdK h75 x448 fun x449=>
 Y2 1 x449 x44 fun x451=>
 LdK h75 x451 fun x452=>
 Qa prog 92 #[x1,x452] h75 fun _x453 h76=>
 Qj prog .sub 3 x44 (.int .i64 1) fun x444=>
 QQ I47 n48 [x444] h76)
 (M46 [x44] h75)) fun M46=>∀x44_1:Value,∀h77:Qe,M46 [x44_1] h77->
 Qa prog 79 #[x1,x435] h77 fun x456 h78=>
 M45 [x456] h78)
 (M45 [(.int .u32 0)] h73)) fun M45=>∀x42:Value,∀h79:Qe,M45 [x42] h79->
 Q1 x0 fun x458=>
 Qf x458 32 fun x459=>
 LdK h79 x459 fun x460=>
 Qa prog 93 #[x460,x1] h79 fun x462 h80=>
 QA (fun M49=>
 Q1 x0 fun x464=>
 Qf x464 33 fun x465=>
 LdK h80 x465 fun x466=>
 Qj prog .neq 141 x466 (.slice none 0 0) fun x467=>
 IfK x467
 (Q1 x0 fun x469=>
 Qf x469 33 fun x470=>
 LdK h80 x470 fun x471=>
 Y1 x471 fun x472=>
 Qez h80 74 4 z74 x472 x472 fun x474 h81=>
 QA (fun M50=>
 Yu [(.int .i64 0)] h81 fun I51 n52=>∀x49:Value,∀h82:Qe,I51 n52 [x49] h82->
 Qj prog .lss 3 x49 x472 fun x477=>
 IfK x477
 (Q1 x0 fun x483=>
 Qf x483 33 fun x484=>
 LdK h82 x484 fun x485=>
 Y2 1 x485 x49 fun x487=>
 LdK h82 x487 fun x488=>
 Qa prog 94 #[x488,x1] h82 fun x490 h83=>
 Y2 1 x474 x49 fun x491=>
 StK h83 1 x491 x490 fun h84=>
 Qj prog .add 3 x49 (.int .i64 1) fun x479=>
 QQ I51 n52 [x479] h84)
 (M50 [x49] h82)) fun M50=>∀x49_1:Value,∀h85:Qe,M50 [x49_1] h85->
 Qa prog 95 #[x1,x472] h85 fun _x494 h86=>
 QA (fun M53=>
 Qj prog .sub 3 x472 (.int .i64 1) fun x496=>
 Yu [x496] h86 fun I54 n55=>∀x50:Value,∀h87:Qe,I54 n55 [x50] h87->
 Qj prog .geq 3 x50 (.int .i64 0) fun x498=>
 IfK x498
 (Y2 1 x474 x50 fun x504=>
 LdK h87 x504 fun x505=>
 Qa prog 62 #[x1,x505] h87 fun _x506 h88=>
 Qj prog .sub 3 x50 (.int .i64 1) fun x500=>
 QQ I54 n55 [x500] h88)
 (M53 [x50] h87)) fun M53=>∀x50_1:Value,∀h89:Qe,M53 [x50_1] h89->
 Qa prog 79 #[x1,x472] h89 fun x509 h90=>
 M49 [x509] h90)
 (M49 [(.int .u32 0)] h80)) fun M49=>∀x46:Value,∀h91:Qe,M49 [x46] h91->
 QA (fun M56=>
 Q1 x0 fun x511=>
 Qf x511 35 fun x512=>
 LdK h91 x512 fun x513=>
 Qj prog .neq 35 x513 (.slice none 0 0) fun x514=>
 IfK x514
 (Q1 x0 fun x516=>
 Qf x516 35 fun x517=>
 LdK h91 x517 fun x518=>
 Y1 x518 fun x519=>
 Qa prog 96 #[x1,x519] h91 fun _x522 h92=>
 QA (fun M57=>
 Qj prog .sub 3 x519 (.int .i64 1) fun x524=>
 Yu [x524] h92 fun I58 n59=>∀x53:Value,∀h93:Qe,I58 n59 [x53] h93->
 Qj prog .geq 3 x53 (.int .i64 0) fun x526=>
 IfK x526
 (Q1 x0 fun x531=>
 Qf x531 35 fun x532=>
 LdK h93 x532 fun x533=>
 Y2 1 x533 x53 fun x535=>
 LdK h93 x535 fun x536=>
 Qa prog 97 #[x1,x536] h93 fun _x537 h94=>
 Qj prog .sub 3 x53 (.int .i64 1) fun x528=>
 QQ I58 n59 [x528] h94)
 (M57 [x53] h93)) fun M57=>∀x53_1:Value,∀h95:Qe,M57 [x53_1] h95->
 Qa prog 79 #[x1,x519] h95 fun x540 h96=>
 M56 [x540] h96)
 (M56 [(.int .u32 0)] h91)) fun M56=>∀x51:Value,∀h97:Qe,M56 [x51] h97->
 QA (fun M60=>
 Q1 x0 fun x542=>
 Qf x542 36 fun x543=>
 LdK h97 x543 fun x544=>
 Qj prog .neq 141 x544 (.slice none 0 0) fun x545=>
 IfK x545
 (Q1 x0 fun x547=>
 Qf x547 36 fun x548=>
 LdK h97 x548 fun x549=>
 Y1 x549 fun x550=>
 Qez h97 74 4 z74 x550 x550 fun x552 h98=>
 QA (fun M61=>
 Yu [(.int .i64 0)] h98 fun I62 n63=>∀x57:Value,∀h99:Qe,I62 n63 [x57] h99->
 Qj prog .lss 3 x57 x550 fun x555=>
 IfK x555
 (Q1 x0 fun x561=>
 Qf x561 36 fun x562=>
 LdK h99 x562 fun x563=>
 Y2 1 x563 x57 fun x565=>
 LdK h99 x565 fun x566=>
 Qa prog 94 #[x566,x1] h99 fun x568 h100=>
 Y2 1 x552 x57 fun x569=>
 StK h100 1 x569 x568 fun h101=>
 Qj prog .add 3 x57 (.int .i64 1) fun x557=>
 QQ I62 n63 [x557] h101)
 (M61 [x57] h99)) fun M61=>∀x57_1:Value,∀h102:Qe,M61 [x57_1] h102->
 Qa prog 98 #[x1,x550] h102 fun _x572 h103=>
 QA (fun M64=>
 Qj prog .sub 3 x550 (.int .i64 1) fun x574=>
 Yu [x574] h103 fun I65 n66=>∀x58:Value,∀h104:Qe,I65 n66 [x58] h104->
 Qj prog .geq 3 x58 (.int .i64 0) fun x576=>
 IfK x576
 (Y2 1 x552 x58 fun x582=>
 LdK h104 x582 fun x583=>
 Qa prog 62 #[x1,x583] h104 fun _x584 h105=>
 Qj prog .sub 3 x58 (.int .i64 1) fun x578=>
 QQ I65 n66 [x578] h105)
 (M64 [x58] h104)) fun M64=>∀x58_1:Value,∀h106:Qe,M64 [x58_1] h106->
 Qa prog 79 #[x1,x550] h106 fun x587 h107=>
 M60 [x587] h107)
 (M60 [(.int .u32 0)] h97)) fun M60=>∀x54:Value,∀h108:Qe,M60 [x54] h108->
 QA (fun M67=>
 Q1 x0 fun x589=>
 Qf x589 38 fun x590=>
 LdK h108 x590 fun x591=>
 Qj prog .neq 35 x591 (.slice none 0 0) fun x592=>
 IfK x592
 (Q1 x0 fun x594=>
 Qf x594 38 fun x595=>
 LdK h108 x595 fun x596=>
 Y1 x596 fun x597=>
 Qa prog 99 #[x1,x597] h108 fun _x600 h109=>
 QA (fun M68=>
 Qj prog .sub 3 x597 (.int .i64 1) fun x602=>
 Yu [x602] h109 fun I69 n70=>∀x61:Value,∀h110:Qe,I69 n70 [x61] h110->
 Qj prog .geq 3 x61 (.int .i64 0) fun x604=>
 IfK x604
 (Q1 x0 fun x609=>
 Qf x609 38 fun x610=>
 LdK h110 x610 fun x611=>
 Y2 1 x611 x61 fun x613=>
 LdK h110 x613 fun x614=>
 Qa prog 97 #[x1,x614] h110 fun _x615 h111=>
 Qj prog .sub 3 x61 (.int .i64 1) fun x606=>
 QQ I69 n70 [x606] h111)
 (M68 [x61] h110)) fun M68=>∀x61_1:Value,∀h112:Qe,M68 [x61_1] h112->
 Qa prog 79 #[x1,x597] h112 fun x618 h113=>
 M67 [x618] h113)
 (M67 [(.int .u32 0)] h108)) fun M67=>∀x59:Value,∀h114:Qe,M67 [x59] h114->
 QA (fun M71=>
 Q1 x0 fun x620=>
 Qf x620 40 fun x621=>
 LdK h114 x621 fun x622=>
 Qj prog .neq 35 x622 (.slice none 0 0) fun x623=>
 IfK x623
 (Q1 x0 fun x625=>
 Qf x625 40 fun x626=>
 LdK h114 x626 fun x627=>
 Y1 x627 fun x628=>
 Qa prog 100 #[x1,x628] h114 fun _x631 h115=>
 QA (fun M72=>
 Qj prog .sub 3 x628 (.int .i64 1) fun x633=>
 Yu [x633] h115 fun I73 n74=>∀x64:Value,∀h116:Qe,I73 n74 [x64] h116->
 Qj prog .geq 3 x64 (.int .i64 0) fun x635=>
 IfK x635
 (Q1 x0 fun x640=>
 Qf x640 40 fun x641=>
 LdK h116 x641 fun x642=>
 Y2 1 x642 x64 fun x644=>
 LdK h116 x644 fun x645=>
 Qa prog 97 #[x1,x645] h116 fun _x646 h117=>
 Qj prog .sub 3 x64 (.int .i64 1) fun x637=>
 QQ I73 n74 [x637] h117)
 (M72 [x64] h116)) fun M72=>∀x64_1:Value,∀h118:Qe,M72 [x64_1] h118->
 Qa prog 79 #[x1,x628] h118 fun x649 h119=>
 M71 [x649] h119)
 (M71 [(.int .u32 0)] h114)) fun M71=>∀x62:Value,∀h120:Qe,M71 [x62] h120->
 Q1 x0 fun x651=>
 Qf x651 41 fun x652=>
 LdK h120 x652 fun x653=>
 Qa prog 101 #[x653,x1] h120 fun x655 h121=>
 Q1 x0 fun x657=>
 Qf x657 42 fun x658=>
 LdK h121 x658 fun x659=>
 Qa prog 102 #[x659,x1] h121 fun x661 h122=>
 QA (fun M75=>
 Q1 x0 fun x663=>
 Qf x663 43 fun x664=>
 LdK h122 x664 fun x665=>
 Qj prog .neq 153 x665 (.slice none 0 0) fun x666=>
 IfK x666
 (Q1 x0 fun x668=>
 Qf x668 43 fun x669=>
 LdK h122 x669 fun x670=>
 Y1 x670 fun x671=>
 Qa prog 103 #[x1,x671] h122 fun _x674 h123=>
 QA (fun M76=>
 Qj prog .sub 3 x671 (.int .i64 1) fun x676=>
 Yu [x676] h123 fun I77 n78=>∀x69:Value,∀h124:Qe,I77 n78 [x69] h124->
 Qj prog .geq 3 x69 (.int .i64 0) fun x678=>
 IfK x678
 (Q1 x0 fun x683=>
 Qf x683 43 fun x684=>
 LdK h124 x684 fun x685=>
 Y2 1 x685 x69 fun x687=>
 LdK h124 x687 fun x688=>
 Qa prog 104 #[x1,x688] h124 fun _x689 h125=>
 Qj prog .sub 3 x69 (.int .i64 1) fun x680=>
 QQ I77 n78 [x680] h125)
 (M76 [x69] h124)) fun M76=>∀x69_1:Value,∀h126:Qe,M76 [x69_1] h126->
 Qa prog 79 #[x1,x671] h126 fun x692 h127=>
 M75 [x692] h127)
 (M75 [(.int .u32 0)] h122)) fun M75=>∀x67:Value,∀h128:Qe,M75 [x67] h128->
 packTail x0 x1 x78 x6 x95 x8 x11 x16 x226 x22 x243 x24 x27 x32 x35 x36 x39 x42 x462 x46 x51 x54 x59 x62 x655 x661 x67 h128 R)
theorem packHead_eq (x0 x1:Value) (h:Qe) (R:Kn):s23 x0 x1 h R=packHead x0 x1 h R:=by kernel_rfl
section
variable {H:Qe} {p:Nat} {S:BS} {F:Cut} {r:Nat} (hB:Qc H p S F r) {R:Kn}
include hB
theorem pos_slot {S0:BS} {c:Nat} {v:Value} {o:Option Qa9} (hI:YA S0 49 c S) (ho:OptAt v o (Vec3At F v)) (hl:S.buf.length+200<=536870912)
  (hR:∀H',Qc H' p (slotPos o S) F 0->R (.tuple #[]) H'):FnS prog 106 #[v,.pointer (some ⟨p,0,none⟩)] H fun x h=>FnS prog 107 #[.pointer (some ⟨p,0,none⟩),x] h R:=by
 cases o with
 |none=>
  have hv:v= .pointer none:=ho
  subst hv
  apply w106
  unfold s106
  rw[Y6 (by kernel_rfl)]
  refine Qdk (off:=0) hB hI.nested (Or.inl rfl) (by rw[hI.vtl];decide) ?_
  exact hR
 |some d=>
  obtain ⟨w,h1,h2⟩:=ho
  refine Vec3T_Pack hB h1 h2 (by omega) ?_
  intro H1 g1
  have i1:=(hI.prep (k:=8) (a:=32) QfV).place (Qff d)
  refine Qdk g1 i1.nested (Or.inr rfl) (by rw[i1.vtl];decide) ?_
  exact hR
theorem ty_slot {S0:BS} {c:Nat} {amb:Bool} {ty color:UInt8} {v cc:Value} {kids:List Mon} {o:Nat} {t:TypeId} {q i f:Nat} {cells:Array Value} {k:Qe->Prop} (hu:(prog).underlying t=some (.pointer ((prog).pointee t))) (hI:YA S0 49 c S) (obj:ZS F (.pointer (some ⟨q,0,none⟩)) cells) (hc:cells[i]?=some v) (hv:QcP F amb ty color v cc kids)
  (hf:∀H,Qc H p S F 0->∀R:Kn,(∀H',Qc H' p (slotN 1 ty.toNat 0 o S) F 0->R (.tuple #[]) H')->FnS prog f #[.pointer (some ⟨p,0,none⟩),u8n ty] H R)
  (hk:∀H',Qc H' p (slotTy ty o S) F 0->k H'):
  QA (fun M79=>Q1 (.pointer (some ⟨q,0,none⟩)) fun x729=>Qf x729 i fun x730=>LdK H x730 fun x731=>Qj prog .neq t x731 (.pointer none) fun x732=>
   IfK x732 (Q1 (.pointer (some ⟨q,0,none⟩)) fun x735=>Qf x735 i fun x736=>LdK H x736 fun x737=>Q1 x737 fun x738=>Qf x738 0 fun x739=>LdK H x739 fun x740=>Qa prog f #[.pointer (some ⟨p,0,none⟩),x740] H fun _x741 h137=>M79 [] h137)
   (M79 [] H)) fun M79=>∀h138:Qe,M79 [] h138->k h138:=by
 refine Q2 (fun _ h=>Qc h p (slotTy ty o S) F 0) ?_ (fun h hb=>hk h hb)
 refine obj.ld hB.cut (i:=i) v hc ?_
 rcases hv with ⟨rfl,rfl,_⟩|⟨h0,w,hv,_⟩
 ·rw[Yx hu]
  exact hB.room (Nat.zero_le _)
 ·obtain ⟨q2,e2,rfl,hq2⟩:=hv
  have hv:ZS F (.pointer (some ⟨q2,0,none⟩)) #[u8n ty,w]:=⟨q2,e2,rfl,hq2⟩
  rw[Yx hu]
  show IfK (.bool true) _ _
  rw[Qbs]
  refine obj.ld hB.cut (i:=i) _ hc ?_
  refine hv.ld hB.cut (i:=0) (u8n ty) rfl ?_
  refine hf H (hB.room (Nat.zero_le _)) _ ?_
  intro H' h'
  have e1:slotTy ty o S=slotN 1 ty.toNat 0 o S:=by unfold slotTy;rw[if_neg h0]
  rw[e1]
  exact h'
end
set_option maxHeartbeats 4000000 in
theorem packTail_ok {H:Qe} {p:Nat} {S:BS} {F:Cut} {r:Nat} (hB:Qc H p S F r) {R:Kn} {q:Nat} {d:QaM} {c:MTV} {enemy test uniq amb:List Mon} (hI:Inv S) (obj:ZS F (.pointer (some ⟨q,0,none⟩)) (mtCells d c)) (own:MTD F d c enemy test uniq amb) (hl:S.buf.length+10000<=536870912)
  {o0 o1 o2 o3 o4 o5 o6 o7 o8 o9 o10 o11 o12 o13 o14 o15 o16 o17 o18 o19 o20 o21 o22 o23 o24:Nat} (p0:o0<=S.buf.length) (p1:o1<=S.buf.length) (p2:o2<=S.buf.length) (p3:o3<=S.buf.length) (p4:o4<=S.buf.length) (p5:o5<=S.buf.length) (p6:o6<=S.buf.length) (p7:o7<=S.buf.length) (p8:o8<=S.buf.length) (p9:o9<=S.buf.length) (p10:o10<=S.buf.length) (p11:o11<=S.buf.length) (p12:o12<=S.buf.length) (p13:o13<=S.buf.length) (p14:o14<=S.buf.length) (p15:o15<=S.buf.length) (p16:o16<=S.buf.length) (p17:o17<=S.buf.length) (p18:o18<=S.buf.length) (p19:o19<=S.buf.length) (p20:o20<=S.buf.length) (p21:o21<=S.buf.length) (p22:o22<=S.buf.length) (p23:o23<=S.buf.length) (p24:o24<=S.buf.length)
  (hR:∀H',Qc H' p (endT (runS (slots d [o0,o1,o2,o3,o4,o5,o6,o7,o8,o9,o10,o11,o12,o13,o14,o15,o16,o17,o18,o19,o20,o21,o22,o23,o24]) (Zc 49 S))).1 F 0->R (.int .u32 ((endT (runS (slots d [o0,o1,o2,o3,o4,o5,o6,o7,o8,o9,o10,o11,o12,o13,o14,o15,o16,o17,o18,o19,o20,o21,o22,o23,o24]) (Zc 49 S))).2:Nat)) H'):
  packTail (.pointer (some ⟨q,0,none⟩)) (.pointer (some ⟨p,0,none⟩)) (.int .u32 (o0:Nat)) (.int .u32 (o1:Nat)) (.int .u32 (o2:Nat)) (.int .u32 (o3:Nat)) (.int .u32 (o4:Nat)) (.int .u32 (o5:Nat)) (.int .u32 (o6:Nat)) (.int .u32 (o7:Nat)) (.int .u32 (o8:Nat)) (.int .u32 (o9:Nat)) (.int .u32 (o10:Nat)) (.int .u32 (o11:Nat)) (.int .u32 (o12:Nat)) (.int .u32 (o13:Nat)) (.int .u32 (o14:Nat)) (.int .u32 (o15:Nat)) (.int .u32 (o16:Nat)) (.int .u32 (o17:Nat)) (.int .u32 (o18:Nat)) (.int .u32 (o19:Nat)) (.int .u32 (o20:Nat)) (.int .u32 (o21:Nat)) (.int .u32 (o22:Nat)) (.int .u32 (o23:Nat)) (.int .u32 (o24:Nat)) H R:=by
 unfold packTail
 refine Qh1 hB hI.nested ?_
 intro H0 g0
 have i0:=YA.start (n:=49) hI.min
 refine obj.ld g0.cut (i:=0) c.pos rfl ?_
 refine pos_slot g0 i0 own.pos (by have:=i0.len;omega) ?_
 intro H1 g1
 have i1:=i0.slotPos d.pos
 refine obj.ld g1.cut (i:=1) (Qdn d.mana) rfl ?_
 refine Qg0 (x:=d.mana.toNat) g1 d.mana.toNat_lt (by rw[i1.vtl];decide) (by have:=i1.len;omega) ?_
 intro H2 g2
 have i2:=i1.slotN (k:=2) (x:=d.mana.toNat) (d:=150) (o:=1) P2_2
 refine obj.ld g2.cut (i:=2) (Qdn d.hp) rfl ?_
 refine Qh0 (x:=d.hp.toNat) g2 d.hp.toNat_lt (by rw[i2.vtl];decide) (by have:=i2.len;omega) ?_
 intro H3 g3
 have i3:=i2.slotN (k:=2) (x:=d.hp.toNat) (d:=100) (o:=2) P2_2
 refine Qg9 (off:=o0) g3 (by have:=i3.le;omega) (by rw[i3.vtl];decide) (by have:=i3.len;omega) ?_
 intro H4 g4
 have i4:=i3.slotOff (off:=o0) (o:=3)
 refine QdR (off:=o1) g4 (by have:=i4.le;omega) (by rw[i4.vtl];decide) (by have:=i4.len;omega) ?_
 intro H5 g5
 have i5:=i4.slotOff (off:=o1) (o:=5)
 refine obj.ld g5.cut (i:=5) (u8n d.color) rfl ?_
 refine Qfy (x:=d.color.toNat) g5 d.color.toNat_lt (by rw[i5.vtl];decide) (by have:=i5.len;omega) ?_
 intro H6 g6
 have i6:=i5.slotN (k:=1) (x:=d.color.toNat) (d:=8) (o:=6) P2_1
 refine ty_slot g6 (ty:=d.testTy) (o:=7) (by kernel_rfl) i6 obj (i:=6) rfl own.test (fun H hb R hR=>Qem hb d.testTy.toNat_lt (by rw[i6.vtl];decide) (by have:=i6.len;omega) hR) ?_
 intro H7 g7
 have i7:=i6.slotTy (ty:=d.testTy) (o:=7)
 refine Qg6 (off:=o2) g7 (by have:=i7.le;omega) (by rw[i7.vtl];decide) (by have:=i7.len;omega) ?_
 intro H8 g8
 have i8:=i7.slotOff (off:=o2) (o:=8)
 refine Qfo (off:=o3) g8 (by have:=i8.le;omega) (by rw[i8.vtl];decide) (by have:=i8.len;omega) ?_
 intro H9 g9
 have i9:=i8.slotOff (off:=o3) (o:=9)
 refine QbV (off:=o4) g9 (by have:=i9.le;omega) (by rw[i9.vtl];decide) (by have:=i9.len;omega) ?_
 intro H10 g10
 have i10:=i9.slotOff (off:=o4) (o:=10)
 refine QbQ (off:=o5) g10 (by have:=i10.le;omega) (by rw[i10.vtl];decide) (by have:=i10.len;omega) ?_
 intro H11 g11
 have i11:=i10.slotOff (off:=o5) (o:=11)
 refine QfM (off:=o6) g11 (by have:=i11.le;omega) (by rw[i11.vtl];decide) (by have:=i11.len;omega) ?_
 intro H12 g12
 have i12:=i11.slotOff (off:=o6) (o:=12)
 refine Qbf (off:=o7) g12 (by have:=i12.le;omega) (by rw[i12.vtl];decide) (by have:=i12.len;omega) ?_
 intro H13 g13
 have i13:=i12.slotOff (off:=o7) (o:=13)
 refine QdX (off:=o8) g13 (by have:=i13.le;omega) (by rw[i13.vtl];decide) (by have:=i13.len;omega) ?_
 intro H14 g14
 have i14:=i13.slotOff (off:=o8) (o:=14)
 refine obj.ld g14.cut (i:=13) (.bool d.bool) rfl ?_
 refine Qeg g14 (by rw[i14.vtl];decide) (by have:=i14.len;omega) ?_
 intro H15 g15
 have i15:=i14.slotN (k:=1) (x:=if d.bool then 1 else 0) (d:=0) (o:=15) P2_1
 refine obj.ld g15.cut (i:=14) (Qji d.s32) rfl ?_
 refine QcD (x:=d.s32.toNat) g15 d.s32.toNat_lt (by rw[i15.vtl];decide) (by have:=i15.len;omega) ?_
 intro H16 g16
 have i16:=i15.slotN (k:=4) (x:=d.s32.toNat) (d:=0) (o:=16) QgV
 refine obj.ld g16.cut (i:=15) (Qaw d.u32) rfl ?_
 refine QcH (x:=d.u32.toNat) g16 d.u32.toNat_lt (by rw[i16.vtl];decide) (by have:=i16.len;omega) ?_
 intro H17 g17
 have i17:=i16.slotN (k:=4) (x:=d.u32.toNat) (d:=0) (o:=17) QgV
 refine obj.ld g17.cut (i:=16) (QfW d.s64) rfl ?_
 refine Qcs (x:=d.s64.toNat) g17 d.s64.toNat_lt (by rw[i17.vtl];decide) (by have:=i17.len;omega) ?_
 intro H18 g18
 have i18:=i17.slotN (k:=8) (x:=d.s64.toNat) (d:=0) (o:=18) QfV
 refine obj.ld g18.cut (i:=17) (QO d.u64) rfl ?_
 refine Qcx (x:=d.u64.toNat) g18 d.u64.toNat_lt (by rw[i18.vtl];decide) (by have:=i18.len;omega) ?_
 intro H19 g19
 have i19:=i18.slotN (k:=8) (x:=d.u64.toNat) (d:=0) (o:=19) QfV
 refine obj.ld g19.cut (i:=18) (Qji d.s32a) rfl ?_
 refine Qcb (x:=d.s32a.toNat) g19 d.s32a.toNat_lt (by rw[i19.vtl];decide) (by have:=i19.len;omega) ?_
 intro H20 g20
 have i20:=i19.slotN (k:=4) (x:=d.s32a.toNat) (d:=0) (o:=20) QgV
 refine obj.ld g20.cut (i:=19) (Qaw d.u32a) rfl ?_
 refine Qca (x:=d.u32a.toNat) g20 d.u32a.toNat_lt (by rw[i20.vtl];decide) (by have:=i20.len;omega) ?_
 intro H21 g21
 have i21:=i20.slotN (k:=4) (x:=d.u32a.toNat) (d:=0) (o:=21) QgV
 refine obj.ld g21.cut (i:=20) (QfW d.s64a) rfl ?_
 refine Qc8 (x:=d.s64a.toNat) g21 d.s64a.toNat_lt (by rw[i21.vtl];decide) (by have:=i21.len;omega) ?_
 intro H22 g22
 have i22:=i21.slotN (k:=8) (x:=d.s64a.toNat) (d:=0) (o:=22) QfV
 refine obj.ld g22.cut (i:=21) (QO d.u64a) rfl ?_
 refine Qc5 (x:=d.u64a.toNat) g22 d.u64a.toNat_lt (by rw[i22.vtl];decide) (by have:=i22.len;omega) ?_
 intro H23 g23
 have i23:=i22.slotN (k:=8) (x:=d.u64a.toNat) (d:=0) (o:=23) QfV
 refine Qc9 (off:=o9) g23 (by have:=i23.le;omega) (by rw[i23.vtl];decide) (by have:=i23.len;omega) ?_
 intro H24 g24
 have i24:=i23.slotOff (off:=o9) (o:=24)
 refine obj.ld g24.cut (i:=23) (Qgb d.f) rfl ?_
 refine QfN g24 (by rw[i24.vtl];decide) (by have:=i24.len;omega) ?_
 intro H25 g25
 have i25:=i24.slotF (x:=d.f.toNat) (d:=1078530000) (o:=25)
 refine obj.ld g25.cut (i:=24) (Qgb d.f2) rfl ?_
 refine QeQ g25 (by rw[i25.vtl];decide) (by have:=i25.len;omega) ?_
 intro H26 g26
 have i26:=i25.slotF (x:=d.f2.toNat) (d:=1077936128) (o:=26)
 refine obj.ld g26.cut (i:=25) (Qgb d.f3) rfl ?_
 refine QeU g26 (by rw[i26.vtl];decide) (by have:=i26.len;omega) ?_
 intro H27 g27
 have i27:=i26.slotF (x:=d.f3.toNat) (d:=0) (o:=27)
 refine QbG (off:=o10) g27 (by have:=i27.le;omega) (by rw[i27.vtl];decide) (by have:=i27.len;omega) ?_
 intro H28 g28
 have i28:=i27.slotOff (off:=o10) (o:=28)
 refine QaL (off:=o11) g28 (by have:=i28.le;omega) (by rw[i28.vtl];decide) (by have:=i28.len;omega) ?_
 intro H29 g29
 have i29:=i28.slotOff (off:=o11) (o:=29)
 refine Qg3 (off:=o12) g29 (by have:=i29.le;omega) (by rw[i29.vtl];decide) (by have:=i29.len;omega) ?_
 intro H30 g30
 have i30:=i29.slotOff (off:=o12) (o:=30)
 refine QfD (off:=o13) g30 (by have:=i30.le;omega) (by rw[i30.vtl];decide) (by have:=i30.len;omega) ?_
 intro H31 g31
 have i31:=i30.slotOff (off:=o13) (o:=31)
 refine Qd0 (off:=o14) g31 (by have:=i31.le;omega) (by rw[i31.vtl];decide) (by have:=i31.len;omega) ?_
 intro H32 g32
 have i32:=i31.slotOff (off:=o14) (o:=32)
 refine Qcz (off:=o15) g32 (by have:=i32.le;omega) (by rw[i32.vtl];decide) (by have:=i32.len;omega) ?_
 intro H33 g33
 have i33:=i32.slotOff (off:=o15) (o:=33)
 refine Qbu (off:=o16) g33 (by have:=i33.le;omega) (by rw[i33.vtl];decide) (by have:=i33.len;omega) ?_
 intro H34 g34
 have i34:=i33.slotOff (off:=o16) (o:=34)
 refine Qbr (off:=o17) g34 (by have:=i34.le;omega) (by rw[i34.vtl];decide) (by have:=i34.len;omega) ?_
 intro H35 g35
 have i35:=i34.slotOff (off:=o17) (o:=35)
 refine obj.ld g35.cut (i:=34) (QO d.singleWeak) rfl ?_
 refine Qbn (x:=d.singleWeak.toNat) g35 d.singleWeak.toNat_lt (by rw[i35.vtl];decide) (by have:=i35.len;omega) ?_
 intro H36 g36
 have i36:=i35.slotN (k:=8) (x:=d.singleWeak.toNat) (d:=0) (o:=36) QfV
 refine QaT (off:=o18) g36 (by have:=i36.le;omega) (by rw[i36.vtl];decide) (by have:=i36.len;omega) ?_
 intro H37 g37
 have i37:=i36.slotOff (off:=o18) (o:=37)
 refine Qam (off:=o19) g37 (by have:=i37.le;omega) (by rw[i37.vtl];decide) (by have:=i37.len;omega) ?_
 intro H38 g38
 have i38:=i37.slotOff (off:=o19) (o:=38)
 refine obj.ld g38.cut (i:=37) (QO d.coOwning) rfl ?_
 refine QbO (x:=d.coOwning.toNat) g38 d.coOwning.toNat_lt (by rw[i38.vtl];decide) (by have:=i38.len;omega) ?_
 intro H39 g39
 have i39:=i38.slotN (k:=8) (x:=d.coOwning.toNat) (d:=0) (o:=39) QfV
 refine Qai (off:=o20) g39 (by have:=i39.le;omega) (by rw[i39.vtl];decide) (by have:=i39.len;omega) ?_
 intro H40 g40
 have i40:=i39.slotOff (off:=o20) (o:=40)
 refine obj.ld g40.cut (i:=39) (QO d.nonOwning) rfl ?_
 refine QbD (x:=d.nonOwning.toNat) g40 d.nonOwning.toNat_lt (by rw[i40.vtl];decide) (by have:=i40.len;omega) ?_
 intro H41 g41
 have i41:=i40.slotN (k:=8) (x:=d.nonOwning.toNat) (d:=0) (o:=41) QfV
 refine Qae (off:=o21) g41 (by have:=i41.le;omega) (by rw[i41.vtl];decide) (by have:=i41.len;omega) ?_
 intro H42 g42
 have i42:=i41.slotOff (off:=o21) (o:=42)
 refine ty_slot g42 (ty:=d.uniqTy) (o:=43) (by kernel_rfl) i42 obj (i:=41) rfl own.uniq (fun H hb R hR=>QcT hb d.uniqTy.toNat_lt (by rw[i42.vtl];decide) (by have:=i42.len;omega) hR) ?_
 intro H43 g43
 have i43:=i42.slotTy (ty:=d.uniqTy) (o:=43)
 refine Qe7 (off:=o22) g43 (by have:=i43.le;omega) (by rw[i43.vtl];decide) (by have:=i43.len;omega) ?_
 intro H44 g44
 have i44:=i43.slotOff (off:=o22) (o:=44)
 refine ty_slot g44 (ty:=d.ambTy) (o:=45) (by kernel_rfl) i44 obj (i:=42) rfl own.amb (fun H hb R hR=>Qcd hb d.ambTy.toNat_lt (by rw[i44.vtl];decide) (by have:=i44.len;omega) hR) ?_
 intro H45 g45
 have i45:=i44.slotTy (ty:=d.ambTy) (o:=45)
 refine Qdf (off:=o23) g45 (by have:=i45.le;omega) (by rw[i45.vtl];decide) (by have:=i45.len;omega) ?_
 intro H46 g46
 have i46:=i45.slotOff (off:=o23) (o:=46)
 refine Qd2 (off:=o24) g46 (by have:=i46.le;omega) (by rw[i46.vtl];decide) (by have:=i46.len;omega) ?_
 intro H47 g47
 have i47:=i46.slotOff (off:=o24) (o:=47)
 refine obj.ld g47.cut (i:=44) (i8V d.signedEnum) rfl ?_
 refine QdH (x:=d.signedEnum.toNat) g47 d.signedEnum.toNat_lt (by rw[i47.vtl];decide) (by have:=i47.len;omega) ?_
 intro H48 g48
 have i48:=i47.slotN (k:=1) (x:=d.signedEnum.toNat) (d:=255) (o:=48) P2_1
 refine Qie g48 i48 (by decide) hI.vts (by omega) hI.nv ?_
 intro H' h'
 exact hR H' h'
end Go.Proofs
namespace Go.Proofs
open Go Go.Vc
open Tryz (prog)
section
variable {H:Qe} {p:Nat} {S:BS} {F:Cut} {r:Nat} (hB:Qc H p S F r) {R:Kn}
include hB
theorem str_pack {xs:List UInt8} (hI:Inv S) (hl:S.buf.length+xs.length+24<=536870912) (hR:∀H',Qc H' p (Qb3 xs S).1 F 0->R (.int .u32 ((Qb3 xs S).2:Nat)) H'):
  FnS prog 74 #[.pointer (some ⟨p,0,none⟩),QW xs] H R:=Qch hB (Qe8 _) hI.nested hl hR
theorem enemy_pack {n:Nat} (ih:PackOk n) {v:Value} {kids:List Mon} (hI:Inv S) (he:(kids=[]/\v= .pointer none)\/∃k,kids=[k]) (hs:Z6 kids<n) (hm:∀k,k∈kids->MT F v k) (hl:S.buf.length+Z6 kids+20000<=536870912)
  (hR:∀H',Qc H' p (Y9 kids S).1 F 0->R (.int .u32 ((Y9 kids S).2:Nat)) H'):FnS prog 23 #[v,.pointer (some ⟨p,0,none⟩)] H R:=by
 rcases he with ⟨rfl,rfl⟩|⟨k,rfl⟩
 ·rw[Y9]at hR
  apply w23
  unfold s23
  rw[Y6 (by kernel_rfl)]
  exact hR H (hB.room (Nat.zero_le _))
 ·rw[Y9]at hR
  exact kidOk ih hB hI hs hm hl k rfl R hR
theorem stat_pack {v:Value} {o:Option ZU} (hI:Inv S) (ho:OptAt v o (fun s=>ZS F v (statC s))) (hl:S.buf.length+Qik o+5000<=536870912)
  (hR:∀H',Qc H' p (Qhq o S).1 F 0->R (.int .u32 ((Qhq o S).2:Nat)) H'):FnS prog 82 #[v,.pointer (some ⟨p,0,none⟩)] H R:=by
 cases o with
 |none=>
  have hv:v= .pointer none:=ho
  subst hv
  apply w82
  unfold s82
  rw[Y6 (by kernel_rfl)]
  exact hR H (hB.room (Nat.zero_le _))
 |some d=>exact StatT_Pack hB hI ho hl hR
theorem parent_pack {v:Value} {b:Bool} (hI:Inv S) (ho:(b=false/\v= .pointer none)\/(b=true/\∃a,v= .pointer (some a))) (hl:S.buf.length+5000<=536870912)
  (hR:∀H',Qc H' p (Qed b S).1 F 0->R (.int .u32 ((Qed b S).2:Nat)) H'):FnS prog 93 #[v,.pointer (some ⟨p,0,none⟩)] H R:=by
 rcases ho with ⟨rfl,rfl⟩|⟨rfl,a,rfl⟩
 ·exact Qcg hB hI (Or.inl rfl) hl (fun _=>hR H (hB.room (Nat.zero_le _))) (fun h=>absurd rfl h)
 ·exact Qcg hB hI (Or.inr ⟨a,rfl⟩) hl (fun h=>by cases h) (fun _=>hR)
end
set_option maxHeartbeats 4000000 in
set_option maxRecDepth 4000 in
theorem packStep {n:Nat} (ih:PackOk n):PackOk (n+1):=by
 intro m hm H p S F r v R hB hI hv hl hR
 cases hv with
 |mk v d c ptrs tables enemy test uniq amb obj own tl tlen tt te tu tq ta=>
 have hpk:Zv (.mk d tables enemy test uniq amb) S=packT d (Qy Zv tables) (Y9 enemy) (Y9 test) (Y9 uniq) (Y9 amb) S:=by rw[Zv,funext (QfA tables)]
 have hcost:Qa1 (.mk d tables enemy test uniq amb)=QiL d+60*tables.length+Z6 tables+Z6 enemy+Z6 test+Z6 uniq+Z6 amb:=by rw[Qa1]
 have hD:QiL d=QiL d:=rfl
 conv at hD=>rhs;unfold QiL
 rw[hcost]at hm hl
 rw[hpk]at hR
 clear hpk hcost
 apply w23
 rw[packHead_eq]
 unfold packHead
 obtain ⟨q,e,rfl,hq⟩:=obj
 have obj:ZS F (.pointer (some ⟨q,0,none⟩)) (mtCells d c):=⟨q,e,rfl,hq⟩
 rw[Y6 (by kernel_rfl)]
 show IfK (.bool false) _ _
 rw[YQ]
 refine obj.ld hB.cut (i:=3) (QW d.name) rfl ?_
 refine str_pack hB hI (by omega) ?_
 intro H1 b1
 have k1:=Qc4 d.name hI
 have l1:=k1.len
 generalize hq1:Qb3 d.name S=q1 at *
 refine Qiv b1 (e0:=5) (xs:=d.inventory) (by kernel_rfl) obj (fld:=4) rfl own.inv k1.inv (by omega) ?_
 intro H2 b2
 have k2:=Qis d.inventory k1.inv
 have l2:=k2.len
 generalize hq2:optB d.inventory q1.1=q2 at *
 refine obj.ld b2.cut (i:=6) c.test rfl ?_
 refine AnyT_Pack b2 own.test (kidOk ih b2 k2.inv (by omega) tu (by omega)) k2.inv (by omega) ?_
 intro H3 b3
 have k3:=QeZ (amb:=false) (ty:=d.testTy) (color:=d.testColor) k2.inv (Z8 test q2.1 k2.inv)
 have l3:=k3.len
 generalize hq3:Qbl false d.testTy d.testColor (Y9 test) q2.1=q3 at *
 obtain ⟨pl3,pn3,pe3,pt3⟩:=own.test4
 refine Qda b3 (e0:=158) (es:=4) (al:=2) (k:=1) (items:=(d.test4.map (fun t:QbB=>Qao t.a.toNat t.b.toNat))) (by kernel_rfl) obj (fld:=7) rfl pn3 (by rw[List.length_map];exact pe3) (Yd (f:=(fun t:QbB=>Qao t.a.toNat t.b.toNat)) (k:=4) (fun _=>Qb1 _ _)) k3.inv rfl (by decide) (by rw[List.length_map];omega) (by rw[List.length_map];omega) ?_ ?_ ?_
 ·intro H0 hb0 R0 h0
  refine QcW hb0 k3.inv.nested (by rw[List.length_map];omega) ?_
  intro H' v' h'
  exact h0 H' v' (h'.room (YG (k:=1) _ rfl (by decide)))
 ·intro i h1 h2 S' H' r' hb' hr ha hmn hal hl' R' h'
  simp only[List.getElem_map]at h'⊢
  refine TestT_Pack hb' (pt3 i _ _ (List.getElem?_eq_getElem h1) (List.getElem?_eq_getElem (by simpa using h2))) hr (by omega) (by omega) (by omega) ?_
  exact h'
 intro H4 b4
 have k4:=Qbt (es:=4) (al:=2) (items:=(d.test4.map (fun t:QbB=>Qao t.a.toNat t.b.toNat))) P2_2 (Yd (f:=(fun t:QbB=>Qao t.a.toNat t.b.toNat)) (k:=4) (fun _=>Qb1 _ _) (l:=d.test4)) k3.inv
 have l4:=k4.len
 generalize hq4:Qhf 4 2 (d.test4.map (fun t:QbB=>Qao t.a.toNat t.b.toNat)) q3.1=q4 at *
 rw[List.length_map]at l4
 refine Qi7 b4 (e0:=9) (xs:=d.strings) (pk:=Qb3) (c:=(fun x=>x.length+8)) (sl:=5000) (by kernel_rfl) obj (fld:=8) rfl own.strings (by rw[List.length_map]) k4.inv (by omega) (fun x _ S h=>Qc4 x h) (by rw[Qd4];omega) ?_ ?_ ?_
 ·intro H0 S0 F0 hb0 hi0 hl0 R0 h0
  refine Qat hb0 hi0.nested (by omega) ?_
  intro H' v' h'
  exact h0 H' v' (h'.room (YG (k:=2) _ rfl (by decide)))
 ·intro i h1 h2 S' H' F' hF hb' hi' hl' R' h'
  simp only[List.getElem_map]
  have hl2:S'.buf.length+(d.strings[i].length+8)+5000<=536870912:=hl'
  exact str_pack hb' hi' (by omega) h'
 intro H5 b5
 have k5:=strs_ok d.strings k4.inv
 have l5:=k5.len
 generalize hq5:QiK (Qy Qb3 d.strings) q4.1=q5 at *
 have hts:=costs_sum tables
 refine Qi7 b5 (e0:=75) (xs:=tables) (pk:=Zv) (c:=Qa1) (sl:=20000) (by kernel_rfl) obj (fld:=9) rfl tl tlen k5.inv (by omega) (fun x _ S h=>(QgU x S h).1) (by rw[hts];omega) ?_ ?_ ?_
 ·intro H0 S0 F0 hb0 hi0 hl0 R0 h0
  refine Qap hb0 hi0.nested (by omega) ?_
  intro H' v' h'
  exact h0 H' v' (h'.room (YG (k:=2) _ rfl (by decide)))
 ·intro i h1 h2 S' H' F' hF hb' hi' hl' R' h'
  have hcm:=costs_mem (List.getElem_mem h2)
  exact ih _ (by omega) H' p S' F' _ _ R' hb' hi' ((tt i _ _ (List.getElem?_eq_getElem h1) (List.getElem?_eq_getElem h2)).mono hF) hl' h'
 intro H6 b6
 have k6:=optO_ok (q:=Qy Zv tables) (c:=Z6 tables) (n:=tables.length) k5.inv (by have:=(Qfb tables _ k5.inv).1;rwa [QfA]at this) (Qa0 _ _ _)
 have l6:=k6.len
 generalize hq6:QiK (Qy Zv tables) q5.1=q6 at *
 refine obj.ld b6.cut (i:=10) c.enemy rfl ?_
 refine enemy_pack b6 ih k6.inv own.enemy (by omega) te (by omega) ?_
 intro H7 b7
 have k7:=Z8 enemy q6.1 k6.inv
 have l7:=k7.len
 generalize hq7:Y9 enemy q6.1=q7 at *
 refine Qiv b7 (e0:=5) (xs:=d.nested) (by kernel_rfl) obj (fld:=11) rfl own.nested k7.inv (by omega) ?_
 intro H8 b8
 have k8:=Qis d.nested k7.inv
 have l8:=k8.len
 generalize hq8:optB d.nested q7.1=q8 at *
 refine obj.ld b8.cut (i:=12) c.empty rfl ?_
 refine stat_pack b8 k8.inv own.empty (by omega) ?_
 intro H9 b9
 have k9:=optStat_ok d.empty k8.inv
 have l9:=k9.len
 generalize hq9:Qhq d.empty q8.1=q9 at *
 refine Qda b9 (e0:=4) (es:=1) (al:=1) (k:=0) (items:=(d.bools.map Qf0)) (by kernel_rfl) obj (fld:=22) rfl own.bools (by rw[List.length_map,List.length_map]) (Yd (f:=Qf0) (k:=1) (fun _=>rfl)) k9.inv rfl (by decide) (by rw[List.length_map];omega) (by rw[List.length_map];omega) ?_ ?_ ?_
 ·intro H0 hb0 R0 h0
  refine QaB hb0 k9.inv.nested (by rw[List.length_map];omega) ?_
  intro H' v' h'
  exact h0 H' v' (h'.room (YG (k:=0) _ rfl (by decide)))
 ·intro i h1 h2 S' H' r' hb' hr ha hmn hal hl' R' h'
  simp only[List.getElem_map]at h'⊢
  refine al_Bool hb' (by omega) (by omega) (by omega) ?_
  intro H'' h''
  exact h' H'' _ h''
 intro H10 b10
 have k10:=Qbt (es:=1) (al:=1) (items:=(d.bools.map Qf0)) P2_1 (Yd (f:=Qf0) (k:=1) (fun _=>rfl) (l:=d.bools)) k9.inv
 have l10:=k10.len
 generalize hq10:Qhf 1 1 (d.bools.map Qf0) q9.1=q10 at *
 rw[List.length_map]at l10
 refine Qi7 b10 (e0:=9) (xs:=d.strings2) (pk:=Qb3) (c:=(fun x=>x.length+8)) (sl:=5000) (by kernel_rfl) obj (fld:=26) rfl own.strings2 (by rw[List.length_map]) k10.inv (by omega) (fun x _ S h=>Qc4 x h) (by rw[Qd4];omega) ?_ ?_ ?_
 ·intro H0 S0 F0 hb0 hi0 hl0 R0 h0
  refine Qaj hb0 hi0.nested (by omega) ?_
  intro H' v' h'
  exact h0 H' v' (h'.room (YG (k:=2) _ rfl (by decide)))
 ·intro i h1 h2 S' H' F' hF hb' hi' hl' R' h'
  simp only[List.getElem_map]
  have hl2:S'.buf.length+(d.strings2[i].length+8)+5000<=536870912:=hl'
  exact str_pack hb' hi' (by omega) h'
 intro H11 b11
 have k11:=strs_ok d.strings2 k10.inv
 have l11:=k11.len
 generalize hq11:QiK (Qy Qb3 d.strings2) q10.1=q11 at *
 obtain ⟨pl11,pn11,pe11,pt11⟩:=own.abil
 refine Qda b11 (e0:=163) (es:=8) (al:=4) (k:=2) (items:=(d.abilities.map (fun t:QgK=>Z4 t.id.toNat t.dist.toNat))) (by kernel_rfl) obj (fld:=27) rfl pn11 (by rw[List.length_map];exact pe11) (Yd (f:=(fun t:QgK=>Z4 t.id.toNat t.dist.toNat)) (k:=8) (fun _=>QbZ _ _)) k11.inv rfl (by decide) (by rw[List.length_map];omega) (by rw[List.length_map];omega) ?_ ?_ ?_
 ·intro H0 hb0 R0 h0
  refine ZT hb0 k11.inv.nested (by rw[List.length_map];omega) ?_
  intro H' v' h'
  exact h0 H' v' (h'.room (YG (k:=2) _ rfl (by decide)))
 ·intro i h1 h2 S' H' r' hb' hr ha hmn hal hl' R' h'
  simp only[List.getElem_map]at h'⊢
  refine AbilityT_Pack hb' (pt11 i _ _ (List.getElem?_eq_getElem h1) (List.getElem?_eq_getElem (by simpa using h2))) hr (by omega) (by omega) (by omega) ?_
  exact h'
 intro H12 b12
 have k12:=Qbt (es:=8) (al:=4) (items:=(d.abilities.map (fun t:QgK=>Z4 t.id.toNat t.dist.toNat))) QgV (Yd (f:=(fun t:QgK=>Z4 t.id.toNat t.dist.toNat)) (k:=8) (fun _=>QbZ _ _) (l:=d.abilities)) k11.inv
 have l12:=k12.len
 generalize hq12:Qhf 8 4 (d.abilities.map (fun t:QgK=>Z4 t.id.toNat t.dist.toNat)) q11.1=q12 at *
 rw[List.length_map]at l12
 refine Qiv b12 (e0:=5) (xs:=d.flex) (by kernel_rfl) obj (fld:=28) rfl own.flex k12.inv (by omega) ?_
 intro H13 b13
 have k13:=Qis d.flex k12.inv
 have l13:=k13.len
 generalize hq13:optB d.flex q12.1=q13 at *
 obtain ⟨pl13,pn13,pe13,pt13⟩:=own.test5
 refine Qda b13 (e0:=158) (es:=4) (al:=2) (k:=1) (items:=(d.test5.map (fun t:QbB=>Qao t.a.toNat t.b.toNat))) (by kernel_rfl) obj (fld:=29) rfl pn13 (by rw[List.length_map];exact pe13) (Yd (f:=(fun t:QbB=>Qao t.a.toNat t.b.toNat)) (k:=4) (fun _=>Qb1 _ _)) k13.inv rfl (by decide) (by rw[List.length_map];omega) (by rw[List.length_map];omega) ?_ ?_ ?_
 ·intro H0 hb0 R0 h0
  refine QcY hb0 k13.inv.nested (by rw[List.length_map];omega) ?_
  intro H' v' h'
  exact h0 H' v' (h'.room (YG (k:=1) _ rfl (by decide)))
 ·intro i h1 h2 S' H' r' hb' hr ha hmn hal hl' R' h'
  simp only[List.getElem_map]at h'⊢
  refine TestT_Pack hb' (pt13 i _ _ (List.getElem?_eq_getElem h1) (List.getElem?_eq_getElem (by simpa using h2))) hr (by omega) (by omega) (by omega) ?_
  exact h'
 intro H14 b14
 have k14:=Qbt (es:=4) (al:=2) (items:=(d.test5.map (fun t:QbB=>Qao t.a.toNat t.b.toNat))) P2_2 (Yd (f:=(fun t:QbB=>Qao t.a.toNat t.b.toNat)) (k:=4) (fun _=>Qb1 _ _) (l:=d.test5)) k13.inv
 have l14:=k14.len
 generalize hq14:Qhf 4 2 (d.test5.map (fun t:QbB=>Qao t.a.toNat t.b.toNat)) q13.1=q14 at *
 rw[List.length_map]at l14
 refine Qda b14 (e0:=2) (es:=8) (al:=8) (k:=3) (items:=(d.longs.map Qak)) (by kernel_rfl) obj (fld:=30) rfl own.longs (by rw[List.length_map,List.length_map]) (Yd (f:=Qak) (k:=8) (fun _=>Qg _ _)) k14.inv rfl (by decide) (by rw[List.length_map];omega) (by rw[List.length_map];omega) ?_ ?_ ?_
 ·intro H0 hb0 R0 h0
  refine Qb7 hb0 k14.inv.nested (by rw[List.length_map];omega) ?_
  intro H' v' h'
  exact h0 H' v' (h'.room (YG (k:=3) _ rfl (by decide)))
 ·intro i h1 h2 S' H' r' hb' hr ha hmn hal hl' R' h'
  simp only[List.getElem_map]at h'⊢
  refine al_Int64 hb' (by omega) (by omega) (by omega) ?_
  intro H'' h''
  rw[QdF (by decide)]at h''
  exact h' H'' _ h''
 intro H15 b15
 have k15:=Qbt (es:=8) (al:=8) (items:=(d.longs.map Qak)) QfV (Yd (f:=Qak) (k:=8) (fun _=>Qg _ _) (l:=d.longs)) k14.inv
 have l15:=k15.len
 generalize hq15:Qhf 8 8 (d.longs.map Qak) q14.1=q15 at *
 rw[List.length_map]at l15
 refine Qda b15 (e0:=156) (es:=8) (al:=8) (k:=3) (items:=(d.doubles.map Qak)) (by kernel_rfl) obj (fld:=31) rfl own.doubles (by rw[List.length_map,List.length_map]) (Yd (f:=Qak) (k:=8) (fun _=>Qg _ _)) k15.inv rfl (by decide) (by rw[List.length_map];omega) (by rw[List.length_map];omega) ?_ ?_ ?_
 ·intro H0 hb0 R0 h0
  refine QaK hb0 k15.inv.nested (by rw[List.length_map];omega) ?_
  intro H' v' h'
  exact h0 H' v' (h'.room (YG (k:=3) _ rfl (by decide)))
 ·intro i h1 h2 S' H' r' hb' hr ha hmn hal hl' R' h'
  simp only[List.getElem_map]at h'⊢
  refine al_Float64 hb' (by omega) (by omega) (by omega) ?_
  intro H'' h''
  exact h' H'' _ h''
 intro H16 b16
 have k16:=Qbt (es:=8) (al:=8) (items:=(d.doubles.map Qak)) QfV (Yd (f:=Qak) (k:=8) (fun _=>Qg _ _) (l:=d.doubles)) k15.inv
 have l16:=k16.len
 generalize hq16:Qhf 8 8 (d.doubles.map Qak) q15.1=q16 at *
 rw[List.length_map]at l16
 refine obj.ld b16.cut (i:=32) c.parent rfl ?_
 refine parent_pack b16 k16.inv own.parent (by omega) ?_
 intro H17 b17
 have k17:=Qj0 d.parent k16.inv
 have l17:=k17.len
 generalize hq17:Qed d.parent q16.1=q17 at *
 obtain ⟨pl17,pn17,pe17,pt17⟩:=own.refs
 refine Qi7 b17 (e0:=185) (xs:=d.refs) (pk:=QaW) (c:=(fun _=>40)) (sl:=5000) (by kernel_rfl) obj (fld:=33) rfl pn17 pe17 k17.inv (by omega) (fun x _ S h=>(Qf2 x h).1) (by rw[Qbe];omega) ?_ ?_ ?_
 ·intro H0 S0 F0 hb0 hi0 hl0 R0 h0
  refine Qaa hb0 hi0.nested (by omega) ?_
  intro H' v' h'
  exact h0 H' v' (h'.room (YG (k:=2) _ rfl (by decide)))
 ·intro i h1 h2 S' H' F' hF hb' hi' hl' R' h'
  have hl2:S'.buf.length+40+5000<=536870912:=hl'
  exact QfS hb' hi' ((pt17 i _ _ (List.getElem?_eq_getElem h1) (List.getElem?_eq_getElem h2)).mono hF) (by omega) h'
 intro H18 b18
 have k18:=refs_ok d.refs k17.inv
 have l18:=k18.len
 generalize hq18:QiK (Qy QaW d.refs) q17.1=q18 at *
 refine Qda b18 (e0:=31) (es:=8) (al:=8) (k:=3) (items:=(d.weak.map Qak)) (by kernel_rfl) obj (fld:=35) rfl own.weak (by rw[List.length_map,List.length_map]) (Yd (f:=Qak) (k:=8) (fun _=>Qg _ _)) k18.inv rfl (by decide) (by rw[List.length_map];omega) (by rw[List.length_map];omega) ?_ ?_ ?_
 ·intro H0 hb0 R0 h0
  refine ZZ hb0 k18.inv.nested (by rw[List.length_map];omega) ?_
  intro H' v' h'
  exact h0 H' v' (h'.room (YG (k:=3) _ rfl (by decide)))
 ·intro i h1 h2 S' H' r' hb' hr ha hmn hal hl' R' h'
  simp only[List.getElem_map]at h'⊢
  refine al_Uint64 hb' (by omega) (by omega) (by omega) ?_
  intro H'' h''
  exact h' H'' _ h''
 intro H19 b19
 have k19:=Qbt (es:=8) (al:=8) (items:=(d.weak.map Qak)) QfV (Yd (f:=Qak) (k:=8) (fun _=>Qg _ _) (l:=d.weak)) k18.inv
 have l19:=k19.len
 generalize hq19:Qhf 8 8 (d.weak.map Qak) q18.1=q19 at *
 rw[List.length_map]at l19
 obtain ⟨pl19,pn19,pe19,pt19⟩:=own.strong
 refine Qi7 b19 (e0:=185) (xs:=d.strong) (pk:=QaW) (c:=(fun _=>40)) (sl:=5000) (by kernel_rfl) obj (fld:=36) rfl pn19 pe19 k19.inv (by omega) (fun x _ S h=>(Qf2 x h).1) (by rw[Qbe];omega) ?_ ?_ ?_
 ·intro H0 S0 F0 hb0 hi0 hl0 R0 h0
  refine ZN hb0 hi0.nested (by omega) ?_
  intro H' v' h'
  exact h0 H' v' (h'.room (YG (k:=2) _ rfl (by decide)))
 ·intro i h1 h2 S' H' F' hF hb' hi' hl' R' h'
  have hl2:S'.buf.length+40+5000<=536870912:=hl'
  exact QfS hb' hi' ((pt19 i _ _ (List.getElem?_eq_getElem h1) (List.getElem?_eq_getElem h2)).mono hF) (by omega) h'
 intro H20 b20
 have k20:=refs_ok d.strong k19.inv
 have l20:=k20.len
 generalize hq20:QiK (Qy QaW d.strong) q19.1=q20 at *
 refine Qda b20 (e0:=31) (es:=8) (al:=8) (k:=3) (items:=(d.coOwnings.map Qak)) (by kernel_rfl) obj (fld:=38) rfl own.coOwnings (by rw[List.length_map,List.length_map]) (Yd (f:=Qak) (k:=8) (fun _=>Qg _ _)) k20.inv rfl (by decide) (by rw[List.length_map];omega) (by rw[List.length_map];omega) ?_ ?_ ?_
 ·intro H0 hb0 R0 h0
  refine ZH hb0 k20.inv.nested (by rw[List.length_map];omega) ?_
  intro H' v' h'
  exact h0 H' v' (h'.room (YG (k:=3) _ rfl (by decide)))
 ·intro i h1 h2 S' H' r' hb' hr ha hmn hal hl' R' h'
  simp only[List.getElem_map]at h'⊢
  refine al_Uint64 hb' (by omega) (by omega) (by omega) ?_
  intro H'' h''
  exact h' H'' _ h''
 intro H21 b21
 have k21:=Qbt (es:=8) (al:=8) (items:=(d.coOwnings.map Qak)) QfV (Yd (f:=Qak) (k:=8) (fun _=>Qg _ _) (l:=d.coOwnings)) k20.inv
 have l21:=k21.len
 generalize hq21:Qhf 8 8 (d.coOwnings.map Qak) q20.1=q21 at *
 rw[List.length_map]at l21
 refine Qda b21 (e0:=31) (es:=8) (al:=8) (k:=3) (items:=(d.nonOwnings.map Qak)) (by kernel_rfl) obj (fld:=40) rfl own.nonOwnings (by rw[List.length_map,List.length_map]) (Yd (f:=Qak) (k:=8) (fun _=>Qg _ _)) k21.inv rfl (by decide) (by rw[List.length_map];omega) (by rw[List.length_map];omega) ?_ ?_ ?_
 ·intro H0 hb0 R0 h0
  refine ZE hb0 k21.inv.nested (by rw[List.length_map];omega) ?_
  intro H' v' h'
  exact h0 H' v' (h'.room (YG (k:=3) _ rfl (by decide)))
 ·intro i h1 h2 S' H' r' hb' hr ha hmn hal hl' R' h'
  simp only[List.getElem_map]at h'⊢
  refine al_Uint64 hb' (by omega) (by omega) (by omega) ?_
  intro H'' h''
  exact h' H'' _ h''
 intro H22 b22
 have k22:=Qbt (es:=8) (al:=8) (items:=(d.nonOwnings.map Qak)) QfV (Yd (f:=Qak) (k:=8) (fun _=>Qg _ _) (l:=d.nonOwnings)) k21.inv
 have l22:=k22.len
 generalize hq22:Qhf 8 8 (d.nonOwnings.map Qak) q21.1=q22 at *
 rw[List.length_map]at l22
 refine obj.ld b22.cut (i:=41) c.uniq rfl ?_
 refine Qg8 b22 own.uniq (kidOk ih b22 k22.inv (by omega) tq (by omega)) k22.inv (by omega) ?_
 intro H23 b23
 have k23:=QeZ (amb:=false) (ty:=d.uniqTy) (color:=d.uniqColor) k22.inv (Z8 uniq q22.1 k22.inv)
 have l23:=k23.len
 generalize hq23:Qbl false d.uniqTy d.uniqColor (Y9 uniq) q22.1=q23 at *
 refine obj.ld b23.cut (i:=42) c.amb rfl ?_
 refine QeB b23 own.amb (kidOk ih b23 k23.inv (by omega) ta (by omega)) k23.inv (by omega) ?_
 intro H24 b24
 have k24:=QeZ (amb:=true) (ty:=d.ambTy) (color:=d.ambColor) k23.inv (Z8 amb q23.1 k23.inv)
 have l24:=k24.len
 generalize hq24:Qbl true d.ambTy d.ambColor (Y9 amb) q23.1=q24 at *
 refine Qda b24 (e0:=136) (es:=1) (al:=1) (k:=0) (items:=(d.enums.map (fun b:UInt8=>[b]))) (by kernel_rfl) obj (fld:=43) rfl own.enums (by rw[List.length_map,List.length_map]) (Yd (f:=(fun b:UInt8=>[b])) (k:=1) (fun _=>rfl)) k24.inv rfl (by decide) (by rw[List.length_map];omega) (by rw[List.length_map];omega) ?_ ?_ ?_
 ·intro H0 hb0 R0 h0
  refine QaZ hb0 k24.inv.nested (by rw[List.length_map];omega) ?_
  intro H' v' h'
  exact h0 H' v' (h'.room (YG (k:=0) _ rfl (by decide)))
 ·intro i h1 h2 S' H' r' hb' hr ha hmn hal hl' R' h'
  simp only[List.getElem_map]at h'⊢
  refine al_Byte hb' (by omega) (by omega) (by omega) ?_
  intro H'' h''
  exact h' H'' _ h''
 intro H25 b25
 have k25:=Qbt (es:=1) (al:=1) (items:=(d.enums.map (fun b:UInt8=>[b]))) P2_1 (Yd (f:=(fun b:UInt8=>[b])) (k:=1) (fun _=>rfl) (l:=d.enums)) k24.inv
 have l25:=k25.len
 generalize hq25:Qhf 1 1 (d.enums.map (fun b:UInt8=>[b])) q24.1=q25 at *
 rw[List.length_map]at l25
 have hl25:q25.1.buf.length+10000<=536870912:=by omega
 have n25:q25.1.buf.length<=q25.1.buf.length:=Nat.le_refl _
 have n24:q24.1.buf.length<=q25.1.buf.length:=Nat.le_trans k25.le n25
 have n23:q23.1.buf.length<=q25.1.buf.length:=Nat.le_trans k24.le n24
 have n22:q22.1.buf.length<=q25.1.buf.length:=Nat.le_trans k23.le n23
 have n21:q21.1.buf.length<=q25.1.buf.length:=Nat.le_trans k22.le n22
 have n20:q20.1.buf.length<=q25.1.buf.length:=Nat.le_trans k21.le n21
 have n19:q19.1.buf.length<=q25.1.buf.length:=Nat.le_trans k20.le n20
 have n18:q18.1.buf.length<=q25.1.buf.length:=Nat.le_trans k19.le n19
 have n17:q17.1.buf.length<=q25.1.buf.length:=Nat.le_trans k18.le n18
 have n16:q16.1.buf.length<=q25.1.buf.length:=Nat.le_trans k17.le n17
 have n15:q15.1.buf.length<=q25.1.buf.length:=Nat.le_trans k16.le n16
 have n14:q14.1.buf.length<=q25.1.buf.length:=Nat.le_trans k15.le n15
 have n13:q13.1.buf.length<=q25.1.buf.length:=Nat.le_trans k14.le n14
 have n12:q12.1.buf.length<=q25.1.buf.length:=Nat.le_trans k13.le n13
 have n11:q11.1.buf.length<=q25.1.buf.length:=Nat.le_trans k12.le n12
 have n10:q10.1.buf.length<=q25.1.buf.length:=Nat.le_trans k11.le n11
 have n9:q9.1.buf.length<=q25.1.buf.length:=Nat.le_trans k10.le n10
 have n8:q8.1.buf.length<=q25.1.buf.length:=Nat.le_trans k9.le n9
 have n7:q7.1.buf.length<=q25.1.buf.length:=Nat.le_trans k8.le n8
 have n6:q6.1.buf.length<=q25.1.buf.length:=Nat.le_trans k7.le n7
 have n5:q5.1.buf.length<=q25.1.buf.length:=Nat.le_trans k6.le n6
 have n4:q4.1.buf.length<=q25.1.buf.length:=Nat.le_trans k5.le n5
 have n3:q3.1.buf.length<=q25.1.buf.length:=Nat.le_trans k4.le n4
 have n2:q2.1.buf.length<=q25.1.buf.length:=Nat.le_trans k3.le n3
 have n1:q1.1.buf.length<=q25.1.buf.length:=Nat.le_trans k2.le n2
 have hfold:Qy (fun f=>f) (Qet d (Qy Zv tables) (Y9 enemy) (Y9 test) (Y9 uniq) (Y9 amb)) S=(q25.1,[q1.2,q2.2,q3.2,q4.2,q5.2,q6.2,q7.2,q8.2,q9.2,q10.2,q11.2,q12.2,q13.2,q14.2,q15.2,q16.2,q17.2,q18.2,q19.2,q20.2,q21.2,q22.2,q23.2,q24.2,q25.2]):=by
  simp only[Qet,Qy,hq1,hq2,hq3,hq4,hq5,hq6,hq7,hq8,hq9,hq10,hq11,hq12,hq13,hq14,hq15,hq16,hq17,hq18,hq19,hq20,hq21,hq22,hq23,hq24,hq25]
 refine packTail_ok b25 k25.inv obj own hl25 (Nat.le_trans k1.off n1) (Nat.le_trans k2.off n2) (Nat.le_trans k3.off n3) (Nat.le_trans k4.off n4) (Nat.le_trans k5.off n5) (Nat.le_trans k6.off n6) (Nat.le_trans k7.off n7) (Nat.le_trans k8.off n8) (Nat.le_trans k9.off n9) (Nat.le_trans k10.off n10) (Nat.le_trans k11.off n11) (Nat.le_trans k12.off n12) (Nat.le_trans k13.off n13) (Nat.le_trans k14.off n14) (Nat.le_trans k15.off n15) (Nat.le_trans k16.off n16) (Nat.le_trans k17.off n17) (Nat.le_trans k18.off n18) (Nat.le_trans k19.off n19) (Nat.le_trans k20.off n20) (Nat.le_trans k21.off n21) (Nat.le_trans k22.off n22) (Nat.le_trans k23.off n23) (Nat.le_trans k24.off n24) (Nat.le_trans k25.off n25) ?_
 intro H' h'
 unfold packT at hR
 rw[hfold]at hR
 exact hR H' h'
theorem Qf8:∀n,PackOk n
 |0=>fun m hm=>by omega
 |n+1=>packStep (Qf8 n)
theorem MonsterT_Pack {m:Mon} {H:Qe} {p:Nat} {S:BS} {F:Cut} {r:Nat} {v:Value} {R:Kn} (hB:Qc H p S F r) (hI:Inv S) (hv:MT F v m) (hl:S.buf.length+Qa1 m+20000<=536870912)
  (hR:∀H',Qc H' p (Zv m S).1 F 0->R (.int .u32 ((Zv m S).2:Nat)) H'):FnS prog 23 #[v,.pointer (some ⟨p,0,none⟩)] H R:=
 Qf8 (Qa1 m+1) m (Nat.lt_succ_self _) H p S F r v R hB hI hv hl hR
end Go.Proofs
namespace Go.Proofs
open Go Go.Vc
open Tryz (prog)
theorem putL_mid {α:Type} (A m xs B:List α) (h:m.length=xs.length):QaF (A++(m++B)) A.length xs=A++(xs++B):=by
 rw[QdQ _ _ _ (by simp;omega)]
 rw[List.take_left,List.drop_append,<-h]
 have e:List.drop (A.length+m.length) A=[]:=List.drop_eq_nil_of_le (by omega)
 rw[e,show A.length+m.length-A.length=m.length by omega,List.drop_left]
 simp
theorem le4_leBI (x:Int) (rest:List UInt8):(le4 (leB x 4++rest) 0:Int)=x%4294967296:=by
 have hb:∀i,i<4->(byteN (leB x 4++rest) i:Int)=(x/2^(8*i))%256:=by
  intro i hi
  have:byteN (leB x 4++rest) i=byteN (leB x 4) i:=by
   unfold byteN
   congr 1
   simp only[List.getD]
   rw[List.getElem?_append_left (by rw[Qg];exact hi)]
  rw[this,Qf9 hi,Qe1]
 have h0:=hb 0 (by omega)
 have h1:=hb 1 (by omega)
 have h2:=hb 2 (by omega)
 have h3:=hb 3 (by omega)
 rw[le4_eq]
 rw[show (2:Int)^(8*0)=1 from rfl]at h0
 rw[show (2:Int)^(8*1)=256 from rfl]at h1
 rw[show (2:Int)^(8*2)=65536 from rfl]at h2
 rw[show (2:Int)^(8*3)=16777216 from rfl]at h3
 simp only[Nat.zero_add]
 omega
def entB (oo v:Nat):List UInt8:=leB ((if v≠0 then oo-v else 0:Nat):Int) 2
def ents (oo:Nat) (vs:List Nat):List UInt8:=(vs.map (entB oo)).flatten
theorem ents_len (oo:Nat):∀vs,(ents oo vs).length=2*vs.length
 |[]=>rfl
 |v::vs=>by
  have:=ents_len oo vs
  unfold ents at this⊢
  rw[List.map_cons,List.flatten_cons,List.length_append,this,entB,Qg,List.length_cons];omega
theorem wrEnt_buf (oo:Nat):∀(vs:List Nat) (S:BS),S.buf.length%2=0->(ZI oo vs S).buf=ents oo vs++S.buf
 |[],S,_=>rfl
 |v::vs,S,h=>by
  have ih:=wrEnt_buf oo vs S h
  rw[ZI,QfG,ih,YZ (by rw[List.length_append,ents_len];omega)]
  simp[ents,entB]
theorem le2_ents (oo:Nat) (rest:List UInt8):∀(vs:List Nat) (i:Nat),i<vs.length->le2 (ents oo vs++rest) (2*i)=(if vs.getD i 0≠0 then oo-vs.getD i 0 else 0)%65536
 |v::vs,0,_=>by
  have e:ents oo (v::vs)++rest=leB ((if v≠0 then oo-v else 0:Nat):Int) 2++(ents oo vs++rest):=by simp[ents,entB]
  rw[e]
  exact QiS (Nat.le_refl _) _
 |v::vs,i+1,h=>by
  have e:ents oo (v::vs)++rest=leB ((if v≠0 then oo-v else 0:Nat):Int) 2++(ents oo vs++rest):=by simp[ents,entB]
  have e2:2*(i+1)=(leB ((if v≠0 then oo-v else 0:Nat):Int) 2).length+2*i:=by rw[Qg];omega
  rw[e,e2,YT,le2_ents oo rest vs i (by simpa using h)]
  rfl
theorem QeG:∀(l:List Nat) (j:Nat),Zt l<=j->l.getD j 0=0
 |[],j,_=>by simp
 |x::xs,j,h=>by
  rw[Zt]at h
  split at h
  ·rename_i hx
   cases j with
   |zero=>simpa using hx.2
   |succ j=>simpa using QeG xs j (by omega)
  ·cases j with
   |zero=>omega
   |succ j=>simpa using QeG xs j (by omega)
theorem getD_take (l:List Nat) (n j:Nat) (h:j<n):(l.take n).getD j 0=l.getD j 0:=by
 simp only[List.getD]
 rw[List.getElem?_take,if_pos h]
structure Qbx (S:BS):Prop where
 ev:∀o∈S.vts,o%2=0
 wh:∀o∈S.vts,4<=le2 S.buf (S.buf.length-o+2)/\le2 S.buf (S.buf.length-o+2)<=o
 en:∀o∈S.vts,∀i,6+2*i<=le2 S.buf (S.buf.length-o)->le2 S.buf (S.buf.length-o+(4+2*i))<le2 S.buf (S.buf.length-o+2)
theorem Qbx.ext {S S':BS} (h:Qbx S) (hk:QhZ S) (hv:S'.vts=S.vts) {x:List UInt8} (hb:S'.buf=x++S.buf):Qbx S':=by
 have key:∀o∈S.vts,∀i,le2 S'.buf (S'.buf.length-o+i)=le2 S.buf (S.buf.length-o+i):=fun o ho i=>by
  obtain ⟨h1,h2,h3,h4⟩:=hk o ho
  have e:S'.buf.length-o+i=x.length+(S.buf.length-o+i):=by rw[hb,List.length_append];omega
  rw[e,hb,YT]
 have key0:∀o∈S.vts,le2 S'.buf (S'.buf.length-o)=le2 S.buf (S.buf.length-o):=fun o ho=>key o ho 0
 refine ⟨fun o ho=>h.ev o (hv▸ho),fun o ho=>?_,fun o ho i hi=>?_⟩
 ·rw[hv]at ho;rw[key o ho];exact h.wh o ho
 ·rw[hv]at ho;rw[key o ho,key o ho];rw[key0 o ho]at hi;exact h.en o ho i hi
theorem Qbx.new:Qbx Qcc:=⟨fun o ho=>by simp[Qcc]at ho,fun o ho=>by simp[Qcc]at ho,fun o ho=>by simp[Qcc]at ho⟩
structure ObjRd (bs:List UInt8) (pos vt:Nat) (v:Nat->Nat) (n:Nat):Prop where
 ok:VT bs pos vt
 sl:∀j,j<n->slotAt bs vt (4+2*j)=if v j=0 then 0 else bs.length-pos-v j
 pl:∀j,j<n->v j≠0->v j+4<=bs.length-pos
 w4:4<=le2 bs (vt+2)/\pos+le2 bs (vt+2)<=bs.length
 wl:∀j,j<n->slotAt bs vt (4+2*j)<le2 bs (vt+2)
 al:(bs.length-pos)%4=0/\(bs.length-vt)%2=0
theorem endObj_read {S0 S:BS} {n c:Nat} (h:YA S0 n c S) (hg:∀j,S.vt.getD j 0=0\/S0.buf.length<S.vt.getD j 0) (h0:Inv S0) (h2:Qbx S0) (hn:n<1000) (hc:c<60000) (hl:S.buf.length<1000000000):
  Qbx (endObj S)/\(∃y,(endObj S).buf=y++S.buf)/\(putOff 0 S).buf.length<=(endObj S).buf.length/\S.buf.length+4<=(putOff 0 S).buf.length/\
   ∃vt,ObjRd (endObj S).buf ((endObj S).buf.length-(putOff 0 S).buf.length) vt (fun j=>S.vt.getD j 0) n:=by
 obtain ⟨x,hx⟩:=h.ext
 have hp:=Zo (size:=4) (n:=S.buf.length+0) (by decide)
 have hpm:=Qcp (size:=4) (n:=S.buf.length+0) (by decide)
 generalize hpe:padOf 4 (S.buf.length+0)=pd at *
 have hS1:(putOff 0 S).buf=leB (((prep 4 0 S).buf.length-0+4:Nat):Int) 4++((List.replicate pd 0++x)++S0.buf):=by
  have e:(putOff 0 S).buf=leB (((prep 4 0 S).buf.length-0+4:Nat):Int) 4++(List.replicate (padOf 4 (S.buf.length+0)) 0++S.buf):=rfl
  rw[e,hpe,hx,List.append_assoc]
 have hS1v:(putOff 0 S).vt=S.vt:=rfl
 have hS1t:(putOff 0 S).vts=S0.vts:=h.vts
 have hSl:S.buf.length=x.length+S0.buf.length:=by rw[hx,List.length_append]
 have hle:=h.len
 have hvtl:=h.vtl
 generalize hL:leB (((prep 4 0 S).buf.length-0+4:Nat):Int) 4=L at hS1
 have hLl:L.length=4:=by rw[<-hL,Qg]
 generalize hT:List.replicate pd (0:UInt8)++x=T at *
 have hTl:T.length=pd+x.length:=by rw[<-hT];simp
 have hoo:(putOff 0 S).buf.length=4+T.length+S0.buf.length:=by rw[hS1];simp[hLl];omega
 rw[Qgk S _ _ _ _ rfl rfl rfl rfl]
 generalize putOff 0 S=S1 at *
 generalize hvt:S1.vt.take (Zt S1.vt)=vt
 rw[hS1v]at hvt
 have htl:=Qiw S.vt
 have hvtlen:vt.length=Zt S.vt:=by rw[<-hvt,List.length_take];omega
 have hvtget:∀j,j<vt.length->vt.getD j 0=S.vt.getD j 0:=fun j hj=>by rw[<-hvt];exact getD_take _ _ _ (by omega)
 have hbehind:∀j,vt.length<=j->S.vt.getD j 0=0:=fun j hj=>QeG _ _ (by omega)
 generalize hoo':S1.buf.length=oo at *
 have hoo4:oo%4=0:=by omega
 have hvle:∀j,S.vt.getD j 0+4<=oo:=fun j=>by have:=h.vle j;omega
 generalize hex:Qc0 (Qaq vt oo S1.buf) S1.vts=ex
 rw[hS1t]at hex
 by_cases hz:ex=0
 ·
  rw[if_pos hz]
  have hS2b:({S1 with vt:=vt}:BS).buf=S1.buf:=rfl
  generalize ({S1 with vt:=vt}:BS)=S2 at *
  have hW:(ZI oo vt S2).buf=ents oo vt++S1.buf:=by rw[wrEnt_buf oo vt S2 (by rw[hS2b];omega),hS2b]
  have hel:=ents_len oo vt
  have e4:(putN 2 (leB ((oo-S.oe:Nat):Int) 2) (ZI oo vt S2)).buf=leB ((oo-S.oe:Nat):Int) 2++(ents oo vt++S1.buf):=by
   rw[QfG,hW,YZ (by rw[List.length_append,hel,hoo'];omega)];rfl
  have e5:(putN 2 (leB ((2*(vt.length+2):Nat):Int) 2) (putN 2 (leB ((oo-S.oe:Nat):Int) 2) (ZI oo vt S2))).buf=
    (leB ((2*(vt.length+2):Nat):Int) 2++(leB ((oo-S.oe:Nat):Int) 2++ents oo vt))++(L++(T++S0.buf)):=by
   rw[QfG,e4,YZ (by rw[List.length_append,List.length_append,Qg,hel,hoo'];omega),hS1];simp
  generalize hS5:putN 2 (leB ((2*(vt.length+2):Nat):Int) 2) (putN 2 (leB ((oo-S.oe:Nat):Int) 2) (ZI oo vt S2))=S5 at *
  generalize hWd:leB ((2*(vt.length+2):Nat):Int) 2++(leB ((oo-S.oe:Nat):Int) 2++ents oo vt)=W at *
  have hWl:W.length=4+2*vt.length:=by rw[<-hWd];simp only[List.length_append,Qg,hel];omega
  have hS5l:S5.buf.length=W.length+oo:=by rw[e5];simp only[List.length_append,hLl];omega
  have hq:S5.buf.length-oo=W.length:=by omega
  rw[hq,hS1t]
  have hbs:QaF S5.buf W.length (leB (W.length:Int) 4)=W++(leB (W.length:Int) 4++(T++S0.buf)):=by
   rw[e5];exact putL_mid _ _ _ _ (by rw[hLl,Qg])
  have hbuf:(Qdd W.length (W.length:Int) S5).buf=W++(leB (W.length:Int) 4++(T++S0.buf)):=hbs
  show Qbx {Qdd W.length (W.length:Int) S5 with vts:=S0.vts++[S5.buf.length],vt:=[],nested:=false}/\_
  have hbl:(W++(leB (W.length:Int) 4++(T++S0.buf))).length=W.length+oo:=by simp only[List.length_append,Qg];omega
  have r0:le2 (W++(leB (W.length:Int) 4++(T++S0.buf))) 0=2*(vt.length+2):=by
   rw[<-hWd,List.append_assoc,QiS (Nat.le_refl _)];omega
  have r2:le2 (W++(leB (W.length:Int) 4++(T++S0.buf))) 2=oo-S.oe:=by
   have q:=YT (x:=leB ((2*(vt.length+2):Nat):Int) 2) (bs:=(leB ((oo-S.oe:Nat):Int) 2++ents oo vt)++(leB (W.length:Int) 4++(T++S0.buf))) (i:=0)
   rw[Qg,<-List.append_assoc,hWd]at q
   rw[q,List.append_assoc,QiS (Nat.le_refl _),h.oe];omega
  have re:∀i,i<vt.length->le2 (W++(leB (W.length:Int) 4++(T++S0.buf))) (4+2*i)=if S.vt.getD i 0=0 then 0 else oo-S.vt.getD i 0:=fun i hi=>by
   have e:4+2*i=(leB ((2*(vt.length+2):Nat):Int) 2).length+((leB ((oo-S.oe:Nat):Int) 2).length+2*i):=by rw[Qg,Qg];omega
   rw[<-hWd,List.append_assoc,e,YT,List.append_assoc,YT,le2_ents _ _ _ _ hi,hvtget i hi]
   by_cases hv:S.vt.getD i 0=0
   ·rw[if_neg (fun h=>h hv),if_pos hv]
   ·rw[if_pos hv,if_neg hv]
    have:=(hg i).resolve_left hv
    omega
  have hlen:({Qdd W.length (W.length:Int) S5 with vts:=S0.vts++[S5.buf.length],vt:=[],nested:=false}:BS).buf=W++(leB (W.length:Int) 4++(T++S0.buf)):=hbuf
  have hkey:∀o∈S0.vts,∀i,le2 (W++(leB (W.length:Int) 4++(T++S0.buf))) ((W++(leB (W.length:Int) 4++(T++S0.buf))).length-o+i)=le2 S0.buf (S0.buf.length-o+i):=fun o ho i=>by
   have ho2:=(h0.vts o ho).2.1
   have ea:W++(leB (W.length:Int) 4++(T++S0.buf))=(W++(leB (W.length:Int) 4++T))++S0.buf:=by simp
   rw[ea,show ((W++(leB (W.length:Int) 4++T))++S0.buf).length-o+i=(W++(leB (W.length:Int) 4++T)).length+(S0.buf.length-o+i) by simp only[List.length_append];omega,YT]
  have hoe:=h.oe
  refine ⟨⟨?_,?_,?_⟩,⟨W++(leB (W.length:Int) 4++List.replicate pd 0),?_⟩,?_,by omega,0,?_⟩
  ·intro o ho
   rcases List.mem_append.1 (show o∈S0.vts++[S5.buf.length] from ho) with ho|ho
   ·exact h2.ev o ho
   ·have:o=S5.buf.length:=by simpa using ho
    omega
  ·intro o ho
   rw[hlen]
   rcases List.mem_append.1 (show o∈S0.vts++[S5.buf.length] from ho) with ho|ho
   ·rw[hkey o ho];exact h2.wh o ho
   ·have:o=S5.buf.length:=by simpa using ho
    rw[show (W++(leB (W.length:Int) 4++(T++S0.buf))).length-o+2=2 by omega,r2]
    omega
  ·intro o ho i hi
   rw[hlen]at hi⊢
   rcases List.mem_append.1 (show o∈S0.vts++[S5.buf.length] from ho) with ho|ho
   ·rw[hkey o ho,hkey o ho]
    rw[show (W++(leB (W.length:Int) 4++(T++S0.buf))).length-o=(W++(leB (W.length:Int) 4++(T++S0.buf))).length-o+0 from rfl,hkey o ho]at hi
    exact h2.en o ho i hi
   ·have:o=S5.buf.length:=by simpa using ho
    have e0:(W++(leB (W.length:Int) 4++(T++S0.buf))).length-o=0:=by omega
    rw[e0,r0]at hi
    rw[e0,Nat.zero_add,Nat.zero_add,r2,re i (by omega)]
    split
    ·omega
    ·rename_i hv
     have:=(hg i).resolve_left hv
     have:=hvle i
     omega
  ·rw[hlen,hx,<-hT];simp
  ·rw[hlen,hbl];omega
  ·rw[hlen,hbl,show W.length+oo-oo=W.length by omega]
   have rp:le4 (W++(leB (W.length:Int) 4++(T++S0.buf))) W.length=W.length:=by
    have:=QaE (x:=W) (bs:=leB (W.length:Int) 4++(T++S0.buf)) (i:=0)
    rw[Nat.add_zero]at this
    rw[this,QgD (Nat.le_refl _)];omega
   have hsl:∀j,j<n->slotAt (W++(leB (W.length:Int) 4++(T++S0.buf))) 0 (4+2*j)=if S.vt.getD j 0=0 then 0 else oo-S.vt.getD j 0:=fun j hj=>by
    unfold slotAt
    rw[r0,Nat.zero_add]
    by_cases hjl:j<vt.length
    ·rw[if_pos (by omega),re j hjl]
    ·rw[if_neg (by omega),if_pos (hbehind j (by omega))]
   refine ⟨⟨by omega,?_,by omega,by omega,by omega⟩,?_,?_,?_,?_,?_⟩
   ·rw[rp,Zd (by omega) (by omega)];omega
   ·intro j hj
    rw[hsl j hj,hbl,show W.length+oo-W.length=oo by omega]
   ·intro j hj hv
    have:=hvle j
    rw[hbl];show S.vt.getD j 0+4<=_;omega
   ·rw[Nat.zero_add,r2,hbl];omega
   ·intro j hj
    rw[hsl j hj,Nat.zero_add,r2]
    split
    ·omega
    ·rename_i hv
     have:=(hg j).resolve_left hv
     have:=hvle j
     omega
   ·rw[hbl];omega
 ·
  rw[if_neg hz]
  obtain ⟨hmem,hserv⟩:=QiO (Qaq vt oo S1.buf) S0.vts (by rw[hex];exact hz)
  rw[hex]at hmem hserv
  obtain ⟨v1,v2,v3,v4⟩:=h0.vts ex hmem
  obtain ⟨w1,w2⟩:=h2.wh ex hmem
  have hev:=h2.ev ex hmem
  have hen:=h2.en ex hmem
  have hbs:QaF S1.buf 0 (leB ((ex:Int)-(oo:Int)) 4)=leB ((ex:Int)-(oo:Int)) 4++(T++S0.buf):=by
   rw[hS1];exact putL_mid [] _ _ _ (by rw[hLl,Qg])
  have hlen:({Qdd 0 ((ex:Int)-(oo:Int)) S1 with vt:=[],nested:=false}:BS).buf=leB ((ex:Int)-(oo:Int)) 4++(T++S0.buf):=hbs
  have hvts:({Qdd 0 ((ex:Int)-(oo:Int)) S1 with vt:=[],nested:=false}:BS).vts=S0.vts:=hS1t
  generalize ({Qdd 0 ((ex:Int)-(oo:Int)) S1 with vt:=[],nested:=false}:BS)=E at *
  have hbl:(leB ((ex:Int)-(oo:Int)) 4++(T++S0.buf)).length=oo:=by simp only[List.length_append,Qg];omega
  have hkey:∀(Y:List UInt8),Y.length=4->∀i,le2 (Y++(T++S0.buf)) (oo-ex+i)=le2 S0.buf (S0.buf.length-ex+i):=fun Y hY i=>by
   rw[<-List.append_assoc,show oo-ex+i=(Y++T).length+(S0.buf.length-ex+i) by simp only[List.length_append];omega,YT]
  have k1:=hkey L hLl
  have k2:=hkey (leB ((ex:Int)-(oo:Int)) 4) (by rw[Qg])
  have k10:=k1 0
  have k20:=k2 0
  rw[Nat.add_zero,Nat.add_zero]at k10 k20
  unfold Qaq Qi1 at hserv
  rw[hS1,k10]at hserv
  simp only[Bool.and_eq_true,decide_eq_true_eq,List.all_eq_true,List.mem_range,Bool.or_eq_true]at hserv
  obtain ⟨hs1,hs2⟩:=hserv
  have re:∀i,i<vt.length->le2 S0.buf (S0.buf.length-ex+(4+2*i))=if S.vt.getD i 0=0 then 0 else oo-S.vt.getD i 0:=fun i hi=>by
   have q:=hs2 i hi
   rw[show oo-ex+4+2*i=oo-ex+(4+2*i) by omega,k1,hvtget i hi]at q
   have hb:=hen i (by omega)
   have:=hvle i
   rcases q with ⟨q1,q2⟩|q
   ·rw[if_pos q2,q1]
   ·by_cases hv:S.vt.getD i 0=0
    ·rw[hv]at q;omega
    ·rw[if_neg hv];omega
  have hsl:∀j,j<n->slotAt (leB ((ex:Int)-(oo:Int)) 4++(T++S0.buf)) (oo-ex) (4+2*j)=if S.vt.getD j 0=0 then 0 else oo-S.vt.getD j 0:=fun j hj=>by
   unfold slotAt
   rw[k20,k2]
   by_cases hjl:j<vt.length
   ·rw[if_pos (by omega),re j hjl]
   ·rw[if_neg (by omega),if_pos (hbehind j (by omega))]
  refine ⟨h2.ext (S':=E) h0.vts hvts (x:=leB ((ex:Int)-(oo:Int)) 4++T) (by rw[hlen];simp),⟨leB ((ex:Int)-(oo:Int)) 4++List.replicate pd 0,by rw[hlen,hx,<-hT];simp⟩,by rw[hlen,hbl];exact Nat.le_refl _,by omega,oo-ex,?_⟩
  rw[hlen,hbl,Nat.sub_self]
  refine ⟨⟨by omega,?_,by rw[k20,hbl];omega,by rw[k20];exact v3,by rw[k20];omega⟩,?_,?_,?_,?_,?_⟩
  ·have e:=le4_leBI ((ex:Int)-(oo:Int)) (T++S0.buf)
   have ew:IntKind.i32.wrap ((le4 (leB ((ex:Int)-(oo:Int)) 4++(T++S0.buf)) 0:Nat):Int)=(ex:Int)-(oo:Int):=by
    rw[e]
    have:=QiT .i32 (x:=((ex:Int)-(oo:Int))%4294967296) (y:=(ex:Int)-(oo:Int)) (by
     show _%(4294967296:Int)=_%(4294967296:Int)
     rw[Int.emod_emod_of_dvd _ (Int.dvd_refl _)])
    rw[this,Zd (by omega) (by omega)]
   rw[ew];omega
  ·intro j hj
   rw[hsl j hj,hbl,Nat.sub_zero]
  ·intro j hj hv
   have:=hvle j
   rw[hbl];show S.vt.getD j 0+4<=_;omega
  ·rw[k2,hbl];omega
  ·intro j hj
   rw[hsl j hj,k2]
   split
   ·omega
   ·rename_i hv
    have hjl:j<vt.length:=by
     apply Nat.lt_of_not_le
     intro hc
     exact hv (hbehind j hc)
    have:=hen j (by omega)
    rw[re j hjl,if_neg hv]at this
    exact this
  ·rw[hbl];omega
end Go.Proofs
namespace Go.Proofs
open Go Go.Vc
open Tryz (prog)
abbrev PP:=Nat->List UInt8->Nat->Prop
def QS (P:PP):Prop:=∀A A' bs x p,A<=A'->P A bs p->P A' (x++bs) (x.length+p)
def Alg (A k:Nat) (bs:List UInt8) (p:Nat):Prop:=P2 k/\k<=A/\(bs.length-p)%k=0
theorem Alg.stable {k:Nat}:QS (fun A bs p=>Alg A k bs p):=fun A A' bs x p hA h=>⟨h.1,Nat.le_trans h.2.1 hA,by
 rw[List.length_append,show x.length+bs.length-(x.length+p)=bs.length-p by omega];exact h.2.2⟩
theorem QS.and {P Q:PP} (hP:QS P) (hQ:QS Q):QS (fun A bs p=>P A bs p/\Q A bs p):=fun A A' bs x p hA h=>⟨hP A A' bs x p hA h.1,hQ A A' bs x p hA h.2⟩
theorem leN_append {k:Nat} {x bs:List UInt8} {i:Nat}:leN k (x++bs) (x.length+i)=leN k bs i:=by
 unfold leN
 split
 ·exact Qde
 ·exact YT
 ·exact QaE
 ·exact le8_append
theorem Qih {x bs:List UInt8} {i:Nat}:tgt (x++bs) (x.length+i)=x.length+tgt bs i:=by
 unfold tgt;rw[QaE];omega
def ZK (k n:Nat):PP:=fun A bs p=>p+k<=bs.length/\Alg A k bs p/\leN k bs p=n
theorem ZK.stable {k n:Nat}:QS (ZK k n):=fun A A' bs x p hA h=>⟨by rw[List.length_append];have:=h.1;omega,Alg.stable A A' bs x p hA h.2.1,by rw[leN_append];exact h.2.2⟩
def QgB (off:Nat):PP:=fun A bs p=>p+4<=bs.length/\Alg A 4 bs p/\p+4+off<=bs.length/\tgt bs p=bs.length-off
theorem QgB.stable {off:Nat}:QS (QgB off):=fun A A' bs x p hA h=>⟨by rw[List.length_append];have:=h.1;omega,Alg.stable A A' bs x p hA h.2.1,by rw[List.length_append];have:=h.2.2.1;omega,by
 rw[Qih,h.2.2.2,List.length_append];have:=h.2.2.1;omega⟩
def BytesP (k:Nat) (xs:List UInt8):PP:=fun A bs p=>p+xs.length<=bs.length/\Alg A k bs p/\(bs.drop p).take xs.length=xs
theorem QeF {x bs:List UInt8} {p:Nat}:(x++bs).drop (x.length+p)=bs.drop p:=by
 rw[List.drop_append,List.drop_eq_nil_of_le (by omega),List.nil_append];congr 1;omega
theorem BytesP.stable {k:Nat} {xs:List UInt8}:QS (BytesP k xs):=fun A A' bs x p hA h=>⟨by rw[List.length_append];have:=h.1;omega,Alg.stable A A' bs x p hA h.2.1,by rw[QeF];exact h.2.2⟩
structure Spec where
 o:Nat
 ab:Prop
 q:PP
def Fact (L0:Nat) (S:BS) (s:Spec):Prop:=
 (S.vt.getD s.o 0=0/\s.ab)\/(S.vt.getD s.o 0≠0/\¬s.ab/\L0<S.vt.getD s.o 0/\S.vt.getD s.o 0<=S.buf.length/\s.q S.min S.buf (S.buf.length-S.vt.getD s.o 0))
structure Op (f:BS->BS) (L0:Nat) (s:Spec):Prop where
 st:QS s.q
 ext:∀S,∃x,(f S).buf=x++S.buf
 min:∀S,S.min<=(f S).min
 len:∀S,(f S).buf.length<=S.buf.length+64
 vl:∀S,(f S).vt.length=S.vt.length
 oth:∀S j,j≠s.o->(f S).vt.getD j 0=S.vt.getD j 0
 own:∀S,L0<=S.buf.length->S.buf.length<4000000000->s.o<S.vt.length->S.vt.getD s.o 0=0->Fact L0 (f S) s
theorem Fact.mono {L0:Nat} {S S':BS} {s:Spec} (hs:QS s.q) (h:Fact L0 S s) {x:List UInt8} (hb:S'.buf=x++S.buf) (hm:S.min<=S'.min) (hv:S'.vt.getD s.o 0=S.vt.getD s.o 0):Fact L0 S' s:=by
 unfold Fact at h⊢
 rw[hv]
 rcases h with h|⟨h1,h2,h3,h4,h5⟩
 ·exact Or.inl h
 ·refine Or.inr ⟨h1,h2,h3,by rw[hb,List.length_append];omega,?_⟩
  have:=hs S.min S'.min S.buf x _ hm h5
  rw[hb,show (x++S.buf).length-S.vt.getD s.o 0=x.length+(S.buf.length-S.vt.getD s.o 0) by rw[List.length_append];omega]
  exact this
def OpsOk (L0:Nat):List (BS->BS)->List Spec->Prop
 |[],[]=>True
 |f::fs,s::ss=>Op f L0 s/\OpsOk L0 fs ss
 |_,_=>False
def Facts (L0:Nat) (S:BS):List Spec->Prop
 |[]=>True
 |s::ss=>Fact L0 S s/\Facts L0 S ss
theorem runS_spec {L0:Nat}:∀(fs:List (BS->BS)) (ss:List Spec),OpsOk L0 fs ss->(ss.map Spec.o).Nodup->∀(S:BS),L0<=S.buf.length->S.buf.length+64*fs.length<4000000000->
  (∀s∈ss,s.o<S.vt.length/\S.vt.getD s.o 0=0)->
  (∃x,(runS fs S).buf=x++S.buf)/\S.min<=(runS fs S).min/\(runS fs S).vt.length=S.vt.length/\(∀j,(∀s∈ss,j≠s.o)->(runS fs S).vt.getD j 0=S.vt.getD j 0)/\Facts L0 (runS fs S) ss
 |[],[],_,_,S,_,_,_=>⟨⟨[],rfl⟩,Nat.le_refl _,rfl,fun _ _=>rfl,trivial⟩
 |f::fs,s::ss,⟨ho,hok⟩,hnd,S,hL,hb,hs=>by
  rw[List.map_cons,List.nodup_cons]at hnd
  obtain ⟨x,hx⟩:=ho.ext S
  have hl:(f S).buf.length=x.length+S.buf.length:=by rw[hx,List.length_append]
  have hg:=ho.len S
  rw[List.length_cons]at hb
  have hne:∀s'∈ss,s'.o≠s.o:=fun s' hs' h=>hnd.1 (by rw[<-h];exact List.mem_map_of_mem hs')
  obtain ⟨⟨y,hy⟩,hmin,hvl,hoth,hf⟩:=runS_spec fs ss hok hnd.2 (f S) (by omega) (by omega)
   (fun s' hs'=>⟨by rw[ho.vl];exact (hs s' (List.mem_cons_of_mem _ hs')).1,by rw[ho.oth S _ (hne s' hs')];exact (hs s' (List.mem_cons_of_mem _ hs')).2⟩)
  have hown:=ho.own S hL (by omega) (hs s List.mem_cons_self).1 (hs s List.mem_cons_self).2
  refine ⟨⟨y++x,by rw[runS,hy,hx,List.append_assoc]⟩,Nat.le_trans (ho.min S) hmin,by rw[runS,hvl,ho.vl],fun j hj=>?_,?_,hf⟩
  ·rw[runS,hoth j (fun s' hs'=>hj s' (List.mem_cons_of_mem _ hs')),ho.oth S j (hj s List.mem_cons_self)]
  ·exact hown.mono ho.st hy hmin (hoth s.o (fun s' hs' h=>hne s' hs' h.symm))
theorem putN_vt (k:Nat) (xs:List UInt8) (S:BS):(putN k xs S).vt=S.vt:=rfl
theorem padOf_mod0 {k n:Nat} (hk:0<k):(padOf k (n+0)+n)%k=0:=by
 have:=Qcp (size:=k) (n:=n) hk
 rw[Nat.add_zero,Nat.add_comm];exact this
theorem putN_num {k n:Nat} (hk:P2 k) (hn:n<256^k) (S:BS):ZK k n (putN k (leB (n:Int) k) S).min (putN k (leB (n:Int) k) S).buf 0/\(putN k (leB (n:Int) k) S).buf.length=k+padOf k (S.buf.length+0)+S.buf.length:=by
 have e:=QfG k (leB (n:Int) k) S
 have el:(putN k (leB (n:Int) k) S).buf.length=k+padOf k (S.buf.length+0)+S.buf.length:=by rw[e];simp[Qg];omega
 refine ⟨⟨by omega,⟨hk,Nat.le_max_right _ _,?_⟩,?_⟩,el⟩
 ·rw[el,Nat.sub_zero]
  have:=padOf_mod0 (n:=S.buf.length) hk.pos
  rw[Nat.add_assoc,Nat.add_mod_left];exact this
 ·rw[e]
  obtain ⟨j,hj,rfl⟩:=hk
  have:j=0\/j=1\/j=2\/j=3:=by omega
  rcases this with rfl|rfl|rfl|rfl
  ·show byteN _ _=_
   have h:=Qf9 (x:=(n:Int)) (k:=1) (i:=0) (by decide)
   have h2:=Qgn n 0
   have h3:byteN (leB (n:Int) 1++(List.replicate (padOf 1 (S.buf.length+0)) 0++S.buf)) 0=byteN (leB (n:Int) 1) 0:=by
    unfold byteN;congr 1
   show byteN (leB (n:Int) 1++_) 0=n
   rw[h3,h,h2];simp at hn⊢;omega
  ·show le2 (leB (n:Int) 2++_) 0=n
   rw[QiS (Nat.le_refl _)];simp at hn;omega
  ·show le4 (leB (n:Int) 4++_) 0=n
   rw[QgD (Nat.le_refl _)];simp at hn;omega
  ·show le8 (leB (n:Int) 8++_) 0=n
   rw[le8_leB];simp at hn;omega
theorem slot_own {S:BS} {o:Nat} (h:o<S.vt.length):(slot o S).vt.getD o 0=S.buf.length:=by
 show (S.vt.set o S.buf.length).getD o 0=_
 rw[getD_set,if_pos ⟨rfl,h⟩]
theorem slot_oth {S:BS} {o j:Nat} (h:j≠o):(slot o S).vt.getD j 0=S.vt.getD j 0:=by
 show (S.vt.set o S.buf.length).getD j 0=_
 rw[getD_set,if_neg (fun x=>h x.1.symm)]
theorem slot_vl {S:BS} {o:Nat}:(slot o S).vt.length=S.vt.length:=by simp[slot]
theorem Op.num {L0 k n o:Nat} {ab:Prop} {f:BS->BS} (hk:P2 k) (hn:n<256^k) (h0:ab->∀S,f S=S) (h1:¬ab->∀S,f S=slot o (putN k (leB (n:Int) k) S)):Op f L0 ⟨o,ab,ZK k n⟩:=by
 by_cases hab:ab
 ·have h:=h0 hab
  exact ⟨ZK.stable,fun S=>⟨[],by rw[h];rfl⟩,fun S=>by rw[h];exact Nat.le_refl _,fun S=>by rw[h];omega,fun S=>by rw[h],fun S j _=>by rw[h],fun S _ _ _ hz=>Or.inl ⟨by rw[h];exact hz,hab⟩⟩
 ·have h:=h1 hab
  refine ⟨ZK.stable,fun S=>⟨leB (n:Int) k++List.replicate (padOf k (S.buf.length+0)) 0,by rw[h];show (putN k (leB (n:Int) k) S).buf=_;rw[QfG];simp⟩,fun S=>?_,fun S=>?_,fun S=>by rw[h,slot_vl,putN_vt],fun S j hj=>by rw[h,slot_oth hj,putN_vt],fun S hL hl ho hz=>Or.inr ?_⟩
  ·rw[h];exact Nat.le_max_left _ _
  ·rw[h]
   show (putN k (leB (n:Int) k) S).buf.length<=_
   have:=(putN_num hk hn S).2
   have:=hk.le
   have:=Zo (size:=k) (n:=S.buf.length+0) hk.pos
   omega
  ·obtain ⟨p1,p2⟩:=putN_num hk hn S
   have hp:=hk.pos
   rw[h]
   have e:(slot o (putN k (leB (n:Int) k) S)).vt.getD o 0=(putN k (leB (n:Int) k) S).buf.length:=slot_own (by rw[putN_vt];exact ho)
   rw[e]
   have e2:(slot o (putN k (leB (n:Int) k) S)).buf=(putN k (leB (n:Int) k) S).buf:=rfl
   refine ⟨by omega,hab,by omega,by rw[e2];exact Nat.le_refl _,?_⟩
   rw[e2,Nat.sub_self];exact p1
theorem Op.slotN {L0 k x d o:Nat} (hk:P2 k) (hx:x<256^k):Op (Proofs.slotN k x d o) L0 ⟨o,x=d,ZK k x⟩:=
 Op.num hk hx (fun h S=>by unfold Proofs.slotN;rw[if_pos h]) (fun h S=>by unfold Proofs.slotN;rw[if_neg h])
theorem Op.slotF {L0 x d o:Nat} (hx:x<256^4):Op (Proofs.slotF x d o) L0 ⟨o,FloatKind.f32.format.order x d=some .eq,ZK 4 x⟩:=
 Op.num QgV hx (fun h S=>by unfold Proofs.slotF;rw[h];rfl) (fun h S=>by unfold Proofs.slotF;rw[if_pos (by simpa using h)])
theorem Op.slotTy {L0 o:Nat} {ty:UInt8}:Op (Proofs.slotTy ty o) L0 ⟨o,ty=0,ZK 1 ty.toNat⟩:=
 Op.num P2_1 (by have:=ty.toNat_lt;omega) (fun h S=>by unfold Proofs.slotTy;rw[if_pos h]) (fun h S=>by
  unfold Proofs.slotTy Proofs.slotN
  rw[if_neg h,if_neg (fun h2=>h (UInt8.toNat_inj.1 (by simpa using h2)))])
theorem putOff_off {off:Nat} {S:BS} (h:off<=S.buf.length) (hl:S.buf.length<4000000000):QgB off (putOff off S).min (putOff off S).buf 0/\(putOff off S).buf.length=4+padOf 4 (S.buf.length+0)+S.buf.length:=by
 have hp:=Zo (size:=4) (n:=S.buf.length+0) (by decide)
 have e:(putOff off S).buf=leB (((prep 4 0 S).buf.length-off+4:Nat):Int) 4++(List.replicate (padOf 4 (S.buf.length+0)) 0++S.buf):=rfl
 have el:(putOff off S).buf.length=4+padOf 4 (S.buf.length+0)+S.buf.length:=by rw[e];simp[Qg];omega
 refine ⟨⟨by omega,⟨QgV,Nat.le_max_right _ _,?_⟩,by rw[el];omega,?_⟩,el⟩
 ·rw[el,Nat.sub_zero]
  have:=padOf_mod0 (k:=4) (n:=S.buf.length) (by decide)
  omega
 ·unfold tgt
  rw[el,e,QgD (Nat.le_refl _),Qa5]
  omega
theorem Op.slotOff {L0 off o:Nat} (h:off<=L0):Op (Proofs.slotOff off o) L0 ⟨o,off=0,QgB off⟩:=by
 by_cases hab:off=0
 ·have h:∀S,Proofs.slotOff off o S=S:=fun S=>by unfold Proofs.slotOff;rw[if_pos hab]
  exact ⟨QgB.stable,fun S=>⟨[],by rw[h];rfl⟩,fun S=>by rw[h];exact Nat.le_refl _,fun S=>by rw[h];omega,fun S=>by rw[h],fun S j _=>by rw[h],fun S _ _ _ hz=>Or.inl ⟨by rw[h];exact hz,hab⟩⟩
 ·have h:∀S,Proofs.slotOff off o S=slot o (putOff off S):=fun S=>by unfold Proofs.slotOff;rw[if_neg hab]
  refine ⟨QgB.stable,fun S=>⟨_,by rw[h];exact (QdM off S).choose_spec.1⟩,fun S=>?_,fun S=>?_,fun S=>by rw[h,slot_vl];rfl,fun S j hj=>by rw[h,slot_oth hj];rfl,fun S hL hl ho hz=>Or.inr ?_⟩
  ·rw[h];exact Nat.le_max_left _ _
  ·rw[h]
   show (putOff off S).buf.length<=_
   obtain ⟨x,hx,_,hx2⟩:=QdM off S
   rw[hx,List.length_append];omega
  ·obtain ⟨p1,p2⟩:=putOff_off (off:=off) (S:=S) (by omega) hl
   rw[h]
   have e:(slot o (putOff off S)).vt.getD o 0=(putOff off S).buf.length:=slot_own ho
   rw[e]
   have e2:(slot o (putOff off S)).buf=(putOff off S).buf:=rfl
   refine ⟨by omega,hab,by omega,by rw[e2];exact Nat.le_refl _,?_⟩
   rw[e2,Nat.sub_self];exact p1
theorem vec3_len' (v:Qa9):(Qff v).length=32:=by simp[Qff,vec3B,Qg]
def posQ (pos:Option Qa9):PP:=fun A bs p=>match pos with|none=>True|some v=>BytesP 8 (Qff v) A bs p
theorem Op.slotPos {L0:Nat} {pos:Option Qa9}:Op (Proofs.slotPos pos) L0 ⟨0,pos=none,posQ pos⟩:=by
 have hst:QS (posQ pos):=fun A A' bs x p hA h=>by
  unfold posQ at h⊢
  cases pos with
  |none=>trivial
  |some v=>exact BytesP.stable A A' bs x p hA h
 cases pos with
 |none=>exact ⟨hst,fun S=>⟨[],rfl⟩,fun S=>Nat.le_refl _,fun S=>Nat.le_add_right _ _,fun S=>rfl,fun S j _=>rfl,fun S _ _ _ hz=>Or.inl ⟨hz,rfl⟩⟩
 |some v=>
  have hv:=vec3_len' v
  have hb:∀S:BS,(place (Qff v) (prep 8 32 S)).buf=Qff v++(List.replicate (padOf 8 (S.buf.length+32)) 0++S.buf):=fun S=>rfl
  have hl:∀S:BS,(place (Qff v) (prep 8 32 S)).buf.length=32+padOf 8 (S.buf.length+32)+S.buf.length:=fun S=>by rw[hb];simp[hv];omega
  have h:∀S:BS,Proofs.slotPos (some v) S=slot 0 (place (Qff v) (prep 8 32 S)):=fun S=>by
   show slotStruct (place (Qff v) (prep 8 32 S)).buf.length 0 (place (Qff v) (prep 8 32 S))=_
   unfold slotStruct;rw[if_neg (by have:=hl S;omega)]
  refine ⟨hst,fun S=>⟨Qff v++List.replicate (padOf 8 (S.buf.length+32)) 0,by rw[h];show (place (Qff v) (prep 8 32 S)).buf=_;rw[hb];simp⟩,fun S=>by rw[h];exact Nat.le_max_left _ _,fun S=>by rw[h];have:=hl S;have:=Zo (size:=8) (n:=S.buf.length+32) (by decide);show (place (Qff v) (prep 8 32 S)).buf.length<=_;omega,fun S=>by rw[h,slot_vl];rfl,fun S j hj=>by rw[h,slot_oth hj];rfl,fun S hL hlt ho hz=>Or.inr ?_⟩
  rw[h]
  have e:(slot 0 (place (Qff v) (prep 8 32 S))).vt.getD 0 0=(place (Qff v) (prep 8 32 S)).buf.length:=slot_own ho
  have e2:(slot 0 (place (Qff v) (prep 8 32 S))).buf=(place (Qff v) (prep 8 32 S)).buf:=rfl
  have:=hl S
  rw[e]
  refine ⟨by omega,by simp,by omega,by rw[e2];exact Nat.le_refl _,?_⟩
  rw[e2,Nat.sub_self]
  show BytesP 8 (Qff v) _ _ _
  refine ⟨by omega,⟨QfV,Nat.le_max_right _ _,?_⟩,?_⟩
  ·have:=Qcp (size:=8) (n:=S.buf.length+32) (by decide)
   rw[hl,Nat.sub_zero];omega
  ·rw[hb,List.drop_zero,List.take_left]
end Go.Proofs
