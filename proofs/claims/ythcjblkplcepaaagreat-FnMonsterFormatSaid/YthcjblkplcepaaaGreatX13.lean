/- WHAT IS PROVED: the given statement of FnMonsterFormat, whatever the input: this is part 13 of 14. No conditions. -/
import Derived.Test.YthcjblkplcepaaaGreatX12
set_option linter.all false
namespace Go.Proofs
open Go Go.Vc
open Tryz (prog)
theorem fill_p1:YN z57.toList [(0,1,(.int .u8 17)),(1,1,(.int .u8 8)),(3,1,(.string ⟨#[48,49,50,51,52,53,54,55,48,49,50,51,52,53,54,55,48,49,50,51,52,53,54,55,48,49,50,51,52,53,54,55]⟩))]=some (Yq 17 8 0 Qjh):=by kernel_rfl
theorem fill_s0 (k e:UInt8) (n:UInt64) (t:List UInt8):YN z107.toList [(1,7,.agg (Yq k e n t).toArray)]=some (.bool false::(Yq k e n t++[QO 0])):=by kernel_rfl
theorem fill_k15:YN z57.toList [(0,1,(.int .u8 15))]=some (Yq 15 0 0 []):=by kernel_rfl
theorem fill_k16:YN z57.toList [(0,1,(.int .u8 16))]=some (Yq 16 0 0 []):=by kernel_rfl
theorem fill_k13:YN z57.toList [(0,1,(.int .u8 13))]=some (Yq 13 0 0 []):=by kernel_rfl
theorem new_whole {H:Qe} {n:Nat} {t:TypeId} {z:Array Value} {c:List Value} {K:Kn} (hz:z.size=n) (hl:c.length=n) (h0:0<n) (hone:∀v∈c,v.oneCell'=true) (hk:K (ptr H.size) (H.push (.cells c.toArray t (0,0)))):
  Y8 H (.cells z t) fun q h1=>StK h1 n q (.agg c.toArray) fun h2=>K q h2:=by
 rw[Qx,QZ (n:=n) (c':=c.toArray) Qi hz (by simpa using hl) h0 (by simpa using hone),Yc]
 exact hk
def Qfu:List Qa9->List Value
 |[]=>posC false Qjh
 |v::_=>posC true (Qff v)
theorem posL_val (F:Cut):∀pos,VL F (posL pos) (Qfu pos)
 |[]=>VL.scal F false 17 8 0 Qjh 0
 |v::_=>VL.scal F true 17 8 0 (Qff v) 0
set_option maxHeartbeats 2000000 in
set_option maxRecDepth 8000 in
theorem MonsterValue_ok {d:QaM} {pos:List Qa9} {empty:List ZU} {tables enemy test uniq amb:List GM} {cells:List Value} {G:Cut} {H:Qe} (hG:G.In H) (hv:QcX G (.mk d pos empty tables enemy test uniq amb) cells) (hs:SmallD d pos empty) {R:Kn}
  (hR:∀G' H' cells',Ext G H G' H'->VV G' (QiX d pos empty) cells'->R (.agg cells'.toArray) H'):FnS prog 10 #[.agg cells.toArray] H R:=by
 rw[QcX]at hv
 obtain ⟨c,rfl,hg,_⟩:=hv
 apply w10
 unfold s10
 rw[Qx,Qx]
 have e:=(Ext.refl hG).pushG (.cells (Value.agg (YK d c).toArray).cells 38 (0,0))
 have hg1:(G.upd H.size (.cells (Value.agg (YK d c).toArray).cells 38 (0,0))) H.size=some (.cells (YK d c).toArray 38 (0,0)):=Cut.upd_same
 have hg:=hg.mono e.le
 generalize G.upd H.size (.cells (Value.agg (YK d c).toArray).cells 38 (0,0))=G1 at *
 show Qu _ _ _
 generalize H.push (.cells (Value.agg (YK d c).toArray).cells 38 (0,0))=H1 at *
 have o2:=Yo.fresh e (.cells z57 57)
 have e:=e.push (.cells z57 57)
 generalize H1.push (.cells z57 57)=H2 at *
 refine Zl fill_p1 (Zl (fill_s0 17 8 0 Qjh) ?_)
 refine new_whole (c:=posC false Qjh) rfl rfl (by decide) (VL.scal G1 false 17 8 0 Qjh 0).one ?_
 have n2:=o2.ne
 have o3:=Yo.fresh e (.cells (posC false Qjh).toArray 107 (0,0))
 have o2:=o2.push (.cells (posC false Qjh).toArray 107 (0,0))
 have e:=e.push (.cells (posC false Qjh).toArray 107 (0,0))
 generalize H2.push (.cells (posC false Qjh).toArray 107 (0,0))=H3 at *
 generalize H2.size=q3 at *
 generalize H1.size=q2 at *
 have ld:∀{G':Cut} {H':Qe},G1.le G'->G'.In H'->∀{i:Nat} {v:Value} (k:Value->Prop),(YK d c).toArray[i]?=some v->LdK H' (.pointer (some ⟨H.size,i,none⟩)) k=k v:=fun hle hin _ _ k h=>Ql ((Qk (hin _ _ (hle _ _ hg1))).trans h)
 show Qdv prog 3 (ptr H.size) 0 H3 (posB (ptr q3)) _
 refine QgM (s:=c.pos) (n:=pos.length) (fun i H'=>Ext G H G1 H'/\Yo H G1 H' q2 (.cells z57 57 (0,0))/\Yo H G1 H' q3 (.cells (Qfu (pos.take i)).toArray 107 (0,0))) ⟨e,o2,by rw[List.take_zero];exact o3⟩ (by have:=hs.npos;omega) (fun k hk=>by rw[Qm,ld (Cut.le_refl _) e.inn k rfl];exact hk) (fun k=>by rw[hg.pos.len,List.length_map]) ?_ ?_
 ·rintro i H' k hi ⟨e1,p2,p3⟩ hk
  have h0:i=0:=by have:=hs.npos;omega
  subst h0
  have ha:=List.getElem?_eq_getElem hi
  rw[List.take_zero]at p3
  refine pos_step (b:=false) (t:=Qjh) e1 p3 hg.pos ha fun H4 e4 og o4=>hk H4 ⟨e4,og _ _ n2 p2,?_⟩
  rw[List.take_add_one,ha]
  exact o4
 rintro H4 ⟨e,o2,o3⟩
 rw[List.take_length]at o3
 refine Zl fill_k15 (Zl (fill_s0 15 0 0 []) ?_)
 refine new_whole (c:=emC false (.slice none 0 0)) rfl rfl (by decide) (VL.scal G1 false 15 0 0 [] 0).one ?_
 have n2':=o2.ne
 have n3':=o3.ne
 have o6:=Yo.fresh e (.cells (emC false (.slice none 0 0)).toArray 107 (0,0))
 have o2:=o2.push (.cells (emC false (.slice none 0 0)).toArray 107 (0,0))
 have o3:=o3.push (.cells (emC false (.slice none 0 0)).toArray 107 (0,0))
 have e:=e.push (.cells (emC false (.slice none 0 0)).toArray 107 (0,0))
 generalize H4.push (.cells (emC false (.slice none 0 0)).toArray 107 (0,0))=H5 at *
 generalize H4.size=q6 at *
 show Qdv prog 3 (ptr H.size) 14 H5 (emB (ptr q6)) _
 refine QgM (s:=c.empty) (n:=empty.length) (fun i H'=>∃G' b t,Ext G H G' H'/\G1.le G'/\Yo H G' H' q2 (.cells z57 57 (0,0))/\Yo H G' H' q3 (.cells (Qfu pos).toArray 107 (0,0))/\Yo H G' H' q6 (.cells (emC b t).toArray 107 (0,0))/\VL G' (emptyL (empty.take i)) (emC b t))
  ⟨G1,false,.slice none 0 0,e,Cut.le_refl _,o2,o3,o6,by rw[List.take_zero];exact VL.scal G1 false 15 0 0 [] 0⟩ (by have:=hs.nempty;omega) (fun k hk=>by rw[Qm,ld (Cut.le_refl _) e.inn k rfl];exact hk) (fun k=>by rw[hg.empty.len,List.length_map]) ?_ ?_
 ·rintro i H' k hi ⟨G',b,t,e1,le1,p2,p3,p6,_⟩ hk
  have h0:i=0:=by have:=hs.nempty;omega
  subst h0
  have ha:=List.getElem?_eq_getElem hi
  refine em_step e1 p6 (hg.empty.mono le1) ha fun G6 H6 c6 e6 le6 og hv o6=>hk H6 ⟨G6,true,c6,e6,Cut.le_trans le1 le6,og _ _ n2' p2,og _ _ n3' p3,o6,?_⟩
  rw[List.take_add_one,ha]
  exact hv
 clear e o2 o3 o6
 rintro H6 ⟨G6,b6,t6,e,le6,o2,o3,o6,v6⟩
 rw[List.take_length]at v6
 have hg:=hg.mono le6
 refine Q2 (fun vs h=>h=H6/\vs=[QO (boolN d.bool)]) ?_ ?_
 ·rw[Qm,ld le6 e.inn _ (show (YK d c).toArray[15]?=some (.bool d.bool) from rfl)]
  cases d.bool
  ·rw[YQ];exact ⟨rfl,rfl⟩
  ·rw[Qbs];exact ⟨rfl,rfl⟩
 rintro x9 h29 ⟨rfl,hx9⟩
 cases hx9
 show accF prog 3 (ptr H.size) 24 h29 boolsB _
 have hl:=hs.lists
 refine nums_loop (f:=boolN) (I:=boolI) (l:=d.bools) (s:=c.bools) e.inn hg.bools (by omega) (fun k hk=>by rw[Qm,ld le6 e.inn k rfl];exact hk) ?_ ?_
 ·intro i a y H' k ha hin hk
  unfold boolsB
  obtain ⟨b,o,cs,e',fr,g1,g2,g3,g4⟩:=hg.bools.idx hin (i:=i) rfl (it:=boolI a) (by rw[List.getElem?_map,ha];rfl)
  rw[g1,Ql ((Qk g2).trans (QdD g4))]
  refine Q2 (fun vs h=>h=H'/\vs=[QO (boolN a)]) ?_ ?_
  ·cases a
   ·rw[YQ];exact ⟨rfl,rfl⟩
   ·rw[Qbs];exact ⟨rfl,rfl⟩
  rintro x14 h31 ⟨rfl,hx⟩
  cases hx
  exact hk
 intro G7 H7 xB e7 slB
 have o2:=o2.ext e7
 have o3:=o3.ext e7
 have o6:=o6.ext e7
 have e:=e.trans e7
 have le7:=Cut.le_trans le6 e7.le
 have v6:=VL.mono e7.le _ _ v6
 have hg:=hg.mono e7.le
 clear e7
 show accF prog 3 (ptr H.size) 32 H7 longsB _
 refine nums_loop (f:=longN) (I:=i64I) (l:=d.longs) (s:=c.longs) e.inn hg.longs (by omega) (fun k hk=>by rw[Qm,ld le7 e.inn k rfl];exact hk) ?_ ?_
 ·intro i a y H' k ha hin hk
  unfold longsB
  obtain ⟨b,o,cs,e',fr,g1,g2,g3,g4⟩:=hg.longs.idx hin (i:=i) rfl (it:=i64I a) (by rw[List.getElem?_map,ha];rfl)
  rw[g1,Ql ((Qk g2).trans (QdD g4)),Qfz]
  exact hk
 intro G8 H8 xL e8 slL
 have o2:=o2.ext e8
 have o3:=o3.ext e8
 have o6:=o6.ext e8
 have e:=e.trans e8
 have le8:=Cut.le_trans le7 e8.le
 have v6:=VL.mono e8.le _ _ v6
 have slB:=slB.mono e8.le
 have hg:=hg.mono e8.le
 clear e8
 refine Zl fill_k15 (Zl (fill_s0 15 0 0 []) ?_)
 refine new_whole (c:=emC false (.slice none 0 0)) rfl rfl (by decide) (VL.scal G8 false 15 0 0 [] 0).one ?_
 have o17:=Yo.fresh e (.cells (emC false (.slice none 0 0)).toArray 107 (0,0))
 have o2:=o2.push (.cells (emC false (.slice none 0 0)).toArray 107 (0,0))
 have o3:=o3.push (.cells (emC false (.slice none 0 0)).toArray 107 (0,0))
 have o6:=o6.push (.cells (emC false (.slice none 0 0)).toArray 107 (0,0))
 have e:=e.push (.cells (emC false (.slice none 0 0)).toArray 107 (0,0))
 generalize H8.push (.cells (emC false (.slice none 0 0)).toArray 107 (0,0))=H9 at *
 generalize H8.size=q17 at *
 have ldN:∀{q:Nat} {cs:List Value},cs.length=9->Yo H G8 H9 q (.cells cs.toArray 107 (0,0))->∀k:Value->Prop,LdN H9 9 (ptr q) k=k (.agg cs.toArray):=fun hl o k=>YB (n:=9) (by rw[Q0 o.get 9 (by simp[hl])];simp[<-hl])
 have r3:=ldN (posL_val G8 pos).len o3
 have r6:=ldN v6.len o6
 have r17:=ldN rfl o17
 have l1:∀k:Value->Prop,LdK H9 (.pointer (some ⟨H.size,1,none⟩)) k=k (Qdn d.mana):=fun k=>ld le8 e.inn k rfl
 have l2:∀k:Value->Prop,LdK H9 (.pointer (some ⟨H.size,2,none⟩)) k=k (Qdn d.hp):=fun k=>ld le8 e.inn k rfl
 have l3:∀k:Value->Prop,LdK H9 (.pointer (some ⟨H.size,3,none⟩)) k=k (QW d.name):=fun k=>ld le8 e.inn k rfl
 have l4:∀k:Value->Prop,LdK H9 (.pointer (some ⟨H.size,4,none⟩)) k=k (QW d.inventory):=fun k=>ld le8 e.inn k rfl
 have l5:∀k:Value->Prop,LdK H9 (.pointer (some ⟨H.size,5,none⟩)) k=k (u8n d.color):=fun k=>ld le8 e.inn k rfl
 have l9:∀k:Value->Prop,LdK H9 (.pointer (some ⟨H.size,9,none⟩)) k=k (c.test4):=fun k=>ld le8 e.inn k rfl
 have l10:∀k:Value->Prop,LdK H9 (.pointer (some ⟨H.size,10,none⟩)) k=k (c.strings):=fun k=>ld le8 e.inn k rfl
 have l13:∀k:Value->Prop,LdK H9 (.pointer (some ⟨H.size,13,none⟩)) k=k (QW d.nested):=fun k=>ld le8 e.inn k rfl
 have l16:∀k:Value->Prop,LdK H9 (.pointer (some ⟨H.size,16,none⟩)) k=k (Qji d.s32):=fun k=>ld le8 e.inn k rfl
 have l17:∀k:Value->Prop,LdK H9 (.pointer (some ⟨H.size,17,none⟩)) k=k (Qaw d.u32):=fun k=>ld le8 e.inn k rfl
 have l18:∀k:Value->Prop,LdK H9 (.pointer (some ⟨H.size,18,none⟩)) k=k (QfW d.s64):=fun k=>ld le8 e.inn k rfl
 have l19:∀k:Value->Prop,LdK H9 (.pointer (some ⟨H.size,19,none⟩)) k=k (QO d.u64):=fun k=>ld le8 e.inn k rfl
 have l20:∀k:Value->Prop,LdK H9 (.pointer (some ⟨H.size,20,none⟩)) k=k (Qji d.s32a):=fun k=>ld le8 e.inn k rfl
 have l21:∀k:Value->Prop,LdK H9 (.pointer (some ⟨H.size,21,none⟩)) k=k (Qaw d.u32a):=fun k=>ld le8 e.inn k rfl
 have l22:∀k:Value->Prop,LdK H9 (.pointer (some ⟨H.size,22,none⟩)) k=k (QfW d.s64a):=fun k=>ld le8 e.inn k rfl
 have l23:∀k:Value->Prop,LdK H9 (.pointer (some ⟨H.size,23,none⟩)) k=k (QO d.u64a):=fun k=>ld le8 e.inn k rfl
 have l25:∀k:Value->Prop,LdK H9 (.pointer (some ⟨H.size,25,none⟩)) k=k (Qaw d.f):=fun k=>ld le8 e.inn k rfl
 have l26:∀k:Value->Prop,LdK H9 (.pointer (some ⟨H.size,26,none⟩)) k=k (Qaw d.f2):=fun k=>ld le8 e.inn k rfl
 have l27:∀k:Value->Prop,LdK H9 (.pointer (some ⟨H.size,27,none⟩)) k=k (Qaw d.f3):=fun k=>ld le8 e.inn k rfl
 have l28:∀k:Value->Prop,LdK H9 (.pointer (some ⟨H.size,28,none⟩)) k=k (c.strings2):=fun k=>ld le8 e.inn k rfl
 have l30:∀k:Value->Prop,LdK H9 (.pointer (some ⟨H.size,30,none⟩)) k=k (QW d.flex):=fun k=>ld le8 e.inn k rfl
 have l31:∀k:Value->Prop,LdK H9 (.pointer (some ⟨H.size,31,none⟩)) k=k (c.test5):=fun k=>ld le8 e.inn k rfl
 have l33:∀k:Value->Prop,LdK H9 (.pointer (some ⟨H.size,33,none⟩)) k=k (c.doubles):=fun k=>ld le8 e.inn k rfl
 have l34:∀k:Value->Prop,LdK H9 (.pointer (some ⟨H.size,34,none⟩)) k=k (.bool d.parent):=fun k=>ld le8 e.inn k rfl
 have l35:∀k:Value->Prop,LdK H9 (.pointer (some ⟨H.size,35,none⟩)) k=k (c.refs):=fun k=>ld le8 e.inn k rfl
 have l36:∀k:Value->Prop,LdK H9 (.pointer (some ⟨H.size,36,none⟩)) k=k (QO d.singleWeak):=fun k=>ld le8 e.inn k rfl
 have l37:∀k:Value->Prop,LdK H9 (.pointer (some ⟨H.size,37,none⟩)) k=k (c.weak):=fun k=>ld le8 e.inn k rfl
 have l38:∀k:Value->Prop,LdK H9 (.pointer (some ⟨H.size,38,none⟩)) k=k (c.strong):=fun k=>ld le8 e.inn k rfl
 have l39:∀k:Value->Prop,LdK H9 (.pointer (some ⟨H.size,39,none⟩)) k=k (QO d.coOwning):=fun k=>ld le8 e.inn k rfl
 have l40:∀k:Value->Prop,LdK H9 (.pointer (some ⟨H.size,40,none⟩)) k=k (c.coOwnings):=fun k=>ld le8 e.inn k rfl
 have l41:∀k:Value->Prop,LdK H9 (.pointer (some ⟨H.size,41,none⟩)) k=k (QO d.nonOwning):=fun k=>ld le8 e.inn k rfl
 have l42:∀k:Value->Prop,LdK H9 (.pointer (some ⟨H.size,42,none⟩)) k=k (c.nonOwnings):=fun k=>ld le8 e.inn k rfl
 have l49:∀k:Value->Prop,LdK H9 (.pointer (some ⟨H.size,49,none⟩)) k=k (QW d.enums):=fun k=>ld le8 e.inn k rfl
 have l50:∀k:Value->Prop,LdK H9 (.pointer (some ⟨H.size,50,none⟩)) k=k (i8V d.signedEnum):=fun k=>ld le8 e.inn k rfl
 have bq:∀{zs:List Value} {ps:List (Nat×Nat×Value)} {cs:List Value},YN zs ps=some cs->∀k:Value->Prop,Qu zs ps k=k (.agg cs.toArray):=fun h k=>by unfold Qu;rw[h]
 have b16:=bq fill_k16
 have b13:=bq fill_k13
 have b15:=bq fill_k15
 have s16:=bq (fill_s0 16 0 0 [])
 have s13:=bq (fill_s0 13 0 0 [])
 have bn:=bq (fill_tx d.name)
 have sn:=bq (fill_by2 true 11 0 0 d.name)
 have sp:=bq (fill_by2 d.parent 15 0 0 [])
 simp only[Qm,r3,r6,r17,b16,b13,b15,s16,s13,bn,sn,sp,Qfz,l1,l2,l3,l4,l5,l9,l10,l13,l16,l17,l18,l19,l20,l21,l22,l23,l25,l26,l27,l28,l30,l31,l33,l34,l35,l36,l37,l38,l39,l40,l41,l42,l49,l50]
 have f:Ext G8 H9 G8 H9:=Ext.refl e.inn
 refine QB (k:=4) (n:=toU (IntKind.i16.wrap (d.mana.toNat:Int))) (D:=150) f.inn ?_
 intro H101 c1 e1 w1
 refine Qq e1.keep.ext ?_
 have f:=f.trans e1
 refine QB (k:=4) (n:=toU (IntKind.i16.wrap (d.hp.toNat:Int))) (D:=100) f.inn ?_
 intro H102 c2 e2 w2
 refine Qq e2.keep.ext ?_
 have f:=f.trans e2
 refine QB (k:=0) (n:=0) (D:=0) f.inn ?_
 intro H104 c4 e4 w4
 refine Qq e4.keep.ext ?_
 have f:=f.trans e4
 refine Qcu (s:=d.inventory) f.inn ?_
 intro H105 c5 e5 w5
 refine Qq e5.keep.ext ?_
 have f:=f.trans e5
 refine QB (k:=1) (n:=toU (d.color.toNat:Int)) (D:=8) f.inn ?_
 intro H106 c6 e6 w6
 refine Qq e6.keep.ext ?_
 have f:=f.trans e6
 refine QB (k:=1) (n:=0) (D:=0) f.inn ?_
 intro H107 c7 e7 w7
 refine Qq e7.keep.ext ?_
 have f:=f.trans e7
 refine Qhe f.inn (hg.test4.mono f.le) (by omega) ?_
 intro G109 H109 c9 e9 w9
 refine Qq e9.keep.ext ?_
 have f:=f.trans e9
 refine Qgl f.inn (hg.strings.mono f.le) (by omega) ?_
 intro G110 H110 c10 e10 w10
 refine Qq e10.keep.ext ?_
 have f:=f.trans e10
 refine Qcu (s:=d.nested) f.inn ?_
 intro H113 c13 e13 w13
 refine Qq e13.keep.ext ?_
 have f:=f.trans e13
 refine QB (k:=0) (n:=boolN d.bool) (D:=0) f.inn ?_
 intro H115 c15 e15 w15
 refine Qq e15.keep.ext ?_
 have f:=f.trans e15
 refine QB (k:=6) (n:=toU (IntKind.i32.wrap (d.s32.toNat:Int))) (D:=0) f.inn ?_
 intro H116 c16 e16 w16
 refine Qq e16.keep.ext ?_
 have f:=f.trans e16
 refine QB (k:=5) (n:=toU (d.u32.toNat:Int)) (D:=0) f.inn ?_
 intro H117 c17 e17 w17
 refine Qq e17.keep.ext ?_
 have f:=f.trans e17
 refine QB (k:=8) (n:=toU (IntKind.i64.wrap (d.s64.toNat:Int))) (D:=0) f.inn ?_
 intro H118 c18 e18 w18
 refine Qq e18.keep.ext ?_
 have f:=f.trans e18
 refine QB (k:=7) (n:=d.u64) (D:=0) f.inn ?_
 intro H119 c19 e19 w19
 refine Qq e19.keep.ext ?_
 have f:=f.trans e19
 refine QB (k:=6) (n:=toU (IntKind.i32.wrap (d.s32a.toNat:Int))) (D:=0) f.inn ?_
 intro H120 c20 e20 w20
 refine Qq e20.keep.ext ?_
 have f:=f.trans e20
 refine QB (k:=5) (n:=toU (d.u32a.toNat:Int)) (D:=0) f.inn ?_
 intro H121 c21 e21 w21
 refine Qq e21.keep.ext ?_
 have f:=f.trans e21
 refine QB (k:=8) (n:=toU (IntKind.i64.wrap (d.s64a.toNat:Int))) (D:=0) f.inn ?_
 intro H122 c22 e22 w22
 refine Qq e22.keep.ext ?_
 have f:=f.trans e22
 refine QB (k:=7) (n:=d.u64a) (D:=0) f.inn ?_
 intro H123 c23 e23 w23
 refine Qq e23.keep.ext ?_
 have f:=f.trans e23
 refine Qa4 (k:=0) (l:=(d.bools.map boolN)) f.inn (slB.mono f.le) ?_
 intro H124 c24 e24 w24
 refine Qq e24.keep.ext ?_
 have f:=f.trans e24
 refine QB (k:=9) (n:=toU (d.f.toNat:Int)) (D:=1078530000) f.inn ?_
 intro H125 c25 e25 w25
 refine Qq e25.keep.ext ?_
 have f:=f.trans e25
 refine QB (k:=9) (n:=toU (d.f2.toNat:Int)) (D:=1077936128) f.inn ?_
 intro H126 c26 e26 w26
 refine Qq e26.keep.ext ?_
 have f:=f.trans e26
 refine QB (k:=9) (n:=toU (d.f3.toNat:Int)) (D:=0) f.inn ?_
 intro H127 c27 e27 w27
 refine Qq e27.keep.ext ?_
 have f:=f.trans e27
 refine Qgl f.inn (hg.strings2.mono f.le) (by omega) ?_
 intro G128 H128 c28 e28 w28
 refine Qq e28.keep.ext ?_
 have f:=f.trans e28
 refine Qcu (s:=d.flex) f.inn ?_
 intro H130 c30 e30 w30
 refine Qq e30.keep.ext ?_
 have f:=f.trans e30
 refine Qhe f.inn (hg.test5.mono f.le) (by omega) ?_
 intro G131 H131 c31 e31 w31
 refine Qq e31.keep.ext ?_
 have f:=f.trans e31
 refine Qa4 (k:=8) (l:=(d.longs.map longN)) f.inn (slL.mono f.le) ?_
 intro H132 c32 e32 w32
 refine Qq e32.keep.ext ?_
 have f:=f.trans e32
 refine Qa4 (k:=10) (l:=d.doubles) f.inn (hg.doubles.mono f.le) ?_
 intro H133 c33 e33 w33
 refine Qq e33.keep.ext ?_
 have f:=f.trans e33
 refine QhJ f.inn (hg.refs.mono f.le) (by omega) ?_
 intro G135 H135 c35 e35 w35
 refine Qq e35.keep.ext ?_
 have f:=f.trans e35
 refine QB (k:=7) (n:=d.singleWeak) (D:=0) f.inn ?_
 intro H136 c36 e36 w36
 refine Qq e36.keep.ext ?_
 have f:=f.trans e36
 refine Qa4 (k:=7) (l:=d.weak) f.inn (hg.weak.mono f.le) ?_
 intro H137 c37 e37 w37
 refine Qq e37.keep.ext ?_
 have f:=f.trans e37
 refine QhJ f.inn (hg.strong.mono f.le) (by omega) ?_
 intro G138 H138 c38 e38 w38
 refine Qq e38.keep.ext ?_
 have f:=f.trans e38
 refine QB (k:=7) (n:=d.coOwning) (D:=0) f.inn ?_
 intro H139 c39 e39 w39
 refine Qq e39.keep.ext ?_
 have f:=f.trans e39
 refine Qa4 (k:=7) (l:=d.coOwnings) f.inn (hg.coOwnings.mono f.le) ?_
 intro H140 c40 e40 w40
 refine Qq e40.keep.ext ?_
 have f:=f.trans e40
 refine QB (k:=7) (n:=d.nonOwning) (D:=0) f.inn ?_
 intro H141 c41 e41 w41
 refine Qq e41.keep.ext ?_
 have f:=f.trans e41
 refine Qa4 (k:=7) (l:=d.nonOwnings) f.inn (hg.nonOwnings.mono f.le) ?_
 intro H142 c42 e42 w42
 refine Qq e42.keep.ext ?_
 have f:=f.trans e42
 refine QB (k:=1) (n:=0) (D:=0) f.inn ?_
 intro H143 c43 e43 w43
 refine Qq e43.keep.ext ?_
 have f:=f.trans e43
 refine QB (k:=1) (n:=0) (D:=0) f.inn ?_
 intro H145 c45 e45 w45
 refine Qq e45.keep.ext ?_
 have f:=f.trans e45
 refine Qcu (s:=d.enums) f.inn ?_
 intro H147 c47 e47 w47
 refine Qq e47.keep.ext ?_
 have f:=f.trans e47
 refine QB (k:=2) (n:=toU (IntKind.i8.wrap (d.signedEnum.toNat:Int))) (D:=255) f.inn ?_
 intro H148 c48 e48 w48
 refine Qq e48.keep.ext ?_
 have f:=f.trans e48
 have tt6:Cut.le G138 G138:=Cut.le_refl _
 have tt5:Cut.le G135 G138:=Cut.le_trans e38.le tt6
 have tt4:Cut.le G131 G138:=Cut.le_trans e35.le tt5
 have tt3:Cut.le G128 G138:=Cut.le_trans e31.le tt4
 have tt2:Cut.le G110 G138:=Cut.le_trans e28.le tt3
 have tt1:Cut.le G109 G138:=Cut.le_trans e10.le tt2
 have tt0:Cut.le G8 G138:=Cut.le_trans e9.le tt1
 have hV:VLs G138 (Qhh d pos empty) [Qfu pos,c1,c2,.bool true::(Yq 11 0 0 d.name++[QO 0]),c4,c5,c6,c7,.bool false::(Yq 15 0 0 []++[QO 0]),c9,c10,.bool false::(Yq 16 0 0 []++[QO 0]),.bool false::(Yq 15 0 0 []++[QO 0]),c13,emC b6 t6,c15,c16,c17,c18,c19,c20,c21,c22,c23,c24,c25,c26,c27,c28,.bool false::(Yq 13 0 0 []++[QO 0]),c30,c31,c32,c33,.bool d.parent::(Yq 15 0 0 []++[QO 0]),c35,c36,c37,c38,c39,c40,c41,c42,c43,.bool false::(Yq 15 0 0 []++[QO 0]),c45,.bool false::(Yq 15 0 0 []++[QO 0]),c47,c48]:=by
  unfold Qhh
  simp only[VLs]
  exact ⟨posL_val _ pos,w1 _,w2 _,VL.scal _ true 11 0 0 d.name 0,w4 _,w5 _,w6 _,w7 _,VL.scal _ false 15 0 0 [] 0,VL.mono tt1 _ _ w9,VL.mono tt2 _ _ w10,VL.scal _ false 16 0 0 [] 0,VL.scal _ false 15 0 0 [] 0,w13 _,VL.mono tt0 _ _ v6,w15 _,w16 _,w17 _,w18 _,w19 _,w20 _,w21 _,w22 _,w23 _,VL.mono tt2 _ _ w24,w25 _,w26 _,w27 _,VL.mono tt3 _ _ w28,VL.scal _ false 13 0 0 [] 0,w30 _,VL.mono tt4 _ _ w31,VL.mono tt4 _ _ w32,VL.mono tt4 _ _ w33,VL.scal _ d.parent 15 0 0 [] 0,VL.mono tt5 _ _ w35,w36 _,VL.mono tt5 _ _ w37,VL.mono tt6 _ _ w38,w39 _,VL.mono tt6 _ _ w40,w41 _,VL.mono tt6 _ _ w42,w43 _,VL.scal _ false 15 0 0 [] 0,w45 _,VL.scal _ false 15 0 0 [] 0,w47 _,w48 _,trivial⟩
 refine build_parts (es:=9) (cs:=[Qfu pos,c1,c2,.bool true::(Yq 11 0 0 d.name++[QO 0]),c4,c5,c6,c7,.bool false::(Yq 15 0 0 []++[QO 0]),c9,c10,.bool false::(Yq 16 0 0 []++[QO 0]),.bool false::(Yq 15 0 0 []++[QO 0]),c13,emC b6 t6,c15,c16,c17,c18,c19,c20,c21,c22,c23,c24,c25,c26,c27,c28,.bool false::(Yq 13 0 0 []++[QO 0]),c30,c31,c32,c33,.bool d.parent::(Yq 15 0 0 []++[QO 0]),c35,c36,c37,c38,c39,c40,c41,c42,c43,.bool false::(Yq 15 0 0 []++[QO 0]),c45,.bool false::(Yq 15 0 0 []++[QO 0]),c47,c48]) ?_ (VLs.each hV) rfl rfl ?_
 ·simp only[Qje,Nat.reduceAdd,Nat.zero_add]
 have e:=e.trans f
 have o2:=o2.ext f
 have e':=(Ext.refl e.inn).pushG (.cells ([Qfu pos,c1,c2,.bool true::(Yq 11 0 0 d.name++[QO 0]),c4,c5,c6,c7,.bool false::(Yq 15 0 0 []++[QO 0]),c9,c10,.bool false::(Yq 16 0 0 []++[QO 0]),.bool false::(Yq 15 0 0 []++[QO 0]),c13,emC b6 t6,c15,c16,c17,c18,c19,c20,c21,c22,c23,c24,c25,c26,c27,c28,.bool false::(Yq 13 0 0 []++[QO 0]),c30,c31,c32,c33,.bool d.parent::(Yq 15 0 0 []++[QO 0]),c35,c36,c37,c38,c39,c40,c41,c42,c43,.bool false::(Yq 15 0 0 []++[QO 0]),c45,.bool false::(Yq 15 0 0 []++[QO 0]),c47,c48]:List (List Value)).flatten.toArray 107 (0,0))
 have o2:=o2.ext e'
 have hsl:=SlV.built (G:=G138) (b:=H148.size) (et:=107) (VLs.each hV)
 have hvv:VV (G138.upd H148.size (.cells ([Qfu pos,c1,c2,.bool true::(Yq 11 0 0 d.name++[QO 0]),c4,c5,c6,c7,.bool false::(Yq 15 0 0 []++[QO 0]),c9,c10,.bool false::(Yq 16 0 0 []++[QO 0]),.bool false::(Yq 15 0 0 []++[QO 0]),c13,emC b6 t6,c15,c16,c17,c18,c19,c20,c21,c22,c23,c24,c25,c26,c27,c28,.bool false::(Yq 13 0 0 []++[QO 0]),c30,c31,c32,c33,.bool d.parent::(Yq 15 0 0 []++[QO 0]),c35,c36,c37,c38,c39,c40,c41,c42,c43,.bool false::(Yq 15 0 0 []++[QO 0]),c45,.bool false::(Yq 15 0 0 []++[QO 0]),c47,c48]:List (List Value)).flatten.toArray 107 (0,0))) (QiX d pos empty) [u8n 15,u8n 0,QO 0,QW [],.slice none 0 0,.slice none 0 0,.slice (some ⟨H148.size,0,none⟩) 49 49]:=by
  rw[QiX,VV]
  exact ⟨_,_,_,rfl,SlV.nil _ 1,⟨[],SlV.nil _ 7,by rw[VVs];trivial⟩,⟨_,hsl,VLs.mono e'.le _ _ hV⟩⟩
 refine Zl (fill_tab (some ⟨H148.size,0,none⟩) 49 49) ?_
 exact Qcv (vs:=[u8n 15,u8n 0,QO 0,QW [],.slice none 0 0,.slice none 0 0,.slice (some ⟨H148.size,0,none⟩) 49 49]) o2 rfl rfl (by decide) hvv.one (e.trans e') (fun H' e''=>hR _ H' _ e'' hvv)
end Go.Proofs
namespace Go.Proofs
open Go Go.Vc
open Tryz (prog)
def numB:List UInt8->Nat
 |[]=>0
 |b::bs=>b.toNat+256*numB bs
theorem numB_snoc:∀(xs:List UInt8) (b:UInt8),numB (xs++[b])=numB xs+b.toNat*2^(8*xs.length)
 |[],b=>by simp[numB]
 |x::xs,b=>by
  rw[List.cons_append,numB,numB_snoc xs b,numB,List.length_cons,show 8*(xs.length+1)=8*xs.length+8 by omega,Nat.pow_add,Nat.mul_add]
  have:256*(b.toNat*2^(8*xs.length))=b.toNat*(2^(8*xs.length)*2^8):=by
   rw[Nat.mul_left_comm];congr 1;rw[Nat.mul_comm]
  omega
theorem numB_lt:∀xs:List UInt8,numB xs<2^(8*xs.length)
 |[]=>by simp[numB]
 |x::xs=>by
  have h:=numB_lt xs
  have hx:=x.toNat_lt
  rw[numB,List.length_cons,show 8*(xs.length+1)=8*xs.length+8 by omega,Nat.pow_add]
  omega
theorem Number_ok {xs:List UInt8} (hl:xs.length<=8) {H:Qe} {R:Kn} (hR:R (.int .u64 (numB xs:Nat)) H):FnS prog 286 #[QW xs] H R:=by
 apply w286
 unfold s286
 refine Q2 (fun vs h=>h=H/\vs=[.int .u64 (numB xs:Nat)]) ?_ ?_
 ·rw[Qaf,Zs]
  refine ⟨fun m vs H'=>∃i,vs=[.int .i64 (i:Nat),.int .u64 (numB (xs.take i):Nat)]/\i+m=xs.length/\H'=H,⟨xs.length,0,by simp[numB],by omega,rfl⟩,?_⟩
  rintro m x7 x3 h1 ⟨i,hx,him,rfl⟩
  cases hx
  rw[Yw]
  by_cases hi:i<xs.length
  ·rw[Yj (by omega)]
   have hb:=List.getElem?_eq_getElem hi
   refine ⟨u8V xs[i],fun w=>str_index (by kernel_rfl) hb,?_⟩
   have hlt:(xs.take i).length=i:=by rw[List.length_take];omega
   have h1:=numB_lt (xs.take i)
   have hbl:=xs[i].toNat_lt
   rw[hlt]at h1
   have h2:numB (xs.take (i+1))=numB (xs.take i)+xs[i].toNat*2^(8*i):=by
    rw[List.take_add_one,hb]
    show numB (xs.take i++[xs[i]])=_
    rw[numB_snoc,hlt]
   have h3:=numB_lt (xs.take (i+1))
   have h4:2^(8*(xs.take (i+1)).length)<=2^64:=Nat.pow_le_pow_right (by decide) (by rw[List.length_take];omega)
   show QG .u64 (.int .u8 (xs[i].toNat:Int)) _
   rw[Q7,Qct (n:=(xs[i].toNat:Int)) (by omega) (by omega),Zx,show IntKind.i64.wrap (8*(i:Int))=((8*i:Nat):Int) by rw[wrap_i64 (by omega) (by omega)];omega,YX (by omega),Qgg]
   have e:(xs[i].toNat:Int)*2^(min (Int.toNat ((8*i:Nat):Int)) IntKind.u64.bits)=((xs[i].toNat*2^(8*i):Nat):Int):=by
    rw[Int.toNat_natCast,show min (8*i) IntKind.u64.bits=8*i from Nat.min_eq_left (by show 8*i<=64;omega)]
    push_cast
    rfl
   have ow:=Qfh (κ:=.u64) (a:=numB (xs.take i)) (c:=xs[i].toNat*2^(8*i)) (n:=8*i) (b:=xs[i].toNat) h1 rfl (by show _<2^64;omega)
   rw[Qct (n:=(numB (xs.take i):Int)) (by omega) (by omega),Qct (n:=((numB (xs.take i)+xs[i].toNat*2^(8*i):Nat):Int)) (by omega) (by omega)]at ow
   rw[e,ow,Q5,wrap_i64 (by omega) (by omega)]
   exact ⟨m-1,by omega,i+1,by rw[h2];simp,by omega,rfl⟩
  ·rw[Yb (by omega)]
   have:i=xs.length:=by omega
   subst this
   exact ⟨rfl,by rw[List.take_length]⟩
 ·rintro x3 h2 ⟨rfl,hx⟩
  cases hx
  exact hR
theorem StrSlcK_of {xs:List UInt8} {lo hi:Nat} (h1:lo<=hi) (h2:hi<=xs.length) {k:Value->Prop} (hk:k (QW ((xs.drop lo).take (hi-lo)))):StrSlcK (QW xs) (some (.int .i64 (lo:Nat))) (some (.int .i64 (hi:Nat))) k:=by
 have hs:=Zs xs
 refine ⟨by omega,by omega,by rw[hs];omega,?_⟩
 have e:(ByteArray.mk xs.toArray).extract (Int.toNat ((lo:Nat):Int)) (Int.toNat ((hi:Nat):Int))=ByteArray.mk ((xs.drop lo).take (hi-lo)).toArray:=by
  rw[Int.toNat_natCast,Int.toNat_natCast]
  apply ByteArray.ext
  rw[ByteArray.data_extract]
  apply Array.toList_inj.1
  simp
 show k (.string _)
 rw[e];exact hk
def RdB (G:Cut) (r:Nat) (bs:List UInt8):Prop:=G r=some (.cells #[QW bs,.bool false] 117 (0,0))
theorem RdB.mono {G G':Cut} (h:G.le G') {r:Nat} {bs:List UInt8} (x:RdB G r bs):RdB G' r bs:=h _ _ x
section
variable {G:Cut} {r:Nat} {bs:List UInt8} (hr:RdB G r bs) {H:Qe} (hG:G.In H) (hl:bs.length<2147483648) {R:Kn}
include hr hG
theorem RdB.s {k:Value->Prop}:LdK H (.pointer (some ⟨r,0,none⟩)) k=k (QW bs):=Ql ((Qk (hG _ _ hr)).trans rfl)
theorem RdB.bad {k:Value->Prop}:LdK H (.pointer (some ⟨r,1,none⟩)) k=k (.bool false):=Ql ((Qk (hG _ _ hr)).trans rfl)
include hl
theorem number_ok {a s:Nat} (h:a+s<=bs.length) (hs:0<s) (h8:s<=8) (hm:a%s=0) (hR:R (.int .u64 (numB ((bs.drop a).take s):Nat)) H):FnS prog 159 #[ptr r,.int .i64 (a:Nat),.int .i64 (s:Nat)] H R:=by
 have l0:∀k:Value->Prop,LdK H (.pointer (some ⟨r,0,none⟩)) k=k (QW bs):=fun k=>RdB.s hr hG
 apply w159
 unfold s159
 have e1:IntKind.i64.wrap ((a:Int)+(s:Nat))=((a+s:Nat):Int):=by rw[wrap_i64 (by omega) (by omega)];omega
 have e2:∀k:Value->Prop,Qj prog .rem 3 (.int .i64 (a:Nat)) (.int .i64 (s:Nat)) k=k (.int .i64 0):=fun k=>by
  rw[BinK_rem (by omega),Int.tmod_eq_emod_of_nonneg (by omega)]
  congr 2
  omega
 rw[Yw,decide_eq_false (show ¬(a:Int)<0 by omega)]
 simp only[QJ,Yv,Q5,e1,Qp,Qm,l0,Qaf,Zs,Z3,decide_eq_false (show ¬((a+s:Nat):Int)>(bs.length:Nat) by omega),e2,Y5,ne_eq,not_true,decide_false,YQ]
 refine StrSlcK_of (lo:=a) (hi:=a+s) (by omega) h ?_
 rw[show a+s-a=s by omega]
 exact Number_ok (by rw[List.length_take];omega) hR
theorem bytes_ok {a n:Nat} (h:a+n<=bs.length) (hR:R (QW ((bs.drop a).take n)) H):FnS prog 287 #[ptr r,.int .i64 (a:Nat),.int .i64 (n:Nat)] H R:=by
 have l0:∀k:Value->Prop,LdK H (.pointer (some ⟨r,0,none⟩)) k=k (QW bs):=fun k=>RdB.s hr hG
 have l1:∀k:Value->Prop,LdK H (.pointer (some ⟨r,1,none⟩)) k=k (.bool false):=fun k=>RdB.bad hr hG
 apply w287
 unfold s287
 have e1:IntKind.i64.wrap ((a:Int)+(n:Nat))=((a+n:Nat):Int):=by rw[wrap_i64 (by omega) (by omega)];omega
 simp only[Qp,Qm,l1,l0,QJ,Yv,Yw,decide_eq_false (show ¬(a:Int)<0 by omega),decide_eq_false (show ¬(n:Int)<0 by omega),Qaf,Zs,Z3,decide_eq_false (show ¬(n:Int)>(bs.length:Nat) by omega),Q5,e1,decide_eq_false (show ¬((a+n:Nat):Int)>(bs.length:Nat) by omega),YQ]
 refine StrSlcK_of (lo:=a) (hi:=a+n) (by omega) h ?_
 rw[show a+n-a=n by omega]
 exact hR
theorem offset_ok {a n:Nat} (h:a+4<=bs.length) (hm:a%4=0) (hn:n=numB ((bs.drop a).take 4)) (h0:n≠0) (hle:n<=bs.length) (hR:R (.int .i64 ((a+n:Nat):Int)) H):FnS prog 48 #[ptr r,.int .i64 (a:Nat)] H R:=by
 have l0:∀k:Value->Prop,LdK H (.pointer (some ⟨r,0,none⟩)) k=k (QW bs):=fun k=>RdB.s hr hG
 have l1:∀k:Value->Prop,LdK H (.pointer (some ⟨r,1,none⟩)) k=k (.bool false):=fun k=>RdB.bad hr hG
 apply w48
 unfold s48
 refine number_ok (s:=4) hr hG hl h (by decide) (by decide) hm ?_
 rw[<-hn]
 have e1:IntKind.u64.wrap (bs.length:Int)=(bs.length:Nat):=Qct (by omega) (by omega)
 have e2:IntKind.i64.wrap (n:Int)=(n:Nat):=wrap_i64 (by omega) (by omega)
 have e3:IntKind.i64.wrap ((a:Int)+(n:Nat))=((a+n:Nat):Int):=by rw[wrap_i64 (by omega) (by omega)];omega
 simp only[Qp,Qm,l1,l0,QJ,Yv,Yi,decide_eq_false (show ¬(n:Int)=0 by omega),Qaf,Zs,Q7,e1,Z3,decide_eq_false (show ¬(n:Int)>(bs.length:Nat) by omega),YQ,e2,Q5,e3]
 exact hR
end
end Go.Proofs
namespace Go.Proofs
open Go Go.Vc
open Tryz (prog)
mutual
def LenV:SV->Prop
 |.mk _ _ _ _ nums kids slots=>(nums.length<=100/\kids.length<=100/\slots.length<=100)/\Qcm kids/\Qbo slots
def Qcm:List SV->Prop
 |[]=>True
 |v::vs=>LenV v/\Qcm vs
def Qek:SL->Prop
 |.mk _ v _=>LenV v
def Qbo:List SL->Prop
 |[]=>True
 |l::ls=>Qek l/\Qbo ls
end
theorem Qcm.get:∀{vs:List SV},Qcm vs->∀v∈vs,LenV v
 |[],_,v,h=>by simp at h
 |v'::vs,hs,v,h=>by
  rw[Qcm]at hs
  rcases List.mem_cons.1 h with rfl|h
  ·exact hs.1
  ·exact Qcm.get hs.2 v h
theorem Qbo.get:∀{vs:List SL},Qbo vs->∀v∈vs,Qek v
 |[],_,v,h=>by simp at h
 |v'::vs,hs,v,h=>by
  rw[Qbo]at hs
  rcases List.mem_cons.1 h with rfl|h
  ·exact hs.1
  ·exact Qbo.get hs.2 v h
def SameV (v:SV):Prop:=∀(G:Cut) (H:Qe) (c1 c2:List Value) (R:Kn),G.In H->VV G v c1->VV G v c2->LenV v->(∀H',Ext G H G H'->R (.bool true) H')->FnS prog 12 #[.agg c1.toArray,.agg c2.toArray] H R
def SameL:SL->Prop
 |.mk _ v _=>SameV v
theorem Ext.shrink {G G':Cut} {H H':Qe} (h:Ext G H G' H'):Ext G H G H':=⟨h.keep,fun b o hb=>h.inn b o (h.le b o hb),Cut.le_refl _,fun _ _=>rfl⟩
theorem neq_self {P:Program} {t:TypeId} {κ:IntKind} {a:Int} (k:Value->Prop):Qj P .neq t (.int κ a) (.int κ a) k=k (.bool false):=by rw[Y5,decide_eq_false (fun h=>h rfl)]
theorem sne_self {P:Program} {t:TypeId} {a:List UInt8} (k:Value->Prop):Qj P .neq t (QW a) (QW a) k=k (.bool false):=by rw[BinK_strne];simp
set_option maxHeartbeats 1000000 in
theorem sameVStep {kind elem:UInt8} {num:UInt64} {text:List UInt8} {nums:List UInt64} {kids:List SV} {slots:List SL} (hK:∀v∈kids,SameV v) (hS:∀l∈slots,SameL l):SameV (.mk kind elem num text nums kids slots):=by
 intro G H c1 c2 R hG hv1 hv2 hL hR
 rw[VV]at hv1 hv2
 obtain ⟨cn1,ck1,cs1,rfl,n1,⟨i1,a1,b1⟩,⟨j1,d1,f1⟩⟩:=hv1
 obtain ⟨cn2,ck2,cs2,rfl,n2,⟨i2,a2,b2⟩,⟨j2,d2,f2⟩⟩:=hv2
 rw[LenV]at hL
 obtain ⟨⟨m1,m2,m3⟩,mK,mS⟩:=hL
 apply w12
 unfold s12
 rw[Qx,Qx]
 have e:=(Ext.refl hG).pushG (.cells (Value.agg #[u8n kind,u8n elem,QO num,QW text,cn1,ck1,cs1]).cells 57 (0,0))
 have g1:(G.upd H.size (.cells (Value.agg #[u8n kind,u8n elem,QO num,QW text,cn1,ck1,cs1]).cells 57 (0,0))) H.size=some (.cells #[u8n kind,u8n elem,QO num,QW text,cn1,ck1,cs1] 57 (0,0)):=Cut.upd_same
 generalize G.upd H.size (.cells (Value.agg #[u8n kind,u8n elem,QO num,QW text,cn1,ck1,cs1]).cells 57 (0,0))=G1 at *
 have e2:=(Ext.refl e.inn).pushG (.cells (Value.agg #[u8n kind,u8n elem,QO num,QW text,cn2,ck2,cs2]).cells 57 (0,0))
 have g2:(G1.upd (H.push (.cells (Value.agg #[u8n kind,u8n elem,QO num,QW text,cn1,ck1,cs1]).cells 57 (0,0))).size (.cells (Value.agg #[u8n kind,u8n elem,QO num,QW text,cn2,ck2,cs2]).cells 57 (0,0))) (H.push (.cells (Value.agg #[u8n kind,u8n elem,QO num,QW text,cn1,ck1,cs1]).cells 57 (0,0))).size=some (.cells #[u8n kind,u8n elem,QO num,QW text,cn2,ck2,cs2] 57 (0,0)):=Cut.upd_same
 have g1:=e2.le _ _ g1
 have e:=e.trans e2
 clear e2
 generalize G1.upd (H.push (.cells (Value.agg #[u8n kind,u8n elem,QO num,QW text,cn1,ck1,cs1]).cells 57 (0,0))).size (.cells (Value.agg #[u8n kind,u8n elem,QO num,QW text,cn2,ck2,cs2]).cells 57 (0,0))=G2 at *
 show Qf (ptr H.size) 0 _
 generalize (H.push (.cells (Value.agg #[u8n kind,u8n elem,QO num,QW text,cn1,ck1,cs1]).cells 57 (0,0))).push (.cells (Value.agg #[u8n kind,u8n elem,QO num,QW text,cn2,ck2,cs2]).cells 57 (0,0))=H2 at *
 generalize (H.push (.cells (Value.agg #[u8n kind,u8n elem,QO num,QW text,cn1,ck1,cs1]).cells 57 (0,0))).size=q3 at *
 generalize H.size=q2 at *
 have ld1:∀{H':Qe},G2.In H'->∀{i:Nat} {v:Value} (k:Value->Prop),(#[u8n kind,u8n elem,QO num,QW text,cn1,ck1,cs1]:Array Value)[i]?=some v->LdK H' (.pointer (some ⟨q2,i,none⟩)) k=k v:=fun hin _ _ k h=>Ql ((Qk (hin _ _ g1)).trans h)
 have ld2:∀{H':Qe},G2.In H'->∀{i:Nat} {v:Value} (k:Value->Prop),(#[u8n kind,u8n elem,QO num,QW text,cn2,ck2,cs2]:Array Value)[i]?=some v->LdK H' (.pointer (some ⟨q3,i,none⟩)) k=k v:=fun hin _ _ k h=>Ql ((Qk (hin _ _ g2)).trans h)
 have n1:=n1.mono e.le;have n2:=n2.mono e.le
 have a1:=a1.mono e.le;have a2:=a2.mono e.le
 have d1:=d1.mono e.le;have d2:=d2.mono e.le
 have b1:=VVs.mono e.le _ _ b1;have b2:=VVs.mono e.le _ _ b2
 have f1:=VLs.mono e.le _ _ f1;have f2:=VLs.mono e.le _ _ f2
 have p0:∀k:Value->Prop,LdK H2 (.pointer (some ⟨q2,0,none⟩)) k=k (u8n kind):=fun k=>ld1 e.inn k rfl
 have p1:∀k:Value->Prop,LdK H2 (.pointer (some ⟨q2,1,none⟩)) k=k (u8n elem):=fun k=>ld1 e.inn k rfl
 have p2:∀k:Value->Prop,LdK H2 (.pointer (some ⟨q2,2,none⟩)) k=k (QO num):=fun k=>ld1 e.inn k rfl
 have p3:∀k:Value->Prop,LdK H2 (.pointer (some ⟨q2,3,none⟩)) k=k (QW text):=fun k=>ld1 e.inn k rfl
 have p4:∀k:Value->Prop,LdK H2 (.pointer (some ⟨q2,4,none⟩)) k=k cn1:=fun k=>ld1 e.inn k rfl
 have p5:∀k:Value->Prop,LdK H2 (.pointer (some ⟨q2,5,none⟩)) k=k ck1:=fun k=>ld1 e.inn k rfl
 have p6:∀k:Value->Prop,LdK H2 (.pointer (some ⟨q2,6,none⟩)) k=k cs1:=fun k=>ld1 e.inn k rfl
 have r0:∀k:Value->Prop,LdK H2 (.pointer (some ⟨q3,0,none⟩)) k=k (u8n kind):=fun k=>ld2 e.inn k rfl
 have r1:∀k:Value->Prop,LdK H2 (.pointer (some ⟨q3,1,none⟩)) k=k (u8n elem):=fun k=>ld2 e.inn k rfl
 have r2:∀k:Value->Prop,LdK H2 (.pointer (some ⟨q3,2,none⟩)) k=k (QO num):=fun k=>ld2 e.inn k rfl
 have r3:∀k:Value->Prop,LdK H2 (.pointer (some ⟨q3,3,none⟩)) k=k (QW text):=fun k=>ld2 e.inn k rfl
 have r4:∀k:Value->Prop,LdK H2 (.pointer (some ⟨q3,4,none⟩)) k=k cn2:=fun k=>ld2 e.inn k rfl
 have r5:∀k:Value->Prop,LdK H2 (.pointer (some ⟨q3,5,none⟩)) k=k ck2:=fun k=>ld2 e.inn k rfl
 have r6:∀k:Value->Prop,LdK H2 (.pointer (some ⟨q3,6,none⟩)) k=k cs2:=fun k=>ld2 e.inn k rfl
 have ln1:∀k:Value->Prop,Y1 cn1 k=k (.int .i64 (nums.length:Nat)):=fun k=>by rw[n1.len,List.length_map]
 have ln2:∀k:Value->Prop,Y1 cn2 k=k (.int .i64 (nums.length:Nat)):=fun k=>by rw[n2.len,List.length_map]
 have lk1:∀k:Value->Prop,Y1 ck1 k=k (.int .i64 (kids.length:Nat)):=fun k=>by rw[a1.len,VVs.len b1]
 have lk2:∀k:Value->Prop,Y1 ck2 k=k (.int .i64 (kids.length:Nat)):=fun k=>by rw[a2.len,VVs.len b2]
 have ls1:∀k:Value->Prop,Y1 cs1 k=k (.int .i64 (slots.length:Nat)):=fun k=>by rw[d1.len,VLs.len f1]
 have ls2:∀k:Value->Prop,Y1 cs2 k=k (.int .i64 (slots.length:Nat)):=fun k=>by rw[d2.len,VLs.len f2]
 simp only[Qm,p0,p1,p2,p3,p4,p5,p6,r0,r1,r2,r3,r4,r5,r6,ln1,ln2,lk1,lk2,ls1,ls2,neq_self,sne_self,QJ,Yv,YQ]
 refine Q2 (fun vs h=>h=H2/\vs=[.bool false]) ?_ ?_
 ·refine ⟨fun m vs H'=>∃i,vs=[.int .i64 (i:Nat),.bool false]/\i+m=nums.length/\H'=H2,⟨nums.length,0,rfl,by omega,rfl⟩,?_⟩
  rintro m x y H' ⟨i,hx,him,rfl⟩
  cases hx
  rw[Yw]
  by_cases hi:i<nums.length
  ·rw[Yj (by omega)]
   have ha:=List.getElem?_eq_getElem hi
   have hin:=e.inn
   obtain ⟨b,o,cs,e',fr,q1,q2',q3',q4⟩:=n1.idx hin (i:=i) rfl (it:=Qce nums[i]) (by rw[List.getElem?_map,ha];rfl)
   obtain ⟨b',o',cs',e'',fr',w1,w2,w3,w4⟩:=n2.idx hin (i:=i) rfl (it:=Qce nums[i]) (by rw[List.getElem?_map,ha];rfl)
   rw[q1,Ql ((Qk q2').trans (QdD q4)),r4,w1,Ql ((Qk w2).trans (QdD w4)),neq_self,YQ,Q5,wrap_i64 (by omega) (by omega)]
   exact ⟨m-1,by omega,i+1,by simp,by omega,rfl⟩
  ·rw[Yb (by omega)]
   exact ⟨rfl,rfl⟩
 rintro x4 h40 ⟨rfl,hx⟩
 cases hx
 refine Q2 (fun vs h=>vs=[.bool false]/\Ext G2 h40 G2 h) ?_ ?_
 ·rw[p5,lk1]
  refine ⟨fun m vs H'=>∃i,vs=[.int .i64 (i:Nat),.bool false]/\i+m=kids.length/\Ext G2 h40 G2 H',⟨kids.length,0,rfl,by omega,Ext.refl e.inn⟩,?_⟩
  rintro m x y H' ⟨i,hx,him,eH⟩
  cases hx
  rw[Yw]
  by_cases hi:i<kids.length
  ·rw[Yj (by omega)]
   have ha:=List.getElem?_eq_getElem hi
   obtain ⟨x1,k1,k2⟩:=VVs.get b1 ha
   obtain ⟨x2,k3,k4⟩:=VVs.get b2 ha
   refine Qab a1 eH.inn k1 ?_
   refine cp_ok k2.len (by decide) rfl k2.one ?_
   have e5:=eH.push (.cells x1.toArray 57 (0,0))
   rw[ld2 e5.inn _ (show (#[u8n kind,u8n elem,QO num,QW text,cn2,ck2,cs2]:Array Value)[5]?=some ck2 from rfl)]
   refine Qab a2 e5.inn k3 ?_
   refine hK _ (List.mem_of_getElem? ha) G2 _ x1 x2 _ e5.inn k2 k4 (Qcm.get mK _ (List.mem_of_getElem? ha)) ?_
   intro H6 e6
   rw[Yn]
   show IfK (.bool false) _ _
   rw[YQ,Q5,wrap_i64 (by omega) (by omega)]
   exact ⟨m-1,by omega,i+1,by simp,by omega,e5.trans e6⟩
  ·rw[Yb (by omega)]
   exact ⟨rfl,eH⟩
 rintro x4 h45 ⟨hx,e45⟩
 cases hx
 have e:=e.trans e45
 refine Q2 (fun vs h=>vs=[.bool false]/\Ext G2 h45 G2 h) ?_ ?_
 ·rw[ld1 e.inn _ (show (#[u8n kind,u8n elem,QO num,QW text,cn1,ck1,cs1]:Array Value)[6]?=some cs1 from rfl),ls1]
  refine ⟨fun m vs H'=>∃i,vs=[.int .i64 (i:Nat),.bool false]/\i+m=slots.length/\Ext G2 h45 G2 H',⟨slots.length,0,rfl,by omega,Ext.refl e.inn⟩,?_⟩
  rintro m x y H' ⟨i,hx,him,eH⟩
  cases hx
  rw[Yw]
  by_cases hi:i<slots.length
  ·rw[Yj (by omega)]
   have ha:=List.getElem?_eq_getElem hi
   obtain ⟨x1,k1,k2⟩:=VLs.get f1 ha
   obtain ⟨x2,k3,k4⟩:=VLs.get f2 ha
   have hS':=hS _ (List.mem_of_getElem? ha)
   have hLn:=Qbo.get mS _ (List.mem_of_getElem? ha)
   have o1:=k2.one
   have o2:=k4.one
   have u1:=k2.len
   have u2:=k4.len
   generalize slots[i]=sl at k2 k4 hS' hLn
   obtain ⟨has,sv,df⟩:=sl
   rw[VL]at k2 k4
   obtain ⟨y1,rfl,z1⟩:=k2
   obtain ⟨y2,rfl,z2⟩:=k4
   have w1:=z1.len
   have w2:=z2.len
   refine Qab d1 eH.inn k1 ?_
   rw[Qx,QZ (n:=9) (c':=(.bool has::(y1++[QO df])).toArray) Qi rfl (by simpa using u1) (by decide) (by simpa using o1),Yc]
   have e5:=eH.push (.cells (.bool has::(y1++[QO df])).toArray 107 (0,0))
   have gN:(H'.push (.cells (.bool has::(y1++[QO df])).toArray 107 (0,0)))[H'.size]?=some (.cells (.bool has::(y1++[QO df])).toArray 107 (0,0)):=Qi
   generalize H'.push (.cells (.bool has::(y1++[QO df])).toArray 107 (0,0))=H5 at *
   have s0:∀k:Value->Prop,LdK H5 (.pointer (some ⟨H'.size,0,none⟩)) k=k (.bool has):=fun k=>Ql ((Qk gN).trans rfl)
   have s8:∀k:Value->Prop,LdK H5 (.pointer (some ⟨H'.size,8,none⟩)) k=k (QO df):=fun k=>Ql ((Qk gN).trans (by simp[List.getElem?_append_right,w1]))
   have s1:∀k:Value->Prop,LdN H5 7 (.pointer (some ⟨H'.size,1,none⟩)) k=k (.agg y1.toArray):=fun k=>YB (by rw[Q0 gN 7 (by simp[w1])];simp[<-w1])
   obtain ⟨b',o',cs',e'',fr',t1,t2,t3,t4⟩:=d2.idx e5.inn (i:=i) rfl k3
   have c6:∀k:Value->Prop,LdK H5 (.pointer (some ⟨q3,6,none⟩)) k=k cs2:=fun k=>ld2 e5.inn k rfl
   have at_:∀j:Nat,j<9->cs'[o'+j]?=(.bool has::(y2++[QO df]))[j]?:=fun j hj=>by
    rw[<-t4,List.getElem?_take,if_pos hj,List.getElem?_drop];simp
   have q0:∀k:Value->Prop,LdK H5 (.pointer (some ⟨b',o'+0,none⟩)) k=k (.bool has):=fun k=>Ql ((Qk t2).trans ((at_ 0 (by decide)).trans rfl))
   have q8:∀k:Value->Prop,LdK H5 (.pointer (some ⟨b',o'+8,none⟩)) k=k (QO df):=fun k=>Ql ((Qk t2).trans ((at_ 8 (by decide)).trans (by simp[List.getElem?_append_right,w2])))
   have q1:∀k:Value->Prop,LdN H5 7 (.pointer (some ⟨b',o'+1,none⟩)) k=k (.agg y2.toArray):=fun k=>YB (by
    rw[Q0 t2 7 (by omega),Nat.add_zero]
    have:(cs'.toList.drop (o'+1)).take 7=(((cs'.toList.drop o').take 9).drop 1).take 7:=by rw[List.drop_take,List.take_take,List.drop_drop];rfl
    rw[this,t4];simp[<-w2])
   have bne:∀k:Value->Prop,Qj prog .neq 4 (.bool has) (.bool has) k=k (.bool false):=fun k=>by
    rw[BinK_boolne (by kernel_rfl),show (!(has==has))=false by simp]
   simp only[Qm,s0,c6,t1,Qd5,q0,bne,QJ,Yv,s8,q8,neq_self,s1,q1]
   refine hS' G2 _ y1 y2 _ e5.inn z1 z2 (by rw[Qek]at hLn;exact hLn) ?_
   intro H6 e6
   rw[Yn]
   show IfK (.bool false) _ _
   rw[YQ,Q5,wrap_i64 (by omega) (by omega)]
   exact ⟨m-1,by omega,i+1,by simp,by omega,e5.trans e6⟩
  ·rw[Yb (by omega)]
   exact ⟨rfl,eH⟩
 rintro x4 h69 ⟨hx,e69⟩
 exact hR _ (Ext.shrink (e.trans e69))
mutual
theorem sameV_all:∀v:SV,SameV v
 |.mk kind elem num text nums kids slots=>sameVStep (sameVs_all kids) (sameLs_all slots)
theorem sameVs_all:∀vs:List SV,∀v∈vs,SameV v
 |[],v,h=>by simp at h
 |v'::vs,v,h=>by
  rcases List.mem_cons.1 h with h|h
  ·rw[h];exact sameV_all v'
  ·exact sameVs_all vs v h
theorem sameL_all:∀l:SL,SameL l
 |.mk _ v _=>by rw[SameL];exact sameV_all v
theorem sameLs_all:∀ls:List SL,∀l∈ls,SameL l
 |[],l,h=>by simp at h
 |l'::ls,l,h=>by
  rcases List.mem_cons.1 h with h|h
  ·rw[h];exact sameL_all l'
  ·exact sameLs_all ls l h
end
end Go.Proofs
namespace Go.Proofs
open Go Go.Vc
open Tryz (prog)
def eqK (k:UInt8) (a b:UInt64):Bool:=
 if k=9 then decide (a=b)||(decide (a.toNat%2^31=0)&&decide (b.toNat%2^31=0))
 else if k=10 then decide (a=b)||(decide (a.toNat%2^63=0)&&decide (b.toNat%2^63=0))
 else decide (a=b)
theorem eqU64 {P:Program} {t:TypeId} {a b:UInt64} (K:Value->Prop):Qj P .eql t (QO a) (QO b) K=K (.bool (decide (a=b))):=by
 rw[Yi]
 congr 2
 exact decide_eq_decide.2 ⟨fun h=>UInt64.toNat_inj.1 (by omega),fun h=>by rw[h]⟩
theorem shl_zero {P:Program} {t t2:TypeId} {a:UInt64} {s:Nat} (hs:s=33\/s=1) (K:Value->Prop):(Qj P .shl t (QO a) (.int .u64 (s:Nat)) fun x=>Qj P .eql t2 x (.int .u64 0) K)=K (.bool (decide (a.toNat%2^(64-s)=0))):=by
 have ha:=a.toNat_lt
 rw[YX (by omega),Yi]
 congr 2
 apply decide_eq_decide.2
 rcases hs with rfl|rfl
 ·rw[show min (Int.toNat ((33:Nat):Int)) IntKind.u64.bits=33 from rfl]
  simp[IntKind.wrap,IntKind.bits,IntKind.signed]
  omega
 ·rw[show min (Int.toNat ((1:Nat):Int)) IntKind.u64.bits=1 from rfl]
  simp[IntKind.wrap,IntKind.bits,IntKind.signed]
  omega
theorem Equal_ok {k:UInt8} {a b:UInt64} {H:Qe} {R:Kn} (hR:R (.bool (eqK k a b)) H):FnS prog 49 #[u8n k,QO a,QO b] H R:=by
 apply w49
 unfold s49
 unfold eqK at hR
 rw[eqU (c:=9) (z:=9) rfl]
 refine Yt (fun h=>?_) (fun h=>?_)
 ·rw[if_pos (of_decide_eq_true h)]at hR
  rw[eqU64]
  cases hd:decide (a=b)
  ·rw[hd,Bool.false_or]at hR
   simp only[QJ,Yv]
   refine Eq.mpr (shl_zero (s:=33) (Or.inl rfl) _) ?_
   cases hz:decide (a.toNat%2^(64-33)=0)
   ·rw[show decide (a.toNat%2^31=0)=false from hz,Bool.false_and]at hR
    simp only[Yz,Yv]
    exact hR
   ·rw[show decide (a.toNat%2^31=0)=true from hz,Bool.true_and]at hR
    simp only[Ye,Y4]
    refine Eq.mpr (shl_zero (s:=33) (Or.inl rfl) _) ?_
    exact hR
  ·rw[hd,Bool.true_or]at hR
   simp only[Ys,Z2,Y4]
   exact hR
 ·rw[if_neg (of_decide_eq_false h)]at hR
  rw[eqU (c:=10) (z:=10) rfl]
  refine Yt (fun h=>?_) (fun h=>?_)
  ·rw[if_pos (of_decide_eq_true h)]at hR
   rw[eqU64]
   cases hd:decide (a=b)
   ·rw[hd,Bool.false_or]at hR
    simp only[QJ,Yv]
    refine Eq.mpr (shl_zero (s:=1) (Or.inr rfl) _) ?_
    cases hz:decide (a.toNat%2^(64-1)=0)
    ·rw[show decide (a.toNat%2^63=0)=false from hz,Bool.false_and]at hR
     simp only[Yz,Yv]
     exact hR
    ·rw[show decide (a.toNat%2^63=0)=true from hz,Bool.true_and]at hR
     simp only[Ye,Y4]
     refine Eq.mpr (shl_zero (s:=1) (Or.inr rfl) _) ?_
     exact hR
   ·rw[hd,Bool.true_or]at hR
    simp only[Ys,Z2,Y4]
    exact hR
  ·rw[if_neg (of_decide_eq_false h)]at hR
   rw[eqU64]
   exact hR
end Go.Proofs
namespace Go.Proofs
open Go Go.Vc
open Tryz (prog)
def QfE:SV->UInt8
 |.mk k _ _ _ _ _ _=>k
def elemV:SV->UInt8
 |.mk _ e _ _ _ _ _=>e
def numV:SV->UInt64
 |.mk _ _ n _ _ _ _=>n
mutual
def ZM:SV->SV
 |.mk kind elem num text nums kids slots=>.mk kind elem num text nums (Qcr kids) (ZR slots)
def Qcr:List SV->List SV
 |[]=>[]
 |v::vs=>ZM v::Qcr vs
def Zm:SL->SL
 |.mk has v d=>if QfE v<=10/\(has=false\/eqK (QfE v) (numV v) d=true) then .mk false (YD (QfE v) 0 d []) d else if has=true then .mk has (ZM v) d else .mk has (YD (QfE v) (elemV v) 0 []) d
def ZR:List SL->List SL
 |[]=>[]
 |l::ls=>Zm l::ZR ls
end
theorem Qe2:∀vs,Qcr vs=vs.map ZM
 |[]=>by rw[Qcr];rfl
 |v::vs=>by rw[Qcr,Qe2 vs];rfl
theorem Qfj:∀vs,ZR vs=vs.map Zm
 |[]=>by rw[ZR];rfl
 |v::vs=>by rw[ZR,Qfj vs];rfl
theorem Qii {P:Program} {t:TypeId} {x1 s:Value} {fld:Nat} {h:Qe} {B:Value->Value->Qe->(Qe->Prop)->Prop} {K:Qe->Prop} (hs:∀k:Value->Prop,k s->Qf x1 fld fun a=>LdK h a k) (hl:Qft P t s h (B s) K):Qdv P t x1 fld h B K:=by
 obtain ⟨M,h1,h2⟩:=hl
 exact ⟨M,hs _ h1,h2⟩
def read0B (x3 x13 x15:Value) (h7:Qe) (kp:Qe->Prop):Prop:=
 Y2 7 x13 x15 fun x17=>
 LdN h7 7 x17 fun x18=>
 Y8 h7 (.cells z57 57) fun x5 h8=>
 StK h8 7 x5 x18 fun h9=>
 Qf x3 5 fun x19=>
 LdK h9 x19 fun x20=>
 LdN h9 7 x5 fun x21=>
 Qa prog 13 #[x21] h9 fun x22 h10=>
 Qh h9 h10<|
 Q8 h10 57 1 (YY z57.toList 1) [(0,7,x22)] fun x23 h11=>
 Qh h10 h11<|
 Qbk h11 57 7 104 z57 x20 x23 fun x24 h12=>
 Qf x3 5 fun x25=>
 StK h12 1 x25 x24 kp
def Read0V (v:SV):Prop:=∀(G:Cut) (H:Qe) (c:List Value) (R:Kn),G.In H->VV G v c->LenV v->(∀G' H' c',Ext G H G' H'->VV G' (ZM v) c'->R (.agg c'.toArray) H')->FnS prog 13 #[.agg c.toArray] H R
theorem read0_kids {G0:Cut} {H0:Qe} {t:TypeId} {ob:Obj} {q2 q3:Nat} {G:Cut} {H:Qe} {cells:List Value} (rs:RS G0 H0 t ob q2 q3 G H cells) {kids:List SV} (hK:∀v∈kids,Read0V v) (hL:Qcm kids) (hn:kids.length<=100) {s:Value} {items:List (List Value)} (hs:SlV G 7 s items) (hv:VVs G kids items)
  (hc:cells[5]?=some (.slice none 0 0)) {K:Qe->Prop} (hk:∀G' H' c items',RS G0 H0 t ob q2 q3 G' H' (cells.set 5 c)->G.le G'->SlV G' 7 c items'->VVs G' (Qcr kids) items'->K H'):Qft prog 3 s H (read0B (ptr q3) s) K:=by
 have hlen:∀k:Value->Prop,Y1 s k=k (.int .i64 (kids.length:Nat)):=fun k=>by rw[hs.len,VVs.len hv]
 refine app_slc rs (et:=57) (es:=7) (fld:=5) (n:=kids.length) (fun G1 i its=>VVs G1 ((kids.take i).map ZM) its) (by rw[List.take_zero,List.map_nil,VVs];trivial) hc (by omega) hlen ?_ ?_
 ·intro i G1 H' c cells' its k hlt hle rs' hc' hcur hI hk'
  have ha:=List.getElem?_eq_getElem hlt
  obtain ⟨x1,k1,k2⟩:=VVs.get (VVs.mono hle _ _ hv) ha
  have hil:its.length<kids.length:=by
   have:=VVs.len hI
   rw[List.length_map,List.length_take]at this
   omega
  unfold read0B
  refine Qab (hs.mono hle) rs'.ext.inn k1 ?_
  rw[Qx,QZ (n:=7) (c':=x1.toArray) Qi rfl (by simpa using k2.len) (by decide) (by simpa using k2.one),Yc]
  have rs1:=rs'.push (.cells x1.toArray 57 (0,0))
  have hcur1:=hcur.push (.cells x1.toArray 57 (0,0))
  have gN:(H'.push (.cells x1.toArray 57 (0,0)))[H'.size]?=some (.cells x1.toArray 57 (0,0)):=Qi
  generalize H'.push (.cells x1.toArray 57 (0,0))=H5 at *
  rw[Qm,rs1.ld hc',YB (n:=7) (vs:=x1) (by rw[Q0 gN 7 (by simp[k2.len])];simp[<-k2.len])]
  refine hK _ (List.mem_of_getElem? ha) G1 H5 x1 _ rs1.ext.inn k2 (Qcm.get hL _ (List.mem_of_getElem? ha)) ?_
  intro G6 H6 c6 e6 v6
  refine Qq e6.keep.ext ?_
  refine (rs1.next e6).push_item (bts:=104) (et:=57) (es:=7) (zs:=z57) (hcur1.ext e6) (v:=.agg c6.toArray) (it:=c6) rfl v6.len v6.one (by decide) rfl (by decide) (by omega) (Q4 hc') ?_
  intro H7 c7 rs7 hcur7
  refine hk' G6 H7 c7 _ e6.le rs7 hcur7 ?_
  rw[Qan ha]
  exact VVs.snoc (VVs.mono e6.le _ _ hI) v6
 ·intro G' G1 H' c its rs' hle sl hI hle1
  rw[List.take_length]at hI
  refine hk G' H' c its rs' hle sl ?_
  rw[Qe2]
  exact VVs.mono hle1 _ _ hI
end Go.Proofs
namespace Go.Proofs
open Go Go.Vc
open Tryz (prog)
def read0SB (x3 x28 x30:Value) (h15:Qe) (kp:Qe->Prop):Prop:=
 Y2 9 x28 x30 fun x32=>
 LdN h15 9 x32 fun x33=>
 Y8 h15 (.cells z107 107) fun x7 h16=>
 StK h16 9 x7 x33 fun h17=>
 Qf x7 0 fun x34=>
 LdK h17 x34 fun x35=>
 Qf x7 8 fun x36=>
 LdK h17 x36 fun x37=>
 Qu z107.toList [(0,1,x35),(8,1,x37)] fun x38=>
 Y8 h17 (.cells z107 107) fun x8 h18=>
 StK h18 9 x8 x38 fun h19=>
 QA (fun M7=>
 Qf x7 1 fun x44=>
 Qf x44 0 fun x45=>
 LdK h19 x45 fun x46=>
 Qj prog .leq 5 x46 (.int .u8 10) fun x47=>
 Qd x47 true (fun k8=>Qf x7 0 fun x49=>k8 x49 h19) h19 fun x49_1 h20=>
 Qd x47 true (fun k9=>LdK h20 x49_1 fun x50=>k9 x50 h20) h20 fun x50_1 h21=>
 Qd x47 true (fun k10=>Zu prog (Op.unary .not x50_1) fun x51=>k10 x51 h21) h21 fun x51_1 h22=>
 Qd x47 true (fun k11=>k11 x51_1 h22) h22 fun x52 h23=>
 Qd x52 false (fun k12=>Qf x7 1 fun x53=>k12 x53 h23) h23 fun x53_1 h24=>
 Qd x52 false (fun k13=>Qf x53_1 0 fun x54=>k13 x54 h24) h24 fun x54_1 h25=>
 Qd x52 false (fun k14=>LdK h25 x54_1 fun x55=>k14 x55 h25) h25 fun x55_1 h26=>
 Qd x52 false (fun k15=>Qf x7 1 fun x56=>k15 x56 h26) h26 fun x56_1 h27=>
 Qd x52 false (fun k16=>Qf x56_1 2 fun x57=>k16 x57 h27) h27 fun x57_1 h28=>
 Qd x52 false (fun k17=>LdK h28 x57_1 fun x58=>k17 x58 h28) h28 fun x58_1 h29=>
 Qd x52 false (fun k18=>Qf x7 8 fun x59=>k18 x59 h29) h29 fun x59_1 h30=>
 Qd x52 false (fun k19=>LdK h30 x59_1 fun x60=>k19 x60 h30) h30 fun x60_1 h31=>
 Qd x52 false (fun k20=>Qa prog 49 #[x55_1,x58_1,x60_1] h31 fun x61 h32=>k20 x61 h32) h31 fun x61_1 h33=>
 Qd x47 true (fun k21=>Yh x52 (.bool true) x61_1 fun x62=>k21 x62 h33) h33 fun x62_1 h34=>
 Yh x47 x62_1 (.bool false) fun x63=>
 IfK x63
 (Qf x7 1 fun x64=>
 Qf x64 0 fun x65=>
 Qf x7 8 fun x67=>
 Qf x8 0 fun x70=>
 (LdK h34 x65 fun x66=>
 (LdK h34 x67 fun x68=>
 Qu z57.toList [(0,1,x66),(2,1,x68)] fun x69=>
 StK h34 1 x70 (.bool false) fun h35=>
 Qf x8 1 fun x71=>
 StK h35 7 x71 x69 fun h36=>
 M7 [x63] h36)/\
 (StK h34 1 x70 (.bool false) fun h37=>
 LdK h37 x67 fun x68_1=>
 Qu z57.toList [(0,1,x66),(2,1,x68_1)] fun x69_1=>
 Qf x8 1 fun x71_1=>
 StK h37 7 x71_1 x69_1 fun h38=>
 M7 [x63] h38))/\
 (LdK h34 x67 fun x68_2=>
 (LdK h34 x65 fun x66_1=>
 Qu z57.toList [(0,1,x66_1),(2,1,x68_2)] fun x69_2=>
 StK h34 1 x70 (.bool false) fun h39=>
 Qf x8 1 fun x71_2=>
 StK h39 7 x71_2 x69_2 fun h40=>
 M7 [x63] h40)/\
 (StK h34 1 x70 (.bool false) fun h41=>
 LdK h41 x65 fun x66_2=>
 Qu z57.toList [(0,1,x66_2),(2,1,x68_2)] fun x69_3=>
 Qf x8 1 fun x71_3=>
 StK h41 7 x71_3 x69_3 fun h42=>
 M7 [x63] h42))/\
 (StK h34 1 x70 (.bool false) fun h43=>
 (LdK h43 x65 fun x66_3=>
 LdK h43 x67 fun x68_3=>
 Qu z57.toList [(0,1,x66_3),(2,1,x68_3)] fun x69_4=>
 Qf x8 1 fun x71_4=>
 StK h43 7 x71_4 x69_4 fun h44=>
 M7 [x63] h44)/\
 (LdK h43 x67 fun x68_4=>
 LdK h43 x65 fun x66_4=>
 Qu z57.toList [(0,1,x66_4),(2,1,x68_4)] fun x69_5=>
 Qf x8 1 fun x71_5=>
 StK h43 7 x71_5 x69_5 fun h45=>
 M7 [x63] h45)))
 (Qf x7 0 fun x73=>
 LdK h34 x73 fun x74=>
 IfK x74
 (Qf x7 1 fun x75=>
 LdN h34 7 x75 fun x76=>
 Qa prog 13 #[x76] h34 fun x77 h46=>
 Qf x8 1 fun x78=>
 StK h46 7 x78 x77 fun h47=>
 M7 [x63] h47)
 (Qf x7 1 fun x39=>
 LdN h34 7 x39 fun x40=>
 Qa prog 50 #[x40] h34 fun x41 h48=>
 Qf x8 1 fun x42=>
 StK h48 7 x42 x41 fun h49=>
 M7 [x63] h49))) fun M7=>∀x43:Value,∀h50:Qe,M7 [x43] h50->
 Qf x3 6 fun x79=>
 LdK h50 x79 fun x80=>
 LdN h50 9 x8 fun x81=>
 Q8 h50 107 1 (YY z107.toList 1) [(0,9,x81)] fun x82 h51=>
 Qbk h51 107 9 120 z107 x80 x82 fun x83 h52=>
 Qf x3 6 fun x84=>
 StK h52 1 x84 x83 kp
theorem StK_part {H:Qe} {b o n:Nat} {l vs:List Value} {e:TypeId} {v:Value} {kp:Qe->Prop} (h:H[b]?=some (.cells l.toArray e (0,0))) (hv:v.cells.toList=vs) (hl:vs.length=n) (h1:∀x∈vs,x.oneCell'=true) (hb:o+n<=l.length) (hn:0<n):
  StK H n (.pointer (some ⟨b,o,none⟩)) v kp=kp (setB H b (.cells (QaF l o vs).toArray e (0,0))):=by
 unfold StK
 simp only
 have:=QdI (b:=b) (e:=e) (fr:=(0,0)) vs (H:=H) (l:=l) (o:=o) (i:=0) h h1 (by omega) (by simp)
 rw[hv,this]
 have hs:v.cells.size=n:=by rw[<-hl,<-hv];simp
 cases vs with
 |nil=>simp at hl;omega
 |cons x xs=>
  apply propext
  constructor
  ·rintro ⟨_,H',e1,hk⟩;cases e1;exact hk
  ·intro hk;exact ⟨hs,_,rfl,hk⟩
theorem putL_slot {b:Bool} {c c':List Value} {d:Value} (h:c.length=c'.length):QaF (.bool b::(c++[d])) 1 c'= .bool b::(c'++[d]):=by
 rw[QdQ _ _ _ (by simp;omega),<-h,Nat.add_comm 1 c.length]
 simp
theorem fill_sd (b:Bool) (D:UInt64):YN z107.toList [(0,1,.bool b),(8,1,QO D)]=some (.bool b::(Yq 0 0 0 []++[QO D])):=by kernel_rfl
theorem Cur.more {H0:Qe} {G:Cut} {H:Qe} {et:TypeId} {es:Nat} {v:Value} {items:List (List Value)} {bad:Nat->Prop} (h:Cur H0 G H et es v items bad) (o:Obj):Cur H0 G (H.push o) et es v items (fun b=>bad b\/b=H.size):=by
 refine ⟨h.1,?_⟩
 rcases h.2 with h|⟨b,c,cs,h1,h2,h3,h4⟩
 ·exact Or.inl h
 ·exact Or.inr ⟨b,c,cs,h1,h2.push o,fun hb=>hb.elim h3 h2.ne,h4⟩
theorem Cur.less {H0:Qe} {G:Cut} {H:Qe} {et:TypeId} {es:Nat} {v:Value} {items:List (List Value)} {bad bad':Nat->Prop} (h:Cur H0 G H et es v items bad) (hb:∀b,bad' b->bad b):Cur H0 G H et es v items bad':=by
 refine ⟨h.1,?_⟩
 rcases h.2 with h|⟨b,c,cs,h1,h2,h3,h4⟩
 ·exact Or.inl h
 ·exact Or.inr ⟨b,c,cs,h1,h2,fun hh=>h3 (hb _ hh),h4⟩
def PostS (P:Cut->Qe->List Value->Prop) (vs:List Value) (h:Qe):Prop:=∃x G3 c8,vs=[x]/\P G3 h c8
structure RS3 (G0:Cut) (H0:Qe) (t:TypeId) (ob:Obj) (q2 q3 q8:Nat) (et:TypeId) (es:Nat) (c:Value) (its:List (List Value)) (G:Cut) (H:Qe) (cells c8:List Value):Prop where
 rs:RS G0 H0 t ob q2 q3 G H cells
 cur:Cur H0 G H et es c its (fun b=>badq q2 q3 b\/b=q8)
 o8:Yo H0 G H q8 (.cells c8.toArray 107 (0,0))
 n2:q8≠q2
 n3:q8≠q3
section
variable {G0:Cut} {H0:Qe} {t:TypeId} {ob:Obj} {q2 q3 q8:Nat} {et:TypeId} {es:Nat} {c:Value} {its:List (List Value)} {G:Cut} {H:Qe} {cells c8:List Value}
theorem RS3.mk3 (rs:RS G0 H0 t ob q2 q3 G H cells) (cur:Cur H0 G H et es c its (badq q2 q3)) (c8:List Value):RS3 G0 H0 t ob q2 q3 H.size et es c its G (H.push (.cells c8.toArray 107 (0,0))) cells c8:=
 ⟨rs.push _,Cur.more cur _,Yo.fresh rs.ext _,Ne.symm rs.o2.ne,Ne.symm rs.o3.ne⟩
variable (r:RS3 G0 H0 t ob q2 q3 q8 et es c its G H cells c8)
include r
theorem RS3.next {G':Cut} {H':Qe} (h:Ext G H G' H'):RS3 G0 H0 t ob q2 q3 q8 et es c its G' H' cells c8:=⟨r.rs.next h,r.cur.ext h,r.o8.ext h,r.n2,r.n3⟩
theorem RS3.put (c8':List Value):RS3 G0 H0 t ob q2 q3 q8 et es c its G (setB H q8 (.cells c8'.toArray 107 (0,0))) cells c8':=
 ⟨⟨r.rs.ext.set r.o8.out r.o8.new _,r.rs.o2.set_ne (Ne.symm r.n2) _,r.rs.o3.set_ne (Ne.symm r.n3) _,r.rs.ne⟩,r.cur.set (Or.inr rfl) _,r.o8.set _,r.n2,r.n3⟩
theorem RS3.val {b:Bool} {cz cv:List Value} {d:UInt64} (h8:c8= .bool b::(cz++[QO d])) (hz:cz.length=7) {w:SV} (hw:VV G w cv) {kp:Qe->Prop}
  (hk:∀H',RS3 G0 H0 t ob q2 q3 q8 et es c its G H' cells (.bool b::(cv++[QO d]))->VL G (.mk b w d) (.bool b::(cv++[QO d]))->kp H'):Qf (ptr q8) 1 fun a=>StK H 7 a (.agg cv.toArray) kp:=by
 subst h8
 rw[Qm,StK_part (l:=.bool b::(cz++[QO d])) r.o8.get (vs:=cv) (by simp[Value.cells]) hw.len hw.one (by simp[hz]) (by decide),putL_slot (by rw[hz,hw.len])]
 refine hk _ (r.put _) ?_
 rw[VL]
 exact ⟨cv,rfl,hw⟩
theorem RS3.app (het:et=107) (hes:es=9) {fld:Nat} (hc:cells[fld]?=some c) {l:SL} (hl:VL G l c8) (hn:its.length<=1000) {kp:Qe->Prop}
  (hk:∀H' c2,RS G0 H0 t ob q2 q3 G H' (cells.set fld c2)->Cur H0 G H' et es c2 (its++[c8]) (badq q2 q3)->kp H'):
  Qf (ptr q3) fld fun x79=>LdK H x79 fun x80=>LdN H 9 (ptr q8) fun x81=>Q8 H 107 1 (YY z107.toList 1) [(0,9,x81)] fun x82 h51=>Qbk h51 107 9 120 z107 x80 x82 fun x83 h52=>Qf (ptr q3) fld fun x84=>StK h52 1 x84 x83 kp:=by
 subst het hes
 rw[Qm,r.rs.ld hc,YB (n:=9) (vs:=c8) (by rw[Q0 r.o8.get 9 (by simp[hl.len])];simp[<-hl.len])]
 refine QiV ?_
 exact r.rs.push_item (Cur.less r.cur fun b hb=>Or.inl hb) (v:=.agg c8.toArray) (it:=c8) (by simp[Value.cells]) hl.len hl.one (by decide) rfl (by decide) (by omega) (Q4 hc) hk
end
def Read0L:SL->Prop
 |.mk _ v _=>Read0V v
set_option maxHeartbeats 1000000 in
theorem read0_slots {G0:Cut} {H0:Qe} {ob:Obj} {q2 q3:Nat} {G:Cut} {H:Qe} {cells:List Value} (rs:RS G0 H0 57 ob q2 q3 G H cells) {slots:List SL} (hS:∀l∈slots,Read0L l) (hL:Qbo slots) (hn:slots.length<=100) {s:Value} {items:List (List Value)} (hs:SlV G 9 s items) (hv:VLs G slots items)
  (hc:cells[6]?=some (.slice none 0 0)) {K:Qe->Prop} (hk:∀G' H' c items',RS G0 H0 57 ob q2 q3 G' H' (cells.set 6 c)->G.le G'->SlV G' 9 c items'->VLs G' (ZR slots) items'->K H'):Qft prog 3 s H (read0SB (ptr q3) s) K:=by
 have hlen:∀k:Value->Prop,Y1 s k=k (.int .i64 (slots.length:Nat)):=fun k=>by rw[hs.len,VLs.len hv]
 refine app_slc rs (et:=107) (es:=9) (fld:=6) (n:=slots.length) (fun G1 i its=>VLs G1 ((slots.take i).map Zm) its) (by rw[List.take_zero,List.map_nil,VLs];trivial) hc (by omega) hlen ?_ ?_
 ·intro i G1 H' c cells' its k hlt hle rs' hc' hcur hI hk'
  have ha:=List.getElem?_eq_getElem hlt
  obtain ⟨x1,k1,k2⟩:=VLs.get (VLs.mono hle _ _ hv) ha
  have hil:its.length<slots.length:=by
   have:=VLs.len hI
   rw[List.length_map,List.length_take]at this
   omega
  have hS':=hS _ (List.mem_of_getElem? ha)
  have hLn:=Qbo.get hL _ (List.mem_of_getElem? ha)
  generalize slots[i]=sl at ha k2 hS' hLn
  have hfin:∀G2 H2 q8 c8,G1.le G2->RS3 G0 H0 57 ob q2 q3 q8 107 9 c its G2 H2 cells' c8->VL G2 (Zm sl) c8->
    Qf (ptr q3) 6 fun x79=>LdK H2 x79 fun x80=>LdN H2 9 (ptr q8) fun x81=>Q8 H2 107 1 (YY z107.toList 1) [(0,9,x81)] fun x82 h51=>Qbk h51 107 9 120 z107 x80 x82 fun x83 h52=>Qf (ptr q3) 6 fun x84=>StK h52 1 x84 x83 k:=by
   intro G2 H2 q8 c8 hle2 r3 hvl
   refine r3.app rfl rfl hc' hvl (by omega) ?_
   intro H3 c3 rs3 cur3
   refine hk' G2 H3 c3 _ hle2 rs3 cur3 ?_
   rw[Qan ha]
   exact VLs.snoc (VLs.mono hle2 _ _ hI) hvl
  obtain ⟨has,v,d⟩:=sl
  have hone:=k2.one
  rw[VL]at k2
  obtain ⟨y,rfl,z⟩:=k2
  have hyl:=z.len
  obtain ⟨kind,elem,num,text,nums,kids,slots'⟩:=v
  have z':=z
  rw[VV]at z'
  obtain ⟨cn,ck,cs,rfl,_⟩:=z'
  unfold read0SB
  refine Qab (hs.mono hle) rs'.ext.inn k1 ?_
  rw[Qx,QZ (n:=9) (c':=(.bool has::([u8n kind,u8n elem,QO num,QW text,cn,ck,cs]++[QO d])).toArray) Qi rfl rfl (by decide) (by simpa using hone),Yc]
  have e5:=(Ext.refl rs'.ext.inn).pushG (.cells (.bool has::([u8n kind,u8n elem,QO num,QW text,cn,ck,cs]++[QO d])).toArray 107 (0,0))
  have g7:(G1.upd H'.size (.cells (.bool has::([u8n kind,u8n elem,QO num,QW text,cn,ck,cs]++[QO d])).toArray 107 (0,0))) H'.size=some (.cells (.bool has::([u8n kind,u8n elem,QO num,QW text,cn,ck,cs]++[QO d])).toArray 107 (0,0)):=Cut.upd_same
  have rs5:=rs'.next e5
  have cur5:=hcur.ext e5
  have le5:=e5.le
  have z:=VV.mono e5.le _ _ z
  clear e5
  generalize G1.upd H'.size (.cells (.bool has::([u8n kind,u8n elem,QO num,QW text,cn,ck,cs]++[QO d])).toArray 107 (0,0))=G5 at *
  generalize H'.push (.cells (.bool has::([u8n kind,u8n elem,QO num,QW text,cn,ck,cs]++[QO d])).toArray 107 (0,0))=H5 at *
  generalize H'.size=q7 at *
  have ld:∀{H'':Qe},G5.In H''->∀{i:Nat} {w:Value} (k:Value->Prop),(.bool has::([u8n kind,u8n elem,QO num,QW text,cn,ck,cs]++[QO d]):List Value)[i]?=some w->LdK H'' (.pointer (some ⟨q7,i,none⟩)) k=k w:=fun hin _ _ k h=>Ql ((Qk (hin _ _ g7)).trans (by simpa using h))
  have hf:=fill_sd has d
  rw[Qm,ld rs5.ext.inn _ rfl,Qm,ld rs5.ext.inn _ rfl]
  unfold Qu
  simp only[hf]
  rw[Qx,QZ (n:=9) (c':=(.bool has::(Yq 0 0 0 []++[QO d])).toArray) Qi rfl rfl (by decide) (by simpa using (VL.scal G5 has 0 0 0 [] d).one),Yc]
  have r:=RS3.mk3 rs5 cur5 (.bool has::(Yq 0 0 0 []++[QO d]))
  generalize H5.push (.cells (.bool has::(Yq 0 0 0 []++[QO d])).toArray 107 (0,0))=H8 at *
  generalize H5.size=q8 at *
  have p0:∀k:Value->Prop,LdK H8 (.pointer (some ⟨q7,0,none⟩)) k=k (.bool has):=fun k=>ld r.rs.ext.inn k rfl
  have p1:∀k:Value->Prop,LdK H8 (.pointer (some ⟨q7,1,none⟩)) k=k (u8n kind):=fun k=>ld r.rs.ext.inn k rfl
  have p3:∀k:Value->Prop,LdK H8 (.pointer (some ⟨q7,3,none⟩)) k=k (QO num):=fun k=>ld r.rs.ext.inn k rfl
  have p8:∀k:Value->Prop,LdK H8 (.pointer (some ⟨q7,8,none⟩)) k=k (QO d):=fun k=>ld r.rs.ext.inn k rfl
  have pv:∀k:Value->Prop,LdN H8 7 (.pointer (some ⟨q7,1,none⟩)) k=k (.agg #[u8n kind,u8n elem,QO num,QW text,cn,ck,cs]):=fun k=>YB (by rw[Q0 (r.rs.ext.inn _ _ g7) 7 (by simp)];rfl)
  have e10:decide ((kind.toNat:Int)<=10)=decide (kind<=10):=decide_eq_decide.2 (by rw[UInt8.le_iff_toNat_le];show _↔kind.toNat<=10;omega)
  have hr0:∀hs:Bool,Zm (.mk hs (.mk kind elem num text nums kids slots') d)=if kind<=10/\(hs=false\/eqK kind num d=true) then .mk false (YD kind 0 d []) d else if hs=true then .mk hs (ZM (.mk kind elem num text nums kids slots')) d else .mk hs (YD kind elem 0 []) d:=fun hs=>by rw[Zm];rfl
  refine Q2 (PostS fun G3 h c8=>G1.le G3/\RS3 G0 H0 57 ob q2 q3 q8 107 9 c its G3 h cells' c8/\VL G3 (Zm (.mk has (.mk kind elem num text nums kids slots') d)) c8) ?_ ?_
  ·
   have wayA:(kind<=10/\(has=false\/eqK kind num d=true))->∀M7:List Value->Qe->Prop,∀xx:Value,(∀h G3 c8,G1.le G3->RS3 G0 H0 57 ob q2 q3 q8 107 9 c its G3 h cells' c8->VL G3 (Zm (.mk has (.mk kind elem num text nums kids slots') d)) c8->M7 [xx] h)->
     (LdK H8 (.pointer (some ⟨q7,1,none⟩)) fun x66=>
      (LdK H8 (.pointer (some ⟨q7,8,none⟩)) fun x68=>Qu z57.toList [(0,1,x66),(2,1,x68)] fun x69=>StK H8 1 (ptr q8) (.bool false) fun h35=>Qf (ptr q8) 1 fun x71=>StK h35 7 x71 x69 fun h36=>M7 [xx] h36)/\
      (StK H8 1 (ptr q8) (.bool false) fun h37=>LdK h37 (.pointer (some ⟨q7,8,none⟩)) fun x68_1=>Qu z57.toList [(0,1,x66),(2,1,x68_1)] fun x69_1=>Qf (ptr q8) 1 fun x71_1=>StK h37 7 x71_1 x69_1 fun h38=>M7 [xx] h38))/\
     (LdK H8 (.pointer (some ⟨q7,8,none⟩)) fun x68_2=>
      (LdK H8 (.pointer (some ⟨q7,1,none⟩)) fun x66_1=>Qu z57.toList [(0,1,x66_1),(2,1,x68_2)] fun x69_2=>StK H8 1 (ptr q8) (.bool false) fun h39=>Qf (ptr q8) 1 fun x71_2=>StK h39 7 x71_2 x69_2 fun h40=>M7 [xx] h40)/\
      (StK H8 1 (ptr q8) (.bool false) fun h41=>LdK h41 (.pointer (some ⟨q7,1,none⟩)) fun x66_2=>Qu z57.toList [(0,1,x66_2),(2,1,x68_2)] fun x69_3=>Qf (ptr q8) 1 fun x71_3=>StK h41 7 x71_3 x69_3 fun h42=>M7 [xx] h42))/\
     (StK H8 1 (ptr q8) (.bool false) fun h43=>
      (LdK h43 (.pointer (some ⟨q7,1,none⟩)) fun x66_3=>LdK h43 (.pointer (some ⟨q7,8,none⟩)) fun x68_3=>Qu z57.toList [(0,1,x66_3),(2,1,x68_3)] fun x69_4=>Qf (ptr q8) 1 fun x71_4=>StK h43 7 x71_4 x69_4 fun h44=>M7 [xx] h44)/\
      (LdK h43 (.pointer (some ⟨q7,8,none⟩)) fun x68_4=>LdK h43 (.pointer (some ⟨q7,1,none⟩)) fun x66_4=>Qu z57.toList [(0,1,x66_4),(2,1,x68_4)] fun x69_5=>Qf (ptr q8) 1 fun x71_5=>StK h43 7 x71_5 x69_5 fun h45=>M7 [xx] h45)):=by
    intro hcond M7 xx hM
    have hs8:∀kp:Qe->Prop,StK H8 1 (ptr q8) (.bool false) kp=kp (setB H8 q8 (.cells (.bool false::(Yq 0 0 0 []++[QO d])).toArray 107 (0,0))):=fun kp=>by
     rw[StK_part (n:=1) r.o8.get (vs:=[.bool false]) rfl rfl (by simp;rfl) (by simp) (by decide)];rfl
    have r9:=r.put (.bool false::(Yq 0 0 0 []++[QO d]))
    generalize setB H8 q8 (.cells (.bool false::(Yq 0 0 0 []++[QO d])).toArray 107 (0,0))=H9 at *
    have q1:∀k:Value->Prop,LdK H9 (.pointer (some ⟨q7,1,none⟩)) k=k (u8n kind):=fun k=>ld r9.rs.ext.inn k rfl
    have q8':∀k:Value->Prop,LdK H9 (.pointer (some ⟨q7,8,none⟩)) k=k (QO d):=fun k=>ld r9.rs.ext.inn k rfl
    have hf2:=fill_kn kind d
    unfold Qu
    simp only[p1,p8,q1,q8',hs8,hf2,and_self]
    refine r9.val rfl rfl (VV.flat G5 kind 0 d []) ?_
    intro H10 r10 hvl
    refine hM _ _ _ le5 r10 ?_
    rw[hr0,if_pos hcond]
    exact hvl
   have wayB:¬(kind<=10/\(has=false\/eqK kind num d=true))->∀M7:List Value->Qe->Prop,∀xx:Value,(∀h G3 c8,G1.le G3->RS3 G0 H0 57 ob q2 q3 q8 107 9 c its G3 h cells' c8->VL G3 (Zm (.mk has (.mk kind elem num text nums kids slots') d)) c8->M7 [xx] h)->
     Qf (ptr q7) 0 fun x73=>LdK H8 x73 fun x74=>
     IfK x74
      (Qf (ptr q7) 1 fun x75=>LdN H8 7 x75 fun x76=>Qa prog 13 #[x76] H8 fun x77 h46=>Qf (ptr q8) 1 fun x78=>StK h46 7 x78 x77 fun h47=>M7 [xx] h47)
      (Qf (ptr q7) 1 fun x39=>LdN H8 7 x39 fun x40=>Qa prog 50 #[x40] H8 fun x41 h48=>Qf (ptr q8) 1 fun x42=>StK h48 7 x42 x41 fun h49=>M7 [xx] h49):=by
    intro hcond M7 xx hM
    rw[Qm,p0]
    refine Yt (fun hb=>?_) (fun hb=>?_)
    ·subst hb
     rw[Qm,pv]
     refine hS' G5 H8 _ _ r.rs.ext.inn z (by rw[Qek]at hLn;exact hLn) ?_
     intro G6 H6 c6 e6 v6
     refine (r.next e6).val rfl rfl v6 ?_
     intro H10 r10 hvl
     refine hM _ _ _ (Cut.le_trans le5 e6.le) r10 ?_
     rw[hr0,if_neg hcond,if_pos rfl]
     exact hvl
    ·subst hb
     rw[Qm,pv]
     refine absent_ok (v:=YD 0 0 0 []) r.rs.ext.inn z ?_
     intro H6 e6
     refine (r.next e6).val rfl rfl (VV.flat G5 kind elem 0 []) ?_
     intro H10 r10 hvl
     refine hM _ _ _ le5 r10 ?_
     rw[hr0,if_neg hcond,if_neg (by decide)]
     exact hvl
   have fin:∀x:Value,∀h G3 c8,G1.le G3->RS3 G0 H0 57 ob q2 q3 q8 107 9 c its G3 h cells' c8->VL G3 (Zm (.mk has (.mk kind elem num text nums kids slots') d)) c8->PostS (fun G3 h c8=>G1.le G3/\RS3 G0 H0 57 ob q2 q3 q8 107 9 c its G3 h cells' c8/\VL G3 (Zm (.mk has (.mk kind elem num text nums kids slots') d)) c8) [x] h:=fun x h G3 c8 a b cc=>⟨x,G3,c8,rfl,a,b,cc⟩
   simp only[Qd5,Nat.zero_add,Nat.add_zero,Nat.reduceAdd,p1,Qep,e10]
   by_cases hk10:kind<=10
   ·rw[decide_eq_true hk10]
    simp only[Ye,Y4,p0,Yn]
    cases has with
    |false=>
     simp only[Bool.not_false,Ys,Z2,Ye,Y4,Qbs]
     exact wayA ⟨hk10,Or.inl rfl⟩ _ _ (fin _)
    |true=>
     simp only[Bool.not_true,QJ,Qd5,Nat.zero_add,Nat.add_zero,Nat.reduceAdd,p1,p3,p8,Yv]
     refine Equal_ok ?_
     refine Yt (fun h=>?_) (fun h=>?_)
     ·have:=wayA ⟨hk10,Or.inr h⟩ _ _ (fin (.bool (eqK kind num d)))
      exact this
     ·have:=wayB (fun hh=>by rcases hh.2 with h2|h2;cases h2;rw[h]at h2;cases h2) _ _ (fin (.bool (eqK kind num d)))
      exact this
   ·rw[decide_eq_false hk10]
    simp only[Yz,Z2,Yv,YQ]
    have:=wayB (fun hh=>hk10 hh.1) _ _ (fin (.bool false))
    exact this
  ·rintro x43 h50 ⟨x,G3,c8,hx,le3,r3,hvl⟩
   exact hfin G3 h50 q8 c8 le3 r3 hvl
 ·intro G' G1 H' c its rs' hle sl hI hle1
  rw[List.take_length]at hI
  refine hk G' H' c its rs' hle sl ?_
  rw[Qfj]
  exact VLs.mono hle1 _ _ hI
end Go.Proofs
namespace Go.Proofs
open Go Go.Vc
open Tryz (prog)
def tabB (x0 x1 x7 x22 x26 x31 x76 x78:Value) (h35:Qe) (kp:Qe->Prop):Prop:=
 Y2 9 x76 x78 fun x81=>
 LdN h35 9 x81 fun x82=>
 Y8 h35 (.cells z107 107) fun x12 h36=>
 StK h36 9 x12 x82 fun h37=>
 QA (fun M30=>
 Qj prog .mul 3 (.int .i64 2) x78 fun x84=>
 Qj prog .add 3 (.int .i64 4) x84 fun x85=>
 Qj prog .add 3 x85 (.int .i64 2) fun x86=>
 Qj prog .leq 3 x86 x26 fun x88=>
 IfK x88
 (Qj prog .add 3 x22 (.int .i64 4) fun x91=>
 Qj prog .mul 3 (.int .i64 2) x78 fun x93=>
 Qj prog .add 3 x91 x93 fun x94=>
 Qa prog 159 #[x0,x94,(.int .i64 2)] h37 fun x95 h38=>
 QG .i64 x95 fun x96=>
 M30 [x96] h38)
 (M30 [(.int .i64 0)] h37)) fun M30=>∀x13:Value,∀h39:Qe,M30 [x13] h39->
 Qj prog .neq 3 x13 (.int .i64 0) fun x98=>
 Qf x12 8 fun x99=>
 LdK h39 x99 fun x100=>
 Qu z107.toList [(0,1,x98),(8,1,x100)] fun x101=>
 Y8 h39 (.cells z107 107) fun x14 h40=>
 StK h40 9 x14 x101 fun h41=>
 QA (fun M31=>
 Qj prog .neq 3 x13 (.int .i64 0) fun x103=>
 Qd x103 true (fun k32=>k32 x13 h41) h41 fun x105 h42=>
 Qd x103 true (fun k33=>Qj prog .lss 3 x105 (.int .i64 4) fun x106=>k33 x106 h42) h42 fun x106_1 h43=>
 Qd x103 true (fun k34=>k34 x106_1 h43) h43 fun x107 h44=>
 Qd x107 false (fun k35=>k35 x13 h44) h44 fun x108 h45=>
 Qd x107 false (fun k36=>k36 x31 h45) h45 fun x109 h46=>
 Qd x107 false (fun k37=>Qj prog .geq 3 x108 x109 fun x110=>k37 x110 h46) h46 fun x110_1 h47=>
 Qd x103 true (fun k38=>Yh x107 (.bool true) x110_1 fun x111=>k38 x111 h47) h47 fun x111_1 h48=>
 Yh x103 x111_1 (.bool false) fun x112=>
 IfK x112
 (Q1 x0 fun x114=>
 Qf x114 1 fun x115=>
 StK h48 1 x115 (.bool true) fun h49=>
 M31 [] h49)
 (M31 [] h48)) fun M31=>∀h50:Qe,M31 [] h50->
 QA (fun M39=>
 Qf x12 1 fun x125=>
 Qf x125 0 fun x126=>
 LdK h50 x126 fun x127=>
 Qj prog .leq 5 x127 (.int .u8 10) fun x128=>
 Qd x128 true (fun k40=>k40 x13 h50) h50 fun x130 h51=>
 Qd x128 true (fun k41=>Qj prog .eql 3 x130 (.int .i64 0) fun x131=>k41 x131 h51) h51 fun x131_1 h52=>
 Yh x128 x131_1 (.bool false) fun x132=>
 IfK x132
 (Qf x12 1 fun x133=>
 Qf x133 0 fun x134=>
 LdK h52 x134 fun x135=>
 Qf x12 8 fun x136=>
 LdK h52 x136 fun x137=>
 Qu z57.toList [(0,1,x135),(2,1,x137)] fun x138=>
 Qf x14 1 fun x139=>
 StK h52 7 x139 x138 fun h53=>
 M39 [x132] h53)
 (Qj prog .eql 3 x13 (.int .i64 0) fun x142=>
 IfK x142
 (Qf x12 1 fun x143=>
 LdN h52 7 x143 fun x144=>
 Qa prog 50 #[x144] h52 fun x145 h54=>
 Qf x14 1 fun x146=>
 StK h54 7 x146 x145 fun h55=>
 M39 [x132] h55)
 (Qj prog .add 3 x1 x13 fun x119=>
 Qf x12 1 fun x120=>
 LdN h52 7 x120 fun x121=>
 Qa prog 160 #[x0,x119,x121] h52 fun x122 h56=>
 Qf x14 1 fun x123=>
 StK h56 7 x123 x122 fun h57=>
 M39 [x132] h57))) fun M39=>∀x124:Value,∀h58:Qe,M39 [x124] h58->
 Qf x7 6 fun x147=>
 LdK h58 x147 fun x148=>
 LdN h58 9 x14 fun x149=>
 Q8 h58 107 1 (YY z107.toList 1) [(0,9,x149)] fun x150 h59=>
 Qbk h59 107 9 120 z107 x148 x150 fun x151 h60=>
 Qf x7 6 fun x152=>
 StK h60 1 x152 x151 kp
def tabHead (x0 x1 x22 x26 x31:Value) (h7:Qe) (T:Kn):Prop:=
 Q1 x0 fun x33=>
 Qf x33 1 fun x34=>
 LdK h7 x34 fun x35=>
 Qd x35 false (fun k1=>k1 x26 h7) h7 fun x37 h8=>
 Qd x35 false (fun k2=>Qj prog .lss 3 x37 (.int .i64 4) fun x38=>k2 x38 h8) h8 fun x38_1 h9=>
 Yh x35 (.bool true) x38_1 fun x39=>
 Qd x39 false (fun k3=>k3 x26 h9) h9 fun x41 h10=>
 Qd x39 false (fun k4=>Qj prog .rem 3 x41 (.int .i64 2) fun x42=>k4 x42 h10) h10 fun x42_1 h11=>
 Qd x39 false (fun k5=>Qj prog .neq 3 x42_1 (.int .i64 0) fun x43=>k5 x43 h11) h11 fun x43_1 h12=>
 Yh x39 (.bool true) x43_1 fun x44=>
 Qd x44 false (fun k6=>k6 x22 h12) h12 fun x46 h13=>
 Qd x44 false (fun k7=>k7 x26 h13) h13 fun x47 h14=>
 Qd x44 false (fun k8=>Qj prog .add 3 x46 x47 fun x48=>k8 x48 h14) h14 fun x48_1 h15=>
 Qd x44 false (fun k9=>k9 x0 h15) h15 fun x49 h16=>
 Qd x44 false (fun k10=>Q1 x49 fun x50=>k10 x50 h16) h16 fun x50_1 h17=>
 Qd x44 false (fun k11=>Qf x50_1 0 fun x51=>k11 x51 h17) h17 fun x51_1 h18=>
 Qd x44 false (fun k12=>LdK h18 x51_1 fun x52=>k12 x52 h18) h18 fun x52_1 h19=>
 Qd x44 false (fun k13=>QbP x52_1 fun x53=>k13 x53 h19) h19 fun x53_1 h20=>
 Qd x44 false (fun k14=>Qj prog .gtr 3 x48_1 x53_1 fun x54=>k14 x54 h20) h20 fun x54_1 h21=>
 Yh x44 (.bool true) x54_1 fun x55=>
 Qd x55 false (fun k15=>k15 x31 h21) h21 fun x57 h22=>
 Qd x55 false (fun k16=>Qj prog .lss 3 x57 (.int .i64 4) fun x58=>k16 x58 h22) h22 fun x58_1 h23=>
 Yh x55 (.bool true) x58_1 fun x59=>
 Qd x59 false (fun k17=>k17 x1 h23) h23 fun x61 h24=>
 Qd x59 false (fun k18=>k18 x31 h24) h24 fun x62 h25=>
 Qd x59 false (fun k19=>Qj prog .add 3 x61 x62 fun x63=>k19 x63 h25) h25 fun x63_1 h26=>
 Qd x59 false (fun k20=>k20 x0 h26) h26 fun x64 h27=>
 Qd x59 false (fun k21=>Q1 x64 fun x65=>k21 x65 h27) h27 fun x65_1 h28=>
 Qd x59 false (fun k22=>Qf x65_1 0 fun x66=>k22 x66 h28) h28 fun x66_1 h29=>
 Qd x59 false (fun k23=>LdK h29 x66_1 fun x67=>k23 x67 h29) h29 fun x67_1 h30=>
 Qd x59 false (fun k24=>QbP x67_1 fun x68=>k24 x68 h30) h30 fun x68_1 h31=>
 Qd x59 false (fun k25=>Qj prog .gtr 3 x63_1 x68_1 fun x69=>k25 x69 h31) h31 fun x69_1 h32=>
 Yh x59 (.bool true) x69_1 fun x70=>
 T x70 h32
def Qdx (bs:List UInt8) (a s n:Nat):Prop:=a+s<=bs.length/\a%s=0/\n=numB ((bs.drop a).take s)
def QfJ (bs:List UInt8) (a t:Nat):Prop:=∃n,Qdx bs a 4 n/\n≠0/\n<=bs.length/\t=a+n
abbrev VP:=Nat->SV->SV->Prop
def Qc2 (V:VP) (bs:List UInt8) (a vt size whole i:Nat) (sv:SV) (d:UInt64) (got:SL):Prop:=
 ∃place,(if 4+2*i+2<=size then Qdx bs (vt+4+2*i) 2 place else place=0)/\
  ((place=0/\got=if QfE sv<=10 then .mk false (YD (QfE sv) 0 d []) d else .mk false (YD (QfE sv) (elemV sv) 0 []) d)\/
   (place≠0/\4<=place/\place<whole/\∃w,V (a+place) sv w/\got= .mk true w d))
def TabRd (V:VP) (bs:List UInt8) (a:Nat) (slots gots:List SL):Prop:=
 ∃vt size whole n4,Qdx bs a 4 n4/\(a:Int)-IntKind.i32.wrap (n4:Nat)=(vt:Nat)/\Qdx bs vt 2 size/\Qdx bs (vt+2) 2 whole/\4<=size/\size%2=0/\vt+size<=bs.length/\4<=whole/\a+whole<=bs.length/\
  slots.length<=100/\gots.length=slots.length/\∀i has sv d got,slots[i]?=some (.mk has sv d)->gots[i]?=some got->Qc2 V bs a vt size whole i sv d got
def Qj8 (V:VP) (r:Nat) (bs:List UInt8):Prop:=∀(G:Cut) (H:Qe) (cells:List Value) (R:Kn) (a:Nat) (sh got:SV),RdB G r bs->G.In H->VV G sh cells->V a sh got->
 (∀G' H' c',Ext G H G' H'->VV G' got c'->R (.agg c'.toArray) H')->FnS prog 160 #[ptr r,.int .i64 (a:Nat),.agg cells.toArray] H R
theorem wrap_i32_range (i:Int):-2147483648<=IntKind.i32.wrap i/\IntKind.i32.wrap i<2147483648:=by
 simp[IntKind.wrap,IntKind.bits,IntKind.signed]
 omega
theorem num_at {G:Cut} {r:Nat} {bs:List UInt8} (hr:RdB G r bs) {H:Qe} (hG:G.In H) (hl:bs.length<2147483648) {a s n:Nat} (h:Qdx bs a s n) (hs:0<s) (h8:s<=8) {R:Kn} (hR:R (.int .u64 (n:Nat)) H):FnS prog 159 #[ptr r,.int .i64 (a:Nat),.int .i64 (s:Nat)] H R:=by
 obtain ⟨h1,h2,h3⟩:=h
 subst h3
 exact number_ok hr hG hl h1 hs h8 h2 hR
theorem off_at {G:Cut} {r:Nat} {bs:List UInt8} (hr:RdB G r bs) {H:Qe} (hG:G.In H) (hl:bs.length<2147483648) {a t:Nat} (h:QfJ bs a t) {R:Kn} (hR:R (.int .i64 (t:Nat)) H):FnS prog 48 #[ptr r,.int .i64 (a:Nat)] H R:=by
 obtain ⟨n,⟨h1,h2,h3⟩,h4,h5,rfl⟩:=h
 exact offset_ok hr hG hl h1 h2 h3 h4 h5 hR
theorem Qdx.lt {bs:List UInt8} {a s n:Nat} (h:Qdx bs a s n):n<2^(8*s):=by
 rw[h.2.2]
 have:=numB_lt ((bs.drop a).take s)
 rw[List.length_take,List.length_drop,Nat.min_eq_left (by have:=h.1;omega)]at this
 exact this
set_option maxHeartbeats 1000000 in
theorem table_slots {V:VP} {r:Nat} {bs:List UInt8} (hV:Qj8 V r bs) (hbl:bs.length<1073741824) {a vt size whole:Nat} (hvt:vt<1073741824) (hsz:size<65536) (hwh:whole<65536) (hat:a<1073741824)
  {G0:Cut} {H0:Qe} {ob:Obj} {q2 q3:Nat} {G:Cut} {H:Qe} {cells:List Value} (rs:RS G0 H0 57 ob q2 q3 G H cells) (hr:RdB G r bs) {slots gots:List SL} (hn:slots.length<=100) (hgl:gots.length=slots.length)
  (hT:∀i has sv d got,slots[i]?=some (.mk has sv d)->gots[i]?=some got->Qc2 V bs a vt size whole i sv d got) {s:Value} {items:List (List Value)} (hs:SlV G 9 s items) (hv:VLs G slots items)
  (hc:cells[6]?=some (.slice none 0 0)) {K:Qe->Prop} (hk:∀G' H' c items',RS G0 H0 57 ob q2 q3 G' H' (cells.set 6 c)->G.le G'->SlV G' 9 c items'->VLs G' gots items'->K H'):
  Qft prog 3 s H (tabB (ptr r) (.int .i64 (a:Nat)) (ptr q3) (.int .i64 (vt:Nat)) (.int .i64 (size:Nat)) (.int .i64 (whole:Nat)) s) K:=by
 have hlen:∀k:Value->Prop,Y1 s k=k (.int .i64 (slots.length:Nat)):=fun k=>by rw[hs.len,VLs.len hv]
 refine app_slc rs (et:=107) (es:=9) (fld:=6) (n:=slots.length) (fun G1 i its=>VLs G1 (gots.take i) its) (by rw[List.take_zero,VLs];trivial) hc (by omega) hlen ?_ ?_
 ·intro i G1 H' c cells' its k hlt hle rs' hc' hcur hI hk'
  have ha:=List.getElem?_eq_getElem hlt
  have hga:=List.getElem?_eq_getElem (l:=gots) (i:=i) (by omega)
  obtain ⟨x1,k1,k2⟩:=VLs.get (VLs.mono hle _ _ hv) ha
  have hil:its.length<slots.length:=by
   have:=VLs.len hI
   rw[List.length_take]at this
   omega
  generalize slots[i]=sl at ha k2
  generalize gots[i]=gl at hga
  have hfin:∀G2 H2 q8 c8,G1.le G2->RS3 G0 H0 57 ob q2 q3 q8 107 9 c its G2 H2 cells' c8->VL G2 gl c8->
    Qf (ptr q3) 6 fun x79=>LdK H2 x79 fun x80=>LdN H2 9 (ptr q8) fun x81=>Q8 H2 107 1 (YY z107.toList 1) [(0,9,x81)] fun x82 h51=>Qbk h51 107 9 120 z107 x80 x82 fun x83 h52=>Qf (ptr q3) 6 fun x84=>StK h52 1 x84 x83 k:=by
   intro G2 H2 q8 c8 hle2 r3 hvl
   refine r3.app rfl rfl hc' hvl (by omega) ?_
   intro H3 c3 rs3 cur3
   refine hk' G2 H3 c3 _ hle2 rs3 cur3 ?_
   rw[List.take_add_one,hga]
   exact VLs.snoc (VLs.mono hle2 _ _ hI) hvl
  obtain ⟨has,v,d⟩:=sl
  obtain ⟨place,hpl,hcase⟩:=hT i has v d gl ha hga
  have hp16:place<65536:=by
   split at hpl
   ·exact hpl.lt
   ·omega
  have hone:=k2.one
  rw[VL]at k2
  obtain ⟨y,rfl,z⟩:=k2
  have hyl:=z.len
  obtain ⟨kind,elem,num,text,nums,kids,slots'⟩:=v
  have z':=z
  rw[VV]at z'
  obtain ⟨cn,ck,cs,rfl,_⟩:=z'
  unfold tabB
  refine Qab (hs.mono hle) rs'.ext.inn k1 ?_
  rw[Qx,QZ (n:=9) (c':=(.bool has::([u8n kind,u8n elem,QO num,QW text,cn,ck,cs]++[QO d])).toArray) Qi rfl rfl (by decide) (by simpa using hone),Yc]
  have e5:=(Ext.refl rs'.ext.inn).pushG (.cells (.bool has::([u8n kind,u8n elem,QO num,QW text,cn,ck,cs]++[QO d])).toArray 107 (0,0))
  have g7:(G1.upd H'.size (.cells (.bool has::([u8n kind,u8n elem,QO num,QW text,cn,ck,cs]++[QO d])).toArray 107 (0,0))) H'.size=some (.cells (.bool has::([u8n kind,u8n elem,QO num,QW text,cn,ck,cs]++[QO d])).toArray 107 (0,0)):=Cut.upd_same
  have rs5:=rs'.next e5
  have cur5:=hcur.ext e5
  have le5:=e5.le
  have z:=VV.mono e5.le _ _ z
  clear e5
  generalize G1.upd H'.size (.cells (.bool has::([u8n kind,u8n elem,QO num,QW text,cn,ck,cs]++[QO d])).toArray 107 (0,0))=G5 at *
  generalize H'.push (.cells (.bool has::([u8n kind,u8n elem,QO num,QW text,cn,ck,cs]++[QO d])).toArray 107 (0,0))=H5 at *
  generalize H'.size=q7 at *
  have hr5:RdB G5 r bs:=hr.mono (Cut.le_trans hle le5)
  have ld:∀{H'':Qe},G5.In H''->∀{i:Nat} {w:Value} (k:Value->Prop),(.bool has::([u8n kind,u8n elem,QO num,QW text,cn,ck,cs]++[QO d]):List Value)[i]?=some w->LdK H'' (.pointer (some ⟨q7,i,none⟩)) k=k w:=fun hin _ _ k h=>Ql ((Qk (hin _ _ g7)).trans (by simpa using h))
  have m1:IntKind.i64.wrap (2*(i:Int))=((2*i:Nat):Int):=by rw[wrap_i64 (by omega) (by omega)];omega
  have m2:IntKind.i64.wrap (4+((2*i:Nat):Int))=((4+2*i:Nat):Int):=by rw[wrap_i64 (by omega) (by omega)];omega
  have m3:IntKind.i64.wrap (((4+2*i:Nat):Int)+2)=((4+2*i+2:Nat):Int):=by rw[wrap_i64 (by omega) (by omega)];omega
  have m4:IntKind.i64.wrap ((vt:Int)+4)=((vt+4:Nat):Int):=by rw[wrap_i64 (by omega) (by omega)];omega
  have m5:IntKind.i64.wrap (((vt+4:Nat):Int)+((2*i:Nat):Int))=((vt+4+2*i:Nat):Int):=by rw[wrap_i64 (by omega) (by omega)];omega
  refine Q2 (fun vs h=>h=H5/\vs=[.int .i64 (place:Nat)]) ?_ ?_
  ·rw[Zx,m1,Q5,m2,Q5,m3,Qep]
   refine Z0 (fun hle'=>?_) (fun hle'=>?_)
   ·rw[if_pos (by omega)]at hpl
    rw[Q5,m4,Zx,m1,Q5,m5]
    refine num_at hr5 rs5.ext.inn (by omega) hpl (by decide) (by decide) ?_
    rw[Q7,wrap_i64 (by omega) (by omega)]
    exact ⟨rfl,rfl⟩
   ·rw[if_neg (by omega)]at hpl
    subst hpl
    exact ⟨rfl,rfl⟩
  rintro x13 h39 ⟨rfl,hx13⟩
  cases hx13
  have hf:=fill_sd (decide (place≠0)) d
  have ene:decide ((place:Int)≠0)=decide (place≠0):=decide_eq_decide.2 (by omega)
  have eq0:decide ((place:Int)=0)=decide (place=0):=decide_eq_decide.2 (by omega)
  rw[Y5,ene,Qm,ld rs5.ext.inn _ rfl]
  unfold Qu
  simp only[hf]
  rw[Qx,QZ (n:=9) (c':=(.bool (decide (place≠0))::(Yq 0 0 0 []++[QO d])).toArray) Qi rfl rfl (by decide) (by simpa using (VL.scal G5 (decide (place≠0)) 0 0 0 [] d).one),Yc]
  have r3:=RS3.mk3 rs5 cur5 (.bool (decide (place≠0))::(Yq 0 0 0 []++[QO d]))
  generalize h39.push (.cells (.bool (decide (place≠0))::(Yq 0 0 0 []++[QO d])).toArray 107 (0,0))=H8 at *
  generalize h39.size=q8 at *
  have p1:∀k:Value->Prop,LdK H8 (.pointer (some ⟨q7,1,none⟩)) k=k (u8n kind):=fun k=>ld r3.rs.ext.inn k rfl
  have p8:∀k:Value->Prop,LdK H8 (.pointer (some ⟨q7,8,none⟩)) k=k (QO d):=fun k=>ld r3.rs.ext.inn k rfl
  have pv:∀k:Value->Prop,LdN H8 7 (.pointer (some ⟨q7,1,none⟩)) k=k (.agg #[u8n kind,u8n elem,QO num,QW text,cn,ck,cs]):=fun k=>YB (by rw[Q0 (r3.rs.ext.inn _ _ g7) 7 (by simp)];rfl)
  have e10:decide ((kind.toNat:Int)<=10)=decide (kind<=10):=decide_eq_decide.2 (by rw[UInt8.le_iff_toNat_le];show _↔kind.toNat<=10;omega)
  refine Q2 (fun vs h=>h=H8) ?_ ?_
  ·rw[Y5,ene]
   by_cases hp0:place=0
   ·rw[decide_eq_false (show ¬place≠0 from fun h=>h hp0)]
    simp only[Yz,Z2,Yv,YQ]
   ·rw[decide_eq_true (show place≠0 from hp0)]
    obtain ⟨_,h4,hw,_⟩:place≠0/\4<=place/\place<whole/\_:=hcase.resolve_left (fun h=>hp0 h.1)
    simp only[Ye,Yw,decide_eq_false (show ¬(place:Int)<4 by omega),QJ,QfK,decide_eq_false (show ¬(whole:Int)<=(place:Int) by omega),Yv,Y4,YQ]
  rintro h50 rfl
  refine Q2 (PostS fun G3 h c8=>G1.le G3/\RS3 G0 H0 57 ob q2 q3 q8 107 9 c its G3 h cells' c8/\VL G3 gl c8) ?_ ?_
  ·simp only[Qd5,Nat.zero_add,Nat.add_zero,Nat.reduceAdd,p1,Qep,e10]
   rcases hcase with ⟨hp0,hgl'⟩|⟨hp0,h4,hw,w,hVw,hgl'⟩
   ·subst hp0
    rw[show decide ((0:Nat)≠0)=false from rfl]at r3
    by_cases hk10:kind<=10
    ·rw[decide_eq_true hk10]
     have hf2:=fill_kn kind d
     simp only[Ye,Yi,eq0,Y4,p1,p8,decide_true,Qbs,hf2]
     refine r3.val rfl rfl (VV.flat G5 kind 0 d []) ?_
     intro H10 r10 hvl
     refine ⟨_,_,_,rfl,le5,r10,?_⟩
     rw[hgl',show QfE (.mk kind elem num text nums kids slots')=kind from rfl,if_pos hk10]
     exact hvl
    ·rw[decide_eq_false hk10]
     simp only[Yz,Z2,Yv,YQ,Yi,eq0,decide_true,Qbs,pv]
     refine absent_ok (v:=YD 0 0 0 []) r3.rs.ext.inn z ?_
     intro H6 e6
     refine (r3.next e6).val rfl rfl (VV.flat G5 kind elem 0 []) ?_
     intro H10 r10 hvl
     refine ⟨_,_,_,rfl,le5,r10,?_⟩
     rw[hgl',show QfE (.mk kind elem num text nums kids slots')=kind from rfl,if_neg hk10]
     exact hvl
   ·rw[decide_eq_true hp0]at r3
    have m6:IntKind.i64.wrap ((a:Int)+(place:Int))=((a+place:Nat):Int):=by rw[wrap_i64 (by omega) (by omega)];omega
    have hval:∀xx:Value,Qj prog .add 3 (.int .i64 (a:Nat)) (.int .i64 (place:Nat)) fun x119=>Qf (ptr q7) 1 fun x120=>LdN h50 7 x120 fun x121=>Qa prog 160 #[ptr r,x119,x121] h50 fun x122 h56=>Qf (ptr q8) 1 fun x123=>StK h56 7 x123 x122 fun h57=>
      PostS (fun G3 h c8=>G1.le G3/\RS3 G0 H0 57 ob q2 q3 q8 107 9 c its G3 h cells' c8/\VL G3 gl c8) [xx] h57:=by
     intro xx
     rw[Q5,m6,Qm,pv]
     refine hV G5 h50 _ _ (a+place) _ w hr5 r3.rs.ext.inn z hVw ?_
     intro G6 H6 c6 e6 v6
     refine (r3.next e6).val rfl rfl v6 ?_
     intro H10 r10 hvl
     refine ⟨_,_,_,rfl,Cut.le_trans le5 e6.le,r10,?_⟩
     rw[hgl']
     exact hvl
    simp only[Qd5,Nat.zero_add,Nat.add_zero,Nat.reduceAdd]at hval
    by_cases hk10:kind<=10
    ·rw[decide_eq_true hk10]
     simp only[Ye,Yi,eq0,Y4,decide_eq_false hp0,YQ]
     exact hval _
    ·rw[decide_eq_false hk10]
     simp only[Yz,Z2,Yv,YQ,Yi,eq0,decide_eq_false hp0]
     exact hval _
  ·rintro x43 h58 ⟨x,G3,c8,hx,le3,r4,hvl⟩
   exact hfin G3 h58 q8 c8 le3 r4 hvl
 ·intro G' G1 H' c its rs' hle sl hI hle1
  rw[<-hgl,List.take_length]at hI
  exact hk G' H' c its rs' hle sl (VLs.mono hle1 _ _ hI)
theorem fill_v15:YN z57.toList [(0,1,(.int .u8 15))]=some (Yq 15 0 0 []):=by kernel_rfl
theorem tabHead_of {r:Nat} {bs:List UInt8} {a vt size whole:Nat} {H3:Qe} (l0:∀k:Value->Prop,LdK H3 (.pointer (some ⟨r,0,none⟩)) k=k (QW bs)) (l1:∀k:Value->Prop,LdK H3 (.pointer (some ⟨r,1,none⟩)) k=k (.bool false))
  (hbl:bs.length<1073741824) (s4:4<=size) (s2:size%2=0) (sl:vt+size<=bs.length) (w4:4<=whole) (wl:a+whole<=bs.length) {T:Kn} (hT:T (.bool false) H3):
  tabHead (ptr r) (.int .i64 (a:Nat)) (.int .i64 (vt:Nat)) (.int .i64 (size:Nat)) (.int .i64 (whole:Nat)) H3 T:=by
 have c3:IntKind.i64.wrap ((vt:Int)+(size:Int))=((vt+size:Nat):Int):=by rw[wrap_i64 (by omega) (by omega)];omega
 have c4:IntKind.i64.wrap ((a:Int)+(whole:Int))=((a+whole:Nat):Int):=by rw[wrap_i64 (by omega) (by omega)];omega
 have c5:∀k:Value->Prop,Qj prog .rem 3 (.int .i64 (size:Nat)) (.int .i64 2) k=k (.int .i64 0):=fun k=>by
  rw[BinK_rem (by omega),Int.tmod_eq_emod_of_nonneg (by omega)]
  congr 2
  omega
 unfold tabHead
 simp only[Qp,Qm,l1,QJ,Yw,decide_eq_false (show ¬(size:Int)<4 by omega),Yv,c5,Y5,ne_eq,not_true,decide_false,Q5,c3,l0,Qaf,Zs,Z3,decide_eq_false (show ¬((vt+size:Nat):Int)>(bs.length:Nat) by omega),
  decide_eq_false (show ¬(whole:Int)<4 by omega),c4,decide_eq_false (show ¬((a+whole:Nat):Int)>(bs.length:Nat) by omega)]
 exact hT
theorem QcF {G:Cut} {H:Qe} {ob:Obj} {c0:Array Value} (hob:ob= .cells c0 57 (0,0)) (hc0:c0.size=7) {q2 q3:Nat} {G6:Cut} {H6:Qe} {cells:List Value} (rs:RS G H 57 ob q2 q3 G6 H6 cells) {got:SV} (hv:VV G6 got cells) {R:Kn} (hR:∀G' H' c',Ext G H G' H'->VV G' got c'->R (.agg c'.toArray) H'):
  LdN H6 7 (ptr q3) fun x=>StK H6 7 (ptr q2) x fun h=>LdN h 7 (ptr q2) fun r=>R r h:=by
 subst hob
 rw[YB (n:=7) (vs:=cells) (by rw[Q0 rs.o3.get 7 (by simp[hv.len])];simp[<-hv.len])]
 exact Qcv rs.o2 hc0 hv.len (by decide) hv.one rs.ext (fun H5 e5=>hR G6 H5 _ e5 hv)
set_option maxHeartbeats 1000000 in
theorem QhT {V:VP} {r:Nat} {bs:List UInt8} (hV:Qj8 V r bs) (hbl:bs.length<1073741824) {G:Cut} {H:Qe} (hr:RdB G r bs) (hG:G.In H) {kind elem:UInt8} {num:UInt64} {text:List UInt8} {nums:List UInt64} {kids:List SV} {slots gots:List SL} {cells:List Value} (hv:VV G (.mk kind elem num text nums kids slots) cells)
  {a:Nat} (hT:TabRd V bs a slots gots) {R:Kn} (hR:∀G' H' c',Ext G H G' H'->VV G' (.mk 15 0 0 [] [] [] gots) c'->R (.agg c'.toArray) H'):FnS prog 47 #[ptr r,.int .i64 (a:Nat),.agg cells.toArray] H R:=by
 obtain ⟨vt,size,whole,n4,hn4,hvt,hsz,hwh,s4,s2,sl,w4,wl,hn,hgl,hT⟩:=hT
 have hone:=hv.one
 rw[VV]at hv
 obtain ⟨cn,ck,cs,rfl,_,_,⟨items,hs,hvs⟩⟩:=hv
 apply w47
 unfold s47
 rw[Qx]
 have e1:=(Ext.refl hG).pushG (.cells (Value.agg #[u8n kind,u8n elem,QO num,QW text,cn,ck,cs]).cells 57 (0,0))
 have g5:(G.upd H.size (.cells (Value.agg #[u8n kind,u8n elem,QO num,QW text,cn,ck,cs]).cells 57 (0,0))) H.size=some (.cells #[u8n kind,u8n elem,QO num,QW text,cn,ck,cs] 57 (0,0)):=Cut.upd_same
 show Y8 (H.push (.cells (Value.agg #[u8n kind,u8n elem,QO num,QW text,cn,ck,cs]).cells 57 (0,0))) _ _
 generalize G.upd H.size (.cells (Value.agg #[u8n kind,u8n elem,QO num,QW text,cn,ck,cs]).cells 57 (0,0))=G1 at *
 generalize H.push (.cells (Value.agg #[u8n kind,u8n elem,QO num,QW text,cn,ck,cs]).cells 57 (0,0))=H1 at *
 rw[Qx]
 have hf:=fill_v15
 have e2:=e1.push (.cells z57 57 (0,0))
 have o2:Yo H G1 (H1.push (.cells z57 57 (0,0))) H1.size (.cells z57 57 (0,0)):=Yo.fresh e1 _
 have n1:(H1.push (.cells z57 57 (0,0))).size=H1.size+1:=size_push
 generalize H1.push (.cells z57 57 (0,0))=H2 at *
 unfold Qu
 simp only[hf]
 rw[Qx,QZ (n:=7) (c':=(Yq 15 0 0 []).toArray) Qi rfl rfl (by decide) (by simpa using (VV.flat G 15 0 0 []).one),Yc]
 have rs:RS G H 57 (.cells z57 57 (0,0)) H1.size H2.size G1 (H2.push (.cells (Yq 15 0 0 []).toArray 57 (0,0))) (Yq 15 0 0 []):=⟨e2.push _,o2.push _,Yo.fresh e2 _,by omega⟩
 generalize H2.push (.cells (Yq 15 0 0 []).toArray 57 (0,0))=H3 at *
 generalize H2.size=q3 at *
 generalize H1.size=q2 at *
 have hr1:=hr.mono e1.le
 have w32:=wrap_i32_range (n4:Nat)
 have hs16:=hsz.lt
 have hw16:=hwh.lt
 have hwl:=hwh.1
 have c1:IntKind.i64.wrap (IntKind.i32.wrap (n4:Nat))=IntKind.i32.wrap (n4:Nat):=wrap_i64 (by omega) (by omega)
 have c2:IntKind.i64.wrap ((a:Int)-IntKind.i32.wrap (n4:Nat))=((vt:Nat):Int):=by rw[hvt];exact wrap_i64 (by omega) (by omega)
 refine num_at hr1 rs.ext.inn (by omega) hn4 (by decide) (by decide) ?_
 rw[Q7,Q7,c1,Yg,c2]
 refine num_at hr1 rs.ext.inn (by omega) hsz (by decide) (by decide) ?_
 rw[Q7,wrap_i64 (n:=(size:Int)) (by omega) (by omega),Q5,show IntKind.i64.wrap ((vt:Int)+2)=((vt+2:Nat):Int) by rw[wrap_i64 (by omega) (by omega)];omega]
 refine num_at hr1 rs.ext.inn (by omega) hwh (by decide) (by decide) ?_
 have l0:∀k:Value->Prop,LdK H3 (.pointer (some ⟨r,0,none⟩)) k=k (QW bs):=fun k=>RdB.s hr1 rs.ext.inn
 have l1:∀k:Value->Prop,LdK H3 (.pointer (some ⟨r,1,none⟩)) k=k (.bool false):=fun k=>RdB.bad hr1 rs.ext.inn
 rw[Q7,wrap_i64 (n:=(whole:Int)) (by omega) (by omega)]
 refine tabHead_of l0 l1 hbl s4 s2 sl w4 wl ?_
 rw[YQ]
 refine Qii (x1:=ptr H.size) (s:=cs) (fld:=6) (B:=tabB (ptr r) (.int .i64 (a:Nat)) (ptr q3) (.int .i64 (vt:Nat)) (.int .i64 (size:Nat)) (.int .i64 (whole:Nat))) (fun k hk=>?_) ?_
 ·rw[Qm,Ql ((Qk (rs.ext.inn _ _ g5)).trans (show (#[u8n kind,u8n elem,QO num,QW text,cn,ck,cs]:Array Value)[6]?=some cs from rfl))]
  exact hk
 refine table_slots hV hbl (by omega) (by omega) (by omega) (by omega) rs hr1 hn hgl hT (hs.mono e1.le) (VLs.mono e1.le _ _ hvs) rfl ?_
 intro G' H' c items' rs' hle sl' hvl
 have hvv:VV G' (.mk 15 0 0 [] [] [] gots) [u8n 15,u8n 0,QO 0,QW [],.slice none 0 0,.slice none 0 0,c]:=by
  rw[VV]
  exact ⟨_,_,_,rfl,SlV.nil _ 1,⟨[],SlV.nil _ 7,by rw[VVs];trivial⟩,⟨_,sl',hvl⟩⟩
 exact QcF rfl rfl rs' hvv hR
end Go.Proofs
namespace Go.Proofs
open Go Go.Vc
open Tryz (prog)
theorem read0V_step {v:SV} (hK:∀kind elem num text nums kids slots,v= .mk kind elem num text nums kids slots->(∀w∈kids,Read0V w)/\(∀l∈slots,Read0L l)):Read0V v:=by
 obtain ⟨kind,elem,num,text,nums,kids,slots⟩:=v
 obtain ⟨hK,hS⟩:=hK _ _ _ _ _ _ _ rfl
 intro G H cells R hG hv hL hR
 have hone:=hv.one
 rw[VV]at hv
 obtain ⟨cn,ck,cs,rfl,hnums,⟨ki,hks,hkv⟩,⟨items,hs,hvs⟩⟩:=hv
 rw[LenV]at hL
 obtain ⟨⟨m1,m2,m3⟩,mK,mS⟩:=hL
 apply w13
 unfold s13
 rw[Qx]
 have e1:=(Ext.refl hG).pushG (.cells (Value.agg #[u8n kind,u8n elem,QO num,QW text,cn,ck,cs]).cells 57 (0,0))
 have g5:(G.upd H.size (.cells (Value.agg #[u8n kind,u8n elem,QO num,QW text,cn,ck,cs]).cells 57 (0,0))) H.size=some (.cells #[u8n kind,u8n elem,QO num,QW text,cn,ck,cs] 57 (0,0)):=Cut.upd_same
 show Y8 (H.push (.cells (Value.agg #[u8n kind,u8n elem,QO num,QW text,cn,ck,cs]).cells 57 (0,0))) _ _
 generalize G.upd H.size (.cells (Value.agg #[u8n kind,u8n elem,QO num,QW text,cn,ck,cs]).cells 57 (0,0))=G1 at *
 generalize H.push (.cells (Value.agg #[u8n kind,u8n elem,QO num,QW text,cn,ck,cs]).cells 57 (0,0))=H1 at *
 rw[Qx]
 have e2:=e1.push (.cells z57 57 (0,0))
 have o2:Yo H G1 (H1.push (.cells z57 57 (0,0))) H1.size (.cells z57 57 (0,0)):=Yo.fresh e1 _
 have n1:(H1.push (.cells z57 57 (0,0))).size=H1.size+1:=size_push
 generalize H1.push (.cells z57 57 (0,0))=H2 at *
 rw[YB (n:=7) (vs:=[u8n kind,u8n elem,QO num,QW text,cn,ck,cs]) (by rw[Q0 (e2.inn _ _ g5) 7 (by simp)];rfl)]
 rw[Qx,QZ (n:=7) (c':=#[u8n kind,u8n elem,QO num,QW text,cn,ck,cs]) Qi rfl rfl (by decide) (by simpa using hone),Yc]
 have rs:RS G H 57 (.cells z57 57 (0,0)) H1.size H2.size G1 (H2.push (.cells #[u8n kind,u8n elem,QO num,QW text,cn,ck,cs] 57 (0,0))) [u8n kind,u8n elem,QO num,QW text,cn,ck,cs]:=⟨e2.push _,o2.push _,Yo.fresh e2 _,by omega⟩
 generalize H2.push (.cells #[u8n kind,u8n elem,QO num,QW text,cn,ck,cs] 57 (0,0))=H3 at *
 generalize H2.size=q3 at *
 generalize H1.size=q2 at *
 refine rs.store (i:=5) (by simp) rfl ?_
 intro H4 rs4 _
 refine rs4.store (i:=6) (by simp) rfl ?_
 intro H5 rs5 _
 refine Qii (x1:=ptr H.size) (s:=ck) (fld:=5) (B:=read0B (ptr q3)) (fun k hk=>?_) ?_
 ·rw[Qm,Ql ((Qk (rs5.ext.inn _ _ g5)).trans (show (#[u8n kind,u8n elem,QO num,QW text,cn,ck,cs]:Array Value)[5]?=some ck from rfl))]
  exact hk
 refine read0_kids rs5 hK mK m2 (hks.mono e1.le) (VVs.mono e1.le _ _ hkv) rfl ?_
 intro G6 H6 c6 items6 rs6 le6 sl6 vv6
 refine Qii (x1:=ptr H.size) (s:=cs) (fld:=6) (B:=read0SB (ptr q3)) (fun k hk=>?_) ?_
 ·rw[Qm,Ql ((Qk (rs6.ext.inn _ _ (le6 _ _ g5))).trans (show (#[u8n kind,u8n elem,QO num,QW text,cn,ck,cs]:Array Value)[6]?=some cs from rfl))]
  exact hk
 refine read0_slots rs6 hS mS m3 (hs.mono (Cut.le_trans e1.le le6)) (VLs.mono (Cut.le_trans e1.le le6) _ _ hvs) rfl ?_
 intro G7 H7 c7 items7 rs7 le7 sl7 vl7
 have hvv:VV G7 (ZM (.mk kind elem num text nums kids slots)) [u8n kind,u8n elem,QO num,QW text,cn,c6,c7]:=by
  rw[ZM,VV]
  exact ⟨_,_,_,rfl,hnums.mono (Cut.le_trans e1.le (Cut.le_trans le6 le7)),⟨_,sl6.mono le7,VVs.mono le7 _ _ vv6⟩,⟨_,sl7,vl7⟩⟩
 exact QcF rfl rfl rs7 hvv hR
mutual
theorem QiU:∀v:SV,Read0V v
 |.mk kind elem num text nums kids slots=>read0V_step (fun _ _ _ _ _ _ _ h=>by cases h;exact ⟨read0Vs_all kids,read0Ls_all slots⟩)
theorem read0Vs_all:∀vs:List SV,∀v∈vs,Read0V v
 |[],v,h=>by simp at h
 |v'::vs,v,h=>by
  rcases List.mem_cons.1 h with h|h
  ·rw[h];exact QiU v'
  ·exact read0Vs_all vs v h
theorem read0L_all:∀l:SL,Read0L l
 |.mk _ v _=>by rw[Read0L];exact QiU v
theorem read0Ls_all:∀ls:List SL,∀l∈ls,Read0L l
 |[],l,h=>by simp at h
 |l'::ls,l,h=>by
  rcases List.mem_cons.1 h with h|h
  ·rw[h];exact read0L_all l'
  ·exact read0Ls_all ls l h
end
end Go.Proofs
