/- WHAT IS PROVED: the given statement of FnMonsterMutated, whatever the input: this is part 7 of 14. No conditions. -/
import Derived.Test.YticijlffkdlojaaGreatX06
set_option linter.all false
namespace Go.Proofs
open Go Go.Vc
open Tryz (prog)
section
variable {H:Qf} {p:Nat} {S:BS} {F:Cut} {r:Nat} (hB:Qd H p S F r) {R:Kn}
include hB
theorem str_pack {xs:List UInt8} (hI:Inv S) (hl:S.buf.length+xs.length+24<=536870912) (hR:∀H',Qd H' p (QaZ xs S).1 F 0->R (.int .u32 ((QaZ xs S).2:Nat)) H'):
  FnS prog 87 #[.pointer (some ⟨p,0,none⟩),YM xs] H R:=QcB hB (Qga _) hI.nested hl hR
theorem enemy_pack {n:Nat} (ih:PackOk n) {v:Value} {kids:List Mon} (hI:Inv S) (he:(kids=[]/\v= .pointer none)\/∃k,kids=[k]) (hs:ZB kids<n) (hm:∀k,k∈kids->MT F v k) (hl:S.buf.length+ZB kids+20000<=536870912)
  (hR:∀H',Qd H' p (Ya kids S).1 F 0->R (.int .u32 ((Ya kids S).2:Nat)) H'):FnS prog 23 #[v,.pointer (some ⟨p,0,none⟩)] H R:=by
 rcases he with ⟨rfl,rfl⟩|⟨k,rfl⟩
 ·rw[Ya]at hR
  apply w23
  unfold s23
  rw[Y4 (by kernel_rfl)]
  exact hR H (hB.room (Nat.zero_le _))
 ·rw[Ya]at hR
  exact kidOk ih hB hI hs hm hl k rfl R hR
theorem stat_pack {v:Value} {o:Option Qaa} (hI:Inv S) (ho:OptAt v o (fun s=>Qa1 F v (statC s))) (hl:S.buf.length+Qid o+5000<=536870912)
  (hR:∀H',Qd H' p (Qhg o S).1 F 0->R (.int .u32 ((Qhg o S).2:Nat)) H'):FnS prog 95 #[v,.pointer (some ⟨p,0,none⟩)] H R:=by
 cases o with
 |none=>
  have hv:v= .pointer none:=ho
  subst hv
  apply w95
  unfold s95
  rw[Y4 (by kernel_rfl)]
  exact hR H (hB.room (Nat.zero_le _))
 |some d=>exact StatT_Pack hB hI ho hl hR
theorem parent_pack {v:Value} {b:Bool} (hI:Inv S) (ho:(b=false/\v= .pointer none)\/(b=true/\∃a,v= .pointer (some a))) (hl:S.buf.length+5000<=536870912)
  (hR:∀H',Qd H' p (QdR b S).1 F 0->R (.int .u32 ((QdR b S).2:Nat)) H'):FnS prog 106 #[v,.pointer (some ⟨p,0,none⟩)] H R:=by
 rcases ho with ⟨rfl,rfl⟩|⟨rfl,a,rfl⟩
 ·exact Qcz hB hI (Or.inl rfl) hl (fun _=>hR H (hB.room (Nat.zero_le _))) (fun h=>absurd rfl h)
 ·exact Qcz hB hI (Or.inr ⟨a,rfl⟩) hl (fun h=>by cases h) (fun _=>hR)
end
set_option maxHeartbeats 4000000 in
set_option maxRecDepth 4000 in
theorem packStep {n:Nat} (ih:PackOk n):PackOk (n+1):=by
 intro m hm H p S F r v R hB hI hv hl hR
 cases hv with
 |mk v d c ptrs tables enemy test uniq amb obj own tl tlen tt te tu tq ta=>
 have hpk:Zt (.mk d tables enemy test uniq amb) S=packT d (Qx Zt tables) (Ya enemy) (Ya test) (Ya uniq) (Ya amb) S:=by rw[Zt,funext (Qf7 tables)]
 have hcost:Yy (.mk d tables enemy test uniq amb)=Qig d+60*tables.length+ZB tables+ZB enemy+ZB test+ZB uniq+ZB amb:=by rw[Yy]
 have hD:Qig d=Qig d:=rfl
 conv at hD=>rhs;unfold Qig
 rw[hcost]at hm hl
 rw[hpk]at hR
 clear hpk hcost
 apply w23
 rw[packHead_eq]
 unfold packHead
 obtain ⟨q,e,rfl,hq⟩:=obj
 have obj:Qa1 F (.pointer (some ⟨q,0,none⟩)) (mtCells d c):=⟨q,e,rfl,hq⟩
 rw[Y4 (by kernel_rfl)]
 show IfK (.bool false) _ _
 rw[Ql]
 refine obj.ld hB.cut (i:=3) (YM d.name) rfl ?_
 refine str_pack hB hI (by omega) ?_
 intro H1 b1
 have k1:=Qc5 d.name hI
 have l1:=k1.len
 generalize hq1:QaZ d.name S=q1 at *
 refine QiJ b1 (e0:=5) (xs:=d.inventory) (by kernel_rfl) obj (fld:=4) rfl own.inv k1.inv (by omega) ?_
 intro H2 b2
 have k2:=Qic d.inventory k1.inv
 have l2:=k2.len
 generalize hq2:optB d.inventory q1.1=q2 at *
 refine obj.ld b2.cut (i:=6) c.test rfl ?_
 refine AnyT_Pack b2 own.test (kidOk ih b2 k2.inv (by omega) tu (by omega)) k2.inv (by omega) ?_
 intro H3 b3
 have k3:=QeO (amb:=false) (ty:=d.testTy) (color:=d.testColor) k2.inv (ZF test q2.1 k2.inv)
 have l3:=k3.len
 generalize hq3:Qbp false d.testTy d.testColor (Ya test) q2.1=q3 at *
 obtain ⟨pl3,pn3,pe3,pt3⟩:=own.test4
 refine Qd9 b3 (e0:=164) (es:=4) (al:=2) (k:=1) (items:=(d.test4.map (fun t:QbF=>QaW t.a.toNat t.b.toNat))) (by kernel_rfl) obj (fld:=7) rfl pn3 (by rw[List.length_map];exact pe3) (Yb (f:=(fun t:QbF=>QaW t.a.toNat t.b.toNat)) (k:=4) (fun _=>Qb1 _ _)) k3.inv rfl (by decide) (by rw[List.length_map];omega) (by rw[List.length_map];omega) ?_ ?_ ?_
 ·intro H0 hb0 R0 h0
  refine Qd6 hb0 k3.inv.nested (by rw[List.length_map];omega) ?_
  intro H' v' h'
  exact h0 H' v' (h'.room (YF (k:=1) _ rfl (by decide)))
 ·intro i h1 h2 S' H' r' hb' hr ha hmn hal hl' R' h'
  simp only[List.getElem_map]at h'⊢
  refine TestT_Pack hb' (pt3 i _ _ (List.getElem?_eq_getElem h1) (List.getElem?_eq_getElem (by simpa using h2))) hr (by omega) (by omega) (by omega) ?_
  exact h'
 intro H4 b4
 have k4:=Qbq (es:=4) (al:=2) (items:=(d.test4.map (fun t:QbF=>QaW t.a.toNat t.b.toNat))) P2_2 (Yb (f:=(fun t:QbF=>QaW t.a.toNat t.b.toNat)) (k:=4) (fun _=>Qb1 _ _) (l:=d.test4)) k3.inv
 have l4:=k4.len
 generalize hq4:Qh4 4 2 (d.test4.map (fun t:QbF=>QaW t.a.toNat t.b.toNat)) q3.1=q4 at *
 rw[List.length_map]at l4
 refine QhF b4 (e0:=9) (xs:=d.strings) (pk:=QaZ) (c:=(fun x=>x.length+8)) (sl:=5000) (by kernel_rfl) obj (fld:=8) rfl own.strings (by rw[List.length_map]) k4.inv (by omega) (fun x _ S h=>Qc5 x h) (by rw[QcT];omega) ?_ ?_ ?_
 ·intro H0 S0 F0 hb0 hi0 hl0 R0 h0
  refine Qat hb0 hi0.nested (by omega) ?_
  intro H' v' h'
  exact h0 H' v' (h'.room (YF (k:=2) _ rfl (by decide)))
 ·intro i h1 h2 S' H' F' hF hb' hi' hl' R' h'
  simp only[List.getElem_map]
  have hl2:S'.buf.length+(d.strings[i].length+8)+5000<=536870912:=hl'
  exact str_pack hb' hi' (by omega) h'
 intro H5 b5
 have k5:=strs_ok d.strings k4.inv
 have l5:=k5.len
 generalize hq5:Qii (Qx QaZ d.strings) q4.1=q5 at *
 have hts:=costs_sum tables
 refine QhF b5 (e0:=73) (xs:=tables) (pk:=Zt) (c:=Yy) (sl:=20000) (by kernel_rfl) obj (fld:=9) rfl tl tlen k5.inv (by omega) (fun x _ S h=>(Qgz x S h).1) (by rw[hts];omega) ?_ ?_ ?_
 ·intro H0 S0 F0 hb0 hi0 hl0 R0 h0
  refine Qau hb0 hi0.nested (by omega) ?_
  intro H' v' h'
  exact h0 H' v' (h'.room (YF (k:=2) _ rfl (by decide)))
 ·intro i h1 h2 S' H' F' hF hb' hi' hl' R' h'
  have hcm:=costs_mem (List.getElem_mem h2)
  exact ih _ (by omega) H' p S' F' _ _ R' hb' hi' ((tt i _ _ (List.getElem?_eq_getElem h1) (List.getElem?_eq_getElem h2)).mono hF) hl' h'
 intro H6 b6
 have k6:=optO_ok (q:=Qx Zt tables) (c:=ZB tables) (n:=tables.length) k5.inv (by have:=(QeF tables _ k5.inv).1;rwa [Qf7]at this) (Qa8 _ _ _)
 have l6:=k6.len
 generalize hq6:Qii (Qx Zt tables) q5.1=q6 at *
 refine obj.ld b6.cut (i:=10) c.enemy rfl ?_
 refine enemy_pack b6 ih k6.inv own.enemy (by omega) te (by omega) ?_
 intro H7 b7
 have k7:=ZF enemy q6.1 k6.inv
 have l7:=k7.len
 generalize hq7:Ya enemy q6.1=q7 at *
 refine QiJ b7 (e0:=5) (xs:=d.nested) (by kernel_rfl) obj (fld:=11) rfl own.nested k7.inv (by omega) ?_
 intro H8 b8
 have k8:=Qic d.nested k7.inv
 have l8:=k8.len
 generalize hq8:optB d.nested q7.1=q8 at *
 refine obj.ld b8.cut (i:=12) c.empty rfl ?_
 refine stat_pack b8 k8.inv own.empty (by omega) ?_
 intro H9 b9
 have k9:=optStat_ok d.empty k8.inv
 have l9:=k9.len
 generalize hq9:Qhg d.empty q8.1=q9 at *
 refine Qd9 b9 (e0:=4) (es:=1) (al:=1) (k:=0) (items:=(d.bools.map Qfe)) (by kernel_rfl) obj (fld:=22) rfl own.bools (by rw[List.length_map,List.length_map]) (Yb (f:=Qfe) (k:=1) (fun _=>rfl)) k9.inv rfl (by decide) (by rw[List.length_map];omega) (by rw[List.length_map];omega) ?_ ?_ ?_
 ·intro H0 hb0 R0 h0
  refine QaG hb0 k9.inv.nested (by rw[List.length_map];omega) ?_
  intro H' v' h'
  exact h0 H' v' (h'.room (YF (k:=0) _ rfl (by decide)))
 ·intro i h1 h2 S' H' r' hb' hr ha hmn hal hl' R' h'
  simp only[List.getElem_map]at h'⊢
  refine al_Bool hb' (by omega) (by omega) (by omega) ?_
  intro H'' h''
  exact h' H'' _ h''
 intro H10 b10
 have k10:=Qbq (es:=1) (al:=1) (items:=(d.bools.map Qfe)) P2_1 (Yb (f:=Qfe) (k:=1) (fun _=>rfl) (l:=d.bools)) k9.inv
 have l10:=k10.len
 generalize hq10:Qh4 1 1 (d.bools.map Qfe) q9.1=q10 at *
 rw[List.length_map]at l10
 refine QhF b10 (e0:=9) (xs:=d.strings2) (pk:=QaZ) (c:=(fun x=>x.length+8)) (sl:=5000) (by kernel_rfl) obj (fld:=26) rfl own.strings2 (by rw[List.length_map]) k10.inv (by omega) (fun x _ S h=>Qc5 x h) (by rw[QcT];omega) ?_ ?_ ?_
 ·intro H0 S0 F0 hb0 hi0 hl0 R0 h0
  refine Qao hb0 hi0.nested (by omega) ?_
  intro H' v' h'
  exact h0 H' v' (h'.room (YF (k:=2) _ rfl (by decide)))
 ·intro i h1 h2 S' H' F' hF hb' hi' hl' R' h'
  simp only[List.getElem_map]
  have hl2:S'.buf.length+(d.strings2[i].length+8)+5000<=536870912:=hl'
  exact str_pack hb' hi' (by omega) h'
 intro H11 b11
 have k11:=strs_ok d.strings2 k10.inv
 have l11:=k11.len
 generalize hq11:Qii (Qx QaZ d.strings2) q10.1=q11 at *
 obtain ⟨pl11,pn11,pe11,pt11⟩:=own.abil
 refine Qd9 b11 (e0:=169) (es:=8) (al:=4) (k:=2) (items:=(d.abilities.map (fun t:QeD=>Z9 t.id.toNat t.dist.toNat))) (by kernel_rfl) obj (fld:=27) rfl pn11 (by rw[List.length_map];exact pe11) (Yb (f:=(fun t:QeD=>Z9 t.id.toNat t.dist.toNat)) (k:=8) (fun _=>Qc1 _ _)) k11.inv rfl (by decide) (by rw[List.length_map];omega) (by rw[List.length_map];omega) ?_ ?_ ?_
 ·intro H0 hb0 R0 h0
  refine Qa2 hb0 k11.inv.nested (by rw[List.length_map];omega) ?_
  intro H' v' h'
  exact h0 H' v' (h'.room (YF (k:=2) _ rfl (by decide)))
 ·intro i h1 h2 S' H' r' hb' hr ha hmn hal hl' R' h'
  simp only[List.getElem_map]at h'⊢
  refine AbilityT_Pack hb' (pt11 i _ _ (List.getElem?_eq_getElem h1) (List.getElem?_eq_getElem (by simpa using h2))) hr (by omega) (by omega) (by omega) ?_
  exact h'
 intro H12 b12
 have k12:=Qbq (es:=8) (al:=4) (items:=(d.abilities.map (fun t:QeD=>Z9 t.id.toNat t.dist.toNat))) Qhu (Yb (f:=(fun t:QeD=>Z9 t.id.toNat t.dist.toNat)) (k:=8) (fun _=>Qc1 _ _) (l:=d.abilities)) k11.inv
 have l12:=k12.len
 generalize hq12:Qh4 8 4 (d.abilities.map (fun t:QeD=>Z9 t.id.toNat t.dist.toNat)) q11.1=q12 at *
 rw[List.length_map]at l12
 refine QiJ b12 (e0:=5) (xs:=d.flex) (by kernel_rfl) obj (fld:=28) rfl own.flex k12.inv (by omega) ?_
 intro H13 b13
 have k13:=Qic d.flex k12.inv
 have l13:=k13.len
 generalize hq13:optB d.flex q12.1=q13 at *
 obtain ⟨pl13,pn13,pe13,pt13⟩:=own.test5
 refine Qd9 b13 (e0:=164) (es:=4) (al:=2) (k:=1) (items:=(d.test5.map (fun t:QbF=>QaW t.a.toNat t.b.toNat))) (by kernel_rfl) obj (fld:=29) rfl pn13 (by rw[List.length_map];exact pe13) (Yb (f:=(fun t:QbF=>QaW t.a.toNat t.b.toNat)) (k:=4) (fun _=>Qb1 _ _)) k13.inv rfl (by decide) (by rw[List.length_map];omega) (by rw[List.length_map];omega) ?_ ?_ ?_
 ·intro H0 hb0 R0 h0
  refine QcV hb0 k13.inv.nested (by rw[List.length_map];omega) ?_
  intro H' v' h'
  exact h0 H' v' (h'.room (YF (k:=1) _ rfl (by decide)))
 ·intro i h1 h2 S' H' r' hb' hr ha hmn hal hl' R' h'
  simp only[List.getElem_map]at h'⊢
  refine TestT_Pack hb' (pt13 i _ _ (List.getElem?_eq_getElem h1) (List.getElem?_eq_getElem (by simpa using h2))) hr (by omega) (by omega) (by omega) ?_
  exact h'
 intro H14 b14
 have k14:=Qbq (es:=4) (al:=2) (items:=(d.test5.map (fun t:QbF=>QaW t.a.toNat t.b.toNat))) P2_2 (Yb (f:=(fun t:QbF=>QaW t.a.toNat t.b.toNat)) (k:=4) (fun _=>Qb1 _ _) (l:=d.test5)) k13.inv
 have l14:=k14.len
 generalize hq14:Qh4 4 2 (d.test5.map (fun t:QbF=>QaW t.a.toNat t.b.toNat)) q13.1=q14 at *
 rw[List.length_map]at l14
 refine Qd9 b14 (e0:=2) (es:=8) (al:=8) (k:=3) (items:=(d.longs.map QaB)) (by kernel_rfl) obj (fld:=30) rfl own.longs (by rw[List.length_map,List.length_map]) (Yb (f:=QaB) (k:=8) (fun _=>Qc _ _)) k14.inv rfl (by decide) (by rw[List.length_map];omega) (by rw[List.length_map];omega) ?_ ?_ ?_
 ·intro H0 hb0 R0 h0
  refine Qb3 hb0 k14.inv.nested (by rw[List.length_map];omega) ?_
  intro H' v' h'
  exact h0 H' v' (h'.room (YF (k:=3) _ rfl (by decide)))
 ·intro i h1 h2 S' H' r' hb' hr ha hmn hal hl' R' h'
  simp only[List.getElem_map]at h'⊢
  refine al_Int64 hb' (by omega) (by omega) (by omega) ?_
  intro H'' h''
  rw[Zu (by decide)]at h''
  exact h' H'' _ h''
 intro H15 b15
 have k15:=Qbq (es:=8) (al:=8) (items:=(d.longs.map QaB)) Qek (Yb (f:=QaB) (k:=8) (fun _=>Qc _ _) (l:=d.longs)) k14.inv
 have l15:=k15.len
 generalize hq15:Qh4 8 8 (d.longs.map QaB) q14.1=q15 at *
 rw[List.length_map]at l15
 refine Qd9 b15 (e0:=162) (es:=8) (al:=8) (k:=3) (items:=(d.doubles.map QaB)) (by kernel_rfl) obj (fld:=31) rfl own.doubles (by rw[List.length_map,List.length_map]) (Yb (f:=QaB) (k:=8) (fun _=>Qc _ _)) k15.inv rfl (by decide) (by rw[List.length_map];omega) (by rw[List.length_map];omega) ?_ ?_ ?_
 ·intro H0 hb0 R0 h0
  refine QaO hb0 k15.inv.nested (by rw[List.length_map];omega) ?_
  intro H' v' h'
  exact h0 H' v' (h'.room (YF (k:=3) _ rfl (by decide)))
 ·intro i h1 h2 S' H' r' hb' hr ha hmn hal hl' R' h'
  simp only[List.getElem_map]at h'⊢
  refine al_Float64 hb' (by omega) (by omega) (by omega) ?_
  intro H'' h''
  exact h' H'' _ h''
 intro H16 b16
 have k16:=Qbq (es:=8) (al:=8) (items:=(d.doubles.map QaB)) Qek (Yb (f:=QaB) (k:=8) (fun _=>Qc _ _) (l:=d.doubles)) k15.inv
 have l16:=k16.len
 generalize hq16:Qh4 8 8 (d.doubles.map QaB) q15.1=q16 at *
 rw[List.length_map]at l16
 refine obj.ld b16.cut (i:=32) c.parent rfl ?_
 refine parent_pack b16 k16.inv own.parent (by omega) ?_
 intro H17 b17
 have k17:=Qj3 d.parent k16.inv
 have l17:=k17.len
 generalize hq17:QdR d.parent q16.1=q17 at *
 obtain ⟨pl17,pn17,pe17,pt17⟩:=own.refs
 refine QhF b17 (e0:=191) (xs:=d.refs) (pk:=Qb6) (c:=(fun _=>40)) (sl:=5000) (by kernel_rfl) obj (fld:=33) rfl pn17 pe17 k17.inv (by omega) (fun x _ S h=>(QeW x h).1) (by rw[Qbi];omega) ?_ ?_ ?_
 ·intro H0 S0 F0 hb0 hi0 hl0 R0 h0
  refine Qah hb0 hi0.nested (by omega) ?_
  intro H' v' h'
  exact h0 H' v' (h'.room (YF (k:=2) _ rfl (by decide)))
 ·intro i h1 h2 S' H' F' hF hb' hi' hl' R' h'
  have hl2:S'.buf.length+40+5000<=536870912:=hl'
  exact QfF hb' hi' ((pt17 i _ _ (List.getElem?_eq_getElem h1) (List.getElem?_eq_getElem h2)).mono hF) (by omega) h'
 intro H18 b18
 have k18:=refs_ok d.refs k17.inv
 have l18:=k18.len
 generalize hq18:Qii (Qx Qb6 d.refs) q17.1=q18 at *
 refine Qd9 b18 (e0:=31) (es:=8) (al:=8) (k:=3) (items:=(d.weak.map QaB)) (by kernel_rfl) obj (fld:=35) rfl own.weak (by rw[List.length_map,List.length_map]) (Yb (f:=QaB) (k:=8) (fun _=>Qc _ _)) k18.inv rfl (by decide) (by rw[List.length_map];omega) (by rw[List.length_map];omega) ?_ ?_ ?_
 ·intro H0 hb0 R0 h0
  refine Qa6 hb0 k18.inv.nested (by rw[List.length_map];omega) ?_
  intro H' v' h'
  exact h0 H' v' (h'.room (YF (k:=3) _ rfl (by decide)))
 ·intro i h1 h2 S' H' r' hb' hr ha hmn hal hl' R' h'
  simp only[List.getElem_map]at h'⊢
  refine al_Uint64 hb' (by omega) (by omega) (by omega) ?_
  intro H'' h''
  exact h' H'' _ h''
 intro H19 b19
 have k19:=Qbq (es:=8) (al:=8) (items:=(d.weak.map QaB)) Qek (Yb (f:=QaB) (k:=8) (fun _=>Qc _ _) (l:=d.weak)) k18.inv
 have l19:=k19.len
 generalize hq19:Qh4 8 8 (d.weak.map QaB) q18.1=q19 at *
 rw[List.length_map]at l19
 obtain ⟨pl19,pn19,pe19,pt19⟩:=own.strong
 refine QhF b19 (e0:=191) (xs:=d.strong) (pk:=Qb6) (c:=(fun _=>40)) (sl:=5000) (by kernel_rfl) obj (fld:=36) rfl pn19 pe19 k19.inv (by omega) (fun x _ S h=>(QeW x h).1) (by rw[Qbi];omega) ?_ ?_ ?_
 ·intro H0 S0 F0 hb0 hi0 hl0 R0 h0
  refine ZQ hb0 hi0.nested (by omega) ?_
  intro H' v' h'
  exact h0 H' v' (h'.room (YF (k:=2) _ rfl (by decide)))
 ·intro i h1 h2 S' H' F' hF hb' hi' hl' R' h'
  have hl2:S'.buf.length+40+5000<=536870912:=hl'
  exact QfF hb' hi' ((pt19 i _ _ (List.getElem?_eq_getElem h1) (List.getElem?_eq_getElem h2)).mono hF) (by omega) h'
 intro H20 b20
 have k20:=refs_ok d.strong k19.inv
 have l20:=k20.len
 generalize hq20:Qii (Qx Qb6 d.strong) q19.1=q20 at *
 refine Qd9 b20 (e0:=31) (es:=8) (al:=8) (k:=3) (items:=(d.coOwnings.map QaB)) (by kernel_rfl) obj (fld:=38) rfl own.coOwnings (by rw[List.length_map,List.length_map]) (Yb (f:=QaB) (k:=8) (fun _=>Qc _ _)) k20.inv rfl (by decide) (by rw[List.length_map];omega) (by rw[List.length_map];omega) ?_ ?_ ?_
 ·intro H0 hb0 R0 h0
  refine ZO hb0 k20.inv.nested (by rw[List.length_map];omega) ?_
  intro H' v' h'
  exact h0 H' v' (h'.room (YF (k:=3) _ rfl (by decide)))
 ·intro i h1 h2 S' H' r' hb' hr ha hmn hal hl' R' h'
  simp only[List.getElem_map]at h'⊢
  refine al_Uint64 hb' (by omega) (by omega) (by omega) ?_
  intro H'' h''
  exact h' H'' _ h''
 intro H21 b21
 have k21:=Qbq (es:=8) (al:=8) (items:=(d.coOwnings.map QaB)) Qek (Yb (f:=QaB) (k:=8) (fun _=>Qc _ _) (l:=d.coOwnings)) k20.inv
 have l21:=k21.len
 generalize hq21:Qh4 8 8 (d.coOwnings.map QaB) q20.1=q21 at *
 rw[List.length_map]at l21
 refine Qd9 b21 (e0:=31) (es:=8) (al:=8) (k:=3) (items:=(d.nonOwnings.map QaB)) (by kernel_rfl) obj (fld:=40) rfl own.nonOwnings (by rw[List.length_map,List.length_map]) (Yb (f:=QaB) (k:=8) (fun _=>Qc _ _)) k21.inv rfl (by decide) (by rw[List.length_map];omega) (by rw[List.length_map];omega) ?_ ?_ ?_
 ·intro H0 hb0 R0 h0
  refine ZJ hb0 k21.inv.nested (by rw[List.length_map];omega) ?_
  intro H' v' h'
  exact h0 H' v' (h'.room (YF (k:=3) _ rfl (by decide)))
 ·intro i h1 h2 S' H' r' hb' hr ha hmn hal hl' R' h'
  simp only[List.getElem_map]at h'⊢
  refine al_Uint64 hb' (by omega) (by omega) (by omega) ?_
  intro H'' h''
  exact h' H'' _ h''
 intro H22 b22
 have k22:=Qbq (es:=8) (al:=8) (items:=(d.nonOwnings.map QaB)) Qek (Yb (f:=QaB) (k:=8) (fun _=>Qc _ _) (l:=d.nonOwnings)) k21.inv
 have l22:=k22.len
 generalize hq22:Qh4 8 8 (d.nonOwnings.map QaB) q21.1=q22 at *
 rw[List.length_map]at l22
 refine obj.ld b22.cut (i:=41) c.uniq rfl ?_
 refine QfK b22 own.uniq (kidOk ih b22 k22.inv (by omega) tq (by omega)) k22.inv (by omega) ?_
 intro H23 b23
 have k23:=QeO (amb:=false) (ty:=d.uniqTy) (color:=d.uniqColor) k22.inv (ZF uniq q22.1 k22.inv)
 have l23:=k23.len
 generalize hq23:Qbp false d.uniqTy d.uniqColor (Ya uniq) q22.1=q23 at *
 refine obj.ld b23.cut (i:=42) c.amb rfl ?_
 refine Qey b23 own.amb (kidOk ih b23 k23.inv (by omega) ta (by omega)) k23.inv (by omega) ?_
 intro H24 b24
 have k24:=QeO (amb:=true) (ty:=d.ambTy) (color:=d.ambColor) k23.inv (ZF amb q23.1 k23.inv)
 have l24:=k24.len
 generalize hq24:Qbp true d.ambTy d.ambColor (Ya amb) q23.1=q24 at *
 refine Qd9 b24 (e0:=142) (es:=1) (al:=1) (k:=0) (items:=(d.enums.map (fun b:UInt8=>[b]))) (by kernel_rfl) obj (fld:=43) rfl own.enums (by rw[List.length_map,List.length_map]) (Yb (f:=(fun b:UInt8=>[b])) (k:=1) (fun _=>rfl)) k24.inv rfl (by decide) (by rw[List.length_map];omega) (by rw[List.length_map];omega) ?_ ?_ ?_
 ·intro H0 hb0 R0 h0
  refine Qb5 hb0 k24.inv.nested (by rw[List.length_map];omega) ?_
  intro H' v' h'
  exact h0 H' v' (h'.room (YF (k:=0) _ rfl (by decide)))
 ·intro i h1 h2 S' H' r' hb' hr ha hmn hal hl' R' h'
  simp only[List.getElem_map]at h'⊢
  refine al_Byte hb' (by omega) (by omega) (by omega) ?_
  intro H'' h''
  exact h' H'' _ h''
 intro H25 b25
 have k25:=Qbq (es:=1) (al:=1) (items:=(d.enums.map (fun b:UInt8=>[b]))) P2_1 (Yb (f:=(fun b:UInt8=>[b])) (k:=1) (fun _=>rfl) (l:=d.enums)) k24.inv
 have l25:=k25.len
 generalize hq25:Qh4 1 1 (d.enums.map (fun b:UInt8=>[b])) q24.1=q25 at *
 rw[List.length_map]at l25
 have hl25:q25.1.buf.length+10000<=536870912:=by omega
 have n25:q25.1.buf.length<=q25.1.buf.length:=Nat.le_refl _
 have n24:q24.1.buf.length<=q25.1.buf.length:=Nat.le_trans k25.le n25
 have n23:q23.1.buf.length<=q25.1.buf.length:=Nat.le_trans k24.le n24
 have n22:q22.1.buf.length<=q25.1.buf.length:=Nat.le_trans k23.le n23
 have n21:q21.1.buf.length<=q25.1.buf.length:=Nat.le_trans k22.le n22
 have n20:q20.1.buf.length<=q25.1.buf.length:=Nat.le_trans k21.le n21
 have n19:q19.1.buf.length<=q25.1.buf.length:=Nat.le_trans k20.le n20
 have n18:q18.1.buf.length<=q25.1.buf.length:=Nat.le_trans k19.le n19
 have n17:q17.1.buf.length<=q25.1.buf.length:=Nat.le_trans k18.le n18
 have n16:q16.1.buf.length<=q25.1.buf.length:=Nat.le_trans k17.le n17
 have n15:q15.1.buf.length<=q25.1.buf.length:=Nat.le_trans k16.le n16
 have n14:q14.1.buf.length<=q25.1.buf.length:=Nat.le_trans k15.le n15
 have n13:q13.1.buf.length<=q25.1.buf.length:=Nat.le_trans k14.le n14
 have n12:q12.1.buf.length<=q25.1.buf.length:=Nat.le_trans k13.le n13
 have n11:q11.1.buf.length<=q25.1.buf.length:=Nat.le_trans k12.le n12
 have n10:q10.1.buf.length<=q25.1.buf.length:=Nat.le_trans k11.le n11
 have n9:q9.1.buf.length<=q25.1.buf.length:=Nat.le_trans k10.le n10
 have n8:q8.1.buf.length<=q25.1.buf.length:=Nat.le_trans k9.le n9
 have n7:q7.1.buf.length<=q25.1.buf.length:=Nat.le_trans k8.le n8
 have n6:q6.1.buf.length<=q25.1.buf.length:=Nat.le_trans k7.le n7
 have n5:q5.1.buf.length<=q25.1.buf.length:=Nat.le_trans k6.le n6
 have n4:q4.1.buf.length<=q25.1.buf.length:=Nat.le_trans k5.le n5
 have n3:q3.1.buf.length<=q25.1.buf.length:=Nat.le_trans k4.le n4
 have n2:q2.1.buf.length<=q25.1.buf.length:=Nat.le_trans k3.le n3
 have n1:q1.1.buf.length<=q25.1.buf.length:=Nat.le_trans k2.le n2
 have hfold:Qx (fun f=>f) (Qbo d (Qx Zt tables) (Ya enemy) (Ya test) (Ya uniq) (Ya amb)) S=(q25.1,[q1.2,q2.2,q3.2,q4.2,q5.2,q6.2,q7.2,q8.2,q9.2,q10.2,q11.2,q12.2,q13.2,q14.2,q15.2,q16.2,q17.2,q18.2,q19.2,q20.2,q21.2,q22.2,q23.2,q24.2,q25.2]):=by
  simp only[Qbo,Qx,hq1,hq2,hq3,hq4,hq5,hq6,hq7,hq8,hq9,hq10,hq11,hq12,hq13,hq14,hq15,hq16,hq17,hq18,hq19,hq20,hq21,hq22,hq23,hq24,hq25]
 refine packTail_ok b25 k25.inv obj own hl25 (Nat.le_trans k1.off n1) (Nat.le_trans k2.off n2) (Nat.le_trans k3.off n3) (Nat.le_trans k4.off n4) (Nat.le_trans k5.off n5) (Nat.le_trans k6.off n6) (Nat.le_trans k7.off n7) (Nat.le_trans k8.off n8) (Nat.le_trans k9.off n9) (Nat.le_trans k10.off n10) (Nat.le_trans k11.off n11) (Nat.le_trans k12.off n12) (Nat.le_trans k13.off n13) (Nat.le_trans k14.off n14) (Nat.le_trans k15.off n15) (Nat.le_trans k16.off n16) (Nat.le_trans k17.off n17) (Nat.le_trans k18.off n18) (Nat.le_trans k19.off n19) (Nat.le_trans k20.off n20) (Nat.le_trans k21.off n21) (Nat.le_trans k22.off n22) (Nat.le_trans k23.off n23) (Nat.le_trans k24.off n24) (Nat.le_trans k25.off n25) ?_
 intro H' h'
 unfold packT at hR
 rw[hfold]at hR
 exact hR H' h'
theorem QeE:∀n,PackOk n
 |0=>fun m hm=>by omega
 |n+1=>packStep (QeE n)
theorem MonsterT_Pack {m:Mon} {H:Qf} {p:Nat} {S:BS} {F:Cut} {r:Nat} {v:Value} {R:Kn} (hB:Qd H p S F r) (hI:Inv S) (hv:MT F v m) (hl:S.buf.length+Yy m+20000<=536870912)
  (hR:∀H',Qd H' p (Zt m S).1 F 0->R (.int .u32 ((Zt m S).2:Nat)) H'):FnS prog 23 #[v,.pointer (some ⟨p,0,none⟩)] H R:=
 QeE (Yy m+1) m (Nat.lt_succ_self _) H p S F r v R hB hI hv hl hR
end Go.Proofs
namespace Go.Proofs
open Go Go.Vc
open Tryz (prog)
theorem putL_mid {α:Type} (A m xs B:List α) (h:m.length=xs.length):Qab (A++(m++B)) A.length xs=A++(xs++B):=by
 rw[Qd0 _ _ _ (by simp;omega)]
 rw[List.take_left,List.drop_append,<-h]
 have e:List.drop (A.length+m.length) A=[]:=List.drop_eq_nil_of_le (by omega)
 rw[e,show A.length+m.length-A.length=m.length by omega,List.drop_left]
 simp
theorem le4_leBI (x:Int) (rest:List UInt8):(le4 (leB x 4++rest) 0:Int)=x%4294967296:=by
 have hb:∀i,i<4->(byteN (leB x 4++rest) i:Int)=(x/2^(8*i))%256:=by
  intro i hi
  have:byteN (leB x 4++rest) i=byteN (leB x 4) i:=by
   unfold byteN
   congr 1
   simp only[List.getD]
   rw[List.getElem?_append_left (by rw[Qc];exact hi)]
  rw[this,QeL hi,QhV]
 have h0:=hb 0 (by omega)
 have h1:=hb 1 (by omega)
 have h2:=hb 2 (by omega)
 have h3:=hb 3 (by omega)
 rw[le4_eq]
 rw[show (2:Int)^(8*0)=1 from rfl]at h0
 rw[show (2:Int)^(8*1)=256 from rfl]at h1
 rw[show (2:Int)^(8*2)=65536 from rfl]at h2
 rw[show (2:Int)^(8*3)=16777216 from rfl]at h3
 simp only[Nat.zero_add]
 omega
def entB (oo v:Nat):List UInt8:=leB ((if v≠0 then oo-v else 0:Nat):Int) 2
def ents (oo:Nat) (vs:List Nat):List UInt8:=(vs.map (entB oo)).flatten
theorem ents_len (oo:Nat):∀vs,(ents oo vs).length=2*vs.length
 |[]=>rfl
 |v::vs=>by
  have:=ents_len oo vs
  unfold ents at this⊢
  rw[List.map_cons,List.flatten_cons,List.length_append,this,entB,Qc,List.length_cons];omega
theorem wrEnt_buf (oo:Nat):∀(vs:List Nat) (S:BS),S.buf.length%2=0->(wrEnt oo vs S).buf=ents oo vs++S.buf
 |[],S,_=>rfl
 |v::vs,S,h=>by
  have ih:=wrEnt_buf oo vs S h
  rw[wrEnt,Qfw,ih,YZ (by rw[List.length_append,ents_len];omega)]
  simp[ents,entB]
theorem le2_ents (oo:Nat) (rest:List UInt8):∀(vs:List Nat) (i:Nat),i<vs.length->le2 (ents oo vs++rest) (2*i)=(if vs.getD i 0≠0 then oo-vs.getD i 0 else 0)%65536
 |v::vs,0,_=>by
  have e:ents oo (v::vs)++rest=leB ((if v≠0 then oo-v else 0:Nat):Int) 2++(ents oo vs++rest):=by simp[ents,entB]
  rw[e]
  exact QiG (Nat.le_refl _) _
 |v::vs,i+1,h=>by
  have e:ents oo (v::vs)++rest=leB ((if v≠0 then oo-v else 0:Nat):Int) 2++(ents oo vs++rest):=by simp[ents,entB]
  have e2:2*(i+1)=(leB ((if v≠0 then oo-v else 0:Nat):Int) 2).length+2*i:=by rw[Qc];omega
  rw[e,e2,YC,le2_ents oo rest vs i (by simpa using h)]
  rfl
theorem Qem:∀(l:List Nat) (j:Nat),Ys l<=j->l.getD j 0=0
 |[],j,_=>by simp
 |x::xs,j,h=>by
  rw[Ys]at h
  split at h
  ·rename_i hx
   cases j with
   |zero=>simpa using hx.2
   |succ j=>simpa using Qem xs j (by omega)
  ·cases j with
   |zero=>omega
   |succ j=>simpa using Qem xs j (by omega)
theorem getD_take (l:List Nat) (n j:Nat) (h:j<n):(l.take n).getD j 0=l.getD j 0:=by
 simp only[List.getD]
 rw[List.getElem?_take,if_pos h]
structure Qbm (S:BS):Prop where
 ev:∀o∈S.vts,o%2=0
 wh:∀o∈S.vts,4<=le2 S.buf (S.buf.length-o+2)/\le2 S.buf (S.buf.length-o+2)<=o
 en:∀o∈S.vts,∀i,6+2*i<=le2 S.buf (S.buf.length-o)->le2 S.buf (S.buf.length-o+(4+2*i))<le2 S.buf (S.buf.length-o+2)
theorem Qbm.ext {S S':BS} (h:Qbm S) (hk:QhM S) (hv:S'.vts=S.vts) {x:List UInt8} (hb:S'.buf=x++S.buf):Qbm S':=by
 have key:∀o∈S.vts,∀i,le2 S'.buf (S'.buf.length-o+i)=le2 S.buf (S.buf.length-o+i):=fun o ho i=>by
  obtain ⟨h1,h2,h3,h4⟩:=hk o ho
  have e:S'.buf.length-o+i=x.length+(S.buf.length-o+i):=by rw[hb,List.length_append];omega
  rw[e,hb,YC]
 have key0:∀o∈S.vts,le2 S'.buf (S'.buf.length-o)=le2 S.buf (S.buf.length-o):=fun o ho=>key o ho 0
 refine ⟨fun o ho=>h.ev o (hv▸ho),fun o ho=>?_,fun o ho i hi=>?_⟩
 ·rw[hv]at ho;rw[key o ho];exact h.wh o ho
 ·rw[hv]at ho;rw[key o ho,key o ho];rw[key0 o ho]at hi;exact h.en o ho i hi
theorem Qbm.new:Qbm Qan:=⟨fun o ho=>by simp[Qan]at ho,fun o ho=>by simp[Qan]at ho,fun o ho=>by simp[Qan]at ho⟩
structure ObjRd (bs:List UInt8) (pos vt:Nat) (v:Nat->Nat) (n:Nat):Prop where
 ok:VT bs pos vt
 sl:∀j,j<n->slotAt bs vt (4+2*j)=if v j=0 then 0 else bs.length-pos-v j
 pl:∀j,j<n->v j≠0->v j+4<=bs.length-pos
 w4:4<=le2 bs (vt+2)/\pos+le2 bs (vt+2)<=bs.length
 wl:∀j,j<n->slotAt bs vt (4+2*j)<le2 bs (vt+2)
 al:(bs.length-pos)%4=0/\(bs.length-vt)%2=0
theorem endObj_read {S0 S:BS} {n c:Nat} (h:Y8 S0 n c S) (hg:∀j,S.vt.getD j 0=0\/S0.buf.length<S.vt.getD j 0) (h0:Inv S0) (h2:Qbm S0) (hn:n<1000) (hc:c<60000) (hl:S.buf.length<1000000000):
  Qbm (endObj S)/\(∃y,(endObj S).buf=y++S.buf)/\(putOff 0 S).buf.length<=(endObj S).buf.length/\S.buf.length+4<=(putOff 0 S).buf.length/\
   ∃vt,ObjRd (endObj S).buf ((endObj S).buf.length-(putOff 0 S).buf.length) vt (fun j=>S.vt.getD j 0) n:=by
 obtain ⟨x,hx⟩:=h.ext
 have hp:=Zw (size:=4) (n:=S.buf.length+0) (by decide)
 have hpm:=Qcl (size:=4) (n:=S.buf.length+0) (by decide)
 generalize hpe:padOf 4 (S.buf.length+0)=pd at *
 have hS1:(putOff 0 S).buf=leB (((prep 4 0 S).buf.length-0+4:Nat):Int) 4++((List.replicate pd 0++x)++S0.buf):=by
  have e:(putOff 0 S).buf=leB (((prep 4 0 S).buf.length-0+4:Nat):Int) 4++(List.replicate (padOf 4 (S.buf.length+0)) 0++S.buf):=rfl
  rw[e,hpe,hx,List.append_assoc]
 have hS1v:(putOff 0 S).vt=S.vt:=rfl
 have hS1t:(putOff 0 S).vts=S0.vts:=h.vts
 have hSl:S.buf.length=x.length+S0.buf.length:=by rw[hx,List.length_append]
 have hle:=h.len
 have hvtl:=h.vtl
 generalize hL:leB (((prep 4 0 S).buf.length-0+4:Nat):Int) 4=L at hS1
 have hLl:L.length=4:=by rw[<-hL,Qc]
 generalize hT:List.replicate pd (0:UInt8)++x=T at *
 have hTl:T.length=pd+x.length:=by rw[<-hT];simp
 have hoo:(putOff 0 S).buf.length=4+T.length+S0.buf.length:=by rw[hS1];simp[hLl];omega
 rw[Qe5 S _ _ _ _ rfl rfl rfl rfl]
 generalize putOff 0 S=S1 at *
 generalize hvt:S1.vt.take (Ys S1.vt)=vt
 rw[hS1v]at hvt
 have htl:=QiB S.vt
 have hvtlen:vt.length=Ys S.vt:=by rw[<-hvt,List.length_take];omega
 have hvtget:∀j,j<vt.length->vt.getD j 0=S.vt.getD j 0:=fun j hj=>by rw[<-hvt];exact getD_take _ _ _ (by omega)
 have hbehind:∀j,vt.length<=j->S.vt.getD j 0=0:=fun j hj=>Qem _ _ (by omega)
 generalize hoo':S1.buf.length=oo at *
 have hoo4:oo%4=0:=by omega
 have hvle:∀j,S.vt.getD j 0+4<=oo:=fun j=>by have:=h.vle j;omega
 generalize hex:Qai (Z5 vt oo S1.buf) S1.vts=ex
 rw[hS1t]at hex
 by_cases hz:ex=0
 ·
  rw[if_pos hz]
  have hS2b:({S1 with vt:=vt}:BS).buf=S1.buf:=rfl
  generalize ({S1 with vt:=vt}:BS)=S2 at *
  have hW:(wrEnt oo vt S2).buf=ents oo vt++S1.buf:=by rw[wrEnt_buf oo vt S2 (by rw[hS2b];omega),hS2b]
  have hel:=ents_len oo vt
  have e4:(putN 2 (leB ((oo-S.oe:Nat):Int) 2) (wrEnt oo vt S2)).buf=leB ((oo-S.oe:Nat):Int) 2++(ents oo vt++S1.buf):=by
   rw[Qfw,hW,YZ (by rw[List.length_append,hel,hoo'];omega)];rfl
  have e5:(putN 2 (leB ((2*(vt.length+2):Nat):Int) 2) (putN 2 (leB ((oo-S.oe:Nat):Int) 2) (wrEnt oo vt S2))).buf=
    (leB ((2*(vt.length+2):Nat):Int) 2++(leB ((oo-S.oe:Nat):Int) 2++ents oo vt))++(L++(T++S0.buf)):=by
   rw[Qfw,e4,YZ (by rw[List.length_append,List.length_append,Qc,hel,hoo'];omega),hS1];simp
  generalize hS5:putN 2 (leB ((2*(vt.length+2):Nat):Int) 2) (putN 2 (leB ((oo-S.oe:Nat):Int) 2) (wrEnt oo vt S2))=S5 at *
  generalize hWd:leB ((2*(vt.length+2):Nat):Int) 2++(leB ((oo-S.oe:Nat):Int) 2++ents oo vt)=W at *
  have hWl:W.length=4+2*vt.length:=by rw[<-hWd];simp only[List.length_append,Qc,hel];omega
  have hS5l:S5.buf.length=W.length+oo:=by rw[e5];simp only[List.length_append,hLl];omega
  have hq:S5.buf.length-oo=W.length:=by omega
  rw[hq,hS1t]
  have hbs:Qab S5.buf W.length (leB (W.length:Int) 4)=W++(leB (W.length:Int) 4++(T++S0.buf)):=by
   rw[e5];exact putL_mid _ _ _ _ (by rw[hLl,Qc])
  have hbuf:(patch W.length (W.length:Int) S5).buf=W++(leB (W.length:Int) 4++(T++S0.buf)):=hbs
  show Qbm {patch W.length (W.length:Int) S5 with vts:=S0.vts++[S5.buf.length],vt:=[],nested:=false}/\_
  have hbl:(W++(leB (W.length:Int) 4++(T++S0.buf))).length=W.length+oo:=by simp only[List.length_append,Qc];omega
  have r0:le2 (W++(leB (W.length:Int) 4++(T++S0.buf))) 0=2*(vt.length+2):=by
   rw[<-hWd,List.append_assoc,QiG (Nat.le_refl _)];omega
  have r2:le2 (W++(leB (W.length:Int) 4++(T++S0.buf))) 2=oo-S.oe:=by
   have q:=YC (x:=leB ((2*(vt.length+2):Nat):Int) 2) (bs:=(leB ((oo-S.oe:Nat):Int) 2++ents oo vt)++(leB (W.length:Int) 4++(T++S0.buf))) (i:=0)
   rw[Qc,<-List.append_assoc,hWd]at q
   rw[q,List.append_assoc,QiG (Nat.le_refl _),h.oe];omega
  have re:∀i,i<vt.length->le2 (W++(leB (W.length:Int) 4++(T++S0.buf))) (4+2*i)=if S.vt.getD i 0=0 then 0 else oo-S.vt.getD i 0:=fun i hi=>by
   have e:4+2*i=(leB ((2*(vt.length+2):Nat):Int) 2).length+((leB ((oo-S.oe:Nat):Int) 2).length+2*i):=by rw[Qc,Qc];omega
   rw[<-hWd,List.append_assoc,e,YC,List.append_assoc,YC,le2_ents _ _ _ _ hi,hvtget i hi]
   by_cases hv:S.vt.getD i 0=0
   ·rw[if_neg (fun h=>h hv),if_pos hv]
   ·rw[if_pos hv,if_neg hv]
    have:=(hg i).resolve_left hv
    omega
  have hlen:({patch W.length (W.length:Int) S5 with vts:=S0.vts++[S5.buf.length],vt:=[],nested:=false}:BS).buf=W++(leB (W.length:Int) 4++(T++S0.buf)):=hbuf
  have hkey:∀o∈S0.vts,∀i,le2 (W++(leB (W.length:Int) 4++(T++S0.buf))) ((W++(leB (W.length:Int) 4++(T++S0.buf))).length-o+i)=le2 S0.buf (S0.buf.length-o+i):=fun o ho i=>by
   have ho2:=(h0.vts o ho).2.1
   have ea:W++(leB (W.length:Int) 4++(T++S0.buf))=(W++(leB (W.length:Int) 4++T))++S0.buf:=by simp
   rw[ea,show ((W++(leB (W.length:Int) 4++T))++S0.buf).length-o+i=(W++(leB (W.length:Int) 4++T)).length+(S0.buf.length-o+i) by simp only[List.length_append];omega,YC]
  have hoe:=h.oe
  refine ⟨⟨?_,?_,?_⟩,⟨W++(leB (W.length:Int) 4++List.replicate pd 0),?_⟩,?_,by omega,0,?_⟩
  ·intro o ho
   rcases List.mem_append.1 (show o∈S0.vts++[S5.buf.length] from ho) with ho|ho
   ·exact h2.ev o ho
   ·have:o=S5.buf.length:=by simpa using ho
    omega
  ·intro o ho
   rw[hlen]
   rcases List.mem_append.1 (show o∈S0.vts++[S5.buf.length] from ho) with ho|ho
   ·rw[hkey o ho];exact h2.wh o ho
   ·have:o=S5.buf.length:=by simpa using ho
    rw[show (W++(leB (W.length:Int) 4++(T++S0.buf))).length-o+2=2 by omega,r2]
    omega
  ·intro o ho i hi
   rw[hlen]at hi⊢
   rcases List.mem_append.1 (show o∈S0.vts++[S5.buf.length] from ho) with ho|ho
   ·rw[hkey o ho,hkey o ho]
    rw[show (W++(leB (W.length:Int) 4++(T++S0.buf))).length-o=(W++(leB (W.length:Int) 4++(T++S0.buf))).length-o+0 from rfl,hkey o ho]at hi
    exact h2.en o ho i hi
   ·have:o=S5.buf.length:=by simpa using ho
    have e0:(W++(leB (W.length:Int) 4++(T++S0.buf))).length-o=0:=by omega
    rw[e0,r0]at hi
    rw[e0,Nat.zero_add,Nat.zero_add,r2,re i (by omega)]
    split
    ·omega
    ·rename_i hv
     have:=(hg i).resolve_left hv
     have:=hvle i
     omega
  ·rw[hlen,hx,<-hT];simp
  ·rw[hlen,hbl];omega
  ·rw[hlen,hbl,show W.length+oo-oo=W.length by omega]
   have rp:le4 (W++(leB (W.length:Int) 4++(T++S0.buf))) W.length=W.length:=by
    have:=QaI (x:=W) (bs:=leB (W.length:Int) 4++(T++S0.buf)) (i:=0)
    rw[Nat.add_zero]at this
    rw[this,Qgs (Nat.le_refl _)];omega
   have hsl:∀j,j<n->slotAt (W++(leB (W.length:Int) 4++(T++S0.buf))) 0 (4+2*j)=if S.vt.getD j 0=0 then 0 else oo-S.vt.getD j 0:=fun j hj=>by
    unfold slotAt
    rw[r0,Nat.zero_add]
    by_cases hjl:j<vt.length
    ·rw[if_pos (by omega),re j hjl]
    ·rw[if_neg (by omega),if_pos (hbehind j (by omega))]
   refine ⟨⟨by omega,?_,by omega,by omega,by omega⟩,?_,?_,?_,?_,?_⟩
   ·rw[rp,Za (by omega) (by omega)];omega
   ·intro j hj
    rw[hsl j hj,hbl,show W.length+oo-W.length=oo by omega]
   ·intro j hj hv
    have:=hvle j
    rw[hbl];show S.vt.getD j 0+4<=_;omega
   ·rw[Nat.zero_add,r2,hbl];omega
   ·intro j hj
    rw[hsl j hj,Nat.zero_add,r2]
    split
    ·omega
    ·rename_i hv
     have:=(hg j).resolve_left hv
     have:=hvle j
     omega
   ·rw[hbl];omega
 ·
  rw[if_neg hz]
  obtain ⟨hmem,hserv⟩:=QiD (Z5 vt oo S1.buf) S0.vts (by rw[hex];exact hz)
  rw[hex]at hmem hserv
  obtain ⟨v1,v2,v3,v4⟩:=h0.vts ex hmem
  obtain ⟨w1,w2⟩:=h2.wh ex hmem
  have hev:=h2.ev ex hmem
  have hen:=h2.en ex hmem
  have hbs:Qab S1.buf 0 (leB ((ex:Int)-(oo:Int)) 4)=leB ((ex:Int)-(oo:Int)) 4++(T++S0.buf):=by
   rw[hS1];exact putL_mid [] _ _ _ (by rw[hLl,Qc])
  have hlen:({patch 0 ((ex:Int)-(oo:Int)) S1 with vt:=[],nested:=false}:BS).buf=leB ((ex:Int)-(oo:Int)) 4++(T++S0.buf):=hbs
  have hvts:({patch 0 ((ex:Int)-(oo:Int)) S1 with vt:=[],nested:=false}:BS).vts=S0.vts:=hS1t
  generalize ({patch 0 ((ex:Int)-(oo:Int)) S1 with vt:=[],nested:=false}:BS)=E at *
  have hbl:(leB ((ex:Int)-(oo:Int)) 4++(T++S0.buf)).length=oo:=by simp only[List.length_append,Qc];omega
  have hkey:∀(Y:List UInt8),Y.length=4->∀i,le2 (Y++(T++S0.buf)) (oo-ex+i)=le2 S0.buf (S0.buf.length-ex+i):=fun Y hY i=>by
   rw[<-List.append_assoc,show oo-ex+i=(Y++T).length+(S0.buf.length-ex+i) by simp only[List.length_append];omega,YC]
  have k1:=hkey L hLl
  have k2:=hkey (leB ((ex:Int)-(oo:Int)) 4) (by rw[Qc])
  have k10:=k1 0
  have k20:=k2 0
  rw[Nat.add_zero,Nat.add_zero]at k10 k20
  unfold Z5 QgZ at hserv
  rw[hS1,k10]at hserv
  simp only[Bool.and_eq_true,decide_eq_true_eq,List.all_eq_true,List.mem_range,Bool.or_eq_true]at hserv
  obtain ⟨hs1,hs2⟩:=hserv
  have re:∀i,i<vt.length->le2 S0.buf (S0.buf.length-ex+(4+2*i))=if S.vt.getD i 0=0 then 0 else oo-S.vt.getD i 0:=fun i hi=>by
   have q:=hs2 i hi
   rw[show oo-ex+4+2*i=oo-ex+(4+2*i) by omega,k1,hvtget i hi]at q
   have hb:=hen i (by omega)
   have:=hvle i
   rcases q with ⟨q1,q2⟩|q
   ·rw[if_pos q2,q1]
   ·by_cases hv:S.vt.getD i 0=0
    ·rw[hv]at q;omega
    ·rw[if_neg hv];omega
  have hsl:∀j,j<n->slotAt (leB ((ex:Int)-(oo:Int)) 4++(T++S0.buf)) (oo-ex) (4+2*j)=if S.vt.getD j 0=0 then 0 else oo-S.vt.getD j 0:=fun j hj=>by
   unfold slotAt
   rw[k20,k2]
   by_cases hjl:j<vt.length
   ·rw[if_pos (by omega),re j hjl]
   ·rw[if_neg (by omega),if_pos (hbehind j (by omega))]
  refine ⟨h2.ext (S':=E) h0.vts hvts (x:=leB ((ex:Int)-(oo:Int)) 4++T) (by rw[hlen];simp),⟨leB ((ex:Int)-(oo:Int)) 4++List.replicate pd 0,by rw[hlen,hx,<-hT];simp⟩,by rw[hlen,hbl];exact Nat.le_refl _,by omega,oo-ex,?_⟩
  rw[hlen,hbl,Nat.sub_self]
  refine ⟨⟨by omega,?_,by rw[k20,hbl];omega,by rw[k20];exact v3,by rw[k20];omega⟩,?_,?_,?_,?_,?_⟩
  ·have e:=le4_leBI ((ex:Int)-(oo:Int)) (T++S0.buf)
   have ew:IntKind.i32.wrap ((le4 (leB ((ex:Int)-(oo:Int)) 4++(T++S0.buf)) 0:Nat):Int)=(ex:Int)-(oo:Int):=by
    rw[e]
    have:=QiF .i32 (x:=((ex:Int)-(oo:Int))%4294967296) (y:=(ex:Int)-(oo:Int)) (by
     show _%(4294967296:Int)=_%(4294967296:Int)
     rw[Int.emod_emod_of_dvd _ (Int.dvd_refl _)])
    rw[this,Za (by omega) (by omega)]
   rw[ew];omega
  ·intro j hj
   rw[hsl j hj,hbl,Nat.sub_zero]
  ·intro j hj hv
   have:=hvle j
   rw[hbl];show S.vt.getD j 0+4<=_;omega
  ·rw[k2,hbl];omega
  ·intro j hj
   rw[hsl j hj,k2]
   split
   ·omega
   ·rename_i hv
    have hjl:j<vt.length:=by
     apply Nat.lt_of_not_le
     intro hc
     exact hv (hbehind j hc)
    have:=hen j (by omega)
    rw[re j hjl,if_neg hv]at this
    exact this
  ·rw[hbl];omega
end Go.Proofs
namespace Go.Proofs
open Go Go.Vc
open Tryz (prog)
abbrev PP:=Nat->List UInt8->Nat->Prop
def QQ (P:PP):Prop:=∀A A' bs x p,A<=A'->P A bs p->P A' (x++bs) (x.length+p)
def Alg (A k:Nat) (bs:List UInt8) (p:Nat):Prop:=P2 k/\k<=A/\(bs.length-p)%k=0
theorem Alg.stable {k:Nat}:QQ (fun A bs p=>Alg A k bs p):=fun A A' bs x p hA h=>⟨h.1,Nat.le_trans h.2.1 hA,by
 rw[List.length_append,show x.length+bs.length-(x.length+p)=bs.length-p by omega];exact h.2.2⟩
theorem QQ.and {P Q:PP} (hP:QQ P) (hQ:QQ Q):QQ (fun A bs p=>P A bs p/\Q A bs p):=fun A A' bs x p hA h=>⟨hP A A' bs x p hA h.1,hQ A A' bs x p hA h.2⟩
theorem leN_append {k:Nat} {x bs:List UInt8} {i:Nat}:leN k (x++bs) (x.length+i)=leN k bs i:=by
 unfold leN
 split
 ·exact Qc4
 ·exact YC
 ·exact QaI
 ·exact le8_append
theorem Qiq {x bs:List UInt8} {i:Nat}:tgt (x++bs) (x.length+i)=x.length+tgt bs i:=by
 unfold tgt;rw[QaI];omega
def ZW (k n:Nat):PP:=fun A bs p=>p+k<=bs.length/\Alg A k bs p/\leN k bs p=n
theorem ZW.stable {k n:Nat}:QQ (ZW k n):=fun A A' bs x p hA h=>⟨by rw[List.length_append];have:=h.1;omega,Alg.stable A A' bs x p hA h.2.1,by rw[leN_append];exact h.2.2⟩
def Qgr (off:Nat):PP:=fun A bs p=>p+4<=bs.length/\Alg A 4 bs p/\p+4+off<=bs.length/\tgt bs p=bs.length-off
theorem Qgr.stable {off:Nat}:QQ (Qgr off):=fun A A' bs x p hA h=>⟨by rw[List.length_append];have:=h.1;omega,Alg.stable A A' bs x p hA h.2.1,by rw[List.length_append];have:=h.2.2.1;omega,by
 rw[Qiq,h.2.2.2,List.length_append];have:=h.2.2.1;omega⟩
def BytesP (k:Nat) (xs:List UInt8):PP:=fun A bs p=>p+xs.length<=bs.length/\Alg A k bs p/\(bs.drop p).take xs.length=xs
theorem Qes {x bs:List UInt8} {p:Nat}:(x++bs).drop (x.length+p)=bs.drop p:=by
 rw[List.drop_append,List.drop_eq_nil_of_le (by omega),List.nil_append];congr 1;omega
theorem BytesP.stable {k:Nat} {xs:List UInt8}:QQ (BytesP k xs):=fun A A' bs x p hA h=>⟨by rw[List.length_append];have:=h.1;omega,Alg.stable A A' bs x p hA h.2.1,by rw[Qes];exact h.2.2⟩
structure Spec where
 o:Nat
 ab:Prop
 q:PP
def Fact (L0:Nat) (S:BS) (s:Spec):Prop:=
 (S.vt.getD s.o 0=0/\s.ab)\/(S.vt.getD s.o 0≠0/\¬s.ab/\L0<S.vt.getD s.o 0/\S.vt.getD s.o 0<=S.buf.length/\s.q S.min S.buf (S.buf.length-S.vt.getD s.o 0))
structure Op (f:BS->BS) (L0:Nat) (s:Spec):Prop where
 st:QQ s.q
 ext:∀S,∃x,(f S).buf=x++S.buf
 min:∀S,S.min<=(f S).min
 len:∀S,(f S).buf.length<=S.buf.length+64
 vl:∀S,(f S).vt.length=S.vt.length
 oth:∀S j,j≠s.o->(f S).vt.getD j 0=S.vt.getD j 0
 own:∀S,L0<=S.buf.length->S.buf.length<4000000000->s.o<S.vt.length->S.vt.getD s.o 0=0->Fact L0 (f S) s
theorem Fact.mono {L0:Nat} {S S':BS} {s:Spec} (hs:QQ s.q) (h:Fact L0 S s) {x:List UInt8} (hb:S'.buf=x++S.buf) (hm:S.min<=S'.min) (hv:S'.vt.getD s.o 0=S.vt.getD s.o 0):Fact L0 S' s:=by
 unfold Fact at h⊢
 rw[hv]
 rcases h with h|⟨h1,h2,h3,h4,h5⟩
 ·exact Or.inl h
 ·refine Or.inr ⟨h1,h2,h3,by rw[hb,List.length_append];omega,?_⟩
  have:=hs S.min S'.min S.buf x _ hm h5
  rw[hb,show (x++S.buf).length-S.vt.getD s.o 0=x.length+(S.buf.length-S.vt.getD s.o 0) by rw[List.length_append];omega]
  exact this
def QhQ (L0:Nat):List (BS->BS)->List Spec->Prop
 |[],[]=>True
 |f::fs,s::ss=>Op f L0 s/\QhQ L0 fs ss
 |_,_=>False
def Facts (L0:Nat) (S:BS):List Spec->Prop
 |[]=>True
 |s::ss=>Fact L0 S s/\Facts L0 S ss
theorem runS_spec {L0:Nat}:∀(fs:List (BS->BS)) (ss:List Spec),QhQ L0 fs ss->(ss.map Spec.o).Nodup->∀(S:BS),L0<=S.buf.length->S.buf.length+64*fs.length<4000000000->
  (∀s∈ss,s.o<S.vt.length/\S.vt.getD s.o 0=0)->
  (∃x,(QfT fs S).buf=x++S.buf)/\S.min<=(QfT fs S).min/\(QfT fs S).vt.length=S.vt.length/\(∀j,(∀s∈ss,j≠s.o)->(QfT fs S).vt.getD j 0=S.vt.getD j 0)/\Facts L0 (QfT fs S) ss
 |[],[],_,_,S,_,_,_=>⟨⟨[],rfl⟩,Nat.le_refl _,rfl,fun _ _=>rfl,trivial⟩
 |f::fs,s::ss,⟨ho,hok⟩,hnd,S,hL,hb,hs=>by
  rw[List.map_cons,List.nodup_cons]at hnd
  obtain ⟨x,hx⟩:=ho.ext S
  have hl:(f S).buf.length=x.length+S.buf.length:=by rw[hx,List.length_append]
  have hg:=ho.len S
  rw[List.length_cons]at hb
  have hne:∀s'∈ss,s'.o≠s.o:=fun s' hs' h=>hnd.1 (by rw[<-h];exact List.mem_map_of_mem hs')
  obtain ⟨⟨y,hy⟩,hmin,hvl,hoth,hf⟩:=runS_spec fs ss hok hnd.2 (f S) (by omega) (by omega)
   (fun s' hs'=>⟨by rw[ho.vl];exact (hs s' (List.mem_cons_of_mem _ hs')).1,by rw[ho.oth S _ (hne s' hs')];exact (hs s' (List.mem_cons_of_mem _ hs')).2⟩)
  have hown:=ho.own S hL (by omega) (hs s List.mem_cons_self).1 (hs s List.mem_cons_self).2
  refine ⟨⟨y++x,by rw[QfT,hy,hx,List.append_assoc]⟩,Nat.le_trans (ho.min S) hmin,by rw[QfT,hvl,ho.vl],fun j hj=>?_,?_,hf⟩
  ·rw[QfT,hoth j (fun s' hs'=>hj s' (List.mem_cons_of_mem _ hs')),ho.oth S j (hj s List.mem_cons_self)]
  ·exact hown.mono ho.st hy hmin (hoth s.o (fun s' hs' h=>hne s' hs' h.symm))
theorem putN_vt (k:Nat) (xs:List UInt8) (S:BS):(putN k xs S).vt=S.vt:=rfl
theorem padOf_mod0 {k n:Nat} (hk:0<k):(padOf k (n+0)+n)%k=0:=by
 have:=Qcl (size:=k) (n:=n) hk
 rw[Nat.add_zero,Nat.add_comm];exact this
theorem putN_num {k n:Nat} (hk:P2 k) (hn:n<256^k) (S:BS):ZW k n (putN k (leB (n:Int) k) S).min (putN k (leB (n:Int) k) S).buf 0/\(putN k (leB (n:Int) k) S).buf.length=k+padOf k (S.buf.length+0)+S.buf.length:=by
 have e:=Qfw k (leB (n:Int) k) S
 have el:(putN k (leB (n:Int) k) S).buf.length=k+padOf k (S.buf.length+0)+S.buf.length:=by rw[e];simp[Qc];omega
 refine ⟨⟨by omega,⟨hk,Nat.le_max_right _ _,?_⟩,?_⟩,el⟩
 ·rw[el,Nat.sub_zero]
  have:=padOf_mod0 (n:=S.buf.length) hk.pos
  rw[Nat.add_assoc,Nat.add_mod_left];exact this
 ·rw[e]
  obtain ⟨j,hj,rfl⟩:=hk
  have:j=0\/j=1\/j=2\/j=3:=by omega
  rcases this with rfl|rfl|rfl|rfl
  ·show byteN _ _=_
   have h:=QeL (x:=(n:Int)) (k:=1) (i:=0) (by decide)
   have h2:=Qgj n 0
   have h3:byteN (leB (n:Int) 1++(List.replicate (padOf 1 (S.buf.length+0)) 0++S.buf)) 0=byteN (leB (n:Int) 1) 0:=by
    unfold byteN;congr 1
   show byteN (leB (n:Int) 1++_) 0=n
   rw[h3,h,h2];simp at hn⊢;omega
  ·show le2 (leB (n:Int) 2++_) 0=n
   rw[QiG (Nat.le_refl _)];simp at hn;omega
  ·show le4 (leB (n:Int) 4++_) 0=n
   rw[Qgs (Nat.le_refl _)];simp at hn;omega
  ·show le8 (leB (n:Int) 8++_) 0=n
   rw[le8_leB];simp at hn;omega
theorem slot_own {S:BS} {o:Nat} (h:o<S.vt.length):(slot o S).vt.getD o 0=S.buf.length:=by
 show (S.vt.set o S.buf.length).getD o 0=_
 rw[getD_set,if_pos ⟨rfl,h⟩]
theorem slot_oth {S:BS} {o j:Nat} (h:j≠o):(slot o S).vt.getD j 0=S.vt.getD j 0:=by
 show (S.vt.set o S.buf.length).getD j 0=_
 rw[getD_set,if_neg (fun x=>h x.1.symm)]
theorem slot_vl {S:BS} {o:Nat}:(slot o S).vt.length=S.vt.length:=by simp[slot]
theorem Op.num {L0 k n o:Nat} {ab:Prop} {f:BS->BS} (hk:P2 k) (hn:n<256^k) (h0:ab->∀S,f S=S) (h1:¬ab->∀S,f S=slot o (putN k (leB (n:Int) k) S)):Op f L0 ⟨o,ab,ZW k n⟩:=by
 by_cases hab:ab
 ·have h:=h0 hab
  exact ⟨ZW.stable,fun S=>⟨[],by rw[h];rfl⟩,fun S=>by rw[h];exact Nat.le_refl _,fun S=>by rw[h];omega,fun S=>by rw[h],fun S j _=>by rw[h],fun S _ _ _ hz=>Or.inl ⟨by rw[h];exact hz,hab⟩⟩
 ·have h:=h1 hab
  refine ⟨ZW.stable,fun S=>⟨leB (n:Int) k++List.replicate (padOf k (S.buf.length+0)) 0,by rw[h];show (putN k (leB (n:Int) k) S).buf=_;rw[Qfw];simp⟩,fun S=>?_,fun S=>?_,fun S=>by rw[h,slot_vl,putN_vt],fun S j hj=>by rw[h,slot_oth hj,putN_vt],fun S hL hl ho hz=>Or.inr ?_⟩
  ·rw[h];exact Nat.le_max_left _ _
  ·rw[h]
   show (putN k (leB (n:Int) k) S).buf.length<=_
   have:=(putN_num hk hn S).2
   have:=hk.le
   have:=Zw (size:=k) (n:=S.buf.length+0) hk.pos
   omega
  ·obtain ⟨p1,p2⟩:=putN_num hk hn S
   have hp:=hk.pos
   rw[h]
   have e:(slot o (putN k (leB (n:Int) k) S)).vt.getD o 0=(putN k (leB (n:Int) k) S).buf.length:=slot_own (by rw[putN_vt];exact ho)
   rw[e]
   have e2:(slot o (putN k (leB (n:Int) k) S)).buf=(putN k (leB (n:Int) k) S).buf:=rfl
   refine ⟨by omega,hab,by omega,by rw[e2];exact Nat.le_refl _,?_⟩
   rw[e2,Nat.sub_self];exact p1
theorem Op.slotN {L0 k x d o:Nat} (hk:P2 k) (hx:x<256^k):Op (Proofs.slotN k x d o) L0 ⟨o,x=d,ZW k x⟩:=
 Op.num hk hx (fun h S=>by unfold Proofs.slotN;rw[if_pos h]) (fun h S=>by unfold Proofs.slotN;rw[if_neg h])
theorem Op.slotF {L0 x d o:Nat} (hx:x<256^4):Op (Proofs.slotF x d o) L0 ⟨o,FloatKind.f32.format.order x d=some .eq,ZW 4 x⟩:=
 Op.num Qhu hx (fun h S=>by unfold Proofs.slotF;rw[h];rfl) (fun h S=>by unfold Proofs.slotF;rw[if_pos (by simpa using h)])
theorem Op.slotTy {L0 o:Nat} {ty:UInt8}:Op (Proofs.slotTy ty o) L0 ⟨o,ty=0,ZW 1 ty.toNat⟩:=
 Op.num P2_1 (by have:=ty.toNat_lt;omega) (fun h S=>by unfold Proofs.slotTy;rw[if_pos h]) (fun h S=>by
  unfold Proofs.slotTy Proofs.slotN
  rw[if_neg h,if_neg (fun h2=>h (UInt8.toNat_inj.1 (by simpa using h2)))])
theorem putOff_off {off:Nat} {S:BS} (h:off<=S.buf.length) (hl:S.buf.length<4000000000):Qgr off (putOff off S).min (putOff off S).buf 0/\(putOff off S).buf.length=4+padOf 4 (S.buf.length+0)+S.buf.length:=by
 have hp:=Zw (size:=4) (n:=S.buf.length+0) (by decide)
 have e:(putOff off S).buf=leB (((prep 4 0 S).buf.length-off+4:Nat):Int) 4++(List.replicate (padOf 4 (S.buf.length+0)) 0++S.buf):=rfl
 have el:(putOff off S).buf.length=4+padOf 4 (S.buf.length+0)+S.buf.length:=by rw[e];simp[Qc];omega
 refine ⟨⟨by omega,⟨Qhu,Nat.le_max_right _ _,?_⟩,by rw[el];omega,?_⟩,el⟩
 ·rw[el,Nat.sub_zero]
  have:=padOf_mod0 (k:=4) (n:=S.buf.length) (by decide)
  omega
 ·unfold tgt
  rw[el,e,Qgs (Nat.le_refl _),Qad]
  omega
theorem Op.slotOff {L0 off o:Nat} (h:off<=L0):Op (Proofs.slotOff off o) L0 ⟨o,off=0,Qgr off⟩:=by
 by_cases hab:off=0
 ·have h:∀S,Proofs.slotOff off o S=S:=fun S=>by unfold Proofs.slotOff;rw[if_pos hab]
  exact ⟨Qgr.stable,fun S=>⟨[],by rw[h];rfl⟩,fun S=>by rw[h];exact Nat.le_refl _,fun S=>by rw[h];omega,fun S=>by rw[h],fun S j _=>by rw[h],fun S _ _ _ hz=>Or.inl ⟨by rw[h];exact hz,hab⟩⟩
 ·have h:∀S,Proofs.slotOff off o S=slot o (putOff off S):=fun S=>by unfold Proofs.slotOff;rw[if_neg hab]
  refine ⟨Qgr.stable,fun S=>⟨_,by rw[h];exact (QcX off S).choose_spec.1⟩,fun S=>?_,fun S=>?_,fun S=>by rw[h,slot_vl];rfl,fun S j hj=>by rw[h,slot_oth hj];rfl,fun S hL hl ho hz=>Or.inr ?_⟩
  ·rw[h];exact Nat.le_max_left _ _
  ·rw[h]
   show (putOff off S).buf.length<=_
   obtain ⟨x,hx,_,hx2⟩:=QcX off S
   rw[hx,List.length_append];omega
  ·obtain ⟨p1,p2⟩:=putOff_off (off:=off) (S:=S) (by omega) hl
   rw[h]
   have e:(slot o (putOff off S)).vt.getD o 0=(putOff off S).buf.length:=slot_own ho
   rw[e]
   have e2:(slot o (putOff off S)).buf=(putOff off S).buf:=rfl
   refine ⟨by omega,hab,by omega,by rw[e2];exact Nat.le_refl _,?_⟩
   rw[e2,Nat.sub_self];exact p1
theorem vec3_len' (v:Qaj):(Qgf v).length=32:=by simp[Qgf,vec3B,Qc]
def posQ (pos:Option Qaj):PP:=fun A bs p=>match pos with|none=>True|some v=>BytesP 8 (Qgf v) A bs p
theorem Op.slotPos {L0:Nat} {pos:Option Qaj}:Op (Proofs.slotPos pos) L0 ⟨0,pos=none,posQ pos⟩:=by
 have hst:QQ (posQ pos):=fun A A' bs x p hA h=>by
  unfold posQ at h⊢
  cases pos with
  |none=>trivial
  |some v=>exact BytesP.stable A A' bs x p hA h
 cases pos with
 |none=>exact ⟨hst,fun S=>⟨[],rfl⟩,fun S=>Nat.le_refl _,fun S=>Nat.le_add_right _ _,fun S=>rfl,fun S j _=>rfl,fun S _ _ _ hz=>Or.inl ⟨hz,rfl⟩⟩
 |some v=>
  have hv:=vec3_len' v
  have hb:∀S:BS,(place (Qgf v) (prep 8 32 S)).buf=Qgf v++(List.replicate (padOf 8 (S.buf.length+32)) 0++S.buf):=fun S=>rfl
  have hl:∀S:BS,(place (Qgf v) (prep 8 32 S)).buf.length=32+padOf 8 (S.buf.length+32)+S.buf.length:=fun S=>by rw[hb];simp[hv];omega
  have h:∀S:BS,Proofs.slotPos (some v) S=slot 0 (place (Qgf v) (prep 8 32 S)):=fun S=>by
   show slotStruct (place (Qgf v) (prep 8 32 S)).buf.length 0 (place (Qgf v) (prep 8 32 S))=_
   unfold slotStruct;rw[if_neg (by have:=hl S;omega)]
  refine ⟨hst,fun S=>⟨Qgf v++List.replicate (padOf 8 (S.buf.length+32)) 0,by rw[h];show (place (Qgf v) (prep 8 32 S)).buf=_;rw[hb];simp⟩,fun S=>by rw[h];exact Nat.le_max_left _ _,fun S=>by rw[h];have:=hl S;have:=Zw (size:=8) (n:=S.buf.length+32) (by decide);show (place (Qgf v) (prep 8 32 S)).buf.length<=_;omega,fun S=>by rw[h,slot_vl];rfl,fun S j hj=>by rw[h,slot_oth hj];rfl,fun S hL hlt ho hz=>Or.inr ?_⟩
  rw[h]
  have e:(slot 0 (place (Qgf v) (prep 8 32 S))).vt.getD 0 0=(place (Qgf v) (prep 8 32 S)).buf.length:=slot_own ho
  have e2:(slot 0 (place (Qgf v) (prep 8 32 S))).buf=(place (Qgf v) (prep 8 32 S)).buf:=rfl
  have:=hl S
  rw[e]
  refine ⟨by omega,by simp,by omega,by rw[e2];exact Nat.le_refl _,?_⟩
  rw[e2,Nat.sub_self]
  show BytesP 8 (Qgf v) _ _ _
  refine ⟨by omega,⟨Qek,Nat.le_max_right _ _,?_⟩,?_⟩
  ·have:=Qcl (size:=8) (n:=S.buf.length+32) (by decide)
   rw[hl,Nat.sub_zero];omega
  ·rw[hb,List.drop_zero,List.take_left]
end Go.Proofs
namespace Go.Proofs
open Go Go.Vc
open Tryz (prog)
theorem wrEnt_minle (oo:Nat):∀(vs:List Nat) (S:BS),S.min<=(wrEnt oo vs S).min
 |[],S=>Nat.le_refl _
 |v::vs,S=>Nat.le_trans (wrEnt_minle oo vs S) (Nat.le_max_left _ _)
theorem endObj_min (S:BS):S.min<=(endObj S).min/\4<=(endObj S).min:=by
 have h:S.min<=(putOff 0 S).min/\4<=(putOff 0 S).min:=⟨Nat.le_max_left _ _,Nat.le_max_right _ _⟩
 rw[Qe5 S _ _ _ _ rfl rfl rfl rfl]
 generalize putOff 0 S=S1 at *
 generalize S1.vt.take (Ys S1.vt)=vt
 split
 ·have h2:S1.min<=(putN 2 (leB ((2*(vt.length+2):Nat):Int) 2) (putN 2 (leB ((S1.buf.length-S.oe:Nat):Int) 2) (wrEnt S1.buf.length vt {S1 with vt:=vt}))).min:=by
   refine Nat.le_trans ?_ (Nat.le_max_left _ _)
   refine Nat.le_trans ?_ (Nat.le_max_left _ _)
   exact wrEnt_minle S1.buf.length vt {S1 with vt:=vt}
  exact ⟨Nat.le_trans h.1 h2,Nat.le_trans h.2 h2⟩
 ·exact h
structure TabOk (A:Nat) (bs:List UInt8) (pos vt n:Nat):Prop where
 ok:VT bs pos vt
 w4:4<=le2 bs (vt+2)/\pos+le2 bs (vt+2)<=bs.length
 wl:∀j,j<n->slotAt bs vt (4+2*j)<le2 bs (vt+2)
 p4:∀j,j<n->slotAt bs vt (4+2*j)≠0->4<=slotAt bs vt (4+2*j)
 al:(bs.length-pos)%4=0/\(bs.length-vt)%2=0/\4<=A
theorem VT.shift {bs x:List UInt8} {pos vt:Nat} (h:VT bs pos vt):VT (x++bs) (x.length+pos) (x.length+vt):=by
 refine ⟨by rw[List.length_append];have:=h.hp;omega,?_,?_,?_,?_⟩
 ·rw[QaI];have:=h.hs;omega
 ·rw[YC,List.length_append];have:=h.he;omega
 ·rw[YC];exact h.h4
 ·rw[YC];exact h.ev
theorem QbY {bs x:List UInt8} {vt vo:Nat}:slotAt (x++bs) (x.length+vt) vo=slotAt bs vt vo:=by
 unfold slotAt
 rw[YC,show x.length+vt+vo=x.length+(vt+vo) by omega,YC]
theorem TabOk.shift {A A':Nat} {bs x:List UInt8} {pos vt n:Nat} (hA:A<=A') (h:TabOk A bs pos vt n):TabOk A' (x++bs) (x.length+pos) (x.length+vt) n:=by
 obtain ⟨h1,h2,h3,h5,h4⟩:=h
 refine ⟨h1.shift,?_,?_,fun j hj=>by rw[QbY];exact h5 j hj,?_⟩
 ·rw[show x.length+vt+2=x.length+(vt+2) by omega,YC,List.length_append];omega
 ·intro j hj
  rw[QbY,show x.length+vt+2=x.length+(vt+2) by omega,YC];exact h3 j hj
 ·rw[List.length_append,show x.length+bs.length-(x.length+pos)=bs.length-pos by omega,show x.length+bs.length-(x.length+vt)=bs.length-vt by omega]
  omega
def QM (A:Nat) (bs:List UInt8) (pos vt vo:Nat) (ab:Prop) (Q:PP):Prop:=
 (slotAt bs vt vo=0/\ab)\/(slotAt bs vt vo≠0/\¬ab/\Q A bs (pos+slotAt bs vt vo))
theorem QM.shift {A A':Nat} {bs x:List UInt8} {pos vt vo:Nat} {ab:Prop} {Q:PP} (hQ:QQ Q) (hA:A<=A') (h:QM A bs pos vt vo ab Q):QM A' (x++bs) (x.length+pos) (x.length+vt) vo ab Q:=by
 unfold QM at h⊢
 rw[QbY]
 rcases h with h|⟨h1,h2,h3⟩
 ·exact Or.inl h
 ·exact Or.inr ⟨h1,h2,by rw[Nat.add_assoc];exact hQ A A' bs x _ hA h3⟩
def QaQ (P:PP):PP:=fun A bs f=>f+4<=bs.length/\Alg A 4 bs f/\(f<tgt bs f/\tgt bs f<=bs.length)/\P A bs (tgt bs f)
theorem QaQ.stable {P:PP} (hP:QQ P):QQ (QaQ P):=fun A A' bs x p hA h=>⟨by rw[List.length_append];have:=h.1;omega,Alg.stable A A' bs x p hA h.2.1,by rw[Qiq,List.length_append];have:=h.2.2.1;omega,by
 rw[Qiq];exact hP A A' bs x _ hA h.2.2.2⟩
theorem QaQ.mono {P Q:PP} {A:Nat} {bs:List UInt8} {f:Nat} (h:QaQ P A bs f) (hPQ:P A bs (tgt bs f)->Q A bs (tgt bs f)):QaQ Q A bs f:=⟨h.1,h.2.1,h.2.2.1,hPQ h.2.2.2⟩
structure MSpec where
 ab:Prop
 p:PP
def OF (S:BS) (o:Nat) (s:MSpec):Prop:=(o=0/\s.ab)\/(o≠0/\¬s.ab/\o<=S.buf.length/\s.p S.min S.buf (S.buf.length-o))
theorem OF.mono {S S':BS} {o:Nat} {s:MSpec} (hs:QQ s.p) (h:OF S o s) {x:List UInt8} (hb:S'.buf=x++S.buf) (hm:S.min<=S'.min):OF S' o s:=by
 rcases h with h|⟨h1,h2,h3,h4⟩
 ·exact Or.inl h
 ·refine Or.inr ⟨h1,h2,by rw[hb,List.length_append];omega,?_⟩
  rw[hb,show (x++S.buf).length-o=x.length+(S.buf.length-o) by rw[List.length_append];omega]
  exact hs S.min S'.min S.buf x _ hm h4
theorem QM.ref {A:Nat} {bs:List UInt8} {pos vt vo off:Nat} (h:QM A bs pos vt vo (off=0) (Qgr off)) {S:BS} {s:MSpec} (hs:QQ s.p) (ho:OF S off s) {y:List UInt8} (hb:bs=y++S.buf) (hm:S.min<=A):QM A bs pos vt vo s.ab (QaQ s.p):=by
 rcases h with ⟨h1,h2⟩|⟨h1,h2,h3⟩
 ·rcases ho with ⟨_,h⟩|⟨h,_⟩
  ·exact Or.inl ⟨h1,h⟩
  ·exact absurd h2 h
 ·rcases ho with ⟨h,_⟩|⟨_,g2,g3,g4⟩
  ·exact absurd h h2
  ·obtain ⟨q1,q2,q3,q4⟩:=h3
   refine Or.inr ⟨h1,g2,q1,q2,by rw[q4];omega,?_⟩
   rw[q4,hb,show (y++S.buf).length-off=y.length+(S.buf.length-off) by rw[List.length_append];omega]
   exact hs S.min A S.buf y _ hm g4
def SlotFs (A:Nat) (bs:List UInt8) (pos vt:Nat):List Spec->Prop
 |[]=>True
 |s::ss=>QM A bs pos vt (4+2*s.o) s.ab s.q/\SlotFs A bs pos vt ss
theorem Facts.mem {L0:Nat} {S:BS}:∀{ss:List Spec},Facts L0 S ss->∀s∈ss,Fact L0 S s
 |[],_,_,hs=>by simp at hs
 |s::ss,h,s',hs=>by
  rcases List.mem_cons.1 hs with rfl|hs
  ·exact h.1
  ·exact Facts.mem h.2 s' hs
theorem QhQ.stable {L0:Nat}:∀{fs:List (BS->BS)} {ss:List Spec},QhQ L0 fs ss->∀s∈ss,QQ s.q
 |[],[],_,_,hs=>by simp at hs
 |[],_::_,h,_,_=>h.elim
 |_::_,[],h,_,_=>h.elim
 |f::fs,s::ss,h,s',hs=>by
  rcases List.mem_cons.1 hs with rfl|hs
  ·exact h.1.st
  ·exact QhQ.stable h.2 s' hs
structure Tabled (S:BS) (q:BS×Nat) (n:Nat) (ss:List Spec):Prop where
 inv2:Qbm q.1
 ext:∃x,q.1.buf=x++S.buf
 min:S.min<=q.1.min
 pos:q.2≠0
 le:q.2<=q.1.buf.length
 tab:∃vt,TabOk q.1.min q.1.buf (q.1.buf.length-q.2) vt n/\(∀j,j<n->(∀s∈ss,j≠s.o)->slotAt q.1.buf vt (4+2*j)=0)/\SlotFs q.1.min q.1.buf (q.1.buf.length-q.2) vt ss
theorem endT_read {S:BS} {fs:List (BS->BS)} {ss:List Spec} {n:Nat} (hI:Inv S) (h2:Qbm S) (hok:QhQ S.buf.length fs ss) (hnd:(ss.map Spec.o).Nodup) (ho:∀s∈ss,s.o<n) (hn:n<600)
  (hin:∀f∈fs,∀c S',Y8 S n c S'->Y8 S n (c+64) (f S')) (hfl:fs.length<600) (hl:S.buf.length<600000000):
  ∃T,T=QfT fs (YJ n S)/\(∀j,(∀s∈ss,j≠s.o)->T.vt.getD j 0=0)/\(∃x,T.buf=x++S.buf)/\S.min<=T.min/\Facts S.buf.length T ss/\Qbm (endObj T)/\(∃y,(endObj T).buf=y++T.buf)/\(putOff 0 T).buf.length<=(endObj T).buf.length/\T.buf.length+4<=(putOff 0 T).buf.length/\
   ∃vt,ObjRd (endObj T).buf ((endObj T).buf.length-(putOff 0 T).buf.length) vt (fun j=>T.vt.getD j 0) n:=by
 have h0:=Y8.start (n:=n) hI.min
 have hr:=runS_ok fs hin 0 _ h0
 have hz:∀j,(YJ n S).vt.getD j 0=0:=fun j=>by
  simp only[YJ,List.getD,List.getElem?_replicate]
  split<;>simp
 obtain ⟨⟨x,hx⟩,hmin,hvl,hoth,hf⟩:=runS_spec fs ss hok hnd (YJ n S) (Nat.le_refl _) (by show S.buf.length+_<_;omega) (fun s hs=>⟨by rw[h0.vtl];exact ho s hs,hz _⟩)
 refine ⟨_,rfl,?_⟩
 generalize QfT fs (YJ n S)=T at *
 have hlen:=hr.len
 have hg:∀j,T.vt.getD j 0=0\/S.buf.length<T.vt.getD j 0:=fun j=>by
  by_cases hj:∀s∈ss,j≠s.o
  ·exact Or.inl (by rw[hoth j hj];exact hz j)
  ·have:∃s∈ss,j=s.o:=by
    refine Classical.byContradiction fun hc=>hj fun s hs he=>hc ⟨s,hs,he⟩
   obtain ⟨s,hs,rfl⟩:=this
   rcases hf.mem s hs with h|h
   ·exact Or.inl h.1
   ·exact Or.inr h.2.2.1
 exact ⟨fun j hj=>by rw[hoth j hj];exact hz j,⟨x,hx⟩,hmin,hf,endObj_read hr hg hI h2 (by omega) (by omega) (by omega)⟩
theorem QdX {S:BS} {fs:List (BS->BS)} {ss:List Spec} {n:Nat} (hI:Inv S) (h2:Qbm S) (hok:QhQ S.buf.length fs ss) (hnd:(ss.map Spec.o).Nodup) (ho:∀s∈ss,s.o<n) (hn:n<600)
  (hin:∀f∈fs,∀c S',Y8 S n c S'->Y8 S n (c+64) (f S')) (hfl:fs.length<600) (hl:S.buf.length<600000000):Tabled S (endT (QfT fs (YJ n S))) n ss:=by
 obtain ⟨T,hT,hnone,⟨x,hx⟩,hmin,hf,e1,⟨y,hy⟩,e2,e3,vt,e4⟩:=endT_read hI h2 hok hnd ho hn hin hfl hl
 rw[<-hT]
 clear hT
 have em:=endObj_min T
 have hpos:(endObj T).buf.length-((endObj T).buf.length-(putOff 0 T).buf.length)=(putOff 0 T).buf.length:=by omega
 refine ⟨e1,⟨y++x,by show (endObj T).buf=_;rw[hy,hx];exact (List.append_assoc _ _ _).symm⟩,Nat.le_trans hmin em.1,by show (putOff 0 T).buf.length≠0;omega,e2,vt,⟨e4.ok,e4.w4,e4.wl,fun j hj h=>by
  have hsl:=e4.sl j hj
  have hpl:=e4.pl j hj
  rw[hpos]at hsl hpl
  by_cases hz:T.vt.getD j 0=0
  ·rw[if_pos hz]at hsl;exact absurd hsl h
  ·rw[if_neg hz]at hsl;have h9:T.vt.getD j 0+4<=(putOff 0 T).buf.length:=hpl hz;show 4<=slotAt (endObj T).buf vt (4+2*j);rw[hsl];show 4<=(putOff 0 T).buf.length-T.vt.getD j 0;omega,e4.al.1,e4.al.2,em.2⟩,fun j hj hs=>by
  have hsl:=e4.sl j hj
  rw[if_pos (hnone j hs)]at hsl
  exact hsl,?_⟩
 have key:∀s,s.o<n->QQ s.q->Fact S.buf.length T s->QM (endObj T).min (endObj T).buf ((endObj T).buf.length-(putOff 0 T).buf.length) vt (4+2*s.o) s.ab s.q:=fun s hs hst h=>by
  have hsl:=e4.sl s.o hs
  have hpl:=e4.pl s.o hs
  rw[hpos]at hsl hpl
  rcases h with ⟨q1,q2⟩|⟨q1,q2,q3,q4,q5⟩
  ·rw[if_pos q1]at hsl
   exact Or.inl ⟨hsl,q2⟩
  ·rw[if_neg q1]at hsl
   have:=hpl q1
   refine Or.inr ⟨by rw[hsl];omega,q2,?_⟩
   have e:(endObj T).buf.length-(putOff 0 T).buf.length+slotAt (endObj T).buf vt (4+2*s.o)=y.length+(T.buf.length-T.vt.getD s.o 0):=by
    have:(endObj T).buf.length=y.length+T.buf.length:=by rw[hy,List.length_append]
    rw[hsl];omega
   rw[e,hy]
   exact hst T.min _ T.buf y _ em.1 q5
 have hst:=hok.stable
 clear hok hnd hnone
 revert ss
 intro ss ho hf hst
 induction ss with
 |nil=>trivial
 |cons s ss ih=>exact ⟨key s (ho s List.mem_cons_self) (hst s List.mem_cons_self) hf.1,ih (fun s' h=>ho s' (List.mem_cons_of_mem _ h)) hf.2 (fun s' h=>hst s' (List.mem_cons_of_mem _ h))⟩
structure Qde (S:BS) (q:BS×Nat) (s:MSpec):Prop where
 inv2:Qbm q.1
 ext:∃x,q.1.buf=x++S.buf
 min:S.min<=q.1.min
 of:OF q.1 q.2 s
theorem Qde.none {S:BS} (h:Qbm S) {s:MSpec} (hs:s.ab):Qde S (S,0) s:=⟨h,⟨[],rfl⟩,Nat.le_refl _,Or.inl ⟨rfl,hs⟩⟩
def Qd2 (xs:List UInt8):PP:=fun A bs t=>t+4+xs.length<bs.length/\Alg A 4 bs t/\le4 bs t=xs.length/\(bs.drop (t+4)).take xs.length=xs/\byteN bs (t+4+xs.length)=0
theorem Qd2.stable {xs:List UInt8}:QQ (Qd2 xs):=fun A A' bs x p hA h=>by
 obtain ⟨h1,h2,h3,h4,h5⟩:=h
 refine ⟨by rw[List.length_append];omega,Alg.stable A A' bs x p hA h2,by rw[QaI];exact h3,?_,?_⟩
 ·rw[Nat.add_assoc,Qes];exact h4
 ·rw[show x.length+p+4+xs.length=x.length+(p+4+xs.length) by omega,Qc4];exact h5
theorem Qex {S:BS} (hI:Inv S) (h:Qbm S) {xs:List UInt8} (hx:xs.length<4000000000):Qde S (createStr xs S,(createStr xs S).buf.length) ⟨False,Qd2 xs⟩:=by
 have e:=Qf9 xs S
 have el:=Qi4 xs S
 have hp:=Qcl (size:=4) (n:=S.buf.length+(xs.length+1)) (by decide)
 have hmin:4<=(createStr xs S).min:=Nat.le_max_right S.min 4
 refine ⟨h.ext hI.vts rfl (x:=leB (xs.length:Int) 4++(xs++([0]++List.replicate (padOf 4 (S.buf.length+(xs.length+1))) 0))) (by rw[e];simp),⟨leB (xs.length:Int) 4++(xs++([0]++List.replicate (padOf 4 (S.buf.length+(xs.length+1))) 0)),by show (createStr xs S).buf=_;rw[e];simp⟩,Nat.le_max_left _ _,Or.inr ⟨by show _≠0;omega,fun h=>h,Nat.le_refl _,?_⟩⟩
 show Qd2 xs _ _ ((createStr xs S).buf.length-(createStr xs S).buf.length)
 rw[Nat.sub_self]
 refine ⟨by rw[el];omega,⟨Qhu,hmin,by rw[el];omega⟩,by rw[e,Qgs (Nat.le_refl _)];omega,?_,?_⟩
 ·have h4:(leB (xs.length:Int) 4).length=0+4:=Qc _ _
  rw[e,<-h4,List.drop_left,List.take_left]
 ·have h4:0+4+xs.length=(leB (xs.length:Int) 4++xs).length+0:=by rw[List.length_append,Qc];omega
  rw[e,<-List.append_assoc,h4,Qc4];rfl
theorem Qj5 {S:BS} (hI:Inv S) (h:Qbm S) {xs:List UInt8} (hx:xs.length<4000000000):Qde S (QaZ xs S) ⟨False,Qd2 xs⟩:=Qex hI h hx
theorem optB_made {S:BS} (hI:Inv S) (h:Qbm S) {xs:List UInt8} (hx:xs.length<4000000000):Qde S (optB xs S) ⟨xs=[],Qd2 xs⟩:=by
 unfold optB
 by_cases he:xs=[]
 ·rw[if_pos he];exact Qde.none h he
 ·rw[if_neg he]
  obtain ⟨a,b,c,d⟩:=Qex hI h hx
  refine ⟨a,b,c,?_⟩
  rcases d with d|d
  ·exact d.2.elim
  ·exact Or.inr ⟨d.1,he,d.2.2⟩
def VecP (k al n:Nat):PP:=fun A bs t=>t+4+k*n<=bs.length/\Alg A 4 bs t/\Alg A al bs (t+4)/\le4 bs t=n
theorem VecP.stable {k al n:Nat}:QQ (VecP k al n):=fun A A' bs x p hA h=>by
 obtain ⟨h1,h2,h3,h4⟩:=h
 refine ⟨by rw[List.length_append];omega,Alg.stable A A' bs x p hA h2,by rw[Nat.add_assoc];exact Alg.stable A A' bs x _ hA h3,by rw[QaI];exact h4⟩
def Qbn (k al:Nat) (items:List (List UInt8)):PP:=fun A bs t=>VecP k al items.length A bs t/\(bs.drop (t+4)).take items.flatten.length=items.flatten
theorem Qbn.stable {k al:Nat} {items:List (List UInt8)}:QQ (Qbn k al items):=fun A A' bs x p hA h=>⟨VecP.stable A A' bs x p hA h.1,by rw[Nat.add_assoc,Qes];exact h.2⟩
theorem vecS_made {S:BS} (hI:Inv S) (h:Qbm S) {es al:Nat} {items:List (List UInt8)} (hal:P2 al) (hi:∀x∈items,x.length=es) (hn:items.length<4000000000):
  Qde S (vecS es al items S,(vecS es al items S).buf.length) ⟨False,Qbn es al items⟩/\
   (vecS es al items S).buf=leB (items.length:Int) 4++(items.flatten++(QF es items.length al S).buf)/\∃x,(QF es items.length al S).buf=x++S.buf:=by
 obtain ⟨x,hx,hxl⟩:=Qdj es items.length al S hal.pos
 have hf:=Qaz items hi
 have e:(vecS es al items S).buf=leB (items.length:Int) 4++(items.flatten++(QF es items.length al S).buf):=rfl
 have el:(vecS es al items S).buf.length=4+es*items.length+(QF es items.length al S).buf.length:=by rw[e];simp only[List.length_append,Qc,hf];omega
 have hm:=Qgm es items.length al S
 obtain ⟨k,hk,hke⟩:=hal
 have ha:=QeA (es:=es) (n:=items.length) (al:=al) (k:=k) S hke
 have h4:((QF es items.length al S).buf.length+es*items.length)%4=0:=by
  have hp:=Qcl (size:=4) (n:=S.buf.length+es*items.length) (by decide)
  have hl:=startVec_len (es:=es) (n:=items.length) (al:=al) (S:=S)
  have hc:k=3\/k=2\/k=1\/k=0:=by omega
  rcases hc with rfl|rfl|hc
  ·rw[hke]at ha⊢;omega
  ·rw[hke]at ha⊢;omega
  ·have hz:padOf al (padOf 4 (S.buf.length+es*items.length)+S.buf.length+es*items.length)=0:=by
    apply YZ
    rcases hc with rfl|rfl
    ·rw[hke];omega
    ·rw[hke];omega
   rw[hz]at hl
   omega
 refine ⟨⟨h.ext hI.vts rfl (x:=leB (items.length:Int) 4++(items.flatten++x)) (by rw[e,hx];simp),⟨leB (items.length:Int) 4++(items.flatten++x),by show (vecS es al items S).buf=_;rw[e,hx];simp⟩,?_,Or.inr ⟨by show _≠0;omega,fun h=>h,Nat.le_refl _,?_⟩⟩,e,x,hx⟩
 ·show S.min<=(QF es items.length al S).min
  exact Nat.le_trans (Nat.le_max_left S.min 4) (Nat.le_max_left _ al)
 ·show Qbn es al items _ _ ((vecS es al items S).buf.length-(vecS es al items S).buf.length)
  rw[Nat.sub_self]
  refine ⟨⟨by rw[el];omega,⟨Qhu,hm.1,by rw[el];omega⟩,⟨⟨k,hk,hke⟩,hm.2,?_⟩,by rw[e,Qgs (Nat.le_refl _)];omega⟩,?_⟩
  ·rw[el,show 4+es*items.length+(QF es items.length al S).buf.length-(0+4)=(QF es items.length al S).buf.length+es*items.length by omega];exact ha
  ·have h4:(leB (items.length:Int) 4).length=0+4:=Qc _ _
   show ((vecS es al items S).buf.drop (0+4)).take _=_
   rw[e,<-h4,List.drop_left,List.take_left]
theorem QbL {S:BS} (hI:Inv S) (h:Qbm S) {es al:Nat} {items:List (List UInt8)} (hal:P2 al) (hi:∀x∈items,x.length=es) (hn:items.length<4000000000):Qde S (Qh4 es al items S) ⟨items=[],Qbn es al items⟩:=by
 unfold Qh4
 by_cases he:items=[]
 ·rw[if_pos he];exact Qde.none h he
 ·rw[if_neg he]
  obtain ⟨⟨a,b,c,d⟩,_⟩:=vecS_made hI h hal hi hn
  refine ⟨a,b,c,?_⟩
  rcases d with d|d
  ·exact d.2.elim
  ·exact Or.inr ⟨d.1,he,d.2.2⟩
def Qhb {α:Type} (l:List α) (P:α->PP):PP:=fun A bs t=>VecP 4 4 l.length A bs t/\∀(i:Nat) a,l[i]?=some a->QaQ (P a) A bs (t+4+4*i)
theorem Qhb.stable {α:Type} {l:List α} {P:α->PP} (hP:∀a∈l,QQ (P a)):QQ (Qhb l P):=fun A A' bs x p hA h=>⟨VecP.stable A A' bs x p hA h.1,fun i a ha=>by
 have:=QaQ.stable (hP a (List.mem_of_getElem? ha)) A A' bs x _ hA (h.2 i a ha)
 rw[show x.length+p+4+4*i=x.length+(p+4+4*i) by omega];exact this⟩
theorem QiZ (L:Nat):∀(os:List Nat) (i o:Nat) (rest:List UInt8),os[i]?=some o->le4 ((Zn L os).flatten++rest) (4*i)=(L+4*(os.length-1-i)-o+4)%4294967296
 |o'::os,0,o,rest,h=>by
  have:o'=o:=by simpa using h
  subst this
  rw[Zn,List.flatten_cons,List.append_assoc,Nat.mul_zero,Qgs (Nat.le_refl _)];simp
 |o'::os,i+1,o,rest,h=>by
  have h':os[i]?=some o:=by simpa using h
  have hi:i<os.length:=by
   rcases Nat.lt_or_ge i os.length with hh|hh
   ·exact hh
   ·rw[List.getElem?_eq_none hh]at h';cases h'
  have e:4*(i+1)=(leB ((L+4*os.length-o'+4:Nat):Int) 4).length+4*i:=by rw[Qc];omega
  rw[Zn,List.flatten_cons,List.append_assoc,e,QaI,QiZ L os i o rest h',List.length_cons]
  rw[show os.length+1-1-(i+1)=os.length-1-i by omega]
theorem optO_made {α:Type} {S:BS} {q:BS->BS×List Nat} {l:List α} {P:α->PP} (hP:∀a∈l,QQ (P a)) (h:Qbm S) (hI1:Inv (q S).1) (h1:Qbm (q S).1) (hx:∃x,(q S).1.buf=x++S.buf) (hm:S.min<=(q S).1.min) (hl:(q S).2.length=l.length)
  (hk:∀(i:Nat) a o,l[i]?=some a->(q S).2[i]?=some o->OF (q S).1 o ⟨False,P a⟩) (hb:(q S).1.buf.length+4*l.length<1000000000):Qde S (Qii q S) ⟨l=[],Qhb l P⟩:=by
 have hnil:(q S).2=[]↔l=[]:=by
  rw[<-List.length_eq_zero_iff,hl,List.length_eq_zero_iff]
 unfold Qii
 by_cases he:(q S).2=[]
 ·rw[if_pos he];exact Qde.none h (hnil.1 he)
 ·rw[if_neg he]
  have hlen:=Qdf (QF 4 (q S).2.length 4 (q S).1).buf.length (q S).2
  obtain ⟨⟨a,⟨x',hx'⟩,c,d⟩,e,⟨x2,hx2⟩⟩:=vecS_made (es:=4) (al:=4) hI1 h1 Qhu (Qcs (QF 4 (q S).2.length 4 (q S).1).buf.length (q S).2) (by rw[hlen,hl];omega)
  rw[hlen]at e hx2
  obtain ⟨x,hx⟩:=hx
  refine ⟨a,⟨x'++x,?_⟩,Nat.le_trans hm c,?_⟩
  ·show (QeG (q S).2 (q S).1).buf=_
   unfold QeG
   have hx'':(vecS 4 4 (Zn (QF 4 (q S).2.length 4 (q S).1).buf.length (q S).2) (q S).1).buf=x'++(q S).1.buf:=hx'
   rw[hx'',hx,List.append_assoc]
  rcases d with d|⟨d1,d2,d3,⟨d4,d5⟩⟩
  ·exact d.2.elim
  ·refine Or.inr ⟨d1,fun hn=>he (hnil.2 hn),d3,?_⟩
   have d4':VecP 4 4 l.length (QeG (q S).2 (q S).1).min (QeG (q S).2 (q S).1).buf ((QeG (q S).2 (q S).1).buf.length-(QeG (q S).2 (q S).1).buf.length):=by
    have:(Zn (QF 4 (q S).2.length 4 (q S).1).buf.length (q S).2).length=l.length:=by rw[hlen,hl]
    rw[<-this];exact d4
   show Qhb l P (QeG (q S).2 (q S).1).min (QeG (q S).2 (q S).1).buf ((QeG (q S).2 (q S).1).buf.length-(QeG (q S).2 (q S).1).buf.length)
   have hx'':(QeG (q S).2 (q S).1).buf=x'++(q S).1.buf:=hx'
   have hmm:(q S).1.min<=(QeG (q S).2 (q S).1).min:=c
   have e':(QeG (q S).2 (q S).1).buf=leB ((q S).2.length:Int) 4++((Zn (QF 4 (q S).2.length 4 (q S).1).buf.length (q S).2).flatten++(QF 4 (q S).2.length 4 (q S).1).buf):=e
   generalize QeG (q S).2 (q S).1=E at *
   rw[Nat.sub_self]at d4'⊢
   refine ⟨d4',fun i a ha=>?_⟩
   have hi:i<l.length:=by
    rcases Nat.lt_or_ge i l.length with hh|hh
    ·exact hh
    ·rw[List.getElem?_eq_none hh]at ha;cases ha
   have ho:(q S).2[i]?=some ((q S).2[i]'(by rw[hl];exact hi)):=List.getElem?_eq_getElem _
   generalize (q S).2[i]'(by rw[hl];exact hi)=o at ho
   rcases hk i a o ha ho with hh|⟨k1,k2,k3,k4⟩
   ·exact hh.2.elim
   obtain ⟨v1,v2,v3,v4⟩:=d4'
   have hst:(QF 4 (q S).2.length 4 (q S).1).buf.length=x2.length+(q S).1.buf.length:=by rw[hx2,List.length_append]
   have hfl:=Qaz (es:=4) _ (Qcs (QF 4 (q S).2.length 4 (q S).1).buf.length (q S).2)
   rw[hlen]at hfl
   have hel:E.buf.length=4+4*l.length+(QF 4 (q S).2.length 4 (q S).1).buf.length:=by rw[e'];simp only[List.length_append,Qc,hfl];omega
   have hsl:=(Qdj 4 (q S).2.length 4 (q S).1 (by decide))
   obtain ⟨x3,hx3,hx3l⟩:=hsl
   have hx3':(QF 4 (q S).2.length 4 (q S).1).buf.length=x3.length+(q S).1.buf.length:=by rw[hx3,List.length_append]
   have hle:le4 E.buf (0+4+4*i)=(QF 4 (q S).2.length 4 (q S).1).buf.length+4*(l.length-1-i)-o+4:=by
    have e3:0+4+4*i=(leB ((q S).2.length:Int) 4).length+4*i:=by rw[Qc]
    rw[e',e3,QaI,QiZ _ _ _ _ _ ho]
    omega
   have htg:tgt E.buf (0+4+4*i)=E.buf.length-o:=by unfold tgt;rw[hle];omega
   refine ⟨by omega,⟨Qhu,v2.2.1,?_⟩,by rw[htg];omega,?_⟩
   ·have:=v3.2.2
    omega
   ·rw[htg,hx'',show (x'++(q S).1.buf).length-o=x'.length+((q S).1.buf.length-o) by rw[List.length_append];omega]
    exact hP a (List.mem_of_getElem? ha) _ _ _ _ _ hmm k4
theorem QhX {α:Type} {f:α->BS->BS×Nat} {P:α->PP} {c:α->Nat} {B:Nat}:∀(xs:List α),(∀a∈xs,QQ (P a))->(∀x∈xs,∀S,Inv S->Yw S (c x) (f x S))->(∀x∈xs,∀S,Inv S->Qbm S->S.buf.length+c x<=B->Qde S (f x S) ⟨False,P x⟩)->
  ∀S,Inv S->Qbm S->S.buf.length+(xs.map c).sum<=B->
  Qbm (Qx f xs S).1/\(∃x,(Qx f xs S).1.buf=x++S.buf)/\S.min<=(Qx f xs S).1.min/\∀(i:Nat) a o,xs[i]?=some a->(Qx f xs S).2[i]?=some o->OF (Qx f xs S).1 o ⟨False,P a⟩
 |[],_,_,_,S,_,h2,_=>⟨h2,⟨[],rfl⟩,Nat.le_refl _,fun i a o h=>by simp at h⟩
 |x::xs,hst,hp,hm,S,hI,h2,hB=>by
  rw[List.map_cons,List.sum_cons]at hB
  have hpk:=hp x List.mem_cons_self S hI
  obtain ⟨a1,⟨x1,a2⟩,a3,a4⟩:=hm x List.mem_cons_self S hI h2 (by omega)
  have hl:=hpk.len
  obtain ⟨b1,⟨x2,b2⟩,b3,b4⟩:=QhX xs (fun a h=>hst a (List.mem_cons_of_mem _ h)) (fun y h=>hp y (List.mem_cons_of_mem _ h)) (fun y h=>hm y (List.mem_cons_of_mem _ h)) (f x S).1 hpk.inv a1 (by omega)
  refine ⟨b1,⟨x2++x1,by show (Qx f xs (f x S).1).1.buf=_;rw[b2,a2,List.append_assoc]⟩,Nat.le_trans a3 b3,fun i a o h1 h2=>?_⟩
  cases i with
  |zero=>
   have e1:x=a:=by simpa using h1
   have e2:(f x S).2=o:=by simpa [Qx]using h2
   subst e1;subst e2
   exact a4.mono (hst x List.mem_cons_self) b2 b3
  |succ i=>exact b4 i a o (by simpa using h1) (by simpa [Qx]using h2)
theorem slotN_in {S0:BS} {n k x d o:Nat} (hk:P2 k):∀c S',Y8 S0 n c S'->Y8 S0 n (c+64) (slotN k x d o S'):=fun c S' h=>(h.slotN hk).mono (by omega)
theorem slotOff_in {S0:BS} {n x o:Nat}:∀c S',Y8 S0 n c S'->Y8 S0 n (c+64) (slotOff x o S'):=fun c S' h=>h.slotOff.mono (by omega)
def RefP (x:UInt64):PP:=fun A bs p=>∃vt,TabOk A bs p vt 1/\QM A bs p vt 4 (x.toNat=0) (ZW 8 x.toNat)
theorem RefP.stable {x:UInt64}:QQ (RefP x):=fun A A' bs y p hA h=>by
 obtain ⟨vt,h1,h2⟩:=h
 exact ⟨_,h1.shift hA,h2.shift ZW.stable hA⟩
theorem packRef_made {S:BS} (hI:Inv S) (h2:Qbm S) (hl:S.buf.length<600000000) (x:UInt64):Qde S (Qb6 x S) ⟨False,RefP x⟩:=by
 obtain ⟨a,b,c,d,e,vt,f,_,g⟩:=QdX (fs:=[slotN 8 x.toNat 0 0]) (ss:=[⟨0,x.toNat=0,ZW 8 x.toNat⟩]) (n:=1) hI h2 ⟨Op.slotN Qek x.toNat_lt,trivial⟩ (by simp) (fun s hs=>by simp at hs;subst hs;exact Nat.zero_lt_one) (by decide)
  (fun f hf=>by simp at hf;subst hf;exact slotN_in Qek) (by simp) hl
 exact ⟨a,b,c,Or.inr ⟨d,fun h=>h,e,vt,f,g.1⟩⟩
def Qiy (x:UInt8):PP:=fun A bs p=>∃vt,TabOk A bs p vt 1/\QM A bs p vt 4 (x.toNat=2) (ZW 1 x.toNat)
theorem Qiy.stable {x:UInt8}:QQ (Qiy x):=fun A A' bs y p hA h=>by
 obtain ⟨vt,h1,h2⟩:=h
 exact ⟨_,h1.shift hA,h2.shift ZW.stable hA⟩
theorem packSimple_made {S:BS} (hI:Inv S) (h2:Qbm S) (hl:S.buf.length<600000000) (x:UInt8):Qde S (Qd3 x S) ⟨False,Qiy x⟩:=by
 obtain ⟨a,b,c,d,e,vt,f,_,g⟩:=QdX (fs:=[slotN 1 x.toNat 2 0]) (ss:=[⟨0,x.toNat=2,ZW 1 x.toNat⟩]) (n:=1) hI h2 ⟨Op.slotN P2_1 x.toNat_lt,trivial⟩ (by simp) (fun s hs=>by simp at hs;subst hs;exact Nat.zero_lt_one) (by decide)
  (fun f hf=>by simp at hf;subst hf;exact slotN_in P2_1) (by simp) hl
 exact ⟨a,b,c,Or.inr ⟨d,fun h=>h,e,vt,f,g.1⟩⟩
def Qfk:PP:=fun A bs p=>∃vt,TabOk A bs p vt 0
theorem Qfk.stable:QQ Qfk:=fun A A' bs y p hA h=>by
 obtain ⟨vt,h1⟩:=h
 exact ⟨_,h1.shift hA⟩
theorem optParent_made {S:BS} (hI:Inv S) (h2:Qbm S) (hl:S.buf.length<600000000) (b:Bool):Qde S (QdR b S) ⟨b=false,Qfk⟩:=by
 cases b
 ·exact Qde.none h2 rfl
 ·obtain ⟨a,b,c,d,e,vt,f,_,g⟩:=QdX (fs:=[]) (ss:=[]) (n:=0) hI h2 trivial (by simp) (fun s hs=>by simp at hs) (by decide) (fun f hf=>by simp at hf) (by decide) hl
  exact ⟨a,b,c,Or.inr ⟨d,by simp,e,vt,f⟩⟩
def StatP (d:Qaa):PP:=fun A bs p=>∃vt,TabOk A bs p vt 3/\QM A bs p vt 4 False (QaQ (Qd2 d.id))/\QM A bs p vt 6 (d.val.toNat=0) (ZW 8 d.val.toNat)/\QM A bs p vt 8 (d.count.toNat=0) (ZW 2 d.count.toNat)
theorem StatP.stable {d:Qaa}:QQ (StatP d):=fun A A' bs y p hA h=>by
 obtain ⟨vt,h1,h2,h3,h4⟩:=h
 exact ⟨_,h1.shift hA,h2.shift (QaQ.stable Qd2.stable) hA,h3.shift ZW.stable hA,h4.shift ZW.stable hA⟩
theorem packStat_made {S:BS} (hI:Inv S) (h2:Qbm S) {d:Qaa} (hl:S.buf.length+d.id.length<500000000):Qde S (Qct d S) ⟨False,StatP d⟩:=by
 obtain ⟨g1,g2,g3⟩:=hI.createStr d.id
 obtain ⟨a1,⟨x,hx⟩,a3,a4⟩:=Qex hI h2 (xs:=d.id) (by omega)
 have e:Qct d S=endT (QfT [slotOff (createStr d.id S).buf.length 0,slotN 8 d.val.toNat 0 1,slotN 2 d.count.toNat 0 2] (YJ 3 (createStr d.id S))):=rfl
 rw[e]
 have a1':Qbm (createStr d.id S):=a1
 obtain ⟨a,⟨y,hy⟩,c,d',e,vt,f,_,g⟩:=QdX (fs:=[slotOff (createStr d.id S).buf.length 0,slotN 8 d.val.toNat 0 1,slotN 2 d.count.toNat 0 2]) (ss:=[⟨0,(createStr d.id S).buf.length=0,Qgr (createStr d.id S).buf.length⟩,⟨1,d.val.toNat=0,ZW 8 d.val.toNat⟩,⟨2,d.count.toNat=0,ZW 2 d.count.toNat⟩]) (n:=3) g1 a1'
  ⟨Op.slotOff (Nat.le_refl _),Op.slotN Qek d.val.toNat_lt,Op.slotN P2_2 d.count.toNat_lt,trivial⟩ (by simp) (fun s hs=>by simp at hs;rcases hs with rfl|rfl|rfl<;>simp) (by decide)
  (fun f hf=>by simp at hf;rcases hf with rfl|rfl|rfl;exact slotOff_in;exact slotN_in Qek;exact slotN_in P2_2) (by simp) (by omega)
 have hx':(createStr d.id S).buf=x++S.buf:=hx
 have a3':S.min<=(createStr d.id S).min:=a3
 refine ⟨a,⟨y++x,by rw[hy,hx',List.append_assoc]⟩,Nat.le_trans a3' c,Or.inr ⟨d',fun h=>h,e,vt,f,?_,g.2.1,g.2.2.1⟩⟩
 exact g.1.ref (S:=createStr d.id S) (s:=⟨False,Qd2 d.id⟩) Qd2.stable a4 hy c
theorem optStat_made {S:BS} (hI:Inv S) (h2:Qbm S) {d:Option Qaa} (hl:S.buf.length+Qid d<500000000):Qde S (Qhg d S) ⟨d=none,fun A bs p=>∀s,d=some s->StatP s A bs p⟩:=by
 cases d with
 |none=>exact Qde.none h2 rfl
 |some s=>
  obtain ⟨a,b,c,d⟩:=packStat_made hI h2 (d:=s) hl
  refine ⟨a,b,c,?_⟩
  rcases d with d|d
  ·exact d.2.elim
  ·exact Or.inr ⟨d.1,by simp,d.2.2.1,fun s' hs=>by cases hs;exact d.2.2.2⟩
def UnP (amb:Bool) (ty color:UInt8) (K:PP):PP:=fun A bs t=>if amb=false/\ty=2 then Qiy color A bs t else K A bs t
theorem UnP.stable {amb:Bool} {ty color:UInt8} {K:PP} (hK:QQ K):QQ (UnP amb ty color K):=fun A A' bs x p hA h=>by
 unfold UnP at h⊢
 split
 ·rename_i hc;rw[if_pos hc]at h;exact Qiy.stable A A' bs x p hA h
 ·rename_i hc;rw[if_neg hc]at h;exact hK A A' bs x p hA h
theorem Qhp {S:BS} (hI:Inv S) (h2:Qbm S) (hl:S.buf.length<600000000) {amb:Bool} {ty color:UInt8} {kid:BS->BS×Nat} {K:PP} (hk:ty≠0->¬(amb=false/\ty=2)->Qde S (kid S) ⟨False,K⟩):Qde S (Qbp amb ty color kid S) ⟨ty=0,UnP amb ty color K⟩:=by
 unfold Qbp
 by_cases h0:ty=0
 ·rw[if_pos h0];exact Qde.none h2 h0
 ·rw[if_neg h0]
  by_cases hc:amb=false/\ty=2
  ·rw[if_pos hc]
   obtain ⟨a,b,c,d⟩:=packSimple_made hI h2 hl color
   refine ⟨a,b,c,?_⟩
   rcases d with d|d
   ·exact d.2.elim
   ·refine Or.inr ⟨d.1,h0,d.2.2.1,?_⟩
    show UnP amb ty color K _ _ _
    unfold UnP;rw[if_pos hc];exact d.2.2.2
  ·rw[if_neg hc]
   obtain ⟨a,b,c,d⟩:=hk h0 hc
   refine ⟨a,b,c,?_⟩
   rcases d with d|d
   ·exact d.2.elim
   ·refine Or.inr ⟨d.1,h0,d.2.2.1,?_⟩
    show UnP amb ty color K _ _ _
    unfold UnP;rw[if_neg hc];exact d.2.2.2
end Go.Proofs
namespace Go.Proofs
open Go Go.Vc
open Tryz (prog)
theorem Op.slotNF {L0 fc k x d o:Nat} (hk:P2 k) (hx:x<256^k):Op (Proofs.slotNF fc k x d o) L0 ⟨o,x=d/\fc≠o,ZW k x⟩:=
 Op.num hk hx (fun h S=>by unfold Proofs.slotNF;rw[if_pos h]) (fun h S=>by unfold Proofs.slotNF;rw[if_neg h])
theorem Op.slotFF {L0 fc x d o:Nat} (hx:x<256^4):Op (Proofs.slotFF fc x d o) L0 ⟨o,FloatKind.f32.format.order x d=some .eq/\fc≠o,ZW 4 x⟩:=
 Op.num Qhu hx (fun h S=>by unfold Proofs.slotFF;rw[if_pos h]) (fun h S=>by unfold Proofs.slotFF;rw[if_neg h])
structure OwnRd (A:Nat) (bs:List UInt8) (pos vt fc:Nat) (d:ZT):Prop where
 tab:TabOk A bs pos vt 49
 none4:slotAt bs vt 12=0
 pos0:QM A bs pos vt 4 (d.pos=none) (posQ d.pos)
 mana:QM A bs pos vt 6 (d.mana.toNat=150/\fc≠1) (ZW 2 d.mana.toNat)
 hp:QM A bs pos vt 8 (d.hp.toNat=100/\fc≠2) (ZW 2 d.hp.toNat)
 name:QM A bs pos vt 10 (False) (QaQ (Qd2 d.name))
 inventory:QM A bs pos vt 14 (d.inventory=[]) (QaQ (Qd2 d.inventory))
 color:QM A bs pos vt 16 (d.color.toNat=8/\fc≠6) (ZW 1 d.color.toNat)
 testTy:QM A bs pos vt 18 (d.testTy=0) (ZW 1 d.testTy.toNat)
 test4:QM A bs pos vt 22 ((d.test4.map fun t=>QaW t.a.toNat t.b.toNat)=[]) (QaQ (Qbn 4 2 (d.test4.map fun t=>QaW t.a.toNat t.b.toNat)))
 strings:QM A bs pos vt 24 (d.strings=[]) (QaQ (Qhb d.strings Qd2))
 nested:QM A bs pos vt 30 (d.nested=[]) (QaQ (Qd2 d.nested))
 empty:QM A bs pos vt 32 (d.empty=none) (QaQ ((fun A bs p=>∀s,d.empty=some s->StatP s A bs p)))
 bool:QM A bs pos vt 34 ((if d.bool then 1 else 0)=0/\fc≠15) (ZW 1 (if d.bool then 1 else 0))
 s32:QM A bs pos vt 36 (d.s32.toNat=0/\fc≠16) (ZW 4 d.s32.toNat)
 u32:QM A bs pos vt 38 (d.u32.toNat=0/\fc≠17) (ZW 4 d.u32.toNat)
 s64:QM A bs pos vt 40 (d.s64.toNat=0/\fc≠18) (ZW 8 d.s64.toNat)
 u64:QM A bs pos vt 42 (d.u64.toNat=0/\fc≠19) (ZW 8 d.u64.toNat)
 s32a:QM A bs pos vt 44 (d.s32a.toNat=0/\fc≠20) (ZW 4 d.s32a.toNat)
 u32a:QM A bs pos vt 46 (d.u32a.toNat=0/\fc≠21) (ZW 4 d.u32a.toNat)
 s64a:QM A bs pos vt 48 (d.s64a.toNat=0/\fc≠22) (ZW 8 d.s64a.toNat)
 u64a:QM A bs pos vt 50 (d.u64a.toNat=0/\fc≠23) (ZW 8 d.u64a.toNat)
 bools:QM A bs pos vt 52 ((d.bools.map Qfe)=[]) (QaQ (Qbn 1 1 (d.bools.map Qfe)))
 f:QM A bs pos vt 54 (FloatKind.f32.format.order d.f.toNat 1078530000=some .eq/\fc≠25) (ZW 4 d.f.toNat)
 f2:QM A bs pos vt 56 (FloatKind.f32.format.order d.f2.toNat 1077936128=some .eq/\fc≠26) (ZW 4 d.f2.toNat)
 f3:QM A bs pos vt 58 (FloatKind.f32.format.order d.f3.toNat 0=some .eq/\fc≠27) (ZW 4 d.f3.toNat)
 strings2:QM A bs pos vt 60 (d.strings2=[]) (QaQ (Qhb d.strings2 Qd2))
 abilities:QM A bs pos vt 62 ((d.abilities.map fun t=>Z9 t.id.toNat t.dist.toNat)=[]) (QaQ (Qbn 8 4 (d.abilities.map fun t=>Z9 t.id.toNat t.dist.toNat)))
 flex:QM A bs pos vt 64 (d.flex=[]) (QaQ (Qd2 d.flex))
 test5:QM A bs pos vt 66 ((d.test5.map fun t=>QaW t.a.toNat t.b.toNat)=[]) (QaQ (Qbn 4 2 (d.test5.map fun t=>QaW t.a.toNat t.b.toNat)))
 longs:QM A bs pos vt 68 ((d.longs.map QaB)=[]) (QaQ (Qbn 8 8 (d.longs.map QaB)))
 doubles:QM A bs pos vt 70 ((d.doubles.map QaB)=[]) (QaQ (Qbn 8 8 (d.doubles.map QaB)))
 parent:QM A bs pos vt 72 (d.parent=false) (QaQ (Qfk))
 refs:QM A bs pos vt 74 (d.refs=[]) (QaQ (Qhb d.refs RefP))
 singleWeak:QM A bs pos vt 76 (d.singleWeak.toNat=0/\fc≠36) (ZW 8 d.singleWeak.toNat)
 weak:QM A bs pos vt 78 ((d.weak.map QaB)=[]) (QaQ (Qbn 8 8 (d.weak.map QaB)))
 strong:QM A bs pos vt 80 (d.strong=[]) (QaQ (Qhb d.strong RefP))
 coOwning:QM A bs pos vt 82 (d.coOwning.toNat=0/\fc≠39) (ZW 8 d.coOwning.toNat)
 coOwnings:QM A bs pos vt 84 ((d.coOwnings.map QaB)=[]) (QaQ (Qbn 8 8 (d.coOwnings.map QaB)))
 nonOwning:QM A bs pos vt 86 (d.nonOwning.toNat=0/\fc≠41) (ZW 8 d.nonOwning.toNat)
 nonOwnings:QM A bs pos vt 88 ((d.nonOwnings.map QaB)=[]) (QaQ (Qbn 8 8 (d.nonOwnings.map QaB)))
 uniqTy:QM A bs pos vt 90 (d.uniqTy=0) (ZW 1 d.uniqTy.toNat)
 ambTy:QM A bs pos vt 94 (d.ambTy=0) (ZW 1 d.ambTy.toNat)
 enums:QM A bs pos vt 98 ((d.enums.map fun b=>[b])=[]) (QaQ (Qbn 1 1 (d.enums.map fun b=>[b])))
 signedEnum:QM A bs pos vt 100 (d.signedEnum.toNat=255/\fc≠48) (ZW 1 d.signedEnum.toNat)
theorem posQ.stable {pos:Option Qaj}:QQ (posQ pos):=(Op.slotPos (L0:=0)).st
theorem OwnRd.shift {A A':Nat} {bs x:List UInt8} {pos vt fc:Nat} {d:ZT} (hA:A<=A') (h:OwnRd A bs pos vt fc d):OwnRd A' (x++bs) (x.length+pos) (x.length+vt) fc d where
 tab:=h.tab.shift hA
 none4:=by rw[QbY];exact h.none4
 pos0:=h.pos0.shift (posQ.stable) hA
 mana:=h.mana.shift (ZW.stable) hA
 hp:=h.hp.shift (ZW.stable) hA
 name:=h.name.shift (QaQ.stable (Qd2.stable)) hA
 inventory:=h.inventory.shift (QaQ.stable (Qd2.stable)) hA
 color:=h.color.shift (ZW.stable) hA
 testTy:=h.testTy.shift (ZW.stable) hA
 test4:=h.test4.shift (QaQ.stable (Qbn.stable)) hA
 strings:=h.strings.shift (QaQ.stable (Qhb.stable (fun _ _=>Qd2.stable))) hA
 nested:=h.nested.shift (QaQ.stable (Qd2.stable)) hA
 empty:=h.empty.shift (QaQ.stable (fun A A' bs x p hA h s hs=>StatP.stable A A' bs x p hA (h s hs))) hA
 bool:=h.bool.shift (ZW.stable) hA
 s32:=h.s32.shift (ZW.stable) hA
 u32:=h.u32.shift (ZW.stable) hA
 s64:=h.s64.shift (ZW.stable) hA
 u64:=h.u64.shift (ZW.stable) hA
 s32a:=h.s32a.shift (ZW.stable) hA
 u32a:=h.u32a.shift (ZW.stable) hA
 s64a:=h.s64a.shift (ZW.stable) hA
 u64a:=h.u64a.shift (ZW.stable) hA
 bools:=h.bools.shift (QaQ.stable (Qbn.stable)) hA
 f:=h.f.shift (ZW.stable) hA
 f2:=h.f2.shift (ZW.stable) hA
 f3:=h.f3.shift (ZW.stable) hA
 strings2:=h.strings2.shift (QaQ.stable (Qhb.stable (fun _ _=>Qd2.stable))) hA
 abilities:=h.abilities.shift (QaQ.stable (Qbn.stable)) hA
 flex:=h.flex.shift (QaQ.stable (Qd2.stable)) hA
 test5:=h.test5.shift (QaQ.stable (Qbn.stable)) hA
 longs:=h.longs.shift (QaQ.stable (Qbn.stable)) hA
 doubles:=h.doubles.shift (QaQ.stable (Qbn.stable)) hA
 parent:=h.parent.shift (QaQ.stable (Qfk.stable)) hA
 refs:=h.refs.shift (QaQ.stable (Qhb.stable (fun _ _=>RefP.stable))) hA
 singleWeak:=h.singleWeak.shift (ZW.stable) hA
 weak:=h.weak.shift (QaQ.stable (Qbn.stable)) hA
 strong:=h.strong.shift (QaQ.stable (Qhb.stable (fun _ _=>RefP.stable))) hA
 coOwning:=h.coOwning.shift (ZW.stable) hA
 coOwnings:=h.coOwnings.shift (QaQ.stable (Qbn.stable)) hA
 nonOwning:=h.nonOwning.shift (ZW.stable) hA
 nonOwnings:=h.nonOwnings.shift (QaQ.stable (Qbn.stable)) hA
 uniqTy:=h.uniqTy.shift (ZW.stable) hA
 ambTy:=h.ambTy.shift (ZW.stable) hA
 enums:=h.enums.shift (QaQ.stable (Qbn.stable)) hA
 signedEnum:=h.signedEnum.shift (ZW.stable) hA
def MonF (fc:Nat) (d:ZT) (abT:Prop) (PT:PP) (abE:Prop) (PE PU PQ PA:PP):PP:=fun A bs pos=>∃vt,OwnRd A bs pos vt fc d/\
 QM A bs pos vt 26 abT (QaQ PT)/\QM A bs pos vt 28 abE (QaQ PE)/\QM A bs pos vt 20 (d.testTy=0) (QaQ (UnP false d.testTy d.testColor PU))/\
 QM A bs pos vt 92 (d.uniqTy=0) (QaQ (UnP false d.uniqTy d.uniqColor PQ))/\QM A bs pos vt 96 (d.ambTy=0) (QaQ (UnP true d.ambTy d.ambColor PA))
theorem MonF.stable {fc:Nat} {d:ZT} {abT abE:Prop} {PT PE PU PQ PA:PP} (sT:QQ PT) (sE:QQ PE) (sU:QQ PU) (sQ:QQ PQ) (sA:QQ PA):QQ (MonF fc d abT PT abE PE PU PQ PA):=fun A A' bs x p hA h=>by
 obtain ⟨vt,h1,h2,h3,h4,h5,h6⟩:=h
 exact ⟨_,h1.shift hA,h2.shift (QaQ.stable sT) hA,h3.shift (QaQ.stable sE) hA,h4.shift (QaQ.stable (UnP.stable sU)) hA,h5.shift (QaQ.stable (UnP.stable sQ)) hA,h6.shift (QaQ.stable (UnP.stable sA)) hA⟩
theorem costs_sum':∀l:List Mon,(l.map Yy).sum=ZB l
 |[]=>rfl
 |m::ms=>by rw[List.map_cons,List.sum_cons,ZB,costs_sum' ms]
theorem strs_made (l:List (List UInt8)) {S:BS} (hI:Inv S) (h2:Qbm S) (hl:S.buf.length+((l.map List.length).sum+12*l.length+15)<=500000000):Qde S (Qii (Qx QaZ l) S) ⟨l=[],Qhb l Qd2⟩:=by
 obtain ⟨h1,g2,g3,_⟩:=QbO (f:=QaZ) (c:=fun x=>x.length+8) l (fun x _ S hS=>Qc5 x hS) S hI
 rw[QcT]at g2
 obtain ⟨a,b,c,d⟩:=QhX (f:=QaZ) (P:=Qd2) (c:=fun x=>x.length+8) (B:=500000000) l (fun _ _=>Qd2.stable) (fun x _ S hS=>Qc5 x hS) (fun x _ S hS h hb=>Qj5 hS h (by have:S.buf.length+(x.length+8)<=500000000:=hb;omega)) S hI h2 (by rw[QcT];omega)
 exact optO_made (fun _ _=>Qd2.stable) h2 h1 a b c (Qa8 _ _ _) d (by omega)
theorem refs_made (l:List UInt64) {S:BS} (hI:Inv S) (h2:Qbm S) (hl:S.buf.length+(44*l.length+15)<=500000000):Qde S (Qii (Qx Qb6 l) S) ⟨l=[],Qhb l RefP⟩:=by
 obtain ⟨h1,g2,g3,_⟩:=QbO (f:=Qb6) (c:=fun _=>40) l (fun x _ S hS=>(QeW x hS).1) S hI
 rw[Qbi]at g2
 obtain ⟨a,b,c,d⟩:=QhX (f:=Qb6) (P:=RefP) (c:=fun _=>40) (B:=500000000) l (fun _ _=>RefP.stable) (fun x _ S hS=>(QeW x hS).1) (fun x _ S hS h hb=>packRef_made hS h (by have:S.buf.length+40<=500000000:=hb;omega) x) S hI h2 (by rw[Qbi];omega)
 exact optO_made (fun _ _=>RefP.stable) h2 h1 a b c (Qa8 _ _ _) d (by omega)
def MkMade (B:Nat):List (BS->BS×Nat)->List Nat->List MSpec->Prop
 |[],[],[]=>True
 |f::fs,c::cs,s::ss=>((∀S,Inv S->Qbm S->S.buf.length+c<=B->Qde S (f S) s)/\QQ s.p)/\MkMade B fs cs ss
 |_,_,_=>False
def OFs (S:BS):List Nat->List MSpec->Prop
 |[],[]=>True
 |o::os,s::ss=>OF S o s/\OFs S os ss
 |_,_=>False
theorem OFs.get {S:BS}:∀{os:List Nat} {ss:List MSpec},OFs S os ss->∀(i:Nat) (s:MSpec),ss[i]?=some s->OF S (os.getD i 0) s
 |[],[],_,i,s,h=>by simp at h
 |[],_::_,h,_,_,_=>h.elim
 |_::_,[],h,_,_,_=>h.elim
 |o::os,s'::ss,h,i,s,hs=>by
  cases i with
  |zero=>
   have:s'=s:=by simpa using hs
   subst this;exact h.1
  |succ i=>exact OFs.get h.2 i s (by simpa using hs)
theorem foldMk_made {B:Nat}:∀(fs:List (BS->BS×Nat)) (cs:List Nat) (ss:List MSpec),MkOk fs cs->MkMade B fs cs ss->∀S,Inv S->Qbm S->S.buf.length+cs.sum<=B->
  Qbm (Qx (fun f=>f) fs S).1/\(∃x,(Qx (fun f=>f) fs S).1.buf=x++S.buf)/\S.min<=(Qx (fun f=>f) fs S).1.min/\OFs (Qx (fun f=>f) fs S).1 (Qx (fun f=>f) fs S).2 ss
 |[],[],[],_,_,S,_,h2,_=>⟨h2,⟨[],rfl⟩,Nat.le_refl _,trivial⟩
 |f::fs,c::cs,s::ss,⟨k1,k2⟩,⟨⟨m1,st⟩,m2⟩,S,hI,h2,hB=>by
  rw[List.sum_cons]at hB
  have hpk:=k1 S hI
  obtain ⟨a1,⟨x1,a2⟩,a3,a4⟩:=m1 S hI h2 (by omega)
  have hl:=hpk.len
  obtain ⟨b1,⟨x2,b2⟩,b3,b4⟩:=foldMk_made fs cs ss k2 m2 (f S).1 hpk.inv a1 (by omega)
  refine ⟨b1,⟨x2++x1,?_⟩,Nat.le_trans a3 b3,?_,b4⟩
  ·show (Qx (fun f=>f) fs (f S).1).1.buf=_
   rw[b2,a2,List.append_assoc]
  ·exact a4.mono st b2 b3
 |[],[],_::_,_,h,_,_,_,_=>h.elim
 |[],_::_,_,h,_,_,_,_,_=>h.elim
 |_::_,[],_,h,_,_,_,_,_=>h.elim
 |_::_,_::_,[],_,h,_,_,_,_=>h.elim
theorem QM.ref' {A:Nat} {bs:List UInt8} {pos vt vo off:Nat} {ab:Prop} {P:PP} (h:QM A bs pos vt vo (off=0) (Qgr off)) {S:BS} (hs:QQ P) (ho:OF S off ⟨ab,P⟩) {y:List UInt8} (hb:bs=y++S.buf) (hm:S.min<=A):QM A bs pos vt vo ab (QaQ P):=h.ref (s:=⟨ab,P⟩) hs ho hb hm
def mkSpecs (d:ZT) (abT:Prop) (PT:PP) (abE:Prop) (PE PU PQ PA:PP):List MSpec:=
 [⟨False,Qd2 d.name⟩,
  ⟨d.inventory=[],Qd2 d.inventory⟩,
  ⟨d.testTy=0,UnP false d.testTy d.testColor PU⟩,
  ⟨(d.test4.map fun t=>QaW t.a.toNat t.b.toNat)=[],Qbn 4 2 (d.test4.map fun t=>QaW t.a.toNat t.b.toNat)⟩,
  ⟨d.strings=[],Qhb d.strings Qd2⟩,
  ⟨abT,PT⟩,
  ⟨abE,PE⟩,
  ⟨d.nested=[],Qd2 d.nested⟩,
  ⟨d.empty=none,(fun A bs p=>∀s,d.empty=some s->StatP s A bs p)⟩,
  ⟨(d.bools.map Qfe)=[],Qbn 1 1 (d.bools.map Qfe)⟩,
  ⟨d.strings2=[],Qhb d.strings2 Qd2⟩,
  ⟨(d.abilities.map fun t=>Z9 t.id.toNat t.dist.toNat)=[],Qbn 8 4 (d.abilities.map fun t=>Z9 t.id.toNat t.dist.toNat)⟩,
  ⟨d.flex=[],Qd2 d.flex⟩,
  ⟨(d.test5.map fun t=>QaW t.a.toNat t.b.toNat)=[],Qbn 4 2 (d.test5.map fun t=>QaW t.a.toNat t.b.toNat)⟩,
  ⟨(d.longs.map QaB)=[],Qbn 8 8 (d.longs.map QaB)⟩,
  ⟨(d.doubles.map QaB)=[],Qbn 8 8 (d.doubles.map QaB)⟩,
  ⟨d.parent=false,Qfk⟩,
  ⟨d.refs=[],Qhb d.refs RefP⟩,
  ⟨(d.weak.map QaB)=[],Qbn 8 8 (d.weak.map QaB)⟩,
  ⟨d.strong=[],Qhb d.strong RefP⟩,
  ⟨(d.coOwnings.map QaB)=[],Qbn 8 8 (d.coOwnings.map QaB)⟩,
  ⟨(d.nonOwnings.map QaB)=[],Qbn 8 8 (d.nonOwnings.map QaB)⟩,
  ⟨d.uniqTy=0,UnP false d.uniqTy d.uniqColor PQ⟩,
  ⟨d.ambTy=0,UnP true d.ambTy d.ambColor PA⟩,
  ⟨(d.enums.map fun b=>[b])=[],Qbn 1 1 (d.enums.map fun b=>[b])⟩]
def Qfa (fc:Nat) (d:ZT) (o:List Nat):List Spec:=
 [⟨0,d.pos=none,posQ d.pos⟩,
  ⟨1,d.mana.toNat=150/\fc≠1,ZW 2 d.mana.toNat⟩,
  ⟨2,d.hp.toNat=100/\fc≠2,ZW 2 d.hp.toNat⟩,
  ⟨3,o.getD 0 0=0,Qgr (o.getD 0 0)⟩,
  ⟨5,o.getD 1 0=0,Qgr (o.getD 1 0)⟩,
  ⟨6,d.color.toNat=8/\fc≠6,ZW 1 d.color.toNat⟩,
  ⟨7,d.testTy=0,ZW 1 d.testTy.toNat⟩,
  ⟨8,o.getD 2 0=0,Qgr (o.getD 2 0)⟩,
  ⟨9,o.getD 3 0=0,Qgr (o.getD 3 0)⟩,
  ⟨10,o.getD 4 0=0,Qgr (o.getD 4 0)⟩,
  ⟨11,o.getD 5 0=0,Qgr (o.getD 5 0)⟩,
  ⟨12,o.getD 6 0=0,Qgr (o.getD 6 0)⟩,
  ⟨13,o.getD 7 0=0,Qgr (o.getD 7 0)⟩,
  ⟨14,o.getD 8 0=0,Qgr (o.getD 8 0)⟩,
  ⟨15,(if d.bool then 1 else 0)=0/\fc≠15,ZW 1 (if d.bool then 1 else 0)⟩,
  ⟨16,d.s32.toNat=0/\fc≠16,ZW 4 d.s32.toNat⟩,
  ⟨17,d.u32.toNat=0/\fc≠17,ZW 4 d.u32.toNat⟩,
  ⟨18,d.s64.toNat=0/\fc≠18,ZW 8 d.s64.toNat⟩,
  ⟨19,d.u64.toNat=0/\fc≠19,ZW 8 d.u64.toNat⟩,
  ⟨20,d.s32a.toNat=0/\fc≠20,ZW 4 d.s32a.toNat⟩,
  ⟨21,d.u32a.toNat=0/\fc≠21,ZW 4 d.u32a.toNat⟩,
  ⟨22,d.s64a.toNat=0/\fc≠22,ZW 8 d.s64a.toNat⟩,
  ⟨23,d.u64a.toNat=0/\fc≠23,ZW 8 d.u64a.toNat⟩,
  ⟨24,o.getD 9 0=0,Qgr (o.getD 9 0)⟩,
  ⟨25,FloatKind.f32.format.order d.f.toNat 1078530000=some .eq/\fc≠25,ZW 4 d.f.toNat⟩,
  ⟨26,FloatKind.f32.format.order d.f2.toNat 1077936128=some .eq/\fc≠26,ZW 4 d.f2.toNat⟩,
  ⟨27,FloatKind.f32.format.order d.f3.toNat 0=some .eq/\fc≠27,ZW 4 d.f3.toNat⟩,
  ⟨28,o.getD 10 0=0,Qgr (o.getD 10 0)⟩,
  ⟨29,o.getD 11 0=0,Qgr (o.getD 11 0)⟩,
  ⟨30,o.getD 12 0=0,Qgr (o.getD 12 0)⟩,
  ⟨31,o.getD 13 0=0,Qgr (o.getD 13 0)⟩,
  ⟨32,o.getD 14 0=0,Qgr (o.getD 14 0)⟩,
  ⟨33,o.getD 15 0=0,Qgr (o.getD 15 0)⟩,
  ⟨34,o.getD 16 0=0,Qgr (o.getD 16 0)⟩,
  ⟨35,o.getD 17 0=0,Qgr (o.getD 17 0)⟩,
  ⟨36,d.singleWeak.toNat=0/\fc≠36,ZW 8 d.singleWeak.toNat⟩,
  ⟨37,o.getD 18 0=0,Qgr (o.getD 18 0)⟩,
  ⟨38,o.getD 19 0=0,Qgr (o.getD 19 0)⟩,
  ⟨39,d.coOwning.toNat=0/\fc≠39,ZW 8 d.coOwning.toNat⟩,
  ⟨40,o.getD 20 0=0,Qgr (o.getD 20 0)⟩,
  ⟨41,d.nonOwning.toNat=0/\fc≠41,ZW 8 d.nonOwning.toNat⟩,
  ⟨42,o.getD 21 0=0,Qgr (o.getD 21 0)⟩,
  ⟨43,d.uniqTy=0,ZW 1 d.uniqTy.toNat⟩,
  ⟨44,o.getD 22 0=0,Qgr (o.getD 22 0)⟩,
  ⟨45,d.ambTy=0,ZW 1 d.ambTy.toNat⟩,
  ⟨46,o.getD 23 0=0,Qgr (o.getD 23 0)⟩,
  ⟨47,o.getD 24 0=0,Qgr (o.getD 24 0)⟩,
  ⟨48,d.signedEnum.toNat=255/\fc≠48,ZW 1 d.signedEnum.toNat⟩]
theorem Qi6 (fc:Nat) (d:ZT) {o:List Nat} {L0:Nat} (hle:∀i,o.getD i 0<=L0):QhQ L0 (Yp fc d o) (Qfa fc d o):=
 ⟨Op.slotPos,Op.slotNF P2_2 d.mana.toNat_lt,Op.slotNF P2_2 d.hp.toNat_lt,Op.slotOff (hle 0),Op.slotOff (hle 1),Op.slotNF P2_1 d.color.toNat_lt,Op.slotTy,Op.slotOff (hle 2),Op.slotOff (hle 3),Op.slotOff (hle 4),Op.slotOff (hle 5),Op.slotOff (hle 6),Op.slotOff (hle 7),Op.slotOff (hle 8),Op.slotNF P2_1 (by split<;>decide),Op.slotNF Qhu d.s32.toNat_lt,Op.slotNF Qhu d.u32.toNat_lt,Op.slotNF Qek d.s64.toNat_lt,Op.slotNF Qek d.u64.toNat_lt,Op.slotNF Qhu d.s32a.toNat_lt,Op.slotNF Qhu d.u32a.toNat_lt,Op.slotNF Qek d.s64a.toNat_lt,Op.slotNF Qek d.u64a.toNat_lt,Op.slotOff (hle 9),Op.slotFF d.f.toNat_lt,Op.slotFF d.f2.toNat_lt,Op.slotFF d.f3.toNat_lt,Op.slotOff (hle 10),Op.slotOff (hle 11),Op.slotOff (hle 12),Op.slotOff (hle 13),Op.slotOff (hle 14),Op.slotOff (hle 15),Op.slotOff (hle 16),Op.slotOff (hle 17),Op.slotNF Qek d.singleWeak.toNat_lt,Op.slotOff (hle 18),Op.slotOff (hle 19),Op.slotNF Qek d.coOwning.toNat_lt,Op.slotOff (hle 20),Op.slotNF Qek d.nonOwning.toNat_lt,Op.slotOff (hle 21),Op.slotTy,Op.slotOff (hle 22),Op.slotTy,Op.slotOff (hle 23),Op.slotOff (hle 24),Op.slotNF P2_1 d.signedEnum.toNat_lt,trivial⟩
theorem slSpecs_o (fc:Nat) (d:ZT) (o:List Nat):(Qfa fc d o).map Spec.o=[0,1,2,3,5,6,7,8,9,10,11,12,13,14,15,16,17,18,19,20,21,22,23,24,25,26,27,28,29,30,31,32,33,34,35,36,37,38,39,40,41,42,43,44,45,46,47,48]:=rfl
theorem makers_made (d:ZT) {tables:BS->BS×List Nat} {enemy test uniq amb:BS->BS×Nat} {ct nt ce cu cq ca:Nat} {abT abE:Prop} {PT PE PU PQ PA:PP} (sPT:QQ PT) (sPE:QQ PE) (sPU:QQ PU) (sPQ:QQ PQ) (sPA:QQ PA)
  (hPT:∀S,Inv S->Qbm S->S.buf.length+(ct+4*nt+15)<=500000000->Qde S (Qii tables S) ⟨abT,PT⟩) (hPE:∀S,Inv S->Qbm S->S.buf.length+ce<=500000000->Qde S (enemy S) ⟨abE,PE⟩)
  (hPU:∀S,Inv S->Qbm S->S.buf.length+cu<=500000000->d.testTy≠0->¬(false=false/\d.testTy=2)->Qde S (test S) ⟨False,PU⟩)
  (hPQ:∀S,Inv S->Qbm S->S.buf.length+cq<=500000000->d.uniqTy≠0->¬(false=false/\d.uniqTy=2)->Qde S (uniq S) ⟨False,PQ⟩)
  (hPA:∀S,Inv S->Qbm S->S.buf.length+ca<=500000000->d.ambTy≠0->¬(true=false/\d.ambTy=2)->Qde S (amb S) ⟨False,PA⟩):
  MkMade 500000000 (Qbo d tables enemy test uniq amb) (Qgd d ct nt ce cu cq ca) (mkSpecs d abT PT abE PE PU PQ PA):=by
 refine ⟨⟨?_,?_⟩,⟨?_,?_⟩,⟨?_,?_⟩,⟨?_,?_⟩,⟨?_,?_⟩,⟨?_,?_⟩,⟨?_,?_⟩,⟨?_,?_⟩,⟨?_,?_⟩,⟨?_,?_⟩,⟨?_,?_⟩,⟨?_,?_⟩,⟨?_,?_⟩,⟨?_,?_⟩,⟨?_,?_⟩,⟨?_,?_⟩,⟨?_,?_⟩,⟨?_,?_⟩,⟨?_,?_⟩,⟨?_,?_⟩,⟨?_,?_⟩,⟨?_,?_⟩,⟨?_,?_⟩,⟨?_,?_⟩,⟨?_,?_⟩,trivial⟩
 ·exact fun S hI h2 hB=>Qj5 hI h2 (by omega)
 ·exact Qd2.stable
 ·exact fun S hI h2 hB=>optB_made hI h2 (by omega)
 ·exact Qd2.stable
 ·exact fun S hI h2 hB=>Qhp hI h2 (by omega) (fun a b=>hPU S hI h2 (by omega) a b)
 ·exact show QQ (UnP false d.testTy d.testColor PU) from UnP.stable sPU
 ·exact fun S hI h2 hB=>QbL hI h2 P2_2 (Yb (fun t:QbF=>Qb1 t.a.toNat t.b.toNat)) (by rw[List.length_map];omega)
 ·exact Qbn.stable
 ·exact fun S hI h2 hB=>strs_made d.strings hI h2 (by omega)
 ·exact Qhb.stable (fun _ _=>Qd2.stable)
 ·exact fun S hI h2 hB=>hPT S hI h2 (by omega)
 ·exact sPT
 ·exact fun S hI h2 hB=>hPE S hI h2 (by omega)
 ·exact sPE
 ·exact fun S hI h2 hB=>optB_made hI h2 (by omega)
 ·exact Qd2.stable
 ·exact fun S hI h2 hB=>optStat_made hI h2 (by omega)
 ·exact fun A A' bs x p hA h s hs=>StatP.stable A A' bs x p hA (h s hs)
 ·exact fun S hI h2 hB=>QbL hI h2 P2_1 (Yb (fun b:Bool=>(rfl:(Qfe b).length=1)) (l:=d.bools)) (by rw[List.length_map];omega)
 ·exact Qbn.stable
 ·exact fun S hI h2 hB=>strs_made d.strings2 hI h2 (by omega)
 ·exact Qhb.stable (fun _ _=>Qd2.stable)
 ·exact fun S hI h2 hB=>QbL hI h2 Qhu (Yb (fun t:QeD=>Qc1 t.id.toNat t.dist.toNat)) (by rw[List.length_map];omega)
 ·exact Qbn.stable
 ·exact fun S hI h2 hB=>optB_made hI h2 (by omega)
 ·exact Qd2.stable
 ·exact fun S hI h2 hB=>QbL hI h2 P2_2 (Yb (fun t:QbF=>Qb1 t.a.toNat t.b.toNat)) (by rw[List.length_map];omega)
 ·exact Qbn.stable
 ·exact fun S hI h2 hB=>QbL hI h2 Qek (Yb (fun x=>Qc _ _)) (by rw[List.length_map];omega)
 ·exact Qbn.stable
 ·exact fun S hI h2 hB=>QbL hI h2 Qek (Yb (fun x=>Qc _ _)) (by rw[List.length_map];omega)
 ·exact Qbn.stable
 ·exact fun S hI h2 hB=>optParent_made hI h2 (by omega) d.parent
 ·exact Qfk.stable
 ·exact fun S hI h2 hB=>refs_made d.refs hI h2 (by omega)
 ·exact Qhb.stable (fun _ _=>RefP.stable)
 ·exact fun S hI h2 hB=>QbL hI h2 Qek (Yb (fun x=>Qc _ _)) (by rw[List.length_map];omega)
 ·exact Qbn.stable
 ·exact fun S hI h2 hB=>refs_made d.strong hI h2 (by omega)
 ·exact Qhb.stable (fun _ _=>RefP.stable)
 ·exact fun S hI h2 hB=>QbL hI h2 Qek (Yb (fun x=>Qc _ _)) (by rw[List.length_map];omega)
 ·exact Qbn.stable
 ·exact fun S hI h2 hB=>QbL hI h2 Qek (Yb (fun x=>Qc _ _)) (by rw[List.length_map];omega)
 ·exact Qbn.stable
 ·exact fun S hI h2 hB=>Qhp hI h2 (by omega) (fun a b=>hPQ S hI h2 (by omega) a b)
 ·exact show QQ (UnP false d.uniqTy d.uniqColor PQ) from UnP.stable sPQ
 ·exact fun S hI h2 hB=>Qhp hI h2 (by omega) (fun a b=>hPA S hI h2 (by omega) a b)
 ·exact show QQ (UnP true d.ambTy d.ambColor PA) from UnP.stable sPA
 ·exact fun S hI h2 hB=>QbL hI h2 P2_1 (Yb (fun b:UInt8=>(rfl:[b].length=1)) (l:=d.enums)) (by rw[List.length_map];omega)
 ·exact Qbn.stable
theorem mkCosts_sum (d:ZT) (ct nt ce cu cq ca:Nat):(Qgd d ct nt ce cu cq ca).sum+4000<=Qig d+60*nt+ct+ce+cu+cq+ca:=by
 simp only[Qgd,List.sum_cons,List.sum_nil]
 unfold Qig
 omega
structure MkQ (S:BS) (d:ZT) (abT:Prop) (PT:PP) (abE:Prop) (PE PU PQ PA:PP) (q:BS×List Nat):Prop where
 inv:Inv q.1
 inv2:Qbm q.1
 ext:∃x,q.1.buf=x++S.buf
 min:S.min<=q.1.min
 of:OFs q.1 q.2 (mkSpecs d abT PT abE PE PU PQ PA)
 off:∀i,q.2.getD i 0<=q.1.buf.length
 len:q.1.buf.length<=500000000
theorem makers_q (d:ZT) {tables:BS->BS×List Nat} {enemy test uniq amb:BS->BS×Nat} {ct nt ce cu cq ca:Nat} {abT abE:Prop} {PT PE PU PQ PA:PP} (sPT:QQ PT) (sPE:QQ PE) (sPU:QQ PU) (sPQ:QQ PQ) (sPA:QQ PA)
  (hPT:∀S,Inv S->Qbm S->S.buf.length+(ct+4*nt+15)<=500000000->Qde S (Qii tables S) ⟨abT,PT⟩) (hPE:∀S,Inv S->Qbm S->S.buf.length+ce<=500000000->Qde S (enemy S) ⟨abE,PE⟩)
  (hPU:∀S,Inv S->Qbm S->S.buf.length+cu<=500000000->d.testTy≠0->¬(false=false/\d.testTy=2)->Qde S (test S) ⟨False,PU⟩)
  (hPQ:∀S,Inv S->Qbm S->S.buf.length+cq<=500000000->d.uniqTy≠0->¬(false=false/\d.uniqTy=2)->Qde S (uniq S) ⟨False,PQ⟩)
  (hPA:∀S,Inv S->Qbm S->S.buf.length+ca<=500000000->d.ambTy≠0->¬(true=false/\d.ambTy=2)->Qde S (amb S) ⟨False,PA⟩)
  (ht:∀S,Inv S->(Inv (tables S).1/\(tables S).1.buf.length<=S.buf.length+ct/\S.buf.length<=(tables S).1.buf.length)/\(tables S).2.length=nt)
  (he:∀S,Inv S->Yw S ce (enemy S)) (hu:∀S,Inv S->Yw S cu (test S)) (hq:∀S,Inv S->Yw S cq (uniq S)) (ha:∀S,Inv S->Yw S ca (amb S))
  {S:BS} (hI:Inv S) (h2:Qbm S) (hB:S.buf.length+(Qig d+60*nt+ct+ce+cu+cq+ca)<=500000000):
  MkQ S d abT PT abE PE PU PQ PA (Qx (fun f=>f) (Qbo d tables enemy test uniq amb) S):=by
 have hmk:=makers_ok d ht he hu hq ha
 obtain ⟨m1,m2⟩:=MkOk.to hmk
 obtain ⟨g1,g2,g3,g4⟩:=foldMk_ok _ _ m1 m2 S hI
 have hsum:=mkCosts_sum d ct nt ce cu cq ca
 have hb:S.buf.length+(Qgd d ct nt ce cu cq ca).sum<=500000000:=by omega
 have hmm:=makers_made d sPT sPE sPU sPQ sPA hPT hPE hPU hPQ hPA
 obtain ⟨f1,⟨x,f2⟩,f3,f4⟩:=foldMk_made (Qbo d tables enemy test uniq amb) (Qgd d ct nt ce cu cq ca) (mkSpecs d abT PT abE PE PU PQ PA) hmk hmm S hI h2 hb
 have hgl:(Qx (fun f=>f) (Qbo d tables enemy test uniq amb) S).1.buf.length<=500000000:=by omega
 clear hsum g2 hB
 generalize Qx (fun f=>f) (Qbo d tables enemy test uniq amb) S=q at *
 exact ⟨g1,f1,⟨x,f2⟩,f3,f4,fun i=>by
  rw[List.getD_eq_getElem?_getD]
  cases hh:q.2[i]? with
  |none=>exact Nat.zero_le _
  |some o=>exact g4 o (List.mem_of_getElem? hh),hgl⟩
set_option maxHeartbeats 800000 in
set_option maxRecDepth 4000 in
theorem packT_made (fc:Nat) (d:ZT) {abT abE:Prop} {PT PE PU PQ PA:PP} (sPT:QQ PT) (sPE:QQ PE) (sPU:QQ PU) (sPQ:QQ PQ) (sPA:QQ PA) {S:BS} {q:BS×List Nat} (h:MkQ S d abT PT abE PE PU PQ PA q):
  Qde S (endT (QfT (Yp fc d q.2) (YJ 49 q.1))) ⟨False,MonF fc d abT PT abE PE PU PQ PA⟩:=by
 obtain ⟨g1,f1,⟨x,f2⟩,f3,f4,hle,hgl⟩:=h
 have hof:=fun i s h=>f4.get i s h
 obtain ⟨t1,⟨y,t2⟩,t3,t4,t5,vt,t6,t8,t7⟩:=QdX (fs:=Yp fc d q.2) (ss:=Qfa fc d q.2) (n:=49) g1 f1 (Qi6 fc d hle) (show ([0,1,2,3,5,6,7,8,9,10,11,12,13,14,15,16,17,18,19,20,21,22,23,24,25,26,27,28,29,30,31,32,33,34,35,36,37,38,39,40,41,42,43,44,45,46,47,48]:List Nat).Nodup by decide)
  (fun s hs=>(show ∀o∈([0,1,2,3,5,6,7,8,9,10,11,12,13,14,15,16,17,18,19,20,21,22,23,24,25,26,27,28,29,30,31,32,33,34,35,36,37,38,39,40,41,42,43,44,45,46,47,48]:List Nat),o<49 by decide) s.o (show s.o∈(Qfa fc d q.2).map Spec.o from List.mem_map_of_mem hs)) (by decide) (Qgo fc d q.2) (show 48<600 by decide) (by omega)
 obtain ⟨s0,s1,s2,s3,s5,s6,s7,s8,s9,s10,s11,s12,s13,s14,s15,s16,s17,s18,s19,s20,s21,s22,s23,s24,s25,s26,s27,s28,s29,s30,s31,s32,s33,s34,s35,s36,s37,s38,s39,s40,s41,s42,s43,s44,s45,s46,s47,s48,_⟩:=t7
 have rr:∀{p vo:Nat} {ab:Prop} {P:PP} (i:Nat),QM _ _ p vt vo (q.2.getD i 0=0) (Qgr (q.2.getD i 0))->QQ P->(mkSpecs d abT PT abE PE PU PQ PA)[i]?=some ⟨ab,P⟩->QM _ _ p vt vo ab (QaQ P):=fun i k z h=>QM.ref' k z (hof i _ h) t2 t3
 have z3:QQ (Qd2 d.name):=Qd2.stable
 have z5:QQ (Qd2 d.inventory):=Qd2.stable
 have z8:QQ (UnP false d.testTy d.testColor PU):=show QQ (UnP false d.testTy d.testColor PU) from UnP.stable sPU
 have z9:QQ (Qbn 4 2 (d.test4.map fun t=>QaW t.a.toNat t.b.toNat)):=Qbn.stable
 have z10:QQ (Qhb d.strings Qd2):=Qhb.stable (fun _ _=>Qd2.stable)
 have z11:QQ (PT):=sPT
 have z12:QQ (PE):=sPE
 have z13:QQ (Qd2 d.nested):=Qd2.stable
 have z14:QQ ((fun A bs p=>∀s,d.empty=some s->StatP s A bs p)):=fun A A' bs x p hA h s hs=>StatP.stable A A' bs x p hA (h s hs)
 have z24:QQ (Qbn 1 1 (d.bools.map Qfe)):=Qbn.stable
 have z28:QQ (Qhb d.strings2 Qd2):=Qhb.stable (fun _ _=>Qd2.stable)
 have z29:QQ (Qbn 8 4 (d.abilities.map fun t=>Z9 t.id.toNat t.dist.toNat)):=Qbn.stable
 have z30:QQ (Qd2 d.flex):=Qd2.stable
 have z31:QQ (Qbn 4 2 (d.test5.map fun t=>QaW t.a.toNat t.b.toNat)):=Qbn.stable
 have z32:QQ (Qbn 8 8 (d.longs.map QaB)):=Qbn.stable
 have z33:QQ (Qbn 8 8 (d.doubles.map QaB)):=Qbn.stable
 have z34:QQ (Qfk):=Qfk.stable
 have z35:QQ (Qhb d.refs RefP):=Qhb.stable (fun _ _=>RefP.stable)
 have z37:QQ (Qbn 8 8 (d.weak.map QaB)):=Qbn.stable
 have z38:QQ (Qhb d.strong RefP):=Qhb.stable (fun _ _=>RefP.stable)
 have z40:QQ (Qbn 8 8 (d.coOwnings.map QaB)):=Qbn.stable
 have z42:QQ (Qbn 8 8 (d.nonOwnings.map QaB)):=Qbn.stable
 have z44:QQ (UnP false d.uniqTy d.uniqColor PQ):=show QQ (UnP false d.uniqTy d.uniqColor PQ) from UnP.stable sPQ
 have z46:QQ (UnP true d.ambTy d.ambColor PA):=show QQ (UnP true d.ambTy d.ambColor PA) from UnP.stable sPA
 have z47:QQ (Qbn 1 1 (d.enums.map fun b=>[b])):=Qbn.stable
 refine ⟨t1,⟨y++x,by rw[t2,f2,List.append_assoc]⟩,Nat.le_trans f3 t3,Or.inr ⟨t4,fun h=>h,t5,vt,?_,?_,?_,?_,?_,?_⟩⟩
 ·exact {
   tab:=t6
   none4:=t8 4 (by decide) (fun s hs=>(show ∀o∈([0,1,2,3,5,6,7,8,9,10,11,12,13,14,15,16,17,18,19,20,21,22,23,24,25,26,27,28,29,30,31,32,33,34,35,36,37,38,39,40,41,42,43,44,45,46,47,48]:List Nat),4≠o by decide) s.o (show s.o∈(Qfa fc d q.2).map Spec.o from List.mem_map_of_mem hs))
   pos0:=s0
   mana:=s1
   hp:=s2
   name:=rr 0 s3 z3 rfl
   inventory:=rr 1 s5 z5 rfl
   color:=s6
   testTy:=s7
   test4:=rr 3 s9 z9 rfl
   strings:=rr 4 s10 z10 rfl
   nested:=rr 7 s13 z13 rfl
   empty:=rr 8 s14 z14 rfl
   bool:=s15
   s32:=s16
   u32:=s17
   s64:=s18
   u64:=s19
   s32a:=s20
   u32a:=s21
   s64a:=s22
   u64a:=s23
   bools:=rr 9 s24 z24 rfl
   f:=s25
   f2:=s26
   f3:=s27
   strings2:=rr 10 s28 z28 rfl
   abilities:=rr 11 s29 z29 rfl
   flex:=rr 12 s30 z30 rfl
   test5:=rr 13 s31 z31 rfl
   longs:=rr 14 s32 z32 rfl
   doubles:=rr 15 s33 z33 rfl
   parent:=rr 16 s34 z34 rfl
   refs:=rr 17 s35 z35 rfl
   singleWeak:=s36
   weak:=rr 18 s37 z37 rfl
   strong:=rr 19 s38 z38 rfl
   coOwning:=s39
   coOwnings:=rr 20 s40 z40 rfl
   nonOwning:=s41
   nonOwnings:=rr 21 s42 z42 rfl
   uniqTy:=s43
   ambTy:=s45
   enums:=rr 24 s47 z47 rfl
   signedEnum:=s48
  }
 ·exact rr 5 s11 z11 rfl
 ·exact rr 6 s12 z12 rfl
 ·exact rr 2 s8 z8 rfl
 ·exact rr 22 s44 z44 rfl
 ·exact rr 23 s46 z46 rfl
mutual
def RdM:Mon->PP
 |.mk d tables enemy test uniq amb=>MonF 49 d (tables=[]) (fun A bs t=>VecP 4 4 tables.length A bs t/\RdL tables A bs (t+4)) (enemy=[]) (Rd1 enemy) (Rd1 test) (Rd1 uniq) (Rd1 amb)
def RdL:List Mon->PP
 |[]=>fun _ _ _=>True
 |m::ms=>fun A bs p=>QaQ (RdM m) A bs p/\RdL ms A bs (p+4)
def Rd1:List Mon->PP
 |[]=>fun _ _ _=>False
 |m::_=>RdM m
end
mutual
theorem RdM.stable:∀(m:Mon),QQ (RdM m)
 |.mk d tables enemy test uniq amb=>by
  rw[RdM]
  refine MonF.stable (fun A A' bs x p hA h=>⟨VecP.stable A A' bs x p hA h.1,?_⟩) (Rd1.stable enemy) (Rd1.stable test) (Rd1.stable uniq) (Rd1.stable amb)
  rw[Nat.add_assoc]
  exact RdL.stable tables A A' bs x _ hA h.2
theorem RdL.stable:∀(ms:List Mon),QQ (RdL ms)
 |[]=>fun A A' bs x p hA h=>by rw[RdL];trivial
 |m::ms=>fun A A' bs x p hA h=>by
  rw[RdL]at h⊢
  exact ⟨QaQ.stable (RdM.stable m) A A' bs x p hA h.1,by rw[Nat.add_assoc];exact RdL.stable ms A A' bs x _ hA h.2⟩
theorem Rd1.stable:∀(ms:List Mon),QQ (Rd1 ms)
 |[]=>fun A A' bs x p hA h=>by rw[Rd1]at h;exact h.elim
 |m::ms=>by rw[Rd1];exact RdM.stable m
end
theorem RdL_of:∀(ms:List Mon) {A:Nat} {bs:List UInt8} {p:Nat},(∀(i:Nat) a,ms[i]?=some a->QaQ (RdM a) A bs (p+4*i))->RdL ms A bs p
 |[],_,_,_,_=>by rw[RdL];trivial
 |m::ms,A,bs,p,h=>by
  rw[RdL]
  refine ⟨h 0 m rfl,RdL_of ms fun i a ha=>?_⟩
  have:=h (i+1) a (by simpa using ha)
  rwa [show p+4*(i+1)=p+4+4*i by omega]at this
theorem RdL_get:∀(ms:List Mon) {A:Nat} {bs:List UInt8} {p:Nat},RdL ms A bs p->∀(i:Nat) a,ms[i]?=some a->QaQ (RdM a) A bs (p+4*i)
 |[],_,_,_,_,i,a,h=>by simp at h
 |m::ms,A,bs,p,h,i,a,ha=>by
  rw[RdL]at h
  cases i with
  |zero=>
   have:m=a:=by simpa using ha
   subst this;exact h.1
  |succ i=>
   have:=RdL_get ms h.2 i a (by simpa using ha)
   rwa [show p+4*(i+1)=p+4+4*i by omega]
def UnOk (amb:Bool) (ty:UInt8) (kids:List Mon):Prop:=ty≠0->¬(amb=false/\ty=2)->kids≠[]
mutual
def WfM:Mon->Prop
 |.mk d tables enemy test uniq amb=>(UnOk false d.testTy test/\UnOk false d.uniqTy uniq/\UnOk true d.ambTy amb)/\WfMs tables/\WfMs enemy/\WfMs test/\WfMs uniq/\WfMs amb
def WfMs:List Mon->Prop
 |[]=>True
 |m::ms=>WfM m/\WfMs ms
end
theorem Qfq {kids:List Mon} (h:∀x∈kids,∀S,Inv S->Qbm S->S.buf.length+Yy x<=500000000->Qde S (Zt x S) ⟨False,RdM x⟩) {S:BS} (hI:Inv S) (h2:Qbm S) (hl:S.buf.length+ZB kids<=500000000) (hne:kids≠[]):Qde S (Ya kids S) ⟨False,Rd1 kids⟩:=by
 cases kids with
 |nil=>exact absurd rfl hne
 |cons m ms=>
  rw[Ya,Rd1]
  rw[ZB]at hl
  exact h m List.mem_cons_self S hI h2 (by omega)
def RdMF (fc:Nat):Mon->PP
 |.mk d tables enemy test uniq amb=>MonF fc d (tables=[]) (fun A bs t=>VecP 4 4 tables.length A bs t/\RdL tables A bs (t+4)) (enemy=[]) (Rd1 enemy) (Rd1 test) (Rd1 uniq) (Rd1 amb)
def Qdt (fc:Nat):Mon->BS->BS×Nat
 |.mk d tables enemy test uniq amb,S=>QiS fc d (QaE tables) (Ya enemy) (Ya test) (Ya uniq) (Ya amb) S
theorem packMF_49:∀m:Mon,Qdt 49 m=Zt m
 |.mk d tables enemy test uniq amb=>by funext S;rw[Zt,Qdt,packTF_49]
theorem RdMF_49:∀m:Mon,RdMF 49 m=RdM m
 |.mk d tables enemy test uniq amb=>by rw[RdM,RdMF]
theorem VecRd.stable (tables:List Mon):QQ fun A bs t=>VecP 4 4 tables.length A bs t/\RdL tables A bs (t+4):=fun A A' bs x p hA h=>⟨VecP.stable A A' bs x p hA h.1,by
 rw[Nat.add_assoc]
 exact RdL.stable tables A A' bs x _ hA h.2⟩
theorem mon_q {d:ZT} {tables enemy test uniq amb:List Mon} (w1:UnOk false d.testTy test) (w2:UnOk false d.uniqTy uniq) (w3:UnOk true d.ambTy amb)
  (kT:∀x∈tables,∀S,Inv S->Qbm S->S.buf.length+Yy x<=500000000->Qde S (Zt x S) ⟨False,RdM x⟩) (kE:∀x∈enemy,∀S,Inv S->Qbm S->S.buf.length+Yy x<=500000000->Qde S (Zt x S) ⟨False,RdM x⟩)
  (kU:∀x∈test,∀S,Inv S->Qbm S->S.buf.length+Yy x<=500000000->Qde S (Zt x S) ⟨False,RdM x⟩) (kQ:∀x∈uniq,∀S,Inv S->Qbm S->S.buf.length+Yy x<=500000000->Qde S (Zt x S) ⟨False,RdM x⟩)
  (kA:∀x∈amb,∀S,Inv S->Qbm S->S.buf.length+Yy x<=500000000->Qde S (Zt x S) ⟨False,RdM x⟩) {S:BS} (hI:Inv S) (h2:Qbm S) (hB:S.buf.length+Yy (.mk d tables enemy test uniq amb)<=500000000):
  MkQ S d (tables=[]) (fun A bs t=>VecP 4 4 tables.length A bs t/\RdL tables A bs (t+4)) (enemy=[]) (Rd1 enemy) (Rd1 test) (Rd1 uniq) (Rd1 amb) (Qx (fun f=>f) (Qbo d (QaE tables) (Ya enemy) (Ya test) (Ya uniq) (Ya amb)) S):=by
  rw[Yy]at hB
  refine makers_q d (ct:=ZB tables) (nt:=tables.length) (ce:=ZB enemy) (cu:=ZB test) (cq:=ZB uniq) (ca:=ZB amb) (VecRd.stable tables) (Rd1.stable enemy) (Rd1.stable test) (Rd1.stable uniq) (Rd1.stable amb)
   ?_ ?_ (fun S hI h2 hb h3 h4=>Qfq kU hI h2 hb (w1 h3 h4)) (fun S hI h2 hb h3 h4=>Qfq kQ hI h2 hb (w2 h3 h4)) (fun S hI h2 hb h3 h4=>Qfq kA hI h2 hb (w3 h3 h4))
   (fun S h=>QeF tables S h) (fun S h=>ZF enemy S h) (fun S h=>ZF test S h) (fun S h=>ZF uniq S h) (fun S h=>ZF amb S h) hI h2 (by omega)
  ·intro S hI h2 hb
   have hf:QaE tables=Qx Zt tables:=funext (Qf7 tables)
   have hs:(tables.map Yy).sum=ZB tables:=costs_sum' tables
   have hp:=(QeF tables S hI).1
   rw[hf]at hp⊢
   obtain ⟨a,b,c,e⟩:=QhX (f:=Zt) (P:=RdM) (c:=Yy) (B:=500000000) tables (fun m _=>RdM.stable m) (fun x _ S h=>(Qgz x S h).1) kT S hI h2 (by omega)
   obtain ⟨q1,q2,q3,q4⟩:=optO_made (q:=Qx Zt tables) (l:=tables) (P:=RdM) (fun m _=>RdM.stable m) h2 hp.1 a b c (Qa8 _ _ _) e (by omega)
   refine ⟨q1,q2,q3,?_⟩
   rcases q4 with q4|⟨q4,q5,q6,q7,q8⟩
   ·exact Or.inl q4
   ·exact Or.inr ⟨q4,q5,q6,q7,RdL_of tables q8⟩
  ·intro S hI h2 hb
   by_cases hn:enemy=[]
   ·subst hn
    rw[Ya];exact Qde.none h2 rfl
   ·obtain ⟨q1,q2,q3,q4⟩:=Qfq kE hI h2 hb hn
    refine ⟨q1,q2,q3,?_⟩
    rcases q4 with q4|q4
    ·exact q4.2.elim
    ·exact Or.inr ⟨q4.1,hn,q4.2.2⟩
theorem packMF_step (fc:Nat) {d:ZT} {tables enemy test uniq amb:List Mon} (w1:UnOk false d.testTy test) (w2:UnOk false d.uniqTy uniq) (w3:UnOk true d.ambTy amb)
  (kT:∀x∈tables,∀S,Inv S->Qbm S->S.buf.length+Yy x<=500000000->Qde S (Zt x S) ⟨False,RdM x⟩) (kE:∀x∈enemy,∀S,Inv S->Qbm S->S.buf.length+Yy x<=500000000->Qde S (Zt x S) ⟨False,RdM x⟩)
  (kU:∀x∈test,∀S,Inv S->Qbm S->S.buf.length+Yy x<=500000000->Qde S (Zt x S) ⟨False,RdM x⟩) (kQ:∀x∈uniq,∀S,Inv S->Qbm S->S.buf.length+Yy x<=500000000->Qde S (Zt x S) ⟨False,RdM x⟩)
  (kA:∀x∈amb,∀S,Inv S->Qbm S->S.buf.length+Yy x<=500000000->Qde S (Zt x S) ⟨False,RdM x⟩) {S:BS} (hI:Inv S) (h2:Qbm S) (hB:S.buf.length+Yy (.mk d tables enemy test uniq amb)<=500000000):
  Qde S (Qdt fc (.mk d tables enemy test uniq amb) S) ⟨False,RdMF fc (.mk d tables enemy test uniq amb)⟩:=by
  rw[Qdt,RdMF]
  exact packT_made fc d (VecRd.stable tables) (Rd1.stable enemy) (Rd1.stable test) (Rd1.stable uniq) (Rd1.stable amb) (mon_q w1 w2 w3 kT kE kU kQ kA hI h2 hB)
mutual
theorem packM_made:∀(m:Mon),WfM m->∀S,Inv S->Qbm S->S.buf.length+Yy m<=500000000->Qde S (Zt m S) ⟨False,RdM m⟩
 |.mk d tables enemy test uniq amb,hw,S,hI,h2,hB=>by
  rw[WfM]at hw
  obtain ⟨⟨w1,w2,w3⟩,w4,w5,w6,w7,w8⟩:=hw
  rw[<-packMF_49,<-RdMF_49]
  exact packMF_step 49 w1 w2 w3 (YW tables w4) (YW enemy w5) (YW test w6) (YW uniq w7) (YW amb w8) hI h2 hB
theorem YW:∀(ms:List Mon),WfMs ms->∀x∈ms,∀S,Inv S->Qbm S->S.buf.length+Yy x<=500000000->Qde S (Zt x S) ⟨False,RdM x⟩
 |[],_,x,hx=>by simp at hx
 |m::ms,hw,x,hx=>by
  rw[WfMs]at hw
  rcases List.mem_cons.1 hx with hx|hx
  ·rw[hx];exact packM_made m hw.1
  ·exact YW ms hw.2 x hx
end
structure RootRdF (fc:Nat) (bs:List UInt8) (m:Mon):Prop where
 len:4<=bs.length
 le:le4 bs 0<=bs.length
 al:∃A,P2 A/\4<=A/\bs.length%A=0/\RdMF fc m A bs (le4 bs 0)
 pos:0<le4 bs 0
abbrev RootRd:List UInt8->Mon->Prop:=RootRdF 49
def Qdc (fc:Nat) (m:Mon):List UInt8:=(QcM (Qdt fc m Qan).2 (Qdt fc m Qan).1).buf
theorem packAllF_49 (m:Mon):Qdc 49 m=Y5 m:=by rw[Qdc,Y5,packMF_49]
theorem packMF_ok (fc:Nat):∀(m:Mon) (S:BS),Inv S->Yw S (Yy m) (Qdt fc m S)
 |.mk d tables enemy test uniq amb,S,h=>by
  have:=packTF_ok fc (d:=d) (ct:=ZB tables) (nt:=tables.length) (ce:=ZB enemy) (cu:=ZB test) (cq:=ZB uniq) (ca:=ZB amb) (tables:=QaE tables) (enemy:=Ya enemy) (test:=Ya test) (uniq:=Ya uniq) (amb:=Ya amb)
   (fun S h=>QeF tables S h) (fun S h=>ZF enemy S h) (fun S h=>ZF test S h) (fun S h=>ZF uniq S h) (fun S h=>ZF amb S h) h
  rw[Qdt]
  exact this.1.mono (by rw[Yy];omega)
theorem RdMF.stable (fc:Nat):∀(m:Mon),QQ (RdMF fc m)
 |.mk d tables enemy test uniq amb=>by
  rw[RdMF]
  refine MonF.stable (fun A A' bs x p hA h=>⟨VecP.stable A A' bs x p hA h.1,?_⟩) (Rd1.stable enemy) (Rd1.stable test) (Rd1.stable uniq) (Rd1.stable amb)
  rw[Nat.add_assoc]
  exact RdL.stable tables A A' bs x _ hA h.2
theorem packMF_made (fc:Nat):∀(m:Mon),WfM m->∀S,Inv S->Qbm S->S.buf.length+Yy m<=500000000->Qde S (Qdt fc m S) ⟨False,RdMF fc m⟩
 |.mk d tables enemy test uniq amb,hw,S,hI,h2,hB=>by
  rw[WfM]at hw
  obtain ⟨⟨w1,w2,w3⟩,w4,w5,w6,w7,w8⟩:=hw
  exact packMF_step fc w1 w2 w3 (YW tables w4) (YW enemy w5) (YW test w6) (YW uniq w7) (YW amb w8) hI h2 hB
theorem finish_rd {P:PP} (sP:QQ P) {q:BS×Nat} (hP:P2 q.1.min) (h4:4<=q.1.min) (hlen':q.1.buf.length<=400000000) (o1:q.2<=q.1.buf.length) (o2:P q.1.min q.1.buf (q.1.buf.length-q.2)):
  4<=(QcM q.2 q.1).buf.length/\le4 (QcM q.2 q.1).buf 0<=(QcM q.2 q.1).buf.length/\((QcM q.2 q.1).buf.length%q.1.min=0/\P q.1.min (QcM q.2 q.1).buf (le4 (QcM q.2 q.1).buf 0))/\0<le4 (QcM q.2 q.1).buf 0:=by
 have hpd:=Zw (size:=q.1.min) (n:=q.1.buf.length+4) hP.pos
 have hpm:=Qcl (size:=q.1.min) (n:=q.1.buf.length+4) hP.pos
 have h8:=hP.le
 have eb:(prep q.1.min 4 q.1).buf=List.replicate (padOf q.1.min (q.1.buf.length+4)) 0++q.1.buf:=rfl
 have el:(prep q.1.min 4 q.1).buf.length=padOf q.1.min (q.1.buf.length+4)+q.1.buf.length:=by rw[eb];simp
 have e4:(q.1.buf.length+4+padOf q.1.min (q.1.buf.length+4))%4=0:=by
  obtain ⟨k,hk,hke⟩:=hP
  have hc:k=2\/k=3\/k<=1:=by omega
  rcases hc with rfl|rfl|hc
  ·rw[hke]at hpm⊢;omega
  ·rw[hke]at hpm⊢;omega
  ·have:2^k<=2^1:=Nat.pow_le_pow_right (by omega) hc
   omega
 have hz:padOf 4 ((prep q.1.min 4 q.1).buf.length+0)=0:=YZ (by rw[el];omega)
 have e:(QcM q.2 q.1).buf=leB (((prep 4 0 (prep q.1.min 4 q.1)).buf.length-q.2+4:Nat):Int) 4++(List.replicate (padOf 4 ((prep q.1.min 4 q.1).buf.length+0)) 0++(prep q.1.min 4 q.1).buf):=rfl
 rw[hz,List.replicate_zero,List.nil_append,Qad,hz,el,eb]at e
 rw[e]
 generalize hW:leB ((0+(padOf q.1.min (q.1.buf.length+4)+q.1.buf.length)-q.2+4:Nat):Int) 4=W
 have hWl:W.length=4:=by rw[<-hW,Qc]
 have hlb:(W++(List.replicate (padOf q.1.min (q.1.buf.length+4)) 0++q.1.buf)).length=4+padOf q.1.min (q.1.buf.length+4)+q.1.buf.length:=by
  simp only[List.length_append,List.length_replicate,hWl];omega
 have h0:le4 (W++(List.replicate (padOf q.1.min (q.1.buf.length+4)) 0++q.1.buf)) 0=4+padOf q.1.min (q.1.buf.length+4)+q.1.buf.length-q.2:=by
  rw[<-hW,Qgs (Nat.le_refl _)];omega
 refine ⟨by omega,by omega,⟨by rw[hlb,show 4+padOf q.1.min (q.1.buf.length+4)+q.1.buf.length=q.1.buf.length+4+padOf q.1.min (q.1.buf.length+4) by omega];exact hpm,?_⟩,by omega⟩
 rw[h0,show 4+padOf q.1.min (q.1.buf.length+4)+q.1.buf.length-q.2=(W++List.replicate (padOf q.1.min (q.1.buf.length+4)) 0).length+(q.1.buf.length-q.2) by simp only[List.length_append,List.length_replicate,hWl];omega,<-List.append_assoc]
 exact sP _ _ _ _ _ (Nat.le_refl _) o2
theorem packAllF_rd {fc:Nat} {m:Mon} (hw:WfM m) (hl:Yy m<=400000000):RootRdF fc (Qdc fc m) m:=by
 have hp:=packMF_ok fc m Qan Inv.new
 obtain ⟨m1,m2,m3,m4⟩:=packMF_made fc m hw Qan Inv.new Qbm.new (by show 0+_<=_;omega)
 have hlen:=hp.len
 have hP:=hp.inv.min
 rcases m4 with m4|⟨_,_,o1,o2⟩
 ·exact m4.2.elim
 unfold Qdc
 generalize Qdt fc m Qan=q at *
 have hlen':q.1.buf.length<=Yy m:=by have h:q.1.buf.length<=0+Yy m:=hlen;omega
 have h4:4<=q.1.min:=by
  cases m with
  |mk d tables enemy test uniq amb=>
   rw[RdMF]at o2
   obtain ⟨vt,h,_⟩:=o2
   exact h.tab.al.2.2
 obtain ⟨f1,f2,f3,f4⟩:=finish_rd (RdMF.stable fc m) hP h4 (by omega) o1 o2
 exact ⟨f1,f2,⟨q.1.min,hP,h4,f3⟩,f4⟩
theorem packAll_rd {m:Mon} (hw:WfM m) (hl:Yy m<=400000000):RootRd (Y5 m) m:=by
 rw[<-packAllF_49];exact packAllF_rd hw hl
end Go.Proofs
