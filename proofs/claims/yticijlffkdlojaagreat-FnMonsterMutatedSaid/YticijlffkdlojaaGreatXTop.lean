/- WHAT IS PROVED: the given statement of FnMonsterMutated, whatever the input: this is part 14 of 14. No conditions. -/
import Derived.Test.YticijlffkdlojaaGreatX13
import Derived.Test.YticijlffkdlojaaGreatRows
import Derived.ProofKit
set_option linter.all false
namespace Go.Proofs
open Go Go.Vc
open Tryz (prog)
theorem ZV.f3_at {G:Cut} {d:ZT} {pos:List Qaj} {empty:List Qaa} {tables enemy test uniq amb:List GM} {cells:List Value} (h:ZV G (.mk d pos empty tables enemy test uniq amb) cells):cells.toArray[27]?=some (Z4 d.f3):=by
 rw[ZV]at h
 obtain ⟨c,rfl,_⟩:=h
 rfl
theorem ZV.rawF3 {G:Cut} {g:GM} {x:UInt32} {cells:List Value} (h:ZV G g cells):ZV G (Proofs.rawF3 x g) (cells.set 27 (Z4 x)):=by
 cases g with
 |mk d pos empty tables enemy test uniq amb=>
  rw[ZV]at h
  obtain ⟨c,rfl,hg,h1,h2,h3,h4,h5⟩:=h
  rw[Proofs.rawF3,ZV]
  exact ⟨c,rfl,{hg with},h1,h2,h3,h4,h5⟩
theorem LenM.rawF3 {g:GM} {x:UInt32} (h:LenM g):LenM (Proofs.rawF3 x g):=by
 cases g with
 |mk d pos empty tables enemy test uniq amb=>
  rw[LenM]at h
  rw[Proofs.rawF3,LenM]
  exact h
def wantG (w n:Nat) (d:ZT) (pos:List Qaj) (empty:List Qaa) (tables enemy test uniq amb:List GM):GM:=
 if stW w d=true then (if w=14 then rawF3 (Qdk w n d).f3 (QiA (.mk (Qdk w n d) pos empty tables enemy test uniq amb)) else QiA (.mk (Qdk w n d) pos empty tables enemy test uniq amb)) else QiA (.mk d pos empty tables enemy test uniq amb)
theorem Ext.keepR {G G':Cut} {H H' H'':Qf} (h:Ext G H G' H') (k:QaC H' H''):Ext G H G' H'':=⟨h.keep.trans k,In.keep h.inn k,h.le,h.old⟩
theorem mod19 (x:UInt8):((x.toNat:Int)).tmod 19=((x.toNat%19:Nat):Int):=by
 rw[Int.tmod_eq_emod_of_nonneg (by omega)];omega
set_option maxHeartbeats 2000000 in
theorem Qhk {g:GM} {cells:List Value} {wh:UInt8} {n:UInt64} {G:Cut} {H:Qf} {R:Kn} (hG:G.In H) (hv:ZV G g cells) (hN:QiI g) (hR:∀H',QaC H H'->R (.bool true) H'):FnS prog 3 #[.agg cells.toArray,u8n wh,Zc n] H R:=by
 obtain ⟨d,pos,empty,tables,enemy,test,uniq,amb⟩:=g
 apply w3
 unfold s3
 rw[Q2]
 have e:=Ext.refl hG
 have o:Ym H G (H.push (.cells (Value.agg cells.toArray).cells 38)) H.size (.cells cells.toArray 38 (0,0)):=Ym.fresh e _
 have e:=e.push (.cells (Value.agg cells.toArray).cells 38)
 generalize H.push (.cells (Value.agg cells.toArray).cells 38)=H1 at *
 have ldB:∀{H':Qf} {G':Cut} {q:Nat} {cs:List Value} {t:TypeId},cs.length=51->Ym H G' H' q (.cells cs.toArray t (0,0))->∀k:Value->Prop,LdN H' 51 (ptr q) k=k (.agg cs.toArray):=fun hl o k=>YL (n:=51) (by rw[Q5 o.get 51 (by simp[hl])];simp[<-hl])
 have hl:=hv.len
 rw[ldB hl o]
 refine fits3_ok e.inn hv fun b H2 e2=>?_
 have e:=e.trans e2
 have o:=o.ext e2
 clear e2
 rw[Yl]
 refine ZU (fun _=>hR _ e.keep) fun _=>?_
 rw[BinK_rem (by decide),mod19]
 have hw:wh.toNat%19<19:=Nat.mod_lt _ (by decide)
 generalize wh.toNat%19=w at hw⊢
 rw[ldB hl o]
 refine MonsterSet_ok e.inn hv w hw ?_
 intro H3 cells3 e3 hv3
 have hN3:=set_norm (n:=n.toNat) hN w hw
 have e:=e.trans e3
 have o:=o.ext e3
 clear e3
 have hl3:=hv3.len
 rw[ExtrK_0,ExtrK_1,Q2]
 have n3:=o.ne
 have o7:=Ym.fresh e (.cells z38 38)
 have o:=o.push (.cells z38 38)
 have e:=e.push (.cells z38 38)
 generalize H3.push (.cells z38 38)=H4 at *
 rw[Yn (n:=51) (c':=cells3.toArray) o7.get rfl (by simpa using hl3) (by decide) (by simpa using ZV.one hv3)]
 have e:=e.set o7.out o7.new (.cells cells3.toArray 38)
 have o:=o.set_ne n3 (.cells cells3.toArray 38)
 have o7:Ym H G (setB H4 H3.size (.cells cells3.toArray 38)) H3.size (.cells cells3.toArray 38 (0,0)):=o7.set _
 generalize setB H4 H3.size (.cells cells3.toArray 38)=H5 at *
 rw[ldB hl o]
 have awake:∀H',QaC H H'->FnS prog 7 #[] H' R:=fun H' k=>awake_ok (In.keep hG k) fun H'' k'=>hR _ (k.trans k')
 refine Qgl e.inn hv fun b H6 e6 hcl=>?_
 have e:=e.trans e6
 have o:=o.ext e6
 have o7:=o7.ext e6
 clear e6
 rw[Yl]
 have aw:FnS prog 7 #[] H6 fun x19 h6=>R x19 h6:=awake _ e.keep
 cases b
 ·simp only[Bool.not_false,Y6,Yr,Zs]
  exact aw
 obtain ⟨hc,hcnt⟩:=hcl rfl
 clear hcl aw
 simp only[Bool.not_true,Y1,ZK]
 rw[ldB hl3 o7]
 refine Qgl e.inn hv3 fun b H7 e7 hcl=>?_
 have e:=e.trans e7
 have o:=o.ext e7
 have o7:=o7.ext e7
 clear e7
 rw[Yl]
 have aw:FnS prog 7 #[] H7 fun x19 h6=>R x19 h6:=awake _ e.keep
 cases b
 ·simp only[Bool.not_false,Zs]
  exact aw
 obtain ⟨hc3,_⟩:=hcl rfl
 clear hcl aw
 simp only[Bool.not_true,Ql]
 rw[ldB hl o]
 have hs:=hc.small
 have hL:=hs.len
 have hL3:=hc3.small.len
 refine To_all _ G H7 cells _ e.inn hv hL ?_
 intro G8 H8 cells8 e8 hv8
 have e:=e.trans e8
 have o:=o.ext e8
 have o7:=o7.ext e8
 have hv:=hv.mono e8.le
 have hv3:=hv3.mono e8.le
 obtain ⟨hcost,hrd,hlen⟩:=Qiz hs hcnt
 obtain ⟨vt,bs',m',v1,v2,v3,hrw,hlen',hsame,hwant⟩:=mut_bytes (n:=n.toNat) hw hs hcnt hN
 rw[rd_clean hc hN,rd_clean hc3 hN3]at hwant
 refine Qh3 (n:=0) e8.inn hv8 hs hcost (by decide) ?_
 intro H9 k9
 have o:Ym H G8 H9 H.size (.cells cells.toArray 38 (0,0)):=⟨k9 _ _ o.get,o.out,o.new⟩
 have o7:Ym H G8 H9 H3.size (.cells cells3.toArray 38 (0,0)):=⟨k9 _ _ o7.get,o7.out,o7.new⟩
 have e:=Proofs.Ext.keepR e k9
 clear e8 k9
 rw[ExtrK_0,ExtrK_1]
 have hr4:=hrd.len
 have hle:=hrd.le
 clear hrd hcost
 generalize Y5 (toM (.mk d pos empty tables enemy test uniq amb))=bs at *
 refine Qjc (dn:=stW w d) (bs':=bs') hw hr4 hle hlen v1 v2 v3 e.inn ?_
 intro H10 e10
 have o:=o.ext e10
 have o7:=o7.ext e10
 have e:=e.trans e10
 clear e10 v1 v2 v3
 rw[ExtrK_30,ExtrK_31,ExtrK_32]
 have bne:∀(a:Bool) (k:Value->Prop),Qp prog .neq 4 (.bool a) (.bool a) k=k (.bool false):=fun a k=>by
  rw[Qhn (by kernel_rfl),show (!(a==a))=false by simp]
 have lne:∀k:Value->Prop,Qp prog .neq 3 (.int .i64 (bs'.length:Int)) (.int .i64 (bs.length:Int)) k=k (.bool false):=fun k=>by
  rw[hlen',QJ,decide_eq_false (fun h=>h rfl)]
 have sne:stW w d=false->∀k:Value->Prop,Qp prog .neq 9 (YM bs') (YM bs) k=k (.bool false):=fun h k=>by
  rw[hsame h,BinK_strne];simp
 simp only[Yl,Bool.not_true,Y1,ZK,bne,Qe4,Qcn,lne]
 have goL:∀(K:Qf->Prop),K H10->(Qe (.bool (!stW w d)) true (fun k17=>k17 (YM bs') H10) H10 fun x75 h28=>Qe (.bool (!stW w d)) true (fun k18=>k18 (YM bs) h28) h28 fun x76 h29=>
   Qe (.bool (!stW w d)) true (fun k19=>Qp prog .neq 9 x75 x76 fun x77=>k19 x77 h29) h29 fun x77_1 h30=>Yh (.bool (!stW w d)) x77_1 (.bool false) fun x78=>IfK x78 (R (.bool false) h30) (K h30)):=fun K hK=>by
  cases hst:stW w d
  ·simp only[Bool.not_false,Yc,Yr,sne hst,Ql];exact hK
  ·simp only[Bool.not_true,Zo,ZK,Ql];exact hK
 refine goL _ ?_
 clear goL sne lne bne
 rw[ldB hl o]
 refine read0_all _ G8 H10 cells _ e.inn hv hL ?_
 intro G11 H11 cells11 e11 hv11
 have o7:=o7.ext e11
 have hv3:=hv3.mono e11.le
 have e:=e.trans e11
 clear e11 o
 rw[Q2]
 have n7:=o7.ne
 have o14:=Ym.fresh e (.cells z38 38)
 have o7:=o7.push (.cells z38 38)
 have e:=e.push (.cells z38 38)
 generalize H11.push (.cells z38 38)=H12 at *
 have hl11:=hv11.len
 rw[Yn (n:=51) (c':=cells11.toArray) o14.get rfl (by simpa using hl11) (by decide) (by simpa using ZV.one hv11)]
 have e:=e.set o14.out o14.new (.cells cells11.toArray 38)
 have o7:=o7.set_ne n7 (.cells cells11.toArray 38)
 have o14:Ym H G11 (setB H12 H11.size (.cells cells11.toArray 38)) H11.size (.cells cells11.toArray 38 (0,0)):=o14.set _
 generalize setB H12 H11.size (.cells cells11.toArray 38)=H13 at *
 have hwL:LenM (wantG w n.toNat d pos empty tables enemy test uniq amb):=by
  unfold wantG
  split
  ·split
   ·exact (QgI hL3).rawF3
   ·exact QgI hL3
  ·exact QgI hL
 refine QB (fun vs h=>vs=[]/\∃G' cs,Ext G H G' h/\ZV G' (wantG w n.toNat d pos empty tables enemy test uniq amb) cs/\Ym H G' h H11.size (.cells cs.toArray 38 (0,0))) ?_ ?_
 ·cases hst:stW w d
  ·rw[Ql]
   refine ⟨rfl,G11,cells11,e,?_,o14⟩
   unfold wantG
   rw[hst,if_neg (by decide)];exact hv11
  ·rw[Zs,Qo,Qj ((Qi o7.get).trans (ZV.f3_at hv3)),ldB hl3 o7]
   refine read0_all _ G11 H13 cells3 _ e.inn hv3 hL3 ?_
   intro G14 H14 cells14 e14 hv14
   have o14:=o14.ext e14
   have e:=e.trans e14
   have hl14:=hv14.len
   rw[Yn (n:=51) (c':=cells14.toArray) o14.get (by simpa using hl11) (by simpa using hl14) (by decide) (by simpa using ZV.one hv14)]
   have e:=e.set o14.out o14.new (.cells cells14.toArray 38)
   have o14:Ym H G14 (setB H14 H11.size (.cells cells14.toArray 38)) H11.size (.cells cells14.toArray 38 (0,0)):=o14.set _
   generalize setB H14 H11.size (.cells cells14.toArray 38)=H15 at *
   rw[Yo]
   refine ZI (fun h14=>?_) (fun h14=>?_)
   ·rw[Qo,QaA (v:=Z4 (Qdk w n.toNat d).f3) o14.get (by simpa using (show 27<cells14.length by omega)) (by simp) rfl]
    have e:=e.set o14.out o14.new (.cells (cells14.toArray.setIfInBounds 27 (Z4 (Qdk w n.toNat d).f3)) 38 (0,0))
    have o14:=o14.set (.cells (cells14.toArray.setIfInBounds 27 (Z4 (Qdk w n.toNat d).f3)) 38 (0,0))
    refine ⟨rfl,G14,cells14.set 27 (Z4 (Qdk w n.toNat d).f3),e,?_,?_⟩
    ·unfold wantG
     rw[hst,if_pos rfl,if_pos (by omega)]
     exact ZV.rawF3 hv14
    ·rw[show (cells14.set 27 (Z4 (Qdk w n.toNat d).f3)).toArray=cells14.toArray.setIfInBounds 27 (Z4 (Qdk w n.toNat d).f3) by simp]
     exact o14
   ·refine ⟨rfl,G14,cells14,e,?_,o14⟩
    unfold wantG
    rw[hst,if_pos rfl,if_neg (by omega)]
    exact hv14
 clear e o14 o7 hv11 hv3
 rintro h38 ⟨_,G16,cells16,e,hv16,o14⟩
 have hwv:rwM m'=wantG w n.toNat d pos empty tables enemy test uniq amb:=hwant
 rw[<-hwv]at hwL hv16
 refine Qh2 hrw (by omega) e.inn ?_
 intro G17 H17 cells17 e17 hv17
 have o14:=o14.ext e17
 have hv16:=hv16.mono e17.le
 have e:=e.trans e17
 clear e17
 rw[ExtrK_0,ExtrK_1,Q2]
 have hl16:=hv16.len
 have hl17:=hv17.len
 have n14:=o14.ne
 have o16:=Ym.fresh e (.cells z53 53)
 have o14:=o14.push (.cells z53 53)
 have e:=e.push (.cells z53 53)
 generalize H17.push (.cells z53 53)=H18 at *
 rw[Yn (n:=51) (c':=cells17.toArray) o16.get rfl (by simpa using hl17) (by decide) (by simpa using ZV.one hv17)]
 have e:=e.set o16.out o16.new (.cells cells17.toArray 53)
 have o14:=o14.set_ne n14 (.cells cells17.toArray 53)
 have o16:Ym H G17 (setB H18 H17.size (.cells cells17.toArray 53)) H17.size (.cells cells17.toArray 53 (0,0)):=o16.set _
 generalize setB H18 H17.size (.cells cells17.toArray 53)=H19 at *
 simp only[Yc,Yr,ldB hl17 o16,ldB hl16 o14]
 refine Of_all (rwM m') G17 H19 cells17 _ e.inn hv17 hwL ?_
 intro G20 H20 cells20 e20 hv20
 refine Q3 e20.keep.ext ?_
 have e:=e.trans e20
 refine same_all (rwM m') G20 H20 cells20 cells16 _ e.inn hv20 (hv16.mono e20.le) hwL ?_
 intro H21 e21
 simp only[Yr,Yc]
 have e:=e.trans e21
 exact awake_ok (In.keep hG e.keep) fun H22 k22=>hR _ (e.keep.trans k22)
end Go.Proofs
namespace Go.Proofs.YticijlffkdlojaaGreat
open Go Go.Vc Go.Proofs Go.ChangeShapes Go.WideShapes Go.ChangeAt Go.RowKit
theorem own:ownKnob Tryz.prog.godebug=none:=by kernel_rfl
theorem laidOut:laidOutB Tryz.prog=true:=by kernel_rfl
theorem undM:Tryz.prog.underlying 38=some (.struct (Tryz.prog.fieldsOf 38)):=by kernel_rfl
theorem undN:Tryz.prog.underlying 5=some (.int .u8):=by kernel_rfl
theorem undO:Tryz.prog.underlying 31=some (.int .u64):=by kernel_rfl
set_option maxRecDepth 100000 in
theorem lifted (os:Os) (started:os.Started) (H:Type) (enc:TypeId×Value->H):
  ReturnsInHanded {} Tryz.checked os 3 .any (Rows.fnMonsterMutatedSpec.pre6 enc Tryz.prog Tryz.f3 Rows.fnMonsterMutatedRow.domain false) (Rows.fnMonsterMutatedSpec.post enc Tryz.prog Tryz.f3 false true false false):=by
 refine returnsInHanded_of_change (C:=Tryz.checked) own started (by kernel_rfl) Tryz.func3
  (ChangeSpec.witness6 (enc:=enc) (C:=Tryz.checked) false ⟨#[],#[.agg z38,.int .u8 0,.int .u64 0],[]⟩ 8 (by kernel_rfl) (by kernel_rfl) (by kernel_rfl) (by kernel_rfl)) ?_
 intro W base args ds gs before hval0 hW hcnd _
 have hval:∀(j:Nat) t v,Tryz.f3.params[j]?=some t->args[j]?=some v->Value.okWide Tryz.prog W .any base t v:=hval0
 have hW':=hW
 obtain ⟨p,q,hA0,hV,rfl,hfz,hnd⟩:=hW
 have hA:DataW.TrodAll enc Tryz.prog W 0 (fun _=>true) true Tryz.f3.params.toList args.toList ds p:=hA0
 rw[Tryz.params3]at hA hval
 obtain ⟨v0,v1,v2,d0,d1,d2,p0,p1,p2,rfl,rfl,rfl,h0,h1,h2⟩:=trodAll_three hA
 obtain ⟨rfl,rfl⟩:=trodVars_none hV
 have h0k:=h0
 obtain ⟨n1,rfl,rfl,rfl,wn1⟩:=open_int undN (hval 1 5 v1 rfl rfl) h1
 obtain ⟨n2,rfl,rfl,rfl,wn2⟩:=open_int undO (hval 2 31 v2 rfl rfl) h2
 clear hA0 hval0
 simp only[List.append_nil]at hW'
 have hlt:∀x∈p0,x.block<W.heap.size:=fun x hx=>by simpa using hW'.lt x (by simpa using hx)
 have ha:∀W':World,Below W.heap.size W W'->DataW.Trod enc Tryz.prog W' 0 (fun b=>decide (b<W.heap.size)) true 38 v0 d0 p0:=
  fun W' hn=>Below.trod laidOut (by kernel_rfl) (of_decide_eq_true (by kernel_rfl)) h0k hn hlt
 have hb:∀W':World,DataW.Trod enc Tryz.prog W' 0 (fun b=>decide (b<W.heap.size)) true 5 (.int .u8 n1) (.lit (.int .u8 n1)) []:=fun W'=>shut_int undN wn1
 have hc:∀W':World,DataW.Trod enc Tryz.prog W' 0 (fun b=>decide (b<W.heap.size)) true 31 (.int .u64 n2) (.lit (.int .u64 n2)) []:=fun W'=>shut_int undO wn2
 obtain ⟨cells,rfl,_⟩:=okWide_struct undM (hval 0 38 v0 rfl rfl)
 obtain ⟨fuel,hf⟩:=h0
 obtain ⟨g,hN,hv⟩:=rd_all (E:=H) (enc:=enc) (w:=W) (base:=0) (spare:=fun _=>true) (held:=true) fuel _ _ hf
 have hv:ZV (Cut.of W.heap) g cells.toList:=hv
 obtain ⟨k1,rfl⟩:∃k:UInt8,n1=(k.toNat:Int):=by
  simp[Lit.wf,IntKind.min,IntKind.max,IntKind.bits,IntKind.signed]at wn1
  exact ⟨UInt8.ofNat n1.toNat,by rw[UInt8.toNat_ofNat'];omega⟩
 obtain ⟨k2,rfl⟩:∃k:UInt64,n2=(k.toNat:Int):=by
  simp[Lit.wf,IntKind.min,IntKind.max,IntKind.bits,IntKind.signed]at wn2
  exact ⟨UInt64.ofNat n2.toNat,by rw[UInt64.toNat_ofNat'];omega⟩
 have main:=Qhk (wh:=k1) (n:=k2) (R:=fun v H'=>v= .bool true/\QaC W.heap H') (Cut.of_in W.heap) hv hN (fun H' hk=>⟨rfl,hk⟩)
 refine (main W rfl).mono fun e W' ⟨v,he,⟨hvt,hkeep⟩,henv⟩=>?_
 subst he;subst hvt
 have hnx:Below W.heap.size W W':=⟨henv.2.1,henv.1,henv.2.2,hkeep.size,fun i hi=>by
  rw[Array.getElem?_eq_getElem hi]
  exact hkeep i _ (Array.getElem?_eq_getElem hi)⟩
 exact ⟨_,rfl,⟨_,_,_,[],_,[],hW',trodAll_mk1 (shut_bool (by kernel_rfl) true),trodAll_mk3 (ha _ hnx) (hb _) (hc _),rfl,hnx.frame _,fun h=>by cases h⟩⟩
end Go.Proofs.YticijlffkdlojaaGreat
namespace Go.Proofs.YticijlffkdlojaaGreat
open Go Go.Vc Go.Proofs Go.ChangeShapes Go.WideShapes Go.ChangeAt Go.RowKit
theorem limb1:Tryz.prog.inPlace 3=["math.Float32frombits", "math.Float64frombits", "math.Float64bits", "math.Float32bits"]:=by kernel_rfl
theorem limb2:Tryz.prog.unfollowed 3=true:=by kernel_rfl
theorem limb3:Tryz.prog.recurses 3=true:=by kernel_rfl
theorem limb4:Tryz.prog.varsNamed 3=[]:=by kernel_rfl
theorem closed:joinedFacts Tryz.prog 3 Tryz.f3 Rows.fnMonsterMutatedSpec Rows.fnMonsterMutatedRow=true:=by
 unfold joinedFacts
 rw[limb1,limb2,limb3,limb4]
 kernel_rfl
theorem named:Tryz.prog.funcNamed "pub-tablature/laws.FnMonsterMutated" =some 3:=by kernel_rfl
theorem FnMonsterMutated_holds:Rows.FnMonsterMutatedSaid:=
 OpenClaim.holds_of_wide 3 Tryz.f3 rfl rfl rfl rfl rfl rfl rfl ⟨rfl,rfl,rfl,rfl,rfl⟩ rfl rfl rfl rfl rfl named Tryz.func3 closed
  (of_decide_eq_true (by kernel_rfl)) (by unfold Func.isWrapper;first|(rw[if_pos (by decide+kernel)];kernel_rfl)|(rw[if_neg (by decide+kernel)];exact ⟨rfl,rfl⟩))
  (fun os started H enc _=>lifted os started H enc)
end Go.Proofs.YticijlffkdlojaaGreat
