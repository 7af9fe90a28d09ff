/- WHAT IS PROVED: the given statement of FnMonsterMutated, whatever the input: this is part 11 of 14. No conditions. -/
import Derived.Test.YticijlffkdlojaaGreatX10
set_option linter.all false
namespace Go.Proofs
open Go Go.Vc
open Tryz (prog)
theorem Qd.ext {H H':Qf} {p:Nat} {S:BS} {F F':Cut} {r:Nat} (h:Qd H p S F r) (e:Ext F H F' H'):Qd H' p S F' r:=by
 obtain ⟨hd,h1,⟨B,V,T,L,len,vtv,vtsv,ee,eB,hr,h2⟩⟩:=h
 obtain ⟨l1,l2,l3,l4⟩:=hr.V_lt
 have same:∀b,b<H.size->H'[b]?=H[b]?:=fun b hb=>by
  rw[Array.getElem?_eq_getElem hb]
  exact e.keep b _ (Array.getElem?_eq_getElem hb)
 refine ⟨hd,h1,⟨B,V,T,L,len,vtv,vtsv,ee,eB,hr.frame ?_ ?_,h2⟩⟩
 ·intro b hb
  rcases hb with rfl|rfl|rfl|rfl
  ·exact same _ l1
  ·exact same _ l2
  ·exact same _ l3
  ·exact same _ l4
 ·intro b o hb
  refine ⟨e.inn b o hb,?_⟩
  by_cases hlt:b<H.size
  ·rw[e.old b hlt]at hb
   exact (hr.hF b o hb).2
  ·exact ⟨by omega,by omega,by omega,by omega⟩
theorem Qhj {H:Qf} {B hd:Nat} {bs:List UInt8} (h:U8s H B hd bs):∀{n i:Nat},i+n<=bs.length->Zl H ⟨B,hd,none⟩ i n=some (((bs.drop i).take n).map u8V)
 |0,i,_=>by simp[Zl]
 |n+1,i,hl=>by
  have h1:=h i (by omega)
  rw[Zl,QfD,h1]
  simp only
  rw[Qhj h (n:=n) (i:=i+1) (by omega)]
  simp only
  have e:bs.drop i=(bs[i]'(by omega))::bs.drop (i+1):=List.drop_eq_getElem_cons (by omega)
  rw[e,List.take_succ_cons,List.map_cons]
  congr 2
  unfold byteN u8V
  simp[List.getD,List.getElem?_eq_getElem (show i<bs.length by omega)]
mutual
theorem WfM_of:∀{g:GM},QcA g->WfM (toM g)
 |.mk d pos empty tables enemy test uniq amb,h=>by
  rw[QcA]at h
  obtain ⟨_,_,_,gU,gQ,gA,m1,m2,m3,m4,m5⟩:=h
  rw[toM,WfM]
  have un:∀{amb:Bool} {ty:UInt8} {kids:List GM},GUn amb ty kids.length->UnOk amb ty (Qbu kids):=fun hg h0 h2 hk=>by
   rcases hg with ⟨h,_⟩|⟨_,⟨h,h',_⟩|⟨_,h⟩⟩
   ·exact h0 h
   ·exact h2 ⟨h,h'⟩
   ·rw[QhG,List.map_eq_nil_iff]at hk
    rw[hk]at h;cases h
  exact ⟨⟨un gU,un gQ,un gA⟩,Qih m1,Qih m2,Qih m3,Qih m4,Qih m5⟩
theorem Qih:∀{gs:List GM},Zx gs->WfMs (Qbu gs)
 |[],_=>by rw[Qbu,WfMs];trivial
 |g::gs,h=>by
  rw[Zx]at h
  rw[Qbu,WfMs]
  exact ⟨WfM_of h.1,Qih h.2⟩
end
theorem packAll_len (m:Mon):(Y5 m).length<=Yy m+24:=by
 have hp:=(Qgz m Qan Inv.new).1
 have h1:=hp.len
 have hpd:=Zw (size:=(Zt m Qan).1.min) (n:=(Zt m Qan).1.buf.length+4) hp.inv.min.pos
 have h8:=hp.inv.min.le
 obtain ⟨x,hx,_,hx2⟩:=QcX (Zt m Qan).2 (prep (Zt m Qan).1.min 4 (Zt m Qan).1)
 have e:(Y5 m).length=x.length+(prep (Zt m Qan).1.min 4 (Zt m Qan).1).buf.length:=by
  show (putOff _ _).buf.length=_
  rw[hx,List.length_append]
 rw[e,Qad]
 have:Qan.buf.length=0:=rfl
 omega
theorem Qh3 {g:GM} {cells:List Value} {n:Nat} {G:Cut} {H:Qf} {R:Kn} (hG:G.In H) (hv:ZV G g cells) (hs:QcA g) (hcost:Yy (toM g)<=400000000) (hn:n<65536) (hR:∀H',QaC H H'->R (.tuple #[YM (Y5 (toM g)),.bool true]) H'):
  FnS prog 8 #[.agg cells.toArray,.int .i64 (n:Nat)] H R:=by
 apply w8
 unfold s8
 rw[Q2,Q2,Q2]
 have k1:=QaC.push H (.cells (Value.agg cells.toArray).cells 53)
 have a2:(H.push (.cells (Value.agg cells.toArray).cells 53))[H.size]?=some (.cells cells.toArray 53 (0,0)):=Qm
 generalize H.push (.cells (Value.agg cells.toArray).cells 53)=H1 at *
 have k2:=QaC.push H1 (.cells (Value.int .i64 (n:Nat)).cells 3)
 have a3:(H1.push (.cells (Value.int .i64 (n:Nat)).cells 3))[H1.size]?=some (.cells #[.int .i64 (n:Nat)] 3 (0,0)):=Qm
 generalize H1.push (.cells (Value.int .i64 (n:Nat)).cells 3)=H2 at *
 have k3:=QaC.push H2 (.cells z9 9)
 have a4:(H2.push (.cells z9 9))[H2.size]?=some (.cells z9 9 (0,0)):=Qm
 have n4:(H2.push (.cells z9 9)).size=H2.size+1:=size_push
 generalize H2.push (.cells z9 9)=H3 at *
 have s1:=k1.size
 have s2:=k2.size
 refine thrown_ok (by kernel_rfl) ?_
 apply w19
 unfold s19
 have k4:=QaC.push H3 (.cells #[.bool false] 4 (0,0))
 have a5:(H3.push (.cells #[.bool false] 4 (0,0)))[H3.size]?=some (.cells #[.bool false] 4 (0,0)):=Qm
 have b2:=(k2.trans (k3.trans k4)) _ _ a2
 have b3:=(k3.trans k4) _ _ a3
 have b4:=k4 _ _ a4
 have kH:=k1.trans (k2.trans (k3.trans k4))
 generalize H3.push (.cells #[.bool false] 4 (0,0))=Hc at *
 rw[Qj ((Qi b3).trans (show (#[Value.int .i64 (n:Nat)]:Array Value)[0]?=some _ from rfl))]
 refine go_NewBuilder (F:=Cut.of Hc) hn (fun b o h=>h) ?_
 intro H4 hB hk4
 have hle:G.le (Cut.of Hc):=fun b o hb=>kH b o (hG b o hb)
 have hvl:=hv.len
 rw[YL (n:=51) (vs:=cells) (by rw[Q5 (hk4 _ _ b2) 51 (by simp[hvl])];simp[<-hvl])]
 refine QiP g (Cut.of Hc) H4 cells _ hB.cut (hv.mono hle) hs ?_
 intro G5 H5 v e5 hmt
 have hB5:=Qd.ext hB e5
 have hpk:=(Qgz (toM g) Qan Inv.new).1
 refine MonsterT_Pack hB5 Inv.new hmt (by show 0+_+_<=_;omega) ?_
 intro H6 hB6
 obtain ⟨k,hk3,hk⟩:=hpk.inv.min
 have hlen:=hpk.len
 have hlen0:(Zt (toM g) Qan).1.buf.length<=0+Yy (toM g):=hlen
 refine QiC hB6 hpk.inv.nested hk hk3 hpk.off (by omega) ?_
 intro H7 hB7
 have hroot:=packAll_rd (WfM_of hs) hcost
 have hr4:=hroot.len
 refine QeR hB7 rfl (by show 0<(Y5 (toM g)).length;omega) ?_
 intro B hd c hc hu
 have hu':U8s H7 B hd (Y5 (toM g)):=hu
 refine B2SK_of (xs:=Y5 (toM g)) (by
  have:=Qhj hu' (n:=(Y5 (toM g)).length) (i:=0) (by omega)
  rw[List.drop_zero,List.take_of_length_le (Nat.le_refl _)]at this
  exact this) ?_
 have c4:=hB7.get (e5.le _ _ (show Cut.of Hc H2.size=some _ from b4))
 have c5:=hB7.get (e5.le _ _ (show Cut.of Hc H3.size=some _ from a5))
 have kF:QaC H H7:=fun b o hb=>hB7.get (e5.le _ _ (kH b o hb))
 rw[QaA (v:=YM (Y5 (toM g))) c4 (by decide) (by simp) rfl]
 have d4:=QU (o:=.cells (z9.setIfInBounds 0 (YM (Y5 (toM g)))) 9 (0,0)) c4
 refine ⟨rfl,by rw[Qw (by omega)];exact c5,?_⟩
 have kF2:QaC H (setB H7 H2.size (.cells (z9.setIfInBounds 0 (YM (Y5 (toM g)))) 9 (0,0))):=kF.setB (by omega) _
 generalize setB H7 H2.size (.cells (z9.setIfInBounds 0 (YM (Y5 (toM g)))) 9 (0,0))=H8 at *
 rw[Yl]
 show Z2 prog (Op.unary .not (.bool true)) _
 rw[Yl]
 show IfK (.bool false) _ _
 rw[Ql,Qj ((Qi d4).trans (show (z9.setIfInBounds 0 (YM (Y5 (toM g))))[0]?=some (YM (Y5 (toM g))) from rfl)),QaA (v:=YM (Y5 (toM g))) d4 (show 0<1 from Nat.zero_lt_one) (by simp) rfl]
 have d5:=QU (o:=.cells ((z9.setIfInBounds 0 (YM (Y5 (toM g)))).setIfInBounds 0 (YM (Y5 (toM g)))) 9 (0,0)) d4
 rw[Qj ((Qi d5).trans (show ((z9.setIfInBounds 0 (YM (Y5 (toM g)))).setIfInBounds 0 (YM (Y5 (toM g))))[0]?=some (YM (Y5 (toM g))) from rfl))]
 exact hR _ (kF2.setB (by omega) _)
theorem CopyK_u8 {H:Qf} {B n c:Nat} {e:TypeId} {L xs:List UInt8} (hB:H[B]?=some (.cells (u8c L) e (0,0))) (hx:xs.length=n) (hl:n<=L.length) {k:Kn} (hk:k (.int .i64 n) (wr H B e (Qab L 0 xs))):CopyK H 1 (.slice (some ⟨B,0,none⟩) n c) (YM xs) k:=by
 subst hx
 have hs:lenV (YM xs)=xs.length:=Qcn xs
 refine ⟨xs.map u8V,?_,_,setN_u8 hB (by omega),?_⟩
 ·rw[hs,show xs.length.min xs.length=xs.length from Nat.min_self _]
  show some (ZD ((ByteArray.mk xs.toArray).extract 0 xs.length)).toList=_
  have:(ByteArray.mk xs.toArray).extract 0 xs.length=ByteArray.mk xs.toArray:=by
   apply ByteArray.ext
   rw[ByteArray.data_extract]
   simp
  rw[this]
  simp[ZD]
 ·rw[hs,show xs.length.min xs.length=xs.length from Nat.min_self _];exact hk
theorem slice_ok {H:Qf} {xs:List UInt8} (hl:xs.length<2147483648) {R:Kn} (hR:R (bsl H.size 0 xs.length xs.length) (H.push (.cells (u8c xs) 5 (0,0)))):FnS prog 40 #[YM xs] H R:=by
 apply w40
 unfold s40
 rw[Qe4,Qcn]
 refine ⟨by omega,by omega,by omega,by omega,?_⟩
 rw[Int.toNat_natCast,mk_u8 (z:=z5) rfl]
 refine CopyK_u8 (L:=List.replicate xs.length 0) (e:=5) Qm rfl (by simp) ?_
 have e:wr (H.push (.cells (u8c (List.replicate xs.length 0)) 5)) H.size 5 (Qab (List.replicate xs.length 0) 0 xs)=H.push (.cells (u8c xs) 5 (0,0)):=by
  unfold wr
  rw[show setB (H.push (.cells (u8c (List.replicate xs.length 0)) 5)) H.size _=_ from Zh]
  congr 2
  rw[Qd0 _ _ _ (by simp)]
  simp
 rw[e]
 exact hR
theorem root_ok {H:Qf} {B:Nat} {bs:List UInt8} (hu:U8s H B 0 bs) (h4:4<=bs.length) (hl:bs.length<2147483648) (hle:le4 bs 0<=bs.length) {R:Kn} (hR:R (ptr H.size) (H.push (.cells #[bsl B 0 bs.length bs.length,.int .u32 (le4 bs 0:Nat)] 221))):
  FnS prog 43 #[bsl B 0 bs.length bs.length,.int .u32 0] H R:=by
 apply w43
 unfold s43
 rw[show (Value.int .u32 0)=Value.int .u32 ((0:Nat):Int) from rfl,SlcB (n:=bs.length) (m:=0) rfl (by omega)]
 refine ZN hu (by omega) (by omega) ?_
 rw[QgK,Q2,QE,QT (by omega) (by omega),show ((le4 bs 0:Nat):Int)+((0:Nat):Int)=((le4 bs 0:Nat):Int) by omega]
 refine ZC Qm rfl rfl rfl ?_
 rw[Zh]
 exact hR
theorem Qh2 {bs:List UInt8} {m:Mon} (hr:RootRw bs m) (hl:bs.length<2147483648) {G:Cut} {H:Qf} (hG:G.In H) {R:Kn} (hR:∀G' H' cells,Ext G H G' H'->ZV G' (rwM m) cells->R (.tuple #[.agg cells.toArray,.bool true]) H'):
  FnS prog 12 #[YM bs] H R:=by
 apply w12
 unfold s12
 rw[Q2,Q2]
 have e:=Ext.refl hG
 have o1:Ym H G (H.push (.cells (YM bs).cells 9)) H.size (.cells #[YM bs] 9 (0,0)):=Ym.fresh e _
 have e:=e.push (.cells (YM bs).cells 9)
 generalize H.push (.cells (YM bs).cells 9)=H1 at *
 have n1:=o1.ne
 have o2:=Ym.fresh e (.cells z53 53)
 have o1:=o1.push (.cells z53 53)
 have e:=e.push (.cells z53 53)
 generalize H1.push (.cells z53 53)=H2 at *
 refine thrown_ok (by kernel_rfl) ?_
 have n2:=o2.ne
 have o3:=Ym.fresh e (.cells #[.bool false] 4 (0,0))
 have o1:=o1.push (.cells #[.bool false] 4 (0,0))
 have o2:=o2.push (.cells #[.bool false] 4 (0,0))
 have e:=e.push (.cells #[.bool false] 4 (0,0))
 generalize H2.push (.cells #[.bool false] 4 (0,0))=H3 at *
 apply w45
 unfold s45
 rw[Qj ((Qi o1.get).trans (show (#[YM bs]:Array Value)[0]?=some _ from rfl))]
 refine slice_ok hl ?_
 have u:U8s (H3.push (.cells (u8c bs) 5 (0,0))) H3.size 0 bs:=fun i hi=>by
  rw[Qi Qm,Nat.zero_add]
  unfold u8c byteN
  simp[hi,List.getD]
 have o1:=o1.push (.cells (u8c bs) 5 (0,0))
 have o2:=o2.push (.cells (u8c bs) 5 (0,0))
 have o3:=o3.push (.cells (u8c bs) 5 (0,0))
 have e:=e.push (.cells (u8c bs) 5 (0,0))
 generalize H3.push (.cells (u8c bs) 5 (0,0))=H4 at *
 have hlen:=hr.len
 have hle:=hr.le
 refine root_ok u hlen hl hle ?_
 have t:Tab (H4.push (.cells #[bsl H3.size 0 bs.length bs.length,.int .u32 (le4 bs 0:Nat)] 221)) H4.size H3.size bs (le4 bs 0):=⟨Qi Qm,Qi Qm,Qir (QaC.push _ _).ext u,hl,hle⟩
 have o1:=o1.push (.cells #[bsl H3.size 0 bs.length bs.length,.int .u32 (le4 bs 0:Nat)] 221)
 have o2:=o2.push (.cells #[bsl H3.size 0 bs.length bs.length,.int .u32 (le4 bs 0:Nat)] 221)
 have o3:=o3.push (.cells #[bsl H3.size 0 bs.length bs.length,.int .u32 (le4 bs 0:Nat)] 221)
 have e:=e.push (.cells #[bsl H3.size 0 bs.length bs.length,.int .u32 (le4 bs 0:Nat)] 221)
 generalize H4.push (.cells #[bsl H3.size 0 bs.length bs.length,.int .u32 (le4 bs 0:Nat)] 221)=H5 at *
 obtain ⟨A,hrd⟩:=hr.rd
 refine Qgk m A _ _ _ bs G H5 _ t e.inn hrd ?_
 intro cells H6 G6 e6 hv
 have o1:=o1.ext e6
 have o2:=o2.ext e6
 have o3:=o3.ext e6
 have e:=e.trans e6
 have hvl:=hv.len
 have hone:=ZV.one hv
 rw[Yn (n:=51) (c':=cells.toArray) o2.get rfl (by simp[hvl]) (by decide) (by simpa using hone)]
 have e:=e.set o2.out o2.new (.cells cells.toArray 53 (0,0))
 have o3:=o3.set_ne (Ne.symm n2) (.cells cells.toArray 53 (0,0))
 have o2:=o2.set (.cells cells.toArray 53 (0,0))
 generalize setB H6 H1.size (.cells cells.toArray 53 (0,0))=H7 at *
 refine ⟨rfl,o3.get,?_⟩
 rw[Yl]
 show Z2 prog (Op.unary .not (.bool true)) _
 rw[Yl]
 show IfK (.bool false) _ _
 rw[Ql,YL (n:=51) (vs:=cells) (by rw[Q5 o2.get 51 (by simp[hvl])];simp[<-hvl]),Yn (n:=51) (c':=cells.toArray) o2.get (by simp[hvl]) (by simp[hvl]) (by decide) (by simpa using hone)]
 have e:=e.set o2.out o2.new (.cells cells.toArray 53 (0,0))
 have o2:=o2.set (.cells cells.toArray 53 (0,0))
 rw[YL (n:=51) (vs:=cells) (by rw[Q5 o2.get 51 (by simp[hvl])];simp[<-hvl])]
 exact hR _ _ _ e hv
theorem MonsterRead_ok {bs:List UInt8} {m:Mon} (hr:RootRd bs m) (hl:bs.length<2147483648) {G:Cut} {H:Qf} (hG:G.In H) {R:Kn} (hR:∀G' H' cells,Ext G H G' H'->ZV G' (rdM m) cells->R (.tuple #[.agg cells.toArray,.bool true]) H'):
  FnS prog 12 #[YM bs] H R:=Qh2 hr.weak hl hG (by rw[rw_fl];exact hR)
end Go.Proofs
namespace Go.Proofs
open Go Go.Vc
open Tryz (prog)
set_option maxRecDepth 100000
def s3 (d3 d4 a3:Value) (h:Qf) (R:Kn):Prop:=
 Zb h (.cells (Value.cells d3) 38) fun b a4=>
 LdN a4 51 b fun d5=>
 Qb prog 4 #[d5] a4 fun d6 o=>
 Z2 prog (Op.unary .not d6) fun d7=>
 IfK d7
 (R (.bool true) o)
 (Qp prog .rem 5 d4 (.int .u8 19) fun p=>
 LdN o 51 b fun d8=>
 Qb prog 5 #[d8,p,a3] o fun a5 d9=>
 QeP a5 0 fun e0=>
 QeP a5 1 fun e1=>
 Zb d9 (.cells z38 38) fun f e2=>
 StK e2 51 f e0 fun a6=>
 LdN a6 51 b fun e3=>
 Qb prog 6 #[e3] a6 fun e4 q=>
 Z2 prog (Op.unary .not e4) fun g=>
 Qe g false (fun e5=>LdN q 51 f fun e6=>e5 e6 q) q fun e7 a7=>
 Qe g false (fun e8=>Qb prog 6 #[e7] a7 fun e9 f0=>e8 e9 f0) a7 fun f1 a8=>
 Qe g false (fun f2=>Z2 prog (Op.unary .not f1) fun f3=>f2 f3 a8) a8 fun f4 r=>
 Yh g (.bool true) f4 fun f5=>
 IfK f5
 (Qb prog 7 #[] r fun f6 f7=>
 R f6 f7)
 (LdN r 51 b fun f8=>
 Qb prog 9 #[f8] r fun f9 g0=>
 Qb prog 8 #[f9,(.int .i64 0)] g0 fun a9 g1=>
 QeP a9 0 fun s=>
 QeP a9 1 fun g2=>
 Qb prog 10 #[s,p,a3] g1 fun t b0=>
 QeP t 0 fun u=>
 QeP t 1 fun v=>
 QeP t 2 fun g3=>
 Z2 prog (Op.unary .not g2) fun w=>
 Qe w false (fun g4=>g4 g3 b0) b0 fun g5 b1=>
 Qe w false (fun g6=>Z2 prog (Op.unary .not g5) fun g7=>g6 g7 b1) b1 fun g8 b2=>
 Yh w (.bool true) g8 fun i=>
 Qe i false (fun g9=>g9 v b2) b2 fun i0 b3=>
 Qe i false (fun i1=>i1 e1 b3) b3 fun i2 b4=>
 Qe i false (fun i3=>Qp prog .neq 4 i0 i2 fun i4=>i3 i4 b4) b4 fun i5 b5=>
 Yh i (.bool true) i5 fun a=>
 Qe a false (fun i6=>i6 u b5) b5 fun i7 b6=>
 Qe a false (fun i8=>Qf3 i7 fun i9=>i8 i9 b6) b6 fun j0 b7=>
 Qe a false (fun j1=>j1 s b7) b7 fun j2 b8=>
 Qe a false (fun j3=>Qf3 j2 fun j4=>j3 j4 b8) b8 fun j5 b9=>
 Qe a false (fun j6=>Qp prog .neq 3 j0 j5 fun j7=>j6 j7 b9) b9 fun j8 c0=>
 Yh a (.bool true) j8 fun c=>
 Qe c false (fun j9=>j9 v c0) c0 fun l0 c1=>
 Qe c false (fun l1=>Z2 prog (Op.unary .not l0) fun l2=>l1 l2 c1) c1 fun l3 c2=>
 Qe c false (fun l4=>l4 l3 c2) c2 fun j c3=>
 Qe j true (fun l5=>l5 u c3) c3 fun l6 c4=>
 Qe j true (fun l7=>l7 s c4) c4 fun l8 c5=>
 Qe j true (fun l9=>Qp prog .neq 9 l6 l8 fun m0=>l9 m0 c5) c5 fun m1 c6=>
 Qe c false (fun m2=>Yh j m1 (.bool false) fun m3=>m2 m3 c6) c6 fun m4 y=>
 Yh c (.bool true) m4 fun m5=>
 IfK m5
 (R (.bool false) y)
 (LdN y 51 b fun m6=>
 Qb prog 11 #[m6] y fun m7 m8=>
 Zb m8 (.cells z38 38) fun l m9=>
 StK m9 51 l m7 fun m=>
 QN (fun d=>
 IfK v
 (Qh f 27 fun o0=>
 LdK m o0 fun o1=>
 LdN m 51 f fun o2=>
 Qb prog 11 #[o2] m fun o3 o4=>
 StK o4 51 l o3 fun c7=>
 Qp prog .eql 5 p (.int .u8 14) fun o5=>
 IfK o5
 (Qh l 27 fun o6=>
 StK c7 1 o6 o1 fun o7=>
 d [] o7)
 (d [] c7))
 (d [] m)) fun d=>∀c8:Qf,d [] c8->
 Qb prog 12 #[u] c8 fun c9 o8=>
 QeP c9 0 fun o9=>
 QeP c9 1 fun e=>
 Zb o8 (.cells z53 53) fun d0 p0=>
 StK p0 51 d0 o9 fun z=>
 Qe e true (fun p1=>LdN z 51 d0 fun p2=>p1 p2 z) z fun p3 a0=>
 Qe e true (fun p4=>LdN a0 51 l fun p5=>p4 p5 a0) a0 fun p6 a1=>
 Qe e true (fun p7=>Qb prog 14 #[p3] a1 fun p8 p9=>p7 p8 p9) a1 fun q0 a2=>
 Qk a1 a2<|
 Qe e true (fun q1=>Qb prog 13 #[q0,p6] a2 fun q2 q3=>q1 q2 q3) a2 fun q4 d1=>
 Yh e q4 (.bool false) fun d2=>
 Qe d2 true (fun q5=>Qb prog 7 #[] d1 fun q6 q7=>q5 q6 q7) d1 fun q8 q9=>
 Yh d2 q8 (.bool false) fun r0=>
 R r0 q9)))
theorem w3 {a b c h R} (H:s3 a b c h R):FnS prog 3 #[a,b,c] h R:=wq Tryz.func3 (by kernel_rfl) H
def s4 (f:Value) (h:Qf) (R:Kn):Prop:=
 Zb h (.cells (Value.cells f) 38) fun b c=>
 Qh b 0 fun g=>
 LdK c g fun i=>
 YX i fun j=>
 Qp prog .gtr 3 j (.int .i64 2147483647) fun l=>
 IfK l
 (R (.bool false) c)
 (Qh b 3 fun m=>
 LdK c m fun o=>
 Qf3 o fun p=>
 Qp prog .gtr 3 p (.int .i64 2147483647) fun q=>
 IfK q
 (R (.bool false) c)
 (Qh b 4 fun r=>
 LdK c r fun s=>
 Qf3 s fun t=>
 Qp prog .gtr 3 t (.int .i64 2147483647) fun u=>
 IfK u
 (R (.bool false) c)
 (Qh b 9 fun v=>
 LdK c v fun w=>
 YX w fun y=>
 Qp prog .gtr 3 y (.int .i64 2147483647) fun z=>
 IfK z
 (R (.bool false) c)
 (Qh b 10 fun a0=>
 LdK c a0 fun a1=>
 Qb prog 15 #[a1] c fun a2 d=>
 Z2 prog (Op.unary .not a2) fun a3=>
 IfK a3
 (R (.bool false) d)
 (Qh b 11 fun a4=>
 LdK d a4 fun a5=>
 YX a5 fun a6=>
 Qp prog .gtr 3 a6 (.int .i64 2147483647) fun a7=>
 IfK a7
 (R (.bool false) d)
 (Qh b 12 fun a8=>
 LdK d a8 fun a9=>
 YX a9 fun b0=>
 Qp prog .gtr 3 b0 (.int .i64 2147483647) fun b1=>
 IfK b1
 (R (.bool false) d)
 (Qh b 13 fun b2=>
 LdK d b2 fun b3=>
 Qf3 b3 fun b4=>
 Qp prog .gtr 3 b4 (.int .i64 2147483647) fun b5=>
 IfK b5
 (R (.bool false) d)
 (Qh b 14 fun b6=>
 LdK d b6 fun b7=>
 Qb prog 16 #[b7] d fun b8 e=>
 Z2 prog (Op.unary .not b8) fun b9=>
 IfK b9
 (R (.bool false) e)
 (Qh b 24 fun c0=>
 LdK e c0 fun c1=>
 YX c1 fun c2=>
 Qp prog .gtr 3 c2 (.int .i64 2147483647) fun c3=>
 IfK c3
 (R (.bool false) e)
 (Qh b 28 fun c4=>
 LdK e c4 fun c5=>
 Qb prog 15 #[c5] e fun c6 a=>
 Z2 prog (Op.unary .not c6) fun c7=>
 IfK c7
 (R (.bool false) a)
 (Qh b 29 fun c8=>
 LdK a c8 fun c9=>
 YX c9 fun d0=>
 Qp prog .gtr 3 d0 (.int .i64 2147483647) fun d1=>
 IfK d1
 (R (.bool false) a)
 (Qh b 30 fun d2=>
 LdK a d2 fun d3=>
 Qf3 d3 fun d4=>
 Qp prog .gtr 3 d4 (.int .i64 2147483647) fun d5=>
 IfK d5
 (R (.bool false) a)
 (Qh b 31 fun d6=>
 LdK a d6 fun d7=>
 YX d7 fun d8=>
 Qp prog .gtr 3 d8 (.int .i64 2147483647) fun d9=>
 IfK d9
 (R (.bool false) a)
 (Qh b 32 fun e0=>
 LdK a e0 fun e1=>
 YX e1 fun e2=>
 Qp prog .gtr 3 e2 (.int .i64 2147483647) fun e3=>
 IfK e3
 (R (.bool false) a)
 (Qh b 33 fun e4=>
 LdK a e4 fun e5=>
 YX e5 fun e6=>
 Qp prog .gtr 3 e6 (.int .i64 2147483647) fun e7=>
 IfK e7
 (R (.bool false) a)
 (Qh b 35 fun e8=>
 LdK a e8 fun e9=>
 YX e9 fun f0=>
 Qp prog .gtr 3 f0 (.int .i64 2147483647) fun f1=>
 IfK f1
 (R (.bool false) a)
 (Qh b 37 fun f2=>
 LdK a f2 fun f3=>
 YX f3 fun f4=>
 Qp prog .gtr 3 f4 (.int .i64 2147483647) fun f5=>
 IfK f5
 (R (.bool false) a)
 (Qh b 38 fun f6=>
 LdK a f6 fun f7=>
 YX f7 fun f8=>
 Qp prog .gtr 3 f8 (.int .i64 2147483647) fun f9=>
 IfK f9
 (R (.bool false) a)
 (Qh b 40 fun g0=>
 LdK a g0 fun g1=>
 YX g1 fun g2=>
 Qp prog .gtr 3 g2 (.int .i64 2147483647) fun g3=>
 IfK g3
 (R (.bool false) a)
 (Qh b 42 fun g4=>
 LdK a g4 fun g5=>
 YX g5 fun g6=>
 Qp prog .gtr 3 g6 (.int .i64 2147483647) fun g7=>
 IfK g7
 (R (.bool false) a)
 (Qh b 49 fun g8=>
 LdK a g8 fun g9=>
 Qf3 g9 fun i0=>
 Qp prog .gtr 3 i0 (.int .i64 2147483647) fun i1=>
 IfK i1
 (R (.bool false) a)
 (R (.bool true) a))))))))))))))))))))))
theorem w4 {a h R} (H:s4 a h R):FnS prog 4 #[a] h R:=wq Tryz.func4 (by kernel_rfl) H
def s6 (c:Value) (h:Qf) (R:Kn):Prop:=
 Zb h (.cells (Value.cells c) 38) fun d e=>
 Zb e (.cells z3 3) fun a f=>
 StK f 1 a (.int .i64 20) fun b=>
 LdN b 51 d fun g=>
 Qb prog 17 #[g,a,(.int .i64 5)] b fun i j=>
 R i j
theorem w6 {a h R} (H:s6 a h R):FnS prog 6 #[a] h R:=wq Tryz.func6 (by kernel_rfl) H
def s7 (h:Qf) (R:Kn):Prop:=
 QH z53.toList [(3,1,(.string ⟨#[111,114,99]⟩)),(2,1,(.int .i16 80)),(1,1,(.int .i16 150))] fun u=>
 Qb prog 8 #[u,(.int .i64 0)] h fun i v=>
 QeP i 0 fun w=>
 QeP i 1 fun j=>
 Qb prog 12 #[w] v fun l y=>
 QeP l 0 fun z=>
 QeP l 1 fun a0=>
 Zb y (.cells z53 53) fun a a1=>
 StK a1 51 a z fun m=>
 Qe j true (fun a2=>a2 a0 m) m fun a3 o=>
 Yh j a3 (.bool false) fun b=>
 Qe b true (fun a4=>Qh a 3 fun a5=>a4 a5 o) o fun a6 e=>
 Qe b true (fun a7=>LdK e a6 fun a8=>a7 a8 e) e fun a9 p=>
 Qe b true (fun b0=>Qp prog .eql 9 a9 (.string ⟨#[111,114,99]⟩) fun b1=>b0 b1 p) p fun b2 q=>
 Yh b b2 (.bool false) fun c=>
 Qe c true (fun b3=>Qh a 2 fun b4=>b3 b4 q) q fun b5 f=>
 Qe c true (fun b6=>LdK f b5 fun b7=>b6 b7 f) f fun b8 r=>
 Qe c true (fun b9=>Qp prog .eql 23 b8 (.int .i16 80) fun c0=>b9 c0 r) r fun c1 s=>
 Yh c c1 (.bool false) fun d=>
 Qe d true (fun c2=>Qh a 1 fun c3=>c2 c3 s) s fun c4 g=>
 Qe d true (fun c5=>LdK g c4 fun c6=>c5 c6 g) g fun c7 t=>
 Qe d true (fun c8=>Qp prog .eql 23 c7 (.int .i16 150) fun c9=>c8 c9 t) t fun d0 d1=>
 Yh d d0 (.bool false) fun d2=>
 R d2 d1
theorem w7 {h R} (H:s7 h R):FnS prog 7 #[] h R:=wq Tryz.func7 (by kernel_rfl) H
def s9 (a2:Value) (h:Qf) (R:Kn):Prop:=
 Zb h (.cells (Value.cells a2) 38) fun b a3=>
 Zb a3 (.cells z53 53) fun z a=>
 Qh b 0 fun a4=>
 LdK a a4 fun a5=>
 Qh b 1 fun a6=>
 LdK a a6 fun a7=>
 Qh b 2 fun a8=>
 LdK a a8 fun a9=>
 Qh b 3 fun b0=>
 LdK a b0 fun b1=>
 Qh b 4 fun b2=>
 LdK a b2 fun b3=>
 Qh b 5 fun b4=>
 LdK a b4 fun b5=>
 Qh b 6 fun b6=>
 LdN a 3 b6 fun b7=>
 Qh b 9 fun b8=>
 LdK a b8 fun b9=>
 Qh b 10 fun c0=>
 LdK a c0 fun c1=>
 Qh b 11 fun c2=>
 LdK a c2 fun c3=>
 Qh b 12 fun c4=>
 LdK a c4 fun c5=>
 Qh b 13 fun c6=>
 LdK a c6 fun c7=>
 Qh b 14 fun c8=>
 LdK a c8 fun c9=>
 Qh b 15 fun d0=>
 LdK a d0 fun d1=>
 Qh b 16 fun d2=>
 LdK a d2 fun d3=>
 Qh b 17 fun d4=>
 LdK a d4 fun d5=>
 Qh b 18 fun d6=>
 LdK a d6 fun d7=>
 Qh b 19 fun d8=>
 LdK a d8 fun d9=>
 Qh b 20 fun e0=>
 LdK a e0 fun e1=>
 Qh b 21 fun e2=>
 LdK a e2 fun e3=>
 Qh b 22 fun e4=>
 LdK a e4 fun e5=>
 Qh b 23 fun e6=>
 LdK a e6 fun e7=>
 Qh b 24 fun e8=>
 LdK a e8 fun e9=>
 Qh b 25 fun f0=>
 LdK a f0 fun f1=>
 Qh b 26 fun f2=>
 LdK a f2 fun f3=>
 Qh b 27 fun f4=>
 LdK a f4 fun f5=>
 Qh b 28 fun f6=>
 LdK a f6 fun f7=>
 Qh b 29 fun f8=>
 LdK a f8 fun f9=>
 Qh b 30 fun g0=>
 LdK a g0 fun g1=>
 Qh b 31 fun g2=>
 LdK a g2 fun g3=>
 Qh b 32 fun g4=>
 LdK a g4 fun g5=>
 Qh b 33 fun g6=>
 LdK a g6 fun g7=>
 Qh b 34 fun g8=>
 LdK a g8 fun g9=>
 Qh b 35 fun i0=>
 LdK a i0 fun i1=>
 Qh b 36 fun i2=>
 LdK a i2 fun i3=>
 Qh b 37 fun i4=>
 LdK a i4 fun i5=>
 Qh b 38 fun i6=>
 LdK a i6 fun i7=>
 Qh b 39 fun i8=>
 LdK a i8 fun i9=>
 Qh b 40 fun j0=>
 LdK a j0 fun j1=>
 Qh b 41 fun j2=>
 LdK a j2 fun j3=>
 Qh b 42 fun j4=>
 LdK a j4 fun j5=>
 Qh b 43 fun j6=>
 LdN a 3 j6 fun j7=>
 Qh b 46 fun j8=>
 LdN a 3 j8 fun j9=>
 Qh b 49 fun l0=>
 LdK a l0 fun l1=>
 Qh b 50 fun l2=>
 LdK a l2 fun l3=>
 Qb prog 27 #[a5,(.func (.func 28) #[] #[])] a fun l4 c=>
 Qk a c<|
 Qjd prog (.func (.func 25) #[] #[]) #[b7] c fun l5 d=>
 Qk c d<|
 Qb prog 29 #[b9,(.func (.func 30) #[] #[])] d fun l6 e=>
 Qk d e<|
 Qb prog 31 #[c1] e fun l7 f=>
 Qk e f<|
 Qb prog 26 #[c3,(.func (.func 9) #[] #[])] f fun l8 g=>
 Qk f g<|
 Qb prog 26 #[c5,(.func (.func 9) #[] #[])] g fun l9 i=>
 Qk g i<|
 Qb prog 32 #[c9,(.func (.func 33) #[] #[])] i fun m0 j=>
 Qk i j<|
 Qb prog 34 #[e9] j fun m1 l=>
 Qk j l<|
 Qb prog 31 #[f7] l fun m2 m=>
 Qk l m<|
 Qb prog 35 #[f9,(.func (.func 36) #[] #[])] m fun m3 o=>
 Qk m o<|
 Qb prog 29 #[g3,(.func (.func 37) #[] #[])] o fun m4 p=>
 Qk o p<|
 Qb prog 38 #[g5] p fun m5 q=>
 Qk p q<|
 Qb prog 39 #[g7] q fun m6 r=>
 Qk q r<|
 Qb prog 39 #[i1] r fun m7 s=>
 Qk r s<|
 Qb prog 39 #[i5] s fun m8 t=>
 Qk s t<|
 Qb prog 39 #[i7] t fun m9 u=>
 Qk t u<|
 Qb prog 39 #[j1] u fun o0 v=>
 Qk u v<|
 Qb prog 39 #[j5] v fun o1 w=>
 Qk v w<|
 Qjd prog (.func (.func 25) #[] #[]) #[j7] w fun o2 y=>
 Qk w y<|
 Qjd prog (.func (.func 25) #[] #[]) #[j9] y fun o3 a0=>
 Qk y a0<|
 QH z53.toList [(0,1,l4),(1,1,a7),(2,1,a9),(3,1,b1),(4,1,b3),(5,1,b5),(6,3,l5),(9,1,l6),(10,1,l7),(11,1,l8),(12,1,l9),(13,1,c7),(14,1,m0),(15,1,d1),(16,1,d3),(17,1,d5),(18,1,d7),(19,1,d9),(20,1,e1),(21,1,e3),(22,1,e5),(23,1,e7),(24,1,m1),(25,1,f1),(26,1,f3),(27,1,f5),(28,1,m2),(29,1,m3),(30,1,g1),(31,1,m4),(32,1,m5),(33,1,m6),(34,1,g9),(35,1,m7),(36,1,i3),(37,1,m8),(38,1,m9),(39,1,i9),(40,1,o0),(41,1,j3),(42,1,o1),(43,3,o2),(46,3,o3),(49,1,l1),(50,1,l3)] fun o4=>
 StK a0 51 z o4 fun a1=>
 LdN a1 51 z fun o5=>
 R o5 a1
theorem w9 {a h R} (H:s9 a h R):FnS prog 9 #[a] h R:=wq Tryz.func9 (by kernel_rfl) H
def s14 (r:Value) (h:Qf) (R:Kn):Prop:=
 Zb h (.cells (Value.cells r) 53) fun b s=>
 Zb s (.cells z38 38) fun o a=>
 Qh b 0 fun t=>
 LdK a t fun u=>
 Qh b 1 fun v=>
 LdK a v fun w=>
 Qh b 2 fun y=>
 LdK a y fun z=>
 Qh b 3 fun a0=>
 LdK a a0 fun a1=>
 Qh b 4 fun a2=>
 LdK a a2 fun a3=>
 Qh b 5 fun a4=>
 LdK a a4 fun a5=>
 Qh b 6 fun a6=>
 LdN a 3 a6 fun a7=>
 Qh b 9 fun a8=>
 LdK a a8 fun a9=>
 Qh b 10 fun b0=>
 LdK a b0 fun b1=>
 Qh b 11 fun b2=>
 LdK a b2 fun b3=>
 Qh b 12 fun b4=>
 LdK a b4 fun b5=>
 Qh b 13 fun b6=>
 LdK a b6 fun b7=>
 Qh b 14 fun b8=>
 LdK a b8 fun b9=>
 Qh b 15 fun c0=>
 LdK a c0 fun c1=>
 Qh b 16 fun c2=>
 LdK a c2 fun c3=>
 Qh b 17 fun c4=>
 LdK a c4 fun c5=>
 Qh b 18 fun c6=>
 LdK a c6 fun c7=>
 Qh b 19 fun c8=>
 LdK a c8 fun c9=>
 Qh b 20 fun d0=>
 LdK a d0 fun d1=>
 Qh b 21 fun d2=>
 LdK a d2 fun d3=>
 Qh b 22 fun d4=>
 LdK a d4 fun d5=>
 Qh b 23 fun d6=>
 LdK a d6 fun d7=>
 Qh b 24 fun d8=>
 LdK a d8 fun d9=>
 Qh b 25 fun e0=>
 LdK a e0 fun e1=>
 Qh b 26 fun e2=>
 LdK a e2 fun e3=>
 Qh b 27 fun e4=>
 LdK a e4 fun e5=>
 Qh b 28 fun e6=>
 LdK a e6 fun e7=>
 Qh b 29 fun e8=>
 LdK a e8 fun e9=>
 Qh b 30 fun f0=>
 LdK a f0 fun f1=>
 Qh b 31 fun f2=>
 LdK a f2 fun f3=>
 Qh b 32 fun f4=>
 LdK a f4 fun f5=>
 Qh b 33 fun f6=>
 LdK a f6 fun f7=>
 Qh b 34 fun f8=>
 LdK a f8 fun f9=>
 Qh b 35 fun g0=>
 LdK a g0 fun g1=>
 Qh b 36 fun g2=>
 LdK a g2 fun g3=>
 Qh b 37 fun g4=>
 LdK a g4 fun g5=>
 Qh b 38 fun g6=>
 LdK a g6 fun g7=>
 Qh b 39 fun g8=>
 LdK a g8 fun g9=>
 Qh b 40 fun i0=>
 LdK a i0 fun i1=>
 Qh b 41 fun i2=>
 LdK a i2 fun i3=>
 Qh b 42 fun i4=>
 LdK a i4 fun i5=>
 Qh b 43 fun i6=>
 LdN a 3 i6 fun i7=>
 Qh b 46 fun i8=>
 LdN a 3 i8 fun i9=>
 Qh b 49 fun j0=>
 LdK a j0 fun j1=>
 Qh b 50 fun j2=>
 LdK a j2 fun j3=>
 Qb prog 59 #[u,(.func (.func 60) #[] #[])] a fun j4 c=>
 Qk a c<|
 Qjd prog (.func (.func 57) #[] #[]) #[a7] c fun j5 d=>
 Qk c d<|
 Qb prog 61 #[a9,(.func (.func 62) #[] #[])] d fun j6 e=>
 Qk d e<|
 Qb prog 58 #[b3,(.func (.func 14) #[] #[])] e fun j7 f=>
 Qk e f<|
 Qb prog 58 #[b5,(.func (.func 14) #[] #[])] f fun j8 g=>
 Qk f g<|
 Qb prog 63 #[b9,(.func (.func 64) #[] #[])] g fun j9 i=>
 Qk g i<|
 Qb prog 65 #[e9,(.func (.func 66) #[] #[])] i fun l0 j=>
 Qk i j<|
 Qb prog 61 #[f3,(.func (.func 67) #[] #[])] j fun l1 l=>
 Qk j l<|
 Qjd prog (.func (.func 57) #[] #[]) #[i7] l fun l2 m=>
 Qk l m<|
 Qjd prog (.func (.func 57) #[] #[]) #[i9] m fun l3 p=>
 Qk m p<|
 QH z38.toList [(0,1,j4),(1,1,w),(2,1,z),(3,1,a1),(4,1,a3),(5,1,a5),(6,3,j5),(9,1,j6),(10,1,b1),(11,1,j7),(12,1,j8),(13,1,b7),(14,1,j9),(15,1,c1),(16,1,c3),(17,1,c5),(18,1,c7),(19,1,c9),(20,1,d1),(21,1,d3),(22,1,d5),(23,1,d7),(24,1,d9),(25,1,e1),(26,1,e3),(27,1,e5),(28,1,e7),(29,1,l0),(30,1,f1),(31,1,l1),(32,1,f5),(33,1,f7),(34,1,f9),(35,1,g1),(36,1,g3),(37,1,g5),(38,1,g7),(39,1,g9),(40,1,i1),(41,1,i3),(42,1,i5),(43,3,l2),(46,3,l3),(49,1,j1),(50,1,j3)] fun l4=>
 StK p 51 o l4 fun q=>
 LdN q 51 o fun l5=>
 R l5 q
theorem w14 {a h R} (H:s14 a h R):FnS prog 14 #[a] h R:=wq Tryz.func14 (by kernel_rfl) H
def s15 (c:Value) (h:Qf) (R:Kn):Prop:=
 YX c fun j=>
 Qp prog .gtr 3 j (.int .i64 2147483647) fun l=>
 IfK l
 (R (.bool false) h)
 (QN (fun d=>
 YX c fun m=>
 YO [(.int .i64 0),(.bool false)] h fun f g=>∀b e:Value,∀a:Qf,f g [b,e] a->
 Qp prog .lss 3 b m fun o=>
 IfK o
 (YG 1 c b fun p=>
 LdK a p fun q=>
 Qf3 q fun r=>
 Qp prog .gtr 3 r (.int .i64 2147483647) fun s=>
 IfK s
 (R (.bool false) a)
 (Qp prog .add 3 b (.int .i64 1) fun t=>
 Yf f g [t,e] a))
 (d [e] a)) fun d=>∀u:Value,∀i:Qf,d [u] i->
 R (.bool true) i)
theorem w15 {a h R} (H:s15 a h R):FnS prog 15 #[a] h R:=wq Tryz.func15 (by kernel_rfl) H
def s16 (c:Value) (h:Qf) (R:Kn):Prop:=
 YX c fun o=>
 Qp prog .gtr 3 o (.int .i64 2147483647) fun p=>
 IfK p
 (R (.bool false) h)
 (QN (fun d=>
 YX c fun q=>
 YO [(.int .i64 0),(.bool false)] h fun f g=>∀a e:Value,∀b:Qf,f g [a,e] b->
 Qp prog .lss 3 a q fun r=>
 IfK r
 (YG 3 c a fun s=>
 LdN b 3 s fun t=>
 Zb b (.cells z94 94) fun i u=>
 StK u 3 i t fun j=>
 LdN j 3 i fun v=>
 Qb prog 68 #[v] j fun w l=>
 Z2 prog (Op.unary .not w) fun y=>
 IfK y
 (R (.bool false) l)
 (Qp prog .add 3 a (.int .i64 1) fun z=>
 Yf f g [z,e] l))
 (d [e] b)) fun d=>∀a0:Value,∀m:Qf,d [a0] m->
 R (.bool true) m)
theorem w16 {a h R} (H:s16 a h R):FnS prog 16 #[a] h R:=wq Tryz.func16 (by kernel_rfl) H
theorem w25 {a h R} (H:tp25 26 z48 48 26 9 a h R):FnS prog 25 #[a] h R:=wq Tryz.func25 (by kernel_rfl) H
def mia2 (a:Value) (b:Qf) (R:Kn):Prop:=
 R a b
def mia1B (d:Value) (e:Value) (f:Value) (g:Value) (a:Qf) (k:Kn):Prop:=
 YG 51 d f fun i=>
 LdN a 51 i fun j=>
 Zb a (.cells z38 38) fun b l=>
 StK l 51 b j fun c=>
 LdN c 51 b fun m=>
 Qjd prog e #[m] c fun o p=>
 QY p 53 1 (ZP z53.toList 1) [(0,51,o)] fun q r=>
 Qe7 r 53 51 736 z53 g q fun s t=>
 k s t
def mia1 (a:Value) (b:Value) (h:Qf) (R:Kn):Prop:=
 QbS prog 3 a h (mia1B a b) fun c d=>mia2 c d R
def s26 (a b:Value) (h:Qf) (R:Kn):Prop:=
 mia1 a b h R
theorem w26 {a b h R} (H:s26 a b h R):FnS prog 26 #[a,b] h R:=wq Tryz.func26 (by kernel_rfl) H
def mib2 (a:Value) (b:Qf) (R:Kn):Prop:=
 R a b
def mib1B (d:Value) (e:Value) (f:Value) (g:Value) (a:Qf) (k:Kn):Prop:=
 YG 7 d f fun i=>
 LdN a 7 i fun j=>
 Zb a (.cells z82 82) fun b l=>
 StK l 7 b j fun c=>
 LdN c 7 b fun m=>
 Qjd prog e #[m] c fun o p=>
 QY p 83 1 (ZP z83.toList 1) [(0,7,o)] fun q r=>
 Qe7 r 83 7 32 z83 g q fun s t=>
 k s t
def mib1 (a:Value) (b:Value) (h:Qf) (R:Kn):Prop:=
 QbS prog 3 a h (mib1B a b) fun c d=>mib2 c d R
def s27 (a b:Value) (h:Qf) (R:Kn):Prop:=
 mib1 a b h R
theorem w27 {a b h R} (H:s27 a b h R):FnS prog 27 #[a,b] h R:=wq Tryz.func27 (by kernel_rfl) H
theorem w28 {a h R} (H:tp28 82 z83 83 7 a h R):FnS prog 28 #[a] h R:=wq Tryz.func28 (by kernel_rfl) H
def mic2 (a:Value) (b:Qf) (R:Kn):Prop:=
 R a b
def mic1B (d:Value) (e:Value) (f:Value) (g:Value) (a:Qf) (k:Kn):Prop:=
 YG 2 d f fun i=>
 LdN a 2 i fun j=>
 Zb a (.cells z87 87) fun b l=>
 StK l 2 b j fun c=>
 LdN c 2 b fun m=>
 Qjd prog e #[m] c fun o p=>
 QY p 88 1 (ZP z88.toList 1) [(0,2,o)] fun q r=>
 Qe7 r 88 2 4 z88 g q fun s t=>
 k s t
def mic1 (a:Value) (b:Value) (h:Qf) (R:Kn):Prop:=
 QbS prog 3 a h (mic1B a b) fun c d=>mic2 c d R
def s29 (a b:Value) (h:Qf) (R:Kn):Prop:=
 mic1 a b h R
theorem w29 {a b h R} (H:s29 a b h R):FnS prog 29 #[a,b] h R:=wq Tryz.func29 (by kernel_rfl) H
theorem w30 {a h R} (H:tp28 87 z88 88 2 a h R):FnS prog 30 #[a] h R:=wq Tryz.func30 (by kernel_rfl) H
theorem w31 {a h R} (H:tp78 a h R):FnS prog 31 #[a] h R:=wq Tryz.func31 (by kernel_rfl) H
def mid2 (a:Value) (b:Qf) (R:Kn):Prop:=
 R a b
def mid1B (d:Value) (e:Value) (f:Value) (g:Value) (a:Qf) (k:Kn):Prop:=
 YG 3 d f fun i=>
 LdN a 3 i fun j=>
 Zb a (.cells z94 94) fun b l=>
 StK l 3 b j fun c=>
 LdN c 3 b fun m=>
 Qjd prog e #[m] c fun o p=>
 QY p 95 1 (ZP z95.toList 1) [(0,3,o)] fun q r=>
 Qe7 r 95 3 32 z95 g q fun s t=>
 k s t
def mid1 (a:Value) (b:Value) (h:Qf) (R:Kn):Prop:=
 QbS prog 3 a h (mid1B a b) fun c d=>mid2 c d R
def s32 (a b:Value) (h:Qf) (R:Kn):Prop:=
 mid1 a b h R
theorem w32 {a b h R} (H:s32 a b h R):FnS prog 32 #[a,b] h R:=wq Tryz.func32 (by kernel_rfl) H
theorem w33 {a h R} (H:tp28 94 z95 95 3 a h R):FnS prog 33 #[a] h R:=wq Tryz.func33 (by kernel_rfl) H
theorem w34 {a h R} (H:tp78 a h R):FnS prog 34 #[a] h R:=wq Tryz.func34 (by kernel_rfl) H
def mie2 (a:Value) (b:Qf) (R:Kn):Prop:=
 R a b
def mie1B (d:Value) (e:Value) (f:Value) (g:Value) (a:Qf) (k:Kn):Prop:=
 YG 2 d f fun i=>
 LdN a 2 i fun j=>
 Zb a (.cells z100 100) fun b l=>
 StK l 2 b j fun c=>
 LdN c 2 b fun m=>
 Qjd prog e #[m] c fun o p=>
 QY p 101 1 (ZP z101.toList 1) [(0,2,o)] fun q r=>
 Qe7 r 101 2 8 z101 g q fun s t=>
 k s t
def mie1 (a:Value) (b:Value) (h:Qf) (R:Kn):Prop:=
 QbS prog 3 a h (mie1B a b) fun c d=>mie2 c d R
def s35 (a b:Value) (h:Qf) (R:Kn):Prop:=
 mie1 a b h R
theorem w35 {a b h R} (H:s35 a b h R):FnS prog 35 #[a,b] h R:=wq Tryz.func35 (by kernel_rfl) H
theorem w36 {a h R} (H:tp28 100 z101 101 2 a h R):FnS prog 36 #[a] h R:=wq Tryz.func36 (by kernel_rfl) H
theorem w37 {a h R} (H:tp28 87 z88 88 2 a h R):FnS prog 37 #[a] h R:=wq Tryz.func37 (by kernel_rfl) H
theorem w38 {a h R} (H:tp78 a h R):FnS prog 38 #[a] h R:=wq Tryz.func38 (by kernel_rfl) H
theorem w39 {a h R} (H:tp78 a h R):FnS prog 39 #[a] h R:=wq Tryz.func39 (by kernel_rfl) H
theorem w57 {a h R} (H:tp25 48 z26 26 58 14 a h R):FnS prog 57 #[a] h R:=wq Tryz.func57 (by kernel_rfl) H
def mja2 (a:Value) (b:Qf) (R:Kn):Prop:=
 R a b
def mja1B (d:Value) (e:Value) (f:Value) (g:Value) (a:Qf) (k:Kn):Prop:=
 YG 51 d f fun i=>
 LdN a 51 i fun j=>
 Zb a (.cells z53 53) fun b l=>
 StK l 51 b j fun c=>
 LdN c 51 b fun m=>
 Qjd prog e #[m] c fun o p=>
 QY p 38 1 (ZP z38.toList 1) [(0,51,o)] fun q r=>
 Qe7 r 38 51 736 z38 g q fun s t=>
 k s t
def mja1 (a:Value) (b:Value) (h:Qf) (R:Kn):Prop:=
 QbS prog 3 a h (mja1B a b) fun c d=>mja2 c d R
def s58 (a b:Value) (h:Qf) (R:Kn):Prop:=
 mja1 a b h R
theorem w58 {a b h R} (H:s58 a b h R):FnS prog 58 #[a,b] h R:=wq Tryz.func58 (by kernel_rfl) H
def mjb2 (a:Value) (b:Qf) (R:Kn):Prop:=
 R a b
def mjb1B (d:Value) (e:Value) (f:Value) (g:Value) (a:Qf) (k:Kn):Prop:=
 YG 7 d f fun i=>
 LdN a 7 i fun j=>
 Zb a (.cells z83 83) fun b l=>
 StK l 7 b j fun c=>
 LdN c 7 b fun m=>
 Qjd prog e #[m] c fun o p=>
 QY p 82 1 (ZP z82.toList 1) [(0,7,o)] fun q r=>
 Qe7 r 82 7 32 z82 g q fun s t=>
 k s t
def mjb1 (a:Value) (b:Value) (h:Qf) (R:Kn):Prop:=
 QbS prog 3 a h (mjb1B a b) fun c d=>mjb2 c d R
def s59 (a b:Value) (h:Qf) (R:Kn):Prop:=
 mjb1 a b h R
theorem w59 {a b h R} (H:s59 a b h R):FnS prog 59 #[a,b] h R:=wq Tryz.func59 (by kernel_rfl) H
theorem w60 {a h R} (H:tp28 83 z82 82 7 a h R):FnS prog 60 #[a] h R:=wq Tryz.func60 (by kernel_rfl) H
def mjc2 (a:Value) (b:Qf) (R:Kn):Prop:=
 R a b
def mjc1B (d:Value) (e:Value) (f:Value) (g:Value) (a:Qf) (k:Kn):Prop:=
 YG 2 d f fun i=>
 LdN a 2 i fun j=>
 Zb a (.cells z88 88) fun b l=>
 StK l 2 b j fun c=>
 LdN c 2 b fun m=>
 Qjd prog e #[m] c fun o p=>
 QY p 87 1 (ZP z87.toList 1) [(0,2,o)] fun q r=>
 Qe7 r 87 2 4 z87 g q fun s t=>
 k s t
def mjc1 (a:Value) (b:Value) (h:Qf) (R:Kn):Prop:=
 QbS prog 3 a h (mjc1B a b) fun c d=>mjc2 c d R
def s61 (a b:Value) (h:Qf) (R:Kn):Prop:=
 mjc1 a b h R
theorem w61 {a b h R} (H:s61 a b h R):FnS prog 61 #[a,b] h R:=wq Tryz.func61 (by kernel_rfl) H
theorem w62 {a h R} (H:tp28 88 z87 87 2 a h R):FnS prog 62 #[a] h R:=wq Tryz.func62 (by kernel_rfl) H
def mjd2 (a:Value) (b:Qf) (R:Kn):Prop:=
 R a b
def mjd1B (d:Value) (e:Value) (f:Value) (g:Value) (a:Qf) (k:Kn):Prop:=
 YG 3 d f fun i=>
 LdN a 3 i fun j=>
 Zb a (.cells z95 95) fun b l=>
 StK l 3 b j fun c=>
 LdN c 3 b fun m=>
 Qjd prog e #[m] c fun o p=>
 QY p 94 1 (ZP z94.toList 1) [(0,3,o)] fun q r=>
 Qe7 r 94 3 32 z94 g q fun s t=>
 k s t
def mjd1 (a:Value) (b:Value) (h:Qf) (R:Kn):Prop:=
 QbS prog 3 a h (mjd1B a b) fun c d=>mjd2 c d R
def s63 (a b:Value) (h:Qf) (R:Kn):Prop:=
 mjd1 a b h R
theorem w63 {a b h R} (H:s63 a b h R):FnS prog 63 #[a,b] h R:=wq Tryz.func63 (by kernel_rfl) H
theorem w64 {a h R} (H:tp28 95 z94 94 3 a h R):FnS prog 64 #[a] h R:=wq Tryz.func64 (by kernel_rfl) H
def mje2 (a:Value) (b:Qf) (R:Kn):Prop:=
 R a b
def mje1B (d:Value) (e:Value) (f:Value) (g:Value) (a:Qf) (k:Kn):Prop:=
 YG 2 d f fun i=>
 LdN a 2 i fun j=>
 Zb a (.cells z101 101) fun b l=>
 StK l 2 b j fun c=>
 LdN c 2 b fun m=>
 Qjd prog e #[m] c fun o p=>
 QY p 100 1 (ZP z100.toList 1) [(0,2,o)] fun q r=>
 Qe7 r 100 2 8 z100 g q fun s t=>
 k s t
def mje1 (a:Value) (b:Value) (h:Qf) (R:Kn):Prop:=
 QbS prog 3 a h (mje1B a b) fun c d=>mje2 c d R
def s65 (a b:Value) (h:Qf) (R:Kn):Prop:=
 mje1 a b h R
theorem w65 {a b h R} (H:s65 a b h R):FnS prog 65 #[a,b] h R:=wq Tryz.func65 (by kernel_rfl) H
theorem w66 {a h R} (H:tp28 101 z100 100 2 a h R):FnS prog 66 #[a] h R:=wq Tryz.func66 (by kernel_rfl) H
theorem w67 {a h R} (H:tp28 88 z87 87 2 a h R):FnS prog 67 #[a] h R:=wq Tryz.func67 (by kernel_rfl) H
def s68 (b:Value) (h:Qf) (R:Kn):Prop:=
 Zb h (.cells (Value.cells b) 94) fun c a=>
 Qh c 0 fun d=>
 LdK a d fun e=>
 Qf3 e fun f=>
 Qp prog .gtr 3 f (.int .i64 2147483647) fun g=>
 IfK g
 (R (.bool false) a)
 (R (.bool true) a)
theorem w68 {a h R} (H:s68 a h R):FnS prog 68 #[a] h R:=wq Tryz.func68 (by kernel_rfl) H
end Go.Proofs
namespace Go.Proofs
open Go Go.Vc
open Tryz (prog)
mutual
def LenM:GM->Prop
 |.mk d pos empty tables enemy test uniq amb=>(pos.length<=50/\empty.length<=50/\d.test4.length<=50/\d.abilities.length<=50/\d.test5.length<=50/\tables.length<=50/\enemy.length<=50/\test.length<=50/\uniq.length<=50/\amb.length<=50)/\(d.strings.length<=50/\d.bools.length<=50/\d.strings2.length<=50/\d.longs.length<=50/\d.doubles.length<=50/\d.refs.length<=50/\d.weak.length<=50/\d.strong.length<=50/\d.coOwnings.length<=50/\d.nonOwnings.length<=50)/\QhB tables/\QhB enemy/\QhB test/\QhB uniq/\QhB amb
def QhB:List GM->Prop
 |[]=>True
 |g::gs=>LenM g/\QhB gs
end
theorem QhB.get:∀{gs:List GM},QhB gs->∀g∈gs,LenM g
 |[],_,g,h=>by simp at h
 |g'::gs,hs,g,h=>by
  rw[QhB]at hs
  rcases List.mem_cons.1 h with h|h
  ·rw[h];exact hs.1
  ·exact QhB.get hs.2 g h
theorem ZR {f:FuncId} {args:Array Value} {H:Qf} {k:Kn} (h1:((prog).funcs[f]?).any (fun fn=>fn.body.isSome&&fn.name != "runtime.NumGoroutine")=true) (h:FnS prog f args H k):Qjd prog (.func (.func f) #[] #[]) args H k:=by
 refine ⟨h1,?_⟩
 show FnS prog f (#[]++args++#[]) H k
 have:#[]++args++#[]=args:=by simp
 rw[this];exact h
theorem QeC {H:Qf} {es:Nat} {it:List Value} {z:Array Value} {t:TypeId} (hl:it.length=es) (h0:0<es) (hz:z.size=es) (hone:∀x∈it,x.oneCell'=true) {k:Kn} (hk:k (.agg it.toArray) (H.push (.cells it.toArray t (0,0)))):
  Zb H (.cells z t) fun y h2=>StK h2 es y (.agg it.toArray) fun h3=>LdN h3 es y fun x=>k x h3:=by
 rw[Q2,Yn (n:=es) (c':=it.toArray) Qm hz (by simpa using hl) h0 (by simpa using hone),Zh,YL (n:=es) (vs:=it) (by rw[Q5 Qm es (by simp[hl])];simp[<-hl])]
 exact hk
theorem Z3 {F:Cut} {es:Nat} {v:Value} {items:List (List Value)} (h:SlV F es v items) {H:Qf} (hF:F.In H) {i:Nat} {it:List Value} (hi:items[i]?=some it) {k:Value->Prop} (hk:k (.agg it.toArray)):YG es v (.int .i64 (i:Nat)) fun p=>LdN H es p k:=by
 obtain ⟨b,o,cells',e',fr,h1,h2,h3,h4⟩:=h.idx hF (i:=i) rfl hi
 rw[h1,YL (n:=es) (vs:=it) (by rw[Q5 h2 es (by omega)];exact congrArg some h4)]
 exact hk
theorem Qh6 {G:Cut} {H:Qf} (hG:G.In H) {it:List Value} (hl:it.length=7) (hone:∀x∈it,x.oneCell'=true) {R:Kn} (hR:∀H',Ext G H G H'->R (.agg it.toArray) H'):FnS prog 28 #[.agg it.toArray] H R:=by
 apply w28
 unfold tp28
 rw[Q2,Q2]
 have e:=Ext.refl hG
 have o1:Ym H G (H.push (.cells (Value.agg it.toArray).cells 82)) H.size (.cells it.toArray 82 (0,0)):=Ym.fresh e _
 have e:=e.push (.cells (Value.agg it.toArray).cells 82)
 generalize H.push (.cells (Value.agg it.toArray).cells 82)=H1 at *
 have o2:=Ym.fresh e (.cells z83 83)
 have o1:=o1.push (.cells z83 83)
 have e:=e.push (.cells z83 83)
 generalize H1.push (.cells z83 83)=H2 at *
 rw[YL (n:=7) (vs:=it) (by rw[Q5 o1.get 7 (by simp[hl])];simp[<-hl]),Yn (n:=7) (c':=it.toArray) o2.get rfl (by simpa using hl) (by decide) (by simpa using hone)]
 have e:=e.set o2.out o2.new (.cells it.toArray 83 (0,0))
 have o2:=o2.set (.cells it.toArray 83 (0,0))
 rw[YL (n:=7) (vs:=it) (by rw[Q5 o2.get 7 (by simp[hl])];simp[<-hl])]
 exact hR _ e
theorem mib_ok {G:Cut} {H:Qf} (hG:G.In H) {l:List Qaj} {v:Value} (hs:SlV G 7 v (l.map Zk)) (hl:l.length<=50) {R:Kn} (hR:∀G' H' v',Ext G H G' H'->SlV G' 7 v' (l.map Zk)->R v' H'):FnS prog 27 #[v,.func (.func 28) #[] #[]] H R:=by
 have hone:∀t,∀x∈Zk t,x.oneCell'=true:=fun t x hx=>by
  simp[Zk]at hx
  first
   |(rcases hx with rfl|rfl|rfl|rfl|rfl|rfl|rfl<;>rfl)
   |(rcases hx with rfl|rfl|rfl<;>rfl)
   |(rcases hx with rfl|rfl<;>rfl)
 apply w27
 unfold s27 mib1
 refine Qar hG (et:=83) (es:=7) (n:=l.length) (fun F i items=>items=(l.take i).map Zk) (by simp) (by omega) (fun k=>by rw[hs.len,List.length_map]) ?_ ?_
 ·rintro i y G1 H1 items k hlt e c rfl hk
  have ha:=List.getElem?_eq_getElem hlt
  unfold mib1B
  refine Z3 (hs.mono e.le) e.inn (i:=i) (it:=Zk l[i]) (by rw[List.getElem?_map,ha];rfl) ?_
  refine QeC (es:=7) (it:=Zk l[i]) rfl (by decide) rfl (hone _) ?_
  have e1:=e.push (.cells (Zk l[i]).toArray 82 (0,0))
  have c1:=c.push (.cells (Zk l[i]).toArray 82 (0,0))
  generalize H1.push (.cells (Zk l[i]).toArray 82 (0,0))=H2 at *
  refine ZR (by kernel_rfl) ?_
  refine Qh6 e1.inn rfl (hone _) ?_
  intro H3 e3
  refine Qax (e1.trans e3) (c1.ext e3) (v:=.agg (Zk l[i]).toArray) (it:=Zk l[i]) rfl rfl (hone _) (by decide) rfl (by decide) (by rw[List.length_map,List.length_take];omega) ?_
  intro c' H' e4 c4
  exact hk c' _ H' _ e4 c4 (Zm ha).symm
 ·rintro y G1 G2 H2 items e2 sl rfl hle hnil
  rw[List.take_length]at sl
  exact hR G2 H2 y e2 sl
theorem Qh8 {G:Cut} {H:Qf} (hG:G.In H) {it:List Value} (hl:it.length=2) (hone:∀x∈it,x.oneCell'=true) {R:Kn} (hR:∀H',Ext G H G H'->R (.agg it.toArray) H'):FnS prog 30 #[.agg it.toArray] H R:=by
 apply w30
 unfold tp28
 rw[Q2,Q2]
 have e:=Ext.refl hG
 have o1:Ym H G (H.push (.cells (Value.agg it.toArray).cells 87)) H.size (.cells it.toArray 87 (0,0)):=Ym.fresh e _
 have e:=e.push (.cells (Value.agg it.toArray).cells 87)
 generalize H.push (.cells (Value.agg it.toArray).cells 87)=H1 at *
 have o2:=Ym.fresh e (.cells z88 88)
 have o1:=o1.push (.cells z88 88)
 have e:=e.push (.cells z88 88)
 generalize H1.push (.cells z88 88)=H2 at *
 rw[YL (n:=2) (vs:=it) (by rw[Q5 o1.get 2 (by simp[hl])];simp[<-hl]),Yn (n:=2) (c':=it.toArray) o2.get rfl (by simpa using hl) (by decide) (by simpa using hone)]
 have e:=e.set o2.out o2.new (.cells it.toArray 88 (0,0))
 have o2:=o2.set (.cells it.toArray 88 (0,0))
 rw[YL (n:=2) (vs:=it) (by rw[Q5 o2.get 2 (by simp[hl])];simp[<-hl])]
 exact hR _ e
theorem Qhs {G:Cut} {H:Qf} (hG:G.In H) {it:List Value} (hl:it.length=2) (hone:∀x∈it,x.oneCell'=true) {R:Kn} (hR:∀H',Ext G H G H'->R (.agg it.toArray) H'):FnS prog 37 #[.agg it.toArray] H R:=by
 apply w37
 unfold tp28
 rw[Q2,Q2]
 have e:=Ext.refl hG
 have o1:Ym H G (H.push (.cells (Value.agg it.toArray).cells 87)) H.size (.cells it.toArray 87 (0,0)):=Ym.fresh e _
 have e:=e.push (.cells (Value.agg it.toArray).cells 87)
 generalize H.push (.cells (Value.agg it.toArray).cells 87)=H1 at *
 have o2:=Ym.fresh e (.cells z88 88)
 have o1:=o1.push (.cells z88 88)
 have e:=e.push (.cells z88 88)
 generalize H1.push (.cells z88 88)=H2 at *
 rw[YL (n:=2) (vs:=it) (by rw[Q5 o1.get 2 (by simp[hl])];simp[<-hl]),Yn (n:=2) (c':=it.toArray) o2.get rfl (by simpa using hl) (by decide) (by simpa using hone)]
 have e:=e.set o2.out o2.new (.cells it.toArray 88 (0,0))
 have o2:=o2.set (.cells it.toArray 88 (0,0))
 rw[YL (n:=2) (vs:=it) (by rw[Q5 o2.get 2 (by simp[hl])];simp[<-hl])]
 exact hR _ e
theorem mic_ok {G:Cut} {H:Qf} (hG:G.In H) {l:List QbF} {v:Value} (hs:SlV G 2 v (l.map Yv)) (hl:l.length<=50) {R:Kn} (hR:∀G' H' v',Ext G H G' H'->SlV G' 2 v' (l.map Yv)->R v' H'):FnS prog 29 #[v,.func (.func 30) #[] #[]] H R:=by
 have hone:∀t,∀x∈Yv t,x.oneCell'=true:=fun t x hx=>by
  simp[Yv]at hx
  first
   |(rcases hx with rfl|rfl|rfl|rfl|rfl|rfl|rfl<;>rfl)
   |(rcases hx with rfl|rfl|rfl<;>rfl)
   |(rcases hx with rfl|rfl<;>rfl)
 apply w29
 unfold s29 mic1
 refine Qar hG (et:=88) (es:=2) (n:=l.length) (fun F i items=>items=(l.take i).map Yv) (by simp) (by omega) (fun k=>by rw[hs.len,List.length_map]) ?_ ?_
 ·rintro i y G1 H1 items k hlt e c rfl hk
  have ha:=List.getElem?_eq_getElem hlt
  unfold mic1B
  refine Z3 (hs.mono e.le) e.inn (i:=i) (it:=Yv l[i]) (by rw[List.getElem?_map,ha];rfl) ?_
  refine QeC (es:=2) (it:=Yv l[i]) rfl (by decide) rfl (hone _) ?_
  have e1:=e.push (.cells (Yv l[i]).toArray 87 (0,0))
  have c1:=c.push (.cells (Yv l[i]).toArray 87 (0,0))
  generalize H1.push (.cells (Yv l[i]).toArray 87 (0,0))=H2 at *
  refine ZR (by kernel_rfl) ?_
  refine Qh8 e1.inn rfl (hone _) ?_
  intro H3 e3
  refine Qax (e1.trans e3) (c1.ext e3) (v:=.agg (Yv l[i]).toArray) (it:=Yv l[i]) rfl rfl (hone _) (by decide) rfl (by decide) (by rw[List.length_map,List.length_take];omega) ?_
  intro c' H' e4 c4
  exact hk c' _ H' _ e4 c4 (Zm ha).symm
 ·rintro y G1 G2 H2 items e2 sl rfl hle hnil
  rw[List.take_length]at sl
  exact hR G2 H2 y e2 sl
theorem mic2_ok {G:Cut} {H:Qf} (hG:G.In H) {l:List QbF} {v:Value} (hs:SlV G 2 v (l.map Yv)) (hl:l.length<=50) {R:Kn} (hR:∀G' H' v',Ext G H G' H'->SlV G' 2 v' (l.map Yv)->R v' H'):FnS prog 29 #[v,.func (.func 37) #[] #[]] H R:=by
 have hone:∀t,∀x∈Yv t,x.oneCell'=true:=fun t x hx=>by
  simp[Yv]at hx
  first
   |(rcases hx with rfl|rfl|rfl|rfl|rfl|rfl|rfl<;>rfl)
   |(rcases hx with rfl|rfl|rfl<;>rfl)
   |(rcases hx with rfl|rfl<;>rfl)
 apply w29
 unfold s29 mic1
 refine Qar hG (et:=88) (es:=2) (n:=l.length) (fun F i items=>items=(l.take i).map Yv) (by simp) (by omega) (fun k=>by rw[hs.len,List.length_map]) ?_ ?_
 ·rintro i y G1 H1 items k hlt e c rfl hk
  have ha:=List.getElem?_eq_getElem hlt
  unfold mic1B
  refine Z3 (hs.mono e.le) e.inn (i:=i) (it:=Yv l[i]) (by rw[List.getElem?_map,ha];rfl) ?_
  refine QeC (es:=2) (it:=Yv l[i]) rfl (by decide) rfl (hone _) ?_
  have e1:=e.push (.cells (Yv l[i]).toArray 87 (0,0))
  have c1:=c.push (.cells (Yv l[i]).toArray 87 (0,0))
  generalize H1.push (.cells (Yv l[i]).toArray 87 (0,0))=H2 at *
  refine ZR (by kernel_rfl) ?_
  refine Qhs e1.inn rfl (hone _) ?_
  intro H3 e3
  refine Qax (e1.trans e3) (c1.ext e3) (v:=.agg (Yv l[i]).toArray) (it:=Yv l[i]) rfl rfl (hone _) (by decide) rfl (by decide) (by rw[List.length_map,List.length_take];omega) ?_
  intro c' H' e4 c4
  exact hk c' _ H' _ e4 c4 (Zm ha).symm
 ·rintro y G1 G2 H2 items e2 sl rfl hle hnil
  rw[List.take_length]at sl
  exact hR G2 H2 y e2 sl
theorem Qh9 {G:Cut} {H:Qf} (hG:G.In H) {it:List Value} (hl:it.length=3) (hone:∀x∈it,x.oneCell'=true) {R:Kn} (hR:∀H',Ext G H G H'->R (.agg it.toArray) H'):FnS prog 33 #[.agg it.toArray] H R:=by
 apply w33
 unfold tp28
 rw[Q2,Q2]
 have e:=Ext.refl hG
 have o1:Ym H G (H.push (.cells (Value.agg it.toArray).cells 94)) H.size (.cells it.toArray 94 (0,0)):=Ym.fresh e _
 have e:=e.push (.cells (Value.agg it.toArray).cells 94)
 generalize H.push (.cells (Value.agg it.toArray).cells 94)=H1 at *
 have o2:=Ym.fresh e (.cells z95 95)
 have o1:=o1.push (.cells z95 95)
 have e:=e.push (.cells z95 95)
 generalize H1.push (.cells z95 95)=H2 at *
 rw[YL (n:=3) (vs:=it) (by rw[Q5 o1.get 3 (by simp[hl])];simp[<-hl]),Yn (n:=3) (c':=it.toArray) o2.get rfl (by simpa using hl) (by decide) (by simpa using hone)]
 have e:=e.set o2.out o2.new (.cells it.toArray 95 (0,0))
 have o2:=o2.set (.cells it.toArray 95 (0,0))
 rw[YL (n:=3) (vs:=it) (by rw[Q5 o2.get 3 (by simp[hl])];simp[<-hl])]
 exact hR _ e
theorem mid_ok {G:Cut} {H:Qf} (hG:G.In H) {l:List Qaa} {v:Value} (hs:SlV G 3 v (l.map YT)) (hl:l.length<=50) {R:Kn} (hR:∀G' H' v',Ext G H G' H'->SlV G' 3 v' (l.map YT)->R v' H'):FnS prog 32 #[v,.func (.func 33) #[] #[]] H R:=by
 have hone:∀t,∀x∈YT t,x.oneCell'=true:=fun t x hx=>by
  simp[YT]at hx
  first
   |(rcases hx with rfl|rfl|rfl|rfl|rfl|rfl|rfl<;>rfl)
   |(rcases hx with rfl|rfl|rfl<;>rfl)
   |(rcases hx with rfl|rfl<;>rfl)
 apply w32
 unfold s32 mid1
 refine Qar hG (et:=95) (es:=3) (n:=l.length) (fun F i items=>items=(l.take i).map YT) (by simp) (by omega) (fun k=>by rw[hs.len,List.length_map]) ?_ ?_
 ·rintro i y G1 H1 items k hlt e c rfl hk
  have ha:=List.getElem?_eq_getElem hlt
  unfold mid1B
  refine Z3 (hs.mono e.le) e.inn (i:=i) (it:=YT l[i]) (by rw[List.getElem?_map,ha];rfl) ?_
  refine QeC (es:=3) (it:=YT l[i]) rfl (by decide) rfl (hone _) ?_
  have e1:=e.push (.cells (YT l[i]).toArray 94 (0,0))
  have c1:=c.push (.cells (YT l[i]).toArray 94 (0,0))
  generalize H1.push (.cells (YT l[i]).toArray 94 (0,0))=H2 at *
  refine ZR (by kernel_rfl) ?_
  refine Qh9 e1.inn rfl (hone _) ?_
  intro H3 e3
  refine Qax (e1.trans e3) (c1.ext e3) (v:=.agg (YT l[i]).toArray) (it:=YT l[i]) rfl rfl (hone _) (by decide) rfl (by decide) (by rw[List.length_map,List.length_take];omega) ?_
  intro c' H' e4 c4
  exact hk c' _ H' _ e4 c4 (Zm ha).symm
 ·rintro y G1 G2 H2 items e2 sl rfl hle hnil
  rw[List.take_length]at sl
  exact hR G2 H2 y e2 sl
theorem Qhe {G:Cut} {H:Qf} (hG:G.In H) {it:List Value} (hl:it.length=2) (hone:∀x∈it,x.oneCell'=true) {R:Kn} (hR:∀H',Ext G H G H'->R (.agg it.toArray) H'):FnS prog 36 #[.agg it.toArray] H R:=by
 apply w36
 unfold tp28
 rw[Q2,Q2]
 have e:=Ext.refl hG
 have o1:Ym H G (H.push (.cells (Value.agg it.toArray).cells 100)) H.size (.cells it.toArray 100 (0,0)):=Ym.fresh e _
 have e:=e.push (.cells (Value.agg it.toArray).cells 100)
 generalize H.push (.cells (Value.agg it.toArray).cells 100)=H1 at *
 have o2:=Ym.fresh e (.cells z101 101)
 have o1:=o1.push (.cells z101 101)
 have e:=e.push (.cells z101 101)
 generalize H1.push (.cells z101 101)=H2 at *
 rw[YL (n:=2) (vs:=it) (by rw[Q5 o1.get 2 (by simp[hl])];simp[<-hl]),Yn (n:=2) (c':=it.toArray) o2.get rfl (by simpa using hl) (by decide) (by simpa using hone)]
 have e:=e.set o2.out o2.new (.cells it.toArray 101 (0,0))
 have o2:=o2.set (.cells it.toArray 101 (0,0))
 rw[YL (n:=2) (vs:=it) (by rw[Q5 o2.get 2 (by simp[hl])];simp[<-hl])]
 exact hR _ e
theorem mie_ok {G:Cut} {H:Qf} (hG:G.In H) {l:List QeD} {v:Value} (hs:SlV G 2 v (l.map Z7)) (hl:l.length<=50) {R:Kn} (hR:∀G' H' v',Ext G H G' H'->SlV G' 2 v' (l.map Z7)->R v' H'):FnS prog 35 #[v,.func (.func 36) #[] #[]] H R:=by
 have hone:∀t,∀x∈Z7 t,x.oneCell'=true:=fun t x hx=>by
  simp[Z7]at hx
  first
   |(rcases hx with rfl|rfl|rfl|rfl|rfl|rfl|rfl<;>rfl)
   |(rcases hx with rfl|rfl|rfl<;>rfl)
   |(rcases hx with rfl|rfl<;>rfl)
 apply w35
 unfold s35 mie1
 refine Qar hG (et:=101) (es:=2) (n:=l.length) (fun F i items=>items=(l.take i).map Z7) (by simp) (by omega) (fun k=>by rw[hs.len,List.length_map]) ?_ ?_
 ·rintro i y G1 H1 items k hlt e c rfl hk
  have ha:=List.getElem?_eq_getElem hlt
  unfold mie1B
  refine Z3 (hs.mono e.le) e.inn (i:=i) (it:=Z7 l[i]) (by rw[List.getElem?_map,ha];rfl) ?_
  refine QeC (es:=2) (it:=Z7 l[i]) rfl (by decide) rfl (hone _) ?_
  have e1:=e.push (.cells (Z7 l[i]).toArray 100 (0,0))
  have c1:=c.push (.cells (Z7 l[i]).toArray 100 (0,0))
  generalize H1.push (.cells (Z7 l[i]).toArray 100 (0,0))=H2 at *
  refine ZR (by kernel_rfl) ?_
  refine Qhe e1.inn rfl (hone _) ?_
  intro H3 e3
  refine Qax (e1.trans e3) (c1.ext e3) (v:=.agg (Z7 l[i]).toArray) (it:=Z7 l[i]) rfl rfl (hone _) (by decide) rfl (by decide) (by rw[List.length_map,List.length_take];omega) ?_
  intro c' H' e4 c4
  exact hk c' _ H' _ e4 c4 (Zm ha).symm
 ·rintro y G1 G2 H2 items e2 sl rfl hle hnil
  rw[List.take_length]at sl
  exact hR G2 H2 y e2 sl
theorem Qh5 {G:Cut} {H:Qf} (hG:G.In H) {it:List Value} (hl:it.length=7) (hone:∀x∈it,x.oneCell'=true) {R:Kn} (hR:∀H',Ext G H G H'->R (.agg it.toArray) H'):FnS prog 60 #[.agg it.toArray] H R:=by
 apply w60
 unfold tp28
 rw[Q2,Q2]
 have e:=Ext.refl hG
 have o1:Ym H G (H.push (.cells (Value.agg it.toArray).cells 83)) H.size (.cells it.toArray 83 (0,0)):=Ym.fresh e _
 have e:=e.push (.cells (Value.agg it.toArray).cells 83)
 generalize H.push (.cells (Value.agg it.toArray).cells 83)=H1 at *
 have o2:=Ym.fresh e (.cells z82 82)
 have o1:=o1.push (.cells z82 82)
 have e:=e.push (.cells z82 82)
 generalize H1.push (.cells z82 82)=H2 at *
 rw[YL (n:=7) (vs:=it) (by rw[Q5 o1.get 7 (by simp[hl])];simp[<-hl]),Yn (n:=7) (c':=it.toArray) o2.get rfl (by simpa using hl) (by decide) (by simpa using hone)]
 have e:=e.set o2.out o2.new (.cells it.toArray 82 (0,0))
 have o2:=o2.set (.cells it.toArray 82 (0,0))
 rw[YL (n:=7) (vs:=it) (by rw[Q5 o2.get 7 (by simp[hl])];simp[<-hl])]
 exact hR _ e
theorem mjb_ok {G:Cut} {H:Qf} (hG:G.In H) {l:List Qaj} {v:Value} (hs:SlV G 7 v (l.map Zk)) (hl:l.length<=50) {R:Kn} (hR:∀G' H' v',Ext G H G' H'->SlV G' 7 v' (l.map Zk)->R v' H'):FnS prog 59 #[v,.func (.func 60) #[] #[]] H R:=by
 have hone:∀t,∀x∈Zk t,x.oneCell'=true:=fun t x hx=>by
  simp[Zk]at hx
  first
   |(rcases hx with rfl|rfl|rfl|rfl|rfl|rfl|rfl<;>rfl)
   |(rcases hx with rfl|rfl|rfl<;>rfl)
   |(rcases hx with rfl|rfl<;>rfl)
 apply w59
 unfold s59 mjb1
 refine Qar hG (et:=82) (es:=7) (n:=l.length) (fun F i items=>items=(l.take i).map Zk) (by simp) (by omega) (fun k=>by rw[hs.len,List.length_map]) ?_ ?_
 ·rintro i y G1 H1 items k hlt e c rfl hk
  have ha:=List.getElem?_eq_getElem hlt
  unfold mjb1B
  refine Z3 (hs.mono e.le) e.inn (i:=i) (it:=Zk l[i]) (by rw[List.getElem?_map,ha];rfl) ?_
  refine QeC (es:=7) (it:=Zk l[i]) rfl (by decide) rfl (hone _) ?_
  have e1:=e.push (.cells (Zk l[i]).toArray 83 (0,0))
  have c1:=c.push (.cells (Zk l[i]).toArray 83 (0,0))
  generalize H1.push (.cells (Zk l[i]).toArray 83 (0,0))=H2 at *
  refine ZR (by kernel_rfl) ?_
  refine Qh5 e1.inn rfl (hone _) ?_
  intro H3 e3
  refine Qax (e1.trans e3) (c1.ext e3) (v:=.agg (Zk l[i]).toArray) (it:=Zk l[i]) rfl rfl (hone _) (by decide) rfl (by decide) (by rw[List.length_map,List.length_take];omega) ?_
  intro c' H' e4 c4
  exact hk c' _ H' _ e4 c4 (Zm ha).symm
 ·rintro y G1 G2 H2 items e2 sl rfl hle hnil
  rw[List.take_length]at sl
  exact hR G2 H2 y e2 sl
theorem Qh7 {G:Cut} {H:Qf} (hG:G.In H) {it:List Value} (hl:it.length=2) (hone:∀x∈it,x.oneCell'=true) {R:Kn} (hR:∀H',Ext G H G H'->R (.agg it.toArray) H'):FnS prog 62 #[.agg it.toArray] H R:=by
 apply w62
 unfold tp28
 rw[Q2,Q2]
 have e:=Ext.refl hG
 have o1:Ym H G (H.push (.cells (Value.agg it.toArray).cells 88)) H.size (.cells it.toArray 88 (0,0)):=Ym.fresh e _
 have e:=e.push (.cells (Value.agg it.toArray).cells 88)
 generalize H.push (.cells (Value.agg it.toArray).cells 88)=H1 at *
 have o2:=Ym.fresh e (.cells z87 87)
 have o1:=o1.push (.cells z87 87)
 have e:=e.push (.cells z87 87)
 generalize H1.push (.cells z87 87)=H2 at *
 rw[YL (n:=2) (vs:=it) (by rw[Q5 o1.get 2 (by simp[hl])];simp[<-hl]),Yn (n:=2) (c':=it.toArray) o2.get rfl (by simpa using hl) (by decide) (by simpa using hone)]
 have e:=e.set o2.out o2.new (.cells it.toArray 87 (0,0))
 have o2:=o2.set (.cells it.toArray 87 (0,0))
 rw[YL (n:=2) (vs:=it) (by rw[Q5 o2.get 2 (by simp[hl])];simp[<-hl])]
 exact hR _ e
theorem Qha {G:Cut} {H:Qf} (hG:G.In H) {it:List Value} (hl:it.length=2) (hone:∀x∈it,x.oneCell'=true) {R:Kn} (hR:∀H',Ext G H G H'->R (.agg it.toArray) H'):FnS prog 67 #[.agg it.toArray] H R:=by
 apply w67
 unfold tp28
 rw[Q2,Q2]
 have e:=Ext.refl hG
 have o1:Ym H G (H.push (.cells (Value.agg it.toArray).cells 88)) H.size (.cells it.toArray 88 (0,0)):=Ym.fresh e _
 have e:=e.push (.cells (Value.agg it.toArray).cells 88)
 generalize H.push (.cells (Value.agg it.toArray).cells 88)=H1 at *
 have o2:=Ym.fresh e (.cells z87 87)
 have o1:=o1.push (.cells z87 87)
 have e:=e.push (.cells z87 87)
 generalize H1.push (.cells z87 87)=H2 at *
 rw[YL (n:=2) (vs:=it) (by rw[Q5 o1.get 2 (by simp[hl])];simp[<-hl]),Yn (n:=2) (c':=it.toArray) o2.get rfl (by simpa using hl) (by decide) (by simpa using hone)]
 have e:=e.set o2.out o2.new (.cells it.toArray 87 (0,0))
 have o2:=o2.set (.cells it.toArray 87 (0,0))
 rw[YL (n:=2) (vs:=it) (by rw[Q5 o2.get 2 (by simp[hl])];simp[<-hl])]
 exact hR _ e
theorem mjc_ok {G:Cut} {H:Qf} (hG:G.In H) {l:List QbF} {v:Value} (hs:SlV G 2 v (l.map Yv)) (hl:l.length<=50) {R:Kn} (hR:∀G' H' v',Ext G H G' H'->SlV G' 2 v' (l.map Yv)->R v' H'):FnS prog 61 #[v,.func (.func 62) #[] #[]] H R:=by
 have hone:∀t,∀x∈Yv t,x.oneCell'=true:=fun t x hx=>by
  simp[Yv]at hx
  first
   |(rcases hx with rfl|rfl|rfl|rfl|rfl|rfl|rfl<;>rfl)
   |(rcases hx with rfl|rfl|rfl<;>rfl)
   |(rcases hx with rfl|rfl<;>rfl)
 apply w61
 unfold s61 mjc1
 refine Qar hG (et:=87) (es:=2) (n:=l.length) (fun F i items=>items=(l.take i).map Yv) (by simp) (by omega) (fun k=>by rw[hs.len,List.length_map]) ?_ ?_
 ·rintro i y G1 H1 items k hlt e c rfl hk
  have ha:=List.getElem?_eq_getElem hlt
  unfold mjc1B
  refine Z3 (hs.mono e.le) e.inn (i:=i) (it:=Yv l[i]) (by rw[List.getElem?_map,ha];rfl) ?_
  refine QeC (es:=2) (it:=Yv l[i]) rfl (by decide) rfl (hone _) ?_
  have e1:=e.push (.cells (Yv l[i]).toArray 88 (0,0))
  have c1:=c.push (.cells (Yv l[i]).toArray 88 (0,0))
  generalize H1.push (.cells (Yv l[i]).toArray 88 (0,0))=H2 at *
  refine ZR (by kernel_rfl) ?_
  refine Qh7 e1.inn rfl (hone _) ?_
  intro H3 e3
  refine Qax (e1.trans e3) (c1.ext e3) (v:=.agg (Yv l[i]).toArray) (it:=Yv l[i]) rfl rfl (hone _) (by decide) rfl (by decide) (by rw[List.length_map,List.length_take];omega) ?_
  intro c' H' e4 c4
  exact hk c' _ H' _ e4 c4 (Zm ha).symm
 ·rintro y G1 G2 H2 items e2 sl rfl hle hnil
  rw[List.take_length]at sl
  exact hR G2 H2 y e2 sl
theorem mjc2_ok {G:Cut} {H:Qf} (hG:G.In H) {l:List QbF} {v:Value} (hs:SlV G 2 v (l.map Yv)) (hl:l.length<=50) {R:Kn} (hR:∀G' H' v',Ext G H G' H'->SlV G' 2 v' (l.map Yv)->R v' H'):FnS prog 61 #[v,.func (.func 67) #[] #[]] H R:=by
 have hone:∀t,∀x∈Yv t,x.oneCell'=true:=fun t x hx=>by
  simp[Yv]at hx
  first
   |(rcases hx with rfl|rfl|rfl|rfl|rfl|rfl|rfl<;>rfl)
   |(rcases hx with rfl|rfl|rfl<;>rfl)
   |(rcases hx with rfl|rfl<;>rfl)
 apply w61
 unfold s61 mjc1
 refine Qar hG (et:=87) (es:=2) (n:=l.length) (fun F i items=>items=(l.take i).map Yv) (by simp) (by omega) (fun k=>by rw[hs.len,List.length_map]) ?_ ?_
 ·rintro i y G1 H1 items k hlt e c rfl hk
  have ha:=List.getElem?_eq_getElem hlt
  unfold mjc1B
  refine Z3 (hs.mono e.le) e.inn (i:=i) (it:=Yv l[i]) (by rw[List.getElem?_map,ha];rfl) ?_
  refine QeC (es:=2) (it:=Yv l[i]) rfl (by decide) rfl (hone _) ?_
  have e1:=e.push (.cells (Yv l[i]).toArray 88 (0,0))
  have c1:=c.push (.cells (Yv l[i]).toArray 88 (0,0))
  generalize H1.push (.cells (Yv l[i]).toArray 88 (0,0))=H2 at *
  refine ZR (by kernel_rfl) ?_
  refine Qha e1.inn rfl (hone _) ?_
  intro H3 e3
  refine Qax (e1.trans e3) (c1.ext e3) (v:=.agg (Yv l[i]).toArray) (it:=Yv l[i]) rfl rfl (hone _) (by decide) rfl (by decide) (by rw[List.length_map,List.length_take];omega) ?_
  intro c' H' e4 c4
  exact hk c' _ H' _ e4 c4 (Zm ha).symm
 ·rintro y G1 G2 H2 items e2 sl rfl hle hnil
  rw[List.take_length]at sl
  exact hR G2 H2 y e2 sl
theorem Qhr {G:Cut} {H:Qf} (hG:G.In H) {it:List Value} (hl:it.length=3) (hone:∀x∈it,x.oneCell'=true) {R:Kn} (hR:∀H',Ext G H G H'->R (.agg it.toArray) H'):FnS prog 64 #[.agg it.toArray] H R:=by
 apply w64
 unfold tp28
 rw[Q2,Q2]
 have e:=Ext.refl hG
 have o1:Ym H G (H.push (.cells (Value.agg it.toArray).cells 95)) H.size (.cells it.toArray 95 (0,0)):=Ym.fresh e _
 have e:=e.push (.cells (Value.agg it.toArray).cells 95)
 generalize H.push (.cells (Value.agg it.toArray).cells 95)=H1 at *
 have o2:=Ym.fresh e (.cells z94 94)
 have o1:=o1.push (.cells z94 94)
 have e:=e.push (.cells z94 94)
 generalize H1.push (.cells z94 94)=H2 at *
 rw[YL (n:=3) (vs:=it) (by rw[Q5 o1.get 3 (by simp[hl])];simp[<-hl]),Yn (n:=3) (c':=it.toArray) o2.get rfl (by simpa using hl) (by decide) (by simpa using hone)]
 have e:=e.set o2.out o2.new (.cells it.toArray 94 (0,0))
 have o2:=o2.set (.cells it.toArray 94 (0,0))
 rw[YL (n:=3) (vs:=it) (by rw[Q5 o2.get 3 (by simp[hl])];simp[<-hl])]
 exact hR _ e
theorem mjd_ok {G:Cut} {H:Qf} (hG:G.In H) {l:List Qaa} {v:Value} (hs:SlV G 3 v (l.map YT)) (hl:l.length<=50) {R:Kn} (hR:∀G' H' v',Ext G H G' H'->SlV G' 3 v' (l.map YT)->R v' H'):FnS prog 63 #[v,.func (.func 64) #[] #[]] H R:=by
 have hone:∀t,∀x∈YT t,x.oneCell'=true:=fun t x hx=>by
  simp[YT]at hx
  first
   |(rcases hx with rfl|rfl|rfl|rfl|rfl|rfl|rfl<;>rfl)
   |(rcases hx with rfl|rfl|rfl<;>rfl)
   |(rcases hx with rfl|rfl<;>rfl)
 apply w63
 unfold s63 mjd1
 refine Qar hG (et:=94) (es:=3) (n:=l.length) (fun F i items=>items=(l.take i).map YT) (by simp) (by omega) (fun k=>by rw[hs.len,List.length_map]) ?_ ?_
 ·rintro i y G1 H1 items k hlt e c rfl hk
  have ha:=List.getElem?_eq_getElem hlt
  unfold mjd1B
  refine Z3 (hs.mono e.le) e.inn (i:=i) (it:=YT l[i]) (by rw[List.getElem?_map,ha];rfl) ?_
  refine QeC (es:=3) (it:=YT l[i]) rfl (by decide) rfl (hone _) ?_
  have e1:=e.push (.cells (YT l[i]).toArray 95 (0,0))
  have c1:=c.push (.cells (YT l[i]).toArray 95 (0,0))
  generalize H1.push (.cells (YT l[i]).toArray 95 (0,0))=H2 at *
  refine ZR (by kernel_rfl) ?_
  refine Qhr e1.inn rfl (hone _) ?_
  intro H3 e3
  refine Qax (e1.trans e3) (c1.ext e3) (v:=.agg (YT l[i]).toArray) (it:=YT l[i]) rfl rfl (hone _) (by decide) rfl (by decide) (by rw[List.length_map,List.length_take];omega) ?_
  intro c' H' e4 c4
  exact hk c' _ H' _ e4 c4 (Zm ha).symm
 ·rintro y G1 G2 H2 items e2 sl rfl hle hnil
  rw[List.take_length]at sl
  exact hR G2 H2 y e2 sl
theorem Qhq {G:Cut} {H:Qf} (hG:G.In H) {it:List Value} (hl:it.length=2) (hone:∀x∈it,x.oneCell'=true) {R:Kn} (hR:∀H',Ext G H G H'->R (.agg it.toArray) H'):FnS prog 66 #[.agg it.toArray] H R:=by
 apply w66
 unfold tp28
 rw[Q2,Q2]
 have e:=Ext.refl hG
 have o1:Ym H G (H.push (.cells (Value.agg it.toArray).cells 101)) H.size (.cells it.toArray 101 (0,0)):=Ym.fresh e _
 have e:=e.push (.cells (Value.agg it.toArray).cells 101)
 generalize H.push (.cells (Value.agg it.toArray).cells 101)=H1 at *
 have o2:=Ym.fresh e (.cells z100 100)
 have o1:=o1.push (.cells z100 100)
 have e:=e.push (.cells z100 100)
 generalize H1.push (.cells z100 100)=H2 at *
 rw[YL (n:=2) (vs:=it) (by rw[Q5 o1.get 2 (by simp[hl])];simp[<-hl]),Yn (n:=2) (c':=it.toArray) o2.get rfl (by simpa using hl) (by decide) (by simpa using hone)]
 have e:=e.set o2.out o2.new (.cells it.toArray 100 (0,0))
 have o2:=o2.set (.cells it.toArray 100 (0,0))
 rw[YL (n:=2) (vs:=it) (by rw[Q5 o2.get 2 (by simp[hl])];simp[<-hl])]
 exact hR _ e
theorem mje_ok {G:Cut} {H:Qf} (hG:G.In H) {l:List QeD} {v:Value} (hs:SlV G 2 v (l.map Z7)) (hl:l.length<=50) {R:Kn} (hR:∀G' H' v',Ext G H G' H'->SlV G' 2 v' (l.map Z7)->R v' H'):FnS prog 65 #[v,.func (.func 66) #[] #[]] H R:=by
 have hone:∀t,∀x∈Z7 t,x.oneCell'=true:=fun t x hx=>by
  simp[Z7]at hx
  first
   |(rcases hx with rfl|rfl|rfl|rfl|rfl|rfl|rfl<;>rfl)
   |(rcases hx with rfl|rfl|rfl<;>rfl)
   |(rcases hx with rfl|rfl<;>rfl)
 apply w65
 unfold s65 mje1
 refine Qar hG (et:=100) (es:=2) (n:=l.length) (fun F i items=>items=(l.take i).map Z7) (by simp) (by omega) (fun k=>by rw[hs.len,List.length_map]) ?_ ?_
 ·rintro i y G1 H1 items k hlt e c rfl hk
  have ha:=List.getElem?_eq_getElem hlt
  unfold mje1B
  refine Z3 (hs.mono e.le) e.inn (i:=i) (it:=Z7 l[i]) (by rw[List.getElem?_map,ha];rfl) ?_
  refine QeC (es:=2) (it:=Z7 l[i]) rfl (by decide) rfl (hone _) ?_
  have e1:=e.push (.cells (Z7 l[i]).toArray 101 (0,0))
  have c1:=c.push (.cells (Z7 l[i]).toArray 101 (0,0))
  generalize H1.push (.cells (Z7 l[i]).toArray 101 (0,0))=H2 at *
  refine ZR (by kernel_rfl) ?_
  refine Qhq e1.inn rfl (hone _) ?_
  intro H3 e3
  refine Qax (e1.trans e3) (c1.ext e3) (v:=.agg (Z7 l[i]).toArray) (it:=Z7 l[i]) rfl rfl (hone _) (by decide) rfl (by decide) (by rw[List.length_map,List.length_take];omega) ?_
  intro c' H' e4 c4
  exact hk c' _ H' _ e4 c4 (Zm ha).symm
 ·rintro y G1 G2 H2 items e2 sl rfl hle hnil
  rw[List.take_length]at sl
  exact hR G2 H2 y e2 sl
theorem mn_string {F:Cut} {H:Qf} {v:Value} {items:List (List Value)} (h:SlV F 1 v items) {R:Kn} (hR:∀v',SlV F 1 v' items->R v' H):FnS prog 31 #[v] H R:=by
 apply w31
 unfold tp78
 rw[h.len,Yo]
 by_cases h0:items=[]
 ·subst h0
  show IfK (.bool true) _ _
  rw[Zs]
  exact hR _ (SlV.nil _ _)
 ·have hl:¬((items.length:Nat):Int)=0:=fun hc=>h0 (List.length_eq_zero_iff.1 (by omega))
  rw[QL hl]
  exact hR v h
theorem mn_bool {F:Cut} {H:Qf} {v:Value} {items:List (List Value)} (h:SlV F 1 v items) {R:Kn} (hR:∀v',SlV F 1 v' items->R v' H):FnS prog 34 #[v] H R:=by
 apply w34
 unfold tp78
 rw[h.len,Yo]
 by_cases h0:items=[]
 ·subst h0
  show IfK (.bool true) _ _
  rw[Zs]
  exact hR _ (SlV.nil _ _)
 ·have hl:¬((items.length:Nat):Int)=0:=fun hc=>h0 (List.length_eq_zero_iff.1 (by omega))
  rw[QL hl]
  exact hR v h
theorem mn_int64 {F:Cut} {H:Qf} {v:Value} {items:List (List Value)} (h:SlV F 1 v items) {R:Kn} (hR:∀v',SlV F 1 v' items->R v' H):FnS prog 38 #[v] H R:=by
 apply w38
 unfold tp78
 rw[h.len,Yo]
 by_cases h0:items=[]
 ·subst h0
  show IfK (.bool true) _ _
  rw[Zs]
  exact hR _ (SlV.nil _ _)
 ·have hl:¬((items.length:Nat):Int)=0:=fun hc=>h0 (List.length_eq_zero_iff.1 (by omega))
  rw[QL hl]
  exact hR v h
theorem QeX {F:Cut} {H:Qf} {v:Value} {items:List (List Value)} (h:SlV F 1 v items) {R:Kn} (hR:∀v',SlV F 1 v' items->R v' H):FnS prog 39 #[v] H R:=by
 apply w39
 unfold tp78
 rw[h.len,Yo]
 by_cases h0:items=[]
 ·subst h0
  show IfK (.bool true) _ _
  rw[Zs]
  exact hR _ (SlV.nil _ _)
 ·have hl:¬((items.length:Nat):Int)=0:=fun hc=>h0 (List.length_eq_zero_iff.1 (by omega))
  rw[QL hl]
  exact hR v h
def ToOk (g:GM):Prop:=∀(G:Cut) (H:Qf) (cells:List Value) (R:Kn),G.In H->ZV G g cells->LenM g->(∀G' H' cells',Ext G H G' H'->ZV G' g cells'->R (.agg cells'.toArray) H')->FnS prog 9 #[.agg cells.toArray] H R
theorem mia_ok {G:Cut} {H:Qf} (hG:G.In H) {gs:List GM} {v:Value} (hs:QaJ G gs v) (hK:∀g∈gs,ToOk g) (hL:QhB gs) (hl:gs.length<=50) {R:Kn} (hR:∀G' H' v',Ext G H G' H'->QaJ G' gs v'->R v' H'):FnS prog 26 #[v,.func (.func 9) #[] #[]] H R:=by
 obtain ⟨its,hs,hvs⟩:=hs
 have hil:=Zf.len hvs
 apply w26
 unfold s26 mia1
 refine Qar hG (et:=53) (es:=51) (n:=gs.length) (fun F i items=>Zf F (gs.take i) items) (by rw[List.take_zero,Zf];trivial) (by omega) (fun k=>by rw[hs.len,hil]) ?_ ?_
 ·rintro i y G1 H1 items k hlt e c hI hk
  have ha:=List.getElem?_eq_getElem hlt
  obtain ⟨x,hx,hvx⟩:=Zf.get hvs ha
  have hvx:=hvx.mono e.le
  have hxl:=hvx.len
  have hxo:=ZV.one hvx
  have hilen:=Zf.len hI
  rw[List.length_take]at hilen
  unfold mia1B
  refine Z3 (hs.mono e.le) e.inn (i:=i) hx ?_
  refine QeC hxl (by decide) rfl hxo ?_
  have e1:=e.push (.cells x.toArray 38 (0,0))
  have c1:=c.push (.cells x.toArray 38 (0,0))
  generalize H1.push (.cells x.toArray 38 (0,0))=H2 at *
  refine ZR (by kernel_rfl) ?_
  refine hK _ (List.mem_of_getElem? ha) G1 H2 x _ e1.inn hvx (QhB.get hL _ (List.mem_of_getElem? ha)) ?_
  intro G3 H3 x' e3 hv3
  refine Qax (e1.trans e3) (c1.ext e3) (v:=.agg x'.toArray) (it:=x') rfl hv3.len (ZV.one hv3) (by decide) rfl (by decide) (by omega) ?_
  intro c' H' e4 c4
  refine hk c' _ H' _ e4 c4 ?_
  rw[QcW ha]
  exact Zf.snoc (Zf.mono e3.le hI) hv3
 ·rintro y G1 G2 H2 items e2 sl hI hle hnil
  rw[List.take_length]at hI
  exact hR G2 H2 y e2 ⟨items,sl,Zf.mono hle hI⟩
theorem To_choice {G:Cut} {H:Qf} (hG:G.In H) {ty color:UInt8} {gs:List GM} {s:Value} (hs:QaJ G gs s) (hK:∀g∈gs,ToOk g) (hL:QhB gs) (hl:gs.length<=50) {R:Kn} (hR:∀G' H' a n c,Ext G H G' H'->QaJ G' gs (.slice a n c)->R (.agg #[u8n ty,.slice a n c,u8n color]) H'):FnS prog 25 #[.agg #[u8n ty,s,u8n color]] H R:=by
 apply w25
 unfold tp25
 rw[Q2,Q2]
 have e:=Ext.refl hG
 have o1:Ym H G (H.push (.cells (Value.agg #[u8n ty,s,u8n color]).cells 26)) H.size (.cells #[u8n ty,s,u8n color] 26 (0,0)):=Ym.fresh e _
 have e:=e.push (.cells (Value.agg #[u8n ty,s,u8n color]).cells 26)
 generalize H.push (.cells (Value.agg #[u8n ty,s,u8n color]).cells 26)=H1 at *
 have hne:=o1.ne
 have o2:=Ym.fresh e (.cells z48 48)
 have o1:=o1.push (.cells z48 48)
 have e:=e.push (.cells z48 48)
 generalize H1.push (.cells z48 48)=H2 at *
 rw[Qo,Qj ((Qi o1.get).trans (show (#[u8n ty,s,u8n color]:Array Value)[0]?=some (u8n ty) from rfl)),Qo,Qj ((Qi o1.get).trans (show (#[u8n ty,s,u8n color]:Array Value)[1]?=some s from rfl)),Qo,Qj ((Qi o1.get).trans (show (#[u8n ty,s,u8n color]:Array Value)[2]?=some (u8n color) from rfl))]
 refine mia_ok e.inn hs hK hL hl ?_
 intro G3 H3 v' e3 hv'
 refine Q3 e3.keep.ext ?_
 have e:=e.trans e3
 have o2:=o2.ext e3
 have hv2:=hv'
 obtain ⟨its,hsl,_⟩:=hv'
 obtain ⟨a,n,c,rfl⟩:∃a n c,v'= .slice a n c:=by
  rcases hsl.2 with ⟨a,c,h,_⟩|⟨b,o,c,_,_,_,h,_⟩
  ·exact ⟨_,_,_,h⟩
  ·exact ⟨_,_,_,h⟩
 have hf:ZG z48.toList [(0,1,u8n ty),(1,1,.slice a n c),(2,1,u8n color)]=some [u8n ty,.slice a n c,u8n color]:=rfl
 unfold QH
 simp only[hf]
 rw[Yn (n:=3) (c':=[u8n ty,.slice a n c,u8n color].toArray) o2.get rfl rfl (by decide) (by intro v hv;simp at hv;rcases hv with rfl|rfl|rfl<;>rfl)]
 have e:=e.set o2.out o2.new (.cells [u8n ty,.slice a n c,u8n color].toArray 48 (0,0))
 have o2:=o2.set (.cells [u8n ty,.slice a n c,u8n color].toArray 48 (0,0))
 rw[YL (n:=3) (vs:=[u8n ty,.slice a n c,u8n color]) (by rw[Q5 o2.get 3 (Nat.le_refl 3)];rfl)]
 exact hR _ _ a n c e hv2
def OfOk (g:GM):Prop:=∀(G:Cut) (H:Qf) (cells:List Value) (R:Kn),G.In H->ZV G g cells->LenM g->(∀G' H' cells',Ext G H G' H'->ZV G' g cells'->R (.agg cells'.toArray) H')->FnS prog 14 #[.agg cells.toArray] H R
theorem mja_ok {G:Cut} {H:Qf} (hG:G.In H) {gs:List GM} {v:Value} (hs:QaJ G gs v) (hK:∀g∈gs,OfOk g) (hL:QhB gs) (hl:gs.length<=50) {R:Kn} (hR:∀G' H' v',Ext G H G' H'->QaJ G' gs v'->R v' H'):FnS prog 58 #[v,.func (.func 14) #[] #[]] H R:=by
 obtain ⟨its,hs,hvs⟩:=hs
 have hil:=Zf.len hvs
 apply w58
 unfold s58 mja1
 refine Qar hG (et:=38) (es:=51) (n:=gs.length) (fun F i items=>Zf F (gs.take i) items) (by rw[List.take_zero,Zf];trivial) (by omega) (fun k=>by rw[hs.len,hil]) ?_ ?_
 ·rintro i y G1 H1 items k hlt e c hI hk
  have ha:=List.getElem?_eq_getElem hlt
  obtain ⟨x,hx,hvx⟩:=Zf.get hvs ha
  have hvx:=hvx.mono e.le
  have hxl:=hvx.len
  have hxo:=ZV.one hvx
  have hilen:=Zf.len hI
  rw[List.length_take]at hilen
  unfold mja1B
  refine Z3 (hs.mono e.le) e.inn (i:=i) hx ?_
  refine QeC hxl (by decide) rfl hxo ?_
  have e1:=e.push (.cells x.toArray 53 (0,0))
  have c1:=c.push (.cells x.toArray 53 (0,0))
  generalize H1.push (.cells x.toArray 53 (0,0))=H2 at *
  refine ZR (by kernel_rfl) ?_
  refine hK _ (List.mem_of_getElem? ha) G1 H2 x _ e1.inn hvx (QhB.get hL _ (List.mem_of_getElem? ha)) ?_
  intro G3 H3 x' e3 hv3
  refine Qax (e1.trans e3) (c1.ext e3) (v:=.agg x'.toArray) (it:=x') rfl hv3.len (ZV.one hv3) (by decide) rfl (by decide) (by omega) ?_
  intro c' H' e4 c4
  refine hk c' _ H' _ e4 c4 ?_
  rw[QcW ha]
  exact Zf.snoc (Zf.mono e3.le hI) hv3
 ·rintro y G1 G2 H2 items e2 sl hI hle hnil
  rw[List.take_length]at hI
  exact hR G2 H2 y e2 ⟨items,sl,Zf.mono hle hI⟩
theorem Of_choice {G:Cut} {H:Qf} (hG:G.In H) {ty color:UInt8} {gs:List GM} {s:Value} (hs:QaJ G gs s) (hK:∀g∈gs,OfOk g) (hL:QhB gs) (hl:gs.length<=50) {R:Kn} (hR:∀G' H' a n c,Ext G H G' H'->QaJ G' gs (.slice a n c)->R (.agg #[u8n ty,.slice a n c,u8n color]) H'):FnS prog 57 #[.agg #[u8n ty,s,u8n color]] H R:=by
 apply w57
 unfold tp25
 rw[Q2,Q2]
 have e:=Ext.refl hG
 have o1:Ym H G (H.push (.cells (Value.agg #[u8n ty,s,u8n color]).cells 48)) H.size (.cells #[u8n ty,s,u8n color] 48 (0,0)):=Ym.fresh e _
 have e:=e.push (.cells (Value.agg #[u8n ty,s,u8n color]).cells 48)
 generalize H.push (.cells (Value.agg #[u8n ty,s,u8n color]).cells 48)=H1 at *
 have hne:=o1.ne
 have o2:=Ym.fresh e (.cells z26 26)
 have o1:=o1.push (.cells z26 26)
 have e:=e.push (.cells z26 26)
 generalize H1.push (.cells z26 26)=H2 at *
 rw[Qo,Qj ((Qi o1.get).trans (show (#[u8n ty,s,u8n color]:Array Value)[0]?=some (u8n ty) from rfl)),Qo,Qj ((Qi o1.get).trans (show (#[u8n ty,s,u8n color]:Array Value)[1]?=some s from rfl)),Qo,Qj ((Qi o1.get).trans (show (#[u8n ty,s,u8n color]:Array Value)[2]?=some (u8n color) from rfl))]
 refine mja_ok e.inn hs hK hL hl ?_
 intro G3 H3 v' e3 hv'
 refine Q3 e3.keep.ext ?_
 have e:=e.trans e3
 have o2:=o2.ext e3
 have hv2:=hv'
 obtain ⟨its,hsl,_⟩:=hv'
 obtain ⟨a,n,c,rfl⟩:∃a n c,v'= .slice a n c:=by
  rcases hsl.2 with ⟨a,c,h,_⟩|⟨b,o,c,_,_,_,h,_⟩
  ·exact ⟨_,_,_,h⟩
  ·exact ⟨_,_,_,h⟩
 have hf:ZG z26.toList [(0,1,u8n ty),(1,1,.slice a n c),(2,1,u8n color)]=some [u8n ty,.slice a n c,u8n color]:=rfl
 unfold QH
 simp only[hf]
 rw[Yn (n:=3) (c':=[u8n ty,.slice a n c,u8n color].toArray) o2.get rfl rfl (by decide) (by intro v hv;simp at hv;rcases hv with rfl|rfl|rfl<;>rfl)]
 have e:=e.set o2.out o2.new (.cells [u8n ty,.slice a n c,u8n color].toArray 26 (0,0))
 have o2:=o2.set (.cells [u8n ty,.slice a n c,u8n color].toArray 26 (0,0))
 rw[YL (n:=3) (vs:=[u8n ty,.slice a n c,u8n color]) (by rw[Q5 o2.get 3 (Nat.le_refl 3)];rfl)]
 exact hR _ _ a n c e hv2
theorem QaJ.sl {F:Cut} {gs:List GM} {v:Value} (h:QaJ F gs v):∃a n c,v= .slice a n c:=by
 obtain ⟨its,hsl,_⟩:=h
 rcases hsl.2 with ⟨a,c,h,_⟩|⟨b,o,c,_,_,_,h,_⟩
 ·exact ⟨_,_,_,h⟩
 ·exact ⟨_,_,_,h⟩
theorem SlV.sl {F:Cut} {es:Nat} {items:List (List Value)} {v:Value} (h:SlV F es v items):∃a n c,v= .slice a n c:=by
 rcases h.2 with ⟨a,c,h,_⟩|⟨b,o,c,_,_,_,h,_⟩
 ·exact ⟨_,_,_,h⟩
 ·exact ⟨_,_,_,h⟩
theorem slV {F:Cut} {es:Nat} {items:List (List Value)} {Q:Value->Prop} (h:∀a n c,SlV F es (.slice a n c) items->Q (.slice a n c)):∀v,SlV F es v items->Q v:=fun v w=>by
 obtain ⟨a,n,c,rfl⟩:=SlV.sl w
 exact h a n c w
theorem slE {G:Cut} {H:Qf} {P:Cut->Value->Prop} {Q:Kn} (hsl:∀F v,P F v->∃a n c,v= .slice a n c) (h:∀G' H' a n c,Ext G H G' H'->P G' (.slice a n c)->Q (.slice a n c) H'):∀G' H' v,Ext G H G' H'->P G' v->Q v H':=fun G' H' v e w=>by
 obtain ⟨a,n,c,rfl⟩:=hsl G' v w
 exact h G' H' a n c e w
theorem fill_to (d:ZT) (apos:Option Addr) (npos cpos:Nat) (atest:Option Addr) (ntest ctest:Nat) (atest4:Option Addr) (ntest4 ctest4:Nat) (astrings:Option Addr) (nstrings cstrings:Nat) (atables:Option Addr) (ntables ctables:Nat) (aenemy:Option Addr) (nenemy cenemy:Nat) (aempty:Option Addr) (nempty cempty:Nat) (abools:Option Addr) (nbools cbools:Nat) (astrings2:Option Addr) (nstrings2 cstrings2:Nat) (aabil:Option Addr) (nabil cabil:Nat) (atest5:Option Addr) (ntest5 ctest5:Nat) (alongs:Option Addr) (nlongs clongs:Nat) (adoubles:Option Addr) (ndoubles cdoubles:Nat) (arefs:Option Addr) (nrefs crefs:Nat) (aweak:Option Addr) (nweak cweak:Nat) (astrong:Option Addr) (nstrong cstrong:Nat) (acoOwnings:Option Addr) (ncoOwnings ccoOwnings:Nat) (anonOwnings:Option Addr) (nnonOwnings cnonOwnings:Nat) (auniq:Option Addr) (nuniq cuniq:Nat) (aamb:Option Addr) (namb camb:Nat):ZG z53.toList [(0,1,.slice apos npos cpos),(1,1,Qce d.mana),(2,1,Qce d.hp),(3,1,YM d.name),(4,1,YM d.inventory),(5,1,u8n d.color),(6,3,.agg #[u8n d.testTy,.slice atest ntest ctest,u8n d.testColor]),(9,1,.slice atest4 ntest4 ctest4),(10,1,.slice astrings nstrings cstrings),(11,1,.slice atables ntables ctables),(12,1,.slice aenemy nenemy cenemy),(13,1,YM d.nested),(14,1,.slice aempty nempty cempty),(15,1,.bool d.bool),(16,1,Qgn d.s32),(17,1,Z4 d.u32),(18,1,QdW d.s64),(19,1,Zc d.u64),(20,1,Qgn d.s32a),(21,1,Z4 d.u32a),(22,1,QdW d.s64a),(23,1,Zc d.u64a),(24,1,.slice abools nbools cbools),(25,1,Z4 d.f),(26,1,Z4 d.f2),(27,1,Z4 d.f3),(28,1,.slice astrings2 nstrings2 cstrings2),(29,1,.slice aabil nabil cabil),(30,1,YM d.flex),(31,1,.slice atest5 ntest5 ctest5),(32,1,.slice alongs nlongs clongs),(33,1,.slice adoubles ndoubles cdoubles),(34,1,.bool d.parent),(35,1,.slice arefs nrefs crefs),(36,1,Zc d.singleWeak),(37,1,.slice aweak nweak cweak),(38,1,.slice astrong nstrong cstrong),(39,1,Zc d.coOwning),(40,1,.slice acoOwnings ncoOwnings ccoOwnings),(41,1,Zc d.nonOwning),(42,1,.slice anonOwnings nnonOwnings cnonOwnings),(43,3,.agg #[u8n d.uniqTy,.slice auniq nuniq cuniq,u8n d.uniqColor]),(46,3,.agg #[u8n d.ambTy,.slice aamb namb camb,u8n d.ambColor]),(49,1,YM d.enums),(50,1,i8V d.signedEnum)]=some (QC d ⟨.slice apos npos cpos,.slice atest ntest ctest,.slice atest4 ntest4 ctest4,.slice astrings nstrings cstrings,.slice atables ntables ctables,.slice aenemy nenemy cenemy,.slice aempty nempty cempty,.slice abools nbools cbools,.slice astrings2 nstrings2 cstrings2,.slice aabil nabil cabil,.slice atest5 ntest5 ctest5,.slice alongs nlongs clongs,.slice adoubles ndoubles cdoubles,.slice arefs nrefs crefs,.slice aweak nweak cweak,.slice astrong nstrong cstrong,.slice acoOwnings ncoOwnings ccoOwnings,.slice anonOwnings nnonOwnings cnonOwnings,.slice auniq nuniq cuniq,.slice aamb namb camb⟩):=by kernel_rfl
theorem fill_of (d:ZT) (apos:Option Addr) (npos cpos:Nat) (atest:Option Addr) (ntest ctest:Nat) (atest4:Option Addr) (ntest4 ctest4:Nat) (astrings:Option Addr) (nstrings cstrings:Nat) (atables:Option Addr) (ntables ctables:Nat) (aenemy:Option Addr) (nenemy cenemy:Nat) (aempty:Option Addr) (nempty cempty:Nat) (abools:Option Addr) (nbools cbools:Nat) (astrings2:Option Addr) (nstrings2 cstrings2:Nat) (aabil:Option Addr) (nabil cabil:Nat) (atest5:Option Addr) (ntest5 ctest5:Nat) (alongs:Option Addr) (nlongs clongs:Nat) (adoubles:Option Addr) (ndoubles cdoubles:Nat) (arefs:Option Addr) (nrefs crefs:Nat) (aweak:Option Addr) (nweak cweak:Nat) (astrong:Option Addr) (nstrong cstrong:Nat) (acoOwnings:Option Addr) (ncoOwnings ccoOwnings:Nat) (anonOwnings:Option Addr) (nnonOwnings cnonOwnings:Nat) (auniq:Option Addr) (nuniq cuniq:Nat) (aamb:Option Addr) (namb camb:Nat):ZG z38.toList [(0,1,.slice apos npos cpos),(1,1,Qce d.mana),(2,1,Qce d.hp),(3,1,YM d.name),(4,1,YM d.inventory),(5,1,u8n d.color),(6,3,.agg #[u8n d.testTy,.slice atest ntest ctest,u8n d.testColor]),(9,1,.slice atest4 ntest4 ctest4),(10,1,.slice astrings nstrings cstrings),(11,1,.slice atables ntables ctables),(12,1,.slice aenemy nenemy cenemy),(13,1,YM d.nested),(14,1,.slice aempty nempty cempty),(15,1,.bool d.bool),(16,1,Qgn d.s32),(17,1,Z4 d.u32),(18,1,QdW d.s64),(19,1,Zc d.u64),(20,1,Qgn d.s32a),(21,1,Z4 d.u32a),(22,1,QdW d.s64a),(23,1,Zc d.u64a),(24,1,.slice abools nbools cbools),(25,1,Z4 d.f),(26,1,Z4 d.f2),(27,1,Z4 d.f3),(28,1,.slice astrings2 nstrings2 cstrings2),(29,1,.slice aabil nabil cabil),(30,1,YM d.flex),(31,1,.slice atest5 ntest5 ctest5),(32,1,.slice alongs nlongs clongs),(33,1,.slice adoubles ndoubles cdoubles),(34,1,.bool d.parent),(35,1,.slice arefs nrefs crefs),(36,1,Zc d.singleWeak),(37,1,.slice aweak nweak cweak),(38,1,.slice astrong nstrong cstrong),(39,1,Zc d.coOwning),(40,1,.slice acoOwnings ncoOwnings ccoOwnings),(41,1,Zc d.nonOwning),(42,1,.slice anonOwnings nnonOwnings cnonOwnings),(43,3,.agg #[u8n d.uniqTy,.slice auniq nuniq cuniq,u8n d.uniqColor]),(46,3,.agg #[u8n d.ambTy,.slice aamb namb camb,u8n d.ambColor]),(49,1,YM d.enums),(50,1,i8V d.signedEnum)]=some (QC d ⟨.slice apos npos cpos,.slice atest ntest ctest,.slice atest4 ntest4 ctest4,.slice astrings nstrings cstrings,.slice atables ntables ctables,.slice aenemy nenemy cenemy,.slice aempty nempty cempty,.slice abools nbools cbools,.slice astrings2 nstrings2 cstrings2,.slice aabil nabil cabil,.slice atest5 ntest5 ctest5,.slice alongs nlongs clongs,.slice adoubles ndoubles cdoubles,.slice arefs nrefs crefs,.slice aweak nweak cweak,.slice astrong nstrong cstrong,.slice acoOwnings ncoOwnings ccoOwnings,.slice anonOwnings nnonOwnings cnonOwnings,.slice auniq nuniq cuniq,.slice aamb namb camb⟩):=by kernel_rfl
theorem ldn_ok {H0:Qf} {G:Cut} {H:Qf} {b:Nat} {cells:List Value} {t:TypeId} {fr:Nat×Nat} (o:Ym H0 G H b (.cells cells.toArray t fr)) {i n:Nat} {vs:List Value} (hi:(cells.drop i).take n=vs) (hl:i+n<=cells.length) {k:Value->Prop} (hk:k (.agg vs.toArray)):Qh (ptr b) i fun a=>LdN H n a k:=by
 rw[Qo,YL (n:=n) (vs:=vs) (by rw[Q5 o.get n (by simpa using hl),Nat.add_zero];simpa using hi)]
 exact hk
set_option maxHeartbeats 1000000 in
theorem ToStep {d:ZT} {pos:List Qaj} {empty:List Qaa} {tables enemy test uniq amb:List GM} (hT:∀k∈tables,ToOk k) (hE:∀k∈enemy,ToOk k) (hU:∀k∈test,ToOk k) (hQ:∀k∈uniq,ToOk k) (hA:∀k∈amb,ToOk k):ToOk (.mk d pos empty tables enemy test uniq amb):=by
 intro G H cells R hG hv hlm hR
 rw[ZV]at hv
 obtain ⟨c,rfl,g,wT,wE,wU,wQ,wA⟩:=hv
 rw[LenM]at hlm
 obtain ⟨⟨l0,l1,l2,l3,l4,l5,l6,l7,l8,l9⟩,_,mT,mE,mU,mQ,mA⟩:=hlm
 apply w9
 unfold s9
 rw[Q2,Q2]
 have e:=Ext.refl hG
 have o1:Ym H G (H.push (.cells (Value.agg (QC d c).toArray).cells 38)) H.size (.cells (QC d c).toArray 38 (0,0)):=Ym.fresh e _
 have e:=e.push (.cells (Value.agg (QC d c).toArray).cells 38)
 generalize H.push (.cells (Value.agg (QC d c).toArray).cells 38)=H1 at *
 have o2:=Ym.fresh e (.cells z53 53)
 have o1:=o1.push (.cells z53 53)
 have e:=e.push (.cells z53 53)
 have l0':=Cut.le_refl G
 generalize H1.push (.cells z53 53)=H2 at *
 refine Qy o1 (i:=0) (v:=c.pos) rfl ?_
 refine Qy o1 (i:=1) (v:=Qce d.mana) rfl ?_
 refine Qy o1 (i:=2) (v:=Qce d.hp) rfl ?_
 refine Qy o1 (i:=3) (v:=YM d.name) rfl ?_
 refine Qy o1 (i:=4) (v:=YM d.inventory) rfl ?_
 refine Qy o1 (i:=5) (v:=u8n d.color) rfl ?_
 refine ldn_ok o1 (i:=6) (n:=3) (vs:=[u8n d.testTy,c.test,u8n d.testColor]) rfl (by rw[Y7];decide) ?_
 refine Qy o1 (i:=9) (v:=c.test4) rfl ?_
 refine Qy o1 (i:=10) (v:=c.strings) rfl ?_
 refine Qy o1 (i:=11) (v:=c.tables) rfl ?_
 refine Qy o1 (i:=12) (v:=c.enemy) rfl ?_
 refine Qy o1 (i:=13) (v:=YM d.nested) rfl ?_
 refine Qy o1 (i:=14) (v:=c.empty) rfl ?_
 refine Qy o1 (i:=15) (v:=.bool d.bool) rfl ?_
 refine Qy o1 (i:=16) (v:=Qgn d.s32) rfl ?_
 refine Qy o1 (i:=17) (v:=Z4 d.u32) rfl ?_
 refine Qy o1 (i:=18) (v:=QdW d.s64) rfl ?_
 refine Qy o1 (i:=19) (v:=Zc d.u64) rfl ?_
 refine Qy o1 (i:=20) (v:=Qgn d.s32a) rfl ?_
 refine Qy o1 (i:=21) (v:=Z4 d.u32a) rfl ?_
 refine Qy o1 (i:=22) (v:=QdW d.s64a) rfl ?_
 refine Qy o1 (i:=23) (v:=Zc d.u64a) rfl ?_
 refine Qy o1 (i:=24) (v:=c.bools) rfl ?_
 refine Qy o1 (i:=25) (v:=Z4 d.f) rfl ?_
 refine Qy o1 (i:=26) (v:=Z4 d.f2) rfl ?_
 refine Qy o1 (i:=27) (v:=Z4 d.f3) rfl ?_
 refine Qy o1 (i:=28) (v:=c.strings2) rfl ?_
 refine Qy o1 (i:=29) (v:=c.abil) rfl ?_
 refine Qy o1 (i:=30) (v:=YM d.flex) rfl ?_
 refine Qy o1 (i:=31) (v:=c.test5) rfl ?_
 refine Qy o1 (i:=32) (v:=c.longs) rfl ?_
 refine Qy o1 (i:=33) (v:=c.doubles) rfl ?_
 refine Qy o1 (i:=34) (v:=.bool d.parent) rfl ?_
 refine Qy o1 (i:=35) (v:=c.refs) rfl ?_
 refine Qy o1 (i:=36) (v:=Zc d.singleWeak) rfl ?_
 refine Qy o1 (i:=37) (v:=c.weak) rfl ?_
 refine Qy o1 (i:=38) (v:=c.strong) rfl ?_
 refine Qy o1 (i:=39) (v:=Zc d.coOwning) rfl ?_
 refine Qy o1 (i:=40) (v:=c.coOwnings) rfl ?_
 refine Qy o1 (i:=41) (v:=Zc d.nonOwning) rfl ?_
 refine Qy o1 (i:=42) (v:=c.nonOwnings) rfl ?_
 refine ldn_ok o1 (i:=43) (n:=3) (vs:=[u8n d.uniqTy,c.uniq,u8n d.uniqColor]) rfl (by rw[Y7];decide) ?_
 refine ldn_ok o1 (i:=46) (n:=3) (vs:=[u8n d.ambTy,c.amb,u8n d.ambColor]) rfl (by rw[Y7];decide) ?_
 refine Qy o1 (i:=49) (v:=YM d.enums) rfl ?_
 refine Qy o1 (i:=50) (v:=i8V d.signedEnum) rfl ?_
 refine mib_ok e.inn (g.pos.mono e.le) l0 (slE (P:=fun F v=>SlV F 7 v (pos.map Zk)) (fun _ _ h=>SlV.sl h) ?_)
 intro Gpos Hpos apos npos cpos e2 wpos
 refine Q3 e2.keep.ext ?_
 have e:=e.trans e2
 have o2:=o2.ext e2
 have lepos:=e2.le
 refine ZR (by kernel_rfl) ?_
 refine To_choice e.inn (QaJ.mono e.le wU) hU mU l7 ?_
 intro Gtest Htest atest ntest ctest e2 wtest
 refine Q3 e2.keep.ext ?_
 have e:=e.trans e2
 have o2:=o2.ext e2
 have letest:=e2.le
 refine mic_ok e.inn (g.test4.mono e.le) l2 (slE (P:=fun F v=>SlV F 2 v (d.test4.map Yv)) (fun _ _ h=>SlV.sl h) ?_)
 intro Gtest4 Htest4 atest4 ntest4 ctest4 e2 wtest4
 refine Q3 e2.keep.ext ?_
 have e:=e.trans e2
 have o2:=o2.ext e2
 have letest4:=e2.le
 refine mn_string (g.strings.mono e.le) (slV ?_)
 intro astrings nstrings cstrings wstrings
 rw[Qa]
 refine mia_ok e.inn (QaJ.mono e.le wT) hT mT l5 (slE (P:=fun F v=>QaJ F tables v) (fun _ _ h=>QaJ.sl h) ?_)
 intro Gtables Htables atables ntables ctables e2 wtables
 refine Q3 e2.keep.ext ?_
 have e:=e.trans e2
 have o2:=o2.ext e2
 have letables:=e2.le
 refine mia_ok e.inn (QaJ.mono e.le wE) hE mE l6 (slE (P:=fun F v=>QaJ F enemy v) (fun _ _ h=>QaJ.sl h) ?_)
 intro Genemy Henemy aenemy nenemy cenemy e2 wenemy
 refine Q3 e2.keep.ext ?_
 have e:=e.trans e2
 have o2:=o2.ext e2
 have leenemy:=e2.le
 refine mid_ok e.inn (g.empty.mono e.le) l1 (slE (P:=fun F v=>SlV F 3 v (empty.map YT)) (fun _ _ h=>SlV.sl h) ?_)
 intro Gempty Hempty aempty nempty cempty e2 wempty
 refine Q3 e2.keep.ext ?_
 have e:=e.trans e2
 have o2:=o2.ext e2
 have leempty:=e2.le
 refine mn_bool (g.bools.mono e.le) (slV ?_)
 intro abools nbools cbools wbools
 rw[Qa]
 refine mn_string (g.strings2.mono e.le) (slV ?_)
 intro astrings2 nstrings2 cstrings2 wstrings2
 rw[Qa]
 refine mie_ok e.inn (g.abil.mono e.le) l3 (slE (P:=fun F v=>SlV F 2 v (d.abilities.map Z7)) (fun _ _ h=>SlV.sl h) ?_)
 intro Gabil Habil aabil nabil cabil e2 wabil
 refine Q3 e2.keep.ext ?_
 have e:=e.trans e2
 have o2:=o2.ext e2
 have leabil:=e2.le
 refine mic2_ok e.inn (g.test5.mono e.le) l4 (slE (P:=fun F v=>SlV F 2 v (d.test5.map Yv)) (fun _ _ h=>SlV.sl h) ?_)
 intro Gtest5 Htest5 atest5 ntest5 ctest5 e2 wtest5
 refine Q3 e2.keep.ext ?_
 have e:=e.trans e2
 have o2:=o2.ext e2
 have letest5:=e2.le
 refine mn_int64 (g.longs.mono e.le) (slV ?_)
 intro alongs nlongs clongs wlongs
 rw[Qa]
 refine QeX (g.doubles.mono e.le) (slV ?_)
 intro adoubles ndoubles cdoubles wdoubles
 rw[Qa]
 refine QeX (g.refs.mono e.le) (slV ?_)
 intro arefs nrefs crefs wrefs
 rw[Qa]
 refine QeX (g.weak.mono e.le) (slV ?_)
 intro aweak nweak cweak wweak
 rw[Qa]
 refine QeX (g.strong.mono e.le) (slV ?_)
 intro astrong nstrong cstrong wstrong
 rw[Qa]
 refine QeX (g.coOwnings.mono e.le) (slV ?_)
 intro acoOwnings ncoOwnings ccoOwnings wcoOwnings
 rw[Qa]
 refine QeX (g.nonOwnings.mono e.le) (slV ?_)
 intro anonOwnings nnonOwnings cnonOwnings wnonOwnings
 rw[Qa]
 refine ZR (by kernel_rfl) ?_
 refine To_choice e.inn (QaJ.mono e.le wQ) hQ mQ l8 ?_
 intro Guniq Huniq auniq nuniq cuniq e2 wuniq
 refine Q3 e2.keep.ext ?_
 have e:=e.trans e2
 have o2:=o2.ext e2
 have leuniq:=e2.le
 refine ZR (by kernel_rfl) ?_
 refine To_choice e.inn (QaJ.mono e.le wA) hA mA l9 ?_
 intro Gamb Hamb aamb namb camb e2 wamb
 refine Q3 e2.keep.ext ?_
 have e:=e.trans e2
 have o2:=o2.ext e2
 have leamb:=e2.le
 have hf:=fill_to d apos npos cpos atest ntest ctest atest4 ntest4 ctest4 astrings nstrings cstrings atables ntables ctables aenemy nenemy cenemy aempty nempty cempty abools nbools cbools astrings2 nstrings2 cstrings2 aabil nabil cabil atest5 ntest5 ctest5 alongs nlongs clongs adoubles ndoubles cdoubles arefs nrefs crefs aweak nweak cweak astrong nstrong cstrong acoOwnings ncoOwnings ccoOwnings anonOwnings nnonOwnings cnonOwnings auniq nuniq cuniq aamb namb camb
 unfold QH
 simp only[hf]
 have Lamb:=Cut.le_refl Gamb
 have Luniq:Guniq.le Gamb:=Cut.le_trans leamb Lamb
 have Ltest5:Gtest5.le Gamb:=Cut.le_trans leuniq Luniq
 have Labil:Gabil.le Gamb:=Cut.le_trans letest5 Ltest5
 have Lempty:Gempty.le Gamb:=Cut.le_trans leabil Labil
 have Lenemy:Genemy.le Gamb:=Cut.le_trans leempty Lempty
 have Ltables:Gtables.le Gamb:=Cut.le_trans leenemy Lenemy
 have Ltest4:Gtest4.le Gamb:=Cut.le_trans letables Ltables
 have Ltest:Gtest.le Gamb:=Cut.le_trans letest4 Ltest4
 have Lpos:Gpos.le Gamb:=Cut.le_trans letest Ltest
 have L0:G.le Gamb:=Cut.le_trans lepos Lpos
 have hval:ZV Gamb (.mk d pos empty tables enemy test uniq amb) (QC d ⟨.slice apos npos cpos,.slice atest ntest ctest,.slice atest4 ntest4 ctest4,.slice astrings nstrings cstrings,.slice atables ntables ctables,.slice aenemy nenemy cenemy,.slice aempty nempty cempty,.slice abools nbools cbools,.slice astrings2 nstrings2 cstrings2,.slice aabil nabil cabil,.slice atest5 ntest5 ctest5,.slice alongs nlongs clongs,.slice adoubles ndoubles cdoubles,.slice arefs nrefs crefs,.slice aweak nweak cweak,.slice astrong nstrong cstrong,.slice acoOwnings ncoOwnings ccoOwnings,.slice anonOwnings nnonOwnings cnonOwnings,.slice auniq nuniq cuniq,.slice aamb namb camb⟩):=by
  rw[ZV]
  exact ⟨_,rfl,⟨(wpos.mono Lpos),(wtest4.mono Ltest4),(wstrings.mono Ltest4),(wempty.mono Lempty),(wbools.mono Lempty),(wstrings2.mono Lempty),(wabil.mono Labil),(wtest5.mono Ltest5),(wlongs.mono Ltest5),(wdoubles.mono Ltest5),(wrefs.mono Ltest5),(wweak.mono Ltest5),(wstrong.mono Ltest5),(wcoOwnings.mono Ltest5),(wnonOwnings.mono Ltest5)⟩,(QaJ.mono Ltables wtables),(QaJ.mono Lenemy wenemy),(QaJ.mono Ltest wtest),(QaJ.mono Luniq wuniq),(QaJ.mono Lamb wamb)⟩
 rw[Yn (n:=51) (c':=(QC d ⟨.slice apos npos cpos,.slice atest ntest ctest,.slice atest4 ntest4 ctest4,.slice astrings nstrings cstrings,.slice atables ntables ctables,.slice aenemy nenemy cenemy,.slice aempty nempty cempty,.slice abools nbools cbools,.slice astrings2 nstrings2 cstrings2,.slice aabil nabil cabil,.slice atest5 ntest5 ctest5,.slice alongs nlongs clongs,.slice adoubles ndoubles cdoubles,.slice arefs nrefs crefs,.slice aweak nweak cweak,.slice astrong nstrong cstrong,.slice acoOwnings ncoOwnings ccoOwnings,.slice anonOwnings nnonOwnings cnonOwnings,.slice auniq nuniq cuniq,.slice aamb namb camb⟩).toArray) o2.get rfl rfl (by decide) (by simpa using ZV.one hval)]
 have e:=e.set o2.out o2.new (.cells (QC d ⟨.slice apos npos cpos,.slice atest ntest ctest,.slice atest4 ntest4 ctest4,.slice astrings nstrings cstrings,.slice atables ntables ctables,.slice aenemy nenemy cenemy,.slice aempty nempty cempty,.slice abools nbools cbools,.slice astrings2 nstrings2 cstrings2,.slice aabil nabil cabil,.slice atest5 ntest5 ctest5,.slice alongs nlongs clongs,.slice adoubles ndoubles cdoubles,.slice arefs nrefs crefs,.slice aweak nweak cweak,.slice astrong nstrong cstrong,.slice acoOwnings ncoOwnings ccoOwnings,.slice anonOwnings nnonOwnings cnonOwnings,.slice auniq nuniq cuniq,.slice aamb namb camb⟩).toArray 53 (0,0))
 have o2:=o2.set (.cells (QC d ⟨.slice apos npos cpos,.slice atest ntest ctest,.slice atest4 ntest4 ctest4,.slice astrings nstrings cstrings,.slice atables ntables ctables,.slice aenemy nenemy cenemy,.slice aempty nempty cempty,.slice abools nbools cbools,.slice astrings2 nstrings2 cstrings2,.slice aabil nabil cabil,.slice atest5 ntest5 ctest5,.slice alongs nlongs clongs,.slice adoubles ndoubles cdoubles,.slice arefs nrefs crefs,.slice aweak nweak cweak,.slice astrong nstrong cstrong,.slice acoOwnings ncoOwnings ccoOwnings,.slice anonOwnings nnonOwnings cnonOwnings,.slice auniq nuniq cuniq,.slice aamb namb camb⟩).toArray 53 (0,0))
 rw[YL (n:=51) (vs:=QC d ⟨.slice apos npos cpos,.slice atest ntest ctest,.slice atest4 ntest4 ctest4,.slice astrings nstrings cstrings,.slice atables ntables ctables,.slice aenemy nenemy cenemy,.slice aempty nempty cempty,.slice abools nbools cbools,.slice astrings2 nstrings2 cstrings2,.slice aabil nabil cabil,.slice atest5 ntest5 ctest5,.slice alongs nlongs clongs,.slice adoubles ndoubles cdoubles,.slice arefs nrefs crefs,.slice aweak nweak cweak,.slice astrong nstrong cstrong,.slice acoOwnings ncoOwnings ccoOwnings,.slice anonOwnings nnonOwnings cnonOwnings,.slice auniq nuniq cuniq,.slice aamb namb camb⟩) (by rw[Q5 o2.get 51 (Nat.le_refl 51)];rfl)]
 exact hR _ _ _ e hval
mutual
theorem To_all:∀g:GM,ToOk g
 |.mk d pos empty tables enemy test uniq amb=>ToStep (Qi9 tables) (Qi9 enemy) (Qi9 test) (Qi9 uniq) (Qi9 amb)
theorem Qi9:∀gs:List GM,∀k∈gs,ToOk k
 |[],k,h=>by simp at h
 |g::gs,k,h=>by
  rcases List.mem_cons.1 h with h|h
  ·rw[h];exact To_all g
  ·exact Qi9 gs k h
end
set_option maxHeartbeats 1000000 in
theorem OfStep {d:ZT} {pos:List Qaj} {empty:List Qaa} {tables enemy test uniq amb:List GM} (hT:∀k∈tables,OfOk k) (hE:∀k∈enemy,OfOk k) (hU:∀k∈test,OfOk k) (hQ:∀k∈uniq,OfOk k) (hA:∀k∈amb,OfOk k):OfOk (.mk d pos empty tables enemy test uniq amb):=by
 intro G H cells R hG hv hlm hR
 rw[ZV]at hv
 obtain ⟨c,rfl,g,wT,wE,wU,wQ,wA⟩:=hv
 obtain ⟨astrings,nstrings,cstrings,hstrings⟩:=SlV.sl g.strings
 obtain ⟨abools,nbools,cbools,hbools⟩:=SlV.sl g.bools
 obtain ⟨astrings2,nstrings2,cstrings2,hstrings2⟩:=SlV.sl g.strings2
 obtain ⟨alongs,nlongs,clongs,hlongs⟩:=SlV.sl g.longs
 obtain ⟨adoubles,ndoubles,cdoubles,hdoubles⟩:=SlV.sl g.doubles
 obtain ⟨arefs,nrefs,crefs,hrefs⟩:=SlV.sl g.refs
 obtain ⟨aweak,nweak,cweak,hweak⟩:=SlV.sl g.weak
 obtain ⟨astrong,nstrong,cstrong,hstrong⟩:=SlV.sl g.strong
 obtain ⟨acoOwnings,ncoOwnings,ccoOwnings,hcoOwnings⟩:=SlV.sl g.coOwnings
 obtain ⟨anonOwnings,nnonOwnings,cnonOwnings,hnonOwnings⟩:=SlV.sl g.nonOwnings
 rw[LenM]at hlm
 obtain ⟨⟨l0,l1,l2,l3,l4,l5,l6,l7,l8,l9⟩,_,mT,mE,mU,mQ,mA⟩:=hlm
 have gstrings:=g.strings
 have gbools:=g.bools
 have gstrings2:=g.strings2
 have glongs:=g.longs
 have gdoubles:=g.doubles
 have grefs:=g.refs
 have gweak:=g.weak
 have gstrong:=g.strong
 have gcoOwnings:=g.coOwnings
 have gnonOwnings:=g.nonOwnings
 apply w14
 unfold s14
 rw[Q2,Q2]
 have e:=Ext.refl hG
 have o1:Ym H G (H.push (.cells (Value.agg (QC d c).toArray).cells 53)) H.size (.cells (QC d c).toArray 53 (0,0)):=Ym.fresh e _
 have e:=e.push (.cells (Value.agg (QC d c).toArray).cells 53)
 generalize H.push (.cells (Value.agg (QC d c).toArray).cells 53)=H1 at *
 have o2:=Ym.fresh e (.cells z38 38)
 have o1:=o1.push (.cells z38 38)
 have e:=e.push (.cells z38 38)
 have l0':=Cut.le_refl G
 generalize H1.push (.cells z38 38)=H2 at *
 refine Qy o1 (i:=0) (v:=c.pos) rfl ?_
 refine Qy o1 (i:=1) (v:=Qce d.mana) rfl ?_
 refine Qy o1 (i:=2) (v:=Qce d.hp) rfl ?_
 refine Qy o1 (i:=3) (v:=YM d.name) rfl ?_
 refine Qy o1 (i:=4) (v:=YM d.inventory) rfl ?_
 refine Qy o1 (i:=5) (v:=u8n d.color) rfl ?_
 refine ldn_ok o1 (i:=6) (n:=3) (vs:=[u8n d.testTy,c.test,u8n d.testColor]) rfl (by rw[Y7];decide) ?_
 refine Qy o1 (i:=9) (v:=c.test4) rfl ?_
 refine Qy o1 (i:=10) (v:=c.strings) rfl ?_
 refine Qy o1 (i:=11) (v:=c.tables) rfl ?_
 refine Qy o1 (i:=12) (v:=c.enemy) rfl ?_
 refine Qy o1 (i:=13) (v:=YM d.nested) rfl ?_
 refine Qy o1 (i:=14) (v:=c.empty) rfl ?_
 refine Qy o1 (i:=15) (v:=.bool d.bool) rfl ?_
 refine Qy o1 (i:=16) (v:=Qgn d.s32) rfl ?_
 refine Qy o1 (i:=17) (v:=Z4 d.u32) rfl ?_
 refine Qy o1 (i:=18) (v:=QdW d.s64) rfl ?_
 refine Qy o1 (i:=19) (v:=Zc d.u64) rfl ?_
 refine Qy o1 (i:=20) (v:=Qgn d.s32a) rfl ?_
 refine Qy o1 (i:=21) (v:=Z4 d.u32a) rfl ?_
 refine Qy o1 (i:=22) (v:=QdW d.s64a) rfl ?_
 refine Qy o1 (i:=23) (v:=Zc d.u64a) rfl ?_
 refine Qy o1 (i:=24) (v:=c.bools) rfl ?_
 refine Qy o1 (i:=25) (v:=Z4 d.f) rfl ?_
 refine Qy o1 (i:=26) (v:=Z4 d.f2) rfl ?_
 refine Qy o1 (i:=27) (v:=Z4 d.f3) rfl ?_
 refine Qy o1 (i:=28) (v:=c.strings2) rfl ?_
 refine Qy o1 (i:=29) (v:=c.abil) rfl ?_
 refine Qy o1 (i:=30) (v:=YM d.flex) rfl ?_
 refine Qy o1 (i:=31) (v:=c.test5) rfl ?_
 refine Qy o1 (i:=32) (v:=c.longs) rfl ?_
 refine Qy o1 (i:=33) (v:=c.doubles) rfl ?_
 refine Qy o1 (i:=34) (v:=.bool d.parent) rfl ?_
 refine Qy o1 (i:=35) (v:=c.refs) rfl ?_
 refine Qy o1 (i:=36) (v:=Zc d.singleWeak) rfl ?_
 refine Qy o1 (i:=37) (v:=c.weak) rfl ?_
 refine Qy o1 (i:=38) (v:=c.strong) rfl ?_
 refine Qy o1 (i:=39) (v:=Zc d.coOwning) rfl ?_
 refine Qy o1 (i:=40) (v:=c.coOwnings) rfl ?_
 refine Qy o1 (i:=41) (v:=Zc d.nonOwning) rfl ?_
 refine Qy o1 (i:=42) (v:=c.nonOwnings) rfl ?_
 refine ldn_ok o1 (i:=43) (n:=3) (vs:=[u8n d.uniqTy,c.uniq,u8n d.uniqColor]) rfl (by rw[Y7];decide) ?_
 refine ldn_ok o1 (i:=46) (n:=3) (vs:=[u8n d.ambTy,c.amb,u8n d.ambColor]) rfl (by rw[Y7];decide) ?_
 refine Qy o1 (i:=49) (v:=YM d.enums) rfl ?_
 refine Qy o1 (i:=50) (v:=i8V d.signedEnum) rfl ?_
 refine mjb_ok e.inn (g.pos.mono e.le) l0 (slE (P:=fun F v=>SlV F 7 v (pos.map Zk)) (fun _ _ h=>SlV.sl h) ?_)
 intro Gpos Hpos apos npos cpos e2 wpos
 refine Q3 e2.keep.ext ?_
 have e:=e.trans e2
 have o2:=o2.ext e2
 have lepos:=e2.le
 refine ZR (by kernel_rfl) ?_
 refine Of_choice e.inn (QaJ.mono e.le wU) hU mU l7 ?_
 intro Gtest Htest atest ntest ctest e2 wtest
 refine Q3 e2.keep.ext ?_
 have e:=e.trans e2
 have o2:=o2.ext e2
 have letest:=e2.le
 refine mjc_ok e.inn (g.test4.mono e.le) l2 (slE (P:=fun F v=>SlV F 2 v (d.test4.map Yv)) (fun _ _ h=>SlV.sl h) ?_)
 intro Gtest4 Htest4 atest4 ntest4 ctest4 e2 wtest4
 refine Q3 e2.keep.ext ?_
 have e:=e.trans e2
 have o2:=o2.ext e2
 have letest4:=e2.le
 refine mja_ok e.inn (QaJ.mono e.le wT) hT mT l5 (slE (P:=fun F v=>QaJ F tables v) (fun _ _ h=>QaJ.sl h) ?_)
 intro Gtables Htables atables ntables ctables e2 wtables
 refine Q3 e2.keep.ext ?_
 have e:=e.trans e2
 have o2:=o2.ext e2
 have letables:=e2.le
 refine mja_ok e.inn (QaJ.mono e.le wE) hE mE l6 (slE (P:=fun F v=>QaJ F enemy v) (fun _ _ h=>QaJ.sl h) ?_)
 intro Genemy Henemy aenemy nenemy cenemy e2 wenemy
 refine Q3 e2.keep.ext ?_
 have e:=e.trans e2
 have o2:=o2.ext e2
 have leenemy:=e2.le
 refine mjd_ok e.inn (g.empty.mono e.le) l1 (slE (P:=fun F v=>SlV F 3 v (empty.map YT)) (fun _ _ h=>SlV.sl h) ?_)
 intro Gempty Hempty aempty nempty cempty e2 wempty
 refine Q3 e2.keep.ext ?_
 have e:=e.trans e2
 have o2:=o2.ext e2
 have leempty:=e2.le
 refine mje_ok e.inn (g.abil.mono e.le) l3 (slE (P:=fun F v=>SlV F 2 v (d.abilities.map Z7)) (fun _ _ h=>SlV.sl h) ?_)
 intro Gabil Habil aabil nabil cabil e2 wabil
 refine Q3 e2.keep.ext ?_
 have e:=e.trans e2
 have o2:=o2.ext e2
 have leabil:=e2.le
 refine mjc2_ok e.inn (g.test5.mono e.le) l4 (slE (P:=fun F v=>SlV F 2 v (d.test5.map Yv)) (fun _ _ h=>SlV.sl h) ?_)
 intro Gtest5 Htest5 atest5 ntest5 ctest5 e2 wtest5
 refine Q3 e2.keep.ext ?_
 have e:=e.trans e2
 have o2:=o2.ext e2
 have letest5:=e2.le
 refine ZR (by kernel_rfl) ?_
 refine Of_choice e.inn (QaJ.mono e.le wQ) hQ mQ l8 ?_
 intro Guniq Huniq auniq nuniq cuniq e2 wuniq
 refine Q3 e2.keep.ext ?_
 have e:=e.trans e2
 have o2:=o2.ext e2
 have leuniq:=e2.le
 refine ZR (by kernel_rfl) ?_
 refine Of_choice e.inn (QaJ.mono e.le wA) hA mA l9 ?_
 intro Gamb Hamb aamb namb camb e2 wamb
 refine Q3 e2.keep.ext ?_
 have e:=e.trans e2
 have o2:=o2.ext e2
 have leamb:=e2.le
 rw[hstrings]at gstrings
 rw[hbools]at gbools
 rw[hstrings2]at gstrings2
 rw[hlongs]at glongs
 rw[hdoubles]at gdoubles
 rw[hrefs]at grefs
 rw[hweak]at gweak
 rw[hstrong]at gstrong
 rw[hcoOwnings]at gcoOwnings
 rw[hnonOwnings]at gnonOwnings
 simp only[hstrings,hbools,hstrings2,hlongs,hdoubles,hrefs,hweak,hstrong,hcoOwnings,hnonOwnings]
 have hf:=fill_of d apos npos cpos atest ntest ctest atest4 ntest4 ctest4 astrings nstrings cstrings atables ntables ctables aenemy nenemy cenemy aempty nempty cempty abools nbools cbools astrings2 nstrings2 cstrings2 aabil nabil cabil atest5 ntest5 ctest5 alongs nlongs clongs adoubles ndoubles cdoubles arefs nrefs crefs aweak nweak cweak astrong nstrong cstrong acoOwnings ncoOwnings ccoOwnings anonOwnings nnonOwnings cnonOwnings auniq nuniq cuniq aamb namb camb
 unfold QH
 simp only[hf]
 have Lamb:=Cut.le_refl Gamb
 have Luniq:Guniq.le Gamb:=Cut.le_trans leamb Lamb
 have Ltest5:Gtest5.le Gamb:=Cut.le_trans leuniq Luniq
 have Labil:Gabil.le Gamb:=Cut.le_trans letest5 Ltest5
 have Lempty:Gempty.le Gamb:=Cut.le_trans leabil Labil
 have Lenemy:Genemy.le Gamb:=Cut.le_trans leempty Lempty
 have Ltables:Gtables.le Gamb:=Cut.le_trans leenemy Lenemy
 have Ltest4:Gtest4.le Gamb:=Cut.le_trans letables Ltables
 have Ltest:Gtest.le Gamb:=Cut.le_trans letest4 Ltest4
 have Lpos:Gpos.le Gamb:=Cut.le_trans letest Ltest
 have L0:G.le Gamb:=Cut.le_trans lepos Lpos
 have hval:ZV Gamb (.mk d pos empty tables enemy test uniq amb) (QC d ⟨.slice apos npos cpos,.slice atest ntest ctest,.slice atest4 ntest4 ctest4,.slice astrings nstrings cstrings,.slice atables ntables ctables,.slice aenemy nenemy cenemy,.slice aempty nempty cempty,.slice abools nbools cbools,.slice astrings2 nstrings2 cstrings2,.slice aabil nabil cabil,.slice atest5 ntest5 ctest5,.slice alongs nlongs clongs,.slice adoubles ndoubles cdoubles,.slice arefs nrefs crefs,.slice aweak nweak cweak,.slice astrong nstrong cstrong,.slice acoOwnings ncoOwnings ccoOwnings,.slice anonOwnings nnonOwnings cnonOwnings,.slice auniq nuniq cuniq,.slice aamb namb camb⟩):=by
  rw[ZV]
  exact ⟨_,rfl,⟨(wpos.mono Lpos),(wtest4.mono Ltest4),(gstrings.mono L0),(wempty.mono Lempty),(gbools.mono L0),(gstrings2.mono L0),(wabil.mono Labil),(wtest5.mono Ltest5),(glongs.mono L0),(gdoubles.mono L0),(grefs.mono L0),(gweak.mono L0),(gstrong.mono L0),(gcoOwnings.mono L0),(gnonOwnings.mono L0)⟩,(QaJ.mono Ltables wtables),(QaJ.mono Lenemy wenemy),(QaJ.mono Ltest wtest),(QaJ.mono Luniq wuniq),(QaJ.mono Lamb wamb)⟩
 rw[Yn (n:=51) (c':=(QC d ⟨.slice apos npos cpos,.slice atest ntest ctest,.slice atest4 ntest4 ctest4,.slice astrings nstrings cstrings,.slice atables ntables ctables,.slice aenemy nenemy cenemy,.slice aempty nempty cempty,.slice abools nbools cbools,.slice astrings2 nstrings2 cstrings2,.slice aabil nabil cabil,.slice atest5 ntest5 ctest5,.slice alongs nlongs clongs,.slice adoubles ndoubles cdoubles,.slice arefs nrefs crefs,.slice aweak nweak cweak,.slice astrong nstrong cstrong,.slice acoOwnings ncoOwnings ccoOwnings,.slice anonOwnings nnonOwnings cnonOwnings,.slice auniq nuniq cuniq,.slice aamb namb camb⟩).toArray) o2.get rfl rfl (by decide) (by simpa using ZV.one hval)]
 have e:=e.set o2.out o2.new (.cells (QC d ⟨.slice apos npos cpos,.slice atest ntest ctest,.slice atest4 ntest4 ctest4,.slice astrings nstrings cstrings,.slice atables ntables ctables,.slice aenemy nenemy cenemy,.slice aempty nempty cempty,.slice abools nbools cbools,.slice astrings2 nstrings2 cstrings2,.slice aabil nabil cabil,.slice atest5 ntest5 ctest5,.slice alongs nlongs clongs,.slice adoubles ndoubles cdoubles,.slice arefs nrefs crefs,.slice aweak nweak cweak,.slice astrong nstrong cstrong,.slice acoOwnings ncoOwnings ccoOwnings,.slice anonOwnings nnonOwnings cnonOwnings,.slice auniq nuniq cuniq,.slice aamb namb camb⟩).toArray 38 (0,0))
 have o2:=o2.set (.cells (QC d ⟨.slice apos npos cpos,.slice atest ntest ctest,.slice atest4 ntest4 ctest4,.slice astrings nstrings cstrings,.slice atables ntables ctables,.slice aenemy nenemy cenemy,.slice aempty nempty cempty,.slice abools nbools cbools,.slice astrings2 nstrings2 cstrings2,.slice aabil nabil cabil,.slice atest5 ntest5 ctest5,.slice alongs nlongs clongs,.slice adoubles ndoubles cdoubles,.slice arefs nrefs crefs,.slice aweak nweak cweak,.slice astrong nstrong cstrong,.slice acoOwnings ncoOwnings ccoOwnings,.slice anonOwnings nnonOwnings cnonOwnings,.slice auniq nuniq cuniq,.slice aamb namb camb⟩).toArray 38 (0,0))
 rw[YL (n:=51) (vs:=QC d ⟨.slice apos npos cpos,.slice atest ntest ctest,.slice atest4 ntest4 ctest4,.slice astrings nstrings cstrings,.slice atables ntables ctables,.slice aenemy nenemy cenemy,.slice aempty nempty cempty,.slice abools nbools cbools,.slice astrings2 nstrings2 cstrings2,.slice aabil nabil cabil,.slice atest5 ntest5 ctest5,.slice alongs nlongs clongs,.slice adoubles ndoubles cdoubles,.slice arefs nrefs crefs,.slice aweak nweak cweak,.slice astrong nstrong cstrong,.slice acoOwnings ncoOwnings ccoOwnings,.slice anonOwnings nnonOwnings cnonOwnings,.slice auniq nuniq cuniq,.slice aamb namb camb⟩) (by rw[Q5 o2.get 51 (Nat.le_refl 51)];rfl)]
 exact hR _ _ _ e hval
mutual
theorem Of_all:∀g:GM,OfOk g
 |.mk d pos empty tables enemy test uniq amb=>OfStep (Qij tables) (Qij enemy) (Qij test) (Qij uniq) (Qij amb)
theorem Qij:∀gs:List GM,∀k∈gs,OfOk k
 |[],k,h=>by simp at h
 |g::gs,k,h=>by
  rcases List.mem_cons.1 h with h|h
  ·rw[h];exact Of_all g
  ·exact Qij gs k h
end
end Go.Proofs
