/- WHAT IS PROVED: the given statement of FnMonsterAgain, whatever the input: this is part 10 of 13. No conditions. -/
import Derived.Test.YtjfnlghdpijgeaaGreatX09
set_option linter.all false
namespace Go.Proofs
open Go Go.Vc
open Tryz (prog)
theorem Qc.ext {H H':Qe} {p:Nat} {S:BS} {F F':Cut} {r:Nat} (h:Qc H p S F r) (e:Ext F H F' H'):Qc H' p S F' r:=by
 obtain ⟨hd,h1,⟨B,V,T,L,len,vtv,vtsv,ee,eB,hr,h2⟩⟩:=h
 obtain ⟨l1,l2,l3,l4⟩:=hr.V_lt
 have same:∀b,b<H.size->H'[b]?=H[b]?:=fun b hb=>by
  rw[Array.getElem?_eq_getElem hb]
  exact e.keep b _ (Array.getElem?_eq_getElem hb)
 refine ⟨hd,h1,⟨B,V,T,L,len,vtv,vtsv,ee,eB,hr.frame ?_ ?_,h2⟩⟩
 ·intro b hb
  rcases hb with rfl|rfl|rfl|rfl
  ·exact same _ l1
  ·exact same _ l2
  ·exact same _ l3
  ·exact same _ l4
 ·intro b o hb
  refine ⟨e.inn b o hb,?_⟩
  by_cases hlt:b<H.size
  ·rw[e.old b hlt]at hb
   exact (hr.hF b o hb).2
  ·exact ⟨by omega,by omega,by omega,by omega⟩
theorem cellsH_base {H:Qe} {B hd:Nat} {bs:List UInt8} (h:U8s H B hd bs):∀{n i:Nat},i+n<=bs.length->Zp H ⟨B,hd,none⟩ i n=some (((bs.drop i).take n).map u8V)
 |0,i,_=>by simp[Zp]
 |n+1,i,hl=>by
  have h1:=h i (by omega)
  rw[Zp,QfW,h1]
  simp only
  rw[cellsH_base h (n:=n) (i:=i+1) (by omega)]
  simp only
  have e:bs.drop i=(bs[i]'(by omega))::bs.drop (i+1):=List.drop_eq_getElem_cons (by omega)
  rw[e,List.take_succ_cons,List.map_cons]
  congr 2
  unfold byteN u8V
  simp[List.getD,List.getElem?_eq_getElem (show i<bs.length by omega)]
mutual
theorem WfM_of:∀{g:GM},QbJ g->WfM (toM g)
 |.mk d pos empty tables enemy test uniq amb,h=>by
  rw[QbJ]at h
  obtain ⟨_,_,_,gU,gQ,gA,m1,m2,m3,m4,m5⟩:=h
  rw[toM,WfM]
  have un:∀{amb:Bool} {ty:UInt8} {kids:List GM},GUn amb ty kids.length->UnOk amb ty (QbG kids):=fun hg h0 h2 hk=>by
   rcases hg with ⟨h,_⟩|⟨_,⟨h,h',_⟩|⟨_,h⟩⟩
   ·exact h0 h
   ·exact h2 ⟨h,h'⟩
   ·rw[Qi3,List.map_eq_nil_iff]at hk
    rw[hk]at h;cases h
  exact ⟨⟨un gU,un gQ,un gA⟩,QiK m1,QiK m2,QiK m3,QiK m4,QiK m5⟩
theorem QiK:∀{gs:List GM},Zj gs->WfMs (QbG gs)
 |[],_=>by rw[QbG,WfMs];trivial
 |g::gs,h=>by
  rw[Zj]at h
  rw[QbG,WfMs]
  exact ⟨WfM_of h.1,QiK h.2⟩
end
theorem packAll_len (m:Mon):(Qa0 m).length<=QcY m+24:=by
 have hp:=(QfG m QcW Inv.new).1
 have h1:=hp.len
 have hpd:=Zw (size:=(Qa8 m QcW).1.min) (n:=(Qa8 m QcW).1.buf.length+4) hp.inv.min.pos
 have h8:=hp.inv.min.le
 obtain ⟨x,hx,_,hx2⟩:=QdT (Qa8 m QcW).2 (prep (Qa8 m QcW).1.min 4 (Qa8 m QcW).1)
 have e:(Qa0 m).length=x.length+(prep (Qa8 m QcW).1.min 4 (Qa8 m QcW).1).buf.length:=by
  show (putOff _ _).buf.length=_
  rw[hx,List.length_append]
 rw[e,Qar]
 have:QcW.buf.length=0:=rfl
 omega
theorem QeB {g:GM} {cells:List Value} {n:Nat} {G:Cut} {H:Qe} {R:Kn} (hG:G.In H) (hv:Qb3 G g cells) (hs:QbJ g) (hcost:QcY (toM g)<=400000000) (hn:n<65536) (hR:∀H',Qai H H'->R (.tuple #[Yx (Qa0 (toM g)),.bool true]) H'):
  FnS prog 7 #[.agg cells.toArray,.int .i64 (n:Nat)] H R:=by
 apply w7
 unfold s7
 rw[Q3,Q3,Q3]
 have k1:=Qai.push H (.cells (Value.agg cells.toArray).cells 51)
 have a2:(H.push (.cells (Value.agg cells.toArray).cells 51))[H.size]?=some (.cells cells.toArray 51 (0,0)):=Qg
 generalize H.push (.cells (Value.agg cells.toArray).cells 51)=H1 at *
 have k2:=Qai.push H1 (.cells (Value.int .i64 (n:Nat)).cells 3)
 have a3:(H1.push (.cells (Value.int .i64 (n:Nat)).cells 3))[H1.size]?=some (.cells #[.int .i64 (n:Nat)] 3 (0,0)):=Qg
 generalize H1.push (.cells (Value.int .i64 (n:Nat)).cells 3)=H2 at *
 have k3:=Qai.push H2 (.cells z9 9)
 have a4:(H2.push (.cells z9 9))[H2.size]?=some (.cells z9 9 (0,0)):=Qg
 have n4:(H2.push (.cells z9 9)).size=H2.size+1:=size_push
 generalize H2.push (.cells z9 9)=H3 at *
 have s1:=k1.size
 have s2:=k2.size
 refine thrown_ok (by kernel_rfl) ?_
 apply w17
 unfold s17
 have k4:=Qai.push H3 (.cells #[.bool false] 4 (0,0))
 have a5:(H3.push (.cells #[.bool false] 4 (0,0)))[H3.size]?=some (.cells #[.bool false] 4 (0,0)):=Qg
 have b2:=(k2.trans (k3.trans k4)) _ _ a2
 have b3:=(k3.trans k4) _ _ a3
 have b4:=k4 _ _ a4
 have kH:=k1.trans (k2.trans (k3.trans k4))
 generalize H3.push (.cells #[.bool false] 4 (0,0))=Hc at *
 rw[Ql ((Qj b3).trans (show (#[Value.int .i64 (n:Nat)]:Array Value)[0]?=some _ from rfl))]
 refine go_NewBuilder (F:=Cut.of Hc) hn (fun b o h=>h) ?_
 intro H4 hB hk4
 have hle:G.le (Cut.of Hc):=fun b o hb=>kH b o (hG b o hb)
 have hvl:=hv.len
 rw[Y0 (n:=51) (vs:=cells) (by rw[Q0 (hk4 _ _ b2) 51 (by simp[hvl])];simp[<-hvl])]
 refine Qj3 g (Cut.of Hc) H4 cells _ hB.cut (hv.mono hle) hs ?_
 intro G5 H5 v e5 hmt
 have hB5:=Qc.ext hB e5
 have hpk:=(QfG (toM g) QcW Inv.new).1
 refine MonsterT_Pack hB5 Inv.new hmt (by show 0+_+_<=_;omega) ?_
 intro H6 hB6
 obtain ⟨k,hk3,hk⟩:=hpk.inv.min
 have hlen:=hpk.len
 have hlen0:(Qa8 (toM g) QcW).1.buf.length<=0+QcY (toM g):=hlen
 refine Qis hB6 hpk.inv.nested hk hk3 hpk.off (by omega) ?_
 intro H7 hB7
 have hroot:=packAll_rd (WfM_of hs) hcost
 have hr4:=hroot.len
 refine Qfi hB7 rfl (by show 0<(Qa0 (toM g)).length;omega) ?_
 intro B hd c hc hu
 have hu':U8s H7 B hd (Qa0 (toM g)):=hu
 refine B2SK_of (xs:=Qa0 (toM g)) (by
  have:=cellsH_base hu' (n:=(Qa0 (toM g)).length) (i:=0) (by omega)
  rw[List.drop_zero,List.take_of_length_le (Nat.le_refl _)]at this
  exact this) ?_
 have c4:=hB7.get (e5.le _ _ (show Cut.of Hc H2.size=some _ from b4))
 have c5:=hB7.get (e5.le _ _ (show Cut.of Hc H3.size=some _ from a5))
 have kF:Qai H H7:=fun b o hb=>hB7.get (e5.le _ _ (kH b o hb))
 rw[Qbe (v:=Yx (Qa0 (toM g))) c4 (by decide) (by simp) rfl]
 have d4:=QU (o:=.cells (z9.setIfInBounds 0 (Yx (Qa0 (toM g)))) 9 (0,0)) c4
 refine ⟨rfl,by rw[Qx (by omega)];exact c5,?_⟩
 have kF2:Qai H (setB H7 H2.size (.cells (z9.setIfInBounds 0 (Yx (Qa0 (toM g)))) 9 (0,0))):=kF.setB (by omega) _
 generalize setB H7 H2.size (.cells (z9.setIfInBounds 0 (Yx (Qa0 (toM g)))) 9 (0,0))=H8 at *
 rw[Ym]
 show ZM prog (Op.unary .not (.bool true)) _
 rw[Ym]
 show IfK (.bool false) _ _
 rw[Qao,Ql ((Qj d4).trans (show (z9.setIfInBounds 0 (Yx (Qa0 (toM g))))[0]?=some (Yx (Qa0 (toM g))) from rfl)),Qbe (v:=Yx (Qa0 (toM g))) d4 (show 0<1 from Nat.zero_lt_one) (by simp) rfl]
 have d5:=QU (o:=.cells ((z9.setIfInBounds 0 (Yx (Qa0 (toM g)))).setIfInBounds 0 (Yx (Qa0 (toM g)))) 9 (0,0)) d4
 rw[Ql ((Qj d5).trans (show ((z9.setIfInBounds 0 (Yx (Qa0 (toM g)))).setIfInBounds 0 (Yx (Qa0 (toM g))))[0]?=some (Yx (Qa0 (toM g))) from rfl))]
 exact hR _ (kF2.setB (by omega) _)
theorem CopyK_u8 {H:Qe} {B n c:Nat} {e:TypeId} {L xs:List UInt8} (hB:H[B]?=some (.cells (u8c L) e (0,0))) (hx:xs.length=n) (hl:n<=L.length) {k:Kn} (hk:k (.int .i64 n) (wr H B e (Qb9 L 0 xs))):CopyK H 1 (.slice (some ⟨B,0,none⟩) n c) (Yx xs) k:=by
 subst hx
 have hs:lenV (Yx xs)=xs.length:=Qdw xs
 refine ⟨xs.map u8V,?_,_,setN_u8 hB (by omega),?_⟩
 ·rw[hs,show xs.length.min xs.length=xs.length from Nat.min_self _]
  show some (ZH ((ByteArray.mk xs.toArray).extract 0 xs.length)).toList=_
  have:(ByteArray.mk xs.toArray).extract 0 xs.length=ByteArray.mk xs.toArray:=by
   apply ByteArray.ext
   rw[ByteArray.data_extract]
   simp
  rw[this]
  simp[ZH]
 ·rw[hs,show xs.length.min xs.length=xs.length from Nat.min_self _];exact hk
theorem slice_ok {H:Qe} {xs:List UInt8} (hl:xs.length<2147483648) {R:Kn} (hR:R (bsl H.size 0 xs.length xs.length) (H.push (.cells (u8c xs) 5 (0,0)))):FnS prog 41 #[Yx xs] H R:=by
 apply w41
 unfold s41
 rw[Qfb,Qdw]
 refine ⟨by omega,by omega,by omega,by omega,?_⟩
 rw[Int.toNat_natCast,mk_u8 (z:=z5) rfl]
 refine CopyK_u8 (L:=List.replicate xs.length 0) (e:=5) Qg rfl (by simp) ?_
 have e:wr (H.push (.cells (u8c (List.replicate xs.length 0)) 5)) H.size 5 (Qb9 (List.replicate xs.length 0) 0 xs)=H.push (.cells (u8c xs) 5 (0,0)):=by
  unfold wr
  rw[show setB (H.push (.cells (u8c (List.replicate xs.length 0)) 5)) H.size _=_ from YJ]
  congr 2
  rw[QeE _ _ _ (by simp)]
  simp
 rw[e]
 exact hR
theorem root_ok {H:Qe} {B:Nat} {bs:List UInt8} (hu:U8s H B 0 bs) (h4:4<=bs.length) (hl:bs.length<2147483648) (hle:le4 bs 0<=bs.length) {R:Kn} (hR:R (ptr H.size) (H.push (.cells #[bsl B 0 bs.length bs.length,.int .u32 (le4 bs 0:Nat)] 210))):
  FnS prog 40 #[bsl B 0 bs.length bs.length,.int .u32 0] H R:=by
 apply w40
 unfold s40
 rw[show (Value.int .u32 0)=Value.int .u32 ((0:Nat):Int) from rfl,SlcB (n:=bs.length) (m:=0) rfl (by omega)]
 refine ZQ hu (by omega) (by omega) ?_
 rw[QgY,Q3,QE,QT (by omega) (by omega),show ((le4 bs 0:Nat):Int)+((0:Nat):Int)=((le4 bs 0:Nat):Int) by omega]
 refine ZG Qg rfl rfl rfl ?_
 rw[YJ]
 exact hR
theorem MonsterRead_rw {bs:List UInt8} {m:Mon} (hr:RootRw bs m) (hl:bs.length<2147483648) {G:Cut} {H:Qe} (hG:G.In H) {R:Kn} (hR:∀G' H' cells,Ext G H G' H'->Qb3 G' (rwM m) cells->R (.tuple #[.agg cells.toArray,.bool true]) H'):
  FnS prog 15 #[Yx bs] H R:=by
 apply w15
 unfold tp9
 rw[Q3,Q3]
 have e:=Ext.refl hG
 have o1:Yj H G (H.push (.cells (Yx bs).cells 9)) H.size (.cells #[Yx bs] 9 (0,0)):=Yj.fresh e _
 have e:=e.push (.cells (Yx bs).cells 9)
 generalize H.push (.cells (Yx bs).cells 9)=H1 at *
 have n1:=o1.ne
 have o2:=Yj.fresh e (.cells z51 51)
 have o1:=o1.push (.cells z51 51)
 have e:=e.push (.cells z51 51)
 generalize H1.push (.cells z51 51)=H2 at *
 refine thrown_ok (by kernel_rfl) ?_
 have n2:=o2.ne
 have o3:=Yj.fresh e (.cells #[.bool false] 4 (0,0))
 have o1:=o1.push (.cells #[.bool false] 4 (0,0))
 have o2:=o2.push (.cells #[.bool false] 4 (0,0))
 have e:=e.push (.cells #[.bool false] 4 (0,0))
 generalize H2.push (.cells #[.bool false] 4 (0,0))=H3 at *
 apply w68
 unfold s68
 rw[Ql ((Qj o1.get).trans (show (#[Yx bs]:Array Value)[0]?=some _ from rfl))]
 refine slice_ok hl ?_
 have u:U8s (H3.push (.cells (u8c bs) 5 (0,0))) H3.size 0 bs:=fun i hi=>by
  rw[Qj Qg,Nat.zero_add]
  unfold u8c byteN
  simp[hi,List.getD]
 have o1:=o1.push (.cells (u8c bs) 5 (0,0))
 have o2:=o2.push (.cells (u8c bs) 5 (0,0))
 have o3:=o3.push (.cells (u8c bs) 5 (0,0))
 have e:=e.push (.cells (u8c bs) 5 (0,0))
 generalize H3.push (.cells (u8c bs) 5 (0,0))=H4 at *
 have hlen:=hr.len
 have hle:=hr.le
 refine root_ok u hlen hl hle ?_
 have t:Tab (H4.push (.cells #[bsl H3.size 0 bs.length bs.length,.int .u32 (le4 bs 0:Nat)] 210)) H4.size H3.size bs (le4 bs 0):=⟨Qj Qg,Qj Qg,QeO (Qai.push _ _).ext u,hl,hle⟩
 have o1:=o1.push (.cells #[bsl H3.size 0 bs.length bs.length,.int .u32 (le4 bs 0:Nat)] 210)
 have o2:=o2.push (.cells #[bsl H3.size 0 bs.length bs.length,.int .u32 (le4 bs 0:Nat)] 210)
 have o3:=o3.push (.cells #[bsl H3.size 0 bs.length bs.length,.int .u32 (le4 bs 0:Nat)] 210)
 have e:=e.push (.cells #[bsl H3.size 0 bs.length bs.length,.int .u32 (le4 bs 0:Nat)] 210)
 generalize H4.push (.cells #[bsl H3.size 0 bs.length bs.length,.int .u32 (le4 bs 0:Nat)] 210)=H5 at *
 obtain ⟨A,hrd⟩:=hr.rd
 refine QgG m A _ _ _ bs G H5 _ t e.inn hrd ?_
 intro cells H6 G6 e6 hv
 have o1:=o1.ext e6
 have o2:=o2.ext e6
 have o3:=o3.ext e6
 have e:=e.trans e6
 have hvl:=hv.len
 have hone:=Qb3.one hv
 rw[Ye (n:=51) (c':=cells.toArray) o2.get rfl (by simp[hvl]) (by decide) (by simpa using hone)]
 have e:=e.set o2.out o2.new (.cells cells.toArray 51 (0,0))
 have o3:=o3.set_ne (Ne.symm n2) (.cells cells.toArray 51 (0,0))
 have o2:=o2.set (.cells cells.toArray 51 (0,0))
 generalize setB H6 H1.size (.cells cells.toArray 51 (0,0))=H7 at *
 refine ⟨rfl,o3.get,?_⟩
 rw[Ym]
 show ZM prog (Op.unary .not (.bool true)) _
 rw[Ym]
 show IfK (.bool false) _ _
 rw[Qao,Y0 (n:=51) (vs:=cells) (by rw[Q0 o2.get 51 (by simp[hvl])];simp[<-hvl]),Ye (n:=51) (c':=cells.toArray) o2.get (by simp[hvl]) (by simp[hvl]) (by decide) (by simpa using hone)]
 have e:=e.set o2.out o2.new (.cells cells.toArray 51 (0,0))
 have o2:=o2.set (.cells cells.toArray 51 (0,0))
 rw[Y0 (n:=51) (vs:=cells) (by rw[Q0 o2.get 51 (by simp[hvl])];simp[<-hvl])]
 exact hR _ _ _ e hv
theorem MonsterRead_ok {bs:List UInt8} {m:Mon} (hr:RootRd bs m) (hl:bs.length<2147483648) {G:Cut} {H:Qe} (hG:G.In H) {R:Kn} (hR:∀G' H' cells,Ext G H G' H'->Qb3 G' (rdM m) cells->R (.tuple #[.agg cells.toArray,.bool true]) H'):
  FnS prog 15 #[Yx bs] H R:=MonsterRead_rw hr.weak hl hG (by rw[rw_fl];exact hR)
end Go.Proofs
namespace Go.Proofs
open Go Go.Vc
open Tryz (prog)
set_option maxRecDepth 100000
def s3 (a3:Value) (h:Qe) (R:Kn):Prop:=
 YM h (.cells (Value.cells a3) 38) fun b l=>
 LdN l 51 b fun a4=>
 Qb prog 4 #[a4] l fun a5 c=>
 ZM prog (Op.unary .not a5) fun a6=>
 IfK a6
 (R (.bool true) c)
 (LdN c 51 b fun a7=>
 Qb prog 5 #[a7] c fun a8 d=>
 ZM prog (Op.unary .not a8) fun a9=>
 IfK a9
 (Qb prog 6 #[] d fun b0 b1=>
 R b0 b1)
 (LdN d 51 b fun b2=>
 Qb prog 8 #[b2] d fun b3 b4=>
 Qb prog 7 #[b3,(.int .i64 0)] b4 fun m b5=>
 Qe5 m 0 fun b6=>
 Qe5 m 1 fun o=>
 Qb prog 9 #[b6] b5 fun p b7=>
 Qe5 p 0 fun b8=>
 Qe5 p 1 fun b9=>
 YM b7 (.cells z51 51) fun e c0=>
 StK c0 51 e b8 fun q=>
 LdN q 51 e fun c1=>
 Qb prog 7 #[c1,(.int .i64 0)] q fun r c2=>
 Qe5 r 0 fun c3=>
 Qe5 r 1 fun c4=>
 Qb prog 9 #[c3] c2 fun s c5=>
 Qe5 s 0 fun c6=>
 Qe5 s 1 fun c7=>
 YM c5 (.cells z51 51) fun t c8=>
 StK c8 51 t c6 fun u=>
 Qd o true (fun c9=>c9 b9 u) u fun d0 v=>
 Yf o d0 (.bool false) fun w=>
 Qd w true (fun d1=>d1 c4 v) v fun d2 y=>
 Yf w d2 (.bool false) fun z=>
 Qd z true (fun d3=>d3 c7 y) y fun d4 f=>
 Yf z d4 (.bool false) fun a=>
 Qd a true (fun d5=>LdN f 51 e fun d6=>d5 d6 f) f fun d7 g=>
 Qd a true (fun d8=>LdN g 51 t fun d9=>d8 d9 g) g fun e0 i=>
 Qd a true (fun e1=>Qb prog 11 #[d7] i fun e2 e3=>e1 e2 e3) i fun e4 j=>
 Qi i j<|
 Qd a true (fun e5=>Qb prog 11 #[e0] j fun e6 e7=>e5 e6 e7) j fun e8 a0=>
 Qd a true (fun e9=>Qb prog 10 #[e4,e8] a0 fun f0 f1=>e9 f0 f1) a0 fun f2 a1=>
 Yf a f2 (.bool false) fun a2=>
 Qd a2 true (fun f3=>Qb prog 6 #[] a1 fun f4 f5=>f3 f4 f5) a1 fun f6 f7=>
 Yf a2 f6 (.bool false) fun f8=>
 R f8 f7))
theorem w3 {a h R} (H:s3 a h R):FnS prog 3 #[a] h R:=wq Tryz.func3 (by kernel_rfl) H
def s4 (f:Value) (h:Qe) (R:Kn):Prop:=
 YM h (.cells (Value.cells f) 38) fun b c=>
 Qh b 0 fun g=>
 LdK c g fun i=>
 YQ i fun j=>
 Qr prog .gtr 3 j (.int .i64 2147483647) fun l=>
 IfK l
 (R (.bool false) c)
 (Qh b 3 fun m=>
 LdK c m fun o=>
 Qgh o fun p=>
 Qr prog .gtr 3 p (.int .i64 2147483647) fun q=>
 IfK q
 (R (.bool false) c)
 (Qh b 4 fun r=>
 LdK c r fun s=>
 Qgh s fun t=>
 Qr prog .gtr 3 t (.int .i64 2147483647) fun u=>
 IfK u
 (R (.bool false) c)
 (Qh b 9 fun v=>
 LdK c v fun w=>
 YQ w fun y=>
 Qr prog .gtr 3 y (.int .i64 2147483647) fun z=>
 IfK z
 (R (.bool false) c)
 (Qh b 10 fun a0=>
 LdK c a0 fun a1=>
 Qb prog 12 #[a1] c fun a2 d=>
 ZM prog (Op.unary .not a2) fun a3=>
 IfK a3
 (R (.bool false) d)
 (Qh b 11 fun a4=>
 LdK d a4 fun a5=>
 YQ a5 fun a6=>
 Qr prog .gtr 3 a6 (.int .i64 2147483647) fun a7=>
 IfK a7
 (R (.bool false) d)
 (Qh b 12 fun a8=>
 LdK d a8 fun a9=>
 YQ a9 fun b0=>
 Qr prog .gtr 3 b0 (.int .i64 2147483647) fun b1=>
 IfK b1
 (R (.bool false) d)
 (Qh b 13 fun b2=>
 LdK d b2 fun b3=>
 Qgh b3 fun b4=>
 Qr prog .gtr 3 b4 (.int .i64 2147483647) fun b5=>
 IfK b5
 (R (.bool false) d)
 (Qh b 14 fun b6=>
 LdK d b6 fun b7=>
 Qb prog 13 #[b7] d fun b8 e=>
 ZM prog (Op.unary .not b8) fun b9=>
 IfK b9
 (R (.bool false) e)
 (Qh b 24 fun c0=>
 LdK e c0 fun c1=>
 YQ c1 fun c2=>
 Qr prog .gtr 3 c2 (.int .i64 2147483647) fun c3=>
 IfK c3
 (R (.bool false) e)
 (Qh b 28 fun c4=>
 LdK e c4 fun c5=>
 Qb prog 12 #[c5] e fun c6 a=>
 ZM prog (Op.unary .not c6) fun c7=>
 IfK c7
 (R (.bool false) a)
 (Qh b 29 fun c8=>
 LdK a c8 fun c9=>
 YQ c9 fun d0=>
 Qr prog .gtr 3 d0 (.int .i64 2147483647) fun d1=>
 IfK d1
 (R (.bool false) a)
 (Qh b 30 fun d2=>
 LdK a d2 fun d3=>
 Qgh d3 fun d4=>
 Qr prog .gtr 3 d4 (.int .i64 2147483647) fun d5=>
 IfK d5
 (R (.bool false) a)
 (Qh b 31 fun d6=>
 LdK a d6 fun d7=>
 YQ d7 fun d8=>
 Qr prog .gtr 3 d8 (.int .i64 2147483647) fun d9=>
 IfK d9
 (R (.bool false) a)
 (Qh b 32 fun e0=>
 LdK a e0 fun e1=>
 YQ e1 fun e2=>
 Qr prog .gtr 3 e2 (.int .i64 2147483647) fun e3=>
 IfK e3
 (R (.bool false) a)
 (Qh b 33 fun e4=>
 LdK a e4 fun e5=>
 YQ e5 fun e6=>
 Qr prog .gtr 3 e6 (.int .i64 2147483647) fun e7=>
 IfK e7
 (R (.bool false) a)
 (Qh b 35 fun e8=>
 LdK a e8 fun e9=>
 YQ e9 fun f0=>
 Qr prog .gtr 3 f0 (.int .i64 2147483647) fun f1=>
 IfK f1
 (R (.bool false) a)
 (Qh b 37 fun f2=>
 LdK a f2 fun f3=>
 YQ f3 fun f4=>
 Qr prog .gtr 3 f4 (.int .i64 2147483647) fun f5=>
 IfK f5
 (R (.bool false) a)
 (Qh b 38 fun f6=>
 LdK a f6 fun f7=>
 YQ f7 fun f8=>
 Qr prog .gtr 3 f8 (.int .i64 2147483647) fun f9=>
 IfK f9
 (R (.bool false) a)
 (Qh b 40 fun g0=>
 LdK a g0 fun g1=>
 YQ g1 fun g2=>
 Qr prog .gtr 3 g2 (.int .i64 2147483647) fun g3=>
 IfK g3
 (R (.bool false) a)
 (Qh b 42 fun g4=>
 LdK a g4 fun g5=>
 YQ g5 fun g6=>
 Qr prog .gtr 3 g6 (.int .i64 2147483647) fun g7=>
 IfK g7
 (R (.bool false) a)
 (Qh b 49 fun g8=>
 LdK a g8 fun g9=>
 Qgh g9 fun i0=>
 Qr prog .gtr 3 i0 (.int .i64 2147483647) fun i1=>
 IfK i1
 (R (.bool false) a)
 (R (.bool true) a))))))))))))))))))))))
theorem w4 {a h R} (H:s4 a h R):FnS prog 4 #[a] h R:=wq Tryz.func4 (by kernel_rfl) H
def s5 (c:Value) (h:Qe) (R:Kn):Prop:=
 YM h (.cells (Value.cells c) 38) fun d e=>
 YM e (.cells z3 3) fun a f=>
 StK f 1 a (.int .i64 20) fun b=>
 LdN b 51 d fun g=>
 Qb prog 14 #[g,a,(.int .i64 5)] b fun i j=>
 R i j
theorem w5 {a h R} (H:s5 a h R):FnS prog 5 #[a] h R:=wq Tryz.func5 (by kernel_rfl) H
def s6 (h:Qe) (R:Kn):Prop:=
 QB z51.toList [(3,1,(.string ⟨#[111,114,99]⟩)),(2,1,(.int .i16 80)),(1,1,(.int .i16 150))] fun u=>
 Qb prog 7 #[u,(.int .i64 0)] h fun i v=>
 Qe5 i 0 fun w=>
 Qe5 i 1 fun j=>
 Qb prog 15 #[w] v fun l y=>
 Qe5 l 0 fun z=>
 Qe5 l 1 fun a0=>
 YM y (.cells z51 51) fun a a1=>
 StK a1 51 a z fun m=>
 Qd j true (fun a2=>a2 a0 m) m fun a3 o=>
 Yf j a3 (.bool false) fun b=>
 Qd b true (fun a4=>Qh a 3 fun a5=>a4 a5 o) o fun a6 e=>
 Qd b true (fun a7=>LdK e a6 fun a8=>a7 a8 e) e fun a9 p=>
 Qd b true (fun b0=>Qr prog .eql 9 a9 (.string ⟨#[111,114,99]⟩) fun b1=>b0 b1 p) p fun b2 q=>
 Yf b b2 (.bool false) fun c=>
 Qd c true (fun b3=>Qh a 2 fun b4=>b3 b4 q) q fun b5 f=>
 Qd c true (fun b6=>LdK f b5 fun b7=>b6 b7 f) f fun b8 r=>
 Qd c true (fun b9=>Qr prog .eql 23 b8 (.int .i16 80) fun c0=>b9 c0 r) r fun c1 s=>
 Yf c c1 (.bool false) fun d=>
 Qd d true (fun c2=>Qh a 1 fun c3=>c2 c3 s) s fun c4 g=>
 Qd d true (fun c5=>LdK g c4 fun c6=>c5 c6 g) g fun c7 t=>
 Qd d true (fun c8=>Qr prog .eql 23 c7 (.int .i16 150) fun c9=>c8 c9 t) t fun d0 d1=>
 Yf d d0 (.bool false) fun d2=>
 R d2 d1
theorem w6 {h R} (H:s6 h R):FnS prog 6 #[] h R:=wq Tryz.func6 (by kernel_rfl) H
def s8 (a2:Value) (h:Qe) (R:Kn):Prop:=
 YM h (.cells (Value.cells a2) 38) fun b a3=>
 YM a3 (.cells z51 51) fun z a=>
 Qh b 0 fun a4=>
 LdK a a4 fun a5=>
 Qh b 1 fun a6=>
 LdK a a6 fun a7=>
 Qh b 2 fun a8=>
 LdK a a8 fun a9=>
 Qh b 3 fun b0=>
 LdK a b0 fun b1=>
 Qh b 4 fun b2=>
 LdK a b2 fun b3=>
 Qh b 5 fun b4=>
 LdK a b4 fun b5=>
 Qh b 6 fun b6=>
 LdN a 3 b6 fun b7=>
 Qh b 9 fun b8=>
 LdK a b8 fun b9=>
 Qh b 10 fun c0=>
 LdK a c0 fun c1=>
 Qh b 11 fun c2=>
 LdK a c2 fun c3=>
 Qh b 12 fun c4=>
 LdK a c4 fun c5=>
 Qh b 13 fun c6=>
 LdK a c6 fun c7=>
 Qh b 14 fun c8=>
 LdK a c8 fun c9=>
 Qh b 15 fun d0=>
 LdK a d0 fun d1=>
 Qh b 16 fun d2=>
 LdK a d2 fun d3=>
 Qh b 17 fun d4=>
 LdK a d4 fun d5=>
 Qh b 18 fun d6=>
 LdK a d6 fun d7=>
 Qh b 19 fun d8=>
 LdK a d8 fun d9=>
 Qh b 20 fun e0=>
 LdK a e0 fun e1=>
 Qh b 21 fun e2=>
 LdK a e2 fun e3=>
 Qh b 22 fun e4=>
 LdK a e4 fun e5=>
 Qh b 23 fun e6=>
 LdK a e6 fun e7=>
 Qh b 24 fun e8=>
 LdK a e8 fun e9=>
 Qh b 25 fun f0=>
 LdK a f0 fun f1=>
 Qh b 26 fun f2=>
 LdK a f2 fun f3=>
 Qh b 27 fun f4=>
 LdK a f4 fun f5=>
 Qh b 28 fun f6=>
 LdK a f6 fun f7=>
 Qh b 29 fun f8=>
 LdK a f8 fun f9=>
 Qh b 30 fun g0=>
 LdK a g0 fun g1=>
 Qh b 31 fun g2=>
 LdK a g2 fun g3=>
 Qh b 32 fun g4=>
 LdK a g4 fun g5=>
 Qh b 33 fun g6=>
 LdK a g6 fun g7=>
 Qh b 34 fun g8=>
 LdK a g8 fun g9=>
 Qh b 35 fun i0=>
 LdK a i0 fun i1=>
 Qh b 36 fun i2=>
 LdK a i2 fun i3=>
 Qh b 37 fun i4=>
 LdK a i4 fun i5=>
 Qh b 38 fun i6=>
 LdK a i6 fun i7=>
 Qh b 39 fun i8=>
 LdK a i8 fun i9=>
 Qh b 40 fun j0=>
 LdK a j0 fun j1=>
 Qh b 41 fun j2=>
 LdK a j2 fun j3=>
 Qh b 42 fun j4=>
 LdK a j4 fun j5=>
 Qh b 43 fun j6=>
 LdN a 3 j6 fun j7=>
 Qh b 46 fun j8=>
 LdN a 3 j8 fun j9=>
 Qh b 49 fun l0=>
 LdK a l0 fun l1=>
 Qh b 50 fun l2=>
 LdK a l2 fun l3=>
 Qb prog 25 #[a5,(.func (.func 26) #[] #[])] a fun l4 c=>
 Qi a c<|
 DynK prog (.func (.func 23) #[] #[]) #[b7] c fun l5 d=>
 Qi c d<|
 Qb prog 27 #[b9,(.func (.func 28) #[] #[])] d fun l6 e=>
 Qi d e<|
 Qb prog 29 #[c1] e fun l7 f=>
 Qi e f<|
 Qb prog 24 #[c3,(.func (.func 8) #[] #[])] f fun l8 g=>
 Qi f g<|
 Qb prog 24 #[c5,(.func (.func 8) #[] #[])] g fun l9 i=>
 Qi g i<|
 Qb prog 30 #[c9,(.func (.func 31) #[] #[])] i fun m0 j=>
 Qi i j<|
 Qb prog 32 #[e9] j fun m1 l=>
 Qi j l<|
 Qb prog 29 #[f7] l fun m2 m=>
 Qi l m<|
 Qb prog 33 #[f9,(.func (.func 34) #[] #[])] m fun m3 o=>
 Qi m o<|
 Qb prog 27 #[g3,(.func (.func 35) #[] #[])] o fun m4 p=>
 Qi o p<|
 Qb prog 36 #[g5] p fun m5 q=>
 Qi p q<|
 Qb prog 37 #[g7] q fun m6 r=>
 Qi q r<|
 Qb prog 37 #[i1] r fun m7 s=>
 Qi r s<|
 Qb prog 37 #[i5] s fun m8 t=>
 Qi s t<|
 Qb prog 37 #[i7] t fun m9 u=>
 Qi t u<|
 Qb prog 37 #[j1] u fun o0 v=>
 Qi u v<|
 Qb prog 37 #[j5] v fun o1 w=>
 Qi v w<|
 DynK prog (.func (.func 23) #[] #[]) #[j7] w fun o2 y=>
 Qi w y<|
 DynK prog (.func (.func 23) #[] #[]) #[j9] y fun o3 a0=>
 Qi y a0<|
 QB z51.toList [(0,1,l4),(1,1,a7),(2,1,a9),(3,1,b1),(4,1,b3),(5,1,b5),(6,3,l5),(9,1,l6),(10,1,l7),(11,1,l8),(12,1,l9),(13,1,c7),(14,1,m0),(15,1,d1),(16,1,d3),(17,1,d5),(18,1,d7),(19,1,d9),(20,1,e1),(21,1,e3),(22,1,e5),(23,1,e7),(24,1,m1),(25,1,f1),(26,1,f3),(27,1,f5),(28,1,m2),(29,1,m3),(30,1,g1),(31,1,m4),(32,1,m5),(33,1,m6),(34,1,g9),(35,1,m7),(36,1,i3),(37,1,m8),(38,1,m9),(39,1,i9),(40,1,o0),(41,1,j3),(42,1,o1),(43,3,o2),(46,3,o3),(49,1,l1),(50,1,l3)] fun o4=>
 StK a0 51 z o4 fun a1=>
 LdN a1 51 z fun o5=>
 R o5 a1
theorem w8 {a h R} (H:s8 a h R):FnS prog 8 #[a] h R:=wq Tryz.func8 (by kernel_rfl) H
def s11 (r:Value) (h:Qe) (R:Kn):Prop:=
 YM h (.cells (Value.cells r) 51) fun b s=>
 YM s (.cells z38 38) fun o a=>
 Qh b 0 fun t=>
 LdK a t fun u=>
 Qh b 1 fun v=>
 LdK a v fun w=>
 Qh b 2 fun y=>
 LdK a y fun z=>
 Qh b 3 fun a0=>
 LdK a a0 fun a1=>
 Qh b 4 fun a2=>
 LdK a a2 fun a3=>
 Qh b 5 fun a4=>
 LdK a a4 fun a5=>
 Qh b 6 fun a6=>
 LdN a 3 a6 fun a7=>
 Qh b 9 fun a8=>
 LdK a a8 fun a9=>
 Qh b 10 fun b0=>
 LdK a b0 fun b1=>
 Qh b 11 fun b2=>
 LdK a b2 fun b3=>
 Qh b 12 fun b4=>
 LdK a b4 fun b5=>
 Qh b 13 fun b6=>
 LdK a b6 fun b7=>
 Qh b 14 fun b8=>
 LdK a b8 fun b9=>
 Qh b 15 fun c0=>
 LdK a c0 fun c1=>
 Qh b 16 fun c2=>
 LdK a c2 fun c3=>
 Qh b 17 fun c4=>
 LdK a c4 fun c5=>
 Qh b 18 fun c6=>
 LdK a c6 fun c7=>
 Qh b 19 fun c8=>
 LdK a c8 fun c9=>
 Qh b 20 fun d0=>
 LdK a d0 fun d1=>
 Qh b 21 fun d2=>
 LdK a d2 fun d3=>
 Qh b 22 fun d4=>
 LdK a d4 fun d5=>
 Qh b 23 fun d6=>
 LdK a d6 fun d7=>
 Qh b 24 fun d8=>
 LdK a d8 fun d9=>
 Qh b 25 fun e0=>
 LdK a e0 fun e1=>
 Qh b 26 fun e2=>
 LdK a e2 fun e3=>
 Qh b 27 fun e4=>
 LdK a e4 fun e5=>
 Qh b 28 fun e6=>
 LdK a e6 fun e7=>
 Qh b 29 fun e8=>
 LdK a e8 fun e9=>
 Qh b 30 fun f0=>
 LdK a f0 fun f1=>
 Qh b 31 fun f2=>
 LdK a f2 fun f3=>
 Qh b 32 fun f4=>
 LdK a f4 fun f5=>
 Qh b 33 fun f6=>
 LdK a f6 fun f7=>
 Qh b 34 fun f8=>
 LdK a f8 fun f9=>
 Qh b 35 fun g0=>
 LdK a g0 fun g1=>
 Qh b 36 fun g2=>
 LdK a g2 fun g3=>
 Qh b 37 fun g4=>
 LdK a g4 fun g5=>
 Qh b 38 fun g6=>
 LdK a g6 fun g7=>
 Qh b 39 fun g8=>
 LdK a g8 fun g9=>
 Qh b 40 fun i0=>
 LdK a i0 fun i1=>
 Qh b 41 fun i2=>
 LdK a i2 fun i3=>
 Qh b 42 fun i4=>
 LdK a i4 fun i5=>
 Qh b 43 fun i6=>
 LdN a 3 i6 fun i7=>
 Qh b 46 fun i8=>
 LdN a 3 i8 fun i9=>
 Qh b 49 fun j0=>
 LdK a j0 fun j1=>
 Qh b 50 fun j2=>
 LdK a j2 fun j3=>
 Qb prog 55 #[u,(.func (.func 56) #[] #[])] a fun j4 c=>
 Qi a c<|
 DynK prog (.func (.func 53) #[] #[]) #[a7] c fun j5 d=>
 Qi c d<|
 Qb prog 57 #[a9,(.func (.func 58) #[] #[])] d fun j6 e=>
 Qi d e<|
 Qb prog 54 #[b3,(.func (.func 11) #[] #[])] e fun j7 f=>
 Qi e f<|
 Qb prog 54 #[b5,(.func (.func 11) #[] #[])] f fun j8 g=>
 Qi f g<|
 Qb prog 59 #[b9,(.func (.func 60) #[] #[])] g fun j9 i=>
 Qi g i<|
 Qb prog 61 #[e9,(.func (.func 62) #[] #[])] i fun l0 j=>
 Qi i j<|
 Qb prog 57 #[f3,(.func (.func 63) #[] #[])] j fun l1 l=>
 Qi j l<|
 DynK prog (.func (.func 53) #[] #[]) #[i7] l fun l2 m=>
 Qi l m<|
 DynK prog (.func (.func 53) #[] #[]) #[i9] m fun l3 p=>
 Qi m p<|
 QB z38.toList [(0,1,j4),(1,1,w),(2,1,z),(3,1,a1),(4,1,a3),(5,1,a5),(6,3,j5),(9,1,j6),(10,1,b1),(11,1,j7),(12,1,j8),(13,1,b7),(14,1,j9),(15,1,c1),(16,1,c3),(17,1,c5),(18,1,c7),(19,1,c9),(20,1,d1),(21,1,d3),(22,1,d5),(23,1,d7),(24,1,d9),(25,1,e1),(26,1,e3),(27,1,e5),(28,1,e7),(29,1,l0),(30,1,f1),(31,1,l1),(32,1,f5),(33,1,f7),(34,1,f9),(35,1,g1),(36,1,g3),(37,1,g5),(38,1,g7),(39,1,g9),(40,1,i1),(41,1,i3),(42,1,i5),(43,3,l2),(46,3,l3),(49,1,j1),(50,1,j3)] fun l4=>
 StK p 51 o l4 fun q=>
 LdN q 51 o fun l5=>
 R l5 q
theorem w11 {a h R} (H:s11 a h R):FnS prog 11 #[a] h R:=wq Tryz.func11 (by kernel_rfl) H
def s12 (c:Value) (h:Qe) (R:Kn):Prop:=
 YQ c fun j=>
 Qr prog .gtr 3 j (.int .i64 2147483647) fun l=>
 IfK l
 (R (.bool false) h)
 (QG (fun d=>
 YQ c fun m=>
 YH [(.int .i64 0),(.bool false)] h fun f g=>∀b e:Value,∀a:Qe,f g [b,e] a->
 Qr prog .lss 3 b m fun o=>
 IfK o
 (Y7 1 c b fun p=>
 LdK a p fun q=>
 Qgh q fun r=>
 Qr prog .gtr 3 r (.int .i64 2147483647) fun s=>
 IfK s
 (R (.bool false) a)
 (Qr prog .add 3 b (.int .i64 1) fun t=>
 QZ f g [t,e] a))
 (d [e] a)) fun d=>∀u:Value,∀i:Qe,d [u] i->
 R (.bool true) i)
theorem w12 {a h R} (H:s12 a h R):FnS prog 12 #[a] h R:=wq Tryz.func12 (by kernel_rfl) H
def s13 (c:Value) (h:Qe) (R:Kn):Prop:=
 YQ c fun o=>
 Qr prog .gtr 3 o (.int .i64 2147483647) fun p=>
 IfK p
 (R (.bool false) h)
 (QG (fun d=>
 YQ c fun q=>
 YH [(.int .i64 0),(.bool false)] h fun f g=>∀a e:Value,∀b:Qe,f g [a,e] b->
 Qr prog .lss 3 a q fun r=>
 IfK r
 (Y7 3 c a fun s=>
 LdN b 3 s fun t=>
 YM b (.cells z87 87) fun i u=>
 StK u 3 i t fun j=>
 LdN j 3 i fun v=>
 Qb prog 64 #[v] j fun w l=>
 ZM prog (Op.unary .not w) fun y=>
 IfK y
 (R (.bool false) l)
 (Qr prog .add 3 a (.int .i64 1) fun z=>
 QZ f g [z,e] l))
 (d [e] b)) fun d=>∀a0:Value,∀m:Qe,d [a0] m->
 R (.bool true) m)
theorem w13 {a h R} (H:s13 a h R):FnS prog 13 #[a] h R:=wq Tryz.func13 (by kernel_rfl) H
theorem w23 {a h R} (H:tp23 26 z46 46 24 8 a h R):FnS prog 23 #[a] h R:=wq Tryz.func23 (by kernel_rfl) H
def mia2 (a:Value) (b:Qe) (R:Kn):Prop:=
 R a b
def mia1B (d:Value) (e:Value) (f:Value) (g:Value) (a:Qe) (k:Kn):Prop:=
 Y7 51 d f fun i=>
 LdN a 51 i fun j=>
 YM a (.cells z38 38) fun b l=>
 StK l 51 b j fun c=>
 LdN c 51 b fun m=>
 DynK prog e #[m] c fun o p=>
 QN p 51 1 (ZC z51.toList 1) [(0,51,o)] fun q r=>
 QdQ r 51 51 736 z51 g q fun s t=>
 k s t
def mia1 (a:Value) (b:Value) (h:Qe) (R:Kn):Prop:=
 QbO prog 3 a h (mia1B a b) fun c d=>mia2 c d R
def s24 (a b:Value) (h:Qe) (R:Kn):Prop:=
 mia1 a b h R
theorem w24 {a b h R} (H:s24 a b h R):FnS prog 24 #[a,b] h R:=wq Tryz.func24 (by kernel_rfl) H
def mib2 (a:Value) (b:Qe) (R:Kn):Prop:=
 R a b
def mib1B (d:Value) (e:Value) (f:Value) (g:Value) (a:Qe) (k:Kn):Prop:=
 Y7 7 d f fun i=>
 LdN a 7 i fun j=>
 YM a (.cells z75 75) fun b l=>
 StK l 7 b j fun c=>
 LdN c 7 b fun m=>
 DynK prog e #[m] c fun o p=>
 QN p 76 1 (ZC z76.toList 1) [(0,7,o)] fun q r=>
 QdQ r 76 7 32 z76 g q fun s t=>
 k s t
def mib1 (a:Value) (b:Value) (h:Qe) (R:Kn):Prop:=
 QbO prog 3 a h (mib1B a b) fun c d=>mib2 c d R
def s25 (a b:Value) (h:Qe) (R:Kn):Prop:=
 mib1 a b h R
theorem w25 {a b h R} (H:s25 a b h R):FnS prog 25 #[a,b] h R:=wq Tryz.func25 (by kernel_rfl) H
theorem w26 {a h R} (H:tp26 75 z76 76 7 a h R):FnS prog 26 #[a] h R:=wq Tryz.func26 (by kernel_rfl) H
def mic2 (a:Value) (b:Qe) (R:Kn):Prop:=
 R a b
def mic1B (d:Value) (e:Value) (f:Value) (g:Value) (a:Qe) (k:Kn):Prop:=
 Y7 2 d f fun i=>
 LdN a 2 i fun j=>
 YM a (.cells z80 80) fun b l=>
 StK l 2 b j fun c=>
 LdN c 2 b fun m=>
 DynK prog e #[m] c fun o p=>
 QN p 81 1 (ZC z81.toList 1) [(0,2,o)] fun q r=>
 QdQ r 81 2 4 z81 g q fun s t=>
 k s t
def mic1 (a:Value) (b:Value) (h:Qe) (R:Kn):Prop:=
 QbO prog 3 a h (mic1B a b) fun c d=>mic2 c d R
def s27 (a b:Value) (h:Qe) (R:Kn):Prop:=
 mic1 a b h R
theorem w27 {a b h R} (H:s27 a b h R):FnS prog 27 #[a,b] h R:=wq Tryz.func27 (by kernel_rfl) H
theorem w28 {a h R} (H:tp26 80 z81 81 2 a h R):FnS prog 28 #[a] h R:=wq Tryz.func28 (by kernel_rfl) H
theorem w29 {a h R} (H:tp76 a h R):FnS prog 29 #[a] h R:=wq Tryz.func29 (by kernel_rfl) H
def mid2 (a:Value) (b:Qe) (R:Kn):Prop:=
 R a b
def mid1B (d:Value) (e:Value) (f:Value) (g:Value) (a:Qe) (k:Kn):Prop:=
 Y7 3 d f fun i=>
 LdN a 3 i fun j=>
 YM a (.cells z87 87) fun b l=>
 StK l 3 b j fun c=>
 LdN c 3 b fun m=>
 DynK prog e #[m] c fun o p=>
 QN p 88 1 (ZC z88.toList 1) [(0,3,o)] fun q r=>
 QdQ r 88 3 32 z88 g q fun s t=>
 k s t
def mid1 (a:Value) (b:Value) (h:Qe) (R:Kn):Prop:=
 QbO prog 3 a h (mid1B a b) fun c d=>mid2 c d R
def s30 (a b:Value) (h:Qe) (R:Kn):Prop:=
 mid1 a b h R
theorem w30 {a b h R} (H:s30 a b h R):FnS prog 30 #[a,b] h R:=wq Tryz.func30 (by kernel_rfl) H
theorem w31 {a h R} (H:tp26 87 z88 88 3 a h R):FnS prog 31 #[a] h R:=wq Tryz.func31 (by kernel_rfl) H
theorem w32 {a h R} (H:tp76 a h R):FnS prog 32 #[a] h R:=wq Tryz.func32 (by kernel_rfl) H
def mie2 (a:Value) (b:Qe) (R:Kn):Prop:=
 R a b
def mie1B (d:Value) (e:Value) (f:Value) (g:Value) (a:Qe) (k:Kn):Prop:=
 Y7 2 d f fun i=>
 LdN a 2 i fun j=>
 YM a (.cells z93 93) fun b l=>
 StK l 2 b j fun c=>
 LdN c 2 b fun m=>
 DynK prog e #[m] c fun o p=>
 QN p 94 1 (ZC z94.toList 1) [(0,2,o)] fun q r=>
 QdQ r 94 2 8 z94 g q fun s t=>
 k s t
def mie1 (a:Value) (b:Value) (h:Qe) (R:Kn):Prop:=
 QbO prog 3 a h (mie1B a b) fun c d=>mie2 c d R
def s33 (a b:Value) (h:Qe) (R:Kn):Prop:=
 mie1 a b h R
theorem w33 {a b h R} (H:s33 a b h R):FnS prog 33 #[a,b] h R:=wq Tryz.func33 (by kernel_rfl) H
theorem w34 {a h R} (H:tp26 93 z94 94 2 a h R):FnS prog 34 #[a] h R:=wq Tryz.func34 (by kernel_rfl) H
theorem w35 {a h R} (H:tp26 80 z81 81 2 a h R):FnS prog 35 #[a] h R:=wq Tryz.func35 (by kernel_rfl) H
theorem w36 {a h R} (H:tp76 a h R):FnS prog 36 #[a] h R:=wq Tryz.func36 (by kernel_rfl) H
theorem w37 {a h R} (H:tp76 a h R):FnS prog 37 #[a] h R:=wq Tryz.func37 (by kernel_rfl) H
theorem w53 {a h R} (H:tp23 46 z26 26 54 11 a h R):FnS prog 53 #[a] h R:=wq Tryz.func53 (by kernel_rfl) H
def mja2 (a:Value) (b:Qe) (R:Kn):Prop:=
 R a b
def mja1B (d:Value) (e:Value) (f:Value) (g:Value) (a:Qe) (k:Kn):Prop:=
 Y7 51 d f fun i=>
 LdN a 51 i fun j=>
 YM a (.cells z51 51) fun b l=>
 StK l 51 b j fun c=>
 LdN c 51 b fun m=>
 DynK prog e #[m] c fun o p=>
 QN p 38 1 (ZC z38.toList 1) [(0,51,o)] fun q r=>
 QdQ r 38 51 736 z38 g q fun s t=>
 k s t
def mja1 (a:Value) (b:Value) (h:Qe) (R:Kn):Prop:=
 QbO prog 3 a h (mja1B a b) fun c d=>mja2 c d R
def s54 (a b:Value) (h:Qe) (R:Kn):Prop:=
 mja1 a b h R
theorem w54 {a b h R} (H:s54 a b h R):FnS prog 54 #[a,b] h R:=wq Tryz.func54 (by kernel_rfl) H
def mjb2 (a:Value) (b:Qe) (R:Kn):Prop:=
 R a b
def mjb1B (d:Value) (e:Value) (f:Value) (g:Value) (a:Qe) (k:Kn):Prop:=
 Y7 7 d f fun i=>
 LdN a 7 i fun j=>
 YM a (.cells z76 76) fun b l=>
 StK l 7 b j fun c=>
 LdN c 7 b fun m=>
 DynK prog e #[m] c fun o p=>
 QN p 75 1 (ZC z75.toList 1) [(0,7,o)] fun q r=>
 QdQ r 75 7 32 z75 g q fun s t=>
 k s t
def mjb1 (a:Value) (b:Value) (h:Qe) (R:Kn):Prop:=
 QbO prog 3 a h (mjb1B a b) fun c d=>mjb2 c d R
def s55 (a b:Value) (h:Qe) (R:Kn):Prop:=
 mjb1 a b h R
theorem w55 {a b h R} (H:s55 a b h R):FnS prog 55 #[a,b] h R:=wq Tryz.func55 (by kernel_rfl) H
theorem w56 {a h R} (H:tp26 76 z75 75 7 a h R):FnS prog 56 #[a] h R:=wq Tryz.func56 (by kernel_rfl) H
def mjc2 (a:Value) (b:Qe) (R:Kn):Prop:=
 R a b
def mjc1B (d:Value) (e:Value) (f:Value) (g:Value) (a:Qe) (k:Kn):Prop:=
 Y7 2 d f fun i=>
 LdN a 2 i fun j=>
 YM a (.cells z81 81) fun b l=>
 StK l 2 b j fun c=>
 LdN c 2 b fun m=>
 DynK prog e #[m] c fun o p=>
 QN p 80 1 (ZC z80.toList 1) [(0,2,o)] fun q r=>
 QdQ r 80 2 4 z80 g q fun s t=>
 k s t
def mjc1 (a:Value) (b:Value) (h:Qe) (R:Kn):Prop:=
 QbO prog 3 a h (mjc1B a b) fun c d=>mjc2 c d R
def s57 (a b:Value) (h:Qe) (R:Kn):Prop:=
 mjc1 a b h R
theorem w57 {a b h R} (H:s57 a b h R):FnS prog 57 #[a,b] h R:=wq Tryz.func57 (by kernel_rfl) H
theorem w58 {a h R} (H:tp26 81 z80 80 2 a h R):FnS prog 58 #[a] h R:=wq Tryz.func58 (by kernel_rfl) H
def mjd2 (a:Value) (b:Qe) (R:Kn):Prop:=
 R a b
def mjd1B (d:Value) (e:Value) (f:Value) (g:Value) (a:Qe) (k:Kn):Prop:=
 Y7 3 d f fun i=>
 LdN a 3 i fun j=>
 YM a (.cells z88 88) fun b l=>
 StK l 3 b j fun c=>
 LdN c 3 b fun m=>
 DynK prog e #[m] c fun o p=>
 QN p 87 1 (ZC z87.toList 1) [(0,3,o)] fun q r=>
 QdQ r 87 3 32 z87 g q fun s t=>
 k s t
def mjd1 (a:Value) (b:Value) (h:Qe) (R:Kn):Prop:=
 QbO prog 3 a h (mjd1B a b) fun c d=>mjd2 c d R
def s59 (a b:Value) (h:Qe) (R:Kn):Prop:=
 mjd1 a b h R
theorem w59 {a b h R} (H:s59 a b h R):FnS prog 59 #[a,b] h R:=wq Tryz.func59 (by kernel_rfl) H
theorem w60 {a h R} (H:tp26 88 z87 87 3 a h R):FnS prog 60 #[a] h R:=wq Tryz.func60 (by kernel_rfl) H
def mje2 (a:Value) (b:Qe) (R:Kn):Prop:=
 R a b
def mje1B (d:Value) (e:Value) (f:Value) (g:Value) (a:Qe) (k:Kn):Prop:=
 Y7 2 d f fun i=>
 LdN a 2 i fun j=>
 YM a (.cells z94 94) fun b l=>
 StK l 2 b j fun c=>
 LdN c 2 b fun m=>
 DynK prog e #[m] c fun o p=>
 QN p 93 1 (ZC z93.toList 1) [(0,2,o)] fun q r=>
 QdQ r 93 2 8 z93 g q fun s t=>
 k s t
def mje1 (a:Value) (b:Value) (h:Qe) (R:Kn):Prop:=
 QbO prog 3 a h (mje1B a b) fun c d=>mje2 c d R
def s61 (a b:Value) (h:Qe) (R:Kn):Prop:=
 mje1 a b h R
theorem w61 {a b h R} (H:s61 a b h R):FnS prog 61 #[a,b] h R:=wq Tryz.func61 (by kernel_rfl) H
theorem w62 {a h R} (H:tp26 94 z93 93 2 a h R):FnS prog 62 #[a] h R:=wq Tryz.func62 (by kernel_rfl) H
theorem w63 {a h R} (H:tp26 81 z80 80 2 a h R):FnS prog 63 #[a] h R:=wq Tryz.func63 (by kernel_rfl) H
def s64 (b:Value) (h:Qe) (R:Kn):Prop:=
 YM h (.cells (Value.cells b) 87) fun c a=>
 Qh c 0 fun d=>
 LdK a d fun e=>
 Qgh e fun f=>
 Qr prog .gtr 3 f (.int .i64 2147483647) fun g=>
 IfK g
 (R (.bool false) a)
 (R (.bool true) a)
theorem w64 {a h R} (H:s64 a h R):FnS prog 64 #[a] h R:=wq Tryz.func64 (by kernel_rfl) H
end Go.Proofs
namespace Go.Proofs
open Go Go.Vc
open Tryz (prog)
mutual
def LenM:GM->Prop
 |.mk d pos empty tables enemy test uniq amb=>(pos.length<=50/\empty.length<=50/\d.test4.length<=50/\d.abilities.length<=50/\d.test5.length<=50/\tables.length<=50/\enemy.length<=50/\test.length<=50/\uniq.length<=50/\amb.length<=50)/\(d.strings.length<=50/\d.bools.length<=50/\d.strings2.length<=50/\d.longs.length<=50/\d.doubles.length<=50/\d.refs.length<=50/\d.weak.length<=50/\d.strong.length<=50/\d.coOwnings.length<=50/\d.nonOwnings.length<=50)/\Qi2 tables/\Qi2 enemy/\Qi2 test/\Qi2 uniq/\Qi2 amb
def Qi2:List GM->Prop
 |[]=>True
 |g::gs=>LenM g/\Qi2 gs
end
theorem Qi2.get:∀{gs:List GM},Qi2 gs->∀g∈gs,LenM g
 |[],_,g,h=>by simp at h
 |g'::gs,hs,g,h=>by
  rw[Qi2]at hs
  rcases List.mem_cons.1 h with h|h
  ·rw[h];exact hs.1
  ·exact Qi2.get hs.2 g h
theorem Qb1 {f:FuncId} {args:Array Value} {H:Qe} {k:Kn} (h1:((prog).funcs[f]?).any (fun fn=>fn.body.isSome&&fn.name != "runtime.NumGoroutine")=true) (h:FnS prog f args H k):DynK prog (.func (.func f) #[] #[]) args H k:=by
 refine ⟨h1,?_⟩
 show FnS prog f (#[]++args++#[]) H k
 have:#[]++args++#[]=args:=by simp
 rw[this];exact h
theorem Qfx {H:Qe} {es:Nat} {it:List Value} {z:Array Value} {t:TypeId} (hl:it.length=es) (h0:0<es) (hz:z.size=es) (hone:∀x∈it,x.oneCell'=true) {k:Kn} (hk:k (.agg it.toArray) (H.push (.cells it.toArray t (0,0)))):
  YM H (.cells z t) fun y h2=>StK h2 es y (.agg it.toArray) fun h3=>LdN h3 es y fun x=>k x h3:=by
 rw[Q3,Ye (n:=es) (c':=it.toArray) Qg hz (by simpa using hl) h0 (by simpa using hone),YJ,Y0 (n:=es) (vs:=it) (by rw[Q0 Qg es (by simp[hl])];simp[<-hl])]
 exact hk
theorem ZA {F:Cut} {es:Nat} {v:Value} {items:List (List Value)} (h:SlV F es v items) {H:Qe} (hF:F.In H) {i:Nat} {it:List Value} (hi:items[i]?=some it) {k:Value->Prop} (hk:k (.agg it.toArray)):Y7 es v (.int .i64 (i:Nat)) fun p=>LdN H es p k:=by
 obtain ⟨b,o,cells',e',fr,h1,h2,h3,h4⟩:=h.idx hF (i:=i) rfl hi
 rw[h1,Y0 (n:=es) (vs:=it) (by rw[Q0 h2 es (by omega)];exact congrArg some h4)]
 exact hk
theorem Qhs {G:Cut} {H:Qe} (hG:G.In H) {it:List Value} (hl:it.length=7) (hone:∀x∈it,x.oneCell'=true) {R:Kn} (hR:∀H',Ext G H G H'->R (.agg it.toArray) H'):FnS prog 26 #[.agg it.toArray] H R:=by
 apply w26
 unfold tp26
 rw[Q3,Q3]
 have e:=Ext.refl hG
 have o1:Yj H G (H.push (.cells (Value.agg it.toArray).cells 75)) H.size (.cells it.toArray 75 (0,0)):=Yj.fresh e _
 have e:=e.push (.cells (Value.agg it.toArray).cells 75)
 generalize H.push (.cells (Value.agg it.toArray).cells 75)=H1 at *
 have o2:=Yj.fresh e (.cells z76 76)
 have o1:=o1.push (.cells z76 76)
 have e:=e.push (.cells z76 76)
 generalize H1.push (.cells z76 76)=H2 at *
 rw[Y0 (n:=7) (vs:=it) (by rw[Q0 o1.get 7 (by simp[hl])];simp[<-hl]),Ye (n:=7) (c':=it.toArray) o2.get rfl (by simpa using hl) (by decide) (by simpa using hone)]
 have e:=e.set o2.out o2.new (.cells it.toArray 76 (0,0))
 have o2:=o2.set (.cells it.toArray 76 (0,0))
 rw[Y0 (n:=7) (vs:=it) (by rw[Q0 o2.get 7 (by simp[hl])];simp[<-hl])]
 exact hR _ e
theorem mib_ok {G:Cut} {H:Qe} (hG:G.In H) {l:List Qav} {v:Value} (hs:SlV G 7 v (l.map YS)) (hl:l.length<=50) {R:Kn} (hR:∀G' H' v',Ext G H G' H'->SlV G' 7 v' (l.map YS)->R v' H'):FnS prog 25 #[v,.func (.func 26) #[] #[]] H R:=by
 have hone:∀t,∀x∈YS t,x.oneCell'=true:=fun t x hx=>by
  simp[YS]at hx
  first
   |(rcases hx with rfl|rfl|rfl|rfl|rfl|rfl|rfl<;>rfl)
   |(rcases hx with rfl|rfl|rfl<;>rfl)
   |(rcases hx with rfl|rfl<;>rfl)
 apply w25
 unfold s25 mib1
 refine Qaq hG (et:=76) (es:=7) (n:=l.length) (fun F i items=>items=(l.take i).map YS) (by simp) (by omega) (fun k=>by rw[hs.len,List.length_map]) ?_ ?_
 ·rintro i y G1 H1 items k hlt e c rfl hk
  have ha:=List.getElem?_eq_getElem hlt
  unfold mib1B
  refine ZA (hs.mono e.le) e.inn (i:=i) (it:=YS l[i]) (by rw[List.getElem?_map,ha];rfl) ?_
  refine Qfx (es:=7) (it:=YS l[i]) rfl (by decide) rfl (hone _) ?_
  have e1:=e.push (.cells (YS l[i]).toArray 75 (0,0))
  have c1:=c.push (.cells (YS l[i]).toArray 75 (0,0))
  generalize H1.push (.cells (YS l[i]).toArray 75 (0,0))=H2 at *
  refine Qb1 (by kernel_rfl) ?_
  refine Qhs e1.inn rfl (hone _) ?_
  intro H3 e3
  refine Qap (e1.trans e3) (c1.ext e3) (v:=.agg (YS l[i]).toArray) (it:=YS l[i]) rfl rfl (hone _) (by decide) rfl (by decide) (by rw[List.length_map,List.length_take];omega) ?_
  intro c' H' e4 c4
  exact hk c' _ H' _ e4 c4 (Y8 ha).symm
 ·rintro y G1 G2 H2 items e2 sl rfl hle hnil
  rw[List.take_length]at sl
  exact hR G2 H2 y e2 sl
theorem Qhk {G:Cut} {H:Qe} (hG:G.In H) {it:List Value} (hl:it.length=2) (hone:∀x∈it,x.oneCell'=true) {R:Kn} (hR:∀H',Ext G H G H'->R (.agg it.toArray) H'):FnS prog 28 #[.agg it.toArray] H R:=by
 apply w28
 unfold tp26
 rw[Q3,Q3]
 have e:=Ext.refl hG
 have o1:Yj H G (H.push (.cells (Value.agg it.toArray).cells 80)) H.size (.cells it.toArray 80 (0,0)):=Yj.fresh e _
 have e:=e.push (.cells (Value.agg it.toArray).cells 80)
 generalize H.push (.cells (Value.agg it.toArray).cells 80)=H1 at *
 have o2:=Yj.fresh e (.cells z81 81)
 have o1:=o1.push (.cells z81 81)
 have e:=e.push (.cells z81 81)
 generalize H1.push (.cells z81 81)=H2 at *
 rw[Y0 (n:=2) (vs:=it) (by rw[Q0 o1.get 2 (by simp[hl])];simp[<-hl]),Ye (n:=2) (c':=it.toArray) o2.get rfl (by simpa using hl) (by decide) (by simpa using hone)]
 have e:=e.set o2.out o2.new (.cells it.toArray 81 (0,0))
 have o2:=o2.set (.cells it.toArray 81 (0,0))
 rw[Y0 (n:=2) (vs:=it) (by rw[Q0 o2.get 2 (by simp[hl])];simp[<-hl])]
 exact hR _ e
theorem QhB {G:Cut} {H:Qe} (hG:G.In H) {it:List Value} (hl:it.length=2) (hone:∀x∈it,x.oneCell'=true) {R:Kn} (hR:∀H',Ext G H G H'->R (.agg it.toArray) H'):FnS prog 35 #[.agg it.toArray] H R:=by
 apply w35
 unfold tp26
 rw[Q3,Q3]
 have e:=Ext.refl hG
 have o1:Yj H G (H.push (.cells (Value.agg it.toArray).cells 80)) H.size (.cells it.toArray 80 (0,0)):=Yj.fresh e _
 have e:=e.push (.cells (Value.agg it.toArray).cells 80)
 generalize H.push (.cells (Value.agg it.toArray).cells 80)=H1 at *
 have o2:=Yj.fresh e (.cells z81 81)
 have o1:=o1.push (.cells z81 81)
 have e:=e.push (.cells z81 81)
 generalize H1.push (.cells z81 81)=H2 at *
 rw[Y0 (n:=2) (vs:=it) (by rw[Q0 o1.get 2 (by simp[hl])];simp[<-hl]),Ye (n:=2) (c':=it.toArray) o2.get rfl (by simpa using hl) (by decide) (by simpa using hone)]
 have e:=e.set o2.out o2.new (.cells it.toArray 81 (0,0))
 have o2:=o2.set (.cells it.toArray 81 (0,0))
 rw[Y0 (n:=2) (vs:=it) (by rw[Q0 o2.get 2 (by simp[hl])];simp[<-hl])]
 exact hR _ e
theorem mic_ok {G:Cut} {H:Qe} (hG:G.In H) {l:List Qbf} {v:Value} (hs:SlV G 2 v (l.map Yg)) (hl:l.length<=50) {R:Kn} (hR:∀G' H' v',Ext G H G' H'->SlV G' 2 v' (l.map Yg)->R v' H'):FnS prog 27 #[v,.func (.func 28) #[] #[]] H R:=by
 have hone:∀t,∀x∈Yg t,x.oneCell'=true:=fun t x hx=>by
  simp[Yg]at hx
  first
   |(rcases hx with rfl|rfl|rfl|rfl|rfl|rfl|rfl<;>rfl)
   |(rcases hx with rfl|rfl|rfl<;>rfl)
   |(rcases hx with rfl|rfl<;>rfl)
 apply w27
 unfold s27 mic1
 refine Qaq hG (et:=81) (es:=2) (n:=l.length) (fun F i items=>items=(l.take i).map Yg) (by simp) (by omega) (fun k=>by rw[hs.len,List.length_map]) ?_ ?_
 ·rintro i y G1 H1 items k hlt e c rfl hk
  have ha:=List.getElem?_eq_getElem hlt
  unfold mic1B
  refine ZA (hs.mono e.le) e.inn (i:=i) (it:=Yg l[i]) (by rw[List.getElem?_map,ha];rfl) ?_
  refine Qfx (es:=2) (it:=Yg l[i]) rfl (by decide) rfl (hone _) ?_
  have e1:=e.push (.cells (Yg l[i]).toArray 80 (0,0))
  have c1:=c.push (.cells (Yg l[i]).toArray 80 (0,0))
  generalize H1.push (.cells (Yg l[i]).toArray 80 (0,0))=H2 at *
  refine Qb1 (by kernel_rfl) ?_
  refine Qhk e1.inn rfl (hone _) ?_
  intro H3 e3
  refine Qap (e1.trans e3) (c1.ext e3) (v:=.agg (Yg l[i]).toArray) (it:=Yg l[i]) rfl rfl (hone _) (by decide) rfl (by decide) (by rw[List.length_map,List.length_take];omega) ?_
  intro c' H' e4 c4
  exact hk c' _ H' _ e4 c4 (Y8 ha).symm
 ·rintro y G1 G2 H2 items e2 sl rfl hle hnil
  rw[List.take_length]at sl
  exact hR G2 H2 y e2 sl
theorem mic2_ok {G:Cut} {H:Qe} (hG:G.In H) {l:List Qbf} {v:Value} (hs:SlV G 2 v (l.map Yg)) (hl:l.length<=50) {R:Kn} (hR:∀G' H' v',Ext G H G' H'->SlV G' 2 v' (l.map Yg)->R v' H'):FnS prog 27 #[v,.func (.func 35) #[] #[]] H R:=by
 have hone:∀t,∀x∈Yg t,x.oneCell'=true:=fun t x hx=>by
  simp[Yg]at hx
  first
   |(rcases hx with rfl|rfl|rfl|rfl|rfl|rfl|rfl<;>rfl)
   |(rcases hx with rfl|rfl|rfl<;>rfl)
   |(rcases hx with rfl|rfl<;>rfl)
 apply w27
 unfold s27 mic1
 refine Qaq hG (et:=81) (es:=2) (n:=l.length) (fun F i items=>items=(l.take i).map Yg) (by simp) (by omega) (fun k=>by rw[hs.len,List.length_map]) ?_ ?_
 ·rintro i y G1 H1 items k hlt e c rfl hk
  have ha:=List.getElem?_eq_getElem hlt
  unfold mic1B
  refine ZA (hs.mono e.le) e.inn (i:=i) (it:=Yg l[i]) (by rw[List.getElem?_map,ha];rfl) ?_
  refine Qfx (es:=2) (it:=Yg l[i]) rfl (by decide) rfl (hone _) ?_
  have e1:=e.push (.cells (Yg l[i]).toArray 80 (0,0))
  have c1:=c.push (.cells (Yg l[i]).toArray 80 (0,0))
  generalize H1.push (.cells (Yg l[i]).toArray 80 (0,0))=H2 at *
  refine Qb1 (by kernel_rfl) ?_
  refine QhB e1.inn rfl (hone _) ?_
  intro H3 e3
  refine Qap (e1.trans e3) (c1.ext e3) (v:=.agg (Yg l[i]).toArray) (it:=Yg l[i]) rfl rfl (hone _) (by decide) rfl (by decide) (by rw[List.length_map,List.length_take];omega) ?_
  intro c' H' e4 c4
  exact hk c' _ H' _ e4 c4 (Y8 ha).symm
 ·rintro y G1 G2 H2 items e2 sl rfl hle hnil
  rw[List.take_length]at sl
  exact hR G2 H2 y e2 sl
theorem Qhm {G:Cut} {H:Qe} (hG:G.In H) {it:List Value} (hl:it.length=3) (hone:∀x∈it,x.oneCell'=true) {R:Kn} (hR:∀H',Ext G H G H'->R (.agg it.toArray) H'):FnS prog 31 #[.agg it.toArray] H R:=by
 apply w31
 unfold tp26
 rw[Q3,Q3]
 have e:=Ext.refl hG
 have o1:Yj H G (H.push (.cells (Value.agg it.toArray).cells 87)) H.size (.cells it.toArray 87 (0,0)):=Yj.fresh e _
 have e:=e.push (.cells (Value.agg it.toArray).cells 87)
 generalize H.push (.cells (Value.agg it.toArray).cells 87)=H1 at *
 have o2:=Yj.fresh e (.cells z88 88)
 have o1:=o1.push (.cells z88 88)
 have e:=e.push (.cells z88 88)
 generalize H1.push (.cells z88 88)=H2 at *
 rw[Y0 (n:=3) (vs:=it) (by rw[Q0 o1.get 3 (by simp[hl])];simp[<-hl]),Ye (n:=3) (c':=it.toArray) o2.get rfl (by simpa using hl) (by decide) (by simpa using hone)]
 have e:=e.set o2.out o2.new (.cells it.toArray 88 (0,0))
 have o2:=o2.set (.cells it.toArray 88 (0,0))
 rw[Y0 (n:=3) (vs:=it) (by rw[Q0 o2.get 3 (by simp[hl])];simp[<-hl])]
 exact hR _ e
theorem mid_ok {G:Cut} {H:Qe} (hG:G.In H) {l:List Qan} {v:Value} (hs:SlV G 3 v (l.map Y3)) (hl:l.length<=50) {R:Kn} (hR:∀G' H' v',Ext G H G' H'->SlV G' 3 v' (l.map Y3)->R v' H'):FnS prog 30 #[v,.func (.func 31) #[] #[]] H R:=by
 have hone:∀t,∀x∈Y3 t,x.oneCell'=true:=fun t x hx=>by
  simp[Y3]at hx
  first
   |(rcases hx with rfl|rfl|rfl|rfl|rfl|rfl|rfl<;>rfl)
   |(rcases hx with rfl|rfl|rfl<;>rfl)
   |(rcases hx with rfl|rfl<;>rfl)
 apply w30
 unfold s30 mid1
 refine Qaq hG (et:=88) (es:=3) (n:=l.length) (fun F i items=>items=(l.take i).map Y3) (by simp) (by omega) (fun k=>by rw[hs.len,List.length_map]) ?_ ?_
 ·rintro i y G1 H1 items k hlt e c rfl hk
  have ha:=List.getElem?_eq_getElem hlt
  unfold mid1B
  refine ZA (hs.mono e.le) e.inn (i:=i) (it:=Y3 l[i]) (by rw[List.getElem?_map,ha];rfl) ?_
  refine Qfx (es:=3) (it:=Y3 l[i]) rfl (by decide) rfl (hone _) ?_
  have e1:=e.push (.cells (Y3 l[i]).toArray 87 (0,0))
  have c1:=c.push (.cells (Y3 l[i]).toArray 87 (0,0))
  generalize H1.push (.cells (Y3 l[i]).toArray 87 (0,0))=H2 at *
  refine Qb1 (by kernel_rfl) ?_
  refine Qhm e1.inn rfl (hone _) ?_
  intro H3 e3
  refine Qap (e1.trans e3) (c1.ext e3) (v:=.agg (Y3 l[i]).toArray) (it:=Y3 l[i]) rfl rfl (hone _) (by decide) rfl (by decide) (by rw[List.length_map,List.length_take];omega) ?_
  intro c' H' e4 c4
  exact hk c' _ H' _ e4 c4 (Y8 ha).symm
 ·rintro y G1 G2 H2 items e2 sl rfl hle hnil
  rw[List.take_length]at sl
  exact hR G2 H2 y e2 sl
theorem QhD {G:Cut} {H:Qe} (hG:G.In H) {it:List Value} (hl:it.length=2) (hone:∀x∈it,x.oneCell'=true) {R:Kn} (hR:∀H',Ext G H G H'->R (.agg it.toArray) H'):FnS prog 34 #[.agg it.toArray] H R:=by
 apply w34
 unfold tp26
 rw[Q3,Q3]
 have e:=Ext.refl hG
 have o1:Yj H G (H.push (.cells (Value.agg it.toArray).cells 93)) H.size (.cells it.toArray 93 (0,0)):=Yj.fresh e _
 have e:=e.push (.cells (Value.agg it.toArray).cells 93)
 generalize H.push (.cells (Value.agg it.toArray).cells 93)=H1 at *
 have o2:=Yj.fresh e (.cells z94 94)
 have o1:=o1.push (.cells z94 94)
 have e:=e.push (.cells z94 94)
 generalize H1.push (.cells z94 94)=H2 at *
 rw[Y0 (n:=2) (vs:=it) (by rw[Q0 o1.get 2 (by simp[hl])];simp[<-hl]),Ye (n:=2) (c':=it.toArray) o2.get rfl (by simpa using hl) (by decide) (by simpa using hone)]
 have e:=e.set o2.out o2.new (.cells it.toArray 94 (0,0))
 have o2:=o2.set (.cells it.toArray 94 (0,0))
 rw[Y0 (n:=2) (vs:=it) (by rw[Q0 o2.get 2 (by simp[hl])];simp[<-hl])]
 exact hR _ e
theorem mie_ok {G:Cut} {H:Qe} (hG:G.In H) {l:List Qe7} {v:Value} (hs:SlV G 2 v (l.map Ze)) (hl:l.length<=50) {R:Kn} (hR:∀G' H' v',Ext G H G' H'->SlV G' 2 v' (l.map Ze)->R v' H'):FnS prog 33 #[v,.func (.func 34) #[] #[]] H R:=by
 have hone:∀t,∀x∈Ze t,x.oneCell'=true:=fun t x hx=>by
  simp[Ze]at hx
  first
   |(rcases hx with rfl|rfl|rfl|rfl|rfl|rfl|rfl<;>rfl)
   |(rcases hx with rfl|rfl|rfl<;>rfl)
   |(rcases hx with rfl|rfl<;>rfl)
 apply w33
 unfold s33 mie1
 refine Qaq hG (et:=94) (es:=2) (n:=l.length) (fun F i items=>items=(l.take i).map Ze) (by simp) (by omega) (fun k=>by rw[hs.len,List.length_map]) ?_ ?_
 ·rintro i y G1 H1 items k hlt e c rfl hk
  have ha:=List.getElem?_eq_getElem hlt
  unfold mie1B
  refine ZA (hs.mono e.le) e.inn (i:=i) (it:=Ze l[i]) (by rw[List.getElem?_map,ha];rfl) ?_
  refine Qfx (es:=2) (it:=Ze l[i]) rfl (by decide) rfl (hone _) ?_
  have e1:=e.push (.cells (Ze l[i]).toArray 93 (0,0))
  have c1:=c.push (.cells (Ze l[i]).toArray 93 (0,0))
  generalize H1.push (.cells (Ze l[i]).toArray 93 (0,0))=H2 at *
  refine Qb1 (by kernel_rfl) ?_
  refine QhD e1.inn rfl (hone _) ?_
  intro H3 e3
  refine Qap (e1.trans e3) (c1.ext e3) (v:=.agg (Ze l[i]).toArray) (it:=Ze l[i]) rfl rfl (hone _) (by decide) rfl (by decide) (by rw[List.length_map,List.length_take];omega) ?_
  intro c' H' e4 c4
  exact hk c' _ H' _ e4 c4 (Y8 ha).symm
 ·rintro y G1 G2 H2 items e2 sl rfl hle hnil
  rw[List.take_length]at sl
  exact hR G2 H2 y e2 sl
theorem QhG {G:Cut} {H:Qe} (hG:G.In H) {it:List Value} (hl:it.length=7) (hone:∀x∈it,x.oneCell'=true) {R:Kn} (hR:∀H',Ext G H G H'->R (.agg it.toArray) H'):FnS prog 56 #[.agg it.toArray] H R:=by
 apply w56
 unfold tp26
 rw[Q3,Q3]
 have e:=Ext.refl hG
 have o1:Yj H G (H.push (.cells (Value.agg it.toArray).cells 76)) H.size (.cells it.toArray 76 (0,0)):=Yj.fresh e _
 have e:=e.push (.cells (Value.agg it.toArray).cells 76)
 generalize H.push (.cells (Value.agg it.toArray).cells 76)=H1 at *
 have o2:=Yj.fresh e (.cells z75 75)
 have o1:=o1.push (.cells z75 75)
 have e:=e.push (.cells z75 75)
 generalize H1.push (.cells z75 75)=H2 at *
 rw[Y0 (n:=7) (vs:=it) (by rw[Q0 o1.get 7 (by simp[hl])];simp[<-hl]),Ye (n:=7) (c':=it.toArray) o2.get rfl (by simpa using hl) (by decide) (by simpa using hone)]
 have e:=e.set o2.out o2.new (.cells it.toArray 75 (0,0))
 have o2:=o2.set (.cells it.toArray 75 (0,0))
 rw[Y0 (n:=7) (vs:=it) (by rw[Q0 o2.get 7 (by simp[hl])];simp[<-hl])]
 exact hR _ e
theorem mjb_ok {G:Cut} {H:Qe} (hG:G.In H) {l:List Qav} {v:Value} (hs:SlV G 7 v (l.map YS)) (hl:l.length<=50) {R:Kn} (hR:∀G' H' v',Ext G H G' H'->SlV G' 7 v' (l.map YS)->R v' H'):FnS prog 55 #[v,.func (.func 56) #[] #[]] H R:=by
 have hone:∀t,∀x∈YS t,x.oneCell'=true:=fun t x hx=>by
  simp[YS]at hx
  first
   |(rcases hx with rfl|rfl|rfl|rfl|rfl|rfl|rfl<;>rfl)
   |(rcases hx with rfl|rfl|rfl<;>rfl)
   |(rcases hx with rfl|rfl<;>rfl)
 apply w55
 unfold s55 mjb1
 refine Qaq hG (et:=75) (es:=7) (n:=l.length) (fun F i items=>items=(l.take i).map YS) (by simp) (by omega) (fun k=>by rw[hs.len,List.length_map]) ?_ ?_
 ·rintro i y G1 H1 items k hlt e c rfl hk
  have ha:=List.getElem?_eq_getElem hlt
  unfold mjb1B
  refine ZA (hs.mono e.le) e.inn (i:=i) (it:=YS l[i]) (by rw[List.getElem?_map,ha];rfl) ?_
  refine Qfx (es:=7) (it:=YS l[i]) rfl (by decide) rfl (hone _) ?_
  have e1:=e.push (.cells (YS l[i]).toArray 76 (0,0))
  have c1:=c.push (.cells (YS l[i]).toArray 76 (0,0))
  generalize H1.push (.cells (YS l[i]).toArray 76 (0,0))=H2 at *
  refine Qb1 (by kernel_rfl) ?_
  refine QhG e1.inn rfl (hone _) ?_
  intro H3 e3
  refine Qap (e1.trans e3) (c1.ext e3) (v:=.agg (YS l[i]).toArray) (it:=YS l[i]) rfl rfl (hone _) (by decide) rfl (by decide) (by rw[List.length_map,List.length_take];omega) ?_
  intro c' H' e4 c4
  exact hk c' _ H' _ e4 c4 (Y8 ha).symm
 ·rintro y G1 G2 H2 items e2 sl rfl hle hnil
  rw[List.take_length]at sl
  exact hR G2 H2 y e2 sl
theorem QhC {G:Cut} {H:Qe} (hG:G.In H) {it:List Value} (hl:it.length=2) (hone:∀x∈it,x.oneCell'=true) {R:Kn} (hR:∀H',Ext G H G H'->R (.agg it.toArray) H'):FnS prog 58 #[.agg it.toArray] H R:=by
 apply w58
 unfold tp26
 rw[Q3,Q3]
 have e:=Ext.refl hG
 have o1:Yj H G (H.push (.cells (Value.agg it.toArray).cells 81)) H.size (.cells it.toArray 81 (0,0)):=Yj.fresh e _
 have e:=e.push (.cells (Value.agg it.toArray).cells 81)
 generalize H.push (.cells (Value.agg it.toArray).cells 81)=H1 at *
 have o2:=Yj.fresh e (.cells z80 80)
 have o1:=o1.push (.cells z80 80)
 have e:=e.push (.cells z80 80)
 generalize H1.push (.cells z80 80)=H2 at *
 rw[Y0 (n:=2) (vs:=it) (by rw[Q0 o1.get 2 (by simp[hl])];simp[<-hl]),Ye (n:=2) (c':=it.toArray) o2.get rfl (by simpa using hl) (by decide) (by simpa using hone)]
 have e:=e.set o2.out o2.new (.cells it.toArray 80 (0,0))
 have o2:=o2.set (.cells it.toArray 80 (0,0))
 rw[Y0 (n:=2) (vs:=it) (by rw[Q0 o2.get 2 (by simp[hl])];simp[<-hl])]
 exact hR _ e
theorem Qhp {G:Cut} {H:Qe} (hG:G.In H) {it:List Value} (hl:it.length=2) (hone:∀x∈it,x.oneCell'=true) {R:Kn} (hR:∀H',Ext G H G H'->R (.agg it.toArray) H'):FnS prog 63 #[.agg it.toArray] H R:=by
 apply w63
 unfold tp26
 rw[Q3,Q3]
 have e:=Ext.refl hG
 have o1:Yj H G (H.push (.cells (Value.agg it.toArray).cells 81)) H.size (.cells it.toArray 81 (0,0)):=Yj.fresh e _
 have e:=e.push (.cells (Value.agg it.toArray).cells 81)
 generalize H.push (.cells (Value.agg it.toArray).cells 81)=H1 at *
 have o2:=Yj.fresh e (.cells z80 80)
 have o1:=o1.push (.cells z80 80)
 have e:=e.push (.cells z80 80)
 generalize H1.push (.cells z80 80)=H2 at *
 rw[Y0 (n:=2) (vs:=it) (by rw[Q0 o1.get 2 (by simp[hl])];simp[<-hl]),Ye (n:=2) (c':=it.toArray) o2.get rfl (by simpa using hl) (by decide) (by simpa using hone)]
 have e:=e.set o2.out o2.new (.cells it.toArray 80 (0,0))
 have o2:=o2.set (.cells it.toArray 80 (0,0))
 rw[Y0 (n:=2) (vs:=it) (by rw[Q0 o2.get 2 (by simp[hl])];simp[<-hl])]
 exact hR _ e
theorem mjc_ok {G:Cut} {H:Qe} (hG:G.In H) {l:List Qbf} {v:Value} (hs:SlV G 2 v (l.map Yg)) (hl:l.length<=50) {R:Kn} (hR:∀G' H' v',Ext G H G' H'->SlV G' 2 v' (l.map Yg)->R v' H'):FnS prog 57 #[v,.func (.func 58) #[] #[]] H R:=by
 have hone:∀t,∀x∈Yg t,x.oneCell'=true:=fun t x hx=>by
  simp[Yg]at hx
  first
   |(rcases hx with rfl|rfl|rfl|rfl|rfl|rfl|rfl<;>rfl)
   |(rcases hx with rfl|rfl|rfl<;>rfl)
   |(rcases hx with rfl|rfl<;>rfl)
 apply w57
 unfold s57 mjc1
 refine Qaq hG (et:=80) (es:=2) (n:=l.length) (fun F i items=>items=(l.take i).map Yg) (by simp) (by omega) (fun k=>by rw[hs.len,List.length_map]) ?_ ?_
 ·rintro i y G1 H1 items k hlt e c rfl hk
  have ha:=List.getElem?_eq_getElem hlt
  unfold mjc1B
  refine ZA (hs.mono e.le) e.inn (i:=i) (it:=Yg l[i]) (by rw[List.getElem?_map,ha];rfl) ?_
  refine Qfx (es:=2) (it:=Yg l[i]) rfl (by decide) rfl (hone _) ?_
  have e1:=e.push (.cells (Yg l[i]).toArray 81 (0,0))
  have c1:=c.push (.cells (Yg l[i]).toArray 81 (0,0))
  generalize H1.push (.cells (Yg l[i]).toArray 81 (0,0))=H2 at *
  refine Qb1 (by kernel_rfl) ?_
  refine QhC e1.inn rfl (hone _) ?_
  intro H3 e3
  refine Qap (e1.trans e3) (c1.ext e3) (v:=.agg (Yg l[i]).toArray) (it:=Yg l[i]) rfl rfl (hone _) (by decide) rfl (by decide) (by rw[List.length_map,List.length_take];omega) ?_
  intro c' H' e4 c4
  exact hk c' _ H' _ e4 c4 (Y8 ha).symm
 ·rintro y G1 G2 H2 items e2 sl rfl hle hnil
  rw[List.take_length]at sl
  exact hR G2 H2 y e2 sl
theorem mjc2_ok {G:Cut} {H:Qe} (hG:G.In H) {l:List Qbf} {v:Value} (hs:SlV G 2 v (l.map Yg)) (hl:l.length<=50) {R:Kn} (hR:∀G' H' v',Ext G H G' H'->SlV G' 2 v' (l.map Yg)->R v' H'):FnS prog 57 #[v,.func (.func 63) #[] #[]] H R:=by
 have hone:∀t,∀x∈Yg t,x.oneCell'=true:=fun t x hx=>by
  simp[Yg]at hx
  first
   |(rcases hx with rfl|rfl|rfl|rfl|rfl|rfl|rfl<;>rfl)
   |(rcases hx with rfl|rfl|rfl<;>rfl)
   |(rcases hx with rfl|rfl<;>rfl)
 apply w57
 unfold s57 mjc1
 refine Qaq hG (et:=80) (es:=2) (n:=l.length) (fun F i items=>items=(l.take i).map Yg) (by simp) (by omega) (fun k=>by rw[hs.len,List.length_map]) ?_ ?_
 ·rintro i y G1 H1 items k hlt e c rfl hk
  have ha:=List.getElem?_eq_getElem hlt
  unfold mjc1B
  refine ZA (hs.mono e.le) e.inn (i:=i) (it:=Yg l[i]) (by rw[List.getElem?_map,ha];rfl) ?_
  refine Qfx (es:=2) (it:=Yg l[i]) rfl (by decide) rfl (hone _) ?_
  have e1:=e.push (.cells (Yg l[i]).toArray 81 (0,0))
  have c1:=c.push (.cells (Yg l[i]).toArray 81 (0,0))
  generalize H1.push (.cells (Yg l[i]).toArray 81 (0,0))=H2 at *
  refine Qb1 (by kernel_rfl) ?_
  refine Qhp e1.inn rfl (hone _) ?_
  intro H3 e3
  refine Qap (e1.trans e3) (c1.ext e3) (v:=.agg (Yg l[i]).toArray) (it:=Yg l[i]) rfl rfl (hone _) (by decide) rfl (by decide) (by rw[List.length_map,List.length_take];omega) ?_
  intro c' H' e4 c4
  exact hk c' _ H' _ e4 c4 (Y8 ha).symm
 ·rintro y G1 G2 H2 items e2 sl rfl hle hnil
  rw[List.take_length]at sl
  exact hR G2 H2 y e2 sl
theorem Qhl {G:Cut} {H:Qe} (hG:G.In H) {it:List Value} (hl:it.length=3) (hone:∀x∈it,x.oneCell'=true) {R:Kn} (hR:∀H',Ext G H G H'->R (.agg it.toArray) H'):FnS prog 60 #[.agg it.toArray] H R:=by
 apply w60
 unfold tp26
 rw[Q3,Q3]
 have e:=Ext.refl hG
 have o1:Yj H G (H.push (.cells (Value.agg it.toArray).cells 88)) H.size (.cells it.toArray 88 (0,0)):=Yj.fresh e _
 have e:=e.push (.cells (Value.agg it.toArray).cells 88)
 generalize H.push (.cells (Value.agg it.toArray).cells 88)=H1 at *
 have o2:=Yj.fresh e (.cells z87 87)
 have o1:=o1.push (.cells z87 87)
 have e:=e.push (.cells z87 87)
 generalize H1.push (.cells z87 87)=H2 at *
 rw[Y0 (n:=3) (vs:=it) (by rw[Q0 o1.get 3 (by simp[hl])];simp[<-hl]),Ye (n:=3) (c':=it.toArray) o2.get rfl (by simpa using hl) (by decide) (by simpa using hone)]
 have e:=e.set o2.out o2.new (.cells it.toArray 87 (0,0))
 have o2:=o2.set (.cells it.toArray 87 (0,0))
 rw[Y0 (n:=3) (vs:=it) (by rw[Q0 o2.get 3 (by simp[hl])];simp[<-hl])]
 exact hR _ e
theorem mjd_ok {G:Cut} {H:Qe} (hG:G.In H) {l:List Qan} {v:Value} (hs:SlV G 3 v (l.map Y3)) (hl:l.length<=50) {R:Kn} (hR:∀G' H' v',Ext G H G' H'->SlV G' 3 v' (l.map Y3)->R v' H'):FnS prog 59 #[v,.func (.func 60) #[] #[]] H R:=by
 have hone:∀t,∀x∈Y3 t,x.oneCell'=true:=fun t x hx=>by
  simp[Y3]at hx
  first
   |(rcases hx with rfl|rfl|rfl|rfl|rfl|rfl|rfl<;>rfl)
   |(rcases hx with rfl|rfl|rfl<;>rfl)
   |(rcases hx with rfl|rfl<;>rfl)
 apply w59
 unfold s59 mjd1
 refine Qaq hG (et:=87) (es:=3) (n:=l.length) (fun F i items=>items=(l.take i).map Y3) (by simp) (by omega) (fun k=>by rw[hs.len,List.length_map]) ?_ ?_
 ·rintro i y G1 H1 items k hlt e c rfl hk
  have ha:=List.getElem?_eq_getElem hlt
  unfold mjd1B
  refine ZA (hs.mono e.le) e.inn (i:=i) (it:=Y3 l[i]) (by rw[List.getElem?_map,ha];rfl) ?_
  refine Qfx (es:=3) (it:=Y3 l[i]) rfl (by decide) rfl (hone _) ?_
  have e1:=e.push (.cells (Y3 l[i]).toArray 88 (0,0))
  have c1:=c.push (.cells (Y3 l[i]).toArray 88 (0,0))
  generalize H1.push (.cells (Y3 l[i]).toArray 88 (0,0))=H2 at *
  refine Qb1 (by kernel_rfl) ?_
  refine Qhl e1.inn rfl (hone _) ?_
  intro H3 e3
  refine Qap (e1.trans e3) (c1.ext e3) (v:=.agg (Y3 l[i]).toArray) (it:=Y3 l[i]) rfl rfl (hone _) (by decide) rfl (by decide) (by rw[List.length_map,List.length_take];omega) ?_
  intro c' H' e4 c4
  exact hk c' _ H' _ e4 c4 (Y8 ha).symm
 ·rintro y G1 G2 H2 items e2 sl rfl hle hnil
  rw[List.take_length]at sl
  exact hR G2 H2 y e2 sl
theorem Qhv {G:Cut} {H:Qe} (hG:G.In H) {it:List Value} (hl:it.length=2) (hone:∀x∈it,x.oneCell'=true) {R:Kn} (hR:∀H',Ext G H G H'->R (.agg it.toArray) H'):FnS prog 62 #[.agg it.toArray] H R:=by
 apply w62
 unfold tp26
 rw[Q3,Q3]
 have e:=Ext.refl hG
 have o1:Yj H G (H.push (.cells (Value.agg it.toArray).cells 94)) H.size (.cells it.toArray 94 (0,0)):=Yj.fresh e _
 have e:=e.push (.cells (Value.agg it.toArray).cells 94)
 generalize H.push (.cells (Value.agg it.toArray).cells 94)=H1 at *
 have o2:=Yj.fresh e (.cells z93 93)
 have o1:=o1.push (.cells z93 93)
 have e:=e.push (.cells z93 93)
 generalize H1.push (.cells z93 93)=H2 at *
 rw[Y0 (n:=2) (vs:=it) (by rw[Q0 o1.get 2 (by simp[hl])];simp[<-hl]),Ye (n:=2) (c':=it.toArray) o2.get rfl (by simpa using hl) (by decide) (by simpa using hone)]
 have e:=e.set o2.out o2.new (.cells it.toArray 93 (0,0))
 have o2:=o2.set (.cells it.toArray 93 (0,0))
 rw[Y0 (n:=2) (vs:=it) (by rw[Q0 o2.get 2 (by simp[hl])];simp[<-hl])]
 exact hR _ e
theorem mje_ok {G:Cut} {H:Qe} (hG:G.In H) {l:List Qe7} {v:Value} (hs:SlV G 2 v (l.map Ze)) (hl:l.length<=50) {R:Kn} (hR:∀G' H' v',Ext G H G' H'->SlV G' 2 v' (l.map Ze)->R v' H'):FnS prog 61 #[v,.func (.func 62) #[] #[]] H R:=by
 have hone:∀t,∀x∈Ze t,x.oneCell'=true:=fun t x hx=>by
  simp[Ze]at hx
  first
   |(rcases hx with rfl|rfl|rfl|rfl|rfl|rfl|rfl<;>rfl)
   |(rcases hx with rfl|rfl|rfl<;>rfl)
   |(rcases hx with rfl|rfl<;>rfl)
 apply w61
 unfold s61 mje1
 refine Qaq hG (et:=93) (es:=2) (n:=l.length) (fun F i items=>items=(l.take i).map Ze) (by simp) (by omega) (fun k=>by rw[hs.len,List.length_map]) ?_ ?_
 ·rintro i y G1 H1 items k hlt e c rfl hk
  have ha:=List.getElem?_eq_getElem hlt
  unfold mje1B
  refine ZA (hs.mono e.le) e.inn (i:=i) (it:=Ze l[i]) (by rw[List.getElem?_map,ha];rfl) ?_
  refine Qfx (es:=2) (it:=Ze l[i]) rfl (by decide) rfl (hone _) ?_
  have e1:=e.push (.cells (Ze l[i]).toArray 94 (0,0))
  have c1:=c.push (.cells (Ze l[i]).toArray 94 (0,0))
  generalize H1.push (.cells (Ze l[i]).toArray 94 (0,0))=H2 at *
  refine Qb1 (by kernel_rfl) ?_
  refine Qhv e1.inn rfl (hone _) ?_
  intro H3 e3
  refine Qap (e1.trans e3) (c1.ext e3) (v:=.agg (Ze l[i]).toArray) (it:=Ze l[i]) rfl rfl (hone _) (by decide) rfl (by decide) (by rw[List.length_map,List.length_take];omega) ?_
  intro c' H' e4 c4
  exact hk c' _ H' _ e4 c4 (Y8 ha).symm
 ·rintro y G1 G2 H2 items e2 sl rfl hle hnil
  rw[List.take_length]at sl
  exact hR G2 H2 y e2 sl
theorem mn_string {F:Cut} {H:Qe} {v:Value} {items:List (List Value)} (h:SlV F 1 v items) {R:Kn} (hR:∀v',SlV F 1 v' items->R v' H):FnS prog 29 #[v] H R:=by
 apply w29
 unfold tp76
 rw[h.len,Yp]
 by_cases h0:items=[]
 ·subst h0
  show IfK (.bool true) _ _
  rw[QcN]
  exact hR _ (SlV.nil _ _)
 ·have hl:¬((items.length:Nat):Int)=0:=fun hc=>h0 (List.length_eq_zero_iff.1 (by omega))
  rw[QK hl]
  exact hR v h
theorem mn_bool {F:Cut} {H:Qe} {v:Value} {items:List (List Value)} (h:SlV F 1 v items) {R:Kn} (hR:∀v',SlV F 1 v' items->R v' H):FnS prog 32 #[v] H R:=by
 apply w32
 unfold tp76
 rw[h.len,Yp]
 by_cases h0:items=[]
 ·subst h0
  show IfK (.bool true) _ _
  rw[QcN]
  exact hR _ (SlV.nil _ _)
 ·have hl:¬((items.length:Nat):Int)=0:=fun hc=>h0 (List.length_eq_zero_iff.1 (by omega))
  rw[QK hl]
  exact hR v h
theorem mn_int64 {F:Cut} {H:Qe} {v:Value} {items:List (List Value)} (h:SlV F 1 v items) {R:Kn} (hR:∀v',SlV F 1 v' items->R v' H):FnS prog 36 #[v] H R:=by
 apply w36
 unfold tp76
 rw[h.len,Yp]
 by_cases h0:items=[]
 ·subst h0
  show IfK (.bool true) _ _
  rw[QcN]
  exact hR _ (SlV.nil _ _)
 ·have hl:¬((items.length:Nat):Int)=0:=fun hc=>h0 (List.length_eq_zero_iff.1 (by omega))
  rw[QK hl]
  exact hR v h
theorem QeU {F:Cut} {H:Qe} {v:Value} {items:List (List Value)} (h:SlV F 1 v items) {R:Kn} (hR:∀v',SlV F 1 v' items->R v' H):FnS prog 37 #[v] H R:=by
 apply w37
 unfold tp76
 rw[h.len,Yp]
 by_cases h0:items=[]
 ·subst h0
  show IfK (.bool true) _ _
  rw[QcN]
  exact hR _ (SlV.nil _ _)
 ·have hl:¬((items.length:Nat):Int)=0:=fun hc=>h0 (List.length_eq_zero_iff.1 (by omega))
  rw[QK hl]
  exact hR v h
def ToOk (g:GM):Prop:=∀(G:Cut) (H:Qe) (cells:List Value) (R:Kn),G.In H->Qb3 G g cells->LenM g->(∀G' H' cells',Ext G H G' H'->Qb3 G' g cells'->R (.agg cells'.toArray) H')->FnS prog 8 #[.agg cells.toArray] H R
theorem mia_ok {G:Cut} {H:Qe} (hG:G.In H) {gs:List GM} {v:Value} (hs:Qba G gs v) (hK:∀g∈gs,ToOk g) (hL:Qi2 gs) (hl:gs.length<=50) {R:Kn} (hR:∀G' H' v',Ext G H G' H'->Qba G' gs v'->R v' H'):FnS prog 24 #[v,.func (.func 8) #[] #[]] H R:=by
 obtain ⟨its,hs,hvs⟩:=hs
 have hil:=Zb.len hvs
 apply w24
 unfold s24 mia1
 refine Qaq hG (et:=51) (es:=51) (n:=gs.length) (fun F i items=>Zb F (gs.take i) items) (by rw[List.take_zero,Zb];trivial) (by omega) (fun k=>by rw[hs.len,hil]) ?_ ?_
 ·rintro i y G1 H1 items k hlt e c hI hk
  have ha:=List.getElem?_eq_getElem hlt
  obtain ⟨x,hx,hvx⟩:=Zb.get hvs ha
  have hvx:=hvx.mono e.le
  have hxl:=hvx.len
  have hxo:=Qb3.one hvx
  have hilen:=Zb.len hI
  rw[List.length_take]at hilen
  unfold mia1B
  refine ZA (hs.mono e.le) e.inn (i:=i) hx ?_
  refine Qfx hxl (by decide) rfl hxo ?_
  have e1:=e.push (.cells x.toArray 38 (0,0))
  have c1:=c.push (.cells x.toArray 38 (0,0))
  generalize H1.push (.cells x.toArray 38 (0,0))=H2 at *
  refine Qb1 (by kernel_rfl) ?_
  refine hK _ (List.mem_of_getElem? ha) G1 H2 x _ e1.inn hvx (Qi2.get hL _ (List.mem_of_getElem? ha)) ?_
  intro G3 H3 x' e3 hv3
  refine Qap (e1.trans e3) (c1.ext e3) (v:=.agg x'.toArray) (it:=x') rfl hv3.len (Qb3.one hv3) (by decide) rfl (by decide) (by omega) ?_
  intro c' H' e4 c4
  refine hk c' _ H' _ e4 c4 ?_
  rw[Qd6 ha]
  exact Zb.snoc (Zb.mono e3.le hI) hv3
 ·rintro y G1 G2 H2 items e2 sl hI hle hnil
  rw[List.take_length]at hI
  exact hR G2 H2 y e2 ⟨items,sl,Zb.mono hle hI⟩
theorem To_choice {G:Cut} {H:Qe} (hG:G.In H) {ty color:UInt8} {gs:List GM} {s:Value} (hs:Qba G gs s) (hK:∀g∈gs,ToOk g) (hL:Qi2 gs) (hl:gs.length<=50) {R:Kn} (hR:∀G' H' a n c,Ext G H G' H'->Qba G' gs (.slice a n c)->R (.agg #[u8n ty,.slice a n c,u8n color]) H'):FnS prog 23 #[.agg #[u8n ty,s,u8n color]] H R:=by
 apply w23
 unfold tp23
 rw[Q3,Q3]
 have e:=Ext.refl hG
 have o1:Yj H G (H.push (.cells (Value.agg #[u8n ty,s,u8n color]).cells 26)) H.size (.cells #[u8n ty,s,u8n color] 26 (0,0)):=Yj.fresh e _
 have e:=e.push (.cells (Value.agg #[u8n ty,s,u8n color]).cells 26)
 generalize H.push (.cells (Value.agg #[u8n ty,s,u8n color]).cells 26)=H1 at *
 have hne:=o1.ne
 have o2:=Yj.fresh e (.cells z46 46)
 have o1:=o1.push (.cells z46 46)
 have e:=e.push (.cells z46 46)
 generalize H1.push (.cells z46 46)=H2 at *
 rw[Qu,Ql ((Qj o1.get).trans (show (#[u8n ty,s,u8n color]:Array Value)[0]?=some (u8n ty) from rfl)),Qu,Ql ((Qj o1.get).trans (show (#[u8n ty,s,u8n color]:Array Value)[1]?=some s from rfl)),Qu,Ql ((Qj o1.get).trans (show (#[u8n ty,s,u8n color]:Array Value)[2]?=some (u8n color) from rfl))]
 refine mia_ok e.inn hs hK hL hl ?_
 intro G3 H3 v' e3 hv'
 refine Qw e3.keep.ext ?_
 have e:=e.trans e3
 have o2:=o2.ext e3
 have hv2:=hv'
 obtain ⟨its,hsl,_⟩:=hv'
 obtain ⟨a,n,c,rfl⟩:∃a n c,v'= .slice a n c:=by
  rcases hsl.2 with ⟨a,c,h,_⟩|⟨b,o,c,_,_,_,h,_⟩
  ·exact ⟨_,_,_,h⟩
  ·exact ⟨_,_,_,h⟩
 have hf:Z3 z46.toList [(0,1,u8n ty),(1,1,.slice a n c),(2,1,u8n color)]=some [u8n ty,.slice a n c,u8n color]:=rfl
 unfold QB
 simp only[hf]
 rw[Ye (n:=3) (c':=[u8n ty,.slice a n c,u8n color].toArray) o2.get rfl rfl (by decide) (by intro v hv;simp at hv;rcases hv with rfl|rfl|rfl<;>rfl)]
 have e:=e.set o2.out o2.new (.cells [u8n ty,.slice a n c,u8n color].toArray 46 (0,0))
 have o2:=o2.set (.cells [u8n ty,.slice a n c,u8n color].toArray 46 (0,0))
 rw[Y0 (n:=3) (vs:=[u8n ty,.slice a n c,u8n color]) (by rw[Q0 o2.get 3 (Nat.le_refl 3)];rfl)]
 exact hR _ _ a n c e hv2
def OfOk (g:GM):Prop:=∀(G:Cut) (H:Qe) (cells:List Value) (R:Kn),G.In H->Qb3 G g cells->LenM g->(∀G' H' cells',Ext G H G' H'->Qb3 G' g cells'->R (.agg cells'.toArray) H')->FnS prog 11 #[.agg cells.toArray] H R
theorem mja_ok {G:Cut} {H:Qe} (hG:G.In H) {gs:List GM} {v:Value} (hs:Qba G gs v) (hK:∀g∈gs,OfOk g) (hL:Qi2 gs) (hl:gs.length<=50) {R:Kn} (hR:∀G' H' v',Ext G H G' H'->Qba G' gs v'->R v' H'):FnS prog 54 #[v,.func (.func 11) #[] #[]] H R:=by
 obtain ⟨its,hs,hvs⟩:=hs
 have hil:=Zb.len hvs
 apply w54
 unfold s54 mja1
 refine Qaq hG (et:=38) (es:=51) (n:=gs.length) (fun F i items=>Zb F (gs.take i) items) (by rw[List.take_zero,Zb];trivial) (by omega) (fun k=>by rw[hs.len,hil]) ?_ ?_
 ·rintro i y G1 H1 items k hlt e c hI hk
  have ha:=List.getElem?_eq_getElem hlt
  obtain ⟨x,hx,hvx⟩:=Zb.get hvs ha
  have hvx:=hvx.mono e.le
  have hxl:=hvx.len
  have hxo:=Qb3.one hvx
  have hilen:=Zb.len hI
  rw[List.length_take]at hilen
  unfold mja1B
  refine ZA (hs.mono e.le) e.inn (i:=i) hx ?_
  refine Qfx hxl (by decide) rfl hxo ?_
  have e1:=e.push (.cells x.toArray 51 (0,0))
  have c1:=c.push (.cells x.toArray 51 (0,0))
  generalize H1.push (.cells x.toArray 51 (0,0))=H2 at *
  refine Qb1 (by kernel_rfl) ?_
  refine hK _ (List.mem_of_getElem? ha) G1 H2 x _ e1.inn hvx (Qi2.get hL _ (List.mem_of_getElem? ha)) ?_
  intro G3 H3 x' e3 hv3
  refine Qap (e1.trans e3) (c1.ext e3) (v:=.agg x'.toArray) (it:=x') rfl hv3.len (Qb3.one hv3) (by decide) rfl (by decide) (by omega) ?_
  intro c' H' e4 c4
  refine hk c' _ H' _ e4 c4 ?_
  rw[Qd6 ha]
  exact Zb.snoc (Zb.mono e3.le hI) hv3
 ·rintro y G1 G2 H2 items e2 sl hI hle hnil
  rw[List.take_length]at hI
  exact hR G2 H2 y e2 ⟨items,sl,Zb.mono hle hI⟩
theorem Of_choice {G:Cut} {H:Qe} (hG:G.In H) {ty color:UInt8} {gs:List GM} {s:Value} (hs:Qba G gs s) (hK:∀g∈gs,OfOk g) (hL:Qi2 gs) (hl:gs.length<=50) {R:Kn} (hR:∀G' H' a n c,Ext G H G' H'->Qba G' gs (.slice a n c)->R (.agg #[u8n ty,.slice a n c,u8n color]) H'):FnS prog 53 #[.agg #[u8n ty,s,u8n color]] H R:=by
 apply w53
 unfold tp23
 rw[Q3,Q3]
 have e:=Ext.refl hG
 have o1:Yj H G (H.push (.cells (Value.agg #[u8n ty,s,u8n color]).cells 46)) H.size (.cells #[u8n ty,s,u8n color] 46 (0,0)):=Yj.fresh e _
 have e:=e.push (.cells (Value.agg #[u8n ty,s,u8n color]).cells 46)
 generalize H.push (.cells (Value.agg #[u8n ty,s,u8n color]).cells 46)=H1 at *
 have hne:=o1.ne
 have o2:=Yj.fresh e (.cells z26 26)
 have o1:=o1.push (.cells z26 26)
 have e:=e.push (.cells z26 26)
 generalize H1.push (.cells z26 26)=H2 at *
 rw[Qu,Ql ((Qj o1.get).trans (show (#[u8n ty,s,u8n color]:Array Value)[0]?=some (u8n ty) from rfl)),Qu,Ql ((Qj o1.get).trans (show (#[u8n ty,s,u8n color]:Array Value)[1]?=some s from rfl)),Qu,Ql ((Qj o1.get).trans (show (#[u8n ty,s,u8n color]:Array Value)[2]?=some (u8n color) from rfl))]
 refine mja_ok e.inn hs hK hL hl ?_
 intro G3 H3 v' e3 hv'
 refine Qw e3.keep.ext ?_
 have e:=e.trans e3
 have o2:=o2.ext e3
 have hv2:=hv'
 obtain ⟨its,hsl,_⟩:=hv'
 obtain ⟨a,n,c,rfl⟩:∃a n c,v'= .slice a n c:=by
  rcases hsl.2 with ⟨a,c,h,_⟩|⟨b,o,c,_,_,_,h,_⟩
  ·exact ⟨_,_,_,h⟩
  ·exact ⟨_,_,_,h⟩
 have hf:Z3 z26.toList [(0,1,u8n ty),(1,1,.slice a n c),(2,1,u8n color)]=some [u8n ty,.slice a n c,u8n color]:=rfl
 unfold QB
 simp only[hf]
 rw[Ye (n:=3) (c':=[u8n ty,.slice a n c,u8n color].toArray) o2.get rfl rfl (by decide) (by intro v hv;simp at hv;rcases hv with rfl|rfl|rfl<;>rfl)]
 have e:=e.set o2.out o2.new (.cells [u8n ty,.slice a n c,u8n color].toArray 26 (0,0))
 have o2:=o2.set (.cells [u8n ty,.slice a n c,u8n color].toArray 26 (0,0))
 rw[Y0 (n:=3) (vs:=[u8n ty,.slice a n c,u8n color]) (by rw[Q0 o2.get 3 (Nat.le_refl 3)];rfl)]
 exact hR _ _ a n c e hv2
theorem Qba.sl {F:Cut} {gs:List GM} {v:Value} (h:Qba F gs v):∃a n c,v= .slice a n c:=by
 obtain ⟨its,hsl,_⟩:=h
 rcases hsl.2 with ⟨a,c,h,_⟩|⟨b,o,c,_,_,_,h,_⟩
 ·exact ⟨_,_,_,h⟩
 ·exact ⟨_,_,_,h⟩
theorem SlV.sl {F:Cut} {es:Nat} {items:List (List Value)} {v:Value} (h:SlV F es v items):∃a n c,v= .slice a n c:=by
 rcases h.2 with ⟨a,c,h,_⟩|⟨b,o,c,_,_,_,h,_⟩
 ·exact ⟨_,_,_,h⟩
 ·exact ⟨_,_,_,h⟩
theorem slS {F:Cut} {gs:List GM} {Q:Value->Prop} (h:∀a n c,Qba F gs (.slice a n c)->Q (.slice a n c)):∀v,Qba F gs v->Q v:=fun v w=>by
 obtain ⟨a,n,c,rfl⟩:=Qba.sl w
 exact h a n c w
theorem slV {F:Cut} {es:Nat} {items:List (List Value)} {Q:Value->Prop} (h:∀a n c,SlV F es (.slice a n c) items->Q (.slice a n c)):∀v,SlV F es v items->Q v:=fun v w=>by
 obtain ⟨a,n,c,rfl⟩:=SlV.sl w
 exact h a n c w
theorem slE {G:Cut} {H:Qe} {P:Cut->Value->Prop} {Q:Kn} (hsl:∀F v,P F v->∃a n c,v= .slice a n c) (h:∀G' H' a n c,Ext G H G' H'->P G' (.slice a n c)->Q (.slice a n c) H'):∀G' H' v,Ext G H G' H'->P G' v->Q v H':=fun G' H' v e w=>by
 obtain ⟨a,n,c,rfl⟩:=hsl G' v w
 exact h G' H' a n c e w
theorem fill_to (d:Qbg) (apos:Option Addr) (npos cpos:Nat) (atest:Option Addr) (ntest ctest:Nat) (atest4:Option Addr) (ntest4 ctest4:Nat) (astrings:Option Addr) (nstrings cstrings:Nat) (atables:Option Addr) (ntables ctables:Nat) (aenemy:Option Addr) (nenemy cenemy:Nat) (aempty:Option Addr) (nempty cempty:Nat) (abools:Option Addr) (nbools cbools:Nat) (astrings2:Option Addr) (nstrings2 cstrings2:Nat) (aabil:Option Addr) (nabil cabil:Nat) (atest5:Option Addr) (ntest5 ctest5:Nat) (alongs:Option Addr) (nlongs clongs:Nat) (adoubles:Option Addr) (ndoubles cdoubles:Nat) (arefs:Option Addr) (nrefs crefs:Nat) (aweak:Option Addr) (nweak cweak:Nat) (astrong:Option Addr) (nstrong cstrong:Nat) (acoOwnings:Option Addr) (ncoOwnings ccoOwnings:Nat) (anonOwnings:Option Addr) (nnonOwnings cnonOwnings:Nat) (auniq:Option Addr) (nuniq cuniq:Nat) (aamb:Option Addr) (namb camb:Nat):Z3 z51.toList [(0,1,.slice apos npos cpos),(1,1,Qbh d.mana),(2,1,Qbh d.hp),(3,1,Yx d.name),(4,1,Yx d.inventory),(5,1,u8n d.color),(6,3,.agg #[u8n d.testTy,.slice atest ntest ctest,u8n d.testColor]),(9,1,.slice atest4 ntest4 ctest4),(10,1,.slice astrings nstrings cstrings),(11,1,.slice atables ntables ctables),(12,1,.slice aenemy nenemy cenemy),(13,1,Yx d.nested),(14,1,.slice aempty nempty cempty),(15,1,.bool d.bool),(16,1,Qf5 d.s32),(17,1,Zs d.u32),(18,1,Qdi d.s64),(19,1,YY d.u64),(20,1,Qf5 d.s32a),(21,1,Zs d.u32a),(22,1,Qdi d.s64a),(23,1,YY d.u64a),(24,1,.slice abools nbools cbools),(25,1,Zs d.f),(26,1,Zs d.f2),(27,1,Zs d.f3),(28,1,.slice astrings2 nstrings2 cstrings2),(29,1,.slice aabil nabil cabil),(30,1,Yx d.flex),(31,1,.slice atest5 ntest5 ctest5),(32,1,.slice alongs nlongs clongs),(33,1,.slice adoubles ndoubles cdoubles),(34,1,.bool d.parent),(35,1,.slice arefs nrefs crefs),(36,1,YY d.singleWeak),(37,1,.slice aweak nweak cweak),(38,1,.slice astrong nstrong cstrong),(39,1,YY d.coOwning),(40,1,.slice acoOwnings ncoOwnings ccoOwnings),(41,1,YY d.nonOwning),(42,1,.slice anonOwnings nnonOwnings cnonOwnings),(43,3,.agg #[u8n d.uniqTy,.slice auniq nuniq cuniq,u8n d.uniqColor]),(46,3,.agg #[u8n d.ambTy,.slice aamb namb camb,u8n d.ambColor]),(49,1,Yx d.enums),(50,1,i8V d.signedEnum)]=some (Yu d ⟨.slice apos npos cpos,.slice atest ntest ctest,.slice atest4 ntest4 ctest4,.slice astrings nstrings cstrings,.slice atables ntables ctables,.slice aenemy nenemy cenemy,.slice aempty nempty cempty,.slice abools nbools cbools,.slice astrings2 nstrings2 cstrings2,.slice aabil nabil cabil,.slice atest5 ntest5 ctest5,.slice alongs nlongs clongs,.slice adoubles ndoubles cdoubles,.slice arefs nrefs crefs,.slice aweak nweak cweak,.slice astrong nstrong cstrong,.slice acoOwnings ncoOwnings ccoOwnings,.slice anonOwnings nnonOwnings cnonOwnings,.slice auniq nuniq cuniq,.slice aamb namb camb⟩):=by kernel_rfl
theorem fill_of (d:Qbg) (apos:Option Addr) (npos cpos:Nat) (atest:Option Addr) (ntest ctest:Nat) (atest4:Option Addr) (ntest4 ctest4:Nat) (astrings:Option Addr) (nstrings cstrings:Nat) (atables:Option Addr) (ntables ctables:Nat) (aenemy:Option Addr) (nenemy cenemy:Nat) (aempty:Option Addr) (nempty cempty:Nat) (abools:Option Addr) (nbools cbools:Nat) (astrings2:Option Addr) (nstrings2 cstrings2:Nat) (aabil:Option Addr) (nabil cabil:Nat) (atest5:Option Addr) (ntest5 ctest5:Nat) (alongs:Option Addr) (nlongs clongs:Nat) (adoubles:Option Addr) (ndoubles cdoubles:Nat) (arefs:Option Addr) (nrefs crefs:Nat) (aweak:Option Addr) (nweak cweak:Nat) (astrong:Option Addr) (nstrong cstrong:Nat) (acoOwnings:Option Addr) (ncoOwnings ccoOwnings:Nat) (anonOwnings:Option Addr) (nnonOwnings cnonOwnings:Nat) (auniq:Option Addr) (nuniq cuniq:Nat) (aamb:Option Addr) (namb camb:Nat):Z3 z38.toList [(0,1,.slice apos npos cpos),(1,1,Qbh d.mana),(2,1,Qbh d.hp),(3,1,Yx d.name),(4,1,Yx d.inventory),(5,1,u8n d.color),(6,3,.agg #[u8n d.testTy,.slice atest ntest ctest,u8n d.testColor]),(9,1,.slice atest4 ntest4 ctest4),(10,1,.slice astrings nstrings cstrings),(11,1,.slice atables ntables ctables),(12,1,.slice aenemy nenemy cenemy),(13,1,Yx d.nested),(14,1,.slice aempty nempty cempty),(15,1,.bool d.bool),(16,1,Qf5 d.s32),(17,1,Zs d.u32),(18,1,Qdi d.s64),(19,1,YY d.u64),(20,1,Qf5 d.s32a),(21,1,Zs d.u32a),(22,1,Qdi d.s64a),(23,1,YY d.u64a),(24,1,.slice abools nbools cbools),(25,1,Zs d.f),(26,1,Zs d.f2),(27,1,Zs d.f3),(28,1,.slice astrings2 nstrings2 cstrings2),(29,1,.slice aabil nabil cabil),(30,1,Yx d.flex),(31,1,.slice atest5 ntest5 ctest5),(32,1,.slice alongs nlongs clongs),(33,1,.slice adoubles ndoubles cdoubles),(34,1,.bool d.parent),(35,1,.slice arefs nrefs crefs),(36,1,YY d.singleWeak),(37,1,.slice aweak nweak cweak),(38,1,.slice astrong nstrong cstrong),(39,1,YY d.coOwning),(40,1,.slice acoOwnings ncoOwnings ccoOwnings),(41,1,YY d.nonOwning),(42,1,.slice anonOwnings nnonOwnings cnonOwnings),(43,3,.agg #[u8n d.uniqTy,.slice auniq nuniq cuniq,u8n d.uniqColor]),(46,3,.agg #[u8n d.ambTy,.slice aamb namb camb,u8n d.ambColor]),(49,1,Yx d.enums),(50,1,i8V d.signedEnum)]=some (Yu d ⟨.slice apos npos cpos,.slice atest ntest ctest,.slice atest4 ntest4 ctest4,.slice astrings nstrings cstrings,.slice atables ntables ctables,.slice aenemy nenemy cenemy,.slice aempty nempty cempty,.slice abools nbools cbools,.slice astrings2 nstrings2 cstrings2,.slice aabil nabil cabil,.slice atest5 ntest5 ctest5,.slice alongs nlongs clongs,.slice adoubles ndoubles cdoubles,.slice arefs nrefs crefs,.slice aweak nweak cweak,.slice astrong nstrong cstrong,.slice acoOwnings ncoOwnings ccoOwnings,.slice anonOwnings nnonOwnings cnonOwnings,.slice auniq nuniq cuniq,.slice aamb namb camb⟩):=by kernel_rfl
theorem ldn_ok {H0:Qe} {G:Cut} {H:Qe} {b:Nat} {cells:List Value} {t:TypeId} {fr:Nat×Nat} (o:Yj H0 G H b (.cells cells.toArray t fr)) {i n:Nat} {vs:List Value} (hi:(cells.drop i).take n=vs) (hl:i+n<=cells.length) {k:Value->Prop} (hk:k (.agg vs.toArray)):Qh (ptr b) i fun a=>LdN H n a k:=by
 rw[Qu,Y0 (n:=n) (vs:=vs) (by rw[Q0 o.get n (by simpa using hl),Nat.add_zero];simpa using hi)]
 exact hk
set_option maxHeartbeats 1000000 in
theorem ToStep {d:Qbg} {pos:List Qav} {empty:List Qan} {tables enemy test uniq amb:List GM} (hT:∀k∈tables,ToOk k) (hE:∀k∈enemy,ToOk k) (hU:∀k∈test,ToOk k) (hQ:∀k∈uniq,ToOk k) (hA:∀k∈amb,ToOk k):ToOk (.mk d pos empty tables enemy test uniq amb):=by
 intro G H cells R hG hv hlm hR
 rw[Qb3]at hv
 obtain ⟨c,rfl,g,wT,wE,wU,wQ,wA⟩:=hv
 rw[LenM]at hlm
 obtain ⟨⟨l0,l1,l2,l3,l4,l5,l6,l7,l8,l9⟩,_,mT,mE,mU,mQ,mA⟩:=hlm
 apply w8
 unfold s8
 rw[Q3,Q3]
 have e:=Ext.refl hG
 have o1:Yj H G (H.push (.cells (Value.agg (Yu d c).toArray).cells 38)) H.size (.cells (Yu d c).toArray 38 (0,0)):=Yj.fresh e _
 have e:=e.push (.cells (Value.agg (Yu d c).toArray).cells 38)
 generalize H.push (.cells (Value.agg (Yu d c).toArray).cells 38)=H1 at *
 have o2:=Yj.fresh e (.cells z51 51)
 have o1:=o1.push (.cells z51 51)
 have e:=e.push (.cells z51 51)
 have l0':=Cut.le_refl G
 generalize H1.push (.cells z51 51)=H2 at *
 refine Qy o1 (i:=0) (v:=c.pos) rfl ?_
 refine Qy o1 (i:=1) (v:=Qbh d.mana) rfl ?_
 refine Qy o1 (i:=2) (v:=Qbh d.hp) rfl ?_
 refine Qy o1 (i:=3) (v:=Yx d.name) rfl ?_
 refine Qy o1 (i:=4) (v:=Yx d.inventory) rfl ?_
 refine Qy o1 (i:=5) (v:=u8n d.color) rfl ?_
 refine ldn_ok o1 (i:=6) (n:=3) (vs:=[u8n d.testTy,c.test,u8n d.testColor]) rfl (by rw[YF];decide) ?_
 refine Qy o1 (i:=9) (v:=c.test4) rfl ?_
 refine Qy o1 (i:=10) (v:=c.strings) rfl ?_
 refine Qy o1 (i:=11) (v:=c.tables) rfl ?_
 refine Qy o1 (i:=12) (v:=c.enemy) rfl ?_
 refine Qy o1 (i:=13) (v:=Yx d.nested) rfl ?_
 refine Qy o1 (i:=14) (v:=c.empty) rfl ?_
 refine Qy o1 (i:=15) (v:=.bool d.bool) rfl ?_
 refine Qy o1 (i:=16) (v:=Qf5 d.s32) rfl ?_
 refine Qy o1 (i:=17) (v:=Zs d.u32) rfl ?_
 refine Qy o1 (i:=18) (v:=Qdi d.s64) rfl ?_
 refine Qy o1 (i:=19) (v:=YY d.u64) rfl ?_
 refine Qy o1 (i:=20) (v:=Qf5 d.s32a) rfl ?_
 refine Qy o1 (i:=21) (v:=Zs d.u32a) rfl ?_
 refine Qy o1 (i:=22) (v:=Qdi d.s64a) rfl ?_
 refine Qy o1 (i:=23) (v:=YY d.u64a) rfl ?_
 refine Qy o1 (i:=24) (v:=c.bools) rfl ?_
 refine Qy o1 (i:=25) (v:=Zs d.f) rfl ?_
 refine Qy o1 (i:=26) (v:=Zs d.f2) rfl ?_
 refine Qy o1 (i:=27) (v:=Zs d.f3) rfl ?_
 refine Qy o1 (i:=28) (v:=c.strings2) rfl ?_
 refine Qy o1 (i:=29) (v:=c.abil) rfl ?_
 refine Qy o1 (i:=30) (v:=Yx d.flex) rfl ?_
 refine Qy o1 (i:=31) (v:=c.test5) rfl ?_
 refine Qy o1 (i:=32) (v:=c.longs) rfl ?_
 refine Qy o1 (i:=33) (v:=c.doubles) rfl ?_
 refine Qy o1 (i:=34) (v:=.bool d.parent) rfl ?_
 refine Qy o1 (i:=35) (v:=c.refs) rfl ?_
 refine Qy o1 (i:=36) (v:=YY d.singleWeak) rfl ?_
 refine Qy o1 (i:=37) (v:=c.weak) rfl ?_
 refine Qy o1 (i:=38) (v:=c.strong) rfl ?_
 refine Qy o1 (i:=39) (v:=YY d.coOwning) rfl ?_
 refine Qy o1 (i:=40) (v:=c.coOwnings) rfl ?_
 refine Qy o1 (i:=41) (v:=YY d.nonOwning) rfl ?_
 refine Qy o1 (i:=42) (v:=c.nonOwnings) rfl ?_
 refine ldn_ok o1 (i:=43) (n:=3) (vs:=[u8n d.uniqTy,c.uniq,u8n d.uniqColor]) rfl (by rw[YF];decide) ?_
 refine ldn_ok o1 (i:=46) (n:=3) (vs:=[u8n d.ambTy,c.amb,u8n d.ambColor]) rfl (by rw[YF];decide) ?_
 refine Qy o1 (i:=49) (v:=Yx d.enums) rfl ?_
 refine Qy o1 (i:=50) (v:=i8V d.signedEnum) rfl ?_
 refine mib_ok e.inn (g.pos.mono e.le) l0 (slE (P:=fun F v=>SlV F 7 v (pos.map YS)) (fun _ _ h=>SlV.sl h) ?_)
 intro Gpos Hpos apos npos cpos e2 wpos
 refine Qw e2.keep.ext ?_
 have e:=e.trans e2
 have o2:=o2.ext e2
 have lepos:=e2.le
 refine Qb1 (by kernel_rfl) ?_
 refine To_choice e.inn (Qba.mono e.le wU) hU mU l7 ?_
 intro Gtest Htest atest ntest ctest e2 wtest
 refine Qw e2.keep.ext ?_
 have e:=e.trans e2
 have o2:=o2.ext e2
 have letest:=e2.le
 refine mic_ok e.inn (g.test4.mono e.le) l2 (slE (P:=fun F v=>SlV F 2 v (d.test4.map Yg)) (fun _ _ h=>SlV.sl h) ?_)
 intro Gtest4 Htest4 atest4 ntest4 ctest4 e2 wtest4
 refine Qw e2.keep.ext ?_
 have e:=e.trans e2
 have o2:=o2.ext e2
 have letest4:=e2.le
 refine mn_string (g.strings.mono e.le) (slV ?_)
 intro astrings nstrings cstrings wstrings
 rw[Qa]
 refine mia_ok e.inn (Qba.mono e.le wT) hT mT l5 (slE (P:=fun F v=>Qba F tables v) (fun _ _ h=>Qba.sl h) ?_)
 intro Gtables Htables atables ntables ctables e2 wtables
 refine Qw e2.keep.ext ?_
 have e:=e.trans e2
 have o2:=o2.ext e2
 have letables:=e2.le
 refine mia_ok e.inn (Qba.mono e.le wE) hE mE l6 (slE (P:=fun F v=>Qba F enemy v) (fun _ _ h=>Qba.sl h) ?_)
 intro Genemy Henemy aenemy nenemy cenemy e2 wenemy
 refine Qw e2.keep.ext ?_
 have e:=e.trans e2
 have o2:=o2.ext e2
 have leenemy:=e2.le
 refine mid_ok e.inn (g.empty.mono e.le) l1 (slE (P:=fun F v=>SlV F 3 v (empty.map Y3)) (fun _ _ h=>SlV.sl h) ?_)
 intro Gempty Hempty aempty nempty cempty e2 wempty
 refine Qw e2.keep.ext ?_
 have e:=e.trans e2
 have o2:=o2.ext e2
 have leempty:=e2.le
 refine mn_bool (g.bools.mono e.le) (slV ?_)
 intro abools nbools cbools wbools
 rw[Qa]
 refine mn_string (g.strings2.mono e.le) (slV ?_)
 intro astrings2 nstrings2 cstrings2 wstrings2
 rw[Qa]
 refine mie_ok e.inn (g.abil.mono e.le) l3 (slE (P:=fun F v=>SlV F 2 v (d.abilities.map Ze)) (fun _ _ h=>SlV.sl h) ?_)
 intro Gabil Habil aabil nabil cabil e2 wabil
 refine Qw e2.keep.ext ?_
 have e:=e.trans e2
 have o2:=o2.ext e2
 have leabil:=e2.le
 refine mic2_ok e.inn (g.test5.mono e.le) l4 (slE (P:=fun F v=>SlV F 2 v (d.test5.map Yg)) (fun _ _ h=>SlV.sl h) ?_)
 intro Gtest5 Htest5 atest5 ntest5 ctest5 e2 wtest5
 refine Qw e2.keep.ext ?_
 have e:=e.trans e2
 have o2:=o2.ext e2
 have letest5:=e2.le
 refine mn_int64 (g.longs.mono e.le) (slV ?_)
 intro alongs nlongs clongs wlongs
 rw[Qa]
 refine QeU (g.doubles.mono e.le) (slV ?_)
 intro adoubles ndoubles cdoubles wdoubles
 rw[Qa]
 refine QeU (g.refs.mono e.le) (slV ?_)
 intro arefs nrefs crefs wrefs
 rw[Qa]
 refine QeU (g.weak.mono e.le) (slV ?_)
 intro aweak nweak cweak wweak
 rw[Qa]
 refine QeU (g.strong.mono e.le) (slV ?_)
 intro astrong nstrong cstrong wstrong
 rw[Qa]
 refine QeU (g.coOwnings.mono e.le) (slV ?_)
 intro acoOwnings ncoOwnings ccoOwnings wcoOwnings
 rw[Qa]
 refine QeU (g.nonOwnings.mono e.le) (slV ?_)
 intro anonOwnings nnonOwnings cnonOwnings wnonOwnings
 rw[Qa]
 refine Qb1 (by kernel_rfl) ?_
 refine To_choice e.inn (Qba.mono e.le wQ) hQ mQ l8 ?_
 intro Guniq Huniq auniq nuniq cuniq e2 wuniq
 refine Qw e2.keep.ext ?_
 have e:=e.trans e2
 have o2:=o2.ext e2
 have leuniq:=e2.le
 refine Qb1 (by kernel_rfl) ?_
 refine To_choice e.inn (Qba.mono e.le wA) hA mA l9 ?_
 intro Gamb Hamb aamb namb camb e2 wamb
 refine Qw e2.keep.ext ?_
 have e:=e.trans e2
 have o2:=o2.ext e2
 have leamb:=e2.le
 have hf:=fill_to d apos npos cpos atest ntest ctest atest4 ntest4 ctest4 astrings nstrings cstrings atables ntables ctables aenemy nenemy cenemy aempty nempty cempty abools nbools cbools astrings2 nstrings2 cstrings2 aabil nabil cabil atest5 ntest5 ctest5 alongs nlongs clongs adoubles ndoubles cdoubles arefs nrefs crefs aweak nweak cweak astrong nstrong cstrong acoOwnings ncoOwnings ccoOwnings anonOwnings nnonOwnings cnonOwnings auniq nuniq cuniq aamb namb camb
 unfold QB
 simp only[hf]
 have Lamb:=Cut.le_refl Gamb
 have Luniq:Guniq.le Gamb:=Cut.le_trans leamb Lamb
 have Ltest5:Gtest5.le Gamb:=Cut.le_trans leuniq Luniq
 have Labil:Gabil.le Gamb:=Cut.le_trans letest5 Ltest5
 have Lempty:Gempty.le Gamb:=Cut.le_trans leabil Labil
 have Lenemy:Genemy.le Gamb:=Cut.le_trans leempty Lempty
 have Ltables:Gtables.le Gamb:=Cut.le_trans leenemy Lenemy
 have Ltest4:Gtest4.le Gamb:=Cut.le_trans letables Ltables
 have Ltest:Gtest.le Gamb:=Cut.le_trans letest4 Ltest4
 have Lpos:Gpos.le Gamb:=Cut.le_trans letest Ltest
 have L0:G.le Gamb:=Cut.le_trans lepos Lpos
 have hval:Qb3 Gamb (.mk d pos empty tables enemy test uniq amb) (Yu d ⟨.slice apos npos cpos,.slice atest ntest ctest,.slice atest4 ntest4 ctest4,.slice astrings nstrings cstrings,.slice atables ntables ctables,.slice aenemy nenemy cenemy,.slice aempty nempty cempty,.slice abools nbools cbools,.slice astrings2 nstrings2 cstrings2,.slice aabil nabil cabil,.slice atest5 ntest5 ctest5,.slice alongs nlongs clongs,.slice adoubles ndoubles cdoubles,.slice arefs nrefs crefs,.slice aweak nweak cweak,.slice astrong nstrong cstrong,.slice acoOwnings ncoOwnings ccoOwnings,.slice anonOwnings nnonOwnings cnonOwnings,.slice auniq nuniq cuniq,.slice aamb namb camb⟩):=by
  rw[Qb3]
  exact ⟨_,rfl,⟨(wpos.mono Lpos),(wtest4.mono Ltest4),(wstrings.mono Ltest4),(wempty.mono Lempty),(wbools.mono Lempty),(wstrings2.mono Lempty),(wabil.mono Labil),(wtest5.mono Ltest5),(wlongs.mono Ltest5),(wdoubles.mono Ltest5),(wrefs.mono Ltest5),(wweak.mono Ltest5),(wstrong.mono Ltest5),(wcoOwnings.mono Ltest5),(wnonOwnings.mono Ltest5)⟩,(Qba.mono Ltables wtables),(Qba.mono Lenemy wenemy),(Qba.mono Ltest wtest),(Qba.mono Luniq wuniq),(Qba.mono Lamb wamb)⟩
 rw[Ye (n:=51) (c':=(Yu d ⟨.slice apos npos cpos,.slice atest ntest ctest,.slice atest4 ntest4 ctest4,.slice astrings nstrings cstrings,.slice atables ntables ctables,.slice aenemy nenemy cenemy,.slice aempty nempty cempty,.slice abools nbools cbools,.slice astrings2 nstrings2 cstrings2,.slice aabil nabil cabil,.slice atest5 ntest5 ctest5,.slice alongs nlongs clongs,.slice adoubles ndoubles cdoubles,.slice arefs nrefs crefs,.slice aweak nweak cweak,.slice astrong nstrong cstrong,.slice acoOwnings ncoOwnings ccoOwnings,.slice anonOwnings nnonOwnings cnonOwnings,.slice auniq nuniq cuniq,.slice aamb namb camb⟩).toArray) o2.get rfl rfl (by decide) (by simpa using Qb3.one hval)]
 have e:=e.set o2.out o2.new (.cells (Yu d ⟨.slice apos npos cpos,.slice atest ntest ctest,.slice atest4 ntest4 ctest4,.slice astrings nstrings cstrings,.slice atables ntables ctables,.slice aenemy nenemy cenemy,.slice aempty nempty cempty,.slice abools nbools cbools,.slice astrings2 nstrings2 cstrings2,.slice aabil nabil cabil,.slice atest5 ntest5 ctest5,.slice alongs nlongs clongs,.slice adoubles ndoubles cdoubles,.slice arefs nrefs crefs,.slice aweak nweak cweak,.slice astrong nstrong cstrong,.slice acoOwnings ncoOwnings ccoOwnings,.slice anonOwnings nnonOwnings cnonOwnings,.slice auniq nuniq cuniq,.slice aamb namb camb⟩).toArray 51 (0,0))
 have o2:=o2.set (.cells (Yu d ⟨.slice apos npos cpos,.slice atest ntest ctest,.slice atest4 ntest4 ctest4,.slice astrings nstrings cstrings,.slice atables ntables ctables,.slice aenemy nenemy cenemy,.slice aempty nempty cempty,.slice abools nbools cbools,.slice astrings2 nstrings2 cstrings2,.slice aabil nabil cabil,.slice atest5 ntest5 ctest5,.slice alongs nlongs clongs,.slice adoubles ndoubles cdoubles,.slice arefs nrefs crefs,.slice aweak nweak cweak,.slice astrong nstrong cstrong,.slice acoOwnings ncoOwnings ccoOwnings,.slice anonOwnings nnonOwnings cnonOwnings,.slice auniq nuniq cuniq,.slice aamb namb camb⟩).toArray 51 (0,0))
 rw[Y0 (n:=51) (vs:=Yu d ⟨.slice apos npos cpos,.slice atest ntest ctest,.slice atest4 ntest4 ctest4,.slice astrings nstrings cstrings,.slice atables ntables ctables,.slice aenemy nenemy cenemy,.slice aempty nempty cempty,.slice abools nbools cbools,.slice astrings2 nstrings2 cstrings2,.slice aabil nabil cabil,.slice atest5 ntest5 ctest5,.slice alongs nlongs clongs,.slice adoubles ndoubles cdoubles,.slice arefs nrefs crefs,.slice aweak nweak cweak,.slice astrong nstrong cstrong,.slice acoOwnings ncoOwnings ccoOwnings,.slice anonOwnings nnonOwnings cnonOwnings,.slice auniq nuniq cuniq,.slice aamb namb camb⟩) (by rw[Q0 o2.get 51 (Nat.le_refl 51)];rfl)]
 exact hR _ _ _ e hval
mutual
theorem To_all:∀g:GM,ToOk g
 |.mk d pos empty tables enemy test uniq amb=>ToStep (Qig tables) (Qig enemy) (Qig test) (Qig uniq) (Qig amb)
theorem Qig:∀gs:List GM,∀k∈gs,ToOk k
 |[],k,h=>by simp at h
 |g::gs,k,h=>by
  rcases List.mem_cons.1 h with h|h
  ·rw[h];exact To_all g
  ·exact Qig gs k h
end
set_option maxHeartbeats 1000000 in
theorem OfStep {d:Qbg} {pos:List Qav} {empty:List Qan} {tables enemy test uniq amb:List GM} (hT:∀k∈tables,OfOk k) (hE:∀k∈enemy,OfOk k) (hU:∀k∈test,OfOk k) (hQ:∀k∈uniq,OfOk k) (hA:∀k∈amb,OfOk k):OfOk (.mk d pos empty tables enemy test uniq amb):=by
 intro G H cells R hG hv hlm hR
 rw[Qb3]at hv
 obtain ⟨c,rfl,g,wT,wE,wU,wQ,wA⟩:=hv
 obtain ⟨astrings,nstrings,cstrings,hstrings⟩:=SlV.sl g.strings
 obtain ⟨abools,nbools,cbools,hbools⟩:=SlV.sl g.bools
 obtain ⟨astrings2,nstrings2,cstrings2,hstrings2⟩:=SlV.sl g.strings2
 obtain ⟨alongs,nlongs,clongs,hlongs⟩:=SlV.sl g.longs
 obtain ⟨adoubles,ndoubles,cdoubles,hdoubles⟩:=SlV.sl g.doubles
 obtain ⟨arefs,nrefs,crefs,hrefs⟩:=SlV.sl g.refs
 obtain ⟨aweak,nweak,cweak,hweak⟩:=SlV.sl g.weak
 obtain ⟨astrong,nstrong,cstrong,hstrong⟩:=SlV.sl g.strong
 obtain ⟨acoOwnings,ncoOwnings,ccoOwnings,hcoOwnings⟩:=SlV.sl g.coOwnings
 obtain ⟨anonOwnings,nnonOwnings,cnonOwnings,hnonOwnings⟩:=SlV.sl g.nonOwnings
 rw[LenM]at hlm
 obtain ⟨⟨l0,l1,l2,l3,l4,l5,l6,l7,l8,l9⟩,_,mT,mE,mU,mQ,mA⟩:=hlm
 have gstrings:=g.strings
 have gbools:=g.bools
 have gstrings2:=g.strings2
 have glongs:=g.longs
 have gdoubles:=g.doubles
 have grefs:=g.refs
 have gweak:=g.weak
 have gstrong:=g.strong
 have gcoOwnings:=g.coOwnings
 have gnonOwnings:=g.nonOwnings
 apply w11
 unfold s11
 rw[Q3,Q3]
 have e:=Ext.refl hG
 have o1:Yj H G (H.push (.cells (Value.agg (Yu d c).toArray).cells 51)) H.size (.cells (Yu d c).toArray 51 (0,0)):=Yj.fresh e _
 have e:=e.push (.cells (Value.agg (Yu d c).toArray).cells 51)
 generalize H.push (.cells (Value.agg (Yu d c).toArray).cells 51)=H1 at *
 have o2:=Yj.fresh e (.cells z38 38)
 have o1:=o1.push (.cells z38 38)
 have e:=e.push (.cells z38 38)
 have l0':=Cut.le_refl G
 generalize H1.push (.cells z38 38)=H2 at *
 refine Qy o1 (i:=0) (v:=c.pos) rfl ?_
 refine Qy o1 (i:=1) (v:=Qbh d.mana) rfl ?_
 refine Qy o1 (i:=2) (v:=Qbh d.hp) rfl ?_
 refine Qy o1 (i:=3) (v:=Yx d.name) rfl ?_
 refine Qy o1 (i:=4) (v:=Yx d.inventory) rfl ?_
 refine Qy o1 (i:=5) (v:=u8n d.color) rfl ?_
 refine ldn_ok o1 (i:=6) (n:=3) (vs:=[u8n d.testTy,c.test,u8n d.testColor]) rfl (by rw[YF];decide) ?_
 refine Qy o1 (i:=9) (v:=c.test4) rfl ?_
 refine Qy o1 (i:=10) (v:=c.strings) rfl ?_
 refine Qy o1 (i:=11) (v:=c.tables) rfl ?_
 refine Qy o1 (i:=12) (v:=c.enemy) rfl ?_
 refine Qy o1 (i:=13) (v:=Yx d.nested) rfl ?_
 refine Qy o1 (i:=14) (v:=c.empty) rfl ?_
 refine Qy o1 (i:=15) (v:=.bool d.bool) rfl ?_
 refine Qy o1 (i:=16) (v:=Qf5 d.s32) rfl ?_
 refine Qy o1 (i:=17) (v:=Zs d.u32) rfl ?_
 refine Qy o1 (i:=18) (v:=Qdi d.s64) rfl ?_
 refine Qy o1 (i:=19) (v:=YY d.u64) rfl ?_
 refine Qy o1 (i:=20) (v:=Qf5 d.s32a) rfl ?_
 refine Qy o1 (i:=21) (v:=Zs d.u32a) rfl ?_
 refine Qy o1 (i:=22) (v:=Qdi d.s64a) rfl ?_
 refine Qy o1 (i:=23) (v:=YY d.u64a) rfl ?_
 refine Qy o1 (i:=24) (v:=c.bools) rfl ?_
 refine Qy o1 (i:=25) (v:=Zs d.f) rfl ?_
 refine Qy o1 (i:=26) (v:=Zs d.f2) rfl ?_
 refine Qy o1 (i:=27) (v:=Zs d.f3) rfl ?_
 refine Qy o1 (i:=28) (v:=c.strings2) rfl ?_
 refine Qy o1 (i:=29) (v:=c.abil) rfl ?_
 refine Qy o1 (i:=30) (v:=Yx d.flex) rfl ?_
 refine Qy o1 (i:=31) (v:=c.test5) rfl ?_
 refine Qy o1 (i:=32) (v:=c.longs) rfl ?_
 refine Qy o1 (i:=33) (v:=c.doubles) rfl ?_
 refine Qy o1 (i:=34) (v:=.bool d.parent) rfl ?_
 refine Qy o1 (i:=35) (v:=c.refs) rfl ?_
 refine Qy o1 (i:=36) (v:=YY d.singleWeak) rfl ?_
 refine Qy o1 (i:=37) (v:=c.weak) rfl ?_
 refine Qy o1 (i:=38) (v:=c.strong) rfl ?_
 refine Qy o1 (i:=39) (v:=YY d.coOwning) rfl ?_
 refine Qy o1 (i:=40) (v:=c.coOwnings) rfl ?_
 refine Qy o1 (i:=41) (v:=YY d.nonOwning) rfl ?_
 refine Qy o1 (i:=42) (v:=c.nonOwnings) rfl ?_
 refine ldn_ok o1 (i:=43) (n:=3) (vs:=[u8n d.uniqTy,c.uniq,u8n d.uniqColor]) rfl (by rw[YF];decide) ?_
 refine ldn_ok o1 (i:=46) (n:=3) (vs:=[u8n d.ambTy,c.amb,u8n d.ambColor]) rfl (by rw[YF];decide) ?_
 refine Qy o1 (i:=49) (v:=Yx d.enums) rfl ?_
 refine Qy o1 (i:=50) (v:=i8V d.signedEnum) rfl ?_
 refine mjb_ok e.inn (g.pos.mono e.le) l0 (slE (P:=fun F v=>SlV F 7 v (pos.map YS)) (fun _ _ h=>SlV.sl h) ?_)
 intro Gpos Hpos apos npos cpos e2 wpos
 refine Qw e2.keep.ext ?_
 have e:=e.trans e2
 have o2:=o2.ext e2
 have lepos:=e2.le
 refine Qb1 (by kernel_rfl) ?_
 refine Of_choice e.inn (Qba.mono e.le wU) hU mU l7 ?_
 intro Gtest Htest atest ntest ctest e2 wtest
 refine Qw e2.keep.ext ?_
 have e:=e.trans e2
 have o2:=o2.ext e2
 have letest:=e2.le
 refine mjc_ok e.inn (g.test4.mono e.le) l2 (slE (P:=fun F v=>SlV F 2 v (d.test4.map Yg)) (fun _ _ h=>SlV.sl h) ?_)
 intro Gtest4 Htest4 atest4 ntest4 ctest4 e2 wtest4
 refine Qw e2.keep.ext ?_
 have e:=e.trans e2
 have o2:=o2.ext e2
 have letest4:=e2.le
 refine mja_ok e.inn (Qba.mono e.le wT) hT mT l5 (slE (P:=fun F v=>Qba F tables v) (fun _ _ h=>Qba.sl h) ?_)
 intro Gtables Htables atables ntables ctables e2 wtables
 refine Qw e2.keep.ext ?_
 have e:=e.trans e2
 have o2:=o2.ext e2
 have letables:=e2.le
 refine mja_ok e.inn (Qba.mono e.le wE) hE mE l6 (slE (P:=fun F v=>Qba F enemy v) (fun _ _ h=>Qba.sl h) ?_)
 intro Genemy Henemy aenemy nenemy cenemy e2 wenemy
 refine Qw e2.keep.ext ?_
 have e:=e.trans e2
 have o2:=o2.ext e2
 have leenemy:=e2.le
 refine mjd_ok e.inn (g.empty.mono e.le) l1 (slE (P:=fun F v=>SlV F 3 v (empty.map Y3)) (fun _ _ h=>SlV.sl h) ?_)
 intro Gempty Hempty aempty nempty cempty e2 wempty
 refine Qw e2.keep.ext ?_
 have e:=e.trans e2
 have o2:=o2.ext e2
 have leempty:=e2.le
 refine mje_ok e.inn (g.abil.mono e.le) l3 (slE (P:=fun F v=>SlV F 2 v (d.abilities.map Ze)) (fun _ _ h=>SlV.sl h) ?_)
 intro Gabil Habil aabil nabil cabil e2 wabil
 refine Qw e2.keep.ext ?_
 have e:=e.trans e2
 have o2:=o2.ext e2
 have leabil:=e2.le
 refine mjc2_ok e.inn (g.test5.mono e.le) l4 (slE (P:=fun F v=>SlV F 2 v (d.test5.map Yg)) (fun _ _ h=>SlV.sl h) ?_)
 intro Gtest5 Htest5 atest5 ntest5 ctest5 e2 wtest5
 refine Qw e2.keep.ext ?_
 have e:=e.trans e2
 have o2:=o2.ext e2
 have letest5:=e2.le
 refine Qb1 (by kernel_rfl) ?_
 refine Of_choice e.inn (Qba.mono e.le wQ) hQ mQ l8 ?_
 intro Guniq Huniq auniq nuniq cuniq e2 wuniq
 refine Qw e2.keep.ext ?_
 have e:=e.trans e2
 have o2:=o2.ext e2
 have leuniq:=e2.le
 refine Qb1 (by kernel_rfl) ?_
 refine Of_choice e.inn (Qba.mono e.le wA) hA mA l9 ?_
 intro Gamb Hamb aamb namb camb e2 wamb
 refine Qw e2.keep.ext ?_
 have e:=e.trans e2
 have o2:=o2.ext e2
 have leamb:=e2.le
 rw[hstrings]at gstrings
 rw[hbools]at gbools
 rw[hstrings2]at gstrings2
 rw[hlongs]at glongs
 rw[hdoubles]at gdoubles
 rw[hrefs]at grefs
 rw[hweak]at gweak
 rw[hstrong]at gstrong
 rw[hcoOwnings]at gcoOwnings
 rw[hnonOwnings]at gnonOwnings
 simp only[hstrings,hbools,hstrings2,hlongs,hdoubles,hrefs,hweak,hstrong,hcoOwnings,hnonOwnings]
 have hf:=fill_of d apos npos cpos atest ntest ctest atest4 ntest4 ctest4 astrings nstrings cstrings atables ntables ctables aenemy nenemy cenemy aempty nempty cempty abools nbools cbools astrings2 nstrings2 cstrings2 aabil nabil cabil atest5 ntest5 ctest5 alongs nlongs clongs adoubles ndoubles cdoubles arefs nrefs crefs aweak nweak cweak astrong nstrong cstrong acoOwnings ncoOwnings ccoOwnings anonOwnings nnonOwnings cnonOwnings auniq nuniq cuniq aamb namb camb
 unfold QB
 simp only[hf]
 have Lamb:=Cut.le_refl Gamb
 have Luniq:Guniq.le Gamb:=Cut.le_trans leamb Lamb
 have Ltest5:Gtest5.le Gamb:=Cut.le_trans leuniq Luniq
 have Labil:Gabil.le Gamb:=Cut.le_trans letest5 Ltest5
 have Lempty:Gempty.le Gamb:=Cut.le_trans leabil Labil
 have Lenemy:Genemy.le Gamb:=Cut.le_trans leempty Lempty
 have Ltables:Gtables.le Gamb:=Cut.le_trans leenemy Lenemy
 have Ltest4:Gtest4.le Gamb:=Cut.le_trans letables Ltables
 have Ltest:Gtest.le Gamb:=Cut.le_trans letest4 Ltest4
 have Lpos:Gpos.le Gamb:=Cut.le_trans letest Ltest
 have L0:G.le Gamb:=Cut.le_trans lepos Lpos
 have hval:Qb3 Gamb (.mk d pos empty tables enemy test uniq amb) (Yu d ⟨.slice apos npos cpos,.slice atest ntest ctest,.slice atest4 ntest4 ctest4,.slice astrings nstrings cstrings,.slice atables ntables ctables,.slice aenemy nenemy cenemy,.slice aempty nempty cempty,.slice abools nbools cbools,.slice astrings2 nstrings2 cstrings2,.slice aabil nabil cabil,.slice atest5 ntest5 ctest5,.slice alongs nlongs clongs,.slice adoubles ndoubles cdoubles,.slice arefs nrefs crefs,.slice aweak nweak cweak,.slice astrong nstrong cstrong,.slice acoOwnings ncoOwnings ccoOwnings,.slice anonOwnings nnonOwnings cnonOwnings,.slice auniq nuniq cuniq,.slice aamb namb camb⟩):=by
  rw[Qb3]
  exact ⟨_,rfl,⟨(wpos.mono Lpos),(wtest4.mono Ltest4),(gstrings.mono L0),(wempty.mono Lempty),(gbools.mono L0),(gstrings2.mono L0),(wabil.mono Labil),(wtest5.mono Ltest5),(glongs.mono L0),(gdoubles.mono L0),(grefs.mono L0),(gweak.mono L0),(gstrong.mono L0),(gcoOwnings.mono L0),(gnonOwnings.mono L0)⟩,(Qba.mono Ltables wtables),(Qba.mono Lenemy wenemy),(Qba.mono Ltest wtest),(Qba.mono Luniq wuniq),(Qba.mono Lamb wamb)⟩
 rw[Ye (n:=51) (c':=(Yu d ⟨.slice apos npos cpos,.slice atest ntest ctest,.slice atest4 ntest4 ctest4,.slice astrings nstrings cstrings,.slice atables ntables ctables,.slice aenemy nenemy cenemy,.slice aempty nempty cempty,.slice abools nbools cbools,.slice astrings2 nstrings2 cstrings2,.slice aabil nabil cabil,.slice atest5 ntest5 ctest5,.slice alongs nlongs clongs,.slice adoubles ndoubles cdoubles,.slice arefs nrefs crefs,.slice aweak nweak cweak,.slice astrong nstrong cstrong,.slice acoOwnings ncoOwnings ccoOwnings,.slice anonOwnings nnonOwnings cnonOwnings,.slice auniq nuniq cuniq,.slice aamb namb camb⟩).toArray) o2.get rfl rfl (by decide) (by simpa using Qb3.one hval)]
 have e:=e.set o2.out o2.new (.cells (Yu d ⟨.slice apos npos cpos,.slice atest ntest ctest,.slice atest4 ntest4 ctest4,.slice astrings nstrings cstrings,.slice atables ntables ctables,.slice aenemy nenemy cenemy,.slice aempty nempty cempty,.slice abools nbools cbools,.slice astrings2 nstrings2 cstrings2,.slice aabil nabil cabil,.slice atest5 ntest5 ctest5,.slice alongs nlongs clongs,.slice adoubles ndoubles cdoubles,.slice arefs nrefs crefs,.slice aweak nweak cweak,.slice astrong nstrong cstrong,.slice acoOwnings ncoOwnings ccoOwnings,.slice anonOwnings nnonOwnings cnonOwnings,.slice auniq nuniq cuniq,.slice aamb namb camb⟩).toArray 38 (0,0))
 have o2:=o2.set (.cells (Yu d ⟨.slice apos npos cpos,.slice atest ntest ctest,.slice atest4 ntest4 ctest4,.slice astrings nstrings cstrings,.slice atables ntables ctables,.slice aenemy nenemy cenemy,.slice aempty nempty cempty,.slice abools nbools cbools,.slice astrings2 nstrings2 cstrings2,.slice aabil nabil cabil,.slice atest5 ntest5 ctest5,.slice alongs nlongs clongs,.slice adoubles ndoubles cdoubles,.slice arefs nrefs crefs,.slice aweak nweak cweak,.slice astrong nstrong cstrong,.slice acoOwnings ncoOwnings ccoOwnings,.slice anonOwnings nnonOwnings cnonOwnings,.slice auniq nuniq cuniq,.slice aamb namb camb⟩).toArray 38 (0,0))
 rw[Y0 (n:=51) (vs:=Yu d ⟨.slice apos npos cpos,.slice atest ntest ctest,.slice atest4 ntest4 ctest4,.slice astrings nstrings cstrings,.slice atables ntables ctables,.slice aenemy nenemy cenemy,.slice aempty nempty cempty,.slice abools nbools cbools,.slice astrings2 nstrings2 cstrings2,.slice aabil nabil cabil,.slice atest5 ntest5 ctest5,.slice alongs nlongs clongs,.slice adoubles ndoubles cdoubles,.slice arefs nrefs crefs,.slice aweak nweak cweak,.slice astrong nstrong cstrong,.slice acoOwnings ncoOwnings ccoOwnings,.slice anonOwnings nnonOwnings cnonOwnings,.slice auniq nuniq cuniq,.slice aamb namb camb⟩) (by rw[Q0 o2.get 51 (Nat.le_refl 51)];rfl)]
 exact hR _ _ _ e hval
mutual
theorem Of_all:∀g:GM,OfOk g
 |.mk d pos empty tables enemy test uniq amb=>OfStep (Qit tables) (Qit enemy) (Qit test) (Qit uniq) (Qit amb)
theorem Qit:∀gs:List GM,∀k∈gs,OfOk k
 |[],k,h=>by simp at h
 |g::gs,k,h=>by
  rcases List.mem_cons.1 h with h|h
  ·rw[h];exact Of_all g
  ·exact Qit gs k h
end
end Go.Proofs
