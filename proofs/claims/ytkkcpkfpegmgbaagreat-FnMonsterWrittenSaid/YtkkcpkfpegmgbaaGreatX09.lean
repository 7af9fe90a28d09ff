/- WHAT IS PROVED: the given statement of FnMonsterWritten, whatever the input: this is part 9 of 14. No conditions. -/
import Derived.Test.YtkkcpkfpegmgbaaGreatX08
set_option linter.all false
namespace Go.Proofs
open Go Go.Vc
open Tryz (prog)
theorem Qd.ext {H H':Qe} {p:Nat} {S:BS} {F F':Cut} {r:Nat} (h:Qd H p S F r) (e:Ext F H F' H'):Qd H' p S F' r:=by
 obtain ⟨hd,h1,⟨B,V,T,L,len,vtv,vtsv,ee,eB,hr,h2⟩⟩:=h
 obtain ⟨l1,l2,l3,l4⟩:=hr.V_lt
 have same:∀b,b<H.size->H'[b]?=H[b]?:=fun b hb=>by
  rw[Array.getElem?_eq_getElem hb]
  exact e.keep b _ (Array.getElem?_eq_getElem hb)
 refine ⟨hd,h1,⟨B,V,T,L,len,vtv,vtsv,ee,eB,hr.frame ?_ ?_,h2⟩⟩
 ·intro b hb
  rcases hb with rfl|rfl|rfl|rfl
  ·exact same _ l1
  ·exact same _ l2
  ·exact same _ l3
  ·exact same _ l4
 ·intro b o hb
  refine ⟨e.inn b o hb,?_⟩
  by_cases hlt:b<H.size
  ·rw[e.old b hlt]at hb
   exact (hr.hF b o hb).2
  ·exact ⟨by omega,by omega,by omega,by omega⟩
theorem Qhk {H:Qe} {B hd:Nat} {bs:List UInt8} (h:U8s H B hd bs):∀{n i:Nat},i+n<=bs.length->Zf H ⟨B,hd,none⟩ i n=some (((bs.drop i).take n).map u8V)
 |0,i,_=>by simp[Zf]
 |n+1,i,hl=>by
  have h1:=h i (by omega)
  rw[Zf,QeC,h1]
  simp only
  rw[Qhk h (n:=n) (i:=i+1) (by omega)]
  simp only
  have e:bs.drop i=(bs[i]'(by omega))::bs.drop (i+1):=List.drop_eq_getElem_cons (by omega)
  rw[e,List.take_succ_cons,List.map_cons]
  congr 2
  unfold byteN u8V
  simp[List.getD,List.getElem?_eq_getElem (show i<bs.length by omega)]
theorem packAll_len4 (m:Mon):4<=(Qat m).length:=by
 have e:Qat m=leB (((prep 4 0 (prep (Qb1 m Qfr).1.min 4 (Qb1 m Qfr).1)).buf.length-(Qb1 m Qfr).2+4:Nat):Int) 4++(List.replicate (padOf 4 ((prep (Qb1 m Qfr).1.min 4 (Qb1 m Qfr).1).buf.length+0)) 0++(prep (Qb1 m Qfr).1.min 4 (Qb1 m Qfr).1).buf):=rfl
 rw[e,List.length_append,Qf];omega
theorem MonsterPack_ok {g:GM} {cells:List Value} {n:Nat} {G:Cut} {H:Qe} {R:Kn} (hG:G.In H) (hv:QaX G g cells) (hs:Qck g) (hcost:Qg9 (toM g)<=400000000) (hn:n<65536) (hR:∀H',Qaf H H'->R (.tuple #[Yf (Qat (toM g)),.bool true]) H'):
  FnS prog 18 #[.agg cells.toArray,.int .i64 (n:Nat)] H R:=by
 apply w18
 unfold s18
 rw[Qy,Qy,Qy]
 have k1:=Qaf.push H (.cells (Value.agg cells.toArray).cells 55)
 have a2:(H.push (.cells (Value.agg cells.toArray).cells 55))[H.size]?=some (.cells cells.toArray 55 (0,0)):=Qh
 generalize H.push (.cells (Value.agg cells.toArray).cells 55)=H1 at *
 have k2:=Qaf.push H1 (.cells (Value.int .i64 (n:Nat)).cells 3)
 have a3:(H1.push (.cells (Value.int .i64 (n:Nat)).cells 3))[H1.size]?=some (.cells #[.int .i64 (n:Nat)] 3 (0,0)):=Qh
 generalize H1.push (.cells (Value.int .i64 (n:Nat)).cells 3)=H2 at *
 have k3:=Qaf.push H2 (.cells z9 9)
 have a4:(H2.push (.cells z9 9))[H2.size]?=some (.cells z9 9 (0,0)):=Qh
 have n4:(H2.push (.cells z9 9)).size=H2.size+1:=size_push
 generalize H2.push (.cells z9 9)=H3 at *
 have s1:=k1.size
 have s2:=k2.size
 refine thrown_ok (by kernel_rfl) ?_
 apply w62
 unfold s62
 have k4:=Qaf.push H3 (.cells #[.bool false] 4 (0,0))
 have a5:(H3.push (.cells #[.bool false] 4 (0,0)))[H3.size]?=some (.cells #[.bool false] 4 (0,0)):=Qh
 have b2:=(k2.trans (k3.trans k4)) _ _ a2
 have b3:=(k3.trans k4) _ _ a3
 have b4:=k4 _ _ a4
 have kH:=k1.trans (k2.trans (k3.trans k4))
 generalize H3.push (.cells #[.bool false] 4 (0,0))=Hc at *
 rw[Ql ((Qj b3).trans (show (#[Value.int .i64 (n:Nat)]:Array Value)[0]?=some _ from rfl))]
 refine go_NewBuilder (F:=Cut.of Hc) hn (fun b o h=>h) ?_
 intro H4 hB hk4
 have hle:G.le (Cut.of Hc):=fun b o hb=>kH b o (hG b o hb)
 have hvl:=hv.len
 rw[YI (n:=51) (vs:=cells) (by rw[Q4 (hk4 _ _ b2) 51 (by simp[hvl])];simp[<-hvl])]
 refine QiV g (Cut.of Hc) H4 cells _ hB.cut (hv.mono hle) hs ?_
 intro G5 H5 v e5 hmt
 have hB5:=Qd.ext hB e5
 have hpk:=(packM_ok (toM g) Qfr Inv.new).1
 refine MonsterT_Pack hB5 Inv.new hmt (by show 0+_+_<=_;omega) ?_
 intro H6 hB6
 obtain ⟨k,hk3,hk⟩:=hpk.inv.min
 have hlen:=hpk.len
 have hlen0:(Qb1 (toM g) Qfr).1.buf.length<=0+Qg9 (toM g):=hlen
 refine Qik hB6 hpk.inv.nested hk hk3 hpk.off (by omega) ?_
 intro H7 hB7
 have hr4:=packAll_len4 (toM g)
 refine Qf0 hB7 rfl (by show 0<(Qat (toM g)).length;omega) ?_
 intro B hd c hc hu
 have hu':U8s H7 B hd (Qat (toM g)):=hu
 refine Qhn (xs:=Qat (toM g)) (by
  have:=Qhk hu' (n:=(Qat (toM g)).length) (i:=0) (by omega)
  rw[List.drop_zero,List.take_of_length_le (Nat.le_refl _)]at this
  exact this) ?_
 have c4:=hB7.get (e5.le _ _ (show Cut.of Hc H2.size=some _ from b4))
 have c5:=hB7.get (e5.le _ _ (show Cut.of Hc H3.size=some _ from a5))
 have kF:Qaf H H7:=fun b o hb=>hB7.get (e5.le _ _ (kH b o hb))
 rw[Qas (v:=Yf (Qat (toM g))) c4 (by decide) (by simp) rfl]
 have d4:=QV (o:=.cells (z9.setIfInBounds 0 (Yf (Qat (toM g)))) 9 (0,0)) c4
 refine ⟨rfl,by rw[Qw (by omega)];exact c5,?_⟩
 have kF2:Qaf H (setB H7 H2.size (.cells (z9.setIfInBounds 0 (Yf (Qat (toM g)))) 9 (0,0))):=kF.setB (by omega) _
 generalize setB H7 H2.size (.cells (z9.setIfInBounds 0 (Yf (Qat (toM g)))) 9 (0,0))=H8 at *
 rw[Ym]
 show ZI prog (Op.unary .not (.bool true)) _
 rw[Ym]
 show IfK (.bool false) _ _
 rw[ZG,Ql ((Qj d4).trans (show (z9.setIfInBounds 0 (Yf (Qat (toM g))))[0]?=some (Yf (Qat (toM g))) from rfl)),Qas (v:=Yf (Qat (toM g))) d4 (show 0<1 from Nat.zero_lt_one) (by simp) rfl]
 have d5:=QV (o:=.cells ((z9.setIfInBounds 0 (Yf (Qat (toM g)))).setIfInBounds 0 (Yf (Qat (toM g)))) 9 (0,0)) d4
 rw[Ql ((Qj d5).trans (show ((z9.setIfInBounds 0 (Yf (Qat (toM g)))).setIfInBounds 0 (Yf (Qat (toM g))))[0]?=some (Yf (Qat (toM g))) from rfl))]
 exact hR _ (kF2.setB (by omega) _)
theorem CopyK_u8 {H:Qe} {B n c:Nat} {e:TypeId} {L xs:List UInt8} (hB:H[B]?=some (.cells (u8c L) e (0,0))) (hx:xs.length=n) (hl:n<=L.length) {k:Kn} (hk:k (.int .i64 n) (wr H B e (Zt L 0 xs))):Qh5 H 1 (.slice (some ⟨B,0,none⟩) n c) (Yf xs) k:=by
 subst hx
 have hs:lenV (Yf xs)=xs.length:=Qau xs
 refine ⟨xs.map u8V,?_,_,setN_u8 hB (by omega),?_⟩
 ·rw[hs,show xs.length.min xs.length=xs.length from Nat.min_self _]
  show some (Z2 ((ByteArray.mk xs.toArray).extract 0 xs.length)).toList=_
  have:(ByteArray.mk xs.toArray).extract 0 xs.length=ByteArray.mk xs.toArray:=by
   apply ByteArray.ext
   rw[ByteArray.data_extract]
   simp
  rw[this]
  simp[Z2]
 ·rw[hs,show xs.length.min xs.length=xs.length from Nat.min_self _];exact hk
theorem slice_ok {H:Qe} {xs:List UInt8} (hl:xs.length<2147483648) {R:Kn} (hR:R (bsl H.size 0 xs.length xs.length) (H.push (.cells (u8c xs) 5 (0,0)))):FnS prog 32 #[Yf xs] H R:=by
 apply w32
 unfold s32
 rw[Qdo,Qau]
 refine ⟨by omega,by omega,by omega,by omega,?_⟩
 rw[Int.toNat_natCast,mk_u8 (z:=z5) rfl]
 refine CopyK_u8 (L:=List.replicate xs.length 0) (e:=5) Qh rfl (by simp) ?_
 have e:wr (H.push (.cells (u8c (List.replicate xs.length 0)) 5)) H.size 5 (Zt (List.replicate xs.length 0) 0 xs)=H.push (.cells (u8c xs) 5 (0,0)):=by
  unfold wr
  rw[show setB (H.push (.cells (u8c (List.replicate xs.length 0)) 5)) H.size _=_ from Yq]
  congr 2
  rw[Qbq _ _ _ (by simp)]
  simp
 rw[e]
 exact hR
theorem root_ok {H:Qe} {B:Nat} {bs:List UInt8} (hu:U8s H B 0 bs) (h4:4<=bs.length) (hl:bs.length<2147483648) (hle:le4 bs 0<=bs.length) {R:Kn} (hR:R (ptr H.size) (H.push (.cells #[bsl B 0 bs.length bs.length,.int .u32 (le4 bs 0:Nat)] 187))):
  FnS prog 31 #[bsl B 0 bs.length bs.length,.int .u32 0] H R:=by
 apply w31
 unfold s31
 rw[show (Value.int .u32 0)=Value.int .u32 ((0:Nat):Int) from rfl,SlcB (n:=bs.length) (m:=0) rfl (by omega)]
 refine ZW hu (by omega) (by omega) ?_
 rw[QgE,Qy,QA,QW (by omega) (by omega),show ((le4 bs 0:Nat):Int)+((0:Nat):Int)=((le4 bs 0:Nat):Int) by omega]
 refine ZT Qh rfl rfl rfl ?_
 rw[Yq]
 exact hR
theorem Qhf {bs:List UInt8} {m:Mon} (hr:RootRw bs m) (hl:bs.length<2147483648) {G:Cut} {H:Qe} (hG:G.In H) {R:Kn} (hR:∀G' H' cells,Ext G H G' H'->QaX G' (rwM m) cells->R (.tuple #[.agg cells.toArray,.bool true]) H'):
  FnS prog 11 #[Yf bs] H R:=by
 apply w11
 unfold tp10
 rw[Qy,Qy]
 have e:=Ext.refl hG
 have o1:Yj H G (H.push (.cells (Yf bs).cells 9)) H.size (.cells #[Yf bs] 9 (0,0)):=Yj.fresh e _
 have e:=e.push (.cells (Yf bs).cells 9)
 generalize H.push (.cells (Yf bs).cells 9)=H1 at *
 have n1:=o1.ne
 have o2:=Yj.fresh e (.cells z55 55)
 have o1:=o1.push (.cells z55 55)
 have e:=e.push (.cells z55 55)
 generalize H1.push (.cells z55 55)=H2 at *
 refine thrown_ok (by kernel_rfl) ?_
 have n2:=o2.ne
 have o3:=Yj.fresh e (.cells #[.bool false] 4 (0,0))
 have o1:=o1.push (.cells #[.bool false] 4 (0,0))
 have o2:=o2.push (.cells #[.bool false] 4 (0,0))
 have e:=e.push (.cells #[.bool false] 4 (0,0))
 generalize H2.push (.cells #[.bool false] 4 (0,0))=H3 at *
 apply w34
 unfold s34
 rw[Ql ((Qj o1.get).trans (show (#[Yf bs]:Array Value)[0]?=some _ from rfl))]
 refine slice_ok hl ?_
 have u:U8s (H3.push (.cells (u8c bs) 5 (0,0))) H3.size 0 bs:=fun i hi=>by
  rw[Qj Qh,Nat.zero_add]
  unfold u8c byteN
  simp[hi,List.getD]
 have o1:=o1.push (.cells (u8c bs) 5 (0,0))
 have o2:=o2.push (.cells (u8c bs) 5 (0,0))
 have o3:=o3.push (.cells (u8c bs) 5 (0,0))
 have e:=e.push (.cells (u8c bs) 5 (0,0))
 generalize H3.push (.cells (u8c bs) 5 (0,0))=H4 at *
 have hlen:=hr.len
 have hle:=hr.le
 refine root_ok u hlen hl hle ?_
 have t:Tab (H4.push (.cells #[bsl H3.size 0 bs.length bs.length,.int .u32 (le4 bs 0:Nat)] 187)) H4.size H3.size bs (le4 bs 0):=⟨Qj Qh,Qj Qh,QeO (Qaf.push _ _).ext u,hl,hle⟩
 have o1:=o1.push (.cells #[bsl H3.size 0 bs.length bs.length,.int .u32 (le4 bs 0:Nat)] 187)
 have o2:=o2.push (.cells #[bsl H3.size 0 bs.length bs.length,.int .u32 (le4 bs 0:Nat)] 187)
 have o3:=o3.push (.cells #[bsl H3.size 0 bs.length bs.length,.int .u32 (le4 bs 0:Nat)] 187)
 have e:=e.push (.cells #[bsl H3.size 0 bs.length bs.length,.int .u32 (le4 bs 0:Nat)] 187)
 generalize H4.push (.cells #[bsl H3.size 0 bs.length bs.length,.int .u32 (le4 bs 0:Nat)] 187)=H5 at *
 obtain ⟨A,hrd⟩:=hr.rd
 refine Qgt m A _ _ _ bs G H5 _ t e.inn hrd ?_
 intro cells H6 G6 e6 hv
 have o1:=o1.ext e6
 have o2:=o2.ext e6
 have o3:=o3.ext e6
 have e:=e.trans e6
 have hvl:=hv.len
 have hone:=QaX.one hv
 rw[Yg (n:=51) (c':=cells.toArray) o2.get rfl (by simp[hvl]) (by decide) (by simpa using hone)]
 have e:=e.set o2.out o2.new (.cells cells.toArray 55 (0,0))
 have o3:=o3.set_ne (Ne.symm n2) (.cells cells.toArray 55 (0,0))
 have o2:=o2.set (.cells cells.toArray 55 (0,0))
 generalize setB H6 H1.size (.cells cells.toArray 55 (0,0))=H7 at *
 refine ⟨rfl,o3.get,?_⟩
 rw[Ym]
 show ZI prog (Op.unary .not (.bool true)) _
 rw[Ym]
 show IfK (.bool false) _ _
 rw[ZG,YI (n:=51) (vs:=cells) (by rw[Q4 o2.get 51 (by simp[hvl])];simp[<-hvl]),Yg (n:=51) (c':=cells.toArray) o2.get (by simp[hvl]) (by simp[hvl]) (by decide) (by simpa using hone)]
 have e:=e.set o2.out o2.new (.cells cells.toArray 55 (0,0))
 have o2:=o2.set (.cells cells.toArray 55 (0,0))
 rw[YI (n:=51) (vs:=cells) (by rw[Q4 o2.get 51 (by simp[hvl])];simp[<-hvl])]
 exact hR _ _ _ e hv
end Go.Proofs
namespace Go.Proofs
open Go Go.Vc
open Tryz (prog)
set_option maxRecDepth 100000
def s3 (a7:Value) (h:Qe) (R:Kn):Prop:=
 Y5 h (.cells (Value.cells a7) 38) fun a t=>
 LdN t 51 a fun a8=>
 Qa prog 4 #[a8] t fun a9 e=>
 ZI prog (Op.unary .not a9) fun b0=>
 IfK b0
 (R (.bool true) e)
 (LdN e 51 a fun b1=>
 Qa prog 5 #[b1] e fun b2 f=>
 ZI prog (Op.unary .not b2) fun d=>
 Qc d false (fun b3=>LdN f 51 a fun b4=>b3 b4 f) f fun b5 u=>
 Qc d false (fun b6=>Qa prog 6 #[b5] u fun b7 b8=>b6 b7 b8) u fun b9 v=>
 Qc d false (fun c0=>ZI prog (Op.unary .not b9) fun c1=>c0 c1 v) v fun c2 g=>
 Yd d (.bool true) c2 fun c3=>
 IfK c3
 (Qa prog 7 #[] g fun c4 c5=>
 R c4 c5)
 (LdN g 51 a fun c6=>
 Qa prog 9 #[c6] g fun c7 c8=>
 Qa prog 8 #[c7] c8 fun w c9=>
 Qa prog 10 #[w] c9 fun y d0=>
 QgT y 0 fun d1=>
 QgT y 1 fun z=>
 Y5 d0 (.cells z55 55) fun a0 d2=>
 StK d2 51 a0 d1 fun d3=>
 Qa prog 11 #[w] d3 fun a1 d4=>
 QgT a1 0 fun d5=>
 QgT a1 1 fun d6=>
 Y5 d4 (.cells z55 55) fun a2 d7=>
 StK d7 51 a2 d5 fun a3=>
 LdN a3 51 a fun d8=>
 Qa prog 12 #[d8] a3 fun d9 e0=>
 Y5 e0 (.cells z38 38) fun i e1=>
 StK e1 51 i d9 fun a4=>
 Qc z true (fun e2=>e2 d6 a4) a4 fun e3 j=>
 Yd z e3 (.bool false) fun b=>
 Qc b true (fun e4=>LdN j 51 a0 fun e5=>e4 e5 j) j fun e6 l=>
 Qc b true (fun e7=>LdN l 51 i fun e8=>e7 e8 l) l fun e9 m=>
 Qc b true (fun f0=>Qa prog 14 #[e6] m fun f1 f2=>f0 f1 f2) m fun f3 o=>
 Qi m o<|
 Qc b true (fun f4=>Qa prog 13 #[f3,e9] o fun f5 f6=>f4 f5 f6) o fun f7 p=>
 Yd b f7 (.bool false) fun c=>
 Qc c true (fun f8=>LdN p 51 a2 fun f9=>f8 f9 p) p fun g0 q=>
 Qc c true (fun g1=>LdN q 51 i fun g2=>g1 g2 q) q fun g3 r=>
 Qc c true (fun g4=>Qa prog 14 #[g0] r fun g5 g6=>g4 g5 g6) r fun g7 s=>
 Qi r s<|
 Qc c true (fun g8=>Qa prog 13 #[g7,g3] s fun g9 i0=>g8 g9 i0) s fun i1 a5=>
 Yd c i1 (.bool false) fun a6=>
 Qc a6 true (fun i2=>Qa prog 7 #[] a5 fun i3 i4=>i2 i3 i4) a5 fun i5 i6=>
 Yd a6 i5 (.bool false) fun i7=>
 R i7 i6))
theorem w3 {a h R} (H:s3 a h R):FnS prog 3 #[a] h R:=wq Tryz.func3 (by kernel_rfl) H
def s4 (f:Value) (h:Qe) (R:Kn):Prop:=
 Y5 h (.cells (Value.cells f) 38) fun b c=>
 Qg b 0 fun g=>
 LdK c g fun i=>
 Yv i fun j=>
 Qk prog .gtr 3 j (.int .i64 2147483647) fun l=>
 IfK l
 (R (.bool false) c)
 (Qg b 3 fun m=>
 LdK c m fun o=>
 QeL o fun p=>
 Qk prog .gtr 3 p (.int .i64 2147483647) fun q=>
 IfK q
 (R (.bool false) c)
 (Qg b 4 fun r=>
 LdK c r fun s=>
 QeL s fun t=>
 Qk prog .gtr 3 t (.int .i64 2147483647) fun u=>
 IfK u
 (R (.bool false) c)
 (Qg b 9 fun v=>
 LdK c v fun w=>
 Yv w fun y=>
 Qk prog .gtr 3 y (.int .i64 2147483647) fun z=>
 IfK z
 (R (.bool false) c)
 (Qg b 10 fun a0=>
 LdK c a0 fun a1=>
 Qa prog 15 #[a1] c fun a2 d=>
 ZI prog (Op.unary .not a2) fun a3=>
 IfK a3
 (R (.bool false) d)
 (Qg b 11 fun a4=>
 LdK d a4 fun a5=>
 Yv a5 fun a6=>
 Qk prog .gtr 3 a6 (.int .i64 2147483647) fun a7=>
 IfK a7
 (R (.bool false) d)
 (Qg b 12 fun a8=>
 LdK d a8 fun a9=>
 Yv a9 fun b0=>
 Qk prog .gtr 3 b0 (.int .i64 2147483647) fun b1=>
 IfK b1
 (R (.bool false) d)
 (Qg b 13 fun b2=>
 LdK d b2 fun b3=>
 QeL b3 fun b4=>
 Qk prog .gtr 3 b4 (.int .i64 2147483647) fun b5=>
 IfK b5
 (R (.bool false) d)
 (Qg b 14 fun b6=>
 LdK d b6 fun b7=>
 Qa prog 16 #[b7] d fun b8 e=>
 ZI prog (Op.unary .not b8) fun b9=>
 IfK b9
 (R (.bool false) e)
 (Qg b 24 fun c0=>
 LdK e c0 fun c1=>
 Yv c1 fun c2=>
 Qk prog .gtr 3 c2 (.int .i64 2147483647) fun c3=>
 IfK c3
 (R (.bool false) e)
 (Qg b 28 fun c4=>
 LdK e c4 fun c5=>
 Qa prog 15 #[c5] e fun c6 a=>
 ZI prog (Op.unary .not c6) fun c7=>
 IfK c7
 (R (.bool false) a)
 (Qg b 29 fun c8=>
 LdK a c8 fun c9=>
 Yv c9 fun d0=>
 Qk prog .gtr 3 d0 (.int .i64 2147483647) fun d1=>
 IfK d1
 (R (.bool false) a)
 (Qg b 30 fun d2=>
 LdK a d2 fun d3=>
 QeL d3 fun d4=>
 Qk prog .gtr 3 d4 (.int .i64 2147483647) fun d5=>
 IfK d5
 (R (.bool false) a)
 (Qg b 31 fun d6=>
 LdK a d6 fun d7=>
 Yv d7 fun d8=>
 Qk prog .gtr 3 d8 (.int .i64 2147483647) fun d9=>
 IfK d9
 (R (.bool false) a)
 (Qg b 32 fun e0=>
 LdK a e0 fun e1=>
 Yv e1 fun e2=>
 Qk prog .gtr 3 e2 (.int .i64 2147483647) fun e3=>
 IfK e3
 (R (.bool false) a)
 (Qg b 33 fun e4=>
 LdK a e4 fun e5=>
 Yv e5 fun e6=>
 Qk prog .gtr 3 e6 (.int .i64 2147483647) fun e7=>
 IfK e7
 (R (.bool false) a)
 (Qg b 35 fun e8=>
 LdK a e8 fun e9=>
 Yv e9 fun f0=>
 Qk prog .gtr 3 f0 (.int .i64 2147483647) fun f1=>
 IfK f1
 (R (.bool false) a)
 (Qg b 37 fun f2=>
 LdK a f2 fun f3=>
 Yv f3 fun f4=>
 Qk prog .gtr 3 f4 (.int .i64 2147483647) fun f5=>
 IfK f5
 (R (.bool false) a)
 (Qg b 38 fun f6=>
 LdK a f6 fun f7=>
 Yv f7 fun f8=>
 Qk prog .gtr 3 f8 (.int .i64 2147483647) fun f9=>
 IfK f9
 (R (.bool false) a)
 (Qg b 40 fun g0=>
 LdK a g0 fun g1=>
 Yv g1 fun g2=>
 Qk prog .gtr 3 g2 (.int .i64 2147483647) fun g3=>
 IfK g3
 (R (.bool false) a)
 (Qg b 42 fun g4=>
 LdK a g4 fun g5=>
 Yv g5 fun g6=>
 Qk prog .gtr 3 g6 (.int .i64 2147483647) fun g7=>
 IfK g7
 (R (.bool false) a)
 (Qg b 49 fun g8=>
 LdK a g8 fun g9=>
 QeL g9 fun i0=>
 Qk prog .gtr 3 i0 (.int .i64 2147483647) fun i1=>
 IfK i1
 (R (.bool false) a)
 (R (.bool true) a))))))))))))))))))))))
theorem w4 {a h R} (H:s4 a h R):FnS prog 4 #[a] h R:=wq Tryz.func4 (by kernel_rfl) H
def s5 (c:Value) (h:Qe) (R:Kn):Prop:=
 Y5 h (.cells (Value.cells c) 38) fun d e=>
 Y5 e (.cells z3 3) fun a f=>
 StK f 1 a (.int .i64 20) fun b=>
 LdN b 51 d fun g=>
 Qa prog 17 #[g,a,(.int .i64 5)] b fun i j=>
 R i j
theorem w5 {a h R} (H:s5 a h R):FnS prog 5 #[a] h R:=wq Tryz.func5 (by kernel_rfl) H
def s7 (h:Qe) (R:Kn):Prop:=
 Qz z55.toList [(3,1,(.string ⟨#[111,114,99]⟩)),(2,1,(.int .i16 80)),(1,1,(.int .i16 150))] fun u=>
 Qa prog 18 #[u,(.int .i64 0)] h fun i v=>
 QgT i 0 fun w=>
 QgT i 1 fun j=>
 Qa prog 11 #[w] v fun l y=>
 QgT l 0 fun z=>
 QgT l 1 fun a0=>
 Y5 y (.cells z55 55) fun a a1=>
 StK a1 51 a z fun m=>
 Qc j true (fun a2=>a2 a0 m) m fun a3 o=>
 Yd j a3 (.bool false) fun b=>
 Qc b true (fun a4=>Qg a 3 fun a5=>a4 a5 o) o fun a6 e=>
 Qc b true (fun a7=>LdK e a6 fun a8=>a7 a8 e) e fun a9 p=>
 Qc b true (fun b0=>Qk prog .eql 9 a9 (.string ⟨#[111,114,99]⟩) fun b1=>b0 b1 p) p fun b2 q=>
 Yd b b2 (.bool false) fun c=>
 Qc c true (fun b3=>Qg a 2 fun b4=>b3 b4 q) q fun b5 f=>
 Qc c true (fun b6=>LdK f b5 fun b7=>b6 b7 f) f fun b8 r=>
 Qc c true (fun b9=>Qk prog .eql 23 b8 (.int .i16 80) fun c0=>b9 c0 r) r fun c1 s=>
 Yd c c1 (.bool false) fun d=>
 Qc d true (fun c2=>Qg a 1 fun c3=>c2 c3 s) s fun c4 g=>
 Qc d true (fun c5=>LdK g c4 fun c6=>c5 c6 g) g fun c7 t=>
 Qc d true (fun c8=>Qk prog .eql 23 c7 (.int .i16 150) fun c9=>c8 c9 t) t fun d0 d1=>
 Yd d d0 (.bool false) fun d2=>
 R d2 d1
theorem w7 {h R} (H:s7 h R):FnS prog 7 #[] h R:=wq Tryz.func7 (by kernel_rfl) H
def s14 (r:Value) (h:Qe) (R:Kn):Prop:=
 Y5 h (.cells (Value.cells r) 55) fun b s=>
 Y5 s (.cells z38 38) fun o a=>
 Qg b 0 fun t=>
 LdK a t fun u=>
 Qg b 1 fun v=>
 LdK a v fun w=>
 Qg b 2 fun y=>
 LdK a y fun z=>
 Qg b 3 fun a0=>
 LdK a a0 fun a1=>
 Qg b 4 fun a2=>
 LdK a a2 fun a3=>
 Qg b 5 fun a4=>
 LdK a a4 fun a5=>
 Qg b 6 fun a6=>
 LdN a 3 a6 fun a7=>
 Qg b 9 fun a8=>
 LdK a a8 fun a9=>
 Qg b 10 fun b0=>
 LdK a b0 fun b1=>
 Qg b 11 fun b2=>
 LdK a b2 fun b3=>
 Qg b 12 fun b4=>
 LdK a b4 fun b5=>
 Qg b 13 fun b6=>
 LdK a b6 fun b7=>
 Qg b 14 fun b8=>
 LdK a b8 fun b9=>
 Qg b 15 fun c0=>
 LdK a c0 fun c1=>
 Qg b 16 fun c2=>
 LdK a c2 fun c3=>
 Qg b 17 fun c4=>
 LdK a c4 fun c5=>
 Qg b 18 fun c6=>
 LdK a c6 fun c7=>
 Qg b 19 fun c8=>
 LdK a c8 fun c9=>
 Qg b 20 fun d0=>
 LdK a d0 fun d1=>
 Qg b 21 fun d2=>
 LdK a d2 fun d3=>
 Qg b 22 fun d4=>
 LdK a d4 fun d5=>
 Qg b 23 fun d6=>
 LdK a d6 fun d7=>
 Qg b 24 fun d8=>
 LdK a d8 fun d9=>
 Qg b 25 fun e0=>
 LdK a e0 fun e1=>
 Qg b 26 fun e2=>
 LdK a e2 fun e3=>
 Qg b 27 fun e4=>
 LdK a e4 fun e5=>
 Qg b 28 fun e6=>
 LdK a e6 fun e7=>
 Qg b 29 fun e8=>
 LdK a e8 fun e9=>
 Qg b 30 fun f0=>
 LdK a f0 fun f1=>
 Qg b 31 fun f2=>
 LdK a f2 fun f3=>
 Qg b 32 fun f4=>
 LdK a f4 fun f5=>
 Qg b 33 fun f6=>
 LdK a f6 fun f7=>
 Qg b 34 fun f8=>
 LdK a f8 fun f9=>
 Qg b 35 fun g0=>
 LdK a g0 fun g1=>
 Qg b 36 fun g2=>
 LdK a g2 fun g3=>
 Qg b 37 fun g4=>
 LdK a g4 fun g5=>
 Qg b 38 fun g6=>
 LdK a g6 fun g7=>
 Qg b 39 fun g8=>
 LdK a g8 fun g9=>
 Qg b 40 fun i0=>
 LdK a i0 fun i1=>
 Qg b 41 fun i2=>
 LdK a i2 fun i3=>
 Qg b 42 fun i4=>
 LdK a i4 fun i5=>
 Qg b 43 fun i6=>
 LdN a 3 i6 fun i7=>
 Qg b 46 fun i8=>
 LdN a 3 i8 fun i9=>
 Qg b 49 fun j0=>
 LdK a j0 fun j1=>
 Qg b 50 fun j2=>
 LdK a j2 fun j3=>
 Qa prog 49 #[u,(.func (.func 50) #[] #[])] a fun j4 c=>
 Qi a c<|
 DynK prog (.func (.func 47) #[] #[]) #[a7] c fun j5 d=>
 Qi c d<|
 Qa prog 51 #[a9,(.func (.func 52) #[] #[])] d fun j6 e=>
 Qi d e<|
 Qa prog 48 #[b3,(.func (.func 14) #[] #[])] e fun j7 f=>
 Qi e f<|
 Qa prog 48 #[b5,(.func (.func 14) #[] #[])] f fun j8 g=>
 Qi f g<|
 Qa prog 53 #[b9,(.func (.func 54) #[] #[])] g fun j9 i=>
 Qi g i<|
 Qa prog 55 #[e9,(.func (.func 56) #[] #[])] i fun l0 j=>
 Qi i j<|
 Qa prog 51 #[f3,(.func (.func 57) #[] #[])] j fun l1 l=>
 Qi j l<|
 DynK prog (.func (.func 47) #[] #[]) #[i7] l fun l2 m=>
 Qi l m<|
 DynK prog (.func (.func 47) #[] #[]) #[i9] m fun l3 p=>
 Qi m p<|
 Qz z38.toList [(0,1,j4),(1,1,w),(2,1,z),(3,1,a1),(4,1,a3),(5,1,a5),(6,3,j5),(9,1,j6),(10,1,b1),(11,1,j7),(12,1,j8),(13,1,b7),(14,1,j9),(15,1,c1),(16,1,c3),(17,1,c5),(18,1,c7),(19,1,c9),(20,1,d1),(21,1,d3),(22,1,d5),(23,1,d7),(24,1,d9),(25,1,e1),(26,1,e3),(27,1,e5),(28,1,e7),(29,1,l0),(30,1,f1),(31,1,l1),(32,1,f5),(33,1,f7),(34,1,f9),(35,1,g1),(36,1,g3),(37,1,g5),(38,1,g7),(39,1,g9),(40,1,i1),(41,1,i3),(42,1,i5),(43,3,l2),(46,3,l3),(49,1,j1),(50,1,j3)] fun l4=>
 StK p 51 o l4 fun q=>
 LdN q 51 o fun l5=>
 R l5 q
theorem w14 {a h R} (H:s14 a h R):FnS prog 14 #[a] h R:=wq Tryz.func14 (by kernel_rfl) H
def s15 (c:Value) (h:Qe) (R:Kn):Prop:=
 Yv c fun j=>
 Qk prog .gtr 3 j (.int .i64 2147483647) fun l=>
 IfK l
 (R (.bool false) h)
 (QD (fun d=>
 Yv c fun m=>
 Yu [(.int .i64 0),(.bool false)] h fun f g=>∀b e:Value,∀a:Qe,f g [b,e] a->
 Qk prog .lss 3 b m fun o=>
 IfK o
 (Y1 1 c b fun p=>
 LdK a p fun q=>
 QeL q fun r=>
 Qk prog .gtr 3 r (.int .i64 2147483647) fun s=>
 IfK s
 (R (.bool false) a)
 (Qk prog .add 3 b (.int .i64 1) fun t=>
 QS f g [t,e] a))
 (d [e] a)) fun d=>∀u:Value,∀i:Qe,d [u] i->
 R (.bool true) i)
theorem w15 {a h R} (H:s15 a h R):FnS prog 15 #[a] h R:=wq Tryz.func15 (by kernel_rfl) H
def s16 (c:Value) (h:Qe) (R:Kn):Prop:=
 Yv c fun o=>
 Qk prog .gtr 3 o (.int .i64 2147483647) fun p=>
 IfK p
 (R (.bool false) h)
 (QD (fun d=>
 Yv c fun q=>
 Yu [(.int .i64 0),(.bool false)] h fun f g=>∀a e:Value,∀b:Qe,f g [a,e] b->
 Qk prog .lss 3 a q fun r=>
 IfK r
 (Y1 3 c a fun s=>
 LdN b 3 s fun t=>
 Y5 b (.cells z80 80) fun i u=>
 StK u 3 i t fun j=>
 LdN j 3 i fun v=>
 Qa prog 58 #[v] j fun w l=>
 ZI prog (Op.unary .not w) fun y=>
 IfK y
 (R (.bool false) l)
 (Qk prog .add 3 a (.int .i64 1) fun z=>
 QS f g [z,e] l))
 (d [e] b)) fun d=>∀a0:Value,∀m:Qe,d [a0] m->
 R (.bool true) m)
theorem w16 {a h R} (H:s16 a h R):FnS prog 16 #[a] h R:=wq Tryz.func16 (by kernel_rfl) H
def s47 (f:Value) (h:Qe) (R:Kn):Prop:=
 Y5 h (.cells (Value.cells f) 50) fun b g=>
 Y5 g (.cells z26 26) fun c a=>
 Qg b 0 fun i=>
 LdK a i fun j=>
 Qg b 1 fun l=>
 LdK a l fun m=>
 Qg b 2 fun o=>
 LdK a o fun p=>
 Qa prog 48 #[m,(.func (.func 14) #[] #[])] a fun q d=>
 Qi a d<|
 Qz z26.toList [(0,1,j),(1,1,q),(2,1,p)] fun r=>
 StK d 3 c r fun e=>
 LdN e 3 c fun s=>
 R s e
theorem w47 {a h R} (H:s47 a h R):FnS prog 47 #[a] h R:=wq Tryz.func47 (by kernel_rfl) H
def mja2 (a:Value) (b:Qe) (R:Kn):Prop:=
 R a b
def mja1B (d:Value) (e:Value) (f:Value) (g:Value) (a:Qe) (k:Kn):Prop:=
 Y1 51 d f fun i=>
 LdN a 51 i fun j=>
 Y5 a (.cells z55 55) fun b l=>
 StK l 51 b j fun c=>
 LdN c 51 b fun m=>
 DynK prog e #[m] c fun o p=>
 Q8 p 38 1 (YV z38.toList 1) [(0,51,o)] fun q r=>
 Qbs r 38 51 736 z38 g q fun s t=>
 k s t
def mja1 (a:Value) (b:Value) (h:Qe) (R:Kn):Prop:=
 Qdc prog 3 a h (mja1B a b) fun c d=>mja2 c d R
def s48 (a b:Value) (h:Qe) (R:Kn):Prop:=
 mja1 a b h R
theorem w48 {a b h R} (H:s48 a b h R):FnS prog 48 #[a,b] h R:=wq Tryz.func48 (by kernel_rfl) H
def mjb2 (a:Value) (b:Qe) (R:Kn):Prop:=
 R a b
def mjb1B (d:Value) (e:Value) (f:Value) (g:Value) (a:Qe) (k:Kn):Prop:=
 Y1 7 d f fun i=>
 LdN a 7 i fun j=>
 Y5 a (.cells z114 114) fun b l=>
 StK l 7 b j fun c=>
 LdN c 7 b fun m=>
 DynK prog e #[m] c fun o p=>
 Q8 p 76 1 (YV z76.toList 1) [(0,7,o)] fun q r=>
 Qbs r 76 7 32 z76 g q fun s t=>
 k s t
def mjb1 (a:Value) (b:Value) (h:Qe) (R:Kn):Prop:=
 Qdc prog 3 a h (mjb1B a b) fun c d=>mjb2 c d R
def s49 (a b:Value) (h:Qe) (R:Kn):Prop:=
 mjb1 a b h R
theorem w49 {a b h R} (H:s49 a b h R):FnS prog 49 #[a,b] h R:=wq Tryz.func49 (by kernel_rfl) H
theorem w50 {a h R} (H:tp50 114 z76 76 7 a h R):FnS prog 50 #[a] h R:=wq Tryz.func50 (by kernel_rfl) H
def mjc2 (a:Value) (b:Qe) (R:Kn):Prop:=
 R a b
def mjc1B (d:Value) (e:Value) (f:Value) (g:Value) (a:Qe) (k:Kn):Prop:=
 Y1 2 d f fun i=>
 LdN a 2 i fun j=>
 Y5 a (.cells z117 117) fun b l=>
 StK l 2 b j fun c=>
 LdN c 2 b fun m=>
 DynK prog e #[m] c fun o p=>
 Q8 p 101 1 (YV z101.toList 1) [(0,2,o)] fun q r=>
 Qbs r 101 2 4 z101 g q fun s t=>
 k s t
def mjc1 (a:Value) (b:Value) (h:Qe) (R:Kn):Prop:=
 Qdc prog 3 a h (mjc1B a b) fun c d=>mjc2 c d R
def s51 (a b:Value) (h:Qe) (R:Kn):Prop:=
 mjc1 a b h R
theorem w51 {a b h R} (H:s51 a b h R):FnS prog 51 #[a,b] h R:=wq Tryz.func51 (by kernel_rfl) H
theorem w52 {a h R} (H:tp50 117 z101 101 2 a h R):FnS prog 52 #[a] h R:=wq Tryz.func52 (by kernel_rfl) H
def mjd2 (a:Value) (b:Qe) (R:Kn):Prop:=
 R a b
def mjd1B (d:Value) (e:Value) (f:Value) (g:Value) (a:Qe) (k:Kn):Prop:=
 Y1 3 d f fun i=>
 LdN a 3 i fun j=>
 Y5 a (.cells z120 120) fun b l=>
 StK l 3 b j fun c=>
 LdN c 3 b fun m=>
 DynK prog e #[m] c fun o p=>
 Q8 p 80 1 (YV z80.toList 1) [(0,3,o)] fun q r=>
 Qbs r 80 3 32 z80 g q fun s t=>
 k s t
def mjd1 (a:Value) (b:Value) (h:Qe) (R:Kn):Prop:=
 Qdc prog 3 a h (mjd1B a b) fun c d=>mjd2 c d R
def s53 (a b:Value) (h:Qe) (R:Kn):Prop:=
 mjd1 a b h R
theorem w53 {a b h R} (H:s53 a b h R):FnS prog 53 #[a,b] h R:=wq Tryz.func53 (by kernel_rfl) H
theorem w54 {a h R} (H:tp50 120 z80 80 3 a h R):FnS prog 54 #[a] h R:=wq Tryz.func54 (by kernel_rfl) H
def mje2 (a:Value) (b:Qe) (R:Kn):Prop:=
 R a b
def mje1B (d:Value) (e:Value) (f:Value) (g:Value) (a:Qe) (k:Kn):Prop:=
 Y1 2 d f fun i=>
 LdN a 2 i fun j=>
 Y5 a (.cells z123 123) fun b l=>
 StK l 2 b j fun c=>
 LdN c 2 b fun m=>
 DynK prog e #[m] c fun o p=>
 Q8 p 108 1 (YV z108.toList 1) [(0,2,o)] fun q r=>
 Qbs r 108 2 8 z108 g q fun s t=>
 k s t
def mje1 (a:Value) (b:Value) (h:Qe) (R:Kn):Prop:=
 Qdc prog 3 a h (mje1B a b) fun c d=>mje2 c d R
def s55 (a b:Value) (h:Qe) (R:Kn):Prop:=
 mje1 a b h R
theorem w55 {a b h R} (H:s55 a b h R):FnS prog 55 #[a,b] h R:=wq Tryz.func55 (by kernel_rfl) H
theorem w56 {a h R} (H:tp50 123 z108 108 2 a h R):FnS prog 56 #[a] h R:=wq Tryz.func56 (by kernel_rfl) H
theorem w57 {a h R} (H:tp50 117 z101 101 2 a h R):FnS prog 57 #[a] h R:=wq Tryz.func57 (by kernel_rfl) H
def s58 (b:Value) (h:Qe) (R:Kn):Prop:=
 Y5 h (.cells (Value.cells b) 80) fun c a=>
 Qg c 0 fun d=>
 LdK a d fun e=>
 QeL e fun f=>
 Qk prog .gtr 3 f (.int .i64 2147483647) fun g=>
 IfK g
 (R (.bool false) a)
 (R (.bool true) a)
theorem w58 {a h R} (H:s58 a h R):FnS prog 58 #[a] h R:=wq Tryz.func58 (by kernel_rfl) H
end Go.Proofs
namespace Go.Proofs
open Go Go.Vc
open Tryz (prog)
mutual
def LenM:GM->Prop
 |.mk d pos empty tables enemy test uniq amb=>(pos.length<=50/\empty.length<=50/\d.test4.length<=50/\d.abilities.length<=50/\d.test5.length<=50/\tables.length<=50/\enemy.length<=50/\test.length<=50/\uniq.length<=50/\amb.length<=50)/\(d.strings.length<=50/\d.bools.length<=50/\d.strings2.length<=50/\d.longs.length<=50/\d.doubles.length<=50/\d.refs.length<=50/\d.weak.length<=50/\d.strong.length<=50/\d.coOwnings.length<=50/\d.nonOwnings.length<=50)/\Qii tables/\Qii enemy/\Qii test/\Qii uniq/\Qii amb
def Qii:List GM->Prop
 |[]=>True
 |g::gs=>LenM g/\Qii gs
end
theorem Qii.get:∀{gs:List GM},Qii gs->∀g∈gs,LenM g
 |[],_,g,h=>by simp at h
 |g'::gs,hs,g,h=>by
  rw[Qii]at hs
  rcases List.mem_cons.1 h with h|h
  ·rw[h];exact hs.1
  ·exact Qii.get hs.2 g h
theorem QcL {f:FuncId} {args:Array Value} {H:Qe} {k:Kn} (h1:((prog).funcs[f]?).any (fun fn=>fn.body.isSome&&fn.name != "runtime.NumGoroutine")=true) (h:FnS prog f args H k):DynK prog (.func (.func f) #[] #[]) args H k:=by
 refine ⟨h1,?_⟩
 show FnS prog f (#[]++args++#[]) H k
 have:#[]++args++#[]=args:=by simp
 rw[this];exact h
theorem Qid {H:Qe} {es:Nat} {it:List Value} {z:Array Value} {t:TypeId} (hl:it.length=es) (h0:0<es) (hz:z.size=es) (hone:∀x∈it,x.oneCell'=true) {k:Kn} (hk:k (.agg it.toArray) (H.push (.cells it.toArray t (0,0)))):
  Y5 H (.cells z t) fun y h2=>StK h2 es y (.agg it.toArray) fun h3=>LdN h3 es y fun x=>k x h3:=by
 rw[Qy,Yg (n:=es) (c':=it.toArray) Qh hz (by simpa using hl) h0 (by simpa using hone),Yq,YI (n:=es) (vs:=it) (by rw[Q4 Qh es (by simp[hl])];simp[<-hl])]
 exact hk
theorem Z8 {F:Cut} {es:Nat} {v:Value} {items:List (List Value)} (h:SlV F es v items) {H:Qe} (hF:F.In H) {i:Nat} {it:List Value} (hi:items[i]?=some it) {k:Value->Prop} (hk:k (.agg it.toArray)):Y1 es v (.int .i64 (i:Nat)) fun p=>LdN H es p k:=by
 obtain ⟨b,o,cells',e',fr,h1,h2,h3,h4⟩:=h.idx hF (i:=i) rfl hi
 rw[h1,YI (n:=es) (vs:=it) (by rw[Q4 h2 es (by omega)];exact congrArg some h4)]
 exact hk
theorem Qhh {G:Cut} {H:Qe} (hG:G.In H) {it:List Value} (hl:it.length=7) (hone:∀x∈it,x.oneCell'=true) {R:Kn} (hR:∀H',Ext G H G H'->R (.agg it.toArray) H'):FnS prog 50 #[.agg it.toArray] H R:=by
 apply w50
 unfold tp50
 rw[Qy,Qy]
 have e:=Ext.refl hG
 have o1:Yj H G (H.push (.cells (Value.agg it.toArray).cells 114)) H.size (.cells it.toArray 114 (0,0)):=Yj.fresh e _
 have e:=e.push (.cells (Value.agg it.toArray).cells 114)
 generalize H.push (.cells (Value.agg it.toArray).cells 114)=H1 at *
 have o2:=Yj.fresh e (.cells z76 76)
 have o1:=o1.push (.cells z76 76)
 have e:=e.push (.cells z76 76)
 generalize H1.push (.cells z76 76)=H2 at *
 rw[YI (n:=7) (vs:=it) (by rw[Q4 o1.get 7 (by simp[hl])];simp[<-hl]),Yg (n:=7) (c':=it.toArray) o2.get rfl (by simpa using hl) (by decide) (by simpa using hone)]
 have e:=e.set o2.out o2.new (.cells it.toArray 76 (0,0))
 have o2:=o2.set (.cells it.toArray 76 (0,0))
 rw[YI (n:=7) (vs:=it) (by rw[Q4 o2.get 7 (by simp[hl])];simp[<-hl])]
 exact hR _ e
theorem mjb_ok {G:Cut} {H:Qe} (hG:G.In H) {l:List ZO} {v:Value} (hs:SlV G 7 v (l.map Zg)) (hl:l.length<=50) {R:Kn} (hR:∀G' H' v',Ext G H G' H'->SlV G' 7 v' (l.map Zg)->R v' H'):FnS prog 49 #[v,.func (.func 50) #[] #[]] H R:=by
 have hone:∀t,∀x∈Zg t,x.oneCell'=true:=fun t x hx=>by
  simp[Zg]at hx
  first
   |(rcases hx with rfl|rfl|rfl|rfl|rfl|rfl|rfl<;>rfl)
   |(rcases hx with rfl|rfl|rfl<;>rfl)
   |(rcases hx with rfl|rfl<;>rfl)
 apply w49
 unfold s49 mjb1
 refine QcO hG (et:=76) (es:=7) (n:=l.length) (fun F i items=>items=(l.take i).map Zg) (by simp) (by omega) (fun k=>by rw[hs.len,List.length_map]) ?_ ?_
 ·rintro i y G1 H1 items k hlt e c rfl hk
  have ha:=List.getElem?_eq_getElem hlt
  unfold mjb1B
  refine Z8 (hs.mono e.le) e.inn (i:=i) (it:=Zg l[i]) (by rw[List.getElem?_map,ha];rfl) ?_
  refine Qid (es:=7) (it:=Zg l[i]) rfl (by decide) rfl (hone _) ?_
  have e1:=e.push (.cells (Zg l[i]).toArray 114 (0,0))
  have c1:=c.push (.cells (Zg l[i]).toArray 114 (0,0))
  generalize H1.push (.cells (Zg l[i]).toArray 114 (0,0))=H2 at *
  refine QcL (by kernel_rfl) ?_
  refine Qhh e1.inn rfl (hone _) ?_
  intro H3 e3
  refine QbA (e1.trans e3) (c1.ext e3) (v:=.agg (Zg l[i]).toArray) (it:=Zg l[i]) rfl rfl (hone _) (by decide) rfl (by decide) (by rw[List.length_map,List.length_take];omega) ?_
  intro c' H' e4 c4
  exact hk c' _ H' _ e4 c4 (ZB ha).symm
 ·rintro y G1 G2 H2 items e2 sl rfl hle hnil
  rw[List.take_length]at sl
  exact hR G2 H2 y e2 sl
theorem Qhp {G:Cut} {H:Qe} (hG:G.In H) {it:List Value} (hl:it.length=2) (hone:∀x∈it,x.oneCell'=true) {R:Kn} (hR:∀H',Ext G H G H'->R (.agg it.toArray) H'):FnS prog 52 #[.agg it.toArray] H R:=by
 apply w52
 unfold tp50
 rw[Qy,Qy]
 have e:=Ext.refl hG
 have o1:Yj H G (H.push (.cells (Value.agg it.toArray).cells 117)) H.size (.cells it.toArray 117 (0,0)):=Yj.fresh e _
 have e:=e.push (.cells (Value.agg it.toArray).cells 117)
 generalize H.push (.cells (Value.agg it.toArray).cells 117)=H1 at *
 have o2:=Yj.fresh e (.cells z101 101)
 have o1:=o1.push (.cells z101 101)
 have e:=e.push (.cells z101 101)
 generalize H1.push (.cells z101 101)=H2 at *
 rw[YI (n:=2) (vs:=it) (by rw[Q4 o1.get 2 (by simp[hl])];simp[<-hl]),Yg (n:=2) (c':=it.toArray) o2.get rfl (by simpa using hl) (by decide) (by simpa using hone)]
 have e:=e.set o2.out o2.new (.cells it.toArray 101 (0,0))
 have o2:=o2.set (.cells it.toArray 101 (0,0))
 rw[YI (n:=2) (vs:=it) (by rw[Q4 o2.get 2 (by simp[hl])];simp[<-hl])]
 exact hR _ e
theorem Qhv {G:Cut} {H:Qe} (hG:G.In H) {it:List Value} (hl:it.length=2) (hone:∀x∈it,x.oneCell'=true) {R:Kn} (hR:∀H',Ext G H G H'->R (.agg it.toArray) H'):FnS prog 57 #[.agg it.toArray] H R:=by
 apply w57
 unfold tp50
 rw[Qy,Qy]
 have e:=Ext.refl hG
 have o1:Yj H G (H.push (.cells (Value.agg it.toArray).cells 117)) H.size (.cells it.toArray 117 (0,0)):=Yj.fresh e _
 have e:=e.push (.cells (Value.agg it.toArray).cells 117)
 generalize H.push (.cells (Value.agg it.toArray).cells 117)=H1 at *
 have o2:=Yj.fresh e (.cells z101 101)
 have o1:=o1.push (.cells z101 101)
 have e:=e.push (.cells z101 101)
 generalize H1.push (.cells z101 101)=H2 at *
 rw[YI (n:=2) (vs:=it) (by rw[Q4 o1.get 2 (by simp[hl])];simp[<-hl]),Yg (n:=2) (c':=it.toArray) o2.get rfl (by simpa using hl) (by decide) (by simpa using hone)]
 have e:=e.set o2.out o2.new (.cells it.toArray 101 (0,0))
 have o2:=o2.set (.cells it.toArray 101 (0,0))
 rw[YI (n:=2) (vs:=it) (by rw[Q4 o2.get 2 (by simp[hl])];simp[<-hl])]
 exact hR _ e
theorem mjc_ok {G:Cut} {H:Qe} (hG:G.In H) {l:List Qb8} {v:Value} (hs:SlV G 2 v (l.map Yw)) (hl:l.length<=50) {R:Kn} (hR:∀G' H' v',Ext G H G' H'->SlV G' 2 v' (l.map Yw)->R v' H'):FnS prog 51 #[v,.func (.func 52) #[] #[]] H R:=by
 have hone:∀t,∀x∈Yw t,x.oneCell'=true:=fun t x hx=>by
  simp[Yw]at hx
  first
   |(rcases hx with rfl|rfl|rfl|rfl|rfl|rfl|rfl<;>rfl)
   |(rcases hx with rfl|rfl|rfl<;>rfl)
   |(rcases hx with rfl|rfl<;>rfl)
 apply w51
 unfold s51 mjc1
 refine QcO hG (et:=101) (es:=2) (n:=l.length) (fun F i items=>items=(l.take i).map Yw) (by simp) (by omega) (fun k=>by rw[hs.len,List.length_map]) ?_ ?_
 ·rintro i y G1 H1 items k hlt e c rfl hk
  have ha:=List.getElem?_eq_getElem hlt
  unfold mjc1B
  refine Z8 (hs.mono e.le) e.inn (i:=i) (it:=Yw l[i]) (by rw[List.getElem?_map,ha];rfl) ?_
  refine Qid (es:=2) (it:=Yw l[i]) rfl (by decide) rfl (hone _) ?_
  have e1:=e.push (.cells (Yw l[i]).toArray 117 (0,0))
  have c1:=c.push (.cells (Yw l[i]).toArray 117 (0,0))
  generalize H1.push (.cells (Yw l[i]).toArray 117 (0,0))=H2 at *
  refine QcL (by kernel_rfl) ?_
  refine Qhp e1.inn rfl (hone _) ?_
  intro H3 e3
  refine QbA (e1.trans e3) (c1.ext e3) (v:=.agg (Yw l[i]).toArray) (it:=Yw l[i]) rfl rfl (hone _) (by decide) rfl (by decide) (by rw[List.length_map,List.length_take];omega) ?_
  intro c' H' e4 c4
  exact hk c' _ H' _ e4 c4 (ZB ha).symm
 ·rintro y G1 G2 H2 items e2 sl rfl hle hnil
  rw[List.take_length]at sl
  exact hR G2 H2 y e2 sl
theorem mjc2_ok {G:Cut} {H:Qe} (hG:G.In H) {l:List Qb8} {v:Value} (hs:SlV G 2 v (l.map Yw)) (hl:l.length<=50) {R:Kn} (hR:∀G' H' v',Ext G H G' H'->SlV G' 2 v' (l.map Yw)->R v' H'):FnS prog 51 #[v,.func (.func 57) #[] #[]] H R:=by
 have hone:∀t,∀x∈Yw t,x.oneCell'=true:=fun t x hx=>by
  simp[Yw]at hx
  first
   |(rcases hx with rfl|rfl|rfl|rfl|rfl|rfl|rfl<;>rfl)
   |(rcases hx with rfl|rfl|rfl<;>rfl)
   |(rcases hx with rfl|rfl<;>rfl)
 apply w51
 unfold s51 mjc1
 refine QcO hG (et:=101) (es:=2) (n:=l.length) (fun F i items=>items=(l.take i).map Yw) (by simp) (by omega) (fun k=>by rw[hs.len,List.length_map]) ?_ ?_
 ·rintro i y G1 H1 items k hlt e c rfl hk
  have ha:=List.getElem?_eq_getElem hlt
  unfold mjc1B
  refine Z8 (hs.mono e.le) e.inn (i:=i) (it:=Yw l[i]) (by rw[List.getElem?_map,ha];rfl) ?_
  refine Qid (es:=2) (it:=Yw l[i]) rfl (by decide) rfl (hone _) ?_
  have e1:=e.push (.cells (Yw l[i]).toArray 117 (0,0))
  have c1:=c.push (.cells (Yw l[i]).toArray 117 (0,0))
  generalize H1.push (.cells (Yw l[i]).toArray 117 (0,0))=H2 at *
  refine QcL (by kernel_rfl) ?_
  refine Qhv e1.inn rfl (hone _) ?_
  intro H3 e3
  refine QbA (e1.trans e3) (c1.ext e3) (v:=.agg (Yw l[i]).toArray) (it:=Yw l[i]) rfl rfl (hone _) (by decide) rfl (by decide) (by rw[List.length_map,List.length_take];omega) ?_
  intro c' H' e4 c4
  exact hk c' _ H' _ e4 c4 (ZB ha).symm
 ·rintro y G1 G2 H2 items e2 sl rfl hle hnil
  rw[List.take_length]at sl
  exact hR G2 H2 y e2 sl
theorem QhH {G:Cut} {H:Qe} (hG:G.In H) {it:List Value} (hl:it.length=3) (hone:∀x∈it,x.oneCell'=true) {R:Kn} (hR:∀H',Ext G H G H'->R (.agg it.toArray) H'):FnS prog 54 #[.agg it.toArray] H R:=by
 apply w54
 unfold tp50
 rw[Qy,Qy]
 have e:=Ext.refl hG
 have o1:Yj H G (H.push (.cells (Value.agg it.toArray).cells 120)) H.size (.cells it.toArray 120 (0,0)):=Yj.fresh e _
 have e:=e.push (.cells (Value.agg it.toArray).cells 120)
 generalize H.push (.cells (Value.agg it.toArray).cells 120)=H1 at *
 have o2:=Yj.fresh e (.cells z80 80)
 have o1:=o1.push (.cells z80 80)
 have e:=e.push (.cells z80 80)
 generalize H1.push (.cells z80 80)=H2 at *
 rw[YI (n:=3) (vs:=it) (by rw[Q4 o1.get 3 (by simp[hl])];simp[<-hl]),Yg (n:=3) (c':=it.toArray) o2.get rfl (by simpa using hl) (by decide) (by simpa using hone)]
 have e:=e.set o2.out o2.new (.cells it.toArray 80 (0,0))
 have o2:=o2.set (.cells it.toArray 80 (0,0))
 rw[YI (n:=3) (vs:=it) (by rw[Q4 o2.get 3 (by simp[hl])];simp[<-hl])]
 exact hR _ e
theorem mjd_ok {G:Cut} {H:Qe} (hG:G.In H) {l:List ZJ} {v:Value} (hs:SlV G 3 v (l.map YL)) (hl:l.length<=50) {R:Kn} (hR:∀G' H' v',Ext G H G' H'->SlV G' 3 v' (l.map YL)->R v' H'):FnS prog 53 #[v,.func (.func 54) #[] #[]] H R:=by
 have hone:∀t,∀x∈YL t,x.oneCell'=true:=fun t x hx=>by
  simp[YL]at hx
  first
   |(rcases hx with rfl|rfl|rfl|rfl|rfl|rfl|rfl<;>rfl)
   |(rcases hx with rfl|rfl|rfl<;>rfl)
   |(rcases hx with rfl|rfl<;>rfl)
 apply w53
 unfold s53 mjd1
 refine QcO hG (et:=80) (es:=3) (n:=l.length) (fun F i items=>items=(l.take i).map YL) (by simp) (by omega) (fun k=>by rw[hs.len,List.length_map]) ?_ ?_
 ·rintro i y G1 H1 items k hlt e c rfl hk
  have ha:=List.getElem?_eq_getElem hlt
  unfold mjd1B
  refine Z8 (hs.mono e.le) e.inn (i:=i) (it:=YL l[i]) (by rw[List.getElem?_map,ha];rfl) ?_
  refine Qid (es:=3) (it:=YL l[i]) rfl (by decide) rfl (hone _) ?_
  have e1:=e.push (.cells (YL l[i]).toArray 120 (0,0))
  have c1:=c.push (.cells (YL l[i]).toArray 120 (0,0))
  generalize H1.push (.cells (YL l[i]).toArray 120 (0,0))=H2 at *
  refine QcL (by kernel_rfl) ?_
  refine QhH e1.inn rfl (hone _) ?_
  intro H3 e3
  refine QbA (e1.trans e3) (c1.ext e3) (v:=.agg (YL l[i]).toArray) (it:=YL l[i]) rfl rfl (hone _) (by decide) rfl (by decide) (by rw[List.length_map,List.length_take];omega) ?_
  intro c' H' e4 c4
  exact hk c' _ H' _ e4 c4 (ZB ha).symm
 ·rintro y G1 G2 H2 items e2 sl rfl hle hnil
  rw[List.take_length]at sl
  exact hR G2 H2 y e2 sl
theorem Qhr {G:Cut} {H:Qe} (hG:G.In H) {it:List Value} (hl:it.length=2) (hone:∀x∈it,x.oneCell'=true) {R:Kn} (hR:∀H',Ext G H G H'->R (.agg it.toArray) H'):FnS prog 56 #[.agg it.toArray] H R:=by
 apply w56
 unfold tp50
 rw[Qy,Qy]
 have e:=Ext.refl hG
 have o1:Yj H G (H.push (.cells (Value.agg it.toArray).cells 123)) H.size (.cells it.toArray 123 (0,0)):=Yj.fresh e _
 have e:=e.push (.cells (Value.agg it.toArray).cells 123)
 generalize H.push (.cells (Value.agg it.toArray).cells 123)=H1 at *
 have o2:=Yj.fresh e (.cells z108 108)
 have o1:=o1.push (.cells z108 108)
 have e:=e.push (.cells z108 108)
 generalize H1.push (.cells z108 108)=H2 at *
 rw[YI (n:=2) (vs:=it) (by rw[Q4 o1.get 2 (by simp[hl])];simp[<-hl]),Yg (n:=2) (c':=it.toArray) o2.get rfl (by simpa using hl) (by decide) (by simpa using hone)]
 have e:=e.set o2.out o2.new (.cells it.toArray 108 (0,0))
 have o2:=o2.set (.cells it.toArray 108 (0,0))
 rw[YI (n:=2) (vs:=it) (by rw[Q4 o2.get 2 (by simp[hl])];simp[<-hl])]
 exact hR _ e
theorem mje_ok {G:Cut} {H:Qe} (hG:G.In H) {l:List QeJ} {v:Value} (hs:SlV G 2 v (l.map ZN)) (hl:l.length<=50) {R:Kn} (hR:∀G' H' v',Ext G H G' H'->SlV G' 2 v' (l.map ZN)->R v' H'):FnS prog 55 #[v,.func (.func 56) #[] #[]] H R:=by
 have hone:∀t,∀x∈ZN t,x.oneCell'=true:=fun t x hx=>by
  simp[ZN]at hx
  first
   |(rcases hx with rfl|rfl|rfl|rfl|rfl|rfl|rfl<;>rfl)
   |(rcases hx with rfl|rfl|rfl<;>rfl)
   |(rcases hx with rfl|rfl<;>rfl)
 apply w55
 unfold s55 mje1
 refine QcO hG (et:=108) (es:=2) (n:=l.length) (fun F i items=>items=(l.take i).map ZN) (by simp) (by omega) (fun k=>by rw[hs.len,List.length_map]) ?_ ?_
 ·rintro i y G1 H1 items k hlt e c rfl hk
  have ha:=List.getElem?_eq_getElem hlt
  unfold mje1B
  refine Z8 (hs.mono e.le) e.inn (i:=i) (it:=ZN l[i]) (by rw[List.getElem?_map,ha];rfl) ?_
  refine Qid (es:=2) (it:=ZN l[i]) rfl (by decide) rfl (hone _) ?_
  have e1:=e.push (.cells (ZN l[i]).toArray 123 (0,0))
  have c1:=c.push (.cells (ZN l[i]).toArray 123 (0,0))
  generalize H1.push (.cells (ZN l[i]).toArray 123 (0,0))=H2 at *
  refine QcL (by kernel_rfl) ?_
  refine Qhr e1.inn rfl (hone _) ?_
  intro H3 e3
  refine QbA (e1.trans e3) (c1.ext e3) (v:=.agg (ZN l[i]).toArray) (it:=ZN l[i]) rfl rfl (hone _) (by decide) rfl (by decide) (by rw[List.length_map,List.length_take];omega) ?_
  intro c' H' e4 c4
  exact hk c' _ H' _ e4 c4 (ZB ha).symm
 ·rintro y G1 G2 H2 items e2 sl rfl hle hnil
  rw[List.take_length]at sl
  exact hR G2 H2 y e2 sl
def OfOk (g:GM):Prop:=∀(G:Cut) (H:Qe) (cells:List Value) (R:Kn),G.In H->QaX G g cells->LenM g->(∀G' H' cells',Ext G H G' H'->QaX G' g cells'->R (.agg cells'.toArray) H')->FnS prog 14 #[.agg cells.toArray] H R
theorem mja_ok {G:Cut} {H:Qe} (hG:G.In H) {gs:List GM} {v:Value} (hs:Qbu G gs v) (hK:∀g∈gs,OfOk g) (hL:Qii gs) (hl:gs.length<=50) {R:Kn} (hR:∀G' H' v',Ext G H G' H'->Qbu G' gs v'->R v' H'):FnS prog 48 #[v,.func (.func 14) #[] #[]] H R:=by
 obtain ⟨its,hs,hvs⟩:=hs
 have hil:=Zh.len hvs
 apply w48
 unfold s48 mja1
 refine QcO hG (et:=38) (es:=51) (n:=gs.length) (fun F i items=>Zh F (gs.take i) items) (by rw[List.take_zero,Zh];trivial) (by omega) (fun k=>by rw[hs.len,hil]) ?_ ?_
 ·rintro i y G1 H1 items k hlt e c hI hk
  have ha:=List.getElem?_eq_getElem hlt
  obtain ⟨x,hx,hvx⟩:=Zh.get hvs ha
  have hvx:=hvx.mono e.le
  have hxl:=hvx.len
  have hxo:=QaX.one hvx
  have hilen:=Zh.len hI
  rw[List.length_take]at hilen
  unfold mja1B
  refine Z8 (hs.mono e.le) e.inn (i:=i) hx ?_
  refine Qid hxl (by decide) rfl hxo ?_
  have e1:=e.push (.cells x.toArray 55 (0,0))
  have c1:=c.push (.cells x.toArray 55 (0,0))
  generalize H1.push (.cells x.toArray 55 (0,0))=H2 at *
  refine QcL (by kernel_rfl) ?_
  refine hK _ (List.mem_of_getElem? ha) G1 H2 x _ e1.inn hvx (Qii.get hL _ (List.mem_of_getElem? ha)) ?_
  intro G3 H3 x' e3 hv3
  refine QbA (e1.trans e3) (c1.ext e3) (v:=.agg x'.toArray) (it:=x') rfl hv3.len (QaX.one hv3) (by decide) rfl (by decide) (by omega) ?_
  intro c' H' e4 c4
  refine hk c' _ H' _ e4 c4 ?_
  rw[Qdf ha]
  exact Zh.snoc (Zh.mono e3.le hI) hv3
 ·rintro y G1 G2 H2 items e2 sl hI hle hnil
  rw[List.take_length]at hI
  exact hR G2 H2 y e2 ⟨items,sl,Zh.mono hle hI⟩
theorem Of_choice {G:Cut} {H:Qe} (hG:G.In H) {ty color:UInt8} {gs:List GM} {s:Value} (hs:Qbu G gs s) (hK:∀g∈gs,OfOk g) (hL:Qii gs) (hl:gs.length<=50) {R:Kn} (hR:∀G' H' a n c,Ext G H G' H'->Qbu G' gs (.slice a n c)->R (.agg #[u8n ty,.slice a n c,u8n color]) H'):FnS prog 47 #[.agg #[u8n ty,s,u8n color]] H R:=by
 apply w47
 unfold s47
 rw[Qy,Qy]
 have e:=Ext.refl hG
 have o1:Yj H G (H.push (.cells (Value.agg #[u8n ty,s,u8n color]).cells 50)) H.size (.cells #[u8n ty,s,u8n color] 50 (0,0)):=Yj.fresh e _
 have e:=e.push (.cells (Value.agg #[u8n ty,s,u8n color]).cells 50)
 generalize H.push (.cells (Value.agg #[u8n ty,s,u8n color]).cells 50)=H1 at *
 have hne:=o1.ne
 have o2:=Yj.fresh e (.cells z26 26)
 have o1:=o1.push (.cells z26 26)
 have e:=e.push (.cells z26 26)
 generalize H1.push (.cells z26 26)=H2 at *
 rw[Qm,Ql ((Qj o1.get).trans (show (#[u8n ty,s,u8n color]:Array Value)[0]?=some (u8n ty) from rfl)),Qm,Ql ((Qj o1.get).trans (show (#[u8n ty,s,u8n color]:Array Value)[1]?=some s from rfl)),Qm,Ql ((Qj o1.get).trans (show (#[u8n ty,s,u8n color]:Array Value)[2]?=some (u8n color) from rfl))]
 refine mja_ok e.inn hs hK hL hl ?_
 intro G3 H3 v' e3 hv'
 refine Qn e3.keep.ext ?_
 have e:=e.trans e3
 have o2:=o2.ext e3
 have hv2:=hv'
 obtain ⟨its,hsl,_⟩:=hv'
 obtain ⟨a,n,c,rfl⟩:∃a n c,v'= .slice a n c:=by
  rcases hsl.2 with ⟨a,c,h,_⟩|⟨b,o,c,_,_,_,h,_⟩
  ·exact ⟨_,_,_,h⟩
  ·exact ⟨_,_,_,h⟩
 have hf:YJ z26.toList [(0,1,u8n ty),(1,1,.slice a n c),(2,1,u8n color)]=some [u8n ty,.slice a n c,u8n color]:=rfl
 unfold Qz
 simp only[hf]
 rw[Yg (n:=3) (c':=[u8n ty,.slice a n c,u8n color].toArray) o2.get rfl rfl (by decide) (by intro v hv;simp at hv;rcases hv with rfl|rfl|rfl<;>rfl)]
 have e:=e.set o2.out o2.new (.cells [u8n ty,.slice a n c,u8n color].toArray 26 (0,0))
 have o2:=o2.set (.cells [u8n ty,.slice a n c,u8n color].toArray 26 (0,0))
 rw[YI (n:=3) (vs:=[u8n ty,.slice a n c,u8n color]) (by rw[Q4 o2.get 3 (Nat.le_refl 3)];rfl)]
 exact hR _ _ a n c e hv2
theorem Qbu.sl {F:Cut} {gs:List GM} {v:Value} (h:Qbu F gs v):∃a n c,v= .slice a n c:=by
 obtain ⟨its,hsl,_⟩:=h
 rcases hsl.2 with ⟨a,c,h,_⟩|⟨b,o,c,_,_,_,h,_⟩
 ·exact ⟨_,_,_,h⟩
 ·exact ⟨_,_,_,h⟩
theorem SlV.sl {F:Cut} {es:Nat} {items:List (List Value)} {v:Value} (h:SlV F es v items):∃a n c,v= .slice a n c:=by
 rcases h.2 with ⟨a,c,h,_⟩|⟨b,o,c,_,_,_,h,_⟩
 ·exact ⟨_,_,_,h⟩
 ·exact ⟨_,_,_,h⟩
theorem slE {G:Cut} {H:Qe} {P:Cut->Value->Prop} {Q:Kn} (hsl:∀F v,P F v->∃a n c,v= .slice a n c) (h:∀G' H' a n c,Ext G H G' H'->P G' (.slice a n c)->Q (.slice a n c) H'):∀G' H' v,Ext G H G' H'->P G' v->Q v H':=fun G' H' v e w=>by
 obtain ⟨a,n,c,rfl⟩:=hsl G' v w
 exact h G' H' a n c e w
theorem fill_of (d:Qbt) (apos:Option Addr) (npos cpos:Nat) (atest:Option Addr) (ntest ctest:Nat) (atest4:Option Addr) (ntest4 ctest4:Nat) (astrings:Option Addr) (nstrings cstrings:Nat) (atables:Option Addr) (ntables ctables:Nat) (aenemy:Option Addr) (nenemy cenemy:Nat) (aempty:Option Addr) (nempty cempty:Nat) (abools:Option Addr) (nbools cbools:Nat) (astrings2:Option Addr) (nstrings2 cstrings2:Nat) (aabil:Option Addr) (nabil cabil:Nat) (atest5:Option Addr) (ntest5 ctest5:Nat) (alongs:Option Addr) (nlongs clongs:Nat) (adoubles:Option Addr) (ndoubles cdoubles:Nat) (arefs:Option Addr) (nrefs crefs:Nat) (aweak:Option Addr) (nweak cweak:Nat) (astrong:Option Addr) (nstrong cstrong:Nat) (acoOwnings:Option Addr) (ncoOwnings ccoOwnings:Nat) (anonOwnings:Option Addr) (nnonOwnings cnonOwnings:Nat) (auniq:Option Addr) (nuniq cuniq:Nat) (aamb:Option Addr) (namb camb:Nat):YJ z38.toList [(0,1,.slice apos npos cpos),(1,1,Qbc d.mana),(2,1,Qbc d.hp),(3,1,Yf d.name),(4,1,Yf d.inventory),(5,1,u8n d.color),(6,3,.agg #[u8n d.testTy,.slice atest ntest ctest,u8n d.testColor]),(9,1,.slice atest4 ntest4 ctest4),(10,1,.slice astrings nstrings cstrings),(11,1,.slice atables ntables ctables),(12,1,.slice aenemy nenemy cenemy),(13,1,Yf d.nested),(14,1,.slice aempty nempty cempty),(15,1,.bool d.bool),(16,1,Qfl d.s32),(17,1,Zz d.u32),(18,1,Qdw d.s64),(19,1,Ya d.u64),(20,1,Qfl d.s32a),(21,1,Zz d.u32a),(22,1,Qdw d.s64a),(23,1,Ya d.u64a),(24,1,.slice abools nbools cbools),(25,1,Zz d.f),(26,1,Zz d.f2),(27,1,Zz d.f3),(28,1,.slice astrings2 nstrings2 cstrings2),(29,1,.slice aabil nabil cabil),(30,1,Yf d.flex),(31,1,.slice atest5 ntest5 ctest5),(32,1,.slice alongs nlongs clongs),(33,1,.slice adoubles ndoubles cdoubles),(34,1,.bool d.parent),(35,1,.slice arefs nrefs crefs),(36,1,Ya d.singleWeak),(37,1,.slice aweak nweak cweak),(38,1,.slice astrong nstrong cstrong),(39,1,Ya d.coOwning),(40,1,.slice acoOwnings ncoOwnings ccoOwnings),(41,1,Ya d.nonOwning),(42,1,.slice anonOwnings nnonOwnings cnonOwnings),(43,3,.agg #[u8n d.uniqTy,.slice auniq nuniq cuniq,u8n d.uniqColor]),(46,3,.agg #[u8n d.ambTy,.slice aamb namb camb,u8n d.ambColor]),(49,1,Yf d.enums),(50,1,i8V d.signedEnum)]=some (Yk d ⟨.slice apos npos cpos,.slice atest ntest ctest,.slice atest4 ntest4 ctest4,.slice astrings nstrings cstrings,.slice atables ntables ctables,.slice aenemy nenemy cenemy,.slice aempty nempty cempty,.slice abools nbools cbools,.slice astrings2 nstrings2 cstrings2,.slice aabil nabil cabil,.slice atest5 ntest5 ctest5,.slice alongs nlongs clongs,.slice adoubles ndoubles cdoubles,.slice arefs nrefs crefs,.slice aweak nweak cweak,.slice astrong nstrong cstrong,.slice acoOwnings ncoOwnings ccoOwnings,.slice anonOwnings nnonOwnings cnonOwnings,.slice auniq nuniq cuniq,.slice aamb namb camb⟩):=by kernel_rfl
theorem ldn_ok {H0:Qe} {G:Cut} {H:Qe} {b:Nat} {cells:List Value} {t:TypeId} {fr:Nat×Nat} (o:Yj H0 G H b (.cells cells.toArray t fr)) {i n:Nat} {vs:List Value} (hi:(cells.drop i).take n=vs) (hl:i+n<=cells.length) {k:Value->Prop} (hk:k (.agg vs.toArray)):Qg (ptr b) i fun a=>LdN H n a k:=by
 rw[Qm,YI (n:=n) (vs:=vs) (by rw[Q4 o.get n (by simpa using hl),Nat.add_zero];simpa using hi)]
 exact hk
set_option maxHeartbeats 1000000 in
theorem OfStep {d:Qbt} {pos:List ZO} {empty:List ZJ} {tables enemy test uniq amb:List GM} (hT:∀k∈tables,OfOk k) (hE:∀k∈enemy,OfOk k) (hU:∀k∈test,OfOk k) (hQ:∀k∈uniq,OfOk k) (hA:∀k∈amb,OfOk k):OfOk (.mk d pos empty tables enemy test uniq amb):=by
 intro G H cells R hG hv hlm hR
 rw[QaX]at hv
 obtain ⟨c,rfl,g,wT,wE,wU,wQ,wA⟩:=hv
 obtain ⟨astrings,nstrings,cstrings,hstrings⟩:=SlV.sl g.strings
 obtain ⟨abools,nbools,cbools,hbools⟩:=SlV.sl g.bools
 obtain ⟨astrings2,nstrings2,cstrings2,hstrings2⟩:=SlV.sl g.strings2
 obtain ⟨alongs,nlongs,clongs,hlongs⟩:=SlV.sl g.longs
 obtain ⟨adoubles,ndoubles,cdoubles,hdoubles⟩:=SlV.sl g.doubles
 obtain ⟨arefs,nrefs,crefs,hrefs⟩:=SlV.sl g.refs
 obtain ⟨aweak,nweak,cweak,hweak⟩:=SlV.sl g.weak
 obtain ⟨astrong,nstrong,cstrong,hstrong⟩:=SlV.sl g.strong
 obtain ⟨acoOwnings,ncoOwnings,ccoOwnings,hcoOwnings⟩:=SlV.sl g.coOwnings
 obtain ⟨anonOwnings,nnonOwnings,cnonOwnings,hnonOwnings⟩:=SlV.sl g.nonOwnings
 rw[LenM]at hlm
 obtain ⟨⟨l0,l1,l2,l3,l4,l5,l6,l7,l8,l9⟩,_,mT,mE,mU,mQ,mA⟩:=hlm
 have gstrings:=g.strings
 have gbools:=g.bools
 have gstrings2:=g.strings2
 have glongs:=g.longs
 have gdoubles:=g.doubles
 have grefs:=g.refs
 have gweak:=g.weak
 have gstrong:=g.strong
 have gcoOwnings:=g.coOwnings
 have gnonOwnings:=g.nonOwnings
 apply w14
 unfold s14
 rw[Qy,Qy]
 have e:=Ext.refl hG
 have o1:Yj H G (H.push (.cells (Value.agg (Yk d c).toArray).cells 55)) H.size (.cells (Yk d c).toArray 55 (0,0)):=Yj.fresh e _
 have e:=e.push (.cells (Value.agg (Yk d c).toArray).cells 55)
 generalize H.push (.cells (Value.agg (Yk d c).toArray).cells 55)=H1 at *
 have o2:=Yj.fresh e (.cells z38 38)
 have o1:=o1.push (.cells z38 38)
 have e:=e.push (.cells z38 38)
 have l0':=Cut.le_refl G
 generalize H1.push (.cells z38 38)=H2 at *
 refine QF o1 (i:=0) (v:=c.pos) rfl ?_
 refine QF o1 (i:=1) (v:=Qbc d.mana) rfl ?_
 refine QF o1 (i:=2) (v:=Qbc d.hp) rfl ?_
 refine QF o1 (i:=3) (v:=Yf d.name) rfl ?_
 refine QF o1 (i:=4) (v:=Yf d.inventory) rfl ?_
 refine QF o1 (i:=5) (v:=u8n d.color) rfl ?_
 refine ldn_ok o1 (i:=6) (n:=3) (vs:=[u8n d.testTy,c.test,u8n d.testColor]) rfl (by rw[YP];decide) ?_
 refine QF o1 (i:=9) (v:=c.test4) rfl ?_
 refine QF o1 (i:=10) (v:=c.strings) rfl ?_
 refine QF o1 (i:=11) (v:=c.tables) rfl ?_
 refine QF o1 (i:=12) (v:=c.enemy) rfl ?_
 refine QF o1 (i:=13) (v:=Yf d.nested) rfl ?_
 refine QF o1 (i:=14) (v:=c.empty) rfl ?_
 refine QF o1 (i:=15) (v:=.bool d.bool) rfl ?_
 refine QF o1 (i:=16) (v:=Qfl d.s32) rfl ?_
 refine QF o1 (i:=17) (v:=Zz d.u32) rfl ?_
 refine QF o1 (i:=18) (v:=Qdw d.s64) rfl ?_
 refine QF o1 (i:=19) (v:=Ya d.u64) rfl ?_
 refine QF o1 (i:=20) (v:=Qfl d.s32a) rfl ?_
 refine QF o1 (i:=21) (v:=Zz d.u32a) rfl ?_
 refine QF o1 (i:=22) (v:=Qdw d.s64a) rfl ?_
 refine QF o1 (i:=23) (v:=Ya d.u64a) rfl ?_
 refine QF o1 (i:=24) (v:=c.bools) rfl ?_
 refine QF o1 (i:=25) (v:=Zz d.f) rfl ?_
 refine QF o1 (i:=26) (v:=Zz d.f2) rfl ?_
 refine QF o1 (i:=27) (v:=Zz d.f3) rfl ?_
 refine QF o1 (i:=28) (v:=c.strings2) rfl ?_
 refine QF o1 (i:=29) (v:=c.abil) rfl ?_
 refine QF o1 (i:=30) (v:=Yf d.flex) rfl ?_
 refine QF o1 (i:=31) (v:=c.test5) rfl ?_
 refine QF o1 (i:=32) (v:=c.longs) rfl ?_
 refine QF o1 (i:=33) (v:=c.doubles) rfl ?_
 refine QF o1 (i:=34) (v:=.bool d.parent) rfl ?_
 refine QF o1 (i:=35) (v:=c.refs) rfl ?_
 refine QF o1 (i:=36) (v:=Ya d.singleWeak) rfl ?_
 refine QF o1 (i:=37) (v:=c.weak) rfl ?_
 refine QF o1 (i:=38) (v:=c.strong) rfl ?_
 refine QF o1 (i:=39) (v:=Ya d.coOwning) rfl ?_
 refine QF o1 (i:=40) (v:=c.coOwnings) rfl ?_
 refine QF o1 (i:=41) (v:=Ya d.nonOwning) rfl ?_
 refine QF o1 (i:=42) (v:=c.nonOwnings) rfl ?_
 refine ldn_ok o1 (i:=43) (n:=3) (vs:=[u8n d.uniqTy,c.uniq,u8n d.uniqColor]) rfl (by rw[YP];decide) ?_
 refine ldn_ok o1 (i:=46) (n:=3) (vs:=[u8n d.ambTy,c.amb,u8n d.ambColor]) rfl (by rw[YP];decide) ?_
 refine QF o1 (i:=49) (v:=Yf d.enums) rfl ?_
 refine QF o1 (i:=50) (v:=i8V d.signedEnum) rfl ?_
 refine mjb_ok e.inn (g.pos.mono e.le) l0 (slE (P:=fun F v=>SlV F 7 v (pos.map Zg)) (fun _ _ h=>SlV.sl h) ?_)
 intro Gpos Hpos apos npos cpos e2 wpos
 refine Qn e2.keep.ext ?_
 have e:=e.trans e2
 have o2:=o2.ext e2
 have lepos:=e2.le
 refine QcL (by kernel_rfl) ?_
 refine Of_choice e.inn (Qbu.mono e.le wU) hU mU l7 ?_
 intro Gtest Htest atest ntest ctest e2 wtest
 refine Qn e2.keep.ext ?_
 have e:=e.trans e2
 have o2:=o2.ext e2
 have letest:=e2.le
 refine mjc_ok e.inn (g.test4.mono e.le) l2 (slE (P:=fun F v=>SlV F 2 v (d.test4.map Yw)) (fun _ _ h=>SlV.sl h) ?_)
 intro Gtest4 Htest4 atest4 ntest4 ctest4 e2 wtest4
 refine Qn e2.keep.ext ?_
 have e:=e.trans e2
 have o2:=o2.ext e2
 have letest4:=e2.le
 refine mja_ok e.inn (Qbu.mono e.le wT) hT mT l5 (slE (P:=fun F v=>Qbu F tables v) (fun _ _ h=>Qbu.sl h) ?_)
 intro Gtables Htables atables ntables ctables e2 wtables
 refine Qn e2.keep.ext ?_
 have e:=e.trans e2
 have o2:=o2.ext e2
 have letables:=e2.le
 refine mja_ok e.inn (Qbu.mono e.le wE) hE mE l6 (slE (P:=fun F v=>Qbu F enemy v) (fun _ _ h=>Qbu.sl h) ?_)
 intro Genemy Henemy aenemy nenemy cenemy e2 wenemy
 refine Qn e2.keep.ext ?_
 have e:=e.trans e2
 have o2:=o2.ext e2
 have leenemy:=e2.le
 refine mjd_ok e.inn (g.empty.mono e.le) l1 (slE (P:=fun F v=>SlV F 3 v (empty.map YL)) (fun _ _ h=>SlV.sl h) ?_)
 intro Gempty Hempty aempty nempty cempty e2 wempty
 refine Qn e2.keep.ext ?_
 have e:=e.trans e2
 have o2:=o2.ext e2
 have leempty:=e2.le
 refine mje_ok e.inn (g.abil.mono e.le) l3 (slE (P:=fun F v=>SlV F 2 v (d.abilities.map ZN)) (fun _ _ h=>SlV.sl h) ?_)
 intro Gabil Habil aabil nabil cabil e2 wabil
 refine Qn e2.keep.ext ?_
 have e:=e.trans e2
 have o2:=o2.ext e2
 have leabil:=e2.le
 refine mjc2_ok e.inn (g.test5.mono e.le) l4 (slE (P:=fun F v=>SlV F 2 v (d.test5.map Yw)) (fun _ _ h=>SlV.sl h) ?_)
 intro Gtest5 Htest5 atest5 ntest5 ctest5 e2 wtest5
 refine Qn e2.keep.ext ?_
 have e:=e.trans e2
 have o2:=o2.ext e2
 have letest5:=e2.le
 refine QcL (by kernel_rfl) ?_
 refine Of_choice e.inn (Qbu.mono e.le wQ) hQ mQ l8 ?_
 intro Guniq Huniq auniq nuniq cuniq e2 wuniq
 refine Qn e2.keep.ext ?_
 have e:=e.trans e2
 have o2:=o2.ext e2
 have leuniq:=e2.le
 refine QcL (by kernel_rfl) ?_
 refine Of_choice e.inn (Qbu.mono e.le wA) hA mA l9 ?_
 intro Gamb Hamb aamb namb camb e2 wamb
 refine Qn e2.keep.ext ?_
 have e:=e.trans e2
 have o2:=o2.ext e2
 have leamb:=e2.le
 rw[hstrings]at gstrings
 rw[hbools]at gbools
 rw[hstrings2]at gstrings2
 rw[hlongs]at glongs
 rw[hdoubles]at gdoubles
 rw[hrefs]at grefs
 rw[hweak]at gweak
 rw[hstrong]at gstrong
 rw[hcoOwnings]at gcoOwnings
 rw[hnonOwnings]at gnonOwnings
 simp only[hstrings,hbools,hstrings2,hlongs,hdoubles,hrefs,hweak,hstrong,hcoOwnings,hnonOwnings]
 have hf:=fill_of d apos npos cpos atest ntest ctest atest4 ntest4 ctest4 astrings nstrings cstrings atables ntables ctables aenemy nenemy cenemy aempty nempty cempty abools nbools cbools astrings2 nstrings2 cstrings2 aabil nabil cabil atest5 ntest5 ctest5 alongs nlongs clongs adoubles ndoubles cdoubles arefs nrefs crefs aweak nweak cweak astrong nstrong cstrong acoOwnings ncoOwnings ccoOwnings anonOwnings nnonOwnings cnonOwnings auniq nuniq cuniq aamb namb camb
 unfold Qz
 simp only[hf]
 have Lamb:=Cut.le_refl Gamb
 have Luniq:Guniq.le Gamb:=Cut.le_trans leamb Lamb
 have Ltest5:Gtest5.le Gamb:=Cut.le_trans leuniq Luniq
 have Labil:Gabil.le Gamb:=Cut.le_trans letest5 Ltest5
 have Lempty:Gempty.le Gamb:=Cut.le_trans leabil Labil
 have Lenemy:Genemy.le Gamb:=Cut.le_trans leempty Lempty
 have Ltables:Gtables.le Gamb:=Cut.le_trans leenemy Lenemy
 have Ltest4:Gtest4.le Gamb:=Cut.le_trans letables Ltables
 have Ltest:Gtest.le Gamb:=Cut.le_trans letest4 Ltest4
 have Lpos:Gpos.le Gamb:=Cut.le_trans letest Ltest
 have L0:G.le Gamb:=Cut.le_trans lepos Lpos
 have hval:QaX Gamb (.mk d pos empty tables enemy test uniq amb) (Yk d ⟨.slice apos npos cpos,.slice atest ntest ctest,.slice atest4 ntest4 ctest4,.slice astrings nstrings cstrings,.slice atables ntables ctables,.slice aenemy nenemy cenemy,.slice aempty nempty cempty,.slice abools nbools cbools,.slice astrings2 nstrings2 cstrings2,.slice aabil nabil cabil,.slice atest5 ntest5 ctest5,.slice alongs nlongs clongs,.slice adoubles ndoubles cdoubles,.slice arefs nrefs crefs,.slice aweak nweak cweak,.slice astrong nstrong cstrong,.slice acoOwnings ncoOwnings ccoOwnings,.slice anonOwnings nnonOwnings cnonOwnings,.slice auniq nuniq cuniq,.slice aamb namb camb⟩):=by
  rw[QaX]
  exact ⟨_,rfl,⟨(wpos.mono Lpos),(wtest4.mono Ltest4),(gstrings.mono L0),(wempty.mono Lempty),(gbools.mono L0),(gstrings2.mono L0),(wabil.mono Labil),(wtest5.mono Ltest5),(glongs.mono L0),(gdoubles.mono L0),(grefs.mono L0),(gweak.mono L0),(gstrong.mono L0),(gcoOwnings.mono L0),(gnonOwnings.mono L0)⟩,(Qbu.mono Ltables wtables),(Qbu.mono Lenemy wenemy),(Qbu.mono Ltest wtest),(Qbu.mono Luniq wuniq),(Qbu.mono Lamb wamb)⟩
 rw[Yg (n:=51) (c':=(Yk d ⟨.slice apos npos cpos,.slice atest ntest ctest,.slice atest4 ntest4 ctest4,.slice astrings nstrings cstrings,.slice atables ntables ctables,.slice aenemy nenemy cenemy,.slice aempty nempty cempty,.slice abools nbools cbools,.slice astrings2 nstrings2 cstrings2,.slice aabil nabil cabil,.slice atest5 ntest5 ctest5,.slice alongs nlongs clongs,.slice adoubles ndoubles cdoubles,.slice arefs nrefs crefs,.slice aweak nweak cweak,.slice astrong nstrong cstrong,.slice acoOwnings ncoOwnings ccoOwnings,.slice anonOwnings nnonOwnings cnonOwnings,.slice auniq nuniq cuniq,.slice aamb namb camb⟩).toArray) o2.get rfl rfl (by decide) (by simpa using QaX.one hval)]
 have e:=e.set o2.out o2.new (.cells (Yk d ⟨.slice apos npos cpos,.slice atest ntest ctest,.slice atest4 ntest4 ctest4,.slice astrings nstrings cstrings,.slice atables ntables ctables,.slice aenemy nenemy cenemy,.slice aempty nempty cempty,.slice abools nbools cbools,.slice astrings2 nstrings2 cstrings2,.slice aabil nabil cabil,.slice atest5 ntest5 ctest5,.slice alongs nlongs clongs,.slice adoubles ndoubles cdoubles,.slice arefs nrefs crefs,.slice aweak nweak cweak,.slice astrong nstrong cstrong,.slice acoOwnings ncoOwnings ccoOwnings,.slice anonOwnings nnonOwnings cnonOwnings,.slice auniq nuniq cuniq,.slice aamb namb camb⟩).toArray 38 (0,0))
 have o2:=o2.set (.cells (Yk d ⟨.slice apos npos cpos,.slice atest ntest ctest,.slice atest4 ntest4 ctest4,.slice astrings nstrings cstrings,.slice atables ntables ctables,.slice aenemy nenemy cenemy,.slice aempty nempty cempty,.slice abools nbools cbools,.slice astrings2 nstrings2 cstrings2,.slice aabil nabil cabil,.slice atest5 ntest5 ctest5,.slice alongs nlongs clongs,.slice adoubles ndoubles cdoubles,.slice arefs nrefs crefs,.slice aweak nweak cweak,.slice astrong nstrong cstrong,.slice acoOwnings ncoOwnings ccoOwnings,.slice anonOwnings nnonOwnings cnonOwnings,.slice auniq nuniq cuniq,.slice aamb namb camb⟩).toArray 38 (0,0))
 rw[YI (n:=51) (vs:=Yk d ⟨.slice apos npos cpos,.slice atest ntest ctest,.slice atest4 ntest4 ctest4,.slice astrings nstrings cstrings,.slice atables ntables ctables,.slice aenemy nenemy cenemy,.slice aempty nempty cempty,.slice abools nbools cbools,.slice astrings2 nstrings2 cstrings2,.slice aabil nabil cabil,.slice atest5 ntest5 ctest5,.slice alongs nlongs clongs,.slice adoubles ndoubles cdoubles,.slice arefs nrefs crefs,.slice aweak nweak cweak,.slice astrong nstrong cstrong,.slice acoOwnings ncoOwnings ccoOwnings,.slice anonOwnings nnonOwnings cnonOwnings,.slice auniq nuniq cuniq,.slice aamb namb camb⟩) (by rw[Q4 o2.get 51 (Nat.le_refl 51)];rfl)]
 exact hR _ _ _ e hval
mutual
theorem Of_all:∀g:GM,OfOk g
 |.mk d pos empty tables enemy test uniq amb=>OfStep (QiK tables) (QiK enemy) (QiK test) (QiK uniq) (QiK amb)
theorem QiK:∀gs:List GM,∀k∈gs,OfOk k
 |[],k,h=>by simp at h
 |g::gs,k,h=>by
  rcases List.mem_cons.1 h with h|h
  ·rw[h];exact Of_all g
  ·exact QiK gs k h
end
end Go.Proofs
