/- WHAT IS PROVED: the given statement of FnMonsterFormat, whatever the input: this is part 10 of 14. No conditions. -/
import Derived.Test.YthcjblkplcepaaaGreatX09
set_option linter.all false
namespace Go.Proofs
open Go Go.Vc
open Tryz (prog)
theorem Qc.ext {H H':Qe} {p:Nat} {S:BS} {F F':Cut} {r:Nat} (h:Qc H p S F r) (e:Ext F H F' H'):Qc H' p S F' r:=by
 obtain ⟨hd,h1,⟨B,V,T,L,len,vtv,vtsv,ee,eB,hr,h2⟩⟩:=h
 obtain ⟨l1,l2,l3,l4⟩:=hr.V_lt
 have same:∀b,b<H.size->H'[b]?=H[b]?:=fun b hb=>by
  rw[Array.getElem?_eq_getElem hb]
  exact e.keep b _ (Array.getElem?_eq_getElem hb)
 refine ⟨hd,h1,⟨B,V,T,L,len,vtv,vtsv,ee,eB,hr.frame ?_ ?_,h2⟩⟩
 ·intro b hb
  rcases hb with rfl|rfl|rfl|rfl
  ·exact same _ l1
  ·exact same _ l2
  ·exact same _ l3
  ·exact same _ l4
 ·intro b o hb
  refine ⟨e.inn b o hb,?_⟩
  by_cases hlt:b<H.size
  ·rw[e.old b hlt]at hb
   exact (hr.hF b o hb).2
  ·exact ⟨by omega,by omega,by omega,by omega⟩
theorem Qhv {H:Qe} {B hd:Nat} {bs:List UInt8} (h:U8s H B hd bs):∀{n i:Nat},i+n<=bs.length->Zk H ⟨B,hd,none⟩ i n=some (((bs.drop i).take n).map u8V)
 |0,i,_=>by simp[Zk]
 |n+1,i,hl=>by
  have h1:=h i (by omega)
  rw[Zk,QfP,h1]
  simp only
  rw[Qhv h (n:=n) (i:=i+1) (by omega)]
  simp only
  have e:bs.drop i=(bs[i]'(by omega))::bs.drop (i+1):=List.drop_eq_getElem_cons (by omega)
  rw[e,List.take_succ_cons,List.map_cons]
  congr 2
  unfold byteN u8V
  simp[List.getD,List.getElem?_eq_getElem (show i<bs.length by omega)]
mutual
theorem WfM_of:∀{g:GM},QcA g->WfM (toM g)
 |.mk d pos empty tables enemy test uniq amb,h=>by
  rw[QcA]at h
  obtain ⟨_,_,_,gU,gQ,gA,m1,m2,m3,m4,m5⟩:=h
  rw[toM,WfM]
  have un:∀{amb:Bool} {ty:UInt8} {kids:List GM},GUn amb ty kids.length->UnOk amb ty (QbY kids):=fun hg h0 h2 hk=>by
   rcases hg with ⟨h,_⟩|⟨_,⟨h,h',_⟩|⟨_,h⟩⟩
   ·exact h0 h
   ·exact h2 ⟨h,h'⟩
   ·rw[Qid,List.map_eq_nil_iff]at hk
    rw[hk]at h;cases h
  exact ⟨⟨un gU,un gQ,un gA⟩,Qiq m1,Qiq m2,Qiq m3,Qiq m4,Qiq m5⟩
theorem Qiq:∀{gs:List GM},Zp gs->WfMs (QbY gs)
 |[],_=>by rw[QbY,WfMs];trivial
 |g::gs,h=>by
  rw[Zp]at h
  rw[QbY,WfMs]
  exact ⟨WfM_of h.1,Qiq h.2⟩
end
theorem packAll_len (m:Mon):(Z7 m).length<=Qa1 m+24:=by
 have hp:=(QgU m Qcc Inv.new).1
 have h1:=hp.len
 have hpd:=Zo (size:=(Zv m Qcc).1.min) (n:=(Zv m Qcc).1.buf.length+4) hp.inv.min.pos
 have h8:=hp.inv.min.le
 obtain ⟨x,hx,_,hx2⟩:=QdM (Zv m Qcc).2 (prep (Zv m Qcc).1.min 4 (Zv m Qcc).1)
 have e:(Z7 m).length=x.length+(prep (Zv m Qcc).1.min 4 (Zv m Qcc).1).buf.length:=by
  show (putOff _ _).buf.length=_
  rw[hx,List.length_append]
 rw[e,Qa5]
 have:Qcc.buf.length=0:=rfl
 omega
theorem Qhc {g:GM} {cells:List Value} {n:Nat} {G:Cut} {H:Qe} {R:Kn} (hG:G.In H) (hv:QcX G g cells) (hs:QcA g) (hcost:Qa1 (toM g)<=400000000) (hn:n<65536) (hR:∀H',Qay H H'->R (.tuple #[QW (Z7 (toM g)),.bool true]) H'):
  FnS prog 8 #[.agg cells.toArray,.int .i64 (n:Nat)] H R:=by
 apply w8
 unfold s8
 rw[Qx,Qx,Qx]
 have k1:=Qay.push H (.cells (Value.agg cells.toArray).cells 52)
 have a2:(H.push (.cells (Value.agg cells.toArray).cells 52))[H.size]?=some (.cells cells.toArray 52 (0,0)):=Qi
 generalize H.push (.cells (Value.agg cells.toArray).cells 52)=H1 at *
 have k2:=Qay.push H1 (.cells (Value.int .i64 (n:Nat)).cells 3)
 have a3:(H1.push (.cells (Value.int .i64 (n:Nat)).cells 3))[H1.size]?=some (.cells #[.int .i64 (n:Nat)] 3 (0,0)):=Qi
 generalize H1.push (.cells (Value.int .i64 (n:Nat)).cells 3)=H2 at *
 have k3:=Qay.push H2 (.cells z9 9)
 have a4:(H2.push (.cells z9 9))[H2.size]?=some (.cells z9 9 (0,0)):=Qi
 have n4:(H2.push (.cells z9 9)).size=H2.size+1:=size_push
 generalize H2.push (.cells z9 9)=H3 at *
 have s1:=k1.size
 have s2:=k2.size
 refine thrown_ok (by kernel_rfl) ?_
 apply w19
 unfold s19
 have k4:=Qay.push H3 (.cells #[.bool false] 4 (0,0))
 have a5:(H3.push (.cells #[.bool false] 4 (0,0)))[H3.size]?=some (.cells #[.bool false] 4 (0,0)):=Qi
 have b2:=(k2.trans (k3.trans k4)) _ _ a2
 have b3:=(k3.trans k4) _ _ a3
 have b4:=k4 _ _ a4
 have kH:=k1.trans (k2.trans (k3.trans k4))
 generalize H3.push (.cells #[.bool false] 4 (0,0))=Hc at *
 rw[Ql ((Qk b3).trans (show (#[Value.int .i64 (n:Nat)]:Array Value)[0]?=some _ from rfl))]
 refine go_NewBuilder (F:=Cut.of Hc) hn (fun b o h=>h) ?_
 intro H4 hB hk4
 have hle:G.le (Cut.of Hc):=fun b o hb=>kH b o (hG b o hb)
 have hvl:=hv.len
 rw[YB (n:=51) (vs:=cells) (by rw[Q0 (hk4 _ _ b2) 51 (by simp[hvl])];simp[<-hvl])]
 refine Qj4 g (Cut.of Hc) H4 cells _ hB.cut (hv.mono hle) hs ?_
 intro G5 H5 v e5 hmt
 have hB5:=Qc.ext hB e5
 have hpk:=(QgU (toM g) Qcc Inv.new).1
 refine MonsterT_Pack hB5 Inv.new hmt (by show 0+_+_<=_;omega) ?_
 intro H6 hB6
 obtain ⟨k,hk3,hk⟩:=hpk.inv.min
 have hlen:=hpk.len
 have hlen0:(Zv (toM g) Qcc).1.buf.length<=0+Qa1 (toM g):=hlen
 refine Qir hB6 hpk.inv.nested hk hk3 hpk.off (by omega) ?_
 intro H7 hB7
 have hroot:=packAll_rd (WfM_of hs) hcost
 have hr4:=hroot.len
 refine Qfc hB7 rfl (by show 0<(Z7 (toM g)).length;omega) ?_
 intro B hd c hc hu
 have hu':U8s H7 B hd (Z7 (toM g)):=hu
 refine B2SK_of (xs:=Z7 (toM g)) (by
  have:=Qhv hu' (n:=(Z7 (toM g)).length) (i:=0) (by omega)
  rw[List.drop_zero,List.take_of_length_le (Nat.le_refl _)]at this
  exact this) ?_
 have c4:=hB7.get (e5.le _ _ (show Cut.of Hc H2.size=some _ from b4))
 have c5:=hB7.get (e5.le _ _ (show Cut.of Hc H3.size=some _ from a5))
 have kF:Qay H H7:=fun b o hb=>hB7.get (e5.le _ _ (kH b o hb))
 rw[Qax (v:=QW (Z7 (toM g))) c4 (by decide) (by simp) rfl]
 have d4:=QV (o:=.cells (z9.setIfInBounds 0 (QW (Z7 (toM g)))) 9 (0,0)) c4
 refine ⟨rfl,by rw[Qw (by omega)];exact c5,?_⟩
 have kF2:Qay H (setB H7 H2.size (.cells (z9.setIfInBounds 0 (QW (Z7 (toM g)))) 9 (0,0))):=kF.setB (by omega) _
 generalize setB H7 H2.size (.cells (z9.setIfInBounds 0 (QW (Z7 (toM g)))) 9 (0,0))=H8 at *
 rw[Yn]
 show Zu prog (Op.unary .not (.bool true)) _
 rw[Yn]
 show IfK (.bool false) _ _
 rw[YQ,Ql ((Qk d4).trans (show (z9.setIfInBounds 0 (QW (Z7 (toM g))))[0]?=some (QW (Z7 (toM g))) from rfl)),Qax (v:=QW (Z7 (toM g))) d4 (show 0<1 from Nat.zero_lt_one) (by simp) rfl]
 have d5:=QV (o:=.cells ((z9.setIfInBounds 0 (QW (Z7 (toM g)))).setIfInBounds 0 (QW (Z7 (toM g)))) 9 (0,0)) d4
 rw[Ql ((Qk d5).trans (show ((z9.setIfInBounds 0 (QW (Z7 (toM g)))).setIfInBounds 0 (QW (Z7 (toM g))))[0]?=some (QW (Z7 (toM g))) from rfl))]
 exact hR _ (kF2.setB (by omega) _)
theorem CopyK_u8 {H:Qe} {B n c:Nat} {e:TypeId} {L xs:List UInt8} (hB:H[B]?=some (.cells (u8c L) e (0,0))) (hx:xs.length=n) (hl:n<=L.length) {k:Kn} (hk:k (.int .i64 n) (wr H B e (QaF L 0 xs))):CopyK H 1 (.slice (some ⟨B,0,none⟩) n c) (QW xs) k:=by
 subst hx
 have hs:lenV (QW xs)=xs.length:=Zs xs
 refine ⟨xs.map u8V,?_,_,setN_u8 hB (by omega),?_⟩
 ·rw[hs,show xs.length.min xs.length=xs.length from Nat.min_self _]
  show some (Z9 ((ByteArray.mk xs.toArray).extract 0 xs.length)).toList=_
  have:(ByteArray.mk xs.toArray).extract 0 xs.length=ByteArray.mk xs.toArray:=by
   apply ByteArray.ext
   rw[ByteArray.data_extract]
   simp
  rw[this]
  simp[Z9]
 ·rw[hs,show xs.length.min xs.length=xs.length from Nat.min_self _];exact hk
theorem slice_ok {H:Qe} {xs:List UInt8} (hl:xs.length<2147483648) {R:Kn} (hR:R (bsl H.size 0 xs.length xs.length) (H.push (.cells (u8c xs) 5 (0,0)))):FnS prog 58 #[QW xs] H R:=by
 apply w58
 unfold s58
 rw[Qaf,Zs]
 refine ⟨by omega,by omega,by omega,by omega,?_⟩
 rw[Int.toNat_natCast,mk_u8 (z:=z5) rfl]
 refine CopyK_u8 (L:=List.replicate xs.length 0) (e:=5) Qi rfl (by simp) ?_
 have e:wr (H.push (.cells (u8c (List.replicate xs.length 0)) 5)) H.size 5 (QaF (List.replicate xs.length 0) 0 xs)=H.push (.cells (u8c xs) 5 (0,0)):=by
  unfold wr
  rw[show setB (H.push (.cells (u8c (List.replicate xs.length 0)) 5)) H.size _=_ from Yc]
  congr 2
  rw[QdQ _ _ _ (by simp)]
  simp
 rw[e]
 exact hR
theorem root_ok {H:Qe} {B:Nat} {bs:List UInt8} (hu:U8s H B 0 bs) (h4:4<=bs.length) (hl:bs.length<2147483648) (hle:le4 bs 0<=bs.length) {R:Kn} (hR:R (ptr H.size) (H.push (.cells #[bsl B 0 bs.length bs.length,.int .u32 (le4 bs 0:Nat)] 235))):
  FnS prog 57 #[bsl B 0 bs.length bs.length,.int .u32 0] H R:=by
 apply w57
 unfold s57
 rw[show (Value.int .u32 0)=Value.int .u32 ((0:Nat):Int) from rfl,SlcB (n:=bs.length) (m:=0) rfl (by omega)]
 refine ZG hu (by omega) (by omega) ?_
 rw[QgN,Qx,Q5,QU (by omega) (by omega),show ((le4 bs 0:Nat):Int)+((0:Nat):Int)=((le4 bs 0:Nat):Int) by omega]
 refine ZB Qi rfl rfl rfl ?_
 rw[Yc]
 exact hR
theorem MonsterRead_rw {bs:List UInt8} {m:Mon} (hr:RootRw bs m) (hl:bs.length<2147483648) {G:Cut} {H:Qe} (hG:G.In H) {R:Kn} (hR:∀G' H' cells,Ext G H G' H'->QcX G' (rwM m) cells->R (.tuple #[.agg cells.toArray,.bool true]) H'):
  FnS prog 17 #[QW bs] H R:=by
 apply w17
 unfold s17
 rw[Qx,Qx]
 have e:=Ext.refl hG
 have o1:Yo H G (H.push (.cells (QW bs).cells 9)) H.size (.cells #[QW bs] 9 (0,0)):=Yo.fresh e _
 have e:=e.push (.cells (QW bs).cells 9)
 generalize H.push (.cells (QW bs).cells 9)=H1 at *
 have n1:=o1.ne
 have o2:=Yo.fresh e (.cells z52 52)
 have o1:=o1.push (.cells z52 52)
 have e:=e.push (.cells z52 52)
 generalize H1.push (.cells z52 52)=H2 at *
 refine thrown_ok (by kernel_rfl) ?_
 have n2:=o2.ne
 have o3:=Yo.fresh e (.cells #[.bool false] 4 (0,0))
 have o1:=o1.push (.cells #[.bool false] 4 (0,0))
 have o2:=o2.push (.cells #[.bool false] 4 (0,0))
 have e:=e.push (.cells #[.bool false] 4 (0,0))
 generalize H2.push (.cells #[.bool false] 4 (0,0))=H3 at *
 apply w55
 unfold s55
 rw[Ql ((Qk o1.get).trans (show (#[QW bs]:Array Value)[0]?=some _ from rfl))]
 refine slice_ok hl ?_
 have u:U8s (H3.push (.cells (u8c bs) 5 (0,0))) H3.size 0 bs:=fun i hi=>by
  rw[Qk Qi,Nat.zero_add]
  unfold u8c byteN
  simp[hi,List.getD]
 have o1:=o1.push (.cells (u8c bs) 5 (0,0))
 have o2:=o2.push (.cells (u8c bs) 5 (0,0))
 have o3:=o3.push (.cells (u8c bs) 5 (0,0))
 have e:=e.push (.cells (u8c bs) 5 (0,0))
 generalize H3.push (.cells (u8c bs) 5 (0,0))=H4 at *
 have hlen:=hr.len
 have hle:=hr.le
 refine root_ok u hlen hl hle ?_
 have t:Tab (H4.push (.cells #[bsl H3.size 0 bs.length bs.length,.int .u32 (le4 bs 0:Nat)] 235)) H4.size H3.size bs (le4 bs 0):=⟨Qk Qi,Qk Qi,U8s_ext (Qay.push _ _).ext u,hl,hle⟩
 have o1:=o1.push (.cells #[bsl H3.size 0 bs.length bs.length,.int .u32 (le4 bs 0:Nat)] 235)
 have o2:=o2.push (.cells #[bsl H3.size 0 bs.length bs.length,.int .u32 (le4 bs 0:Nat)] 235)
 have o3:=o3.push (.cells #[bsl H3.size 0 bs.length bs.length,.int .u32 (le4 bs 0:Nat)] 235)
 have e:=e.push (.cells #[bsl H3.size 0 bs.length bs.length,.int .u32 (le4 bs 0:Nat)] 235)
 generalize H4.push (.cells #[bsl H3.size 0 bs.length bs.length,.int .u32 (le4 bs 0:Nat)] 235)=H5 at *
 obtain ⟨A,hrd⟩:=hr.rd
 refine Qgx m A _ _ _ bs G H5 _ t e.inn hrd ?_
 intro cells H6 G6 e6 hv
 have o1:=o1.ext e6
 have o2:=o2.ext e6
 have o3:=o3.ext e6
 have e:=e.trans e6
 have hvl:=hv.len
 have hone:=QcX.one hv
 rw[QZ (n:=51) (c':=cells.toArray) o2.get rfl (by simp[hvl]) (by decide) (by simpa using hone)]
 have e:=e.set o2.out o2.new (.cells cells.toArray 52 (0,0))
 have o3:=o3.set_ne (Ne.symm n2) (.cells cells.toArray 52 (0,0))
 have o2:=o2.set (.cells cells.toArray 52 (0,0))
 generalize setB H6 H1.size (.cells cells.toArray 52 (0,0))=H7 at *
 refine ⟨rfl,o3.get,?_⟩
 rw[Yn]
 show Zu prog (Op.unary .not (.bool true)) _
 rw[Yn]
 show IfK (.bool false) _ _
 rw[YQ,YB (n:=51) (vs:=cells) (by rw[Q0 o2.get 51 (by simp[hvl])];simp[<-hvl]),QZ (n:=51) (c':=cells.toArray) o2.get (by simp[hvl]) (by simp[hvl]) (by decide) (by simpa using hone)]
 have e:=e.set o2.out o2.new (.cells cells.toArray 52 (0,0))
 have o2:=o2.set (.cells cells.toArray 52 (0,0))
 rw[YB (n:=51) (vs:=cells) (by rw[Q0 o2.get 51 (by simp[hvl])];simp[<-hvl])]
 exact hR _ _ _ e hv
theorem MonsterRead_ok {bs:List UInt8} {m:Mon} (hr:RootRd bs m) (hl:bs.length<2147483648) {G:Cut} {H:Qe} (hG:G.In H) {R:Kn} (hR:∀G' H' cells,Ext G H G' H'->QcX G' (rdM m) cells->R (.tuple #[.agg cells.toArray,.bool true]) H'):
  FnS prog 17 #[QW bs] H R:=MonsterRead_rw hr.weak hl hG (by rw[rw_fl];exact hR)
end Go.Proofs
namespace Go.Proofs
open Go Go.Vc
open Tryz (prog)
set_option maxRecDepth 100000
def s3 (a5 p:Value) (h:Qe) (R:Kn):Prop:=
 Y8 h (.cells (Value.cells a5) 38) fun a q=>
 LdN q 51 a fun a6=>
 Qa prog 4 #[a6] q fun a7 d=>
 Zu prog (Op.unary .not a7) fun a8=>
 IfK a8
 (R (.bool true) d)
 (LdN d 51 a fun a9=>
 Qa prog 5 #[a9] d fun b0 e=>
 Zu prog (Op.unary .not b0) fun c=>
 Qd c false (fun b1=>LdN e 51 a fun b2=>b1 b2 e) e fun b3 r=>
 Qd c false (fun b4=>Qa prog 6 #[b3] r fun b5 b6=>b4 b5 b6) r fun b7 s=>
 Qd c false (fun b8=>Zu prog (Op.unary .not b7) fun b9=>b8 b9 s) s fun c0 t=>
 Yh c (.bool true) c0 fun f=>
 Qd f false (fun c1=>c1 p t) t fun c2 u=>
 Qd f false (fun c3=>Qj prog .gtr 39 c2 (.int .u16 5000) fun c4=>c3 c4 u) u fun c5 g=>
 Yh f (.bool true) c5 fun c6=>
 IfK c6
 (Qa prog 7 #[] g fun c7 c8=>
 R c7 c8)
 (LdN g 51 a fun c9=>
 Qa prog 9 #[c9] g fun d0 d1=>
 QG .i64 p fun d2=>
 Qa prog 8 #[d0,d2] d1 fun v w=>
 Qjj v 0 fun d3=>
 Qjj v 1 fun y=>
 LdN w 51 a fun d4=>
 Qa prog 10 #[d4] w fun d5 d6=>
 Y8 d6 (.cells z57 57) fun i d7=>
 StK d7 7 i d5 fun z=>
 LdN z 7 i fun d8=>
 Qa prog 11 #[d3,d8] z fun a0 d9=>
 Qjj a0 0 fun e0=>
 Qjj a0 1 fun e1=>
 Y8 d9 (.cells z57 57) fun a1 e2=>
 StK e2 7 a1 e0 fun a2=>
 Qd y true (fun e3=>e3 e1 a2) a2 fun e4 j=>
 Yh y e4 (.bool false) fun b=>
 Qd b true (fun e5=>LdN j 7 a1 fun e6=>e5 e6 j) j fun e7 l=>
 Qd b true (fun e8=>LdN l 7 i fun e9=>e8 e9 l) l fun f0 m=>
 Qd b true (fun f1=>Qa prog 13 #[f0] m fun f2 f3=>f1 f2 f3) m fun f4 o=>
 Qh m o<|
 Qd b true (fun f5=>Qa prog 12 #[e7,f4] o fun f6 f7=>f5 f6 f7) o fun f8 a3=>
 Yh b f8 (.bool false) fun a4=>
 Qd a4 true (fun f9=>Qa prog 7 #[] a3 fun g0 g1=>f9 g0 g1) a3 fun g2 g3=>
 Yh a4 g2 (.bool false) fun g4=>
 R g4 g3))
theorem w3 {a b h R} (H:s3 a b h R):FnS prog 3 #[a,b] h R:=wq Tryz.func3 (by kernel_rfl) H
def s4 (f:Value) (h:Qe) (R:Kn):Prop:=
 Y8 h (.cells (Value.cells f) 38) fun b c=>
 Qf b 0 fun g=>
 LdK c g fun i=>
 Y1 i fun j=>
 Qj prog .gtr 3 j (.int .i64 2147483647) fun l=>
 IfK l
 (R (.bool false) c)
 (Qf b 3 fun m=>
 LdK c m fun o=>
 QbP o fun p=>
 Qj prog .gtr 3 p (.int .i64 2147483647) fun q=>
 IfK q
 (R (.bool false) c)
 (Qf b 4 fun r=>
 LdK c r fun s=>
 QbP s fun t=>
 Qj prog .gtr 3 t (.int .i64 2147483647) fun u=>
 IfK u
 (R (.bool false) c)
 (Qf b 9 fun v=>
 LdK c v fun w=>
 Y1 w fun y=>
 Qj prog .gtr 3 y (.int .i64 2147483647) fun z=>
 IfK z
 (R (.bool false) c)
 (Qf b 10 fun a0=>
 LdK c a0 fun a1=>
 Qa prog 14 #[a1] c fun a2 d=>
 Zu prog (Op.unary .not a2) fun a3=>
 IfK a3
 (R (.bool false) d)
 (Qf b 11 fun a4=>
 LdK d a4 fun a5=>
 Y1 a5 fun a6=>
 Qj prog .gtr 3 a6 (.int .i64 2147483647) fun a7=>
 IfK a7
 (R (.bool false) d)
 (Qf b 12 fun a8=>
 LdK d a8 fun a9=>
 Y1 a9 fun b0=>
 Qj prog .gtr 3 b0 (.int .i64 2147483647) fun b1=>
 IfK b1
 (R (.bool false) d)
 (Qf b 13 fun b2=>
 LdK d b2 fun b3=>
 QbP b3 fun b4=>
 Qj prog .gtr 3 b4 (.int .i64 2147483647) fun b5=>
 IfK b5
 (R (.bool false) d)
 (Qf b 14 fun b6=>
 LdK d b6 fun b7=>
 Qa prog 15 #[b7] d fun b8 e=>
 Zu prog (Op.unary .not b8) fun b9=>
 IfK b9
 (R (.bool false) e)
 (Qf b 24 fun c0=>
 LdK e c0 fun c1=>
 Y1 c1 fun c2=>
 Qj prog .gtr 3 c2 (.int .i64 2147483647) fun c3=>
 IfK c3
 (R (.bool false) e)
 (Qf b 28 fun c4=>
 LdK e c4 fun c5=>
 Qa prog 14 #[c5] e fun c6 a=>
 Zu prog (Op.unary .not c6) fun c7=>
 IfK c7
 (R (.bool false) a)
 (Qf b 29 fun c8=>
 LdK a c8 fun c9=>
 Y1 c9 fun d0=>
 Qj prog .gtr 3 d0 (.int .i64 2147483647) fun d1=>
 IfK d1
 (R (.bool false) a)
 (Qf b 30 fun d2=>
 LdK a d2 fun d3=>
 QbP d3 fun d4=>
 Qj prog .gtr 3 d4 (.int .i64 2147483647) fun d5=>
 IfK d5
 (R (.bool false) a)
 (Qf b 31 fun d6=>
 LdK a d6 fun d7=>
 Y1 d7 fun d8=>
 Qj prog .gtr 3 d8 (.int .i64 2147483647) fun d9=>
 IfK d9
 (R (.bool false) a)
 (Qf b 32 fun e0=>
 LdK a e0 fun e1=>
 Y1 e1 fun e2=>
 Qj prog .gtr 3 e2 (.int .i64 2147483647) fun e3=>
 IfK e3
 (R (.bool false) a)
 (Qf b 33 fun e4=>
 LdK a e4 fun e5=>
 Y1 e5 fun e6=>
 Qj prog .gtr 3 e6 (.int .i64 2147483647) fun e7=>
 IfK e7
 (R (.bool false) a)
 (Qf b 35 fun e8=>
 LdK a e8 fun e9=>
 Y1 e9 fun f0=>
 Qj prog .gtr 3 f0 (.int .i64 2147483647) fun f1=>
 IfK f1
 (R (.bool false) a)
 (Qf b 37 fun f2=>
 LdK a f2 fun f3=>
 Y1 f3 fun f4=>
 Qj prog .gtr 3 f4 (.int .i64 2147483647) fun f5=>
 IfK f5
 (R (.bool false) a)
 (Qf b 38 fun f6=>
 LdK a f6 fun f7=>
 Y1 f7 fun f8=>
 Qj prog .gtr 3 f8 (.int .i64 2147483647) fun f9=>
 IfK f9
 (R (.bool false) a)
 (Qf b 40 fun g0=>
 LdK a g0 fun g1=>
 Y1 g1 fun g2=>
 Qj prog .gtr 3 g2 (.int .i64 2147483647) fun g3=>
 IfK g3
 (R (.bool false) a)
 (Qf b 42 fun g4=>
 LdK a g4 fun g5=>
 Y1 g5 fun g6=>
 Qj prog .gtr 3 g6 (.int .i64 2147483647) fun g7=>
 IfK g7
 (R (.bool false) a)
 (Qf b 49 fun g8=>
 LdK a g8 fun g9=>
 QbP g9 fun i0=>
 Qj prog .gtr 3 i0 (.int .i64 2147483647) fun i1=>
 IfK i1
 (R (.bool false) a)
 (R (.bool true) a))))))))))))))))))))))
theorem w4 {a h R} (H:s4 a h R):FnS prog 4 #[a] h R:=wq Tryz.func4 (by kernel_rfl) H
def s5 (c:Value) (h:Qe) (R:Kn):Prop:=
 Y8 h (.cells (Value.cells c) 38) fun d e=>
 Y8 e (.cells z3 3) fun a f=>
 StK f 1 a (.int .i64 20) fun b=>
 LdN b 51 d fun g=>
 Qa prog 16 #[g,a,(.int .i64 5)] b fun i j=>
 R i j
theorem w5 {a h R} (H:s5 a h R):FnS prog 5 #[a] h R:=wq Tryz.func5 (by kernel_rfl) H
def s7 (h:Qe) (R:Kn):Prop:=
 Qu z52.toList [(3,1,(.string ⟨#[111,114,99]⟩)),(2,1,(.int .i16 80)),(1,1,(.int .i16 150))] fun u=>
 Qa prog 8 #[u,(.int .i64 0)] h fun i v=>
 Qjj i 0 fun w=>
 Qjj i 1 fun j=>
 Qa prog 17 #[w] v fun l y=>
 Qjj l 0 fun z=>
 Qjj l 1 fun a0=>
 Y8 y (.cells z52 52) fun a a1=>
 StK a1 51 a z fun m=>
 Qd j true (fun a2=>a2 a0 m) m fun a3 o=>
 Yh j a3 (.bool false) fun b=>
 Qd b true (fun a4=>Qf a 3 fun a5=>a4 a5 o) o fun a6 e=>
 Qd b true (fun a7=>LdK e a6 fun a8=>a7 a8 e) e fun a9 p=>
 Qd b true (fun b0=>Qj prog .eql 9 a9 (.string ⟨#[111,114,99]⟩) fun b1=>b0 b1 p) p fun b2 q=>
 Yh b b2 (.bool false) fun c=>
 Qd c true (fun b3=>Qf a 2 fun b4=>b3 b4 q) q fun b5 f=>
 Qd c true (fun b6=>LdK f b5 fun b7=>b6 b7 f) f fun b8 r=>
 Qd c true (fun b9=>Qj prog .eql 23 b8 (.int .i16 80) fun c0=>b9 c0 r) r fun c1 s=>
 Yh c c1 (.bool false) fun d=>
 Qd d true (fun c2=>Qf a 1 fun c3=>c2 c3 s) s fun c4 g=>
 Qd d true (fun c5=>LdK g c4 fun c6=>c5 c6 g) g fun c7 t=>
 Qd d true (fun c8=>Qj prog .eql 23 c7 (.int .i16 150) fun c9=>c8 c9 t) t fun d0 d1=>
 Yh d d0 (.bool false) fun d2=>
 R d2 d1
theorem w7 {h R} (H:s7 h R):FnS prog 7 #[] h R:=wq Tryz.func7 (by kernel_rfl) H
def s9 (a2:Value) (h:Qe) (R:Kn):Prop:=
 Y8 h (.cells (Value.cells a2) 38) fun b a3=>
 Y8 a3 (.cells z52 52) fun z a=>
 Qf b 0 fun a4=>
 LdK a a4 fun a5=>
 Qf b 1 fun a6=>
 LdK a a6 fun a7=>
 Qf b 2 fun a8=>
 LdK a a8 fun a9=>
 Qf b 3 fun b0=>
 LdK a b0 fun b1=>
 Qf b 4 fun b2=>
 LdK a b2 fun b3=>
 Qf b 5 fun b4=>
 LdK a b4 fun b5=>
 Qf b 6 fun b6=>
 LdN a 3 b6 fun b7=>
 Qf b 9 fun b8=>
 LdK a b8 fun b9=>
 Qf b 10 fun c0=>
 LdK a c0 fun c1=>
 Qf b 11 fun c2=>
 LdK a c2 fun c3=>
 Qf b 12 fun c4=>
 LdK a c4 fun c5=>
 Qf b 13 fun c6=>
 LdK a c6 fun c7=>
 Qf b 14 fun c8=>
 LdK a c8 fun c9=>
 Qf b 15 fun d0=>
 LdK a d0 fun d1=>
 Qf b 16 fun d2=>
 LdK a d2 fun d3=>
 Qf b 17 fun d4=>
 LdK a d4 fun d5=>
 Qf b 18 fun d6=>
 LdK a d6 fun d7=>
 Qf b 19 fun d8=>
 LdK a d8 fun d9=>
 Qf b 20 fun e0=>
 LdK a e0 fun e1=>
 Qf b 21 fun e2=>
 LdK a e2 fun e3=>
 Qf b 22 fun e4=>
 LdK a e4 fun e5=>
 Qf b 23 fun e6=>
 LdK a e6 fun e7=>
 Qf b 24 fun e8=>
 LdK a e8 fun e9=>
 Qf b 25 fun f0=>
 LdK a f0 fun f1=>
 Qf b 26 fun f2=>
 LdK a f2 fun f3=>
 Qf b 27 fun f4=>
 LdK a f4 fun f5=>
 Qf b 28 fun f6=>
 LdK a f6 fun f7=>
 Qf b 29 fun f8=>
 LdK a f8 fun f9=>
 Qf b 30 fun g0=>
 LdK a g0 fun g1=>
 Qf b 31 fun g2=>
 LdK a g2 fun g3=>
 Qf b 32 fun g4=>
 LdK a g4 fun g5=>
 Qf b 33 fun g6=>
 LdK a g6 fun g7=>
 Qf b 34 fun g8=>
 LdK a g8 fun g9=>
 Qf b 35 fun i0=>
 LdK a i0 fun i1=>
 Qf b 36 fun i2=>
 LdK a i2 fun i3=>
 Qf b 37 fun i4=>
 LdK a i4 fun i5=>
 Qf b 38 fun i6=>
 LdK a i6 fun i7=>
 Qf b 39 fun i8=>
 LdK a i8 fun i9=>
 Qf b 40 fun j0=>
 LdK a j0 fun j1=>
 Qf b 41 fun j2=>
 LdK a j2 fun j3=>
 Qf b 42 fun j4=>
 LdK a j4 fun j5=>
 Qf b 43 fun j6=>
 LdN a 3 j6 fun j7=>
 Qf b 46 fun j8=>
 LdN a 3 j8 fun j9=>
 Qf b 49 fun l0=>
 LdK a l0 fun l1=>
 Qf b 50 fun l2=>
 LdK a l2 fun l3=>
 Qa prog 27 #[a5,(.func (.func 28) #[] #[])] a fun l4 c=>
 Qh a c<|
 DynK prog (.func (.func 25) #[] #[]) #[b7] c fun l5 d=>
 Qh c d<|
 Qa prog 29 #[b9,(.func (.func 30) #[] #[])] d fun l6 e=>
 Qh d e<|
 Qa prog 31 #[c1] e fun l7 f=>
 Qh e f<|
 Qa prog 26 #[c3,(.func (.func 9) #[] #[])] f fun l8 g=>
 Qh f g<|
 Qa prog 26 #[c5,(.func (.func 9) #[] #[])] g fun l9 i=>
 Qh g i<|
 Qa prog 32 #[c9,(.func (.func 33) #[] #[])] i fun m0 j=>
 Qh i j<|
 Qa prog 34 #[e9] j fun m1 l=>
 Qh j l<|
 Qa prog 31 #[f7] l fun m2 m=>
 Qh l m<|
 Qa prog 35 #[f9,(.func (.func 36) #[] #[])] m fun m3 o=>
 Qh m o<|
 Qa prog 29 #[g3,(.func (.func 37) #[] #[])] o fun m4 p=>
 Qh o p<|
 Qa prog 38 #[g5] p fun m5 q=>
 Qh p q<|
 Qa prog 39 #[g7] q fun m6 r=>
 Qh q r<|
 Qa prog 39 #[i1] r fun m7 s=>
 Qh r s<|
 Qa prog 39 #[i5] s fun m8 t=>
 Qh s t<|
 Qa prog 39 #[i7] t fun m9 u=>
 Qh t u<|
 Qa prog 39 #[j1] u fun o0 v=>
 Qh u v<|
 Qa prog 39 #[j5] v fun o1 w=>
 Qh v w<|
 DynK prog (.func (.func 25) #[] #[]) #[j7] w fun o2 y=>
 Qh w y<|
 DynK prog (.func (.func 25) #[] #[]) #[j9] y fun o3 a0=>
 Qh y a0<|
 Qu z52.toList [(0,1,l4),(1,1,a7),(2,1,a9),(3,1,b1),(4,1,b3),(5,1,b5),(6,3,l5),(9,1,l6),(10,1,l7),(11,1,l8),(12,1,l9),(13,1,c7),(14,1,m0),(15,1,d1),(16,1,d3),(17,1,d5),(18,1,d7),(19,1,d9),(20,1,e1),(21,1,e3),(22,1,e5),(23,1,e7),(24,1,m1),(25,1,f1),(26,1,f3),(27,1,f5),(28,1,m2),(29,1,m3),(30,1,g1),(31,1,m4),(32,1,m5),(33,1,m6),(34,1,g9),(35,1,m7),(36,1,i3),(37,1,m8),(38,1,m9),(39,1,i9),(40,1,o0),(41,1,j3),(42,1,o1),(43,3,o2),(46,3,o3),(49,1,l1),(50,1,l3)] fun o4=>
 StK a0 51 z o4 fun a1=>
 LdN a1 51 z fun o5=>
 R o5 a1
theorem w9 {a h R} (H:s9 a h R):FnS prog 9 #[a] h R:=wq Tryz.func9 (by kernel_rfl) H
def s14 (c:Value) (h:Qe) (R:Kn):Prop:=
 Y1 c fun j=>
 Qj prog .gtr 3 j (.int .i64 2147483647) fun l=>
 IfK l
 (R (.bool false) h)
 (QA (fun d=>
 Y1 c fun m=>
 Yu [(.int .i64 0),(.bool false)] h fun f g=>∀b e:Value,∀a:Qe,f g [b,e] a->
 Qj prog .lss 3 b m fun o=>
 IfK o
 (Y2 1 c b fun p=>
 LdK a p fun q=>
 QbP q fun r=>
 Qj prog .gtr 3 r (.int .i64 2147483647) fun s=>
 IfK s
 (R (.bool false) a)
 (Qj prog .add 3 b (.int .i64 1) fun t=>
 QQ f g [t,e] a))
 (d [e] a)) fun d=>∀u:Value,∀i:Qe,d [u] i->
 R (.bool true) i)
theorem w14 {a h R} (H:s14 a h R):FnS prog 14 #[a] h R:=wq Tryz.func14 (by kernel_rfl) H
def s15 (c:Value) (h:Qe) (R:Kn):Prop:=
 Y1 c fun o=>
 Qj prog .gtr 3 o (.int .i64 2147483647) fun p=>
 IfK p
 (R (.bool false) h)
 (QA (fun d=>
 Y1 c fun q=>
 Yu [(.int .i64 0),(.bool false)] h fun f g=>∀a e:Value,∀b:Qe,f g [a,e] b->
 Qj prog .lss 3 a q fun r=>
 IfK r
 (Y2 3 c a fun s=>
 LdN b 3 s fun t=>
 Y8 b (.cells z95 95) fun i u=>
 StK u 3 i t fun j=>
 LdN j 3 i fun v=>
 Qa prog 51 #[v] j fun w l=>
 Zu prog (Op.unary .not w) fun y=>
 IfK y
 (R (.bool false) l)
 (Qj prog .add 3 a (.int .i64 1) fun z=>
 QQ f g [z,e] l))
 (d [e] b)) fun d=>∀a0:Value,∀m:Qe,d [a0] m->
 R (.bool true) m)
theorem w15 {a h R} (H:s15 a h R):FnS prog 15 #[a] h R:=wq Tryz.func15 (by kernel_rfl) H
def s25 (f:Value) (h:Qe) (R:Kn):Prop:=
 Y8 h (.cells (Value.cells f) 26) fun b g=>
 Y8 g (.cells z47 47) fun c a=>
 Qf b 0 fun i=>
 LdK a i fun j=>
 Qf b 1 fun l=>
 LdK a l fun m=>
 Qf b 2 fun o=>
 LdK a o fun p=>
 Qa prog 26 #[m,(.func (.func 9) #[] #[])] a fun q d=>
 Qh a d<|
 Qu z47.toList [(0,1,j),(1,1,q),(2,1,p)] fun r=>
 StK d 3 c r fun e=>
 LdN e 3 c fun s=>
 R s e
theorem w25 {a h R} (H:s25 a h R):FnS prog 25 #[a] h R:=wq Tryz.func25 (by kernel_rfl) H
def mia2 (a:Value) (b:Qe) (R:Kn):Prop:=
 R a b
def mia1B (d:Value) (e:Value) (f:Value) (g:Value) (a:Qe) (k:Kn):Prop:=
 Y2 51 d f fun i=>
 LdN a 51 i fun j=>
 Y8 a (.cells z38 38) fun b l=>
 StK l 51 b j fun c=>
 LdN c 51 b fun m=>
 DynK prog e #[m] c fun o p=>
 Q8 p 52 1 (YY z52.toList 1) [(0,51,o)] fun q r=>
 Qbk r 52 51 736 z52 g q fun s t=>
 k s t
def mia1 (a:Value) (b:Value) (h:Qe) (R:Kn):Prop:=
 Qey prog 3 a h (mia1B a b) fun c d=>mia2 c d R
def s26 (a b:Value) (h:Qe) (R:Kn):Prop:=
 mia1 a b h R
theorem w26 {a b h R} (H:s26 a b h R):FnS prog 26 #[a,b] h R:=wq Tryz.func26 (by kernel_rfl) H
def mib2 (a:Value) (b:Qe) (R:Kn):Prop:=
 R a b
def mib1B (d:Value) (e:Value) (f:Value) (g:Value) (a:Qe) (k:Kn):Prop:=
 Y2 7 d f fun i=>
 LdN a 7 i fun j=>
 Y8 a (.cells z84 84) fun b l=>
 StK l 7 b j fun c=>
 LdN c 7 b fun m=>
 DynK prog e #[m] c fun o p=>
 Q8 p 85 1 (YY z85.toList 1) [(0,7,o)] fun q r=>
 Qbk r 85 7 32 z85 g q fun s t=>
 k s t
def mib1 (a:Value) (b:Value) (h:Qe) (R:Kn):Prop:=
 Qey prog 3 a h (mib1B a b) fun c d=>mib2 c d R
def s27 (a b:Value) (h:Qe) (R:Kn):Prop:=
 mib1 a b h R
theorem w27 {a b h R} (H:s27 a b h R):FnS prog 27 #[a,b] h R:=wq Tryz.func27 (by kernel_rfl) H
theorem w28 {a h R} (H:tp28 84 z85 85 7 a h R):FnS prog 28 #[a] h R:=wq Tryz.func28 (by kernel_rfl) H
def mic2 (a:Value) (b:Qe) (R:Kn):Prop:=
 R a b
def mic1B (d:Value) (e:Value) (f:Value) (g:Value) (a:Qe) (k:Kn):Prop:=
 Y2 2 d f fun i=>
 LdN a 2 i fun j=>
 Y8 a (.cells z89 89) fun b l=>
 StK l 2 b j fun c=>
 LdN c 2 b fun m=>
 DynK prog e #[m] c fun o p=>
 Q8 p 90 1 (YY z90.toList 1) [(0,2,o)] fun q r=>
 Qbk r 90 2 4 z90 g q fun s t=>
 k s t
def mic1 (a:Value) (b:Value) (h:Qe) (R:Kn):Prop:=
 Qey prog 3 a h (mic1B a b) fun c d=>mic2 c d R
def s29 (a b:Value) (h:Qe) (R:Kn):Prop:=
 mic1 a b h R
theorem w29 {a b h R} (H:s29 a b h R):FnS prog 29 #[a,b] h R:=wq Tryz.func29 (by kernel_rfl) H
theorem w30 {a h R} (H:tp28 89 z90 90 2 a h R):FnS prog 30 #[a] h R:=wq Tryz.func30 (by kernel_rfl) H
theorem w31 {a h R} (H:tp65 a h R):FnS prog 31 #[a] h R:=wq Tryz.func31 (by kernel_rfl) H
def mid2 (a:Value) (b:Qe) (R:Kn):Prop:=
 R a b
def mid1B (d:Value) (e:Value) (f:Value) (g:Value) (a:Qe) (k:Kn):Prop:=
 Y2 3 d f fun i=>
 LdN a 3 i fun j=>
 Y8 a (.cells z95 95) fun b l=>
 StK l 3 b j fun c=>
 LdN c 3 b fun m=>
 DynK prog e #[m] c fun o p=>
 Q8 p 96 1 (YY z96.toList 1) [(0,3,o)] fun q r=>
 Qbk r 96 3 32 z96 g q fun s t=>
 k s t
def mid1 (a:Value) (b:Value) (h:Qe) (R:Kn):Prop:=
 Qey prog 3 a h (mid1B a b) fun c d=>mid2 c d R
def s32 (a b:Value) (h:Qe) (R:Kn):Prop:=
 mid1 a b h R
theorem w32 {a b h R} (H:s32 a b h R):FnS prog 32 #[a,b] h R:=wq Tryz.func32 (by kernel_rfl) H
theorem w33 {a h R} (H:tp28 95 z96 96 3 a h R):FnS prog 33 #[a] h R:=wq Tryz.func33 (by kernel_rfl) H
theorem w34 {a h R} (H:tp65 a h R):FnS prog 34 #[a] h R:=wq Tryz.func34 (by kernel_rfl) H
def mie2 (a:Value) (b:Qe) (R:Kn):Prop:=
 R a b
def mie1B (d:Value) (e:Value) (f:Value) (g:Value) (a:Qe) (k:Kn):Prop:=
 Y2 2 d f fun i=>
 LdN a 2 i fun j=>
 Y8 a (.cells z101 101) fun b l=>
 StK l 2 b j fun c=>
 LdN c 2 b fun m=>
 DynK prog e #[m] c fun o p=>
 Q8 p 102 1 (YY z102.toList 1) [(0,2,o)] fun q r=>
 Qbk r 102 2 8 z102 g q fun s t=>
 k s t
def mie1 (a:Value) (b:Value) (h:Qe) (R:Kn):Prop:=
 Qey prog 3 a h (mie1B a b) fun c d=>mie2 c d R
def s35 (a b:Value) (h:Qe) (R:Kn):Prop:=
 mie1 a b h R
theorem w35 {a b h R} (H:s35 a b h R):FnS prog 35 #[a,b] h R:=wq Tryz.func35 (by kernel_rfl) H
theorem w36 {a h R} (H:tp28 101 z102 102 2 a h R):FnS prog 36 #[a] h R:=wq Tryz.func36 (by kernel_rfl) H
theorem w37 {a h R} (H:tp28 89 z90 90 2 a h R):FnS prog 37 #[a] h R:=wq Tryz.func37 (by kernel_rfl) H
theorem w38 {a h R} (H:tp65 a h R):FnS prog 38 #[a] h R:=wq Tryz.func38 (by kernel_rfl) H
theorem w39 {a h R} (H:tp65 a h R):FnS prog 39 #[a] h R:=wq Tryz.func39 (by kernel_rfl) H
def s51 (b:Value) (h:Qe) (R:Kn):Prop:=
 Y8 h (.cells (Value.cells b) 95) fun c a=>
 Qf c 0 fun d=>
 LdK a d fun e=>
 QbP e fun f=>
 Qj prog .gtr 3 f (.int .i64 2147483647) fun g=>
 IfK g
 (R (.bool false) a)
 (R (.bool true) a)
theorem w51 {a h R} (H:s51 a h R):FnS prog 51 #[a] h R:=wq Tryz.func51 (by kernel_rfl) H
end Go.Proofs
namespace Go.Proofs
open Go Go.Vc
open Tryz (prog)
mutual
def LenM:GM->Prop
 |.mk d pos empty tables enemy test uniq amb=>(pos.length<=50/\empty.length<=50/\d.test4.length<=50/\d.abilities.length<=50/\d.test5.length<=50/\tables.length<=50/\enemy.length<=50/\test.length<=50/\uniq.length<=50/\amb.length<=50)/\(d.strings.length<=50/\d.bools.length<=50/\d.strings2.length<=50/\d.longs.length<=50/\d.doubles.length<=50/\d.refs.length<=50/\d.weak.length<=50/\d.strong.length<=50/\d.coOwnings.length<=50/\d.nonOwnings.length<=50)/\LenL tables/\LenL enemy/\LenL test/\LenL uniq/\LenL amb
def LenL:List GM->Prop
 |[]=>True
 |g::gs=>LenM g/\LenL gs
end
theorem LenL.get:∀{gs:List GM},LenL gs->∀g∈gs,LenM g
 |[],_,g,h=>by simp at h
 |g'::gs,hs,g,h=>by
  rw[LenL]at hs
  rcases List.mem_cons.1 h with h|h
  ·rw[h];exact hs.1
  ·exact LenL.get hs.2 g h
theorem QfI {f:FuncId} {args:Array Value} {H:Qe} {k:Kn} (h1:((prog).funcs[f]?).any (fun fn=>fn.body.isSome&&fn.name != "runtime.NumGoroutine")=true) (h:FnS prog f args H k):DynK prog (.func (.func f) #[] #[]) args H k:=by
 refine ⟨h1,?_⟩
 show FnS prog f (#[]++args++#[]) H k
 have:#[]++args++#[]=args:=by simp
 rw[this];exact h
theorem cp_ok {H:Qe} {es:Nat} {it:List Value} {z:Array Value} {t:TypeId} (hl:it.length=es) (h0:0<es) (hz:z.size=es) (hone:∀x∈it,x.oneCell'=true) {k:Kn} (hk:k (.agg it.toArray) (H.push (.cells it.toArray t (0,0)))):
  Y8 H (.cells z t) fun y h2=>StK h2 es y (.agg it.toArray) fun h3=>LdN h3 es y fun x=>k x h3:=by
 rw[Qx,QZ (n:=es) (c':=it.toArray) Qi hz (by simpa using hl) h0 (by simpa using hone),Yc,YB (n:=es) (vs:=it) (by rw[Q0 Qi es (by simp[hl])];simp[<-hl])]
 exact hk
theorem Qab {F:Cut} {es:Nat} {v:Value} {items:List (List Value)} (h:SlV F es v items) {H:Qe} (hF:F.In H) {i:Nat} {it:List Value} (hi:items[i]?=some it) {k:Value->Prop} (hk:k (.agg it.toArray)):Y2 es v (.int .i64 (i:Nat)) fun p=>LdN H es p k:=by
 obtain ⟨b,o,cells',e',fr,h1,h2,h3,h4⟩:=h.idx hF (i:=i) rfl hi
 rw[h1,YB (n:=es) (vs:=it) (by rw[Q0 h2 es (by omega)];exact congrArg some h4)]
 exact hk
theorem Qhu {G:Cut} {H:Qe} (hG:G.In H) {it:List Value} (hl:it.length=7) (hone:∀x∈it,x.oneCell'=true) {R:Kn} (hR:∀H',Ext G H G H'->R (.agg it.toArray) H'):FnS prog 28 #[.agg it.toArray] H R:=by
 apply w28
 unfold tp28
 rw[Qx,Qx]
 have e:=Ext.refl hG
 have o1:Yo H G (H.push (.cells (Value.agg it.toArray).cells 84)) H.size (.cells it.toArray 84 (0,0)):=Yo.fresh e _
 have e:=e.push (.cells (Value.agg it.toArray).cells 84)
 generalize H.push (.cells (Value.agg it.toArray).cells 84)=H1 at *
 have o2:=Yo.fresh e (.cells z85 85)
 have o1:=o1.push (.cells z85 85)
 have e:=e.push (.cells z85 85)
 generalize H1.push (.cells z85 85)=H2 at *
 rw[YB (n:=7) (vs:=it) (by rw[Q0 o1.get 7 (by simp[hl])];simp[<-hl]),QZ (n:=7) (c':=it.toArray) o2.get rfl (by simpa using hl) (by decide) (by simpa using hone)]
 have e:=e.set o2.out o2.new (.cells it.toArray 85 (0,0))
 have o2:=o2.set (.cells it.toArray 85 (0,0))
 rw[YB (n:=7) (vs:=it) (by rw[Q0 o2.get 7 (by simp[hl])];simp[<-hl])]
 exact hR _ e
theorem mib_ok {G:Cut} {H:Qe} (hG:G.In H) {l:List Qa9} {v:Value} (hs:SlV G 7 v (l.map ZP)) (hl:l.length<=50) {R:Kn} (hR:∀G' H' v',Ext G H G' H'->SlV G' 7 v' (l.map ZP)->R v' H'):FnS prog 27 #[v,.func (.func 28) #[] #[]] H R:=by
 have hone:∀t,∀x∈ZP t,x.oneCell'=true:=fun t x hx=>by
  simp[ZP]at hx
  first
   |(rcases hx with rfl|rfl|rfl|rfl|rfl|rfl|rfl<;>rfl)
   |(rcases hx with rfl|rfl|rfl<;>rfl)
   |(rcases hx with rfl|rfl<;>rfl)
 apply w27
 unfold s27 mib1
 refine Qes hG (et:=85) (es:=7) (n:=l.length) (fun F i items=>items=(l.take i).map ZP) (by simp) (by omega) (fun k=>by rw[hs.len,List.length_map]) ?_ ?_
 ·rintro i y G1 H1 items k hlt e c rfl hk
  have ha:=List.getElem?_eq_getElem hlt
  unfold mib1B
  refine Qab (hs.mono e.le) e.inn (i:=i) (it:=ZP l[i]) (by rw[List.getElem?_map,ha];rfl) ?_
  refine cp_ok (es:=7) (it:=ZP l[i]) rfl (by decide) rfl (hone _) ?_
  have e1:=e.push (.cells (ZP l[i]).toArray 84 (0,0))
  have c1:=c.push (.cells (ZP l[i]).toArray 84 (0,0))
  generalize H1.push (.cells (ZP l[i]).toArray 84 (0,0))=H2 at *
  refine QfI (by kernel_rfl) ?_
  refine Qhu e1.inn rfl (hone _) ?_
  intro H3 e3
  refine Qd8 (e1.trans e3) (c1.ext e3) (v:=.agg (ZP l[i]).toArray) (it:=ZP l[i]) rfl rfl (hone _) (by decide) rfl (by decide) (by rw[List.length_map,List.length_take];omega) ?_
  intro c' H' e4 c4
  exact hk c' _ H' _ e4 c4 (Qbg ha).symm
 ·rintro y G1 G2 H2 items e2 sl rfl hle hnil
  rw[List.take_length]at sl
  exact hR G2 H2 y e2 sl
theorem Qhy {G:Cut} {H:Qe} (hG:G.In H) {it:List Value} (hl:it.length=2) (hone:∀x∈it,x.oneCell'=true) {R:Kn} (hR:∀H',Ext G H G H'->R (.agg it.toArray) H'):FnS prog 30 #[.agg it.toArray] H R:=by
 apply w30
 unfold tp28
 rw[Qx,Qx]
 have e:=Ext.refl hG
 have o1:Yo H G (H.push (.cells (Value.agg it.toArray).cells 89)) H.size (.cells it.toArray 89 (0,0)):=Yo.fresh e _
 have e:=e.push (.cells (Value.agg it.toArray).cells 89)
 generalize H.push (.cells (Value.agg it.toArray).cells 89)=H1 at *
 have o2:=Yo.fresh e (.cells z90 90)
 have o1:=o1.push (.cells z90 90)
 have e:=e.push (.cells z90 90)
 generalize H1.push (.cells z90 90)=H2 at *
 rw[YB (n:=2) (vs:=it) (by rw[Q0 o1.get 2 (by simp[hl])];simp[<-hl]),QZ (n:=2) (c':=it.toArray) o2.get rfl (by simpa using hl) (by decide) (by simpa using hone)]
 have e:=e.set o2.out o2.new (.cells it.toArray 90 (0,0))
 have o2:=o2.set (.cells it.toArray 90 (0,0))
 rw[YB (n:=2) (vs:=it) (by rw[Q0 o2.get 2 (by simp[hl])];simp[<-hl])]
 exact hR _ e
theorem Qhr {G:Cut} {H:Qe} (hG:G.In H) {it:List Value} (hl:it.length=2) (hone:∀x∈it,x.oneCell'=true) {R:Kn} (hR:∀H',Ext G H G H'->R (.agg it.toArray) H'):FnS prog 37 #[.agg it.toArray] H R:=by
 apply w37
 unfold tp28
 rw[Qx,Qx]
 have e:=Ext.refl hG
 have o1:Yo H G (H.push (.cells (Value.agg it.toArray).cells 89)) H.size (.cells it.toArray 89 (0,0)):=Yo.fresh e _
 have e:=e.push (.cells (Value.agg it.toArray).cells 89)
 generalize H.push (.cells (Value.agg it.toArray).cells 89)=H1 at *
 have o2:=Yo.fresh e (.cells z90 90)
 have o1:=o1.push (.cells z90 90)
 have e:=e.push (.cells z90 90)
 generalize H1.push (.cells z90 90)=H2 at *
 rw[YB (n:=2) (vs:=it) (by rw[Q0 o1.get 2 (by simp[hl])];simp[<-hl]),QZ (n:=2) (c':=it.toArray) o2.get rfl (by simpa using hl) (by decide) (by simpa using hone)]
 have e:=e.set o2.out o2.new (.cells it.toArray 90 (0,0))
 have o2:=o2.set (.cells it.toArray 90 (0,0))
 rw[YB (n:=2) (vs:=it) (by rw[Q0 o2.get 2 (by simp[hl])];simp[<-hl])]
 exact hR _ e
theorem mic_ok {G:Cut} {H:Qe} (hG:G.In H) {l:List QbB} {v:Value} (hs:SlV G 2 v (l.map Zb)) (hl:l.length<=50) {R:Kn} (hR:∀G' H' v',Ext G H G' H'->SlV G' 2 v' (l.map Zb)->R v' H'):FnS prog 29 #[v,.func (.func 30) #[] #[]] H R:=by
 have hone:∀t,∀x∈Zb t,x.oneCell'=true:=fun t x hx=>by
  simp[Zb]at hx
  first
   |(rcases hx with rfl|rfl|rfl|rfl|rfl|rfl|rfl<;>rfl)
   |(rcases hx with rfl|rfl|rfl<;>rfl)
   |(rcases hx with rfl|rfl<;>rfl)
 apply w29
 unfold s29 mic1
 refine Qes hG (et:=90) (es:=2) (n:=l.length) (fun F i items=>items=(l.take i).map Zb) (by simp) (by omega) (fun k=>by rw[hs.len,List.length_map]) ?_ ?_
 ·rintro i y G1 H1 items k hlt e c rfl hk
  have ha:=List.getElem?_eq_getElem hlt
  unfold mic1B
  refine Qab (hs.mono e.le) e.inn (i:=i) (it:=Zb l[i]) (by rw[List.getElem?_map,ha];rfl) ?_
  refine cp_ok (es:=2) (it:=Zb l[i]) rfl (by decide) rfl (hone _) ?_
  have e1:=e.push (.cells (Zb l[i]).toArray 89 (0,0))
  have c1:=c.push (.cells (Zb l[i]).toArray 89 (0,0))
  generalize H1.push (.cells (Zb l[i]).toArray 89 (0,0))=H2 at *
  refine QfI (by kernel_rfl) ?_
  refine Qhy e1.inn rfl (hone _) ?_
  intro H3 e3
  refine Qd8 (e1.trans e3) (c1.ext e3) (v:=.agg (Zb l[i]).toArray) (it:=Zb l[i]) rfl rfl (hone _) (by decide) rfl (by decide) (by rw[List.length_map,List.length_take];omega) ?_
  intro c' H' e4 c4
  exact hk c' _ H' _ e4 c4 (Qbg ha).symm
 ·rintro y G1 G2 H2 items e2 sl rfl hle hnil
  rw[List.take_length]at sl
  exact hR G2 H2 y e2 sl
theorem mic2_ok {G:Cut} {H:Qe} (hG:G.In H) {l:List QbB} {v:Value} (hs:SlV G 2 v (l.map Zb)) (hl:l.length<=50) {R:Kn} (hR:∀G' H' v',Ext G H G' H'->SlV G' 2 v' (l.map Zb)->R v' H'):FnS prog 29 #[v,.func (.func 37) #[] #[]] H R:=by
 have hone:∀t,∀x∈Zb t,x.oneCell'=true:=fun t x hx=>by
  simp[Zb]at hx
  first
   |(rcases hx with rfl|rfl|rfl|rfl|rfl|rfl|rfl<;>rfl)
   |(rcases hx with rfl|rfl|rfl<;>rfl)
   |(rcases hx with rfl|rfl<;>rfl)
 apply w29
 unfold s29 mic1
 refine Qes hG (et:=90) (es:=2) (n:=l.length) (fun F i items=>items=(l.take i).map Zb) (by simp) (by omega) (fun k=>by rw[hs.len,List.length_map]) ?_ ?_
 ·rintro i y G1 H1 items k hlt e c rfl hk
  have ha:=List.getElem?_eq_getElem hlt
  unfold mic1B
  refine Qab (hs.mono e.le) e.inn (i:=i) (it:=Zb l[i]) (by rw[List.getElem?_map,ha];rfl) ?_
  refine cp_ok (es:=2) (it:=Zb l[i]) rfl (by decide) rfl (hone _) ?_
  have e1:=e.push (.cells (Zb l[i]).toArray 89 (0,0))
  have c1:=c.push (.cells (Zb l[i]).toArray 89 (0,0))
  generalize H1.push (.cells (Zb l[i]).toArray 89 (0,0))=H2 at *
  refine QfI (by kernel_rfl) ?_
  refine Qhr e1.inn rfl (hone _) ?_
  intro H3 e3
  refine Qd8 (e1.trans e3) (c1.ext e3) (v:=.agg (Zb l[i]).toArray) (it:=Zb l[i]) rfl rfl (hone _) (by decide) rfl (by decide) (by rw[List.length_map,List.length_take];omega) ?_
  intro c' H' e4 c4
  exact hk c' _ H' _ e4 c4 (Qbg ha).symm
 ·rintro y G1 G2 H2 items e2 sl rfl hle hnil
  rw[List.take_length]at sl
  exact hR G2 H2 y e2 sl
theorem Qho {G:Cut} {H:Qe} (hG:G.In H) {it:List Value} (hl:it.length=3) (hone:∀x∈it,x.oneCell'=true) {R:Kn} (hR:∀H',Ext G H G H'->R (.agg it.toArray) H'):FnS prog 33 #[.agg it.toArray] H R:=by
 apply w33
 unfold tp28
 rw[Qx,Qx]
 have e:=Ext.refl hG
 have o1:Yo H G (H.push (.cells (Value.agg it.toArray).cells 95)) H.size (.cells it.toArray 95 (0,0)):=Yo.fresh e _
 have e:=e.push (.cells (Value.agg it.toArray).cells 95)
 generalize H.push (.cells (Value.agg it.toArray).cells 95)=H1 at *
 have o2:=Yo.fresh e (.cells z96 96)
 have o1:=o1.push (.cells z96 96)
 have e:=e.push (.cells z96 96)
 generalize H1.push (.cells z96 96)=H2 at *
 rw[YB (n:=3) (vs:=it) (by rw[Q0 o1.get 3 (by simp[hl])];simp[<-hl]),QZ (n:=3) (c':=it.toArray) o2.get rfl (by simpa using hl) (by decide) (by simpa using hone)]
 have e:=e.set o2.out o2.new (.cells it.toArray 96 (0,0))
 have o2:=o2.set (.cells it.toArray 96 (0,0))
 rw[YB (n:=3) (vs:=it) (by rw[Q0 o2.get 3 (by simp[hl])];simp[<-hl])]
 exact hR _ e
theorem mid_ok {G:Cut} {H:Qe} (hG:G.In H) {l:List ZU} {v:Value} (hs:SlV G 3 v (l.map Zn)) (hl:l.length<=50) {R:Kn} (hR:∀G' H' v',Ext G H G' H'->SlV G' 3 v' (l.map Zn)->R v' H'):FnS prog 32 #[v,.func (.func 33) #[] #[]] H R:=by
 have hone:∀t,∀x∈Zn t,x.oneCell'=true:=fun t x hx=>by
  simp[Zn]at hx
  first
   |(rcases hx with rfl|rfl|rfl|rfl|rfl|rfl|rfl<;>rfl)
   |(rcases hx with rfl|rfl|rfl<;>rfl)
   |(rcases hx with rfl|rfl<;>rfl)
 apply w32
 unfold s32 mid1
 refine Qes hG (et:=96) (es:=3) (n:=l.length) (fun F i items=>items=(l.take i).map Zn) (by simp) (by omega) (fun k=>by rw[hs.len,List.length_map]) ?_ ?_
 ·rintro i y G1 H1 items k hlt e c rfl hk
  have ha:=List.getElem?_eq_getElem hlt
  unfold mid1B
  refine Qab (hs.mono e.le) e.inn (i:=i) (it:=Zn l[i]) (by rw[List.getElem?_map,ha];rfl) ?_
  refine cp_ok (es:=3) (it:=Zn l[i]) rfl (by decide) rfl (hone _) ?_
  have e1:=e.push (.cells (Zn l[i]).toArray 95 (0,0))
  have c1:=c.push (.cells (Zn l[i]).toArray 95 (0,0))
  generalize H1.push (.cells (Zn l[i]).toArray 95 (0,0))=H2 at *
  refine QfI (by kernel_rfl) ?_
  refine Qho e1.inn rfl (hone _) ?_
  intro H3 e3
  refine Qd8 (e1.trans e3) (c1.ext e3) (v:=.agg (Zn l[i]).toArray) (it:=Zn l[i]) rfl rfl (hone _) (by decide) rfl (by decide) (by rw[List.length_map,List.length_take];omega) ?_
  intro c' H' e4 c4
  exact hk c' _ H' _ e4 c4 (Qbg ha).symm
 ·rintro y G1 G2 H2 items e2 sl rfl hle hnil
  rw[List.take_length]at sl
  exact hR G2 H2 y e2 sl
theorem Qhp {G:Cut} {H:Qe} (hG:G.In H) {it:List Value} (hl:it.length=2) (hone:∀x∈it,x.oneCell'=true) {R:Kn} (hR:∀H',Ext G H G H'->R (.agg it.toArray) H'):FnS prog 36 #[.agg it.toArray] H R:=by
 apply w36
 unfold tp28
 rw[Qx,Qx]
 have e:=Ext.refl hG
 have o1:Yo H G (H.push (.cells (Value.agg it.toArray).cells 101)) H.size (.cells it.toArray 101 (0,0)):=Yo.fresh e _
 have e:=e.push (.cells (Value.agg it.toArray).cells 101)
 generalize H.push (.cells (Value.agg it.toArray).cells 101)=H1 at *
 have o2:=Yo.fresh e (.cells z102 102)
 have o1:=o1.push (.cells z102 102)
 have e:=e.push (.cells z102 102)
 generalize H1.push (.cells z102 102)=H2 at *
 rw[YB (n:=2) (vs:=it) (by rw[Q0 o1.get 2 (by simp[hl])];simp[<-hl]),QZ (n:=2) (c':=it.toArray) o2.get rfl (by simpa using hl) (by decide) (by simpa using hone)]
 have e:=e.set o2.out o2.new (.cells it.toArray 102 (0,0))
 have o2:=o2.set (.cells it.toArray 102 (0,0))
 rw[YB (n:=2) (vs:=it) (by rw[Q0 o2.get 2 (by simp[hl])];simp[<-hl])]
 exact hR _ e
theorem mie_ok {G:Cut} {H:Qe} (hG:G.In H) {l:List QgK} {v:Value} (hs:SlV G 2 v (l.map QcG)) (hl:l.length<=50) {R:Kn} (hR:∀G' H' v',Ext G H G' H'->SlV G' 2 v' (l.map QcG)->R v' H'):FnS prog 35 #[v,.func (.func 36) #[] #[]] H R:=by
 have hone:∀t,∀x∈QcG t,x.oneCell'=true:=fun t x hx=>by
  simp[QcG]at hx
  first
   |(rcases hx with rfl|rfl|rfl|rfl|rfl|rfl|rfl<;>rfl)
   |(rcases hx with rfl|rfl|rfl<;>rfl)
   |(rcases hx with rfl|rfl<;>rfl)
 apply w35
 unfold s35 mie1
 refine Qes hG (et:=102) (es:=2) (n:=l.length) (fun F i items=>items=(l.take i).map QcG) (by simp) (by omega) (fun k=>by rw[hs.len,List.length_map]) ?_ ?_
 ·rintro i y G1 H1 items k hlt e c rfl hk
  have ha:=List.getElem?_eq_getElem hlt
  unfold mie1B
  refine Qab (hs.mono e.le) e.inn (i:=i) (it:=QcG l[i]) (by rw[List.getElem?_map,ha];rfl) ?_
  refine cp_ok (es:=2) (it:=QcG l[i]) rfl (by decide) rfl (hone _) ?_
  have e1:=e.push (.cells (QcG l[i]).toArray 101 (0,0))
  have c1:=c.push (.cells (QcG l[i]).toArray 101 (0,0))
  generalize H1.push (.cells (QcG l[i]).toArray 101 (0,0))=H2 at *
  refine QfI (by kernel_rfl) ?_
  refine Qhp e1.inn rfl (hone _) ?_
  intro H3 e3
  refine Qd8 (e1.trans e3) (c1.ext e3) (v:=.agg (QcG l[i]).toArray) (it:=QcG l[i]) rfl rfl (hone _) (by decide) rfl (by decide) (by rw[List.length_map,List.length_take];omega) ?_
  intro c' H' e4 c4
  exact hk c' _ H' _ e4 c4 (Qbg ha).symm
 ·rintro y G1 G2 H2 items e2 sl rfl hle hnil
  rw[List.take_length]at sl
  exact hR G2 H2 y e2 sl
theorem mn_string {F:Cut} {H:Qe} {v:Value} {items:List (List Value)} (h:SlV F 1 v items) {R:Kn} (hR:∀v',SlV F 1 v' items->R v' H):FnS prog 31 #[v] H R:=by
 apply w31
 unfold tp65
 rw[h.len,Yi]
 by_cases h0:items=[]
 ·subst h0
  show IfK (.bool true) _ _
  rw[Qbs]
  exact hR _ (SlV.nil _ _)
 ·have hl:¬((items.length:Nat):Int)=0:=fun hc=>h0 (List.length_eq_zero_iff.1 (by omega))
  rw[Yb hl]
  exact hR v h
theorem mn_bool {F:Cut} {H:Qe} {v:Value} {items:List (List Value)} (h:SlV F 1 v items) {R:Kn} (hR:∀v',SlV F 1 v' items->R v' H):FnS prog 34 #[v] H R:=by
 apply w34
 unfold tp65
 rw[h.len,Yi]
 by_cases h0:items=[]
 ·subst h0
  show IfK (.bool true) _ _
  rw[Qbs]
  exact hR _ (SlV.nil _ _)
 ·have hl:¬((items.length:Nat):Int)=0:=fun hc=>h0 (List.length_eq_zero_iff.1 (by omega))
  rw[Yb hl]
  exact hR v h
theorem mn_int64 {F:Cut} {H:Qe} {v:Value} {items:List (List Value)} (h:SlV F 1 v items) {R:Kn} (hR:∀v',SlV F 1 v' items->R v' H):FnS prog 38 #[v] H R:=by
 apply w38
 unfold tp65
 rw[h.len,Yi]
 by_cases h0:items=[]
 ·subst h0
  show IfK (.bool true) _ _
  rw[Qbs]
  exact hR _ (SlV.nil _ _)
 ·have hl:¬((items.length:Nat):Int)=0:=fun hc=>h0 (List.length_eq_zero_iff.1 (by omega))
  rw[Yb hl]
  exact hR v h
theorem Qf4 {F:Cut} {H:Qe} {v:Value} {items:List (List Value)} (h:SlV F 1 v items) {R:Kn} (hR:∀v',SlV F 1 v' items->R v' H):FnS prog 39 #[v] H R:=by
 apply w39
 unfold tp65
 rw[h.len,Yi]
 by_cases h0:items=[]
 ·subst h0
  show IfK (.bool true) _ _
  rw[Qbs]
  exact hR _ (SlV.nil _ _)
 ·have hl:¬((items.length:Nat):Int)=0:=fun hc=>h0 (List.length_eq_zero_iff.1 (by omega))
  rw[Yb hl]
  exact hR v h
def ToOk (g:GM):Prop:=∀(G:Cut) (H:Qe) (cells:List Value) (R:Kn),G.In H->QcX G g cells->LenM g->(∀G' H' cells',Ext G H G' H'->QcX G' g cells'->R (.agg cells'.toArray) H')->FnS prog 9 #[.agg cells.toArray] H R
theorem mia_ok {G:Cut} {H:Qe} (hG:G.In H) {gs:List GM} {v:Value} (hs:QfQ G gs v) (hK:∀g∈gs,ToOk g) (hL:LenL gs) (hl:gs.length<=50) {R:Kn} (hR:∀G' H' v',Ext G H G' H'->QfQ G' gs v'->R v' H'):FnS prog 26 #[v,.func (.func 9) #[] #[]] H R:=by
 obtain ⟨its,hs,hvs⟩:=hs
 have hil:=Zz.len hvs
 apply w26
 unfold s26 mia1
 refine Qes hG (et:=52) (es:=51) (n:=gs.length) (fun F i items=>Zz F (gs.take i) items) (by rw[List.take_zero,Zz];trivial) (by omega) (fun k=>by rw[hs.len,hil]) ?_ ?_
 ·rintro i y G1 H1 items k hlt e c hI hk
  have ha:=List.getElem?_eq_getElem hlt
  obtain ⟨x,hx,hvx⟩:=Zz.get hvs ha
  have hvx:=hvx.mono e.le
  have hxl:=hvx.len
  have hxo:=QcX.one hvx
  have hilen:=Zz.len hI
  rw[List.length_take]at hilen
  unfold mia1B
  refine Qab (hs.mono e.le) e.inn (i:=i) hx ?_
  refine cp_ok hxl (by decide) rfl hxo ?_
  have e1:=e.push (.cells x.toArray 38 (0,0))
  have c1:=c.push (.cells x.toArray 38 (0,0))
  generalize H1.push (.cells x.toArray 38 (0,0))=H2 at *
  refine QfI (by kernel_rfl) ?_
  refine hK _ (List.mem_of_getElem? ha) G1 H2 x _ e1.inn hvx (LenL.get hL _ (List.mem_of_getElem? ha)) ?_
  intro G3 H3 x' e3 hv3
  refine Qd8 (e1.trans e3) (c1.ext e3) (v:=.agg x'.toArray) (it:=x') rfl hv3.len (QcX.one hv3) (by decide) rfl (by decide) (by omega) ?_
  intro c' H' e4 c4
  refine hk c' _ H' _ e4 c4 ?_
  rw[QeT ha]
  exact Zz.snoc (Zz.mono e3.le hI) hv3
 ·rintro y G1 G2 H2 items e2 sl hI hle hnil
  rw[List.take_length]at hI
  exact hR G2 H2 y e2 ⟨items,sl,Zz.mono hle hI⟩
theorem To_choice {G:Cut} {H:Qe} (hG:G.In H) {ty color:UInt8} {gs:List GM} {s:Value} (hs:QfQ G gs s) (hK:∀g∈gs,ToOk g) (hL:LenL gs) (hl:gs.length<=50) {R:Kn} (hR:∀G' H' a n c,Ext G H G' H'->QfQ G' gs (.slice a n c)->R (.agg #[u8n ty,.slice a n c,u8n color]) H'):FnS prog 25 #[.agg #[u8n ty,s,u8n color]] H R:=by
 apply w25
 unfold s25
 rw[Qx,Qx]
 have e:=Ext.refl hG
 have o1:Yo H G (H.push (.cells (Value.agg #[u8n ty,s,u8n color]).cells 26)) H.size (.cells #[u8n ty,s,u8n color] 26 (0,0)):=Yo.fresh e _
 have e:=e.push (.cells (Value.agg #[u8n ty,s,u8n color]).cells 26)
 generalize H.push (.cells (Value.agg #[u8n ty,s,u8n color]).cells 26)=H1 at *
 have hne:=o1.ne
 have o2:=Yo.fresh e (.cells z47 47)
 have o1:=o1.push (.cells z47 47)
 have e:=e.push (.cells z47 47)
 generalize H1.push (.cells z47 47)=H2 at *
 rw[Qm,Ql ((Qk o1.get).trans (show (#[u8n ty,s,u8n color]:Array Value)[0]?=some (u8n ty) from rfl)),Qm,Ql ((Qk o1.get).trans (show (#[u8n ty,s,u8n color]:Array Value)[1]?=some s from rfl)),Qm,Ql ((Qk o1.get).trans (show (#[u8n ty,s,u8n color]:Array Value)[2]?=some (u8n color) from rfl))]
 refine mia_ok e.inn hs hK hL hl ?_
 intro G3 H3 v' e3 hv'
 refine Qq e3.keep.ext ?_
 have e:=e.trans e3
 have o2:=o2.ext e3
 have hv2:=hv'
 obtain ⟨its,hsl,_⟩:=hv'
 obtain ⟨a,n,c,rfl⟩:∃a n c,v'= .slice a n c:=by
  rcases hsl.2 with ⟨a,c,h,_⟩|⟨b,o,c,_,_,_,h,_⟩
  ·exact ⟨_,_,_,h⟩
  ·exact ⟨_,_,_,h⟩
 have hf:YN z47.toList [(0,1,u8n ty),(1,1,.slice a n c),(2,1,u8n color)]=some [u8n ty,.slice a n c,u8n color]:=rfl
 unfold Qu
 simp only[hf]
 rw[QZ (n:=3) (c':=[u8n ty,.slice a n c,u8n color].toArray) o2.get rfl rfl (by decide) (by intro v hv;simp at hv;rcases hv with rfl|rfl|rfl<;>rfl)]
 have e:=e.set o2.out o2.new (.cells [u8n ty,.slice a n c,u8n color].toArray 47 (0,0))
 have o2:=o2.set (.cells [u8n ty,.slice a n c,u8n color].toArray 47 (0,0))
 rw[YB (n:=3) (vs:=[u8n ty,.slice a n c,u8n color]) (by rw[Q0 o2.get 3 (Nat.le_refl 3)];rfl)]
 exact hR _ _ a n c e hv2
theorem QfQ.sl {F:Cut} {gs:List GM} {v:Value} (h:QfQ F gs v):∃a n c,v= .slice a n c:=by
 obtain ⟨its,hsl,_⟩:=h
 rcases hsl.2 with ⟨a,c,h,_⟩|⟨b,o,c,_,_,_,h,_⟩
 ·exact ⟨_,_,_,h⟩
 ·exact ⟨_,_,_,h⟩
theorem SlV.sl {F:Cut} {es:Nat} {items:List (List Value)} {v:Value} (h:SlV F es v items):∃a n c,v= .slice a n c:=by
 rcases h.2 with ⟨a,c,h,_⟩|⟨b,o,c,_,_,_,h,_⟩
 ·exact ⟨_,_,_,h⟩
 ·exact ⟨_,_,_,h⟩
theorem slV {F:Cut} {es:Nat} {items:List (List Value)} {Q:Value->Prop} (h:∀a n c,SlV F es (.slice a n c) items->Q (.slice a n c)):∀v,SlV F es v items->Q v:=fun v w=>by
 obtain ⟨a,n,c,rfl⟩:=SlV.sl w
 exact h a n c w
theorem slE {G:Cut} {H:Qe} {P:Cut->Value->Prop} {Q:Kn} (hsl:∀F v,P F v->∃a n c,v= .slice a n c) (h:∀G' H' a n c,Ext G H G' H'->P G' (.slice a n c)->Q (.slice a n c) H'):∀G' H' v,Ext G H G' H'->P G' v->Q v H':=fun G' H' v e w=>by
 obtain ⟨a,n,c,rfl⟩:=hsl G' v w
 exact h G' H' a n c e w
theorem fill_to (d:QaM) (apos:Option Addr) (npos cpos:Nat) (atest:Option Addr) (ntest ctest:Nat) (atest4:Option Addr) (ntest4 ctest4:Nat) (astrings:Option Addr) (nstrings cstrings:Nat) (atables:Option Addr) (ntables ctables:Nat) (aenemy:Option Addr) (nenemy cenemy:Nat) (aempty:Option Addr) (nempty cempty:Nat) (abools:Option Addr) (nbools cbools:Nat) (astrings2:Option Addr) (nstrings2 cstrings2:Nat) (aabil:Option Addr) (nabil cabil:Nat) (atest5:Option Addr) (ntest5 ctest5:Nat) (alongs:Option Addr) (nlongs clongs:Nat) (adoubles:Option Addr) (ndoubles cdoubles:Nat) (arefs:Option Addr) (nrefs crefs:Nat) (aweak:Option Addr) (nweak cweak:Nat) (astrong:Option Addr) (nstrong cstrong:Nat) (acoOwnings:Option Addr) (ncoOwnings ccoOwnings:Nat) (anonOwnings:Option Addr) (nnonOwnings cnonOwnings:Nat) (auniq:Option Addr) (nuniq cuniq:Nat) (aamb:Option Addr) (namb camb:Nat):YN z52.toList [(0,1,.slice apos npos cpos),(1,1,Qdn d.mana),(2,1,Qdn d.hp),(3,1,QW d.name),(4,1,QW d.inventory),(5,1,u8n d.color),(6,3,.agg #[u8n d.testTy,.slice atest ntest ctest,u8n d.testColor]),(9,1,.slice atest4 ntest4 ctest4),(10,1,.slice astrings nstrings cstrings),(11,1,.slice atables ntables ctables),(12,1,.slice aenemy nenemy cenemy),(13,1,QW d.nested),(14,1,.slice aempty nempty cempty),(15,1,.bool d.bool),(16,1,Qji d.s32),(17,1,Qaw d.u32),(18,1,QfW d.s64),(19,1,QO d.u64),(20,1,Qji d.s32a),(21,1,Qaw d.u32a),(22,1,QfW d.s64a),(23,1,QO d.u64a),(24,1,.slice abools nbools cbools),(25,1,Qaw d.f),(26,1,Qaw d.f2),(27,1,Qaw d.f3),(28,1,.slice astrings2 nstrings2 cstrings2),(29,1,.slice aabil nabil cabil),(30,1,QW d.flex),(31,1,.slice atest5 ntest5 ctest5),(32,1,.slice alongs nlongs clongs),(33,1,.slice adoubles ndoubles cdoubles),(34,1,.bool d.parent),(35,1,.slice arefs nrefs crefs),(36,1,QO d.singleWeak),(37,1,.slice aweak nweak cweak),(38,1,.slice astrong nstrong cstrong),(39,1,QO d.coOwning),(40,1,.slice acoOwnings ncoOwnings ccoOwnings),(41,1,QO d.nonOwning),(42,1,.slice anonOwnings nnonOwnings cnonOwnings),(43,3,.agg #[u8n d.uniqTy,.slice auniq nuniq cuniq,u8n d.uniqColor]),(46,3,.agg #[u8n d.ambTy,.slice aamb namb camb,u8n d.ambColor]),(49,1,QW d.enums),(50,1,i8V d.signedEnum)]=some (YK d ⟨.slice apos npos cpos,.slice atest ntest ctest,.slice atest4 ntest4 ctest4,.slice astrings nstrings cstrings,.slice atables ntables ctables,.slice aenemy nenemy cenemy,.slice aempty nempty cempty,.slice abools nbools cbools,.slice astrings2 nstrings2 cstrings2,.slice aabil nabil cabil,.slice atest5 ntest5 ctest5,.slice alongs nlongs clongs,.slice adoubles ndoubles cdoubles,.slice arefs nrefs crefs,.slice aweak nweak cweak,.slice astrong nstrong cstrong,.slice acoOwnings ncoOwnings ccoOwnings,.slice anonOwnings nnonOwnings cnonOwnings,.slice auniq nuniq cuniq,.slice aamb namb camb⟩):=by kernel_rfl
theorem ldn_ok {H0:Qe} {G:Cut} {H:Qe} {b:Nat} {cells:List Value} {t:TypeId} {fr:Nat×Nat} (o:Yo H0 G H b (.cells cells.toArray t fr)) {i n:Nat} {vs:List Value} (hi:(cells.drop i).take n=vs) (hl:i+n<=cells.length) {k:Value->Prop} (hk:k (.agg vs.toArray)):Qf (ptr b) i fun a=>LdN H n a k:=by
 rw[Qm,YB (n:=n) (vs:=vs) (by rw[Q0 o.get n (by simpa using hl),Nat.add_zero];simpa using hi)]
 exact hk
set_option maxHeartbeats 1000000 in
theorem ToStep {d:QaM} {pos:List Qa9} {empty:List ZU} {tables enemy test uniq amb:List GM} (hT:∀k∈tables,ToOk k) (hE:∀k∈enemy,ToOk k) (hU:∀k∈test,ToOk k) (hQ:∀k∈uniq,ToOk k) (hA:∀k∈amb,ToOk k):ToOk (.mk d pos empty tables enemy test uniq amb):=by
 intro G H cells R hG hv hlm hR
 rw[QcX]at hv
 obtain ⟨c,rfl,g,wT,wE,wU,wQ,wA⟩:=hv
 rw[LenM]at hlm
 obtain ⟨⟨l0,l1,l2,l3,l4,l5,l6,l7,l8,l9⟩,_,mT,mE,mU,mQ,mA⟩:=hlm
 apply w9
 unfold s9
 rw[Qx,Qx]
 have e:=Ext.refl hG
 have o1:Yo H G (H.push (.cells (Value.agg (YK d c).toArray).cells 38)) H.size (.cells (YK d c).toArray 38 (0,0)):=Yo.fresh e _
 have e:=e.push (.cells (Value.agg (YK d c).toArray).cells 38)
 generalize H.push (.cells (Value.agg (YK d c).toArray).cells 38)=H1 at *
 have o2:=Yo.fresh e (.cells z52 52)
 have o1:=o1.push (.cells z52 52)
 have e:=e.push (.cells z52 52)
 have l0':=Cut.le_refl G
 generalize H1.push (.cells z52 52)=H2 at *
 refine QD o1 (i:=0) (v:=c.pos) rfl ?_
 refine QD o1 (i:=1) (v:=Qdn d.mana) rfl ?_
 refine QD o1 (i:=2) (v:=Qdn d.hp) rfl ?_
 refine QD o1 (i:=3) (v:=QW d.name) rfl ?_
 refine QD o1 (i:=4) (v:=QW d.inventory) rfl ?_
 refine QD o1 (i:=5) (v:=u8n d.color) rfl ?_
 refine ldn_ok o1 (i:=6) (n:=3) (vs:=[u8n d.testTy,c.test,u8n d.testColor]) rfl (by rw[Qac];decide) ?_
 refine QD o1 (i:=9) (v:=c.test4) rfl ?_
 refine QD o1 (i:=10) (v:=c.strings) rfl ?_
 refine QD o1 (i:=11) (v:=c.tables) rfl ?_
 refine QD o1 (i:=12) (v:=c.enemy) rfl ?_
 refine QD o1 (i:=13) (v:=QW d.nested) rfl ?_
 refine QD o1 (i:=14) (v:=c.empty) rfl ?_
 refine QD o1 (i:=15) (v:=.bool d.bool) rfl ?_
 refine QD o1 (i:=16) (v:=Qji d.s32) rfl ?_
 refine QD o1 (i:=17) (v:=Qaw d.u32) rfl ?_
 refine QD o1 (i:=18) (v:=QfW d.s64) rfl ?_
 refine QD o1 (i:=19) (v:=QO d.u64) rfl ?_
 refine QD o1 (i:=20) (v:=Qji d.s32a) rfl ?_
 refine QD o1 (i:=21) (v:=Qaw d.u32a) rfl ?_
 refine QD o1 (i:=22) (v:=QfW d.s64a) rfl ?_
 refine QD o1 (i:=23) (v:=QO d.u64a) rfl ?_
 refine QD o1 (i:=24) (v:=c.bools) rfl ?_
 refine QD o1 (i:=25) (v:=Qaw d.f) rfl ?_
 refine QD o1 (i:=26) (v:=Qaw d.f2) rfl ?_
 refine QD o1 (i:=27) (v:=Qaw d.f3) rfl ?_
 refine QD o1 (i:=28) (v:=c.strings2) rfl ?_
 refine QD o1 (i:=29) (v:=c.abil) rfl ?_
 refine QD o1 (i:=30) (v:=QW d.flex) rfl ?_
 refine QD o1 (i:=31) (v:=c.test5) rfl ?_
 refine QD o1 (i:=32) (v:=c.longs) rfl ?_
 refine QD o1 (i:=33) (v:=c.doubles) rfl ?_
 refine QD o1 (i:=34) (v:=.bool d.parent) rfl ?_
 refine QD o1 (i:=35) (v:=c.refs) rfl ?_
 refine QD o1 (i:=36) (v:=QO d.singleWeak) rfl ?_
 refine QD o1 (i:=37) (v:=c.weak) rfl ?_
 refine QD o1 (i:=38) (v:=c.strong) rfl ?_
 refine QD o1 (i:=39) (v:=QO d.coOwning) rfl ?_
 refine QD o1 (i:=40) (v:=c.coOwnings) rfl ?_
 refine QD o1 (i:=41) (v:=QO d.nonOwning) rfl ?_
 refine QD o1 (i:=42) (v:=c.nonOwnings) rfl ?_
 refine ldn_ok o1 (i:=43) (n:=3) (vs:=[u8n d.uniqTy,c.uniq,u8n d.uniqColor]) rfl (by rw[Qac];decide) ?_
 refine ldn_ok o1 (i:=46) (n:=3) (vs:=[u8n d.ambTy,c.amb,u8n d.ambColor]) rfl (by rw[Qac];decide) ?_
 refine QD o1 (i:=49) (v:=QW d.enums) rfl ?_
 refine QD o1 (i:=50) (v:=i8V d.signedEnum) rfl ?_
 refine mib_ok e.inn (g.pos.mono e.le) l0 (slE (P:=fun F v=>SlV F 7 v (pos.map ZP)) (fun _ _ h=>SlV.sl h) ?_)
 intro Gpos Hpos apos npos cpos e2 wpos
 refine Qq e2.keep.ext ?_
 have e:=e.trans e2
 have o2:=o2.ext e2
 have lepos:=e2.le
 refine QfI (by kernel_rfl) ?_
 refine To_choice e.inn (QfQ.mono e.le wU) hU mU l7 ?_
 intro Gtest Htest atest ntest ctest e2 wtest
 refine Qq e2.keep.ext ?_
 have e:=e.trans e2
 have o2:=o2.ext e2
 have letest:=e2.le
 refine mic_ok e.inn (g.test4.mono e.le) l2 (slE (P:=fun F v=>SlV F 2 v (d.test4.map Zb)) (fun _ _ h=>SlV.sl h) ?_)
 intro Gtest4 Htest4 atest4 ntest4 ctest4 e2 wtest4
 refine Qq e2.keep.ext ?_
 have e:=e.trans e2
 have o2:=o2.ext e2
 have letest4:=e2.le
 refine mn_string (g.strings.mono e.le) (slV ?_)
 intro astrings nstrings cstrings wstrings
 rw[Qb]
 refine mia_ok e.inn (QfQ.mono e.le wT) hT mT l5 (slE (P:=fun F v=>QfQ F tables v) (fun _ _ h=>QfQ.sl h) ?_)
 intro Gtables Htables atables ntables ctables e2 wtables
 refine Qq e2.keep.ext ?_
 have e:=e.trans e2
 have o2:=o2.ext e2
 have letables:=e2.le
 refine mia_ok e.inn (QfQ.mono e.le wE) hE mE l6 (slE (P:=fun F v=>QfQ F enemy v) (fun _ _ h=>QfQ.sl h) ?_)
 intro Genemy Henemy aenemy nenemy cenemy e2 wenemy
 refine Qq e2.keep.ext ?_
 have e:=e.trans e2
 have o2:=o2.ext e2
 have leenemy:=e2.le
 refine mid_ok e.inn (g.empty.mono e.le) l1 (slE (P:=fun F v=>SlV F 3 v (empty.map Zn)) (fun _ _ h=>SlV.sl h) ?_)
 intro Gempty Hempty aempty nempty cempty e2 wempty
 refine Qq e2.keep.ext ?_
 have e:=e.trans e2
 have o2:=o2.ext e2
 have leempty:=e2.le
 refine mn_bool (g.bools.mono e.le) (slV ?_)
 intro abools nbools cbools wbools
 rw[Qb]
 refine mn_string (g.strings2.mono e.le) (slV ?_)
 intro astrings2 nstrings2 cstrings2 wstrings2
 rw[Qb]
 refine mie_ok e.inn (g.abil.mono e.le) l3 (slE (P:=fun F v=>SlV F 2 v (d.abilities.map QcG)) (fun _ _ h=>SlV.sl h) ?_)
 intro Gabil Habil aabil nabil cabil e2 wabil
 refine Qq e2.keep.ext ?_
 have e:=e.trans e2
 have o2:=o2.ext e2
 have leabil:=e2.le
 refine mic2_ok e.inn (g.test5.mono e.le) l4 (slE (P:=fun F v=>SlV F 2 v (d.test5.map Zb)) (fun _ _ h=>SlV.sl h) ?_)
 intro Gtest5 Htest5 atest5 ntest5 ctest5 e2 wtest5
 refine Qq e2.keep.ext ?_
 have e:=e.trans e2
 have o2:=o2.ext e2
 have letest5:=e2.le
 refine mn_int64 (g.longs.mono e.le) (slV ?_)
 intro alongs nlongs clongs wlongs
 rw[Qb]
 refine Qf4 (g.doubles.mono e.le) (slV ?_)
 intro adoubles ndoubles cdoubles wdoubles
 rw[Qb]
 refine Qf4 (g.refs.mono e.le) (slV ?_)
 intro arefs nrefs crefs wrefs
 rw[Qb]
 refine Qf4 (g.weak.mono e.le) (slV ?_)
 intro aweak nweak cweak wweak
 rw[Qb]
 refine Qf4 (g.strong.mono e.le) (slV ?_)
 intro astrong nstrong cstrong wstrong
 rw[Qb]
 refine Qf4 (g.coOwnings.mono e.le) (slV ?_)
 intro acoOwnings ncoOwnings ccoOwnings wcoOwnings
 rw[Qb]
 refine Qf4 (g.nonOwnings.mono e.le) (slV ?_)
 intro anonOwnings nnonOwnings cnonOwnings wnonOwnings
 rw[Qb]
 refine QfI (by kernel_rfl) ?_
 refine To_choice e.inn (QfQ.mono e.le wQ) hQ mQ l8 ?_
 intro Guniq Huniq auniq nuniq cuniq e2 wuniq
 refine Qq e2.keep.ext ?_
 have e:=e.trans e2
 have o2:=o2.ext e2
 have leuniq:=e2.le
 refine QfI (by kernel_rfl) ?_
 refine To_choice e.inn (QfQ.mono e.le wA) hA mA l9 ?_
 intro Gamb Hamb aamb namb camb e2 wamb
 refine Qq e2.keep.ext ?_
 have e:=e.trans e2
 have o2:=o2.ext e2
 have leamb:=e2.le
 have hf:=fill_to d apos npos cpos atest ntest ctest atest4 ntest4 ctest4 astrings nstrings cstrings atables ntables ctables aenemy nenemy cenemy aempty nempty cempty abools nbools cbools astrings2 nstrings2 cstrings2 aabil nabil cabil atest5 ntest5 ctest5 alongs nlongs clongs adoubles ndoubles cdoubles arefs nrefs crefs aweak nweak cweak astrong nstrong cstrong acoOwnings ncoOwnings ccoOwnings anonOwnings nnonOwnings cnonOwnings auniq nuniq cuniq aamb namb camb
 unfold Qu
 simp only[hf]
 have Lamb:=Cut.le_refl Gamb
 have Luniq:Guniq.le Gamb:=Cut.le_trans leamb Lamb
 have Ltest5:Gtest5.le Gamb:=Cut.le_trans leuniq Luniq
 have Labil:Gabil.le Gamb:=Cut.le_trans letest5 Ltest5
 have Lempty:Gempty.le Gamb:=Cut.le_trans leabil Labil
 have Lenemy:Genemy.le Gamb:=Cut.le_trans leempty Lempty
 have Ltables:Gtables.le Gamb:=Cut.le_trans leenemy Lenemy
 have Ltest4:Gtest4.le Gamb:=Cut.le_trans letables Ltables
 have Ltest:Gtest.le Gamb:=Cut.le_trans letest4 Ltest4
 have Lpos:Gpos.le Gamb:=Cut.le_trans letest Ltest
 have L0:G.le Gamb:=Cut.le_trans lepos Lpos
 have hval:QcX Gamb (.mk d pos empty tables enemy test uniq amb) (YK d ⟨.slice apos npos cpos,.slice atest ntest ctest,.slice atest4 ntest4 ctest4,.slice astrings nstrings cstrings,.slice atables ntables ctables,.slice aenemy nenemy cenemy,.slice aempty nempty cempty,.slice abools nbools cbools,.slice astrings2 nstrings2 cstrings2,.slice aabil nabil cabil,.slice atest5 ntest5 ctest5,.slice alongs nlongs clongs,.slice adoubles ndoubles cdoubles,.slice arefs nrefs crefs,.slice aweak nweak cweak,.slice astrong nstrong cstrong,.slice acoOwnings ncoOwnings ccoOwnings,.slice anonOwnings nnonOwnings cnonOwnings,.slice auniq nuniq cuniq,.slice aamb namb camb⟩):=by
  rw[QcX]
  exact ⟨_,rfl,⟨(wpos.mono Lpos),(wtest4.mono Ltest4),(wstrings.mono Ltest4),(wempty.mono Lempty),(wbools.mono Lempty),(wstrings2.mono Lempty),(wabil.mono Labil),(wtest5.mono Ltest5),(wlongs.mono Ltest5),(wdoubles.mono Ltest5),(wrefs.mono Ltest5),(wweak.mono Ltest5),(wstrong.mono Ltest5),(wcoOwnings.mono Ltest5),(wnonOwnings.mono Ltest5)⟩,(QfQ.mono Ltables wtables),(QfQ.mono Lenemy wenemy),(QfQ.mono Ltest wtest),(QfQ.mono Luniq wuniq),(QfQ.mono Lamb wamb)⟩
 rw[QZ (n:=51) (c':=(YK d ⟨.slice apos npos cpos,.slice atest ntest ctest,.slice atest4 ntest4 ctest4,.slice astrings nstrings cstrings,.slice atables ntables ctables,.slice aenemy nenemy cenemy,.slice aempty nempty cempty,.slice abools nbools cbools,.slice astrings2 nstrings2 cstrings2,.slice aabil nabil cabil,.slice atest5 ntest5 ctest5,.slice alongs nlongs clongs,.slice adoubles ndoubles cdoubles,.slice arefs nrefs crefs,.slice aweak nweak cweak,.slice astrong nstrong cstrong,.slice acoOwnings ncoOwnings ccoOwnings,.slice anonOwnings nnonOwnings cnonOwnings,.slice auniq nuniq cuniq,.slice aamb namb camb⟩).toArray) o2.get rfl rfl (by decide) (by simpa using QcX.one hval)]
 have e:=e.set o2.out o2.new (.cells (YK d ⟨.slice apos npos cpos,.slice atest ntest ctest,.slice atest4 ntest4 ctest4,.slice astrings nstrings cstrings,.slice atables ntables ctables,.slice aenemy nenemy cenemy,.slice aempty nempty cempty,.slice abools nbools cbools,.slice astrings2 nstrings2 cstrings2,.slice aabil nabil cabil,.slice atest5 ntest5 ctest5,.slice alongs nlongs clongs,.slice adoubles ndoubles cdoubles,.slice arefs nrefs crefs,.slice aweak nweak cweak,.slice astrong nstrong cstrong,.slice acoOwnings ncoOwnings ccoOwnings,.slice anonOwnings nnonOwnings cnonOwnings,.slice auniq nuniq cuniq,.slice aamb namb camb⟩).toArray 52 (0,0))
 have o2:=o2.set (.cells (YK d ⟨.slice apos npos cpos,.slice atest ntest ctest,.slice atest4 ntest4 ctest4,.slice astrings nstrings cstrings,.slice atables ntables ctables,.slice aenemy nenemy cenemy,.slice aempty nempty cempty,.slice abools nbools cbools,.slice astrings2 nstrings2 cstrings2,.slice aabil nabil cabil,.slice atest5 ntest5 ctest5,.slice alongs nlongs clongs,.slice adoubles ndoubles cdoubles,.slice arefs nrefs crefs,.slice aweak nweak cweak,.slice astrong nstrong cstrong,.slice acoOwnings ncoOwnings ccoOwnings,.slice anonOwnings nnonOwnings cnonOwnings,.slice auniq nuniq cuniq,.slice aamb namb camb⟩).toArray 52 (0,0))
 rw[YB (n:=51) (vs:=YK d ⟨.slice apos npos cpos,.slice atest ntest ctest,.slice atest4 ntest4 ctest4,.slice astrings nstrings cstrings,.slice atables ntables ctables,.slice aenemy nenemy cenemy,.slice aempty nempty cempty,.slice abools nbools cbools,.slice astrings2 nstrings2 cstrings2,.slice aabil nabil cabil,.slice atest5 ntest5 ctest5,.slice alongs nlongs clongs,.slice adoubles ndoubles cdoubles,.slice arefs nrefs crefs,.slice aweak nweak cweak,.slice astrong nstrong cstrong,.slice acoOwnings ncoOwnings ccoOwnings,.slice anonOwnings nnonOwnings cnonOwnings,.slice auniq nuniq cuniq,.slice aamb namb camb⟩) (by rw[Q0 o2.get 51 (Nat.le_refl 51)];rfl)]
 exact hR _ _ _ e hval
mutual
theorem To_all:∀g:GM,ToOk g
 |.mk d pos empty tables enemy test uniq amb=>ToStep (QiE tables) (QiE enemy) (QiE test) (QiE uniq) (QiE amb)
theorem QiE:∀gs:List GM,∀k∈gs,ToOk k
 |[],k,h=>by simp at h
 |g::gs,k,h=>by
  rcases List.mem_cons.1 h with h|h
  ·rw[h];exact To_all g
  ·exact QiE gs k h
end
end Go.Proofs
