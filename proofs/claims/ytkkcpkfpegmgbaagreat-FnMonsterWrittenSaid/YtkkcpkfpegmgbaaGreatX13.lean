/- WHAT IS PROVED: the given statement of FnMonsterWritten, whatever the input: this is part 13 of 14. No conditions. -/
import Derived.Test.YtkkcpkfpegmgbaaGreatX12
set_option linter.all false
namespace Go.Proofs
open Go Go.Vc
open Tryz (prog)
def QiL:List UInt8:=[48,49,50,51,52,53,54,55,48,49,50,51,52,53,54,55,48,49,50,51,52,53,54,55,48,49,50,51,52,53,54,55]
def posL:List ZO->SL
 |[]=>.mk false (QaS 17 8 0 QiL) 0
 |v::_=>.mk true (QaS 17 8 0 (Qj8 v)) 0
def toU (i:Int):UInt64:=UInt64.ofNat (IntKind.u64.wrap i).toNat
theorem wrap_u64_range (i:Int):0<=IntKind.u64.wrap i/\IntKind.u64.wrap i<18446744073709551616:=by
 simp[IntKind.wrap,IntKind.bits,IntKind.signed]
 omega
theorem Qhm (i:Int):((toU i).toNat:Int)=IntKind.u64.wrap i:=by
 have:=wrap_u64_range i
 unfold toU
 rw[UInt64.toNat_ofNat_of_lt' (by show _<2^64;omega)]
 omega
theorem QaC {κ:IntKind} {i:Int} {k:Value->Prop}:QK .u64 (.int κ i) k=k (Ya (toU i)):=by
 rw[QH,<-Qhm]
theorem Qb0 {n:Nat} (h:n<18446744073709551616):(toU (n:Int)).toNat=n:=by
 have h1:=Qhm (n:Int)
 rw[QfC (by omega) (by omega)]at h1
 omega
def posB (x3 x22 x24:Value) (h5:Qe) (kp:Qe->Prop):Prop:=
 Y1 7 x22 x24 fun x26=>
 LdN h5 7 x26 fun x27=>
 Y5 h5 (.cells z76 76) fun x5 h6=>
 StK h6 7 x5 x27 fun h7=>
 Qg x3 0 fun x28=>
 StK h7 1 x28 (.bool true) fun h8=>
 Qg x5 0 fun x29=>
 LdK h8 x29 fun x30=>
 QK .u64 x30 fun x31=>
 Qg x5 1 fun x33=>
 LdK h8 x33 fun x34=>
 QK .u64 x34 fun x35=>
 Qg x5 2 fun x38=>
 LdK h8 x38 fun x39=>
 QK .u64 x39 fun x40=>
 Qg x5 3 fun x44=>
 LdK h8 x44 fun x45=>
 Qg x5 4 fun x48=>
 LdK h8 x48 fun x49=>
 QK .u64 x49 fun x50=>
 Qg x5 5 fun x54=>
 LdK h8 x54 fun x55=>
 QK .u16 x55 fun x56=>
 QK .u64 x56 fun x57=>
 Qg x5 6 fun x60=>
 LdK h8 x60 fun x61=>
 QK .u8 x61 fun x62=>
 QK .u64 x62 fun x63=>
 Qa prog 21 #[x31,(.int .i64 4)] h8 fun x32 h9=>
 Qi h8 h9<|
 Qa prog 21 #[x35,(.int .i64 4)] h9 fun x36 h10=>
 Qi h9 h10<|
 Qk prog .add 9 x32 x36 fun x37=>
 Qa prog 21 #[x40,(.int .i64 4)] h10 fun x41 h11=>
 Qi h10 h11<|
 Qk prog .add 9 x37 x41 fun x42=>
 Qk prog .add 9 x42 (.string ⟨#[0,0,0,0]⟩) fun x43=>
 Qa prog 21 #[x45,(.int .i64 8)] h11 fun x46 h12=>
 Qi h11 h12<|
 Qk prog .add 9 x43 x46 fun x47=>
 Qa prog 21 #[x50,(.int .i64 1)] h12 fun x51 h13=>
 Qi h12 h13<|
 Qk prog .add 9 x47 x51 fun x52=>
 Qk prog .add 9 x52 (.string ⟨#[0]⟩) fun x53=>
 Qa prog 21 #[x57,(.int .i64 2)] h13 fun x58 h14=>
 Qi h13 h14<|
 Qk prog .add 9 x53 x58 fun x59=>
 Qa prog 21 #[x63,(.int .i64 1)] h14 fun x64 h15=>
 Qk prog .add 9 x59 x64 fun x65=>
 Qk prog .add 9 x65 (.string ⟨#[0,0,0]⟩) fun x66=>
 Qg x3 1 fun x67=>
 Qg x67 3 fun x68=>
 StK h15 1 x68 x66 kp
abbrev posC (b:Bool) (t:List UInt8):List Value:=.bool b::(Zp 17 8 0 t++[Ya 0])
theorem QfB {P:Program} {t:TypeId} {a b:List UInt8} {k:Value->Prop} (h:a.length+b.length<1000):Qk P .add t (Yf a) (Yf b) k=k (Yf (a++b)):=by
 rw[BinK_stradd (by rw[Qau,Qau];omega),strV_add]
theorem u64_of_u8i (x:UInt8):toU (IntKind.u8.wrap (IntKind.i8.wrap (x.toNat:Int)))=toU (x.toNat:Int):=by
 have:=x.toNat_lt
 congr 1
 simp[IntKind.wrap,IntKind.bits,IntKind.signed]
 omega
theorem u64_of_u16i (x:UInt16):toU (IntKind.u16.wrap (IntKind.i16.wrap (x.toNat:Int)))=toU (x.toNat:Int):=by
 have:=x.toNat_lt
 congr 1
 simp[IntKind.wrap,IntKind.bits,IntKind.signed]
 omega
theorem pos_step {G:Cut} {H0:Qe} {G0:Cut} {H:Qe} {q3:Nat} {v:ZO} {s:Value} {t:List UInt8} {b:Bool} {ps:List ZO} (e:Ext G0 H0 G H) (o:Yj H0 G H q3 (.cells (posC b t).toArray 74 (0,0))) (hs:SlV G 7 s (ps.map Zg)) {i:Nat} (hi:ps[i]?=some v) {kp:Qe->Prop}
  (hk:∀H',Ext G0 H0 G H'->(∀q ob,q≠q3->Yj H0 G H q ob->Yj H0 G H' q ob)->Yj H0 G H' q3 (.cells (posC true (Qj8 v)).toArray 74 (0,0))->kp H'):posB (ptr q3) s (.int .i64 (i:Nat)) H kp:=by
 unfold posB
 refine Z8 hs e.inn (i:=i) (it:=Zg v) (by rw[List.getElem?_map,hi];rfl) ?_
 rw[Qy,Yg (n:=7) (c':=(Zg v).toArray) Qh rfl rfl (by decide) (by simp[Zg];exact ⟨rfl,rfl,rfl,rfl,rfl,rfl,rfl⟩),Yq]
 have e1:=e.push (.cells (Zg v).toArray 76 (0,0))
 have o1:=o.push (.cells (Zg v).toArray 76 (0,0))
 have og:∀q ob,q≠q3->Yj H0 G H q ob->Yj H0 G (H.push (.cells (Zg v).toArray 76 (0,0))) q ob:=fun q ob _ h=>h.push _
 have g5:Yj H0 G (H.push (.cells (Zg v).toArray 76 (0,0))) H.size (.cells (Zg v).toArray 76 (0,0)):=Yj.fresh e _
 have ne:=o.ne
 generalize H.push (.cells (Zg v).toArray 76 (0,0))=H1 at *
 rw[Qm,Qas (v:=.bool true) o1.get (by simp) (by simp) rfl]
 have e2:=e1.set o1.out o1.new (.cells ((posC b t).toArray.setIfInBounds 0 (.bool true)) 74 (0,0))
 have g5:=g5.set_ne (Ne.symm ne) (.cells ((posC b t).toArray.setIfInBounds 0 (.bool true)) 74 (0,0))
 have og:∀q ob,q≠q3->Yj H0 G H q ob->Yj H0 G (setB H1 q3 (.cells ((posC b t).toArray.setIfInBounds 0 (.bool true)) 74 (0,0))) q ob:=fun q ob hq h=>(og q ob hq h).set_ne hq _
 have o2:Yj H0 G (setB H1 q3 (.cells ((posC b t).toArray.setIfInBounds 0 (.bool true)) 74 (0,0))) q3 (.cells (posC true t).toArray 74 (0,0)):=o1.set _
 generalize setB H1 q3 (.cells ((posC b t).toArray.setIfInBounds 0 (.bool true)) 74 (0,0))=H2 at *
 have ld:∀{i:Nat} {y:Value} (k:Value->Prop),(Zg v).toArray[i]?=some y->LdK H2 (.pointer (some ⟨H.size,i,none⟩)) k=k y:=fun k h=>Ql ((Qj g5.get).trans h)
 have l0:∀k:Value->Prop,LdK H2 (.pointer (some ⟨H.size,0,none⟩)) k=k (Zz v.x):=fun k=>ld k rfl
 have l1:∀k:Value->Prop,LdK H2 (.pointer (some ⟨H.size,1,none⟩)) k=k (Zz v.y):=fun k=>ld k rfl
 have l2:∀k:Value->Prop,LdK H2 (.pointer (some ⟨H.size,2,none⟩)) k=k (Zz v.z):=fun k=>ld k rfl
 have l3:∀k:Value->Prop,LdK H2 (.pointer (some ⟨H.size,3,none⟩)) k=k (Ya v.t1):=fun k=>ld k rfl
 have l4:∀k:Value->Prop,LdK H2 (.pointer (some ⟨H.size,4,none⟩)) k=k (u8n v.t2):=fun k=>ld k rfl
 have l5:∀k:Value->Prop,LdK H2 (.pointer (some ⟨H.size,5,none⟩)) k=k (Qbc v.a):=fun k=>ld k rfl
 have l6:∀k:Value->Prop,LdK H2 (.pointer (some ⟨H.size,6,none⟩)) k=k (i8V v.b):=fun k=>ld k rfl
 simp only[Qm,l0,l1,l2,l3,l4,l5,l6,QaC]
 rw[QH,QaC,u64_of_u16i,QH,QaC,u64_of_u8i]
 have hx:=v.x.toNat_lt;have hy:=v.y.toNat_lt;have hz:=v.z.toNat_lt;have h2:=v.t2.toNat_lt;have ha:=v.a.toNat_lt;have hb:=v.b.toNat_lt
 refine Qdq (n:=toU (v.x.toNat:Int)) (k:=4) (by decide) e2.inn fun H3 e3=>Qn e3.keep.ext ?_
 refine Qdq (n:=toU (v.y.toNat:Int)) (k:=4) (by decide) e3.inn fun H4 e4=>Qn e4.keep.ext ?_
 have ll:∀(n:Int) (k:Nat),(leB n k).length=k:=Qf
 rw[QfB (by rw[ll,ll];decide)]
 refine Qdq (n:=toU (v.z.toNat:Int)) (k:=4) (by decide) e4.inn fun H5 e5=>Qn e5.keep.ext ?_
 rw[QfB (by simp only[List.length_append,ll];decide),show (.string ⟨#[0,0,0,0]⟩:Value)=Yf [0,0,0,0] from rfl,QfB (by simp only[List.length_append,ll];decide)]
 refine Qdq (n:=v.t1) (k:=8) (by decide) e5.inn fun H6 e6=>Qn e6.keep.ext ?_
 rw[QfB (by simp only[List.length_append,ll];decide)]
 refine Qdq (n:=toU (v.t2.toNat:Int)) (k:=1) (by decide) e6.inn fun H7 e7=>Qn e7.keep.ext ?_
 rw[QfB (by simp only[List.length_append,ll];decide),show (.string ⟨#[0]⟩:Value)=Yf [0] from rfl,QfB (by simp only[List.length_append,ll];decide)]
 refine Qdq (n:=toU (v.a.toNat:Int)) (k:=2) (by decide) e7.inn fun H8 e8=>Qn e8.keep.ext ?_
 rw[QfB (by simp only[List.length_append,ll];decide)]
 refine Qdq (n:=toU (v.b.toNat:Int)) (k:=1) (by decide) e8.inn fun H9 e9=>?_
 rw[QfB (by simp only[List.length_append,ll];decide),show (.string ⟨#[0,0,0]⟩:Value)=Yf [0,0,0] from rfl,QfB (by simp only[List.length_append,ll];decide)]
 have eL:=(((((e3.trans e4).trans e5).trans e6).trans e7).trans e8).trans e9
 have o3:=o2.ext eL
 have eA:=e2.trans eL
 rw[QdA,Qas o3.get (by simp) (by simp) rfl]
 rw[Qb0 (by omega),Qb0 (by omega),Qb0 (by omega),Qb0 (by omega),Qb0 (by omega),Qb0 (by omega)]
 refine hk _ (eA.set o3.out o3.new _) (fun q ob hq h=>((og q ob hq h).ext eL).set_ne hq _) ?_
 have o4:=o3.set (.cells ((posC true t).toArray.setIfInBounds (1+3) (Yf (Qj8 v))) 74 (0,0))
 have ev:(leB (v.x.toNat:Int) 4++leB (v.y.toNat:Int) 4++leB (v.z.toNat:Int) 4++[0,0,0,0]++leB (v.t1.toNat:Int) 8++leB (v.t2.toNat:Int) 1++[0]++leB (v.a.toNat:Int) 2++leB (v.b.toNat:Int) 1++[0,0,0])=Qj8 v:=by
  unfold Qj8 vec3B
  simp
 rw[ev]
 exact o4
end Go.Proofs
namespace Go.Proofs
open Go Go.Vc
open Tryz (prog)
def statV (s:ZJ):SL:=.mk true (.mk 15 0 0 [] [] [] [.mk true (QaS 11 0 0 s.id) 0,Qan 8 (toU (IntKind.i64.wrap (s.val.toNat:Int))) 0,Qan 3 (toU (s.count.toNat:Int)) 0]) 0
def Qj4:List ZJ->SL
 |[]=>.mk false (QaS 15 0 0 []) 0
 |s::_=>statV s
def emB (x6 x73 x75:Value) (h20:Qe) (kp:Qe->Prop):Prop:=
 Y1 3 x73 x75 fun x77=>
 LdN h20 3 x77 fun x78=>
 Y5 h20 (.cells z80 80) fun x8 h21=>
 StK h21 3 x8 x78 fun h22=>
 Qg x6 0 fun x79=>
 StK h22 1 x79 (.bool true) fun h23=>
 Qg x8 0 fun x80=>
 LdK h23 x80 fun x81=>
 Qz z45.toList [(0,1,(.int .u8 11)),(3,1,x81)] fun x82=>
 Qz z74.toList [(0,1,(.bool true)),(1,7,x82)] fun x83=>
 Qg x8 1 fun x84=>
 LdK h23 x84 fun x85=>
 QK .u64 x85 fun x86=>
 Qg x8 2 fun x88=>
 LdK h23 x88 fun x89=>
 QK .u64 x89 fun x90=>
 Qa prog 22 #[(.int .u8 8),x86,(.int .u64 0)] h23 fun x87 h24=>
 Qi h23 h24<|
 Qa prog 22 #[(.int .u8 3),x90,(.int .u64 0)] h24 fun x91 h25=>
 Qi h24 h25<|
 Q8 h25 74 3 (YV z74.toList 3) [(0,9,x83),(9,9,x87),(18,9,x91)] fun x92 h26=>
 Qg x6 1 fun x93=>
 Qg x93 6 fun x94=>
 StK h26 1 x94 x92 kp
abbrev emC (b:Bool) (s:Value):List Value:=.bool b::([u8n 15,u8n 0,Ya 0,Yf [],.slice none 0 0,.slice none 0 0,s]++[Ya 0])
theorem em_step {G:Cut} {H0:Qe} {G0:Cut} {H:Qe} {q6:Nat} {v:ZJ} {s:Value} {t:Value} {b:Bool} {ps:List ZJ} (e:Ext G0 H0 G H) (o:Yj H0 G H q6 (.cells (emC b t).toArray 74 (0,0))) (hs:SlV G 3 s (ps.map YL)) {i:Nat} (hi:ps[i]?=some v) {kp:Qe->Prop}
  (hk:∀G' H' c,Ext G0 H0 G' H'->G.le G'->(∀q ob,q≠q6->Yj H0 G H q ob->Yj H0 G' H' q ob)->VL G' (statV v) (emC true c)->Yj H0 G' H' q6 (.cells (emC true c).toArray 74 (0,0))->kp H'):emB (ptr q6) s (.int .i64 (i:Nat)) H kp:=by
 unfold emB
 refine Z8 hs e.inn (i:=i) (it:=YL v) (by rw[List.getElem?_map,hi];rfl) ?_
 rw[Qy,Yg (n:=3) (c':=(YL v).toArray) Qh rfl rfl (by decide) (by simp[YL];exact ⟨rfl,rfl,rfl⟩),Yq]
 have e1:=e.push (.cells (YL v).toArray 80 (0,0))
 have o1:=o.push (.cells (YL v).toArray 80 (0,0))
 have og:∀q ob,q≠q6->Yj H0 G H q ob->Yj H0 G (H.push (.cells (YL v).toArray 80 (0,0))) q ob:=fun q ob _ h=>h.push _
 have g5:Yj H0 G (H.push (.cells (YL v).toArray 80 (0,0))) H.size (.cells (YL v).toArray 80 (0,0)):=Yj.fresh e _
 have ne:=o.ne
 generalize H.push (.cells (YL v).toArray 80 (0,0))=H1 at *
 rw[Qm,Qas (v:=.bool true) o1.get (by simp) (by simp) rfl]
 have e2:=e1.set o1.out o1.new (.cells ((emC b t).toArray.setIfInBounds 0 (.bool true)) 74 (0,0))
 have g5:=g5.set_ne (Ne.symm ne) (.cells ((emC b t).toArray.setIfInBounds 0 (.bool true)) 74 (0,0))
 have og:∀q ob,q≠q6->Yj H0 G H q ob->Yj H0 G (setB H1 q6 (.cells ((emC b t).toArray.setIfInBounds 0 (.bool true)) 74 (0,0))) q ob:=fun q ob hq h=>(og q ob hq h).set_ne hq _
 have o2:Yj H0 G (setB H1 q6 (.cells ((emC b t).toArray.setIfInBounds 0 (.bool true)) 74 (0,0))) q6 (.cells (emC true t).toArray 74 (0,0)):=o1.set _
 generalize setB H1 q6 (.cells ((emC b t).toArray.setIfInBounds 0 (.bool true)) 74 (0,0))=H2 at *
 have l0:∀k:Value->Prop,LdK H2 (.pointer (some ⟨H.size,0,none⟩)) k=k (Yf v.id):=fun k=>Ql ((Qj g5.get).trans rfl)
 have l1:∀k:Value->Prop,LdK H2 (.pointer (some ⟨H.size,1,none⟩)) k=k (Qdw v.val):=fun k=>Ql ((Qj g5.get).trans rfl)
 have l2:∀k:Value->Prop,LdK H2 (.pointer (some ⟨H.size,2,none⟩)) k=k (u16V v.count):=fun k=>Ql ((Qj g5.get).trans rfl)
 have hf:=fill_tx v.id
 have hf2:=fill_by2 true 11 0 0 v.id
 rw[Qm,l0]
 unfold Qz
 simp only[hf,hf2]
 rw[Qm,l1,QaC,Qm,l2,QaC]
 refine QG (k:=8) (n:=toU (IntKind.i64.wrap (v.val.toNat:Int))) (D:=0) e2.inn ?_
 intro H3 c1 e3 hc1
 refine Qn e3.keep.ext ?_
 refine QG (k:=3) (n:=toU (v.count.toNat:Int)) (D:=0) e3.inn ?_
 intro H4 c2 e4 hc2
 refine Qn e4.keep.ext ?_
 have eL:=e3.trans e4
 refine build_parts (es:=9) (cs:=[.bool true::(Zp 11 0 0 v.id++[Ya 0]),c1,c2]) rfl (by
  intro c hc
  simp only[List.mem_cons,List.not_mem_nil,or_false]at hc
  rcases hc with rfl|rfl|rfl
  ·rfl
  ·exact (hc1 G).len
  ·exact (hc2 G).len) rfl rfl ?_
 have o3:=o2.ext eL
 have eA:=e2.trans eL
 have e5:=(Ext.refl eA.inn).pushG (.cells ([.bool true::(Zp 11 0 0 v.id++[Ya 0]),c1,c2]:List (List Value)).flatten.toArray 74 (0,0))
 have o4:=o3.ext e5
 have hsl:SlV (G.upd H4.size (.cells ([.bool true::(Zp 11 0 0 v.id++[Ya 0]),c1,c2]:List (List Value)).flatten.toArray 74 (0,0))) 9 (.slice (some ⟨H4.size,0,none⟩) 3 3) [.bool true::(Zp 11 0 0 v.id++[Ya 0]),c1,c2]:=SlV.built (by
  intro c hc
  simp only[List.mem_cons,List.not_mem_nil,or_false]at hc
  rcases hc with rfl|rfl|rfl
  ·rfl
  ·exact (hc1 G).len
  ·exact (hc2 G).len)
 rw[Qm,QdA,Qas o4.get (by simp) (by simp) rfl]
 refine hk _ _ (.slice (some ⟨H4.size,0,none⟩) 3 3) ((eA.trans e5).set o4.out o4.new _) e5.le (fun q ob hq h=>(((og q ob hq h).ext eL).ext e5).set_ne hq _) ?_ (o4.set _)
 rw[statV,VL]
 refine ⟨_,rfl,?_⟩
 rw[VV]
 exact ⟨_,_,_,rfl,SlV.nil _ 1,⟨[],SlV.nil _ 7,by rw[VVs];trivial⟩,⟨_,hsl,by rw[VLs,VLs,VLs,VLs];exact ⟨VL.scal _ true 11 0 0 v.id 0,hc1 _,hc2 _,trivial⟩⟩⟩
end Go.Proofs
namespace Go.Proofs
open Go Go.Vc
open Tryz (prog)
def boolN (b:Bool):UInt64:=if b then 1 else 0
def longN (x:UInt64):UInt64:=toU (IntKind.i64.wrap (x.toNat:Int))
def QhO (d:Qbt) (pos:List ZO) (empty:List ZJ):List SL:=
 [posL pos,
  Qan 4 (toU (IntKind.i16.wrap (d.mana.toNat:Int))) 150,
  Qan 4 (toU (IntKind.i16.wrap (d.hp.toNat:Int))) 100,
  .mk true (QaS 11 0 0 d.name) 0,
  Qan 0 (0) 0,
  QhL d.inventory,
  Qan 1 (toU (d.color.toNat:Int)) 8,
  Qan 1 (0) 0,
  .mk false (QaS 15 0 0 []) 0,
  QfX 5 (d.test4.map testN),
  Qj3 d.strings,
  .mk false (QaS 16 0 0 []) 0,
  .mk false (QaS 15 0 0 []) 0,
  QhL d.nested,
  Qj4 empty,
  Qan 0 (boolN d.bool) 0,
  Qan 6 (toU (IntKind.i32.wrap (d.s32.toNat:Int))) 0,
  Qan 5 (toU (d.u32.toNat:Int)) 0,
  Qan 8 (toU (IntKind.i64.wrap (d.s64.toNat:Int))) 0,
  Qan 7 (d.u64) 0,
  Qan 6 (toU (IntKind.i32.wrap (d.s32a.toNat:Int))) 0,
  Qan 5 (toU (d.u32a.toNat:Int)) 0,
  Qan 8 (toU (IntKind.i64.wrap (d.s64a.toNat:Int))) 0,
  Qan 7 (d.u64a) 0,
  QfX 0 (d.bools.map boolN),
  Qan 9 (toU (d.f.toNat:Int)) 1078530000,
  Qan 9 (toU (d.f2.toNat:Int)) 1077936128,
  Qan 9 (toU (d.f3.toNat:Int)) 0,
  Qj3 d.strings2,
  .mk false (QaS 13 0 0 []) 0,
  QhL d.flex,
  QfX 5 (d.test5.map testN),
  QfX 8 (d.longs.map longN),
  QfX 10 d.doubles,
  .mk d.parent (QaS 15 0 0 []) 0,
  idsL d.refs,
  Qan 7 (d.singleWeak) 0,
  QfX 7 d.weak,
  idsL d.strong,
  Qan 7 (d.coOwning) 0,
  QfX 7 d.coOwnings,
  Qan 7 (d.nonOwning) 0,
  QfX 7 d.nonOwnings,
  Qan 1 (0) 0,
  .mk false (QaS 15 0 0 []) 0,
  Qan 1 (0) 0,
  .mk false (QaS 15 0 0 []) 0,
  QhL d.enums,
  Qan 2 (toU (IntKind.i8.wrap (d.signedEnum.toNat:Int))) 255]
def mvalue (d:Qbt) (pos:List ZO) (empty:List ZJ):SV:=.mk 15 0 0 [] [] [] (QhO d pos empty)
def accF (P:Program) (t:TypeId) (x1:Value) (fld:Nat) (h:Qe) (B:Value->Value->Value->Qe->(Kn)->Prop) (K:Kn):Prop:=
 QD (fun M=>Qg x1 fld fun a=>LdK h a fun s=>Yv s fun n=>Yu [(.int .i64 0),(.slice none 0 0)] h fun I m=>∀x y:Value,∀h1:Qe,I m [x,y] h1->
  Qk P .lss t x n fun c=>IfK c (B s x y h1 fun y' h3=>Qk P .add t x (.int .i64 1) fun x'=>QS I m [x',y'] h3) (M [y] h1)) fun M=>∀y:Value,∀h':Qe,M [y] h'->K y h'
theorem accF_of {P:Program} {t:TypeId} {x1 s:Value} {fld:Nat} {h:Qe} {B:Value->Value->Value->Qe->(Kn)->Prop} {K:Kn} {n:Nat} (St:Nat->Kn) (h0:St 0 (.slice none 0 0) h) (hn:n<4611686018427387904)
  (hs:∀k:Value->Prop,k s->Qg x1 fld fun a=>LdK h a k) (hl:∀k:Value->Prop,Yv s k=k (.int .i64 (n:Nat)))
  (hB:∀i y H (k:Kn),i<n->St i y H->(∀y' H',St (i+1) y' H'->k y' H')->B s (.int .i64 (i:Nat)) y H k) (hK:∀y H,St n y H->K y H):accF P t x1 fld h B K:=by
 refine Q0 (fun vs H=>∃y,vs=[y]/\St n y H) (hs _ ?_) (fun y H hh=>by obtain ⟨y',e,h1⟩:=hh;cases e;exact hK _ H h1)
 rw[hl]
 refine ⟨fun m vs H=>∃i y,vs=[.int .i64 (i:Nat),y]/\i+m=n/\St i y H,⟨n,0,_,rfl,by omega,h0⟩,?_⟩
 rintro m x y H ⟨i,y',hx,hi,hs⟩
 cases hx
 rw[Yr]
 by_cases hlt:i<n
 ·rw[Yb (by omega)]
  refine hB i y H _ hlt hs fun y' H' hs'=>?_
  rw[QA,wrap_i64 (by omega) (by omega)]
  exact ⟨m-1,by omega,i+1,y',by simp,by omega,hs'⟩
 ·rw[QM (by omega)]
  have:i=n:=by omega
  subst this
  exact ⟨y,rfl,hs⟩
def boolsB (x99 x101 x10:Value) (h30:Qe) (k:Kn):Prop:=
 Y1 1 x99 x101 fun x103=>LdK h30 x103 fun x104=>QD (fun M11=>IfK x104 (M11 [(.int .u64 1)] h30) (M11 [(.int .u64 0)] h30)) fun M11=>∀x14:Value,∀h31:Qe,M11 [x14] h31->
  Q8 h31 31 1 (YV z31.toList 1) [(0,1,x14)] fun x108 h32=>Qbs h32 31 1 8 z31 x10 x108 k
def longsB (x112 x114 x11:Value) (h35:Qe) (k:Kn):Prop:=
 Y1 1 x112 x114 fun x116=>LdK h35 x116 fun x117=>QK .u64 x117 fun x120=>Q8 h35 31 1 (YV z31.toList 1) [(0,1,x120)] fun x121 h36=>Qbs h36 31 1 8 z31 x11 x121 k
theorem nums_loop {α:Type} {f:α->UInt64} {I:α->List Value} {l:List α} {x1 s:Value} {fld:Nat} {B:Value->Value->Value->Qe->(Kn)->Prop} {G:Cut} {H:Qe} {K:Kn} (hG:G.In H) (hs:SlV G 1 s (l.map I)) (hn:l.length<=50) (hf:∀k:Value->Prop,k s->Qg x1 fld fun a=>LdK H a k)
  (hB:∀i a y H' (k:Kn),l[i]?=some a->G.In H'->(Q8 H' 31 1 (YV z31.toList 1) [(0,1,Ya (f a))] fun x h2=>Qbs h2 31 1 8 z31 y x k)->B s (.int .i64 (i:Nat)) y H' k)
  (hK:∀G' H' y,Ext G H G' H'->SlV G' 1 y ((l.map f).map Qai)->K y H'):accF prog 3 x1 fld H B K:=by
 refine accF_of (n:=l.length) (fun i y H'=>Ext G H G H'/\Cur H G H' 31 1 y ((l.take i).map fun t=>Qai (f t)) noBad) ⟨Ext.refl hG,Cur.nil⟩ (by omega) hf (fun k=>by rw[hs.len,List.length_map]) ?_ ?_
 ·rintro i y H' k hlt ⟨e1,hcur⟩ hk
  have ha:=List.getElem?_eq_getElem hlt
  refine hB i l[i] y H' k ha e1.inn ?_
  refine QbA e1 hcur (v:=Ya (f l[i])) (it:=Qai (f l[i])) rfl rfl (by simp[Qai];rfl) (by decide) rfl (by decide) (by rw[List.length_map,List.length_take];omega) ?_
  intro c' H3 e3 hc3
  refine hk c' H3 ⟨e3,?_⟩
  rw[Qcx ha];exact hc3
 ·rintro y H' ⟨e1,hcur⟩
  obtain ⟨G',e',sl,le,_⟩:=hcur.done e1
  rw[List.take_length]at sl
  exact hK G' H' y e' (by rw[List.map_map];exact sl)
end Go.Proofs
namespace Go.Proofs
open Go Go.Vc
open Tryz (prog)
theorem fill_p1:YJ z45.toList [(0,1,(.int .u8 17)),(1,1,(.int .u8 8)),(3,1,(.string ⟨#[48,49,50,51,52,53,54,55,48,49,50,51,52,53,54,55,48,49,50,51,52,53,54,55,48,49,50,51,52,53,54,55]⟩))]=some (Zp 17 8 0 QiL):=by kernel_rfl
theorem fill_s0 (k e:UInt8) (n:UInt64) (t:List UInt8):YJ z74.toList [(1,7,.agg (Zp k e n t).toArray)]=some (.bool false::(Zp k e n t++[Ya 0])):=by kernel_rfl
theorem fill_k15:YJ z45.toList [(0,1,(.int .u8 15))]=some (Zp 15 0 0 []):=by kernel_rfl
theorem fill_k16:YJ z45.toList [(0,1,(.int .u8 16))]=some (Zp 16 0 0 []):=by kernel_rfl
theorem fill_k13:YJ z45.toList [(0,1,(.int .u8 13))]=some (Zp 13 0 0 []):=by kernel_rfl
theorem new_whole {H:Qe} {n:Nat} {t:TypeId} {z:Array Value} {c:List Value} {K:Kn} (hz:z.size=n) (hl:c.length=n) (h0:0<n) (hone:∀v∈c,v.oneCell'=true) (hk:K (ptr H.size) (H.push (.cells c.toArray t (0,0)))):
  Y5 H (.cells z t) fun q h1=>StK h1 n q (.agg c.toArray) fun h2=>K q h2:=by
 rw[Qy,Yg (n:=n) (c':=c.toArray) Qh hz (by simpa using hl) h0 (by simpa using hone),Yq]
 exact hk
def QfF:List ZO->List Value
 |[]=>posC false QiL
 |v::_=>posC true (Qj8 v)
theorem posL_val (F:Cut):∀pos,VL F (posL pos) (QfF pos)
 |[]=>VL.scal F false 17 8 0 QiL 0
 |v::_=>VL.scal F true 17 8 0 (Qj8 v) 0
set_option maxHeartbeats 2000000 in
set_option maxRecDepth 8000 in
theorem MonsterValue_ok {d:Qbt} {pos:List ZO} {empty:List ZJ} {tables enemy test uniq amb:List GM} {cells:List Value} {G:Cut} {H:Qe} (hG:G.In H) (hv:QaX G (.mk d pos empty tables enemy test uniq amb) cells) (hs:SmallD d pos empty) {R:Kn}
  (hR:∀G' H' cells',Ext G H G' H'->VV G' (mvalue d pos empty) cells'->R (.agg cells'.toArray) H'):FnS prog 9 #[.agg cells.toArray] H R:=by
 rw[QaX]at hv
 obtain ⟨c,rfl,hg,_⟩:=hv
 apply w9
 unfold s9
 rw[Qy,Qy]
 have e:=(Ext.refl hG).pushG (.cells (Value.agg (Yk d c).toArray).cells 38 (0,0))
 have hg1:(G.upd H.size (.cells (Value.agg (Yk d c).toArray).cells 38 (0,0))) H.size=some (.cells (Yk d c).toArray 38 (0,0)):=Cut.upd_same
 have hg:=hg.mono e.le
 generalize G.upd H.size (.cells (Value.agg (Yk d c).toArray).cells 38 (0,0))=G1 at *
 show Qz _ _ _
 generalize H.push (.cells (Value.agg (Yk d c).toArray).cells 38 (0,0))=H1 at *
 have o2:=Yj.fresh e (.cells z45 45)
 have e:=e.push (.cells z45 45)
 generalize H1.push (.cells z45 45)=H2 at *
 refine Y6 fill_p1 (Y6 (fill_s0 17 8 0 QiL) ?_)
 refine new_whole (c:=posC false QiL) rfl rfl (by decide) (VL.scal G1 false 17 8 0 QiL 0).one ?_
 have n2:=o2.ne
 have o3:=Yj.fresh e (.cells (posC false QiL).toArray 74 (0,0))
 have o2:=o2.push (.cells (posC false QiL).toArray 74 (0,0))
 have e:=e.push (.cells (posC false QiL).toArray 74 (0,0))
 generalize H2.push (.cells (posC false QiL).toArray 74 (0,0))=H3 at *
 generalize H2.size=q3 at *
 generalize H1.size=q2 at *
 have ld:∀{G':Cut} {H':Qe},G1.le G'->G'.In H'->∀{i:Nat} {v:Value} (k:Value->Prop),(Yk d c).toArray[i]?=some v->LdK H' (.pointer (some ⟨H.size,i,none⟩)) k=k v:=fun hle hin _ _ k h=>Ql ((Qj (hin _ _ (hle _ _ hg1))).trans h)
 show Qe4 prog 3 (ptr H.size) 0 H3 (posB (ptr q3)) _
 refine QgG (s:=c.pos) (n:=pos.length) (fun i H'=>Ext G H G1 H'/\Yj H G1 H' q2 (.cells z45 45 (0,0))/\Yj H G1 H' q3 (.cells (QfF (pos.take i)).toArray 74 (0,0))) ⟨e,o2,by rw[List.take_zero];exact o3⟩ (by have:=hs.npos;omega) (fun k hk=>by rw[Qm,ld (Cut.le_refl _) e.inn k rfl];exact hk) (fun k=>by rw[hg.pos.len,List.length_map]) ?_ ?_
 ·rintro i H' k hi ⟨e1,p2,p3⟩ hk
  have h0:i=0:=by have:=hs.npos;omega
  subst h0
  have ha:=List.getElem?_eq_getElem hi
  rw[List.take_zero]at p3
  refine pos_step (b:=false) (t:=QiL) e1 p3 hg.pos ha fun H4 e4 og o4=>hk H4 ⟨e4,og _ _ n2 p2,?_⟩
  rw[List.take_add_one,ha]
  exact o4
 rintro H4 ⟨e,o2,o3⟩
 rw[List.take_length]at o3
 refine Y6 fill_k15 (Y6 (fill_s0 15 0 0 []) ?_)
 refine new_whole (c:=emC false (.slice none 0 0)) rfl rfl (by decide) (VL.scal G1 false 15 0 0 [] 0).one ?_
 have n2':=o2.ne
 have n3':=o3.ne
 have o6:=Yj.fresh e (.cells (emC false (.slice none 0 0)).toArray 74 (0,0))
 have o2:=o2.push (.cells (emC false (.slice none 0 0)).toArray 74 (0,0))
 have o3:=o3.push (.cells (emC false (.slice none 0 0)).toArray 74 (0,0))
 have e:=e.push (.cells (emC false (.slice none 0 0)).toArray 74 (0,0))
 generalize H4.push (.cells (emC false (.slice none 0 0)).toArray 74 (0,0))=H5 at *
 generalize H4.size=q6 at *
 show Qe4 prog 3 (ptr H.size) 14 H5 (emB (ptr q6)) _
 refine QgG (s:=c.empty) (n:=empty.length) (fun i H'=>∃G' b t,Ext G H G' H'/\G1.le G'/\Yj H G' H' q2 (.cells z45 45 (0,0))/\Yj H G' H' q3 (.cells (QfF pos).toArray 74 (0,0))/\Yj H G' H' q6 (.cells (emC b t).toArray 74 (0,0))/\VL G' (Qj4 (empty.take i)) (emC b t))
  ⟨G1,false,.slice none 0 0,e,Cut.le_refl _,o2,o3,o6,by rw[List.take_zero];exact VL.scal G1 false 15 0 0 [] 0⟩ (by have:=hs.nempty;omega) (fun k hk=>by rw[Qm,ld (Cut.le_refl _) e.inn k rfl];exact hk) (fun k=>by rw[hg.empty.len,List.length_map]) ?_ ?_
 ·rintro i H' k hi ⟨G',b,t,e1,le1,p2,p3,p6,_⟩ hk
  have h0:i=0:=by have:=hs.nempty;omega
  subst h0
  have ha:=List.getElem?_eq_getElem hi
  refine em_step e1 p6 (hg.empty.mono le1) ha fun G6 H6 c6 e6 le6 og hv o6=>hk H6 ⟨G6,true,c6,e6,Cut.le_trans le1 le6,og _ _ n2' p2,og _ _ n3' p3,o6,?_⟩
  rw[List.take_add_one,ha]
  exact hv
 clear e o2 o3 o6
 rintro H6 ⟨G6,b6,t6,e,le6,o2,o3,o6,v6⟩
 rw[List.take_length]at v6
 have hg:=hg.mono le6
 refine Q0 (fun vs h=>h=H6/\vs=[Ya (boolN d.bool)]) ?_ ?_
 ·rw[Qm,ld le6 e.inn _ (show (Yk d c).toArray[15]?=some (.bool d.bool) from rfl)]
  cases d.bool
  ·rw[ZG];exact ⟨rfl,rfl⟩
  ·rw[QbS];exact ⟨rfl,rfl⟩
 rintro x9 h29 ⟨rfl,hx9⟩
 cases hx9
 show accF prog 3 (ptr H.size) 24 h29 boolsB _
 have hl:=hs.lists
 refine nums_loop (f:=boolN) (I:=QgW) (l:=d.bools) (s:=c.bools) e.inn hg.bools (by omega) (fun k hk=>by rw[Qm,ld le6 e.inn k rfl];exact hk) ?_ ?_
 ·intro i a y H' k ha hin hk
  unfold boolsB
  obtain ⟨b,o,cs,e',fr,g1,g2,g3,g4⟩:=hg.bools.idx hin (i:=i) rfl (it:=QgW a) (by rw[List.getElem?_map,ha];rfl)
  rw[g1,Ql ((Qj g2).trans (Qaq g4))]
  refine Q0 (fun vs h=>h=H'/\vs=[Ya (boolN a)]) ?_ ?_
  ·cases a
   ·rw[ZG];exact ⟨rfl,rfl⟩
   ·rw[QbS];exact ⟨rfl,rfl⟩
  rintro x14 h31 ⟨rfl,hx⟩
  cases hx
  exact hk
 intro G7 H7 xB e7 slB
 have o2:=o2.ext e7
 have o3:=o3.ext e7
 have o6:=o6.ext e7
 have e:=e.trans e7
 have le7:=Cut.le_trans le6 e7.le
 have v6:=VL.mono e7.le _ _ v6
 have hg:=hg.mono e7.le
 clear e7
 show accF prog 3 (ptr H.size) 32 H7 longsB _
 refine nums_loop (f:=longN) (I:=i64I) (l:=d.longs) (s:=c.longs) e.inn hg.longs (by omega) (fun k hk=>by rw[Qm,ld le7 e.inn k rfl];exact hk) ?_ ?_
 ·intro i a y H' k ha hin hk
  unfold longsB
  obtain ⟨b,o,cs,e',fr,g1,g2,g3,g4⟩:=hg.longs.idx hin (i:=i) rfl (it:=i64I a) (by rw[List.getElem?_map,ha];rfl)
  rw[g1,Ql ((Qj g2).trans (Qaq g4)),QaC]
  exact hk
 intro G8 H8 xL e8 slL
 have o2:=o2.ext e8
 have o3:=o3.ext e8
 have o6:=o6.ext e8
 have e:=e.trans e8
 have le8:=Cut.le_trans le7 e8.le
 have v6:=VL.mono e8.le _ _ v6
 have slB:=slB.mono e8.le
 have hg:=hg.mono e8.le
 clear e8
 refine Y6 fill_k15 (Y6 (fill_s0 15 0 0 []) ?_)
 refine new_whole (c:=emC false (.slice none 0 0)) rfl rfl (by decide) (VL.scal G8 false 15 0 0 [] 0).one ?_
 have o17:=Yj.fresh e (.cells (emC false (.slice none 0 0)).toArray 74 (0,0))
 have o2:=o2.push (.cells (emC false (.slice none 0 0)).toArray 74 (0,0))
 have o3:=o3.push (.cells (emC false (.slice none 0 0)).toArray 74 (0,0))
 have o6:=o6.push (.cells (emC false (.slice none 0 0)).toArray 74 (0,0))
 have e:=e.push (.cells (emC false (.slice none 0 0)).toArray 74 (0,0))
 generalize H8.push (.cells (emC false (.slice none 0 0)).toArray 74 (0,0))=H9 at *
 generalize H8.size=q17 at *
 have ldN:∀{q:Nat} {cs:List Value},cs.length=9->Yj H G8 H9 q (.cells cs.toArray 74 (0,0))->∀k:Value->Prop,LdN H9 9 (ptr q) k=k (.agg cs.toArray):=fun hl o k=>YI (n:=9) (by rw[Q4 o.get 9 (by simp[hl])];simp[<-hl])
 have r3:=ldN (posL_val G8 pos).len o3
 have r6:=ldN v6.len o6
 have r17:=ldN rfl o17
 have l1:∀k:Value->Prop,LdK H9 (.pointer (some ⟨H.size,1,none⟩)) k=k (Qbc d.mana):=fun k=>ld le8 e.inn k rfl
 have l2:∀k:Value->Prop,LdK H9 (.pointer (some ⟨H.size,2,none⟩)) k=k (Qbc d.hp):=fun k=>ld le8 e.inn k rfl
 have l3:∀k:Value->Prop,LdK H9 (.pointer (some ⟨H.size,3,none⟩)) k=k (Yf d.name):=fun k=>ld le8 e.inn k rfl
 have l4:∀k:Value->Prop,LdK H9 (.pointer (some ⟨H.size,4,none⟩)) k=k (Yf d.inventory):=fun k=>ld le8 e.inn k rfl
 have l5:∀k:Value->Prop,LdK H9 (.pointer (some ⟨H.size,5,none⟩)) k=k (u8n d.color):=fun k=>ld le8 e.inn k rfl
 have l9:∀k:Value->Prop,LdK H9 (.pointer (some ⟨H.size,9,none⟩)) k=k (c.test4):=fun k=>ld le8 e.inn k rfl
 have l10:∀k:Value->Prop,LdK H9 (.pointer (some ⟨H.size,10,none⟩)) k=k (c.strings):=fun k=>ld le8 e.inn k rfl
 have l13:∀k:Value->Prop,LdK H9 (.pointer (some ⟨H.size,13,none⟩)) k=k (Yf d.nested):=fun k=>ld le8 e.inn k rfl
 have l16:∀k:Value->Prop,LdK H9 (.pointer (some ⟨H.size,16,none⟩)) k=k (Qfl d.s32):=fun k=>ld le8 e.inn k rfl
 have l17:∀k:Value->Prop,LdK H9 (.pointer (some ⟨H.size,17,none⟩)) k=k (Zz d.u32):=fun k=>ld le8 e.inn k rfl
 have l18:∀k:Value->Prop,LdK H9 (.pointer (some ⟨H.size,18,none⟩)) k=k (Qdw d.s64):=fun k=>ld le8 e.inn k rfl
 have l19:∀k:Value->Prop,LdK H9 (.pointer (some ⟨H.size,19,none⟩)) k=k (Ya d.u64):=fun k=>ld le8 e.inn k rfl
 have l20:∀k:Value->Prop,LdK H9 (.pointer (some ⟨H.size,20,none⟩)) k=k (Qfl d.s32a):=fun k=>ld le8 e.inn k rfl
 have l21:∀k:Value->Prop,LdK H9 (.pointer (some ⟨H.size,21,none⟩)) k=k (Zz d.u32a):=fun k=>ld le8 e.inn k rfl
 have l22:∀k:Value->Prop,LdK H9 (.pointer (some ⟨H.size,22,none⟩)) k=k (Qdw d.s64a):=fun k=>ld le8 e.inn k rfl
 have l23:∀k:Value->Prop,LdK H9 (.pointer (some ⟨H.size,23,none⟩)) k=k (Ya d.u64a):=fun k=>ld le8 e.inn k rfl
 have l25:∀k:Value->Prop,LdK H9 (.pointer (some ⟨H.size,25,none⟩)) k=k (Zz d.f):=fun k=>ld le8 e.inn k rfl
 have l26:∀k:Value->Prop,LdK H9 (.pointer (some ⟨H.size,26,none⟩)) k=k (Zz d.f2):=fun k=>ld le8 e.inn k rfl
 have l27:∀k:Value->Prop,LdK H9 (.pointer (some ⟨H.size,27,none⟩)) k=k (Zz d.f3):=fun k=>ld le8 e.inn k rfl
 have l28:∀k:Value->Prop,LdK H9 (.pointer (some ⟨H.size,28,none⟩)) k=k (c.strings2):=fun k=>ld le8 e.inn k rfl
 have l30:∀k:Value->Prop,LdK H9 (.pointer (some ⟨H.size,30,none⟩)) k=k (Yf d.flex):=fun k=>ld le8 e.inn k rfl
 have l31:∀k:Value->Prop,LdK H9 (.pointer (some ⟨H.size,31,none⟩)) k=k (c.test5):=fun k=>ld le8 e.inn k rfl
 have l33:∀k:Value->Prop,LdK H9 (.pointer (some ⟨H.size,33,none⟩)) k=k (c.doubles):=fun k=>ld le8 e.inn k rfl
 have l34:∀k:Value->Prop,LdK H9 (.pointer (some ⟨H.size,34,none⟩)) k=k (.bool d.parent):=fun k=>ld le8 e.inn k rfl
 have l35:∀k:Value->Prop,LdK H9 (.pointer (some ⟨H.size,35,none⟩)) k=k (c.refs):=fun k=>ld le8 e.inn k rfl
 have l36:∀k:Value->Prop,LdK H9 (.pointer (some ⟨H.size,36,none⟩)) k=k (Ya d.singleWeak):=fun k=>ld le8 e.inn k rfl
 have l37:∀k:Value->Prop,LdK H9 (.pointer (some ⟨H.size,37,none⟩)) k=k (c.weak):=fun k=>ld le8 e.inn k rfl
 have l38:∀k:Value->Prop,LdK H9 (.pointer (some ⟨H.size,38,none⟩)) k=k (c.strong):=fun k=>ld le8 e.inn k rfl
 have l39:∀k:Value->Prop,LdK H9 (.pointer (some ⟨H.size,39,none⟩)) k=k (Ya d.coOwning):=fun k=>ld le8 e.inn k rfl
 have l40:∀k:Value->Prop,LdK H9 (.pointer (some ⟨H.size,40,none⟩)) k=k (c.coOwnings):=fun k=>ld le8 e.inn k rfl
 have l41:∀k:Value->Prop,LdK H9 (.pointer (some ⟨H.size,41,none⟩)) k=k (Ya d.nonOwning):=fun k=>ld le8 e.inn k rfl
 have l42:∀k:Value->Prop,LdK H9 (.pointer (some ⟨H.size,42,none⟩)) k=k (c.nonOwnings):=fun k=>ld le8 e.inn k rfl
 have l49:∀k:Value->Prop,LdK H9 (.pointer (some ⟨H.size,49,none⟩)) k=k (Yf d.enums):=fun k=>ld le8 e.inn k rfl
 have l50:∀k:Value->Prop,LdK H9 (.pointer (some ⟨H.size,50,none⟩)) k=k (i8V d.signedEnum):=fun k=>ld le8 e.inn k rfl
 have bq:∀{zs:List Value} {ps:List (Nat×Nat×Value)} {cs:List Value},YJ zs ps=some cs->∀k:Value->Prop,Qz zs ps k=k (.agg cs.toArray):=fun h k=>by unfold Qz;rw[h]
 have b16:=bq fill_k16
 have b13:=bq fill_k13
 have b15:=bq fill_k15
 have s16:=bq (fill_s0 16 0 0 [])
 have s13:=bq (fill_s0 13 0 0 [])
 have bn:=bq (fill_tx d.name)
 have sn:=bq (fill_by2 true 11 0 0 d.name)
 have sp:=bq (fill_by2 d.parent 15 0 0 [])
 simp only[Qm,r3,r6,r17,b16,b13,b15,s16,s13,bn,sn,sp,QaC,l1,l2,l3,l4,l5,l9,l10,l13,l16,l17,l18,l19,l20,l21,l22,l23,l25,l26,l27,l28,l30,l31,l33,l34,l35,l36,l37,l38,l39,l40,l41,l42,l49,l50]
 have f:Ext G8 H9 G8 H9:=Ext.refl e.inn
 refine QG (k:=4) (n:=toU (IntKind.i16.wrap (d.mana.toNat:Int))) (D:=150) f.inn ?_
 intro H101 c1 e1 w1
 refine Qn e1.keep.ext ?_
 have f:=f.trans e1
 refine QG (k:=4) (n:=toU (IntKind.i16.wrap (d.hp.toNat:Int))) (D:=100) f.inn ?_
 intro H102 c2 e2 w2
 refine Qn e2.keep.ext ?_
 have f:=f.trans e2
 refine QG (k:=0) (n:=0) (D:=0) f.inn ?_
 intro H104 c4 e4 w4
 refine Qn e4.keep.ext ?_
 have f:=f.trans e4
 refine QcR (s:=d.inventory) f.inn ?_
 intro H105 c5 e5 w5
 refine Qn e5.keep.ext ?_
 have f:=f.trans e5
 refine QG (k:=1) (n:=toU (d.color.toNat:Int)) (D:=8) f.inn ?_
 intro H106 c6 e6 w6
 refine Qn e6.keep.ext ?_
 have f:=f.trans e6
 refine QG (k:=1) (n:=0) (D:=0) f.inn ?_
 intro H107 c7 e7 w7
 refine Qn e7.keep.ext ?_
 have f:=f.trans e7
 refine Qh7 f.inn (hg.test4.mono f.le) (by omega) ?_
 intro G109 H109 c9 e9 w9
 refine Qn e9.keep.ext ?_
 have f:=f.trans e9
 refine Qg8 f.inn (hg.strings.mono f.le) (by omega) ?_
 intro G110 H110 c10 e10 w10
 refine Qn e10.keep.ext ?_
 have f:=f.trans e10
 refine QcR (s:=d.nested) f.inn ?_
 intro H113 c13 e13 w13
 refine Qn e13.keep.ext ?_
 have f:=f.trans e13
 refine QG (k:=0) (n:=boolN d.bool) (D:=0) f.inn ?_
 intro H115 c15 e15 w15
 refine Qn e15.keep.ext ?_
 have f:=f.trans e15
 refine QG (k:=6) (n:=toU (IntKind.i32.wrap (d.s32.toNat:Int))) (D:=0) f.inn ?_
 intro H116 c16 e16 w16
 refine Qn e16.keep.ext ?_
 have f:=f.trans e16
 refine QG (k:=5) (n:=toU (d.u32.toNat:Int)) (D:=0) f.inn ?_
 intro H117 c17 e17 w17
 refine Qn e17.keep.ext ?_
 have f:=f.trans e17
 refine QG (k:=8) (n:=toU (IntKind.i64.wrap (d.s64.toNat:Int))) (D:=0) f.inn ?_
 intro H118 c18 e18 w18
 refine Qn e18.keep.ext ?_
 have f:=f.trans e18
 refine QG (k:=7) (n:=d.u64) (D:=0) f.inn ?_
 intro H119 c19 e19 w19
 refine Qn e19.keep.ext ?_
 have f:=f.trans e19
 refine QG (k:=6) (n:=toU (IntKind.i32.wrap (d.s32a.toNat:Int))) (D:=0) f.inn ?_
 intro H120 c20 e20 w20
 refine Qn e20.keep.ext ?_
 have f:=f.trans e20
 refine QG (k:=5) (n:=toU (d.u32a.toNat:Int)) (D:=0) f.inn ?_
 intro H121 c21 e21 w21
 refine Qn e21.keep.ext ?_
 have f:=f.trans e21
 refine QG (k:=8) (n:=toU (IntKind.i64.wrap (d.s64a.toNat:Int))) (D:=0) f.inn ?_
 intro H122 c22 e22 w22
 refine Qn e22.keep.ext ?_
 have f:=f.trans e22
 refine QG (k:=7) (n:=d.u64a) (D:=0) f.inn ?_
 intro H123 c23 e23 w23
 refine Qn e23.keep.ext ?_
 have f:=f.trans e23
 refine Qaj (k:=0) (l:=(d.bools.map boolN)) f.inn (slB.mono f.le) ?_
 intro H124 c24 e24 w24
 refine Qn e24.keep.ext ?_
 have f:=f.trans e24
 refine QG (k:=9) (n:=toU (d.f.toNat:Int)) (D:=1078530000) f.inn ?_
 intro H125 c25 e25 w25
 refine Qn e25.keep.ext ?_
 have f:=f.trans e25
 refine QG (k:=9) (n:=toU (d.f2.toNat:Int)) (D:=1077936128) f.inn ?_
 intro H126 c26 e26 w26
 refine Qn e26.keep.ext ?_
 have f:=f.trans e26
 refine QG (k:=9) (n:=toU (d.f3.toNat:Int)) (D:=0) f.inn ?_
 intro H127 c27 e27 w27
 refine Qn e27.keep.ext ?_
 have f:=f.trans e27
 refine Qg8 f.inn (hg.strings2.mono f.le) (by omega) ?_
 intro G128 H128 c28 e28 w28
 refine Qn e28.keep.ext ?_
 have f:=f.trans e28
 refine QcR (s:=d.flex) f.inn ?_
 intro H130 c30 e30 w30
 refine Qn e30.keep.ext ?_
 have f:=f.trans e30
 refine Qh7 f.inn (hg.test5.mono f.le) (by omega) ?_
 intro G131 H131 c31 e31 w31
 refine Qn e31.keep.ext ?_
 have f:=f.trans e31
 refine Qaj (k:=8) (l:=(d.longs.map longN)) f.inn (slL.mono f.le) ?_
 intro H132 c32 e32 w32
 refine Qn e32.keep.ext ?_
 have f:=f.trans e32
 refine Qaj (k:=10) (l:=d.doubles) f.inn (hg.doubles.mono f.le) ?_
 intro H133 c33 e33 w33
 refine Qn e33.keep.ext ?_
 have f:=f.trans e33
 refine QhY f.inn (hg.refs.mono f.le) (by omega) ?_
 intro G135 H135 c35 e35 w35
 refine Qn e35.keep.ext ?_
 have f:=f.trans e35
 refine QG (k:=7) (n:=d.singleWeak) (D:=0) f.inn ?_
 intro H136 c36 e36 w36
 refine Qn e36.keep.ext ?_
 have f:=f.trans e36
 refine Qaj (k:=7) (l:=d.weak) f.inn (hg.weak.mono f.le) ?_
 intro H137 c37 e37 w37
 refine Qn e37.keep.ext ?_
 have f:=f.trans e37
 refine QhY f.inn (hg.strong.mono f.le) (by omega) ?_
 intro G138 H138 c38 e38 w38
 refine Qn e38.keep.ext ?_
 have f:=f.trans e38
 refine QG (k:=7) (n:=d.coOwning) (D:=0) f.inn ?_
 intro H139 c39 e39 w39
 refine Qn e39.keep.ext ?_
 have f:=f.trans e39
 refine Qaj (k:=7) (l:=d.coOwnings) f.inn (hg.coOwnings.mono f.le) ?_
 intro H140 c40 e40 w40
 refine Qn e40.keep.ext ?_
 have f:=f.trans e40
 refine QG (k:=7) (n:=d.nonOwning) (D:=0) f.inn ?_
 intro H141 c41 e41 w41
 refine Qn e41.keep.ext ?_
 have f:=f.trans e41
 refine Qaj (k:=7) (l:=d.nonOwnings) f.inn (hg.nonOwnings.mono f.le) ?_
 intro H142 c42 e42 w42
 refine Qn e42.keep.ext ?_
 have f:=f.trans e42
 refine QG (k:=1) (n:=0) (D:=0) f.inn ?_
 intro H143 c43 e43 w43
 refine Qn e43.keep.ext ?_
 have f:=f.trans e43
 refine QG (k:=1) (n:=0) (D:=0) f.inn ?_
 intro H145 c45 e45 w45
 refine Qn e45.keep.ext ?_
 have f:=f.trans e45
 refine QcR (s:=d.enums) f.inn ?_
 intro H147 c47 e47 w47
 refine Qn e47.keep.ext ?_
 have f:=f.trans e47
 refine QG (k:=2) (n:=toU (IntKind.i8.wrap (d.signedEnum.toNat:Int))) (D:=255) f.inn ?_
 intro H148 c48 e48 w48
 refine Qn e48.keep.ext ?_
 have f:=f.trans e48
 have tt6:Cut.le G138 G138:=Cut.le_refl _
 have tt5:Cut.le G135 G138:=Cut.le_trans e38.le tt6
 have tt4:Cut.le G131 G138:=Cut.le_trans e35.le tt5
 have tt3:Cut.le G128 G138:=Cut.le_trans e31.le tt4
 have tt2:Cut.le G110 G138:=Cut.le_trans e28.le tt3
 have tt1:Cut.le G109 G138:=Cut.le_trans e10.le tt2
 have tt0:Cut.le G8 G138:=Cut.le_trans e9.le tt1
 have hV:VLs G138 (QhO d pos empty) [QfF pos,c1,c2,.bool true::(Zp 11 0 0 d.name++[Ya 0]),c4,c5,c6,c7,.bool false::(Zp 15 0 0 []++[Ya 0]),c9,c10,.bool false::(Zp 16 0 0 []++[Ya 0]),.bool false::(Zp 15 0 0 []++[Ya 0]),c13,emC b6 t6,c15,c16,c17,c18,c19,c20,c21,c22,c23,c24,c25,c26,c27,c28,.bool false::(Zp 13 0 0 []++[Ya 0]),c30,c31,c32,c33,.bool d.parent::(Zp 15 0 0 []++[Ya 0]),c35,c36,c37,c38,c39,c40,c41,c42,c43,.bool false::(Zp 15 0 0 []++[Ya 0]),c45,.bool false::(Zp 15 0 0 []++[Ya 0]),c47,c48]:=by
  unfold QhO
  simp only[VLs]
  exact ⟨posL_val _ pos,w1 _,w2 _,VL.scal _ true 11 0 0 d.name 0,w4 _,w5 _,w6 _,w7 _,VL.scal _ false 15 0 0 [] 0,VL.mono tt1 _ _ w9,VL.mono tt2 _ _ w10,VL.scal _ false 16 0 0 [] 0,VL.scal _ false 15 0 0 [] 0,w13 _,VL.mono tt0 _ _ v6,w15 _,w16 _,w17 _,w18 _,w19 _,w20 _,w21 _,w22 _,w23 _,VL.mono tt2 _ _ w24,w25 _,w26 _,w27 _,VL.mono tt3 _ _ w28,VL.scal _ false 13 0 0 [] 0,w30 _,VL.mono tt4 _ _ w31,VL.mono tt4 _ _ w32,VL.mono tt4 _ _ w33,VL.scal _ d.parent 15 0 0 [] 0,VL.mono tt5 _ _ w35,w36 _,VL.mono tt5 _ _ w37,VL.mono tt6 _ _ w38,w39 _,VL.mono tt6 _ _ w40,w41 _,VL.mono tt6 _ _ w42,w43 _,VL.scal _ false 15 0 0 [] 0,w45 _,VL.scal _ false 15 0 0 [] 0,w47 _,w48 _,trivial⟩
 refine build_parts (es:=9) (cs:=[QfF pos,c1,c2,.bool true::(Zp 11 0 0 d.name++[Ya 0]),c4,c5,c6,c7,.bool false::(Zp 15 0 0 []++[Ya 0]),c9,c10,.bool false::(Zp 16 0 0 []++[Ya 0]),.bool false::(Zp 15 0 0 []++[Ya 0]),c13,emC b6 t6,c15,c16,c17,c18,c19,c20,c21,c22,c23,c24,c25,c26,c27,c28,.bool false::(Zp 13 0 0 []++[Ya 0]),c30,c31,c32,c33,.bool d.parent::(Zp 15 0 0 []++[Ya 0]),c35,c36,c37,c38,c39,c40,c41,c42,c43,.bool false::(Zp 15 0 0 []++[Ya 0]),c45,.bool false::(Zp 15 0 0 []++[Ya 0]),c47,c48]) ?_ (VLs.each hV) rfl rfl ?_
 ·simp only[Qj9,Nat.reduceAdd,Nat.zero_add]
 have e:=e.trans f
 have o2:=o2.ext f
 have e':=(Ext.refl e.inn).pushG (.cells ([QfF pos,c1,c2,.bool true::(Zp 11 0 0 d.name++[Ya 0]),c4,c5,c6,c7,.bool false::(Zp 15 0 0 []++[Ya 0]),c9,c10,.bool false::(Zp 16 0 0 []++[Ya 0]),.bool false::(Zp 15 0 0 []++[Ya 0]),c13,emC b6 t6,c15,c16,c17,c18,c19,c20,c21,c22,c23,c24,c25,c26,c27,c28,.bool false::(Zp 13 0 0 []++[Ya 0]),c30,c31,c32,c33,.bool d.parent::(Zp 15 0 0 []++[Ya 0]),c35,c36,c37,c38,c39,c40,c41,c42,c43,.bool false::(Zp 15 0 0 []++[Ya 0]),c45,.bool false::(Zp 15 0 0 []++[Ya 0]),c47,c48]:List (List Value)).flatten.toArray 74 (0,0))
 have o2:=o2.ext e'
 have hsl:=SlV.built (G:=G138) (b:=H148.size) (et:=74) (VLs.each hV)
 have hvv:VV (G138.upd H148.size (.cells ([QfF pos,c1,c2,.bool true::(Zp 11 0 0 d.name++[Ya 0]),c4,c5,c6,c7,.bool false::(Zp 15 0 0 []++[Ya 0]),c9,c10,.bool false::(Zp 16 0 0 []++[Ya 0]),.bool false::(Zp 15 0 0 []++[Ya 0]),c13,emC b6 t6,c15,c16,c17,c18,c19,c20,c21,c22,c23,c24,c25,c26,c27,c28,.bool false::(Zp 13 0 0 []++[Ya 0]),c30,c31,c32,c33,.bool d.parent::(Zp 15 0 0 []++[Ya 0]),c35,c36,c37,c38,c39,c40,c41,c42,c43,.bool false::(Zp 15 0 0 []++[Ya 0]),c45,.bool false::(Zp 15 0 0 []++[Ya 0]),c47,c48]:List (List Value)).flatten.toArray 74 (0,0))) (mvalue d pos empty) [u8n 15,u8n 0,Ya 0,Yf [],.slice none 0 0,.slice none 0 0,.slice (some ⟨H148.size,0,none⟩) 49 49]:=by
  rw[mvalue,VV]
  exact ⟨_,_,_,rfl,SlV.nil _ 1,⟨[],SlV.nil _ 7,by rw[VVs];trivial⟩,⟨_,hsl,VLs.mono e'.le _ _ hV⟩⟩
 refine Y6 (fill_tab (some ⟨H148.size,0,none⟩) 49 49) ?_
 exact Qf4 (vs:=[u8n 15,u8n 0,Ya 0,Yf [],.slice none 0 0,.slice none 0 0,.slice (some ⟨H148.size,0,none⟩) 49 49]) o2 rfl rfl (by decide) hvv.one (e.trans e') (fun H' e''=>hR _ H' _ e'' hvv)
end Go.Proofs
namespace Go.Proofs
open Go Go.Vc
open Tryz (prog)
def QbN:SV->UInt8
 |.mk k _ _ _ _ _ _=>k
def numV:SV->UInt64
 |.mk _ _ n _ _ _ _=>n
def eqK (k:UInt8) (a b:UInt64):Bool:=
 if k=9 then decide (a=b)||(decide (a.toNat%2^31=0)&&decide (b.toNat%2^31=0))
 else if k=10 then decide (a=b)||(decide (a.toNat%2^63=0)&&decide (b.toNat%2^63=0))
 else decide (a=b)
theorem eqU64 {P:Program} {t:TypeId} {a b:UInt64} (K:Value->Prop):Qk P .eql t (Ya a) (Ya b) K=K (.bool (decide (a=b))):=by
 rw[Yt]
 congr 2
 exact decide_eq_decide.2 ⟨fun h=>UInt64.toNat_inj.1 (by omega),fun h=>by rw[h]⟩
theorem shl_zero {P:Program} {t t2:TypeId} {a:UInt64} {s:Nat} (hs:s=33\/s=1) (K:Value->Prop):(Qk P .shl t (Ya a) (.int .u64 (s:Nat)) fun x=>Qk P .eql t2 x (.int .u64 0) K)=K (.bool (decide (a.toNat%2^(64-s)=0))):=by
 have ha:=a.toNat_lt
 rw[Zi (by omega),Yt]
 congr 2
 apply decide_eq_decide.2
 rcases hs with rfl|rfl
 ·rw[show min (Int.toNat ((33:Nat):Int)) IntKind.u64.bits=33 from rfl]
  simp[IntKind.wrap,IntKind.bits,IntKind.signed]
  omega
 ·rw[show min (Int.toNat ((1:Nat):Int)) IntKind.u64.bits=1 from rfl]
  simp[IntKind.wrap,IntKind.bits,IntKind.signed]
  omega
theorem Equal_ok {k:UInt8} {a b:UInt64} {H:Qe} {R:Kn} (hR:R (.bool (eqK k a b)) H):FnS prog 69 #[u8n k,Ya a,Ya b] H R:=by
 apply w69
 unfold s69
 unfold eqK at hR
 rw[eqU (c:=9) (z:=9) rfl]
 refine Y9 (fun h=>?_) (fun h=>?_)
 ·rw[if_pos (of_decide_eq_true h)]at hR
  rw[eqU64]
  cases hd:decide (a=b)
  ·rw[hd,Bool.false_or]at hR
   simp only[Y0,YY]
   refine Eq.mpr (shl_zero (s:=33) (Or.inl rfl) _) ?_
   cases hz:decide (a.toNat%2^(64-33)=0)
   ·rw[show decide (a.toNat%2^31=0)=false from hz,Bool.false_and]at hR
    simp only[Y8,YY]
    exact hR
   ·rw[show decide (a.toNat%2^31=0)=true from hz,Bool.true_and]at hR
    simp only[QU,Ye]
    refine Eq.mpr (shl_zero (s:=33) (Or.inl rfl) _) ?_
    exact hR
  ·rw[hd,Bool.true_or]at hR
   simp only[Yz,QaO,Ye]
   exact hR
 ·rw[if_neg (of_decide_eq_false h)]at hR
  rw[eqU (c:=10) (z:=10) rfl]
  refine Y9 (fun h=>?_) (fun h=>?_)
  ·rw[if_pos (of_decide_eq_true h)]at hR
   rw[eqU64]
   cases hd:decide (a=b)
   ·rw[hd,Bool.false_or]at hR
    simp only[Y0,YY]
    refine Eq.mpr (shl_zero (s:=1) (Or.inr rfl) _) ?_
    cases hz:decide (a.toNat%2^(64-1)=0)
    ·rw[show decide (a.toNat%2^63=0)=false from hz,Bool.false_and]at hR
     simp only[Y8,YY]
     exact hR
    ·rw[show decide (a.toNat%2^63=0)=true from hz,Bool.true_and]at hR
     simp only[QU,Ye]
     refine Eq.mpr (shl_zero (s:=1) (Or.inr rfl) _) ?_
     exact hR
   ·rw[hd,Bool.true_or]at hR
    simp only[Yz,QaO,Ye]
    exact hR
  ·rw[if_neg (of_decide_eq_false h)]at hR
   rw[eqU64]
   exact hR
end Go.Proofs
namespace Go.Proofs
open Go Go.Vc
open Tryz (prog)
structure WrV (G:Cut) (H:Qe) (w:Nat) (b:List UInt8) (s:Value):Prop where
 inn:G.In H
 gw:H[w]?=some (.cells #[s] 70 (0,0))
 ow:G w=none
 ex:∃B cap rest,s= .slice (some ⟨B,0,none⟩) b.length cap/\H[B]?=some (.cells (u8c (b++rest)) 5 (0,0))/\w≠B/\G B=none/\cap<=b.length+rest.length/\b.length<=cap
def WrC (G:Cut) (H:Qe) (w:Nat) (b:List UInt8):Prop:=∃s,WrV G H w b s
theorem WrV.ext {G G':Cut} {H H':Qe} {w:Nat} {b:List UInt8} {s:Value} (h:WrV G H w b s) (e:Ext G H G' H'):WrV G' H' w b s:=by
 obtain ⟨B,cap,rest,h1,h2,h3,h4,h5,h6⟩:=h.ex
 exact ⟨e.inn,e.keep _ _ h.gw,by rw[e.old _ (Y3 h.gw)];exact h.ow,B,cap,rest,h1,e.keep _ _ h2,h3,by rw[e.old _ (Y3 h2)];exact h4,h5,h6⟩
theorem WrC.ext {G G':Cut} {H H':Qe} {w:Nat} {b:List UInt8} (h:WrC G H w b) (e:Ext G H G' H'):WrC G' H' w b:=by
 obtain ⟨s,h⟩:=h
 exact ⟨s,h.ext e⟩
theorem WrC.inn {G:Cut} {H:Qe} {w:Nat} {b:List UInt8} (h:WrC G H w b):G.In H:=by
 obtain ⟨s,h⟩:=h
 exact h.inn
theorem WrC.weaken {G G':Cut} {H:Qe} {w:Nat} {b:List UInt8} (h:WrC G H w b) (hle:G'.le G):WrC G' H w b:=by
 obtain ⟨s,h⟩:=h
 obtain ⟨B,cap,rest,h1,h2,h3,h4,h5,h6⟩:=h.ex
 have hn:∀q,G q=none->G' q=none:=fun q hq=>by
  cases hg:G' q with
  |none=>rfl
  |some o=>rw[hle _ _ hg]at hq;cases hq
 exact ⟨s,fun q o hq=>h.inn q o (hle _ _ hq),h.gw,hn _ h.ow,B,cap,rest,h1,h2,h3,hn _ h4,h5,h6⟩
theorem zu8:z5=#[.int .u8 0]:=rfl
theorem putL_left {α:Type} {b r xs:List α} {p:Nat} (h:p+xs.length<=b.length):Zt (b++r) p xs=Zt b p xs++r:=by
 rw[Qbq _ _ _ (by rw[List.length_append];omega),Qbq _ _ _ h,List.take_append_of_le_length (by omega),List.drop_append_of_le_length h]
 simp
section
variable {G:Cut} {H:Qe} {w:Nat} {b:List UInt8} {s:Value} (h:WrV G H w b s)
include h
theorem WrV.ld {k:Value->Prop}:LdK H (.pointer (some ⟨w,0,none⟩)) k=k s:=Ql ((Qj h.gw).trans rfl)
theorem WrV.len {k:Value->Prop}:Yv s k=k (.int .i64 (b.length:Nat)):=by
 obtain ⟨B,cap,rest,rfl,_⟩:=h.ex
 rfl
theorem WrV.put {H':Qe} {b':List UInt8} {s':Value} (hG:G.In H') (hw:H'[w]?=some (.cells #[s] 70 (0,0))) (hex:∃B cap rest,s'= .slice (some ⟨B,0,none⟩) b'.length cap/\H'[B]?=some (.cells (u8c (b'++rest)) 5 (0,0))/\w≠B/\G B=none/\cap<=b'.length+rest.length/\b'.length<=cap) {k:Qe->Prop} (hk:∀H2 s2,WrV G H2 w b' s2->k H2):
  Q3 (ptr w) fun c=>Qg c 0 fun q=>StK H' 1 q s' k:=by
 obtain ⟨B,cap,rest,rfl,h2,h3,h4,h5,h6⟩:=hex
 rw[Qs,Qm,Qas hw (by simp) (by simp) rfl]
 refine hk _ (.slice (some ⟨B,0,none⟩) b'.length cap) ⟨fun q o hq=>?_,QV hw,h.ow,B,cap,rest,rfl,?_,h3,h4,h5,h6⟩
 ·rw[Qw (fun e=>by rw[e,h.ow]at hq;cases hq)];exact hG _ _ hq
 ·rw[Qw (Ne.symm h3)];exact h2
theorem WrV.grow {xs:List UInt8} (hl:b.length+xs.length<2147483648) {k:Qe->Prop} (hk:∀H2 s2,WrV G H2 w (b++xs) s2->k H2):
  ∃B cap,s= .slice (some ⟨B,0,none⟩) b.length cap/\Zf H ⟨B,0,none⟩ 0 b.length=some (b.map u8V)/\
   (b.length+xs.length<=cap->∃H',setN H (Addr.add ⟨B,0,none⟩ (b.length*1)) 0 (xs.map u8V)=some H'/\Q3 (ptr w) fun c=>Qg c 0 fun q=>StK H' 1 q (.slice (some ⟨B,0,none⟩) (b.length+xs.length) cap) k)/\
   (∀c,b.length+xs.length<=c->Q3 (ptr w) fun c'=>Qg c' 0 fun q=>StK (H.push (.cells (u8c (b++xs++List.replicate (c-(b.length+xs.length)) 0)) 5)) 1 q (.slice (some ⟨H.size,0,none⟩) (b.length+xs.length) c) k):=by
 obtain ⟨B,cap,rest,h1,h2,h3,h4,h5,h6⟩:=h.ex
 refine ⟨B,cap,h1,?_,fun hc=>?_,fun c hc=>?_⟩
 ·rw[QeV h2 (by rw[List.length_append];omega),List.drop_zero,List.take_left]
 ·refine ⟨_,by rw[QeC,Nat.zero_add,Nat.mul_one];exact setN_u8 h2 (by rw[List.length_append];omega),?_⟩
  have e:Zt (b++rest) b.length xs=(b++xs)++rest.drop xs.length:=by
   rw[Qbq _ _ _ (by rw[List.length_append];omega),List.take_left,List.drop_append,List.drop_eq_nil_of_le (by omega),List.nil_append,show b.length+xs.length-b.length=xs.length by omega]
  rw[e]
  refine h.put (b':=b++xs) (fun q o hq=>?_) ?_ ⟨B,cap,rest.drop xs.length,by rw[List.length_append],wr_get h2,h3,h4,by rw[List.length_append,List.length_drop];omega,by rw[List.length_append];omega⟩ hk
  ·rw[wr_ne (fun e=>by rw[e,h4]at hq;cases hq)];exact h.inn _ _ hq
  ·rw[wr_ne h3];exact h.gw
 ·refine h.put (b':=b++xs) (h.inn.push _) (Yy h.gw) ⟨H.size,c,_,by rw[List.length_append],Qh,by have:=Y3 h.gw;omega,h.inn.none (Nat.le_refl _),by rw[List.length_append,List.length_replicate];omega,by rw[List.length_append];omega⟩ hk
theorem WrV.app {xs:List UInt8} {y yc:Nat} {te:TypeId} {fr:Nat×Nat} (hy:H[y]?=some (.cells (u8c xs) te fr)) (hl:b.length+xs.length<2147483648) {k:Qe->Prop} (hk:∀H2 s2,WrV G H2 w (b++xs) s2->k H2):
  Qbs H 5 1 1 z5 s (.slice (some ⟨y,0,none⟩) xs.length yc) fun s' h3=>Q3 (ptr w) fun c=>Qg c 0 fun q=>StK h3 1 q s' k:=by
 obtain ⟨B,cap,rfl,h1,h2,h3⟩:=h.grow hl hk
 have hnew:Qgs H (xs.length*1) (.slice (some ⟨y,0,none⟩) xs.length yc)=some (xs.map u8V):=by
  show Zf H ⟨y,0,none⟩ 0 (xs.length*1)=_
  rw[Nat.mul_one,QeV hy (by omega),List.drop_zero,List.take_length]
 refine ⟨fun hc=>⟨_,hnew,h2 hc⟩,fun hc=>⟨by decide,by omega,b.map u8V,xs.map u8V,?_,hnew,fun c hc1 _=>?_⟩⟩
 ·show Zf H ⟨B,0,none⟩ 0 (b.length*1)=_
  rw[Nat.mul_one];exact h1
 ·rw[zero_u8 zu8,<-List.map_append,u8V_arr,QgA]
  exact h3 c hc1
theorem WrV.appz {m:Nat} (hl:b.length+m<2147483648) {k:Qe->Prop} (hk:∀H2 s2,WrV G H2 w (b++List.replicate m 0) s2->k H2):
  AppZK H 5 1 1 z5 s (.int .i64 (m:Nat)) fun s' h3=>Q3 (ptr w) fun c=>Qg c 0 fun q=>StK h3 1 q s' k:=by
 obtain ⟨B,cap,rfl,h1,h2,h3⟩:=h.grow (xs:=List.replicate m 0) (by rw[List.length_replicate];exact hl) hk
 simp only[List.length_replicate]at h2 h3
 have hz:(Builtin.zeroCells z5 m).toList=(List.replicate m (0:UInt8)).map u8V:=by rw[zero_u8 zu8];simp[u8c]
 refine ⟨by omega,by omega,by decide,fun hc=>?_,fun hc=>⟨by rw[Int.toNat_natCast];omega,b.map u8V,?_,fun c hc1 _=>?_⟩⟩
 ·rw[Int.toNat_natCast]at hc
  rw[Int.toNat_natCast,hz]
  exact h2 hc
 ·show Zf H ⟨B,0,none⟩ 0 (b.length*1)=_
  rw[Nat.mul_one];exact h1
 ·rw[Int.toNat_natCast]at hc1⊢
  rw[zero_u8 zu8,zero_u8 zu8,u8V_arr,QgA,QgA]
  exact h3 c hc1
theorem WrV.copy {xs:List UInt8} {p:Nat} (hp:p+xs.length<=b.length) (hl:b.length<2147483648) {K:Value->(Value->Prop)->Prop} {k:Kn} (hk:∀v H2 s2,WrV G H2 w (Zt b p xs) s2->k v H2) (hK:∀d (kk:Value->Prop),kk (Yf xs)->K d kk):
  Qey 1 s (some (.int .i64 (p:Nat))) none fun d=>K d fun y=>Qh5 H 1 d y k:=by
 obtain ⟨B,cap,rest,rfl,h2,h3,h4,h5,h6⟩:=h.ex
 refine ⟨by omega,by show (p:Int)<=(b.length:Int);omega,by show (b.length:Int)<=(cap:Int);omega,hK _ _ ?_⟩
 have hmin:Nat.min (lenV (Yf xs)) (b.length-p)=xs.length:=by
  rw[show lenV (Yf xs)=xs.length from Qau xs]
  exact Nat.min_eq_left (by omega)
 have hn:(Int.toNat (b.length:Int))-(Int.toNat ((p:Nat):Int))=b.length-p:=by rw[Int.toNat_natCast,Int.toNat_natCast]
 have hnew:QhN H 1 xs.length (Yf xs)=some (xs.map u8V):=by
  show some (Z2 ((ByteArray.mk xs.toArray).extract 0 xs.length)).toList=_
  have:(ByteArray.mk xs.toArray).extract 0 xs.length=ByteArray.mk xs.toArray:=by
   apply ByteArray.ext
   rw[ByteArray.data_extract]
   simp
  rw[this]
  simp[Z2]
 have fin:∀v,k v (wr H B 5 (Zt (b++rest) p xs)):=fun v=>by
  refine hk v _ (.slice (some ⟨B,0,none⟩) b.length cap) ⟨fun q o hq=>?_,?_,h.ow,B,cap,rest,by rw[Q7],?_,h3,h4,by rw[Q7];exact h5,by rw[Q7];exact h6⟩
  ·rw[wr_ne (fun e=>by rw[e,h4]at hq;cases hq)];exact h.inn _ _ hq
  ·rw[wr_ne h3];exact h.gw
  ·rw[<-putL_left hp];exact wr_get h2
 show Qh5 H 1 (.slice (if cap=Int.toNat ((p:Nat):Int) then some ⟨B,0,none⟩ else (some ⟨B,0,none⟩:Option Addr).map (·.add (Int.toNat ((p:Nat):Int)*1))) (Int.toNat (b.length:Int)-Int.toNat ((p:Nat):Int)) (cap-Int.toNat ((p:Nat):Int))) (Yf xs) k
 rw[hn,Int.toNat_natCast]
 by_cases hc:cap=p
 ·have hx:xs=[]:=List.length_eq_zero_iff.1 (by omega)
  subst hx
  rw[if_pos hc]
  refine ⟨[],by rw[hmin];exact hnew,H,rfl,?_⟩
  have:=fin (.int .i64 (Nat.min (lenV (Yf [])) (b.length-p)))
  have e:wr H B 5 (Zt (b++rest) p [])=H:=by
   rw[show Zt (b++rest) p []=b++rest from rfl];exact QdC h2
  rw[e]at this
  exact this
 ·rw[if_neg hc]
  refine ⟨xs.map u8V,by rw[hmin];exact hnew,_,?_,fin _⟩
  show setN H (Addr.add ⟨B,0,none⟩ (p*1)) 0 (xs.map u8V)=_
  rw[QeC,Nat.zero_add,Nat.mul_one]
  exact setN_u8 h2 (by rw[List.length_append];omega)
end
theorem Qhe {G:Cut} {H:Qe} {w:Nat} {b:List UInt8} (h:WrC G H w b) {p k:Nat} {n:UInt64} (hk:k<=8) (hp:p+k<=b.length) (hl:b.length<2147483648) {R:Kn} (hR:∀v H',WrC G H' w (Zt b p (leB (n.toNat:Int) k))->R v H'):
  FnS prog 20 #[ptr w,.int .i64 (p:Nat),Ya n,.int .i64 (k:Nat)] H R:=by
 obtain ⟨s,h⟩:=h
 apply w20
 unfold s20
 rw[Qs,Qm,h.ld]
 obtain ⟨B,cap,rest,rfl,h2,h3,h4,h5,h6⟩:=h.ex
 refine ⟨by omega,by show (p:Int)<=(b.length:Int);omega,by show (b.length:Int)<=(cap:Int);omega,?_⟩
 refine Qdq hk h.inn fun H1 e1=>Qn e1.keep.ext ?_
 have hc:=(h.ext e1).copy (xs:=leB (n.toNat:Int) k) (p:=p) (by rw[Qf];exact hp) hl (K:=fun d kk=>kk (Yf (leB (n.toNat:Int) k))) (k:=fun _ h2=>R (.tuple #[]) h2) (fun v H2 s2 hw=>hR _ _ ⟨s2,hw⟩) (fun d kk hkk=>hkk)
 exact hc.2.2.2
theorem padOf_uniq {s n j m:Nat} (hs:s=1\/s=2\/s=4\/s=8) (hj:j+m=padOf s n) (h:(n+j)%s=0):m=0:=by
 have h1:=Zr (size:=s) (n:=n) (by omega)
 have h2:=QeY (size:=s) (n:=n) (by omega)
 rcases hs with rfl|rfl|rfl|rfl<;>omega
theorem padOf_more {s n j m:Nat} (hs:s=1\/s=2\/s=4\/s=8) (hj:j+m=padOf s n) (h:(n+j)%s≠0):0<m:=by
 have h2:=QeY (size:=s) (n:=n) (by omega)
 rcases Nat.eq_zero_or_pos m with h0|h0
 ·exact absurd (by rw[show j=padOf s n by omega];exact h2) h
 ·exact h0
theorem QgB {G:Cut} {H:Qe} {w:Nat} {b:List UInt8} (h:WrC G H w b) {s:Nat} (hs:s=1\/s=2\/s=4\/s=8) (hl:b.length<1073741824) {R:Kn} (hR:∀v H',WrC G H' w (b++List.replicate (padOf s b.length) 0)->R v H'):
  FnS prog 68 #[ptr w,.int .i64 (s:Nat)] H R:=by
 have hpl:=Zr (size:=s) (n:=b.length) (by omega)
 apply w68
 unfold s68
 refine ⟨fun m vs H'=>vs=[]/\∃j,j+m=padOf s b.length/\WrC G H' w (b++List.replicate j 0),⟨padOf s b.length,rfl,0,by omega,by simpa using h⟩,?_⟩
 rintro m H1 ⟨_,j,hj,s1,h1⟩
 have hrem:∀k:Value->Prop,Qk prog .rem 3 (.int .i64 ((b++List.replicate j (0:UInt8)).length:Nat)) (.int .i64 (s:Nat)) k=k (.int .i64 (((b.length+j)%s:Nat):Int)):=fun k=>by
  rw[BinK_rem (by omega),Int.tmod_eq_emod_of_nonneg (by omega),List.length_append,List.length_replicate]
  rfl
 rw[Qs,Qm,h1.ld,h1.len,hrem,Yp]
 refine Zd (fun hne=>?_) (fun hne=>?_)
 ·have hm:=padOf_more hs hj (by omega)
  rw[Qs,Qm,h1.ld]
  unfold Q8
  show (H1.push (.cells (u8c [0]) 5 (0,0)) |> fun h2=>Qbs h2 5 1 1 z5 s1 (.slice (some ⟨H1.size,0,none⟩) 1 1) _)
  have e:=(Ext.refl h1.inn).push (.cells (u8c [0]) 5 (0,0))
  refine (h1.ext e).app (xs:=[0]) Qh (by simp;omega) ?_
  intro H2 s2 h2
  refine ⟨m-1,by omega,rfl,j+1,by omega,s2,?_⟩
  rw[List.append_assoc,show ([0]:List UInt8)=List.replicate 1 0 from rfl,List.replicate_append_replicate]at h2
  exact h2
 ·have hm:=padOf_uniq hs hj (by omega)
  subst hm
  rw[show j=padOf s b.length by omega]at h1
  exact hR _ _ ⟨s1,h1⟩
end Go.Proofs
namespace Go.Proofs
open Go Go.Vc
open Tryz (prog)
theorem putL_get {b ys:List UInt8} {q i:Nat} (hq:q+ys.length<=b.length) (h:i<q\/q+ys.length<=i):(Zt b q ys)[i]?=b[i]?:=by
 rw[Qbq _ _ _ hq]
 rcases h with h|h
 ·rw[List.append_assoc,List.getElem?_append_left (by rw[List.length_take];omega),List.getElem?_take,if_pos h]
 ·rw[List.getElem?_append_right (by rw[List.length_append,List.length_take];omega),List.getElem?_drop]
  congr 1
  rw[List.length_append,List.length_take];omega
theorem putL_in {b ys:List UInt8} {q j:Nat} (hq:q+ys.length<=b.length) (h:j<ys.length):(Zt b q ys)[q+j]?=ys[j]?:=by
 rw[Qbq _ _ _ hq,List.append_assoc,List.getElem?_append_right (by rw[List.length_take];omega),List.getElem?_append_left (by rw[List.length_take];omega)]
 congr 1
 rw[List.length_take];omega
theorem Qx.iff {b xs:List UInt8} {p:Nat}:Qx b p xs↔p+xs.length<=b.length/\∀i,i<xs.length->b[p+i]?=xs[i]?:=by
 constructor
 ·rintro ⟨h1,h2⟩
  refine ⟨h1,fun i hi=>?_⟩
  rw[<-List.getElem?_drop,<-congrArg (fun l=>l[i]?) h2]
  show (b.drop p)[i]?=((b.drop p).take xs.length)[i]?
  rw[List.getElem?_take,if_pos hi]
 ·rintro ⟨h1,h2⟩
  refine ⟨h1,?_⟩
  apply List.ext_getElem?
  intro i
  rw[List.getElem?_take]
  split
  ·rename_i h;rw[List.getElem?_drop];exact h2 i h
  ·rename_i h;rw[List.getElem?_eq_none (by omega)]
theorem Qx.put_ne {b xs ys:List UInt8} {p q:Nat} (h:Qx b p xs) (hq:q+ys.length<=b.length) (hd:q+ys.length<=p\/p+xs.length<=q):Qx (Zt b q ys) p xs:=by
 rw[Qx.iff]at h⊢
 refine ⟨by rw[Q7];exact h.1,fun i hi=>?_⟩
 rw[putL_get hq (by omega)]
 exact h.2 i hi
theorem Qx.put_eq {b ys:List UInt8} {q:Nat} (hq:q+ys.length<=b.length):Qx (Zt b q ys) q ys:=by
 rw[Qx.iff]
 exact ⟨by rw[Q7];exact hq,fun i hi=>putL_in hq hi⟩
theorem Qx.app {b xs:List UInt8} {p:Nat} (h:Qx b p xs) (r:List UInt8):Qx (b++r) p xs:=by
 rw[Qx.iff]at h⊢
 refine ⟨by rw[List.length_append];omega,fun i hi=>?_⟩
 rw[List.getElem?_append_left (by omega)]
 exact h.2 i hi
theorem Qx.zeros {b:List UInt8} {p k m:Nat} (h1:b.length<=p) (h2:p+k<=b.length+m):Qx (b++List.replicate m 0) p (List.replicate k 0):=by
 rw[Qx.iff]
 refine ⟨by rw[List.length_append,List.length_replicate,List.length_replicate];exact h2,fun i hi=>?_⟩
 rw[List.length_replicate]at hi
 rw[List.getElem?_append_right (by omega),List.getElem?_replicate,List.getElem?_replicate,if_pos (by omega),if_pos (by omega)]
theorem putL_right {b x ys:List UInt8} {q:Nat} (h1:b.length<=q) (h2:q+ys.length<=b.length+x.length):Zt (b++x) q ys=b++Zt x (q-b.length) ys:=by
 rw[Qbq _ _ _ (by rw[List.length_append];exact h2),Qbq _ _ _ (by omega),List.take_append,List.take_of_length_le h1,List.drop_append,List.drop_eq_nil_of_le (by omega)]
 simp
 omega
def Agr (lo:Nat) (b F:List UInt8):Prop:=b.length<=F.length/\∀i,lo<=i->i<b.length->F[i]?=b[i]?
theorem Agr.trans {lo:Nat} {a b c:List UInt8} (h:Agr lo a b) (k:Agr lo b c):Agr lo a c:=⟨Nat.le_trans h.1 k.1,fun i h1 h2=>by rw[k.2 i h1 (Nat.lt_of_lt_of_le h2 h.1),h.2 i h1 h2]⟩
theorem Agr.mono {lo lo':Nat} {a b:List UInt8} (h:Agr lo a b) (hl:lo<=lo'):Agr lo' a b:=⟨h.1,fun i h1 h2=>h.2 i (Nat.le_trans hl h1) h2⟩
theorem Agr.app (lo:Nat) (b r:List UInt8):Agr lo b (b++r):=⟨by rw[List.length_append];omega,fun i _ h2=>List.getElem?_append_left h2⟩
theorem Agr.put {lo q:Nat} {b ys:List UInt8} (hq:q+ys.length<=b.length) (h:q+ys.length<=lo):Agr lo b (Zt b q ys):=⟨by rw[Q7];exact Nat.le_refl _,fun i h1 _=>putL_get hq (by omega)⟩
theorem Qx.agr {lo p:Nat} {b F xs:List UInt8} (h:Qx b p xs) (hl:lo<=p) (ha:Agr lo b F):Qx F p xs:=by
 rw[Qx.iff]at h⊢
 refine ⟨Nat.le_trans h.1 ha.1,fun i hi=>?_⟩
 rw[ha.2 _ (by omega) (by omega)]
 exact h.2 i hi
def stoB (has:Bool) (v:SV) (d:UInt64):Prop:=has=true/\¬(QbN v<=10/\eqK (QbN v) (numV v) d=true)
instance (has:Bool) (v:SV) (d:UInt64):Decidable (stoB has v d):=by unfold stoB;infer_instance
def textV:SV->List UInt8
 |.mk _ _ _ t _ _ _=>t
mutual
def Qjg:SV->List UInt8->Nat->Prop
 |.mk kind elem _ text nums kids slots,bs,t=>
  if kind=15 then ∃vt,VT bs t vt/\LsW slots bs t vt 0
  else if kind=11\/kind=12 then t+4+text.length<bs.length/\le4 bs t=text.length/\Qx bs (t+4) text
  else if kind=13 then le4 bs t=nums.length/\Qx bs (t+4) ((nums.map fun x=>leB (x.toNat:Int) (sizeK elem)).flatten)
  else t+4+4*kids.length<=bs.length/\le4 bs t=kids.length/\KsW kids bs (t+4)
def KsW:List SV->List UInt8->Nat->Prop
 |[],_,_=>True
 |k::ks,bs,p=>(p+4<=bs.length/\tgt bs p<=bs.length/\Qjg k bs (tgt bs p))/\KsW ks bs (p+4)
def LsW:List SL->List UInt8->Nat->Nat->Nat->Prop
 |[],_,_,_,_=>True
 |l::ls,bs,pos,vt,j=>LW l bs pos vt j/\LsW ls bs pos vt (j+1)
def LW:SL->List UInt8->Nat->Nat->Nat->Prop
 |.mk has v d,bs,pos,vt,j=>
  if stoB has v d then slotAt bs vt (4+2*j)≠0/\(if QbN v<=10 then Qx bs (pos+slotAt bs vt (4+2*j)) (leB ((numV v).toNat:Int) (sizeK (QbN v)))
   else if QbN v=17 then Qx bs (pos+slotAt bs vt (4+2*j)) (textV v)
   else pos+slotAt bs vt (4+2*j)+4<=bs.length/\tgt bs (pos+slotAt bs vt (4+2*j))<=bs.length/\Qjg v bs (tgt bs (pos+slotAt bs vt (4+2*j))))
  else slotAt bs vt (4+2*j)=0
end
mutual
def WfV:SV->Prop
 |.mk kind elem _ text nums kids slots=>kind<=17/\(kind=17->text.length<=64/\(elem=1\/elem=2\/elem=4\/elem=8))/\nums.length<=100/\kids.length<=100/\slots.length<=100/\WfVs kids/\QhJ slots
def WfVs:List SV->Prop
 |[]=>True
 |k::ks=>(11<=QbN k/\QbN k<=16/\WfV k)/\WfVs ks
def WfL:SL->Prop
 |.mk _ v _=>WfV v
def QhJ:List SL->Prop
 |[]=>True
 |l::ls=>WfL l/\QhJ ls
end
mutual
def Qc8:SV->Nat
 |.mk _ _ _ text nums kids slots=>64+text.length+8*nums.length+ZD kids+Z5 slots
def ZD:List SV->Nat
 |[]=>0
 |k::ks=>4+Qc8 k+ZD ks
def Qcn:SL->Nat
 |.mk _ v _=>96+Qc8 v
def Z5:List SL->Nat
 |[]=>0
 |l::ls=>Qcn l+Z5 ls
end
theorem WfVs.get:∀{vs:List SV},WfVs vs->∀v∈vs,11<=QbN v/\QbN v<=16/\WfV v
 |[],_,v,h=>by simp at h
 |v'::vs,hs,v,h=>by
  rw[WfVs]at hs
  rcases List.mem_cons.1 h with rfl|h
  ·exact hs.1
  ·exact WfVs.get hs.2 v h
theorem QhJ.get:∀{vs:List SL},QhJ vs->∀v∈vs,WfL v
 |[],_,v,h=>by simp at h
 |v'::vs,hs,v,h=>by
  rw[QhJ]at hs
  rcases List.mem_cons.1 h with rfl|h
  ·exact hs.1
  ·exact QhJ.get hs.2 v h
theorem KsW_of:∀{ks:List SV} {bs:List UInt8} {p:Nat},(∀i k,ks[i]?=some k->p+4*i+4<=bs.length/\tgt bs (p+4*i)<=bs.length/\Qjg k bs (tgt bs (p+4*i)))->KsW ks bs p
 |[],_,_,_=>by rw[KsW];trivial
 |k::ks,bs,p,h=>by
  rw[KsW]
  refine ⟨by have:=h 0 k rfl;simpa using this,KsW_of fun i k' hk=>?_⟩
  have:=h (i+1) k' (by simpa using hk)
  rwa [show p+4*(i+1)=p+4+4*i by omega]at this
theorem LsW_of:∀{ls:List SL} {bs:List UInt8} {pos vt j:Nat},(∀i l,ls[i]?=some l->LW l bs pos vt (j+i))->LsW ls bs pos vt j
 |[],_,_,_,_,_=>by rw[LsW];trivial
 |l::ls,bs,pos,vt,j,h=>by
  rw[LsW]
  refine ⟨h 0 l rfl,LsW_of fun i l' hl=>?_⟩
  have:=h (i+1) l' (by simpa using hl)
  rwa [show j+(i+1)=j+1+i by omega]at this
theorem le4_v {bs:List UInt8} {p n:Nat} (h:Qx bs p (leB (n:Int) 4)) (hn:n<4294967296):le4 bs p=n:=by rw[QhG h];omega
theorem le2_v {bs:List UInt8} {p n:Nat} (h:Qx bs p (leB (n:Int) 2)) (hn:n<65536):le2 bs p=n:=by rw[leB2_at h];omega
def Qhd (v:SV):Prop:=11<=QbN v->QbN v<=16->WfV v->∀(G:Cut) (H:Qe) (w:Nat) (b:List UInt8) (cells:List Value) (R:Kn),WrC G H w b->VV G v cells->b.length+Qc8 v<=1000000000->
 (∀H' x p,WrC G H' w (b++x)->x.length<=Qc8 v->b.length<=p->p+4<=b.length+x.length->(∀F,Agr b.length (b++x) F->F.length<2147483648->Qjg v F p)->R (.int .i64 (p:Nat)) H')->FnS prog 71 #[ptr w,.agg cells.toArray] H R
def WriteL:SL->Prop
 |.mk _ v _=>Qhd v
def TabC (slots:List SL):Prop:=∀(G:Cut) (H:Qe) (w:Nat) (b:List UInt8) (cells:List Value) (R:Kn) kind elem num text nums kids,WrC G H w b->VV G (.mk kind elem num text nums kids slots) cells->QhJ slots->slots.length<=100->b.length+64+Z5 slots<=1000000000->
 (∀H' x p,WrC G H' w (b++x)->x.length<=64+Z5 slots->b.length<=p->p+4<=b.length+x.length->(∀F,Agr b.length (b++x) F->F.length<2147483648->∃vt,VT F p vt/\LsW slots F p vt 0)->R (.int .i64 (p:Nat)) H')->FnS prog 19 #[ptr w,.agg cells.toArray] H R
end Go.Proofs
namespace Go.Proofs
open Go Go.Vc
open Tryz (prog)
def vecTail (x0 x3 x6 x5:Value) (h5:Qe) (R:Kn):Prop:=
 Qa prog 68 #[x0,(.int .i64 4)] h5 fun _x39 h6=>
 QD (fun M3=>
 Yu [] h6 fun I4 n5=>∀h7:Qe,I4 n5 [] h7->
 Q3 x0 fun x41=>
 Qg x41 0 fun x42=>
 LdK h7 x42 fun x43=>
 Yv x43 fun x44=>
 Qk prog .add 3 x44 (.int .i64 4) fun x45=>
 Qk prog .rem 3 x45 x5 fun x47=>
 Qk prog .neq 3 x47 (.int .i64 0) fun x48=>
 IfK x48
 (Q3 x0 fun x51=>
 Qg x51 0 fun x52=>
 LdK h7 x52 fun x53=>
 Q8 h7 5 4 (YV z5.toList 4) [(0,1,(.int .u8 0)),(1,1,(.int .u8 0)),(2,1,(.int .u8 0)),(3,1,(.int .u8 0))] fun x54 h8=>
 Qbs h8 5 1 1 z5 x53 x54 fun x55 h9=>
 Q3 x0 fun x56=>
 Qg x56 0 fun x57=>
 StK h9 1 x57 x55 fun h10=>
 QS I4 n5 [] h10)
 (M3 [] h7)) fun M3=>∀h11:Qe,M3 [] h11->
 Q3 x0 fun x59=>
 Qg x59 0 fun x60=>
 LdK h11 x60 fun x61=>
 Yv x61 fun x62=>
 Q3 x0 fun x65=>
 Qg x65 0 fun x66=>
 LdK h11 x66 fun x67=>
 Qk prog .mul 3 x5 x6 fun x70=>
 Qk prog .add 3 (.int .i64 4) x70 fun x71=>
 AppZK h11 5 1 1 z5 x67 x71 fun x72 h12=>
 Q3 x0 fun x73=>
 Qg x73 0 fun x74=>
 StK h12 1 x74 x72 fun h13=>
 QK .u64 x6 fun x78=>
 Qa prog 20 #[x0,x62,x78,(.int .i64 4)] h13 fun _x79 h14=>
 QD (fun M6=>
 Qg x3 0 fun x80=>
 LdK h14 x80 fun x81=>
 QD (fun M7=>
 Qk prog .eql 5 x81 (.int .u8 11) fun x110=>
 IfK x110
 (M7 [x110] h14)
 (Qk prog .eql 5 x81 (.int .u8 12) fun x111=>
 M7 [x111] h14)) fun M7=>∀x109:Value,∀h15:Qe,M7 [x109] h15->
 IfK x109
 (Q3 x0 fun x113=>
 Qg x113 0 fun x114=>
 LdK h15 x114 fun x115=>
 Qk prog .add 3 x62 (.int .i64 4) fun x117=>
 Qey 1 x115 (some x117) none fun x118=>
 Qg x3 3 fun x119=>
 LdK h15 x119 fun x120=>
 Qh5 h15 1 x118 x120 fun _x121 h16=>
 Q3 x0 fun x124=>
 Qg x124 0 fun x125=>
 LdK h16 x125 fun x126=>
 Q8 h16 5 1 (YV z5.toList 1) [(0,1,(.int .u8 0))] fun x127 h17=>
 Qbs h17 5 1 1 z5 x126 x127 fun x128 h18=>
 Q3 x0 fun x129=>
 Qg x129 0 fun x130=>
 StK h18 1 x130 x128 fun h19=>
 M6 [x109] h19)
 (Qk prog .eql 5 x81 (.int .u8 13) fun x132=>
 IfK x132
 (Qg x3 4 fun x133=>
 LdK h15 x133 fun x134=>
 Yv x134 fun x135=>
 Yu [(.int .i64 0)] h15 fun I8 n9=>∀x136:Value,∀h20:Qe,I8 n9 [x136] h20->
 Qk prog .lss 3 x136 x135 fun x137=>
 IfK x137
 (Y1 1 x134 x136 fun x139=>
 LdK h20 x139 fun x140=>
 Qk prog .add 3 x62 (.int .i64 4) fun x143=>
 Qk prog .mul 3 x5 x136 fun x146=>
 Qk prog .add 3 x143 x146 fun x147=>
 Qa prog 20 #[x0,x147,x140,x5] h20 fun _x150 h21=>
 Qk prog .add 3 x136 (.int .i64 1) fun x151=>
 QS I8 n9 [x151] h21)
 (M6 [x109] h20))
 (Qg x3 5 fun x82=>
 LdK h15 x82 fun x83=>
 Yv x83 fun x84=>
 Yu [(.int .i64 0)] h15 fun I10 n11=>∀x85:Value,∀h22:Qe,I10 n11 [x85] h22->
 Qk prog .lss 3 x85 x84 fun x86=>
 IfK x86
 (Y1 7 x83 x85 fun x88=>
 LdN h22 7 x88 fun x89=>
 Y5 h22 (.cells z45 45) fun x11 h23=>
 StK h23 7 x11 x89 fun h24=>
 LdN h24 7 x11 fun x91=>
 Qa prog 71 #[x0,x91] h24 fun x92 h25=>
 Qk prog .add 3 x62 (.int .i64 4) fun x95=>
 Qk prog .mul 3 (.int .i64 4) x85 fun x97=>
 Qk prog .add 3 x95 x97 fun x98=>
 Qk prog .sub 3 x92 x62 fun x101=>
 Qk prog .sub 3 x101 (.int .i64 4) fun x102=>
 Qk prog .mul 3 (.int .i64 4) x85 fun x104=>
 Qk prog .sub 3 x102 x104 fun x105=>
 QK .u64 x105 fun x106=>
 Qa prog 20 #[x0,x98,x106,(.int .i64 4)] h25 fun _x107 h26=>
 Qk prog .add 3 x85 (.int .i64 1) fun x108=>
 QS I10 n11 [x108] h26)
 (M6 [x109] h22)))) fun M6=>∀x109_1:Value,∀h27:Qe,M6 [x109_1] h27->
 R x62 h27
def Qhl (x0 x3 x5 x62:Value) (h14:Qe) (R:Kn):Prop:=
 QD (fun M6=>
 Qg x3 0 fun x80=>
 LdK h14 x80 fun x81=>
 QD (fun M7=>
 Qk prog .eql 5 x81 (.int .u8 11) fun x110=>
 IfK x110
 (M7 [x110] h14)
 (Qk prog .eql 5 x81 (.int .u8 12) fun x111=>
 M7 [x111] h14)) fun M7=>∀x109:Value,∀h15:Qe,M7 [x109] h15->
 IfK x109
 (Q3 x0 fun x113=>
 Qg x113 0 fun x114=>
 LdK h15 x114 fun x115=>
 Qk prog .add 3 x62 (.int .i64 4) fun x117=>
 Qey 1 x115 (some x117) none fun x118=>
 Qg x3 3 fun x119=>
 LdK h15 x119 fun x120=>
 Qh5 h15 1 x118 x120 fun _x121 h16=>
 Q3 x0 fun x124=>
 Qg x124 0 fun x125=>
 LdK h16 x125 fun x126=>
 Q8 h16 5 1 (YV z5.toList 1) [(0,1,(.int .u8 0))] fun x127 h17=>
 Qbs h17 5 1 1 z5 x126 x127 fun x128 h18=>
 Q3 x0 fun x129=>
 Qg x129 0 fun x130=>
 StK h18 1 x130 x128 fun h19=>
 M6 [x109] h19)
 (Qk prog .eql 5 x81 (.int .u8 13) fun x132=>
 IfK x132
 (Qg x3 4 fun x133=>
 LdK h15 x133 fun x134=>
 Yv x134 fun x135=>
 Yu [(.int .i64 0)] h15 fun I8 n9=>∀x136:Value,∀h20:Qe,I8 n9 [x136] h20->
 Qk prog .lss 3 x136 x135 fun x137=>
 IfK x137
 (Y1 1 x134 x136 fun x139=>
 LdK h20 x139 fun x140=>
 Qk prog .add 3 x62 (.int .i64 4) fun x143=>
 Qk prog .mul 3 x5 x136 fun x146=>
 Qk prog .add 3 x143 x146 fun x147=>
 Qa prog 20 #[x0,x147,x140,x5] h20 fun _x150 h21=>
 Qk prog .add 3 x136 (.int .i64 1) fun x151=>
 QS I8 n9 [x151] h21)
 (M6 [x109] h20))
 (Qg x3 5 fun x82=>
 LdK h15 x82 fun x83=>
 Yv x83 fun x84=>
 Yu [(.int .i64 0)] h15 fun I10 n11=>∀x85:Value,∀h22:Qe,I10 n11 [x85] h22->
 Qk prog .lss 3 x85 x84 fun x86=>
 IfK x86
 (Y1 7 x83 x85 fun x88=>
 LdN h22 7 x88 fun x89=>
 Y5 h22 (.cells z45 45) fun x11 h23=>
 StK h23 7 x11 x89 fun h24=>
 LdN h24 7 x11 fun x91=>
 Qa prog 71 #[x0,x91] h24 fun x92 h25=>
 Qk prog .add 3 x62 (.int .i64 4) fun x95=>
 Qk prog .mul 3 (.int .i64 4) x85 fun x97=>
 Qk prog .add 3 x95 x97 fun x98=>
 Qk prog .sub 3 x92 x62 fun x101=>
 Qk prog .sub 3 x101 (.int .i64 4) fun x102=>
 Qk prog .mul 3 (.int .i64 4) x85 fun x104=>
 Qk prog .sub 3 x102 x104 fun x105=>
 QK .u64 x105 fun x106=>
 Qa prog 20 #[x0,x98,x106,(.int .i64 4)] h25 fun _x107 h26=>
 Qk prog .add 3 x85 (.int .i64 1) fun x108=>
 QS I10 n11 [x108] h26)
 (M6 [x109] h22)))) fun M6=>∀x109_1:Value,∀h27:Qe,M6 [x109_1] h27->
 R x62 h27
theorem WrC.pushG {G:Cut} {H:Qe} {w:Nat} {b:List UInt8} (h:WrC G H w b) (o:Obj):WrC (G.upd H.size o) (H.push o) w b:=h.ext ((Ext.refl h.inn).pushG o)
def Pre (b c:List UInt8):Prop:=∃x,c=b++x
theorem Pre.len {b c:List UInt8} (h:Pre b c):b.length<=c.length:=by
 obtain ⟨x,rfl⟩:=h
 rw[List.length_append];omega
theorem Pre.app {b c:List UInt8} (h:Pre b c) (r:List UInt8):Pre b (c++r):=by
 obtain ⟨x,rfl⟩:=h
 exact ⟨x++r,by rw[List.append_assoc]⟩
theorem Pre.put {b c ys:List UInt8} {q:Nat} (h:Pre b c) (h1:b.length<=q) (h2:q+ys.length<=c.length):Pre b (Zt c q ys):=by
 obtain ⟨x,rfl⟩:=h
 exact ⟨_,putL_right h1 (by rw[List.length_append]at h2;exact h2)⟩
theorem Qx.mid (a x r:List UInt8):Qx (a++(x++r)) a.length x:=⟨by simp,by rw[List.drop_left,List.take_left]⟩
theorem Qx.join {c xs ys:List UInt8} {p:Nat} (h1:Qx c p xs) (h2:Qx c (p+xs.length) ys):Qx c p (xs++ys):=by
 rw[Qx.iff]at *
 refine ⟨by rw[List.length_append];omega,fun i hi=>?_⟩
 rw[List.length_append]at hi
 rcases Nat.lt_or_ge i xs.length with h|h
 ·rw[List.getElem?_append_left h];exact h1.2 i h
 ·rw[List.getElem?_append_right h]
  have:=h2.2 (i-xs.length) (by omega)
  rwa [show p+xs.length+(i-xs.length)=p+i by omega]at this
theorem putL_zero (b:List UInt8) (xs:List UInt8) (m:Nat):Zt (b++List.replicate (xs.length+m) 0) b.length xs=b++(xs++List.replicate m 0):=by
 rw[Qbq _ _ _ (by simp),List.take_left,List.drop_append,List.drop_eq_nil_of_le (by omega),List.nil_append,show b.length+xs.length-b.length=xs.length by omega,List.drop_replicate,show xs.length+m-xs.length=m by omega,List.append_assoc]
theorem QiO {G:Cut} {H:Qe} {w q3:Nat} {b:List UInt8} (h:WrC G H w b) {n sz:Nat} (hs:sz=1\/sz=2\/sz=4\/sz=8) (hl:b.length+64+sz*n<=1000000000) (hn:n<1000000000) {R:Kn}
  (hK:∀H' c at_,WrC G H' w c->Pre b c->b.length<=at_->at_<=b.length+7->c.length=at_+4+sz*n->Qx c at_ (leB (n:Int) 4)->Qhl (ptr w) (ptr q3) (.int .i64 (sz:Nat)) (.int .i64 (at_:Nat)) H' R):
  vecTail (ptr w) (ptr q3) (.int .i64 (n:Nat)) (.int .i64 (sz:Nat)) H R:=by
 unfold vecTail
 have h4:=Zr (size:=4) (n:=b.length) (by decide)
 have h4m:=QeY (size:=4) (n:=b.length) (by decide)
 refine QgB (s:=4) h (by decide) (by omega) ?_
 intro _ H6 h6
 refine Q0 (fun _ H'=>∃pad:List UInt8,pad.length<=7/\WrC G H' w (b++pad)) ?_ ?_
 ·refine ⟨fun m vs H'=>vs=[]/\∃pad:List UInt8,(b.length+pad.length)%4=0/\pad.length+4*m<=7/\(m=0->(b.length+pad.length+4)%sz=0)/\WrC G H' w (b++pad),⟨1,rfl,_,by rw[List.length_replicate];exact h4m,by rw[List.length_replicate];omega,fun h=>(by cases h),h6⟩,?_⟩
  rintro m H1 ⟨_,pad,p4,pm,p0,s1,h1⟩
  have hlen:(b++pad).length=b.length+pad.length:=List.length_append
  have c1:IntKind.i64.wrap (((b++pad).length:Int)+4)=((b.length+pad.length+4:Nat):Int):=by rw[hlen,wrap_i64 (by omega) (by omega)];omega
  have hrem:∀k:Value->Prop,Qk prog .rem 3 (.int .i64 ((b.length+pad.length+4:Nat):Int)) (.int .i64 (sz:Nat)) k=k (.int .i64 (((b.length+pad.length+4)%sz:Nat):Int)):=fun k=>by
   rw[BinK_rem (by omega),Int.tmod_eq_emod_of_nonneg (by omega)];rfl
  rw[Qs,Qm,h1.ld,h1.len,QA,c1,hrem,Yp]
  refine Zd (fun hne=>?_) (fun hne=>?_)
  ·have hm:m=1:=by
    rcases Nat.eq_zero_or_pos m with h0|h0
    ·exact absurd (p0 h0) (by omega)
    ·omega
   subst hm
   rw[Qs,Qm,h1.ld]
   unfold Q8
   show (H1.push (.cells (u8c [0,0,0,0]) 5 (0,0)) |> fun h2=>Qbs h2 5 1 1 z5 s1 (.slice (some ⟨H1.size,0,none⟩) 4 4) _)
   have e:=(Ext.refl h1.inn).push (.cells (u8c [0,0,0,0]) 5 (0,0))
   refine (h1.ext e).app (xs:=[0,0,0,0]) Qh (by rw[hlen];show b.length+pad.length+4<_;omega) ?_
   intro H2 s2 h2
   refine ⟨0,by omega,rfl,pad++[0,0,0,0],?_,?_,fun _=>?_,s2,by rw[<-List.append_assoc];exact h2⟩
   ·rw[List.length_append];show (b.length+(pad.length+4))%4=0;omega
   ·rw[List.length_append];show pad.length+4+4*0<=7;omega
   ·rw[List.length_append];show (b.length+(pad.length+4)+4)%sz=0
    rcases hs with rfl|rfl|rfl|rfl<;>omega
  ·exact ⟨pad,by omega,s1,h1⟩
 rintro H11 ⟨pad,hp,s1,h1⟩
 have hlen:(b++pad).length=b.length+pad.length:=List.length_append
 have c2:IntKind.i64.wrap ((sz:Int)*(n:Int))=((sz*n:Nat):Int):=by
  rw[show (sz:Int)*(n:Int)=((sz*n:Nat):Int) by push_cast;rfl]
  exact wrap_i64 (by omega) (by omega)
 have c3:IntKind.i64.wrap (4+((sz*n:Nat):Int))=((4+sz*n:Nat):Int):=by rw[wrap_i64 (by omega) (by omega)];omega
 rw[Qs,Qm,h1.ld,h1.len,Qs,Qm,h1.ld,Z1,c2,QA,c3]
 refine h1.appz (by rw[hlen];omega) ?_
 intro H12 s2 h2
 rw[QaC]
 refine Qhe ⟨s2,h2⟩ (k:=4) (by decide) (by simp only[List.length_append,List.length_replicate];omega) (by simp only[List.length_append,List.length_replicate];omega) ?_
 intro _ H13 h3
 rw[Qb0 (by omega),show 4+sz*n=(leB (n:Int) 4).length+sz*n by rw[Qf],putL_zero]at h3
 rw[hlen]
 refine hK H13 _ (b.length+pad.length) h3 ⟨_,List.append_assoc _ _ _⟩ (by omega) (by omega) ?_ ?_
 ·simp only[List.length_append,List.length_replicate,Qf];omega
 ·have:=Qx.mid (b++pad) (leB (n:Int) 4) (List.replicate (sz*n) 0)
  rwa [hlen]at this
section
variable {G:Cut} {H:Qe} {w q3:Nat} {b:List UInt8} {kind elem:UInt8} {num:UInt64} {text:List UInt8} {cn ck cs:Value} {nums:List UInt64} {kids:List SV} {slots:List SL} {R:Kn}
 (hR:∀H' x p,WrC G H' w (b++x)->x.length<=Qc8 (.mk kind elem num text nums kids slots)->b.length<=p->p+4<=b.length+x.length->(∀F,Agr b.length (b++x) F->F.length<2147483648->Qjg (.mk kind elem num text nums kids slots) F p)->R (.int .i64 (p:Nat)) H')
 (g3:G q3=some (.cells #[u8n kind,u8n elem,Ya num,Yf text,cn,ck,cs] 45 (0,0))) (hcost:b.length+Qc8 (.mk kind elem num text nums kids slots)<=1000000000)
include hR g3 hcost
theorem body_text (hk:kind=11\/kind=12) {c:List UInt8} {at_:Nat} (h:WrC G H w c) (hp:Pre b c) (ha:b.length<=at_) (ha7:at_<=b.length+7) (hcl:c.length=at_+4+1*text.length) (hb:Qx c at_ (leB (text.length:Int) 4)):Qhl (ptr w) (ptr q3) (.int .i64 1) (.int .i64 (at_:Nat)) H R:=by
 have hc2:=hcost
 rw[Qc8]at hc2
 have p0:∀{h:Qe},G.In h->∀k:Value->Prop,LdK h (.pointer (some ⟨q3,0,none⟩)) k=k (u8n kind):=fun hin k=>Ql ((Qj (hin _ _ g3)).trans rfl)
 have p3:∀{h:Qe},G.In h->∀k:Value->Prop,LdK h (.pointer (some ⟨q3,3,none⟩)) k=k (Yf text):=fun hin k=>Ql ((Qj (hin _ _ g3)).trans rfl)
 have c1:IntKind.i64.wrap ((at_:Int)+4)=((at_+4:Nat):Int):=by rw[wrap_i64 (by omega) (by omega)];omega
 unfold Qhl
 refine Q0 (fun _ H'=>WrC G H' w (Zt c (at_+4) text++[0])) ?_ ?_
 ·rw[Qm,p0 h.inn]
  refine Q0 (fun vs H'=>H'=H/\vs=[.bool true]) ?_ ?_
  ·rw[eqU (c:=11) (z:=11) rfl]
   refine Y9 (fun hh=>⟨rfl,by rw[hh]⟩) (fun hh=>?_)
   rw[eqU (c:=12) (z:=12) rfl]
   exact ⟨rfl,by rw[decide_eq_true (hk.resolve_left (of_decide_eq_false hh))]⟩
  rintro x109 h15 ⟨rfl,hx⟩
  cases hx
  obtain ⟨s,h⟩:=h
  rw[QbS,Qs,Qm,h.ld,QA,c1]
  refine h.copy (xs:=text) (p:=at_+4) (by omega) (by omega) (K:=fun d kk=>Qg (ptr q3) 3 fun x119=>LdK h15 x119 kk) (k:=fun _ h16=>Q3 (ptr w) fun x124=>Qg x124 0 fun x125=>LdK h16 x125 fun x126=>Q8 h16 5 1 (YV z5.toList 1) [(0,1,(.int .u8 0))] fun x127 h17=>Qbs h17 5 1 1 z5 x126 x127 fun x128 h18=>Q3 (ptr w) fun x129=>Qg x129 0 fun x130=>StK h18 1 x130 x128 fun h19=>WrC G h19 w (Zt c (at_+4) text++[0])) ?_ ?_
  ·intro _ H2 s2 h2
   rw[Qs,Qm,h2.ld]
   unfold Q8
   show (H2.push (.cells (u8c [0]) 5 (0,0)) |> fun h3=>Qbs h3 5 1 1 z5 s2 (.slice (some ⟨H2.size,0,none⟩) 1 1) _)
   have e:=(Ext.refl h2.inn).push (.cells (u8c [0]) 5 (0,0))
   refine (h2.ext e).app (xs:=[0]) Qh (by rw[Q7];show c.length+1<_;omega) ?_
   intro H3 s3 h3
   exact ⟨s3,h3⟩
  ·intro d kk hkk
   rw[Qm,p3 h.inn]
   exact hkk
 intro x109 h27 hw
 have hcl2:(Zt c (at_+4) text++[0]).length=c.length+1:=by rw[List.length_append,Q7];rfl
 obtain ⟨x,hx⟩:Pre b (Zt c (at_+4) text++[0]):=(hp.put (by omega) (by omega)).app _
 have hxl:b.length+x.length=c.length+1:=by rw[<-hcl2,hx,List.length_append]
 have f1:Qx (Zt c (at_+4) text++[0]) at_ (leB (text.length:Int) 4):=(hb.put_ne (by omega) (Or.inr (by rw[Qf];omega))).app _
 have f2:Qx (Zt c (at_+4) text++[0]) (at_+4) text:=(Qx.put_eq (by omega)).app _
 rw[hx]at hw f1 f2
 refine hR h27 x at_ hw (by rw[Qc8];omega) ha (by omega) fun F hF hFl=>?_
 have g1:=f1.agr ha hF
 have g2:=f2.agr (by omega) hF
 have hFl2:=hF.1
 rw[List.length_append]at hFl2
 rw[Qjg,if_neg (by rcases hk with rfl|rfl<;>decide),if_pos hk]
 exact ⟨by omega,le4_v g1 (by omega),g2⟩
theorem body_nums (hk:kind=13) (hn:SlV G 1 cn (nums.map Qai)) (hn100:nums.length<=100) {c:List UInt8} {at_:Nat} (h:WrC G H w c) (hp:Pre b c) (ha:b.length<=at_) (ha7:at_<=b.length+7) (hcl:c.length=at_+4+sizeK elem*nums.length) (hb:Qx c at_ (leB (nums.length:Int) 4)):Qhl (ptr w) (ptr q3) (.int .i64 (sizeK elem:Nat)) (.int .i64 (at_:Nat)) H R:=by
 have hc2:=hcost
 rw[Qc8]at hc2
 subst hk
 have p0:∀{h:Qe},G.In h->∀k:Value->Prop,LdK h (.pointer (some ⟨q3,0,none⟩)) k=k (u8n 13):=fun hin k=>Ql ((Qj (hin _ _ g3)).trans rfl)
 have p4:∀{h:Qe},G.In h->∀k:Value->Prop,LdK h (.pointer (some ⟨q3,4,none⟩)) k=k cn:=fun hin k=>Ql ((Qj (hin _ _ g3)).trans rfl)
 have c1:IntKind.i64.wrap ((at_:Int)+4)=((at_+4:Nat):Int):=by rw[wrap_i64 (by omega) (by omega)];omega
 have hsz:=Qc7 elem
 have hsn:sizeK elem*nums.length<=8*nums.length:=Nat.mul_le_mul_right _ (by omega)
 have hlen:∀k:Value->Prop,Yv cn k=k (.int .i64 (nums.length:Nat)):=fun k=>by rw[hn.len,List.length_map]
 have hfl:∀i,i<=nums.length->(((nums.take i).map fun x=>leB (x.toNat:Int) (sizeK elem)).flatten).length=sizeK elem*i:=fun i hi=>by
  rw[Qbf (es:=sizeK elem) _ (fun x hx=>by obtain ⟨y,_,rfl⟩:=List.mem_map.1 hx;exact Qf _ _),List.length_map,List.length_take,Nat.min_eq_left hi]
 unfold Qhl
 refine Q0 (fun _ H'=>∃c',WrC G H' w c'/\Pre b c'/\c'.length=c.length/\Qx c' at_ (leB (nums.length:Int) 4)/\Qx c' (at_+4) ((nums.map fun x=>leB (x.toNat:Int) (sizeK elem)).flatten)) ?_ ?_
 ·rw[Qm,p0 h.inn]
  refine Q0 (fun vs H'=>H'=H/\vs=[.bool false]) ?_ ?_
  ·rw[eqU (c:=11) (z:=11) rfl,show decide ((13:UInt8)=11)=false from rfl,ZG,eqU (c:=12) (z:=12) rfl]
   exact ⟨rfl,rfl⟩
  rintro x109 h15 ⟨rfl,hx⟩
  cases hx
  rw[ZG,eqU (c:=13) (z:=13) rfl,show decide ((13:UInt8)=13)=true from rfl,QbS,Qm,p4 h.inn,hlen]
  refine ⟨fun m vs H'=>∃i,vs=[.int .i64 (i:Nat)]/\i+m=nums.length/\∃c',WrC G H' w c'/\Pre b c'/\c'.length=c.length/\Qx c' at_ (leB (nums.length:Int) 4)/\Qx c' (at_+4) (((nums.take i).map fun x=>leB (x.toNat:Int) (sizeK elem)).flatten),⟨nums.length,0,rfl,by omega,c,h,hp,rfl,hb,by rw[List.take_zero];exact ⟨by show at_+4+0<=_;omega,rfl⟩⟩,?_⟩
  rintro m x H' ⟨i,hx,him,c',h',hp',hl',hb',hi'⟩
  cases hx
  rw[Yr]
  by_cases hlt:i<nums.length
  ·rw[Yb (by omega)]
   have hai:=List.getElem?_eq_getElem hlt
   have hmul:sizeK elem*i+sizeK elem<=sizeK elem*nums.length:=by
    rw[<-Nat.mul_succ];exact Nat.mul_le_mul_left _ hlt
   have hle:=hfl i (by omega)
   have c2:IntKind.i64.wrap (((sizeK elem:Nat):Int)*(i:Int))=((sizeK elem*i:Nat):Int):=by
    rw[show ((sizeK elem:Nat):Int)*(i:Int)=((sizeK elem*i:Nat):Int) by push_cast;rfl]
    exact wrap_i64 (by omega) (by omega)
   have c3:IntKind.i64.wrap (((at_+4:Nat):Int)+((sizeK elem*i:Nat):Int))=((at_+4+sizeK elem*i:Nat):Int):=by rw[wrap_i64 (by omega) (by omega)];omega
   obtain ⟨bb,o,cells,e',fr,q1,q2,q3',q4⟩:=hn.idx h'.inn (i:=i) rfl (it:=Qai nums[i]) (by rw[List.getElem?_map,hai];rfl)
   rw[q1,Ql ((Qj q2).trans (Qaq q4)),QA,c1,Z1,c2,QA,c3]
   refine Qhe h' (n:=nums[i]) (k:=sizeK elem) (by omega) (by omega) (by omega) ?_
   intro _ H6 h6
   rw[QA,wrap_i64 (by omega) (by omega)]
   refine ⟨m-1,by omega,i+1,by simp,by omega,_,h6,hp'.put (by omega) (by rw[Qf];omega),by rw[Q7];exact hl',hb'.put_ne (by rw[Qf];omega) (Or.inr (by rw[Qf];omega)),?_⟩
   rw[Qcx hai,List.flatten_append,List.flatten_singleton]
   refine (hi'.put_ne (by rw[Qf];omega) (Or.inr (by omega))).join ?_
   rw[hle]
   exact Qx.put_eq (by rw[Qf];omega)
  ·rw[QM (by omega)]
   have:i=nums.length:=by omega
   subst this
   rw[List.take_length]at hi'
   exact ⟨c',h',hp',hl',hb',hi'⟩
 rintro x109 h27 ⟨c',hw,⟨x,rfl⟩,hl',f1,f2⟩
 rw[List.length_append]at hl'
 refine hR h27 x at_ hw (by rw[Qc8];omega) ha (by omega) fun F hF hFl=>?_
 have g1:=f1.agr ha hF
 have g2:=f2.agr (by omega) hF
 rw[Qjg,if_neg (by decide),if_neg (by decide),if_pos rfl]
 exact ⟨le4_v g1 (by omega),g2⟩
theorem body_kids (hk1:kind≠11) (hk2:kind≠12) (hk3:kind≠13) (hk5:kind≠15) (hK:∀k∈kids,Qhd k) (hwf:WfVs kids) {ki:List (List Value)} (hks:SlV G 7 ck ki) (hkv:VVs G kids ki) (hn100:kids.length<=100) {c:List UInt8} {at_:Nat} (h:WrC G H w c) (hp:Pre b c) (ha:b.length<=at_) (ha7:at_<=b.length+7) (hcl:c.length=at_+4+4*kids.length) (hb:Qx c at_ (leB (kids.length:Int) 4)):Qhl (ptr w) (ptr q3) (.int .i64 4) (.int .i64 (at_:Nat)) H R:=by
 have hc2:=hcost
 rw[Qc8]at hc2
 have p0:∀{h:Qe},G.In h->∀k:Value->Prop,LdK h (.pointer (some ⟨q3,0,none⟩)) k=k (u8n kind):=fun hin k=>Ql ((Qj (hin _ _ g3)).trans rfl)
 have p5:∀{h:Qe},G.In h->∀k:Value->Prop,LdK h (.pointer (some ⟨q3,5,none⟩)) k=k ck:=fun hin k=>Ql ((Qj (hin _ _ g3)).trans rfl)
 have c1:IntKind.i64.wrap ((at_:Int)+4)=((at_+4:Nat):Int):=by rw[wrap_i64 (by omega) (by omega)];omega
 have hlen:∀k:Value->Prop,Yv ck k=k (.int .i64 (kids.length:Nat)):=fun k=>by rw[hks.len,VVs.len hkv]
 have hcs:∀i,ZD (kids.take i)+ZD (kids.drop i)=ZD kids:=by
  have:∀(l:List SV) i,ZD (l.take i)+ZD (l.drop i)=ZD l:=by
   intro l
   induction l with
   |nil=>intro i;simp[ZD]
   |cons x xs ih=>
    intro i
    cases i with
    |zero=>simp[ZD]
    |succ i=>rw[List.take_succ_cons,List.drop_succ_cons,ZD,ZD];have:=ih i;omega
  exact this kids
 unfold Qhl
 refine Q0 (fun _ H'=>∃c',WrC G H' w c'/\Pre b c'/\c.length<=c'.length/\c'.length+4*kids.length<=c.length+ZD kids/\Qx c' at_ (leB (kids.length:Int) 4)/\∀j k,kids[j]?=some k->∃p,Qx c' (at_+4+4*j) (leB ((p-(at_+4+4*j):Nat):Int) 4)/\c.length<=p/\p<=c'.length/\∀F,Agr c.length c' F->F.length<2147483648->Qjg k F p) ?_ ?_
 ·rw[Qm,p0 h.inn]
  refine Q0 (fun vs H'=>H'=H/\vs=[.bool false]) ?_ ?_
  ·rw[eqU (c:=11) (z:=11) rfl,decide_eq_false hk1,ZG,eqU (c:=12) (z:=12) rfl,decide_eq_false hk2]
   exact ⟨rfl,rfl⟩
  rintro x109 h15 ⟨rfl,hx⟩
  cases hx
  rw[ZG,eqU (c:=13) (z:=13) rfl,decide_eq_false hk3,ZG,Qm,p5 h.inn,hlen]
  refine ⟨fun m vs H'=>∃i,vs=[.int .i64 (i:Nat)]/\i+m=kids.length/\∃c',WrC G H' w c'/\Pre b c'/\c.length<=c'.length/\c'.length+4*i<=c.length+ZD (kids.take i)/\Qx c' at_ (leB (kids.length:Int) 4)/\∀j k,j<i->kids[j]?=some k->∃p,Qx c' (at_+4+4*j) (leB ((p-(at_+4+4*j):Nat):Int) 4)/\c.length<=p/\p<=c'.length/\∀F,Agr c.length c' F->F.length<2147483648->Qjg k F p,
   ⟨kids.length,0,rfl,by omega,c,h,hp,Nat.le_refl _,by omega,hb,fun j k hj=>by omega⟩,?_⟩
  rintro m x H' ⟨i,hx,him,c',h',hp',hl1,hl2,hb',hi'⟩
  cases hx
  rw[Yr]
  by_cases hlt:i<kids.length
  ·rw[Yb (by omega)]
   have hai:=List.getElem?_eq_getElem hlt
   obtain ⟨x1,k1,k2⟩:=VVs.get hkv hai
   have hmem:=List.mem_of_getElem? hai
   obtain ⟨w1,w2,w3⟩:=hwf.get _ hmem
   have hKi:=hK _ hmem w1 w2 w3
   have hcost_i:ZD (kids.take (i+1))=ZD (kids.take i)+(4+Qc8 kids[i]):=by
    rw[List.take_add_one,hai]
    have:∀(l:List SV) y,ZD (l++[y])=ZD l+(4+Qc8 y):=by
     intro l y
     induction l with
     |nil=>simp[ZD]
     |cons x xs ih=>rw[List.cons_append,ZD,ZD,ih];omega
    exact this _ _
   have hle:=hcs (i+1)
   have hdr:4*(kids.drop (i+1)).length<=ZD (kids.drop (i+1)):=by
    have:∀l:List SV,4*l.length<=ZD l:=by
     intro l
     induction l with
     |nil=>simp
     |cons y ys ih=>rw[ZD,List.length_cons];omega
    exact this _
   rw[List.length_drop]at hdr
   generalize kids[i]=k at *
   refine Z8 hks h'.inn k1 ?_
   rw[Qy,Yg (n:=7) (c':=x1.toArray) Qh rfl (by simpa using k2.len) (by decide) (by simpa using k2.one),Yq,YI (n:=7) (vs:=x1) (by rw[Q4 Qh 7 (by simp[k2.len])];simp[<-k2.len])]
   have h6:=h'.ext ((Ext.refl h'.inn).push (.cells x1.toArray 45 (0,0)))
   refine hKi G _ w c' x1 _ h6 k2 (by omega) ?_
   intro H7 y p h7 yl pl pl2 hv
   have m1:IntKind.i64.wrap (4*(i:Int))=((4*i:Nat):Int):=by rw[wrap_i64 (by omega) (by omega)];omega
   have m2:IntKind.i64.wrap (((at_+4:Nat):Int)+((4*i:Nat):Int))=((at_+4+4*i:Nat):Int):=by rw[wrap_i64 (by omega) (by omega)];omega
   have m3:IntKind.i64.wrap ((p:Int)-(at_:Int))=((p-at_:Nat):Int):=by rw[wrap_i64 (by omega) (by omega)];omega
   have m4:IntKind.i64.wrap (((p-at_:Nat):Int)-4)=((p-at_-4:Nat):Int):=by rw[wrap_i64 (by omega) (by omega)];omega
   have m5:IntKind.i64.wrap (((p-at_-4:Nat):Int)-((4*i:Nat):Int))=((p-(at_+4+4*i):Nat):Int):=by rw[wrap_i64 (by omega) (by omega)];omega
   rw[QA,c1,Z1,m1,QA,m2,QZ,m3,QZ,m4,Z1,m1,QZ,m5,QaC]
   have hcy:(c'++y).length=c'.length+y.length:=List.length_append
   refine Qhe h7 (k:=4) (by decide) (by omega) (by omega) ?_
   intro _ H8 h8
   rw[Qb0 (by omega)]at h8
   rw[QA,wrap_i64 (by omega) (by omega)]
   refine ⟨m-1,by omega,i+1,by simp,by omega,_,h8,(hp'.app y).put (by omega) (by rw[Qf];omega),by rw[Q7];omega,by rw[Q7];omega,(hb'.app y).put_ne (by rw[Qf];omega) (Or.inr (by rw[Qf];omega)),?_⟩
   intro j kk hj hkj
   have hagr:Agr c.length c' (Zt (c'++y) (at_+4+4*i) (leB ((p-(at_+4+4*i):Nat):Int) 4)):=(Agr.app _ _ _).trans (Agr.put (by rw[Qf];omega) (by rw[Qf];omega))
   by_cases hji:j=i
   ·subst hji
    have:kk=k:=by rw[hai]at hkj;cases hkj;rfl
    subst this
    refine ⟨p,Qx.put_eq (by rw[Qf];omega),by omega,by rw[Q7];omega,fun F hF hFl=>hv F ?_ hFl⟩
    have h9:Agr c'.length (c'++y) (Zt (c'++y) (at_+4+4*j) (leB ((p-(at_+4+4*j):Nat):Int) 4)):=Agr.put (by rw[Qf];omega) (by rw[Qf];omega)
    exact h9.trans (hF.mono hl1)
   ·obtain ⟨p',a1,a2,a3,a4⟩:=hi' j kk (by omega) hkj
    refine ⟨p',(a1.app y).put_ne (by rw[Qf];omega) ?_,a2,by rw[Q7];omega,fun F hF hFl=>a4 F (hagr.trans hF) hFl⟩
    rw[Qf,Qf];omega
  ·rw[QM (by omega)]
   have:i=kids.length:=by omega
   subst this
   rw[List.take_length]at hl2
   exact ⟨c',h',hp',hl1,hl2,hb',fun j k hj=>hi' j k (Qo hj) hj⟩
 rintro x109 h27 ⟨c',hw,⟨x,rfl⟩,hl1,hl2,f1,f2⟩
 have hxl:(b++x).length=b.length+x.length:=List.length_append
 refine hR h27 x at_ hw (by rw[Qc8];omega) ha (by omega) fun F hF hFl=>?_
 have g1:=f1.agr ha hF
 have hF1:=hF.1
 rw[Qjg,if_neg hk5,if_neg (fun h=>h.elim hk1 hk2),if_neg hk3]
 refine ⟨by omega,le4_v g1 (by omega),KsW_of fun j k hj=>?_⟩
 obtain ⟨p,a1,a2,a3,a4⟩:=f2 j k hj
 have hjl:=Qo hj
 have g2:=a1.agr (by omega) hF
 have ht:tgt F (at_+4+4*j)=p:=by
  unfold tgt
  rw[le4_v g2 (by omega)];omega
 rw[ht]
 exact ⟨by omega,by omega,a4 F (hF.mono (by omega)) hFl⟩
end
end Go.Proofs
namespace Go.Proofs
open Go Go.Vc
open Tryz (prog)
theorem kinds_of {k:UInt8} (h1:11<=k) (h2:k<=16) (h11:k≠11) (h12:k≠12) (h13:k≠13) (h15:k≠15):k=14\/k=16:=by
 rw[UInt8.le_iff_toNat_le]at h1 h2
 have n11:k.toNat≠11:=fun h=>h11 (UInt8.toNat_inj.1 h)
 have n12:k.toNat≠12:=fun h=>h12 (UInt8.toNat_inj.1 h)
 have n13:k.toNat≠13:=fun h=>h13 (UInt8.toNat_inj.1 h)
 have n15:k.toNat≠15:=fun h=>h15 (UInt8.toNat_inj.1 h)
 have e1:(11:UInt8).toNat=11:=rfl
 have e2:(16:UInt8).toNat=16:=rfl
 rcases (show k.toNat=14\/k.toNat=16 by omega) with h|h
 ·exact Or.inl (UInt8.toNat_inj.1 h)
 ·exact Or.inr (UInt8.toNat_inj.1 h)
set_option maxHeartbeats 1000000 in
theorem writeC_step {kind elem:UInt8} {num:UInt64} {text:List UInt8} {nums:List UInt64} {kids:List SV} {slots:List SL} (hK:∀k∈kids,Qhd k) (hT:TabC slots):Qhd (.mk kind elem num text nums kids slots):=by
 intro hk1 hk2 hwf G H w b cells R h hv hcost hR
 have hk1:11<=kind:=hk1
 have hk2:kind<=16:=hk2
 rw[WfV]at hwf
 obtain ⟨_,_,n1,n2,n3,wK,wS⟩:=hwf
 have hv0:=hv
 have hvl:=hv.len
 rw[VV]at hv
 obtain ⟨cn,ck,cs,rfl,hnums,⟨ki,hki,hkv⟩,_⟩:=hv
 have hc2:=hcost
 rw[Qc8]at hc2
 apply w71
 unfold s71
 rw[Qy]
 have e1:=(Ext.refl h.inn).pushG (.cells (Value.agg #[u8n kind,u8n elem,Ya num,Yf text,cn,ck,cs]).cells 45 (0,0))
 have g3:(G.upd H.size (.cells (Value.agg #[u8n kind,u8n elem,Ya num,Yf text,cn,ck,cs]).cells 45 (0,0))) H.size=some (.cells #[u8n kind,u8n elem,Ya num,Yf text,cn,ck,cs] 45 (0,0)):=Cut.upd_same
 have h1:=h.ext e1
 have hle:=e1.le
 show Qg (ptr H.size) 0 _
 generalize G.upd H.size (.cells (Value.agg #[u8n kind,u8n elem,Ya num,Yf text,cn,ck,cs]).cells 45 (0,0))=G1 at *
 generalize H.push (.cells (Value.agg #[u8n kind,u8n elem,Ya num,Yf text,cn,ck,cs]).cells 45 (0,0))=H1 at *
 generalize H.size=q3 at *
 clear e1
 have hR1:∀H' x p,WrC G1 H' w (b++x)->x.length<=Qc8 (.mk kind elem num text nums kids slots)->b.length<=p->p+4<=b.length+x.length->(∀F,Agr b.length (b++x) F->F.length<2147483648->Qjg (.mk kind elem num text nums kids slots) F p)->R (.int .i64 (p:Nat)) H':=
  fun H' x p a1 a2 a3 a4 a5=>hR H' x p (a1.weaken hle) a2 a3 a4 a5
 clear hR
 have p0:∀k:Value->Prop,LdK H1 (.pointer (some ⟨q3,0,none⟩)) k=k (u8n kind):=fun k=>Ql ((Qj (h1.inn _ _ g3)).trans rfl)
 have p1:∀k:Value->Prop,LdK H1 (.pointer (some ⟨q3,1,none⟩)) k=k (u8n elem):=fun k=>Ql ((Qj (h1.inn _ _ g3)).trans rfl)
 have p3:∀k:Value->Prop,LdK H1 (.pointer (some ⟨q3,3,none⟩)) k=k (Yf text):=fun k=>Ql ((Qj (h1.inn _ _ g3)).trans rfl)
 have p4:∀k:Value->Prop,LdK H1 (.pointer (some ⟨q3,4,none⟩)) k=k cn:=fun k=>Ql ((Qj (h1.inn _ _ g3)).trans rfl)
 have p5:∀k:Value->Prop,LdK H1 (.pointer (some ⟨q3,5,none⟩)) k=k ck:=fun k=>Ql ((Qj (h1.inn _ _ g3)).trans rfl)
 have ln:∀k:Value->Prop,Yv cn k=k (.int .i64 (nums.length:Nat)):=fun k=>by rw[hnums.len,List.length_map]
 have lk:∀k:Value->Prop,Yv ck k=k (.int .i64 (kids.length:Nat)):=fun k=>by rw[hki.len,VVs.len hkv]
 rw[Qm,p0,eqU (c:=15) (z:=15) rfl]
 refine Zd (fun hk=>?_) (fun hk15=>?_)
 ·rw[YI (n:=7) (vs:=[u8n kind,u8n elem,Ya num,Yf text,cn,ck,cs]) (by rw[Q4 (h1.inn _ _ g3) 7 (by simp)];rfl)]
  refine hT G1 H1 w b _ _ _ _ _ _ _ _ h1 (VV.mono hle _ _ hv0) wS n3 (by omega) ?_
  intro H2 x p a1 a2 a3 a4 a5
  refine hR1 H2 x p a1 (by rw[Qc8];omega) a3 a4 fun F hF hFl=>?_
  rw[Qjg,if_pos hk]
  exact a5 F hF hFl
 rw[Qm,p3,Qdo,Qau]
 refine Qn (Qji.refl _) ?_
 by_cases hkt:kind=11\/kind=12
 ·have d13:decide (kind=13)=false:=decide_eq_false (by rcases hkt with rfl|rfl<;>decide)
  have d14:decide (kind=14)=false:=decide_eq_false (by rcases hkt with rfl|rfl<;>decide)
  have d16:decide (kind=16)=false:=decide_eq_false (by rcases hkt with rfl|rfl<;>decide)
  refine Q0 (fun vs h'=>h'=H1/\∃a,vs=[a,.int .i64 (text.length:Nat),.int .i64 ((1:Nat):Int)]) ?_ ?_
  ·rw[Qm,p0,eqU (c:=13) (z:=13) rfl,d13,ZG]
   refine Q0 (fun vs h'=>h'=H1/\vs=[.bool false]) ?_ ?_
   ·rw[eqU (c:=14) (z:=14) rfl,d14,ZG,eqU (c:=16) (z:=16) rfl,d16]
    exact ⟨rfl,rfl⟩
   rintro x32 h4 ⟨rfl,hx⟩
   cases hx
   rw[ZG]
   exact ⟨rfl,_,rfl⟩
  rintro x24 x6 x5 h5 ⟨rfl,a,hx⟩
  cases hx
  refine QiO h1 (Or.inl rfl) (by omega) (by omega) ?_
  intro H6 c at_ h6 hp a1 a2 a3 a4
  exact body_text hR1 g3 hcost hkt h6 hp a1 a2 a3 a4
 ·have h11:kind≠11:=fun h=>hkt (Or.inl h)
  have h12:kind≠12:=fun h=>hkt (Or.inr h)
  by_cases hk13:kind=13
  ·have hsz:=Qc7 elem
   have hsn:sizeK elem*nums.length<=8*nums.length:=Nat.mul_le_mul_right _ (by omega)
   refine Q0 (fun vs h'=>h'=H1/\∃a,vs=[a,.int .i64 (nums.length:Nat),.int .i64 (sizeK elem:Nat)]) ?_ ?_
   ·rw[Qm,p0,eqU (c:=13) (z:=13) rfl,decide_eq_true hk13,QbS,Qm,p1,Qm,p4,ln]
    refine Size_ok ?_
    exact Qn (Qji.refl _) (Qn (Qji.refl _) ⟨rfl,_,rfl⟩)
   rintro x24 x6 x5 h5 ⟨rfl,a,hx⟩
   cases hx
   refine QiO h1 hsz (by omega) (by omega) ?_
   intro H6 c at_ h6 hp a1 a2 a3 a4
   exact body_nums hR1 g3 hcost hk13 (hnums.mono hle) n1 h6 hp a1 a2 a3 a4
  ·have hk:=kinds_of hk1 hk2 h11 h12 hk13 hk15
   have h4:4*kids.length<=ZD kids:=by
    have:∀l:List SV,4*l.length<=ZD l:=by
     intro l
     induction l with
     |nil=>simp
     |cons y ys ih=>rw[ZD,List.length_cons];omega
    exact this kids
   refine Q0 (fun vs h'=>h'=H1/\∃a,vs=[a,.int .i64 (kids.length:Nat),.int .i64 ((4:Nat):Int)]) ?_ ?_
   ·rw[Qm,p0,eqU (c:=13) (z:=13) rfl,decide_eq_false hk13,ZG]
    refine Q0 (fun vs h'=>h'=H1/\vs=[.bool true]) ?_ ?_
    ·rw[eqU (c:=14) (z:=14) rfl]
     refine Y9 (fun hh=>⟨rfl,by rw[hh]⟩) (fun hh=>?_)
     rw[eqU (c:=16) (z:=16) rfl]
     exact ⟨rfl,by rw[decide_eq_true (hk.resolve_left (of_decide_eq_false hh))]⟩
    rintro x32 h4 ⟨rfl,hx⟩
    cases hx
    rw[QbS,Qm,p5,lk]
    exact Qn (Qji.refl _) ⟨rfl,_,rfl⟩
   rintro x24 x6 x5 h5 ⟨rfl,a,hx⟩
   cases hx
   refine QiO h1 (Or.inr (Or.inr (Or.inl rfl))) (by omega) (by omega) ?_
   intro H6 c at_ h6 hp a1 a2 a3 a4
   exact body_kids hR1 g3 hcost h11 h12 hk13 hk15 hK wK (hki.mono hle) (VVs.mono hle _ _ hkv) n2 h6 hp a1 a2 a3 a4
end Go.Proofs
namespace Go.Proofs
open Go Go.Vc
open Tryz (prog)
theorem ext0 {G:Cut} {H:Qe} (h:G.In H):Ext G #[] G H:=⟨fun b o hb=>by simp at hb,h,Cut.le_refl _,fun b hb=>by simp at hb⟩
def badW (w:Nat) (s:Value):Nat->Prop:=fun q=>q=w\/∃n c,s= .slice (some ⟨q,0,none⟩) n c
def WB (G:Cut) (H:Qe) (w:Nat) (b:List UInt8) (et:TypeId) (es:Nat) (y:Value) (items:List (List Value)):Prop:=∃s,WrV G H w b s/\Cur #[] G H et es y items (badW w s)
section
variable {G:Cut} {H:Qe} {w:Nat} {b:List UInt8} {et:TypeId} {es:Nat} {y:Value} {items:List (List Value)}
theorem WB.nil (h:WrC G H w b):WB G H w b et es (.slice none 0 0) []:=by
 obtain ⟨s,h⟩:=h
 exact ⟨s,h,Cur.nil⟩
variable (h:WB G H w b et es y items)
include h
theorem WB.inn:G.In H:=by
 obtain ⟨s,h,_⟩:=h
 exact h.inn
theorem WB.pushG (o:Obj):WB (G.upd H.size o) (H.push o) w b et es y items:=by
 obtain ⟨s,h,c⟩:=h
 have e:=(Ext.refl h.inn).pushG o
 exact ⟨s,h.ext e,c.ext e⟩
theorem WB.weaken {G':Cut} (hle:G'.le G):WB G' H w b et es y items:=by
 obtain ⟨s,h,c⟩:=h
 obtain ⟨B,cap,rest,h1,h2,h3,h4,h5,h6⟩:=h.ex
 have hn:∀q,G q=none->G' q=none:=fun q hq=>by
  cases hg:G' q with
  |none=>rfl
  |some o=>rw[hle _ _ hg]at hq;cases hq
 refine ⟨s,⟨fun q o hq=>h.inn q o (hle _ _ hq),h.gw,hn _ h.ow,B,cap,rest,h1,h2,h3,hn _ h4,h5,h6⟩,c.1,?_⟩
 rcases c.2 with c|⟨bb,cc,cs,c1,c2,c3⟩
 ·exact Or.inl c
 ·exact Or.inr ⟨bb,cc,cs,c1,⟨c2.get,hn _ c2.out,c2.new⟩,c3⟩
theorem WB.step:∃G',G.le G'/\WrC G' H w b/\SlV G' es y items/\∀H' b',WrC G' H' w b'->WB G H' w b' et es y items:=by
 obtain ⟨s,h,c⟩:=h
 obtain ⟨B,cap,rest,h1,h2,h3,h4,h5,h6⟩:=h.ex
 rcases c.2 with ⟨c1,c2⟩|⟨bb,cc,cs,c1,c2,c3,c4,c5,c6,c7,c8⟩
 ·subst c1 c2
  refine ⟨G,Cut.le_refl _,⟨s,h⟩,SlV.nil _ _,fun H' b' hw=>?_⟩
  obtain ⟨s',hw⟩:=hw
  exact ⟨s',hw,Cur.nil⟩
 ·have nw:w≠bb:=fun e=>c3 (Or.inl e.symm)
  have nB:B≠bb:=fun e=>c3 (Or.inr ⟨_,_,by rw[h1,e]⟩)
  have hle:G.le (G.upd bb (.cells cs et (0,0))):=Cut.le_upd c2.out
  refine ⟨G.upd bb (.cells cs et (0,0)),hle,⟨s,h.inn.upd c2.get,h.gw,by rw[Cut.upd_ne nw];exact h.ow,B,cap,rest,h1,h2,h3,by rw[Cut.upd_ne nB];exact h4,h5,h6⟩,⟨c.1,Or.inr ⟨bb,0,cc,cs,et,(0,0),c1,Cut.upd_same,by omega,by rw[List.drop_zero];exact c6,c7⟩⟩,fun H' b' hw=>?_⟩
  have hbb:=hw.inn _ _ (Cut.upd_same (F:=G) (b:=bb) (o:=.cells cs et (0,0)))
  obtain ⟨s',hw'⟩:=id (hw.weaken hle)
  obtain ⟨s2,hw2⟩:=hw
  have hs:s'=s2:=by
   have:=hw'.gw
   rw[hw2.gw]at this
   cases this;rfl
  subst hs
  refine ⟨s',hw',c.1,Or.inr ⟨bb,cc,cs,c1,⟨hbb,c2.out,c2.new⟩,?_,c4,c5,c6,c7,c8⟩⟩
  rintro (e|⟨n,cc',e⟩)
  ·exact nw e.symm
  ·obtain ⟨B',cap',rest',k1,k2,k3,k4,k5,k6⟩:=hw2.ex
   rw[k1]at e
   have:B'=bb:=by cases e;rfl
   rw[this,Cut.upd_same]at k4
   cases k4
theorem WB.app {bts:Nat} {zs:Array Value} {v:Value} {it:List Value} (hv:v.cells.toList=it) (hl:it.length=es) (hone:∀x∈it,x.oneCell'=true) (hes:0<es) (hz:zs.size=es) (hb:0<bts) (hn:(items.length+1)*bts<=140737488355328) {k:Kn} (hk:∀y' H',WB G H' w b et es y' (items++[it])->k y' H'):
  Q8 H et 1 (YV zs.toList 1) [(0,es,v)] fun x h2=>Qbs h2 et es bts zs y x k:=by
 obtain ⟨s,h,c⟩:=h
 obtain ⟨B,cap,rest,h1,h2,h3,h4,h5,h6⟩:=h.ex
 have hfill:YJ (YV zs.toList 1) [(0,es,v)]=some it:=fill_one hv hl (by simpa using hz)
 unfold Q8
 simp only[hfill]
 have e1:=(Ext.refl h.inn).push (.cells it.toArray et (0,0))
 have h':=h.ext e1
 refine (c.push (.cells it.toArray et (0,0))).app (ext0 h'.inn) (y:=H.size) (yo:=0) (cells:=it.toArray) (ye:=et) (fr:=(0,0)) (it:=it) Qh (by simp[hl]) (by rw[List.drop_zero];simp[<-hl]) hone hes hb hn hz ?_ ?_
 ·rintro q (e|⟨n,cc,e⟩)
  ·rw[e];exact Y3 h'.gw
  ·rw[h1]at e
   have:B=q:=by cases e;rfl
   rw[<-this];exact Y3 (Yy h2)
 ·intro y' H' he hcur hown
  refine hk y' H' ⟨s,⟨he.inn,?_,h.ow,B,cap,rest,h1,?_,h3,h4,h5,h6⟩,hcur⟩
  ·exact (hown w _ (Or.inl rfl) ⟨h'.gw,h.ow,Nat.zero_le _⟩).get
  ·exact (hown B _ (Or.inr ⟨_,_,h1⟩) ⟨Yy h2,h4,Nat.zero_le _⟩).get
end
def isz (v:SV):Nat:=if QbN v<=10 then sizeK (QbN v) else if QbN v=17 then (textV v).length else 4
def datV (v:SV):List UInt8:=if QbN v<=10 then leB ((numV v).toNat:Int) (sizeK (QbN v)) else textV v
def dirV (v:SV):Prop:=QbN v<=10\/QbN v=17
instance (v:SV):Decidable (dirV v):=by unfold dirV;infer_instance
theorem datV_len {v:SV} (h:dirV v):(datV v).length=isz v:=by
 unfold datV isz
 by_cases h1:QbN v<=10
 ·rw[if_pos h1,if_pos h1,Qf]
 ·rw[if_neg h1,if_neg h1,if_pos (h.resolve_left h1)]
def sumC (beh:List (Nat×SV)):Nat:=(beh.map fun q=>Qc8 q.2).sum
theorem sumC_snoc (beh:List (Nat×SV)) (q:Nat×SV):sumC (beh++[q])=sumC beh+Qc8 q.2:=by simp[sumC]
def SlotP (b:List UInt8) (vt at_:Nat) (beh:List (Nat×SV)) (i j:Nat) (has:Bool) (v:SV) (d:UInt64):Prop:=
 if j<i/\stoB has v d then ∃e,4<=e/\e<65536/\at_+e+isz v<=b.length/\Qx b (vt+4+2*j) (leB (e:Int) 2)/\(if dirV v then Qx b (at_+e) (datV v)/\(∀q∈beh,q.1+4<=at_+e\/at_+e+(datV v).length<=q.1) else (at_+e,v)∈beh)
 else Qx b (vt+4+2*j) (leB ((0:Nat):Int) 2)
structure Ph (slots:List SL) (b0:List UInt8) (vt at_ i:Nat) (b:List UInt8) (beh:List (Nat×SV)):Prop where
 pre:Pre b0 b
 a1:b0.length<=vt
 a2:vt+4+2*slots.length<=at_
 a3:at_+4<=b.length
 a4:b.length<=at_+4+72*i
 a5:b.length+sumC beh+2*i<=at_+4+Z5 (slots.take i)
 hv:Qx b vt (leB ((4+2*slots.length:Nat):Int) 2)
 ho:Qx b at_ (leB ((at_-vt:Nat):Int) 4)
 sl:∀j has v d,slots[j]?=some (.mk has v d)->SlotP b vt at_ beh i j has v d
 bp:∀q∈beh,at_+4<=q.1/\q.1+4<=b.length
 pw:beh.Pairwise (fun a c=>a.1+4<=c.1)
 bw:∀q∈beh,Qhd q.2/\11<=QbN q.2/\QbN q.2<=16/\WfV q.2
theorem costLs_take {slots:List SL} {i:Nat} {has:Bool} {v:SV} {d:UInt64} (h:slots[i]?=some (.mk has v d)):Z5 (slots.take (i+1))=Z5 (slots.take i)+(96+Qc8 v):=by
 rw[List.take_add_one,h]
 have:∀(l:List SL) y,Z5 (l++[y])=Z5 l+Qcn y:=by
  intro l y
  induction l with
  |nil=>simp[Z5]
  |cons x xs ih=>rw[List.cons_append,Z5,Z5,ih];omega
 rw[show (some (SL.mk has v d)).toList=[SL.mk has v d] from rfl,this,Qcn]
section
variable {slots:List SL} {b0:List UInt8} {vt at_ i:Nat} {b:List UInt8} {beh:List (Nat×SV)} (ph:Ph slots b0 vt at_ i b beh) {has:Bool} {v:SV} {d:UInt64} (hi:slots[i]?=some (.mk has v d))
include ph hi
theorem Ph.skip (hs:¬stoB has v d):Ph slots b0 vt at_ (i+1) b beh:=by
 refine ⟨ph.pre,ph.a1,ph.a2,ph.a3,by have:=ph.a4;omega,by rw[costLs_take hi];have:=ph.a5;omega,ph.hv,ph.ho,?_,ph.bp,ph.pw,ph.bw⟩
 intro j has' v' d' hj
 have h:=ph.sl j has' v' d' hj
 unfold SlotP at h⊢
 by_cases hji:j=i
 ·subst hji
  rw[hi]at hj
  cases hj
  rw[if_neg (fun h=>by omega)]at h
  rw[if_neg (fun h=>hs h.2)]
  exact h
 ·by_cases hc:j<i/\stoB has' v' d'
  ·rw[if_pos hc]at h;rw[if_pos ⟨by omega,hc.2⟩];exact h
  ·rw[if_neg hc]at h;rw[if_neg (fun h=>hc ⟨by omega,h.2⟩)];exact h
theorem Ph.more (hs:stoB has v d) (hwl:WfL (.mk has v d)) (hW:Qhd v) {c:List UInt8} {p:Nat} (h1:b.length<=p) (h2:p<=b.length+7) (hpre:Pre b0 c) (hc:c.length=p+isz v) (hn:slots.length<=100)
  (hold:∀q xs,Qx b q xs->(q+xs.length<=vt+4+2*i\/vt+4+2*i+2<=q)->Qx c q xs) (hent:Qx c (vt+4+2*i) (leB ((p-at_:Nat):Int) 2)) (hdat:dirV v->Qx c p (datV v)):
  Ph slots b0 vt at_ (i+1) c (if dirV v then beh else beh++[(p,v)]):=by
 have hil:=Qo hi
 obtain ⟨_,a1,a2,a3,a4,a5,hv,ho,sl,bp,pw,bw⟩:=ph
 rw[WfL]at hwl
 have hisz:isz v<=64/\(¬dirV v->isz v=4):=by
  unfold isz
  obtain ⟨kind,elem,num,text,nums,kids,slots'⟩:=v
  rw[WfV]at hwl
  have:=Qc7 kind
  show (if kind<=10 then sizeK kind else if kind=17 then text.length else 4)<=64/\(¬(kind<=10\/kind=17)->(if kind<=10 then sizeK kind else if kind=17 then text.length else 4)=4)
  split
  ·rename_i h;exact ⟨by omega,fun hh=>absurd (Or.inl h) hh⟩
  ·split
   ·rename_i h;exact ⟨(hwl.2.1 h).1,fun hh=>absurd (Or.inr h) hh⟩
   ·exact ⟨by omega,fun _=>rfl⟩
 have hsum:sumC (if dirV v then beh else beh++[(p,v)])<=sumC beh+Qc8 v:=by
  split
  ·omega
  ·rw[sumC_snoc];exact Nat.le_refl _
 refine ⟨hpre,a1,a2,by omega,by omega,?_,hold _ _ hv (Or.inl (by rw[Qf];omega)),hold _ _ ho (Or.inr (by omega)),?_,?_,?_,?_⟩
 ·rw[costLs_take hi];omega
 ·intro j has' v' d' hj
  have h:=sl j has' v' d' hj
  unfold SlotP at h⊢
  by_cases hji:j=i
  ·subst hji
   rw[hi]at hj
   cases hj
   rw[if_pos ⟨by omega,hs⟩]
   refine ⟨p-at_,by omega,by omega,by omega,hent,?_⟩
   rw[show at_+(p-at_)=p by omega]
   split
   ·rename_i hd
    exact ⟨hdat hd,fun q hq=>Or.inl (by have:=bp q hq;omega)⟩
   ·exact List.mem_append_right _ (List.mem_singleton.2 rfl)
  ·have hjl:=Qo hj
   by_cases hcj:j<i/\stoB has' v' d'
   ·rw[if_pos hcj]at h
    rw[if_pos ⟨by omega,hcj.2⟩]
    obtain ⟨e,e1,e2,e3,e4,e5⟩:=h
    refine ⟨e,e1,e2,by omega,hold _ _ e4 (by rw[Qf];omega),?_⟩
    split
    ·rename_i hd
     rw[if_pos hd]at e5
     refine ⟨hold _ _ e5.1 (Or.inr (by omega)),?_⟩
     intro q hq
     split at hq
     ·exact e5.2 q hq
     ·rcases List.mem_append.1 hq with hq|hq
      ·exact e5.2 q hq
      ·have:q=(p,v):=by simpa using hq
       subst this
       right;rw[datV_len hd];show at_+e+isz v'<=p;omega
    ·rename_i hd
     rw[if_neg hd]at e5
     split
     ·exact e5
     ·exact List.mem_append_left _ e5
   ·rw[if_neg hcj]at h
    rw[if_neg (fun h=>hcj ⟨by omega,h.2⟩)]
    exact hold _ _ h (by rw[Qf];omega)
 ·intro q hq
  split at hq
  ·have:=bp q hq;omega
  ·rename_i hd
   have h4:=hisz.2 hd
   rcases List.mem_append.1 hq with hq|hq
   ·have:=bp q hq;omega
   ·have:q=(p,v):=by simpa using hq
    subst this
    show at_+4<=p/\p+4<=c.length
    omega
 ·split
  ·exact pw
  ·rw[List.pairwise_append]
   refine ⟨pw,by simp,?_⟩
   intro a ha q hq
   have:q=(p,v):=by simpa using hq
   subst this
   have:=bp a ha
   show a.1+4<=p
   omega
 ·intro q hq
  split at hq
  ·exact bw q hq
  ·rename_i hd
   rcases List.mem_append.1 hq with hq|hq
   ·exact bw q hq
   ·have:q=(p,v):=by simpa using hq
    subst this
    refine ⟨hW,?_,?_,hwl⟩
    ·obtain ⟨kind,elem,num,text,nums,kids,slots'⟩:=v
     have hd:¬(kind<=10\/kind=17):=hd
     show 11<=kind
     rw[UInt8.le_iff_toNat_le]at hd⊢
     have e1:(10:UInt8).toNat=10:=rfl
     have e2:(11:UInt8).toNat=11:=rfl
     omega
    ·obtain ⟨kind,elem,num,text,nums,kids,slots'⟩:=v
     have hd:¬(kind<=10\/kind=17):=hd
     rw[WfV]at hwl
     have h17:=hwl.1
     show kind<=16
     have hne:kind.toNat≠17:=fun h=>hd (Or.inr (UInt8.toNat_inj.1 h))
     rw[UInt8.le_iff_toNat_le]at h17⊢
     have e1:(17:UInt8).toNat=17:=rfl
     have e2:(16:UInt8).toNat=16:=rfl
     omega
end
end Go.Proofs
