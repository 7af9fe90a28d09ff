/- WHAT IS PROVED: the given statement of FnMonsterWritten, whatever the input: this is part 14 of 14. No conditions. -/
import Derived.Test.YtkkcpkfpegmgbaaGreatX13
import Derived.Test.YtkkcpkfpegmgbaaGreatRows
import Derived.ProofKit
set_option linter.all false
namespace Go.Proofs
open Go Go.Vc
open Tryz (prog)
def tabWB (x0 x21 x50 x68 x70 x7:Value) (h10:Qe) (k:Kn):Prop:=
 QD (fun M4=>
 Y1 9 x68 x70 fun x73=>
 LdN h10 9 x73 fun x74=>
 Y5 h10 (.cells z74 74) fun x9 h11=>
 StK h11 9 x9 x74 fun h12=>
 Qg x9 0 fun x75=>
 LdK h12 x75 fun x76=>
 ZI prog (Op.unary .not x76) fun x77=>
 Qc x77 false (fun k5=>Qg x9 1 fun x79=>k5 x79 h12) h12 fun x79_1 h13=>
 Qc x77 false (fun k6=>Qg x79_1 0 fun x80=>k6 x80 h13) h13 fun x80_1 h14=>
 Qc x77 false (fun k7=>LdK h14 x80_1 fun x81=>k7 x81 h14) h14 fun x81_1 h15=>
 Qc x77 false (fun k8=>Qk prog .leq 5 x81_1 (.int .u8 10) fun x82=>k8 x82 h15) h15 fun x82_1 h16=>
 Qc x77 false (fun k9=>k9 x82_1 h16) h16 fun x83 h17=>
 Qc x83 true (fun k10=>Qg x9 1 fun x84=>k10 x84 h17) h17 fun x84_1 h18=>
 Qc x83 true (fun k11=>Qg x84_1 0 fun x85=>k11 x85 h18) h18 fun x85_1 h19=>
 Qc x83 true (fun k12=>LdK h19 x85_1 fun x86=>k12 x86 h19) h19 fun x86_1 h20=>
 Qc x83 true (fun k13=>Qg x9 1 fun x87=>k13 x87 h20) h20 fun x87_1 h21=>
 Qc x83 true (fun k14=>Qg x87_1 2 fun x88=>k14 x88 h21) h21 fun x88_1 h22=>
 Qc x83 true (fun k15=>LdK h22 x88_1 fun x89=>k15 x89 h22) h22 fun x89_1 h23=>
 Qc x83 true (fun k16=>Qg x9 8 fun x90=>k16 x90 h23) h23 fun x90_1 h24=>
 Qc x83 true (fun k17=>LdK h24 x90_1 fun x91=>k17 x91 h24) h24 fun x91_1 h25=>
 Qc x83 true (fun k18=>Qa prog 69 #[x86_1,x89_1,x91_1] h25 fun x92 h26=>k18 x92 h26) h25 fun x92_1 h27=>
 Qc x77 false (fun k19=>Yd x83 x92_1 (.bool false) fun x93=>k19 x93 h27) h27 fun x93_1 h28=>
 Yd x77 (.bool true) x93_1 fun x94=>
 IfK x94
 (M4 [x7] h28)
 (QD (fun M20=>
 Qg x9 1 fun x98=>
 Qg x98 0 fun x99=>
 LdK h28 x99 fun x100=>
 Qk prog .leq 5 x100 (.int .u8 10) fun x101=>
 IfK x101
 (Qg x9 1 fun x102=>
 Qg x102 0 fun x103=>
 LdK h28 x103 fun x104=>
 Qa prog 70 #[x104] h28 fun x105 h29=>
 Qa prog 68 #[x0,x105] h29 fun _x108 h30=>
 M20 [x101,x105] h30)
 (Qg x9 1 fun x110=>
 Qg x110 0 fun x111=>
 LdK h28 x111 fun x112=>
 Qk prog .eql 5 x112 (.int .u8 17) fun x113=>
 IfK x113
 (Qg x9 1 fun x114=>
 Qg x114 3 fun x115=>
 LdK h28 x115 fun x116=>
 QeL x116 fun x117=>
 Qg x9 1 fun x119=>
 Qg x119 1 fun x120=>
 LdK h28 x120 fun x121=>
 QK .i64 x121 fun x122=>
 Qa prog 68 #[x0,x122] h28 fun _x123 h31=>
 M20 [x101,x117] h31)
 (Qa prog 68 #[x0,(.int .i64 4)] h28 fun _x96 h32=>
 M20 [x101,(.int .i64 4)] h32))) fun M20=>∀x97 x10:Value,∀h33:Qe,M20 [x97,x10] h33->
 Q3 x0 fun x125=>
 Qg x125 0 fun x126=>
 LdK h33 x126 fun x127=>
 Yv x127 fun x128=>
 Q3 x0 fun x131=>
 Qg x131 0 fun x132=>
 LdK h33 x132 fun x133=>
 AppZK h33 5 1 1 z5 x133 x10 fun x135 h34=>
 Q3 x0 fun x136=>
 Qg x136 0 fun x137=>
 StK h34 1 x137 x135 fun h35=>
 Qk prog .add 3 x21 (.int .i64 4) fun x140=>
 Qk prog .mul 3 (.int .i64 2) x70 fun x142=>
 Qk prog .add 3 x140 x142 fun x143=>
 Qk prog .sub 3 x128 x50 fun x146=>
 QK .u64 x146 fun x147=>
 Qa prog 20 #[x0,x143,x147,(.int .i64 2)] h35 fun _x148 h36=>
 Qg x9 1 fun x157=>
 Qg x157 0 fun x158=>
 LdK h36 x158 fun x159=>
 Qk prog .leq 5 x159 (.int .u8 10) fun x160=>
 IfK x160
 (Qg x9 1 fun x163=>
 Qg x163 2 fun x164=>
 LdK h36 x164 fun x165=>
 Qa prog 20 #[x0,x128,x165,x10] h36 fun _x167 h37=>
 M4 [x7] h37)
 (Qg x9 1 fun x169=>
 Qg x169 0 fun x170=>
 LdK h36 x170 fun x171=>
 Qk prog .eql 5 x171 (.int .u8 17) fun x172=>
 IfK x172
 (Q3 x0 fun x174=>
 Qg x174 0 fun x175=>
 LdK h36 x175 fun x176=>
 Qey 1 x176 (some x128) none fun x178=>
 Qg x9 1 fun x179=>
 Qg x179 3 fun x180=>
 LdK h36 x180 fun x181=>
 Qh5 h36 1 x178 x181 fun _x182 h38=>
 M4 [x7] h38)
 (Qg x9 1 fun x151=>
 LdN h36 7 x151 fun x152=>
 Qz z142.toList [(0,1,x128),(1,7,x152)] fun x153=>
 Q8 h36 142 1 (YV z142.toList 1) [(0,8,x153)] fun x154 h39=>
 Qbs h39 142 8 112 z142 x7 x154 fun x155 h40=>
 M4 [x155] h40)))) fun M4=>∀x7_1:Value,∀h41:Qe,M4 [x7_1] h41->
 k x7_1 h41
def tabWH (x9:Value) (h12:Qe) (T:Kn):Prop:=
 Qg x9 0 fun x75=>
 LdK h12 x75 fun x76=>
 ZI prog (Op.unary .not x76) fun x77=>
 Qc x77 false (fun k5=>Qg x9 1 fun x79=>k5 x79 h12) h12 fun x79_1 h13=>
 Qc x77 false (fun k6=>Qg x79_1 0 fun x80=>k6 x80 h13) h13 fun x80_1 h14=>
 Qc x77 false (fun k7=>LdK h14 x80_1 fun x81=>k7 x81 h14) h14 fun x81_1 h15=>
 Qc x77 false (fun k8=>Qk prog .leq 5 x81_1 (.int .u8 10) fun x82=>k8 x82 h15) h15 fun x82_1 h16=>
 Qc x77 false (fun k9=>k9 x82_1 h16) h16 fun x83 h17=>
 Qc x83 true (fun k10=>Qg x9 1 fun x84=>k10 x84 h17) h17 fun x84_1 h18=>
 Qc x83 true (fun k11=>Qg x84_1 0 fun x85=>k11 x85 h18) h18 fun x85_1 h19=>
 Qc x83 true (fun k12=>LdK h19 x85_1 fun x86=>k12 x86 h19) h19 fun x86_1 h20=>
 Qc x83 true (fun k13=>Qg x9 1 fun x87=>k13 x87 h20) h20 fun x87_1 h21=>
 Qc x83 true (fun k14=>Qg x87_1 2 fun x88=>k14 x88 h21) h21 fun x88_1 h22=>
 Qc x83 true (fun k15=>LdK h22 x88_1 fun x89=>k15 x89 h22) h22 fun x89_1 h23=>
 Qc x83 true (fun k16=>Qg x9 8 fun x90=>k16 x90 h23) h23 fun x90_1 h24=>
 Qc x83 true (fun k17=>LdK h24 x90_1 fun x91=>k17 x91 h24) h24 fun x91_1 h25=>
 Qc x83 true (fun k18=>Qa prog 69 #[x86_1,x89_1,x91_1] h25 fun x92 h26=>k18 x92 h26) h25 fun x92_1 h27=>
 Qc x77 false (fun k19=>Yd x83 x92_1 (.bool false) fun x93=>k19 x93 h27) h27 fun x93_1 h28=>
 Yd x77 (.bool true) x93_1 fun x94=>
 T x94 h28
def tabWC (x0 x7_2 x198:Value) (h44:Qe) (k:Qe->Prop):Prop:=
 Y1 8 x7_2 x198 fun x200=>
 LdN h44 8 x200 fun x201=>
 Y5 h44 (.cells z142 142) fun x13 h45=>
 StK h45 8 x13 x201 fun h46=>
 Qg x13 1 fun x203=>
 LdN h46 7 x203 fun x204=>
 Qa prog 71 #[x0,x204] h46 fun x205 h47=>
 Qg x13 0 fun x207=>
 LdK h47 x207 fun x208=>
 Qg x13 0 fun x210=>
 LdK h47 x210 fun x211=>
 Qk prog .sub 3 x205 x211 fun x212=>
 QK .u64 x212 fun x213=>
 Qa prog 20 #[x0,x208,x213,(.int .i64 4)] h47 fun _x214 h48=>
 k h48
theorem tabWH_of {q9:Nat} {H:Qe} {has:Bool} {kind elem:UInt8} {num d:UInt64} {text:List UInt8} {nums:List UInt64} {kids:List SV} {slots:List SL} (p0:∀k:Value->Prop,LdK H (.pointer (some ⟨q9,0,none⟩)) k=k (.bool has)) (p1:∀k:Value->Prop,LdK H (.pointer (some ⟨q9,1,none⟩)) k=k (u8n kind))
  (p3:∀k:Value->Prop,LdK H (.pointer (some ⟨q9,3,none⟩)) k=k (Ya num)) (p8:∀k:Value->Prop,LdK H (.pointer (some ⟨q9,8,none⟩)) k=k (Ya d)) {T:Kn} (hT:T (.bool (decide (¬stoB has (.mk kind elem num text nums kids slots) d))) H):tabWH (ptr q9) H T:=by
 have e10:decide ((kind.toNat:Int)<=10)=decide (kind<=10):=decide_eq_decide.2 (by rw[UInt8.le_iff_toNat_le];show _↔kind.toNat<=10;omega)
 unfold tabWH
 simp only[QdA,Nat.zero_add,Nat.add_zero,Nat.reduceAdd,p0,Ym]
 cases has with
 |false=>
  simp only[Bool.not_false,Yz,QaO,Y8,Ye]
  rw[show decide (¬stoB false (.mk kind elem num text nums kids slots) d)=true from decide_eq_true (fun h=>by cases h.1)]at hT
  first|exact hT|(simp only[GuardK_ut,Ye];exact hT)
 |true=>
  simp only[Bool.not_true,Y0,QdA,Nat.zero_add,Nat.add_zero,Nat.reduceAdd,p1,Qex,e10]
  by_cases h10:kind<=10
  ·rw[decide_eq_true h10]
   simp only[QU,QdA,Nat.zero_add,Nat.add_zero,Nat.reduceAdd,p1,p3,p8]
   refine Equal_ok ?_
   simp only[Ye,YY]
   have:decide (¬stoB true (.mk kind elem num text nums kids slots) d)=eqK kind num d:=by
    cases hq:eqK kind num d
    ·exact decide_eq_false (fun h=>h ⟨rfl,fun hh=>by have h2:eqK kind num d=true:=hh.2;rw[hq]at h2;cases h2⟩)
    ·exact decide_eq_true (fun h=>h.2 ⟨h10,hq⟩)
   rw[this]at hT
   exact hT
  ·rw[decide_eq_false h10]
   simp only[Y8,QaO,YY]
   rw[show decide (¬stoB true (.mk kind elem num text nums kids slots) d)=false from decide_eq_false (fun h=>h ⟨rfl,fun hh=>h10 hh.1⟩)]at hT
   exact hT
theorem fill_lt (p:Int) (a b c d e f g:Value):YJ z142.toList [(0,1,.int .i64 p),(1,7,.agg #[a,b,c,d,e,f,g])]=some [.int .i64 p,a,b,c,d,e,f,g]:=by kernel_rfl
def QiI (G:Cut) (items:List (List Value)) (beh:List (Nat×SV)):Prop:=items.length=beh.length/\∀(k:Nat) (q:Nat×SV),beh[k]?=some q->∃c,items[k]?=some (.int .i64 (q.1:Nat)::c)/\VV G q.2 c
set_option maxHeartbeats 2000000 in
theorem tabWB_ok {slots:List SL} (hS:∀l∈slots,WriteL l) (wf:QhJ slots) (hn:slots.length<=100) {G:Cut} {H:Qe} {w:Nat} {b:List UInt8} {y:Value} {items:List (List Value)} {b0:List UInt8} {vt at_ i:Nat} {beh:List (Nat×SV)} (wb:WB G H w b 142 8 y items) (ph:Ph slots b0 vt at_ i b beh) (it:QiI G items beh) (hbl:beh.length<=i) (hat:at_<=1000000000)
  {s:Value} {sitems:List (List Value)} (hs:SlV G 9 s sitems) (hvs:VLs G slots sitems) (hlt:i<slots.length) {k:Kn}
  (hk:∀y' H' b' beh' items',WB G H' w b' 142 8 y' items'->Ph slots b0 vt at_ (i+1) b' beh'->QiI G items' beh'->beh'.length<=i+1->k y' H'):tabWB (ptr w) (.int .i64 (vt:Nat)) (.int .i64 (at_:Nat)) s (.int .i64 (i:Nat)) y H k:=by
 have ha:=List.getElem?_eq_getElem hlt
 obtain ⟨x1,k1,k2⟩:=VLs.get hvs ha
 have hmem:=List.mem_of_getElem? ha
 have hSl:=hS _ hmem
 have hwl:=wf.get _ hmem
 generalize slots[i]=sl at ha k2 hSl hwl
 obtain ⟨has,v,d⟩:=sl
 have hone:=k2.one
 rw[VL]at k2
 obtain ⟨yv,rfl,z⟩:=k2
 have hWv:Qhd v:=hSl
 obtain ⟨kind,elem,num,text,nums,kids,slots'⟩:=v
 have z':=z
 rw[VV]at z'
 obtain ⟨cn,ck,cs,rfl,_⟩:=z'
 have b1:=ph.a4;have b2:=ph.a3;have b3:=ph.a2;have b4:=ph.a1
 unfold tabWB
 refine Q0 (fun vs h=>∃y' b' beh' items',vs=[y']/\WB G h w b' 142 8 y' items'/\Ph slots b0 vt at_ (i+1) b' beh'/\QiI G items' beh'/\beh'.length<=i+1) ?_ ?_
 rotate_left
 ·rintro x7 h41 ⟨y',b',beh',items',hx,h1,h2,h3,h4⟩
  cases hx
  exact hk _ h41 b' beh' items' h1 h2 h3 h4
 refine Z8 hs wb.inn k1 ?_
 rw[Qy,Yg (n:=9) (c':=(.bool has::([u8n kind,u8n elem,Ya num,Yf text,cn,ck,cs]++[Ya d])).toArray) Qh rfl rfl (by decide) (by simpa using hone),Yq]
 have wb2:=wb.pushG (.cells (.bool has::([u8n kind,u8n elem,Ya num,Yf text,cn,ck,cs]++[Ya d])).toArray 74 (0,0))
 have g9:(G.upd H.size (.cells (.bool has::([u8n kind,u8n elem,Ya num,Yf text,cn,ck,cs]++[Ya d])).toArray 74 (0,0))) H.size=some (.cells (.bool has::([u8n kind,u8n elem,Ya num,Yf text,cn,ck,cs]++[Ya d])).toArray 74 (0,0)):=Cut.upd_same
 have le2:=((Ext.refl wb.inn).pushG (.cells (.bool has::([u8n kind,u8n elem,Ya num,Yf text,cn,ck,cs]++[Ya d])).toArray 74 (0,0))).le
 generalize G.upd H.size (.cells (.bool has::([u8n kind,u8n elem,Ya num,Yf text,cn,ck,cs]++[Ya d])).toArray 74 (0,0))=G2 at *
 generalize H.push (.cells (.bool has::([u8n kind,u8n elem,Ya num,Yf text,cn,ck,cs]++[Ya d])).toArray 74 (0,0))=H2 at *
 generalize H.size=q9 at *
 obtain ⟨G3,le3,hw,_,hback⟩:=wb2.step
 have g9:=le3 _ _ g9
 have ld:∀{H'':Qe},G3.In H''->∀{i:Nat} {w:Value} (k:Value->Prop),(.bool has::([u8n kind,u8n elem,Ya num,Yf text,cn,ck,cs]++[Ya d]):List Value)[i]?=some w->LdK H'' (.pointer (some ⟨q9,i,none⟩)) k=k w:=fun hin _ _ k h=>Ql ((Qj (hin _ _ g9)).trans (by simpa using h))
 have l0:∀{H'':Qe},G3.In H''->∀k:Value->Prop,LdK H'' (.pointer (some ⟨q9,0,none⟩)) k=k (.bool has):=fun hin k=>ld hin k rfl
 have l1:∀{H'':Qe},G3.In H''->∀k:Value->Prop,LdK H'' (.pointer (some ⟨q9,1,none⟩)) k=k (u8n kind):=fun hin k=>ld hin k rfl
 have l2:∀{H'':Qe},G3.In H''->∀k:Value->Prop,LdK H'' (.pointer (some ⟨q9,2,none⟩)) k=k (u8n elem):=fun hin k=>ld hin k rfl
 have l3:∀{H'':Qe},G3.In H''->∀k:Value->Prop,LdK H'' (.pointer (some ⟨q9,3,none⟩)) k=k (Ya num):=fun hin k=>ld hin k rfl
 have l4:∀{H'':Qe},G3.In H''->∀k:Value->Prop,LdK H'' (.pointer (some ⟨q9,4,none⟩)) k=k (Yf text):=fun hin k=>ld hin k rfl
 have l8:∀{H'':Qe},G3.In H''->∀k:Value->Prop,LdK H'' (.pointer (some ⟨q9,8,none⟩)) k=k (Ya d):=fun hin k=>ld hin k rfl
 have f1:∀{m:Nat} (k:Value->Prop),Qg (.pointer (some ⟨q9,1,none⟩)) m k=k (.pointer (some ⟨q9,1+m,none⟩)):=fun k=>QdA
 have e10:decide ((kind.toNat:Int)<=10)=decide (kind<=10):=decide_eq_decide.2 (by rw[UInt8.le_iff_toNat_le];show _↔kind.toNat<=10;omega)
 refine tabWH_of (elem:=elem) (text:=text) (nums:=nums) (kids:=kids) (slots:=slots') (l0 hw.inn) (l1 hw.inn) (l3 hw.inn) (l8 hw.inn) ?_
 refine Zd (fun hns=>⟨y,b,beh,items,rfl,(hback _ _ hw).weaken le2,ph.skip ha hns,it,by omega⟩) (fun hst=>?_)
 have hst:=Classical.byContradiction hst
 have hwl':=hwl
 rw[WfL,WfV]at hwl'
 have hszK:=Qc7 kind
 have hiz:isz (.mk kind elem num text nums kids slots')=if kind<=10 then sizeK kind else if kind=17 then text.length else 4:=rfl
 have hizl:isz (.mk kind elem num text nums kids slots')<=64:=by
  rw[hiz]
  split
  ·omega
  ·split
   ·rename_i h;exact (hwl'.2.1 h).1
   ·omega
 generalize hize:isz (.mk kind elem num text nums kids slots')=iz at *
 refine Q0 (fun vs h=>∃a z,vs=[a,.int .i64 (iz:Nat)]/\(z:List UInt8).length<=7/\WrC G3 h w (b++z)) ?_ ?_
 ·rw[Qm,f1,l1 hw.inn,Qex,e10]
  refine Zd (fun h10=>?_) (fun h10=>?_)
  ·rw[if_pos h10]at hiz
   rw[Qm,f1,l1 hw.inn]
   refine Size_ok ?_
   have hp:=Zr (size:=sizeK kind) (n:=b.length) (by omega)
   refine QgB hw (s:=sizeK kind) hszK (by omega) ?_
   intro _ H6 h6
   exact ⟨_,_,by rw[hiz],by rw[List.length_replicate];omega,h6⟩
  ·rw[if_neg h10]at hiz
   rw[Qm,f1,l1 hw.inn,eqU (c:=17) (z:=17) rfl]
   refine Zd (fun h17=>?_) (fun h17=>?_)
   ·rw[if_pos h17]at hiz
    have he:=(hwl'.2.1 h17).2
    have hen:elem.toNat=1\/elem.toNat=2\/elem.toNat=4\/elem.toNat=8:=by rcases he with rfl|rfl|rfl|rfl<;>decide
    rw[Qm,f1,l4 hw.inn,Qdo,Qau,Qm,f1,l2 hw.inn,QH,wrap_i64 (by omega) (by omega)]
    have hp:=Zr (size:=elem.toNat) (n:=b.length) (by omega)
    refine QgB hw (s:=elem.toNat) hen (by omega) ?_
    intro _ H6 h6
    exact ⟨_,_,by rw[hiz],by rw[List.length_replicate];omega,h6⟩
   ·rw[if_neg h17]at hiz
    have hp:=Zr (size:=4) (n:=b.length) (by omega)
    refine QgB hw (s:=4) (by decide) (by omega) ?_
    intro _ H6 h6
    exact ⟨_,_,by rw[hiz];rfl,by rw[List.length_replicate];omega,h6⟩
 rintro x97 x10 h33 ⟨a,zz,hx,hz,s1,h1⟩
 cases hx
 have hlen:(b++zz).length=b.length+zz.length:=List.length_append
 rw[Qs,Qm,h1.ld,h1.len,Qs,Qm,h1.ld]
 refine h1.appz (by omega) ?_
 intro H35 s2 h2
 have m1:IntKind.i64.wrap ((vt:Int)+4)=((vt+4:Nat):Int):=by rw[wrap_i64 (by omega) (by omega)];omega
 have m2:IntKind.i64.wrap (2*(i:Int))=((2*i:Nat):Int):=by rw[wrap_i64 (by omega) (by omega)];omega
 have m3:IntKind.i64.wrap (((vt+4:Nat):Int)+((2*i:Nat):Int))=((vt+4+2*i:Nat):Int):=by rw[wrap_i64 (by omega) (by omega)];omega
 have m4:IntKind.i64.wrap (((b++zz).length:Int)-(at_:Int))=(((b++zz).length-at_:Nat):Int):=by rw[hlen,wrap_i64 (by omega) (by omega)];omega
 rw[QA,m1,Z1,m2,QA,m3,QZ,m4,QaC]
 have hc1:((b++zz)++List.replicate iz (0:UInt8)).length=(b++zz).length+iz:=by rw[List.length_append,List.length_replicate]
 refine Qhe ⟨s2,h2⟩ (k:=2) (by decide) (by omega) (by omega) ?_
 intro _ H36 h3
 rw[Qb0 (by omega)]at h3
 have hset:(vt+4+2*i)+(leB (((b++zz).length-at_:Nat):Int) 2).length<=((b++zz)++List.replicate iz (0:UInt8)).length:=by rw[Qf];omega
 have hold:∀q xs,Qx b q xs->(q+xs.length<=vt+4+2*i\/vt+4+2*i+2<=q)->Qx (Zt ((b++zz)++List.replicate iz 0) (vt+4+2*i) (leB (((b++zz).length-at_:Nat):Int) 2)) q xs:=fun q xs hq hd=>by
  have hq1:=hq.1
  exact ((hq.app zz).app _).put_ne hset (by rw[Qf];omega)
 have hent:Qx (Zt ((b++zz)++List.replicate iz 0) (vt+4+2*i) (leB (((b++zz).length-at_:Nat):Int) 2)) (vt+4+2*i) (leB (((b++zz).length-at_:Nat):Int) 2):=Qx.put_eq hset
 have hc2:(Zt ((b++zz)++List.replicate iz 0) (vt+4+2*i) (leB (((b++zz).length-at_:Nat):Int) 2)).length=(b++zz).length+iz:=by rw[Q7,hc1]
 have hpre:Pre b0 (Zt ((b++zz)++List.replicate iz 0) (vt+4+2*i) (leB (((b++zz).length-at_:Nat):Int) 2)):=((ph.pre.app zz).app _).put (by omega) hset
 generalize Zt ((b++zz)++List.replicate iz 0) (vt+4+2*i) (leB (((b++zz).length-at_:Nat):Int) 2)=c2 at *
 have hb0:b0.length<=(b++zz).length:=by omega
 have hle2:G.le G3:=Cut.le_trans le2 le3
 rw[Qm,f1,l1 h3.inn,Qex,e10]
 refine Zd (fun h10=>?_) (fun h10=>?_)
 ·rw[if_pos h10]at hiz
  have hd:dirV (.mk kind elem num text nums kids slots'):=Or.inl h10
  have hdv:datV (.mk kind elem num text nums kids slots')=leB (num.toNat:Int) iz:=by
   rw[hiz];unfold datV;rw[if_pos (show QbN (.mk kind elem num text nums kids slots')<=10 from h10)];rfl
  rw[Qm,f1,l3 h3.inn]
  refine Qhe h3 (n:=num) (k:=iz) (by omega) (by omega) (by omega) ?_
  intro _ H37 h4
  have hq2:(b++zz).length+(leB (num.toNat:Int) iz).length<=c2.length:=by rw[Qf];omega
  have hm:=ph.more ha hst hwl hWv (c:=Zt c2 (b++zz).length (leB (num.toNat:Int) iz)) (p:=(b++zz).length) (by omega) (by omega) (hpre.put hb0 hq2) (by rw[Q7,hize];exact hc2) hn
   (fun q xs hq hd=>by have hq1:=hq.1;exact (hold q xs hq hd).put_ne hq2 (Or.inr (by omega))) (hent.put_ne hq2 (Or.inr (by rw[Qf];omega))) (fun _=>by rw[hdv];exact Qx.put_eq hq2)
  rw[if_pos hd]at hm
  exact ⟨y,_,beh,items,rfl,(hback _ _ h4).weaken le2,hm,it,by omega⟩
 ·rw[if_neg h10]at hiz
  rw[Qm,f1,l1 h3.inn,eqU (c:=17) (z:=17) rfl]
  refine Zd (fun h17=>?_) (fun h17=>?_)
  ·rw[if_pos h17]at hiz
   have hd:dirV (.mk kind elem num text nums kids slots'):=Or.inr h17
   have hdv:datV (.mk kind elem num text nums kids slots')=text:=by
    unfold datV;rw[if_neg (show ¬QbN (.mk kind elem num text nums kids slots')<=10 from h10)];rfl
   obtain ⟨s3,h3'⟩:=h3
   have hq2:(b++zz).length+text.length<=c2.length:=by omega
   rw[Qs,Qm,h3'.ld]
   refine h3'.copy (xs:=text) (p:=(b++zz).length) hq2 (by omega) (K:=fun d kk=>Qg (ptr q9) 1 fun x179=>Qg x179 3 fun x180=>LdK H36 x180 kk) ?_ ?_
   ·intro _ H38 s4 h4
    have hm:=ph.more ha hst hwl hWv (c:=Zt c2 (b++zz).length text) (p:=(b++zz).length) (by omega) (by omega) (hpre.put hb0 hq2) (by rw[Q7,hize];exact hc2) hn
     (fun q xs hq hd=>by have hq1:=hq.1;exact (hold q xs hq hd).put_ne hq2 (Or.inr (by omega))) (hent.put_ne hq2 (Or.inr (by rw[Qf];omega))) (fun _=>by rw[hdv];exact Qx.put_eq hq2)
    rw[if_pos hd]at hm
    exact ⟨y,_,beh,items,rfl,(hback _ _ ⟨s4,h4⟩).weaken le2,hm,it,by omega⟩
   ·intro d' kk hkk
    rw[Qm,f1,l4 h3'.inn]
    exact hkk
  ·have hd:¬dirV (.mk kind elem num text nums kids slots'):=fun h=>h.elim h10 h17
   have hm:=ph.more ha hst hwl hWv (c:=c2) (p:=(b++zz).length) (by omega) (by omega) hpre (by rw[hize];exact hc2) hn hold hent (fun h=>absurd h hd)
   rw[if_neg hd]at hm
   rw[Qm,YI (n:=7) (vs:=[u8n kind,u8n elem,Ya num,Yf text,cn,ck,cs]) (by rw[Q4 (h3.inn _ _ g9) 7 (by simp)];rfl)]
   refine Y6 (fill_lt ((b++zz).length:Nat) _ _ _ _ _ _ _) ?_
   have wb4:=(hback _ _ h3).weaken le2
   refine wb4.app (bts:=112) (zs:=z142) (v:=.agg [.int .i64 ((b++zz).length:Nat),u8n kind,u8n elem,Ya num,Yf text,cn,ck,cs].toArray) (it:=[.int .i64 ((b++zz).length:Nat),u8n kind,u8n elem,Ya num,Yf text,cn,ck,cs]) rfl rfl ?_ (by decide) rfl (by decide) (by have:=it.1;omega) ?_
   ·intro x hx
    rcases List.mem_cons.1 hx with rfl|hx
    ·rfl
    ·exact z.one x hx
   ·intro y' H40 wb5
    refine ⟨y',c2,_,_,rfl,wb5,hm,⟨by simp[it.1],?_⟩,by rw[List.length_append];show beh.length+1<=_;omega⟩
    intro kk q hq
    rcases Nat.lt_or_ge kk beh.length with h|h
    ·rw[List.getElem?_append_left h]at hq
     obtain ⟨c,hc,hv⟩:=it.2 kk q hq
     exact ⟨c,by rw[List.getElem?_append_left (by rw[it.1];exact h)];exact hc,hv⟩
    ·rw[List.getElem?_append_right h]at hq
     have hk0:kk-beh.length=0:=by
      have:=Qo hq
      simp at this
      omega
     rw[hk0]at hq
     have:q=((b++zz).length,.mk kind elem num text nums kids slots'):=by simpa using hq.symm
     subst this
     refine ⟨[u8n kind,u8n elem,Ya num,Yf text,cn,ck,cs],?_,z⟩
     rw[List.getElem?_append_right (by rw[it.1];exact h),it.1,hk0]
     rfl
end Go.Proofs
namespace Go.Proofs
open Go Go.Vc
open Tryz (prog)
theorem Pre.refl (b:List UInt8):Pre b b:=⟨[],by simp⟩
theorem costLs_96:∀l:List SL,96*l.length<=Z5 l
 |[]=>by simp[Z5]
 |x::xs=>by
  have:=costLs_96 xs
  obtain ⟨h,v,d⟩:=x
  rw[Z5,Qcn,List.length_cons];omega
structure Ph2 (b0 bL:List UInt8) (beh:List (Nat×SV)) (k:Nat) (c:List UInt8):Prop where
 pre:Pre b0 c
 len:bL.length<=c.length
 bound:c.length+sumC (beh.drop k)<=bL.length+sumC beh
 old:∀p xs,Qx bL p xs->(∀q∈beh,q.1+4<=p\/p+xs.length<=q.1)->Qx c p xs
 done:∀m q,m<k->beh[m]?=some q->∃pos,Qx c q.1 (leB ((pos-q.1:Nat):Int) 4)/\bL.length<=pos/\pos+4<=c.length/\∀F,Agr bL.length c F->F.length<2147483648->Qjg q.2 F pos
theorem sumC_drop {beh:List (Nat×SV)} {k:Nat} {q:Nat×SV} (h:beh[k]?=some q):sumC (beh.drop k)=Qc8 q.2+sumC (beh.drop (k+1)):=by
 have hk:=Qo h
 have e:beh[k]=q:=by rw[List.getElem?_eq_getElem hk]at h;simpa using h
 rw[List.drop_eq_getElem_cons hk,e]
 simp[sumC]
theorem tabWC_ok {G:Cut} {H:Qe} {w:Nat} {b0 bL c:List UInt8} {beh:List (Nat×SV)} {k:Nat} {y:Value} {items:List (List Value)} (h:WrC G H w c) (ph:Ph2 b0 bL beh k c) (hs:SlV G 8 y items) (it:QiI G items beh) (hk:k<beh.length) (hb0:∀q∈beh,b0.length<=q.1) (hbp:∀q∈beh,q.1+4<=bL.length) (hpw:beh.Pairwise (fun a c=>a.1+4<=c.1))
  (hbw:∀q∈beh,Qhd q.2/\11<=QbN q.2/\QbN q.2<=16/\WfV q.2) (hl:bL.length+sumC beh<=1000000000) {kp:Qe->Prop} (hkp:∀H' c',WrC G H' w c'->Ph2 b0 bL beh (k+1) c'->kp H'):tabWC (ptr w) y (.int .i64 (k:Nat)) H kp:=by
 have hq:=List.getElem?_eq_getElem hk
 have hmem:=List.mem_of_getElem? hq
 obtain ⟨cv,hc,hv⟩:=it.2 k _ hq
 have hsd:=sumC_drop hq
 have p1:=hb0 _ hmem
 have p2:=hbp _ hmem
 obtain ⟨w1,w2,w3,w4⟩:=hbw _ hmem
 have hdis:∀m q',m≠k->beh[m]?=some q'->q'.1+4<=beh[k].1\/beh[k].1+4<=q'.1:=fun m q' hm hq'=>by
  have hml:=Qo hq'
  have e:beh[m]=q':=by rw[List.getElem?_eq_getElem hml]at hq';simpa using hq'
  rw[List.pairwise_iff_getElem]at hpw
  rcases Nat.lt_or_ge m k with h|h
  ·left;have:=hpw m k hml hk h;rw[e]at this;exact this
  ·right;have:=hpw k m hk hml (by omega);rw[e]at this;exact this
 generalize beh[k]=q at *
 obtain ⟨p,v⟩:=q
 have hvl:=hv.len
 obtain ⟨pre,len,bound,old,done⟩:=ph
 unfold tabWC
 refine Z8 hs h.inn hc ?_
 rw[Qy,Yg (n:=8) (c':=(.int .i64 (p:Nat)::cv).toArray) Qh rfl (by simp[hvl]) (by decide) (by
  intro x hx
  simp only[List.toList_toArray,List.mem_cons]at hx
  rcases hx with rfl|hx
  ·rfl
  ·exact hv.one x hx),Yq]
 have h3:=h.pushG (.cells (.int .i64 (p:Nat)::cv).toArray 142 (0,0))
 have g13:(G.upd H.size (.cells (.int .i64 (p:Nat)::cv).toArray 142 (0,0))) H.size=some (.cells (.int .i64 (p:Nat)::cv).toArray 142 (0,0)):=Cut.upd_same
 have le3:=((Ext.refl h.inn).pushG (.cells (.int .i64 (p:Nat)::cv).toArray 142 (0,0))).le
 generalize G.upd H.size (.cells (.int .i64 (p:Nat)::cv).toArray 142 (0,0))=G3 at *
 generalize H.push (.cells (.int .i64 (p:Nat)::cv).toArray 142 (0,0))=H3 at *
 generalize H.size=q13 at *
 rw[Qm,YI (n:=7) (vs:=cv) (by rw[Q4 (h3.inn _ _ g13) 7 (by simp[hvl])];simp[<-hvl])]
 refine w1 w2 w3 w4 G3 H3 w c cv _ h3 (VV.mono le3 _ _ hv) (by omega) ?_
 intro H4 x pos h4 xl ps1 ps2 hval
 have l0:∀kk:Value->Prop,LdK H4 (.pointer (some ⟨q13,0,none⟩)) kk=kk (.int .i64 (p:Nat)):=fun kk=>Ql ((Qj (h4.inn _ _ g13)).trans (by simp))
 have hcl:(c++x).length=c.length+x.length:=List.length_append
 rw[Qm,l0,Qm,l0,QZ,show IntKind.i64.wrap ((pos:Int)-(p:Int))=((pos-p:Nat):Int) by rw[wrap_i64 (by omega) (by omega)];omega,QaC]
 have hset:p+(leB ((pos-p:Nat):Int) 4).length<=(c++x).length:=by rw[Qf];show p+4<=_;have:p+4<=bL.length:=p2;omega
 have hp2:p+4<=bL.length:=p2
 refine Qhe h4 (k:=4) (by decide) (by omega) (by omega) ?_
 intro _ H5 h5
 rw[Qb0 (by omega)]at h5
 have ha1:Agr bL.length c (Zt (c++x) p (leB ((pos-p:Nat):Int) 4)):=(Agr.app _ _ _).trans (Agr.put hset (by rw[Qf];omega))
 refine hkp H5 _ (h5.weaken le3) ⟨(pre.app x).put p1 hset,by rw[Q7];omega,by rw[Q7];have:sumC (beh.drop k)=Qc8 v+sumC (beh.drop (k+1)):=hsd;omega,fun p' xs hb hd=>?_,fun m q' hm hq'=>?_⟩
 ·refine ((old p' xs hb hd).app x).put_ne hset ?_
  rw[Qf]
  exact hd _ hmem
 ·by_cases hmk:m=k
  ·subst hmk
   have e:q'=(p,v):=by rw[hq]at hq';simpa using hq'.symm
   subst e
   refine ⟨pos,Qx.put_eq hset,by omega,by rw[Q7];omega,fun F hF hFl=>hval F ?_ hFl⟩
   have h9:Agr c.length (c++x) (Zt (c++x) p (leB ((pos-p:Nat):Int) 4)):=Agr.put hset (by rw[Qf];omega)
   exact h9.trans (hF.mono len)
  ·obtain ⟨pos',a1,a2,a3,a4⟩:=done m q' (by omega) hq'
   refine ⟨pos',(a1.app x).put_ne hset ?_,a2,by rw[Q7];omega,fun F hF hFl=>a4 F (ha1.trans hF) hFl⟩
   rw[Qf,Qf]
   exact (hdis m q' hmk hq').symm
theorem slotAt_v {bs:List UInt8} {vt j n e:Nat} (h1:le2 bs vt=4+2*n) (hj:j<n) (h:Qx bs (vt+4+2*j) (leB (e:Int) 2)) (he:e<65536):slotAt bs vt (4+2*j)=e:=by
 unfold slotAt
 rw[h1,if_pos (by omega),<-Nat.add_assoc,le2_v h he]
theorem tab_final {slots:List SL} {b0 b bL c:List UInt8} {vt at_:Nat} {beh:List (Nat×SV)} (ph:Ph slots b0 vt at_ slots.length b beh) (hn:slots.length<=100) (hbl:bL.length=b.length) (hL:∀p xs,Qx b p xs->(p+xs.length<=vt+2\/vt+4<=p)->Qx bL p xs) (ph2:Ph2 b0 bL beh beh.length c) {F:List UInt8} (hF:Agr b0.length c F) (hFl:F.length<2147483648):
  VT F at_ vt/\LsW slots F at_ vt 0:=by
 obtain ⟨pre,a1,a2,a3,a4,a5,hv,ho,sl,bp,pw,bw⟩:=ph
 obtain ⟨pre2,len,bound,old,done⟩:=ph2
 have hF1:=hF.1
 have early:∀p xs,Qx b p xs->b0.length<=p->p+xs.length<=at_+4->(p+xs.length<=vt+2\/vt+4<=p)->Qx F p xs:=fun p xs h h0 h1 h2=>
  (old p xs (hL p xs h h2) (fun q hq=>Or.inr (by have:=bp q hq;omega))).agr h0 hF
 have f1:=early vt _ hv a1 (by rw[Qf];omega) (Or.inl (by rw[Qf];omega))
 have f2:=early at_ _ ho (by omega) (by rw[Qf];omega) (Or.inr (by omega))
 have s1:=le2_v f1 (by omega)
 have hat:=f2.1
 rw[Qf]at hat
 have s2:=le4_v f2 (by omega)
 refine ⟨⟨hat,?_,by omega,by omega,by omega⟩,LsW_of fun j l hj=>?_⟩
 ·rw[s2,Zq (by omega) (by omega)];omega
 obtain ⟨has,v,d⟩:=l
 have hjl:=Qo hj
 have h:=sl j has v d hj
 rw[LW,Nat.zero_add]
 unfold SlotP at h
 by_cases hst:stoB has v d
 ·rw[if_pos ⟨hjl,hst⟩]at h
  rw[if_pos hst]
  obtain ⟨e,e1,e2,e3,e4,e5⟩:=h
  have g:=early _ _ e4 (by omega) (by rw[Qf];omega) (Or.inr (by omega))
  rw[slotAt_v s1 hjl g e2]
  refine ⟨by omega,?_⟩
  have hdat:dirV v->Qx F (at_+e) (datV v):=fun hd=>by
   rw[if_pos hd]at e5
   exact (old _ _ (hL _ _ e5.1 (Or.inr (by omega))) e5.2).agr (by omega) hF
  split
  ·rename_i h10
   have:=hdat (Or.inl h10)
   unfold datV at this
   rw[if_pos h10]at this
   exact this
  ·rename_i h10
   split
   ·rename_i h17
    have:=hdat (Or.inr h17)
    unfold datV at this
    rw[if_neg h10]at this
    exact this
   ·rename_i h17
    rw[if_neg (fun h=>h.elim h10 h17)]at e5
    obtain ⟨m,hm⟩:=List.mem_iff_getElem?.1 e5
    obtain ⟨pos,b1,b2,b3,b4⟩:=done m _ (Qo hm) hm
    have b1:Qx c (at_+e) (leB ((pos-(at_+e):Nat):Int) 4):=b1
    have g2:=b1.agr (by omega) hF
    have hpb:=bp _ e5
    have hpb:at_+4<=at_+e/\at_+e+4<=b.length:=hpb
    have ht:tgt F (at_+e)=pos:=by
     unfold tgt
     rw[le4_v g2 (by omega)];omega
    rw[ht]
    exact ⟨by omega,by omega,b4 F (hF.mono (by have:=pre.len;omega)) hFl⟩
 ·rw[if_neg (fun h=>hst h.2)]at h
  rw[if_neg hst]
  exact slotAt_v s1 hjl (early _ _ h (by omega) (by rw[Qf];omega) (Or.inr (by omega))) (by omega)
set_option maxHeartbeats 2000000 in
theorem tabC_step {slots:List SL} (hS:∀l∈slots,WriteL l):TabC slots:=by
 intro G H w b cells R kind elem num text nums kids h hv wf hn hcost hR
 have h96:=costLs_96 slots
 rw[VV]at hv
 obtain ⟨cn,ck,cs,rfl,_,_,⟨sitems,hs,hvs⟩⟩:=hv
 apply w19
 unfold s19
 rw[Qy]
 have e1:=(Ext.refl h.inn).pushG (.cells (Value.agg #[u8n kind,u8n elem,Ya num,Yf text,cn,ck,cs]).cells 45 (0,0))
 have g3:(G.upd H.size (.cells (Value.agg #[u8n kind,u8n elem,Ya num,Yf text,cn,ck,cs]).cells 45 (0,0))) H.size=some (.cells #[u8n kind,u8n elem,Ya num,Yf text,cn,ck,cs] 45 (0,0)):=Cut.upd_same
 have h1:=h.ext e1
 have hle:=e1.le
 show Qa prog _ _ (H.push (.cells (Value.agg #[u8n kind,u8n elem,Ya num,Yf text,cn,ck,cs]).cells 45 (0,0))) _
 generalize G.upd H.size (.cells (Value.agg #[u8n kind,u8n elem,Ya num,Yf text,cn,ck,cs]).cells 45 (0,0))=G1 at *
 generalize H.push (.cells (Value.agg #[u8n kind,u8n elem,Ya num,Yf text,cn,ck,cs]).cells 45 (0,0))=H1 at *
 generalize H.size=q3 at *
 clear e1
 have hs1:=hs.mono hle
 have hvs1:=VLs.mono hle _ _ hvs
 have p6:∀{h:Qe},G1.In h->∀k:Value->Prop,LdK h (.pointer (some ⟨q3,6,none⟩)) k=k cs:=fun hin k=>Ql ((Qj (hin _ _ g3)).trans rfl)
 have ls:∀k:Value->Prop,Yv cs k=k (.int .i64 (slots.length:Nat)):=fun k=>by rw[hs.len,VLs.len hvs]
 have d1:=Zr (size:=8) (n:=b.length) (by decide)
 refine QgB h1 (s:=8) (by decide) (by omega) ?_
 intro _ H2 h2
 generalize hz1:List.replicate (padOf 8 b.length) (0:UInt8)=z1 at h2
 have hz1l:z1.length<=7:=by rw[<-hz1,List.length_replicate];omega
 clear hz1 d1
 obtain ⟨s2,h2⟩:=h2
 have l2:(b++z1).length=b.length+z1.length:=List.length_append
 have m1:IntKind.i64.wrap (2*(slots.length:Int))=((2*slots.length:Nat):Int):=by rw[wrap_i64 (by omega) (by omega)];omega
 have m2:IntKind.i64.wrap (4+((2*slots.length:Nat):Int))=((4+2*slots.length:Nat):Int):=by rw[wrap_i64 (by omega) (by omega)];omega
 rw[Qs,Qm,h2.ld,h2.len,Qs,Qm,h2.ld,Qm,p6 h2.inn,ls,Z1,m1,QA,m2]
 refine h2.appz (by omega) ?_
 intro H3 s3 h3
 rw[Qm,p6 h3.inn,ls,Z1,m1,QA,m2,QaC]
 have l3:((b++z1)++List.replicate (4+2*slots.length) (0:UInt8)).length=(b++z1).length+(4+2*slots.length):=by rw[List.length_append,List.length_replicate]
 refine Qhe ⟨s3,h3⟩ (k:=2) (by decide) (by omega) (by omega) ?_
 intro _ H4 h4
 rw[Qb0 (by omega)]at h4
 have q4:(b++z1).length+(leB ((4+2*slots.length:Nat):Int) 2).length<=((b++z1)++List.replicate (4+2*slots.length) (0:UInt8)).length:=by rw[Qf];omega
 have c4v:Qx (Zt ((b++z1)++List.replicate (4+2*slots.length) 0) (b++z1).length (leB ((4+2*slots.length:Nat):Int) 2)) (b++z1).length (leB ((4+2*slots.length:Nat):Int) 2):=Qx.put_eq q4
 have c4z:∀j,j<slots.length->Qx (Zt ((b++z1)++List.replicate (4+2*slots.length) 0) (b++z1).length (leB ((4+2*slots.length:Nat):Int) 2)) ((b++z1).length+4+2*j) (leB ((0:Nat):Int) 2):=fun j hj=>by
  have hz:leB ((0:Nat):Int) 2=List.replicate 2 0:=by decide
  rw[hz]
  exact (Qx.zeros (by omega) (by omega)).put_ne q4 (Or.inl (by rw[Qf];omega))
 have pre4:Pre b (Zt ((b++z1)++List.replicate (4+2*slots.length) 0) (b++z1).length (leB ((4+2*slots.length:Nat):Int) 2)):=(((Pre.refl b).app z1).app _).put (by omega) q4
 have l4:(Zt ((b++z1)++List.replicate (4+2*slots.length) (0:UInt8)) (b++z1).length (leB ((4+2*slots.length:Nat):Int) 2)).length=(b++z1).length+(4+2*slots.length):=by rw[Q7,l3]
 generalize Zt ((b++z1)++List.replicate (4+2*slots.length) 0) (b++z1).length (leB ((4+2*slots.length:Nat):Int) 2)=c4 at *
 have d2:=Zr (size:=8) (n:=c4.length) (by decide)
 refine QgB h4 (s:=8) (by decide) (by omega) ?_
 intro _ H5 h5
 generalize hz2:List.replicate (padOf 8 c4.length) (0:UInt8)=z2 at h5
 have hz2l:z2.length<=7:=by rw[<-hz2,List.length_replicate];omega
 clear hz2 d2
 obtain ⟨s5,h5⟩:=h5
 have l5:(c4++z2).length=c4.length+z2.length:=List.length_append
 rw[Qs,Qm,h5.ld,h5.len,Qs,Qm,h5.ld]
 refine h5.appz (m:=4) (by omega) ?_
 intro H6 s6 h6
 have m3:IntKind.i64.wrap (((c4++z2).length:Int)-((b++z1).length:Int))=(((c4++z2).length-(b++z1).length:Nat):Int):=by rw[wrap_i64 (by omega) (by omega)];omega
 rw[QZ,m3,QH,QW (by omega) (by omega),QaC]
 have l6:((c4++z2)++List.replicate 4 (0:UInt8)).length=(c4++z2).length+4:=by rw[List.length_append,List.length_replicate]
 refine Qhe ⟨s6,h6⟩ (k:=4) (by decide) (by omega) (by omega) ?_
 intro _ H7 h7
 rw[Qb0 (by omega)]at h7
 have q7:(c4++z2).length+(leB (((c4++z2).length-(b++z1).length:Nat):Int) 4).length<=((c4++z2)++List.replicate 4 (0:UInt8)).length:=by rw[Qf];omega
 have ph0:Ph slots b (b++z1).length (c4++z2).length 0 (Zt ((c4++z2)++List.replicate 4 0) (c4++z2).length (leB (((c4++z2).length-(b++z1).length:Nat):Int) 4)) []:=by
  refine ⟨((pre4.app z2).app _).put (by omega) q7,by omega,by omega,by rw[Q7];omega,by rw[Q7];omega,?_,((c4v.app z2).app _).put_ne q7 (Or.inr (by rw[Qf];omega)),Qx.put_eq q7,?_,by simp,List.Pairwise.nil,by simp⟩
  ·rw[Q7,l6,List.take_zero,Z5];simp[sumC]
  ·intro j has v d hj
   have hjl:=Qo hj
   unfold SlotP
   rw[if_neg (fun h=>by omega)]
   exact (((c4z j hjl).app z2).app _).put_ne q7 (Or.inr (by rw[Qf];omega))
 generalize Zt ((c4++z2)++List.replicate 4 0) (c4++z2).length (leB (((c4++z2).length-(b++z1).length:Nat):Int) 4)=c7 at *
 have hat:(c4++z2).length<=b.length+18+2*slots.length:=by omega
 clear m3 q7 q4 c4v c4z pre4 h6 h5 h4 h3 h2 l6
 generalize (c4++z2).length=at_ at *
 generalize (b++z1).length=vt at *
 refine accF_of (x1:=ptr q3) (s:=cs) (fld:=6) (n:=slots.length) (B:=fun s x y h k=>tabWB (ptr w) (.int .i64 (vt:Nat)) (.int .i64 (at_:Nat)) s x y h k) (fun i y H'=>∃b' beh items,WB G1 H' w b' 142 8 y items/\Ph slots b vt at_ i b' beh/\QiI G1 items beh/\beh.length<=i)
  ⟨c7,[],[],WB.nil h7,ph0,⟨rfl,fun k q h=>by simp at h⟩,Nat.le_refl _⟩ (by omega) (fun k hk=>by rw[Qm,p6 h7.inn];exact hk) ls ?_ ?_
 ·rintro i y H' k hlt ⟨b',beh,items,wb,ph,it,hbl⟩ hk
  refine tabWB_ok hS wf hn wb ph it hbl (by omega) hs1 hvs1 hlt ?_
  intro y' H8 b8 beh8 items8 wb8 ph8 it8 hbl8
  exact hk y' H8 ⟨b8,beh8,items8,wb8,ph8,it8,hbl8⟩
 rintro y H8 ⟨b8,beh,items,wb,ph,it,hbl⟩
 obtain ⟨G2,le2',⟨s8,h8⟩,sl8,_⟩:=wb.step
 have a3:=ph.a3;have a4:=ph.a4;have a5:=ph.a5;have a2:=ph.a2;have a1:=ph.a1
 have ctk:Z5 (slots.take slots.length)=Z5 slots:=by rw[List.take_length]
 have m4:IntKind.i64.wrap ((vt:Int)+2)=((vt+2:Nat):Int):=by rw[wrap_i64 (by omega) (by omega)];omega
 have m5:IntKind.i64.wrap ((b8.length:Int)-(at_:Int))=((b8.length-at_:Nat):Int):=by rw[wrap_i64 (by omega) (by omega)];omega
 rw[QA,m4,Qs,Qm,h8.ld,h8.len,QZ,m5,QaC]
 refine Qhe ⟨s8,h8⟩ (k:=2) (by decide) (by omega) (by omega) ?_
 intro _ H9 h9
 rw[Qb0 (by omega)]at h9
 have q9:vt+2+(leB ((b8.length-at_:Nat):Int) 2).length<=b8.length:=by rw[Qf];omega
 have hL:∀p xs,Qx b8 p xs->(p+xs.length<=vt+2\/vt+4<=p)->Qx (Zt b8 (vt+2) (leB ((b8.length-at_:Nat):Int) 2)) p xs:=fun p xs hb hd=>hb.put_ne q9 (by rw[Qf];omega)
 have pre9:Pre b (Zt b8 (vt+2) (leB ((b8.length-at_:Nat):Int) 2)):=ph.pre.put (by omega) q9
 have l9:(Zt b8 (vt+2) (leB ((b8.length-at_:Nat):Int) 2)).length=b8.length:=Q7 _ _ _
 generalize Zt b8 (vt+2) (leB ((b8.length-at_:Nat):Int) 2)=bL at *
 have it2:QiI G2 items beh:=⟨it.1,fun k q hq=>by obtain ⟨c,x1,x2⟩:=it.2 k q hq;exact ⟨c,x1,VV.mono le2' _ _ x2⟩⟩
 have hb0:∀q∈beh,b.length<=q.1:=fun q hq=>by have:=ph.bp q hq;omega
 have hbp:∀q∈beh,q.1+4<=bL.length:=fun q hq=>by have:=ph.bp q hq;omega
 show Qij prog 3 y H9 (tabWC (ptr w) y) _
 refine QiB (n:=beh.length) (fun k H'=>∃c,WrC G2 H' w c/\Ph2 b bL beh k c) ⟨bL,h9,⟨pre9,Nat.le_refl _,by rw[List.drop_zero];exact Nat.le_refl _,fun p xs hb _=>hb,fun m q hm=>by omega⟩⟩ (by omega) (fun k=>by rw[sl8.len,it.1]) ?_ ?_
 ·rintro k H' kp hk ⟨c,hc,ph2⟩ hkp
  refine tabWC_ok hc ph2 sl8 it2 hk hb0 hbp ph.pw ph.bw (by omega) ?_
  intro H10 c10 hc10 ph10
  exact hkp H10 ⟨c10,hc10,ph10⟩
 rintro H10 ⟨c,hc,ph2⟩
 obtain ⟨x,hx⟩:=ph2.pre
 have hcl:c.length=b.length+x.length:=by rw[hx,List.length_append]
 have hb2:=ph2.bound
 have hln:=ph2.len
 rw[List.drop_length]at hb2
 have hs0:sumC []=0:=rfl
 subst hx
 refine hR H10 x at_ (hc.weaken (Cut.le_trans hle le2')) (by omega) (by omega) (by omega) fun F hF hFl=>⟨vt,tab_final ph hn l9 hL ph2 hF hFl⟩
end Go.Proofs
namespace Go.Proofs
open Go Go.Vc
open Tryz (prog)
mutual
theorem writeC_all:∀v:SV,Qhd v
 |.mk kind elem num text nums kids slots=>writeC_step (writeCs_all kids) (tabC_step (QhA slots))
theorem writeCs_all:∀vs:List SV,∀v∈vs,Qhd v
 |[],v,h=>by simp at h
 |v'::vs,v,h=>by
  rcases List.mem_cons.1 h with h|h
  ·rw[h];exact writeC_all v'
  ·exact writeCs_all vs v h
theorem writeL_all:∀l:SL,WriteL l
 |.mk _ v _=>by rw[WriteL];exact writeC_all v
theorem QhA:∀ls:List SL,∀l∈ls,WriteL l
 |[],l,h=>by simp at h
 |l'::ls,l,h=>by
  rcases List.mem_cons.1 h with h|h
  ·rw[h];exact writeL_all l'
  ·exact QhA ls l h
end
def WroteW (slots:List SL) (c:List UInt8):Prop:=4<=c.length/\le4 c 0<=c.length/\∃vt,VT c (le4 c 0) vt/\LsW slots c (le4 c 0) vt 0
theorem fill_wr (a:Option Addr) (n c:Nat):YJ z70.toList [(0,1,.slice a n c)]=some [.slice a n c]:=by kernel_rfl
theorem Write_ok {kind elem:UInt8} {num:UInt64} {text:List UInt8} {nums:List UInt64} {kids:List SV} {slots:List SL} {cells:List Value} {G:Cut} {H:Qe} (hG:G.In H) (hv:VV G (.mk kind elem num text nums kids slots) cells) (wf:QhJ slots) (hn:slots.length<=100) (hcost:68+Z5 slots<=1000000000) {R:Kn}
  (hR:∀c H',Ext G H G H'->c.length<=68+Z5 slots->WroteW slots c->R (Yf c) H'):FnS prog 8 #[.agg cells.toArray] H R:=by
 have hvl:=hv.len
 apply w8
 unfold s8
 have hG0:(Cut.of H).In H:=fun b o h=>h
 have hle0:G.le (Cut.of H):=fun b o h=>hG b o h
 rw[Qy]
 have e1:=(Ext.refl hG0).pushG (.cells (Value.agg cells.toArray).cells 45 (0,0))
 have g1:((Cut.of H).upd H.size (.cells (Value.agg cells.toArray).cells 45 (0,0))) H.size=some (.cells cells.toArray 45 (0,0)):=Cut.upd_same
 have hle1:=e1.le
 have in1:=e1.inn
 show Qe3 (H.push (.cells (Value.agg cells.toArray).cells 45 (0,0))) _ _ _ _ _ _
 generalize (Cut.of H).upd H.size (.cells (Value.agg cells.toArray).cells 45 (0,0))=G1 at *
 generalize H.push (.cells (Value.agg cells.toArray).cells 45 (0,0))=H1 at *
 generalize hq1:H.size=q1 at *
 refine ⟨by decide,by decide,by decide,by decide,?_⟩
 rw[mk_u8 zu8,show Int.toNat 4=4 from rfl]
 have e2:=(Ext.refl in1).push (.cells (u8c (List.replicate 4 0)) 5 (0,0))
 have gB:(H1.push (.cells (u8c (List.replicate 4 0)) 5 (0,0)))[H1.size]?=some (.cells (u8c (List.replicate 4 0)) 5 (0,0)):=Qh
 have oB:G1 H1.size=none:=in1.none (Nat.le_refl _)
 have sB:(H1.push (.cells (u8c (List.replicate 4 0)) 5 (0,0))).size=H1.size+1:=size_push
 generalize H1.push (.cells (u8c (List.replicate 4 0)) 5 (0,0))=H2 at *
 refine Y6 (fill_wr (some ⟨H1.size,0,none⟩) 4 4) ?_
 rw[Qy]
 have h3:WrC G1 (H2.push (.cells (Value.agg [.slice (some ⟨H1.size,0,none⟩) 4 4].toArray).cells 70 (0,0))) H2.size (List.replicate 4 0):=by
  refine ⟨.slice (some ⟨H1.size,0,none⟩) 4 4,e2.inn.push _,Qh,e2.inn.none (Nat.le_refl _),H1.size,4,[],rfl,?_,by omega,oB,by simp,by simp⟩
  rw[List.append_nil];exact Yy gB
 generalize H2.push (.cells (Value.agg [.slice (some ⟨H1.size,0,none⟩) 4 4].toArray).cells 70 (0,0))=H3 at *
 generalize H2.size=w at *
 show LdN H3 7 (ptr q1) _
 rw[YI (n:=7) (vs:=cells) (by rw[Q4 (h3.inn _ _ g1) 7 (by simp[hvl])];simp[<-hvl])]
 refine tabC_step (QhA slots) G1 H3 w (List.replicate 4 0) cells _ _ _ _ _ _ _ h3 (VV.mono (Cut.le_trans hle0 hle1) _ _ hv) wf hn (by rw[List.length_replicate];omega) ?_
 intro H4 x p h4 xl p1 p2 hF
 rw[List.length_replicate]at p1 p2
 have hcl:(List.replicate 4 (0:UInt8)++x).length=4+x.length:=by rw[List.length_append,List.length_replicate]
 rw[QaC]
 refine Qhe (p:=0) h4 (k:=4) (by decide) (by omega) (by omega) ?_
 intro _ H5 h5
 rw[Qb0 (by omega)]at h5
 have q5:0+(leB (p:Int) 4).length<=(List.replicate 4 (0:UInt8)++x).length:=by rw[Qf];omega
 obtain ⟨s5,h5⟩:=h5
 have hin:=h5.inn
 rw[Qs,Qm,h5.ld]
 obtain ⟨B,cap,rest,rfl,g6,_⟩:=h5.ex
 have hcl5:(Zt (List.replicate 4 (0:UInt8)++x) 0 (leB (p:Int) 4)).length=4+x.length:=by rw[Q7,hcl]
 refine Qhn (xs:=Zt (List.replicate 4 0++x) 0 (leB (p:Int) 4)) (by
  rw[QeV g6 (by rw[List.length_append];omega),List.drop_zero,List.take_left]) ?_
 have f1:Qx (Zt (List.replicate 4 0++x) 0 (leB (p:Int) 4)) 0 (leB (p:Int) 4):=Qx.put_eq q5
 have f2:=le4_v f1 (by omega)
 have ha:Agr (List.replicate 4 (0:UInt8)).length (List.replicate 4 0++x) (Zt (List.replicate 4 0++x) 0 (leB (p:Int) 4)):=Agr.put q5 (by rw[Qf,List.length_replicate];omega)
 have hW:=hF _ ha (by omega)
 refine hR _ H5 ⟨fun b o hb=>hin _ _ (hle1 _ _ hb),fun b o hb=>hin _ _ (hle1 _ _ (hle0 _ _ hb)),Cut.le_refl _,fun _ _=>rfl⟩ (by omega) ⟨by omega,by rw[f2];omega,by rw[f2];exact hW⟩
theorem WfV_flat {k:UInt8} (h:k<=16) (e:UInt8) (n:UInt64) (t:List UInt8):WfV (QaS k e n t):=by
 rw[QaS,WfV,WfVs,QhJ]
 exact ⟨by rw[UInt8.le_iff_toNat_le]at h⊢;have e1:(16:UInt8).toNat=16:=rfl;have e2:(17:UInt8).toNat=17:=rfl;omega,fun hk=>(by subst hk;exact absurd h (by decide)),by simp,by simp,by simp,trivial,trivial⟩
theorem Qgx {k:UInt8} (h:k<=16) (b:Bool) (e:UInt8) (n:UInt64) (t:List UInt8) (d:UInt64):WfL (.mk b (QaS k e n t) d):=by rw[WfL];exact WfV_flat h e n t
theorem WfL_nums {k:UInt8} {l:List UInt64} (h:l.length<=100):WfL (QfX k l):=by
 rw[QfX,WfL,WfV,WfVs,QhJ]
 exact ⟨by decide,fun hk=>absurd hk (by decide),h,by simp,by simp,trivial,trivial⟩
theorem Qiq {α:Type} {f:α->SV} (hf:∀a,11<=QbN (f a)/\QbN (f a)<=16/\WfV (f a)):∀l:List α,WfVs (l.map f)
 |[]=>by rw[List.map_nil,WfVs];trivial
 |a::l=>by rw[List.map_cons,WfVs];exact ⟨hf a,Qiq hf l⟩
theorem WfL_texts {l:List (List UInt8)} (h:l.length<=100):WfL (Qj3 l):=by
 rw[Qj3,WfL,WfV,QhJ]
 exact ⟨by decide,fun hk=>absurd hk (by decide),by simp,by rw[List.length_map];exact h,by simp,Qiq (fun s=>⟨by show (11:UInt8)<=11;decide,by show (11:UInt8)<=16;decide,WfV_flat (by decide) _ _ _⟩) l,trivial⟩
theorem WfL_ids {l:List UInt64} (h:l.length<=100):WfL (idsL l):=by
 rw[idsL,WfL,WfV,QhJ]
 refine ⟨by decide,fun hk=>absurd hk (by decide),by simp,by rw[List.length_map];exact h,by simp,Qiq (fun x=>⟨by show (11:UInt8)<=15;decide,by show (15:UInt8)<=16;decide,?_⟩) l,trivial⟩
 rw[idV,WfV,WfVs,QhJ,QhJ,Qan]
 exact ⟨by decide,fun hk=>absurd hk (by decide),by simp,by simp,by show 1<=100;decide,trivial,Qgx (by decide) _ _ _ _ _,trivial⟩
theorem WfL_pos (l:List ZO):WfL (posL l):=by
 have h:∀t:List UInt8,t.length<=64->WfV (QaS 17 8 0 t):=fun t ht=>by
  rw[QaS,WfV,WfVs,QhJ]
  exact ⟨by decide,fun _=>⟨ht,by decide⟩,by simp,by simp,by simp,trivial,trivial⟩
 cases l with
 |nil=>rw[posL,WfL];exact h _ (by decide)
 |cons v l=>rw[posL,WfL];exact h _ (by rw[vec3_len'];decide)
theorem WfL_empty (l:List ZJ):WfL (Qj4 l):=by
 cases l with
 |nil=>exact Qgx (by decide) _ _ _ _ _
 |cons v l=>
  rw[Qj4,statV,WfL,WfV,WfVs,QhJ,QhJ,QhJ,QhJ]
  exact ⟨by decide,fun hk=>absurd hk (by decide),by simp,by simp,by show 3<=100;decide,trivial,Qgx (by decide) _ _ _ _ _,Qgx (by decide) _ _ _ _ _,Qgx (by decide) _ _ _ _ _,trivial⟩
theorem QhJ.cons' {l:SL} {ls:List SL} (h1:WfL l) (h2:QhJ ls):QhJ (l::ls):=by rw[QhJ];exact ⟨h1,h2⟩
theorem QhJ.nil':QhJ []:=by rw[QhJ];trivial
set_option maxRecDepth 100000 in
theorem WfLs_slotsV {d:Qbt} {pos:List ZO} {empty:List ZJ} (hs:SmallD d pos empty):QhJ (QhO d pos empty):=by
 obtain ⟨l1,l2,l3,l4,l5,l6,l7,l8,l9,l10,l11,l12,l13⟩:=hs.lists
 unfold QhO
 repeat' first
  |exact QhJ.nil'
  |refine QhJ.cons' ?_ ?_
  |exact Qgx (by decide) _ _ _ _ _
  |exact WfL_nums (by first|(rw[List.length_map];omega)|omega)
  |exact WfL_texts (by omega)
  |exact WfL_ids (by omega)
  |exact WfL_pos _
  |exact WfL_empty _
theorem QaV (b:Bool) (k e:UInt8) (n:UInt64) (t:List UInt8) (d:UInt64):Qcn (.mk b (QaS k e n t) d)=160+t.length:=by
 rw[Qcn,QaS,Qc8,ZD,Z5,List.length_nil];omega
theorem costL_nums (k:UInt8) (l:List UInt64):Qcn (QfX k l)=160+8*l.length:=by
 rw[QfX,Qcn,Qc8,ZD,Z5,List.length_nil];omega
theorem Qg4 {α:Type} {f:α->SV} {m:Nat}:∀l:List α,(∀a∈l,Qc8 (f a)<=m)->ZD (l.map f)<=(4+m)*l.length
 |[],_=>by rw[List.map_nil,ZD];omega
 |a::l,hf=>by
  have:=Qg4 l (fun x hx=>hf x (List.mem_cons_of_mem _ hx))
  have:=hf a List.mem_cons_self
  rw[List.map_cons,ZD,List.length_cons,Nat.mul_add];omega
theorem costL_texts {l:List (List UInt8)} (h:l.length<=50) (ht:∀x∈l,x.length<=300):Qcn (Qj3 l)<=20000:=by
 have:=Qg4 (f:=fun s=>QaS 11 0 0 s) (m:=364) l (fun a ha=>by have:=ht a ha;rw[QaS,Qc8,ZD,Z5,List.length_nil];omega)
 rw[Qj3,Qcn,Qc8,Z5,List.length_nil,List.length_nil];omega
theorem costL_ids {l:List UInt64} (h:l.length<=50):Qcn (idsL l)<=20000:=by
 have:=Qg4 (f:=idV) (m:=224) l (fun a _=>by rw[idV,Qc8,ZD,Z5,Z5,Qan,QaV,List.length_nil,List.length_nil];omega)
 rw[idsL,Qcn,Qc8,Z5,List.length_nil,List.length_nil];omega
theorem costL_pos (l:List ZO):Qcn (posL l)<=20000:=by
 cases l with
 |nil=>rw[posL,QaV];decide
 |cons v l=>rw[posL,QaV,vec3_len'];decide
theorem costL_empty {l:List ZJ} (h:∀s∈l,s.id.length<=300):Qcn (Qj4 l)<=20000:=by
 cases l with
 |nil=>rw[Qj4,QaV];decide
 |cons v l=>
  have:=h v List.mem_cons_self
  rw[Qj4,statV,Qcn,Qc8,ZD,Z5,Z5,Z5,Z5,Qan,Qan,QaV,QaV,QaV,List.length_nil,List.length_nil];omega
theorem YA (k:UInt8) (n D:UInt64):Qcn (Qan k n D)<=20000:=by unfold Qan;rw[QaV];decide
theorem Qfm {xs:List UInt8} (h:xs.length<=300):Qcn (QhL xs)<=20000:=by unfold QhL;rw[QaV];omega
theorem QeD {b:Bool} {k e:UInt8} {n d:UInt64} {xs:List UInt8} (h:xs.length<=300):Qcn (.mk b (QaS k e n xs) d)<=20000:=by rw[QaV];omega
theorem Qgw {k:UInt8} {l:List UInt64} (h:l.length<=50):Qcn (QfX k l)<=20000:=by rw[costL_nums];omega
theorem Q5 {l:SL} {ls:List SL} {n:Nat} (h1:Qcn l<=20000) (h2:Z5 ls<=20000*n):Z5 (l::ls)<=20000*(n+1):=by rw[Z5];omega
theorem costLs_nil':Z5 []<=20000*0:=by rw[Z5];exact Nat.le_refl _
set_option maxRecDepth 100000 in
theorem costLs_slotsV {d:Qbt} {pos:List ZO} {empty:List ZJ} (hs:SmallD d pos empty):Z5 (QhO d pos empty)<=20000*49:=by
 obtain ⟨l1,l2,l3,l4,l5,l6,l7,l8,l9,l10,l11,l12,l13⟩:=hs.lists
 obtain ⟨t1,t2,t3,t4,t5⟩:=hs.texts
 unfold QhO
 refine Q5 (costL_pos _) ?_
 refine Q5 (YA _ _ _) ?_
 refine Q5 (YA _ _ _) ?_
 refine Q5 (QeD (by omega)) ?_
 refine Q5 (YA _ _ _) ?_
 refine Q5 (Qfm (by omega)) ?_
 refine Q5 (YA _ _ _) ?_
 refine Q5 (YA _ _ _) ?_
 refine Q5 (QeD (by simp)) ?_
 refine Q5 (Qgw (by rw[List.length_map];omega)) ?_
 refine Q5 (costL_texts (by omega) hs.strings) ?_
 refine Q5 (QeD (by simp)) ?_
 refine Q5 (QeD (by simp)) ?_
 refine Q5 (Qfm (by omega)) ?_
 refine Q5 (costL_empty hs.stat) ?_
 refine Q5 (YA _ _ _) ?_
 refine Q5 (YA _ _ _) ?_
 refine Q5 (YA _ _ _) ?_
 refine Q5 (YA _ _ _) ?_
 refine Q5 (YA _ _ _) ?_
 refine Q5 (YA _ _ _) ?_
 refine Q5 (YA _ _ _) ?_
 refine Q5 (YA _ _ _) ?_
 refine Q5 (YA _ _ _) ?_
 refine Q5 (Qgw (by rw[List.length_map];omega)) ?_
 refine Q5 (YA _ _ _) ?_
 refine Q5 (YA _ _ _) ?_
 refine Q5 (YA _ _ _) ?_
 refine Q5 (costL_texts (by omega) hs.strings2) ?_
 refine Q5 (QeD (by simp)) ?_
 refine Q5 (Qfm (by omega)) ?_
 refine Q5 (Qgw (by rw[List.length_map];omega)) ?_
 refine Q5 (Qgw (by rw[List.length_map];omega)) ?_
 refine Q5 (Qgw (by omega)) ?_
 refine Q5 (QeD (by simp)) ?_
 refine Q5 (costL_ids (by omega)) ?_
 refine Q5 (YA _ _ _) ?_
 refine Q5 (Qgw (by omega)) ?_
 refine Q5 (costL_ids (by omega)) ?_
 refine Q5 (YA _ _ _) ?_
 refine Q5 (Qgw (by omega)) ?_
 refine Q5 (YA _ _ _) ?_
 refine Q5 (Qgw (by omega)) ?_
 refine Q5 (YA _ _ _) ?_
 refine Q5 (QeD (by simp)) ?_
 refine Q5 (YA _ _ _) ?_
 refine Q5 (QeD (by simp)) ?_
 refine Q5 (Qfm (by omega)) ?_
 refine Q5 (YA _ _ _) ?_
 exact costLs_nil'
end Go.Proofs
namespace Go.Proofs
open Go Go.Vc
open Tryz (prog)
theorem Yn:∀{ls:List SL} {bs:List UInt8} {pos vt j:Nat},LsW ls bs pos vt j->∀i l,ls[i]?=some l->LW l bs pos vt (j+i)
 |[],_,_,_,_,_,i,l,h=>by simp at h
 |l'::ls,bs,pos,vt,j,hs,i,l,h=>by
  rw[LsW]at hs
  cases i with
  |zero=>
   have:l'=l:=by simpa using h
   subst this
   exact hs.1
  |succ i=>
   have:=Yn hs.2 i l (by simpa using h)
   rwa [show j+(i+1)=j+1+i by omega]
theorem KsW_get:∀{ks:List SV} {bs:List UInt8} {p:Nat},KsW ks bs p->∀i k,ks[i]?=some k->p+4*i+4<=bs.length/\tgt bs (p+4*i)<=bs.length/\Qjg k bs (tgt bs (p+4*i))
 |[],_,_,_,i,k,h=>by simp at h
 |k'::ks,bs,p,hs,i,k,h=>by
  rw[KsW]at hs
  cases i with
  |zero=>
   have:k'=k:=by simpa using h
   subst this
   simpa using hs.1
  |succ i=>
   have:=KsW_get hs.2 i k (by simpa using h)
   rwa [show p+4*(i+1)=p+4+4*i by omega]
theorem flat_single:∀xs:List UInt8,(xs.map fun b=>[b]).flatten=xs
 |[]=>rfl
 |x::xs=>by rw[List.map_cons,List.flatten_cons,flat_single xs];rfl
theorem leN_at {bs:List UInt8} {p k n:Nat} (hk:k=1\/k=2\/k=4\/k=8) (hn:n<2^(8*k)) (h:Qx bs p (leB (n:Int) k)):leN k bs p=n:=by
 rcases hk with rfl|rfl|rfl|rfl
 ·show byteN bs p=n;rw[leB1_at h];omega
 ·show le2 bs p=n;rw[leB2_at h];omega
 ·show le4 bs p=n;rw[QhG h];omega
 ·show le8 bs p=n;rw[leB8_at h];omega
theorem Qdi (k:UInt8) (n:UInt64):(Qeo k n).toNat=n.toNat%2^(8*sizeK k):=by
 unfold Qeo
 have h1:=n.toNat_lt
 have h2:n.toNat%2^(8*sizeK k)<=n.toNat:=Nat.mod_le _ _
 rw[UInt64.toNat_ofNat_of_lt' (by show _<2^64;omega)]
def valL0 (s:ZJ):SV:=.mk 15 0 0 [] [] [] [.mk true (QaS 11 0 0 s.id) 0,Qan 8 (toU (IntKind.i64.wrap (s.val.toNat:Int))) 0,Qan 3 (toU (s.count.toNat:Int)) 0]
section
variable {bs:List UInt8} {pos vt:Nat}
theorem sc_of {j sz:Nat} {k:UInt8} {nn D:UInt64} (h:LW (Qan k nn D) bs pos vt j) (hk:k<=10) (hsz:sizeK k=sz) {x x':Nat} (hx:(Qeo k nn).toNat=x) (h0:eqK k (Qeo k nn) (Qeo k D)=true->x'=(Qeo k D).toNat) (h1:¬eqK k (Qeo k nn) (Qeo k D)=true->x'=x):Sc sz bs pos vt (4+2*j) (Qeo k D).toNat x':=by
 rw[Qan,LW]at h
 by_cases hq:eqK k (Qeo k nn) (Qeo k D)=true
 ·rw[if_neg (fun hs=>hs.2 ⟨hk,hq⟩)]at h
  exact Or.inl ⟨h,h0 hq⟩
 ·rw[if_pos ⟨rfl,fun hh=>hq hh.2⟩]at h
  obtain ⟨g1,g2⟩:=h
  rw[if_pos (show QbN (QaS k 0 (Qeo k nn) [])<=10 from hk)]at g2
  have g2:Qx bs (pos+slotAt bs vt (4+2*j)) (leB ((Qeo k nn).toNat:Int) (sizeK k)):=g2
  rw[hsz]at g2
  have hl:=g2.1
  rw[Qf]at hl
  have hb:(Qeo k nn).toNat<2^(8*sz):=by rw[Qdi,hsz];exact Nat.mod_lt _ (Nat.two_pow_pos _)
  refine Or.inr ⟨g1,hl,?_⟩
  rw[leN_at (hsz▸Qc7 k) hb g2,h1 hq,hx]
theorem Qib {j:Nat} {has:Bool} {v:SV} {d:UInt64} (h:LW (.mk has v d) bs pos vt j) (hk:¬QbN v<=10) (h17:QbN v≠17) {ab:Prop} {A:Nat} {P:PP} (hab:ab↔has=false) (hP:has=true->∀t,Qjg v bs t->P A bs t):YD A bs pos vt (4+2*j) ab (Qb3 P):=by
 rw[LW]at h
 cases hh:has
 ·rw[hh,if_neg (fun hs=>by cases hs.1)]at h
  exact Or.inl ⟨h,hab.2 hh⟩
 ·rw[hh,if_pos ⟨rfl,fun hs=>hk hs.1⟩,if_neg hk,if_neg h17]at h
  exact Or.inr ⟨h.1,fun ha=>(by rw[hab.1 ha]at hh;cases hh),h.2.1,trivial,h.2.2.1,hP hh _ h.2.2.2⟩
theorem Qgl {j:Nat} {v:SV} {d:UInt64} (h:LW (.mk false v d) bs pos vt j) {ab:Prop} (ha:ab) {A:Nat} {P:PP}:YD A bs pos vt (4+2*j) ab P:=by
 rw[LW,if_neg (fun hs=>by cases hs.1)]at h
 exact Or.inl ⟨h,ha⟩
theorem zero_of {j:Nat} {k:UInt8} (h:LW (Qan k 0 0) bs pos vt j) (hk:k<=10):slotAt bs vt (4+2*j)=0:=by
 have hq:eqK k (Qeo k 0) (Qeo k 0)=true:=by unfold eqK;split<;>simp
 rw[Qan,LW,if_neg (fun hs=>hs.2 ⟨hk,hq⟩)]at h
 exact h
theorem strW_v {t A:Nat} {k:UInt8} {xs:List UInt8} (hk:k=11\/k=12) (h:Qjg (QaS k 0 0 xs) bs t):QhF xs A bs t:=by
 rw[QaS,Qjg,if_neg (by rcases hk with rfl|rfl<;>decide),if_pos hk]at h
 exact ⟨h.1,h.2.1,h.2.2.2⟩
theorem vecW_v {t A sz:Nat} {k:UInt8} {ns:List UInt64} {items:List (List UInt8)} (hsz:sizeK k=sz) (hl:items.length=ns.length) (hi:∀x∈items,x.length=sz) (hf:items=ns.map fun x=>leB (x.toNat:Int) (sizeK k)) (h:Qjg (.mk 13 k 0 [] ns [] []) bs t):QdM sz items A bs t:=by
 rw[Qjg,if_neg (by decide),if_neg (by decide),if_pos rfl,<-hf]at h
 have h2:=h.2
 have hfl:=Qbf items hi
 exact ⟨by have:=h2.1;omega,by rw[h.1,hl],h2.2⟩
theorem bytes_of {j A:Nat} {xs:List UInt8} (h:LW (QhL xs) bs pos vt j):YD A bs pos vt (4+2*j) (xs=[]) (Qb3 (QhF xs)):=
 Qib h (show ¬(12:UInt8)<=10 by decide) (show (12:UInt8)≠17 by decide) (by rw[decide_eq_false_iff_not];exact ⟨fun h g=>g h,fun h=>Classical.byContradiction h⟩) (fun _ t ht=>strW_v (Or.inr rfl) ht)
theorem enums_of {j A:Nat} {xs:List UInt8} (h:LW (QhL xs) bs pos vt j):YD A bs pos vt (4+2*j) ((xs.map fun b=>[b])=[]) (Qb3 (QdM 1 (xs.map fun b=>[b]))):=by
 refine Qib h (show ¬(12:UInt8)<=10 by decide) (show (12:UInt8)≠17 by decide) (by rw[List.map_eq_nil_iff,decide_eq_false_iff_not];exact ⟨fun h g=>g h,fun h=>Classical.byContradiction h⟩) (fun _ t ht=>?_)
 have hf:=flat_single xs
 obtain ⟨s1,s2,s3⟩:=strW_v (A:=A) (Or.inr rfl) ht
 exact ⟨by rw[List.length_map];omega,by rw[List.length_map];exact s2,by rw[hf];exact s3⟩
theorem Qgn {j A sz:Nat} {k:UInt8} {ns:List UInt64} {items:List (List UInt8)} (h:LW (QfX k ns) bs pos vt j) (hsz:sizeK k=sz) (hi:∀x∈items,x.length=sz) (hf:items=ns.map fun x=>leB (x.toNat:Int) (sizeK k)):YD A bs pos vt (4+2*j) (items=[]) (Qb3 (QdM sz items)):=
 have hl:items.length=ns.length:=by rw[hf,List.length_map]
 Qib h (show ¬(13:UInt8)<=10 by decide) (show (13:UInt8)≠17 by decide) (by rw[decide_eq_false_iff_not,<-List.length_eq_zero_iff,hl];omega) (fun _ t ht=>vecW_v hsz hl hi hf ht)
theorem texts_of {j A:Nat} {l:List (List UInt8)} (h:LW (Qj3 l) bs pos vt j):YD A bs pos vt (4+2*j) (l=[]) (Qb3 (VecTW l QhF)):=by
 refine Qib h (show ¬(14:UInt8)<=10 by decide) (show (14:UInt8)≠17 by decide) (by rw[decide_eq_false_iff_not,<-List.length_eq_zero_iff];omega) (fun _ t ht=>?_)
 rw[Qjg,if_neg (by decide),if_neg (by decide),if_neg (by decide),List.length_map]at ht
 refine ⟨⟨ht.1,ht.2.1⟩,fun i a ha=>?_⟩
 obtain ⟨g1,g2,g3⟩:=KsW_get ht.2.2 i (QaS 11 0 0 a) (by rw[List.getElem?_map,ha];rfl)
 exact ⟨g1,trivial,g2,strW_v (Or.inl rfl) g3⟩
theorem Qgy (x:UInt64):(Qeo 7 x).toNat=x.toNat:=by
 have:=x.toNat_lt
 rw[Qdi,show 2^(8*sizeK 7)=18446744073709551616 from rfl];omega
theorem eqK_ofW {k:UInt8} {a b:UInt64} (h9:k≠9) (h10:k≠10):eqK k a b=true↔a.toNat=b.toNat:=by
 unfold eqK
 rw[if_neg h9,if_neg h10,decide_eq_true_eq]
 exact ⟨fun h=>by rw[h],fun h=>UInt64.toNat_inj.1 h⟩
theorem Qcy {j sz:Nat} {k:UInt8} {nn D:UInt64} (h:LW (Qan k nn D) bs pos vt j) (hk:k<=10) (h9:k≠9) (h10:k≠10) (hsz:sizeK k=sz) {x D':Nat} (hx:(Qeo k nn).toNat=x) (hD:(Qeo k D).toNat=D'):Sc sz bs pos vt (4+2*j) D' x:=by
 rw[<-hD]
 exact sc_of h hk hsz hx (fun hq=>by rw[<-hx];exact (eqK_ofW h9 h10).1 hq) (fun _=>rfl)
theorem refP_v {t A:Nat} {x:UInt64} (h:Qjg (idV x) bs t):RefPW x A bs t:=by
 rw[idV,Qjg,if_pos rfl]at h
 obtain ⟨vt',h1,h2⟩:=h
 exact ⟨vt',h1,Qcy (j:=0) (Yn h2 0 _ rfl) (by decide) (by decide) (by decide) rfl (Qgy x) (by decide)⟩
theorem ids_of {j A:Nat} {l:List UInt64} (h:LW (idsL l) bs pos vt j):YD A bs pos vt (4+2*j) (l=[]) (Qb3 (VecTW l RefPW)):=by
 refine Qib h (show ¬(16:UInt8)<=10 by decide) (show (16:UInt8)≠17 by decide) (by rw[decide_eq_false_iff_not,<-List.length_eq_zero_iff];omega) (fun _ t ht=>?_)
 rw[Qjg,if_neg (by decide),if_neg (by decide),if_neg (by decide),List.length_map]at ht
 refine ⟨⟨ht.1,ht.2.1⟩,fun i a ha=>?_⟩
 obtain ⟨g1,g2,g3⟩:=KsW_get ht.2.2 i (idV a) (by rw[List.getElem?_map,ha];rfl)
 exact ⟨g1,trivial,g2,refP_v g3⟩
theorem mskW_i64 (x:UInt64):(Qeo 8 (toU (IntKind.i64.wrap (x.toNat:Int)))).toNat=x.toNat:=by
 have h:=x.toNat_lt
 have h2:=Qhm (IntKind.i64.wrap (x.toNat:Int))
 generalize toU (IntKind.i64.wrap (x.toNat:Int))=w at h2⊢
 rw[Qdi,show 2^(8*sizeK 8)=18446744073709551616 from rfl]
 simp[IntKind.wrap,IntKind.bits,IntKind.signed]at h2
 omega
theorem mskW_i32 (x:UInt32):(Qeo 6 (toU (IntKind.i32.wrap (x.toNat:Int)))).toNat=x.toNat:=by
 have h:=x.toNat_lt
 have h2:=Qhm (IntKind.i32.wrap (x.toNat:Int))
 generalize toU (IntKind.i32.wrap (x.toNat:Int))=w at h2⊢
 rw[Qdi,show 2^(8*sizeK 6)=4294967296 from rfl]
 simp[IntKind.wrap,IntKind.bits,IntKind.signed]at h2
 omega
theorem mskW_i16 (x:UInt16):(Qeo 4 (toU (IntKind.i16.wrap (x.toNat:Int)))).toNat=x.toNat:=by
 have h:=x.toNat_lt
 have h2:=Qhm (IntKind.i16.wrap (x.toNat:Int))
 generalize toU (IntKind.i16.wrap (x.toNat:Int))=w at h2⊢
 rw[Qdi,show 2^(8*sizeK 4)=65536 from rfl]
 simp[IntKind.wrap,IntKind.bits,IntKind.signed]at h2
 omega
theorem mskW_i8 (x:UInt8):(Qeo 2 (toU (IntKind.i8.wrap (x.toNat:Int)))).toNat=x.toNat:=by
 have h:=x.toNat_lt
 have h2:=Qhm (IntKind.i8.wrap (x.toNat:Int))
 generalize toU (IntKind.i8.wrap (x.toNat:Int))=w at h2⊢
 rw[Qdi,show 2^(8*sizeK 2)=256 from rfl]
 simp[IntKind.wrap,IntKind.bits,IntKind.signed]at h2
 omega
theorem mskW_u32 (x:UInt32):(Qeo 5 (toU (x.toNat:Int))).toNat=x.toNat:=by
 have h:=x.toNat_lt
 rw[Qdi,show 2^(8*sizeK 5)=4294967296 from rfl,Qb0 (by omega)];omega
theorem Qi8 (x:UInt32):(Qeo 9 (toU (x.toNat:Int))).toNat=x.toNat:=by
 have h:=x.toNat_lt
 rw[Qdi,show 2^(8*sizeK 9)=4294967296 from rfl,Qb0 (by omega)];omega
theorem mskW_u16 (x:UInt16):(Qeo 3 (toU (x.toNat:Int))).toNat=x.toNat:=by
 have h:=x.toNat_lt
 rw[Qdi,show 2^(8*sizeK 3)=65536 from rfl,Qb0 (by omega)];omega
theorem mskW_u8 (x:UInt8):(Qeo 1 (toU (x.toNat:Int))).toNat=x.toNat:=by
 have h:=x.toNat_lt
 rw[Qdi,show 2^(8*sizeK 1)=256 from rfl,Qb0 (by omega)];omega
theorem mskW_bool (b:Bool):(Qeo 0 (boolN b)).toNat=if b then 1 else 0:=by cases b<;>decide
theorem statW_v {t A:Nat} {s:ZJ} (h:Qjg (valL0 s) bs t):StatW s A bs t:=by
 rw[valL0,Qjg,if_pos rfl]at h
 obtain ⟨vt',h1,h2⟩:=h
 exact ⟨vt',h1,Qib (j:=0) (Yn h2 0 _ rfl) (show ¬(11:UInt8)<=10 by decide) (show (11:UInt8)≠17 by decide) ⟨fun h=>h.elim,fun h=>(by cases h)⟩ (fun _ t ht=>strW_v (Or.inl rfl) ht),
  Qcy (j:=1) (Yn h2 1 _ rfl) (by decide) (by decide) (by decide) rfl (mskW_i64 s.val) (by decide),Qcy (j:=2) (Yn h2 2 _ rfl) (by decide) (by decide) (by decide) rfl (mskW_u16 s.count) (by decide)⟩
theorem posT_of {A:Nat} {l:List ZO} (h:LW (posL l) bs pos vt 0):YD A bs pos vt 4 (l.head?=none) (posW l.head?):=by
 cases l with
 |nil=>exact Qgl (j:=0) (v:=QaS 17 8 0 QiL) (d:=0) h rfl
 |cons v l=>
  have hk:¬QbN (QaS 17 8 0 (Qj8 v))<=10:=by show ¬(17:UInt8)<=10;decide
  have h17:QbN (QaS 17 8 0 (Qj8 v))=17:=rfl
  rw[posL,LW,if_pos ⟨rfl,fun hs=>hk hs.1⟩,if_neg hk,if_pos h17]at h
  exact Or.inr ⟨h.1,fun hh=>(by cases hh),h.2⟩
theorem emptyT_of {A:Nat} {l:List ZJ} (h:LW (Qj4 l) bs pos vt 14):YD A bs pos vt 32 (l.head?=none) (Qb3 (fun A bs p=>∀s,l.head?=some s->StatW s A bs p)):=by
 cases l with
 |nil=>exact Qgl (j:=14) (v:=QaS 15 0 0 []) (d:=0) h rfl
 |cons v l=>
  refine Qib (j:=14) (v:=valL0 v) h (show ¬(15:UInt8)<=10 by decide) (show (15:UInt8)≠17 by decide) ⟨fun h=>(by cases h),fun h=>(by cases h)⟩ (fun _ t ht s hs=>?_)
  have:v=s:=by simpa using hs
  subst this
  exact statW_v ht
end
theorem longN_natW (x:UInt64):(longN x).toNat=x.toNat:=by
 have h:=x.toNat_lt
 have h2:=Qhm (IntKind.i64.wrap (x.toNat:Int))
 unfold longN
 generalize toU (IntKind.i64.wrap (x.toNat:Int))=w at h2⊢
 simp[IntKind.wrap,IntKind.bits,IntKind.signed]at h2
 omega
theorem testB_enc (t:Qb8):QcB t.a.toNat t.b.toNat=leB ((testN t).toNat:Int) 4:=by
 have ha:=t.a.toNat_lt
 have hb:=t.b.toNat_lt
 unfold QcB testN
 rw[leB_2,leB_1,leB_4,UInt64.toNat_ofNat_of_lt' (by show _<2^64;omega)]
 show [YU _ 0,YU _ 1,YU _ 0,0]=_
 have e:∀(x y:Int) (i j:Nat),(x/2^(8*i))%256=(y/2^(8*j))%256->YU x i=YU y j:=fun x y i j h=>by unfold YU;rw[h]
 have p0:(2:Int)^(8*0)=1:=rfl
 have p1:(2:Int)^(8*1)=256:=rfl
 have p2:(2:Int)^(8*2)=65536:=rfl
 have p3:(2:Int)^(8*3)=16777216:=rfl
 congr 1
 ·exact e _ _ 0 0 (by rw[p0];omega)
 congr 1
 ·exact e _ _ 1 1 (by rw[p1];omega)
 congr 1
 ·exact e _ _ 0 2 (by rw[p0,p2];omega)
 congr 1
 have h3:(((t.a.toNat+65536*t.b.toNat:Nat):Int)/2^(8*3))%256=0:=by rw[p3];omega
 unfold YU
 rw[h3];rfl
theorem boolB_enc (b:Bool):Qho b=leB ((boolN b).toNat:Int) 1:=by cases b<;>decide
theorem eqK_fW {a b:UInt64}:eqK 9 a b=true↔(a.toNat=b.toNat\/(a.toNat%2^31=0/\b.toNat%2^31=0)):=by
 unfold eqK
 rw[if_pos rfl,Bool.or_eq_true,Bool.and_eq_true,decide_eq_true_eq,decide_eq_true_eq,decide_eq_true_eq]
 exact ⟨fun h=>h.imp (fun h=>by rw[h]) id,fun h=>h.imp (fun h=>UInt64.toNat_inj.1 h) id⟩
theorem flt_of {bs:List UInt8} {pos vt j:Nat} {x D:UInt32} {D':UInt64} (hD:(Qeo 9 D').toNat=D.toNat) (hz:D.toNat%2^31≠0) (hfl:flU x D=x) (h:LW (Qan 9 (toU (x.toNat:Int)) D') bs pos vt j):Sc 4 bs pos vt (4+2*j) D.toNat (flU x D).toNat:=by
 rw[hfl,<-hD]
 refine sc_of h (by decide) rfl (Qi8 x) (fun hq=>?_) (fun _=>rfl)
 rw[eqK_fW,Qi8,hD]at hq
 rw[hD]
 exact hq.resolve_right (fun h=>hz h.2)
theorem flt0_of {bs:List UInt8} {pos vt j:Nat} {x:UInt32} (h:LW (Qan 9 (toU (x.toNat:Int)) 0) bs pos vt j):Sc 4 bs pos vt (4+2*j) 0 (flU x 0).toNat:=by
 have hx:=x.toNat_lt
 have hD:(Qeo 9 0).toNat=0:=by decide
 have key:=sc_of (x':=(flU x 0).toNat) h (by decide) rfl (Qi8 x) (fun hq=>?_) (fun hq=>?_)
 ·rw[hD]at key;exact key
 ·rw[eqK_fW,Qi8,hD]at hq
  rw[hD,flU_3]
  unfold negZ
  have:x.toNat=0\/x.toNat=2147483648:=by omega
  rcases this with h|h
  ·have:x=0:=UInt32.toNat_inj.1 h
   rw[this];decide
  ·have:x=2147483648:=UInt32.toNat_inj.1 h
   rw[this];decide
 ·rw[eqK_fW,Qi8,hD]at hq
  rw[flU_3]
  unfold negZ
  split
  ·rename_i h
   exfalso
   apply hq
   right
   rw[h];decide
  ·rfl
set_option maxRecDepth 100000 in
set_option maxHeartbeats 4000000 in
theorem plain_own {A:Nat} {bs:List UInt8} {p vt:Nat} {d:Qbt} {pos:List ZO} {empty:List ZJ} (hv:VT bs p vt) (h:LsW (QhO d pos empty) bs p vt 0) (h1:d.testTy=0) (h2:d.uniqTy=0) (h3:d.ambTy=0) (h4:d.abilities=[]):OwnW A bs p vt (flD {d with pos:=pos.head?,empty:=empty.head?}) where
 tab:=hv
 pos0:=posT_of (Yn h 0 _ rfl)
 mana:=Qcy (j:=1) (Yn h 1 _ rfl) (by decide) (by decide) (by decide) rfl (mskW_i16 d.mana) (by decide)
 hp:=Qcy (j:=2) (Yn h 2 _ rfl) (by decide) (by decide) (by decide) rfl (mskW_i16 d.hp) (by decide)
 name:=Qib (j:=3) (Yn h 3 _ rfl) (show ¬(11:UInt8)<=10 by decide) (show (11:UInt8)≠17 by decide) ⟨fun h=>h.elim,fun h=>(by cases h)⟩ (fun _ t ht=>strW_v (Or.inl rfl) ht)
 inventory:=bytes_of (j:=5) (Yn h 5 _ rfl)
 color:=Qcy (j:=6) (Yn h 6 _ rfl) (by decide) (by decide) (by decide) rfl (mskW_u8 d.color) (by decide)
 testTy:=Or.inl ⟨zero_of (j:=7) (Yn h 7 _ rfl) (by decide),by show d.testTy.toNat=0;rw[h1];rfl⟩
 test4:=Qgn (j:=9) (Yn h 9 _ rfl) rfl (fun x hx=>by obtain ⟨t,_,rfl⟩:=List.mem_map.1 hx;simp[QcB,Qf]) (by rw[List.map_map];exact List.map_congr_left fun t _=>testB_enc t)
 strings:=texts_of (j:=10) (Yn h 10 _ rfl)
 nested:=bytes_of (j:=13) (Yn h 13 _ rfl)
 empty:=emptyT_of (Yn h 14 _ rfl)
 bool:=Qcy (j:=15) (Yn h 15 _ rfl) (by decide) (by decide) (by decide) rfl (mskW_bool d.bool) (by decide)
 s32:=Qcy (j:=16) (Yn h 16 _ rfl) (by decide) (by decide) (by decide) rfl (mskW_i32 d.s32) (by decide)
 u32:=Qcy (j:=17) (Yn h 17 _ rfl) (by decide) (by decide) (by decide) rfl (mskW_u32 d.u32) (by decide)
 s64:=Qcy (j:=18) (Yn h 18 _ rfl) (by decide) (by decide) (by decide) rfl (mskW_i64 d.s64) (by decide)
 u64:=Qcy (j:=19) (Yn h 19 _ rfl) (by decide) (by decide) (by decide) rfl (Qgy d.u64) (by decide)
 s32a:=Qcy (j:=20) (Yn h 20 _ rfl) (by decide) (by decide) (by decide) rfl (mskW_i32 d.s32a) (by decide)
 u32a:=Qcy (j:=21) (Yn h 21 _ rfl) (by decide) (by decide) (by decide) rfl (mskW_u32 d.u32a) (by decide)
 s64a:=Qcy (j:=22) (Yn h 22 _ rfl) (by decide) (by decide) (by decide) rfl (mskW_i64 d.s64a) (by decide)
 u64a:=Qcy (j:=23) (Yn h 23 _ rfl) (by decide) (by decide) (by decide) rfl (Qgy d.u64a) (by decide)
 bools:=Qgn (j:=24) (Yn h 24 _ rfl) rfl (fun x hx=>by obtain ⟨t,_,rfl⟩:=List.mem_map.1 hx;rfl) (by rw[List.map_map];exact List.map_congr_left fun t _=>boolB_enc t)
 f:=flt_of (j:=25) (by decide) (by decide) (flU_1 d.f) (Yn h 25 _ rfl)
 f2:=flt_of (j:=26) (by decide) (by decide) (flU_2 d.f2) (Yn h 26 _ rfl)
 f3:=flt0_of (j:=27) (Yn h 27 _ rfl)
 strings2:=texts_of (j:=28) (Yn h 28 _ rfl)
 abilities:=Qgl (j:=29) (Yn h 29 _ rfl) (by show d.abilities.map _=[];rw[h4];rfl)
 flex:=bytes_of (j:=30) (Yn h 30 _ rfl)
 test5:=Qgn (j:=31) (Yn h 31 _ rfl) rfl (fun x hx=>by obtain ⟨t,_,rfl⟩:=List.mem_map.1 hx;simp[QcB,Qf]) (by rw[List.map_map];exact List.map_congr_left fun t _=>testB_enc t)
 longs:=Qgn (j:=32) (Yn h 32 _ rfl) rfl (fun x hx=>by obtain ⟨t,_,rfl⟩:=List.mem_map.1 hx;exact Qf _ 8) (by rw[List.map_map];exact List.map_congr_left fun t _=>by show leB _ 8=leB ((longN t).toNat:Int) 8;rw[longN_natW])
 doubles:=Qgn (j:=33) (Yn h 33 _ rfl) rfl (fun x hx=>by obtain ⟨t,_,rfl⟩:=List.mem_map.1 hx;exact Qf _ 8) rfl
 parent:=Qib (j:=34) (Yn h 34 _ rfl) (show ¬(15:UInt8)<=10 by decide) (show (15:UInt8)≠17 by decide) Iff.rfl (fun _ _ _=>trivial)
 refs:=ids_of (j:=35) (Yn h 35 _ rfl)
 singleWeak:=Qcy (j:=36) (Yn h 36 _ rfl) (by decide) (by decide) (by decide) rfl (Qgy d.singleWeak) (by decide)
 weak:=Qgn (j:=37) (Yn h 37 _ rfl) rfl (fun x hx=>by obtain ⟨t,_,rfl⟩:=List.mem_map.1 hx;exact Qf _ 8) rfl
 strong:=ids_of (j:=38) (Yn h 38 _ rfl)
 coOwning:=Qcy (j:=39) (Yn h 39 _ rfl) (by decide) (by decide) (by decide) rfl (Qgy d.coOwning) (by decide)
 coOwnings:=Qgn (j:=40) (Yn h 40 _ rfl) rfl (fun x hx=>by obtain ⟨t,_,rfl⟩:=List.mem_map.1 hx;exact Qf _ 8) rfl
 nonOwning:=Qcy (j:=41) (Yn h 41 _ rfl) (by decide) (by decide) (by decide) rfl (Qgy d.nonOwning) (by decide)
 nonOwnings:=Qgn (j:=42) (Yn h 42 _ rfl) rfl (fun x hx=>by obtain ⟨t,_,rfl⟩:=List.mem_map.1 hx;exact Qf _ 8) rfl
 uniqTy:=Or.inl ⟨zero_of (j:=43) (Yn h 43 _ rfl) (by decide),by show d.uniqTy.toNat=0;rw[h2];rfl⟩
 ambTy:=Or.inl ⟨zero_of (j:=45) (Yn h 45 _ rfl) (by decide),by show d.ambTy.toNat=0;rw[h3];rfl⟩
 enums:=enums_of (j:=47) (Yn h 47 _ rfl)
 signedEnum:=Qcy (j:=48) (Yn h 48 _ rfl) (by decide) (by decide) (by decide) rfl (mskW_i8 d.signedEnum) (by decide)
set_option maxRecDepth 100000 in
theorem plain_rw {bs:List UInt8} {d:Qbt} {pos:List ZO} {empty:List ZJ} {tables enemy test uniq amb:List GM} (hp:PlainG (.mk d pos empty tables enemy test uniq amb)) (hw:WroteW (QhO d pos empty) bs):RootRw bs (flM (toM (.mk d pos empty tables enemy test uniq amb))):=by
 obtain ⟨rfl,rfl,h1,h2,h3,h4⟩:=hp
 obtain ⟨a1,a2,vt,hv,h⟩:=hw
 refine ⟨a1,a2,0,?_⟩
 rw[toM,flM,RwM]
 refine ⟨vt,plain_own hv h h1 h2 h3 h4,Qgl (j:=11) (Yn h 11 _ rfl) rfl,Qgl (j:=12) (Yn h 12 _ rfl) rfl,Qgl (j:=8) (Yn h 8 _ rfl) h1,Qgl (j:=44) (Yn h 44 _ rfl) h2,Qgl (j:=46) (Yn h 46 _ rfl) h3⟩
end Go.Proofs
namespace Go.Proofs
open Go Go.Vc
open Tryz (prog)
def orcB:List UInt8:=[108,0,0,0,0,0,102,0,28,0,0,0,0,0,26,0,20,0,0,0,0,0,19,0,0,0,0,0,0,0,0,0,0,0,0,0,0,0,0,0,0,0,0,0,0,0,0,0,0,0,0,0,0,0,0,0,0,0,0,0,12,0,8,0,0,0,0,0,0,0,0,0,0,0,0,0,0,0,0,0,0,0,0,0,0,0,0,0,0,0,0,0,0,0,0,0,0,0,0,0,0,0,0,0,0,0,7,0,102,0,0,0,0,0,0,0,0,0,0,0,0,0,0,0,0,0,0,0,8,0,0,0,0,0,80,0,3,0,0,0,111,114,99,0]
theorem orc_bytes:Qat (toM orc)=orcB:=by kernel_rfl
set_option maxRecDepth 100000 in
theorem orc_own:OwnW 0 orcB 108 6 (flD {orcD with pos:=none,empty:=none}) where
 tab:=⟨by decide,by decide,by decide,by decide,by decide⟩
 pos0:=Or.inl ⟨by decide,rfl⟩
 mana:=by unfold Sc;decide
 hp:=by unfold Sc;decide
 name:=Or.inr ⟨by decide,fun h=>h,by decide,trivial,by decide,by decide,by decide,by decide⟩
 inventory:=Or.inl ⟨by decide,rfl⟩
 color:=by unfold Sc;decide
 testTy:=by unfold Sc;decide
 test4:=Or.inl ⟨by decide,rfl⟩
 strings:=Or.inl ⟨by decide,rfl⟩
 nested:=Or.inl ⟨by decide,rfl⟩
 empty:=Or.inl ⟨by decide,rfl⟩
 bool:=by unfold Sc;decide
 s32:=by unfold Sc;decide
 u32:=by unfold Sc;decide
 s64:=by unfold Sc;decide
 u64:=by unfold Sc;decide
 s32a:=by unfold Sc;decide
 u32a:=by unfold Sc;decide
 s64a:=by unfold Sc;decide
 u64a:=by unfold Sc;decide
 bools:=Or.inl ⟨by decide,rfl⟩
 f:=by unfold Sc;decide
 f2:=by unfold Sc;decide
 f3:=by unfold Sc;decide
 strings2:=Or.inl ⟨by decide,rfl⟩
 abilities:=Or.inl ⟨by decide,rfl⟩
 flex:=Or.inl ⟨by decide,rfl⟩
 test5:=Or.inl ⟨by decide,rfl⟩
 longs:=Or.inl ⟨by decide,rfl⟩
 doubles:=Or.inl ⟨by decide,rfl⟩
 parent:=Or.inl ⟨by decide,rfl⟩
 refs:=Or.inl ⟨by decide,rfl⟩
 singleWeak:=by unfold Sc;decide
 weak:=Or.inl ⟨by decide,rfl⟩
 strong:=Or.inl ⟨by decide,rfl⟩
 coOwning:=by unfold Sc;decide
 coOwnings:=Or.inl ⟨by decide,rfl⟩
 nonOwning:=by unfold Sc;decide
 nonOwnings:=Or.inl ⟨by decide,rfl⟩
 uniqTy:=by unfold Sc;decide
 ambTy:=by unfold Sc;decide
 enums:=Or.inl ⟨by decide,rfl⟩
 signedEnum:=by unfold Sc;decide
set_option maxRecDepth 100000 in
theorem orc_rw:RootRw orcB (flM (toM orc)):=by
 refine ⟨by decide,by decide,0,?_⟩
 rw[show le4 orcB 0=108 by decide]
 unfold orc
 rw[toM,flM,RwM]
 exact ⟨6,orc_own,Or.inl ⟨by decide,rfl⟩,Or.inl ⟨by decide,rfl⟩,Or.inl ⟨by decide,rfl⟩,Or.inl ⟨by decide,rfl⟩,Or.inl ⟨by decide,rfl⟩⟩
set_option maxRecDepth 100000 in
theorem awake2_ok {G:Cut} {H:Qe} (hG:G.In H) {R:Kn} (hR:∀H',Qaf H H'->R (.bool true) H'):FnS prog 7 #[] H R:=by
 apply w7
 unfold s7
 have hf:=fill_orc
 unfold Qz
 simp only[hf]
 have h1:Qg9 (toM orc)<=400000000:=by have:=cost_le orc_small;have:=orc_cnt;omega
 refine MonsterPack_ok (n:=0) hG (orc_val G) orc_small h1 (by decide) ?_
 intro H1 k1
 rw[QhD,Qhw]
 rw[orc_bytes]
 refine Qhf orc_rw (by decide) (In.keep hG k1) ?_
 intro G2 H2 cells e2 hv2
 rw[rw_fl]at hv2
 have k2:=k1.trans e2.keep
 have hl:=hv2.len
 have hone:=QaX.one hv2
 obtain ⟨d,c,rfl,hd⟩:∃d c,cells=Yk d c/\d.name=[111,114,99]/\d.hp=80/\d.mana=150:=by
  unfold orc at hv2
  rw[toM,rdM,QaX]at hv2
  obtain ⟨c,h,_⟩:=hv2
  exact ⟨_,c,h,rfl,rfl,rfl⟩
 obtain ⟨hd1,hd2,hd3⟩:=hd
 rw[QhD,Qhw,Qy]
 have e3:=(Ext.refl e2.inn).push (.cells z55 55)
 have o3:=Yj.fresh (Ext.refl e2.inn) (.cells z55 55)
 have k3:=k2.trans e3.keep
 generalize H2.push (.cells z55 55)=H3 at *
 rw[Yg (n:=51) (c':=(Yk d c).toArray) o3.get rfl (by simpa using hl) (by decide) (by simpa using hone)]
 have k4:=(k2.trans ((e3.set o3.out o3.new (.cells (Yk d c).toArray 55)).keep))
 have o4:=o3.set (.cells (Yk d c).toArray 55)
 generalize setB H3 H2.size (.cells (Yk d c).toArray 55)=H4 at *
 have l1:∀k:Value->Prop,LdK H4 (.pointer (some ⟨H2.size,1,none⟩)) k=k (Qbc d.mana):=fun k=>Ql ((Qj o4.get).trans rfl)
 have l2:∀k:Value->Prop,LdK H4 (.pointer (some ⟨H2.size,2,none⟩)) k=k (Qbc d.hp):=fun k=>Ql ((Qj o4.get).trans rfl)
 have l3:∀k:Value->Prop,LdK H4 (.pointer (some ⟨H2.size,3,none⟩)) k=k (Yf d.name):=fun k=>Ql ((Qj o4.get).trans rfl)
 rw[hd3]at l1
 rw[hd2]at l2
 rw[hd1]at l3
 have bs:∀k:Value->Prop,Qk prog .eql 9 (Yf [111,114,99]) (.string ⟨#[111,114,99]⟩) k=k (.bool true):=fun k=>eq_str k
 have b80:∀k:Value->Prop,Qk prog .eql 23 (Qbc 80) (.int .i16 80) k=k (.bool true):=fun k=>QbE k
 have b150:∀k:Value->Prop,Qk prog .eql 23 (Qbc 150) (.int .i16 150) k=k (.bool true):=fun k=>QbE k
 simp only[QU,Ye,Qm,l1,l2,l3,bs,b80,b150]
 exact hR _ k4
end Go.Proofs
namespace Go.Proofs
open Go Go.Vc
open Tryz (prog)
set_option maxHeartbeats 1000000 in
theorem QhE {g:GM} {cells:List Value} {G:Cut} {H:Qe} {R:Kn} (hG:G.In H) (hv:QaX G g cells) (hN:NormM g) (hR:∀H',Qaf H H'->R (.bool true) H'):FnS prog 3 #[.agg cells.toArray] H R:=by
 apply w3
 unfold s3
 rw[Qy]
 have e:=Ext.refl hG
 have o:Yj H G (H.push (.cells (Value.agg cells.toArray).cells 38)) H.size (.cells cells.toArray 38 (0,0)):=Yj.fresh e _
 have e:=e.push (.cells (Value.agg cells.toArray).cells 38)
 generalize H.push (.cells (Value.agg cells.toArray).cells 38)=H1 at *
 have ld:∀{H':Qe} {G':Cut},Yj H G' H' H.size (.cells cells.toArray 38 (0,0))->∀k:Value->Prop,LdN H' 51 (ptr H.size) k=k (.agg cells.toArray):=fun o k=>YI (n:=51) (vs:=cells) (by rw[Q4 o.get 51 (by simp[hv.len])];simp[<-hv.len])
 rw[ld o]
 refine fits3_ok e.inn hv fun b H2 e2=>?_
 have e:=e.trans e2
 have o:=o.ext e2
 clear e2
 rw[Ym]
 refine Y9 (fun _=>hR _ e.keep) fun _=>?_
 rw[ld o]
 refine monsterClean_ok e.inn hv fun b H3 e3 hcl=>?_
 have e:=e.trans e3
 have o:=o.ext e3
 clear e3
 have awake:∀H',Qaf H H'->FnS prog 7 #[] H' R:=fun H' k=>awake2_ok (In.keep hG k) fun H'' k'=>hR _ (k.trans k')
 rw[Ym]
 have aw:FnS prog 7 #[] H3 fun x19 h6=>R x19 h6:=awake _ e.keep
 cases b
 ·simp only[Bool.not_false,Yz,QaO,Ye,QbS]
  exact aw
 obtain ⟨hc,hcnt⟩:=hcl rfl
 clear hcl aw
 simp only[Bool.not_true,Y0,YY]
 rw[ld o]
 refine MonsterPlain_ok e.inn hv fun b H4 e4 hpl=>?_
 have e:=e.trans e4
 have o:=o.ext e4
 clear e4
 have aw:FnS prog 7 #[] H4 fun x19 h6=>R x19 h6:=awake _ e.keep
 rw[Ym]
 cases b
 ·simp only[Bool.not_false,Ye,QbS]
  exact aw
 have hpl:=hpl rfl
 clear aw
 simp only[Bool.not_true,ZG]
 rw[ld o]
 have hs:=hc.small
 have hL:=hs.len
 have hL6:=read0_LenM hL
 have hrd:=rd_clean hc hN
 have hcM:=hc
 obtain ⟨d,pos,empty,tables,enemy,test,uniq,amb⟩:=g
 have hsD:=hs
 rw[Qck]at hsD
 have hsD:=hsD.1
 refine MonsterValue_ok e.inn hv hsD ?_
 intro G5 H5 cells5 e5 vv5
 have o:=o.ext e5
 have e5':=e.trans e5
 have hcost:=costLs_slotsV hsD
 rw[mvalue]at vv5
 refine Write_ok e5.inn vv5 (WfLs_slotsV hsD) (by show 49<=100;decide) (by omega) ?_
 intro bs H6 e6 hbl hw
 have o:=o.ext e6
 have e6':=e5'.trans e6
 have hrw:=plain_rw (tables:=tables) (enemy:=enemy) (test:=test) (uniq:=uniq) (amb:=amb) hpl hw
 have hbl2:bs.length<2147483648:=by omega
 generalize hge:GM.mk d pos empty tables enemy test uniq amb=g at *
 refine Qjj hrw (ty_fl (tyM hs)) (by rw[rw_fl,hrd];exact hL6) (by rw[rw_fl];exact enM hs) hbl2 e6.inn ?_
 intro G7 H7 cells7 e7 hv7
 rw[rw_fl,hrd]at hv7
 have o:=o.ext e7
 have e7':=e6'.trans e7
 rw[QhD,Qhw,Qy,Yg (n:=51) (c':=cells7.toArray) Qh rfl (by simpa using hv7.len) (by decide) (by simpa using QaX.one hv7),Yq]
 have e8:=(Ext.refl e7.inn).pushG (.cells cells7.toArray 55 (0,0))
 have g4:(G7.upd H7.size (.cells cells7.toArray 55 (0,0))) H7.size=some (.cells cells7.toArray 55 (0,0)):=Cut.upd_same
 have o:=o.ext e8
 have e8':=e7'.trans e8
 have hv8:=hv7.mono e8.le
 generalize G7.upd H7.size (.cells cells7.toArray 55 (0,0))=G8 at *
 generalize H7.push (.cells cells7.toArray 55 (0,0))=H8 at *
 generalize H7.size=q4 at *
 refine Qhf hrw hbl2 e8.inn ?_
 intro G9 H9 cells9 e9 hv9
 rw[rw_fl,hrd]at hv9
 have o:=o.ext e9
 have e9':=e8'.trans e9
 rw[QhD,Qhw,Qy,Yg (n:=51) (c':=cells9.toArray) Qh rfl (by simpa using hv9.len) (by decide) (by simpa using QaX.one hv9),Yq]
 have e10:=(Ext.refl e9.inn).pushG (.cells cells9.toArray 55 (0,0))
 have g6:(G9.upd H9.size (.cells cells9.toArray 55 (0,0))) H9.size=some (.cells cells9.toArray 55 (0,0)):=Cut.upd_same
 have o:=o.ext e10
 have e10':=e9'.trans e10
 have hv10:=hv9.mono e10.le
 generalize G9.upd H9.size (.cells cells9.toArray 55 (0,0))=G10 at *
 generalize H9.push (.cells cells9.toArray 55 (0,0))=H10 at *
 generalize H9.size=q6 at *
 rw[ld o]
 refine read0_all g G10 H10 cells _ e10.inn (hv.mono e10'.le) hL ?_
 intro G11 H11 cells11 e11 hv11
 have e11':=e10'.trans e11
 rw[Qy,Yg (n:=51) (c':=cells11.toArray) Qh rfl (by simpa using hv11.len) (by decide) (by simpa using QaX.one hv11),Yq]
 have e12:=(Ext.refl e11.inn).pushG (.cells cells11.toArray 38 (0,0))
 have g8:(G11.upd H11.size (.cells cells11.toArray 38 (0,0))) H11.size=some (.cells cells11.toArray 38 (0,0)):=Cut.upd_same
 have e12':=e11'.trans e12
 have hv12:=hv11.mono e12.le
 have le10:=Cut.le_trans e11.le e12.le
 have le8:=Cut.le_trans e9.le (Cut.le_trans e10.le le10)
 generalize G11.upd H11.size (.cells cells11.toArray 38 (0,0))=G12 at *
 generalize H11.push (.cells cells11.toArray 38 (0,0))=H12 at *
 generalize H11.size=q8 at *
 have ldA:∀{G':Cut} {H':Qe},G12.le G'->G'.In H'->∀k:Value->Prop,LdN H' 51 (ptr q4) k=k (.agg cells7.toArray):=fun hle hin k=>YI (n:=51) (vs:=cells7) (by rw[Q4 (hin _ _ (hle _ _ (le8 _ _ g4))) 51 (by simp[hv7.len])];simp[<-hv7.len])
 have ldB:∀{G':Cut} {H':Qe},G12.le G'->G'.In H'->∀k:Value->Prop,LdN H' 51 (ptr q6) k=k (.agg cells9.toArray):=fun hle hin k=>YI (n:=51) (vs:=cells9) (by rw[Q4 (hin _ _ (hle _ _ (le10 _ _ g6))) 51 (by simp[hv9.len])];simp[<-hv9.len])
 have ldC:∀{G':Cut} {H':Qe},G12.le G'->G'.In H'->∀k:Value->Prop,LdN H' 51 (ptr q8) k=k (.agg cells11.toArray):=fun hle hin k=>YI (n:=51) (vs:=cells11) (by rw[Q4 (hin _ _ (hle _ _ g8)) 51 (by simp[hv11.len])];simp[<-hv11.len])
 have a1:=fun k=>ldA (Cut.le_refl _) e12.inn k
 have c1:=fun k=>ldC (Cut.le_refl _) e12.inn k
 simp only[QU,Ye,a1,c1]
 refine Of_all (QhX g) G12 H12 cells7 _ e12.inn (hv8.mono le8) hL6 ?_
 intro G13 H13 cells13 e13 hv13
 refine Qn e13.keep.ext ?_
 refine same_all (QhX g) G13 H13 cells13 cells11 _ e13.inn hv13 (hv12.mono e13.le) hL6 ?_
 intro H14 e14
 have le14:=Cut.le_trans e13.le e14.le
 have b2:=fun k=>ldB le14 e14.inn k
 have c2:=fun k=>ldC le14 e14.inn k
 simp only[QU,Ye,b2,c2]
 refine Of_all (QhX g) _ H14 cells9 _ e14.inn (hv10.mono (Cut.le_trans le10 le14)) hL6 ?_
 intro G15 H15 cells15 e15 hv15
 refine Qn e15.keep.ext ?_
 refine same_all (QhX g) G15 H15 cells15 cells11 _ e15.inn hv15 (hv12.mono (Cut.le_trans le14 e15.le)) hL6 ?_
 intro H16 e16
 simp only[QU,Ye]
 have k16:=((((e12'.keep.trans e13.keep).trans e14.keep).trans e15.keep).trans e16.keep)
 exact awake2_ok (In.keep hG k16) fun H17 k17=>hR _ (k16.trans k17)
end Go.Proofs
namespace Go.Proofs.YtkkcpkfpegmgbaaGreat
open Go Go.Vc Go.Proofs Go.ChangeShapes Go.WideShapes Go.ChangeAt Go.RowKit
theorem own:ownKnob Tryz.prog.godebug=none:=by kernel_rfl
theorem laidOut:laidOutB Tryz.prog=true:=by kernel_rfl
theorem undM:Tryz.prog.underlying 38=some (.struct (Tryz.prog.fieldsOf 38)):=by kernel_rfl
set_option maxRecDepth 100000 in
theorem lifted (os:Os) (started:os.Started) (H:Type) (enc:TypeId×Value->H):
  ReturnsInHanded {} Tryz.checked os 3 .any (Rows.fnMonsterWrittenSpec.pre6 enc Tryz.prog Tryz.f3 Rows.fnMonsterWrittenRow.domain false) (Rows.fnMonsterWrittenSpec.post enc Tryz.prog Tryz.f3 false true false false):=by
 refine returnsInHanded_of_change (C:=Tryz.checked) own started (by kernel_rfl) Tryz.func3
  (ChangeSpec.witness6 (enc:=enc) (C:=Tryz.checked) false ⟨#[],#[.agg z38],[]⟩ 8 (by kernel_rfl) (by kernel_rfl) (by kernel_rfl) (by kernel_rfl)) ?_
 intro W base args ds gs before hval0 hW hcnd _
 have hval:∀(j:Nat) t v,Tryz.f3.params[j]?=some t->args[j]?=some v->Value.okWide Tryz.prog W .any base t v:=hval0
 have hW':=hW
 obtain ⟨p,q,hA0,hV,rfl,hfz,hnd⟩:=hW
 have hA:DataW.TrodAll enc Tryz.prog W 0 (fun _=>true) true Tryz.f3.params.toList args.toList ds p:=hA0
 rw[Tryz.params3]at hA hval
 obtain ⟨v0,d0,rfl,rfl,h0⟩:=trodAll_one hA
 obtain ⟨rfl,rfl⟩:=trodVars_none hV
 have h0k:=h0
 clear hA0 hval0
 simp only[List.append_nil]at hW'
 have hlt:∀x∈p,x.block<W.heap.size:=fun x hx=>by simpa using hW'.lt x (by simpa using hx)
 have ha:∀W':World,Below W.heap.size W W'->DataW.Trod enc Tryz.prog W' 0 (fun b=>decide (b<W.heap.size)) true 38 v0 d0 p:=
  fun W' hn=>Below.trod laidOut (by kernel_rfl) (of_decide_eq_true (by kernel_rfl)) h0k hn hlt
 obtain ⟨cells,rfl,_⟩:=okWide_struct undM (hval 0 38 v0 rfl rfl)
 obtain ⟨fuel,hf⟩:=h0
 obtain ⟨g,hN,hv⟩:=rd_all (E:=H) (enc:=enc) (w:=W) (base:=0) (spare:=fun _=>true) (held:=true) fuel _ _ hf
 have hv:QaX (Cut.of W.heap) g cells.toList:=hv
 have main:=QhE (R:=fun v H'=>v= .bool true/\Qaf W.heap H') (Cut.of_in W.heap) hv hN (fun H' hk=>⟨rfl,hk⟩)
 refine (main W rfl).mono fun e W' ⟨v,he,⟨hvt,hkeep⟩,henv⟩=>?_
 subst he;subst hvt
 have hnx:Below W.heap.size W W':=⟨henv.2.1,henv.1,henv.2.2,hkeep.size,fun i hi=>by
  rw[Array.getElem?_eq_getElem hi]
  exact hkeep i _ (Array.getElem?_eq_getElem hi)⟩
 exact ⟨_,rfl,⟨_,_,_,[],_,[],hW',trodAll_mk1 (shut_bool (by kernel_rfl) true),trodAll_mk1 (ha _ hnx),rfl,hnx.frame _,fun h=>by cases h⟩⟩
end Go.Proofs.YtkkcpkfpegmgbaaGreat
namespace Go.Proofs.YtkkcpkfpegmgbaaGreat
open Go Go.Vc Go.Proofs Go.ChangeShapes Go.WideShapes Go.ChangeAt Go.RowKit
theorem limb1:Tryz.prog.inPlace 3=["math.Float32frombits", "math.Float64frombits", "math.Float64bits", "math.Float32bits"]:=by kernel_rfl
theorem limb2:Tryz.prog.unfollowed 3=true:=by kernel_rfl
theorem limb3:Tryz.prog.recurses 3=true:=by kernel_rfl
theorem limb4:Tryz.prog.varsNamed 3=[]:=by kernel_rfl
theorem closed:joinedFacts Tryz.prog 3 Tryz.f3 Rows.fnMonsterWrittenSpec Rows.fnMonsterWrittenRow=true:=by
 unfold joinedFacts
 rw[limb1,limb2,limb3,limb4]
 kernel_rfl
theorem named:Tryz.prog.funcNamed "pub-tablature/laws.FnMonsterWritten" =some 3:=by kernel_rfl
theorem FnMonsterWritten_holds:Rows.FnMonsterWrittenSaid:=
 OpenClaim.holds_of_wide 3 Tryz.f3 rfl rfl rfl rfl rfl rfl rfl ⟨rfl,rfl,rfl,rfl,rfl⟩ rfl rfl rfl rfl rfl named Tryz.func3 closed
  (of_decide_eq_true (by kernel_rfl)) (by unfold Func.isWrapper;first|(rw[if_pos (by decide+kernel)];kernel_rfl)|(rw[if_neg (by decide+kernel)];exact ⟨rfl,rfl⟩))
  (fun os started H enc _=>lifted os started H enc)
end Go.Proofs.YtkkcpkfpegmgbaaGreat
