/- WHAT IS PROVED: the given statement of FnMonsterFormat, whatever the input: this is part 12 of 14. No conditions. -/
import Derived.Test.YthcjblkplcepaaaGreatX11
import Derived.ChangeArms
set_option linter.all false
namespace Go.Proofs
open Go Go.Vc
open Tryz (prog)
theorem fill14 (n0 n1 n2 n3 n4 n5 n6 n7 n8 n9 n10 n11 n12 n13:Int):YN (YY z3.toList 14) [(0,1,.int .i64 n0),(1,1,.int .i64 n1),(2,1,.int .i64 n2),(3,1,.int .i64 n3),(4,1,.int .i64 n4),(5,1,.int .i64 n5),(6,1,.int .i64 n6),(7,1,.int .i64 n7),(8,1,.int .i64 n8),(9,1,.int .i64 n9),(10,1,.int .i64 n10),(11,1,.int .i64 n11),(12,1,.int .i64 n12),(13,1,.int .i64 n13)]=
  some [.int .i64 n0,.int .i64 n1,.int .i64 n2,.int .i64 n3,.int .i64 n4,.int .i64 n5,.int .i64 n6,.int .i64 n7,.int .i64 n8,.int .i64 n9,.int .i64 n10,.int .i64 n11,.int .i64 n12,.int .i64 n13]:=by kernel_rfl
theorem fill5 (s0 s1 s2 s3 s4:List UInt8):YN (YY z9.toList 5) [(0,1,QW s0),(1,1,QW s1),(2,1,QW s2),(3,1,QW s3),(4,1,QW s4)]=some [QW s0,QW s1,QW s2,QW s3,QW s4]:=by kernel_rfl
theorem fill2 {v w:Value} (hv:v.oneCell'=true) (hw:w.oneCell'=true):YN (YY z24.toList 2) [(0,1,v),(1,1,w)]=some [v,w]:=by
 have h1:=QhX hv
 have h2:=QhX hw
 unfold YN
 rw[h1,if_pos ⟨rfl,Nat.le_of_ble_eq_true (by kernel_rfl)⟩]
 unfold YN
 rw[h2,if_pos ⟨rfl,Nat.le_of_ble_eq_true (by kernel_rfl)⟩]
 unfold YN
 simp[YY,z24]
theorem or_lss {P:Program} {t:TypeId} {b:Bool} {v:Value} {n:Int} {H:Qe} (hv:v= .int .i64 n) {K:Kn} (hk:K (.bool (b||decide (n<0))) H):
  Qd (.bool b) false (fun k1=>k1 v H) H fun y1 h1=>Qd (.bool b) false (fun k2=>Qj P .lss t y1 (.int .i64 0) fun x=>k2 x h1) h1 fun y2 h2=>Yh (.bool b) (.bool true) y2 fun y=>K y h2:=by
 subst hv
 cases b
 ·rw[QJ]
  dsimp only
  rw[QJ,Yw]
  dsimp only
  rw[Yv]
  exact hk
 ·rw[Ys,Ys,Y4]
  exact hk
section
variable {H0:Qe} {G:Cut} {H:Qe} {q:Nat} {cells:List Value} {T:TypeId} (o:Yo H0 G H q (.cells cells.toArray T (0,0)))
include o
theorem and_choice {P:Program} {f:FuncId} {i:Nat} {vs:List Value} (hi:(cells.drop i).take 3=vs) (hl:i+3<=cells.length) {xa xq xd:Value} {K:Kn} (hk:FnS P f #[.agg vs.toArray,xa,xq,xd] H fun y h=>Yh (.bool true) y (.bool false) fun z=>K z h):
  Qd (.bool true) true (fun k1=>Qf (ptr q) i fun x=>k1 x H) H fun y1 h1=>Qd (.bool true) true (fun k2=>LdN h1 3 y1 fun x=>k2 x h1) h1 fun y2 h2=>Qd (.bool true) true (fun k3=>k3 xq h2) h2 fun y3 h3=>Qd (.bool true) true (fun k4=>k4 xd h3) h3 fun y4 h4=>
   Qd (.bool true) true (fun k5=>Qa P f #[y2,xa,y3,y4] h4 fun x h=>k5 x h) h4 fun y5 h5=>Yh (.bool true) y5 (.bool false) fun z=>K z h5:=by
 rw[Ye,Qm]
 dsimp only
 rw[Ye,YB (n:=3) (vs:=vs) (by rw[Q0 o.get 3 (by simpa using hl),Nat.add_zero];simpa using hi)]
 dsimp only
 rw[Ye]
 dsimp only
 rw[Ye]
 dsimp only
 rw[Ye]
 exact hk
theorem no_choice {P:Program} {f:FuncId} {i:Nat} {xa xq xd:Value} {K:Kn} (hk:K (.bool false) H):
  Qd (.bool false) true (fun k1=>Qf (ptr q) i fun x=>k1 x H) H fun y1 h1=>Qd (.bool false) true (fun k2=>LdN h1 3 y1 fun x=>k2 x h1) h1 fun y2 h2=>Qd (.bool false) true (fun k3=>k3 xq h2) h2 fun y3 h3=>Qd (.bool false) true (fun k4=>k4 xd h3) h3 fun y4 h4=>
   Qd (.bool false) true (fun k5=>Qa P f #[y2,xa,y3,y4] h4 fun x h=>k5 x h) h4 fun y5 h5=>Yh (.bool false) y5 (.bool false) fun z=>K z h5:=by
 rw[Yz,Yz,Yz,Yz,Yz,Yv]
 exact hk
end
def LensOk (d:QaM) (tables:List GM):Prop:=(d.test4.length<=50/\d.strings.length<=50/\d.bools.length<=50/\d.strings2.length<=50/\d.abilities.length<=50/\d.test5.length<=50/\d.longs.length<=50/\d.doubles.length<=50/\d.refs.length<=50/\d.weak.length<=50/\d.strong.length<=50/\d.coOwnings.length<=50/\d.nonOwnings.length<=50)/\tables.length<=50
set_option maxHeartbeats 1000000 in
set_option maxRecDepth 8000 in
theorem cleanStep {d:QaM} {pos:List Qa9} {empty:List ZU} {tables enemy test uniq amb:List GM} (hT:∀k∈tables,QeD k) (hE:∀k∈enemy,QeD k) (hU:∀k∈test,QeD k) (hQ:∀k∈uniq,QeD k) (hA:∀k∈amb,QeD k):QeD (.mk d pos empty tables enemy test uniq amb):=by
 intro G H cells q n deep R hG hv hq hn hn2 hd hd5 hR
 rw[QcX]at hv
 obtain ⟨c,rfl,g,wT,wE,wU,wQ,wA⟩:=hv
 apply w16
 unfold s16
 rw[Qx]
 have e:=Ext.refl hG
 have hne:H.size≠q:=fun h=>by have:=YM hq.get;omega
 have o:=Yo.zero (Yo.fresh e (.cells (YK d c).toArray 38))
 have e:=e.push (.cells (YK d c).toArray 38)
 have hq:=hq.push (.cells (YK d c).toArray 38)
 have kx:KX G q H (H.push (.cells (YK d c).toArray 38)):=KX.of_ext e
 have e1:=e.inn
 clear e
 simp only[Value.cells]
 generalize H.push (.cells (YK d c).toArray 38)=H1 at *
 have hst:∀kp:Qe->Prop,StK H1 1 (.pointer (some ⟨q,0,none⟩)) (.int .i64 (n-1)) kp=kp (setB H1 q (left (n-1))):=fun kp=>Qax hq.get Nat.one_pos (by simp) rfl
 rw[Qp,Ql (v:=.int .i64 n) ((Qk hq.get).trans rfl),Yg,wrap_i64 (by omega) (by omega),Qp,hst]
 clear hst
 have kx:=kx.trans (KX.set e1 hq.out (left (n-1)))
 have o:=o.set_ne hne (left (n-1))
 have hq:=hq.set (left (n-1))
 clear e1
 have hG2:=kx.inn
 generalize setB H1 q (left (n-1))=H2 at *
 obtain ⟨iT,sT,vT⟩:=wT
 obtain ⟨iE,sE,vE⟩:=wE
 have lT:=Zz.len vT
 have lE:=Zz.len vE
 rw[Qp,Ql (v:=.int .i64 (n-1)) ((Qk hq.get).trans rfl),Yw]
 refine or_lss rfl ?_
 refine or_len o (i:=0) (v:=c.pos) rfl (fun k=>g.pos.len) ?_
 refine or_len o (i:=12) (v:=c.enemy) rfl (fun k=>sE.len) ?_
 refine or_len o (i:=14) (v:=c.empty) rfl (fun k=>g.empty.len) ?_
 refine Yt (fun _=>hR H2 (n-1) false kx hq.get (fun h=>by cases h)) fun hb=>?_
 simp only[Bool.or_eq_false_iff,decide_eq_false_iff_not,List.length_map]at hb
 obtain ⟨⟨⟨⟨b1,b2⟩,b3⟩,b4⟩,b5⟩:=hb
 have b4:enemy.length<=1:=by omega
 have b3:pos.length<=1:=by omega
 have b5:empty.length<=1:=by omega
 have hF:∀h,Ext G H2 G h->R (.bool false) h:=fun h e=>hR h (n-1) false (kx.trans (KX.of_ext e)) (e.keep _ _ hq.get) (fun h=>by cases h)
 have e:=Ext.refl hG2
 refine Q2 (fun _ h=>Ext G H2 G h/\LensOk d tables) ?_ ?_
 ·refine QD o (i:=9) (v:=c.test4) rfl ?_
  rw[g.test4.len]
  refine QD o (i:=10) (v:=c.strings) rfl ?_
  rw[g.strings.len]
  refine QD o (i:=11) (v:=c.tables) rfl ?_
  rw[sT.len]
  refine QD o (i:=24) (v:=c.bools) rfl ?_
  rw[g.bools.len]
  refine QD o (i:=28) (v:=c.strings2) rfl ?_
  rw[g.strings2.len]
  refine QD o (i:=29) (v:=c.abil) rfl ?_
  rw[g.abil.len]
  refine QD o (i:=31) (v:=c.test5) rfl ?_
  rw[g.test5.len]
  refine QD o (i:=32) (v:=c.longs) rfl ?_
  rw[g.longs.len]
  refine QD o (i:=33) (v:=c.doubles) rfl ?_
  rw[g.doubles.len]
  refine QD o (i:=35) (v:=c.refs) rfl ?_
  rw[g.refs.len]
  refine QD o (i:=37) (v:=c.weak) rfl ?_
  rw[g.weak.len]
  refine QD o (i:=38) (v:=c.strong) rfl ?_
  rw[g.strong.len]
  refine QD o (i:=40) (v:=c.coOwnings) rfl ?_
  rw[g.coOwnings.len]
  refine QD o (i:=42) (v:=c.nonOwnings) rfl ?_
  rw[g.nonOwnings.len]
  unfold Q8
  simp only[fill14]
  refine lens_loop (ns:=[(d.test4.map Zb).length,(d.strings.map Qhd).length,iT.length,(d.bools.map boolI).length,(d.strings2.map Qhd).length,(d.abilities.map QcG).length,(d.test5.map Zb).length,(d.longs.map i64I).length,(d.doubles.map Qce).length,(d.refs.map Qce).length,(d.weak.map Qce).length,(d.strong.map Qce).length,(d.coOwnings.map Qce).length,(d.nonOwnings.map Qce).length]) Qi rfl (Nat.le_of_ble_eq_true rfl) (hF _ (e.push _)) ?_
  intro y hall
  refine ⟨e.push _,?_⟩
  simp only[List.mem_cons,List.not_mem_nil,or_false,forall_eq_or_imp,forall_eq,List.length_map,<-lT]at hall
  obtain ⟨h1,h2,h3,h4,h5,h6,h7,h8,h9,h10,h11,h12,h13,h14⟩:=hall
  exact ⟨⟨h1,h2,h4,h5,h6,h7,h8,h9,h10,h11,h12,h13,h14⟩,h3⟩
 rintro y1 h ⟨e,hlens⟩
 have o':=o.ext e
 refine QD o' (i:=3) (v:=QW d.name) rfl ?_
 refine QD o' (i:=4) (v:=QW d.inventory) rfl ?_
 refine QD o' (i:=13) (v:=QW d.nested) rfl ?_
 refine QD o' (i:=30) (v:=QW d.flex) rfl ?_
 refine QD o' (i:=49) (v:=QW d.enums) rfl ?_
 refine QD o' (i:=10) (v:=c.strings) rfl ?_
 refine QD o' (i:=28) (v:=c.strings2) rfl ?_
 unfold Q8
 simp only[fill5]
 refine Qq (Qay.push _ _).ext ?_
 have e5:=e.push (.cells [QW d.name,QW d.inventory,QW d.nested,QW d.flex,QW d.enums].toArray 9)
 have o5:=Yo.fresh e (.cells [QW d.name,QW d.inventory,QW d.nested,QW d.flex,QW d.enums].toArray 9)
 have hone:∀{l:List (List UInt8)},∀x∈l.map Qhd,∀y∈x,y.oneCell'=true:=fun x hx y hy=>by
  obtain ⟨s,_,rfl⟩:=List.mem_map.1 hx
  simp[Qhd]at hy
  rw[hy];rfl
 have hst:d.strings.length<=50:=hlens.1.2.1
 have hst2:d.strings2.length<=50:=hlens.1.2.2.2.1
 refine appN (items:=[d.name,d.inventory,d.nested,d.flex,d.enums].map Qhd) (es:=1) e5 (fun x hx=>by obtain ⟨s,_,rfl⟩:=List.mem_map.1 hx;rfl) o5 (Nat.le_refl 5) (Nat.le_refl 5) rfl (Nat.le_refl 5) (by simp) g.strings hone (by decide) (by simp only[List.length_map,List.length_cons,List.length_nil];omega) rfl ?_
 intro v6 H6 e6 c6 k6
 refine Qq (k6 rfl).ext ?_
 clear k6 o5 e5
 obtain ⟨c61,⟨_,c62⟩|⟨b,cc,cs,rfl,own,_,s1,s2,s3,s4,s5⟩⟩:=c6
 ·simp at c62
 refine appN (es:=1) e6 c61 own s1 s2 s3 s4 s5 g.strings2 hone (by decide) (by simp only[List.length_map,List.length_append,List.length_cons,List.length_nil];omega) rfl ?_
 intro v7 H7 e7 c7 _
 rw[<-List.map_append,<-List.map_append]at c7
 clear own s1 s2 s3 s4 s5 c61 e6
 have o7:=o.ext e7
 refine Q2 (fun vs h=>∃y,vs=[y]/\Ext G H2 G h/\Cur H2 G h 9 1 y ((([d.name,d.inventory,d.nested,d.flex,d.enums]++d.strings++d.strings2)++empty.map fun s=>s.id).map Qhd) (fun _=>False)) ?_ ?_
 ·refine QD o7 (i:=14) (v:=c.empty) rfl ?_
  refine emp_loop g.empty b5 e7 c7 (by simp only[List.length_append,List.length_cons,List.length_nil];omega) ?_
  exact fun y h e c=>⟨y,rfl,e,c⟩
 rintro y8 h8 ⟨y8',hy,e8,c8⟩
 cases hy
 obtain ⟨G8,e8',sl8,_,_⟩:=c8.done e8
 refine Q2 (fun _ h=>Ext G H2 G h/\∀s∈(([d.name,d.inventory,d.nested,d.flex,d.enums]++d.strings++d.strings2)++empty.map fun s=>s.id),s.length<=300) ?_ ?_
 ·refine txt_loop e8'.inn sl8 (by simp only[List.length_append,List.length_cons,List.length_nil,List.length_map];omega) (hF _ e8) ?_
  exact fun y hall=>⟨e8,hall⟩
 rintro y9 h9 ⟨e9,htx⟩
 clear c8 sl8 e8' e8 e7 c7 o7 e o'
 have o9:=o.ext e9
 refine Q2 (fun _ h=>Ext G H2 G h) ?_ ?_
 ·refine QD o9 (i:=0) (v:=c.pos) rfl ?_
  exact pos_loop e9.inn g.pos (by omega) (fun h e=>hF _ (e9.trans e)) (fun y h e=>e9.trans e)
 rintro y10 h10 e10
 have o10:=o.ext e10
 clear o9 e9
 have hdb:d.doubles.length<=50:=hlens.1.2.2.2.2.2.2.2.1
 refine Q2 (fun _ h=>Ext G H2 G h) ?_ ?_
 ·refine QD o10 (i:=33) (v:=c.doubles) rfl ?_
  exact dbl_loop e10.inn g.doubles (by omega) (hF _ e10) (fun y=>e10)
 rintro y11 h11 e11
 have o11:=o.ext e11
 clear o10 e10
 refine QD o11 (i:=25) (v:=Qaw d.f) rfl ?_
 rw[Qaw,Q7]
 refine QhH (.inl rfl) fun b=>?_
 rw[Yn]
 refine or_flt o11 (.inl rfl) rfl (i:=26) (by rfl) fun b=>?_
 refine or_flt o11 (.inl rfl) rfl (i:=27) (by rfl) fun b=>?_
 refine Yt (fun _=>hF _ e11) fun _=>?_
 have kx:=kx.trans (KX.of_ext e11)
 have hq:=hq.ext e11
 clear e11 hF o
 refine Q2 (fun _ h=>∃k,KX G q H h/\Yo #[] G h q (left k)/\Yo #[] G h H.size (.cells (YK d c).toArray 38 (0,0))/\Zj tables/\Zj enemy/\(cntL tables:Int)+cntL enemy+k<=n-1/\0<=k) ?_ ?_
 ·refine QD o11 (i:=11) (v:=c.tables) rfl ?_
  refine QD o11 (i:=12) (v:=c.enemy) rfl ?_
  simp only[fill2 sT.one sE.one]
  have eb:=(Ext.refl kx.inn).push (.cells [c.tables,c.enemy].toArray 24)
  have ob:=Yo.zero (Yo.fresh (Ext.refl kx.inn) (.cells [c.tables,c.enemy].toArray 24))
  have hbq:h11.size≠q:=fun h=>by have:=YM hq.get;omega
  have kx:=kx.trans (KX.of_ext eb)
  have hq:=hq.ext eb
  have o12:=o11.ext eb
  rw[Qbq]
  generalize h11.push (.cells [c.tables,c.enemy].toArray 24)=H12 at *
  refine ⟨fun m vs h=>∃i k y,vs=[.int .i64 (i:Nat),y]/\i+m=2/\KX G q H h/\Yo #[] G h q (left k)/\Yo #[] G h H.size (.cells (YK d c).toArray 38 (0,0))/\Yo #[] G h h11.size (.cells [c.tables,c.enemy].toArray 24 (0,0))/\(0<i->Zj tables)/\(1<i->Zj enemy)/\((if 0<i then cntL tables else 0:Nat):Int)+((if 1<i then cntL enemy else 0:Nat):Int)+k<=n-1/\0<=k,⟨2,0,n-1,_,rfl,rfl,kx,hq,o12,ob,by omega,by omega,by simp,by omega⟩,?_⟩
  clear kx hq o12 ob eb
  rintro m x y h ⟨i,k,y',hx,him,kx,hq,o12,ob,ct,ce,hc,hk0⟩
  cases hx
  rw[Yw]
  by_cases hlt:i<2
  ·rw[Yj (by omega)]
   have hbad:∀h' k',KX G q h h'->h'[q]?=some (left k')->R (.bool false) h':=fun h' k' kx' hq'=>hR h' k' false (kx.trans kx') hq' (fun h=>by cases h)
   refine Q2 (fun vs h=>∃v y k,vs=[v,y]/\KX G q H h/\Yo #[] G h q (left k)/\Yo #[] G h H.size (.cells (YK d c).toArray 38 (0,0))/\Yo #[] G h h11.size (.cells [c.tables,c.enemy].toArray 24 (0,0))/\(0<i+1->Zj tables)/\(1<i+1->Zj enemy)/\((if 0<i+1 then cntL tables else 0:Nat):Int)+((if 1<i+1 then cntL enemy else 0:Nat):Int)+k<=n-1/\0<=k) ?_ ?_
   ·rw[QP (by omega) (by omega)]
    obtain rfl|rfl:i=0\/i=1:=by omega
    ·rw[Ql (v:=c.tables) ((Qk ob.get).trans rfl)]
     simp only[if_neg (Nat.lt_irrefl 0),if_neg (show ¬1<0 by decide)]at hc
     refine cl_loop (Hs:=h) ⟨iT,sT,vT⟩ hT hlens.2 (by omega) hd5 (KX.of_ext (Ext.refl kx.inn)) hq hk0 (by omega) hbad ?_
     intro y h' k' kx' hq' cl cn k0
     refine ⟨_,_,k',rfl,kx.trans kx',hq',Yo.kx o12 hne kx',Yo.kx ob hbq kx',fun _=>cl,fun h=>absurd h (by decide),?_,k0⟩
     simp only[if_pos (show 0<0+1 by decide),if_neg (show ¬1<0+1 by decide)]
     omega
    ·rw[Ql (v:=c.enemy) ((Qk ob.get).trans rfl)]
     simp only[if_pos (show 0<1 by decide),if_neg (show ¬1<1 by decide)]at hc
     refine cl_loop (Hs:=h) ⟨iE,sE,vE⟩ hE (by omega) (by omega) hd5 (KX.of_ext (Ext.refl kx.inn)) hq hk0 (by omega) hbad ?_
     intro y h' k' kx' hq' cl cn k0
     refine ⟨_,_,k',rfl,kx.trans kx',hq',Yo.kx o12 hne kx',Yo.kx ob hbq kx',fun _=>ct (by decide),fun _=>cl,?_,k0⟩
     simp only[if_pos (show 0<1+1 by decide),if_pos (show 1<1+1 by decide)]
     omega
   ·rintro v y h' ⟨v',y',k',hvs,kx',hq',o12',ob',ct',ce',hc',hk0'⟩
    rw[Q5,wrap_i64 (by omega) (by omega)]
    exact ⟨m-1,by omega,i+1,k',y,by simp,by omega,kx',hq',o12',ob',ct',ce',hc',hk0'⟩
  ·rw[Yb (by omega)]
   have:i=2:=by omega
   subst this
   simp only[if_pos (show 0<2 by decide),if_pos (show 1<2 by decide)]at hc
   exact ⟨k,kx,hq,o12,ct (by decide),ce (by decide),hc,hk0⟩
 clear kx hq o11
 rintro y12 h12 ⟨k,kx,hq,o12,ct,ce,hc,hk0⟩
 refine ldn_ok o12 (i:=6) (n:=3) (vs:=[u8n d.testTy,c.test,u8n d.testColor]) rfl (by rw[Qac];decide) ?_
 refine choice_ok kx.inn wU hU hq hk0 (by omega) (by omega) hd5 ?_
 intro h13 k13 b kx13 hq13 hb
 have kx:=kx.trans kx13
 have o13:=Yo.kx o12 hne kx13
 have hF:∀h k,KX G q H h->h[q]?=some (left k)->R (.bool false) h:=fun h' k' kx' hq'=>hR h' k' false kx' hq' (fun h=>by cases h)
 cases b
 ·exact no_choice o13 (no_choice o13 (hF _ _ kx hq13))
 obtain ⟨gU,cU,lU,nU,kU⟩:=hb rfl
 refine and_choice o13 (i:=43) (vs:=[u8n d.uniqTy,c.uniq,u8n d.uniqColor]) rfl (by rw[Qac];decide) ?_
 refine choice_ok kx.inn wQ hQ ⟨hq13,hq.out,Nat.zero_le _⟩ kU (by omega) (by omega) hd5 ?_
 intro h14 k14 b kx14 hq14 hb
 rw[Y4]
 have kx:=kx.trans kx14
 have o14:=Yo.kx o13 hne kx14
 cases b
 ·exact no_choice o14 (hF _ _ kx hq14)
 obtain ⟨gQ,cQ,lQ,nQ,kQ⟩:=hb rfl
 refine and_choice o14 (i:=46) (vs:=[u8n d.ambTy,c.amb,u8n d.ambColor]) rfl (by rw[Qac];decide) ?_
 refine choice_ok kx.inn wA hA ⟨hq14,hq.out,Nat.zero_le _⟩ kQ (by omega) (by omega) hd5 ?_
 intro h15 k15 b kx15 hq15 hb
 rw[Y4]
 have kx:=kx.trans kx15
 cases b
 ·exact hF _ _ kx hq15
 obtain ⟨gA,cA,lA,nA,kA⟩:=hb rfl
 refine hR h15 k15 true kx hq15 fun _=>⟨?_,?_,kA⟩
 ·rw[QgF]
  refine ⟨⟨b3,b5,hlens.1,?_,fun s hs=>htx s (by simp[hs]),fun s hs=>htx s (by simp[hs]),fun s hs=>htx s.id ?_⟩,⟨hlens.2,b4⟩,⟨gU,gQ,gA⟩,⟨fun h=>cU (.inr h),fun h=>cQ (.inr h),cA (.inl rfl)⟩,ct,ce,lU,lQ,lA⟩
  ·exact ⟨htx _ (by simp),htx _ (by simp),htx _ (by simp),htx _ (by simp),htx _ (by simp)⟩
  ·exact List.mem_append_right _ (List.mem_map.2 ⟨s,hs,rfl⟩)
 ·rw[cntM];omega
mutual
theorem Clean_all:∀g:GM,QeD g
 |.mk d pos empty tables enemy test uniq amb=>cleanStep (QdL tables) (QdL enemy) (QdL test) (QdL uniq) (QdL amb)
theorem QdL:∀gs:List GM,∀k∈gs,QeD k
 |[],k,h=>by simp at h
 |g::gs,k,h=>by
  rcases List.mem_cons.1 h with h|h
  ·rw[h];exact Clean_all g
  ·exact QdL gs k h
end
theorem monsterClean_ok {G:Cut} {H:Qe} (hG:G.In H) {g:GM} {cells:List Value} (hv:QcX G g cells) {R:Kn} (hR:∀(b:Bool) H',Ext G H G H'->(b=true->QgF g/\cntM g<=20)->R (.bool b) H'):FnS prog 5 #[.agg cells.toArray] H R:=by
 apply w5
 unfold s5
 rw[Qx,Qx]
 have e:=Ext.refl hG
 have o:Yo H G (H.push (.cells (Value.agg cells.toArray).cells 38)) H.size (.cells cells.toArray 38 (0,0)):=Yo.fresh e _
 have e:=e.push (.cells (Value.agg cells.toArray).cells 38)
 generalize H.push (.cells (Value.agg cells.toArray).cells 38)=H1 at *
 have o2:Yo H G (H1.push (.cells z3 3)) H1.size (left 0):=Yo.fresh e _
 have o0:=o
 have o:=o.push (.cells z3 3)
 have hs:H.size<=H1.size:=e.keep.size
 have hne:H.size≠H1.size:=fun h=>by have:=YM o0.get;omega
 have e:=e.push (.cells z3 3)
 generalize H1.push (.cells z3 3)=H2 at *
 have hst:∀kp:Qe->Prop,StK H2 1 (.pointer (some ⟨H1.size,0,none⟩)) (.int .i64 20) kp=kp (setB H2 H1.size (left 20)):=fun kp=>Qax o2.get Nat.one_pos (by simp) rfl
 rw[hst]
 clear hst
 have e:=e.set o2.out o2.new (left 20)
 have o:=o.set_ne hne (left 20)
 have o2:=o2.set (left 20)
 generalize setB H2 H1.size (left 20)=H3 at *
 rw[YB (n:=51) (vs:=cells) (by rw[Q0 o.get 51 (by simp[hv.len])];simp[<-hv.len])]
 refine Clean_all g G H3 cells H1.size 20 5 _ e.inn hv (Yo.zero o2) (by decide) (by decide) (by decide) (by decide) ?_
 intro H4 k b kx hq hb
 refine hR b H4 ⟨fun b o hbo=>?_,kx.inn,e.le,fun _ _=>rfl⟩ fun h=>?_
 ·exact kx.keep b o (fun h=>by have:=YM hbo;omega) (e.keep b o hbo)
 ·obtain ⟨h1,h2,h3⟩:=hb h
  exact ⟨h1,by omega⟩
end Go.Proofs
namespace Go.Proofs
open Go Go.Vc
open Tryz (prog)
theorem read_single (x:Nat) (hx:x<4294967296):
  (x%2147483648<8388608/\Ieee.single.read x= .number (x/2147483648%2==1) (x%2147483648) (-149))\/
  (8388608<=x%2147483648/\x%2147483648<2139095040/\Ieee.single.read x= .number (x/2147483648%2==1) (8388608+x%2147483648%8388608) (-149+((x%2147483648/8388608-1:Nat):Int)))\/
  (x%2147483648=2139095040/\Ieee.single.read x= .infinity (x/2147483648%2==1))\/Ieee.single.read x= .nan (x/2147483648%2==1) (x%2147483648-2139095040):=by
 have hs:Ieee.single.signWeight=2147483648:=by decide
 have hb:Ieee.single.binade=8388608:=by decide
 have hi:Ieee.single.infRung=2139095040:=by decide
 have hl:Ieee.single.leastPlace=-149:=by decide
 unfold Ieee.Format.read
 rw[hs,hb,hi,hl]
 by_cases h1:x%2147483648<8388608
 ·simp[h1]
 ·by_cases h2:x%2147483648<2139095040
  ·right;left
   exact ⟨by omega,h2,by simp only[if_neg h1,if_pos h2]⟩
  ·by_cases h3:x%2147483648=2139095040
   ·right;right;left
    exact ⟨h3,by simp only[if_neg h1,if_neg h2,if_pos h3]⟩
   ·right;right;right
    simp only[if_neg h1,if_neg h2,if_neg h3]
theorem cmp_int {a b:Int} (h:some (compare a b)=some Ordering.eq):a=b:=by
 have h:compare a b= .eq:=by simpa using h
 exact Std.LawfulEqCmp.eq_of_compare h
theorem pow_two_le {k:Nat} (h:0<k):∃t,0<t/\2^k=2*t:=by
 obtain ⟨j,rfl⟩:∃j,k=j+1:=⟨k-1,by omega⟩
 exact ⟨2^j,Nat.pos_of_ne_zero (by simp),by rw[Nat.pow_succ,Nat.mul_comm]⟩
theorem order_norm {x M E:Nat} (hx:x<4294967296) (hM:8388608<=M) (hM2:M<16777216) (h:(Ieee.single.read x).order (.number false M (-149+(E:Int)))=some .eq):x=(E+1)*8388608+(M-8388608):=by
 rcases read_single x hx with ⟨h1,h2⟩|⟨h1,h2,h3⟩|⟨h1,h2⟩|h1
 ·rw[h2]at h
  have h:=cmp_int h
  have e1:((-149:Int)-min (-149) (-149+(E:Int))).toNat=0:=by omega
  have e2:((-149+(E:Int))-min (-149) (-149+(E:Int))).toNat=E:=by omega
  rw[e1,e2]at h
  simp only[Ieee.signed,Nat.shiftLeft_eq,Nat.pow_zero,Nat.mul_one,Bool.false_eq_true,if_false]at h
  have hE:0<2^E:=Nat.pos_of_ne_zero (by simp)
  have hm:M<=M*2^E:=Nat.le_mul_of_pos_right _ hE
  generalize M*2^E=Z at *
  split at h<;>omega
 ·rw[h3]at h
  have h:=cmp_int h
  generalize hE':x%2147483648/8388608-1=E' at *
  generalize hM':x%2147483648%8388608=M' at *
  have hM'2:M'<8388608:=by omega
  rcases Nat.lt_trichotomy E' E with hlt|heq|hgt
  ·have e1:((-149+(E':Int))-min (-149+(E':Int)) (-149+(E:Int))).toNat=0:=by omega
   have e2:((-149+(E:Int))-min (-149+(E':Int)) (-149+(E:Int))).toNat=E-E':=by omega
   rw[e1,e2]at h
   obtain ⟨t,ht,hp⟩:=pow_two_le (k:=E-E') (by omega)
   simp only[Ieee.signed,Nat.shiftLeft_eq,Nat.pow_zero,Nat.mul_one,Bool.false_eq_true,if_false,hp]at h
   have hm:M*(2*1)<=M*(2*t):=Nat.mul_le_mul_left _ (by omega)
   generalize M*(2*t)=Z at *
   split at h<;>omega
  ·subst heq
   have e1:((-149+(E':Int))-min (-149+(E':Int)) (-149+(E':Int))).toNat=0:=by omega
   rw[e1]at h
   simp only[Ieee.signed,Nat.shiftLeft_eq,Nat.pow_zero,Nat.mul_one,Bool.false_eq_true,if_false]at h
   split at h
   ·omega
   ·rename_i hs
    have:x/2147483648%2≠1:=by simpa using hs
    omega
  ·have e1:((-149+(E':Int))-min (-149+(E':Int)) (-149+(E:Int))).toNat=E'-E:=by omega
   have e2:((-149+(E:Int))-min (-149+(E':Int)) (-149+(E:Int))).toNat=0:=by omega
   rw[e1,e2]at h
   obtain ⟨t,ht,hp⟩:=pow_two_le (k:=E'-E) (by omega)
   simp only[Ieee.signed,Nat.shiftLeft_eq,Nat.pow_zero,Nat.mul_one,Bool.false_eq_true,if_false,hp]at h
   have hm:(8388608+M')*(2*1)<=(8388608+M')*(2*t):=Nat.mul_le_mul_left _ (by omega)
   generalize (8388608+M')*(2*t)=Z at *
   split at h<;>omega
 ·rw[h2]at h
  simp only[Ieee.Datum.order]at h
  split at h<;>cases h
 ·rw[h1]at h
  cases h
theorem order_zero {x:Nat} (hx:x<4294967296) (h:(Ieee.single.read x).order (.number false 0 (-149))=some .eq):x=0\/x=2147483648:=by
 rcases read_single x hx with ⟨h1,h2⟩|⟨h1,h2,h3⟩|⟨h1,h2⟩|h1
 ·rw[h2]at h
  have h:=cmp_int h
  simp only[Ieee.signed,Nat.shiftLeft_eq,Nat.pow_zero,Nat.mul_one,Nat.zero_mul,Bool.false_eq_true,if_false]at h
  have e1:((-149:Int)-min (-149) (-149)).toNat=0:=by omega
  rw[e1]at h
  split at h<;>omega
 ·rw[h3]at h
  have h:=cmp_int h
  generalize hE':x%2147483648/8388608-1=E' at *
  simp only[Ieee.signed,Nat.shiftLeft_eq,Nat.pow_zero,Nat.mul_one,Nat.zero_mul,Bool.false_eq_true,if_false]at h
  generalize hk:((-149+(E':Int))-min (-149+(E':Int)) (-149)).toNat=k at *
  have hE:0<2^k:=Nat.pos_of_ne_zero (by simp)
  have hm:8388608+x%2147483648%8388608<=(8388608+x%2147483648%8388608)*2^k:=Nat.le_mul_of_pos_right _ hE
  generalize (8388608+x%2147483648%8388608)*2^k=Z at *
  split at h<;>omega
 ·rw[h2]at h
  simp only[Ieee.Datum.order]at h
  split at h<;>cases h
 ·rw[h1]at h
  cases h
theorem flU_1 (x:UInt32):flU x 1078530000=x:=by
 unfold flU
 split
 ·rename_i h
  have hr:Ieee.single.read (1078530000:UInt32).toNat= .number false 13176784 (-149+((127:Nat):Int)):=by decide
  have h:(Ieee.single.read x.toNat).order (Ieee.single.read (1078530000:UInt32).toNat)=some .eq:=h
  rw[hr]at h
  have:=order_norm x.toNat_lt (by decide) (by decide) h
  exact UInt32.toNat_inj.1 (by rw[this];decide)
 ·rfl
theorem flU_2 (x:UInt32):flU x 1077936128=x:=by
 unfold flU
 split
 ·rename_i h
  have hr:Ieee.single.read (1077936128:UInt32).toNat= .number false 12582912 (-149+((127:Nat):Int)):=by decide
  have h:(Ieee.single.read x.toNat).order (Ieee.single.read (1077936128:UInt32).toNat)=some .eq:=h
  rw[hr]at h
  have:=order_norm x.toNat_lt (by decide) (by decide) h
  exact UInt32.toNat_inj.1 (by rw[this];decide)
 ·rfl
theorem flU_3 (x:UInt32):flU x 0=negZ x:=by
 unfold flU negZ
 have hr:Ieee.single.read (0:UInt32).toNat= .number false 0 (-149):=by decide
 split
 ·rename_i h
  have h:(Ieee.single.read x.toNat).order (Ieee.single.read (0:UInt32).toNat)=some .eq:=h
  rw[hr]at h
  rcases order_zero x.toNat_lt h with h|h
  ·have:x=0:=UInt32.toNat_inj.1 (by rw[h];rfl)
   rw[this];rfl
  ·have:x=2147483648:=UInt32.toNat_inj.1 (by rw[h];rfl)
   rw[this];rfl
 ·rename_i h
  rw[if_neg]
  intro hx
  subst hx
  exact h (by decide)
mutual
theorem QgF.small:∀{g:GM},QgF g->QcA g
 |.mk d pos empty tables enemy test uniq amb,h=>by
  rw[QgF]at h
  obtain ⟨h1,⟨h2,h3⟩,⟨h4,h5,h6⟩,_,c1,c2,c3,c4,c5⟩:=h
  rw[QcA]
  exact ⟨h1,h2,h3,h4,h5,h6,Zj.small c1,Zj.small c2,Zj.small c3,Zj.small c4,Zj.small c5⟩
theorem Zj.small:∀{gs:List GM},Zj gs->Zp gs
 |[],_=>by rw[Zp];trivial
 |g::gs,h=>by
  rw[Zj]at h
  rw[Zp]
  exact ⟨QgF.small h.1,Zj.small h.2⟩
end
theorem GUn.le {amb:Bool} {ty:UInt8} {n:Nat} (h:GUn amb ty n):n<=1:=by
 rcases h with ⟨_,h⟩|⟨_,⟨_,_,h⟩|⟨_,h⟩⟩<;>omega
mutual
theorem QcA.len:∀{g:GM},QcA g->LenM g
 |.mk d pos empty tables enemy test uniq amb,h=>by
  rw[QcA]at h
  obtain ⟨h1,h2,h3,h4,h5,h6,c1,c2,c3,c4,c5⟩:=h
  obtain ⟨a1,a2,a3,a4,a5,a6,a7,a8,a9,a10,a11,a12,a13⟩:=h1.lists
  have p1:=h1.npos
  have p2:=h1.nempty
  have u1:=h4.le
  have u2:=h5.le
  have u3:=h6.le
  rw[LenM]
  exact ⟨⟨by omega,by omega,a1,a5,a6,h2,by omega,by omega,by omega,by omega⟩,⟨a2,a3,a4,a7,a8,a9,a10,a11,a12,a13⟩,Zp.len c1,Zp.len c2,Zp.len c3,Zp.len c4,Zp.len c5⟩
theorem Zp.len:∀{gs:List GM},Zp gs->LenL gs
 |[],_=>by rw[LenL];trivial
 |g::gs,h=>by
  rw[Zp]at h
  rw[LenL]
  exact ⟨QcA.len h.1,Zp.len h.2⟩
end
theorem QgS (gs:List GM):(Qdy gs).length=gs.length:=by rw[read0s_map,List.length_map]
mutual
theorem read0_LenM:∀{g:GM},LenM g->LenM (read0 g)
 |.mk d pos empty tables enemy test uniq amb,h=>by
  rw[LenM]at h
  obtain ⟨h1,h2,c1,c2,c3,c4,c5⟩:=h
  rw[read0,LenM]
  simp only[QgS]
  exact ⟨h1,h2,QdN c1,QdN c2,QdN c3,QdN c4,QdN c5⟩
theorem QdN:∀{gs:List GM},LenL gs->LenL (Qdy gs)
 |[],_=>by rw[Qdy,LenL];trivial
 |g::gs,h=>by
  rw[LenL]at h
  rw[Qdy,LenL]
  exact ⟨read0_LenM h.1,QdN h.2⟩
end
mutual
def NormM:GM->Prop
 |.mk d pos empty tables enemy test uniq amb=>(d.pos=pos.head?/\d.empty=empty.head?)/\Qij tables/\Qij enemy/\Qij test/\Qij uniq/\Qij amb
def Qij:List GM->Prop
 |[]=>True
 |g::gs=>NormM g/\Qij gs
end
theorem head_toList {α:Type} {l:List α} (h:l.length<=1):l.head?.toList=l:=by
 match l,h with
 |[],_=>rfl
 |[a],_=>rfl
theorem rd1_le:∀{ms:List Mon},ms.length<=1->rd1 ms=rdMs ms
 |[],_=>by rw[rd1,rdMs]
 |[m],_=>by rw[rd1,rdMs,rdMs]
theorem QhQ (gs:List GM):(QbY gs).length=gs.length:=by rw[Qid,List.length_map]
theorem colR_clean {ty color:UInt8} (h:ty≠2->color=0):colR false ty color=color:=by
 unfold colR
 split
 ·rfl
 ·rename_i h'
  exact (h fun e=>h' ⟨rfl,e⟩).symm
theorem rdU_clean {amb:Bool} {ty:UInt8} {gs:List GM} (h:GUn amb ty gs.length):rdU amb ty gs=gs:=by
 unfold rdU
 split
 ·rename_i h'
  rcases h with ⟨_,h⟩|⟨h0,⟨_,_,h⟩|⟨h1,h⟩⟩
  ·exact (List.eq_nil_of_length_eq_zero h).symm
  ·exact (List.eq_nil_of_length_eq_zero h).symm
  ·exfalso
   rcases h' with h'|⟨h2,h3⟩
   ·exact h0 h'
   ·rcases h1 with h1|⟨h1,_⟩
    ·rw[h3]at h1;cases h1
    ·rw[h1]at h2;cases h2
 ·rfl
mutual
theorem rd_clean:∀{g:GM},QgF g->NormM g->rdM (toM g)=read0 g
 |.mk d pos empty tables enemy test uniq amb,h,hn=>by
  rw[QgF]at h
  obtain ⟨h1,⟨h2,h3⟩,⟨h4,h5,h6⟩,⟨k1,k2,k3⟩,c1,c2,c3,c4,c5⟩:=h
  rw[NormM]at hn
  obtain ⟨⟨n1,n2⟩,m1,m2,m3,m4,m5⟩:=hn
  rw[toM,rdM,read0,rd1_le (by rw[QhQ];exact h3),rd1_le (by rw[QhQ];exact h4.le),rd1_le (by rw[QhQ];exact h5.le),rd1_le (by rw[QhQ];exact h6.le),
   QeS c1 m1,QeS c2 m2,QeS c3 m3,QeS c4 m4,QeS c5 m5,rdU_clean (by rw[QgS];exact h4),rdU_clean (by rw[QgS];exact h5),rdU_clean (by rw[QgS];exact h6)]
  simp only[head_toList h1.npos,head_toList h1.nempty]
  congr 1
  unfold rdD
  simp only[flU_1,flU_2,flU_3,colR_clean k1,colR_clean k2,<-n1,<-n2]
  have:colR true d.ambTy d.ambColor=d.ambColor:=by
   unfold colR
   rw[if_neg (by simp),k3]
  rw[this]
theorem QeS:∀{gs:List GM},Zj gs->Qij gs->rdMs (QbY gs)=Qdy gs
 |[],_,_=>by rw[QbY,rdMs,Qdy]
 |g::gs,h,hn=>by
  rw[Zj]at h
  rw[Qij]at hn
  rw[QbY,rdMs,Qdy,rd_clean h.1 hn.1,QeS h.2 hn.2]
end
theorem sum_le {l:List (List UInt8)} (h:∀s∈l,s.length<=300):(l.map List.length).sum<=300*l.length:=by
 induction l with
 |nil=>simp
 |cons a l ih=>
  have:=ih (fun s hs=>h s (List.mem_cons_of_mem _ hs))
  have:=h a List.mem_cons_self
  simp only[List.map_cons,List.sum_cons,List.length_cons]
  omega
mutual
theorem cost_le:∀{g:GM},QcA g->Qa1 (toM g)<=90000*cntM g
 |.mk d pos empty tables enemy test uniq amb,h=>by
  rw[QcA]at h
  obtain ⟨h1,h2,h3,h4,h5,h6,c1,c2,c3,c4,c5⟩:=h
  obtain ⟨a1,a2,a3,a4,a5,a6,a7,a8,a9,a10,a11,a12,a13⟩:=h1.lists
  obtain ⟨b1,b2,b3,b4,b5⟩:=h1.texts
  have s1:=sum_le h1.strings
  have s2:=sum_le h1.strings2
  have s3:Qik empty.head?<=300:=by
   cases empty with
   |nil=>exact Nat.zero_le _
   |cons a l=>exact h1.stat a List.mem_cons_self
  have d1:QiL {d with pos:=pos.head?,empty:=empty.head?}<=80000:=by
   unfold QiL
   simp only
   omega
  have e1:=QgX c1
  have e2:=QgX c2
  have e3:=QgX c3
  have e4:=QgX c4
  have e5:=QgX c5
  rw[toM,Qa1,cntM,QhQ]
  clear s1 s2 s3 a1 a2 a3 a4 a5 a6 a7 a8 a9 a10 a11 a12 a13 b1 b2 b3 b4 b5
  omega
theorem QgX:∀{gs:List GM},Zp gs->Z6 (QbY gs)<=90000*cntL gs
 |[],_=>by rw[QbY,Z6,cntL];omega
 |g::gs,h=>by
  rw[Zp]at h
  have e1:=cost_le h.1
  have e2:=QgX h.2
  rw[QbY,Z6,cntL]
  omega
end
end Go.Proofs
namespace Go.Proofs
open Go Go.Vc
open Tryz (prog)
theorem In.keep {G:Cut} {H H':Qe} (h:G.In H) (k:Qay H H'):G.In H':=fun b o hb=>k b o (h b o hb)
theorem pack_facts {g:GM} (hs:QcA g) (hc:cntM g<=20):Qa1 (toM g)<=400000000/\RootRd (Z7 (toM g)) (toM g)/\(Z7 (toM g)).length<2147483648:=by
 have h1:=cost_le hs
 have h2:=packAll_len (toM g)
 exact ⟨by omega,packAll_rd (WfM_of hs) (by omega),by omega⟩
def orcD:QaM:={pos:=none,mana:=150,hp:=80,name:=[111,114,99],inventory:=[],color:=0,testTy:=0,testColor:=0,test4:=[],strings:=[],nested:=[],empty:=none,bool:=false,s32:=0,u32:=0,s64:=0,u64:=0,s32a:=0,u32a:=0,s64a:=0,u64a:=0,bools:=[],f:=0,f2:=0,f3:=0,strings2:=[],abilities:=[],flex:=[],test5:=[],longs:=[],doubles:=[],parent:=false,refs:=[],singleWeak:=0,weak:=[],strong:=[],coOwning:=0,coOwnings:=[],nonOwning:=0,nonOwnings:=[],uniqTy:=0,uniqColor:=0,ambTy:=0,ambColor:=0,enums:=[],signedEnum:=0}
def nilGV:GV:=⟨.slice none 0 0,.slice none 0 0,.slice none 0 0,.slice none 0 0,.slice none 0 0,.slice none 0 0,.slice none 0 0,.slice none 0 0,.slice none 0 0,.slice none 0 0,.slice none 0 0,.slice none 0 0,.slice none 0 0,.slice none 0 0,.slice none 0 0,.slice none 0 0,.slice none 0 0,.slice none 0 0,.slice none 0 0,.slice none 0 0⟩
def orc:GM:=.mk orcD [] [] [] [] [] [] []
theorem fill_orc:YN z52.toList [(3,1,(.string ⟨#[111,114,99]⟩)),(2,1,(.int .i16 80)),(1,1,(.int .i16 150))]=some (YK orcD nilGV):=by kernel_rfl
theorem orc_val (G:Cut):QcX G orc (YK orcD nilGV):=by
 have n:∀es,SlV G es (.slice none 0 0) []:=SlV.nil G
 unfold orc
 rw[QcX]
 exact ⟨nilGV,rfl,⟨n _,n _,n _,n _,n _,n _,n _,n _,n _,n _,n _,n _,n _,n _,n _⟩,⟨[],n _,by rw[Zz];trivial⟩,⟨[],n _,by rw[Zz];trivial⟩,⟨[],n _,by rw[Zz];trivial⟩,⟨[],n _,by rw[Zz];trivial⟩,⟨[],n _,by rw[Zz];trivial⟩⟩
theorem orc_small:QcA orc:=by
 unfold orc
 rw[QcA]
 refine ⟨⟨by decide,by decide,by decide,by decide,by decide,by decide,by simp⟩,by decide,by decide,Or.inl ⟨rfl,rfl⟩,Or.inl ⟨rfl,rfl⟩,Or.inl ⟨rfl,rfl⟩,?_⟩
 simp only[Zp,and_self]
theorem orc_cnt:cntM orc<=20:=by
 unfold orc
 simp[cntM,cntL]
theorem awake_ok {G:Cut} {H:Qe} (hG:G.In H) {R:Kn} (hR:∀H',Qay H H'->R (.bool true) H'):FnS prog 7 #[] H R:=by
 apply w7
 unfold s7
 have hf:=fill_orc
 unfold Qu
 simp only[hf]
 obtain ⟨h1,h2,h3⟩:=pack_facts orc_small orc_cnt
 refine Qhc (n:=0) hG (orc_val G) orc_small h1 (by decide) ?_
 intro H1 k1
 rw[ExtrK_0,ExtrK_1]
 refine MonsterRead_ok h2 h3 (In.keep hG k1) ?_
 intro G2 H2 cells e2 hv2
 have k2:=k1.trans e2.keep
 have hl:=hv2.len
 have hone:=QcX.one hv2
 obtain ⟨d,c,rfl,hd⟩:∃d c,cells=YK d c/\d.name=[111,114,99]/\d.hp=80/\d.mana=150:=by
  unfold orc at hv2
  rw[toM,rdM,QcX]at hv2
  obtain ⟨c,h,_⟩:=hv2
  exact ⟨_,c,h,rfl,rfl,rfl⟩
 obtain ⟨hd1,hd2,hd3⟩:=hd
 rw[ExtrK_0,ExtrK_1,Qx]
 have e3:=(Ext.refl e2.inn).push (.cells z52 52)
 have o3:=Yo.fresh (Ext.refl e2.inn) (.cells z52 52)
 have k3:=k2.trans e3.keep
 generalize H2.push (.cells z52 52)=H3 at *
 rw[QZ (n:=51) (c':=(YK d c).toArray) o3.get rfl (by simpa using hl) (by decide) (by simpa using hone)]
 have k4:=(k2.trans ((e3.set o3.out o3.new (.cells (YK d c).toArray 52)).keep))
 have o4:=o3.set (.cells (YK d c).toArray 52)
 generalize setB H3 H2.size (.cells (YK d c).toArray 52)=H4 at *
 have l1:∀k:Value->Prop,LdK H4 (.pointer (some ⟨H2.size,1,none⟩)) k=k (Qdn d.mana):=fun k=>Ql ((Qk o4.get).trans rfl)
 have l2:∀k:Value->Prop,LdK H4 (.pointer (some ⟨H2.size,2,none⟩)) k=k (Qdn d.hp):=fun k=>Ql ((Qk o4.get).trans rfl)
 have l3:∀k:Value->Prop,LdK H4 (.pointer (some ⟨H2.size,3,none⟩)) k=k (QW d.name):=fun k=>Ql ((Qk o4.get).trans rfl)
 rw[hd3]at l1
 rw[hd2]at l2
 rw[hd1]at l3
 have bs:∀k:Value->Prop,Qj prog .eql 9 (QW [111,114,99]) (.string ⟨#[111,114,99]⟩) k=k (.bool true):=fun k=>eq_str k
 have b80:∀k:Value->Prop,Qj prog .eql 23 (Qdn 80) (.int .i16 80) k=k (.bool true):=fun k=>eq_int k
 have b150:∀k:Value->Prop,Qj prog .eql 23 (Qdn 150) (.int .i16 150) k=k (.bool true):=fun k=>eq_int k
 simp only[Ye,Y4,Qm,l1,l2,l3,bs,b80,b150]
 exact hR _ k4
end Go.Proofs
namespace Go.Proofs
open Go Go.Vc
open Tryz (prog)
theorem wf_u8 {n:Int} (h:(Lit.int .u8 n).wf=true):∃x:UInt8,Value.int .u8 n=u8n x:=by
 simp[Lit.wf,IntKind.min,IntKind.max,IntKind.bits,IntKind.signed]at h
 refine ⟨UInt8.ofNat n.toNat,?_⟩
 simp only[u8n,UInt8.toNat_ofNat']
 congr 1;omega
theorem wf_u16 {n:Int} (h:(Lit.int .u16 n).wf=true):∃x:UInt16,Value.int .u16 n=u16V x:=by
 simp[Lit.wf,IntKind.min,IntKind.max,IntKind.bits,IntKind.signed]at h
 refine ⟨UInt16.ofNat n.toNat,?_⟩
 simp only[u16V,UInt16.toNat_ofNat']
 congr 1;omega
theorem wf_u32 {n:Int} (h:(Lit.int .u32 n).wf=true):∃x:UInt32,Value.int .u32 n=Qaw x:=by
 simp[Lit.wf,IntKind.min,IntKind.max,IntKind.bits,IntKind.signed]at h
 refine ⟨UInt32.ofNat n.toNat,?_⟩
 simp only[Qaw,UInt32.toNat_ofNat']
 congr 1;omega
theorem wf_u64 {n:Int} (h:(Lit.int .u64 n).wf=true):∃x:UInt64,Value.int .u64 n=QO x:=by
 simp[Lit.wf,IntKind.min,IntKind.max,IntKind.bits,IntKind.signed]at h
 refine ⟨UInt64.ofNat n.toNat,?_⟩
 simp only[QO,UInt64.toNat_ofNat']
 congr 1;omega
theorem wf_i8 {n:Int} (h:(Lit.int .i8 n).wf=true):∃x:UInt8,Value.int .i8 n=i8V x:=by
 simp[Lit.wf,IntKind.min,IntKind.max,IntKind.bits,IntKind.signed]at h
 refine ⟨UInt8.ofNat (n%256).toNat,?_⟩
 simp only[i8V,UInt8.toNat_ofNat',IntKind.wrap,IntKind.bits,IntKind.signed]
 congr 1;simp;omega
theorem wf_i16 {n:Int} (h:(Lit.int .i16 n).wf=true):∃x:UInt16,Value.int .i16 n=Qdn x:=by
 simp[Lit.wf,IntKind.min,IntKind.max,IntKind.bits,IntKind.signed]at h
 refine ⟨UInt16.ofNat (n%65536).toNat,?_⟩
 simp only[Qdn,UInt16.toNat_ofNat',IntKind.wrap,IntKind.bits,IntKind.signed]
 congr 1;simp;omega
theorem wf_i32 {n:Int} (h:(Lit.int .i32 n).wf=true):∃x:UInt32,Value.int .i32 n=Qji x:=by
 simp[Lit.wf,IntKind.min,IntKind.max,IntKind.bits,IntKind.signed]at h
 refine ⟨UInt32.ofNat (n%4294967296).toNat,?_⟩
 simp only[Qji,UInt32.toNat_ofNat',IntKind.wrap,IntKind.bits,IntKind.signed]
 congr 1;simp;omega
theorem wf_i64 {n:Int} (h:(Lit.int .i64 n).wf=true):∃x:UInt64,Value.int .i64 n=QfW x:=by
 simp[Lit.wf,IntKind.min,IntKind.max,IntKind.bits,IntKind.signed]at h
 refine ⟨UInt64.ofNat (n%18446744073709551616).toNat,?_⟩
 simp only[QfW,UInt64.toNat_ofNat',IntKind.wrap,IntKind.bits,IntKind.signed]
 congr 1;simp;omega
theorem Qi4 {α β:Type} {f:α->β}:∀{items:List β},(∀it∈items,∃a,it=f a)->∃l:List α,items=l.map f
 |[],_=>⟨[],rfl⟩
 |x::xs,h=>by
  obtain ⟨a,ha⟩:=h x List.mem_cons_self
  obtain ⟨l,hl⟩:=Qi4 (items:=xs) (fun it hi=>h it (List.mem_cons_of_mem _ hi))
  exact ⟨a::l,by rw[ha,hl];rfl⟩
theorem QN {cs:List Value} {i:Nat} {v:Value} (h:(cs.drop i).take 1=[v]):cs[i]?=some v:=by
 have:((cs.drop i).take 1)[0]?=some v:=by rw[h];rfl
 rw[List.getElem?_take_of_lt (by decide),List.getElem?_drop]at this
 simpa using this
theorem Qfw {cs ds:List Value} {i n j:Nat} (h:(cs.drop i).take n=ds) (hj:j<n):cs[i+j]?=ds[j]?:=by
 rw[<-h,List.getElem?_take_of_lt hj,List.getElem?_drop]
def Cut.of (H:Qe):Cut:=fun b=>H[b]?
theorem Cut.of_in (H:Qe):(Cut.of H).In H:=fun _ _ h=>h
section
variable {E:Type} {enc:TypeId×Value->E} {P:Program} {w:World} {base:Nat} {spare:Nat->Bool} {held:Bool}
theorem Yy {fuel:Nat} {t:TypeId} {fs:Array Field} {cs:List Value} {x:DataW E×List MemPlace} (ht:P.underlying t=some (.struct fs)) (h:DataW.trod enc P w base spare held fuel t cs=some x) {i ty off n:Nat} (hi:(fs[i]?).map (fun f=>(f.type,f.offset,P.cellsOf f.type))=some (ty,off,n)):
  ∃m y,m<fuel/\DataW.trod enc P w base spare held m ty ((cs.drop off).take n)=some y:=by
 obtain ⟨xs,m,rfl,_,_,hx,hf⟩:=DataW.trod_struct ht h
 cases hfi:fs[i]? with
 |none=>rw[hfi]at hi;cases hi
 |some f=>
  rw[hfi]at hi
  simp only[Option.map_some,Option.some.injEq,Prod.mk.injEq]at hi
  obtain ⟨rfl,rfl,rfl⟩:=hi
  have h1:=hf i f hfi
  have hl:i<xs.length:=by
   rw[hx]
   rcases Nat.lt_or_ge i fs.size with hh|hh
   ·exact hh
   ·rw[Array.getElem?_eq_none hh]at hfi;cases hfi
  rw[List.getElem?_eq_getElem hl]at h1
  exact ⟨m,_,Nat.lt_succ_self m,h1⟩
theorem QiA {fuel:Nat} {t:TypeId} {fs:Array Field} {cs:List Value} {x:DataW E×List MemPlace} (ht:P.underlying t=some (.struct fs)) (h:DataW.trod enc P w base spare held fuel t cs=some x) {n:Nat} (hn:P.cellsOf t=n):cs.length=n:=by
 obtain ⟨xs,m,rfl,_,hl,_⟩:=DataW.trod_struct ht h
 rw[hl,hn]
theorem flat_range {f:Nat->List Value} {L:List Value} {es o:Nat}:∀{n:Nat},o+n*es<=L.length->(∀i,i<n->f i=(L.drop (o+i*es)).take es)->((List.range n).map f).flatten=(L.drop o).take (n*es)
 |0,_,_=>by simp
 |n+1,hl,h=>by
  have hm:(n+1)*es=n*es+es:=by rw[Nat.add_mul,Nat.one_mul]
  rw[List.range_succ,List.map_append,List.flatten_append,flat_range (n:=n) (by omega) (fun i hi=>h i (by omega)),List.map_cons,List.map_nil,List.flatten_cons,List.flatten_nil,List.append_nil,h n (by omega),hm,List.take_add,List.drop_drop]
theorem sl_rd {fuel:Nat} {t e:TypeId} {es:Nat} {cs:List Value} {x:DataW E×List MemPlace} (ht:P.underlying t=some (.slice e)) (hes:P.cellsOf e=es) (h0:0<es) (h:DataW.trod enc P w base spare held fuel t cs=some x):
  ∃v items,cs=[v]/\SlV (Cut.of w.heap) es v items/\∀it∈items,∃m y,m<fuel/\DataW.trod enc P w base spare held m e it=some y:=by
 rcases DataW.trod_slice ht h with ⟨rfl,_⟩|⟨a,len,cap,elems,rest,n,rfl,rfl,_,_,hlc,_,hel,hx,_⟩
 ·exact ⟨_,[],rfl,SlV.nil _ _,by simp⟩
 ·subst hes
  generalize hes:P.cellsOf e=es at *
  by_cases hz:len=0
  ·subst hz
   exact ⟨_,[],rfl,⟨by simp,Or.inl ⟨some a,cap,rfl,rfl⟩⟩,by simp⟩
  have each:∀i,i<len->∃ci y,w.cells? base (a.add (i*es)) es=some ci/\DataW.trod enc P w base spare held n e ci=some y:=fun i hi=>by
   have h1:=hx i hi
   rw[List.getElem?_eq_getElem (by omega)]at h1
   obtain ⟨ci,h2,h3⟩:=Option.bind_eq_some_iff.1 h1
   exact ⟨ci,_,h2,h3⟩
  obtain ⟨c0,_,hc0,_⟩:=each 0 (by omega)
  obtain ⟨_,hl0,hg0⟩:=World.cells?_some hc0
  have hc00:=hg0 0 h0
  rw[List.getElem?_eq_getElem (by omega)]at hc00
  obtain ⟨b,o,spot⟩:=a
  have hs:spot=none:=by simpa [Addr.add]using World.cell?_spot hc00
  subst hs
  rw[QfP,QfP]at hc00
  have hblk:∃c ty fr,w.heap[b]?=some (.cells c ty fr):=by
   rw[cell?_eq]at hc00
   unfold QaU at hc00
   split at hc00
   ·rename_i c ty fr hb
    exact ⟨c,ty,fr,hb⟩
   ·cases hc00
  obtain ⟨c,ty,fr,hb⟩:=hblk
  have item:∀i,i<len->o+i*es+es<=c.size/\w.cells? base ⟨b,o+i*es,none⟩ es=some ((c.toList.drop (o+i*es)).take es):=fun i hi=>by
   obtain ⟨ci,_,h1,_⟩:=each i hi
   rw[QfP]at h1
   obtain ⟨_,hl,hg⟩:=World.cells?_some h1
   have hcell:∀j,j<es->c[o+i*es+j]?=ci[j]?:=fun j hj=>by
    have:=hg j hj
    rw[QfP,cell?_eq,Qk hb]at this
    exact this
   have hsz:o+i*es+es<=c.size:=by
    have:=hcell (es-1) (by omega)
    rw[List.getElem?_eq_getElem (by omega)]at this
    have hlt:o+i*es+(es-1)<c.size:=by
     rcases Nat.lt_or_ge (o+i*es+(es-1)) c.size with hh|hh
     ·exact hh
     ·rw[Array.getElem?_eq_none hh]at this;cases this
    omega
   refine ⟨hsz,?_⟩
   rw[h1]
   congr 1
   refine List.ext_getElem? fun j=>?_
   by_cases hj:j<es
   ·rw[List.getElem?_take_of_lt hj,List.getElem?_drop,<-hcell j hj]
    simp
   ·rw[List.getElem?_eq_none (by omega),List.getElem?_eq_none (by simp;omega)]
  have hend:=(item (len-1) (by omega)).1
  have hmul:len*es=(len-1)*es+es:=by
   obtain ⟨k,rfl⟩:∃k,len=k+1:=⟨len-1,by omega⟩
   rw[show k+1-1=k by omega,Nat.add_mul,Nat.one_mul]
  refine ⟨_,(List.range len).map (fun i=>(c.toList.drop (o+i*es)).take es),rfl,⟨fun it hi=>?_,Or.inr ⟨b,o,cap,c,ty,fr,by rw[List.length_map,List.length_range],hb,by rw[List.length_map,List.length_range];omega,?_,by rw[List.length_map,List.length_range];exact hlc⟩⟩,fun it hi=>?_⟩
  ·obtain ⟨i,hr,rfl⟩:=List.mem_map.1 hi
   have:=(item i (List.mem_range.1 hr)).1
   simp;omega
  ·rw[List.length_map,List.length_range]
   exact (flat_range (by rw[Array.length_toList];omega) (fun i _=>rfl)).symm
  ·obtain ⟨i,hr,rfl⟩:=List.mem_map.1 hi
   have hr:=List.mem_range.1 hr
   obtain ⟨ci,y,h1,h2⟩:=each i hr
   rw[QfP,(item i hr).2]at h1
   cases h1
   exact ⟨n,y,Nat.lt_succ_self n,h2⟩
end
section
variable {E:Type} {enc:TypeId×Value->E} {w:World} {base:Nat} {spare:Nat->Bool} {held:Bool} {fuel:Nat} {cs:List Value} {x:DataW E×List MemPlace}
theorem rd_int8 (h:DataW.trod enc prog w base spare held fuel 36 cs=some x):∃x:UInt8,cs=[i8V x]:=by
 obtain ⟨n,rfl,_,hw⟩:=DataW.trod_int (P:=prog) (t:=36) (k:=.i8) (by kernel_rfl) h
 obtain ⟨x,hx⟩:=wf_i8 hw
 exact ⟨x,by rw[hx]⟩
theorem rd_int16 (h:DataW.trod enc prog w base spare held fuel 23 cs=some x):∃x:UInt16,cs=[Qdn x]:=by
 obtain ⟨n,rfl,_,hw⟩:=DataW.trod_int (P:=prog) (t:=23) (k:=.i16) (by kernel_rfl) h
 obtain ⟨x,hx⟩:=wf_i16 hw
 exact ⟨x,by rw[hx]⟩
theorem rd_int32 (h:DataW.trod enc prog w base spare held fuel 21 cs=some x):∃x:UInt32,cs=[Qji x]:=by
 obtain ⟨n,rfl,_,hw⟩:=DataW.trod_int (P:=prog) (t:=21) (k:=.i32) (by kernel_rfl) h
 obtain ⟨x,hx⟩:=wf_i32 hw
 exact ⟨x,by rw[hx]⟩
theorem rd_int64 (h:DataW.trod enc prog w base spare held fuel 2 cs=some x):∃x:UInt64,cs=[QfW x]:=by
 obtain ⟨n,rfl,_,hw⟩:=DataW.trod_int (P:=prog) (t:=2) (k:=.i64) (by kernel_rfl) h
 obtain ⟨x,hx⟩:=wf_i64 hw
 exact ⟨x,by rw[hx]⟩
theorem rd_uint8 (h:DataW.trod enc prog w base spare held fuel 5 cs=some x):∃x:UInt8,cs=[u8n x]:=by
 obtain ⟨n,rfl,_,hw⟩:=DataW.trod_int (P:=prog) (t:=5) (k:=.u8) (by kernel_rfl) h
 obtain ⟨x,hx⟩:=wf_u8 hw
 exact ⟨x,by rw[hx]⟩
theorem rd_uint16 (h:DataW.trod enc prog w base spare held fuel 39 cs=some x):∃x:UInt16,cs=[u16V x]:=by
 obtain ⟨n,rfl,_,hw⟩:=DataW.trod_int (P:=prog) (t:=39) (k:=.u16) (by kernel_rfl) h
 obtain ⟨x,hx⟩:=wf_u16 hw
 exact ⟨x,by rw[hx]⟩
theorem QbE (h:DataW.trod enc prog w base spare held fuel 30 cs=some x):∃x:UInt32,cs=[Qaw x]:=by
 obtain ⟨n,rfl,_,hw⟩:=DataW.trod_int (P:=prog) (t:=30) (k:=.u32) (by kernel_rfl) h
 obtain ⟨x,hx⟩:=wf_u32 hw
 exact ⟨x,by rw[hx]⟩
theorem Qee (h:DataW.trod enc prog w base spare held fuel 31 cs=some x):∃x:UInt64,cs=[QO x]:=by
 obtain ⟨n,rfl,_,hw⟩:=DataW.trod_int (P:=prog) (t:=31) (k:=.u64) (by kernel_rfl) h
 obtain ⟨x,hx⟩:=wf_u64 hw
 exact ⟨x,by rw[hx]⟩
theorem rd_bool (h:DataW.trod enc prog w base spare held fuel 4 cs=some x):∃b,cs=[.bool b]:=by
 obtain ⟨b,h,_⟩:=DataW.trod_bool (P:=prog) (t:=4) (by kernel_rfl) h
 exact ⟨b,h⟩
theorem QdT (h:DataW.trod enc prog w base spare held fuel 9 cs=some x):∃s,cs=[QW s]:=by
 obtain ⟨s,h,_⟩:=DataW.trod_string (P:=prog) (t:=9) (by kernel_rfl) h
 exact ⟨s.data.toList,h⟩
theorem rd_Vec3 (h:DataW.trod enc prog w base spare held fuel 84 cs=some x):∃v:Qa9,cs=ZP v:=by
 have ht:(prog).underlying 84=some (.struct ((prog).fieldsOf 84)):=by kernel_rfl
 have hl:=QiA ht h (n:=7) (by kernel_rfl)
 obtain ⟨_,_,_,h0⟩:=Yy ht h (i:=0) (ty:=30) (off:=0) (n:=1) (by kernel_rfl)
 obtain ⟨x0,h0⟩:=QbE h0
 have h0:=QN h0
 obtain ⟨_,_,_,h1⟩:=Yy ht h (i:=1) (ty:=30) (off:=1) (n:=1) (by kernel_rfl)
 obtain ⟨x1,h1⟩:=QbE h1
 have h1:=QN h1
 obtain ⟨_,_,_,h2⟩:=Yy ht h (i:=2) (ty:=30) (off:=2) (n:=1) (by kernel_rfl)
 obtain ⟨x2,h2⟩:=QbE h2
 have h2:=QN h2
 obtain ⟨_,_,_,h3⟩:=Yy ht h (i:=3) (ty:=31) (off:=3) (n:=1) (by kernel_rfl)
 obtain ⟨x3,h3⟩:=Qee h3
 have h3:=QN h3
 obtain ⟨_,_,_,h4⟩:=Yy ht h (i:=4) (ty:=5) (off:=4) (n:=1) (by kernel_rfl)
 obtain ⟨x4,h4⟩:=rd_uint8 h4
 have h4:=QN h4
 obtain ⟨_,_,_,h5⟩:=Yy ht h (i:=5) (ty:=23) (off:=5) (n:=1) (by kernel_rfl)
 obtain ⟨x5,h5⟩:=rd_int16 h5
 have h5:=QN h5
 obtain ⟨_,_,_,h6⟩:=Yy ht h (i:=6) (ty:=36) (off:=6) (n:=1) (by kernel_rfl)
 obtain ⟨x6,h6⟩:=rd_int8 h6
 have h6:=QN h6
 refine ⟨⟨x0,x1,x2,x3,x4,x5,x6⟩,List.ext_getElem? fun i=>?_⟩
 match i with
 |0=>exact h0
 |1=>exact h1
 |2=>exact h2
 |3=>exact h3
 |4=>exact h4
 |5=>exact h5
 |6=>exact h6
 |i+7=>rw[List.getElem?_eq_none (by omega)];rfl
theorem rd_Test (h:DataW.trod enc prog w base spare held fuel 89 cs=some x):∃v:QbB,cs=Zb v:=by
 have ht:(prog).underlying 89=some (.struct ((prog).fieldsOf 89)):=by kernel_rfl
 have hl:=QiA ht h (n:=2) (by kernel_rfl)
 obtain ⟨_,_,_,h0⟩:=Yy ht h (i:=0) (ty:=23) (off:=0) (n:=1) (by kernel_rfl)
 obtain ⟨x0,h0⟩:=rd_int16 h0
 have h0:=QN h0
 obtain ⟨_,_,_,h1⟩:=Yy ht h (i:=1) (ty:=36) (off:=1) (n:=1) (by kernel_rfl)
 obtain ⟨x1,h1⟩:=rd_int8 h1
 have h1:=QN h1
 refine ⟨⟨x0,x1⟩,List.ext_getElem? fun i=>?_⟩
 match i with
 |0=>exact h0
 |1=>exact h1
 |i+2=>rw[List.getElem?_eq_none (by omega)];rfl
theorem rd_Stat (h:DataW.trod enc prog w base spare held fuel 95 cs=some x):∃v:ZU,cs=Zn v:=by
 have ht:(prog).underlying 95=some (.struct ((prog).fieldsOf 95)):=by kernel_rfl
 have hl:=QiA ht h (n:=3) (by kernel_rfl)
 obtain ⟨_,_,_,h0⟩:=Yy ht h (i:=0) (ty:=9) (off:=0) (n:=1) (by kernel_rfl)
 obtain ⟨x0,h0⟩:=QdT h0
 have h0:=QN h0
 obtain ⟨_,_,_,h1⟩:=Yy ht h (i:=1) (ty:=2) (off:=1) (n:=1) (by kernel_rfl)
 obtain ⟨x1,h1⟩:=rd_int64 h1
 have h1:=QN h1
 obtain ⟨_,_,_,h2⟩:=Yy ht h (i:=2) (ty:=39) (off:=2) (n:=1) (by kernel_rfl)
 obtain ⟨x2,h2⟩:=rd_uint16 h2
 have h2:=QN h2
 refine ⟨⟨x0,x1,x2⟩,List.ext_getElem? fun i=>?_⟩
 match i with
 |0=>exact h0
 |1=>exact h1
 |2=>exact h2
 |i+3=>rw[List.getElem?_eq_none (by omega)];rfl
theorem rd_Ability (h:DataW.trod enc prog w base spare held fuel 101 cs=some x):∃v:QgK,cs=QcG v:=by
 have ht:(prog).underlying 101=some (.struct ((prog).fieldsOf 101)):=by kernel_rfl
 have hl:=QiA ht h (n:=2) (by kernel_rfl)
 obtain ⟨_,_,_,h0⟩:=Yy ht h (i:=0) (ty:=30) (off:=0) (n:=1) (by kernel_rfl)
 obtain ⟨x0,h0⟩:=QbE h0
 have h0:=QN h0
 obtain ⟨_,_,_,h1⟩:=Yy ht h (i:=1) (ty:=30) (off:=1) (n:=1) (by kernel_rfl)
 obtain ⟨x1,h1⟩:=QbE h1
 have h1:=QN h1
 refine ⟨⟨x0,x1⟩,List.ext_getElem? fun i=>?_⟩
 match i with
 |0=>exact h0
 |1=>exact h1
 |i+2=>rw[List.getElem?_eq_none (by omega)];rfl
theorem rd_pos (h:DataW.trod enc prog w base spare held fuel 22 cs=some x):∃v,∃l:List Qa9,cs=[v]/\SlV (Cut.of w.heap) 7 v (l.map ZP):=by
 obtain ⟨v,items,rfl,hs,hi⟩:=sl_rd (P:=prog) (t:=22) (e:=84) (es:=7) (by kernel_rfl) (by kernel_rfl) (by decide) h
 obtain ⟨l,rfl⟩:=Qi4 (f:=ZP) (fun it hit=>by
  obtain ⟨_,_,_,h⟩:=hi it hit
  obtain ⟨a,ha⟩:=rd_Vec3 h
  exact ⟨a,ha⟩)
 exact ⟨v,l,rfl,hs⟩
theorem rd_tests (h:DataW.trod enc prog w base spare held fuel 27 cs=some x):∃v,∃l:List QbB,cs=[v]/\SlV (Cut.of w.heap) 2 v (l.map Zb):=by
 obtain ⟨v,items,rfl,hs,hi⟩:=sl_rd (P:=prog) (t:=27) (e:=89) (es:=2) (by kernel_rfl) (by kernel_rfl) (by decide) h
 obtain ⟨l,rfl⟩:=Qi4 (f:=Zb) (fun it hit=>by
  obtain ⟨_,_,_,h⟩:=hi it hit
  obtain ⟨a,ha⟩:=rd_Test h
  exact ⟨a,ha⟩)
 exact ⟨v,l,rfl,hs⟩
theorem rd_stats (h:DataW.trod enc prog w base spare held fuel 29 cs=some x):∃v,∃l:List ZU,cs=[v]/\SlV (Cut.of w.heap) 3 v (l.map Zn):=by
 obtain ⟨v,items,rfl,hs,hi⟩:=sl_rd (P:=prog) (t:=29) (e:=95) (es:=3) (by kernel_rfl) (by kernel_rfl) (by decide) h
 obtain ⟨l,rfl⟩:=Qi4 (f:=Zn) (fun it hit=>by
  obtain ⟨_,_,_,h⟩:=hi it hit
  obtain ⟨a,ha⟩:=rd_Stat h
  exact ⟨a,ha⟩)
 exact ⟨v,l,rfl,hs⟩
theorem rd_abils (h:DataW.trod enc prog w base spare held fuel 33 cs=some x):∃v,∃l:List QgK,cs=[v]/\SlV (Cut.of w.heap) 2 v (l.map QcG):=by
 obtain ⟨v,items,rfl,hs,hi⟩:=sl_rd (P:=prog) (t:=33) (e:=101) (es:=2) (by kernel_rfl) (by kernel_rfl) (by decide) h
 obtain ⟨l,rfl⟩:=Qi4 (f:=QcG) (fun it hit=>by
  obtain ⟨_,_,_,h⟩:=hi it hit
  obtain ⟨a,ha⟩:=rd_Ability h
  exact ⟨a,ha⟩)
 exact ⟨v,l,rfl,hs⟩
theorem rd_strings (h:DataW.trod enc prog w base spare held fuel 28 cs=some x):∃v,∃l:List (List UInt8),cs=[v]/\SlV (Cut.of w.heap) 1 v (l.map Qhd):=by
 obtain ⟨v,items,rfl,hs,hi⟩:=sl_rd (P:=prog) (t:=28) (e:=9) (es:=1) (by kernel_rfl) (by kernel_rfl) (by decide) h
 obtain ⟨l,rfl⟩:=Qi4 (f:=Qhd) (fun it hit=>by
  obtain ⟨_,_,_,h⟩:=hi it hit
  obtain ⟨a,ha⟩:=QdT h
  exact ⟨a,ha⟩)
 exact ⟨v,l,rfl,hs⟩
theorem rd_bools (h:DataW.trod enc prog w base spare held fuel 32 cs=some x):∃v,∃l:List Bool,cs=[v]/\SlV (Cut.of w.heap) 1 v (l.map boolI):=by
 obtain ⟨v,items,rfl,hs,hi⟩:=sl_rd (P:=prog) (t:=32) (e:=4) (es:=1) (by kernel_rfl) (by kernel_rfl) (by decide) h
 obtain ⟨l,rfl⟩:=Qi4 (f:=boolI) (fun it hit=>by
  obtain ⟨_,_,_,h⟩:=hi it hit
  obtain ⟨a,ha⟩:=rd_bool h
  exact ⟨a,ha⟩)
 exact ⟨v,l,rfl,hs⟩
theorem rd_i64s (h:DataW.trod enc prog w base spare held fuel 34 cs=some x):∃v,∃l:List UInt64,cs=[v]/\SlV (Cut.of w.heap) 1 v (l.map i64I):=by
 obtain ⟨v,items,rfl,hs,hi⟩:=sl_rd (P:=prog) (t:=34) (e:=2) (es:=1) (by kernel_rfl) (by kernel_rfl) (by decide) h
 obtain ⟨l,rfl⟩:=Qi4 (f:=i64I) (fun it hit=>by
  obtain ⟨_,_,_,h⟩:=hi it hit
  obtain ⟨a,ha⟩:=rd_int64 h
  exact ⟨a,ha⟩)
 exact ⟨v,l,rfl,hs⟩
theorem Qiy (h:DataW.trod enc prog w base spare held fuel 35 cs=some x):∃v,∃l:List UInt64,cs=[v]/\SlV (Cut.of w.heap) 1 v (l.map Qce):=by
 obtain ⟨v,items,rfl,hs,hi⟩:=sl_rd (P:=prog) (t:=35) (e:=31) (es:=1) (by kernel_rfl) (by kernel_rfl) (by decide) h
 obtain ⟨l,rfl⟩:=Qi4 (f:=Qce) (fun it hit=>by
  obtain ⟨_,_,_,h⟩:=hi it hit
  obtain ⟨a,ha⟩:=Qee h
  exact ⟨a,ha⟩)
 exact ⟨v,l,rfl,hs⟩
def MonRd (E:Type) (enc:TypeId×Value->E) (w:World) (base:Nat) (spare:Nat->Bool) (held:Bool) (fuel:Nat):Prop:=∀(cs:List Value) (x:DataW E×List MemPlace),DataW.trod enc prog w base spare held fuel 38 cs=some x->∃g:GM,NormM g/\QcX (Cut.of w.heap) g cs
theorem mons_of {F:Cut}:∀{items:List (List Value)},(∀it∈items,∃g:GM,NormM g/\QcX F g it)->∃gs,Qij gs/\Zz F gs items
 |[],_=>⟨[],by rw[Qij];trivial,by rw[Zz];trivial⟩
 |x::xs,h=>by
  obtain ⟨g,h1,h2⟩:=h x List.mem_cons_self
  obtain ⟨gs,h3,h4⟩:=mons_of (items:=xs) (fun it hi=>h it (List.mem_cons_of_mem _ hi))
  exact ⟨g::gs,by rw[Qij];exact ⟨h1,h3⟩,by rw[Zz];exact ⟨h2,h4⟩⟩
theorem rd_mons (hK:∀m,m<fuel->MonRd E enc w base spare held m) (h:DataW.trod enc prog w base spare held fuel 24 cs=some x):∃v gs,cs=[v]/\Qij gs/\QfQ (Cut.of w.heap) gs v:=by
 obtain ⟨v,items,rfl,hs,hi⟩:=sl_rd (P:=prog) (t:=24) (e:=38) (es:=51) (by kernel_rfl) (by kernel_rfl) (by decide) h
 obtain ⟨gs,h1,h2⟩:=mons_of (F:=Cut.of w.heap) (items:=items) (fun it hit=>by
  obtain ⟨m,y,hm,h⟩:=hi it hit
  exact hK m hm it y h)
 exact ⟨v,gs,rfl,h1,items,hs,h2⟩
theorem rd_choice (hK:∀m,m<fuel->MonRd E enc w base spare held m) (h:DataW.trod enc prog w base spare held fuel 26 cs=some x):∃(ty color:UInt8) (v:Value) (gs:List GM),cs=[u8n ty,v,u8n color]/\Qij gs/\QfQ (Cut.of w.heap) gs v:=by
 have ht:(prog).underlying 26=some (.struct ((prog).fieldsOf 26)):=by kernel_rfl
 have hl:=QiA ht h (n:=3) (by kernel_rfl)
 obtain ⟨_,_,_,h0⟩:=Yy ht h (i:=0) (ty:=5) (off:=0) (n:=1) (by kernel_rfl)
 obtain ⟨x0,h0⟩:=rd_uint8 h0
 obtain ⟨m1,_,hm1,h1⟩:=Yy ht h (i:=1) (ty:=24) (off:=1) (n:=1) (by kernel_rfl)
 obtain ⟨v,gs,h1,hn,hv⟩:=rd_mons (fun m hm=>hK m (by omega)) h1
 obtain ⟨_,_,_,h2⟩:=Yy ht h (i:=2) (ty:=5) (off:=2) (n:=1) (by kernel_rfl)
 obtain ⟨x2,h2⟩:=rd_uint8 h2
 refine ⟨x0,x2,v,gs,List.ext_getElem? fun i=>?_,hn,hv⟩
 match i with
 |0=>exact QN h0
 |1=>exact QN h1
 |2=>exact QN h2
 |i+3=>rw[List.getElem?_eq_none (by omega)];rfl
set_option maxHeartbeats 1000000 in
set_option maxRecDepth 8000 in
theorem rd_step (hK:∀m,m<fuel->MonRd E enc w base spare held m):MonRd E enc w base spare held fuel:=by
 intro cs x h
 have ht:(prog).underlying 38=some (.struct ((prog).fieldsOf 38)):=by kernel_rfl
 have hl:=QiA ht h (n:=51) (by kernel_rfl)
 obtain ⟨m0,_,hm0,h0⟩:=Yy ht h (i:=0) (ty:=22) (off:=0) (n:=1) (by kernel_rfl)
 obtain ⟨v0,l0,h0,s0⟩:=rd_pos h0
 have h0:=QN h0
 clear hm0
 obtain ⟨m1,_,hm1,h1⟩:=Yy ht h (i:=1) (ty:=23) (off:=1) (n:=1) (by kernel_rfl)
 obtain ⟨a1,h1⟩:=rd_int16 h1
 have h1:=QN h1
 clear hm1
 obtain ⟨m2,_,hm2,h2⟩:=Yy ht h (i:=2) (ty:=23) (off:=2) (n:=1) (by kernel_rfl)
 obtain ⟨a2,h2⟩:=rd_int16 h2
 have h2:=QN h2
 clear hm2
 obtain ⟨m3,_,hm3,h3⟩:=Yy ht h (i:=3) (ty:=9) (off:=3) (n:=1) (by kernel_rfl)
 obtain ⟨a3,h3⟩:=QdT h3
 have h3:=QN h3
 clear hm3
 obtain ⟨m4,_,hm4,h4⟩:=Yy ht h (i:=4) (ty:=9) (off:=4) (n:=1) (by kernel_rfl)
 obtain ⟨a4,h4⟩:=QdT h4
 have h4:=QN h4
 clear hm4
 obtain ⟨m5,_,hm5,h5⟩:=Yy ht h (i:=5) (ty:=5) (off:=5) (n:=1) (by kernel_rfl)
 obtain ⟨a5,h5⟩:=rd_uint8 h5
 have h5:=QN h5
 clear hm5
 obtain ⟨m6,_,hm6,h6⟩:=Yy ht h (i:=6) (ty:=26) (off:=6) (n:=3) (by kernel_rfl)
 obtain ⟨a6,a8,v7,g6,h6,n6,s6⟩:=rd_choice (fun m hm=>hK m (by omega)) h6
 have k6:cs[6]?=some (u8n a6):=Qfw (n:=3) h6 (j:=0) (by decide)
 have k7:cs[7]?=some (v7):=Qfw (n:=3) h6 (j:=1) (by decide)
 have k8:cs[8]?=some (u8n a8):=Qfw (n:=3) h6 (j:=2) (by decide)
 clear hm6
 obtain ⟨m7,_,hm7,h7⟩:=Yy ht h (i:=7) (ty:=27) (off:=9) (n:=1) (by kernel_rfl)
 obtain ⟨v9,l9,h7,s9⟩:=rd_tests h7
 have h7:=QN h7
 clear hm7
 obtain ⟨m8,_,hm8,h8⟩:=Yy ht h (i:=8) (ty:=28) (off:=10) (n:=1) (by kernel_rfl)
 obtain ⟨v10,l10,h8,s10⟩:=rd_strings h8
 have h8:=QN h8
 clear hm8
 obtain ⟨m9,_,hm9,h9⟩:=Yy ht h (i:=9) (ty:=24) (off:=11) (n:=1) (by kernel_rfl)
 obtain ⟨v11,g11,h9,n11,s11⟩:=rd_mons (fun m hm=>hK m (by omega)) h9
 have h9:=QN h9
 clear hm9
 obtain ⟨m10,_,hm10,h10⟩:=Yy ht h (i:=10) (ty:=24) (off:=12) (n:=1) (by kernel_rfl)
 obtain ⟨v12,g12,h10,n12,s12⟩:=rd_mons (fun m hm=>hK m (by omega)) h10
 have h10:=QN h10
 clear hm10
 obtain ⟨m11,_,hm11,h11⟩:=Yy ht h (i:=11) (ty:=9) (off:=13) (n:=1) (by kernel_rfl)
 obtain ⟨a13,h11⟩:=QdT h11
 have h11:=QN h11
 clear hm11
 obtain ⟨m12,_,hm12,h12⟩:=Yy ht h (i:=12) (ty:=29) (off:=14) (n:=1) (by kernel_rfl)
 obtain ⟨v14,l14,h12,s14⟩:=rd_stats h12
 have h12:=QN h12
 clear hm12
 obtain ⟨m13,_,hm13,h13⟩:=Yy ht h (i:=13) (ty:=4) (off:=15) (n:=1) (by kernel_rfl)
 obtain ⟨a15,h13⟩:=rd_bool h13
 have h13:=QN h13
 clear hm13
 obtain ⟨m14,_,hm14,h14⟩:=Yy ht h (i:=14) (ty:=21) (off:=16) (n:=1) (by kernel_rfl)
 obtain ⟨a16,h14⟩:=rd_int32 h14
 have h14:=QN h14
 clear hm14
 obtain ⟨m15,_,hm15,h15⟩:=Yy ht h (i:=15) (ty:=30) (off:=17) (n:=1) (by kernel_rfl)
 obtain ⟨a17,h15⟩:=QbE h15
 have h15:=QN h15
 clear hm15
 obtain ⟨m16,_,hm16,h16⟩:=Yy ht h (i:=16) (ty:=2) (off:=18) (n:=1) (by kernel_rfl)
 obtain ⟨a18,h16⟩:=rd_int64 h16
 have h16:=QN h16
 clear hm16
 obtain ⟨m17,_,hm17,h17⟩:=Yy ht h (i:=17) (ty:=31) (off:=19) (n:=1) (by kernel_rfl)
 obtain ⟨a19,h17⟩:=Qee h17
 have h17:=QN h17
 clear hm17
 obtain ⟨m18,_,hm18,h18⟩:=Yy ht h (i:=18) (ty:=21) (off:=20) (n:=1) (by kernel_rfl)
 obtain ⟨a20,h18⟩:=rd_int32 h18
 have h18:=QN h18
 clear hm18
 obtain ⟨m19,_,hm19,h19⟩:=Yy ht h (i:=19) (ty:=30) (off:=21) (n:=1) (by kernel_rfl)
 obtain ⟨a21,h19⟩:=QbE h19
 have h19:=QN h19
 clear hm19
 obtain ⟨m20,_,hm20,h20⟩:=Yy ht h (i:=20) (ty:=2) (off:=22) (n:=1) (by kernel_rfl)
 obtain ⟨a22,h20⟩:=rd_int64 h20
 have h20:=QN h20
 clear hm20
 obtain ⟨m21,_,hm21,h21⟩:=Yy ht h (i:=21) (ty:=31) (off:=23) (n:=1) (by kernel_rfl)
 obtain ⟨a23,h21⟩:=Qee h21
 have h21:=QN h21
 clear hm21
 obtain ⟨m22,_,hm22,h22⟩:=Yy ht h (i:=22) (ty:=32) (off:=24) (n:=1) (by kernel_rfl)
 obtain ⟨v24,l24,h22,s24⟩:=rd_bools h22
 have h22:=QN h22
 clear hm22
 obtain ⟨m23,_,hm23,h23⟩:=Yy ht h (i:=23) (ty:=30) (off:=25) (n:=1) (by kernel_rfl)
 obtain ⟨a25,h23⟩:=QbE h23
 have h23:=QN h23
 clear hm23
 obtain ⟨m24,_,hm24,h24⟩:=Yy ht h (i:=24) (ty:=30) (off:=26) (n:=1) (by kernel_rfl)
 obtain ⟨a26,h24⟩:=QbE h24
 have h24:=QN h24
 clear hm24
 obtain ⟨m25,_,hm25,h25⟩:=Yy ht h (i:=25) (ty:=30) (off:=27) (n:=1) (by kernel_rfl)
 obtain ⟨a27,h25⟩:=QbE h25
 have h25:=QN h25
 clear hm25
 obtain ⟨m26,_,hm26,h26⟩:=Yy ht h (i:=26) (ty:=28) (off:=28) (n:=1) (by kernel_rfl)
 obtain ⟨v28,l28,h26,s28⟩:=rd_strings h26
 have h26:=QN h26
 clear hm26
 obtain ⟨m27,_,hm27,h27⟩:=Yy ht h (i:=27) (ty:=33) (off:=29) (n:=1) (by kernel_rfl)
 obtain ⟨v29,l29,h27,s29⟩:=rd_abils h27
 have h27:=QN h27
 clear hm27
 obtain ⟨m28,_,hm28,h28⟩:=Yy ht h (i:=28) (ty:=9) (off:=30) (n:=1) (by kernel_rfl)
 obtain ⟨a30,h28⟩:=QdT h28
 have h28:=QN h28
 clear hm28
 obtain ⟨m29,_,hm29,h29⟩:=Yy ht h (i:=29) (ty:=27) (off:=31) (n:=1) (by kernel_rfl)
 obtain ⟨v31,l31,h29,s31⟩:=rd_tests h29
 have h29:=QN h29
 clear hm29
 obtain ⟨m30,_,hm30,h30⟩:=Yy ht h (i:=30) (ty:=34) (off:=32) (n:=1) (by kernel_rfl)
 obtain ⟨v32,l32,h30,s32⟩:=rd_i64s h30
 have h30:=QN h30
 clear hm30
 obtain ⟨m31,_,hm31,h31⟩:=Yy ht h (i:=31) (ty:=35) (off:=33) (n:=1) (by kernel_rfl)
 obtain ⟨v33,l33,h31,s33⟩:=Qiy h31
 have h31:=QN h31
 clear hm31
 obtain ⟨m32,_,hm32,h32⟩:=Yy ht h (i:=32) (ty:=4) (off:=34) (n:=1) (by kernel_rfl)
 obtain ⟨a34,h32⟩:=rd_bool h32
 have h32:=QN h32
 clear hm32
 obtain ⟨m33,_,hm33,h33⟩:=Yy ht h (i:=33) (ty:=35) (off:=35) (n:=1) (by kernel_rfl)
 obtain ⟨v35,l35,h33,s35⟩:=Qiy h33
 have h33:=QN h33
 clear hm33
 obtain ⟨m34,_,hm34,h34⟩:=Yy ht h (i:=34) (ty:=31) (off:=36) (n:=1) (by kernel_rfl)
 obtain ⟨a36,h34⟩:=Qee h34
 have h34:=QN h34
 clear hm34
 obtain ⟨m35,_,hm35,h35⟩:=Yy ht h (i:=35) (ty:=35) (off:=37) (n:=1) (by kernel_rfl)
 obtain ⟨v37,l37,h35,s37⟩:=Qiy h35
 have h35:=QN h35
 clear hm35
 obtain ⟨m36,_,hm36,h36⟩:=Yy ht h (i:=36) (ty:=35) (off:=38) (n:=1) (by kernel_rfl)
 obtain ⟨v38,l38,h36,s38⟩:=Qiy h36
 have h36:=QN h36
 clear hm36
 obtain ⟨m37,_,hm37,h37⟩:=Yy ht h (i:=37) (ty:=31) (off:=39) (n:=1) (by kernel_rfl)
 obtain ⟨a39,h37⟩:=Qee h37
 have h37:=QN h37
 clear hm37
 obtain ⟨m38,_,hm38,h38⟩:=Yy ht h (i:=38) (ty:=35) (off:=40) (n:=1) (by kernel_rfl)
 obtain ⟨v40,l40,h38,s40⟩:=Qiy h38
 have h38:=QN h38
 clear hm38
 obtain ⟨m39,_,hm39,h39⟩:=Yy ht h (i:=39) (ty:=31) (off:=41) (n:=1) (by kernel_rfl)
 obtain ⟨a41,h39⟩:=Qee h39
 have h39:=QN h39
 clear hm39
 obtain ⟨m40,_,hm40,h40⟩:=Yy ht h (i:=40) (ty:=35) (off:=42) (n:=1) (by kernel_rfl)
 obtain ⟨v42,l42,h40,s42⟩:=Qiy h40
 have h40:=QN h40
 clear hm40
 obtain ⟨m41,_,hm41,h41⟩:=Yy ht h (i:=41) (ty:=26) (off:=43) (n:=3) (by kernel_rfl)
 obtain ⟨a43,a45,v44,g43,h41,n43,s43⟩:=rd_choice (fun m hm=>hK m (by omega)) h41
 have k43:cs[43]?=some (u8n a43):=Qfw (n:=3) h41 (j:=0) (by decide)
 have k44:cs[44]?=some (v44):=Qfw (n:=3) h41 (j:=1) (by decide)
 have k45:cs[45]?=some (u8n a45):=Qfw (n:=3) h41 (j:=2) (by decide)
 clear hm41
 obtain ⟨m42,_,hm42,h42⟩:=Yy ht h (i:=42) (ty:=26) (off:=46) (n:=3) (by kernel_rfl)
 obtain ⟨a46,a48,v47,g46,h42,n46,s46⟩:=rd_choice (fun m hm=>hK m (by omega)) h42
 have k46:cs[46]?=some (u8n a46):=Qfw (n:=3) h42 (j:=0) (by decide)
 have k47:cs[47]?=some (v47):=Qfw (n:=3) h42 (j:=1) (by decide)
 have k48:cs[48]?=some (u8n a48):=Qfw (n:=3) h42 (j:=2) (by decide)
 clear hm42
 obtain ⟨m43,_,hm43,h43⟩:=Yy ht h (i:=43) (ty:=9) (off:=49) (n:=1) (by kernel_rfl)
 obtain ⟨a49,h43⟩:=QdT h43
 have h43:=QN h43
 clear hm43
 obtain ⟨m44,_,hm44,h44⟩:=Yy ht h (i:=44) (ty:=36) (off:=50) (n:=1) (by kernel_rfl)
 obtain ⟨a50,h44⟩:=rd_int8 h44
 have h44:=QN h44
 clear hm44
 refine ⟨.mk {pos:=l0.head?,mana:=a1,hp:=a2,name:=a3,inventory:=a4,color:=a5,testTy:=a6,testColor:=a8,test4:=l9,strings:=l10,nested:=a13,empty:=l14.head?,bool:=a15,s32:=a16,u32:=a17,s64:=a18,u64:=a19,s32a:=a20,u32a:=a21,s64a:=a22,u64a:=a23,bools:=l24,f:=a25,f2:=a26,f3:=a27,strings2:=l28,abilities:=l29,flex:=a30,test5:=l31,longs:=l32,doubles:=l33,parent:=a34,refs:=l35,singleWeak:=a36,weak:=l37,strong:=l38,coOwning:=a39,coOwnings:=l40,nonOwning:=a41,nonOwnings:=l42,uniqTy:=a43,uniqColor:=a45,ambTy:=a46,ambColor:=a48,enums:=a49,signedEnum:=a50} l0 l14 g11 g12 g6 g43 g46,?_,?_⟩
 ·rw[NormM]
  exact ⟨⟨rfl,rfl⟩,n11,n12,n6,n43,n46⟩
 ·rw[QcX]
  refine ⟨⟨v0,v7,v9,v10,v11,v12,v14,v24,v28,v29,v31,v32,v33,v35,v37,v38,v40,v42,v44,v47⟩,?_,⟨s0,s9,s10,s14,s24,s28,s29,s31,s32,s33,s35,s37,s38,s40,s42⟩,s11,s12,s6,s43,s46⟩
  refine List.ext_getElem? fun i=>?_
  match i with
  |0=>exact h0
  |1=>exact h1
  |2=>exact h2
  |3=>exact h3
  |4=>exact h4
  |5=>exact h5
  |6=>exact k6
  |7=>exact k7
  |8=>exact k8
  |9=>exact h7
  |10=>exact h8
  |11=>exact h9
  |12=>exact h10
  |13=>exact h11
  |14=>exact h12
  |15=>exact h13
  |16=>exact h14
  |17=>exact h15
  |18=>exact h16
  |19=>exact h17
  |20=>exact h18
  |21=>exact h19
  |22=>exact h20
  |23=>exact h21
  |24=>exact h22
  |25=>exact h23
  |26=>exact h24
  |27=>exact h25
  |28=>exact h26
  |29=>exact h27
  |30=>exact h28
  |31=>exact h29
  |32=>exact h30
  |33=>exact h31
  |34=>exact h32
  |35=>exact h33
  |36=>exact h34
  |37=>exact h35
  |38=>exact h36
  |39=>exact h37
  |40=>exact h38
  |41=>exact h39
  |42=>exact h40
  |43=>exact k43
  |44=>exact k44
  |45=>exact k45
  |46=>exact k46
  |47=>exact k47
  |48=>exact k48
  |49=>exact h43
  |50=>exact h44
  |i+51=>rw[List.getElem?_eq_none (by omega),List.getElem?_eq_none (by rw[Qac];omega)]
theorem rd_all:∀fuel:Nat,MonRd E enc w base spare held fuel:=fun fuel=>by
 induction fuel using Nat.strongRecOn with
 |ind n ih=>exact rd_step ih
end
end Go.Proofs
namespace Go.Proofs
open Go Go.Vc
open Tryz (prog)
def sizeK (k:UInt8):Nat:=if k=0\/k=1\/k=2 then 1 else if k=3\/k=4 then 2 else if k=5\/k=6\/k=9 then 4 else 8
theorem eqU {P:Program} {t:TypeId} {k c:UInt8} {z:Int} (hz:z=(c.toNat:Int)) {K:Value->Prop}:Qj P .eql t (u8n k) (.int .u8 z) K=K (.bool (decide (k=c))):=by
 subst hz
 rw[Yi]
 congr 2
 exact decide_eq_decide.2 ⟨fun h=>UInt8.toNat_inj.1 (by omega),fun h=>by rw[h]⟩
theorem Size_ok {k:UInt8} {H:Qe} {R:Kn} (hR:R (.int .i64 (sizeK k:Nat)) H):FnS prog 158 #[u8n k] H R:=by
 apply w158
 unfold s158
 unfold sizeK at hR
 refine Q2 (fun vs h=>h=H/\∃b,vs=[.bool b]/\(b=true↔(k=0\/k=1\/k=2))) ?_ ?_
 ·rw[eqU (c:=0) (z:=0) rfl]
  refine Yt (fun h=>⟨rfl,_,rfl,by simp at h;simp[h]⟩) (fun h0=>?_)
  rw[eqU (c:=1) (z:=1) rfl]
  refine Yt (fun h=>⟨rfl,_,rfl,by simp at h;simp[h]⟩) (fun h1=>?_)
  rw[eqU (c:=2) (z:=2) rfl]
  exact ⟨rfl,_,rfl,by simp at h0 h1;simp[h0,h1]⟩
 rintro x4 h1 ⟨rfl,b,hb,hb2⟩
 cases hb
 refine Yt (fun h=>by rw[if_pos (hb2.1 h)]at hR;exact hR) (fun hn=>?_)
 rw[if_neg (fun h=>by rw[hb2.2 h]at hn;cases hn)]at hR
 refine Q2 (fun vs h=>h=h1/\∃b,vs=[.bool b]/\(b=true↔(k=3\/k=4))) ?_ ?_
 ·rw[eqU (c:=3) (z:=3) rfl]
  refine Yt (fun h=>⟨rfl,_,rfl,by simp at h;simp[h]⟩) (fun h0=>?_)
  rw[eqU (c:=4) (z:=4) rfl]
  exact ⟨rfl,_,rfl,by simp at h0;simp[h0]⟩
 rintro x8 h2 ⟨rfl,b,hb,hb2⟩
 cases hb
 refine Yt (fun h=>by rw[if_pos (hb2.1 h)]at hR;exact hR) (fun hn=>?_)
 rw[if_neg (fun h=>by rw[hb2.2 h]at hn;cases hn)]at hR
 refine Q2 (fun vs h=>h=h2/\∃b,vs=[.bool b]/\(b=true↔(k=5\/k=6\/k=9))) ?_ ?_
 ·rw[eqU (c:=5) (z:=5) rfl]
  refine Yt (fun h=>⟨rfl,_,rfl,by simp at h;simp[h]⟩) (fun h0=>?_)
  rw[eqU (c:=6) (z:=6) rfl]
  refine Yt (fun h=>⟨rfl,_,rfl,by simp at h;simp[h]⟩) (fun h1=>?_)
  rw[eqU (c:=9) (z:=9) rfl]
  exact ⟨rfl,_,rfl,by simp at h0 h1;simp[h0,h1]⟩
 rintro x11 h3 ⟨rfl,b,hb,hb2⟩
 cases hb
 refine Yt (fun h=>by rw[if_pos (hb2.1 h)]at hR;exact hR) (fun hn=>?_)
 rw[if_neg (fun h=>by rw[hb2.2 h]at hn;cases hn)]at hR
 exact hR
abbrev Yq (kind elem:UInt8) (num:UInt64) (text:List UInt8):List Value:=[u8n kind,u8n elem,QO num,QW text,.slice none 0 0,.slice none 0 0,.slice none 0 0]
theorem Qcv {t n:Nat} {vs:List Value} {G0 G:Cut} {H0 H:Qe} {q:Nat} {c:Array Value} (o:Yo H0 G H q (.cells c t (0,0))) (hc:c.size=n) (hl:vs.length=n) (hn:0<n) (hone:∀v∈vs,v.oneCell'=true) (e:Ext G0 H0 G H) {R:Kn} (hR:∀H',Ext G0 H0 G H'->R (.agg vs.toArray) H'):
  StK H n (ptr q) (.agg vs.toArray) fun h2=>LdN h2 n (ptr q) fun r=>R r h2:=by
 rw[QZ (n:=n) (c':=vs.toArray) o.get hc (by simpa using hl) hn (by simpa using hone)]
 have o:=o.set (.cells vs.toArray t (0,0))
 rw[YB (n:=n) (vs:=vs) (by rw[Q0 o.get n (by simp[hl])];simp[<-hl])]
 exact hR _ (e.set o.out o.new _)
theorem fill_ke (k e:UInt8):YN z57.toList [(0,1,u8n k),(1,1,u8n e)]=some (Yq k e 0 []):=by kernel_rfl
theorem absent_ok {v:SV} {kind elem:UInt8} {num:UInt64} {text:List UInt8} {nums:List UInt64} {kids:List SV} {slots:List SL} {cells:List Value} {G:Cut} {H:Qe} (hG:G.In H) (hv:VV G (.mk kind elem num text nums kids slots) cells) {R:Kn}
  (hR:∀H',Ext G H G H'->R (.agg (Yq kind elem 0 []).toArray) H'):FnS prog 50 #[.agg cells.toArray] H R:=by
 rw[VV]at hv
 obtain ⟨cn,ck,cs,rfl,_⟩:=hv
 apply w50
 unfold s50
 rw[Qx,Qx]
 have e:=Ext.refl hG
 have o1:Yo H G (H.push (.cells (Value.agg #[u8n kind,u8n elem,QO num,QW text,cn,ck,cs]).cells 57)) H.size (.cells #[u8n kind,u8n elem,QO num,QW text,cn,ck,cs] 57 (0,0)):=Yo.fresh e _
 have e:=e.push (.cells (Value.agg #[u8n kind,u8n elem,QO num,QW text,cn,ck,cs]).cells 57)
 generalize H.push (.cells (Value.agg #[u8n kind,u8n elem,QO num,QW text,cn,ck,cs]).cells 57)=H1 at *
 have o2:=Yo.fresh e (.cells z57 57)
 have o1:=o1.push (.cells z57 57)
 have e:=e.push (.cells z57 57)
 generalize H1.push (.cells z57 57)=H2 at *
 rw[Qm,Ql ((Qk o1.get).trans (show (#[u8n kind,u8n elem,QO num,QW text,cn,ck,cs]:Array Value)[0]?=some (u8n kind) from rfl)),Qm,Ql ((Qk o1.get).trans (show (#[u8n kind,u8n elem,QO num,QW text,cn,ck,cs]:Array Value)[1]?=some (u8n elem) from rfl))]
 have hf:=fill_ke kind elem
 unfold Qu
 simp only[hf]
 exact Qcv (vs:=Yq kind elem 0 []) o2 rfl rfl (by decide) (VV.flat G kind elem 0 []).one e hR
def QaV (k:UInt8) (n:UInt64):UInt64:=UInt64.ofNat (n.toNat%2^(8*sizeK k))
def Qag (k:UInt8) (n D:UInt64):SL:=.mk true (YD k 0 (QaV k n) []) (QaV k D)
theorem Qfk (k:UInt8):sizeK k=1\/sizeK k=2\/sizeK k=4\/sizeK k=8:=by
 unfold sizeK
 split
 ·exact Or.inl rfl
 ·split
  ·exact Or.inr (Or.inl rfl)
  ·split
   ·exact Or.inr (Or.inr (Or.inl rfl))
   ·exact Or.inr (Or.inr (Or.inr rfl))
theorem and_mask (n:UInt64) {j:Nat} (hj:j<64):QaS .and .u64 (n.toNat:Int) ((2^j-1:Nat):Int)=((UInt64.ofNat (n.toNat%2^j)).toNat:Int):=by
 have hn:=n.toNat_lt
 have h2:n.toNat%2^j<=n.toNat:=Nat.mod_le _ _
 have hp:2^j-1<2^64:=by have:=Nat.pow_lt_pow_right (a:=2) (by decide) hj;omega
 unfold QaS
 simp only
 rw[BitVec.toNat_and,show IntKind.bits .u64=64 from rfl,BitVec.toNat_ofInt,BitVec.toNat_ofInt,UInt64.toNat_ofNat_of_lt' (by show _<2^64;omega)]
 rw[show ((n.toNat:Int)%((2^64:Nat):Int)).toNat=n.toNat by omega,show (((2^j-1:Nat):Int)%((2^64:Nat):Int)).toNat=2^j-1 by omega,Nat.and_two_pow_sub_one_eq_mod]
 exact Qct (by omega) (by omega)
theorem mask_ok {P:Program} {t t2:TypeId} {n:UInt64} {s:Nat} (hs:s=1\/s=2\/s=4) {k:Value->Prop} (hk:k (QO (UInt64.ofNat (n.toNat%2^(8*s))))):
  Qj P .mul t (.int .i64 8) (.int .i64 (s:Nat)) fun a=>Qj P .shl t2 (.int .u64 1) a fun b=>Qj P .sub t2 b (.int .u64 1) fun c=>Qj P .and t2 (QO n) c k:=by
 have hc:∀j,j<64->IntKind.u64.wrap (IntKind.u64.wrap (1*2^(min (((j:Nat):Int)).toNat IntKind.u64.bits))-1)=((2^j-1:Nat):Int):=fun j hj=>by
  have hp:=Nat.pow_lt_pow_right (a:=2) (by decide) hj
  have h1:1<=2^j:=Nat.one_le_two_pow
  have e:(1*2^(min (((j:Nat):Int)).toNat IntKind.u64.bits):Int)=((2^j:Nat):Int):=by
   rw[show min (((j:Nat):Int)).toNat IntKind.u64.bits=j by rw[Int.toNat_natCast];exact Nat.min_eq_left (by show j<=64;omega)]
   simp
  rw[e,Qct (n:=((2^j:Nat):Int)) (by omega) (by omega),Qct (n:=((2^j:Nat):Int)-1) (by omega) (by omega)];omega
 rw[Zx,show IntKind.i64.wrap (8*(s:Int))=((8*s:Nat):Int) by rw[wrap_i64 (by omega) (by omega)];omega,YX (by omega),Yg,hc _ (by omega),QfL,and_mask n (by omega)]
 exact hk
theorem fill_kn (k:UInt8) (n:UInt64):YN z57.toList [(0,1,u8n k),(2,1,QO n)]=some (Yq k 0 n []):=by kernel_rfl
theorem fill_sl (b:Bool) (k e:UInt8) (n:UInt64) (t:List UInt8) (D:UInt64):YN z107.toList [(0,1,.bool b),(1,7,.agg (Yq k e n t).toArray),(8,1,QO D)]=some (.bool b::(Yq k e n t++[QO D])):=by kernel_rfl
theorem VL.scal (F:Cut) (b:Bool) (k e:UInt8) (n:UInt64) (t:List UInt8) (D:UInt64):VL F (.mk b (YD k e n t) D) (.bool b::(Yq k e n t++[QO D])):=by
 rw[VL]
 exact ⟨_,rfl,VV.flat F k e n t⟩
theorem QB {k:UInt8} {n D:UInt64} {G:Cut} {H:Qe} (hG:G.In H) {R:Kn} (hR:∀H' cells,Ext G H G H'->(∀F,VL F (Qag k n D) cells)->R (.agg cells.toArray) H'):FnS prog 41 #[u8n k,QO n,QO D] H R:=by
 apply w41
 unfold s41
 rw[Qx]
 have e:=Ext.refl hG
 have o:=Yo.fresh e (.cells z107 107)
 have e:=e.push (.cells z107 107)
 generalize H.push (.cells z107 107)=H1 at *
 refine Q2 (fun vs h=>h=H1/\∃x,vs=[x,QO (QaV k n),QO (QaV k D)]) ?_ ?_
 ·refine Size_ok ?_
  rw[Yw]
  refine Z0 (fun hs=>?_) (fun hs=>?_)
  ·have hc:sizeK k=1\/sizeK k=2\/sizeK k=4:=by have:=Qfk k;omega
   exact mask_ok hc (mask_ok hc ⟨rfl,_,rfl⟩)
  ·have h8:sizeK k=8:=by have:=Qfk k;omega
   have hm:∀x:UInt64,QaV k x=x:=fun x=>by
    unfold QaV
    rw[h8,Nat.mod_eq_of_lt x.toNat_lt,UInt64.ofNat_toNat]
   exact ⟨rfl,_,by rw[hm,hm]⟩
 rintro x7 x1 x2 h3 ⟨rfl,x,hx⟩
 cases hx
 have hf:=fill_kn k (QaV k n)
 unfold Qu
 simp only[hf]
 have hf2:=fill_sl true k 0 (QaV k n) [] (QaV k D)
 simp only[hf2]
 exact Qcv (vs:=.bool true::(Yq k 0 (QaV k n) []++[QO (QaV k D)])) o rfl rfl (by decide) (VL.scal G true k 0 (QaV k n) [] (QaV k D)).one e (fun H' e'=>hR H' _ e' (fun F=>VL.scal F true k 0 (QaV k n) [] (QaV k D)))
end Go.Proofs
namespace Go.Proofs
open Go Go.Vc
open Tryz (prog)
theorem fill_nm (k:UInt8) (a:Option Addr) (n c:Nat):YN z57.toList [(0,1,(.int .u8 13)),(1,1,u8n k),(4,1,.slice a n c)]=some [u8n 13,u8n k,QO 0,QW [],.slice a n c,.slice none 0 0,.slice none 0 0]:=by kernel_rfl
theorem fill_nm2 (b:Bool) (k:UInt8) (a:Option Addr) (n c:Nat):YN z107.toList [(0,1,.bool b),(1,7,.agg (#[u8n 13,u8n k,QO 0,QW [],.slice a n c,.slice none 0 0,.slice none 0 0]:Array Value))]=some (.bool b::([u8n 13,u8n k,QO 0,QW [],.slice a n c,.slice none 0 0,.slice none 0 0]++[QO 0])):=by kernel_rfl
def Qgo (k:UInt8) (l:List UInt64):SL:=.mk (decide (0<l.length)) (.mk 13 k 0 [] l [] []) 0
theorem Qa4 {k:UInt8} {v:Value} {l:List UInt64} {G:Cut} {H:Qe} (hG:G.In H) (hs:SlV G 1 v (l.map Qce)) {R:Kn} (hR:∀H' cells,Ext G H G H'->VL G (Qgo k l) cells->R (.agg cells.toArray) H'):FnS prog 45 #[u8n k,v] H R:=by
 apply w45
 unfold s45
 rw[Qx]
 have e:=Ext.refl hG
 have o:=Yo.fresh e (.cells z107 107)
 have e:=e.push (.cells z107 107)
 generalize H.push (.cells z107 107)=H1 at *
 have hlen:∀k:Value->Prop,Y1 v k=k (.int .i64 (l.length:Nat)):=fun k=>by rw[hs.len,List.length_map]
 have hv:VL G (Qgo k l) (.bool (decide (0<l.length))::([u8n 13,u8n k,QO 0,QW [],v,.slice none 0 0,.slice none 0 0]++[QO 0])):=by
  rw[Qgo,VL]
  refine ⟨_,rfl,?_⟩
  rw[VV]
  exact ⟨_,_,_,rfl,hs,⟨[],SlV.nil G 7,by rw[VVs];trivial⟩,⟨[],SlV.nil G 9,by rw[VLs];trivial⟩⟩
 rw[hlen,Z3,show decide ((l.length:Int)>0)=decide (0<l.length) from decide_eq_decide.2 (by omega)]
 obtain ⟨a,n,c,rfl⟩:=SlV.sl hs
 have hf:=fill_nm k a n c
 unfold Qu
 simp only[hf]
 have hf2:=fill_nm2 (decide (0<l.length)) k a n c
 simp only[hf2]
 exact Qcv (vs:=.bool (decide (0<l.length))::([u8n 13,u8n k,QO 0,QW [],.slice a n c,.slice none 0 0,.slice none 0 0]++[QO 0])) o rfl rfl (by decide) hv.one e (fun H' e'=>hR H' _ e' hv)
def Qgv (s:List UInt8):SL:=.mk (decide (s≠[])) (YD 12 0 0 s) 0
theorem fill_by (s:List UInt8):YN z57.toList [(0,1,(.int .u8 12)),(3,1,QW s)]=some (Yq 12 0 0 s):=by kernel_rfl
theorem fill_by2 (b:Bool) (k e:UInt8) (n:UInt64) (t:List UInt8):YN z107.toList [(0,1,.bool b),(1,7,.agg (Yq k e n t).toArray)]=some (.bool b::(Yq k e n t++[QO 0])):=by kernel_rfl
theorem Qcu {s:List UInt8} {G:Cut} {H:Qe} (hG:G.In H) {R:Kn} (hR:∀H' cells,Ext G H G H'->(∀F,VL F (Qgv s) cells)->R (.agg cells.toArray) H'):FnS prog 42 #[QW s] H R:=by
 apply w42
 unfold s42
 rw[Qx]
 have e:=Ext.refl hG
 have o:=Yo.fresh e (.cells z107 107)
 have e:=e.push (.cells z107 107)
 generalize H.push (.cells z107 107)=H1 at *
 have hne:∀k:Value->Prop,Qj prog .neq 9 (QW s) (.string ⟨#[]⟩) k=k (.bool (decide (s≠[]))):=fun k=>by
  show Qj prog .neq 9 (QW s) (QW []) k=_
  rw[BinK_strne,Qe8,Qe8]
  cases s<;>rfl
 rw[hne]
 have hf:=fill_by s
 unfold Qu
 simp only[hf]
 have hf2:=fill_by2 (decide (s≠[])) 12 0 0 s
 simp only[hf2]
 exact Qcv (vs:=.bool (decide (s≠[]))::(Yq 12 0 0 s++[QO 0])) o rfl rfl (by decide) (VL.scal G _ 12 0 0 s 0).one e (fun H' e'=>hR H' _ e' (fun F=>VL.scal F _ 12 0 0 s 0))
def Qft (P:Program) (t:TypeId) (s:Value) (h:Qe) (B:Value->Qe->(Qe->Prop)->Prop) (K:Qe->Prop):Prop:=
 QA (fun M=>Y1 s fun n=>Yu [(.int .i64 0)] h fun I m=>∀x:Value,∀h1:Qe,I m [x] h1->
  Qj P .lss t x n fun c=>IfK c (B x h1 fun h3=>Qj P .add t x (.int .i64 1) fun x'=>QQ I m [x'] h3) (M [] h1)) fun M=>∀h':Qe,M [] h'->K h'
theorem slcLoop_of {P:Program} {t:TypeId} {h:Qe} {B:Value->Qe->(Qe->Prop)->Prop} {K:Qe->Prop} {n:Nat} {s:Value} (St:Nat->Qe->Prop) (h0:St 0 h) (hn:n<4611686018427387904) (hl:∀k:Value->Prop,Y1 s k=k (.int .i64 (n:Nat)))
  (hB:∀i H (k:Qe->Prop),i<n->St i H->(∀H',St (i+1) H'->k H')->B (.int .i64 (i:Nat)) H k) (hK:∀H,St n H->K H):Qft P t s h B K:=by
 refine Q2 (fun _ H=>St n H) ?_ (fun H hH=>hK H hH)
 rw[hl]
 refine ⟨fun m vs H=>∃i,vs=[.int .i64 (i:Nat)]/\i+m=n/\St i H,⟨n,0,rfl,by omega,h0⟩,?_⟩
 rintro m x H ⟨i,hx,hi,hs⟩
 cases hx
 rw[Yw]
 by_cases hlt:i<n
 ·rw[Yj (by omega)]
  refine hB i H _ hlt hs fun H' hs'=>?_
  rw[Q5,wrap_i64 (by omega) (by omega)]
  exact ⟨m-1,by omega,i+1,by simp,by omega,hs'⟩
 ·rw[Yb (by omega)]
  have:i=n:=by omega
  subst this
  exact hs
section
variable {G0:Cut} {H0:Qe} {t:TypeId} {ob:Obj} {q2 q3:Nat} {G:Cut} {H:Qe} {cells:List Value} (rs:RS G0 H0 t ob q2 q3 G H cells)
include rs
theorem app_slc {P:Program} {ti:TypeId} {s:Value} {Bd:Value->Qe->(Qe->Prop)->Prop} {K:Qe->Prop} {fld es:Nat} {et:TypeId} {n:Nat} (Items:Cut->Nat->List (List Value)->Prop) (h0:Items G 0 []) (hc:cells[fld]?=some (.slice none 0 0)) (hn:n<4611686018427387904)
  (hl:∀k:Value->Prop,Y1 s k=k (.int .i64 (n:Nat)))
  (hB:∀i G1 H' c cells' items (k:Qe->Prop),i<n->G.le G1->RS G0 H0 t ob q2 q3 G1 H' cells'->cells'[fld]?=some c->Cur H0 G1 H' et es c items (badq q2 q3)->Items G1 i items->
   (∀G2 H2 c2 items2,G1.le G2->RS G0 H0 t ob q2 q3 G2 H2 (cells'.set fld c2)->Cur H0 G2 H2 et es c2 items2 (badq q2 q3)->Items G2 (i+1) items2->k H2)->Bd (.int .i64 (i:Nat)) H' k)
  (hk:∀G' G1 H' c items,RS G0 H0 t ob q2 q3 G' H' (cells.set fld c)->G.le G'->SlV G' es c items->Items G1 n items->G1.le G'->K H'):Qft P ti s H Bd K:=by
 refine slcLoop_of (n:=n) (fun i H'=>∃G1 c items,G.le G1/\RS G0 H0 t ob q2 q3 G1 H' (cells.set fld c)/\Cur H0 G1 H' et es c items (badq q2 q3)/\Items G1 i items) ⟨G,_,[],Cut.le_refl G,by rw[QaH hc];exact rs,Cur.nil,h0⟩ hn hl ?_ ?_
 ·rintro i H' k hlt ⟨G1,c,items,hle,rs',hc',hi⟩ hk'
  refine hB i G1 H' c _ items k hlt hle rs' (get_set hc) hc' hi ?_
  intro G2 H2 c2 items2 hle2 rs2 hc2 hi2
  exact hk' H2 ⟨G2,c2,items2,Cut.le_trans hle hle2,by rw[List.set_set]at rs2;exact rs2,hc2,hi2⟩
 ·rintro H' ⟨G1,c,items,hle,rs',hc',hi⟩
  obtain ⟨G',e',sl,le,hown⟩:=hc'.done rs'.ext
  exact hk G' G1 H' c items ⟨e',hown _ _ (Or.inl rfl) rs'.o2,hown _ _ (Or.inr rfl) rs'.o3,rs'.ne⟩ (Cut.le_trans hle le) sl hi le
end
theorem QiV {H:Qe} {et:TypeId} {n:Nat} {zs:List Value} {parts:List (Nat×Nat×Value)} {X:Kn} (h:Q8 H et n zs parts fun y h2=>Qh H h2 (X y h2)):Q8 H et n zs parts X:=by
 unfold Q8 at h⊢
 split at h
 ·exact h.2
 ·exact h
def Qjd (l:List (List UInt8)):SL:=.mk (decide (0<l.length)) (.mk 14 0 0 [] [] (l.map fun s=>YD 11 0 0 s) []) 0
theorem fill_k (k:UInt8):YN z57.toList [(0,1,u8n k)]=some (Yq k 0 0 []):=by kernel_rfl
theorem fill_tx (s:List UInt8):YN z57.toList [(0,1,(.int .u8 11)),(3,1,QW s)]=some (Yq 11 0 0 s):=by kernel_rfl
theorem fill_kd (b:Bool) (k:UInt8) (a:Option Addr) (n c:Nat):YN z107.toList [(0,1,.bool b),(1,7,.agg (#[u8n k,u8n 0,QO 0,QW [],.slice none 0 0,.slice a n c,.slice none 0 0]:Array Value))]=some (.bool b::([u8n k,u8n 0,QO 0,QW [],.slice none 0 0,.slice a n c,.slice none 0 0]++[QO 0])):=by kernel_rfl
theorem kids_end {k:UInt8} {G0:Cut} {H0:Qe} {q2 q3:Nat} {G:Cut} {H:Qe} {c v:Value} {n:Nat} {kids:List SV} {items:List (List Value)} (rs:RS G0 H0 57 (.cells z107 107 (0,0)) q2 q3 G H ((Yq k 0 0 []).set 5 c)) (sl:SlV G 7 c items) (hI:VVs G kids items)
  (hl:∀k:Value->Prop,Y1 v k=k (.int .i64 (n:Nat))) {R:Kn} (hR:∀H' cells,Ext G0 H0 G H'->VL G (.mk (decide (0<n)) (.mk k 0 0 [] [] kids []) 0) cells->R (.agg cells.toArray) H'):
  Y1 v fun x22=>Qj prog .gtr 3 x22 (.int .i64 0) fun x23=>LdN H 7 (ptr q3) fun x24=>Qu z107.toList [(0,1,x23),(1,7,x24)] fun x25=>StK H 9 (ptr q2) x25 fun h9=>LdN h9 9 (ptr q2) fun r4=>R r4 h9:=by
 have hv:VL G (.mk (decide (0<n)) (.mk k 0 0 [] [] kids []) 0) (.bool (decide (0<n))::([u8n k,u8n 0,QO 0,QW [],.slice none 0 0,c,.slice none 0 0]++[QO 0])):=by
  rw[VL]
  refine ⟨_,rfl,?_⟩
  rw[VV]
  exact ⟨_,_,_,rfl,SlV.nil G 1,⟨_,sl,hI⟩,⟨[],SlV.nil G 9,by rw[VLs];trivial⟩⟩
 obtain ⟨a,m,cap,rfl⟩:=SlV.sl sl
 rw[hl,Z3,show decide ((n:Int)>0)=decide (0<n) from decide_eq_decide.2 (by omega),YB (n:=7) (vs:=[u8n k,u8n 0,QO 0,QW [],.slice none 0 0,.slice a m cap,.slice none 0 0]) (by rw[Q0 rs.o3.get 7 (by simp)];rfl)]
 have hf:=fill_kd (decide (0<n)) k a m cap
 unfold Qu
 simp only[hf]
 exact Qcv (vs:=.bool (decide (0<n))::([u8n k,u8n 0,QO 0,QW [],.slice none 0 0,.slice a m cap,.slice none 0 0]++[QO 0])) rs.o2 rfl rfl (by decide) hv.one rs.ext (fun H' e'=>hR H' _ e' hv)
theorem kids_begin {G:Cut} {H:Qe} (hG:G.In H) (k:UInt8) {K:Value->Kn} (hK:∀H3,RS G H 57 (.cells z107 107 (0,0)) H.size (H.size+1) G H3 (Yq k 0 0 [])->K (ptr H.size) (ptr (H.size+1)) H3):
  Y8 H (.cells z107 107) fun x2 h1=>Qu z57.toList [(0,1,u8n k)] fun x6=>Y8 h1 (.cells z57 57) fun x3 h2=>StK h2 7 x3 x6 fun h3=>K x2 x3 h3:=by
 rw[Qx]
 have e:=Ext.refl hG
 have o2:=Yo.fresh e (.cells z107 107)
 have e:=e.push (.cells z107 107)
 have n1:(H.push (.cells z107 107)).size=H.size+1:=size_push
 generalize H.push (.cells z107 107)=H1 at *
 have hf:=fill_k k
 unfold Qu
 simp only[hf]
 rw[Qx]
 have ne:=o2.ne
 have o3:=Yo.fresh e (.cells z57 57)
 have o2:=o2.push (.cells z57 57)
 have e:=e.push (.cells z57 57)
 generalize H1.push (.cells z57 57)=H2 at *
 rw[QZ (n:=7) (c':=(Yq k 0 0 []).toArray) o3.get rfl rfl (by decide) (by simpa using (VV.flat G k 0 0 []).one)]
 have e:=e.set o3.out o3.new (.cells (Yq k 0 0 []).toArray 57)
 have o2:=o2.set_ne ne (.cells (Yq k 0 0 []).toArray 57)
 have o3:=o3.set (.cells (Yq k 0 0 []).toArray 57)
 rw[n1]at ne o2 o3 e⊢
 exact hK _ ⟨e,o2,o3,by omega⟩
theorem Qan {α β:Type} {f:α->β} {l:List α} {i:Nat} {a:α} (h:l[i]?=some a):(l.take (i+1)).map f=(l.take i).map f++[f a]:=by
 rw[List.take_add_one,h,List.map_append];rfl
theorem fill_one {zs it:List Value} {es:Nat} {v:Value} (hv:v.cells.toList=it) (hl:it.length=es) (hz:zs.length=es):YN (YY zs 1) [(0,es,v)]=some it:=by
 have hvs:v.cells.size=es:=by rw[<-hl,<-hv];simp
 show (if v.cells.size=es/\0+v.cells.size<=(YY zs 1).length then _ else _)=_
 have hrl:(YY zs 1).length=es:=by simp[YY,hz]
 rw[if_pos ⟨hvs,by rw[hrl];omega⟩]
 show some _=_
 rw[hv,hvs,Nat.zero_add,List.drop_eq_nil_of_le (by omega)];simp
theorem SlV.single {G:Cut} {b es:Nat} {it:List Value} {et:TypeId} (hl:it.length=es):SlV (G.upd b (.cells it.toArray et (0,0))) es (.slice (some ⟨b,0,none⟩) 1 1) [it]:=
 ⟨by simpa using hl,Or.inr ⟨b,0,1,it.toArray,et,(0,0),rfl,Cut.upd_same,by simp[hl],by rw[List.drop_zero];simp[<-hl],Nat.le_refl _⟩⟩
def textsB (x0 x3 x:Value) (h:Qe) (k:Qe->Prop):Prop:=
 Y2 1 x0 x fun x11=>LdK h x11 fun x12=>Qf x3 5 fun x13=>LdK h x13 fun x14=>Qu z57.toList [(0,1,(.int .u8 11)),(3,1,x12)] fun x16=>
  Q8 h 57 1 (YY z57.toList 1) [(0,7,x16)] fun x17 h5=>Qbk h5 57 7 104 z57 x14 x17 fun x18 h6=>Qf x3 5 fun x19=>StK h6 1 x19 x18 k
theorem Qgl {v:Value} {l:List (List UInt8)} {G:Cut} {H:Qe} (hG:G.In H) (hs:SlV G 1 v (l.map Qhd)) (hn:l.length<=50) {R:Kn} (hR:∀G' H' cells,Ext G H G' H'->VL G' (Qjd l) cells->R (.agg cells.toArray) H'):FnS prog 44 #[v] H R:=by
 apply w44
 unfold s44
 refine kids_begin hG 14 ?_
 intro H3 rs
 have hlen:∀k:Value->Prop,Y1 v k=k (.int .i64 (l.length:Nat)):=fun k=>by rw[hs.len,List.length_map]
 show Qft prog 3 v H3 (textsB v (ptr (H.size+1))) _
 refine app_slc rs (et:=57) (es:=7) (fld:=5) (n:=l.length) (fun G1 i items=>VVs G1 ((l.take i).map fun s=>YD 11 0 0 s) items) (by rw[List.take_zero,List.map_nil,VVs];trivial) rfl (by omega) hlen ?_ ?_
 ·intro i G1 H' c cells' items k hlt hle rs' hc' hcur hI hk'
  have ha:=List.getElem?_eq_getElem hlt
  have hil:items.length<l.length:=by
   have:=VVs.len hI
   rw[List.length_map,List.length_take]at this
   omega
  unfold textsB
  obtain ⟨b,o,cs,e',fr,g1,g2,g3,g4⟩:=(hs.mono hle).idx rs'.ext.inn (i:=i) rfl (it:=Qhd l[i]) (by rw[List.getElem?_map,ha];rfl)
  rw[g1,Ql ((Qk g2).trans (QdD g4)),Qm,rs'.ld hc']
  have hf:=fill_tx l[i]
  unfold Qu
  simp only[hf]
  refine QiV ?_
  refine rs'.push_item hcur (v:=.agg (Yq 11 0 0 l[i]).toArray) (it:=Yq 11 0 0 l[i]) rfl rfl (VV.flat G1 11 0 0 l[i]).one (by decide) rfl (by decide) (by omega) (Q4 hc') ?_
  intro H4 c4 rs4 hcur4
  refine hk' G1 H4 c4 _ (Cut.le_refl _) rs4 hcur4 ?_
  rw[Qan ha]
  exact VVs.snoc hI (VV.flat G1 11 0 0 l[i])
 ·intro G' G1 H' c items rs' hle sl hI hle1
  rw[List.take_length]at hI
  exact kids_end rs' sl (VVs.mono hle1 _ _ hI) hlen fun H' cells e hv=>hR G' H' cells e hv
def idV (n:UInt64):SV:=.mk 15 0 0 [] [] [] [Qag 7 n 0]
def idsL (l:List UInt64):SL:=.mk (decide (0<l.length)) (.mk 16 0 0 [] [] (l.map idV) []) 0
def idsB (x0 x3 x:Value) (h:Qe) (k:Qe->Prop):Prop:=
 Y2 1 x0 x fun x11=>LdK h x11 fun x12=>Qf x3 5 fun x13=>LdK h x13 fun x14=>Qa prog 41 #[(.int .u8 7),x12,(.int .u64 0)] h fun x16 h5=>Qh h h5<|
  Q8 h5 107 1 (YY z107.toList 1) [(0,9,x16)] fun x17 h6=>Qh h5 h6<|Qu z57.toList [(0,1,(.int .u8 15)),(6,1,x17)] fun x18=>
   Q8 h6 57 1 (YY z57.toList 1) [(0,7,x18)] fun x19 h7=>Qh h6 h7<|Qbk h7 57 7 104 z57 x14 x19 fun x20 h8=>Qf x3 5 fun x21=>StK h8 1 x21 x20 k
theorem fill_tab (a:Option Addr) (n c:Nat):YN z57.toList [(0,1,(.int .u8 15)),(6,1,.slice a n c)]=some [u8n 15,u8n 0,QO 0,QW [],.slice none 0 0,.slice none 0 0,.slice a n c]:=by kernel_rfl
theorem QhJ {v:Value} {l:List UInt64} {G:Cut} {H:Qe} (hG:G.In H) (hs:SlV G 1 v (l.map Qce)) (hn:l.length<=50) {R:Kn} (hR:∀G' H' cells,Ext G H G' H'->VL G' (idsL l) cells->R (.agg cells.toArray) H'):FnS prog 46 #[v] H R:=by
 apply w46
 unfold s46
 refine kids_begin hG 16 ?_
 intro H3 rs
 have hlen:∀k:Value->Prop,Y1 v k=k (.int .i64 (l.length:Nat)):=fun k=>by rw[hs.len,List.length_map]
 show Qft prog 3 v H3 (idsB v (ptr (H.size+1))) _
 refine app_slc rs (et:=57) (es:=7) (fld:=5) (n:=l.length) (fun G1 i items=>VVs G1 ((l.take i).map idV) items) (by rw[List.take_zero,List.map_nil,VVs];trivial) rfl (by omega) hlen ?_ ?_
 ·intro i G1 H' c cells' items k hlt hle rs' hc' hcur hI hk'
  have ha:=List.getElem?_eq_getElem hlt
  have hil:items.length<l.length:=by
   have:=VVs.len hI
   rw[List.length_map,List.length_take]at this
   omega
  unfold idsB
  obtain ⟨b,o,cs,e',fr,g1,g2,g3,g4⟩:=(hs.mono hle).idx rs'.ext.inn (i:=i) rfl (it:=Qce l[i]) (by rw[List.getElem?_map,ha];rfl)
  rw[g1,Ql ((Qk g2).trans (QdD g4)),Qm,rs'.ld hc']
  refine QB (k:=7) (n:=l[i]) (D:=0) rs'.ext.inn ?_
  intro H4 sc e4 hsc
  refine Qq e4.keep.ext ?_
  have rs4:=rs'.next e4
  have hcur4:=hcur.ext e4
  have hsl:YN (YY z107.toList 1) [(0,9,.agg sc.toArray)]=some sc:=fill_one rfl (hsc G).len rfl
  unfold Q8
  simp only[hsl]
  refine Qq (Qay.push _ _).ext ?_
  have e5:=(Ext.refl rs4.ext.inn).pushG (.cells sc.toArray 107 (0,0))
  have rs5:=rs4.next e5
  have hcur5:=hcur4.ext e5
  have ssl:SlV (G1.upd H4.size (.cells sc.toArray 107 (0,0))) 9 (.slice (some ⟨H4.size,0,none⟩) 1 1) [sc]:=SlV.single (hsc G).len
  have hvv:VV (G1.upd H4.size (.cells sc.toArray 107 (0,0))) (idV l[i]) [u8n 15,u8n 0,QO 0,QW [],.slice none 0 0,.slice none 0 0,.slice (some ⟨H4.size,0,none⟩) 1 1]:=by
   rw[idV,VV]
   exact ⟨_,_,_,rfl,SlV.nil _ 1,⟨[],SlV.nil _ 7,by rw[VVs];trivial⟩,⟨_,ssl,by rw[VLs,VLs];exact ⟨hsc _,trivial⟩⟩⟩
  have hf:=fill_tab (some ⟨H4.size,0,none⟩) 1 1
  unfold Qu
  simp only[hf]
  refine rs5.push_item (bts:=104) (et:=57) (es:=7) (zs:=z57) hcur5 (v:=.agg (#[u8n 15,u8n 0,QO 0,QW [],.slice none 0 0,.slice none 0 0,.slice (some ⟨H4.size,0,none⟩) 1 1]:Array Value)) (it:=[u8n 15,u8n 0,QO 0,QW [],.slice none 0 0,.slice none 0 0,.slice (some ⟨H4.size,0,none⟩) 1 1]) rfl rfl hvv.one (by decide) rfl (by decide) (by omega) (Q4 hc') ?_
  intro H6 c6 rs6 hcur6
  refine hk' _ H6 c6 _ e5.le rs6 hcur6 ?_
  rw[Qan ha]
  exact VVs.snoc (VVs.mono e5.le _ _ hI) hvv
 ·intro G' G1 H' c items rs' hle sl hI hle1
  rw[List.take_length]at hI
  exact kids_end rs' sl (VVs.mono hle1 _ _ hI) hlen fun H' cells e hv=>hR G' H' cells e hv
end Go.Proofs
namespace Go.Proofs
open Go Go.Vc
open Tryz (prog)
def littleB (x0 x8 x:Value) (h:Qe) (k:Qe->Prop):Prop:=
 Qj prog .mul 3 (.int .i64 8) x fun x18=>Qj prog .shr 31 x0 x18 fun x19=>QG .u8 x19 fun x20=>Y2 1 x8 x fun x21=>StK h 1 x21 x20 k
theorem leB_get (x:Int) {k i:Nat} (h:i<k):(leB x k)[i]?=some (Za x i):=by
 unfold leB
 rw[List.getElem?_map,List.getElem?_range h];rfl
theorem Qeb {n:UInt64} {k:Nat} (hk:k<=8) {G:Cut} {H:Qe} (hG:G.In H) {R:Kn} (hR:∀H',Ext G H G H'->R (QW (leB (n.toNat:Int) k)) H'):FnS prog 40 #[QO n,.int .i64 (k:Nat)] H R:=by
 apply w40
 unfold s40
 refine ⟨by omega,by omega,by omega,by omega,?_⟩
 rw[Int.toNat_natCast,mk_u8 (z:=z5) rfl]
 have e:=Ext.refl hG
 have o:=Yo.fresh e (.cells (u8c (List.replicate k 0)) 5 (0,0))
 have e:=e.push (.cells (u8c (List.replicate k 0)) 5 (0,0))
 generalize H.push (.cells (u8c (List.replicate k 0)) 5 (0,0))=H1 at *
 show Qft prog 3 (bsl H.size 0 k k) H1 (littleB (QO n) (bsl H.size 0 k k)) _
 refine slcLoop_of (n:=k) (fun i H'=>H'=wr H1 H.size 5 ((leB (n.toNat:Int) k).take i++List.replicate (k-i) 0)) (by rw[List.take_zero,List.nil_append,Nat.sub_zero,Qe4 o.get]) (by omega) (fun _=>rfl) ?_ ?_
 ·rintro i H' kp hi rfl hkp
  unfold littleB
  have hb:IntKind.u8.wrap ((n.toNat:Int).fdiv (2^(min (Int.toNat ((8*i:Nat):Int)) IntKind.u64.bits)))=((Za (n.toNat:Int) i).toNat:Int):=by
   rw[Int.toNat_natCast,show min (8*i) IntKind.u64.bits=8*i from Nat.min_eq_left (by show 8*i<=64;omega)]
   exact Zh _ i
  rw[Zx,show IntKind.i64.wrap (8*(i:Int))=((8*i:Nat):Int) by rw[wrap_i64 (by omega) (by omega)];omega,Ze (by omega),Q7,hb,bsl,QP (by omega) (by omega)]
  have hl:i<((leB (n.toNat:Int) k).take i++List.replicate (k-i) (0:UInt8)).length:=by
   rw[List.length_append,List.length_take,Qg,List.length_replicate];omega
  show StK _ 1 (.pointer (some ⟨H.size,0+(Int.toNat (i:Int))*1,none⟩)) _ _
  rw[Int.toNat_natCast,Nat.mul_one,Nat.zero_add,ZA o.get hl]
  refine hkp _ ?_
  congr 1
  have ht:((leB (n.toNat:Int) k).take i).length=i:=by rw[List.length_take,Qg];omega
  obtain ⟨m,hm⟩:∃m,k-i=m+1:=⟨k-i-1,by omega⟩
  rw[List.set_append_right _ _ (by omega),ht,Nat.sub_self,hm,List.replicate_succ,List.set_cons_zero,List.take_add_one,leB_get _ hi,show k-(i+1)=m by omega]
  simp
 ·rintro H' rfl
  have hfull:(leB (n.toNat:Int) k).take k++List.replicate (k-k) (0:UInt8)=leB (n.toNat:Int) k:=by
   rw[Nat.sub_self,List.replicate_zero,List.append_nil,List.take_of_length_le (by rw[Qg];exact Nat.le_refl _)]
  rw[hfull]
  have o2:=o.set (.cells (u8c (leB (n.toNat:Int) k)) 5 (0,0))
  refine B2SK_of (xs:=leB (n.toNat:Int) k) (by
   have:=Qhv (QdZ o2.get) (n:=k) (i:=0) (by rw[Qg];omega)
   rw[List.drop_zero,List.take_of_length_le (by rw[Qg];exact Nat.le_refl _)]at this
   exact this) ?_
  exact hR _ (e.set o.out o.new _)
def testN (t:QbB):UInt64:=UInt64.ofNat (t.a.toNat+65536*t.b.toNat)
def testB2 (x0 x y:Value) (h:Qe) (k:Kn):Prop:=
 Y2 2 x0 x fun x10=>LdN h 2 x10 fun x11=>Y8 h (.cells z89 89) fun x5 h3=>StK h3 2 x5 x11 fun h4=>Qf x5 0 fun x13=>LdK h4 x13 fun x14=>QG .u16 x14 fun x15=>QG .u64 x15 fun x16=>
  Qf x5 1 fun x17=>LdK h4 x17 fun x18=>QG .u8 x18 fun x19=>QG .u64 x19 fun x20=>Qj prog .shl 31 x20 (.int .u64 16) fun x21=>Qj prog .or 31 x16 x21 fun x22=>
   Q8 h4 31 1 (YY z31.toList 1) [(0,1,x22)] fun x23 h5=>Qbk h5 31 1 8 z31 y x23 k
theorem u16_of_i16 (x:UInt16):IntKind.u64.wrap (IntKind.u16.wrap (IntKind.i16.wrap (x.toNat:Int)))=(x.toNat:Int):=by
 have:=x.toNat_lt
 simp[IntKind.wrap,IntKind.bits,IntKind.signed]
 omega
theorem u8_of_i8 (x:UInt8):IntKind.u64.wrap (IntKind.u8.wrap (IntKind.i8.wrap (x.toNat:Int)))=(x.toNat:Int):=by
 have:=x.toNat_lt
 simp[IntKind.wrap,IntKind.bits,IntKind.signed]
 omega
theorem test_num (t:QbB):QaS .or .u64 (t.a.toNat:Int) (IntKind.u64.wrap ((t.b.toNat:Int)*2^(min (Int.toNat 16) IntKind.u64.bits)))=((testN t).toNat:Int):=by
 have ha:=t.a.toNat_lt
 have hb:=t.b.toNat_lt
 have e:IntKind.u64.wrap ((t.b.toNat:Int)*2^(min (Int.toNat 16) IntKind.u64.bits))=((2^16*t.b.toNat:Nat):Int):=by
  rw[show min (Int.toNat 16) IntKind.u64.bits=16 from rfl,Qct (by omega) (by omega)];omega
 rw[e]
 unfold QaS testN
 simp only
 rw[BitVec.toNat_or,show IntKind.bits .u64=64 from rfl,BitVec.toNat_ofInt,BitVec.toNat_ofInt,UInt64.toNat_ofNat_of_lt' (by show _<2^64;omega)]
 rw[show ((t.a.toNat:Int)%((2^64:Nat):Int)).toNat=t.a.toNat by omega,show (((2^16*t.b.toNat:Nat):Int)%((2^64:Nat):Int)).toNat=2^16*t.b.toNat by omega,Nat.or_comm,<-Nat.two_pow_add_eq_or_of_lt (show t.a.toNat<2^16 by omega)]
 rw[Qct (by omega) (by omega)];omega
theorem Qhe {v:Value} {l:List QbB} {G:Cut} {H:Qe} (hG:G.In H) (hs:SlV G 2 v (l.map Zb)) (hn:l.length<=50) {R:Kn} (hR:∀G' H' cells,Ext G H G' H'->VL G' (Qgo 5 (l.map testN)) cells->R (.agg cells.toArray) H'):FnS prog 43 #[v] H R:=by
 apply w43
 unfold s43
 rw[Qx]
 have e:=Ext.refl hG
 have o2:=Yo.fresh e (.cells z107 107)
 have e:=e.push (.cells z107 107)
 generalize H.push (.cells z107 107)=H1 at *
 have hlen:∀k:Value->Prop,Y1 v k=k (.int .i64 (l.length:Nat)):=fun k=>by rw[hs.len,List.length_map]
 show Qey prog 3 v H1 (testB2 v) _
 refine accLoop_of (n:=l.length) (fun i y H'=>Ext G H1 G H'/\Cur H1 G H' 31 1 y ((l.take i).map fun t=>Qce (testN t)) noBad) ⟨Ext.refl e.inn,Cur.nil⟩ (by omega) hlen ?_ ?_
 ·rintro i y H' k hlt ⟨e1,hcur⟩ hk
  have ha:=List.getElem?_eq_getElem hlt
  unfold testB2
  refine Qab hs e1.inn (i:=i) (it:=Zb l[i]) (by rw[List.getElem?_map,ha];rfl) ?_
  rw[Qx,QZ (n:=2) (c':=(Zb l[i]).toArray) Qi rfl rfl (by decide) (by simp[Zb];exact ⟨rfl,rfl⟩),Yc]
  have e2:=e1.push (.cells (Zb l[i]).toArray 89 (0,0))
  have hcur:=hcur.push (.cells (Zb l[i]).toArray 89 (0,0))
  have g:(H'.push (.cells (Zb l[i]).toArray 89 (0,0)))[H'.size]?=some (.cells (Zb l[i]).toArray 89 (0,0)):=Qi
  generalize H'.push (.cells (Zb l[i]).toArray 89 (0,0))=H2 at *
  rw[Qm,Ql ((Qk g).trans (show (Zb l[i]).toArray[0]?=some (Qdn l[i].a) from rfl)),Q7,Q7,u16_of_i16,Qm,Ql ((Qk g).trans (show (Zb l[i]).toArray[1]?=some (i8V l[i].b) from rfl)),Q7,Q7,u8_of_i8,YX (by decide),Qgg,test_num]
  refine Qd8 e2 hcur (v:=QO (testN l[i])) (it:=Qce (testN l[i])) rfl rfl (by simp[Qce];rfl) (by decide) rfl (by decide) (by rw[List.length_map,List.length_take];omega) ?_
  intro c' H3 e3 hc3
  refine hk c' H3 ⟨e3,?_⟩
  rw[Qan ha];exact hc3
 ·rintro y H' ⟨e1,hcur⟩
  obtain ⟨G',e',sl,le,_⟩:=hcur.done e1
  rw[List.take_length]at sl
  refine Qa4 (k:=5) (l:=l.map testN) e'.inn (by rw[List.map_map];exact sl) ?_
  intro H3 cells e3 hv
  have e4:=e'.trans e3
  have o2':Yo H G' H3 H.size (.cells z107 107 (0,0)):=o2.ext e4
  exact Qcv o2' rfl hv.len (by decide) hv.one (e.trans e4) (fun H5 e5=>hR G' H5 cells e5 hv)
end Go.Proofs
namespace Go.Proofs
open Go Go.Vc
open Tryz (prog)
def Qje (es:Nat):Nat->List (List Value)->List (Nat×Nat×Value)
 |_,[]=>[]
 |o,c::cs=>(o,es,.agg c.toArray)::Qje es (o+es) cs
theorem fillL_parts {es:Nat}:∀(cs:List (List Value)) (done zs:List Value),(∀c∈cs,c.length=es)->zs.length=es*cs.length->YN (done++zs) (Qje es done.length cs)=some (done++cs.flatten)
 |[],done,zs,_,hz=>by
  have:zs=[]:=List.length_eq_zero_iff.1 (by simpa using hz)
  subst this
  rw[Qje,YN];simp
 |c::cs,done,zs,hc,hz=>by
  have h1:=hc c List.mem_cons_self
  have h2:(Value.agg c.toArray).cells.size=es:=by show c.toArray.size=es;simpa using h1
  rw[List.length_cons,Nat.mul_add,Nat.mul_one]at hz
  rw[Qje,YN,if_pos ⟨h2,by rw[h2,List.length_append];omega⟩,h2,List.take_left,<-List.drop_drop,List.drop_left]
  show YN (done++c++zs.drop es) _=_
  have:=fillL_parts cs (done++c) (zs.drop es) (fun x hx=>hc x (List.mem_cons_of_mem _ hx)) (by rw[List.length_drop];omega)
  rw[List.length_append,h1]at this
  rw[this,List.flatten_cons,List.append_assoc]
theorem repQ_len (zs:List Value):∀n,(YY zs n).length=zs.length*n
 |0=>rfl
 |n+1=>by rw[YY,List.length_append,repQ_len zs n,Nat.mul_add,Nat.mul_one,Nat.add_comm]
theorem build_parts {H:Qe} {et n es:Nat} {zs:List Value} {cs:List (List Value)} {parts:List (Nat×Nat×Value)} (hp:parts=Qje es 0 cs) (hc:∀c∈cs,c.length=es) (hn:cs.length=n) (hz:zs.length=es) {K:Kn}
  (hK:K (.slice (some ⟨H.size,0,none⟩) n n) (H.push (.cells cs.flatten.toArray et (0,0)))):Q8 H et n (YY zs n) parts K:=by
 have:=fillL_parts cs [] (YY zs n) hc (by rw[repQ_len,hz,hn])
 rw[List.nil_append,List.nil_append]at this
 unfold Q8
 rw[hp,show Qje es 0 cs=Qje es ([]:List Value).length cs from rfl,this]
 exact hK
theorem SlV.built {G:Cut} {b es:Nat} {cs:List (List Value)} {et:TypeId} (hc:∀c∈cs,c.length=es):SlV (G.upd b (.cells cs.flatten.toArray et (0,0))) es (.slice (some ⟨b,0,none⟩) cs.length cs.length) cs:=by
 have hf:cs.flatten.length=cs.length*es:=by
  induction cs with
  |nil=>simp
  |cons c cs ih=>rw[List.flatten_cons,List.length_append,List.length_cons,hc c List.mem_cons_self,ih (fun x hx=>hc x (List.mem_cons_of_mem _ hx)),Nat.add_mul];omega
 exact ⟨hc,Or.inr ⟨b,0,_,cs.flatten.toArray,et,(0,0),rfl,Cut.upd_same,by simp[hf],by rw[List.drop_zero,List.toList_toArray,<-hf,List.take_length],Nat.le_refl _⟩⟩
def PlainG:GM->Prop
 |.mk d _ _ tables enemy _ _ _=>tables=[]/\enemy=[]/\d.testTy=0/\d.uniqTy=0/\d.ambTy=0/\d.abilities=[]
theorem MonsterPlain_ok {g:GM} {cells:List Value} {G:Cut} {H:Qe} (hG:G.In H) (hv:QcX G g cells) {R:Kn} (hR:∀(b:Bool) H',Ext G H G H'->(b=true->PlainG g)->R (.bool b) H'):FnS prog 6 #[.agg cells.toArray] H R:=by
 obtain ⟨d,pos,empty,tables,enemy,test,uniq,amb⟩:=g
 rw[QcX]at hv
 obtain ⟨c,rfl,hg,⟨iT,sT,vT⟩,⟨iE,sE,vE⟩,_⟩:=hv
 apply w6
 unfold s6
 rw[Qx]
 have e:=Ext.refl hG
 have o:Yo H G (H.push (.cells (Value.agg (YK d c).toArray).cells 38)) H.size (.cells (YK d c).toArray 38 (0,0)):=Yo.fresh e _
 have e:=e.push (.cells (Value.agg (YK d c).toArray).cells 38)
 generalize H.push (.cells (Value.agg (YK d c).toArray).cells 38)=H1 at *
 have ld:∀{i:Nat} {v:Value} (k:Value->Prop),(YK d c).toArray[i]?=some v->LdK H1 (.pointer (some ⟨H.size,i,none⟩)) k=k v:=fun k h=>Ql ((Qk o.get).trans h)
 have lT:∀k:Value->Prop,Y1 c.tables k=k (.int .i64 (tables.length:Nat)):=fun k=>by rw[sT.len,Zz.len vT]
 have lE:∀k:Value->Prop,Y1 c.enemy k=k (.int .i64 (enemy.length:Nat)):=fun k=>by rw[sE.len,Zz.len vE]
 have lA:∀k:Value->Prop,Y1 c.abil k=k (.int .i64 (d.abilities.length:Nat)):=fun k=>by rw[hg.abil.len,List.length_map]
 have g11:∀k:Value->Prop,LdK H1 (.pointer (some ⟨H.size,11,none⟩)) k=k c.tables:=fun k=>ld k rfl
 have g12:∀k:Value->Prop,LdK H1 (.pointer (some ⟨H.size,12,none⟩)) k=k c.enemy:=fun k=>ld k rfl
 have g6:∀k:Value->Prop,LdK H1 (.pointer (some ⟨H.size,6,none⟩)) k=k (u8n d.testTy):=fun k=>ld k rfl
 have g43:∀k:Value->Prop,LdK H1 (.pointer (some ⟨H.size,43,none⟩)) k=k (u8n d.uniqTy):=fun k=>ld k rfl
 have g46:∀k:Value->Prop,LdK H1 (.pointer (some ⟨H.size,46,none⟩)) k=k (u8n d.ambTy):=fun k=>ld k rfl
 have g29:∀k:Value->Prop,LdK H1 (.pointer (some ⟨H.size,29,none⟩)) k=k c.abil:=fun k=>ld k rfl
 have eL:∀(n:Nat) (k:Value->Prop),Qj prog .eql 3 (.int .i64 (n:Nat)) (.int .i64 0) k=k (.bool (decide (n=0))):=fun n k=>by
  rw[Yi];congr 2;exact decide_eq_decide.2 (by omega)
 have e8:∀(x:UInt8) (k:Value->Prop),Qj prog .eql 5 (u8n x) (.int .u8 0) k=k (.bool (decide (x=0))):=fun x k=>eqU (c:=0) (z:=0) rfl
 have fin:R (.bool (((((decide (tables.length=0)&&decide (enemy.length=0))&&decide (d.testTy=0))&&decide (d.uniqTy=0))&&decide (d.ambTy=0))&&decide (d.abilities.length=0))) H1:=hR _ _ e fun h=>by
  simp only[Bool.and_eq_true,decide_eq_true_eq,List.length_eq_zero_iff]at h
  obtain ⟨⟨⟨⟨⟨h1,h2⟩,h3⟩,h4⟩,h5⟩,h6⟩:=h
  exact ⟨h1,h2,h3,h4,h5,h6⟩
 simp only[Qm,g11,lT,eL]
 generalize decide (tables.length=0)=b1 at *
 cases b1<;>simp only[Yz,Ye,Yv,Y4,Qd5,Nat.add_zero,Nat.zero_add,g12,lE,eL,Bool.true_and,Bool.false_and]at fin⊢
 ·exact fin
 generalize decide (enemy.length=0)=b2 at *
 cases b2<;>simp only[Yz,Ye,Yv,Y4,Qd5,Nat.add_zero,Nat.zero_add,g6,e8,Bool.true_and,Bool.false_and]at fin⊢
 ·exact fin
 generalize decide (d.testTy=0)=b3 at *
 cases b3<;>simp only[Yz,Ye,Yv,Y4,Qd5,Nat.add_zero,Nat.zero_add,g43,e8,Bool.true_and,Bool.false_and]at fin⊢
 ·exact fin
 generalize decide (d.uniqTy=0)=b4 at *
 cases b4<;>simp only[Yz,Ye,Yv,Y4,Qd5,Nat.add_zero,Nat.zero_add,g46,e8,Bool.true_and,Bool.false_and]at fin⊢
 ·exact fin
 generalize decide (d.ambTy=0)=b5 at *
 cases b5<;>simp only[Yz,Ye,Yv,Y4,Qd5,Nat.add_zero,Nat.zero_add,g29,lA,eL,Bool.true_and,Bool.false_and]at fin⊢
 ·exact fin
 exact fin
end Go.Proofs
namespace Go.Proofs
open Go Go.Vc
open Tryz (prog)
def Qjh:List UInt8:=[48,49,50,51,52,53,54,55,48,49,50,51,52,53,54,55,48,49,50,51,52,53,54,55,48,49,50,51,52,53,54,55]
def posL:List Qa9->SL
 |[]=>.mk false (YD 17 8 0 Qjh) 0
 |v::_=>.mk true (YD 17 8 0 (Qff v)) 0
def toU (i:Int):UInt64:=UInt64.ofNat (IntKind.u64.wrap i).toNat
theorem wrap_u64_range (i:Int):0<=IntKind.u64.wrap i/\IntKind.u64.wrap i<18446744073709551616:=by
 simp[IntKind.wrap,IntKind.bits,IntKind.signed]
 omega
theorem QhA (i:Int):((toU i).toNat:Int)=IntKind.u64.wrap i:=by
 have:=wrap_u64_range i
 unfold toU
 rw[UInt64.toNat_ofNat_of_lt' (by show _<2^64;omega)]
 omega
theorem Qfz {κ:IntKind} {i:Int} {k:Value->Prop}:QG .u64 (.int κ i) k=k (QO (toU i)):=by
 rw[Q7,<-QhA]
theorem QeM {n:Nat} (h:n<18446744073709551616):(toU (n:Int)).toNat=n:=by
 have h1:=QhA (n:Int)
 rw[Qct (by omega) (by omega)]at h1
 omega
def posB (x3 x22 x24:Value) (h5:Qe) (kp:Qe->Prop):Prop:=
 Y2 7 x22 x24 fun x26=>
 LdN h5 7 x26 fun x27=>
 Y8 h5 (.cells z84 84) fun x5 h6=>
 StK h6 7 x5 x27 fun h7=>
 Qf x3 0 fun x28=>
 StK h7 1 x28 (.bool true) fun h8=>
 Qf x5 0 fun x29=>
 LdK h8 x29 fun x30=>
 QG .u64 x30 fun x31=>
 Qf x5 1 fun x33=>
 LdK h8 x33 fun x34=>
 QG .u64 x34 fun x35=>
 Qf x5 2 fun x38=>
 LdK h8 x38 fun x39=>
 QG .u64 x39 fun x40=>
 Qf x5 3 fun x44=>
 LdK h8 x44 fun x45=>
 Qf x5 4 fun x48=>
 LdK h8 x48 fun x49=>
 QG .u64 x49 fun x50=>
 Qf x5 5 fun x54=>
 LdK h8 x54 fun x55=>
 QG .u16 x55 fun x56=>
 QG .u64 x56 fun x57=>
 Qf x5 6 fun x60=>
 LdK h8 x60 fun x61=>
 QG .u8 x61 fun x62=>
 QG .u64 x62 fun x63=>
 Qa prog 40 #[x31,(.int .i64 4)] h8 fun x32 h9=>
 Qh h8 h9<|
 Qa prog 40 #[x35,(.int .i64 4)] h9 fun x36 h10=>
 Qh h9 h10<|
 Qj prog .add 9 x32 x36 fun x37=>
 Qa prog 40 #[x40,(.int .i64 4)] h10 fun x41 h11=>
 Qh h10 h11<|
 Qj prog .add 9 x37 x41 fun x42=>
 Qj prog .add 9 x42 (.string ⟨#[0,0,0,0]⟩) fun x43=>
 Qa prog 40 #[x45,(.int .i64 8)] h11 fun x46 h12=>
 Qh h11 h12<|
 Qj prog .add 9 x43 x46 fun x47=>
 Qa prog 40 #[x50,(.int .i64 1)] h12 fun x51 h13=>
 Qh h12 h13<|
 Qj prog .add 9 x47 x51 fun x52=>
 Qj prog .add 9 x52 (.string ⟨#[0]⟩) fun x53=>
 Qa prog 40 #[x57,(.int .i64 2)] h13 fun x58 h14=>
 Qh h13 h14<|
 Qj prog .add 9 x53 x58 fun x59=>
 Qa prog 40 #[x63,(.int .i64 1)] h14 fun x64 h15=>
 Qj prog .add 9 x59 x64 fun x65=>
 Qj prog .add 9 x65 (.string ⟨#[0,0,0]⟩) fun x66=>
 Qf x3 1 fun x67=>
 Qf x67 3 fun x68=>
 StK h15 1 x68 x66 kp
abbrev posC (b:Bool) (t:List UInt8):List Value:=.bool b::(Yq 17 8 0 t++[QO 0])
theorem QfH {P:Program} {t:TypeId} {a b:List UInt8} {k:Value->Prop} (h:a.length+b.length<1000):Qj P .add t (QW a) (QW b) k=k (QW (a++b)):=by
 rw[BinK_stradd (by rw[Zs,Zs];omega),strV_add]
theorem u64_of_u8i (x:UInt8):toU (IntKind.u8.wrap (IntKind.i8.wrap (x.toNat:Int)))=toU (x.toNat:Int):=by
 have:=x.toNat_lt
 congr 1
 simp[IntKind.wrap,IntKind.bits,IntKind.signed]
 omega
theorem u64_of_u16i (x:UInt16):toU (IntKind.u16.wrap (IntKind.i16.wrap (x.toNat:Int)))=toU (x.toNat:Int):=by
 have:=x.toNat_lt
 congr 1
 simp[IntKind.wrap,IntKind.bits,IntKind.signed]
 omega
theorem pos_step {G:Cut} {H0:Qe} {G0:Cut} {H:Qe} {q3:Nat} {v:Qa9} {s:Value} {t:List UInt8} {b:Bool} {ps:List Qa9} (e:Ext G0 H0 G H) (o:Yo H0 G H q3 (.cells (posC b t).toArray 107 (0,0))) (hs:SlV G 7 s (ps.map ZP)) {i:Nat} (hi:ps[i]?=some v) {kp:Qe->Prop}
  (hk:∀H',Ext G0 H0 G H'->(∀q ob,q≠q3->Yo H0 G H q ob->Yo H0 G H' q ob)->Yo H0 G H' q3 (.cells (posC true (Qff v)).toArray 107 (0,0))->kp H'):posB (ptr q3) s (.int .i64 (i:Nat)) H kp:=by
 unfold posB
 refine Qab hs e.inn (i:=i) (it:=ZP v) (by rw[List.getElem?_map,hi];rfl) ?_
 rw[Qx,QZ (n:=7) (c':=(ZP v).toArray) Qi rfl rfl (by decide) (by simp[ZP];exact ⟨rfl,rfl,rfl,rfl,rfl,rfl,rfl⟩),Yc]
 have e1:=e.push (.cells (ZP v).toArray 84 (0,0))
 have o1:=o.push (.cells (ZP v).toArray 84 (0,0))
 have og:∀q ob,q≠q3->Yo H0 G H q ob->Yo H0 G (H.push (.cells (ZP v).toArray 84 (0,0))) q ob:=fun q ob _ h=>h.push _
 have g5:Yo H0 G (H.push (.cells (ZP v).toArray 84 (0,0))) H.size (.cells (ZP v).toArray 84 (0,0)):=Yo.fresh e _
 have ne:=o.ne
 generalize H.push (.cells (ZP v).toArray 84 (0,0))=H1 at *
 rw[Qm,Qax (v:=.bool true) o1.get (by simp) (by simp) rfl]
 have e2:=e1.set o1.out o1.new (.cells ((posC b t).toArray.setIfInBounds 0 (.bool true)) 107 (0,0))
 have g5:=g5.set_ne (Ne.symm ne) (.cells ((posC b t).toArray.setIfInBounds 0 (.bool true)) 107 (0,0))
 have og:∀q ob,q≠q3->Yo H0 G H q ob->Yo H0 G (setB H1 q3 (.cells ((posC b t).toArray.setIfInBounds 0 (.bool true)) 107 (0,0))) q ob:=fun q ob hq h=>(og q ob hq h).set_ne hq _
 have o2:Yo H0 G (setB H1 q3 (.cells ((posC b t).toArray.setIfInBounds 0 (.bool true)) 107 (0,0))) q3 (.cells (posC true t).toArray 107 (0,0)):=o1.set _
 generalize setB H1 q3 (.cells ((posC b t).toArray.setIfInBounds 0 (.bool true)) 107 (0,0))=H2 at *
 have ld:∀{i:Nat} {y:Value} (k:Value->Prop),(ZP v).toArray[i]?=some y->LdK H2 (.pointer (some ⟨H.size,i,none⟩)) k=k y:=fun k h=>Ql ((Qk g5.get).trans h)
 have l0:∀k:Value->Prop,LdK H2 (.pointer (some ⟨H.size,0,none⟩)) k=k (Qaw v.x):=fun k=>ld k rfl
 have l1:∀k:Value->Prop,LdK H2 (.pointer (some ⟨H.size,1,none⟩)) k=k (Qaw v.y):=fun k=>ld k rfl
 have l2:∀k:Value->Prop,LdK H2 (.pointer (some ⟨H.size,2,none⟩)) k=k (Qaw v.z):=fun k=>ld k rfl
 have l3:∀k:Value->Prop,LdK H2 (.pointer (some ⟨H.size,3,none⟩)) k=k (QO v.t1):=fun k=>ld k rfl
 have l4:∀k:Value->Prop,LdK H2 (.pointer (some ⟨H.size,4,none⟩)) k=k (u8n v.t2):=fun k=>ld k rfl
 have l5:∀k:Value->Prop,LdK H2 (.pointer (some ⟨H.size,5,none⟩)) k=k (Qdn v.a):=fun k=>ld k rfl
 have l6:∀k:Value->Prop,LdK H2 (.pointer (some ⟨H.size,6,none⟩)) k=k (i8V v.b):=fun k=>ld k rfl
 simp only[Qm,l0,l1,l2,l3,l4,l5,l6,Qfz]
 rw[Q7,Qfz,u64_of_u16i,Q7,Qfz,u64_of_u8i]
 have hx:=v.x.toNat_lt;have hy:=v.y.toNat_lt;have hz:=v.z.toNat_lt;have h2:=v.t2.toNat_lt;have ha:=v.a.toNat_lt;have hb:=v.b.toNat_lt
 refine Qeb (n:=toU (v.x.toNat:Int)) (k:=4) (by decide) e2.inn fun H3 e3=>Qq e3.keep.ext ?_
 refine Qeb (n:=toU (v.y.toNat:Int)) (k:=4) (by decide) e3.inn fun H4 e4=>Qq e4.keep.ext ?_
 have ll:∀(n:Int) (k:Nat),(leB n k).length=k:=Qg
 rw[QfH (by rw[ll,ll];decide)]
 refine Qeb (n:=toU (v.z.toNat:Int)) (k:=4) (by decide) e4.inn fun H5 e5=>Qq e5.keep.ext ?_
 rw[QfH (by simp only[List.length_append,ll];decide),show (.string ⟨#[0,0,0,0]⟩:Value)=QW [0,0,0,0] from rfl,QfH (by simp only[List.length_append,ll];decide)]
 refine Qeb (n:=v.t1) (k:=8) (by decide) e5.inn fun H6 e6=>Qq e6.keep.ext ?_
 rw[QfH (by simp only[List.length_append,ll];decide)]
 refine Qeb (n:=toU (v.t2.toNat:Int)) (k:=1) (by decide) e6.inn fun H7 e7=>Qq e7.keep.ext ?_
 rw[QfH (by simp only[List.length_append,ll];decide),show (.string ⟨#[0]⟩:Value)=QW [0] from rfl,QfH (by simp only[List.length_append,ll];decide)]
 refine Qeb (n:=toU (v.a.toNat:Int)) (k:=2) (by decide) e7.inn fun H8 e8=>Qq e8.keep.ext ?_
 rw[QfH (by simp only[List.length_append,ll];decide)]
 refine Qeb (n:=toU (v.b.toNat:Int)) (k:=1) (by decide) e8.inn fun H9 e9=>?_
 rw[QfH (by simp only[List.length_append,ll];decide),show (.string ⟨#[0,0,0]⟩:Value)=QW [0,0,0] from rfl,QfH (by simp only[List.length_append,ll];decide)]
 have eL:=(((((e3.trans e4).trans e5).trans e6).trans e7).trans e8).trans e9
 have o3:=o2.ext eL
 have eA:=e2.trans eL
 rw[Qd5,Qax o3.get (by simp) (by simp) rfl]
 rw[QeM (by omega),QeM (by omega),QeM (by omega),QeM (by omega),QeM (by omega),QeM (by omega)]
 refine hk _ (eA.set o3.out o3.new _) (fun q ob hq h=>((og q ob hq h).ext eL).set_ne hq _) ?_
 have o4:=o3.set (.cells ((posC true t).toArray.setIfInBounds (1+3) (QW (Qff v))) 107 (0,0))
 have ev:(leB (v.x.toNat:Int) 4++leB (v.y.toNat:Int) 4++leB (v.z.toNat:Int) 4++[0,0,0,0]++leB (v.t1.toNat:Int) 8++leB (v.t2.toNat:Int) 1++[0]++leB (v.a.toNat:Int) 2++leB (v.b.toNat:Int) 1++[0,0,0])=Qff v:=by
  unfold Qff vec3B
  simp
 rw[ev]
 exact o4
end Go.Proofs
namespace Go.Proofs
open Go Go.Vc
open Tryz (prog)
def statV (s:ZU):SL:=.mk true (.mk 15 0 0 [] [] [] [.mk true (YD 11 0 0 s.id) 0,Qag 8 (toU (IntKind.i64.wrap (s.val.toNat:Int))) 0,Qag 3 (toU (s.count.toNat:Int)) 0]) 0
def emptyL:List ZU->SL
 |[]=>.mk false (YD 15 0 0 []) 0
 |s::_=>statV s
def emB (x6 x73 x75:Value) (h20:Qe) (kp:Qe->Prop):Prop:=
 Y2 3 x73 x75 fun x77=>
 LdN h20 3 x77 fun x78=>
 Y8 h20 (.cells z95 95) fun x8 h21=>
 StK h21 3 x8 x78 fun h22=>
 Qf x6 0 fun x79=>
 StK h22 1 x79 (.bool true) fun h23=>
 Qf x8 0 fun x80=>
 LdK h23 x80 fun x81=>
 Qu z57.toList [(0,1,(.int .u8 11)),(3,1,x81)] fun x82=>
 Qu z107.toList [(0,1,(.bool true)),(1,7,x82)] fun x83=>
 Qf x8 1 fun x84=>
 LdK h23 x84 fun x85=>
 QG .u64 x85 fun x86=>
 Qf x8 2 fun x88=>
 LdK h23 x88 fun x89=>
 QG .u64 x89 fun x90=>
 Qa prog 41 #[(.int .u8 8),x86,(.int .u64 0)] h23 fun x87 h24=>
 Qh h23 h24<|
 Qa prog 41 #[(.int .u8 3),x90,(.int .u64 0)] h24 fun x91 h25=>
 Qh h24 h25<|
 Q8 h25 107 3 (YY z107.toList 3) [(0,9,x83),(9,9,x87),(18,9,x91)] fun x92 h26=>
 Qf x6 1 fun x93=>
 Qf x93 6 fun x94=>
 StK h26 1 x94 x92 kp
abbrev emC (b:Bool) (s:Value):List Value:=.bool b::([u8n 15,u8n 0,QO 0,QW [],.slice none 0 0,.slice none 0 0,s]++[QO 0])
theorem em_step {G:Cut} {H0:Qe} {G0:Cut} {H:Qe} {q6:Nat} {v:ZU} {s:Value} {t:Value} {b:Bool} {ps:List ZU} (e:Ext G0 H0 G H) (o:Yo H0 G H q6 (.cells (emC b t).toArray 107 (0,0))) (hs:SlV G 3 s (ps.map Zn)) {i:Nat} (hi:ps[i]?=some v) {kp:Qe->Prop}
  (hk:∀G' H' c,Ext G0 H0 G' H'->G.le G'->(∀q ob,q≠q6->Yo H0 G H q ob->Yo H0 G' H' q ob)->VL G' (statV v) (emC true c)->Yo H0 G' H' q6 (.cells (emC true c).toArray 107 (0,0))->kp H'):emB (ptr q6) s (.int .i64 (i:Nat)) H kp:=by
 unfold emB
 refine Qab hs e.inn (i:=i) (it:=Zn v) (by rw[List.getElem?_map,hi];rfl) ?_
 rw[Qx,QZ (n:=3) (c':=(Zn v).toArray) Qi rfl rfl (by decide) (by simp[Zn];exact ⟨rfl,rfl,rfl⟩),Yc]
 have e1:=e.push (.cells (Zn v).toArray 95 (0,0))
 have o1:=o.push (.cells (Zn v).toArray 95 (0,0))
 have og:∀q ob,q≠q6->Yo H0 G H q ob->Yo H0 G (H.push (.cells (Zn v).toArray 95 (0,0))) q ob:=fun q ob _ h=>h.push _
 have g5:Yo H0 G (H.push (.cells (Zn v).toArray 95 (0,0))) H.size (.cells (Zn v).toArray 95 (0,0)):=Yo.fresh e _
 have ne:=o.ne
 generalize H.push (.cells (Zn v).toArray 95 (0,0))=H1 at *
 rw[Qm,Qax (v:=.bool true) o1.get (by simp) (by simp) rfl]
 have e2:=e1.set o1.out o1.new (.cells ((emC b t).toArray.setIfInBounds 0 (.bool true)) 107 (0,0))
 have g5:=g5.set_ne (Ne.symm ne) (.cells ((emC b t).toArray.setIfInBounds 0 (.bool true)) 107 (0,0))
 have og:∀q ob,q≠q6->Yo H0 G H q ob->Yo H0 G (setB H1 q6 (.cells ((emC b t).toArray.setIfInBounds 0 (.bool true)) 107 (0,0))) q ob:=fun q ob hq h=>(og q ob hq h).set_ne hq _
 have o2:Yo H0 G (setB H1 q6 (.cells ((emC b t).toArray.setIfInBounds 0 (.bool true)) 107 (0,0))) q6 (.cells (emC true t).toArray 107 (0,0)):=o1.set _
 generalize setB H1 q6 (.cells ((emC b t).toArray.setIfInBounds 0 (.bool true)) 107 (0,0))=H2 at *
 have l0:∀k:Value->Prop,LdK H2 (.pointer (some ⟨H.size,0,none⟩)) k=k (QW v.id):=fun k=>Ql ((Qk g5.get).trans rfl)
 have l1:∀k:Value->Prop,LdK H2 (.pointer (some ⟨H.size,1,none⟩)) k=k (QfW v.val):=fun k=>Ql ((Qk g5.get).trans rfl)
 have l2:∀k:Value->Prop,LdK H2 (.pointer (some ⟨H.size,2,none⟩)) k=k (u16V v.count):=fun k=>Ql ((Qk g5.get).trans rfl)
 have hf:=fill_tx v.id
 have hf2:=fill_by2 true 11 0 0 v.id
 rw[Qm,l0]
 unfold Qu
 simp only[hf,hf2]
 rw[Qm,l1,Qfz,Qm,l2,Qfz]
 refine QB (k:=8) (n:=toU (IntKind.i64.wrap (v.val.toNat:Int))) (D:=0) e2.inn ?_
 intro H3 c1 e3 hc1
 refine Qq e3.keep.ext ?_
 refine QB (k:=3) (n:=toU (v.count.toNat:Int)) (D:=0) e3.inn ?_
 intro H4 c2 e4 hc2
 refine Qq e4.keep.ext ?_
 have eL:=e3.trans e4
 refine build_parts (es:=9) (cs:=[.bool true::(Yq 11 0 0 v.id++[QO 0]),c1,c2]) rfl (by
  intro c hc
  simp only[List.mem_cons,List.not_mem_nil,or_false]at hc
  rcases hc with rfl|rfl|rfl
  ·rfl
  ·exact (hc1 G).len
  ·exact (hc2 G).len) rfl rfl ?_
 have o3:=o2.ext eL
 have eA:=e2.trans eL
 have e5:=(Ext.refl eA.inn).pushG (.cells ([.bool true::(Yq 11 0 0 v.id++[QO 0]),c1,c2]:List (List Value)).flatten.toArray 107 (0,0))
 have o4:=o3.ext e5
 have hsl:SlV (G.upd H4.size (.cells ([.bool true::(Yq 11 0 0 v.id++[QO 0]),c1,c2]:List (List Value)).flatten.toArray 107 (0,0))) 9 (.slice (some ⟨H4.size,0,none⟩) 3 3) [.bool true::(Yq 11 0 0 v.id++[QO 0]),c1,c2]:=SlV.built (by
  intro c hc
  simp only[List.mem_cons,List.not_mem_nil,or_false]at hc
  rcases hc with rfl|rfl|rfl
  ·rfl
  ·exact (hc1 G).len
  ·exact (hc2 G).len)
 rw[Qm,Qd5,Qax o4.get (by simp) (by simp) rfl]
 refine hk _ _ (.slice (some ⟨H4.size,0,none⟩) 3 3) ((eA.trans e5).set o4.out o4.new _) e5.le (fun q ob hq h=>(((og q ob hq h).ext eL).ext e5).set_ne hq _) ?_ (o4.set _)
 rw[statV,VL]
 refine ⟨_,rfl,?_⟩
 rw[VV]
 exact ⟨_,_,_,rfl,SlV.nil _ 1,⟨[],SlV.nil _ 7,by rw[VVs];trivial⟩,⟨_,hsl,by rw[VLs,VLs,VLs,VLs];exact ⟨VL.scal _ true 11 0 0 v.id 0,hc1 _,hc2 _,trivial⟩⟩⟩
end Go.Proofs
namespace Go.Proofs
open Go Go.Vc
open Tryz (prog)
def boolN (b:Bool):UInt64:=if b then 1 else 0
def longN (x:UInt64):UInt64:=toU (IntKind.i64.wrap (x.toNat:Int))
def Qhh (d:QaM) (pos:List Qa9) (empty:List ZU):List SL:=
 [posL pos,
  Qag 4 (toU (IntKind.i16.wrap (d.mana.toNat:Int))) 150,
  Qag 4 (toU (IntKind.i16.wrap (d.hp.toNat:Int))) 100,
  .mk true (YD 11 0 0 d.name) 0,
  Qag 0 (0) 0,
  Qgv d.inventory,
  Qag 1 (toU (d.color.toNat:Int)) 8,
  Qag 1 (0) 0,
  .mk false (YD 15 0 0 []) 0,
  Qgo 5 (d.test4.map testN),
  Qjd d.strings,
  .mk false (YD 16 0 0 []) 0,
  .mk false (YD 15 0 0 []) 0,
  Qgv d.nested,
  emptyL empty,
  Qag 0 (boolN d.bool) 0,
  Qag 6 (toU (IntKind.i32.wrap (d.s32.toNat:Int))) 0,
  Qag 5 (toU (d.u32.toNat:Int)) 0,
  Qag 8 (toU (IntKind.i64.wrap (d.s64.toNat:Int))) 0,
  Qag 7 (d.u64) 0,
  Qag 6 (toU (IntKind.i32.wrap (d.s32a.toNat:Int))) 0,
  Qag 5 (toU (d.u32a.toNat:Int)) 0,
  Qag 8 (toU (IntKind.i64.wrap (d.s64a.toNat:Int))) 0,
  Qag 7 (d.u64a) 0,
  Qgo 0 (d.bools.map boolN),
  Qag 9 (toU (d.f.toNat:Int)) 1078530000,
  Qag 9 (toU (d.f2.toNat:Int)) 1077936128,
  Qag 9 (toU (d.f3.toNat:Int)) 0,
  Qjd d.strings2,
  .mk false (YD 13 0 0 []) 0,
  Qgv d.flex,
  Qgo 5 (d.test5.map testN),
  Qgo 8 (d.longs.map longN),
  Qgo 10 d.doubles,
  .mk d.parent (YD 15 0 0 []) 0,
  idsL d.refs,
  Qag 7 (d.singleWeak) 0,
  Qgo 7 d.weak,
  idsL d.strong,
  Qag 7 (d.coOwning) 0,
  Qgo 7 d.coOwnings,
  Qag 7 (d.nonOwning) 0,
  Qgo 7 d.nonOwnings,
  Qag 1 (0) 0,
  .mk false (YD 15 0 0 []) 0,
  Qag 1 (0) 0,
  .mk false (YD 15 0 0 []) 0,
  Qgv d.enums,
  Qag 2 (toU (IntKind.i8.wrap (d.signedEnum.toNat:Int))) 255]
def QiX (d:QaM) (pos:List Qa9) (empty:List ZU):SV:=.mk 15 0 0 [] [] [] (Qhh d pos empty)
def accF (P:Program) (t:TypeId) (x1:Value) (fld:Nat) (h:Qe) (B:Value->Value->Value->Qe->(Kn)->Prop) (K:Kn):Prop:=
 QA (fun M=>Qf x1 fld fun a=>LdK h a fun s=>Y1 s fun n=>Yu [(.int .i64 0),(.slice none 0 0)] h fun I m=>∀x y:Value,∀h1:Qe,I m [x,y] h1->
  Qj P .lss t x n fun c=>IfK c (B s x y h1 fun y' h3=>Qj P .add t x (.int .i64 1) fun x'=>QQ I m [x',y'] h3) (M [y] h1)) fun M=>∀y:Value,∀h':Qe,M [y] h'->K y h'
theorem accF_of {P:Program} {t:TypeId} {x1 s:Value} {fld:Nat} {h:Qe} {B:Value->Value->Value->Qe->(Kn)->Prop} {K:Kn} {n:Nat} (St:Nat->Kn) (h0:St 0 (.slice none 0 0) h) (hn:n<4611686018427387904)
  (hs:∀k:Value->Prop,k s->Qf x1 fld fun a=>LdK h a k) (hl:∀k:Value->Prop,Y1 s k=k (.int .i64 (n:Nat)))
  (hB:∀i y H (k:Kn),i<n->St i y H->(∀y' H',St (i+1) y' H'->k y' H')->B s (.int .i64 (i:Nat)) y H k) (hK:∀y H,St n y H->K y H):accF P t x1 fld h B K:=by
 refine Q2 (fun vs H=>∃y,vs=[y]/\St n y H) (hs _ ?_) (fun y H hh=>by obtain ⟨y',e,h1⟩:=hh;cases e;exact hK _ H h1)
 rw[hl]
 refine ⟨fun m vs H=>∃i y,vs=[.int .i64 (i:Nat),y]/\i+m=n/\St i y H,⟨n,0,_,rfl,by omega,h0⟩,?_⟩
 rintro m x y H ⟨i,y',hx,hi,hs⟩
 cases hx
 rw[Yw]
 by_cases hlt:i<n
 ·rw[Yj (by omega)]
  refine hB i y H _ hlt hs fun y' H' hs'=>?_
  rw[Q5,wrap_i64 (by omega) (by omega)]
  exact ⟨m-1,by omega,i+1,y',by simp,by omega,hs'⟩
 ·rw[Yb (by omega)]
  have:i=n:=by omega
  subst this
  exact ⟨y,rfl,hs⟩
def boolsB (x99 x101 x10:Value) (h30:Qe) (k:Kn):Prop:=
 Y2 1 x99 x101 fun x103=>LdK h30 x103 fun x104=>QA (fun M11=>IfK x104 (M11 [(.int .u64 1)] h30) (M11 [(.int .u64 0)] h30)) fun M11=>∀x14:Value,∀h31:Qe,M11 [x14] h31->
  Q8 h31 31 1 (YY z31.toList 1) [(0,1,x14)] fun x108 h32=>Qbk h32 31 1 8 z31 x10 x108 k
def longsB (x112 x114 x11:Value) (h35:Qe) (k:Kn):Prop:=
 Y2 1 x112 x114 fun x116=>LdK h35 x116 fun x117=>QG .u64 x117 fun x120=>Q8 h35 31 1 (YY z31.toList 1) [(0,1,x120)] fun x121 h36=>Qbk h36 31 1 8 z31 x11 x121 k
theorem nums_loop {α:Type} {f:α->UInt64} {I:α->List Value} {l:List α} {x1 s:Value} {fld:Nat} {B:Value->Value->Value->Qe->(Kn)->Prop} {G:Cut} {H:Qe} {K:Kn} (hG:G.In H) (hs:SlV G 1 s (l.map I)) (hn:l.length<=50) (hf:∀k:Value->Prop,k s->Qf x1 fld fun a=>LdK H a k)
  (hB:∀i a y H' (k:Kn),l[i]?=some a->G.In H'->(Q8 H' 31 1 (YY z31.toList 1) [(0,1,QO (f a))] fun x h2=>Qbk h2 31 1 8 z31 y x k)->B s (.int .i64 (i:Nat)) y H' k)
  (hK:∀G' H' y,Ext G H G' H'->SlV G' 1 y ((l.map f).map Qce)->K y H'):accF prog 3 x1 fld H B K:=by
 refine accF_of (n:=l.length) (fun i y H'=>Ext G H G H'/\Cur H G H' 31 1 y ((l.take i).map fun t=>Qce (f t)) noBad) ⟨Ext.refl hG,Cur.nil⟩ (by omega) hf (fun k=>by rw[hs.len,List.length_map]) ?_ ?_
 ·rintro i y H' k hlt ⟨e1,hcur⟩ hk
  have ha:=List.getElem?_eq_getElem hlt
  refine hB i l[i] y H' k ha e1.inn ?_
  refine Qd8 e1 hcur (v:=QO (f l[i])) (it:=Qce (f l[i])) rfl rfl (by simp[Qce];rfl) (by decide) rfl (by decide) (by rw[List.length_map,List.length_take];omega) ?_
  intro c' H3 e3 hc3
  refine hk c' H3 ⟨e3,?_⟩
  rw[Qan ha];exact hc3
 ·rintro y H' ⟨e1,hcur⟩
  obtain ⟨G',e',sl,le,_⟩:=hcur.done e1
  rw[List.take_length]at sl
  exact hK G' H' y e' (by rw[List.map_map];exact sl)
end Go.Proofs
