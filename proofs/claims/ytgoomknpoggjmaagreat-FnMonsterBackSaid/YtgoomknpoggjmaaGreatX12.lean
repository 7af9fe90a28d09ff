/- WHAT IS PROVED: the given statement of FnMonsterBack, whatever the input: this is part 12 of 13. No conditions. -/
import Derived.Test.YtgoomknpoggjmaaGreatX11
import Derived.ChangeArms
set_option linter.all false
namespace Go.Proofs
open Go Go.Vc
open Tryz (prog)
theorem fill14 (n0 n1 n2 n3 n4 n5 n6 n7 n8 n9 n10 n11 n12 n13:Int):Z3 (ZB z3.toList 14) [(0,1,.int .i64 n0),(1,1,.int .i64 n1),(2,1,.int .i64 n2),(3,1,.int .i64 n3),(4,1,.int .i64 n4),(5,1,.int .i64 n5),(6,1,.int .i64 n6),(7,1,.int .i64 n7),(8,1,.int .i64 n8),(9,1,.int .i64 n9),(10,1,.int .i64 n10),(11,1,.int .i64 n11),(12,1,.int .i64 n12),(13,1,.int .i64 n13)]=
  some [.int .i64 n0,.int .i64 n1,.int .i64 n2,.int .i64 n3,.int .i64 n4,.int .i64 n5,.int .i64 n6,.int .i64 n7,.int .i64 n8,.int .i64 n9,.int .i64 n10,.int .i64 n11,.int .i64 n12,.int .i64 n13]:=by kernel_rfl
theorem fill5 (s0 s1 s2 s3 s4:List UInt8):Z3 (ZB z9.toList 5) [(0,1,Yw s0),(1,1,Yw s1),(2,1,Yw s2),(3,1,Yw s3),(4,1,Yw s4)]=some [Yw s0,Yw s1,Yw s2,Yw s3,Yw s4]:=by kernel_rfl
theorem fill2 {v w:Value} (hv:v.oneCell'=true) (hw:w.oneCell'=true):Z3 (ZB z24.toList 2) [(0,1,v),(1,1,w)]=some [v,w]:=by
 have h1:=QeR hv
 have h2:=QeR hw
 unfold Z3
 rw[h1,if_pos ⟨rfl,Nat.le_of_ble_eq_true (by kernel_rfl)⟩]
 unfold Z3
 rw[h2,if_pos ⟨rfl,Nat.le_of_ble_eq_true (by kernel_rfl)⟩]
 unfold Z3
 simp[ZB,z24]
theorem or_lss {P:Program} {t:TypeId} {b:Bool} {v:Value} {n:Int} {H:Qe} (hv:v= .int .i64 n) {K:Kn} (hk:K (.bool (b||decide (n<0))) H):
  Qd (.bool b) false (fun k1=>k1 v H) H fun y1 h1=>Qd (.bool b) false (fun k2=>Qr P .lss t y1 (.int .i64 0) fun x=>k2 x h1) h1 fun y2 h2=>Yh (.bool b) (.bool true) y2 fun y=>K y h2:=by
 subst hv
 cases b
 ·rw[Y2]
  dsimp only
  rw[Y2,Yu]
  dsimp only
  rw[Qa7]
  exact hk
 ·rw[Yy,Yy,Yq]
  exact hk
section
variable {H0:Qe} {G:Cut} {H:Qe} {q:Nat} {cells:List Value} {T:TypeId} (o:Yk H0 G H q (.cells cells.toArray T (0,0)))
include o
theorem and_choice {P:Program} {f:FuncId} {i:Nat} {vs:List Value} (hi:(cells.drop i).take 3=vs) (hl:i+3<=cells.length) {xa xq xd:Value} {K:Kn} (hk:FnS P f #[.agg vs.toArray,xa,xq,xd] H fun y h=>Yh (.bool true) y (.bool false) fun z=>K z h):
  Qd (.bool true) true (fun k1=>Qg (ptr q) i fun x=>k1 x H) H fun y1 h1=>Qd (.bool true) true (fun k2=>LdN h1 3 y1 fun x=>k2 x h1) h1 fun y2 h2=>Qd (.bool true) true (fun k3=>k3 xq h2) h2 fun y3 h3=>Qd (.bool true) true (fun k4=>k4 xd h3) h3 fun y4 h4=>
   Qd (.bool true) true (fun k5=>Qb P f #[y2,xa,y3,y4] h4 fun x h=>k5 x h) h4 fun y5 h5=>Yh (.bool true) y5 (.bool false) fun z=>K z h5:=by
 rw[Yb,Qu]
 dsimp only
 rw[Yb,Y3 (n:=3) (vs:=vs) (by rw[Q1 o.get 3 (by simpa using hl),Nat.add_zero];simpa using hi)]
 dsimp only
 rw[Yb]
 dsimp only
 rw[Yb]
 dsimp only
 rw[Yb]
 exact hk
theorem no_choice {P:Program} {f:FuncId} {i:Nat} {xa xq xd:Value} {K:Kn} (hk:K (.bool false) H):
  Qd (.bool false) true (fun k1=>Qg (ptr q) i fun x=>k1 x H) H fun y1 h1=>Qd (.bool false) true (fun k2=>LdN h1 3 y1 fun x=>k2 x h1) h1 fun y2 h2=>Qd (.bool false) true (fun k3=>k3 xq h2) h2 fun y3 h3=>Qd (.bool false) true (fun k4=>k4 xd h3) h3 fun y4 h4=>
   Qd (.bool false) true (fun k5=>Qb P f #[y2,xa,y3,y4] h4 fun x h=>k5 x h) h4 fun y5 h5=>Yh (.bool false) y5 (.bool false) fun z=>K z h5:=by
 rw[Zy,Zy,Zy,Zy,Zy,Qa7]
 exact hk
end
def LensOk (d:QbO) (tables:List GM):Prop:=(d.test4.length<=50/\d.strings.length<=50/\d.bools.length<=50/\d.strings2.length<=50/\d.abilities.length<=50/\d.test5.length<=50/\d.longs.length<=50/\d.doubles.length<=50/\d.refs.length<=50/\d.weak.length<=50/\d.strong.length<=50/\d.coOwnings.length<=50/\d.nonOwnings.length<=50)/\tables.length<=50
set_option maxHeartbeats 1000000 in
set_option maxRecDepth 8000 in
theorem cleanStep {d:QbO} {pos:List Qav} {empty:List QaA} {tables enemy test uniq amb:List GM} (hT:∀k∈tables,Qew k) (hE:∀k∈enemy,Qew k) (hU:∀k∈test,Qew k) (hQ:∀k∈uniq,Qew k) (hA:∀k∈amb,Qew k):Qew (.mk d pos empty tables enemy test uniq amb):=by
 intro G H cells q n deep R hG hv hq hn hn2 hd hd5 hR
 rw[QaC]at hv
 obtain ⟨c,rfl,g,wT,wE,wU,wQ,wA⟩:=hv
 apply w15
 unfold s15
 rw[Q2]
 have e:=Ext.refl hG
 have hne:H.size≠q:=fun h=>by have:=YE hq.get;omega
 have o:=Yk.zero (Yk.fresh e (.cells (Yi d c).toArray 38))
 have e:=e.push (.cells (Yi d c).toArray 38)
 have hq:=hq.push (.cells (Yi d c).toArray 38)
 have kx:KX G q H (H.push (.cells (Yi d c).toArray 38)):=KX.of_ext e
 have e1:=e.inn
 clear e
 simp only[Value.cells]
 generalize H.push (.cells (Yi d c).toArray 38)=H1 at *
 have hst:∀kp:Qe->Prop,StK H1 1 (.pointer (some ⟨q,0,none⟩)) (.int .i64 (n-1)) kp=kp (setB H1 q (left (n-1))):=fun kp=>Qbb hq.get Nat.one_pos (by simp) rfl
 rw[Qt,Ql (v:=.int .i64 n) ((Qj hq.get).trans rfl),Yg,wrap_i64 (by omega) (by omega),Qt,hst]
 clear hst
 have kx:=kx.trans (KX.set e1 hq.out (left (n-1)))
 have o:=o.set_ne hne (left (n-1))
 have hq:=hq.set (left (n-1))
 clear e1
 have hG2:=kx.inn
 generalize setB H1 q (left (n-1))=H2 at *
 obtain ⟨iT,sT,vT⟩:=wT
 obtain ⟨iE,sE,vE⟩:=wE
 have lT:=YN.len vT
 have lE:=YN.len vE
 rw[Qt,Ql (v:=.int .i64 (n-1)) ((Qj hq.get).trans rfl),Yu]
 refine or_lss rfl ?_
 refine or_len o (i:=0) (v:=c.pos) rfl (fun k=>g.pos.len) ?_
 refine or_len o (i:=12) (v:=c.enemy) rfl (fun k=>sE.len) ?_
 refine or_len o (i:=14) (v:=c.empty) rfl (fun k=>g.empty.len) ?_
 refine ZV (fun _=>hR H2 (n-1) false kx hq.get (fun h=>by cases h)) fun hb=>?_
 simp only[Bool.or_eq_false_iff,decide_eq_false_iff_not,List.length_map]at hb
 obtain ⟨⟨⟨⟨b1,b2⟩,b3⟩,b4⟩,b5⟩:=hb
 have b4:enemy.length<=1:=by omega
 have b3:pos.length<=1:=by omega
 have b5:empty.length<=1:=by omega
 have hF:∀h,Ext G H2 G h->R (.bool false) h:=fun h e=>hR h (n-1) false (kx.trans (KX.of_ext e)) (e.keep _ _ hq.get) (fun h=>by cases h)
 have e:=Ext.refl hG2
 refine Q7 (fun _ h=>Ext G H2 G h/\LensOk d tables) ?_ ?_
 ·refine Qy o (i:=9) (v:=c.test4) rfl ?_
  rw[g.test4.len]
  refine Qy o (i:=10) (v:=c.strings) rfl ?_
  rw[g.strings.len]
  refine Qy o (i:=11) (v:=c.tables) rfl ?_
  rw[sT.len]
  refine Qy o (i:=24) (v:=c.bools) rfl ?_
  rw[g.bools.len]
  refine Qy o (i:=28) (v:=c.strings2) rfl ?_
  rw[g.strings2.len]
  refine Qy o (i:=29) (v:=c.abil) rfl ?_
  rw[g.abil.len]
  refine Qy o (i:=31) (v:=c.test5) rfl ?_
  rw[g.test5.len]
  refine Qy o (i:=32) (v:=c.longs) rfl ?_
  rw[g.longs.len]
  refine Qy o (i:=33) (v:=c.doubles) rfl ?_
  rw[g.doubles.len]
  refine Qy o (i:=35) (v:=c.refs) rfl ?_
  rw[g.refs.len]
  refine Qy o (i:=37) (v:=c.weak) rfl ?_
  rw[g.weak.len]
  refine Qy o (i:=38) (v:=c.strong) rfl ?_
  rw[g.strong.len]
  refine Qy o (i:=40) (v:=c.coOwnings) rfl ?_
  rw[g.coOwnings.len]
  refine Qy o (i:=42) (v:=c.nonOwnings) rfl ?_
  rw[g.nonOwnings.len]
  unfold QL
  simp only[fill14]
  refine lens_loop (ns:=[(d.test4.map Ye).length,(d.strings.map QfL).length,iT.length,(d.bools.map QhW).length,(d.strings2.map QfL).length,(d.abilities.map Zc).length,(d.test5.map Ye).length,(d.longs.map i64I).length,(d.doubles.map Qb8).length,(d.refs.map Qb8).length,(d.weak.map Qb8).length,(d.strong.map Qb8).length,(d.coOwnings.map Qb8).length,(d.nonOwnings.map Qb8).length]) Qh rfl (Nat.le_of_ble_eq_true rfl) (hF _ (e.push _)) ?_
  intro y hall
  refine ⟨e.push _,?_⟩
  simp only[List.mem_cons,List.not_mem_nil,or_false,forall_eq_or_imp,forall_eq,List.length_map,<-lT]at hall
  obtain ⟨h1,h2,h3,h4,h5,h6,h7,h8,h9,h10,h11,h12,h13,h14⟩:=hall
  exact ⟨⟨h1,h2,h4,h5,h6,h7,h8,h9,h10,h11,h12,h13,h14⟩,h3⟩
 rintro y1 h ⟨e,hlens⟩
 have o':=o.ext e
 refine Qy o' (i:=3) (v:=Yw d.name) rfl ?_
 refine Qy o' (i:=4) (v:=Yw d.inventory) rfl ?_
 refine Qy o' (i:=13) (v:=Yw d.nested) rfl ?_
 refine Qy o' (i:=30) (v:=Yw d.flex) rfl ?_
 refine Qy o' (i:=49) (v:=Yw d.enums) rfl ?_
 refine Qy o' (i:=10) (v:=c.strings) rfl ?_
 refine Qy o' (i:=28) (v:=c.strings2) rfl ?_
 unfold QL
 simp only[fill5]
 refine Qv (Qam.push _ _).ext ?_
 have e5:=e.push (.cells [Yw d.name,Yw d.inventory,Yw d.nested,Yw d.flex,Yw d.enums].toArray 9)
 have o5:=Yk.fresh e (.cells [Yw d.name,Yw d.inventory,Yw d.nested,Yw d.flex,Yw d.enums].toArray 9)
 have hone:∀{l:List (List UInt8)},∀x∈l.map QfL,∀y∈x,y.oneCell'=true:=fun x hx y hy=>by
  obtain ⟨s,_,rfl⟩:=List.mem_map.1 hx
  simp[QfL]at hy
  rw[hy];rfl
 have hst:d.strings.length<=50:=hlens.1.2.1
 have hst2:d.strings2.length<=50:=hlens.1.2.2.2.1
 refine appN (items:=[d.name,d.inventory,d.nested,d.flex,d.enums].map QfL) (es:=1) e5 (fun x hx=>by obtain ⟨s,_,rfl⟩:=List.mem_map.1 hx;rfl) o5 (Nat.le_refl 5) (Nat.le_refl 5) rfl (Nat.le_refl 5) (by simp) g.strings hone (by decide) (by simp only[List.length_map,List.length_cons,List.length_nil];omega) rfl ?_
 intro v6 H6 e6 c6 k6
 refine Qv (k6 rfl).ext ?_
 clear k6 o5 e5
 obtain ⟨c61,⟨_,c62⟩|⟨b,cc,cs,rfl,own,_,s1,s2,s3,s4,s5⟩⟩:=c6
 ·simp at c62
 refine appN (es:=1) e6 c61 own s1 s2 s3 s4 s5 g.strings2 hone (by decide) (by simp only[List.length_map,List.length_append,List.length_cons,List.length_nil];omega) rfl ?_
 intro v7 H7 e7 c7 _
 rw[<-List.map_append,<-List.map_append]at c7
 clear own s1 s2 s3 s4 s5 c61 e6
 have o7:=o.ext e7
 refine Q7 (fun vs h=>∃y,vs=[y]/\Ext G H2 G h/\Cur H2 G h 9 1 y ((([d.name,d.inventory,d.nested,d.flex,d.enums]++d.strings++d.strings2)++empty.map fun s=>s.id).map QfL) (fun _=>False)) ?_ ?_
 ·refine Qy o7 (i:=14) (v:=c.empty) rfl ?_
  refine emp_loop g.empty b5 e7 c7 (by simp only[List.length_append,List.length_cons,List.length_nil];omega) ?_
  exact fun y h e c=>⟨y,rfl,e,c⟩
 rintro y8 h8 ⟨y8',hy,e8,c8⟩
 cases hy
 obtain ⟨G8,e8',sl8,_,_⟩:=c8.done e8
 refine Q7 (fun _ h=>Ext G H2 G h/\∀s∈(([d.name,d.inventory,d.nested,d.flex,d.enums]++d.strings++d.strings2)++empty.map fun s=>s.id),s.length<=300) ?_ ?_
 ·refine txt_loop e8'.inn sl8 (by simp only[List.length_append,List.length_cons,List.length_nil,List.length_map];omega) (hF _ e8) ?_
  exact fun y hall=>⟨e8,hall⟩
 rintro y9 h9 ⟨e9,htx⟩
 clear c8 sl8 e8' e8 e7 c7 o7 e o'
 have o9:=o.ext e9
 refine Q7 (fun _ h=>Ext G H2 G h) ?_ ?_
 ·refine Qy o9 (i:=0) (v:=c.pos) rfl ?_
  exact pos_loop e9.inn g.pos (by omega) (fun h e=>hF _ (e9.trans e)) (fun y h e=>e9.trans e)
 rintro y10 h10 e10
 have o10:=o.ext e10
 clear o9 e9
 have hdb:d.doubles.length<=50:=hlens.1.2.2.2.2.2.2.2.1
 refine Q7 (fun _ h=>Ext G H2 G h) ?_ ?_
 ·refine Qy o10 (i:=33) (v:=c.doubles) rfl ?_
  exact dbl_loop e10.inn g.doubles (by omega) (hF _ e10) (fun y=>e10)
 rintro y11 h11 e11
 have o11:=o.ext e11
 clear o10 e10
 refine Qy o11 (i:=25) (v:=Zo d.f) rfl ?_
 rw[Zo,QO]
 refine Qi3 (.inl rfl) fun b=>?_
 rw[Ym]
 refine or_flt o11 (.inl rfl) rfl (i:=26) (by rfl) fun b=>?_
 refine or_flt o11 (.inl rfl) rfl (i:=27) (by rfl) fun b=>?_
 refine ZV (fun _=>hF _ e11) fun _=>?_
 have kx:=kx.trans (KX.of_ext e11)
 have hq:=hq.ext e11
 clear e11 hF o
 refine Q7 (fun _ h=>∃k,KX G q H h/\Yk #[] G h q (left k)/\Yk #[] G h H.size (.cells (Yi d c).toArray 38 (0,0))/\Zr tables/\Zr enemy/\(cntL tables:Int)+cntL enemy+k<=n-1/\0<=k) ?_ ?_
 ·refine Qy o11 (i:=11) (v:=c.tables) rfl ?_
  refine Qy o11 (i:=12) (v:=c.enemy) rfl ?_
  simp only[fill2 sT.one sE.one]
  have eb:=(Ext.refl kx.inn).push (.cells [c.tables,c.enemy].toArray 24)
  have ob:=Yk.zero (Yk.fresh (Ext.refl kx.inn) (.cells [c.tables,c.enemy].toArray 24))
  have hbq:h11.size≠q:=fun h=>by have:=YE hq.get;omega
  have kx:=kx.trans (KX.of_ext eb)
  have hq:=hq.ext eb
  have o12:=o11.ext eb
  rw[QbM]
  generalize h11.push (.cells [c.tables,c.enemy].toArray 24)=H12 at *
  refine ⟨fun m vs h=>∃i k y,vs=[.int .i64 (i:Nat),y]/\i+m=2/\KX G q H h/\Yk #[] G h q (left k)/\Yk #[] G h H.size (.cells (Yi d c).toArray 38 (0,0))/\Yk #[] G h h11.size (.cells [c.tables,c.enemy].toArray 24 (0,0))/\(0<i->Zr tables)/\(1<i->Zr enemy)/\((if 0<i then cntL tables else 0:Nat):Int)+((if 1<i then cntL enemy else 0:Nat):Int)+k<=n-1/\0<=k,⟨2,0,n-1,_,rfl,rfl,kx,hq,o12,ob,by omega,by omega,by simp,by omega⟩,?_⟩
  clear kx hq o12 ob eb
  rintro m x y h ⟨i,k,y',hx,him,kx,hq,o12,ob,ct,ce,hc,hk0⟩
  cases hx
  rw[Yu]
  by_cases hlt:i<2
  ·rw[QY (by omega)]
   have hbad:∀h' k',KX G q h h'->h'[q]?=some (left k')->R (.bool false) h':=fun h' k' kx' hq'=>hR h' k' false (kx.trans kx') hq' (fun h=>by cases h)
   refine Q7 (fun vs h=>∃v y k,vs=[v,y]/\KX G q H h/\Yk #[] G h q (left k)/\Yk #[] G h H.size (.cells (Yi d c).toArray 38 (0,0))/\Yk #[] G h h11.size (.cells [c.tables,c.enemy].toArray 24 (0,0))/\(0<i+1->Zr tables)/\(1<i+1->Zr enemy)/\((if 0<i+1 then cntL tables else 0:Nat):Int)+((if 1<i+1 then cntL enemy else 0:Nat):Int)+k<=n-1/\0<=k) ?_ ?_
   ·rw[QP (by omega) (by omega)]
    obtain rfl|rfl:i=0\/i=1:=by omega
    ·rw[Ql (v:=c.tables) ((Qj ob.get).trans rfl)]
     simp only[if_neg (Nat.lt_irrefl 0),if_neg (show ¬1<0 by decide)]at hc
     refine cl_loop (Hs:=h) ⟨iT,sT,vT⟩ hT hlens.2 (by omega) hd5 (KX.of_ext (Ext.refl kx.inn)) hq hk0 (by omega) hbad ?_
     intro y h' k' kx' hq' cl cn k0
     refine ⟨_,_,k',rfl,kx.trans kx',hq',Yk.kx o12 hne kx',Yk.kx ob hbq kx',fun _=>cl,fun h=>absurd h (by decide),?_,k0⟩
     simp only[if_pos (show 0<0+1 by decide),if_neg (show ¬1<0+1 by decide)]
     omega
    ·rw[Ql (v:=c.enemy) ((Qj ob.get).trans rfl)]
     simp only[if_pos (show 0<1 by decide),if_neg (show ¬1<1 by decide)]at hc
     refine cl_loop (Hs:=h) ⟨iE,sE,vE⟩ hE (by omega) (by omega) hd5 (KX.of_ext (Ext.refl kx.inn)) hq hk0 (by omega) hbad ?_
     intro y h' k' kx' hq' cl cn k0
     refine ⟨_,_,k',rfl,kx.trans kx',hq',Yk.kx o12 hne kx',Yk.kx ob hbq kx',fun _=>ct (by decide),fun _=>cl,?_,k0⟩
     simp only[if_pos (show 0<1+1 by decide),if_pos (show 1<1+1 by decide)]
     omega
   ·rintro v y h' ⟨v',y',k',hvs,kx',hq',o12',ob',ct',ce',hc',hk0'⟩
    rw[QE,wrap_i64 (by omega) (by omega)]
    exact ⟨m-1,by omega,i+1,k',y,by simp,by omega,kx',hq',o12',ob',ct',ce',hc',hk0'⟩
  ·rw[QJ (by omega)]
   have:i=2:=by omega
   subst this
   simp only[if_pos (show 0<2 by decide),if_pos (show 1<2 by decide)]at hc
   exact ⟨k,kx,hq,o12,ct (by decide),ce (by decide),hc,hk0⟩
 clear kx hq o11
 rintro y12 h12 ⟨k,kx,hq,o12,ct,ce,hc,hk0⟩
 refine ldn_ok o12 (i:=6) (n:=3) (vs:=[u8n d.testTy,c.test,u8n d.testColor]) rfl (by rw[Y0];decide) ?_
 refine choice_ok kx.inn wU hU hq hk0 (by omega) (by omega) hd5 ?_
 intro h13 k13 b kx13 hq13 hb
 have kx:=kx.trans kx13
 have o13:=Yk.kx o12 hne kx13
 have hF:∀h k,KX G q H h->h[q]?=some (left k)->R (.bool false) h:=fun h' k' kx' hq'=>hR h' k' false kx' hq' (fun h=>by cases h)
 cases b
 ·exact no_choice o13 (no_choice o13 (hF _ _ kx hq13))
 obtain ⟨gU,cU,lU,nU,kU⟩:=hb rfl
 refine and_choice o13 (i:=43) (vs:=[u8n d.uniqTy,c.uniq,u8n d.uniqColor]) rfl (by rw[Y0];decide) ?_
 refine choice_ok kx.inn wQ hQ ⟨hq13,hq.out,Nat.zero_le _⟩ kU (by omega) (by omega) hd5 ?_
 intro h14 k14 b kx14 hq14 hb
 rw[Yq]
 have kx:=kx.trans kx14
 have o14:=Yk.kx o13 hne kx14
 cases b
 ·exact no_choice o14 (hF _ _ kx hq14)
 obtain ⟨gQ,cQ,lQ,nQ,kQ⟩:=hb rfl
 refine and_choice o14 (i:=46) (vs:=[u8n d.ambTy,c.amb,u8n d.ambColor]) rfl (by rw[Y0];decide) ?_
 refine choice_ok kx.inn wA hA ⟨hq14,hq.out,Nat.zero_le _⟩ kQ (by omega) (by omega) hd5 ?_
 intro h15 k15 b kx15 hq15 hb
 rw[Yq]
 have kx:=kx.trans kx15
 cases b
 ·exact hF _ _ kx hq15
 obtain ⟨gA,cA,lA,nA,kA⟩:=hb rfl
 refine hR h15 k15 true kx hq15 fun _=>⟨?_,?_,kA⟩
 ·rw[Qgc]
  refine ⟨⟨b3,b5,hlens.1,?_,fun s hs=>htx s (by simp[hs]),fun s hs=>htx s (by simp[hs]),fun s hs=>htx s.id ?_⟩,⟨hlens.2,b4⟩,⟨gU,gQ,gA⟩,⟨fun h=>cU (.inr h),fun h=>cQ (.inr h),cA (.inl rfl)⟩,ct,ce,lU,lQ,lA⟩
  ·exact ⟨htx _ (by simp),htx _ (by simp),htx _ (by simp),htx _ (by simp),htx _ (by simp)⟩
  ·exact List.mem_append_right _ (List.mem_map.2 ⟨s,hs,rfl⟩)
 ·rw[cntM];omega
mutual
theorem Clean_all:∀g:GM,Qew g
 |.mk d pos empty tables enemy test uniq amb=>cleanStep (QdP tables) (QdP enemy) (QdP test) (QdP uniq) (QdP amb)
theorem QdP:∀gs:List GM,∀k∈gs,Qew k
 |[],k,h=>by simp at h
 |g::gs,k,h=>by
  rcases List.mem_cons.1 h with h|h
  ·rw[h];exact Clean_all g
  ·exact QdP gs k h
end
theorem monsterClean_ok {G:Cut} {H:Qe} (hG:G.In H) {g:GM} {cells:List Value} (hv:QaC G g cells) {R:Kn} (hR:∀(b:Bool) H',Ext G H G H'->(b=true->Qgc g/\cntM g<=20)->R (.bool b) H'):FnS prog 5 #[.agg cells.toArray] H R:=by
 apply w5
 unfold s5
 rw[Q2,Q2]
 have e:=Ext.refl hG
 have o:Yk H G (H.push (.cells (Value.agg cells.toArray).cells 38)) H.size (.cells cells.toArray 38 (0,0)):=Yk.fresh e _
 have e:=e.push (.cells (Value.agg cells.toArray).cells 38)
 generalize H.push (.cells (Value.agg cells.toArray).cells 38)=H1 at *
 have o2:Yk H G (H1.push (.cells z3 3)) H1.size (left 0):=Yk.fresh e _
 have o0:=o
 have o:=o.push (.cells z3 3)
 have hs:H.size<=H1.size:=e.keep.size
 have hne:H.size≠H1.size:=fun h=>by have:=YE o0.get;omega
 have e:=e.push (.cells z3 3)
 generalize H1.push (.cells z3 3)=H2 at *
 have hst:∀kp:Qe->Prop,StK H2 1 (.pointer (some ⟨H1.size,0,none⟩)) (.int .i64 20) kp=kp (setB H2 H1.size (left 20)):=fun kp=>Qbb o2.get Nat.one_pos (by simp) rfl
 rw[hst]
 clear hst
 have e:=e.set o2.out o2.new (left 20)
 have o:=o.set_ne hne (left 20)
 have o2:=o2.set (left 20)
 generalize setB H2 H1.size (left 20)=H3 at *
 rw[Y3 (n:=51) (vs:=cells) (by rw[Q1 o.get 51 (by simp[hv.len])];simp[<-hv.len])]
 refine Clean_all g G H3 cells H1.size 20 5 _ e.inn hv (Yk.zero o2) (by decide) (by decide) (by decide) (by decide) ?_
 intro H4 k b kx hq hb
 refine hR b H4 ⟨fun b o hbo=>?_,kx.inn,e.le,fun _ _=>rfl⟩ fun h=>?_
 ·exact kx.keep b o (fun h=>by have:=YE hbo;omega) (e.keep b o hbo)
 ·obtain ⟨h1,h2,h3⟩:=hb h
  exact ⟨h1,by omega⟩
end Go.Proofs
namespace Go.Proofs
open Go Go.Vc
open Tryz (prog)
theorem read_single (x:Nat) (hx:x<4294967296):
  (x%2147483648<8388608/\Ieee.single.read x= .number (x/2147483648%2==1) (x%2147483648) (-149))\/
  (8388608<=x%2147483648/\x%2147483648<2139095040/\Ieee.single.read x= .number (x/2147483648%2==1) (8388608+x%2147483648%8388608) (-149+((x%2147483648/8388608-1:Nat):Int)))\/
  (x%2147483648=2139095040/\Ieee.single.read x= .infinity (x/2147483648%2==1))\/Ieee.single.read x= .nan (x/2147483648%2==1) (x%2147483648-2139095040):=by
 have hs:Ieee.single.signWeight=2147483648:=by decide
 have hb:Ieee.single.binade=8388608:=by decide
 have hi:Ieee.single.infRung=2139095040:=by decide
 have hl:Ieee.single.leastPlace=-149:=by decide
 unfold Ieee.Format.read
 rw[hs,hb,hi,hl]
 by_cases h1:x%2147483648<8388608
 ·simp[h1]
 ·by_cases h2:x%2147483648<2139095040
  ·right;left
   exact ⟨by omega,h2,by simp only[if_neg h1,if_pos h2]⟩
  ·by_cases h3:x%2147483648=2139095040
   ·right;right;left
    exact ⟨h3,by simp only[if_neg h1,if_neg h2,if_pos h3]⟩
   ·right;right;right
    simp only[if_neg h1,if_neg h2,if_neg h3]
theorem cmp_int {a b:Int} (h:some (compare a b)=some Ordering.eq):a=b:=by
 have h:compare a b= .eq:=by simpa using h
 exact Std.LawfulEqCmp.eq_of_compare h
theorem pow_two_le {k:Nat} (h:0<k):∃t,0<t/\2^k=2*t:=by
 obtain ⟨j,rfl⟩:∃j,k=j+1:=⟨k-1,by omega⟩
 exact ⟨2^j,Nat.pos_of_ne_zero (by simp),by rw[Nat.pow_succ,Nat.mul_comm]⟩
theorem order_norm {x M E:Nat} (hx:x<4294967296) (hM:8388608<=M) (hM2:M<16777216) (h:(Ieee.single.read x).order (.number false M (-149+(E:Int)))=some .eq):x=(E+1)*8388608+(M-8388608):=by
 rcases read_single x hx with ⟨h1,h2⟩|⟨h1,h2,h3⟩|⟨h1,h2⟩|h1
 ·rw[h2]at h
  have h:=cmp_int h
  have e1:((-149:Int)-min (-149) (-149+(E:Int))).toNat=0:=by omega
  have e2:((-149+(E:Int))-min (-149) (-149+(E:Int))).toNat=E:=by omega
  rw[e1,e2]at h
  simp only[Ieee.signed,Nat.shiftLeft_eq,Nat.pow_zero,Nat.mul_one,Bool.false_eq_true,if_false]at h
  have hE:0<2^E:=Nat.pos_of_ne_zero (by simp)
  have hm:M<=M*2^E:=Nat.le_mul_of_pos_right _ hE
  generalize M*2^E=Z at *
  split at h<;>omega
 ·rw[h3]at h
  have h:=cmp_int h
  generalize hE':x%2147483648/8388608-1=E' at *
  generalize hM':x%2147483648%8388608=M' at *
  have hM'2:M'<8388608:=by omega
  rcases Nat.lt_trichotomy E' E with hlt|heq|hgt
  ·have e1:((-149+(E':Int))-min (-149+(E':Int)) (-149+(E:Int))).toNat=0:=by omega
   have e2:((-149+(E:Int))-min (-149+(E':Int)) (-149+(E:Int))).toNat=E-E':=by omega
   rw[e1,e2]at h
   obtain ⟨t,ht,hp⟩:=pow_two_le (k:=E-E') (by omega)
   simp only[Ieee.signed,Nat.shiftLeft_eq,Nat.pow_zero,Nat.mul_one,Bool.false_eq_true,if_false,hp]at h
   have hm:M*(2*1)<=M*(2*t):=Nat.mul_le_mul_left _ (by omega)
   generalize M*(2*t)=Z at *
   split at h<;>omega
  ·subst heq
   have e1:((-149+(E':Int))-min (-149+(E':Int)) (-149+(E':Int))).toNat=0:=by omega
   rw[e1]at h
   simp only[Ieee.signed,Nat.shiftLeft_eq,Nat.pow_zero,Nat.mul_one,Bool.false_eq_true,if_false]at h
   split at h
   ·omega
   ·rename_i hs
    have:x/2147483648%2≠1:=by simpa using hs
    omega
  ·have e1:((-149+(E':Int))-min (-149+(E':Int)) (-149+(E:Int))).toNat=E'-E:=by omega
   have e2:((-149+(E:Int))-min (-149+(E':Int)) (-149+(E:Int))).toNat=0:=by omega
   rw[e1,e2]at h
   obtain ⟨t,ht,hp⟩:=pow_two_le (k:=E'-E) (by omega)
   simp only[Ieee.signed,Nat.shiftLeft_eq,Nat.pow_zero,Nat.mul_one,Bool.false_eq_true,if_false,hp]at h
   have hm:(8388608+M')*(2*1)<=(8388608+M')*(2*t):=Nat.mul_le_mul_left _ (by omega)
   generalize (8388608+M')*(2*t)=Z at *
   split at h<;>omega
 ·rw[h2]at h
  simp only[Ieee.Datum.order]at h
  split at h<;>cases h
 ·rw[h1]at h
  cases h
theorem order_zero {x:Nat} (hx:x<4294967296) (h:(Ieee.single.read x).order (.number false 0 (-149))=some .eq):x=0\/x=2147483648:=by
 rcases read_single x hx with ⟨h1,h2⟩|⟨h1,h2,h3⟩|⟨h1,h2⟩|h1
 ·rw[h2]at h
  have h:=cmp_int h
  simp only[Ieee.signed,Nat.shiftLeft_eq,Nat.pow_zero,Nat.mul_one,Nat.zero_mul,Bool.false_eq_true,if_false]at h
  have e1:((-149:Int)-min (-149) (-149)).toNat=0:=by omega
  rw[e1]at h
  split at h<;>omega
 ·rw[h3]at h
  have h:=cmp_int h
  generalize hE':x%2147483648/8388608-1=E' at *
  simp only[Ieee.signed,Nat.shiftLeft_eq,Nat.pow_zero,Nat.mul_one,Nat.zero_mul,Bool.false_eq_true,if_false]at h
  generalize hk:((-149+(E':Int))-min (-149+(E':Int)) (-149)).toNat=k at *
  have hE:0<2^k:=Nat.pos_of_ne_zero (by simp)
  have hm:8388608+x%2147483648%8388608<=(8388608+x%2147483648%8388608)*2^k:=Nat.le_mul_of_pos_right _ hE
  generalize (8388608+x%2147483648%8388608)*2^k=Z at *
  split at h<;>omega
 ·rw[h2]at h
  simp only[Ieee.Datum.order]at h
  split at h<;>cases h
 ·rw[h1]at h
  cases h
theorem flU_1 (x:UInt32):flU x 1078530000=x:=by
 unfold flU
 split
 ·rename_i h
  have hr:Ieee.single.read (1078530000:UInt32).toNat= .number false 13176784 (-149+((127:Nat):Int)):=by decide
  have h:(Ieee.single.read x.toNat).order (Ieee.single.read (1078530000:UInt32).toNat)=some .eq:=h
  rw[hr]at h
  have:=order_norm x.toNat_lt (by decide) (by decide) h
  exact UInt32.toNat_inj.1 (by rw[this];decide)
 ·rfl
theorem flU_2 (x:UInt32):flU x 1077936128=x:=by
 unfold flU
 split
 ·rename_i h
  have hr:Ieee.single.read (1077936128:UInt32).toNat= .number false 12582912 (-149+((127:Nat):Int)):=by decide
  have h:(Ieee.single.read x.toNat).order (Ieee.single.read (1077936128:UInt32).toNat)=some .eq:=h
  rw[hr]at h
  have:=order_norm x.toNat_lt (by decide) (by decide) h
  exact UInt32.toNat_inj.1 (by rw[this];decide)
 ·rfl
theorem flU_3 (x:UInt32):flU x 0=negZ x:=by
 unfold flU negZ
 have hr:Ieee.single.read (0:UInt32).toNat= .number false 0 (-149):=by decide
 split
 ·rename_i h
  have h:(Ieee.single.read x.toNat).order (Ieee.single.read (0:UInt32).toNat)=some .eq:=h
  rw[hr]at h
  rcases order_zero x.toNat_lt h with h|h
  ·have:x=0:=UInt32.toNat_inj.1 (by rw[h];rfl)
   rw[this];rfl
  ·have:x=2147483648:=UInt32.toNat_inj.1 (by rw[h];rfl)
   rw[this];rfl
 ·rename_i h
  rw[if_neg]
  intro hx
  subst hx
  exact h (by decide)
mutual
theorem Qgc.small:∀{g:GM},Qgc g->QbE g
 |.mk d pos empty tables enemy test uniq amb,h=>by
  rw[Qgc]at h
  obtain ⟨h1,⟨h2,h3⟩,⟨h4,h5,h6⟩,_,c1,c2,c3,c4,c5⟩:=h
  rw[QbE]
  exact ⟨h1,h2,h3,h4,h5,h6,Zr.small c1,Zr.small c2,Zr.small c3,Zr.small c4,Zr.small c5⟩
theorem Zr.small:∀{gs:List GM},Zr gs->Zj gs
 |[],_=>by rw[Zj];trivial
 |g::gs,h=>by
  rw[Zr]at h
  rw[Zj]
  exact ⟨Qgc.small h.1,Zr.small h.2⟩
end
theorem GUn.le {amb:Bool} {ty:UInt8} {n:Nat} (h:GUn amb ty n):n<=1:=by
 rcases h with ⟨_,h⟩|⟨_,⟨_,_,h⟩|⟨_,h⟩⟩<;>omega
mutual
theorem QbE.len:∀{g:GM},QbE g->LenM g
 |.mk d pos empty tables enemy test uniq amb,h=>by
  rw[QbE]at h
  obtain ⟨h1,h2,h3,h4,h5,h6,c1,c2,c3,c4,c5⟩:=h
  obtain ⟨a1,a2,a3,a4,a5,a6,a7,a8,a9,a10,a11,a12,a13⟩:=h1.lists
  have p1:=h1.npos
  have p2:=h1.nempty
  have u1:=h4.le
  have u2:=h5.le
  have u3:=h6.le
  rw[LenM]
  exact ⟨⟨by omega,by omega,a1,a5,a6,h2,by omega,by omega,by omega,by omega⟩,⟨a2,a3,a4,a7,a8,a9,a10,a11,a12,a13⟩,Zj.len c1,Zj.len c2,Zj.len c3,Zj.len c4,Zj.len c5⟩
theorem Zj.len:∀{gs:List GM},Zj gs->Qho gs
 |[],_=>by rw[Qho];trivial
 |g::gs,h=>by
  rw[Zj]at h
  rw[Qho]
  exact ⟨QbE.len h.1,Zj.len h.2⟩
end
theorem QgJ (gs:List GM):(QbT gs).length=gs.length:=by rw[QgM,List.length_map]
mutual
theorem Qi8:∀{g:GM},LenM g->LenM (Qj7 g)
 |.mk d pos empty tables enemy test uniq amb,h=>by
  rw[LenM]at h
  obtain ⟨h1,h2,c1,c2,c3,c4,c5⟩:=h
  rw[Qj7,LenM]
  simp only[QgJ]
  exact ⟨h1,h2,QdO c1,QdO c2,QdO c3,QdO c4,QdO c5⟩
theorem QdO:∀{gs:List GM},Qho gs->Qho (QbT gs)
 |[],_=>by rw[QbT,Qho];trivial
 |g::gs,h=>by
  rw[Qho]at h
  rw[QbT,Qho]
  exact ⟨Qi8 h.1,QdO h.2⟩
end
mutual
def NormM:GM->Prop
 |.mk d pos empty tables enemy test uniq amb=>(d.pos=pos.head?/\d.empty=empty.head?)/\Qi9 tables/\Qi9 enemy/\Qi9 test/\Qi9 uniq/\Qi9 amb
def Qi9:List GM->Prop
 |[]=>True
 |g::gs=>NormM g/\Qi9 gs
end
theorem head_toList {α:Type} {l:List α} (h:l.length<=1):l.head?.toList=l:=by
 match l,h with
 |[],_=>rfl
 |[a],_=>rfl
theorem rd1_le:∀{ms:List Mon},ms.length<=1->rd1 ms=rdMs ms
 |[],_=>by rw[rd1,rdMs]
 |[m],_=>by rw[rd1,rdMs,rdMs]
theorem QhY (gs:List GM):(QbG gs).length=gs.length:=by rw[QhP,List.length_map]
theorem colR_clean {ty color:UInt8} (h:ty≠2->color=0):QhB false ty color=color:=by
 unfold QhB
 split
 ·rfl
 ·rename_i h'
  exact (h fun e=>h' ⟨rfl,e⟩).symm
theorem rdU_clean {amb:Bool} {ty:UInt8} {gs:List GM} (h:GUn amb ty gs.length):rdU amb ty gs=gs:=by
 unfold rdU
 split
 ·rename_i h'
  rcases h with ⟨_,h⟩|⟨h0,⟨_,_,h⟩|⟨h1,h⟩⟩
  ·exact (List.eq_nil_of_length_eq_zero h).symm
  ·exact (List.eq_nil_of_length_eq_zero h).symm
  ·exfalso
   rcases h' with h'|⟨h2,h3⟩
   ·exact h0 h'
   ·rcases h1 with h1|⟨h1,_⟩
    ·rw[h3]at h1;cases h1
    ·rw[h1]at h2;cases h2
 ·rfl
mutual
theorem rd_clean:∀{g:GM},Qgc g->NormM g->rdM (toM g)=Qj7 g
 |.mk d pos empty tables enemy test uniq amb,h,hn=>by
  rw[Qgc]at h
  obtain ⟨h1,⟨h2,h3⟩,⟨h4,h5,h6⟩,⟨k1,k2,k3⟩,c1,c2,c3,c4,c5⟩:=h
  rw[NormM]at hn
  obtain ⟨⟨n1,n2⟩,m1,m2,m3,m4,m5⟩:=hn
  rw[toM,rdM,Qj7,rd1_le (by rw[QhY];exact h3),rd1_le (by rw[QhY];exact h4.le),rd1_le (by rw[QhY];exact h5.le),rd1_le (by rw[QhY];exact h6.le),
   Qf1 c1 m1,Qf1 c2 m2,Qf1 c3 m3,Qf1 c4 m4,Qf1 c5 m5,rdU_clean (by rw[QgJ];exact h4),rdU_clean (by rw[QgJ];exact h5),rdU_clean (by rw[QgJ];exact h6)]
  simp only[head_toList h1.npos,head_toList h1.nempty]
  congr 1
  unfold rdD
  simp only[flU_1,flU_2,flU_3,colR_clean k1,colR_clean k2,<-n1,<-n2]
  have:QhB true d.ambTy d.ambColor=d.ambColor:=by
   unfold QhB
   rw[if_neg (by simp),k3]
  rw[this]
theorem Qf1:∀{gs:List GM},Zr gs->Qi9 gs->rdMs (QbG gs)=QbT gs
 |[],_,_=>by rw[QbG,rdMs,QbT]
 |g::gs,h,hn=>by
  rw[Zr]at h
  rw[Qi9]at hn
  rw[QbG,rdMs,QbT,rd_clean h.1 hn.1,Qf1 h.2 hn.2]
end
theorem sum_le {l:List (List UInt8)} (h:∀s∈l,s.length<=300):(l.map List.length).sum<=300*l.length:=by
 induction l with
 |nil=>simp
 |cons a l ih=>
  have:=ih (fun s hs=>h s (List.mem_cons_of_mem _ hs))
  have:=h a List.mem_cons_self
  simp only[List.map_cons,List.sum_cons,List.length_cons]
  omega
mutual
theorem cost_le:∀{g:GM},QbE g->QcV (toM g)<=90000*cntM g
 |.mk d pos empty tables enemy test uniq amb,h=>by
  rw[QbE]at h
  obtain ⟨h1,h2,h3,h4,h5,h6,c1,c2,c3,c4,c5⟩:=h
  obtain ⟨a1,a2,a3,a4,a5,a6,a7,a8,a9,a10,a11,a12,a13⟩:=h1.lists
  obtain ⟨b1,b2,b3,b4,b5⟩:=h1.texts
  have s1:=sum_le h1.strings
  have s2:=sum_le h1.strings2
  have s3:Qia empty.head?<=300:=by
   cases empty with
   |nil=>exact Nat.zero_le _
   |cons a l=>exact h1.stat a List.mem_cons_self
  have d1:Qid {d with pos:=pos.head?,empty:=empty.head?}<=80000:=by
   unfold Qid
   simp only
   omega
  have e1:=QgN c1
  have e2:=QgN c2
  have e3:=QgN c3
  have e4:=QgN c4
  have e5:=QgN c5
  rw[toM,QcV,cntM,QhY]
  clear s1 s2 s3 a1 a2 a3 a4 a5 a6 a7 a8 a9 a10 a11 a12 a13 b1 b2 b3 b4 b5
  omega
theorem QgN:∀{gs:List GM},Zj gs->Qa5 (QbG gs)<=90000*cntL gs
 |[],_=>by rw[QbG,Qa5,cntL];omega
 |g::gs,h=>by
  rw[Zj]at h
  have e1:=cost_le h.1
  have e2:=QgN h.2
  rw[QbG,Qa5,cntL]
  omega
end
end Go.Proofs
namespace Go.Proofs
open Go Go.Vc
open Tryz (prog)
theorem In.keep {G:Cut} {H H':Qe} (h:G.In H) (k:Qam H H'):G.In H':=fun b o hb=>k b o (h b o hb)
theorem pack_facts {g:GM} (hs:QbE g) (hc:cntM g<=20):QcV (toM g)<=400000000/\RootRd (Qa3 (toM g)) (toM g)/\(Qa3 (toM g)).length<2147483648:=by
 have h1:=cost_le hs
 have h2:=packAll_len (toM g)
 exact ⟨by omega,packAll_rd (WfM_of hs) (by omega),by omega⟩
def orcD:QbO:={pos:=none,mana:=150,hp:=80,name:=[111,114,99],inventory:=[],color:=0,testTy:=0,testColor:=0,test4:=[],strings:=[],nested:=[],empty:=none,bool:=false,s32:=0,u32:=0,s64:=0,u64:=0,s32a:=0,u32a:=0,s64a:=0,u64a:=0,bools:=[],f:=0,f2:=0,f3:=0,strings2:=[],abilities:=[],flex:=[],test5:=[],longs:=[],doubles:=[],parent:=false,refs:=[],singleWeak:=0,weak:=[],strong:=[],coOwning:=0,coOwnings:=[],nonOwning:=0,nonOwnings:=[],uniqTy:=0,uniqColor:=0,ambTy:=0,ambColor:=0,enums:=[],signedEnum:=0}
def nilGV:GV:=⟨.slice none 0 0,.slice none 0 0,.slice none 0 0,.slice none 0 0,.slice none 0 0,.slice none 0 0,.slice none 0 0,.slice none 0 0,.slice none 0 0,.slice none 0 0,.slice none 0 0,.slice none 0 0,.slice none 0 0,.slice none 0 0,.slice none 0 0,.slice none 0 0,.slice none 0 0,.slice none 0 0,.slice none 0 0,.slice none 0 0⟩
def orc:GM:=.mk orcD [] [] [] [] [] [] []
theorem fill_orc:Z3 z52.toList [(3,1,(.string ⟨#[111,114,99]⟩)),(2,1,(.int .i16 80)),(1,1,(.int .i16 150))]=some (Yi orcD nilGV):=by kernel_rfl
theorem orc_val (G:Cut):QaC G orc (Yi orcD nilGV):=by
 have n:∀es,SlV G es (.slice none 0 0) []:=SlV.nil G
 unfold orc
 rw[QaC]
 exact ⟨nilGV,rfl,⟨n _,n _,n _,n _,n _,n _,n _,n _,n _,n _,n _,n _,n _,n _,n _⟩,⟨[],n _,by rw[YN];trivial⟩,⟨[],n _,by rw[YN];trivial⟩,⟨[],n _,by rw[YN];trivial⟩,⟨[],n _,by rw[YN];trivial⟩,⟨[],n _,by rw[YN];trivial⟩⟩
theorem orc_small:QbE orc:=by
 unfold orc
 rw[QbE]
 refine ⟨⟨by decide,by decide,by decide,by decide,by decide,by decide,by simp⟩,by decide,by decide,Or.inl ⟨rfl,rfl⟩,Or.inl ⟨rfl,rfl⟩,Or.inl ⟨rfl,rfl⟩,?_⟩
 simp only[Zj,and_self]
theorem orc_cnt:cntM orc<=20:=by
 unfold orc
 simp[cntM,cntL]
theorem awake_ok {G:Cut} {H:Qe} (hG:G.In H) {R:Kn} (hR:∀H',Qam H H'->R (.bool true) H'):FnS prog 6 #[] H R:=by
 apply w6
 unfold s6
 have hf:=fill_orc
 unfold QA
 simp only[hf]
 obtain ⟨h1,h2,h3⟩:=pack_facts orc_small orc_cnt
 refine QgZ (n:=0) hG (orc_val G) orc_small h1 (by decide) ?_
 intro H1 k1
 rw[Qhs,Qh9]
 refine MonsterRead_ok h2 h3 (In.keep hG k1) ?_
 intro G2 H2 cells e2 hv2
 have k2:=k1.trans e2.keep
 have hl:=hv2.len
 have hone:=QaC.one hv2
 obtain ⟨d,c,rfl,hd⟩:∃d c,cells=Yi d c/\d.name=[111,114,99]/\d.hp=80/\d.mana=150:=by
  unfold orc at hv2
  rw[toM,rdM,QaC]at hv2
  obtain ⟨c,h,_⟩:=hv2
  exact ⟨_,c,h,rfl,rfl,rfl⟩
 obtain ⟨hd1,hd2,hd3⟩:=hd
 rw[Qhs,Qh9,Q2]
 have e3:=(Ext.refl e2.inn).push (.cells z52 52)
 have o3:=Yk.fresh (Ext.refl e2.inn) (.cells z52 52)
 have k3:=k2.trans e3.keep
 generalize H2.push (.cells z52 52)=H3 at *
 rw[Yf (n:=51) (c':=(Yi d c).toArray) o3.get rfl (by simpa using hl) (by decide) (by simpa using hone)]
 have k4:=(k2.trans ((e3.set o3.out o3.new (.cells (Yi d c).toArray 52)).keep))
 have o4:=o3.set (.cells (Yi d c).toArray 52)
 generalize setB H3 H2.size (.cells (Yi d c).toArray 52)=H4 at *
 have l1:∀k:Value->Prop,LdK H4 (.pointer (some ⟨H2.size,1,none⟩)) k=k (Qbd d.mana):=fun k=>Ql ((Qj o4.get).trans rfl)
 have l2:∀k:Value->Prop,LdK H4 (.pointer (some ⟨H2.size,2,none⟩)) k=k (Qbd d.hp):=fun k=>Ql ((Qj o4.get).trans rfl)
 have l3:∀k:Value->Prop,LdK H4 (.pointer (some ⟨H2.size,3,none⟩)) k=k (Yw d.name):=fun k=>Ql ((Qj o4.get).trans rfl)
 rw[hd3]at l1
 rw[hd2]at l2
 rw[hd1]at l3
 have bs:∀k:Value->Prop,Qr prog .eql 9 (Yw [111,114,99]) (.string ⟨#[111,114,99]⟩) k=k (.bool true):=fun k=>eq_str k
 have b80:∀k:Value->Prop,Qr prog .eql 23 (Qbd 80) (.int .i16 80) k=k (.bool true):=fun k=>QbF k
 have b150:∀k:Value->Prop,Qr prog .eql 23 (Qbd 150) (.int .i16 150) k=k (.bool true):=fun k=>QbF k
 simp only[Yb,Yq,Qu,l1,l2,l3,bs,b80,b150]
 exact hR _ k4
end Go.Proofs
namespace Go.Proofs
open Go Go.Vc
open Tryz (prog)
theorem wf_u8 {n:Int} (h:(Lit.int .u8 n).wf=true):∃x:UInt8,Value.int .u8 n=u8n x:=by
 simp[Lit.wf,IntKind.min,IntKind.max,IntKind.bits,IntKind.signed]at h
 refine ⟨UInt8.ofNat n.toNat,?_⟩
 simp only[u8n,UInt8.toNat_ofNat']
 congr 1;omega
theorem wf_u16 {n:Int} (h:(Lit.int .u16 n).wf=true):∃x:UInt16,Value.int .u16 n=u16V x:=by
 simp[Lit.wf,IntKind.min,IntKind.max,IntKind.bits,IntKind.signed]at h
 refine ⟨UInt16.ofNat n.toNat,?_⟩
 simp only[u16V,UInt16.toNat_ofNat']
 congr 1;omega
theorem wf_u32 {n:Int} (h:(Lit.int .u32 n).wf=true):∃x:UInt32,Value.int .u32 n=Zo x:=by
 simp[Lit.wf,IntKind.min,IntKind.max,IntKind.bits,IntKind.signed]at h
 refine ⟨UInt32.ofNat n.toNat,?_⟩
 simp only[Zo,UInt32.toNat_ofNat']
 congr 1;omega
theorem wf_u64 {n:Int} (h:(Lit.int .u64 n).wf=true):∃x:UInt64,Value.int .u64 n=Za x:=by
 simp[Lit.wf,IntKind.min,IntKind.max,IntKind.bits,IntKind.signed]at h
 refine ⟨UInt64.ofNat n.toNat,?_⟩
 simp only[Za,UInt64.toNat_ofNat']
 congr 1;omega
theorem wf_i8 {n:Int} (h:(Lit.int .i8 n).wf=true):∃x:UInt8,Value.int .i8 n=i8V x:=by
 simp[Lit.wf,IntKind.min,IntKind.max,IntKind.bits,IntKind.signed]at h
 refine ⟨UInt8.ofNat (n%256).toNat,?_⟩
 simp only[i8V,UInt8.toNat_ofNat',IntKind.wrap,IntKind.bits,IntKind.signed]
 congr 1;simp;omega
theorem wf_i16 {n:Int} (h:(Lit.int .i16 n).wf=true):∃x:UInt16,Value.int .i16 n=Qbd x:=by
 simp[Lit.wf,IntKind.min,IntKind.max,IntKind.bits,IntKind.signed]at h
 refine ⟨UInt16.ofNat (n%65536).toNat,?_⟩
 simp only[Qbd,UInt16.toNat_ofNat',IntKind.wrap,IntKind.bits,IntKind.signed]
 congr 1;simp;omega
theorem wf_i32 {n:Int} (h:(Lit.int .i32 n).wf=true):∃x:UInt32,Value.int .i32 n=QeW x:=by
 simp[Lit.wf,IntKind.min,IntKind.max,IntKind.bits,IntKind.signed]at h
 refine ⟨UInt32.ofNat (n%4294967296).toNat,?_⟩
 simp only[QeW,UInt32.toNat_ofNat',IntKind.wrap,IntKind.bits,IntKind.signed]
 congr 1;simp;omega
theorem wf_i64 {n:Int} (h:(Lit.int .i64 n).wf=true):∃x:UInt64,Value.int .i64 n=Qdh x:=by
 simp[Lit.wf,IntKind.min,IntKind.max,IntKind.bits,IntKind.signed]at h
 refine ⟨UInt64.ofNat (n%18446744073709551616).toNat,?_⟩
 simp only[Qdh,UInt64.toNat_ofNat',IntKind.wrap,IntKind.bits,IntKind.signed]
 congr 1;simp;omega
theorem QhM {α β:Type} {f:α->β}:∀{items:List β},(∀it∈items,∃a,it=f a)->∃l:List α,items=l.map f
 |[],_=>⟨[],rfl⟩
 |x::xs,h=>by
  obtain ⟨a,ha⟩:=h x List.mem_cons_self
  obtain ⟨l,hl⟩:=QhM (items:=xs) (fun it hi=>h it (List.mem_cons_of_mem _ hi))
  exact ⟨a::l,by rw[ha,hl];rfl⟩
theorem QN {cs:List Value} {i:Nat} {v:Value} (h:(cs.drop i).take 1=[v]):cs[i]?=some v:=by
 have:((cs.drop i).take 1)[0]?=some v:=by rw[h];rfl
 rw[List.getElem?_take_of_lt (by decide),List.getElem?_drop]at this
 simpa using this
theorem QfE {cs ds:List Value} {i n j:Nat} (h:(cs.drop i).take n=ds) (hj:j<n):cs[i+j]?=ds[j]?:=by
 rw[<-h,List.getElem?_take_of_lt hj,List.getElem?_drop]
def Cut.of (H:Qe):Cut:=fun b=>H[b]?
theorem Cut.of_in (H:Qe):(Cut.of H).In H:=fun _ _ h=>h
section
variable {E:Type} {enc:TypeId×Value->E} {P:Program} {w:World} {base:Nat} {spare:Nat->Bool} {held:Bool}
theorem Yr {fuel:Nat} {t:TypeId} {fs:Array Field} {cs:List Value} {x:DataW E×List MemPlace} (ht:P.underlying t=some (.struct fs)) (h:DataW.trod enc P w base spare held fuel t cs=some x) {i ty off n:Nat} (hi:(fs[i]?).map (fun f=>(f.type,f.offset,P.cellsOf f.type))=some (ty,off,n)):
  ∃m y,m<fuel/\DataW.trod enc P w base spare held m ty ((cs.drop off).take n)=some y:=by
 obtain ⟨xs,m,rfl,_,_,hx,hf⟩:=DataW.trod_struct ht h
 cases hfi:fs[i]? with
 |none=>rw[hfi]at hi;cases hi
 |some f=>
  rw[hfi]at hi
  simp only[Option.map_some,Option.some.injEq,Prod.mk.injEq]at hi
  obtain ⟨rfl,rfl,rfl⟩:=hi
  have h1:=hf i f hfi
  have hl:i<xs.length:=by
   rw[hx]
   rcases Nat.lt_or_ge i fs.size with hh|hh
   ·exact hh
   ·rw[Array.getElem?_eq_none hh]at hfi;cases hfi
  rw[List.getElem?_eq_getElem hl]at h1
  exact ⟨m,_,Nat.lt_succ_self m,h1⟩
theorem Qie {fuel:Nat} {t:TypeId} {fs:Array Field} {cs:List Value} {x:DataW E×List MemPlace} (ht:P.underlying t=some (.struct fs)) (h:DataW.trod enc P w base spare held fuel t cs=some x) {n:Nat} (hn:P.cellsOf t=n):cs.length=n:=by
 obtain ⟨xs,m,rfl,_,hl,_⟩:=DataW.trod_struct ht h
 rw[hl,hn]
theorem flat_range {f:Nat->List Value} {L:List Value} {es o:Nat}:∀{n:Nat},o+n*es<=L.length->(∀i,i<n->f i=(L.drop (o+i*es)).take es)->((List.range n).map f).flatten=(L.drop o).take (n*es)
 |0,_,_=>by simp
 |n+1,hl,h=>by
  have hm:(n+1)*es=n*es+es:=by rw[Nat.add_mul,Nat.one_mul]
  rw[List.range_succ,List.map_append,List.flatten_append,flat_range (n:=n) (by omega) (fun i hi=>h i (by omega)),List.map_cons,List.map_nil,List.flatten_cons,List.flatten_nil,List.append_nil,h n (by omega),hm,List.take_add,List.drop_drop]
theorem sl_rd {fuel:Nat} {t e:TypeId} {es:Nat} {cs:List Value} {x:DataW E×List MemPlace} (ht:P.underlying t=some (.slice e)) (hes:P.cellsOf e=es) (h0:0<es) (h:DataW.trod enc P w base spare held fuel t cs=some x):
  ∃v items,cs=[v]/\SlV (Cut.of w.heap) es v items/\∀it∈items,∃m y,m<fuel/\DataW.trod enc P w base spare held m e it=some y:=by
 rcases DataW.trod_slice ht h with ⟨rfl,_⟩|⟨a,len,cap,elems,rest,n,rfl,rfl,_,_,hlc,_,hel,hx,_⟩
 ·exact ⟨_,[],rfl,SlV.nil _ _,by simp⟩
 ·subst hes
  generalize hes:P.cellsOf e=es at *
  by_cases hz:len=0
  ·subst hz
   exact ⟨_,[],rfl,⟨by simp,Or.inl ⟨some a,cap,rfl,rfl⟩⟩,by simp⟩
  have each:∀i,i<len->∃ci y,w.cells? base (a.add (i*es)) es=some ci/\DataW.trod enc P w base spare held n e ci=some y:=fun i hi=>by
   have h1:=hx i hi
   rw[List.getElem?_eq_getElem (by omega)]at h1
   obtain ⟨ci,h2,h3⟩:=Option.bind_eq_some_iff.1 h1
   exact ⟨ci,_,h2,h3⟩
  obtain ⟨c0,_,hc0,_⟩:=each 0 (by omega)
  obtain ⟨_,hl0,hg0⟩:=World.cells?_some hc0
  have hc00:=hg0 0 h0
  rw[List.getElem?_eq_getElem (by omega)]at hc00
  obtain ⟨b,o,spot⟩:=a
  have hs:spot=none:=by simpa [Addr.add]using World.cell?_spot hc00
  subst hs
  rw[QfP,QfP]at hc00
  have hblk:∃c ty fr,w.heap[b]?=some (.cells c ty fr):=by
   rw[cell?_eq]at hc00
   unfold Qb2 at hc00
   split at hc00
   ·rename_i c ty fr hb
    exact ⟨c,ty,fr,hb⟩
   ·cases hc00
  obtain ⟨c,ty,fr,hb⟩:=hblk
  have item:∀i,i<len->o+i*es+es<=c.size/\w.cells? base ⟨b,o+i*es,none⟩ es=some ((c.toList.drop (o+i*es)).take es):=fun i hi=>by
   obtain ⟨ci,_,h1,_⟩:=each i hi
   rw[QfP]at h1
   obtain ⟨_,hl,hg⟩:=World.cells?_some h1
   have hcell:∀j,j<es->c[o+i*es+j]?=ci[j]?:=fun j hj=>by
    have:=hg j hj
    rw[QfP,cell?_eq,Qj hb]at this
    exact this
   have hsz:o+i*es+es<=c.size:=by
    have:=hcell (es-1) (by omega)
    rw[List.getElem?_eq_getElem (by omega)]at this
    have hlt:o+i*es+(es-1)<c.size:=by
     rcases Nat.lt_or_ge (o+i*es+(es-1)) c.size with hh|hh
     ·exact hh
     ·rw[Array.getElem?_eq_none hh]at this;cases this
    omega
   refine ⟨hsz,?_⟩
   rw[h1]
   congr 1
   refine List.ext_getElem? fun j=>?_
   by_cases hj:j<es
   ·rw[List.getElem?_take_of_lt hj,List.getElem?_drop,<-hcell j hj]
    simp
   ·rw[List.getElem?_eq_none (by omega),List.getElem?_eq_none (by simp;omega)]
  have hend:=(item (len-1) (by omega)).1
  have hmul:len*es=(len-1)*es+es:=by
   obtain ⟨k,rfl⟩:∃k,len=k+1:=⟨len-1,by omega⟩
   rw[show k+1-1=k by omega,Nat.add_mul,Nat.one_mul]
  refine ⟨_,(List.range len).map (fun i=>(c.toList.drop (o+i*es)).take es),rfl,⟨fun it hi=>?_,Or.inr ⟨b,o,cap,c,ty,fr,by rw[List.length_map,List.length_range],hb,by rw[List.length_map,List.length_range];omega,?_,by rw[List.length_map,List.length_range];exact hlc⟩⟩,fun it hi=>?_⟩
  ·obtain ⟨i,hr,rfl⟩:=List.mem_map.1 hi
   have:=(item i (List.mem_range.1 hr)).1
   simp;omega
  ·rw[List.length_map,List.length_range]
   exact (flat_range (by rw[Array.length_toList];omega) (fun i _=>rfl)).symm
  ·obtain ⟨i,hr,rfl⟩:=List.mem_map.1 hi
   have hr:=List.mem_range.1 hr
   obtain ⟨ci,y,h1,h2⟩:=each i hr
   rw[QfP,(item i hr).2]at h1
   cases h1
   exact ⟨n,y,Nat.lt_succ_self n,h2⟩
end
section
variable {E:Type} {enc:TypeId×Value->E} {w:World} {base:Nat} {spare:Nat->Bool} {held:Bool} {fuel:Nat} {cs:List Value} {x:DataW E×List MemPlace}
theorem rd_int8 (h:DataW.trod enc prog w base spare held fuel 36 cs=some x):∃x:UInt8,cs=[i8V x]:=by
 obtain ⟨n,rfl,_,hw⟩:=DataW.trod_int (P:=prog) (t:=36) (k:=.i8) (by kernel_rfl) h
 obtain ⟨x,hx⟩:=wf_i8 hw
 exact ⟨x,by rw[hx]⟩
theorem rd_int16 (h:DataW.trod enc prog w base spare held fuel 23 cs=some x):∃x:UInt16,cs=[Qbd x]:=by
 obtain ⟨n,rfl,_,hw⟩:=DataW.trod_int (P:=prog) (t:=23) (k:=.i16) (by kernel_rfl) h
 obtain ⟨x,hx⟩:=wf_i16 hw
 exact ⟨x,by rw[hx]⟩
theorem rd_int32 (h:DataW.trod enc prog w base spare held fuel 21 cs=some x):∃x:UInt32,cs=[QeW x]:=by
 obtain ⟨n,rfl,_,hw⟩:=DataW.trod_int (P:=prog) (t:=21) (k:=.i32) (by kernel_rfl) h
 obtain ⟨x,hx⟩:=wf_i32 hw
 exact ⟨x,by rw[hx]⟩
theorem rd_int64 (h:DataW.trod enc prog w base spare held fuel 2 cs=some x):∃x:UInt64,cs=[Qdh x]:=by
 obtain ⟨n,rfl,_,hw⟩:=DataW.trod_int (P:=prog) (t:=2) (k:=.i64) (by kernel_rfl) h
 obtain ⟨x,hx⟩:=wf_i64 hw
 exact ⟨x,by rw[hx]⟩
theorem rd_uint8 (h:DataW.trod enc prog w base spare held fuel 5 cs=some x):∃x:UInt8,cs=[u8n x]:=by
 obtain ⟨n,rfl,_,hw⟩:=DataW.trod_int (P:=prog) (t:=5) (k:=.u8) (by kernel_rfl) h
 obtain ⟨x,hx⟩:=wf_u8 hw
 exact ⟨x,by rw[hx]⟩
theorem rd_uint16 (h:DataW.trod enc prog w base spare held fuel 39 cs=some x):∃x:UInt16,cs=[u16V x]:=by
 obtain ⟨n,rfl,_,hw⟩:=DataW.trod_int (P:=prog) (t:=39) (k:=.u16) (by kernel_rfl) h
 obtain ⟨x,hx⟩:=wf_u16 hw
 exact ⟨x,by rw[hx]⟩
theorem QbZ (h:DataW.trod enc prog w base spare held fuel 30 cs=some x):∃x:UInt32,cs=[Zo x]:=by
 obtain ⟨n,rfl,_,hw⟩:=DataW.trod_int (P:=prog) (t:=30) (k:=.u32) (by kernel_rfl) h
 obtain ⟨x,hx⟩:=wf_u32 hw
 exact ⟨x,by rw[hx]⟩
theorem QdY (h:DataW.trod enc prog w base spare held fuel 31 cs=some x):∃x:UInt64,cs=[Za x]:=by
 obtain ⟨n,rfl,_,hw⟩:=DataW.trod_int (P:=prog) (t:=31) (k:=.u64) (by kernel_rfl) h
 obtain ⟨x,hx⟩:=wf_u64 hw
 exact ⟨x,by rw[hx]⟩
theorem rd_bool (h:DataW.trod enc prog w base spare held fuel 4 cs=some x):∃b,cs=[.bool b]:=by
 obtain ⟨b,h,_⟩:=DataW.trod_bool (P:=prog) (t:=4) (by kernel_rfl) h
 exact ⟨b,h⟩
theorem Qe7 (h:DataW.trod enc prog w base spare held fuel 9 cs=some x):∃s,cs=[Yw s]:=by
 obtain ⟨s,h,_⟩:=DataW.trod_string (P:=prog) (t:=9) (by kernel_rfl) h
 exact ⟨s.data.toList,h⟩
theorem rd_Vec3 (h:DataW.trod enc prog w base spare held fuel 78 cs=some x):∃v:Qav,cs=YV v:=by
 have ht:(prog).underlying 78=some (.struct ((prog).fieldsOf 78)):=by kernel_rfl
 have hl:=Qie ht h (n:=7) (by kernel_rfl)
 obtain ⟨_,_,_,h0⟩:=Yr ht h (i:=0) (ty:=30) (off:=0) (n:=1) (by kernel_rfl)
 obtain ⟨x0,h0⟩:=QbZ h0
 have h0:=QN h0
 obtain ⟨_,_,_,h1⟩:=Yr ht h (i:=1) (ty:=30) (off:=1) (n:=1) (by kernel_rfl)
 obtain ⟨x1,h1⟩:=QbZ h1
 have h1:=QN h1
 obtain ⟨_,_,_,h2⟩:=Yr ht h (i:=2) (ty:=30) (off:=2) (n:=1) (by kernel_rfl)
 obtain ⟨x2,h2⟩:=QbZ h2
 have h2:=QN h2
 obtain ⟨_,_,_,h3⟩:=Yr ht h (i:=3) (ty:=31) (off:=3) (n:=1) (by kernel_rfl)
 obtain ⟨x3,h3⟩:=QdY h3
 have h3:=QN h3
 obtain ⟨_,_,_,h4⟩:=Yr ht h (i:=4) (ty:=5) (off:=4) (n:=1) (by kernel_rfl)
 obtain ⟨x4,h4⟩:=rd_uint8 h4
 have h4:=QN h4
 obtain ⟨_,_,_,h5⟩:=Yr ht h (i:=5) (ty:=23) (off:=5) (n:=1) (by kernel_rfl)
 obtain ⟨x5,h5⟩:=rd_int16 h5
 have h5:=QN h5
 obtain ⟨_,_,_,h6⟩:=Yr ht h (i:=6) (ty:=36) (off:=6) (n:=1) (by kernel_rfl)
 obtain ⟨x6,h6⟩:=rd_int8 h6
 have h6:=QN h6
 refine ⟨⟨x0,x1,x2,x3,x4,x5,x6⟩,List.ext_getElem? fun i=>?_⟩
 match i with
 |0=>exact h0
 |1=>exact h1
 |2=>exact h2
 |3=>exact h3
 |4=>exact h4
 |5=>exact h5
 |6=>exact h6
 |i+7=>rw[List.getElem?_eq_none (by omega)];rfl
theorem rd_Test (h:DataW.trod enc prog w base spare held fuel 83 cs=some x):∃v:Qba,cs=Ye v:=by
 have ht:(prog).underlying 83=some (.struct ((prog).fieldsOf 83)):=by kernel_rfl
 have hl:=Qie ht h (n:=2) (by kernel_rfl)
 obtain ⟨_,_,_,h0⟩:=Yr ht h (i:=0) (ty:=23) (off:=0) (n:=1) (by kernel_rfl)
 obtain ⟨x0,h0⟩:=rd_int16 h0
 have h0:=QN h0
 obtain ⟨_,_,_,h1⟩:=Yr ht h (i:=1) (ty:=36) (off:=1) (n:=1) (by kernel_rfl)
 obtain ⟨x1,h1⟩:=rd_int8 h1
 have h1:=QN h1
 refine ⟨⟨x0,x1⟩,List.ext_getElem? fun i=>?_⟩
 match i with
 |0=>exact h0
 |1=>exact h1
 |i+2=>rw[List.getElem?_eq_none (by omega)];rfl
theorem rd_Stat (h:DataW.trod enc prog w base spare held fuel 89 cs=some x):∃v:QaA,cs=Y5 v:=by
 have ht:(prog).underlying 89=some (.struct ((prog).fieldsOf 89)):=by kernel_rfl
 have hl:=Qie ht h (n:=3) (by kernel_rfl)
 obtain ⟨_,_,_,h0⟩:=Yr ht h (i:=0) (ty:=9) (off:=0) (n:=1) (by kernel_rfl)
 obtain ⟨x0,h0⟩:=Qe7 h0
 have h0:=QN h0
 obtain ⟨_,_,_,h1⟩:=Yr ht h (i:=1) (ty:=2) (off:=1) (n:=1) (by kernel_rfl)
 obtain ⟨x1,h1⟩:=rd_int64 h1
 have h1:=QN h1
 obtain ⟨_,_,_,h2⟩:=Yr ht h (i:=2) (ty:=39) (off:=2) (n:=1) (by kernel_rfl)
 obtain ⟨x2,h2⟩:=rd_uint16 h2
 have h2:=QN h2
 refine ⟨⟨x0,x1,x2⟩,List.ext_getElem? fun i=>?_⟩
 match i with
 |0=>exact h0
 |1=>exact h1
 |2=>exact h2
 |i+3=>rw[List.getElem?_eq_none (by omega)];rfl
theorem rd_Ability (h:DataW.trod enc prog w base spare held fuel 95 cs=some x):∃v:Qe6,cs=Zc v:=by
 have ht:(prog).underlying 95=some (.struct ((prog).fieldsOf 95)):=by kernel_rfl
 have hl:=Qie ht h (n:=2) (by kernel_rfl)
 obtain ⟨_,_,_,h0⟩:=Yr ht h (i:=0) (ty:=30) (off:=0) (n:=1) (by kernel_rfl)
 obtain ⟨x0,h0⟩:=QbZ h0
 have h0:=QN h0
 obtain ⟨_,_,_,h1⟩:=Yr ht h (i:=1) (ty:=30) (off:=1) (n:=1) (by kernel_rfl)
 obtain ⟨x1,h1⟩:=QbZ h1
 have h1:=QN h1
 refine ⟨⟨x0,x1⟩,List.ext_getElem? fun i=>?_⟩
 match i with
 |0=>exact h0
 |1=>exact h1
 |i+2=>rw[List.getElem?_eq_none (by omega)];rfl
theorem rd_pos (h:DataW.trod enc prog w base spare held fuel 22 cs=some x):∃v,∃l:List Qav,cs=[v]/\SlV (Cut.of w.heap) 7 v (l.map YV):=by
 obtain ⟨v,items,rfl,hs,hi⟩:=sl_rd (P:=prog) (t:=22) (e:=78) (es:=7) (by kernel_rfl) (by kernel_rfl) (by decide) h
 obtain ⟨l,rfl⟩:=QhM (f:=YV) (fun it hit=>by
  obtain ⟨_,_,_,h⟩:=hi it hit
  obtain ⟨a,ha⟩:=rd_Vec3 h
  exact ⟨a,ha⟩)
 exact ⟨v,l,rfl,hs⟩
theorem rd_tests (h:DataW.trod enc prog w base spare held fuel 27 cs=some x):∃v,∃l:List Qba,cs=[v]/\SlV (Cut.of w.heap) 2 v (l.map Ye):=by
 obtain ⟨v,items,rfl,hs,hi⟩:=sl_rd (P:=prog) (t:=27) (e:=83) (es:=2) (by kernel_rfl) (by kernel_rfl) (by decide) h
 obtain ⟨l,rfl⟩:=QhM (f:=Ye) (fun it hit=>by
  obtain ⟨_,_,_,h⟩:=hi it hit
  obtain ⟨a,ha⟩:=rd_Test h
  exact ⟨a,ha⟩)
 exact ⟨v,l,rfl,hs⟩
theorem rd_stats (h:DataW.trod enc prog w base spare held fuel 29 cs=some x):∃v,∃l:List QaA,cs=[v]/\SlV (Cut.of w.heap) 3 v (l.map Y5):=by
 obtain ⟨v,items,rfl,hs,hi⟩:=sl_rd (P:=prog) (t:=29) (e:=89) (es:=3) (by kernel_rfl) (by kernel_rfl) (by decide) h
 obtain ⟨l,rfl⟩:=QhM (f:=Y5) (fun it hit=>by
  obtain ⟨_,_,_,h⟩:=hi it hit
  obtain ⟨a,ha⟩:=rd_Stat h
  exact ⟨a,ha⟩)
 exact ⟨v,l,rfl,hs⟩
theorem rd_abils (h:DataW.trod enc prog w base spare held fuel 33 cs=some x):∃v,∃l:List Qe6,cs=[v]/\SlV (Cut.of w.heap) 2 v (l.map Zc):=by
 obtain ⟨v,items,rfl,hs,hi⟩:=sl_rd (P:=prog) (t:=33) (e:=95) (es:=2) (by kernel_rfl) (by kernel_rfl) (by decide) h
 obtain ⟨l,rfl⟩:=QhM (f:=Zc) (fun it hit=>by
  obtain ⟨_,_,_,h⟩:=hi it hit
  obtain ⟨a,ha⟩:=rd_Ability h
  exact ⟨a,ha⟩)
 exact ⟨v,l,rfl,hs⟩
theorem rd_strings (h:DataW.trod enc prog w base spare held fuel 28 cs=some x):∃v,∃l:List (List UInt8),cs=[v]/\SlV (Cut.of w.heap) 1 v (l.map QfL):=by
 obtain ⟨v,items,rfl,hs,hi⟩:=sl_rd (P:=prog) (t:=28) (e:=9) (es:=1) (by kernel_rfl) (by kernel_rfl) (by decide) h
 obtain ⟨l,rfl⟩:=QhM (f:=QfL) (fun it hit=>by
  obtain ⟨_,_,_,h⟩:=hi it hit
  obtain ⟨a,ha⟩:=Qe7 h
  exact ⟨a,ha⟩)
 exact ⟨v,l,rfl,hs⟩
theorem rd_bools (h:DataW.trod enc prog w base spare held fuel 32 cs=some x):∃v,∃l:List Bool,cs=[v]/\SlV (Cut.of w.heap) 1 v (l.map QhW):=by
 obtain ⟨v,items,rfl,hs,hi⟩:=sl_rd (P:=prog) (t:=32) (e:=4) (es:=1) (by kernel_rfl) (by kernel_rfl) (by decide) h
 obtain ⟨l,rfl⟩:=QhM (f:=QhW) (fun it hit=>by
  obtain ⟨_,_,_,h⟩:=hi it hit
  obtain ⟨a,ha⟩:=rd_bool h
  exact ⟨a,ha⟩)
 exact ⟨v,l,rfl,hs⟩
theorem rd_i64s (h:DataW.trod enc prog w base spare held fuel 34 cs=some x):∃v,∃l:List UInt64,cs=[v]/\SlV (Cut.of w.heap) 1 v (l.map i64I):=by
 obtain ⟨v,items,rfl,hs,hi⟩:=sl_rd (P:=prog) (t:=34) (e:=2) (es:=1) (by kernel_rfl) (by kernel_rfl) (by decide) h
 obtain ⟨l,rfl⟩:=QhM (f:=i64I) (fun it hit=>by
  obtain ⟨_,_,_,h⟩:=hi it hit
  obtain ⟨a,ha⟩:=rd_int64 h
  exact ⟨a,ha⟩)
 exact ⟨v,l,rfl,hs⟩
theorem Qiz (h:DataW.trod enc prog w base spare held fuel 35 cs=some x):∃v,∃l:List UInt64,cs=[v]/\SlV (Cut.of w.heap) 1 v (l.map Qb8):=by
 obtain ⟨v,items,rfl,hs,hi⟩:=sl_rd (P:=prog) (t:=35) (e:=31) (es:=1) (by kernel_rfl) (by kernel_rfl) (by decide) h
 obtain ⟨l,rfl⟩:=QhM (f:=Qb8) (fun it hit=>by
  obtain ⟨_,_,_,h⟩:=hi it hit
  obtain ⟨a,ha⟩:=QdY h
  exact ⟨a,ha⟩)
 exact ⟨v,l,rfl,hs⟩
def MonRd (E:Type) (enc:TypeId×Value->E) (w:World) (base:Nat) (spare:Nat->Bool) (held:Bool) (fuel:Nat):Prop:=∀(cs:List Value) (x:DataW E×List MemPlace),DataW.trod enc prog w base spare held fuel 38 cs=some x->∃g:GM,NormM g/\QaC (Cut.of w.heap) g cs
theorem mons_of {F:Cut}:∀{items:List (List Value)},(∀it∈items,∃g:GM,NormM g/\QaC F g it)->∃gs,Qi9 gs/\YN F gs items
 |[],_=>⟨[],by rw[Qi9];trivial,by rw[YN];trivial⟩
 |x::xs,h=>by
  obtain ⟨g,h1,h2⟩:=h x List.mem_cons_self
  obtain ⟨gs,h3,h4⟩:=mons_of (items:=xs) (fun it hi=>h it (List.mem_cons_of_mem _ hi))
  exact ⟨g::gs,by rw[Qi9];exact ⟨h1,h3⟩,by rw[YN];exact ⟨h2,h4⟩⟩
theorem rd_mons (hK:∀m,m<fuel->MonRd E enc w base spare held m) (h:DataW.trod enc prog w base spare held fuel 24 cs=some x):∃v gs,cs=[v]/\Qi9 gs/\Qae (Cut.of w.heap) gs v:=by
 obtain ⟨v,items,rfl,hs,hi⟩:=sl_rd (P:=prog) (t:=24) (e:=38) (es:=51) (by kernel_rfl) (by kernel_rfl) (by decide) h
 obtain ⟨gs,h1,h2⟩:=mons_of (F:=Cut.of w.heap) (items:=items) (fun it hit=>by
  obtain ⟨m,y,hm,h⟩:=hi it hit
  exact hK m hm it y h)
 exact ⟨v,gs,rfl,h1,items,hs,h2⟩
theorem rd_choice (hK:∀m,m<fuel->MonRd E enc w base spare held m) (h:DataW.trod enc prog w base spare held fuel 26 cs=some x):∃(ty color:UInt8) (v:Value) (gs:List GM),cs=[u8n ty,v,u8n color]/\Qi9 gs/\Qae (Cut.of w.heap) gs v:=by
 have ht:(prog).underlying 26=some (.struct ((prog).fieldsOf 26)):=by kernel_rfl
 have hl:=Qie ht h (n:=3) (by kernel_rfl)
 obtain ⟨_,_,_,h0⟩:=Yr ht h (i:=0) (ty:=5) (off:=0) (n:=1) (by kernel_rfl)
 obtain ⟨x0,h0⟩:=rd_uint8 h0
 obtain ⟨m1,_,hm1,h1⟩:=Yr ht h (i:=1) (ty:=24) (off:=1) (n:=1) (by kernel_rfl)
 obtain ⟨v,gs,h1,hn,hv⟩:=rd_mons (fun m hm=>hK m (by omega)) h1
 obtain ⟨_,_,_,h2⟩:=Yr ht h (i:=2) (ty:=5) (off:=2) (n:=1) (by kernel_rfl)
 obtain ⟨x2,h2⟩:=rd_uint8 h2
 refine ⟨x0,x2,v,gs,List.ext_getElem? fun i=>?_,hn,hv⟩
 match i with
 |0=>exact QN h0
 |1=>exact QN h1
 |2=>exact QN h2
 |i+3=>rw[List.getElem?_eq_none (by omega)];rfl
set_option maxHeartbeats 1000000 in
set_option maxRecDepth 8000 in
theorem rd_step (hK:∀m,m<fuel->MonRd E enc w base spare held m):MonRd E enc w base spare held fuel:=by
 intro cs x h
 have ht:(prog).underlying 38=some (.struct ((prog).fieldsOf 38)):=by kernel_rfl
 have hl:=Qie ht h (n:=51) (by kernel_rfl)
 obtain ⟨m0,_,hm0,h0⟩:=Yr ht h (i:=0) (ty:=22) (off:=0) (n:=1) (by kernel_rfl)
 obtain ⟨v0,l0,h0,s0⟩:=rd_pos h0
 have h0:=QN h0
 clear hm0
 obtain ⟨m1,_,hm1,h1⟩:=Yr ht h (i:=1) (ty:=23) (off:=1) (n:=1) (by kernel_rfl)
 obtain ⟨a1,h1⟩:=rd_int16 h1
 have h1:=QN h1
 clear hm1
 obtain ⟨m2,_,hm2,h2⟩:=Yr ht h (i:=2) (ty:=23) (off:=2) (n:=1) (by kernel_rfl)
 obtain ⟨a2,h2⟩:=rd_int16 h2
 have h2:=QN h2
 clear hm2
 obtain ⟨m3,_,hm3,h3⟩:=Yr ht h (i:=3) (ty:=9) (off:=3) (n:=1) (by kernel_rfl)
 obtain ⟨a3,h3⟩:=Qe7 h3
 have h3:=QN h3
 clear hm3
 obtain ⟨m4,_,hm4,h4⟩:=Yr ht h (i:=4) (ty:=9) (off:=4) (n:=1) (by kernel_rfl)
 obtain ⟨a4,h4⟩:=Qe7 h4
 have h4:=QN h4
 clear hm4
 obtain ⟨m5,_,hm5,h5⟩:=Yr ht h (i:=5) (ty:=5) (off:=5) (n:=1) (by kernel_rfl)
 obtain ⟨a5,h5⟩:=rd_uint8 h5
 have h5:=QN h5
 clear hm5
 obtain ⟨m6,_,hm6,h6⟩:=Yr ht h (i:=6) (ty:=26) (off:=6) (n:=3) (by kernel_rfl)
 obtain ⟨a6,a8,v7,g6,h6,n6,s6⟩:=rd_choice (fun m hm=>hK m (by omega)) h6
 have k6:cs[6]?=some (u8n a6):=QfE (n:=3) h6 (j:=0) (by decide)
 have k7:cs[7]?=some (v7):=QfE (n:=3) h6 (j:=1) (by decide)
 have k8:cs[8]?=some (u8n a8):=QfE (n:=3) h6 (j:=2) (by decide)
 clear hm6
 obtain ⟨m7,_,hm7,h7⟩:=Yr ht h (i:=7) (ty:=27) (off:=9) (n:=1) (by kernel_rfl)
 obtain ⟨v9,l9,h7,s9⟩:=rd_tests h7
 have h7:=QN h7
 clear hm7
 obtain ⟨m8,_,hm8,h8⟩:=Yr ht h (i:=8) (ty:=28) (off:=10) (n:=1) (by kernel_rfl)
 obtain ⟨v10,l10,h8,s10⟩:=rd_strings h8
 have h8:=QN h8
 clear hm8
 obtain ⟨m9,_,hm9,h9⟩:=Yr ht h (i:=9) (ty:=24) (off:=11) (n:=1) (by kernel_rfl)
 obtain ⟨v11,g11,h9,n11,s11⟩:=rd_mons (fun m hm=>hK m (by omega)) h9
 have h9:=QN h9
 clear hm9
 obtain ⟨m10,_,hm10,h10⟩:=Yr ht h (i:=10) (ty:=24) (off:=12) (n:=1) (by kernel_rfl)
 obtain ⟨v12,g12,h10,n12,s12⟩:=rd_mons (fun m hm=>hK m (by omega)) h10
 have h10:=QN h10
 clear hm10
 obtain ⟨m11,_,hm11,h11⟩:=Yr ht h (i:=11) (ty:=9) (off:=13) (n:=1) (by kernel_rfl)
 obtain ⟨a13,h11⟩:=Qe7 h11
 have h11:=QN h11
 clear hm11
 obtain ⟨m12,_,hm12,h12⟩:=Yr ht h (i:=12) (ty:=29) (off:=14) (n:=1) (by kernel_rfl)
 obtain ⟨v14,l14,h12,s14⟩:=rd_stats h12
 have h12:=QN h12
 clear hm12
 obtain ⟨m13,_,hm13,h13⟩:=Yr ht h (i:=13) (ty:=4) (off:=15) (n:=1) (by kernel_rfl)
 obtain ⟨a15,h13⟩:=rd_bool h13
 have h13:=QN h13
 clear hm13
 obtain ⟨m14,_,hm14,h14⟩:=Yr ht h (i:=14) (ty:=21) (off:=16) (n:=1) (by kernel_rfl)
 obtain ⟨a16,h14⟩:=rd_int32 h14
 have h14:=QN h14
 clear hm14
 obtain ⟨m15,_,hm15,h15⟩:=Yr ht h (i:=15) (ty:=30) (off:=17) (n:=1) (by kernel_rfl)
 obtain ⟨a17,h15⟩:=QbZ h15
 have h15:=QN h15
 clear hm15
 obtain ⟨m16,_,hm16,h16⟩:=Yr ht h (i:=16) (ty:=2) (off:=18) (n:=1) (by kernel_rfl)
 obtain ⟨a18,h16⟩:=rd_int64 h16
 have h16:=QN h16
 clear hm16
 obtain ⟨m17,_,hm17,h17⟩:=Yr ht h (i:=17) (ty:=31) (off:=19) (n:=1) (by kernel_rfl)
 obtain ⟨a19,h17⟩:=QdY h17
 have h17:=QN h17
 clear hm17
 obtain ⟨m18,_,hm18,h18⟩:=Yr ht h (i:=18) (ty:=21) (off:=20) (n:=1) (by kernel_rfl)
 obtain ⟨a20,h18⟩:=rd_int32 h18
 have h18:=QN h18
 clear hm18
 obtain ⟨m19,_,hm19,h19⟩:=Yr ht h (i:=19) (ty:=30) (off:=21) (n:=1) (by kernel_rfl)
 obtain ⟨a21,h19⟩:=QbZ h19
 have h19:=QN h19
 clear hm19
 obtain ⟨m20,_,hm20,h20⟩:=Yr ht h (i:=20) (ty:=2) (off:=22) (n:=1) (by kernel_rfl)
 obtain ⟨a22,h20⟩:=rd_int64 h20
 have h20:=QN h20
 clear hm20
 obtain ⟨m21,_,hm21,h21⟩:=Yr ht h (i:=21) (ty:=31) (off:=23) (n:=1) (by kernel_rfl)
 obtain ⟨a23,h21⟩:=QdY h21
 have h21:=QN h21
 clear hm21
 obtain ⟨m22,_,hm22,h22⟩:=Yr ht h (i:=22) (ty:=32) (off:=24) (n:=1) (by kernel_rfl)
 obtain ⟨v24,l24,h22,s24⟩:=rd_bools h22
 have h22:=QN h22
 clear hm22
 obtain ⟨m23,_,hm23,h23⟩:=Yr ht h (i:=23) (ty:=30) (off:=25) (n:=1) (by kernel_rfl)
 obtain ⟨a25,h23⟩:=QbZ h23
 have h23:=QN h23
 clear hm23
 obtain ⟨m24,_,hm24,h24⟩:=Yr ht h (i:=24) (ty:=30) (off:=26) (n:=1) (by kernel_rfl)
 obtain ⟨a26,h24⟩:=QbZ h24
 have h24:=QN h24
 clear hm24
 obtain ⟨m25,_,hm25,h25⟩:=Yr ht h (i:=25) (ty:=30) (off:=27) (n:=1) (by kernel_rfl)
 obtain ⟨a27,h25⟩:=QbZ h25
 have h25:=QN h25
 clear hm25
 obtain ⟨m26,_,hm26,h26⟩:=Yr ht h (i:=26) (ty:=28) (off:=28) (n:=1) (by kernel_rfl)
 obtain ⟨v28,l28,h26,s28⟩:=rd_strings h26
 have h26:=QN h26
 clear hm26
 obtain ⟨m27,_,hm27,h27⟩:=Yr ht h (i:=27) (ty:=33) (off:=29) (n:=1) (by kernel_rfl)
 obtain ⟨v29,l29,h27,s29⟩:=rd_abils h27
 have h27:=QN h27
 clear hm27
 obtain ⟨m28,_,hm28,h28⟩:=Yr ht h (i:=28) (ty:=9) (off:=30) (n:=1) (by kernel_rfl)
 obtain ⟨a30,h28⟩:=Qe7 h28
 have h28:=QN h28
 clear hm28
 obtain ⟨m29,_,hm29,h29⟩:=Yr ht h (i:=29) (ty:=27) (off:=31) (n:=1) (by kernel_rfl)
 obtain ⟨v31,l31,h29,s31⟩:=rd_tests h29
 have h29:=QN h29
 clear hm29
 obtain ⟨m30,_,hm30,h30⟩:=Yr ht h (i:=30) (ty:=34) (off:=32) (n:=1) (by kernel_rfl)
 obtain ⟨v32,l32,h30,s32⟩:=rd_i64s h30
 have h30:=QN h30
 clear hm30
 obtain ⟨m31,_,hm31,h31⟩:=Yr ht h (i:=31) (ty:=35) (off:=33) (n:=1) (by kernel_rfl)
 obtain ⟨v33,l33,h31,s33⟩:=Qiz h31
 have h31:=QN h31
 clear hm31
 obtain ⟨m32,_,hm32,h32⟩:=Yr ht h (i:=32) (ty:=4) (off:=34) (n:=1) (by kernel_rfl)
 obtain ⟨a34,h32⟩:=rd_bool h32
 have h32:=QN h32
 clear hm32
 obtain ⟨m33,_,hm33,h33⟩:=Yr ht h (i:=33) (ty:=35) (off:=35) (n:=1) (by kernel_rfl)
 obtain ⟨v35,l35,h33,s35⟩:=Qiz h33
 have h33:=QN h33
 clear hm33
 obtain ⟨m34,_,hm34,h34⟩:=Yr ht h (i:=34) (ty:=31) (off:=36) (n:=1) (by kernel_rfl)
 obtain ⟨a36,h34⟩:=QdY h34
 have h34:=QN h34
 clear hm34
 obtain ⟨m35,_,hm35,h35⟩:=Yr ht h (i:=35) (ty:=35) (off:=37) (n:=1) (by kernel_rfl)
 obtain ⟨v37,l37,h35,s37⟩:=Qiz h35
 have h35:=QN h35
 clear hm35
 obtain ⟨m36,_,hm36,h36⟩:=Yr ht h (i:=36) (ty:=35) (off:=38) (n:=1) (by kernel_rfl)
 obtain ⟨v38,l38,h36,s38⟩:=Qiz h36
 have h36:=QN h36
 clear hm36
 obtain ⟨m37,_,hm37,h37⟩:=Yr ht h (i:=37) (ty:=31) (off:=39) (n:=1) (by kernel_rfl)
 obtain ⟨a39,h37⟩:=QdY h37
 have h37:=QN h37
 clear hm37
 obtain ⟨m38,_,hm38,h38⟩:=Yr ht h (i:=38) (ty:=35) (off:=40) (n:=1) (by kernel_rfl)
 obtain ⟨v40,l40,h38,s40⟩:=Qiz h38
 have h38:=QN h38
 clear hm38
 obtain ⟨m39,_,hm39,h39⟩:=Yr ht h (i:=39) (ty:=31) (off:=41) (n:=1) (by kernel_rfl)
 obtain ⟨a41,h39⟩:=QdY h39
 have h39:=QN h39
 clear hm39
 obtain ⟨m40,_,hm40,h40⟩:=Yr ht h (i:=40) (ty:=35) (off:=42) (n:=1) (by kernel_rfl)
 obtain ⟨v42,l42,h40,s42⟩:=Qiz h40
 have h40:=QN h40
 clear hm40
 obtain ⟨m41,_,hm41,h41⟩:=Yr ht h (i:=41) (ty:=26) (off:=43) (n:=3) (by kernel_rfl)
 obtain ⟨a43,a45,v44,g43,h41,n43,s43⟩:=rd_choice (fun m hm=>hK m (by omega)) h41
 have k43:cs[43]?=some (u8n a43):=QfE (n:=3) h41 (j:=0) (by decide)
 have k44:cs[44]?=some (v44):=QfE (n:=3) h41 (j:=1) (by decide)
 have k45:cs[45]?=some (u8n a45):=QfE (n:=3) h41 (j:=2) (by decide)
 clear hm41
 obtain ⟨m42,_,hm42,h42⟩:=Yr ht h (i:=42) (ty:=26) (off:=46) (n:=3) (by kernel_rfl)
 obtain ⟨a46,a48,v47,g46,h42,n46,s46⟩:=rd_choice (fun m hm=>hK m (by omega)) h42
 have k46:cs[46]?=some (u8n a46):=QfE (n:=3) h42 (j:=0) (by decide)
 have k47:cs[47]?=some (v47):=QfE (n:=3) h42 (j:=1) (by decide)
 have k48:cs[48]?=some (u8n a48):=QfE (n:=3) h42 (j:=2) (by decide)
 clear hm42
 obtain ⟨m43,_,hm43,h43⟩:=Yr ht h (i:=43) (ty:=9) (off:=49) (n:=1) (by kernel_rfl)
 obtain ⟨a49,h43⟩:=Qe7 h43
 have h43:=QN h43
 clear hm43
 obtain ⟨m44,_,hm44,h44⟩:=Yr ht h (i:=44) (ty:=36) (off:=50) (n:=1) (by kernel_rfl)
 obtain ⟨a50,h44⟩:=rd_int8 h44
 have h44:=QN h44
 clear hm44
 refine ⟨.mk {pos:=l0.head?,mana:=a1,hp:=a2,name:=a3,inventory:=a4,color:=a5,testTy:=a6,testColor:=a8,test4:=l9,strings:=l10,nested:=a13,empty:=l14.head?,bool:=a15,s32:=a16,u32:=a17,s64:=a18,u64:=a19,s32a:=a20,u32a:=a21,s64a:=a22,u64a:=a23,bools:=l24,f:=a25,f2:=a26,f3:=a27,strings2:=l28,abilities:=l29,flex:=a30,test5:=l31,longs:=l32,doubles:=l33,parent:=a34,refs:=l35,singleWeak:=a36,weak:=l37,strong:=l38,coOwning:=a39,coOwnings:=l40,nonOwning:=a41,nonOwnings:=l42,uniqTy:=a43,uniqColor:=a45,ambTy:=a46,ambColor:=a48,enums:=a49,signedEnum:=a50} l0 l14 g11 g12 g6 g43 g46,?_,?_⟩
 ·rw[NormM]
  exact ⟨⟨rfl,rfl⟩,n11,n12,n6,n43,n46⟩
 ·rw[QaC]
  refine ⟨⟨v0,v7,v9,v10,v11,v12,v14,v24,v28,v29,v31,v32,v33,v35,v37,v38,v40,v42,v44,v47⟩,?_,⟨s0,s9,s10,s14,s24,s28,s29,s31,s32,s33,s35,s37,s38,s40,s42⟩,s11,s12,s6,s43,s46⟩
  refine List.ext_getElem? fun i=>?_
  match i with
  |0=>exact h0
  |1=>exact h1
  |2=>exact h2
  |3=>exact h3
  |4=>exact h4
  |5=>exact h5
  |6=>exact k6
  |7=>exact k7
  |8=>exact k8
  |9=>exact h7
  |10=>exact h8
  |11=>exact h9
  |12=>exact h10
  |13=>exact h11
  |14=>exact h12
  |15=>exact h13
  |16=>exact h14
  |17=>exact h15
  |18=>exact h16
  |19=>exact h17
  |20=>exact h18
  |21=>exact h19
  |22=>exact h20
  |23=>exact h21
  |24=>exact h22
  |25=>exact h23
  |26=>exact h24
  |27=>exact h25
  |28=>exact h26
  |29=>exact h27
  |30=>exact h28
  |31=>exact h29
  |32=>exact h30
  |33=>exact h31
  |34=>exact h32
  |35=>exact h33
  |36=>exact h34
  |37=>exact h35
  |38=>exact h36
  |39=>exact h37
  |40=>exact h38
  |41=>exact h39
  |42=>exact h40
  |43=>exact k43
  |44=>exact k44
  |45=>exact k45
  |46=>exact k46
  |47=>exact k47
  |48=>exact k48
  |49=>exact h43
  |50=>exact h44
  |i+51=>rw[List.getElem?_eq_none (by omega),List.getElem?_eq_none (by rw[Y0];omega)]
theorem rd_all:∀fuel:Nat,MonRd E enc w base spare held fuel:=fun fuel=>by
 induction fuel using Nat.strongRecOn with
 |ind n ih=>exact rd_step ih
end
end Go.Proofs
namespace Go.Proofs
open Go Go.Vc
open Tryz (prog)
theorem ltb {a b:Nat} (h:Nat.ble (a+1) b=true):a<b:=Nat.le_of_ble_eq_true h
def UpS (tp:TypeId) (z:Array Value) (T:TypeId) (g:FuncId) (x0:Value) (h:Qe) (R:Kn):Prop:=
 Qr prog .eql tp x0 (.pointer none) fun x5=>IfK x5 (R (.pointer none) h) (QA z.toList [] fun x6=>YM h (.cells (Value.cells x6) T) fun x7 h1=>Qb prog g #[x0,x7] h1 fun _ h2=>R x7 h2)
theorem Qfi {zs:List Value} {t:TypeId} {G0:Cut} {H0:Qe} {q:Nat} {G:Cut} {H:Qe} {done:List Value} (us:US zs t G0 H0 q G H done) {p B:Nat} {bs:List UInt8} {pos:Nat} (h:Tab H0 p B bs pos):Tab H p B bs pos:=h.ext us.ext.keep.ext
section
variable {f g:FuncId} {tp T:TypeId} {z:Array Value} (hw:∀{x0 h R},UpS tp z T g x0 h R->FnS prog f #[x0] h R) (ht:(prog).underlying tp=some (.pointer ((prog).pointee tp)))
include hw ht
theorem up_nil {h:Qe} {R:Kn} (hR:R (.pointer none) h):FnS prog f #[.pointer none] h R:=by
 apply hw
 unfold UpS
 rw[Ys ht]
 exact hR
theorem up_of {a:Addr} {G:Cut} {h:Qe} {R:Kn} (hG:G.In h) (Q:Cut->List Value->Prop) (hQ:∀G G' l,Cut.le G G'->Q G l->Q G' l)
  (hg:US z.toList T G h h.size G (h.push (.cells z T)) []->∀R':Kn,(∀G' H' done,US z.toList T G h h.size G' H' done->done.length=z.size->Q G' done.reverse->R' (.tuple #[]) H')->FnS prog g #[.pointer (some a),.pointer (some ⟨h.size,0,none⟩)] (h.push (.cells z T)) R')
  (hR:∀G' H' v done,Ext G h G' H'->v.oneCell'=true->YS G' v done.toArray->Q G' done->R v H'):FnS prog f #[.pointer (some a)] h R:=by
 apply hw
 unfold UpS
 rw[Ys ht]
 have e:Z3 z.toList []=some z.toList:=rfl
 unfold QA
 simp only[e]
 have e2:Value.cells (.agg z.toList.toArray)=z:=by simp[Value.cells]
 rw[e2]
 refine hg ⟨(Ext.refl hG).push _,by simpa using Yk.fresh (Ext.refl hG) (.cells z T)⟩ _ fun G' H' done us hl hq=>?_
 have o:=us.o
 rw[List.drop_eq_nil_of_le (by simp[hl]),List.append_nil]at o
 exact hR _ H' _ done.reverse (us.ext.add o.get o.out o.new) rfl ⟨_,_,rfl,Cut.upd_same⟩ (hQ _ _ _ (Cut.le_upd o.out) hq)
end
abbrev UpOk (f:FuncId) (D:Nat->List UInt8->Nat->Prop) (cells:List Value):Prop:=∀{A:Nat} {H:Qe} {p B:Nat} {bs:List UInt8} {pos:Nat} (_:Tab H p B bs pos) (_:D A bs pos) {G:Cut} (_:G.In H) {R:Kn}
 (_:∀G' H' v,Ext G H G' H'->v.oneCell'=true->YS G' v cells.toArray->R v H'),FnS prog f #[.pointer (some ⟨p,0,none⟩)] H R
theorem Qcc {t:Qba}:UpOk 304 (fun _ bs pos=>pos+4<=bs.length/\le2 bs (pos+0)=t.a.toNat/\byteN bs (pos+2)=t.b.toNat) (Ye t):=by
 intro A H p B bs pos ht ⟨h1,h2,h3⟩ G hG R hR
 refine up_of w304 (by kernel_rfl) hG (fun _ l=>l=Ye t) (fun _ _ _ _ h=>h) ?_ (fun G' H' v done e h1 o hq=>hR G' H' v e h1 (hq▸o))
 intro us R' hR'
 apply w360
 unfold tp360
 refine Qde (Qfi us ht) (by omega) ?_
 refine us.put rfl (ltb rfl) rfl fun H1 u1 _=>?_
 refine Qdf (Qfi u1 ht) (by omega) ?_
 refine u1.put rfl (ltb rfl) rfl fun H2 u2 _=>?_
 rw[h2,h3]at u2
 exact hR' _ _ _ u2 rfl rfl
theorem Qg5 {t:Qe6}:UpOk 307 (fun _ bs pos=>pos+8<=bs.length/\le4 bs (pos+0)=t.id.toNat/\le4 bs (pos+4)=t.dist.toNat) (Zc t):=by
 intro A H p B bs pos ht ⟨h1,h2,h3⟩ G hG R hR
 refine up_of w307 (by kernel_rfl) hG (fun _ l=>l=Zc t) (fun _ _ _ _ h=>h) ?_ (fun G' H' v done e h1 o hq=>hR G' H' v e h1 (hq▸o))
 intro us R' hR'
 apply w362
 unfold tp360
 refine Qel (Qfi us ht) (by omega) ?_
 refine us.put rfl (ltb rfl) rfl fun H1 u1 _=>?_
 refine Qcl (Qfi u1 ht) (by omega) ?_
 refine u1.put rfl (ltb rfl) rfl fun H2 u2 _=>?_
 rw[h2,h3]at u2
 exact hR' _ _ _ u2 rfl rfl
theorem QbX {x:UInt64}:UpOk 310 (RefP x) [Za x]:=by
 intro A H p B bs pos ht ⟨vt,h1,h2⟩ G hG R hR
 refine up_of w310 (by kernel_rfl) hG (fun _ l=>l=[Za x]) (fun _ _ _ _ h=>h) ?_ (fun G' H' v done e h1 o hq=>hR G' H' v e h1 (hq▸o))
 intro us R' hR'
 apply w364
 unfold s364
 refine Qbq (Qfi us ht) h1.ok (h2.sc (fun h=>h)) ?_
 refine us.put rfl (ltb rfl) rfl fun H1 u1 _=>?_
 exact hR' _ _ _ u1 rfl rfl
theorem QgA {c:UInt8}:UpOk 359 (Qif c) [u8n c]:=by
 intro A H p B bs pos ht ⟨vt,h1,h2⟩ G hG R hR
 refine up_of w359 (by kernel_rfl) hG (fun _ l=>l=[u8n c]) (fun _ _ _ _ h=>h) ?_ (fun G' H' v done e h1 o hq=>hR G' H' v e h1 (hq▸o))
 intro us R' hR'
 apply w391
 unfold s391
 refine ZL (Qfi us ht) h1.ok (h2.sc (fun h=>h)) ?_
 refine us.put rfl (ltb rfl) rfl fun H1 u1 _=>?_
 exact hR' _ _ _ u1 rfl rfl
theorem Qhv {s:QaA}:UpOk 306 (QiF s) (Y5 s):=by
 intro A H p B bs pos ht ⟨vt,s1,s2,s3,s4⟩ G hG R hR
 refine up_of w306 (by kernel_rfl) hG (fun _ l=>l=Y5 s) (fun _ _ _ _ h=>h) ?_ (fun G' H' v done e h1 o hq=>hR G' H' v e h1 (hq▸o))
 intro us R' hR'
 apply w361
 unfold s361
 obtain ⟨w1,w2⟩:=s2.there
 obtain ⟨w3,w4⟩:=QaS.at w2
 refine Qgg (Qfi us ht) s1.ok (fun h=>absurd h w1) (fun _=>⟨_,w3,?_⟩)
 refine (Qfi us ht).str w4 rfl ?_
 refine us.put rfl (ltb rfl) rfl fun H1 u1 _=>?_
 refine QfJ (Qfi u1 ht) s1.ok (s3.sc (fun h=>h)) ?_
 refine u1.put rfl (ltb rfl) rfl fun H2 u2 _=>?_
 refine Qer (Qfi u2 ht) s1.ok (s4.sc (fun h=>h)) ?_
 refine u2.put rfl (ltb rfl) rfl fun H3 u3 _=>?_
 exact hR' _ _ _ u3 rfl rfl
theorem QgX:UpOk 309 (fun _ _ _=>True) []:=by
 intro A H p B bs pos ht _ G hG R hR
 refine up_of w309 (by kernel_rfl) hG (fun _ l=>l=[]) (fun _ _ _ _ h=>h) ?_ (fun G' H' v done e h1 o hq=>hR G' H' v e h1 (hq▸o))
 intro us R' hR'
 apply w363
 exact hR' _ _ _ us rfl rfl
def VecO (v:Qav) (F:Cut) (x:Value):Prop:=∃t,YS F x #[Qc3 v.x,Qc3 v.y,Qc3 v.z,f64V v.t1,u8n v.t2,t]/\YS F t #[Qbd v.a,i8V v.b]
theorem VecO.mono {v:Qav} {F G:Cut} {x:Value} (hl:F.le G) (h:VecO v F x):VecO v G x:=by
 obtain ⟨t,a,b⟩:=h
 exact ⟨t,a.mono hl,b.mono hl⟩
theorem Qhn {v:Qav} {H:Qe} {p B:Nat} {bs:List UInt8} {pos:Nat} (ht:Tab H p B bs pos) (hB:Yx bs pos (Qha v)) {G:Cut} (hG:G.In H) {R:Kn}
  (hR:∀G' H' x,Ext G H G' H'->x.oneCell'=true->VecO v G' x->R x H'):FnS prog 301 #[.pointer (some ⟨p,0,none⟩)] H R:=by
 obtain ⟨e0,e1,e2,e3,e4,e5,e6,e7⟩:=vec3_at hB
 refine up_of w301 (by kernel_rfl) hG (fun F l=>∃t,l=[Qc3 v.x,Qc3 v.y,Qc3 v.z,f64V v.t1,u8n v.t2,t]/\YS F t #[Qbd v.a,i8V v.b]) (fun _ _ _ hl ⟨t,a,b⟩=>⟨t,a,b.mono hl⟩) ?_ (fun G' H' v done e h1 o ⟨t,a,b⟩=>hR G' H' v e h1 ⟨t,a▸o,b⟩)
 intro us R' hR'
 apply w358
 unfold s358
 refine Qh6 (Qfi us ht) (by omega) ?_
 refine us.put rfl (ltb rfl) rfl fun H1 u1 _=>?_
 refine Qh5 (Qfi u1 ht) (by omega) ?_
 refine u1.put rfl (ltb rfl) rfl fun H2 u2 _=>?_
 refine Qh0 (Qfi u2 ht) (by omega) ?_
 refine u2.put rfl (ltb rfl) rfl fun H3 u3 _=>?_
 refine Qes (Qfi u3 ht) (by omega) ?_
 refine u3.put rfl (ltb rfl) rfl fun H4 u4 _=>?_
 refine Qeo (Qfi u4 ht) (by omega) ?_
 refine u4.put rfl (ltb rfl) rfl fun H5 u5 _=>?_
 rw[e1,e2,e3,e4,e5]at u5
 have t5:=Qfi u5 ht
 refine Qem t5 (by omega) ?_
 have u6:=u5.push (.cells #[bsl B 0 bs.length bs.length,.int .u32 (pos+26:Nat)] 237)
 have t6:Tab (H5.push (.cells #[bsl B 0 bs.length bs.length,.int .u32 (pos+26:Nat)] 237)) H5.size B bs (pos+26):=⟨Qj Qh,Qj Qh,(Qfi u6 ht).u8,ht.lt,by omega⟩
 refine Qcc (A:=0) (t:=⟨v.a,v.b⟩) t6 ⟨by omega,e6,e7⟩ u6.ext.inn fun G7 H7 x ex h1 ho=>?_
 refine (u6.next ex).put rfl (ltb rfl) h1 fun H8 u8 _=>?_
 exact hR' _ _ _ u8 rfl ⟨x,rfl,ho⟩
end Go.Proofs
namespace Go.Proofs
open Go Go.Vc
open Tryz (prog)
def PtrS {α:Type} (P:α->Cut->Value->Prop) (l:List α) (F:Cut) (v:Value):Prop:=∃vs:List Value,SlV F 1 v (vs.map fun x=>[x])/\vs.length=l.length/\∀(j:Nat) x a,vs[j]?=some x->l[j]?=some a->P a F x
theorem PtrS.mono {α:Type} {P:α->Cut->Value->Prop} (hP:∀a F G v,Cut.le F G->P a F v->P a G v) {l:List α} {F G:Cut} {v:Value} (hl:F.le G) (h:PtrS P l F v):PtrS P l G v:=by
 obtain ⟨vs,a,b,c⟩:=h
 exact ⟨vs,a.mono hl,b,fun j x y hx hy=>hP _ _ _ _ hl (c j x y hx hy)⟩
def OptO {α:Type} (P:α->Cut->Value->Prop) (l:List α) (F:Cut) (v:Value):Prop:=(l=[]/\v= .pointer none)\/∃x,l=[x]/\(∃a,v= .pointer (some a))/\P x F v
theorem OptO.mono {α:Type} {P:α->Cut->Value->Prop} (hP:∀a F G v,Cut.le F G->P a F v->P a G v) {l:List α} {F G:Cut} {v:Value} (hl:F.le G) (h:OptO P l F v):OptO P l G v:=by
 rcases h with h|⟨x,h1,h2,h3⟩
 ·exact Or.inl h
 ·exact Or.inr ⟨x,h1,h2,hP _ _ _ _ hl h3⟩
abbrev ItP {α:Type} (f:α->List Value):α->Cut->Value->Prop:=fun a F v=>YS F v (f a).toArray
theorem ItP.mono {α:Type} {f:α->List Value}:∀a F G v,Cut.le F G->ItP f a F v->ItP f a G v:=fun _ _ _ _ hl h=>YS.mono hl h
structure OV where
 pos:Value
 inventory:Value
 test:Value
 test4:Value
 strings:Value
 tables:Value
 enemy:Value
 nested:Value
 empty:Value
 bools:Value
 strings2:Value
 abil:Value
 flex:Value
 test5:Value
 longs:Value
 doubles:Value
 parent:Value
 refs:Value
 weak:Value
 strong:Value
 coOwnings:Value
 nonOwnings:Value
 uniq:Value
 amb:Value
 enums:Value
def oCells (d:QbO) (c:OV):List Value:=
 [c.pos,Qbd d.mana,Qbd d.hp,Yw d.name,c.inventory,u8n d.color,c.test,c.test4,c.strings,c.tables,c.enemy,c.nested,c.empty,.bool d.bool,QeW d.s32,Zo d.u32,Qdh d.s64,Za d.u64,QeW d.s32a,Zo d.u32a,Qdh d.s64a,Za d.u64a,c.bools,Qc3 d.f,Qc3 d.f2,Qc3 d.f3,
  c.strings2,c.abil,c.flex,c.test5,c.longs,c.doubles,c.parent,c.refs,Za d.singleWeak,c.weak,c.strong,Za d.coOwning,c.coOwnings,Za d.nonOwning,c.nonOwnings,c.uniq,c.amb,c.enums,i8V d.signedEnum]
def bytI (b:UInt8):List Value:=[u8n b]
def f64I (x:UInt64):List Value:=[f64V x]
structure OD (F:Cut) (d:QbO) (pos:List Qav) (empty:List QaA) (c:OV):Prop where
 pos:OptO VecO pos F c.pos
 inventory:SlV F 1 c.inventory (d.inventory.map bytI)
 test4:PtrS (ItP Ye) d.test4 F c.test4
 strings:SlV F 1 c.strings (d.strings.map QfL)
 nested:SlV F 1 c.nested (d.nested.map bytI)
 empty:OptO (ItP Y5) empty F c.empty
 bools:SlV F 1 c.bools (d.bools.map QhW)
 strings2:SlV F 1 c.strings2 (d.strings2.map QfL)
 abil:PtrS (ItP Zc) d.abilities F c.abil
 flex:SlV F 1 c.flex (d.flex.map bytI)
 test5:PtrS (ItP Ye) d.test5 F c.test5
 longs:SlV F 1 c.longs (d.longs.map i64I)
 doubles:SlV F 1 c.doubles (d.doubles.map f64I)
 parent:∃a:Option Addr,c.parent= .pointer a/\a.isSome=d.parent
 refs:PtrS (ItP Qb8) d.refs F c.refs
 weak:SlV F 1 c.weak (d.weak.map Qb8)
 strong:PtrS (ItP Qb8) d.strong F c.strong
 coOwnings:SlV F 1 c.coOwnings (d.coOwnings.map Qb8)
 nonOwnings:SlV F 1 c.nonOwnings (d.nonOwnings.map Qb8)
 enums:SlV F 1 c.enums (d.enums.map bytI)
theorem OD.mono {F G:Cut} (h:F.le G) {d:QbO} {pos:List Qav} {empty:List QaA} {c:OV} (x:OD F d pos empty c):OD G d pos empty c:=
 ⟨OptO.mono (P:=VecO) (fun _ _ _ _ l h=>VecO.mono l h) h x.pos,x.inventory.mono h,x.test4.mono ItP.mono h,x.strings.mono h,x.nested.mono h,x.empty.mono ItP.mono h,x.bools.mono h,x.strings2.mono h,x.abil.mono ItP.mono h,x.flex.mono h,x.test5.mono ItP.mono h,x.longs.mono h,x.doubles.mono h,x.parent,x.refs.mono ItP.mono h,x.weak.mono h,x.strong.mono ItP.mono h,x.coOwnings.mono h,x.nonOwnings.mono h,x.enums.mono h⟩
def UniO (amb:Bool) (ty color:UInt8) (none':Prop) (K:Cut->Value->Prop) (F:Cut) (v:Value):Prop:=
 (ty=0/\color=0/\none'/\v= .pointer none)\/(ty≠0/\∃x,YS F v #[u8n ty,x]/\
  ((amb=false/\ty=2/\none'/\∃y,x= .iface 264 y/\YS F y #[u8n color])\/(¬(amb=false/\ty=2)/\color=0/\∃y,x= .iface 69 y/\K F y)))
theorem UniO.mono {amb:Bool} {ty color:UInt8} {n:Prop} {K:Cut->Value->Prop} (hK:∀F G v,Cut.le F G->K F v->K G v) {F G:Cut} {v:Value} (hl:F.le G) (h:UniO amb ty color n K F v):UniO amb ty color n K G v:=by
 rcases h with h|⟨h0,x,h1,h2⟩
 ·exact Or.inl h
 ·refine Or.inr ⟨h0,x,h1.mono hl,?_⟩
  rcases h2 with ⟨a,b,b',y,c,e⟩|⟨a,b,y,c,e⟩
  ·exact Or.inl ⟨a,b,b',y,c,e.mono hl⟩
  ·exact Or.inr ⟨a,b,y,c,hK _ _ _ hl e⟩
mutual
def ObjM:GM->Cut->Value->Prop
 |.mk d pos empty tables enemy test uniq amb=>fun F v=>∃c:OV,YS F v (oCells d c).toArray/\OD F d pos empty c/\
  (∃vs:List Value,SlV F 1 c.tables (vs.map fun x=>[x])/\QiJ tables F vs)/\((enemy=[]/\c.enemy= .pointer none)\/Qdx enemy F c.enemy)/\
  UniO false d.testTy d.testColor (test=[]) (Qdx test) F c.test/\UniO false d.uniqTy d.uniqColor (uniq=[]) (Qdx uniq) F c.uniq/\UniO true d.ambTy d.ambColor (amb=[]) (Qdx amb) F c.amb
def QiJ:List GM->Cut->List Value->Prop
 |[],_,[]=>True
 |g::gs,F,v::vs=>ObjM g F v/\QiJ gs F vs
 |_,_,_=>False
def Qdx:List GM->Cut->Value->Prop
 |[],_,_=>False
 |g::gs,F,v=>gs=[]/\ObjM g F v
end
theorem ObjM.ptr {g:GM} {F:Cut} {v:Value} (h:ObjM g F v):∃q,v= .pointer (some ⟨q,0,none⟩):=by
 cases g with
 |mk d pos empty tables enemy test uniq amb=>
  rw[ObjM]at h
  obtain ⟨c,⟨q,e,h1,_⟩,_⟩:=h
  exact ⟨q,h1⟩
mutual
theorem ObjM.mono:∀(g:GM) (F G:Cut) (v:Value),Cut.le F G->ObjM g F v->ObjM g G v
 |.mk d pos empty tables enemy test uniq amb,F,G,v,hl,h=>by
  rw[ObjM]at h⊢
  obtain ⟨c,h1,h2,⟨vs,h3,h4⟩,h5,h6,h7,h8⟩:=h
  refine ⟨c,h1.mono hl,h2.mono hl,⟨vs,h3.mono hl,QiJ.mono tables F G vs hl h4⟩,?_,h6.mono (Qdx.mono test) hl,h7.mono (Qdx.mono uniq) hl,h8.mono (Qdx.mono amb) hl⟩
  rcases h5 with h5|h5
  ·exact Or.inl h5
  ·exact Or.inr (Qdx.mono enemy F G _ hl h5)
theorem QiJ.mono:∀(gs:List GM) (F G:Cut) (vs:List Value),Cut.le F G->QiJ gs F vs->QiJ gs G vs
 |[],F,G,[],_,h=>by rw[QiJ];trivial
 |g::gs,F,G,v::vs,hl,h=>by
  rw[QiJ]at h⊢
  exact ⟨ObjM.mono g F G v hl h.1,QiJ.mono gs F G vs hl h.2⟩
 |[],_,_,_::_,_,h=>by simp only[QiJ]at h
 |_::_,_,_,[],_,h=>by simp only[QiJ]at h
theorem Qdx.mono:∀(gs:List GM) (F G:Cut) (v:Value),Cut.le F G->Qdx gs F v->Qdx gs G v
 |[],_,_,_,_,h=>by rw[Qdx]at h;exact h.elim
 |g::gs,F,G,v,hl,h=>by
  rw[Qdx]at h⊢
  exact ⟨h.1,ObjM.mono g F G v hl h.2⟩
end
theorem ObjL_of {gs:List GM} {F:Cut} {vs:List Value} (hl:vs.length=gs.length) (h:∀(j:Nat) v g,vs[j]?=some v->gs[j]?=some g->ObjM g F v):QiJ gs F vs:=by
 induction gs generalizing vs with
 |nil=>
  cases vs with
  |nil=>rw[QiJ];trivial
  |cons v vs=>simp at hl
 |cons g gs ih=>
  cases vs with
  |nil=>simp at hl
  |cons v vs=>
   rw[QiJ]
   exact ⟨h 0 v g rfl rfl,ih (by simpa using hl) fun j v' g' h1 h2=>h (j+1) v' g' (by simpa using h1) (by simpa using h2)⟩
mutual
def TyM:Mon->Prop
 |.mk d tables enemy test uniq amb=>d.testTy<=3/\d.uniqTy<=3/\d.ambTy<=3/\TyL tables/\TyL enemy/\TyL test/\TyL uniq/\TyL amb
def TyL:List Mon->Prop
 |[]=>True
 |m::ms=>TyM m/\TyL ms
end
theorem TyL.get:∀{ms:List Mon},TyL ms->∀m∈ms,TyM m
 |[],_,m,h=>by simp at h
 |m'::ms,hs,m,h=>by
  rw[TyL]at hs
  rcases List.mem_cons.1 h with h|h
  ·rw[h];exact hs.1
  ·exact TyL.get hs.2 m h
def BufG (G:Cut) (B:Nat) (bs:List UInt8):Prop:=∃cells e fr,G B=some (.cells cells e fr)/\bs.length<=cells.size
theorem BufG.mono {G G':Cut} (hl:G.le G') {B:Nat} {bs:List UInt8} (h:BufG G B bs):BufG G' B bs:=by
 obtain ⟨c,e,fr,h1,h2⟩:=h
 exact ⟨c,e,fr,hl _ _ h1,h2⟩
theorem buf_sl {G:Cut} {B:Nat} {bs:List UInt8} (hB:BufG G B bs) {H:Qe} (hG:G.In H) (hu:U8s H B 0 bs) {o n c:Nat} {xs:List UInt8} (hx:Yx bs o xs) (hn:xs.length=n) (hc:n<=c):SlV G 1 (bsl B o n c) (xs.map bytI):=by
 subst hn
 obtain ⟨cells,e,fr,h1,h2⟩:=hB
 have h3:=Qiy hu (o:=o) (n:=xs.length) (i:=0) (by have:=hx.1;omega)
 have h4:=Q1 (hG _ _ h1) (o:=o) (i:=0) xs.length (by have:=hx.1;omega)
 rw[h3,Nat.add_zero,hx.2]at h4
 refine ⟨by simp[bytI],Or.inr ⟨B,o,c,cells,e,fr,by simp,h1,by simp;have:=hx.1;omega,?_,by simpa using hc⟩⟩
 rw[List.length_map,Nat.mul_one]
 have h5:=Option.some.inj h4
 rw[<-h5]
 clear h1 h2 h3 h4 h5 hx hc
 induction xs with
 |nil=>rfl
 |cons x xs ih=>rw[List.map_cons,List.map_cons,List.flatten_cons,<-ih];rfl
def QgV (m:Mon):Prop:=∀(A p B pos:Nat) (bs:List UInt8) (G:Cut) (H:Qe) (R:Kn),Tab H p B bs pos->BufG G B bs->G.In H->RdM m A bs pos->
 (∀v H' G',Ext G H G' H'->v.oneCell'=true->ObjM (rdM m) G' v->R v H')->FnS prog 43 #[ptr p] H R
section
variable {zs:List Value} {T:TypeId} {G0:Cut} {H0:Qe} {q:Nat} {G:Cut} {H:Qe} {done:List Value} (us:US zs T G0 H0 q G H done) {p B:Nat} {bs:List UInt8} {pos:Nat} (ht:Tab H0 p B bs pos)
include us ht
theorem QcF {f:FuncId} {i:Nat} {v:Value} {K:Qe->Prop} (hf:∀H' (R:Kn),Tab H' p B bs pos->R v H'->FnS prog f #[ptr p] H' R) (hi:i=done.length) (hz:i<zs.length) (hv:v.oneCell'=true)
  (hk:∀H',US zs T G0 H0 q G H' (v::done)->K H'):Qb prog f #[ptr p] H fun v' h1=>Qe0 (ptr q) i h1 v' K:=
 hf H _ (Qfi us ht) (us.put hi hz hv fun H' u _=>hk H' u)
variable {ti:TypeId} {lenf f g:FuncId} {fld:Nat} {et:TypeId} {bts:Nat} {z:Array Value} {K:Qe->Prop} (hf:fld=done.length) (hz:fld<zs.length) (hz1:z.size=1) (hb:bts<=16)
include hf hz hz1 hb
theorem Qhi {α:Type} (l:List α) (enc:α->Value) (item:α->List Value) (hit:∀a,item a=[enc a]) (hone:∀a,(enc a).oneCell'=true) (hl:l.length<2147483648) (hL:∀H' (R:Kn),Tab H' p B bs pos->R (.int .i64 (l.length:Nat)) H'->FnS prog lenf #[ptr p] H' R)
  (hI:∀(i:Nat) a H' (R:Kn),Tab H' p B bs pos->l[i]?=some a->R (enc a) H'->FnS prog f #[ptr p,.int .i64 (i:Nat)] H' R)
  (hK:∀G' H' s,US zs T G0 H0 q G' H' (s::done)->G.le G'->SlV G' 1 s (l.map item)->K H'):
  Qb prog lenf #[ptr p] H fun n h1=>Qch prog ti (ptr q) fld et bts z n h1 (lpS prog f (ptr p) (ptr q) fld) K:=by
 refine hL H _ (Qfi us ht) (mkLoop_of us hf hz hz1 hl hb (fun i _ v=>∀a,l[i]?=some a->v=enc a) (fun _ _ _ _ _ h=>h) ?_ ?_)
 ·intro i G1 H1 s k hi u le hp
  have ha:=List.getElem?_eq_getElem hi
  exact lpS_of u hf (fun R h=>hI i _ H1 R (Qfi u ht) ha h) (hp G1 H1 _ (Ext.refl u.ext.inn) (hone _) fun a h=>by rw[ha]at h;cases h;rfl)
 ·rintro G' H' s u le ⟨vs,h1,h2,h3⟩
  refine hK G' H' s u le ?_
  have e:(vs.map fun v=>[v])=l.map item:=by
   apply List.ext_getElem?
   intro j
   rw[List.getElem?_map,List.getElem?_map]
   rcases Nat.lt_or_ge j l.length with h|h
   ·have a1:=List.getElem?_eq_getElem h
    have a2:=List.getElem?_eq_getElem (l:=vs) (i:=j) (by omega)
    rw[a1,a2,Option.map_some,Option.map_some,hit,h3 j _ a2 _ a1]
   ·rw[List.getElem?_eq_none h,List.getElem?_eq_none (by omega)];rfl
  rw[<-e];exact h1
theorem up_text (l:List (List UInt8)) (hl:l.length<2147483648) (hL:∀H' (R:Kn),Tab H' p B bs pos->R (.int .i64 (l.length:Nat)) H'->FnS prog lenf #[ptr p] H' R)
  (hI:∀(i:Nat) a H' (R:Kn),Tab H' p B bs pos->l[i]?=some a->(∀o n c,Yx bs o a->a.length=n->R (bsl B o n c) H')->FnS prog f #[ptr p,.int .i64 (i:Nat)] H' R)
  (hK:∀G' H' s,US zs T G0 H0 q G' H' (s::done)->G.le G'->SlV G' 1 s (l.map QfL)->K H'):
  Qb prog lenf #[ptr p] H fun n h1=>Qch prog ti (ptr q) fld et bts z n h1 (lpT prog f (ptr p) (ptr q) fld) K:=by
 refine hL H _ (Qfi us ht) (mkLoop_of us hf hz hz1 hl hb (fun i _ v=>∀a,l[i]?=some a->v=Yw a) (fun _ _ _ _ _ h=>h) ?_ ?_)
 ·intro i G1 H1 s k hi u le hp
  have ha:=List.getElem?_eq_getElem hi
  refine u.get (v:=s) (by rw[hf];simp) (hI i _ H1 _ (Qfi u ht) ha fun o n c hx hn=>Qv (Qam.refl _).ext ((Qfi u ht).str hx hn ?_))
  exact hp G1 H1 _ (Ext.refl u.ext.inn) rfl fun a h=>by rw[ha]at h;cases h;rfl
 ·rintro G' H' s u le ⟨vs,h1,h2,h3⟩
  refine hK G' H' s u le ?_
  have e:(vs.map fun v=>[v])=l.map QfL:=by
   apply List.ext_getElem?
   intro j
   rw[List.getElem?_map,List.getElem?_map]
   rcases Nat.lt_or_ge j l.length with h|h
   ·have a1:=List.getElem?_eq_getElem h
    have a2:=List.getElem?_eq_getElem (l:=vs) (i:=j) (by omega)
    rw[a1,a2,Option.map_some,Option.map_some,h3 j _ a2 _ a1];rfl
   ·rw[List.getElem?_eq_none h,List.getElem?_eq_none (by omega)];rfl
  rw[<-e];exact h1
theorem up_obj {α:Type} {zc:Array Value} {tz:TypeId} (hzc:zc.size=2) (hoc:∀v∈zc.toList,v.oneCell'=true) (l:List α) (P:α->Cut->Value->Prop) (hP:∀a F G v,Cut.le F G->P a F v->P a G v) (loc:Nat->Nat) (hl:l.length<2147483648)
  (hL:∀H' (R:Kn),Tab H' p B bs pos->R (.int .i64 (l.length:Nat)) H'->FnS prog lenf #[ptr p] H' R)
  (hI:∀(i:Nat) a H' (R:Kn),Tab H' p B bs pos->l[i]?=some a->loc i<=bs.length/\∀q',H'[q']?=some (.cells zc tz (0,0))->R (.bool true) (setB H' q' (.cells #[bsl B 0 bs.length bs.length,.int .u32 (loc i:Nat)] tz (0,0)))->FnS prog f #[ptr p,ptr q',.int .i64 (i:Nat)] H' R)
  (hU:∀(i:Nat) a G' H' p',l[i]?=some a->Tab H' p' B bs (loc i)->G0.le G'->G'.In H'->∀R:Kn,(∀G2 H2 v,Ext G' H' G2 H2->v.oneCell'=true->P a G2 v->R v H2)->FnS prog g #[ptr p'] H' R)
  (hK:∀G' H' s,US zs T G0 H0 q G' H' (s::done)->G.le G'->PtrS P l G' s->K H'):
  Qb prog lenf #[ptr p] H fun n h1=>Qch prog ti (ptr q) fld et bts z n h1 (lpO prog zc tz f g (ptr p) (ptr q) fld) K:=by
 refine hL H _ (Qfi us ht) (mkLoop_of us hf hz hz1 hl hb (fun i G v=>∀a,l[i]?=some a->P a G v) (fun _ _ _ _ hl h a ha=>hP _ _ _ _ hl (h a ha)) ?_ ?_)
 ·intro i G1 H1 s k hi u le hp
  have ha:=List.getElem?_eq_getElem hi
  have u1:=u.push (.cells zc tz)
  have u2:=u.push (.cells #[bsl B 0 bs.length bs.length,.int .u32 (loc i:Nat)] tz)
  refine lpO_of u hf (c:=#[bsl B 0 bs.length bs.length,.int .u32 (loc i:Nat)]) (Q:=fun G v=>∀a,l[i]?=some a->P a G v) hzc hoc (fun R h=>(hI i _ _ R (Qfi u1 ht) ha).2 _ Qh (by rw[YK];exact h)) (fun R h=>hU i _ G1 _ _ ha ⟨Qj Qh,Qj Qh,(Qfi u2 ht).u8,ht.lt,(hI i _ _ (fun _ _=>True) (Qfi u1 ht) ha).1⟩ (Cut.le_trans us.ext.le le) u2.ext.inn R fun G2 H2 v e h1 h2=>h G2 H2 v e h1 fun a h'=>by rw[ha]at h';cases h';exact h2) hp
 ·rintro G' H' s u le ⟨vs,h1,h2,h3⟩
  exact hK G' H' s u le ⟨vs,h1,h2,fun j x a hx ha=>h3 j x hx a ha⟩
end
end Go.Proofs
namespace Go.Proofs
open Go Go.Vc
open Tryz (prog)
theorem tab_lt {H:Qe} {p B:Nat} {bs:List UInt8} {pos:Nat} (h:Tab H p B bs pos):p<H.size:=by
 rcases Nat.lt_or_ge p H.size with h'|h'
 ·exact h'
 ·have:=h.c0
  unfold Qb2 at this
  rw[Array.getElem?_eq_none h']at this
  cases this
section
variable {zs:List Value} {T:TypeId} {G0:Cut} {H0:Qe} {q:Nat} {G:Cut} {H:Qe} {done:List Value} (us:US zs T G0 H0 q G H done) {p B:Nat} {bs:List UInt8} {pos:Nat} (ht:Tab H0 p B bs pos)
include us ht
theorem up_bytes {A vt vo i:Nat} {f:FuncId} (hf:BytOk f vo) (hv:VT bs pos vt) {xs:List UInt8} (own:QC A bs pos vt vo (xs=[]) (ZC (QaS xs))) (hB:BufG G0 B bs) (hi:i=done.length) (hz:i<zs.length) {K:Qe->Prop}
  (hk:∀H' v,US zs T G0 H0 q G H' (v::done)->SlV G 1 v (xs.map bytI)->K H'):Qb prog f #[ptr p] H fun v h1=>Qe0 (ptr q) i h1 v K:=by
 refine hf (Qfi us ht) hv (fun h0=>?_) (fun h1=>?_)
 ·have:=own.zero h0
  subst this
  exact us.put hi hz rfl fun H' u _=>hk H' _ u (SlV.nil _ _)
 ·obtain ⟨_,hq⟩:=own.got h1
  obtain ⟨g1,g2⟩:=QaS.at hq
  have g3:=g2.1
  exact ⟨_,g1,us.put hi hz rfl fun H' u _=>hk H' _ u (buf_sl (hB.mono us.ext.le) us.ext.inn (Qfi us ht).u8 g2 rfl (by omega))⟩
theorem up_opt {α:Type} {f g:FuncId} {i:Nat} (P:α->Cut->Value->Prop) {l:List α} (hn:∀H' (R:Kn),R (.pointer none) H'->FnS prog g #[.pointer none] H' R)
  (h:(l=[]/\∀H' (R:Kn),Tab H' p B bs pos->R (.pointer none) H'->FnS prog f #[ptr p,.pointer none] H' R)\/
   ∃x loc tz,l=[x]/\loc<=bs.length/\(∀H' (R:Kn),Tab H' p B bs pos->R (ptr H'.size) (H'.push (.cells #[bsl B 0 bs.length bs.length,.int .u32 (loc:Nat)] tz))->FnS prog f #[ptr p,.pointer none] H' R)/\
    ∀G' H' p' (R:Kn),Tab H' p' B bs loc->G0.le G'->G'.In H'->(∀G2 H2 v,Ext G' H' G2 H2->v.oneCell'=true->(∃a,v= .pointer (some a))->P x G2 v->R v H2)->FnS prog g #[ptr p'] H' R)
  (hi:i=done.length) (hz:i<zs.length) {K:Qe->Prop} (hk:∀G' H' v,US zs T G0 H0 q G' H' (v::done)->G.le G'->OptO P l G' v->K H'):
  Qb prog f #[ptr p,.pointer none] H fun a h1=>Qb prog g #[a] h1 fun v h2=>Qe0 (ptr q) i h2 v K:=by
 rcases h with ⟨h1,h2⟩|⟨x,loc,tz,h1,h2,h3,h4⟩
 ·exact h2 H _ (Qfi us ht) (hn _ _ (us.put hi hz rfl fun H' u _=>hk G H' _ u (Cut.le_refl G) (Or.inl ⟨h1,rfl⟩)))
 ·have u2:=us.push (.cells #[bsl B 0 bs.length bs.length,.int .u32 (loc:Nat)] tz)
  refine h3 H _ (Qfi us ht) (h4 G _ _ _ ⟨Qj Qh,Qj Qh,(Qfi u2 ht).u8,ht.lt,h2⟩ us.ext.le u2.ext.inn fun G2 H2 v e g1 g2 g3=>?_)
  exact (u2.next e).put hi hz g1 fun H' u _=>hk G2 H' v u e.le (Or.inr ⟨x,h1,g2,g3⟩)
end
def altK (tk T:TypeId) (z z2:Array Value) (t2:TypeId) (g:FuncId) (it:TypeId) (k:Int) (x0 x3:Value) (h1:Qe) (R:Kn) (E:Prop):Prop:=
 Qr prog .eql tk x0 (.int .u8 k) fun c=>IfK c (LdN h1 2 x3 fun tb=>QA z2.toList [(0,2,tb)] fun o=>YM h1 (.cells z2 t2) fun y h2=>StK h2 2 y o fun h3=>Qb prog g #[y] h3 fun v h4=>
  QA z.toList [(0,1,(.int .u8 k)),(1,1,(.iface it v))] fun u=>YM h4 (.cells (Value.cells u) T) fun w h5=>R w h5) E
def AnyS (tk T:TypeId) (z z2:Array Value) (t2:TypeId) (g2:FuncId) (it2:TypeId) (x0 x1:Value) (h:Qe) (R:Kn):Prop:=
 YM h (.cells (Value.cells x1) 211) fun x3 h1=>altK tk T z z213 213 43 69 1 x0 x3 h1 R
  (altK tk T z z2 t2 g2 it2 2 x0 x3 h1 R (altK tk T z z213 213 43 69 3 x0 x3 h1 R (R (.pointer none) h1)))
theorem fillPair {z:Array Value} (hz:z.size=2) (a b:Value) (ha:a.oneCell'=true) (hb:b.oneCell'=true):Z3 z.toList [(0,1,a),(1,1,b)]=some [a,b]:=by
 obtain ⟨l⟩:=z
 match l,hz with
 |[x,y],_=>
  have e1:a.cells=#[a]:=QeR ha
  have e2:b.cells=#[b]:=QeR hb
  simp[Z3,e1,e2]
theorem fillWhole {z:Array Value} (hz:z.size=2) (a b:Value):Z3 z.toList [(0,2,.agg #[a,b])]=some [a,b]:=by
 obtain ⟨l⟩:=z
 match l,hz with
 |[x,y],_=>simp[Z3,Value.cells]
theorem Qfa {tk T:TypeId} {z z2:Array Value} {t2:TypeId} {g:FuncId} {it:TypeId} {k n:Int} {x3:Value} {h1:Qe} {R:Kn} {E:Prop} (hne:n≠k) (hE:E):altK tk T z z2 t2 g it k (.int .u8 n) x3 h1 R E:=by
 unfold altK
 rw[Yo,QJ hne]
 exact hE
theorem altK_hit {tk T:TypeId} {z z2:Array Value} (hz:z.size=2) (hz2:z2.size=2) {t2:TypeId} {g:FuncId} {it:TypeId} {k:Int} {q3:Nat} {h1:Qe} {R:Kn} {E:Prop} {a b:Value} {t3:TypeId} (hq:h1[q3]?=some (.cells #[a,b] t3 (0,0))) (ha:a.oneCell'=true) (hb:b.oneCell'=true) {G:Cut} (Q:Cut->Value->Prop) (hQ:∀F F' v,Cut.le F F'->Q F v->Q F' v)
  (hg:∀R':Kn,(∀G2 H2 v,Ext G (h1.push (.cells #[a,b] t2)) G2 H2->v.oneCell'=true->Q G2 v->R' v H2)->FnS prog g #[ptr h1.size] (h1.push (.cells #[a,b] t2)) R')
  (hR:∀G2 H2 v w,Ext G (h1.push (.cells #[a,b] t2)) G2 H2->w.oneCell'=true->YS G2 w #[.int .u8 k,.iface it v]->Q G2 v->R w H2):altK tk T z z2 t2 g it k (.int .u8 k) (ptr q3) h1 R E:=by
 unfold altK
 rw[Yo,QY rfl,Y3 (n:=2) (vs:=[a,b]) (by rw[Q1 hq 2 (by simp)];rfl)]
 refine Qa2 (fillWhole hz2 a b) ?_
 rw[Q2,Yf (n:=2) (c':=#[a,b]) Qh hz2 rfl (by decide) (by intro v hv;simp at hv;rcases hv with rfl|rfl<;>assumption),YK]
 refine hg _ fun G2 H2 v e h1 h2=>?_
 refine Qa2 (fillPair hz _ _ rfl rfl) ?_
 rw[Q2]
 exact hR _ _ v _ (e.pushG _) rfl ⟨_,_,rfl,Cut.upd_same⟩ (hQ _ _ _ (Cut.le_upd (e.inn.none (Nat.le_refl _))) h2)
abbrev AnyOk (un:FuncId) (amb:Bool):Prop:=∀{A B t:Nat} {bs:List UInt8} {ty color:UInt8} {kids:List Mon} {G:Cut} {H:Qe} {R:Kn} (_:G.In H) (_:BufG G B bs) (_:∀k∈kids,QgV k) (_:ty≠0) (_:ty<=3) (_:U8s H B 0 bs) (_:bs.length<2147483648) (_:t<=bs.length)
 (_:UnP amb ty color (Rd1 kids) A bs t) (_:∀G' H' v,Ext G H G' H'->v.oneCell'=true->UniO amb ty (QhB amb ty color) (rdU amb ty (rd1 kids)=[]) (Qdx (rdU amb ty (rd1 kids))) G' v->R v H'),
 FnS prog un #[u8n ty,.agg #[bsl B 0 bs.length bs.length,.int .u32 (t:Nat)]] H R
theorem any_kid {A B t:Nat} {bs:List UInt8} {kids:List Mon} {G:Cut} {H1:Qe} (hG:G.In H1) (hB:BufG G B bs) (hK:∀k∈kids,QgV k) (hu:U8s H1 B 0 bs) (hl:bs.length<2147483648) (htl:t<=bs.length) (hr:Rd1 kids A bs t) (R':Kn)
  (h:∀G2 H2 v,Ext G (H1.push (.cells #[bsl B 0 bs.length bs.length,.int .u32 (t:Nat)] 213)) G2 H2->v.oneCell'=true->Qdx (rd1 kids) G2 v->R' v H2):
  FnS prog 43 #[ptr H1.size] (H1.push (.cells #[bsl B 0 bs.length bs.length,.int .u32 (t:Nat)] 213)) R':=by
 cases kids with
 |nil=>rw[Rd1]at hr;exact hr.elim
 |cons m ms=>
  rw[Rd1]at hr
  refine hK m List.mem_cons_self A _ B t bs G _ R' ⟨Qj Qh,Qj Qh,QeK (Qam.push _ _).ext hu,hl,htl⟩ hB (hG.push _) hr fun v H' G' e h1 h2=>h G' H' v e h1 ?_
  rw[rd1,Qdx]
  exact ⟨rfl,h2⟩
theorem u8_cases {ty:UInt8} (h0:ty≠0) (h3:ty<=3):ty=1\/ty=2\/ty=3:=by
 have:ty.toNat<=3:=UInt8.le_iff_toNat_le.1 h3
 have h0':ty.toNat≠0:=fun h=>h0 (UInt8.toNat_inj.1 h)
 have:ty.toNat=1\/ty.toNat=2\/ty.toNat=3:=by omega
 rcases this with h|h|h
 ·exact Or.inl (UInt8.toNat_inj.1 h)
 ·exact Or.inr (Or.inl (UInt8.toNat_inj.1 h))
 ·exact Or.inr (Or.inr (UInt8.toNat_inj.1 h))
theorem anyS_false {un:FuncId} {tk T:TypeId} {z:Array Value} (hz:z.size=2) (hw:∀{x0 x1 h R},AnyS tk T z z316 316 359 264 x0 x1 h R->FnS prog un #[x0,x1] h R):AnyOk un false:=by
 intro A B t bs ty color kids G H R hG hB hK h0 h3 hu hl htl hr hR
 apply hw
 unfold AnyS
 rw[Q2]
 have e0:=(Ext.refl hG).push (.cells (Value.cells (.agg #[bsl B 0 bs.length bs.length,.int .u32 (t:Nat)])) 211)
 have hu1:=QeK (Qam.push H (.cells (Value.cells (.agg #[bsl B 0 bs.length bs.length,.int .u32 (t:Nat)])) 211)).ext hu
 have hq:(H.push (.cells (Value.cells (.agg #[bsl B 0 bs.length bs.length,.int .u32 (t:Nat)])) 211))[H.size]?=some (.cells #[bsl B 0 bs.length bs.length,.int .u32 (t:Nat)] 211 (0,0)):=Qh
 generalize H.push (.cells (Value.cells (.agg #[bsl B 0 bs.length bs.length,.int .u32 (t:Nat)])) 211)=H1 at *
 unfold UnP at hr
 rcases u8_cases h0 h3 with rfl|rfl|rfl
 ·rw[if_neg (by decide)]at hr
  refine altK_hit (k:=1) hz rfl hq rfl rfl (Qdx (rd1 kids)) (fun F F' v=>Qdx.mono _ F F' v) (fun R' h=>any_kid e0.inn hB hK hu1 hl htl hr R' h) fun G2 H2 v w e g1 g2 g3=>hR G2 H2 w ((e0.push _).trans e) g1 (Or.inr ⟨by decide,_,g2,Or.inr ⟨by decide,rfl,v,rfl,g3⟩⟩)
 ·rw[if_pos ⟨rfl,rfl⟩]at hr
  refine Qfa (by decide) (altK_hit (k:=2) hz rfl hq rfl rfl (fun F v=>YS F v #[u8n color]) (fun F F' v hl h=>h.mono hl) (fun R' h=>QgA ⟨Qj Qh,Qj Qh,QeK (Qam.push _ _).ext hu1,hl,htl⟩ hr (e0.inn.push _) h) fun G2 H2 v w e g1 g2 g3=>hR G2 H2 w ((e0.push _).trans e) g1 (Or.inr ⟨by decide,_,g2,Or.inl ⟨rfl,rfl,rfl,v,rfl,g3⟩⟩))
 ·rw[if_neg (by decide)]at hr
  refine Qfa (by decide) (Qfa (by decide) (altK_hit (k:=3) hz rfl hq rfl rfl (Qdx (rd1 kids)) (fun F F' v=>Qdx.mono _ F F' v) (fun R' h=>any_kid e0.inn hB hK hu1 hl htl hr R' h) fun G2 H2 v w e g1 g2 g3=>hR G2 H2 w ((e0.push _).trans e) g1 (Or.inr ⟨by decide,_,g2,Or.inr ⟨by decide,rfl,v,rfl,g3⟩⟩)))
theorem anyS_true {un:FuncId} {tk T:TypeId} {z:Array Value} (hz:z.size=2) (hw:∀{x0 x1 h R},AnyS tk T z z213 213 43 69 x0 x1 h R->FnS prog un #[x0,x1] h R):AnyOk un true:=by
 intro A B t bs ty color kids G H R hG hB hK h0 h3 hu hl htl hr hR
 apply hw
 unfold AnyS
 rw[Q2]
 have e0:=(Ext.refl hG).push (.cells (Value.cells (.agg #[bsl B 0 bs.length bs.length,.int .u32 (t:Nat)])) 211)
 have hu1:=QeK (Qam.push H (.cells (Value.cells (.agg #[bsl B 0 bs.length bs.length,.int .u32 (t:Nat)])) 211)).ext hu
 have hq:(H.push (.cells (Value.cells (.agg #[bsl B 0 bs.length bs.length,.int .u32 (t:Nat)])) 211))[H.size]?=some (.cells #[bsl B 0 bs.length bs.length,.int .u32 (t:Nat)] 211 (0,0)):=Qh
 generalize H.push (.cells (Value.cells (.agg #[bsl B 0 bs.length bs.length,.int .u32 (t:Nat)])) 211)=H1 at *
 unfold UnP at hr
 rw[if_neg (fun h=>Bool.noConfusion h.1)]at hr
 have hit:∀{k:Int} {E:Prop},(ty.toNat:Int)=k->QhB true ty color=0->rdU true ty (rd1 kids)=rd1 kids->altK tk T z z213 213 43 69 k (.int .u8 k) (ptr H.size) H1 R E:=fun {k E} hk hc hd=>by
  refine altK_hit hz rfl hq rfl rfl (Qdx (rd1 kids)) (fun F F' v=>Qdx.mono _ F F' v) (fun R' h=>any_kid e0.inn hB hK hu1 hl htl hr R' h) fun G2 H2 v w e g1 g2 g3=>hR G2 H2 w ((e0.push _).trans e) g1 (Or.inr ⟨h0,_,by rw[<-hk]at g2;exact g2,Or.inr ⟨fun h=>Bool.noConfusion h.1,hc,v,rfl,by rw[hd];exact g3⟩⟩)
 rcases u8_cases h0 h3 with rfl|rfl|rfl
 ·exact hit (k:=1) rfl rfl rfl
 ·exact Qfa (by decide) (hit (k:=2) rfl rfl rfl)
 ·exact Qfa (by decide) (Qfa (by decide) (hit (k:=3) rfl rfl rfl))
theorem Any_UnPack:AnyOk 303 false:=anyS_false (z:=z172) rfl w303
theorem Unique_UnPack:AnyOk 311 false:=anyS_false (z:=z175) rfl w311
theorem Qjb:AnyOk 312 true:=anyS_true (z:=z179) rfl w312
theorem up_union {zs:List Value} {T:TypeId} {G0:Cut} {H0:Qe} {q:Nat} {G:Cut} {H:Qe} {done:List Value} (us:US zs T G0 H0 q G H done) {p B:Nat} {bs:List UInt8} {pos:Nat} (ht:Tab H0 p B bs pos) {A vt vo voT fld:Nat} (hv:VT bs pos vt) {f tyf un:FuncId} {amb:Bool} {ty color:UInt8} {kids:List Mon} (hf:UniOk f vo) (hty:Qi6 tyf 1 voT 0 vU8) (hun:AnyOk un amb)
  (oty:QC A bs pos vt voT (ty=0) (Qa4 1 ty.toNat)) (own:QC A bs pos vt vo (ty=0) (ZC (UnP amb ty color (Rd1 kids)))) (hB:BufG G0 B bs) (hK:∀k∈kids,QgV k) (h3:ty<=3) (hfl:fld=done.length) (hzs:zs[fld]?=some (.pointer none)) {K:Qe->Prop}
  (hk:∀G' H' v,US zs T G0 H0 q G' H' (v::done)->G.le G'->UniO amb ty (QhB amb ty color) (rdU amb ty (rd1 kids)=[]) (Qdx (rdU amb ty (rd1 kids))) G' v->K H'):
  uniF prog z211 211 f tyf un (ptr p) (ptr q) fld H K:=by
 have hne:H.size≠p:=by have:=tab_lt (Qfi us ht);omega
 have u1:=us.push (.cells z211 211)
 refine uniF_of us hfl (UniO amb ty (QhB amb ty color) (rdU amb ty (rd1 kids)=[]) (Qdx (rdU amb ty (rd1 kids)))) rfl (by decide) hzs ?_ hk
 by_cases hz:slotAt bs vt vo=0
 ·have h0:=own.zero hz
  subst h0
  refine Or.inl ⟨fun R h=>hf (Qfi u1 ht) hv Qh rfl hne (fun _=>h) (fun h1=>absurd hz h1),fun G'=>Or.inl ⟨rfl,?_,?_,rfl⟩⟩
  ·simp[QhB]
  ·simp[rdU]
 ·obtain ⟨h0,q1,_,q2,q3⟩:=own.got hz
  have u2:=us.push (.cells #[bsl B 0 bs.length bs.length,.int .u32 (tgt bs (pos+slotAt bs vt vo):Nat)] 211)
  refine Or.inr ⟨#[bsl B 0 bs.length bs.length,.int .u32 (tgt bs (pos+slotAt bs vt vo):Nat)],u8n ty,rfl,fun R h=>hf (Qfi u1 ht) hv Qh rfl hne (fun h1=>absurd h1 hz) (fun _=>⟨q1,q2,by rw[YK];exact h⟩),fun R h=>?_,fun R h=>hun u2.ext.inn (hB.mono us.ext.le) hK h0 h3 (Qfi u2 ht).u8 ht.lt q2 q3 h⟩
  exact hty (Qfi u2 ht) hv (oty.sc (by rintro rfl;rfl)) h
end Go.Proofs
namespace Go.Proofs
open Go Go.Vc
open Tryz (prog)
theorem f32_fl (x D:UInt32):vF32 (flR x.toNat D.toNat)=Qc3 (flU x D):=by rw[<-QhI]
theorem byte1_at {bs:List UInt8} {p:Nat} {b:UInt8} (h:Yx bs p [b]):byteN bs p=b.toNat:=by
 have:=h.byte (i:=0) (by simp)
 rw[Nat.add_zero]at this
 rw[this];simp[byteN,List.getD]
theorem unp_fin {zs:List Value} {T:TypeId} {G0:Cut} {H0:Qe} {q:Nat} {G:Cut} {H:Qe} {done cells:List Value} (us:US zs T G0 H0 q G H done) (he:done=cells):US zs T G0 H0 q G H cells:=he▸us
theorem objPtr {F:Cut} {v:Value} {c:Array Value} (h:YS F v c):∃a,v= .pointer (some a):=by
 obtain ⟨q,_,h,_⟩:=h
 exact ⟨_,h⟩
set_option maxHeartbeats 2000000 in
theorem unpTo_ok {d:QbO} {tables enemy test uniq amb:List Mon} (hT:∀k∈tables,QgV k) (hE:∀k∈enemy,QgV k) (hU:∀k∈test,QgV k) (hQ:∀k∈uniq,QgV k) (hA:∀k∈amb,QgV k) (y1:d.testTy<=3) (y2:d.uniqTy<=3) (y3:d.ambTy<=3)
  {A p B pos vt q:Nat} {bs:List UInt8} {G0:Cut} {H0 H:Qe} (ht:Tab H0 p B bs pos) (hB:BufG G0 B bs) (own:OwnRd A bs pos vt d)
  (sT:QC A bs pos vt 26 (tables=[]) (ZC (fun A bs t=>VecP 4 4 tables.length A bs t/\RdL tables A bs (t+4)))) (sE:QC A bs pos vt 28 (enemy=[]) (ZC (Rd1 enemy))) (sU:QC A bs pos vt 20 (d.testTy=0) (ZC (UnP false d.testTy d.testColor (Rd1 test)))) (sQ:QC A bs pos vt 92 (d.uniqTy=0) (ZC (UnP false d.uniqTy d.uniqColor (Rd1 uniq)))) (sA:QC A bs pos vt 96 (d.ambTy=0) (ZC (UnP true d.ambTy d.ambColor (Rd1 amb))))
  (us:US z157.toList 157 G0 H0 q G0 H []) {R:Kn}
  (hR:∀G' H' c,US z157.toList 157 G0 H0 q G' H' (oCells (rdD d) c).reverse->OD G' (rdD d) d.pos.toList d.empty.toList c->(∃vs:List Value,SlV G' 1 c.tables (vs.map fun x=>[x])/\QiJ (rdMs tables) G' vs)->((rd1 enemy=[]/\c.enemy= .pointer none)\/Qdx (rd1 enemy) G' c.enemy)->
   UniO false d.testTy (QhB false d.testTy d.testColor) (rdU false d.testTy (rd1 test)=[]) (Qdx (rdU false d.testTy (rd1 test))) G' c.test->UniO false d.uniqTy (QhB false d.uniqTy d.uniqColor) (rdU false d.uniqTy (rd1 uniq)=[]) (Qdx (rdU false d.uniqTy (rd1 uniq))) G' c.uniq->UniO true d.ambTy (QhB true d.ambTy d.ambColor) (rdU true d.ambTy (rd1 amb)=[]) (Qdx (rdU true d.ambTy (rd1 amb))) G' c.amb->R (.tuple #[]) H'):
  FnS prog 178 #[ptr p,ptr q] H R:=by
 have hv:=own.tab.ok
 have hlt:=ht.lt
 apply w178
 unfold s178
 refine up_opt us ht (l:=d.pos.toList) VecO (fun H' R h=>up_nil w301 (by kernel_rfl) h) (by
  by_cases hz:slotAt bs vt 4=0
  ·exact Or.inl ⟨by rw[own.pos0.zero hz];rfl,fun H' R t h=>Qcb t hv (fun _=>h) (fun h1=>absurd hz h1)⟩
  ·obtain ⟨hn,hq⟩:=own.pos0.got hz
   cases hp:d.pos with
   |none=>exact absurd hp hn
   |some v=>
    rw[hp]at hq
    have hq:BytesP 8 (Qha v) A bs (pos+slotAt bs vt 4):=hq
    have hby:Yx bs (pos+slotAt bs vt 4) (Qha v):=⟨hq.1,hq.2.2⟩
    have e0:=(vec3_at hby).1
    exact Or.inr ⟨v,pos+slotAt bs vt 4,_,rfl,by omega,fun H' R t h=>Qcb t hv (fun h0=>absurd h0 hz) (fun _=>⟨by omega,h⟩),fun G' H' p' R t le hG h=>Qhn t hby hG fun G2 H2 x e h1 h2=>h G2 H2 x e h1 (by obtain ⟨_,h3,_⟩:=h2;exact objPtr h3) h2⟩) rfl (ltb rfl) fun G0 H0 c0 u0 le0 v0=>?_
 refine QcF u0 ht (fun H' R t h=>QbN t hv (own.mana.sc (fun h=>h)) h) rfl (ltb rfl) rfl fun H1 u1=>?_
 refine QcF u1 ht (fun H' R t h=>Qb9 t hv (own.hp.sc (fun h=>h)) h) rfl (ltb rfl) rfl fun H2 u2=>?_
 obtain ⟨n1,n2⟩:=own.name.there
 obtain ⟨n3,n4⟩:=QaS.at n2
 refine ZI (Qfi u2 ht) hv (fun h=>absurd h n1) (fun _=>⟨_,n3,?_⟩)
 refine (Qfi u2 ht).str n4 rfl ?_
 refine u2.put rfl (ltb rfl) rfl fun H3 u3 _=>?_
 refine up_bytes u3 ht Qdn hv own.inventory hB rfl (ltb rfl) fun H4 c4 u4 v4=>?_
 refine QcF u4 ht (fun H' R t h=>Zk t hv (own.color.sc (fun h=>h)) h) rfl (ltb rfl) rfl fun H5 u5=>?_
 refine up_union u5 ht hv QdB Qcj Any_UnPack own.testTy sU hB hU y1 rfl rfl fun G6 H6 c6 u6 le6 v6=>?_
 obtain ⟨a7,f7,i7⟩:=own.test4.vec (QR (fun t:Qba=>Qaz t.a.toNat t.b.toNat))
 rw[List.length_map]at f7
 have b7:=fun (i:Nat) a (ha:d.test4[i]?=some a)=>testB_at (i7 i _ (by rw[List.getElem?_map,ha];rfl))
 refine up_obj u6 ht rfl (ltb rfl) rfl (by decide) rfl (by decide) d.test4 (ItP Ye) ItP.mono (fun i=>a7+4*i) (by have:=Qec.n_le f7 (by decide);omega) (fun H' R t h=>Qbo t hv f7 h) (fun i a H' R t ha=>⟨by have:=(b7 i a ha).1;omega,fun q' hq h=>Qds t hv f7 (Qo ha) hq rfl h⟩) (fun i a G' H' p' ha t le hG R h=>Qcc (A:=0) t (b7 i a ha) hG h) fun G7 H7 c7 u7 le7 v7=>?_
 obtain ⟨a8,f8,i8⟩:=own.strings.vecT
 refine up_text u7 ht rfl (ltb rfl) rfl (by decide) d.strings (by have:=Qec.n_le f8 (by decide);omega) (fun H' R t h=>Z7 t hv f8 h) (fun i a H' R t ha h=>Qaj t hv f8 (Qo ha) (QaS.at (i8 i a ha)).1 (h _ _ _ (QaS.at (i8 i a ha)).2 rfl)) fun G8 H8 c8 u8 le8 v8=>?_
 obtain ⟨a9,f9,i9⟩:∃at_,Qec 4 bs pos vt 26 tables.length at_/\∀(i:Nat) a,tables[i]?=some a->ZC (RdM a) A bs (at_+4*i):=by
  rcases sT with ⟨h1,h2⟩|⟨h1,_,h3⟩
  ·subst h2
   exact ⟨0,Or.inl ⟨h1,rfl⟩,fun i x h=>by simp at h⟩
  ·obtain ⟨q1,q2,q3,⟨v1,v2,v3,v4⟩,q5⟩:=h3
   exact ⟨tgt bs (pos+slotAt bs vt 26)+4,Or.inr ⟨h1,q1,rfl,v4,v1,by omega⟩,RdL_get tables q5⟩
 refine up_obj u8 ht rfl (ltb rfl) rfl (by decide) rfl (by decide) tables (fun m=>ObjM (rdM m)) (fun m=>ObjM.mono _) (fun i=>tgt bs (a9+4*i)) (by have:=Qec.n_le f9 (by decide);omega) (fun H' R t h=>ZA t hv f9 h) (fun i a H' R t ha=>⟨(i9 i a ha).2.2.1,fun q' hq h=>Qaf t hv f9 (Qo ha) (i9 i a ha).1 (i9 i a ha).2.2.1 hq rfl h⟩) (fun i a G' H' p' ha t le hG R h=>hT a (List.mem_of_getElem? ha) A p' B _ bs G' H' R t (hB.mono le) hG (i9 i a ha).2.2.2 fun v H2 G2 e h1 h2=>h G2 H2 v e h1 h2) fun G9 H9 c9 u9 le9 v9=>?_
 refine up_opt u9 ht (l:=rd1 enemy) ObjM (fun H' R h=>up_nil w43 (by kernel_rfl) h) (by
  by_cases hz:slotAt bs vt 28=0
  ·exact Or.inl ⟨by rw[sE.zero hz,rd1],fun H' R t h=>Qbv t hv (fun _=>h) (fun h1=>absurd hz h1)⟩
  ·obtain ⟨hn,q1,_,q2',q3'⟩:=sE.got hz
   cases enemy with
   |nil=>exact absurd rfl hn
   |cons m ms=>
    rw[Rd1]at q3'
    exact Or.inr ⟨rdM m,tgt bs (pos+slotAt bs vt 28),_,by rw[rd1],q2',fun H' R t h=>Qbv t hv (fun h0=>absurd h0 hz) (fun _=>⟨q1,q2',h⟩),fun G' H' p' R t le hG h=>hE m List.mem_cons_self A p' B _ bs G' H' R t (hB.mono le) hG q3' fun v H2 G2 e h1 h2=>h G2 H2 v e h1 (by obtain ⟨a,h3⟩:=h2.ptr;exact ⟨_,h3⟩) h2⟩) rfl (ltb rfl) fun G10 H10 c10 u10 le10 v10=>?_
 refine up_bytes u10 ht Qb0 hv own.nested hB rfl (ltb rfl) fun H11 c11 u11 v11=>?_
 refine up_opt u11 ht (l:=d.empty.toList) (ItP Y5) (fun H' R h=>up_nil w306 (by kernel_rfl) h) (by
  by_cases hz:slotAt bs vt 32=0
  ·exact Or.inl ⟨by rw[own.empty.zero hz];rfl,fun H' R t h=>Qao t hv (fun _=>h) (fun h1=>absurd hz h1)⟩
  ·obtain ⟨hn,q1,_,q2',q3'⟩:=own.empty.got hz
   cases hp:d.empty with
   |none=>exact absurd hp hn
   |some s=>exact Or.inr ⟨s,tgt bs (pos+slotAt bs vt 32),_,rfl,q2',fun H' R t h=>Qao t hv (fun h0=>absurd h0 hz) (fun _=>⟨q1,q2',h⟩),fun G' H' p' R t le hG h=>Qhv t (q3' s hp) hG fun G2 H2 x e h1 h2=>h G2 H2 x e h1 (objPtr h2) h2⟩) rfl (ltb rfl) fun G12 H12 c12 u12 le12 v12=>?_
 refine QcF u12 ht (v:=.bool d.bool) (fun H' R t h=>Yz t hv (own.bool.sc (fun h=>h)) (by rw[Qfp];exact h)) rfl (ltb rfl) rfl fun H13 u13=>?_
 refine QcF u13 ht (fun H' R t h=>QX t hv (own.s32.sc (fun h=>h)) h) rfl (ltb rfl) rfl fun H14 u14=>?_
 refine QcF u14 ht (fun H' R t h=>QS t hv (own.u32.sc (fun h=>h)) h) rfl (ltb rfl) rfl fun H15 u15=>?_
 refine QcF u15 ht (fun H' R t h=>QI t hv (own.s64.sc (fun h=>h)) h) rfl (ltb rfl) rfl fun H16 u16=>?_
 refine QcF u16 ht (fun H' R t h=>QD t hv (own.u64.sc (fun h=>h)) h) rfl (ltb rfl) rfl fun H17 u17=>?_
 refine QcF u17 ht (fun H' R t h=>Q8 t hv (own.s32a.sc (fun h=>h)) h) rfl (ltb rfl) rfl fun H18 u18=>?_
 refine QcF u18 ht (fun H' R t h=>Q6 t hv (own.u32a.sc (fun h=>h)) h) rfl (ltb rfl) rfl fun H19 u19=>?_
 refine QcF u19 ht (fun H' R t h=>Q4 t hv (own.s64a.sc (fun h=>h)) h) rfl (ltb rfl) rfl fun H20 u20=>?_
 refine QcF u20 ht (fun H' R t h=>Q3 t hv (own.u64a.sc (fun h=>h)) h) rfl (ltb rfl) rfl fun H21 u21=>?_
 obtain ⟨a22,f22,i22⟩:=own.bools.vec (QR (fun b:Bool=>(rfl:(Qfc b).length=1)) (l:=d.bools))
 rw[List.length_map]at f22
 refine Qhi u21 ht rfl (ltb rfl) rfl (by decide) d.bools (fun b=>.bool b) QhW (fun _=>rfl) (fun _=>rfl) (by have:=Qec.n_le f22 (by decide);omega) (fun H' R t h=>ZF t hv f22 h) (fun i a H' R t ha h=>Qap t hv f22 (Qo ha) (by rw[bool_at (i22 i _ (by rw[List.getElem?_map,ha];rfl))];exact h)) fun G22 H22 c22 u22 le22 v22=>?_
 refine QcF u22 ht (v:=Qc3 (flU d.f 1078530000)) (fun H' R t h=>QK t hv own.f.scF (by rw[show vF32 (flR d.f.toNat 1078530000)=Qc3 (flU d.f 1078530000) from f32_fl d.f 1078530000];exact h)) rfl (ltb rfl) rfl fun H23 u23=>?_
 refine QcF u23 ht (v:=Qc3 (flU d.f2 1077936128)) (fun H' R t h=>QB t hv own.f2.scF (by rw[show vF32 (flR d.f2.toNat 1077936128)=Qc3 (flU d.f2 1077936128) from f32_fl d.f2 1077936128];exact h)) rfl (ltb rfl) rfl fun H24 u24=>?_
 refine QcF u24 ht (v:=Qc3 (flU d.f3 0)) (fun H' R t h=>Q9 t hv own.f3.scF (by rw[show vF32 (flR d.f3.toNat 0)=Qc3 (flU d.f3 0) from f32_fl d.f3 0];exact h)) rfl (ltb rfl) rfl fun H25 u25=>?_
 obtain ⟨a26,f26,i26⟩:=own.strings2.vecT
 refine up_text u25 ht rfl (ltb rfl) rfl (by decide) d.strings2 (by have:=Qec.n_le f26 (by decide);omega) (fun H' R t h=>Z6 t hv f26 h) (fun i a H' R t ha h=>Qa6 t hv f26 (Qo ha) (QaS.at (i26 i a ha)).1 (h _ _ _ (QaS.at (i26 i a ha)).2 rfl)) fun G26 H26 c26 u26 le26 v26=>?_
 obtain ⟨a27,f27,i27⟩:=own.abilities.vec (QR (fun t:Qe6=>Qbu t.id.toNat t.dist.toNat))
 rw[List.length_map]at f27
 have b27:=fun (i:Nat) a (ha:d.abilities[i]?=some a)=>abilB_at (i27 i _ (by rw[List.getElem?_map,ha];rfl))
 refine up_obj u26 ht rfl (ltb rfl) rfl (by decide) rfl (by decide) d.abilities (ItP Zc) ItP.mono (fun i=>a27+8*i) (by have:=Qec.n_le f27 (by decide);omega) (fun H' R t h=>Zi t hv f27 h) (fun i a H' R t ha=>⟨by have:=(b27 i a ha).1;omega,fun q' hq h=>Z8 t hv f27 (Qo ha) hq rfl h⟩) (fun i a G' H' p' ha t le hG R h=>Qg5 (A:=0) t (b27 i a ha) hG h) fun G27 H27 c27 u27 le27 v27=>?_
 refine up_bytes u27 ht Qex hv own.flex hB rfl (ltb rfl) fun H28 c28 u28 v28=>?_
 obtain ⟨a29,f29,i29⟩:=own.test5.vec (QR (fun t:Qba=>Qaz t.a.toNat t.b.toNat))
 rw[List.length_map]at f29
 have b29:=fun (i:Nat) a (ha:d.test5[i]?=some a)=>testB_at (i29 i _ (by rw[List.getElem?_map,ha];rfl))
 refine up_obj u28 ht rfl (ltb rfl) rfl (by decide) rfl (by decide) d.test5 (ItP Ye) ItP.mono (fun i=>a29+4*i) (by have:=Qec.n_le f29 (by decide);omega) (fun H' R t h=>Qbp t hv f29 h) (fun i a H' R t ha=>⟨by have:=(b29 i a ha).1;omega,fun q' hq h=>Qdk t hv f29 (Qo ha) hq rfl h⟩) (fun i a G' H' p' ha t le hG R h=>Qcc (A:=0) t (b29 i a ha) hG h) fun G29 H29 c29 u29 le29 v29=>?_
 obtain ⟨a30,f30,i30⟩:=own.longs.vec (QR (fun x=>Qf _ _))
 rw[List.length_map]at f30
 refine Qhi u29 ht rfl (ltb rfl) rfl (by decide) d.longs (fun x=>Qdh x) i64I (fun _=>rfl) (fun _=>rfl) (by have:=Qec.n_le f30 (by decide);omega) (fun H' R t h=>ZU t hv f30 h) (fun i a H' R t ha h=>QaP t hv f30 (Qo ha) (by rw[QeI (i30 i _ (by rw[List.getElem?_map,ha];rfl))];exact h)) fun G30 H30 c30 u30 le30 v30=>?_
 obtain ⟨a31,f31,i31⟩:=own.doubles.vec (QR (fun x=>Qf _ _))
 rw[List.length_map]at f31
 refine Qhi u30 ht rfl (ltb rfl) rfl (by decide) d.doubles (fun x=>f64V x) f64I (fun _=>rfl) (fun _=>rfl) (by have:=Qec.n_le f31 (by decide);omega) (fun H' R t h=>ZH t hv f31 h) (fun i a H' R t ha h=>Qay t hv f31 (Qo ha) (by rw[QeI (i31 i _ (by rw[List.getElem?_map,ha];rfl))];exact h)) fun G31 H31 c31 u31 le31 v31=>?_
 refine up_opt u31 ht (l:=(if d.parent then [()] else [])) (fun _ _ _=>True) (fun H' R h=>up_nil w309 (by kernel_rfl) h) (by
  by_cases hz:slotAt bs vt 72=0
  ·exact Or.inl ⟨by rw[own.parent.zero hz];rfl,fun H' R t h=>Zf t hv (fun _=>h) (fun h1=>absurd hz h1)⟩
  ·obtain ⟨hn,q1,_,q2',q3'⟩:=own.parent.got hz
   cases hp:d.parent with
   |false=>exact absurd hp hn
   |true=>exact Or.inr ⟨(),tgt bs (pos+slotAt bs vt 72),_,rfl,q2',fun H' R t h=>Zf t hv (fun h0=>absurd h0 hz) (fun _=>⟨q1,q2',h⟩),fun G' H' p' R t le hG h=>QgX (A:=0) t trivial hG fun G2 H2 x e h1 h2=>h G2 H2 x e h1 (objPtr h2) trivial⟩) rfl (ltb rfl) fun G32 H32 c32 u32 le32 v32=>?_
 obtain ⟨a33,f33,i33⟩:=own.refs.vecT
 refine up_obj u32 ht rfl (ltb rfl) rfl (by decide) rfl (by decide) d.refs (ItP Qb8) ItP.mono (fun i=>tgt bs (a33+4*i)) (by have:=Qec.n_le f33 (by decide);omega) (fun H' R t h=>Z0 t hv f33 h) (fun i a H' R t ha=>⟨(i33 i a ha).2.2.1,fun q' hq h=>ZY t hv f33 (Qo ha) (i33 i a ha).1 (i33 i a ha).2.2.1 hq rfl h⟩) (fun i a G' H' p' ha t le hG R h=>QbX t (i33 i a ha).2.2.2 hG h) fun G33 H33 c33 u33 le33 v33=>?_
 refine QcF u33 ht (fun H' R t h=>Qp t hv (own.singleWeak.sc (fun h=>h)) h) rfl (ltb rfl) rfl fun H34 u34=>?_
 obtain ⟨a35,f35,i35⟩:=own.weak.vec (QR (fun x=>Qf _ _))
 rw[List.length_map]at f35
 refine Qhi u34 ht rfl (ltb rfl) rfl (by decide) d.weak (fun x=>Za x) Qb8 (fun _=>rfl) (fun _=>rfl) (by have:=Qec.n_le f35 (by decide);omega) (fun H' R t h=>Zm t hv f35 h) (fun i a H' R t ha h=>ZD t hv f35 (Qo ha) (by rw[QeI (i35 i _ (by rw[List.getElem?_map,ha];rfl))];exact h)) fun G35 H35 c35 u35 le35 v35=>?_
 obtain ⟨a36,f36,i36⟩:=own.strong.vecT
 refine up_obj u35 ht rfl (ltb rfl) rfl (by decide) rfl (by decide) d.strong (ItP Qb8) ItP.mono (fun i=>tgt bs (a36+4*i)) (by have:=Qec.n_le f36 (by decide);omega) (fun H' R t h=>Zb t hv f36 h) (fun i a H' R t ha=>⟨(i36 i a ha).2.2.1,fun q' hq h=>Z1 t hv f36 (Qo ha) (i36 i a ha).1 (i36 i a ha).2.2.1 hq rfl h⟩) (fun i a G' H' p' ha t le hG R h=>QbX t (i36 i a ha).2.2.2 hG h) fun G36 H36 c36 u36 le36 v36=>?_
 refine QcF u36 ht (fun H' R t h=>Qq t hv (own.coOwning.sc (fun h=>h)) h) rfl (ltb rfl) rfl fun H37 u37=>?_
 obtain ⟨a38,f38,i38⟩:=own.coOwnings.vec (QR (fun x=>Qf _ _))
 rw[List.length_map]at f38
 refine Qhi u37 ht rfl (ltb rfl) rfl (by decide) d.coOwnings (fun x=>Za x) Qb8 (fun _=>rfl) (fun _=>rfl) (by have:=Qec.n_le f38 (by decide);omega) (fun H' R t h=>YW t hv f38 h) (fun i a H' R t ha h=>Zu t hv f38 (Qo ha) (by rw[QeI (i38 i _ (by rw[List.getElem?_map,ha];rfl))];exact h)) fun G38 H38 c38 u38 le38 v38=>?_
 refine QcF u38 ht (fun H' R t h=>Qn t hv (own.nonOwning.sc (fun h=>h)) h) rfl (ltb rfl) rfl fun H39 u39=>?_
 obtain ⟨a40,f40,i40⟩:=own.nonOwnings.vec (QR (fun x=>Qf _ _))
 rw[List.length_map]at f40
 refine Qhi u39 ht rfl (ltb rfl) rfl (by decide) d.nonOwnings (fun x=>Za x) Qb8 (fun _=>rfl) (fun _=>rfl) (by have:=Qec.n_le f40 (by decide);omega) (fun H' R t h=>YQ t hv f40 h) (fun i a H' R t ha h=>Zq t hv f40 (Qo ha) (by rw[QeI (i40 i _ (by rw[List.getElem?_map,ha];rfl))];exact h)) fun G40 H40 c40 u40 le40 v40=>?_
 refine up_union u40 ht hv QbV QaW Unique_UnPack own.uniqTy sQ hB hQ y2 rfl rfl fun G41 H41 c41 u41 le41 v41=>?_
 refine up_union u41 ht hv Qb4 Qaq Qjb own.ambTy sA hB hA y3 rfl rfl fun G42 H42 c42 u42 le42 v42=>?_
 obtain ⟨a43,f43,i43⟩:=own.enums.vec (QR (fun b:UInt8=>(rfl:[b].length=1)) (l:=d.enums))
 rw[List.length_map]at f43
 refine Qhi u42 ht rfl (ltb rfl) rfl (by decide) d.enums (fun x=>u8n x) bytI (fun _=>rfl) (fun _=>rfl) (by have:=Qec.n_le f43 (by decide);omega) (fun H' R t h=>ZW t hv f43 h) (fun i a H' R t ha h=>QaQ t hv f43 (Qo ha) (by rw[byte1_at (i43 i _ (by rw[List.getElem?_map,ha];rfl))];exact h)) fun G43 H43 c43 u43 le43 v43=>?_
 refine QcF u43 ht (fun H' R t h=>Qw t hv (own.signedEnum.sc (fun h=>h)) h) rfl (ltb rfl) rfl fun H44 u44=>?_
 have L42:=le43
 have L41:=Cut.le_trans le42 L42
 have L40:=Cut.le_trans le41 L41
 have L38:=Cut.le_trans le40 L40
 have L36:=Cut.le_trans le38 L38
 have L35:=Cut.le_trans le36 L36
 have L33:=Cut.le_trans le35 L35
 have L32:=Cut.le_trans le33 L33
 have L31:=Cut.le_trans le32 L32
 have L30:=Cut.le_trans le31 L31
 have L29:=Cut.le_trans le30 L30
 have L27:=Cut.le_trans le29 L29
 have L26:=Cut.le_trans le27 L27
 have L22:=Cut.le_trans le26 L26
 have L12:=Cut.le_trans le22 L22
 have L10:=Cut.le_trans le12 L12
 have L9:=Cut.le_trans le10 L10
 have L8:=Cut.le_trans le9 L9
 have L7:=Cut.le_trans le8 L8
 have L6:=Cut.le_trans le7 L7
 have L0:=Cut.le_trans le6 L6
 have uf:=unp_fin u44 (cells:=(oCells (rdD d) ⟨c0,c4,c6,c7,c8,c9,c10,c11,c12,c22,c26,c27,c28,c29,c30,c31,c32,c33,c35,c36,c38,c40,c41,c42,c43⟩).reverse) (by kernel_rfl)
 refine hR G43 H44 ⟨c0,c4,c6,c7,c8,c9,c10,c11,c12,c22,c26,c27,c28,c29,c30,c31,c32,c33,c35,c36,c38,c40,c41,c42,c43⟩ uf ⟨OptO.mono (P:=VecO) (fun _ _ _ _ l h=>VecO.mono l h) L0 v0,v4.mono L0,v7.mono ItP.mono L7,v8.mono L8,v11.mono L10,v12.mono ItP.mono L12,v22.mono L22,v26.mono L26,v27.mono ItP.mono L27,v28.mono L27,v29.mono ItP.mono L29,v30.mono L30,v31.mono L31,?_,v33.mono ItP.mono L33,v35.mono L35,v36.mono ItP.mono L36,v38.mono L38,v40.mono L40,v43⟩ ?_ ?_ (UniO.mono (Qdx.mono _) L6 v6) (UniO.mono (Qdx.mono _) L41 v41) (UniO.mono (Qdx.mono _) L42 v42)
 ·rcases v32 with ⟨h1,h2⟩|⟨x,h1,⟨a,h2⟩,_⟩
  ·refine ⟨none,h2,?_⟩
   cases hp:d.parent with
   |false=>simp[rdD,hp]
   |true=>rw[hp]at h1;cases h1
  ·refine ⟨some a,h2,?_⟩
   cases hp:d.parent with
   |false=>rw[hp]at h1;cases h1
   |true=>simp[rdD,hp]
 ·obtain ⟨vs,h1,h2,h3⟩:=v9
  refine ⟨vs,h1.mono L9,ObjL_of (by rw[h2,QgL,List.length_map]) fun j x g hx hg=>?_⟩
  rw[QgL,List.getElem?_map]at hg
  cases ha:tables[j]? with
  |none=>rw[ha]at hg;cases hg
  |some a=>
   rw[ha]at hg
   have:rdM a=g:=Option.some.inj hg
   subst this
   exact ObjM.mono _ _ _ _ L9 (h3 j x a hx ha)
 ·rcases v10 with h|⟨x,h1,_,h2⟩
  ·exact Or.inl h
  ·refine Or.inr ?_
   rw[h1,Qdx]
   exact ⟨rfl,ObjM.mono _ _ _ _ L10 h2⟩
theorem unpStep {d:QbO} {tables enemy test uniq amb:List Mon} (hT:∀k∈tables,QgV k) (hE:∀k∈enemy,QgV k) (hU:∀k∈test,QgV k) (hQ:∀k∈uniq,QgV k) (hA:∀k∈amb,QgV k) (y1:d.testTy<=3) (y2:d.uniqTy<=3) (y3:d.ambTy<=3):QgV (.mk d tables enemy test uniq amb):=by
 intro A p B pos bs G H R ht hB hG hrd hR
 rw[RdM]at hrd
 obtain ⟨vt,own,sT,sE,sU,sQ,sA⟩:=hrd
 refine up_of w43 (by kernel_rfl) hG (fun F l=>∃c,l=oCells (rdD d) c/\OD F (rdD d) d.pos.toList d.empty.toList c/\(∃vs:List Value,SlV F 1 c.tables (vs.map fun x=>[x])/\QiJ (rdMs tables) F vs)/\((rd1 enemy=[]/\c.enemy= .pointer none)\/Qdx (rd1 enemy) F c.enemy)/\
   UniO false d.testTy (QhB false d.testTy d.testColor) (rdU false d.testTy (rd1 test)=[]) (Qdx (rdU false d.testTy (rd1 test))) F c.test/\UniO false d.uniqTy (QhB false d.uniqTy d.uniqColor) (rdU false d.uniqTy (rd1 uniq)=[]) (Qdx (rdU false d.uniqTy (rd1 uniq))) F c.uniq/\UniO true d.ambTy (QhB true d.ambTy d.ambColor) (rdU true d.ambTy (rd1 amb)=[]) (Qdx (rdU true d.ambTy (rd1 amb))) F c.amb) ?_ ?_ ?_
 ·rintro F F' l hl ⟨c,h1,h2,⟨vs,h3,h3'⟩,h4,h5,h6,h7⟩
  refine ⟨c,h1,h2.mono hl,⟨vs,h3.mono hl,QiJ.mono _ _ _ _ hl h3'⟩,?_,h5.mono (Qdx.mono _) hl,h6.mono (Qdx.mono _) hl,h7.mono (Qdx.mono _) hl⟩
  rcases h4 with h4|h4
  ·exact Or.inl h4
  ·exact Or.inr (Qdx.mono _ _ _ _ hl h4)
 ·intro us R' hR'
  refine unpTo_ok hT hE hU hQ hA y1 y2 y3 ht hB own sT sE sU sQ sA us fun G' H' c u od h1 h2 h3 h4 h5=>hR' G' H' _ u rfl ⟨c,List.reverse_reverse _,od,h1,h2,h3,h4,h5⟩
 ·rintro G' H' v done e h1 o ⟨c,rfl,h2,h3,h4,h5,h6,h7⟩
  refine hR v H' G' e h1 ?_
  rw[rdM,ObjM]
  exact ⟨c,o,h2,h3,h4,h5,h6,h7⟩
mutual
theorem unpack_all:∀m:Mon,TyM m->QgV m
 |.mk d tables enemy test uniq amb,h=>by
  rw[TyM]at h
  obtain ⟨h1,h2,h3,h4,h5,h6,h7,h8⟩:=h
  exact unpStep (Qd0 tables h4) (Qd0 enemy h5) (Qd0 test h6) (Qd0 uniq h7) (Qd0 amb h8) h1 h2 h3
theorem Qd0:∀ms:List Mon,TyL ms->∀k∈ms,QgV k
 |[],_,k,h=>by simp at h
 |m::ms,hs,k,h=>by
  rw[TyL]at hs
  rcases List.mem_cons.1 h with h|h
  ·rw[h];exact unpack_all m hs.1
  ·exact Qd0 ms hs.2 k h
end
end Go.Proofs
