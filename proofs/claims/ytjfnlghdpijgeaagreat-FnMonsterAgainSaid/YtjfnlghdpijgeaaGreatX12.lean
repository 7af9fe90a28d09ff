/- WHAT IS PROVED: the given statement of FnMonsterAgain, whatever the input: this is part 12 of 13. No conditions. -/
import Derived.Test.YtjfnlghdpijgeaaGreatX11
import Derived.ChangeArms
set_option linter.all false
namespace Go.Proofs
open Go Go.Vc
open Tryz (prog)
theorem fill14 (n0 n1 n2 n3 n4 n5 n6 n7 n8 n9 n10 n11 n12 n13:Int):Z3 (ZC z3.toList 14) [(0,1,.int .i64 n0),(1,1,.int .i64 n1),(2,1,.int .i64 n2),(3,1,.int .i64 n3),(4,1,.int .i64 n4),(5,1,.int .i64 n5),(6,1,.int .i64 n6),(7,1,.int .i64 n7),(8,1,.int .i64 n8),(9,1,.int .i64 n9),(10,1,.int .i64 n10),(11,1,.int .i64 n11),(12,1,.int .i64 n12),(13,1,.int .i64 n13)]=
  some [.int .i64 n0,.int .i64 n1,.int .i64 n2,.int .i64 n3,.int .i64 n4,.int .i64 n5,.int .i64 n6,.int .i64 n7,.int .i64 n8,.int .i64 n9,.int .i64 n10,.int .i64 n11,.int .i64 n12,.int .i64 n13]:=by kernel_rfl
theorem fill5 (s0 s1 s2 s3 s4:List UInt8):Z3 (ZC z9.toList 5) [(0,1,Yx s0),(1,1,Yx s1),(2,1,Yx s2),(3,1,Yx s3),(4,1,Yx s4)]=some [Yx s0,Yx s1,Yx s2,Yx s3,Yx s4]:=by kernel_rfl
theorem fill2 {v w:Value} (hv:v.oneCell'=true) (hw:w.oneCell'=true):Z3 (ZC z24.toList 2) [(0,1,v),(1,1,w)]=some [v,w]:=by
 have h1:=QeV hv
 have h2:=QeV hw
 unfold Z3
 rw[h1,if_pos ⟨rfl,Nat.le_of_ble_eq_true (by kernel_rfl)⟩]
 unfold Z3
 rw[h2,if_pos ⟨rfl,Nat.le_of_ble_eq_true (by kernel_rfl)⟩]
 unfold Z3
 simp[ZC,z24]
theorem or_lss {P:Program} {t:TypeId} {b:Bool} {v:Value} {n:Int} {H:Qe} (hv:v= .int .i64 n) {K:Kn} (hk:K (.bool (b||decide (n<0))) H):
  Qd (.bool b) false (fun k1=>k1 v H) H fun y1 h1=>Qd (.bool b) false (fun k2=>Qr P .lss t y1 (.int .i64 0) fun x=>k2 x h1) h1 fun y2 h2=>Yf (.bool b) (.bool true) y2 fun y=>K y h2:=by
 subst hv
 cases b
 ·rw[Y1]
  dsimp only
  rw[Y1,Yw]
  dsimp only
  rw[Qak]
  exact hk
 ·rw[Y4,Y4,Yr]
  exact hk
section
variable {H0:Qe} {G:Cut} {H:Qe} {q:Nat} {cells:List Value} {T:TypeId} (o:Yj H0 G H q (.cells cells.toArray T (0,0)))
include o
theorem and_choice {P:Program} {f:FuncId} {i:Nat} {vs:List Value} (hi:(cells.drop i).take 3=vs) (hl:i+3<=cells.length) {xa xq xd:Value} {K:Kn} (hk:FnS P f #[.agg vs.toArray,xa,xq,xd] H fun y h=>Yf (.bool true) y (.bool false) fun z=>K z h):
  Qd (.bool true) true (fun k1=>Qh (ptr q) i fun x=>k1 x H) H fun y1 h1=>Qd (.bool true) true (fun k2=>LdN h1 3 y1 fun x=>k2 x h1) h1 fun y2 h2=>Qd (.bool true) true (fun k3=>k3 xq h2) h2 fun y3 h3=>Qd (.bool true) true (fun k4=>k4 xd h3) h3 fun y4 h4=>
   Qd (.bool true) true (fun k5=>Qb P f #[y2,xa,y3,y4] h4 fun x h=>k5 x h) h4 fun y5 h5=>Yf (.bool true) y5 (.bool false) fun z=>K z h5:=by
 rw[Yb,Qu]
 dsimp only
 rw[Yb,Y0 (n:=3) (vs:=vs) (by rw[Q0 o.get 3 (by simpa using hl),Nat.add_zero];simpa using hi)]
 dsimp only
 rw[Yb]
 dsimp only
 rw[Yb]
 dsimp only
 rw[Yb]
 exact hk
theorem no_choice {P:Program} {f:FuncId} {i:Nat} {xa xq xd:Value} {K:Kn} (hk:K (.bool false) H):
  Qd (.bool false) true (fun k1=>Qh (ptr q) i fun x=>k1 x H) H fun y1 h1=>Qd (.bool false) true (fun k2=>LdN h1 3 y1 fun x=>k2 x h1) h1 fun y2 h2=>Qd (.bool false) true (fun k3=>k3 xq h2) h2 fun y3 h3=>Qd (.bool false) true (fun k4=>k4 xd h3) h3 fun y4 h4=>
   Qd (.bool false) true (fun k5=>Qb P f #[y2,xa,y3,y4] h4 fun x h=>k5 x h) h4 fun y5 h5=>Yf (.bool false) y5 (.bool false) fun z=>K z h5:=by
 rw[Z0,Z0,Z0,Z0,Z0,Qak]
 exact hk
end
def LensOk (d:Qbg) (tables:List GM):Prop:=(d.test4.length<=50/\d.strings.length<=50/\d.bools.length<=50/\d.strings2.length<=50/\d.abilities.length<=50/\d.test5.length<=50/\d.longs.length<=50/\d.doubles.length<=50/\d.refs.length<=50/\d.weak.length<=50/\d.strong.length<=50/\d.coOwnings.length<=50/\d.nonOwnings.length<=50)/\tables.length<=50
set_option maxHeartbeats 1000000 in
set_option maxRecDepth 8000 in
theorem cleanStep {d:Qbg} {pos:List Qav} {empty:List Qan} {tables enemy test uniq amb:List GM} (hT:∀k∈tables,QeQ k) (hE:∀k∈enemy,QeQ k) (hU:∀k∈test,QeQ k) (hQ:∀k∈uniq,QeQ k) (hA:∀k∈amb,QeQ k):QeQ (.mk d pos empty tables enemy test uniq amb):=by
 intro G H cells q n deep R hG hv hq hn hn2 hd hd5 hR
 rw[Qb3]at hv
 obtain ⟨c,rfl,g,wT,wE,wU,wQ,wA⟩:=hv
 apply w14
 unfold s14
 rw[Q3]
 have e:=Ext.refl hG
 have hne:H.size≠q:=fun h=>by have:=YB hq.get;omega
 have o:=Yj.zero (Yj.fresh e (.cells (Yu d c).toArray 38))
 have e:=e.push (.cells (Yu d c).toArray 38)
 have hq:=hq.push (.cells (Yu d c).toArray 38)
 have kx:KX G q H (H.push (.cells (Yu d c).toArray 38)):=KX.of_ext e
 have e1:=e.inn
 clear e
 simp only[Value.cells]
 generalize H.push (.cells (Yu d c).toArray 38)=H1 at *
 have hst:∀kp:Qe->Prop,StK H1 1 (.pointer (some ⟨q,0,none⟩)) (.int .i64 (n-1)) kp=kp (setB H1 q (left (n-1))):=fun kp=>Qbe hq.get Nat.one_pos (by simp) rfl
 rw[Qt,Ql (v:=.int .i64 n) ((Qj hq.get).trans rfl),Yh,wrap_i64 (by omega) (by omega),Qt,hst]
 clear hst
 have kx:=kx.trans (KX.set e1 hq.out (left (n-1)))
 have o:=o.set_ne hne (left (n-1))
 have hq:=hq.set (left (n-1))
 clear e1
 have hG2:=kx.inn
 generalize setB H1 q (left (n-1))=H2 at *
 obtain ⟨iT,sT,vT⟩:=wT
 obtain ⟨iE,sE,vE⟩:=wE
 have lT:=Zb.len vT
 have lE:=Zb.len vE
 rw[Qt,Ql (v:=.int .i64 (n-1)) ((Qj hq.get).trans rfl),Yw]
 refine or_lss rfl ?_
 refine or_len o (i:=0) (v:=c.pos) rfl (fun k=>g.pos.len) ?_
 refine or_len o (i:=12) (v:=c.enemy) rfl (fun k=>sE.len) ?_
 refine or_len o (i:=14) (v:=c.empty) rfl (fun k=>g.empty.len) ?_
 refine Qa1 (fun _=>hR H2 (n-1) false kx hq.get (fun h=>by cases h)) fun hb=>?_
 simp only[Bool.or_eq_false_iff,decide_eq_false_iff_not,List.length_map]at hb
 obtain ⟨⟨⟨⟨b1,b2⟩,b3⟩,b4⟩,b5⟩:=hb
 have b4:enemy.length<=1:=by omega
 have b3:pos.length<=1:=by omega
 have b5:empty.length<=1:=by omega
 have hF:∀h,Ext G H2 G h->R (.bool false) h:=fun h e=>hR h (n-1) false (kx.trans (KX.of_ext e)) (e.keep _ _ hq.get) (fun h=>by cases h)
 have e:=Ext.refl hG2
 refine Q8 (fun _ h=>Ext G H2 G h/\LensOk d tables) ?_ ?_
 ·refine Qy o (i:=9) (v:=c.test4) rfl ?_
  rw[g.test4.len]
  refine Qy o (i:=10) (v:=c.strings) rfl ?_
  rw[g.strings.len]
  refine Qy o (i:=11) (v:=c.tables) rfl ?_
  rw[sT.len]
  refine Qy o (i:=24) (v:=c.bools) rfl ?_
  rw[g.bools.len]
  refine Qy o (i:=28) (v:=c.strings2) rfl ?_
  rw[g.strings2.len]
  refine Qy o (i:=29) (v:=c.abil) rfl ?_
  rw[g.abil.len]
  refine Qy o (i:=31) (v:=c.test5) rfl ?_
  rw[g.test5.len]
  refine Qy o (i:=32) (v:=c.longs) rfl ?_
  rw[g.longs.len]
  refine Qy o (i:=33) (v:=c.doubles) rfl ?_
  rw[g.doubles.len]
  refine Qy o (i:=35) (v:=c.refs) rfl ?_
  rw[g.refs.len]
  refine Qy o (i:=37) (v:=c.weak) rfl ?_
  rw[g.weak.len]
  refine Qy o (i:=38) (v:=c.strong) rfl ?_
  rw[g.strong.len]
  refine Qy o (i:=40) (v:=c.coOwnings) rfl ?_
  rw[g.coOwnings.len]
  refine Qy o (i:=42) (v:=c.nonOwnings) rfl ?_
  rw[g.nonOwnings.len]
  unfold QN
  simp only[fill14]
  refine lens_loop (ns:=[(d.test4.map Yg).length,(d.strings.map QfU).length,iT.length,(d.bools.map Qi9).length,(d.strings2.map QfU).length,(d.abilities.map Ze).length,(d.test5.map Yg).length,(d.longs.map i64I).length,(d.doubles.map Qbb).length,(d.refs.map Qbb).length,(d.weak.map Qbb).length,(d.strong.map Qbb).length,(d.coOwnings.map Qbb).length,(d.nonOwnings.map Qbb).length]) Qg rfl (Nat.le_of_ble_eq_true rfl) (hF _ (e.push _)) ?_
  intro y hall
  refine ⟨e.push _,?_⟩
  simp only[List.mem_cons,List.not_mem_nil,or_false,forall_eq_or_imp,forall_eq,List.length_map,<-lT]at hall
  obtain ⟨h1,h2,h3,h4,h5,h6,h7,h8,h9,h10,h11,h12,h13,h14⟩:=hall
  exact ⟨⟨h1,h2,h4,h5,h6,h7,h8,h9,h10,h11,h12,h13,h14⟩,h3⟩
 rintro y1 h ⟨e,hlens⟩
 have o':=o.ext e
 refine Qy o' (i:=3) (v:=Yx d.name) rfl ?_
 refine Qy o' (i:=4) (v:=Yx d.inventory) rfl ?_
 refine Qy o' (i:=13) (v:=Yx d.nested) rfl ?_
 refine Qy o' (i:=30) (v:=Yx d.flex) rfl ?_
 refine Qy o' (i:=49) (v:=Yx d.enums) rfl ?_
 refine Qy o' (i:=10) (v:=c.strings) rfl ?_
 refine Qy o' (i:=28) (v:=c.strings2) rfl ?_
 unfold QN
 simp only[fill5]
 refine Qw (Qai.push _ _).ext ?_
 have e5:=e.push (.cells [Yx d.name,Yx d.inventory,Yx d.nested,Yx d.flex,Yx d.enums].toArray 9)
 have o5:=Yj.fresh e (.cells [Yx d.name,Yx d.inventory,Yx d.nested,Yx d.flex,Yx d.enums].toArray 9)
 have hone:∀{l:List (List UInt8)},∀x∈l.map QfU,∀y∈x,y.oneCell'=true:=fun x hx y hy=>by
  obtain ⟨s,_,rfl⟩:=List.mem_map.1 hx
  simp[QfU]at hy
  rw[hy];rfl
 have hst:d.strings.length<=50:=hlens.1.2.1
 have hst2:d.strings2.length<=50:=hlens.1.2.2.2.1
 refine appN (items:=[d.name,d.inventory,d.nested,d.flex,d.enums].map QfU) (es:=1) e5 (fun x hx=>by obtain ⟨s,_,rfl⟩:=List.mem_map.1 hx;rfl) o5 (Nat.le_refl 5) (Nat.le_refl 5) rfl (Nat.le_refl 5) (by simp) g.strings hone (by decide) (by simp only[List.length_map,List.length_cons,List.length_nil];omega) rfl ?_
 intro v6 H6 e6 c6 k6
 refine Qw (k6 rfl).ext ?_
 clear k6 o5 e5
 obtain ⟨c61,⟨_,c62⟩|⟨b,cc,cs,rfl,own,_,s1,s2,s3,s4,s5⟩⟩:=c6
 ·simp at c62
 refine appN (es:=1) e6 c61 own s1 s2 s3 s4 s5 g.strings2 hone (by decide) (by simp only[List.length_map,List.length_append,List.length_cons,List.length_nil];omega) rfl ?_
 intro v7 H7 e7 c7 _
 rw[<-List.map_append,<-List.map_append]at c7
 clear own s1 s2 s3 s4 s5 c61 e6
 have o7:=o.ext e7
 refine Q8 (fun vs h=>∃y,vs=[y]/\Ext G H2 G h/\Cur H2 G h 9 1 y ((([d.name,d.inventory,d.nested,d.flex,d.enums]++d.strings++d.strings2)++empty.map fun s=>s.id).map QfU) (fun _=>False)) ?_ ?_
 ·refine Qy o7 (i:=14) (v:=c.empty) rfl ?_
  refine emp_loop g.empty b5 e7 c7 (by simp only[List.length_append,List.length_cons,List.length_nil];omega) ?_
  exact fun y h e c=>⟨y,rfl,e,c⟩
 rintro y8 h8 ⟨y8',hy,e8,c8⟩
 cases hy
 obtain ⟨G8,e8',sl8,_,_⟩:=c8.done e8
 refine Q8 (fun _ h=>Ext G H2 G h/\∀s∈(([d.name,d.inventory,d.nested,d.flex,d.enums]++d.strings++d.strings2)++empty.map fun s=>s.id),s.length<=300) ?_ ?_
 ·refine txt_loop e8'.inn sl8 (by simp only[List.length_append,List.length_cons,List.length_nil,List.length_map];omega) (hF _ e8) ?_
  exact fun y hall=>⟨e8,hall⟩
 rintro y9 h9 ⟨e9,htx⟩
 clear c8 sl8 e8' e8 e7 c7 o7 e o'
 have o9:=o.ext e9
 refine Q8 (fun _ h=>Ext G H2 G h) ?_ ?_
 ·refine Qy o9 (i:=0) (v:=c.pos) rfl ?_
  exact pos_loop e9.inn g.pos (by omega) (fun h e=>hF _ (e9.trans e)) (fun y h e=>e9.trans e)
 rintro y10 h10 e10
 have o10:=o.ext e10
 clear o9 e9
 have hdb:d.doubles.length<=50:=hlens.1.2.2.2.2.2.2.2.1
 refine Q8 (fun _ h=>Ext G H2 G h) ?_ ?_
 ·refine Qy o10 (i:=33) (v:=c.doubles) rfl ?_
  exact dbl_loop e10.inn g.doubles (by omega) (hF _ e10) (fun y=>e10)
 rintro y11 h11 e11
 have o11:=o.ext e11
 clear o10 e10
 refine Qy o11 (i:=25) (v:=Zs d.f) rfl ?_
 rw[Zs,QP]
 refine Qi8 (.inl rfl) fun b=>?_
 rw[Ym]
 refine or_flt o11 (.inl rfl) rfl (i:=26) (by rfl) fun b=>?_
 refine or_flt o11 (.inl rfl) rfl (i:=27) (by rfl) fun b=>?_
 refine Qa1 (fun _=>hF _ e11) fun _=>?_
 have kx:=kx.trans (KX.of_ext e11)
 have hq:=hq.ext e11
 clear e11 hF o
 refine Q8 (fun _ h=>∃k,KX G q H h/\Yj #[] G h q (left k)/\Yj #[] G h H.size (.cells (Yu d c).toArray 38 (0,0))/\YV tables/\YV enemy/\(cntL tables:Int)+cntL enemy+k<=n-1/\0<=k) ?_ ?_
 ·refine Qy o11 (i:=11) (v:=c.tables) rfl ?_
  refine Qy o11 (i:=12) (v:=c.enemy) rfl ?_
  simp only[fill2 sT.one sE.one]
  have eb:=(Ext.refl kx.inn).push (.cells [c.tables,c.enemy].toArray 24)
  have ob:=Yj.zero (Yj.fresh (Ext.refl kx.inn) (.cells [c.tables,c.enemy].toArray 24))
  have hbq:h11.size≠q:=fun h=>by have:=YB hq.get;omega
  have kx:=kx.trans (KX.of_ext eb)
  have hq:=hq.ext eb
  have o12:=o11.ext eb
  rw[QbM]
  generalize h11.push (.cells [c.tables,c.enemy].toArray 24)=H12 at *
  refine ⟨fun m vs h=>∃i k y,vs=[.int .i64 (i:Nat),y]/\i+m=2/\KX G q H h/\Yj #[] G h q (left k)/\Yj #[] G h H.size (.cells (Yu d c).toArray 38 (0,0))/\Yj #[] G h h11.size (.cells [c.tables,c.enemy].toArray 24 (0,0))/\(0<i->YV tables)/\(1<i->YV enemy)/\((if 0<i then cntL tables else 0:Nat):Int)+((if 1<i then cntL enemy else 0:Nat):Int)+k<=n-1/\0<=k,⟨2,0,n-1,_,rfl,rfl,kx,hq,o12,ob,by omega,by omega,by simp,by omega⟩,?_⟩
  clear kx hq o12 ob eb
  rintro m x y h ⟨i,k,y',hx,him,kx,hq,o12,ob,ct,ce,hc,hk0⟩
  cases hx
  rw[Yw]
  by_cases hlt:i<2
  ·rw[QY (by omega)]
   have hbad:∀h' k',KX G q h h'->h'[q]?=some (left k')->R (.bool false) h':=fun h' k' kx' hq'=>hR h' k' false (kx.trans kx') hq' (fun h=>by cases h)
   refine Q8 (fun vs h=>∃v y k,vs=[v,y]/\KX G q H h/\Yj #[] G h q (left k)/\Yj #[] G h H.size (.cells (Yu d c).toArray 38 (0,0))/\Yj #[] G h h11.size (.cells [c.tables,c.enemy].toArray 24 (0,0))/\(0<i+1->YV tables)/\(1<i+1->YV enemy)/\((if 0<i+1 then cntL tables else 0:Nat):Int)+((if 1<i+1 then cntL enemy else 0:Nat):Int)+k<=n-1/\0<=k) ?_ ?_
   ·rw[QO (by omega) (by omega)]
    obtain rfl|rfl:i=0\/i=1:=by omega
    ·rw[Ql (v:=c.tables) ((Qj ob.get).trans rfl)]
     simp only[if_neg (Nat.lt_irrefl 0),if_neg (show ¬1<0 by decide)]at hc
     refine cl_loop (Hs:=h) ⟨iT,sT,vT⟩ hT hlens.2 (by omega) hd5 (KX.of_ext (Ext.refl kx.inn)) hq hk0 (by omega) hbad ?_
     intro y h' k' kx' hq' cl cn k0
     refine ⟨_,_,k',rfl,kx.trans kx',hq',Yj.kx o12 hne kx',Yj.kx ob hbq kx',fun _=>cl,fun h=>absurd h (by decide),?_,k0⟩
     simp only[if_pos (show 0<0+1 by decide),if_neg (show ¬1<0+1 by decide)]
     omega
    ·rw[Ql (v:=c.enemy) ((Qj ob.get).trans rfl)]
     simp only[if_pos (show 0<1 by decide),if_neg (show ¬1<1 by decide)]at hc
     refine cl_loop (Hs:=h) ⟨iE,sE,vE⟩ hE (by omega) (by omega) hd5 (KX.of_ext (Ext.refl kx.inn)) hq hk0 (by omega) hbad ?_
     intro y h' k' kx' hq' cl cn k0
     refine ⟨_,_,k',rfl,kx.trans kx',hq',Yj.kx o12 hne kx',Yj.kx ob hbq kx',fun _=>ct (by decide),fun _=>cl,?_,k0⟩
     simp only[if_pos (show 0<1+1 by decide),if_pos (show 1<1+1 by decide)]
     omega
   ·rintro v y h' ⟨v',y',k',hvs,kx',hq',o12',ob',ct',ce',hc',hk0'⟩
    rw[QE,wrap_i64 (by omega) (by omega)]
    exact ⟨m-1,by omega,i+1,k',y,by simp,by omega,kx',hq',o12',ob',ct',ce',hc',hk0'⟩
  ·rw[QK (by omega)]
   have:i=2:=by omega
   subst this
   simp only[if_pos (show 0<2 by decide),if_pos (show 1<2 by decide)]at hc
   exact ⟨k,kx,hq,o12,ct (by decide),ce (by decide),hc,hk0⟩
 clear kx hq o11
 rintro y12 h12 ⟨k,kx,hq,o12,ct,ce,hc,hk0⟩
 refine ldn_ok o12 (i:=6) (n:=3) (vs:=[u8n d.testTy,c.test,u8n d.testColor]) rfl (by rw[YF];decide) ?_
 refine choice_ok kx.inn wU hU hq hk0 (by omega) (by omega) hd5 ?_
 intro h13 k13 b kx13 hq13 hb
 have kx:=kx.trans kx13
 have o13:=Yj.kx o12 hne kx13
 have hF:∀h k,KX G q H h->h[q]?=some (left k)->R (.bool false) h:=fun h' k' kx' hq'=>hR h' k' false kx' hq' (fun h=>by cases h)
 cases b
 ·exact no_choice o13 (no_choice o13 (hF _ _ kx hq13))
 obtain ⟨gU,cU,lU,nU,kU⟩:=hb rfl
 refine and_choice o13 (i:=43) (vs:=[u8n d.uniqTy,c.uniq,u8n d.uniqColor]) rfl (by rw[YF];decide) ?_
 refine choice_ok kx.inn wQ hQ ⟨hq13,hq.out,Nat.zero_le _⟩ kU (by omega) (by omega) hd5 ?_
 intro h14 k14 b kx14 hq14 hb
 rw[Yr]
 have kx:=kx.trans kx14
 have o14:=Yj.kx o13 hne kx14
 cases b
 ·exact no_choice o14 (hF _ _ kx hq14)
 obtain ⟨gQ,cQ,lQ,nQ,kQ⟩:=hb rfl
 refine and_choice o14 (i:=46) (vs:=[u8n d.ambTy,c.amb,u8n d.ambColor]) rfl (by rw[YF];decide) ?_
 refine choice_ok kx.inn wA hA ⟨hq14,hq.out,Nat.zero_le _⟩ kQ (by omega) (by omega) hd5 ?_
 intro h15 k15 b kx15 hq15 hb
 rw[Yr]
 have kx:=kx.trans kx15
 cases b
 ·exact hF _ _ kx hq15
 obtain ⟨gA,cA,lA,nA,kA⟩:=hb rfl
 refine hR h15 k15 true kx hq15 fun _=>⟨?_,?_,kA⟩
 ·rw[Qef]
  refine ⟨⟨b3,b5,hlens.1,?_,fun s hs=>htx s (by simp[hs]),fun s hs=>htx s (by simp[hs]),fun s hs=>htx s.id ?_⟩,⟨hlens.2,b4⟩,⟨gU,gQ,gA⟩,⟨fun h=>cU (.inr h),fun h=>cQ (.inr h),cA (.inl rfl)⟩,ct,ce,lU,lQ,lA⟩
  ·exact ⟨htx _ (by simp),htx _ (by simp),htx _ (by simp),htx _ (by simp),htx _ (by simp)⟩
  ·exact List.mem_append_right _ (List.mem_map.2 ⟨s,hs,rfl⟩)
 ·rw[cntM];omega
mutual
theorem Clean_all:∀g:GM,QeQ g
 |.mk d pos empty tables enemy test uniq amb=>cleanStep (QdV tables) (QdV enemy) (QdV test) (QdV uniq) (QdV amb)
theorem QdV:∀gs:List GM,∀k∈gs,QeQ k
 |[],k,h=>by simp at h
 |g::gs,k,h=>by
  rcases List.mem_cons.1 h with h|h
  ·rw[h];exact Clean_all g
  ·exact QdV gs k h
end
theorem monsterClean_ok {G:Cut} {H:Qe} (hG:G.In H) {g:GM} {cells:List Value} (hv:Qb3 G g cells) {R:Kn} (hR:∀(b:Bool) H',Ext G H G H'->(b=true->Qef g/\cntM g<=20)->R (.bool b) H'):FnS prog 5 #[.agg cells.toArray] H R:=by
 apply w5
 unfold s5
 rw[Q3,Q3]
 have e:=Ext.refl hG
 have o:Yj H G (H.push (.cells (Value.agg cells.toArray).cells 38)) H.size (.cells cells.toArray 38 (0,0)):=Yj.fresh e _
 have e:=e.push (.cells (Value.agg cells.toArray).cells 38)
 generalize H.push (.cells (Value.agg cells.toArray).cells 38)=H1 at *
 have o2:Yj H G (H1.push (.cells z3 3)) H1.size (left 0):=Yj.fresh e _
 have o0:=o
 have o:=o.push (.cells z3 3)
 have hs:H.size<=H1.size:=e.keep.size
 have hne:H.size≠H1.size:=fun h=>by have:=YB o0.get;omega
 have e:=e.push (.cells z3 3)
 generalize H1.push (.cells z3 3)=H2 at *
 have hst:∀kp:Qe->Prop,StK H2 1 (.pointer (some ⟨H1.size,0,none⟩)) (.int .i64 20) kp=kp (setB H2 H1.size (left 20)):=fun kp=>Qbe o2.get Nat.one_pos (by simp) rfl
 rw[hst]
 clear hst
 have e:=e.set o2.out o2.new (left 20)
 have o:=o.set_ne hne (left 20)
 have o2:=o2.set (left 20)
 generalize setB H2 H1.size (left 20)=H3 at *
 rw[Y0 (n:=51) (vs:=cells) (by rw[Q0 o.get 51 (by simp[hv.len])];simp[<-hv.len])]
 refine Clean_all g G H3 cells H1.size 20 5 _ e.inn hv (Yj.zero o2) (by decide) (by decide) (by decide) (by decide) ?_
 intro H4 k b kx hq hb
 refine hR b H4 ⟨fun b o hbo=>?_,kx.inn,e.le,fun _ _=>rfl⟩ fun h=>?_
 ·exact kx.keep b o (fun h=>by have:=YB hbo;omega) (e.keep b o hbo)
 ·obtain ⟨h1,h2,h3⟩:=hb h
  exact ⟨h1,by omega⟩
end Go.Proofs
namespace Go.Proofs
open Go Go.Vc
open Tryz (prog)
theorem read_single (x:Nat) (hx:x<4294967296):
  (x%2147483648<8388608/\Ieee.single.read x= .number (x/2147483648%2==1) (x%2147483648) (-149))\/
  (8388608<=x%2147483648/\x%2147483648<2139095040/\Ieee.single.read x= .number (x/2147483648%2==1) (8388608+x%2147483648%8388608) (-149+((x%2147483648/8388608-1:Nat):Int)))\/
  (x%2147483648=2139095040/\Ieee.single.read x= .infinity (x/2147483648%2==1))\/Ieee.single.read x= .nan (x/2147483648%2==1) (x%2147483648-2139095040):=by
 have hs:Ieee.single.signWeight=2147483648:=by decide
 have hb:Ieee.single.binade=8388608:=by decide
 have hi:Ieee.single.infRung=2139095040:=by decide
 have hl:Ieee.single.leastPlace=-149:=by decide
 unfold Ieee.Format.read
 rw[hs,hb,hi,hl]
 by_cases h1:x%2147483648<8388608
 ·simp[h1]
 ·by_cases h2:x%2147483648<2139095040
  ·right;left
   exact ⟨by omega,h2,by simp only[if_neg h1,if_pos h2]⟩
  ·by_cases h3:x%2147483648=2139095040
   ·right;right;left
    exact ⟨h3,by simp only[if_neg h1,if_neg h2,if_pos h3]⟩
   ·right;right;right
    simp only[if_neg h1,if_neg h2,if_neg h3]
theorem cmp_int {a b:Int} (h:some (compare a b)=some Ordering.eq):a=b:=by
 have h:compare a b= .eq:=by simpa using h
 exact Std.LawfulEqCmp.eq_of_compare h
theorem pow_two_le {k:Nat} (h:0<k):∃t,0<t/\2^k=2*t:=by
 obtain ⟨j,rfl⟩:∃j,k=j+1:=⟨k-1,by omega⟩
 exact ⟨2^j,Nat.pos_of_ne_zero (by simp),by rw[Nat.pow_succ,Nat.mul_comm]⟩
theorem order_norm {x M E:Nat} (hx:x<4294967296) (hM:8388608<=M) (hM2:M<16777216) (h:(Ieee.single.read x).order (.number false M (-149+(E:Int)))=some .eq):x=(E+1)*8388608+(M-8388608):=by
 rcases read_single x hx with ⟨h1,h2⟩|⟨h1,h2,h3⟩|⟨h1,h2⟩|h1
 ·rw[h2]at h
  have h:=cmp_int h
  have e1:((-149:Int)-min (-149) (-149+(E:Int))).toNat=0:=by omega
  have e2:((-149+(E:Int))-min (-149) (-149+(E:Int))).toNat=E:=by omega
  rw[e1,e2]at h
  simp only[Ieee.signed,Nat.shiftLeft_eq,Nat.pow_zero,Nat.mul_one,Bool.false_eq_true,if_false]at h
  have hE:0<2^E:=Nat.pos_of_ne_zero (by simp)
  have hm:M<=M*2^E:=Nat.le_mul_of_pos_right _ hE
  generalize M*2^E=Z at *
  split at h<;>omega
 ·rw[h3]at h
  have h:=cmp_int h
  generalize hE':x%2147483648/8388608-1=E' at *
  generalize hM':x%2147483648%8388608=M' at *
  have hM'2:M'<8388608:=by omega
  rcases Nat.lt_trichotomy E' E with hlt|heq|hgt
  ·have e1:((-149+(E':Int))-min (-149+(E':Int)) (-149+(E:Int))).toNat=0:=by omega
   have e2:((-149+(E:Int))-min (-149+(E':Int)) (-149+(E:Int))).toNat=E-E':=by omega
   rw[e1,e2]at h
   obtain ⟨t,ht,hp⟩:=pow_two_le (k:=E-E') (by omega)
   simp only[Ieee.signed,Nat.shiftLeft_eq,Nat.pow_zero,Nat.mul_one,Bool.false_eq_true,if_false,hp]at h
   have hm:M*(2*1)<=M*(2*t):=Nat.mul_le_mul_left _ (by omega)
   generalize M*(2*t)=Z at *
   split at h<;>omega
  ·subst heq
   have e1:((-149+(E':Int))-min (-149+(E':Int)) (-149+(E':Int))).toNat=0:=by omega
   rw[e1]at h
   simp only[Ieee.signed,Nat.shiftLeft_eq,Nat.pow_zero,Nat.mul_one,Bool.false_eq_true,if_false]at h
   split at h
   ·omega
   ·rename_i hs
    have:x/2147483648%2≠1:=by simpa using hs
    omega
  ·have e1:((-149+(E':Int))-min (-149+(E':Int)) (-149+(E:Int))).toNat=E'-E:=by omega
   have e2:((-149+(E:Int))-min (-149+(E':Int)) (-149+(E:Int))).toNat=0:=by omega
   rw[e1,e2]at h
   obtain ⟨t,ht,hp⟩:=pow_two_le (k:=E'-E) (by omega)
   simp only[Ieee.signed,Nat.shiftLeft_eq,Nat.pow_zero,Nat.mul_one,Bool.false_eq_true,if_false,hp]at h
   have hm:(8388608+M')*(2*1)<=(8388608+M')*(2*t):=Nat.mul_le_mul_left _ (by omega)
   generalize (8388608+M')*(2*t)=Z at *
   split at h<;>omega
 ·rw[h2]at h
  simp only[Ieee.Datum.order]at h
  split at h<;>cases h
 ·rw[h1]at h
  cases h
theorem order_zero {x:Nat} (hx:x<4294967296) (h:(Ieee.single.read x).order (.number false 0 (-149))=some .eq):x=0\/x=2147483648:=by
 rcases read_single x hx with ⟨h1,h2⟩|⟨h1,h2,h3⟩|⟨h1,h2⟩|h1
 ·rw[h2]at h
  have h:=cmp_int h
  simp only[Ieee.signed,Nat.shiftLeft_eq,Nat.pow_zero,Nat.mul_one,Nat.zero_mul,Bool.false_eq_true,if_false]at h
  have e1:((-149:Int)-min (-149) (-149)).toNat=0:=by omega
  rw[e1]at h
  split at h<;>omega
 ·rw[h3]at h
  have h:=cmp_int h
  generalize hE':x%2147483648/8388608-1=E' at *
  simp only[Ieee.signed,Nat.shiftLeft_eq,Nat.pow_zero,Nat.mul_one,Nat.zero_mul,Bool.false_eq_true,if_false]at h
  generalize hk:((-149+(E':Int))-min (-149+(E':Int)) (-149)).toNat=k at *
  have hE:0<2^k:=Nat.pos_of_ne_zero (by simp)
  have hm:8388608+x%2147483648%8388608<=(8388608+x%2147483648%8388608)*2^k:=Nat.le_mul_of_pos_right _ hE
  generalize (8388608+x%2147483648%8388608)*2^k=Z at *
  split at h<;>omega
 ·rw[h2]at h
  simp only[Ieee.Datum.order]at h
  split at h<;>cases h
 ·rw[h1]at h
  cases h
theorem flU_1 (x:UInt32):flU x 1078530000=x:=by
 unfold flU
 split
 ·rename_i h
  have hr:Ieee.single.read (1078530000:UInt32).toNat= .number false 13176784 (-149+((127:Nat):Int)):=by decide
  have h:(Ieee.single.read x.toNat).order (Ieee.single.read (1078530000:UInt32).toNat)=some .eq:=h
  rw[hr]at h
  have:=order_norm x.toNat_lt (by decide) (by decide) h
  exact UInt32.toNat_inj.1 (by rw[this];decide)
 ·rfl
theorem flU_2 (x:UInt32):flU x 1077936128=x:=by
 unfold flU
 split
 ·rename_i h
  have hr:Ieee.single.read (1077936128:UInt32).toNat= .number false 12582912 (-149+((127:Nat):Int)):=by decide
  have h:(Ieee.single.read x.toNat).order (Ieee.single.read (1077936128:UInt32).toNat)=some .eq:=h
  rw[hr]at h
  have:=order_norm x.toNat_lt (by decide) (by decide) h
  exact UInt32.toNat_inj.1 (by rw[this];decide)
 ·rfl
theorem flU_3 (x:UInt32):flU x 0=negZ x:=by
 unfold flU negZ
 have hr:Ieee.single.read (0:UInt32).toNat= .number false 0 (-149):=by decide
 split
 ·rename_i h
  have h:(Ieee.single.read x.toNat).order (Ieee.single.read (0:UInt32).toNat)=some .eq:=h
  rw[hr]at h
  rcases order_zero x.toNat_lt h with h|h
  ·have:x=0:=UInt32.toNat_inj.1 (by rw[h];rfl)
   rw[this];rfl
  ·have:x=2147483648:=UInt32.toNat_inj.1 (by rw[h];rfl)
   rw[this];rfl
 ·rename_i h
  rw[if_neg]
  intro hx
  subst hx
  exact h (by decide)
mutual
theorem Qef.small:∀{g:GM},Qef g->QbJ g
 |.mk d pos empty tables enemy test uniq amb,h=>by
  rw[Qef]at h
  obtain ⟨h1,⟨h2,h3⟩,⟨h4,h5,h6⟩,_,c1,c2,c3,c4,c5⟩:=h
  rw[QbJ]
  exact ⟨h1,h2,h3,h4,h5,h6,YV.small c1,YV.small c2,YV.small c3,YV.small c4,YV.small c5⟩
theorem YV.small:∀{gs:List GM},YV gs->Zj gs
 |[],_=>by rw[Zj];trivial
 |g::gs,h=>by
  rw[YV]at h
  rw[Zj]
  exact ⟨Qef.small h.1,YV.small h.2⟩
end
theorem GUn.le {amb:Bool} {ty:UInt8} {n:Nat} (h:GUn amb ty n):n<=1:=by
 rcases h with ⟨_,h⟩|⟨_,⟨_,_,h⟩|⟨_,h⟩⟩<;>omega
mutual
theorem QbJ.len:∀{g:GM},QbJ g->LenM g
 |.mk d pos empty tables enemy test uniq amb,h=>by
  rw[QbJ]at h
  obtain ⟨h1,h2,h3,h4,h5,h6,c1,c2,c3,c4,c5⟩:=h
  obtain ⟨a1,a2,a3,a4,a5,a6,a7,a8,a9,a10,a11,a12,a13⟩:=h1.lists
  have p1:=h1.npos
  have p2:=h1.nempty
  have u1:=h4.le
  have u2:=h5.le
  have u3:=h6.le
  rw[LenM]
  exact ⟨⟨by omega,by omega,a1,a5,a6,h2,by omega,by omega,by omega,by omega⟩,⟨a2,a3,a4,a7,a8,a9,a10,a11,a12,a13⟩,Zj.len c1,Zj.len c2,Zj.len c3,Zj.len c4,Zj.len c5⟩
theorem Zj.len:∀{gs:List GM},Zj gs->Qi2 gs
 |[],_=>by rw[Qi2];trivial
 |g::gs,h=>by
  rw[Zj]at h
  rw[Qi2]
  exact ⟨QbJ.len h.1,Zj.len h.2⟩
end
theorem QeX (gs:List GM):(ZO gs).length=gs.length:=by rw[read0s_map,List.length_map]
mutual
theorem QgP:∀{g:GM},LenM g->LenM (Qfd g)
 |.mk d pos empty tables enemy test uniq amb,h=>by
  rw[LenM]at h
  obtain ⟨h1,h2,c1,c2,c3,c4,c5⟩:=h
  rw[Qfd,LenM]
  simp only[QeX]
  exact ⟨h1,h2,QdR c1,QdR c2,QdR c3,QdR c4,QdR c5⟩
theorem QdR:∀{gs:List GM},Qi2 gs->Qi2 (ZO gs)
 |[],_=>by rw[ZO,Qi2];trivial
 |g::gs,h=>by
  rw[Qi2]at h
  rw[ZO,Qi2]
  exact ⟨QgP h.1,QdR h.2⟩
end
mutual
def NormM:GM->Prop
 |.mk d pos empty tables enemy test uniq amb=>(d.pos=pos.head?/\d.empty=empty.head?)/\Qgd tables/\Qgd enemy/\Qgd test/\Qgd uniq/\Qgd amb
def Qgd:List GM->Prop
 |[]=>True
 |g::gs=>NormM g/\Qgd gs
end
theorem head_toList {α:Type} {l:List α} (h:l.length<=1):l.head?.toList=l:=by
 match l,h with
 |[],_=>rfl
 |[a],_=>rfl
theorem rd1_le:∀{ms:List Mon},ms.length<=1->rd1 ms=rdMs ms
 |[],_=>by rw[rd1,rdMs]
 |[m],_=>by rw[rd1,rdMs,rdMs]
theorem QhP (gs:List GM):(QbG gs).length=gs.length:=by rw[Qi3,List.length_map]
theorem colR_clean {ty color:UInt8} (h:ty≠2->color=0):Qh8 false ty color=color:=by
 unfold Qh8
 split
 ·rfl
 ·rename_i h'
  exact (h fun e=>h' ⟨rfl,e⟩).symm
theorem rdU_clean {amb:Bool} {ty:UInt8} {gs:List GM} (h:GUn amb ty gs.length):rdU amb ty gs=gs:=by
 unfold rdU
 split
 ·rename_i h'
  rcases h with ⟨_,h⟩|⟨h0,⟨_,_,h⟩|⟨h1,h⟩⟩
  ·exact (List.eq_nil_of_length_eq_zero h).symm
  ·exact (List.eq_nil_of_length_eq_zero h).symm
  ·exfalso
   rcases h' with h'|⟨h2,h3⟩
   ·exact h0 h'
   ·rcases h1 with h1|⟨h1,_⟩
    ·rw[h3]at h1;cases h1
    ·rw[h1]at h2;cases h2
 ·rfl
mutual
theorem QhT:∀{g:GM},Qef g->NormM g->rdM (toM g)=Qfd g
 |.mk d pos empty tables enemy test uniq amb,h,hn=>by
  rw[Qef]at h
  obtain ⟨h1,⟨h2,h3⟩,⟨h4,h5,h6⟩,⟨k1,k2,k3⟩,c1,c2,c3,c4,c5⟩:=h
  rw[NormM]at hn
  obtain ⟨⟨n1,n2⟩,m1,m2,m3,m4,m5⟩:=hn
  rw[toM,rdM,Qfd,rd1_le (by rw[QhP];exact h3),rd1_le (by rw[QhP];exact h4.le),rd1_le (by rw[QhP];exact h5.le),rd1_le (by rw[QhP];exact h6.le),
   QeZ c1 m1,QeZ c2 m2,QeZ c3 m3,QeZ c4 m4,QeZ c5 m5,rdU_clean (by rw[QeX];exact h4),rdU_clean (by rw[QeX];exact h5),rdU_clean (by rw[QeX];exact h6)]
  simp only[head_toList h1.npos,head_toList h1.nempty]
  congr 1
  unfold rdD
  simp only[flU_1,flU_2,flU_3,colR_clean k1,colR_clean k2,<-n1,<-n2]
  have:Qh8 true d.ambTy d.ambColor=d.ambColor:=by
   unfold Qh8
   rw[if_neg (by simp),k3]
  rw[this]
theorem QeZ:∀{gs:List GM},YV gs->Qgd gs->rdMs (QbG gs)=ZO gs
 |[],_,_=>by rw[QbG,rdMs,ZO]
 |g::gs,h,hn=>by
  rw[YV]at h
  rw[Qgd]at hn
  rw[QbG,rdMs,ZO,QhT h.1 hn.1,QeZ h.2 hn.2]
end
theorem sum_le {l:List (List UInt8)} (h:∀s∈l,s.length<=300):(l.map List.length).sum<=300*l.length:=by
 induction l with
 |nil=>simp
 |cons a l ih=>
  have:=ih (fun s hs=>h s (List.mem_cons_of_mem _ hs))
  have:=h a List.mem_cons_self
  simp only[List.map_cons,List.sum_cons,List.length_cons]
  omega
mutual
theorem cost_le:∀{g:GM},QbJ g->QcY (toM g)<=90000*cntM g
 |.mk d pos empty tables enemy test uniq amb,h=>by
  rw[QbJ]at h
  obtain ⟨h1,h2,h3,h4,h5,h6,c1,c2,c3,c4,c5⟩:=h
  obtain ⟨a1,a2,a3,a4,a5,a6,a7,a8,a9,a10,a11,a12,a13⟩:=h1.lists
  obtain ⟨b1,b2,b3,b4,b5⟩:=h1.texts
  have s1:=sum_le h1.strings
  have s2:=sum_le h1.strings2
  have s3:QiM empty.head?<=300:=by
   cases empty with
   |nil=>exact Nat.zero_le _
   |cons a l=>exact h1.stat a List.mem_cons_self
  have d1:Qii {d with pos:=pos.head?,empty:=empty.head?}<=80000:=by
   unfold Qii
   simp only
   omega
  have e1:=QgX c1
  have e2:=QgX c2
  have e3:=QgX c3
  have e4:=QgX c4
  have e5:=QgX c5
  rw[toM,QcY,cntM,QhP]
  clear s1 s2 s3 a1 a2 a3 a4 a5 a6 a7 a8 a9 a10 a11 a12 a13 b1 b2 b3 b4 b5
  omega
theorem QgX:∀{gs:List GM},Zj gs->Qa3 (QbG gs)<=90000*cntL gs
 |[],_=>by rw[QbG,Qa3,cntL];omega
 |g::gs,h=>by
  rw[Zj]at h
  have e1:=cost_le h.1
  have e2:=QgX h.2
  rw[QbG,Qa3,cntL]
  omega
end
end Go.Proofs
namespace Go.Proofs
open Go Go.Vc
open Tryz (prog)
theorem In.keep {G:Cut} {H H':Qe} (h:G.In H) (k:Qai H H'):G.In H':=fun b o hb=>k b o (h b o hb)
theorem QiE {g:GM} (hs:QbJ g) (hc:cntM g<=20):QcY (toM g)<=400000000/\RootRd (Qa0 (toM g)) (toM g)/\(Qa0 (toM g)).length<2147483648:=by
 have h1:=cost_le hs
 have h2:=packAll_len (toM g)
 exact ⟨by omega,packAll_rd (WfM_of hs) (by omega),by omega⟩
def orcD:Qbg:={pos:=none,mana:=150,hp:=80,name:=[111,114,99],inventory:=[],color:=0,testTy:=0,testColor:=0,test4:=[],strings:=[],nested:=[],empty:=none,bool:=false,s32:=0,u32:=0,s64:=0,u64:=0,s32a:=0,u32a:=0,s64a:=0,u64a:=0,bools:=[],f:=0,f2:=0,f3:=0,strings2:=[],abilities:=[],flex:=[],test5:=[],longs:=[],doubles:=[],parent:=false,refs:=[],singleWeak:=0,weak:=[],strong:=[],coOwning:=0,coOwnings:=[],nonOwning:=0,nonOwnings:=[],uniqTy:=0,uniqColor:=0,ambTy:=0,ambColor:=0,enums:=[],signedEnum:=0}
def nilGV:GV:=⟨.slice none 0 0,.slice none 0 0,.slice none 0 0,.slice none 0 0,.slice none 0 0,.slice none 0 0,.slice none 0 0,.slice none 0 0,.slice none 0 0,.slice none 0 0,.slice none 0 0,.slice none 0 0,.slice none 0 0,.slice none 0 0,.slice none 0 0,.slice none 0 0,.slice none 0 0,.slice none 0 0,.slice none 0 0,.slice none 0 0⟩
def orc:GM:=.mk orcD [] [] [] [] [] [] []
theorem fill_orc:Z3 z51.toList [(3,1,(.string ⟨#[111,114,99]⟩)),(2,1,(.int .i16 80)),(1,1,(.int .i16 150))]=some (Yu orcD nilGV):=by kernel_rfl
theorem orc_val (G:Cut):Qb3 G orc (Yu orcD nilGV):=by
 have n:∀es,SlV G es (.slice none 0 0) []:=SlV.nil G
 unfold orc
 rw[Qb3]
 exact ⟨nilGV,rfl,⟨n _,n _,n _,n _,n _,n _,n _,n _,n _,n _,n _,n _,n _,n _,n _⟩,⟨[],n _,by rw[Zb];trivial⟩,⟨[],n _,by rw[Zb];trivial⟩,⟨[],n _,by rw[Zb];trivial⟩,⟨[],n _,by rw[Zb];trivial⟩,⟨[],n _,by rw[Zb];trivial⟩⟩
theorem orc_small:QbJ orc:=by
 unfold orc
 rw[QbJ]
 refine ⟨⟨by decide,by decide,by decide,by decide,by decide,by decide,by simp⟩,by decide,by decide,Or.inl ⟨rfl,rfl⟩,Or.inl ⟨rfl,rfl⟩,Or.inl ⟨rfl,rfl⟩,?_⟩
 simp only[Zj,and_self]
theorem orc_cnt:cntM orc<=20:=by
 unfold orc
 simp[cntM,cntL]
theorem awake_ok {G:Cut} {H:Qe} (hG:G.In H) {R:Kn} (hR:∀H',Qai H H'->R (.bool true) H'):FnS prog 6 #[] H R:=by
 apply w6
 unfold s6
 have hf:=fill_orc
 unfold QB
 simp only[hf]
 obtain ⟨h1,h2,h3⟩:=QiE orc_small orc_cnt
 refine QeB (n:=0) hG (orc_val G) orc_small h1 (by decide) ?_
 intro H1 k1
 rw[Qfp,QfL]
 refine MonsterRead_ok h2 h3 (In.keep hG k1) ?_
 intro G2 H2 cells e2 hv2
 have k2:=k1.trans e2.keep
 have hl:=hv2.len
 have hone:=Qb3.one hv2
 obtain ⟨d,c,rfl,hd⟩:∃d c,cells=Yu d c/\d.name=[111,114,99]/\d.hp=80/\d.mana=150:=by
  unfold orc at hv2
  rw[toM,rdM,Qb3]at hv2
  obtain ⟨c,h,_⟩:=hv2
  exact ⟨_,c,h,rfl,rfl,rfl⟩
 obtain ⟨hd1,hd2,hd3⟩:=hd
 rw[Qfp,QfL,Q3]
 have e3:=(Ext.refl e2.inn).push (.cells z51 51)
 have o3:=Yj.fresh (Ext.refl e2.inn) (.cells z51 51)
 have k3:=k2.trans e3.keep
 generalize H2.push (.cells z51 51)=H3 at *
 rw[Ye (n:=51) (c':=(Yu d c).toArray) o3.get rfl (by simpa using hl) (by decide) (by simpa using hone)]
 have k4:=(k2.trans ((e3.set o3.out o3.new (.cells (Yu d c).toArray 51)).keep))
 have o4:=o3.set (.cells (Yu d c).toArray 51)
 generalize setB H3 H2.size (.cells (Yu d c).toArray 51)=H4 at *
 have l1:∀k:Value->Prop,LdK H4 (.pointer (some ⟨H2.size,1,none⟩)) k=k (Qbh d.mana):=fun k=>Ql ((Qj o4.get).trans rfl)
 have l2:∀k:Value->Prop,LdK H4 (.pointer (some ⟨H2.size,2,none⟩)) k=k (Qbh d.hp):=fun k=>Ql ((Qj o4.get).trans rfl)
 have l3:∀k:Value->Prop,LdK H4 (.pointer (some ⟨H2.size,3,none⟩)) k=k (Yx d.name):=fun k=>Ql ((Qj o4.get).trans rfl)
 rw[hd3]at l1
 rw[hd2]at l2
 rw[hd1]at l3
 have bs:∀k:Value->Prop,Qr prog .eql 9 (Yx [111,114,99]) (.string ⟨#[111,114,99]⟩) k=k (.bool true):=fun k=>eq_str k
 have b80:∀k:Value->Prop,Qr prog .eql 23 (Qbh 80) (.int .i16 80) k=k (.bool true):=fun k=>QbH k
 have b150:∀k:Value->Prop,Qr prog .eql 23 (Qbh 150) (.int .i16 150) k=k (.bool true):=fun k=>QbH k
 simp only[Yb,Yr,Qu,l1,l2,l3,bs,b80,b150]
 exact hR _ k4
end Go.Proofs
namespace Go.Proofs
open Go Go.Vc
open Tryz (prog)
theorem wf_u8 {n:Int} (h:(Lit.int .u8 n).wf=true):∃x:UInt8,Value.int .u8 n=u8n x:=by
 simp[Lit.wf,IntKind.min,IntKind.max,IntKind.bits,IntKind.signed]at h
 refine ⟨UInt8.ofNat n.toNat,?_⟩
 simp only[u8n,UInt8.toNat_ofNat']
 congr 1;omega
theorem wf_u16 {n:Int} (h:(Lit.int .u16 n).wf=true):∃x:UInt16,Value.int .u16 n=u16V x:=by
 simp[Lit.wf,IntKind.min,IntKind.max,IntKind.bits,IntKind.signed]at h
 refine ⟨UInt16.ofNat n.toNat,?_⟩
 simp only[u16V,UInt16.toNat_ofNat']
 congr 1;omega
theorem wf_u32 {n:Int} (h:(Lit.int .u32 n).wf=true):∃x:UInt32,Value.int .u32 n=Zs x:=by
 simp[Lit.wf,IntKind.min,IntKind.max,IntKind.bits,IntKind.signed]at h
 refine ⟨UInt32.ofNat n.toNat,?_⟩
 simp only[Zs,UInt32.toNat_ofNat']
 congr 1;omega
theorem wf_u64 {n:Int} (h:(Lit.int .u64 n).wf=true):∃x:UInt64,Value.int .u64 n=YY x:=by
 simp[Lit.wf,IntKind.min,IntKind.max,IntKind.bits,IntKind.signed]at h
 refine ⟨UInt64.ofNat n.toNat,?_⟩
 simp only[YY,UInt64.toNat_ofNat']
 congr 1;omega
theorem wf_i8 {n:Int} (h:(Lit.int .i8 n).wf=true):∃x:UInt8,Value.int .i8 n=i8V x:=by
 simp[Lit.wf,IntKind.min,IntKind.max,IntKind.bits,IntKind.signed]at h
 refine ⟨UInt8.ofNat (n%256).toNat,?_⟩
 simp only[i8V,UInt8.toNat_ofNat',IntKind.wrap,IntKind.bits,IntKind.signed]
 congr 1;simp;omega
theorem wf_i16 {n:Int} (h:(Lit.int .i16 n).wf=true):∃x:UInt16,Value.int .i16 n=Qbh x:=by
 simp[Lit.wf,IntKind.min,IntKind.max,IntKind.bits,IntKind.signed]at h
 refine ⟨UInt16.ofNat (n%65536).toNat,?_⟩
 simp only[Qbh,UInt16.toNat_ofNat',IntKind.wrap,IntKind.bits,IntKind.signed]
 congr 1;simp;omega
theorem wf_i32 {n:Int} (h:(Lit.int .i32 n).wf=true):∃x:UInt32,Value.int .i32 n=Qf5 x:=by
 simp[Lit.wf,IntKind.min,IntKind.max,IntKind.bits,IntKind.signed]at h
 refine ⟨UInt32.ofNat (n%4294967296).toNat,?_⟩
 simp only[Qf5,UInt32.toNat_ofNat',IntKind.wrap,IntKind.bits,IntKind.signed]
 congr 1;simp;omega
theorem wf_i64 {n:Int} (h:(Lit.int .i64 n).wf=true):∃x:UInt64,Value.int .i64 n=Qdi x:=by
 simp[Lit.wf,IntKind.min,IntKind.max,IntKind.bits,IntKind.signed]at h
 refine ⟨UInt64.ofNat (n%18446744073709551616).toNat,?_⟩
 simp only[Qdi,UInt64.toNat_ofNat',IntKind.wrap,IntKind.bits,IntKind.signed]
 congr 1;simp;omega
theorem QhJ {α β:Type} {f:α->β}:∀{items:List β},(∀it∈items,∃a,it=f a)->∃l:List α,items=l.map f
 |[],_=>⟨[],rfl⟩
 |x::xs,h=>by
  obtain ⟨a,ha⟩:=h x List.mem_cons_self
  obtain ⟨l,hl⟩:=QhJ (items:=xs) (fun it hi=>h it (List.mem_cons_of_mem _ hi))
  exact ⟨a::l,by rw[ha,hl];rfl⟩
theorem QM {cs:List Value} {i:Nat} {v:Value} (h:(cs.drop i).take 1=[v]):cs[i]?=some v:=by
 have:((cs.drop i).take 1)[0]?=some v:=by rw[h];rfl
 rw[List.getElem?_take_of_lt (by decide),List.getElem?_drop]at this
 simpa using this
theorem QfO {cs ds:List Value} {i n j:Nat} (h:(cs.drop i).take n=ds) (hj:j<n):cs[i+j]?=ds[j]?:=by
 rw[<-h,List.getElem?_take_of_lt hj,List.getElem?_drop]
def Cut.of (H:Qe):Cut:=fun b=>H[b]?
theorem Cut.of_in (H:Qe):(Cut.of H).In H:=fun _ _ h=>h
section
variable {E:Type} {enc:TypeId×Value->E} {P:Program} {w:World} {base:Nat} {spare:Nat->Bool} {held:Bool}
theorem Yq {fuel:Nat} {t:TypeId} {fs:Array Field} {cs:List Value} {x:DataW E×List MemPlace} (ht:P.underlying t=some (.struct fs)) (h:DataW.trod enc P w base spare held fuel t cs=some x) {i ty off n:Nat} (hi:(fs[i]?).map (fun f=>(f.type,f.offset,P.cellsOf f.type))=some (ty,off,n)):
  ∃m y,m<fuel/\DataW.trod enc P w base spare held m ty ((cs.drop off).take n)=some y:=by
 obtain ⟨xs,m,rfl,_,_,hx,hf⟩:=DataW.trod_struct ht h
 cases hfi:fs[i]? with
 |none=>rw[hfi]at hi;cases hi
 |some f=>
  rw[hfi]at hi
  simp only[Option.map_some,Option.some.injEq,Prod.mk.injEq]at hi
  obtain ⟨rfl,rfl,rfl⟩:=hi
  have h1:=hf i f hfi
  have hl:i<xs.length:=by
   rw[hx]
   rcases Nat.lt_or_ge i fs.size with hh|hh
   ·exact hh
   ·rw[Array.getElem?_eq_none hh]at hfi;cases hfi
  rw[List.getElem?_eq_getElem hl]at h1
  exact ⟨m,_,Nat.lt_succ_self m,h1⟩
theorem Qiy {fuel:Nat} {t:TypeId} {fs:Array Field} {cs:List Value} {x:DataW E×List MemPlace} (ht:P.underlying t=some (.struct fs)) (h:DataW.trod enc P w base spare held fuel t cs=some x) {n:Nat} (hn:P.cellsOf t=n):cs.length=n:=by
 obtain ⟨xs,m,rfl,_,hl,_⟩:=DataW.trod_struct ht h
 rw[hl,hn]
theorem flat_range {f:Nat->List Value} {L:List Value} {es o:Nat}:∀{n:Nat},o+n*es<=L.length->(∀i,i<n->f i=(L.drop (o+i*es)).take es)->((List.range n).map f).flatten=(L.drop o).take (n*es)
 |0,_,_=>by simp
 |n+1,hl,h=>by
  have hm:(n+1)*es=n*es+es:=by rw[Nat.add_mul,Nat.one_mul]
  rw[List.range_succ,List.map_append,List.flatten_append,flat_range (n:=n) (by omega) (fun i hi=>h i (by omega)),List.map_cons,List.map_nil,List.flatten_cons,List.flatten_nil,List.append_nil,h n (by omega),hm,List.take_add,List.drop_drop]
theorem sl_rd {fuel:Nat} {t e:TypeId} {es:Nat} {cs:List Value} {x:DataW E×List MemPlace} (ht:P.underlying t=some (.slice e)) (hes:P.cellsOf e=es) (h0:0<es) (h:DataW.trod enc P w base spare held fuel t cs=some x):
  ∃v items,cs=[v]/\SlV (Cut.of w.heap) es v items/\∀it∈items,∃m y,m<fuel/\DataW.trod enc P w base spare held m e it=some y:=by
 rcases DataW.trod_slice ht h with ⟨rfl,_⟩|⟨a,len,cap,elems,rest,n,rfl,rfl,_,_,hlc,_,hel,hx,_⟩
 ·exact ⟨_,[],rfl,SlV.nil _ _,by simp⟩
 ·subst hes
  generalize hes:P.cellsOf e=es at *
  by_cases hz:len=0
  ·subst hz
   exact ⟨_,[],rfl,⟨by simp,Or.inl ⟨some a,cap,rfl,rfl⟩⟩,by simp⟩
  have each:∀i,i<len->∃ci y,w.cells? base (a.add (i*es)) es=some ci/\DataW.trod enc P w base spare held n e ci=some y:=fun i hi=>by
   have h1:=hx i hi
   rw[List.getElem?_eq_getElem (by omega)]at h1
   obtain ⟨ci,h2,h3⟩:=Option.bind_eq_some_iff.1 h1
   exact ⟨ci,_,h2,h3⟩
  obtain ⟨c0,_,hc0,_⟩:=each 0 (by omega)
  obtain ⟨_,hl0,hg0⟩:=World.cells?_some hc0
  have hc00:=hg0 0 h0
  rw[List.getElem?_eq_getElem (by omega)]at hc00
  obtain ⟨b,o,spot⟩:=a
  have hs:spot=none:=by simpa [Addr.add]using World.cell?_spot hc00
  subst hs
  rw[QfW,QfW]at hc00
  have hblk:∃c ty fr,w.heap[b]?=some (.cells c ty fr):=by
   rw[cell?_eq]at hc00
   unfold Qb2 at hc00
   split at hc00
   ·rename_i c ty fr hb
    exact ⟨c,ty,fr,hb⟩
   ·cases hc00
  obtain ⟨c,ty,fr,hb⟩:=hblk
  have item:∀i,i<len->o+i*es+es<=c.size/\w.cells? base ⟨b,o+i*es,none⟩ es=some ((c.toList.drop (o+i*es)).take es):=fun i hi=>by
   obtain ⟨ci,_,h1,_⟩:=each i hi
   rw[QfW]at h1
   obtain ⟨_,hl,hg⟩:=World.cells?_some h1
   have hcell:∀j,j<es->c[o+i*es+j]?=ci[j]?:=fun j hj=>by
    have:=hg j hj
    rw[QfW,cell?_eq,Qj hb]at this
    exact this
   have hsz:o+i*es+es<=c.size:=by
    have:=hcell (es-1) (by omega)
    rw[List.getElem?_eq_getElem (by omega)]at this
    have hlt:o+i*es+(es-1)<c.size:=by
     rcases Nat.lt_or_ge (o+i*es+(es-1)) c.size with hh|hh
     ·exact hh
     ·rw[Array.getElem?_eq_none hh]at this;cases this
    omega
   refine ⟨hsz,?_⟩
   rw[h1]
   congr 1
   refine List.ext_getElem? fun j=>?_
   by_cases hj:j<es
   ·rw[List.getElem?_take_of_lt hj,List.getElem?_drop,<-hcell j hj]
    simp
   ·rw[List.getElem?_eq_none (by omega),List.getElem?_eq_none (by simp;omega)]
  have hend:=(item (len-1) (by omega)).1
  have hmul:len*es=(len-1)*es+es:=by
   obtain ⟨k,rfl⟩:∃k,len=k+1:=⟨len-1,by omega⟩
   rw[show k+1-1=k by omega,Nat.add_mul,Nat.one_mul]
  refine ⟨_,(List.range len).map (fun i=>(c.toList.drop (o+i*es)).take es),rfl,⟨fun it hi=>?_,Or.inr ⟨b,o,cap,c,ty,fr,by rw[List.length_map,List.length_range],hb,by rw[List.length_map,List.length_range];omega,?_,by rw[List.length_map,List.length_range];exact hlc⟩⟩,fun it hi=>?_⟩
  ·obtain ⟨i,hr,rfl⟩:=List.mem_map.1 hi
   have:=(item i (List.mem_range.1 hr)).1
   simp;omega
  ·rw[List.length_map,List.length_range]
   exact (flat_range (by rw[Array.length_toList];omega) (fun i _=>rfl)).symm
  ·obtain ⟨i,hr,rfl⟩:=List.mem_map.1 hi
   have hr:=List.mem_range.1 hr
   obtain ⟨ci,y,h1,h2⟩:=each i hr
   rw[QfW,(item i hr).2]at h1
   cases h1
   exact ⟨n,y,Nat.lt_succ_self n,h2⟩
end
section
variable {E:Type} {enc:TypeId×Value->E} {w:World} {base:Nat} {spare:Nat->Bool} {held:Bool} {fuel:Nat} {cs:List Value} {x:DataW E×List MemPlace}
theorem rd_int8 (h:DataW.trod enc prog w base spare held fuel 36 cs=some x):∃x:UInt8,cs=[i8V x]:=by
 obtain ⟨n,rfl,_,hw⟩:=DataW.trod_int (P:=prog) (t:=36) (k:=.i8) (by kernel_rfl) h
 obtain ⟨x,hx⟩:=wf_i8 hw
 exact ⟨x,by rw[hx]⟩
theorem rd_int16 (h:DataW.trod enc prog w base spare held fuel 23 cs=some x):∃x:UInt16,cs=[Qbh x]:=by
 obtain ⟨n,rfl,_,hw⟩:=DataW.trod_int (P:=prog) (t:=23) (k:=.i16) (by kernel_rfl) h
 obtain ⟨x,hx⟩:=wf_i16 hw
 exact ⟨x,by rw[hx]⟩
theorem rd_int32 (h:DataW.trod enc prog w base spare held fuel 21 cs=some x):∃x:UInt32,cs=[Qf5 x]:=by
 obtain ⟨n,rfl,_,hw⟩:=DataW.trod_int (P:=prog) (t:=21) (k:=.i32) (by kernel_rfl) h
 obtain ⟨x,hx⟩:=wf_i32 hw
 exact ⟨x,by rw[hx]⟩
theorem rd_int64 (h:DataW.trod enc prog w base spare held fuel 2 cs=some x):∃x:UInt64,cs=[Qdi x]:=by
 obtain ⟨n,rfl,_,hw⟩:=DataW.trod_int (P:=prog) (t:=2) (k:=.i64) (by kernel_rfl) h
 obtain ⟨x,hx⟩:=wf_i64 hw
 exact ⟨x,by rw[hx]⟩
theorem rd_uint8 (h:DataW.trod enc prog w base spare held fuel 5 cs=some x):∃x:UInt8,cs=[u8n x]:=by
 obtain ⟨n,rfl,_,hw⟩:=DataW.trod_int (P:=prog) (t:=5) (k:=.u8) (by kernel_rfl) h
 obtain ⟨x,hx⟩:=wf_u8 hw
 exact ⟨x,by rw[hx]⟩
theorem rd_uint16 (h:DataW.trod enc prog w base spare held fuel 85 cs=some x):∃x:UInt16,cs=[u16V x]:=by
 obtain ⟨n,rfl,_,hw⟩:=DataW.trod_int (P:=prog) (t:=85) (k:=.u16) (by kernel_rfl) h
 obtain ⟨x,hx⟩:=wf_u16 hw
 exact ⟨x,by rw[hx]⟩
theorem QbT (h:DataW.trod enc prog w base spare held fuel 30 cs=some x):∃x:UInt32,cs=[Zs x]:=by
 obtain ⟨n,rfl,_,hw⟩:=DataW.trod_int (P:=prog) (t:=30) (k:=.u32) (by kernel_rfl) h
 obtain ⟨x,hx⟩:=wf_u32 hw
 exact ⟨x,by rw[hx]⟩
theorem Qeg (h:DataW.trod enc prog w base spare held fuel 31 cs=some x):∃x:UInt64,cs=[YY x]:=by
 obtain ⟨n,rfl,_,hw⟩:=DataW.trod_int (P:=prog) (t:=31) (k:=.u64) (by kernel_rfl) h
 obtain ⟨x,hx⟩:=wf_u64 hw
 exact ⟨x,by rw[hx]⟩
theorem rd_bool (h:DataW.trod enc prog w base spare held fuel 4 cs=some x):∃b,cs=[.bool b]:=by
 obtain ⟨b,h,_⟩:=DataW.trod_bool (P:=prog) (t:=4) (by kernel_rfl) h
 exact ⟨b,h⟩
theorem Qe9 (h:DataW.trod enc prog w base spare held fuel 9 cs=some x):∃s,cs=[Yx s]:=by
 obtain ⟨s,h,_⟩:=DataW.trod_string (P:=prog) (t:=9) (by kernel_rfl) h
 exact ⟨s.data.toList,h⟩
theorem rd_Vec3 (h:DataW.trod enc prog w base spare held fuel 75 cs=some x):∃v:Qav,cs=YS v:=by
 have ht:(prog).underlying 75=some (.struct ((prog).fieldsOf 75)):=by kernel_rfl
 have hl:=Qiy ht h (n:=7) (by kernel_rfl)
 obtain ⟨_,_,_,h0⟩:=Yq ht h (i:=0) (ty:=30) (off:=0) (n:=1) (by kernel_rfl)
 obtain ⟨x0,h0⟩:=QbT h0
 have h0:=QM h0
 obtain ⟨_,_,_,h1⟩:=Yq ht h (i:=1) (ty:=30) (off:=1) (n:=1) (by kernel_rfl)
 obtain ⟨x1,h1⟩:=QbT h1
 have h1:=QM h1
 obtain ⟨_,_,_,h2⟩:=Yq ht h (i:=2) (ty:=30) (off:=2) (n:=1) (by kernel_rfl)
 obtain ⟨x2,h2⟩:=QbT h2
 have h2:=QM h2
 obtain ⟨_,_,_,h3⟩:=Yq ht h (i:=3) (ty:=31) (off:=3) (n:=1) (by kernel_rfl)
 obtain ⟨x3,h3⟩:=Qeg h3
 have h3:=QM h3
 obtain ⟨_,_,_,h4⟩:=Yq ht h (i:=4) (ty:=5) (off:=4) (n:=1) (by kernel_rfl)
 obtain ⟨x4,h4⟩:=rd_uint8 h4
 have h4:=QM h4
 obtain ⟨_,_,_,h5⟩:=Yq ht h (i:=5) (ty:=23) (off:=5) (n:=1) (by kernel_rfl)
 obtain ⟨x5,h5⟩:=rd_int16 h5
 have h5:=QM h5
 obtain ⟨_,_,_,h6⟩:=Yq ht h (i:=6) (ty:=36) (off:=6) (n:=1) (by kernel_rfl)
 obtain ⟨x6,h6⟩:=rd_int8 h6
 have h6:=QM h6
 refine ⟨⟨x0,x1,x2,x3,x4,x5,x6⟩,List.ext_getElem? fun i=>?_⟩
 match i with
 |0=>exact h0
 |1=>exact h1
 |2=>exact h2
 |3=>exact h3
 |4=>exact h4
 |5=>exact h5
 |6=>exact h6
 |i+7=>rw[List.getElem?_eq_none (by omega)];rfl
theorem rd_Test (h:DataW.trod enc prog w base spare held fuel 80 cs=some x):∃v:Qbf,cs=Yg v:=by
 have ht:(prog).underlying 80=some (.struct ((prog).fieldsOf 80)):=by kernel_rfl
 have hl:=Qiy ht h (n:=2) (by kernel_rfl)
 obtain ⟨_,_,_,h0⟩:=Yq ht h (i:=0) (ty:=23) (off:=0) (n:=1) (by kernel_rfl)
 obtain ⟨x0,h0⟩:=rd_int16 h0
 have h0:=QM h0
 obtain ⟨_,_,_,h1⟩:=Yq ht h (i:=1) (ty:=36) (off:=1) (n:=1) (by kernel_rfl)
 obtain ⟨x1,h1⟩:=rd_int8 h1
 have h1:=QM h1
 refine ⟨⟨x0,x1⟩,List.ext_getElem? fun i=>?_⟩
 match i with
 |0=>exact h0
 |1=>exact h1
 |i+2=>rw[List.getElem?_eq_none (by omega)];rfl
theorem rd_Stat (h:DataW.trod enc prog w base spare held fuel 87 cs=some x):∃v:Qan,cs=Y3 v:=by
 have ht:(prog).underlying 87=some (.struct ((prog).fieldsOf 87)):=by kernel_rfl
 have hl:=Qiy ht h (n:=3) (by kernel_rfl)
 obtain ⟨_,_,_,h0⟩:=Yq ht h (i:=0) (ty:=9) (off:=0) (n:=1) (by kernel_rfl)
 obtain ⟨x0,h0⟩:=Qe9 h0
 have h0:=QM h0
 obtain ⟨_,_,_,h1⟩:=Yq ht h (i:=1) (ty:=2) (off:=1) (n:=1) (by kernel_rfl)
 obtain ⟨x1,h1⟩:=rd_int64 h1
 have h1:=QM h1
 obtain ⟨_,_,_,h2⟩:=Yq ht h (i:=2) (ty:=85) (off:=2) (n:=1) (by kernel_rfl)
 obtain ⟨x2,h2⟩:=rd_uint16 h2
 have h2:=QM h2
 refine ⟨⟨x0,x1,x2⟩,List.ext_getElem? fun i=>?_⟩
 match i with
 |0=>exact h0
 |1=>exact h1
 |2=>exact h2
 |i+3=>rw[List.getElem?_eq_none (by omega)];rfl
theorem rd_Ability (h:DataW.trod enc prog w base spare held fuel 93 cs=some x):∃v:Qe7,cs=Ze v:=by
 have ht:(prog).underlying 93=some (.struct ((prog).fieldsOf 93)):=by kernel_rfl
 have hl:=Qiy ht h (n:=2) (by kernel_rfl)
 obtain ⟨_,_,_,h0⟩:=Yq ht h (i:=0) (ty:=30) (off:=0) (n:=1) (by kernel_rfl)
 obtain ⟨x0,h0⟩:=QbT h0
 have h0:=QM h0
 obtain ⟨_,_,_,h1⟩:=Yq ht h (i:=1) (ty:=30) (off:=1) (n:=1) (by kernel_rfl)
 obtain ⟨x1,h1⟩:=QbT h1
 have h1:=QM h1
 refine ⟨⟨x0,x1⟩,List.ext_getElem? fun i=>?_⟩
 match i with
 |0=>exact h0
 |1=>exact h1
 |i+2=>rw[List.getElem?_eq_none (by omega)];rfl
theorem rd_pos (h:DataW.trod enc prog w base spare held fuel 22 cs=some x):∃v,∃l:List Qav,cs=[v]/\SlV (Cut.of w.heap) 7 v (l.map YS):=by
 obtain ⟨v,items,rfl,hs,hi⟩:=sl_rd (P:=prog) (t:=22) (e:=75) (es:=7) (by kernel_rfl) (by kernel_rfl) (by decide) h
 obtain ⟨l,rfl⟩:=QhJ (f:=YS) (fun it hit=>by
  obtain ⟨_,_,_,h⟩:=hi it hit
  obtain ⟨a,ha⟩:=rd_Vec3 h
  exact ⟨a,ha⟩)
 exact ⟨v,l,rfl,hs⟩
theorem rd_tests (h:DataW.trod enc prog w base spare held fuel 27 cs=some x):∃v,∃l:List Qbf,cs=[v]/\SlV (Cut.of w.heap) 2 v (l.map Yg):=by
 obtain ⟨v,items,rfl,hs,hi⟩:=sl_rd (P:=prog) (t:=27) (e:=80) (es:=2) (by kernel_rfl) (by kernel_rfl) (by decide) h
 obtain ⟨l,rfl⟩:=QhJ (f:=Yg) (fun it hit=>by
  obtain ⟨_,_,_,h⟩:=hi it hit
  obtain ⟨a,ha⟩:=rd_Test h
  exact ⟨a,ha⟩)
 exact ⟨v,l,rfl,hs⟩
theorem rd_stats (h:DataW.trod enc prog w base spare held fuel 29 cs=some x):∃v,∃l:List Qan,cs=[v]/\SlV (Cut.of w.heap) 3 v (l.map Y3):=by
 obtain ⟨v,items,rfl,hs,hi⟩:=sl_rd (P:=prog) (t:=29) (e:=87) (es:=3) (by kernel_rfl) (by kernel_rfl) (by decide) h
 obtain ⟨l,rfl⟩:=QhJ (f:=Y3) (fun it hit=>by
  obtain ⟨_,_,_,h⟩:=hi it hit
  obtain ⟨a,ha⟩:=rd_Stat h
  exact ⟨a,ha⟩)
 exact ⟨v,l,rfl,hs⟩
theorem rd_abils (h:DataW.trod enc prog w base spare held fuel 33 cs=some x):∃v,∃l:List Qe7,cs=[v]/\SlV (Cut.of w.heap) 2 v (l.map Ze):=by
 obtain ⟨v,items,rfl,hs,hi⟩:=sl_rd (P:=prog) (t:=33) (e:=93) (es:=2) (by kernel_rfl) (by kernel_rfl) (by decide) h
 obtain ⟨l,rfl⟩:=QhJ (f:=Ze) (fun it hit=>by
  obtain ⟨_,_,_,h⟩:=hi it hit
  obtain ⟨a,ha⟩:=rd_Ability h
  exact ⟨a,ha⟩)
 exact ⟨v,l,rfl,hs⟩
theorem rd_strings (h:DataW.trod enc prog w base spare held fuel 28 cs=some x):∃v,∃l:List (List UInt8),cs=[v]/\SlV (Cut.of w.heap) 1 v (l.map QfU):=by
 obtain ⟨v,items,rfl,hs,hi⟩:=sl_rd (P:=prog) (t:=28) (e:=9) (es:=1) (by kernel_rfl) (by kernel_rfl) (by decide) h
 obtain ⟨l,rfl⟩:=QhJ (f:=QfU) (fun it hit=>by
  obtain ⟨_,_,_,h⟩:=hi it hit
  obtain ⟨a,ha⟩:=Qe9 h
  exact ⟨a,ha⟩)
 exact ⟨v,l,rfl,hs⟩
theorem rd_bools (h:DataW.trod enc prog w base spare held fuel 32 cs=some x):∃v,∃l:List Bool,cs=[v]/\SlV (Cut.of w.heap) 1 v (l.map Qi9):=by
 obtain ⟨v,items,rfl,hs,hi⟩:=sl_rd (P:=prog) (t:=32) (e:=4) (es:=1) (by kernel_rfl) (by kernel_rfl) (by decide) h
 obtain ⟨l,rfl⟩:=QhJ (f:=Qi9) (fun it hit=>by
  obtain ⟨_,_,_,h⟩:=hi it hit
  obtain ⟨a,ha⟩:=rd_bool h
  exact ⟨a,ha⟩)
 exact ⟨v,l,rfl,hs⟩
theorem rd_i64s (h:DataW.trod enc prog w base spare held fuel 34 cs=some x):∃v,∃l:List UInt64,cs=[v]/\SlV (Cut.of w.heap) 1 v (l.map i64I):=by
 obtain ⟨v,items,rfl,hs,hi⟩:=sl_rd (P:=prog) (t:=34) (e:=2) (es:=1) (by kernel_rfl) (by kernel_rfl) (by decide) h
 obtain ⟨l,rfl⟩:=QhJ (f:=i64I) (fun it hit=>by
  obtain ⟨_,_,_,h⟩:=hi it hit
  obtain ⟨a,ha⟩:=rd_int64 h
  exact ⟨a,ha⟩)
 exact ⟨v,l,rfl,hs⟩
theorem QiH (h:DataW.trod enc prog w base spare held fuel 35 cs=some x):∃v,∃l:List UInt64,cs=[v]/\SlV (Cut.of w.heap) 1 v (l.map Qbb):=by
 obtain ⟨v,items,rfl,hs,hi⟩:=sl_rd (P:=prog) (t:=35) (e:=31) (es:=1) (by kernel_rfl) (by kernel_rfl) (by decide) h
 obtain ⟨l,rfl⟩:=QhJ (f:=Qbb) (fun it hit=>by
  obtain ⟨_,_,_,h⟩:=hi it hit
  obtain ⟨a,ha⟩:=Qeg h
  exact ⟨a,ha⟩)
 exact ⟨v,l,rfl,hs⟩
def MonRd (E:Type) (enc:TypeId×Value->E) (w:World) (base:Nat) (spare:Nat->Bool) (held:Bool) (fuel:Nat):Prop:=∀(cs:List Value) (x:DataW E×List MemPlace),DataW.trod enc prog w base spare held fuel 38 cs=some x->∃g:GM,NormM g/\Qb3 (Cut.of w.heap) g cs
theorem mons_of {F:Cut}:∀{items:List (List Value)},(∀it∈items,∃g:GM,NormM g/\Qb3 F g it)->∃gs,Qgd gs/\Zb F gs items
 |[],_=>⟨[],by rw[Qgd];trivial,by rw[Zb];trivial⟩
 |x::xs,h=>by
  obtain ⟨g,h1,h2⟩:=h x List.mem_cons_self
  obtain ⟨gs,h3,h4⟩:=mons_of (items:=xs) (fun it hi=>h it (List.mem_cons_of_mem _ hi))
  exact ⟨g::gs,by rw[Qgd];exact ⟨h1,h3⟩,by rw[Zb];exact ⟨h2,h4⟩⟩
theorem rd_mons (hK:∀m,m<fuel->MonRd E enc w base spare held m) (h:DataW.trod enc prog w base spare held fuel 24 cs=some x):∃v gs,cs=[v]/\Qgd gs/\Qba (Cut.of w.heap) gs v:=by
 obtain ⟨v,items,rfl,hs,hi⟩:=sl_rd (P:=prog) (t:=24) (e:=38) (es:=51) (by kernel_rfl) (by kernel_rfl) (by decide) h
 obtain ⟨gs,h1,h2⟩:=mons_of (F:=Cut.of w.heap) (items:=items) (fun it hit=>by
  obtain ⟨m,y,hm,h⟩:=hi it hit
  exact hK m hm it y h)
 exact ⟨v,gs,rfl,h1,items,hs,h2⟩
theorem rd_choice (hK:∀m,m<fuel->MonRd E enc w base spare held m) (h:DataW.trod enc prog w base spare held fuel 26 cs=some x):∃(ty color:UInt8) (v:Value) (gs:List GM),cs=[u8n ty,v,u8n color]/\Qgd gs/\Qba (Cut.of w.heap) gs v:=by
 have ht:(prog).underlying 26=some (.struct ((prog).fieldsOf 26)):=by kernel_rfl
 have hl:=Qiy ht h (n:=3) (by kernel_rfl)
 obtain ⟨_,_,_,h0⟩:=Yq ht h (i:=0) (ty:=5) (off:=0) (n:=1) (by kernel_rfl)
 obtain ⟨x0,h0⟩:=rd_uint8 h0
 obtain ⟨m1,_,hm1,h1⟩:=Yq ht h (i:=1) (ty:=24) (off:=1) (n:=1) (by kernel_rfl)
 obtain ⟨v,gs,h1,hn,hv⟩:=rd_mons (fun m hm=>hK m (by omega)) h1
 obtain ⟨_,_,_,h2⟩:=Yq ht h (i:=2) (ty:=5) (off:=2) (n:=1) (by kernel_rfl)
 obtain ⟨x2,h2⟩:=rd_uint8 h2
 refine ⟨x0,x2,v,gs,List.ext_getElem? fun i=>?_,hn,hv⟩
 match i with
 |0=>exact QM h0
 |1=>exact QM h1
 |2=>exact QM h2
 |i+3=>rw[List.getElem?_eq_none (by omega)];rfl
set_option maxHeartbeats 1000000 in
set_option maxRecDepth 8000 in
theorem rd_step (hK:∀m,m<fuel->MonRd E enc w base spare held m):MonRd E enc w base spare held fuel:=by
 intro cs x h
 have ht:(prog).underlying 38=some (.struct ((prog).fieldsOf 38)):=by kernel_rfl
 have hl:=Qiy ht h (n:=51) (by kernel_rfl)
 obtain ⟨m0,_,hm0,h0⟩:=Yq ht h (i:=0) (ty:=22) (off:=0) (n:=1) (by kernel_rfl)
 obtain ⟨v0,l0,h0,s0⟩:=rd_pos h0
 have h0:=QM h0
 clear hm0
 obtain ⟨m1,_,hm1,h1⟩:=Yq ht h (i:=1) (ty:=23) (off:=1) (n:=1) (by kernel_rfl)
 obtain ⟨a1,h1⟩:=rd_int16 h1
 have h1:=QM h1
 clear hm1
 obtain ⟨m2,_,hm2,h2⟩:=Yq ht h (i:=2) (ty:=23) (off:=2) (n:=1) (by kernel_rfl)
 obtain ⟨a2,h2⟩:=rd_int16 h2
 have h2:=QM h2
 clear hm2
 obtain ⟨m3,_,hm3,h3⟩:=Yq ht h (i:=3) (ty:=9) (off:=3) (n:=1) (by kernel_rfl)
 obtain ⟨a3,h3⟩:=Qe9 h3
 have h3:=QM h3
 clear hm3
 obtain ⟨m4,_,hm4,h4⟩:=Yq ht h (i:=4) (ty:=9) (off:=4) (n:=1) (by kernel_rfl)
 obtain ⟨a4,h4⟩:=Qe9 h4
 have h4:=QM h4
 clear hm4
 obtain ⟨m5,_,hm5,h5⟩:=Yq ht h (i:=5) (ty:=5) (off:=5) (n:=1) (by kernel_rfl)
 obtain ⟨a5,h5⟩:=rd_uint8 h5
 have h5:=QM h5
 clear hm5
 obtain ⟨m6,_,hm6,h6⟩:=Yq ht h (i:=6) (ty:=26) (off:=6) (n:=3) (by kernel_rfl)
 obtain ⟨a6,a8,v7,g6,h6,n6,s6⟩:=rd_choice (fun m hm=>hK m (by omega)) h6
 have k6:cs[6]?=some (u8n a6):=QfO (n:=3) h6 (j:=0) (by decide)
 have k7:cs[7]?=some (v7):=QfO (n:=3) h6 (j:=1) (by decide)
 have k8:cs[8]?=some (u8n a8):=QfO (n:=3) h6 (j:=2) (by decide)
 clear hm6
 obtain ⟨m7,_,hm7,h7⟩:=Yq ht h (i:=7) (ty:=27) (off:=9) (n:=1) (by kernel_rfl)
 obtain ⟨v9,l9,h7,s9⟩:=rd_tests h7
 have h7:=QM h7
 clear hm7
 obtain ⟨m8,_,hm8,h8⟩:=Yq ht h (i:=8) (ty:=28) (off:=10) (n:=1) (by kernel_rfl)
 obtain ⟨v10,l10,h8,s10⟩:=rd_strings h8
 have h8:=QM h8
 clear hm8
 obtain ⟨m9,_,hm9,h9⟩:=Yq ht h (i:=9) (ty:=24) (off:=11) (n:=1) (by kernel_rfl)
 obtain ⟨v11,g11,h9,n11,s11⟩:=rd_mons (fun m hm=>hK m (by omega)) h9
 have h9:=QM h9
 clear hm9
 obtain ⟨m10,_,hm10,h10⟩:=Yq ht h (i:=10) (ty:=24) (off:=12) (n:=1) (by kernel_rfl)
 obtain ⟨v12,g12,h10,n12,s12⟩:=rd_mons (fun m hm=>hK m (by omega)) h10
 have h10:=QM h10
 clear hm10
 obtain ⟨m11,_,hm11,h11⟩:=Yq ht h (i:=11) (ty:=9) (off:=13) (n:=1) (by kernel_rfl)
 obtain ⟨a13,h11⟩:=Qe9 h11
 have h11:=QM h11
 clear hm11
 obtain ⟨m12,_,hm12,h12⟩:=Yq ht h (i:=12) (ty:=29) (off:=14) (n:=1) (by kernel_rfl)
 obtain ⟨v14,l14,h12,s14⟩:=rd_stats h12
 have h12:=QM h12
 clear hm12
 obtain ⟨m13,_,hm13,h13⟩:=Yq ht h (i:=13) (ty:=4) (off:=15) (n:=1) (by kernel_rfl)
 obtain ⟨a15,h13⟩:=rd_bool h13
 have h13:=QM h13
 clear hm13
 obtain ⟨m14,_,hm14,h14⟩:=Yq ht h (i:=14) (ty:=21) (off:=16) (n:=1) (by kernel_rfl)
 obtain ⟨a16,h14⟩:=rd_int32 h14
 have h14:=QM h14
 clear hm14
 obtain ⟨m15,_,hm15,h15⟩:=Yq ht h (i:=15) (ty:=30) (off:=17) (n:=1) (by kernel_rfl)
 obtain ⟨a17,h15⟩:=QbT h15
 have h15:=QM h15
 clear hm15
 obtain ⟨m16,_,hm16,h16⟩:=Yq ht h (i:=16) (ty:=2) (off:=18) (n:=1) (by kernel_rfl)
 obtain ⟨a18,h16⟩:=rd_int64 h16
 have h16:=QM h16
 clear hm16
 obtain ⟨m17,_,hm17,h17⟩:=Yq ht h (i:=17) (ty:=31) (off:=19) (n:=1) (by kernel_rfl)
 obtain ⟨a19,h17⟩:=Qeg h17
 have h17:=QM h17
 clear hm17
 obtain ⟨m18,_,hm18,h18⟩:=Yq ht h (i:=18) (ty:=21) (off:=20) (n:=1) (by kernel_rfl)
 obtain ⟨a20,h18⟩:=rd_int32 h18
 have h18:=QM h18
 clear hm18
 obtain ⟨m19,_,hm19,h19⟩:=Yq ht h (i:=19) (ty:=30) (off:=21) (n:=1) (by kernel_rfl)
 obtain ⟨a21,h19⟩:=QbT h19
 have h19:=QM h19
 clear hm19
 obtain ⟨m20,_,hm20,h20⟩:=Yq ht h (i:=20) (ty:=2) (off:=22) (n:=1) (by kernel_rfl)
 obtain ⟨a22,h20⟩:=rd_int64 h20
 have h20:=QM h20
 clear hm20
 obtain ⟨m21,_,hm21,h21⟩:=Yq ht h (i:=21) (ty:=31) (off:=23) (n:=1) (by kernel_rfl)
 obtain ⟨a23,h21⟩:=Qeg h21
 have h21:=QM h21
 clear hm21
 obtain ⟨m22,_,hm22,h22⟩:=Yq ht h (i:=22) (ty:=32) (off:=24) (n:=1) (by kernel_rfl)
 obtain ⟨v24,l24,h22,s24⟩:=rd_bools h22
 have h22:=QM h22
 clear hm22
 obtain ⟨m23,_,hm23,h23⟩:=Yq ht h (i:=23) (ty:=30) (off:=25) (n:=1) (by kernel_rfl)
 obtain ⟨a25,h23⟩:=QbT h23
 have h23:=QM h23
 clear hm23
 obtain ⟨m24,_,hm24,h24⟩:=Yq ht h (i:=24) (ty:=30) (off:=26) (n:=1) (by kernel_rfl)
 obtain ⟨a26,h24⟩:=QbT h24
 have h24:=QM h24
 clear hm24
 obtain ⟨m25,_,hm25,h25⟩:=Yq ht h (i:=25) (ty:=30) (off:=27) (n:=1) (by kernel_rfl)
 obtain ⟨a27,h25⟩:=QbT h25
 have h25:=QM h25
 clear hm25
 obtain ⟨m26,_,hm26,h26⟩:=Yq ht h (i:=26) (ty:=28) (off:=28) (n:=1) (by kernel_rfl)
 obtain ⟨v28,l28,h26,s28⟩:=rd_strings h26
 have h26:=QM h26
 clear hm26
 obtain ⟨m27,_,hm27,h27⟩:=Yq ht h (i:=27) (ty:=33) (off:=29) (n:=1) (by kernel_rfl)
 obtain ⟨v29,l29,h27,s29⟩:=rd_abils h27
 have h27:=QM h27
 clear hm27
 obtain ⟨m28,_,hm28,h28⟩:=Yq ht h (i:=28) (ty:=9) (off:=30) (n:=1) (by kernel_rfl)
 obtain ⟨a30,h28⟩:=Qe9 h28
 have h28:=QM h28
 clear hm28
 obtain ⟨m29,_,hm29,h29⟩:=Yq ht h (i:=29) (ty:=27) (off:=31) (n:=1) (by kernel_rfl)
 obtain ⟨v31,l31,h29,s31⟩:=rd_tests h29
 have h29:=QM h29
 clear hm29
 obtain ⟨m30,_,hm30,h30⟩:=Yq ht h (i:=30) (ty:=34) (off:=32) (n:=1) (by kernel_rfl)
 obtain ⟨v32,l32,h30,s32⟩:=rd_i64s h30
 have h30:=QM h30
 clear hm30
 obtain ⟨m31,_,hm31,h31⟩:=Yq ht h (i:=31) (ty:=35) (off:=33) (n:=1) (by kernel_rfl)
 obtain ⟨v33,l33,h31,s33⟩:=QiH h31
 have h31:=QM h31
 clear hm31
 obtain ⟨m32,_,hm32,h32⟩:=Yq ht h (i:=32) (ty:=4) (off:=34) (n:=1) (by kernel_rfl)
 obtain ⟨a34,h32⟩:=rd_bool h32
 have h32:=QM h32
 clear hm32
 obtain ⟨m33,_,hm33,h33⟩:=Yq ht h (i:=33) (ty:=35) (off:=35) (n:=1) (by kernel_rfl)
 obtain ⟨v35,l35,h33,s35⟩:=QiH h33
 have h33:=QM h33
 clear hm33
 obtain ⟨m34,_,hm34,h34⟩:=Yq ht h (i:=34) (ty:=31) (off:=36) (n:=1) (by kernel_rfl)
 obtain ⟨a36,h34⟩:=Qeg h34
 have h34:=QM h34
 clear hm34
 obtain ⟨m35,_,hm35,h35⟩:=Yq ht h (i:=35) (ty:=35) (off:=37) (n:=1) (by kernel_rfl)
 obtain ⟨v37,l37,h35,s37⟩:=QiH h35
 have h35:=QM h35
 clear hm35
 obtain ⟨m36,_,hm36,h36⟩:=Yq ht h (i:=36) (ty:=35) (off:=38) (n:=1) (by kernel_rfl)
 obtain ⟨v38,l38,h36,s38⟩:=QiH h36
 have h36:=QM h36
 clear hm36
 obtain ⟨m37,_,hm37,h37⟩:=Yq ht h (i:=37) (ty:=31) (off:=39) (n:=1) (by kernel_rfl)
 obtain ⟨a39,h37⟩:=Qeg h37
 have h37:=QM h37
 clear hm37
 obtain ⟨m38,_,hm38,h38⟩:=Yq ht h (i:=38) (ty:=35) (off:=40) (n:=1) (by kernel_rfl)
 obtain ⟨v40,l40,h38,s40⟩:=QiH h38
 have h38:=QM h38
 clear hm38
 obtain ⟨m39,_,hm39,h39⟩:=Yq ht h (i:=39) (ty:=31) (off:=41) (n:=1) (by kernel_rfl)
 obtain ⟨a41,h39⟩:=Qeg h39
 have h39:=QM h39
 clear hm39
 obtain ⟨m40,_,hm40,h40⟩:=Yq ht h (i:=40) (ty:=35) (off:=42) (n:=1) (by kernel_rfl)
 obtain ⟨v42,l42,h40,s42⟩:=QiH h40
 have h40:=QM h40
 clear hm40
 obtain ⟨m41,_,hm41,h41⟩:=Yq ht h (i:=41) (ty:=26) (off:=43) (n:=3) (by kernel_rfl)
 obtain ⟨a43,a45,v44,g43,h41,n43,s43⟩:=rd_choice (fun m hm=>hK m (by omega)) h41
 have k43:cs[43]?=some (u8n a43):=QfO (n:=3) h41 (j:=0) (by decide)
 have k44:cs[44]?=some (v44):=QfO (n:=3) h41 (j:=1) (by decide)
 have k45:cs[45]?=some (u8n a45):=QfO (n:=3) h41 (j:=2) (by decide)
 clear hm41
 obtain ⟨m42,_,hm42,h42⟩:=Yq ht h (i:=42) (ty:=26) (off:=46) (n:=3) (by kernel_rfl)
 obtain ⟨a46,a48,v47,g46,h42,n46,s46⟩:=rd_choice (fun m hm=>hK m (by omega)) h42
 have k46:cs[46]?=some (u8n a46):=QfO (n:=3) h42 (j:=0) (by decide)
 have k47:cs[47]?=some (v47):=QfO (n:=3) h42 (j:=1) (by decide)
 have k48:cs[48]?=some (u8n a48):=QfO (n:=3) h42 (j:=2) (by decide)
 clear hm42
 obtain ⟨m43,_,hm43,h43⟩:=Yq ht h (i:=43) (ty:=9) (off:=49) (n:=1) (by kernel_rfl)
 obtain ⟨a49,h43⟩:=Qe9 h43
 have h43:=QM h43
 clear hm43
 obtain ⟨m44,_,hm44,h44⟩:=Yq ht h (i:=44) (ty:=36) (off:=50) (n:=1) (by kernel_rfl)
 obtain ⟨a50,h44⟩:=rd_int8 h44
 have h44:=QM h44
 clear hm44
 refine ⟨.mk {pos:=l0.head?,mana:=a1,hp:=a2,name:=a3,inventory:=a4,color:=a5,testTy:=a6,testColor:=a8,test4:=l9,strings:=l10,nested:=a13,empty:=l14.head?,bool:=a15,s32:=a16,u32:=a17,s64:=a18,u64:=a19,s32a:=a20,u32a:=a21,s64a:=a22,u64a:=a23,bools:=l24,f:=a25,f2:=a26,f3:=a27,strings2:=l28,abilities:=l29,flex:=a30,test5:=l31,longs:=l32,doubles:=l33,parent:=a34,refs:=l35,singleWeak:=a36,weak:=l37,strong:=l38,coOwning:=a39,coOwnings:=l40,nonOwning:=a41,nonOwnings:=l42,uniqTy:=a43,uniqColor:=a45,ambTy:=a46,ambColor:=a48,enums:=a49,signedEnum:=a50} l0 l14 g11 g12 g6 g43 g46,?_,?_⟩
 ·rw[NormM]
  exact ⟨⟨rfl,rfl⟩,n11,n12,n6,n43,n46⟩
 ·rw[Qb3]
  refine ⟨⟨v0,v7,v9,v10,v11,v12,v14,v24,v28,v29,v31,v32,v33,v35,v37,v38,v40,v42,v44,v47⟩,?_,⟨s0,s9,s10,s14,s24,s28,s29,s31,s32,s33,s35,s37,s38,s40,s42⟩,s11,s12,s6,s43,s46⟩
  refine List.ext_getElem? fun i=>?_
  match i with
  |0=>exact h0
  |1=>exact h1
  |2=>exact h2
  |3=>exact h3
  |4=>exact h4
  |5=>exact h5
  |6=>exact k6
  |7=>exact k7
  |8=>exact k8
  |9=>exact h7
  |10=>exact h8
  |11=>exact h9
  |12=>exact h10
  |13=>exact h11
  |14=>exact h12
  |15=>exact h13
  |16=>exact h14
  |17=>exact h15
  |18=>exact h16
  |19=>exact h17
  |20=>exact h18
  |21=>exact h19
  |22=>exact h20
  |23=>exact h21
  |24=>exact h22
  |25=>exact h23
  |26=>exact h24
  |27=>exact h25
  |28=>exact h26
  |29=>exact h27
  |30=>exact h28
  |31=>exact h29
  |32=>exact h30
  |33=>exact h31
  |34=>exact h32
  |35=>exact h33
  |36=>exact h34
  |37=>exact h35
  |38=>exact h36
  |39=>exact h37
  |40=>exact h38
  |41=>exact h39
  |42=>exact h40
  |43=>exact k43
  |44=>exact k44
  |45=>exact k45
  |46=>exact k46
  |47=>exact k47
  |48=>exact k48
  |49=>exact h43
  |50=>exact h44
  |i+51=>rw[List.getElem?_eq_none (by omega),List.getElem?_eq_none (by rw[YF];omega)]
theorem rd_all:∀fuel:Nat,MonRd E enc w base spare held fuel:=fun fuel=>by
 induction fuel using Nat.strongRecOn with
 |ind n ih=>exact rd_step ih
end
end Go.Proofs
namespace Go.Proofs
open Go Go.Vc
open Tryz (prog)
theorem ltb {a b:Nat} (h:Nat.ble (a+1) b=true):a<b:=Nat.le_of_ble_eq_true h
def UpS (tp:TypeId) (z:Array Value) (T:TypeId) (g:FuncId) (x0:Value) (h:Qe) (R:Kn):Prop:=
 Qr prog .eql tp x0 (.pointer none) fun x5=>IfK x5 (R (.pointer none) h) (QB z.toList [] fun x6=>YM h (.cells (Value.cells x6) T) fun x7 h1=>Qb prog g #[x0,x7] h1 fun _ h2=>R x7 h2)
theorem QfA {zs:List Value} {t:TypeId} {G0:Cut} {H0:Qe} {q:Nat} {G:Cut} {H:Qe} {done:List Value} (us:US zs t G0 H0 q G H done) {p B:Nat} {bs:List UInt8} {pos:Nat} (h:Tab H0 p B bs pos):Tab H p B bs pos:=h.ext us.ext.keep.ext
section
variable {f g:FuncId} {tp T:TypeId} {z:Array Value} (hw:∀{x0 h R},UpS tp z T g x0 h R->FnS prog f #[x0] h R) (ht:(prog).underlying tp=some (.pointer ((prog).pointee tp)))
include hw ht
theorem up_nil {h:Qe} {R:Kn} (hR:R (.pointer none) h):FnS prog f #[.pointer none] h R:=by
 apply hw
 unfold UpS
 rw[Ys ht]
 exact hR
theorem up_of {a:Addr} {G:Cut} {h:Qe} {R:Kn} (hG:G.In h) (Q:Cut->List Value->Prop) (hQ:∀G G' l,Cut.le G G'->Q G l->Q G' l)
  (hg:US z.toList T G h h.size G (h.push (.cells z T)) []->∀R':Kn,(∀G' H' done,US z.toList T G h h.size G' H' done->done.length=z.size->Q G' done.reverse->R' (.tuple #[]) H')->FnS prog g #[.pointer (some a),.pointer (some ⟨h.size,0,none⟩)] (h.push (.cells z T)) R')
  (hR:∀G' H' v done,Ext G h G' H'->v.oneCell'=true->YR G' v done.toArray->Q G' done->R v H'):FnS prog f #[.pointer (some a)] h R:=by
 apply hw
 unfold UpS
 rw[Ys ht]
 have e:Z3 z.toList []=some z.toList:=rfl
 unfold QB
 simp only[e]
 have e2:Value.cells (.agg z.toList.toArray)=z:=by simp[Value.cells]
 rw[e2]
 refine hg ⟨(Ext.refl hG).push _,by simpa using Yj.fresh (Ext.refl hG) (.cells z T)⟩ _ fun G' H' done us hl hq=>?_
 have o:=us.o
 rw[List.drop_eq_nil_of_le (by simp[hl]),List.append_nil]at o
 exact hR _ H' _ done.reverse (us.ext.add o.get o.out o.new) rfl ⟨_,_,rfl,Cut.upd_same⟩ (hQ _ _ _ (Cut.le_upd o.out) hq)
end
abbrev UpOk (f:FuncId) (D:Nat->List UInt8->Nat->Prop) (cells:List Value):Prop:=∀{A:Nat} {H:Qe} {p B:Nat} {bs:List UInt8} {pos:Nat} (_:Tab H p B bs pos) (_:D A bs pos) {G:Cut} (_:G.In H) {R:Kn}
 (_:∀G' H' v,Ext G H G' H'->v.oneCell'=true->YR G' v cells.toArray->R v H'),FnS prog f #[.pointer (some ⟨p,0,none⟩)] H R
theorem Qc6 {t:Qbf}:UpOk 302 (fun _ bs pos=>pos+4<=bs.length/\le2 bs (pos+0)=t.a.toNat/\byteN bs (pos+2)=t.b.toNat) (Yg t):=by
 intro A H p B bs pos ht ⟨h1,h2,h3⟩ G hG R hR
 refine up_of w302 (by kernel_rfl) hG (fun _ l=>l=Yg t) (fun _ _ _ _ h=>h) ?_ (fun G' H' v done e h1 o hq=>hR G' H' v e h1 (hq▸o))
 intro us R' hR'
 apply w358
 unfold tp358
 refine Qdm (QfA us ht) (by omega) ?_
 refine us.put rfl (ltb rfl) rfl fun H1 u1 _=>?_
 refine Qdl (QfA u1 ht) (by omega) ?_
 refine u1.put rfl (ltb rfl) rfl fun H2 u2 _=>?_
 rw[h2,h3]at u2
 exact hR' _ _ _ u2 rfl rfl
theorem Qge {t:Qe7}:UpOk 305 (fun _ bs pos=>pos+8<=bs.length/\le4 bs (pos+0)=t.id.toNat/\le4 bs (pos+4)=t.dist.toNat) (Ze t):=by
 intro A H p B bs pos ht ⟨h1,h2,h3⟩ G hG R hR
 refine up_of w305 (by kernel_rfl) hG (fun _ l=>l=Ze t) (fun _ _ _ _ h=>h) ?_ (fun G' H' v done e h1 o hq=>hR G' H' v e h1 (hq▸o))
 intro us R' hR'
 apply w360
 unfold tp358
 refine QeA (QfA us ht) (by omega) ?_
 refine us.put rfl (ltb rfl) rfl fun H1 u1 _=>?_
 refine Qch (QfA u1 ht) (by omega) ?_
 refine u1.put rfl (ltb rfl) rfl fun H2 u2 _=>?_
 rw[h2,h3]at u2
 exact hR' _ _ _ u2 rfl rfl
theorem QbS {x:UInt64}:UpOk 308 (RefPW x) [YY x]:=by
 intro A H p B bs pos ht ⟨vt,h1,h2⟩ G hG R hR
 refine up_of w308 (by kernel_rfl) hG (fun _ l=>l=[YY x]) (fun _ _ _ _ h=>h) ?_ (fun G' H' v done e h1 o hq=>hR G' H' v e h1 (hq▸o))
 intro us R' hR'
 apply w362
 unfold s362
 refine Qbn (QfA us ht) h1 h2 ?_
 refine us.put rfl (ltb rfl) rfl fun H1 u1 _=>?_
 exact hR' _ _ _ u1 rfl rfl
theorem QgC {c:UInt8}:UpOk 357 (SimpleW c) [u8n c]:=by
 intro A H p B bs pos ht ⟨vt,h1,h2⟩ G hG R hR
 refine up_of w357 (by kernel_rfl) hG (fun _ l=>l=[u8n c]) (fun _ _ _ _ h=>h) ?_ (fun G' H' v done e h1 o hq=>hR G' H' v e h1 (hq▸o))
 intro us R' hR'
 apply w389
 unfold s389
 refine ZI (QfA us ht) h1 h2 ?_
 refine us.put rfl (ltb rfl) rfl fun H1 u1 _=>?_
 exact hR' _ _ _ u1 rfl rfl
theorem Qhy {s:Qan}:UpOk 304 (StatW s) (Y3 s):=by
 intro A H p B bs pos ht ⟨vt,s1,s2,s3,s4⟩ G hG R hR
 refine up_of w304 (by kernel_rfl) hG (fun _ l=>l=Y3 s) (fun _ _ _ _ h=>h) ?_ (fun G' H' v done e h1 o hq=>hR G' H' v e h1 (hq▸o))
 intro us R' hR'
 apply w359
 unfold s359
 obtain ⟨w1,w2⟩:=s2.there
 obtain ⟨w3,w4⟩:=QhO.at w2
 refine Qgw (QfA us ht) s1 (fun h=>absurd h w1) (fun _=>⟨_,w3,?_⟩)
 refine (QfA us ht).str w4 rfl ?_
 refine us.put rfl (ltb rfl) rfl fun H1 u1 _=>?_
 refine QfX (QfA u1 ht) s1 s3 ?_
 refine u1.put rfl (ltb rfl) rfl fun H2 u2 _=>?_
 refine Qet (QfA u2 ht) s1 s4 ?_
 refine u2.put rfl (ltb rfl) rfl fun H3 u3 _=>?_
 exact hR' _ _ _ u3 rfl rfl
theorem Qh6:UpOk 307 (fun _ _ _=>True) []:=by
 intro A H p B bs pos ht _ G hG R hR
 refine up_of w307 (by kernel_rfl) hG (fun _ l=>l=[]) (fun _ _ _ _ h=>h) ?_ (fun G' H' v done e h1 o hq=>hR G' H' v e h1 (hq▸o))
 intro us R' hR'
 apply w361
 exact hR' _ _ _ us rfl rfl
def VecO (v:Qav) (F:Cut) (x:Value):Prop:=∃t,YR F x #[QcV v.x,QcV v.y,QcV v.z,f64V v.t1,u8n v.t2,t]/\YR F t #[Qbh v.a,i8V v.b]
theorem VecO.mono {v:Qav} {F G:Cut} {x:Value} (hl:F.le G) (h:VecO v F x):VecO v G x:=by
 obtain ⟨t,a,b⟩:=h
 exact ⟨t,a.mono hl,b.mono hl⟩
theorem Qhw {v:Qav} {H:Qe} {p B:Nat} {bs:List UInt8} {pos:Nat} (ht:Tab H p B bs pos) (hB:Yk bs pos (QgU v)) {G:Cut} (hG:G.In H) {R:Kn}
  (hR:∀G' H' x,Ext G H G' H'->x.oneCell'=true->VecO v G' x->R x H'):FnS prog 299 #[.pointer (some ⟨p,0,none⟩)] H R:=by
 obtain ⟨e0,e1,e2,e3,e4,e5,e6,e7⟩:=vec3_at hB
 refine up_of w299 (by kernel_rfl) hG (fun F l=>∃t,l=[QcV v.x,QcV v.y,QcV v.z,f64V v.t1,u8n v.t2,t]/\YR F t #[Qbh v.a,i8V v.b]) (fun _ _ _ hl ⟨t,a,b⟩=>⟨t,a,b.mono hl⟩) ?_ (fun G' H' v done e h1 o ⟨t,a,b⟩=>hR G' H' v e h1 ⟨t,a▸o,b⟩)
 intro us R' hR'
 apply w356
 unfold s356
 refine Qhi (QfA us ht) (by omega) ?_
 refine us.put rfl (ltb rfl) rfl fun H1 u1 _=>?_
 refine Qhe (QfA u1 ht) (by omega) ?_
 refine u1.put rfl (ltb rfl) rfl fun H2 u2 _=>?_
 refine Qhg (QfA u2 ht) (by omega) ?_
 refine u2.put rfl (ltb rfl) rfl fun H3 u3 _=>?_
 refine Qey (QfA u3 ht) (by omega) ?_
 refine u3.put rfl (ltb rfl) rfl fun H4 u4 _=>?_
 refine Qer (QfA u4 ht) (by omega) ?_
 refine u4.put rfl (ltb rfl) rfl fun H5 u5 _=>?_
 rw[e1,e2,e3,e4,e5]at u5
 have t5:=QfA u5 ht
 refine Qex t5 (by omega) ?_
 have u6:=u5.push (.cells #[bsl B 0 bs.length bs.length,.int .u32 (pos+26:Nat)] 234)
 have t6:Tab (H5.push (.cells #[bsl B 0 bs.length bs.length,.int .u32 (pos+26:Nat)] 234)) H5.size B bs (pos+26):=⟨Qj Qg,Qj Qg,(QfA u6 ht).u8,ht.lt,by omega⟩
 refine Qc6 (A:=0) (t:=⟨v.a,v.b⟩) t6 ⟨by omega,e6,e7⟩ u6.ext.inn fun G7 H7 x ex h1 ho=>?_
 refine (u6.next ex).put rfl (ltb rfl) h1 fun H8 u8 _=>?_
 exact hR' _ _ _ u8 rfl ⟨x,rfl,ho⟩
end Go.Proofs
namespace Go.Proofs
open Go Go.Vc
open Tryz (prog)
def PtrS {α:Type} (P:α->Cut->Value->Prop) (l:List α) (F:Cut) (v:Value):Prop:=∃vs:List Value,SlV F 1 v (vs.map fun x=>[x])/\vs.length=l.length/\∀(j:Nat) x a,vs[j]?=some x->l[j]?=some a->P a F x
theorem PtrS.mono {α:Type} {P:α->Cut->Value->Prop} (hP:∀a F G v,Cut.le F G->P a F v->P a G v) {l:List α} {F G:Cut} {v:Value} (hl:F.le G) (h:PtrS P l F v):PtrS P l G v:=by
 obtain ⟨vs,a,b,c⟩:=h
 exact ⟨vs,a.mono hl,b,fun j x y hx hy=>hP _ _ _ _ hl (c j x y hx hy)⟩
def OptO {α:Type} (P:α->Cut->Value->Prop) (l:List α) (F:Cut) (v:Value):Prop:=(l=[]/\v= .pointer none)\/∃x,l=[x]/\(∃a,v= .pointer (some a))/\P x F v
theorem OptO.mono {α:Type} {P:α->Cut->Value->Prop} (hP:∀a F G v,Cut.le F G->P a F v->P a G v) {l:List α} {F G:Cut} {v:Value} (hl:F.le G) (h:OptO P l F v):OptO P l G v:=by
 rcases h with h|⟨x,h1,h2,h3⟩
 ·exact Or.inl h
 ·exact Or.inr ⟨x,h1,h2,hP _ _ _ _ hl h3⟩
abbrev ItP {α:Type} (f:α->List Value):α->Cut->Value->Prop:=fun a F v=>YR F v (f a).toArray
theorem ItP.mono {α:Type} {f:α->List Value}:∀a F G v,Cut.le F G->ItP f a F v->ItP f a G v:=fun _ _ _ _ hl h=>YR.mono hl h
structure OV where
 pos:Value
 inventory:Value
 test:Value
 test4:Value
 strings:Value
 tables:Value
 enemy:Value
 nested:Value
 empty:Value
 bools:Value
 strings2:Value
 abil:Value
 flex:Value
 test5:Value
 longs:Value
 doubles:Value
 parent:Value
 refs:Value
 weak:Value
 strong:Value
 coOwnings:Value
 nonOwnings:Value
 uniq:Value
 amb:Value
 enums:Value
def oCells (d:Qbg) (c:OV):List Value:=
 [c.pos,Qbh d.mana,Qbh d.hp,Yx d.name,c.inventory,u8n d.color,c.test,c.test4,c.strings,c.tables,c.enemy,c.nested,c.empty,.bool d.bool,Qf5 d.s32,Zs d.u32,Qdi d.s64,YY d.u64,Qf5 d.s32a,Zs d.u32a,Qdi d.s64a,YY d.u64a,c.bools,QcV d.f,QcV d.f2,QcV d.f3,
  c.strings2,c.abil,c.flex,c.test5,c.longs,c.doubles,c.parent,c.refs,YY d.singleWeak,c.weak,c.strong,YY d.coOwning,c.coOwnings,YY d.nonOwning,c.nonOwnings,c.uniq,c.amb,c.enums,i8V d.signedEnum]
def bytI (b:UInt8):List Value:=[u8n b]
def f64I (x:UInt64):List Value:=[f64V x]
structure OD (F:Cut) (d:Qbg) (pos:List Qav) (empty:List Qan) (c:OV):Prop where
 pos:OptO VecO pos F c.pos
 inventory:SlV F 1 c.inventory (d.inventory.map bytI)
 test4:PtrS (ItP Yg) d.test4 F c.test4
 strings:SlV F 1 c.strings (d.strings.map QfU)
 nested:SlV F 1 c.nested (d.nested.map bytI)
 empty:OptO (ItP Y3) empty F c.empty
 bools:SlV F 1 c.bools (d.bools.map Qi9)
 strings2:SlV F 1 c.strings2 (d.strings2.map QfU)
 abil:PtrS (ItP Ze) d.abilities F c.abil
 flex:SlV F 1 c.flex (d.flex.map bytI)
 test5:PtrS (ItP Yg) d.test5 F c.test5
 longs:SlV F 1 c.longs (d.longs.map i64I)
 doubles:SlV F 1 c.doubles (d.doubles.map f64I)
 parent:∃a:Option Addr,c.parent= .pointer a/\a.isSome=d.parent
 refs:PtrS (ItP Qbb) d.refs F c.refs
 weak:SlV F 1 c.weak (d.weak.map Qbb)
 strong:PtrS (ItP Qbb) d.strong F c.strong
 coOwnings:SlV F 1 c.coOwnings (d.coOwnings.map Qbb)
 nonOwnings:SlV F 1 c.nonOwnings (d.nonOwnings.map Qbb)
 enums:SlV F 1 c.enums (d.enums.map bytI)
theorem OD.mono {F G:Cut} (h:F.le G) {d:Qbg} {pos:List Qav} {empty:List Qan} {c:OV} (x:OD F d pos empty c):OD G d pos empty c:=
 ⟨OptO.mono (P:=VecO) (fun _ _ _ _ l h=>VecO.mono l h) h x.pos,x.inventory.mono h,x.test4.mono ItP.mono h,x.strings.mono h,x.nested.mono h,x.empty.mono ItP.mono h,x.bools.mono h,x.strings2.mono h,x.abil.mono ItP.mono h,x.flex.mono h,x.test5.mono ItP.mono h,x.longs.mono h,x.doubles.mono h,x.parent,x.refs.mono ItP.mono h,x.weak.mono h,x.strong.mono ItP.mono h,x.coOwnings.mono h,x.nonOwnings.mono h,x.enums.mono h⟩
def UniO (amb:Bool) (ty color:UInt8) (none':Prop) (K:Cut->Value->Prop) (F:Cut) (v:Value):Prop:=
 (ty=0/\color=0/\none'/\v= .pointer none)\/(ty≠0/\∃x,YR F v #[u8n ty,x]/\
  ((amb=false/\ty=2/\none'/\∃y,x= .iface 261 y/\YR F y #[u8n color])\/(¬(amb=false/\ty=2)/\color=0/\∃y,x= .iface 66 y/\K F y)))
theorem UniO.mono {amb:Bool} {ty color:UInt8} {n:Prop} {K:Cut->Value->Prop} (hK:∀F G v,Cut.le F G->K F v->K G v) {F G:Cut} {v:Value} (hl:F.le G) (h:UniO amb ty color n K F v):UniO amb ty color n K G v:=by
 rcases h with h|⟨h0,x,h1,h2⟩
 ·exact Or.inl h
 ·refine Or.inr ⟨h0,x,h1.mono hl,?_⟩
  rcases h2 with ⟨a,b,b',y,c,e⟩|⟨a,b,y,c,e⟩
  ·exact Or.inl ⟨a,b,b',y,c,e.mono hl⟩
  ·exact Or.inr ⟨a,b,y,c,hK _ _ _ hl e⟩
mutual
def ObjM:GM->Cut->Value->Prop
 |.mk d pos empty tables enemy test uniq amb=>fun F v=>∃c:OV,YR F v (oCells d c).toArray/\OD F d pos empty c/\
  (∃vs:List Value,SlV F 1 c.tables (vs.map fun x=>[x])/\QiZ tables F vs)/\((enemy=[]/\c.enemy= .pointer none)\/QdB enemy F c.enemy)/\
  UniO false d.testTy d.testColor (test=[]) (QdB test) F c.test/\UniO false d.uniqTy d.uniqColor (uniq=[]) (QdB uniq) F c.uniq/\UniO true d.ambTy d.ambColor (amb=[]) (QdB amb) F c.amb
def QiZ:List GM->Cut->List Value->Prop
 |[],_,[]=>True
 |g::gs,F,v::vs=>ObjM g F v/\QiZ gs F vs
 |_,_,_=>False
def QdB:List GM->Cut->Value->Prop
 |[],_,_=>False
 |g::gs,F,v=>gs=[]/\ObjM g F v
end
theorem ObjM.ptr {g:GM} {F:Cut} {v:Value} (h:ObjM g F v):∃q,v= .pointer (some ⟨q,0,none⟩):=by
 cases g with
 |mk d pos empty tables enemy test uniq amb=>
  rw[ObjM]at h
  obtain ⟨c,⟨q,e,h1,_⟩,_⟩:=h
  exact ⟨q,h1⟩
mutual
theorem ObjM.mono:∀(g:GM) (F G:Cut) (v:Value),Cut.le F G->ObjM g F v->ObjM g G v
 |.mk d pos empty tables enemy test uniq amb,F,G,v,hl,h=>by
  rw[ObjM]at h⊢
  obtain ⟨c,h1,h2,⟨vs,h3,h4⟩,h5,h6,h7,h8⟩:=h
  refine ⟨c,h1.mono hl,h2.mono hl,⟨vs,h3.mono hl,QiZ.mono tables F G vs hl h4⟩,?_,h6.mono (QdB.mono test) hl,h7.mono (QdB.mono uniq) hl,h8.mono (QdB.mono amb) hl⟩
  rcases h5 with h5|h5
  ·exact Or.inl h5
  ·exact Or.inr (QdB.mono enemy F G _ hl h5)
theorem QiZ.mono:∀(gs:List GM) (F G:Cut) (vs:List Value),Cut.le F G->QiZ gs F vs->QiZ gs G vs
 |[],F,G,[],_,h=>by rw[QiZ];trivial
 |g::gs,F,G,v::vs,hl,h=>by
  rw[QiZ]at h⊢
  exact ⟨ObjM.mono g F G v hl h.1,QiZ.mono gs F G vs hl h.2⟩
 |[],_,_,_::_,_,h=>by simp only[QiZ]at h
 |_::_,_,_,[],_,h=>by simp only[QiZ]at h
theorem QdB.mono:∀(gs:List GM) (F G:Cut) (v:Value),Cut.le F G->QdB gs F v->QdB gs G v
 |[],_,_,_,_,h=>by rw[QdB]at h;exact h.elim
 |g::gs,F,G,v,hl,h=>by
  rw[QdB]at h⊢
  exact ⟨h.1,ObjM.mono g F G v hl h.2⟩
end
theorem ObjL_of {gs:List GM} {F:Cut} {vs:List Value} (hl:vs.length=gs.length) (h:∀(j:Nat) v g,vs[j]?=some v->gs[j]?=some g->ObjM g F v):QiZ gs F vs:=by
 induction gs generalizing vs with
 |nil=>
  cases vs with
  |nil=>rw[QiZ];trivial
  |cons v vs=>simp at hl
 |cons g gs ih=>
  cases vs with
  |nil=>simp at hl
  |cons v vs=>
   rw[QiZ]
   exact ⟨h 0 v g rfl rfl,ih (by simpa using hl) fun j v' g' h1 h2=>h (j+1) v' g' (by simpa using h1) (by simpa using h2)⟩
mutual
def TyM:Mon->Prop
 |.mk d tables enemy test uniq amb=>d.testTy<=3/\d.uniqTy<=3/\d.ambTy<=3/\TyL tables/\TyL enemy/\TyL test/\TyL uniq/\TyL amb
def TyL:List Mon->Prop
 |[]=>True
 |m::ms=>TyM m/\TyL ms
end
theorem TyL.get:∀{ms:List Mon},TyL ms->∀m∈ms,TyM m
 |[],_,m,h=>by simp at h
 |m'::ms,hs,m,h=>by
  rw[TyL]at hs
  rcases List.mem_cons.1 h with h|h
  ·rw[h];exact hs.1
  ·exact TyL.get hs.2 m h
def BufG (G:Cut) (B:Nat) (bs:List UInt8):Prop:=∃cells e fr,G B=some (.cells cells e fr)/\bs.length<=cells.size
theorem BufG.mono {G G':Cut} (hl:G.le G') {B:Nat} {bs:List UInt8} (h:BufG G B bs):BufG G' B bs:=by
 obtain ⟨c,e,fr,h1,h2⟩:=h
 exact ⟨c,e,fr,hl _ _ h1,h2⟩
theorem buf_sl {G:Cut} {B:Nat} {bs:List UInt8} (hB:BufG G B bs) {H:Qe} (hG:G.In H) (hu:U8s H B 0 bs) {o n c:Nat} {xs:List UInt8} (hx:Yk bs o xs) (hn:xs.length=n) (hc:n<=c):SlV G 1 (bsl B o n c) (xs.map bytI):=by
 subst hn
 obtain ⟨cells,e,fr,h1,h2⟩:=hB
 have h3:=Qif hu (o:=o) (n:=xs.length) (i:=0) (by have:=hx.1;omega)
 have h4:=Q0 (hG _ _ h1) (o:=o) (i:=0) xs.length (by have:=hx.1;omega)
 rw[h3,Nat.add_zero,hx.2]at h4
 refine ⟨by simp[bytI],Or.inr ⟨B,o,c,cells,e,fr,by simp,h1,by simp;have:=hx.1;omega,?_,by simpa using hc⟩⟩
 rw[List.length_map,Nat.mul_one]
 have h5:=Option.some.inj h4
 rw[<-h5]
 clear h1 h2 h3 h4 h5 hx hc
 induction xs with
 |nil=>rfl
 |cons x xs ih=>rw[List.map_cons,List.map_cons,List.flatten_cons,<-ih];rfl
def Qh3 (m:Mon):Prop:=∀(A p B pos:Nat) (bs:List UInt8) (G:Cut) (H:Qe) (R:Kn),Tab H p B bs pos->BufG G B bs->G.In H->RwM m A bs pos->
 (∀v H' G',Ext G H G' H'->v.oneCell'=true->ObjM (rwM m) G' v->R v H')->FnS prog 42 #[ptr p] H R
section
variable {zs:List Value} {T:TypeId} {G0:Cut} {H0:Qe} {q:Nat} {G:Cut} {H:Qe} {done:List Value} (us:US zs T G0 H0 q G H done) {p B:Nat} {bs:List UInt8} {pos:Nat} (ht:Tab H0 p B bs pos)
include us ht
theorem QcF {f:FuncId} {i:Nat} {v:Value} {K:Qe->Prop} (hf:∀H' (R:Kn),Tab H' p B bs pos->R v H'->FnS prog f #[ptr p] H' R) (hi:i=done.length) (hz:i<zs.length) (hv:v.oneCell'=true)
  (hk:∀H',US zs T G0 H0 q G H' (v::done)->K H'):Qb prog f #[ptr p] H fun v' h1=>Qe8 (ptr q) i h1 v' K:=
 hf H _ (QfA us ht) (us.put hi hz hv fun H' u _=>hk H' u)
variable {ti:TypeId} {lenf f g:FuncId} {fld:Nat} {et:TypeId} {bts:Nat} {z:Array Value} {K:Qe->Prop} (hf:fld=done.length) (hz:fld<zs.length) (hz1:z.size=1) (hb:bts<=16)
include hf hz hz1 hb
theorem QhE {α:Type} (l:List α) (enc:α->Value) (item:α->List Value) (hit:∀a,item a=[enc a]) (hone:∀a,(enc a).oneCell'=true) (hl:l.length<2147483648) (hL:∀H' (R:Kn),Tab H' p B bs pos->R (.int .i64 (l.length:Nat)) H'->FnS prog lenf #[ptr p] H' R)
  (hI:∀(i:Nat) a H' (R:Kn),Tab H' p B bs pos->l[i]?=some a->R (enc a) H'->FnS prog f #[ptr p,.int .i64 (i:Nat)] H' R)
  (hK:∀G' H' s,US zs T G0 H0 q G' H' (s::done)->G.le G'->SlV G' 1 s (l.map item)->K H'):
  Qb prog lenf #[ptr p] H fun n h1=>Qcf prog ti (ptr q) fld et bts z n h1 (lpS prog f (ptr p) (ptr q) fld) K:=by
 refine hL H _ (QfA us ht) (mkLoop_of us hf hz hz1 hl hb (fun i _ v=>∀a,l[i]?=some a->v=enc a) (fun _ _ _ _ _ h=>h) ?_ ?_)
 ·intro i G1 H1 s k hi u le hp
  have ha:=List.getElem?_eq_getElem hi
  exact lpS_of u hf (fun R h=>hI i _ H1 R (QfA u ht) ha h) (hp G1 H1 _ (Ext.refl u.ext.inn) (hone _) fun a h=>by rw[ha]at h;cases h;rfl)
 ·rintro G' H' s u le ⟨vs,h1,h2,h3⟩
  refine hK G' H' s u le ?_
  have e:(vs.map fun v=>[v])=l.map item:=by
   apply List.ext_getElem?
   intro j
   rw[List.getElem?_map,List.getElem?_map]
   rcases Nat.lt_or_ge j l.length with h|h
   ·have a1:=List.getElem?_eq_getElem h
    have a2:=List.getElem?_eq_getElem (l:=vs) (i:=j) (by omega)
    rw[a1,a2,Option.map_some,Option.map_some,hit,h3 j _ a2 _ a1]
   ·rw[List.getElem?_eq_none h,List.getElem?_eq_none (by omega)];rfl
  rw[<-e];exact h1
theorem up_text (l:List (List UInt8)) (hl:l.length<2147483648) (hL:∀H' (R:Kn),Tab H' p B bs pos->R (.int .i64 (l.length:Nat)) H'->FnS prog lenf #[ptr p] H' R)
  (hI:∀(i:Nat) a H' (R:Kn),Tab H' p B bs pos->l[i]?=some a->(∀o n c,Yk bs o a->a.length=n->R (bsl B o n c) H')->FnS prog f #[ptr p,.int .i64 (i:Nat)] H' R)
  (hK:∀G' H' s,US zs T G0 H0 q G' H' (s::done)->G.le G'->SlV G' 1 s (l.map QfU)->K H'):
  Qb prog lenf #[ptr p] H fun n h1=>Qcf prog ti (ptr q) fld et bts z n h1 (lpT prog f (ptr p) (ptr q) fld) K:=by
 refine hL H _ (QfA us ht) (mkLoop_of us hf hz hz1 hl hb (fun i _ v=>∀a,l[i]?=some a->v=Yx a) (fun _ _ _ _ _ h=>h) ?_ ?_)
 ·intro i G1 H1 s k hi u le hp
  have ha:=List.getElem?_eq_getElem hi
  refine u.get (v:=s) (by rw[hf];simp) (hI i _ H1 _ (QfA u ht) ha fun o n c hx hn=>Qw (Qai.refl _).ext ((QfA u ht).str hx hn ?_))
  exact hp G1 H1 _ (Ext.refl u.ext.inn) rfl fun a h=>by rw[ha]at h;cases h;rfl
 ·rintro G' H' s u le ⟨vs,h1,h2,h3⟩
  refine hK G' H' s u le ?_
  have e:(vs.map fun v=>[v])=l.map QfU:=by
   apply List.ext_getElem?
   intro j
   rw[List.getElem?_map,List.getElem?_map]
   rcases Nat.lt_or_ge j l.length with h|h
   ·have a1:=List.getElem?_eq_getElem h
    have a2:=List.getElem?_eq_getElem (l:=vs) (i:=j) (by omega)
    rw[a1,a2,Option.map_some,Option.map_some,h3 j _ a2 _ a1];rfl
   ·rw[List.getElem?_eq_none h,List.getElem?_eq_none (by omega)];rfl
  rw[<-e];exact h1
theorem up_obj {α:Type} {zc:Array Value} {tz:TypeId} (hzc:zc.size=2) (hoc:∀v∈zc.toList,v.oneCell'=true) (l:List α) (P:α->Cut->Value->Prop) (hP:∀a F G v,Cut.le F G->P a F v->P a G v) (loc:Nat->Nat) (hl:l.length<2147483648)
  (hL:∀H' (R:Kn),Tab H' p B bs pos->R (.int .i64 (l.length:Nat)) H'->FnS prog lenf #[ptr p] H' R)
  (hI:∀(i:Nat) a H' (R:Kn),Tab H' p B bs pos->l[i]?=some a->loc i<=bs.length/\∀q',H'[q']?=some (.cells zc tz (0,0))->R (.bool true) (setB H' q' (.cells #[bsl B 0 bs.length bs.length,.int .u32 (loc i:Nat)] tz (0,0)))->FnS prog f #[ptr p,ptr q',.int .i64 (i:Nat)] H' R)
  (hU:∀(i:Nat) a G' H' p',l[i]?=some a->Tab H' p' B bs (loc i)->G0.le G'->G'.In H'->∀R:Kn,(∀G2 H2 v,Ext G' H' G2 H2->v.oneCell'=true->P a G2 v->R v H2)->FnS prog g #[ptr p'] H' R)
  (hK:∀G' H' s,US zs T G0 H0 q G' H' (s::done)->G.le G'->PtrS P l G' s->K H'):
  Qb prog lenf #[ptr p] H fun n h1=>Qcf prog ti (ptr q) fld et bts z n h1 (lpO prog zc tz f g (ptr p) (ptr q) fld) K:=by
 refine hL H _ (QfA us ht) (mkLoop_of us hf hz hz1 hl hb (fun i G v=>∀a,l[i]?=some a->P a G v) (fun _ _ _ _ hl h a ha=>hP _ _ _ _ hl (h a ha)) ?_ ?_)
 ·intro i G1 H1 s k hi u le hp
  have ha:=List.getElem?_eq_getElem hi
  have u1:=u.push (.cells zc tz)
  have u2:=u.push (.cells #[bsl B 0 bs.length bs.length,.int .u32 (loc i:Nat)] tz)
  refine lpO_of u hf (c:=#[bsl B 0 bs.length bs.length,.int .u32 (loc i:Nat)]) (Q:=fun G v=>∀a,l[i]?=some a->P a G v) hzc hoc (fun R h=>(hI i _ _ R (QfA u1 ht) ha).2 _ Qg (by rw[YJ];exact h)) (fun R h=>hU i _ G1 _ _ ha ⟨Qj Qg,Qj Qg,(QfA u2 ht).u8,ht.lt,(hI i _ _ (fun _ _=>True) (QfA u1 ht) ha).1⟩ (Cut.le_trans us.ext.le le) u2.ext.inn R fun G2 H2 v e h1 h2=>h G2 H2 v e h1 fun a h'=>by rw[ha]at h';cases h';exact h2) hp
 ·rintro G' H' s u le ⟨vs,h1,h2,h3⟩
  exact hK G' H' s u le ⟨vs,h1,h2,fun j x a hx ha=>h3 j x hx a ha⟩
end
end Go.Proofs
namespace Go.Proofs
open Go Go.Vc
open Tryz (prog)
theorem tab_lt {H:Qe} {p B:Nat} {bs:List UInt8} {pos:Nat} (h:Tab H p B bs pos):p<H.size:=by
 rcases Nat.lt_or_ge p H.size with h'|h'
 ·exact h'
 ·have:=h.c0
  unfold Qb2 at this
  rw[Array.getElem?_eq_none h']at this
  cases this
section
variable {zs:List Value} {T:TypeId} {G0:Cut} {H0:Qe} {q:Nat} {G:Cut} {H:Qe} {done:List Value} (us:US zs T G0 H0 q G H done) {p B:Nat} {bs:List UInt8} {pos:Nat} (ht:Tab H0 p B bs pos)
include us ht
theorem up_bytes {A vt vo i:Nat} {f:FuncId} (hf:BytOk f vo) (hv:VT bs pos vt) {xs:List UInt8} (own:Q6 A bs pos vt vo (xs=[]) (Qb6 (QhO xs))) (hB:BufG G0 B bs) (hi:i=done.length) (hz:i<zs.length) {K:Qe->Prop}
  (hk:∀H' v,US zs T G0 H0 q G H' (v::done)->SlV G 1 v (xs.map bytI)->K H'):Qb prog f #[ptr p] H fun v h1=>Qe8 (ptr q) i h1 v K:=by
 refine hf (QfA us ht) hv (fun h0=>?_) (fun h1=>?_)
 ·have:=own.zero h0
  subst this
  exact us.put hi hz rfl fun H' u _=>hk H' _ u (SlV.nil _ _)
 ·obtain ⟨_,hq⟩:=own.got h1
  obtain ⟨g1,g2⟩:=QhO.at hq
  have g3:=g2.1
  exact ⟨_,g1,us.put hi hz rfl fun H' u _=>hk H' _ u (buf_sl (hB.mono us.ext.le) us.ext.inn (QfA us ht).u8 g2 rfl (by omega))⟩
theorem up_opt {α:Type} {f g:FuncId} {i:Nat} (P:α->Cut->Value->Prop) {l:List α} (hn:∀H' (R:Kn),R (.pointer none) H'->FnS prog g #[.pointer none] H' R)
  (h:(l=[]/\∀H' (R:Kn),Tab H' p B bs pos->R (.pointer none) H'->FnS prog f #[ptr p,.pointer none] H' R)\/
   ∃x loc tz,l=[x]/\loc<=bs.length/\(∀H' (R:Kn),Tab H' p B bs pos->R (ptr H'.size) (H'.push (.cells #[bsl B 0 bs.length bs.length,.int .u32 (loc:Nat)] tz))->FnS prog f #[ptr p,.pointer none] H' R)/\
    ∀G' H' p' (R:Kn),Tab H' p' B bs loc->G0.le G'->G'.In H'->(∀G2 H2 v,Ext G' H' G2 H2->v.oneCell'=true->(∃a,v= .pointer (some a))->P x G2 v->R v H2)->FnS prog g #[ptr p'] H' R)
  (hi:i=done.length) (hz:i<zs.length) {K:Qe->Prop} (hk:∀G' H' v,US zs T G0 H0 q G' H' (v::done)->G.le G'->OptO P l G' v->K H'):
  Qb prog f #[ptr p,.pointer none] H fun a h1=>Qb prog g #[a] h1 fun v h2=>Qe8 (ptr q) i h2 v K:=by
 rcases h with ⟨h1,h2⟩|⟨x,loc,tz,h1,h2,h3,h4⟩
 ·exact h2 H _ (QfA us ht) (hn _ _ (us.put hi hz rfl fun H' u _=>hk G H' _ u (Cut.le_refl G) (Or.inl ⟨h1,rfl⟩)))
 ·have u2:=us.push (.cells #[bsl B 0 bs.length bs.length,.int .u32 (loc:Nat)] tz)
  refine h3 H _ (QfA us ht) (h4 G _ _ _ ⟨Qj Qg,Qj Qg,(QfA u2 ht).u8,ht.lt,h2⟩ us.ext.le u2.ext.inn fun G2 H2 v e g1 g2 g3=>?_)
  exact (u2.next e).put hi hz g1 fun H' u _=>hk G2 H' v u e.le (Or.inr ⟨x,h1,g2,g3⟩)
end
def altK (tk T:TypeId) (z z2:Array Value) (t2:TypeId) (g:FuncId) (it:TypeId) (k:Int) (x0 x3:Value) (h1:Qe) (R:Kn) (E:Prop):Prop:=
 Qr prog .eql tk x0 (.int .u8 k) fun c=>IfK c (LdN h1 2 x3 fun tb=>QB z2.toList [(0,2,tb)] fun o=>YM h1 (.cells z2 t2) fun y h2=>StK h2 2 y o fun h3=>Qb prog g #[y] h3 fun v h4=>
  QB z.toList [(0,1,(.int .u8 k)),(1,1,(.iface it v))] fun u=>YM h4 (.cells (Value.cells u) T) fun w h5=>R w h5) E
def AnyS (tk T:TypeId) (z z2:Array Value) (t2:TypeId) (g2:FuncId) (it2:TypeId) (x0 x1:Value) (h:Qe) (R:Kn):Prop:=
 YM h (.cells (Value.cells x1) 208) fun x3 h1=>altK tk T z z210 210 42 66 1 x0 x3 h1 R
  (altK tk T z z2 t2 g2 it2 2 x0 x3 h1 R (altK tk T z z210 210 42 66 3 x0 x3 h1 R (R (.pointer none) h1)))
theorem fillPair {z:Array Value} (hz:z.size=2) (a b:Value) (ha:a.oneCell'=true) (hb:b.oneCell'=true):Z3 z.toList [(0,1,a),(1,1,b)]=some [a,b]:=by
 obtain ⟨l⟩:=z
 match l,hz with
 |[x,y],_=>
  have e1:a.cells=#[a]:=QeV ha
  have e2:b.cells=#[b]:=QeV hb
  simp[Z3,e1,e2]
theorem fillWhole {z:Array Value} (hz:z.size=2) (a b:Value):Z3 z.toList [(0,2,.agg #[a,b])]=some [a,b]:=by
 obtain ⟨l⟩:=z
 match l,hz with
 |[x,y],_=>simp[Z3,Value.cells]
theorem Qf6 {tk T:TypeId} {z z2:Array Value} {t2:TypeId} {g:FuncId} {it:TypeId} {k n:Int} {x3:Value} {h1:Qe} {R:Kn} {E:Prop} (hne:n≠k) (hE:E):altK tk T z z2 t2 g it k (.int .u8 n) x3 h1 R E:=by
 unfold altK
 rw[Yp,QK hne]
 exact hE
theorem altK_hit {tk T:TypeId} {z z2:Array Value} (hz:z.size=2) (hz2:z2.size=2) {t2:TypeId} {g:FuncId} {it:TypeId} {k:Int} {q3:Nat} {h1:Qe} {R:Kn} {E:Prop} {a b:Value} {t3:TypeId} (hq:h1[q3]?=some (.cells #[a,b] t3 (0,0))) (ha:a.oneCell'=true) (hb:b.oneCell'=true) {G:Cut} (Q:Cut->Value->Prop) (hQ:∀F F' v,Cut.le F F'->Q F v->Q F' v)
  (hg:∀R':Kn,(∀G2 H2 v,Ext G (h1.push (.cells #[a,b] t2)) G2 H2->v.oneCell'=true->Q G2 v->R' v H2)->FnS prog g #[ptr h1.size] (h1.push (.cells #[a,b] t2)) R')
  (hR:∀G2 H2 v w,Ext G (h1.push (.cells #[a,b] t2)) G2 H2->w.oneCell'=true->YR G2 w #[.int .u8 k,.iface it v]->Q G2 v->R w H2):altK tk T z z2 t2 g it k (.int .u8 k) (ptr q3) h1 R E:=by
 unfold altK
 rw[Yp,QY rfl,Y0 (n:=2) (vs:=[a,b]) (by rw[Q0 hq 2 (by simp)];rfl)]
 refine ZY (fillWhole hz2 a b) ?_
 rw[Q3,Ye (n:=2) (c':=#[a,b]) Qg hz2 rfl (by decide) (by intro v hv;simp at hv;rcases hv with rfl|rfl<;>assumption),YJ]
 refine hg _ fun G2 H2 v e h1 h2=>?_
 refine ZY (fillPair hz _ _ rfl rfl) ?_
 rw[Q3]
 exact hR _ _ v _ (e.pushG _) rfl ⟨_,_,rfl,Cut.upd_same⟩ (hQ _ _ _ (Cut.le_upd (e.inn.none (Nat.le_refl _))) h2)
abbrev AnyOk (un:FuncId) (amb:Bool):Prop:=∀{A B t:Nat} {bs:List UInt8} {ty color:UInt8} {kids:List Mon} {G:Cut} {H:Qe} {R:Kn} (_:G.In H) (_:BufG G B bs) (_:∀k∈kids,Qh3 k) (_:ty≠0) (_:ty<=3) (_:U8s H B 0 bs) (_:bs.length<2147483648) (_:t<=bs.length)
 (_:UnW amb ty color (Rw1 kids) A bs t) (_:∀G' H' v,Ext G H G' H'->v.oneCell'=true->UniO amb ty (Qh8 amb ty color) (rdU amb ty (rw1 kids)=[]) (QdB (rdU amb ty (rw1 kids))) G' v->R v H'),
 FnS prog un #[u8n ty,.agg #[bsl B 0 bs.length bs.length,.int .u32 (t:Nat)]] H R
theorem any_kid {A B t:Nat} {bs:List UInt8} {kids:List Mon} {G:Cut} {H1:Qe} (hG:G.In H1) (hB:BufG G B bs) (hK:∀k∈kids,Qh3 k) (hu:U8s H1 B 0 bs) (hl:bs.length<2147483648) (htl:t<=bs.length) (hr:Rw1 kids A bs t) (R':Kn)
  (h:∀G2 H2 v,Ext G (H1.push (.cells #[bsl B 0 bs.length bs.length,.int .u32 (t:Nat)] 210)) G2 H2->v.oneCell'=true->QdB (rw1 kids) G2 v->R' v H2):
  FnS prog 42 #[ptr H1.size] (H1.push (.cells #[bsl B 0 bs.length bs.length,.int .u32 (t:Nat)] 210)) R':=by
 cases kids with
 |nil=>rw[Rw1]at hr;exact hr.elim
 |cons m ms=>
  rw[Rw1]at hr
  refine hK m List.mem_cons_self A _ B t bs G _ R' ⟨Qj Qg,Qj Qg,QeO (Qai.push _ _).ext hu,hl,htl⟩ hB (hG.push _) hr fun v H' G' e h1 h2=>h G' H' v e h1 ?_
  rw[rw1,QdB]
  exact ⟨rfl,h2⟩
theorem u8_cases {ty:UInt8} (h0:ty≠0) (h3:ty<=3):ty=1\/ty=2\/ty=3:=by
 have:ty.toNat<=3:=UInt8.le_iff_toNat_le.1 h3
 have h0':ty.toNat≠0:=fun h=>h0 (UInt8.toNat_inj.1 h)
 have:ty.toNat=1\/ty.toNat=2\/ty.toNat=3:=by omega
 rcases this with h|h|h
 ·exact Or.inl (UInt8.toNat_inj.1 h)
 ·exact Or.inr (Or.inl (UInt8.toNat_inj.1 h))
 ·exact Or.inr (Or.inr (UInt8.toNat_inj.1 h))
theorem anyS_false {un:FuncId} {tk T:TypeId} {z:Array Value} (hz:z.size=2) (hw:∀{x0 x1 h R},AnyS tk T z z313 313 357 261 x0 x1 h R->FnS prog un #[x0,x1] h R):AnyOk un false:=by
 intro A B t bs ty color kids G H R hG hB hK h0 h3 hu hl htl hr hR
 apply hw
 unfold AnyS
 rw[Q3]
 have e0:=(Ext.refl hG).push (.cells (Value.cells (.agg #[bsl B 0 bs.length bs.length,.int .u32 (t:Nat)])) 208)
 have hu1:=QeO (Qai.push H (.cells (Value.cells (.agg #[bsl B 0 bs.length bs.length,.int .u32 (t:Nat)])) 208)).ext hu
 have hq:(H.push (.cells (Value.cells (.agg #[bsl B 0 bs.length bs.length,.int .u32 (t:Nat)])) 208))[H.size]?=some (.cells #[bsl B 0 bs.length bs.length,.int .u32 (t:Nat)] 208 (0,0)):=Qg
 generalize H.push (.cells (Value.cells (.agg #[bsl B 0 bs.length bs.length,.int .u32 (t:Nat)])) 208)=H1 at *
 unfold UnW at hr
 rcases u8_cases h0 h3 with rfl|rfl|rfl
 ·rw[if_neg (by decide)]at hr
  refine altK_hit (k:=1) hz rfl hq rfl rfl (QdB (rw1 kids)) (fun F F' v=>QdB.mono _ F F' v) (fun R' h=>any_kid e0.inn hB hK hu1 hl htl hr R' h) fun G2 H2 v w e g1 g2 g3=>hR G2 H2 w ((e0.push _).trans e) g1 (Or.inr ⟨by decide,_,g2,Or.inr ⟨by decide,rfl,v,rfl,g3⟩⟩)
 ·rw[if_pos ⟨rfl,rfl⟩]at hr
  refine Qf6 (by decide) (altK_hit (k:=2) hz rfl hq rfl rfl (fun F v=>YR F v #[u8n color]) (fun F F' v hl h=>h.mono hl) (fun R' h=>QgC ⟨Qj Qg,Qj Qg,QeO (Qai.push _ _).ext hu1,hl,htl⟩ hr (e0.inn.push _) h) fun G2 H2 v w e g1 g2 g3=>hR G2 H2 w ((e0.push _).trans e) g1 (Or.inr ⟨by decide,_,g2,Or.inl ⟨rfl,rfl,rfl,v,rfl,g3⟩⟩))
 ·rw[if_neg (by decide)]at hr
  refine Qf6 (by decide) (Qf6 (by decide) (altK_hit (k:=3) hz rfl hq rfl rfl (QdB (rw1 kids)) (fun F F' v=>QdB.mono _ F F' v) (fun R' h=>any_kid e0.inn hB hK hu1 hl htl hr R' h) fun G2 H2 v w e g1 g2 g3=>hR G2 H2 w ((e0.push _).trans e) g1 (Or.inr ⟨by decide,_,g2,Or.inr ⟨by decide,rfl,v,rfl,g3⟩⟩)))
theorem anyS_true {un:FuncId} {tk T:TypeId} {z:Array Value} (hz:z.size=2) (hw:∀{x0 x1 h R},AnyS tk T z z210 210 42 66 x0 x1 h R->FnS prog un #[x0,x1] h R):AnyOk un true:=by
 intro A B t bs ty color kids G H R hG hB hK h0 h3 hu hl htl hr hR
 apply hw
 unfold AnyS
 rw[Q3]
 have e0:=(Ext.refl hG).push (.cells (Value.cells (.agg #[bsl B 0 bs.length bs.length,.int .u32 (t:Nat)])) 208)
 have hu1:=QeO (Qai.push H (.cells (Value.cells (.agg #[bsl B 0 bs.length bs.length,.int .u32 (t:Nat)])) 208)).ext hu
 have hq:(H.push (.cells (Value.cells (.agg #[bsl B 0 bs.length bs.length,.int .u32 (t:Nat)])) 208))[H.size]?=some (.cells #[bsl B 0 bs.length bs.length,.int .u32 (t:Nat)] 208 (0,0)):=Qg
 generalize H.push (.cells (Value.cells (.agg #[bsl B 0 bs.length bs.length,.int .u32 (t:Nat)])) 208)=H1 at *
 unfold UnW at hr
 rw[if_neg (fun h=>Bool.noConfusion h.1)]at hr
 have hit:∀{k:Int} {E:Prop},(ty.toNat:Int)=k->Qh8 true ty color=0->rdU true ty (rw1 kids)=rw1 kids->altK tk T z z210 210 42 66 k (.int .u8 k) (ptr H.size) H1 R E:=fun {k E} hk hc hd=>by
  refine altK_hit hz rfl hq rfl rfl (QdB (rw1 kids)) (fun F F' v=>QdB.mono _ F F' v) (fun R' h=>any_kid e0.inn hB hK hu1 hl htl hr R' h) fun G2 H2 v w e g1 g2 g3=>hR G2 H2 w ((e0.push _).trans e) g1 (Or.inr ⟨h0,_,by rw[<-hk]at g2;exact g2,Or.inr ⟨fun h=>Bool.noConfusion h.1,hc,v,rfl,by rw[hd];exact g3⟩⟩)
 rcases u8_cases h0 h3 with rfl|rfl|rfl
 ·exact hit (k:=1) rfl rfl rfl
 ·exact Qf6 (by decide) (hit (k:=2) rfl rfl rfl)
 ·exact Qf6 (by decide) (Qf6 (by decide) (hit (k:=3) rfl rfl rfl))
theorem Any_UnPack:AnyOk 301 false:=anyS_false (z:=z169) rfl w301
theorem Unique_UnPack:AnyOk 309 false:=anyS_false (z:=z172) rfl w309
theorem Qjc:AnyOk 310 true:=anyS_true (z:=z176) rfl w310
theorem up_union {zs:List Value} {T:TypeId} {G0:Cut} {H0:Qe} {q:Nat} {G:Cut} {H:Qe} {done:List Value} (us:US zs T G0 H0 q G H done) {p B:Nat} {bs:List UInt8} {pos:Nat} (ht:Tab H0 p B bs pos) {A vt vo voT fld:Nat} (hv:VT bs pos vt) {f tyf un:FuncId} {amb:Bool} {ty color:UInt8} {kids:List Mon} (hf:UniOk f vo) (hty:Qid tyf 1 voT 0 vU8) (hun:AnyOk un amb)
  (oty:Sc 1 bs pos vt voT 0 ty.toNat) (own:Q6 A bs pos vt vo (ty=0) (Qb6 (UnW amb ty color (Rw1 kids)))) (hB:BufG G0 B bs) (hK:∀k∈kids,Qh3 k) (h3:ty<=3) (hfl:fld=done.length) (hzs:zs[fld]?=some (.pointer none)) {K:Qe->Prop}
  (hk:∀G' H' v,US zs T G0 H0 q G' H' (v::done)->G.le G'->UniO amb ty (Qh8 amb ty color) (rdU amb ty (rw1 kids)=[]) (QdB (rdU amb ty (rw1 kids))) G' v->K H'):
  uniF prog z208 208 f tyf un (ptr p) (ptr q) fld H K:=by
 have hne:H.size≠p:=by have:=tab_lt (QfA us ht);omega
 have u1:=us.push (.cells z208 208)
 refine uniF_of us hfl (UniO amb ty (Qh8 amb ty color) (rdU amb ty (rw1 kids)=[]) (QdB (rdU amb ty (rw1 kids)))) rfl (by decide) hzs ?_ hk
 by_cases hz:slotAt bs vt vo=0
 ·have h0:=own.zero hz
  subst h0
  refine Or.inl ⟨fun R h=>hf (QfA u1 ht) hv Qg rfl hne (fun _=>h) (fun h1=>absurd hz h1),fun G'=>Or.inl ⟨rfl,?_,?_,rfl⟩⟩
  ·simp[Qh8]
  ·simp[rdU]
 ·obtain ⟨h0,q1,_,q2,q3⟩:=own.got hz
  have u2:=us.push (.cells #[bsl B 0 bs.length bs.length,.int .u32 (tgt bs (pos+slotAt bs vt vo):Nat)] 208)
  refine Or.inr ⟨#[bsl B 0 bs.length bs.length,.int .u32 (tgt bs (pos+slotAt bs vt vo):Nat)],u8n ty,rfl,fun R h=>hf (QfA u1 ht) hv Qg rfl hne (fun h1=>absurd h1 hz) (fun _=>⟨q1,q2,by rw[YJ];exact h⟩),fun R h=>?_,fun R h=>hun u2.ext.inn (hB.mono us.ext.le) hK h0 h3 (QfA u2 ht).u8 ht.lt q2 q3 h⟩
  exact hty (QfA u2 ht) hv oty h
end Go.Proofs
namespace Go.Proofs
open Go Go.Vc
open Tryz (prog)
theorem byte1_at {bs:List UInt8} {p:Nat} {b:UInt8} (h:Yk bs p [b]):byteN bs p=b.toNat:=by
 have:=h.byte (i:=0) (by simp)
 rw[Nat.add_zero]at this
 rw[this];simp[byteN,List.getD]
theorem unp_fin {zs:List Value} {T:TypeId} {G0:Cut} {H0:Qe} {q:Nat} {G:Cut} {H:Qe} {done cells:List Value} (us:US zs T G0 H0 q G H done) (he:done=cells):US zs T G0 H0 q G H cells:=he▸us
theorem objPtr {F:Cut} {v:Value} {c:Array Value} (h:YR F v c):∃a,v= .pointer (some a):=by
 obtain ⟨q,_,h,_⟩:=h
 exact ⟨_,h⟩
set_option maxHeartbeats 2000000 in
theorem unpTo_ok {d:Qbg} {tables enemy test uniq amb:List Mon} (hT:∀k∈tables,Qh3 k) (hE:∀k∈enemy,Qh3 k) (hU:∀k∈test,Qh3 k) (hQ:∀k∈uniq,Qh3 k) (hA:∀k∈amb,Qh3 k) (y1:d.testTy<=3) (y2:d.uniqTy<=3) (y3:d.ambTy<=3)
  {A p B pos vt q:Nat} {bs:List UInt8} {G0:Cut} {H0 H:Qe} (ht:Tab H0 p B bs pos) (hB:BufG G0 B bs) (own:OwnW A bs pos vt d)
  (sT:Q6 A bs pos vt 26 (tables=[]) (Qb6 (fun A bs t=>VecPW 4 tables.length A bs t/\RwL tables A bs (t+4)))) (sE:Q6 A bs pos vt 28 (enemy=[]) (Qb6 (Rw1 enemy))) (sU:Q6 A bs pos vt 20 (d.testTy=0) (Qb6 (UnW false d.testTy d.testColor (Rw1 test)))) (sQ:Q6 A bs pos vt 92 (d.uniqTy=0) (Qb6 (UnW false d.uniqTy d.uniqColor (Rw1 uniq)))) (sA:Q6 A bs pos vt 96 (d.ambTy=0) (Qb6 (UnW true d.ambTy d.ambColor (Rw1 amb))))
  (us:US z154.toList 154 G0 H0 q G0 H []) {R:Kn}
  (hR:∀G' H' c,US z154.toList 154 G0 H0 q G' H' (oCells (rwD d) c).reverse->OD G' (rwD d) d.pos.toList d.empty.toList c->(∃vs:List Value,SlV G' 1 c.tables (vs.map fun x=>[x])/\QiZ (rwMs tables) G' vs)->((rw1 enemy=[]/\c.enemy= .pointer none)\/QdB (rw1 enemy) G' c.enemy)->
   UniO false d.testTy (Qh8 false d.testTy d.testColor) (rdU false d.testTy (rw1 test)=[]) (QdB (rdU false d.testTy (rw1 test))) G' c.test->UniO false d.uniqTy (Qh8 false d.uniqTy d.uniqColor) (rdU false d.uniqTy (rw1 uniq)=[]) (QdB (rdU false d.uniqTy (rw1 uniq))) G' c.uniq->UniO true d.ambTy (Qh8 true d.ambTy d.ambColor) (rdU true d.ambTy (rw1 amb)=[]) (QdB (rdU true d.ambTy (rw1 amb))) G' c.amb->R (.tuple #[]) H'):
  FnS prog 176 #[ptr p,ptr q] H R:=by
 have hv:=own.tab
 have hlt:=ht.lt
 apply w176
 unfold s176
 refine up_opt us ht (l:=d.pos.toList) VecO (fun H' R h=>up_nil w299 (by kernel_rfl) h) (by
  by_cases hz:slotAt bs vt 4=0
  ·exact Or.inl ⟨by rw[own.pos0.zero hz];rfl,fun H' R t h=>Qcd t hv (fun _=>h) (fun h1=>absurd hz h1)⟩
  ·obtain ⟨hn,hq⟩:=own.pos0.got hz
   cases hp:d.pos with
   |none=>exact absurd hp hn
   |some v=>
    rw[hp]at hq
    have hq:Yk bs (pos+slotAt bs vt 4) (QgU v):=hq
    have hby:Yk bs (pos+slotAt bs vt 4) (QgU v):=hq
    have e0:=(vec3_at hby).1
    exact Or.inr ⟨v,pos+slotAt bs vt 4,_,rfl,by omega,fun H' R t h=>Qcd t hv (fun h0=>absurd h0 hz) (fun _=>⟨by omega,h⟩),fun G' H' p' R t le hG h=>Qhw t hby hG fun G2 H2 x e h1 h2=>h G2 H2 x e h1 (by obtain ⟨_,h3,_⟩:=h2;exact objPtr h3) h2⟩) rfl (ltb rfl) fun G0 H0 c0 u0 le0 v0=>?_
 refine QcF u0 ht (fun H' R t h=>QbN t hv own.mana h) rfl (ltb rfl) rfl fun H1 u1=>?_
 refine QcF u1 ht (fun H' R t h=>Qbc t hv own.hp h) rfl (ltb rfl) rfl fun H2 u2=>?_
 obtain ⟨n1,n2⟩:=own.name.there
 obtain ⟨n3,n4⟩:=QhO.at n2
 refine ZK (QfA u2 ht) hv (fun h=>absurd h n1) (fun _=>⟨_,n3,?_⟩)
 refine (QfA u2 ht).str n4 rfl ?_
 refine u2.put rfl (ltb rfl) rfl fun H3 u3 _=>?_
 refine up_bytes u3 ht QdA hv own.inventory hB rfl (ltb rfl) fun H4 c4 u4 v4=>?_
 refine QcF u4 ht (fun H' R t h=>Zl t hv own.color h) rfl (ltb rfl) rfl fun H5 u5=>?_
 refine up_union u5 ht hv QdH Qcg Any_UnPack own.testTy sU hB hU y1 rfl rfl fun G6 H6 c6 u6 le6 v6=>?_
 obtain ⟨a7,f7,i7⟩:=own.test4.vecW (QR (fun t:Qbf=>Qax t.a.toNat t.b.toNat))
 rw[List.length_map]at f7
 have b7:=fun (i:Nat) a (ha:d.test4[i]?=some a)=>testB_at (i7 i _ (by rw[List.getElem?_map,ha];rfl))
 refine up_obj u6 ht rfl (ltb rfl) rfl (by decide) rfl (by decide) d.test4 (ItP Yg) ItP.mono (fun i=>a7+4*i) (by have:=QdU.n_le f7 (by decide);omega) (fun H' R t h=>Qbj t hv f7 h) (fun i a H' R t ha=>⟨by have:=(b7 i a ha).1;omega,fun q' hq h=>Qdr t hv f7 (Qo ha) hq rfl h⟩) (fun i a G' H' p' ha t le hG R h=>Qc6 (A:=0) t (b7 i a ha) hG h) fun G7 H7 c7 u7 le7 v7=>?_
 obtain ⟨a8,f8,i8⟩:=own.strings.vecTW
 refine up_text u7 ht rfl (ltb rfl) rfl (by decide) d.strings (by have:=QdU.n_le f8 (by decide);omega) (fun H' R t h=>Z9 t hv f8 h) (fun i a H' R t ha h=>Qag t hv f8 (Qo ha) (QhO.at (i8 i a ha)).1 (h _ _ _ (QhO.at (i8 i a ha)).2 rfl)) fun G8 H8 c8 u8 le8 v8=>?_
 obtain ⟨a9,f9,i9⟩:∃at_,QdU 4 bs pos vt 26 tables.length at_/\∀(i:Nat) a,tables[i]?=some a->Qb6 (RwM a) A bs (at_+4*i):=by
  rcases sT with ⟨h1,h2⟩|⟨h1,_,h3⟩
  ·subst h2
   exact ⟨0,Or.inl ⟨h1,rfl⟩,fun i x h=>by simp at h⟩
  ·obtain ⟨q1,q2,q3,⟨v1,v4⟩,q5⟩:=h3
   exact ⟨tgt bs (pos+slotAt bs vt 26)+4,Or.inr ⟨h1,q1,rfl,v4,v1,by omega⟩,RwL_get tables q5⟩
 refine up_obj u8 ht rfl (ltb rfl) rfl (by decide) rfl (by decide) tables (fun m=>ObjM (rwM m)) (fun m=>ObjM.mono _) (fun i=>tgt bs (a9+4*i)) (by have:=QdU.n_le f9 (by decide);omega) (fun H' R t h=>Z7 t hv f9 h) (fun i a H' R t ha=>⟨(i9 i a ha).2.2.1,fun q' hq h=>Qad t hv f9 (Qo ha) (i9 i a ha).1 (i9 i a ha).2.2.1 hq rfl h⟩) (fun i a G' H' p' ha t le hG R h=>hT a (List.mem_of_getElem? ha) A p' B _ bs G' H' R t (hB.mono le) hG (i9 i a ha).2.2.2 fun v H2 G2 e h1 h2=>h G2 H2 v e h1 h2) fun G9 H9 c9 u9 le9 v9=>?_
 refine up_opt u9 ht (l:=rw1 enemy) ObjM (fun H' R h=>up_nil w42 (by kernel_rfl) h) (by
  by_cases hz:slotAt bs vt 28=0
  ·exact Or.inl ⟨by rw[sE.zero hz,rw1],fun H' R t h=>Qbt t hv (fun _=>h) (fun h1=>absurd hz h1)⟩
  ·obtain ⟨hn,q1,_,q2',q3'⟩:=sE.got hz
   cases enemy with
   |nil=>exact absurd rfl hn
   |cons m ms=>
    rw[Rw1]at q3'
    exact Or.inr ⟨rwM m,tgt bs (pos+slotAt bs vt 28),_,by rw[rw1],q2',fun H' R t h=>Qbt t hv (fun h0=>absurd h0 hz) (fun _=>⟨q1,q2',h⟩),fun G' H' p' R t le hG h=>hE m List.mem_cons_self A p' B _ bs G' H' R t (hB.mono le) hG q3' fun v H2 G2 e h1 h2=>h G2 H2 v e h1 (by obtain ⟨a,h3⟩:=h2.ptr;exact ⟨_,h3⟩) h2⟩) rfl (ltb rfl) fun G10 H10 c10 u10 le10 v10=>?_
 refine up_bytes u10 ht Qb4 hv own.nested hB rfl (ltb rfl) fun H11 c11 u11 v11=>?_
 refine up_opt u11 ht (l:=d.empty.toList) (ItP Y3) (fun H' R h=>up_nil w304 (by kernel_rfl) h) (by
  by_cases hz:slotAt bs vt 32=0
  ·exact Or.inl ⟨by rw[own.empty.zero hz];rfl,fun H' R t h=>Qaj t hv (fun _=>h) (fun h1=>absurd hz h1)⟩
  ·obtain ⟨hn,q1,_,q2',q3'⟩:=own.empty.got hz
   cases hp:d.empty with
   |none=>exact absurd hp hn
   |some s=>exact Or.inr ⟨s,tgt bs (pos+slotAt bs vt 32),_,rfl,q2',fun H' R t h=>Qaj t hv (fun h0=>absurd h0 hz) (fun _=>⟨q1,q2',h⟩),fun G' H' p' R t le hG h=>Qhy t (q3' s hp) hG fun G2 H2 x e h1 h2=>h G2 H2 x e h1 (objPtr h2) h2⟩) rfl (ltb rfl) fun G12 H12 c12 u12 le12 v12=>?_
 refine QcF u12 ht (v:=.bool d.bool) (fun H' R t h=>Yz t hv own.bool (by rw[Qfy];exact h)) rfl (ltb rfl) rfl fun H13 u13=>?_
 refine QcF u13 ht (fun H' R t h=>QX t hv own.s32 h) rfl (ltb rfl) rfl fun H14 u14=>?_
 refine QcF u14 ht (fun H' R t h=>QS t hv own.u32 h) rfl (ltb rfl) rfl fun H15 u15=>?_
 refine QcF u15 ht (fun H' R t h=>QI t hv own.s64 h) rfl (ltb rfl) rfl fun H16 u16=>?_
 refine QcF u16 ht (fun H' R t h=>QD t hv own.u64 h) rfl (ltb rfl) rfl fun H17 u17=>?_
 refine QcF u17 ht (fun H' R t h=>Q9 t hv own.s32a h) rfl (ltb rfl) rfl fun H18 u18=>?_
 refine QcF u18 ht (fun H' R t h=>Q7 t hv own.u32a h) rfl (ltb rfl) rfl fun H19 u19=>?_
 refine QcF u19 ht (fun H' R t h=>Q4 t hv own.s64a h) rfl (ltb rfl) rfl fun H20 u20=>?_
 refine QcF u20 ht (fun H' R t h=>Q2 t hv own.u64a h) rfl (ltb rfl) rfl fun H21 u21=>?_
 obtain ⟨a22,f22,i22⟩:=own.bools.vecW (QR (fun b:Bool=>(rfl:(Qem b).length=1)) (l:=d.bools))
 rw[List.length_map]at f22
 refine QhE u21 ht rfl (ltb rfl) rfl (by decide) d.bools (fun b=>.bool b) Qi9 (fun _=>rfl) (fun _=>rfl) (by have:=QdU.n_le f22 (by decide);omega) (fun H' R t h=>ZD t hv f22 h) (fun i a H' R t ha h=>Qal t hv f22 (Qo ha) (by rw[bool_at (i22 i _ (by rw[List.getElem?_map,ha];rfl))];exact h)) fun G22 H22 c22 u22 le22 v22=>?_
 refine QcF u22 ht (fun H' R t h=>QJ t hv own.f h) rfl (ltb rfl) rfl fun H23 u23=>?_
 refine QcF u23 ht (fun H' R t h=>QC t hv own.f2 h) rfl (ltb rfl) rfl fun H24 u24=>?_
 refine QcF u24 ht (fun H' R t h=>QA t hv own.f3 h) rfl (ltb rfl) rfl fun H25 u25=>?_
 obtain ⟨a26,f26,i26⟩:=own.strings2.vecTW
 refine up_text u25 ht rfl (ltb rfl) rfl (by decide) d.strings2 (by have:=QdU.n_le f26 (by decide);omega) (fun H' R t h=>Z6 t hv f26 h) (fun i a H' R t ha h=>Qa4 t hv f26 (Qo ha) (QhO.at (i26 i a ha)).1 (h _ _ _ (QhO.at (i26 i a ha)).2 rfl)) fun G26 H26 c26 u26 le26 v26=>?_
 obtain ⟨a27,f27,i27⟩:=own.abilities.vecW (QR (fun t:Qe7=>Qbi t.id.toNat t.dist.toNat))
 rw[List.length_map]at f27
 have b27:=fun (i:Nat) a (ha:d.abilities[i]?=some a)=>abilB_at (i27 i _ (by rw[List.getElem?_map,ha];rfl))
 refine up_obj u26 ht rfl (ltb rfl) rfl (by decide) rfl (by decide) d.abilities (ItP Ze) ItP.mono (fun i=>a27+8*i) (by have:=QdU.n_le f27 (by decide);omega) (fun H' R t h=>Zk t hv f27 h) (fun i a H' R t ha=>⟨by have:=(b27 i a ha).1;omega,fun q' hq h=>Z8 t hv f27 (Qo ha) hq rfl h⟩) (fun i a G' H' p' ha t le hG R h=>Qge (A:=0) t (b27 i a ha) hG h) fun G27 H27 c27 u27 le27 v27=>?_
 refine up_bytes u27 ht QeM hv own.flex hB rfl (ltb rfl) fun H28 c28 u28 v28=>?_
 obtain ⟨a29,f29,i29⟩:=own.test5.vecW (QR (fun t:Qbf=>Qax t.a.toNat t.b.toNat))
 rw[List.length_map]at f29
 have b29:=fun (i:Nat) a (ha:d.test5[i]?=some a)=>testB_at (i29 i _ (by rw[List.getElem?_map,ha];rfl))
 refine up_obj u28 ht rfl (ltb rfl) rfl (by decide) rfl (by decide) d.test5 (ItP Yg) ItP.mono (fun i=>a29+4*i) (by have:=QdU.n_le f29 (by decide);omega) (fun H' R t h=>Qbm t hv f29 h) (fun i a H' R t ha=>⟨by have:=(b29 i a ha).1;omega,fun q' hq h=>Qdv t hv f29 (Qo ha) hq rfl h⟩) (fun i a G' H' p' ha t le hG R h=>Qc6 (A:=0) t (b29 i a ha) hG h) fun G29 H29 c29 u29 le29 v29=>?_
 obtain ⟨a30,f30,i30⟩:=own.longs.vecW (QR (fun x=>Qf _ _))
 rw[List.length_map]at f30
 refine QhE u29 ht rfl (ltb rfl) rfl (by decide) d.longs (fun x=>Qdi x) i64I (fun _=>rfl) (fun _=>rfl) (by have:=QdU.n_le f30 (by decide);omega) (fun H' R t h=>ZU t hv f30 h) (fun i a H' R t ha h=>QaS t hv f30 (Qo ha) (by rw[QeS (i30 i _ (by rw[List.getElem?_map,ha];rfl))];exact h)) fun G30 H30 c30 u30 le30 v30=>?_
 obtain ⟨a31,f31,i31⟩:=own.doubles.vecW (QR (fun x=>Qf _ _))
 rw[List.length_map]at f31
 refine QhE u30 ht rfl (ltb rfl) rfl (by decide) d.doubles (fun x=>f64V x) f64I (fun _=>rfl) (fun _=>rfl) (by have:=QdU.n_le f31 (by decide);omega) (fun H' R t h=>ZJ t hv f31 h) (fun i a H' R t ha h=>Qau t hv f31 (Qo ha) (by rw[QeS (i31 i _ (by rw[List.getElem?_map,ha];rfl))];exact h)) fun G31 H31 c31 u31 le31 v31=>?_
 refine up_opt u31 ht (l:=(if d.parent then [()] else [])) (fun _ _ _=>True) (fun H' R h=>up_nil w307 (by kernel_rfl) h) (by
  by_cases hz:slotAt bs vt 72=0
  ·exact Or.inl ⟨by rw[own.parent.zero hz];rfl,fun H' R t h=>Zg t hv (fun _=>h) (fun h1=>absurd hz h1)⟩
  ·obtain ⟨hn,q1,_,q2',q3'⟩:=own.parent.got hz
   cases hp:d.parent with
   |false=>exact absurd hp hn
   |true=>exact Or.inr ⟨(),tgt bs (pos+slotAt bs vt 72),_,rfl,q2',fun H' R t h=>Zg t hv (fun h0=>absurd h0 hz) (fun _=>⟨q1,q2',h⟩),fun G' H' p' R t le hG h=>Qh6 (A:=0) t trivial hG fun G2 H2 x e h1 h2=>h G2 H2 x e h1 (objPtr h2) trivial⟩) rfl (ltb rfl) fun G32 H32 c32 u32 le32 v32=>?_
 obtain ⟨a33,f33,i33⟩:=own.refs.vecTW
 refine up_obj u32 ht rfl (ltb rfl) rfl (by decide) rfl (by decide) d.refs (ItP Qbb) ItP.mono (fun i=>tgt bs (a33+4*i)) (by have:=QdU.n_le f33 (by decide);omega) (fun H' R t h=>Zz t hv f33 h) (fun i a H' R t ha=>⟨(i33 i a ha).2.2.1,fun q' hq h=>ZZ t hv f33 (Qo ha) (i33 i a ha).1 (i33 i a ha).2.2.1 hq rfl h⟩) (fun i a G' H' p' ha t le hG R h=>QbS t (i33 i a ha).2.2.2 hG h) fun G33 H33 c33 u33 le33 v33=>?_
 refine QcF u33 ht (fun H' R t h=>Qp t hv own.singleWeak h) rfl (ltb rfl) rfl fun H34 u34=>?_
 obtain ⟨a35,f35,i35⟩:=own.weak.vecW (QR (fun x=>Qf _ _))
 rw[List.length_map]at f35
 refine QhE u34 ht rfl (ltb rfl) rfl (by decide) d.weak (fun x=>YY x) Qbb (fun _=>rfl) (fun _=>rfl) (by have:=QdU.n_le f35 (by decide);omega) (fun H' R t h=>Zn t hv f35 h) (fun i a H' R t ha h=>ZE t hv f35 (Qo ha) (by rw[QeS (i35 i _ (by rw[List.getElem?_map,ha];rfl))];exact h)) fun G35 H35 c35 u35 le35 v35=>?_
 obtain ⟨a36,f36,i36⟩:=own.strong.vecTW
 refine up_obj u35 ht rfl (ltb rfl) rfl (by decide) rfl (by decide) d.strong (ItP Qbb) ItP.mono (fun i=>tgt bs (a36+4*i)) (by have:=QdU.n_le f36 (by decide);omega) (fun H' R t h=>Zc t hv f36 h) (fun i a H' R t ha=>⟨(i36 i a ha).2.2.1,fun q' hq h=>Z1 t hv f36 (Qo ha) (i36 i a ha).1 (i36 i a ha).2.2.1 hq rfl h⟩) (fun i a G' H' p' ha t le hG R h=>QbS t (i36 i a ha).2.2.2 hG h) fun G36 H36 c36 u36 le36 v36=>?_
 refine QcF u36 ht (fun H' R t h=>Qq t hv own.coOwning h) rfl (ltb rfl) rfl fun H37 u37=>?_
 obtain ⟨a38,f38,i38⟩:=own.coOwnings.vecW (QR (fun x=>Qf _ _))
 rw[List.length_map]at f38
 refine QhE u37 ht rfl (ltb rfl) rfl (by decide) d.coOwnings (fun x=>YY x) Qbb (fun _=>rfl) (fun _=>rfl) (by have:=QdU.n_le f38 (by decide);omega) (fun H' R t h=>YW t hv f38 h) (fun i a H' R t ha h=>Zu t hv f38 (Qo ha) (by rw[QeS (i38 i _ (by rw[List.getElem?_map,ha];rfl))];exact h)) fun G38 H38 c38 u38 le38 v38=>?_
 refine QcF u38 ht (fun H' R t h=>Qn t hv own.nonOwning h) rfl (ltb rfl) rfl fun H39 u39=>?_
 obtain ⟨a40,f40,i40⟩:=own.nonOwnings.vecW (QR (fun x=>Qf _ _))
 rw[List.length_map]at f40
 refine QhE u39 ht rfl (ltb rfl) rfl (by decide) d.nonOwnings (fun x=>YY x) Qbb (fun _=>rfl) (fun _=>rfl) (by have:=QdU.n_le f40 (by decide);omega) (fun H' R t h=>YO t hv f40 h) (fun i a H' R t ha h=>Zq t hv f40 (Qo ha) (by rw[QeS (i40 i _ (by rw[List.getElem?_map,ha];rfl))];exact h)) fun G40 H40 c40 u40 le40 v40=>?_
 refine up_union u40 ht hv Qc3 QaP Unique_UnPack own.uniqTy sQ hB hQ y2 rfl rfl fun G41 H41 c41 u41 le41 v41=>?_
 refine up_union u41 ht hv Qb7 Qam Qjc own.ambTy sA hB hA y3 rfl rfl fun G42 H42 c42 u42 le42 v42=>?_
 obtain ⟨a43,f43,i43⟩:=own.enums.vecW (QR (fun b:UInt8=>(rfl:[b].length=1)) (l:=d.enums))
 rw[List.length_map]at f43
 refine QhE u42 ht rfl (ltb rfl) rfl (by decide) d.enums (fun x=>u8n x) bytI (fun _=>rfl) (fun _=>rfl) (by have:=QdU.n_le f43 (by decide);omega) (fun H' R t h=>ZW t hv f43 h) (fun i a H' R t ha h=>QaU t hv f43 (Qo ha) (by rw[byte1_at (i43 i _ (by rw[List.getElem?_map,ha];rfl))];exact h)) fun G43 H43 c43 u43 le43 v43=>?_
 refine QcF u43 ht (fun H' R t h=>Qv t hv own.signedEnum h) rfl (ltb rfl) rfl fun H44 u44=>?_
 have L42:=le43
 have L41:=Cut.le_trans le42 L42
 have L40:=Cut.le_trans le41 L41
 have L38:=Cut.le_trans le40 L40
 have L36:=Cut.le_trans le38 L38
 have L35:=Cut.le_trans le36 L36
 have L33:=Cut.le_trans le35 L35
 have L32:=Cut.le_trans le33 L33
 have L31:=Cut.le_trans le32 L32
 have L30:=Cut.le_trans le31 L31
 have L29:=Cut.le_trans le30 L30
 have L27:=Cut.le_trans le29 L29
 have L26:=Cut.le_trans le27 L27
 have L22:=Cut.le_trans le26 L26
 have L12:=Cut.le_trans le22 L22
 have L10:=Cut.le_trans le12 L12
 have L9:=Cut.le_trans le10 L10
 have L8:=Cut.le_trans le9 L9
 have L7:=Cut.le_trans le8 L8
 have L6:=Cut.le_trans le7 L7
 have L0:=Cut.le_trans le6 L6
 have uf:=unp_fin u44 (cells:=(oCells (rwD d) ⟨c0,c4,c6,c7,c8,c9,c10,c11,c12,c22,c26,c27,c28,c29,c30,c31,c32,c33,c35,c36,c38,c40,c41,c42,c43⟩).reverse) (by kernel_rfl)
 refine hR G43 H44 ⟨c0,c4,c6,c7,c8,c9,c10,c11,c12,c22,c26,c27,c28,c29,c30,c31,c32,c33,c35,c36,c38,c40,c41,c42,c43⟩ uf ⟨OptO.mono (P:=VecO) (fun _ _ _ _ l h=>VecO.mono l h) L0 v0,v4.mono L0,v7.mono ItP.mono L7,v8.mono L8,v11.mono L10,v12.mono ItP.mono L12,v22.mono L22,v26.mono L26,v27.mono ItP.mono L27,v28.mono L27,v29.mono ItP.mono L29,v30.mono L30,v31.mono L31,?_,v33.mono ItP.mono L33,v35.mono L35,v36.mono ItP.mono L36,v38.mono L38,v40.mono L40,v43⟩ ?_ ?_ (UniO.mono (QdB.mono _) L6 v6) (UniO.mono (QdB.mono _) L41 v41) (UniO.mono (QdB.mono _) L42 v42)
 ·rcases v32 with ⟨h1,h2⟩|⟨x,h1,⟨a,h2⟩,_⟩
  ·refine ⟨none,h2,?_⟩
   cases hp:d.parent with
   |false=>simp[rwD,hp]
   |true=>rw[hp]at h1;cases h1
  ·refine ⟨some a,h2,?_⟩
   cases hp:d.parent with
   |false=>rw[hp]at h1;cases h1
   |true=>simp[rwD,hp]
 ·obtain ⟨vs,h1,h2,h3⟩:=v9
  refine ⟨vs,h1.mono L9,ObjL_of (by rw[h2,QgQ,List.length_map]) fun j x g hx hg=>?_⟩
  rw[QgQ,List.getElem?_map]at hg
  cases ha:tables[j]? with
  |none=>rw[ha]at hg;cases hg
  |some a=>
   rw[ha]at hg
   have:rwM a=g:=Option.some.inj hg
   subst this
   exact ObjM.mono _ _ _ _ L9 (h3 j x a hx ha)
 ·rcases v10 with h|⟨x,h1,_,h2⟩
  ·exact Or.inl h
  ·refine Or.inr ?_
   rw[h1,QdB]
   exact ⟨rfl,ObjM.mono _ _ _ _ L10 h2⟩
theorem unpStep {d:Qbg} {tables enemy test uniq amb:List Mon} (hT:∀k∈tables,Qh3 k) (hE:∀k∈enemy,Qh3 k) (hU:∀k∈test,Qh3 k) (hQ:∀k∈uniq,Qh3 k) (hA:∀k∈amb,Qh3 k) (y1:d.testTy<=3) (y2:d.uniqTy<=3) (y3:d.ambTy<=3):Qh3 (.mk d tables enemy test uniq amb):=by
 intro A p B pos bs G H R ht hB hG hrd hR
 rw[RwM]at hrd
 obtain ⟨vt,own,sT,sE,sU,sQ,sA⟩:=hrd
 refine up_of w42 (by kernel_rfl) hG (fun F l=>∃c,l=oCells (rwD d) c/\OD F (rwD d) d.pos.toList d.empty.toList c/\(∃vs:List Value,SlV F 1 c.tables (vs.map fun x=>[x])/\QiZ (rwMs tables) F vs)/\((rw1 enemy=[]/\c.enemy= .pointer none)\/QdB (rw1 enemy) F c.enemy)/\
   UniO false d.testTy (Qh8 false d.testTy d.testColor) (rdU false d.testTy (rw1 test)=[]) (QdB (rdU false d.testTy (rw1 test))) F c.test/\UniO false d.uniqTy (Qh8 false d.uniqTy d.uniqColor) (rdU false d.uniqTy (rw1 uniq)=[]) (QdB (rdU false d.uniqTy (rw1 uniq))) F c.uniq/\UniO true d.ambTy (Qh8 true d.ambTy d.ambColor) (rdU true d.ambTy (rw1 amb)=[]) (QdB (rdU true d.ambTy (rw1 amb))) F c.amb) ?_ ?_ ?_
 ·rintro F F' l hl ⟨c,h1,h2,⟨vs,h3,h3'⟩,h4,h5,h6,h7⟩
  refine ⟨c,h1,h2.mono hl,⟨vs,h3.mono hl,QiZ.mono _ _ _ _ hl h3'⟩,?_,h5.mono (QdB.mono _) hl,h6.mono (QdB.mono _) hl,h7.mono (QdB.mono _) hl⟩
  rcases h4 with h4|h4
  ·exact Or.inl h4
  ·exact Or.inr (QdB.mono _ _ _ _ hl h4)
 ·intro us R' hR'
  refine unpTo_ok hT hE hU hQ hA y1 y2 y3 ht hB own sT sE sU sQ sA us fun G' H' c u od h1 h2 h3 h4 h5=>hR' G' H' _ u rfl ⟨c,List.reverse_reverse _,od,h1,h2,h3,h4,h5⟩
 ·rintro G' H' v done e h1 o ⟨c,rfl,h2,h3,h4,h5,h6,h7⟩
  refine hR v H' G' e h1 ?_
  rw[rwM,ObjM]
  exact ⟨c,o,h2,h3,h4,h5,h6,h7⟩
mutual
theorem unpack_all:∀m:Mon,TyM m->Qh3 m
 |.mk d tables enemy test uniq amb,h=>by
  rw[TyM]at h
  obtain ⟨h1,h2,h3,h4,h5,h6,h7,h8⟩:=h
  exact unpStep (Qd3 tables h4) (Qd3 enemy h5) (Qd3 test h6) (Qd3 uniq h7) (Qd3 amb h8) h1 h2 h3
theorem Qd3:∀ms:List Mon,TyL ms->∀k∈ms,Qh3 k
 |[],_,k,h=>by simp at h
 |m::ms,hs,k,h=>by
  rw[TyL]at hs
  rcases List.mem_cons.1 h with h|h
  ·rw[h];exact unpack_all m hs.1
  ·exact Qd3 ms hs.2 k h
end
end Go.Proofs
