/- WHAT IS PROVED: the given statement of FnMonsterRead, whatever the input: this is part 13 of 13. No conditions. -/
import Derived.Test.YtihojnnfjoldnaaGreatX12
import Derived.ChangeArms
import Derived.Test.YtihojnnfjoldnaaGreatRows
import Derived.ProofKit
set_option linter.all false
namespace Go.Proofs
open Go Go.Vc
open Tryz (prog)
theorem fill14 (n0 n1 n2 n3 n4 n5 n6 n7 n8 n9 n10 n11 n12 n13:Int):Z7 (ZA z3.toList 14) [(0,1,.int .i64 n0),(1,1,.int .i64 n1),(2,1,.int .i64 n2),(3,1,.int .i64 n3),(4,1,.int .i64 n4),(5,1,.int .i64 n5),(6,1,.int .i64 n6),(7,1,.int .i64 n7),(8,1,.int .i64 n8),(9,1,.int .i64 n9),(10,1,.int .i64 n10),(11,1,.int .i64 n11),(12,1,.int .i64 n12),(13,1,.int .i64 n13)]=
  some [.int .i64 n0,.int .i64 n1,.int .i64 n2,.int .i64 n3,.int .i64 n4,.int .i64 n5,.int .i64 n6,.int .i64 n7,.int .i64 n8,.int .i64 n9,.int .i64 n10,.int .i64 n11,.int .i64 n12,.int .i64 n13]:=by kernel_rfl
theorem fill5 (s0 s1 s2 s3 s4:List UInt8):Z7 (ZA z9.toList 5) [(0,1,YK s0),(1,1,YK s1),(2,1,YK s2),(3,1,YK s3),(4,1,YK s4)]=some [YK s0,YK s1,YK s2,YK s3,YK s4]:=by kernel_rfl
theorem fill2 {v w:Value} (hv:v.oneCell'=true) (hw:w.oneCell'=true):Z7 (ZA z24.toList 2) [(0,1,v),(1,1,w)]=some [v,w]:=by
 have h1:=QgX hv
 have h2:=QgX hw
 unfold Z7
 rw[h1,if_pos ⟨rfl,Nat.le_of_ble_eq_true (by kernel_rfl)⟩]
 unfold Z7
 rw[h2,if_pos ⟨rfl,Nat.le_of_ble_eq_true (by kernel_rfl)⟩]
 unfold Z7
 simp[ZA,z24]
theorem or_lss {P:Program} {t:TypeId} {b:Bool} {v:Value} {n:Int} {H:Qf} (hv:v= .int .i64 n) {K:Kn} (hk:K (.bool (b||decide (n<0))) H):
  Qe (.bool b) false (fun k1=>k1 v H) H fun y1 h1=>Qe (.bool b) false (fun k2=>Ql P .lss t y1 (.int .i64 0) fun x=>k2 x h1) h1 fun y2 h2=>Yj (.bool b) (.bool true) y2 fun y=>K y h2:=by
 subst hv
 cases b
 ·rw[Yy]
  dsimp only
  rw[Yy,Y2]
  dsimp only
  rw[ZM]
  exact hk
 ·rw[Y0,Y0,Yq]
  exact hk
section
variable {H0:Qf} {G:Cut} {H:Qf} {q:Nat} {cells:List Value} {T:TypeId} (o:Yv H0 G H q (.cells cells.toArray T (0,0)))
include o
theorem and_choice {P:Program} {f:FuncId} {i:Nat} {vs:List Value} (hi:(cells.drop i).take 3=vs) (hl:i+3<=cells.length) {xa xq xd:Value} {K:Kn} (hk:FnS P f #[.agg vs.toArray,xa,xq,xd] H fun y h=>Yj (.bool true) y (.bool false) fun z=>K z h):
  Qe (.bool true) true (fun k1=>Qg (ptr q) i fun x=>k1 x H) H fun y1 h1=>Qe (.bool true) true (fun k2=>LdN h1 3 y1 fun x=>k2 x h1) h1 fun y2 h2=>Qe (.bool true) true (fun k3=>k3 xq h2) h2 fun y3 h3=>Qe (.bool true) true (fun k4=>k4 xd h3) h3 fun y4 h4=>
   Qe (.bool true) true (fun k5=>Qa P f #[y2,xa,y3,y4] h4 fun x h=>k5 x h) h4 fun y5 h5=>Yj (.bool true) y5 (.bool false) fun z=>K z h5:=by
 rw[Yf,Qh]
 dsimp only
 rw[Yf,YG (n:=3) (vs:=vs) (by rw[Q9 o.get 3 (by simpa using hl),Nat.add_zero];simpa using hi)]
 dsimp only
 rw[Yf]
 dsimp only
 rw[Yf]
 dsimp only
 rw[Yf]
 exact hk
theorem no_choice {P:Program} {f:FuncId} {i:Nat} {xa xq xd:Value} {K:Kn} (hk:K (.bool false) H):
  Qe (.bool false) true (fun k1=>Qg (ptr q) i fun x=>k1 x H) H fun y1 h1=>Qe (.bool false) true (fun k2=>LdN h1 3 y1 fun x=>k2 x h1) h1 fun y2 h2=>Qe (.bool false) true (fun k3=>k3 xq h2) h2 fun y3 h3=>Qe (.bool false) true (fun k4=>k4 xd h3) h3 fun y4 h4=>
   Qe (.bool false) true (fun k5=>Qa P f #[y2,xa,y3,y4] h4 fun x h=>k5 x h) h4 fun y5 h5=>Yj (.bool false) y5 (.bool false) fun z=>K z h5:=by
 rw[Zo,Zo,Zo,Zo,Zo,ZM]
 exact hk
end
def LensOk (d:QcO) (tables:List GM):Prop:=(d.test4.length<=50/\d.strings.length<=50/\d.bools.length<=50/\d.strings2.length<=50/\d.abilities.length<=50/\d.test5.length<=50/\d.longs.length<=50/\d.doubles.length<=50/\d.refs.length<=50/\d.weak.length<=50/\d.strong.length<=50/\d.coOwnings.length<=50/\d.nonOwnings.length<=50)/\tables.length<=50
set_option maxHeartbeats 1000000 in
set_option maxRecDepth 8000 in
theorem cleanStep {d:QcO} {pos:List Qbb} {empty:List QaX} {tables enemy test uniq amb:List GM} (hT:∀k∈tables,Qe6 k) (hE:∀k∈enemy,Qe6 k) (hU:∀k∈test,Qe6 k) (hQ:∀k∈uniq,Qe6 k) (hA:∀k∈amb,Qe6 k):Qe6 (.mk d pos empty tables enemy test uniq amb):=by
 intro G H cells q n deep R hG hv hq hn hn2 hd hd5 hR
 rw[QaP]at hv
 obtain ⟨c,rfl,g,wT,wE,wU,wQ,wA⟩:=hv
 apply w15
 unfold s15
 rw[QB]
 have e:=Ext.refl hG
 have hne:H.size≠q:=fun h=>by have:=YD hq.get;omega
 have o:=Yv.zero (Yv.fresh e (.cells (Ym d c).toArray 38))
 have e:=e.push (.cells (Ym d c).toArray 38)
 have hq:=hq.push (.cells (Ym d c).toArray 38)
 have kx:KX G q H (H.push (.cells (Ym d c).toArray 38)):=KX.of_ext e
 have e1:=e.inn
 clear e
 simp only[Value.cells]
 generalize H.push (.cells (Ym d c).toArray 38)=H1 at *
 have hst:∀kp:Qf->Prop,StK H1 1 (.pointer (some ⟨q,0,none⟩)) (.int .i64 (n-1)) kp=kp (setB H1 q (left (n-1))):=fun kp=>ZQ hq.get Nat.one_pos (by simp) rfl
 rw[Qd,Qk (v:=.int .i64 n) ((Qu hq.get).trans rfl),Yk,wrap_i64 (by omega) (by omega),Qd,hst]
 clear hst
 have kx:=kx.trans (KX.set e1 hq.out (left (n-1)))
 have o:=o.set_ne hne (left (n-1))
 have hq:=hq.set (left (n-1))
 clear e1
 have hG2:=kx.inn
 generalize setB H1 q (left (n-1))=H2 at *
 obtain ⟨iT,sT,vT⟩:=wT
 obtain ⟨iE,sE,vE⟩:=wE
 have lT:=Za.len vT
 have lE:=Za.len vE
 rw[Qd,Qk (v:=.int .i64 (n-1)) ((Qu hq.get).trans rfl),Y2]
 refine or_lss rfl ?_
 refine or_len o (i:=0) (v:=c.pos) rfl (fun k=>g.pos.len) ?_
 refine or_len o (i:=12) (v:=c.enemy) rfl (fun k=>sE.len) ?_
 refine or_len o (i:=14) (v:=c.empty) rfl (fun k=>g.empty.len) ?_
 refine ZF (fun _=>hR H2 (n-1) false kx hq.get (fun h=>by cases h)) fun hb=>?_
 simp only[Bool.or_eq_false_iff,decide_eq_false_iff_not,List.length_map]at hb
 obtain ⟨⟨⟨⟨b1,b2⟩,b3⟩,b4⟩,b5⟩:=hb
 have b4:enemy.length<=1:=by omega
 have b3:pos.length<=1:=by omega
 have b5:empty.length<=1:=by omega
 have hF:∀h,Ext G H2 G h->R (.bool false) h:=fun h e=>hR h (n-1) false (kx.trans (KX.of_ext e)) (e.keep _ _ hq.get) (fun h=>by cases h)
 have e:=Ext.refl hG2
 refine QK (fun _ h=>Ext G H2 G h/\LensOk d tables) ?_ ?_
 ·refine Q3 o (i:=9) (v:=c.test4) rfl ?_
  rw[g.test4.len]
  refine Q3 o (i:=10) (v:=c.strings) rfl ?_
  rw[g.strings.len]
  refine Q3 o (i:=11) (v:=c.tables) rfl ?_
  rw[sT.len]
  refine Q3 o (i:=24) (v:=c.bools) rfl ?_
  rw[g.bools.len]
  refine Q3 o (i:=28) (v:=c.strings2) rfl ?_
  rw[g.strings2.len]
  refine Q3 o (i:=29) (v:=c.abil) rfl ?_
  rw[g.abil.len]
  refine Q3 o (i:=31) (v:=c.test5) rfl ?_
  rw[g.test5.len]
  refine Q3 o (i:=32) (v:=c.longs) rfl ?_
  rw[g.longs.len]
  refine Q3 o (i:=33) (v:=c.doubles) rfl ?_
  rw[g.doubles.len]
  refine Q3 o (i:=35) (v:=c.refs) rfl ?_
  rw[g.refs.len]
  refine Q3 o (i:=37) (v:=c.weak) rfl ?_
  rw[g.weak.len]
  refine Q3 o (i:=38) (v:=c.strong) rfl ?_
  rw[g.strong.len]
  refine Q3 o (i:=40) (v:=c.coOwnings) rfl ?_
  rw[g.coOwnings.len]
  refine Q3 o (i:=42) (v:=c.nonOwnings) rfl ?_
  rw[g.nonOwnings.len]
  unfold Ya
  simp only[fill14]
  refine lens_loop (ns:=[(d.test4.map Yu).length,(d.strings.map Qg0).length,iT.length,(d.bools.map Qif).length,(d.strings2.map Qg0).length,(d.abilities.map Zs).length,(d.test5.map Yu).length,(d.longs.map i64I).length,(d.doubles.map Qdf).length,(d.refs.map Qdf).length,(d.weak.map Qdf).length,(d.strong.map Qdf).length,(d.coOwnings.map Qdf).length,(d.nonOwnings.map Qdf).length]) Qp rfl (Nat.le_of_ble_eq_true rfl) (hF _ (e.push _)) ?_
  intro y hall
  refine ⟨e.push _,?_⟩
  simp only[List.mem_cons,List.not_mem_nil,or_false,forall_eq_or_imp,forall_eq,List.length_map,<-lT]at hall
  obtain ⟨h1,h2,h3,h4,h5,h6,h7,h8,h9,h10,h11,h12,h13,h14⟩:=hall
  exact ⟨⟨h1,h2,h4,h5,h6,h7,h8,h9,h10,h11,h12,h13,h14⟩,h3⟩
 rintro y1 h ⟨e,hlens⟩
 have o':=o.ext e
 refine Q3 o' (i:=3) (v:=YK d.name) rfl ?_
 refine Q3 o' (i:=4) (v:=YK d.inventory) rfl ?_
 refine Q3 o' (i:=13) (v:=YK d.nested) rfl ?_
 refine Q3 o' (i:=30) (v:=YK d.flex) rfl ?_
 refine Q3 o' (i:=49) (v:=YK d.enums) rfl ?_
 refine Q3 o' (i:=10) (v:=c.strings) rfl ?_
 refine Q3 o' (i:=28) (v:=c.strings2) rfl ?_
 unfold Ya
 simp only[fill5]
 refine Q8 (QaB.push _ _).ext ?_
 have e5:=e.push (.cells [YK d.name,YK d.inventory,YK d.nested,YK d.flex,YK d.enums].toArray 9)
 have o5:=Yv.fresh e (.cells [YK d.name,YK d.inventory,YK d.nested,YK d.flex,YK d.enums].toArray 9)
 have hone:∀{l:List (List UInt8)},∀x∈l.map Qg0,∀y∈x,y.oneCell'=true:=fun x hx y hy=>by
  obtain ⟨s,_,rfl⟩:=List.mem_map.1 hx
  simp[Qg0]at hy
  rw[hy];rfl
 have hst:d.strings.length<=50:=hlens.1.2.1
 have hst2:d.strings2.length<=50:=hlens.1.2.2.2.1
 refine appN (items:=[d.name,d.inventory,d.nested,d.flex,d.enums].map Qg0) (es:=1) e5 (fun x hx=>by obtain ⟨s,_,rfl⟩:=List.mem_map.1 hx;rfl) o5 (Nat.le_refl 5) (Nat.le_refl 5) rfl (Nat.le_refl 5) (by simp) g.strings hone (by decide) (by simp only[List.length_map,List.length_cons,List.length_nil];omega) rfl ?_
 intro v6 H6 e6 c6 k6
 refine Q8 (k6 rfl).ext ?_
 clear k6 o5 e5
 obtain ⟨c61,⟨_,c62⟩|⟨b,cc,cs,rfl,own,_,s1,s2,s3,s4,s5⟩⟩:=c6
 ·simp at c62
 refine appN (es:=1) e6 c61 own s1 s2 s3 s4 s5 g.strings2 hone (by decide) (by simp only[List.length_map,List.length_append,List.length_cons,List.length_nil];omega) rfl ?_
 intro v7 H7 e7 c7 _
 rw[<-List.map_append,<-List.map_append]at c7
 clear own s1 s2 s3 s4 s5 c61 e6
 have o7:=o.ext e7
 refine QK (fun vs h=>∃y,vs=[y]/\Ext G H2 G h/\Cur H2 G h 9 1 y ((([d.name,d.inventory,d.nested,d.flex,d.enums]++d.strings++d.strings2)++empty.map fun s=>s.id).map Qg0) (fun _=>False)) ?_ ?_
 ·refine Q3 o7 (i:=14) (v:=c.empty) rfl ?_
  refine emp_loop g.empty b5 e7 c7 (by simp only[List.length_append,List.length_cons,List.length_nil];omega) ?_
  exact fun y h e c=>⟨y,rfl,e,c⟩
 rintro y8 h8 ⟨y8',hy,e8,c8⟩
 cases hy
 obtain ⟨G8,e8',sl8,_,_⟩:=c8.done e8
 refine QK (fun _ h=>Ext G H2 G h/\∀s∈(([d.name,d.inventory,d.nested,d.flex,d.enums]++d.strings++d.strings2)++empty.map fun s=>s.id),s.length<=300) ?_ ?_
 ·refine txt_loop e8'.inn sl8 (by simp only[List.length_append,List.length_cons,List.length_nil,List.length_map];omega) (hF _ e8) ?_
  exact fun y hall=>⟨e8,hall⟩
 rintro y9 h9 ⟨e9,htx⟩
 clear c8 sl8 e8' e8 e7 c7 o7 e o'
 have o9:=o.ext e9
 refine QK (fun _ h=>Ext G H2 G h) ?_ ?_
 ·refine Q3 o9 (i:=0) (v:=c.pos) rfl ?_
  exact pos_loop e9.inn g.pos (by omega) (fun h e=>hF _ (e9.trans e)) (fun y h e=>e9.trans e)
 rintro y10 h10 e10
 have o10:=o.ext e10
 clear o9 e9
 have hdb:d.doubles.length<=50:=hlens.1.2.2.2.2.2.2.2.1
 refine QK (fun _ h=>Ext G H2 G h) ?_ ?_
 ·refine Q3 o10 (i:=33) (v:=c.doubles) rfl ?_
  exact dbl_loop e10.inn g.doubles (by omega) (hF _ e10) (fun y=>e10)
 rintro y11 h11 e11
 have o11:=o.ext e11
 clear o10 e10
 refine Q3 o11 (i:=25) (v:=ZK d.f) rfl ?_
 rw[ZK,Qm]
 refine Qh5 (.inl rfl) fun b=>?_
 rw[Yo]
 refine or_flt o11 (.inl rfl) rfl (i:=26) (by rfl) fun b=>?_
 refine or_flt o11 (.inl rfl) rfl (i:=27) (by rfl) fun b=>?_
 refine ZF (fun _=>hF _ e11) fun _=>?_
 have kx:=kx.trans (KX.of_ext e11)
 have hq:=hq.ext e11
 clear e11 hF o
 refine QK (fun _ h=>∃k,KX G q H h/\Yv #[] G h q (left k)/\Yv #[] G h H.size (.cells (Ym d c).toArray 38 (0,0))/\Zf tables/\Zf enemy/\(cntL tables:Int)+cntL enemy+k<=n-1/\0<=k) ?_ ?_
 ·refine Q3 o11 (i:=11) (v:=c.tables) rfl ?_
  refine Q3 o11 (i:=12) (v:=c.enemy) rfl ?_
  simp only[fill2 sT.one sE.one]
  have eb:=(Ext.refl kx.inn).push (.cells [c.tables,c.enemy].toArray 24)
  have ob:=Yv.zero (Yv.fresh (Ext.refl kx.inn) (.cells [c.tables,c.enemy].toArray 24))
  have hbq:h11.size≠q:=fun h=>by have:=YD hq.get;omega
  have kx:=kx.trans (KX.of_ext eb)
  have hq:=hq.ext eb
  have o12:=o11.ext eb
  rw[Qbj]
  generalize h11.push (.cells [c.tables,c.enemy].toArray 24)=H12 at *
  refine ⟨fun m vs h=>∃i k y,vs=[.int .i64 (i:Nat),y]/\i+m=2/\KX G q H h/\Yv #[] G h q (left k)/\Yv #[] G h H.size (.cells (Ym d c).toArray 38 (0,0))/\Yv #[] G h h11.size (.cells [c.tables,c.enemy].toArray 24 (0,0))/\(0<i->Zf tables)/\(1<i->Zf enemy)/\((if 0<i then cntL tables else 0:Nat):Int)+((if 1<i then cntL enemy else 0:Nat):Int)+k<=n-1/\0<=k,⟨2,0,n-1,_,rfl,rfl,kx,hq,o12,ob,by omega,by omega,by simp,by omega⟩,?_⟩
  clear kx hq o12 ob eb
  rintro m x y h ⟨i,k,y',hx,him,kx,hq,o12,ob,ct,ce,hc,hk0⟩
  cases hx
  rw[Y2]
  by_cases hlt:i<2
  ·rw[Q1 (by omega)]
   have hbad:∀h' k',KX G q h h'->h'[q]?=some (left k')->R (.bool false) h':=fun h' k' kx' hq'=>hR h' k' false (kx.trans kx') hq' (fun h=>by cases h)
   refine QK (fun vs h=>∃v y k,vs=[v,y]/\KX G q H h/\Yv #[] G h q (left k)/\Yv #[] G h H.size (.cells (Ym d c).toArray 38 (0,0))/\Yv #[] G h h11.size (.cells [c.tables,c.enemy].toArray 24 (0,0))/\(0<i+1->Zf tables)/\(1<i+1->Zf enemy)/\((if 0<i+1 then cntL tables else 0:Nat):Int)+((if 1<i+1 then cntL enemy else 0:Nat):Int)+k<=n-1/\0<=k) ?_ ?_
   ·rw[QR (by omega) (by omega)]
    obtain rfl|rfl:i=0\/i=1:=by omega
    ·rw[Qk (v:=c.tables) ((Qu ob.get).trans rfl)]
     simp only[if_neg (Nat.lt_irrefl 0),if_neg (show ¬1<0 by decide)]at hc
     refine cl_loop (Hs:=h) ⟨iT,sT,vT⟩ hT hlens.2 (by omega) hd5 (KX.of_ext (Ext.refl kx.inn)) hq hk0 (by omega) hbad ?_
     intro y h' k' kx' hq' cl cn k0
     refine ⟨_,_,k',rfl,kx.trans kx',hq',Yv.kx o12 hne kx',Yv.kx ob hbq kx',fun _=>cl,fun h=>absurd h (by decide),?_,k0⟩
     simp only[if_pos (show 0<0+1 by decide),if_neg (show ¬1<0+1 by decide)]
     omega
    ·rw[Qk (v:=c.enemy) ((Qu ob.get).trans rfl)]
     simp only[if_pos (show 0<1 by decide),if_neg (show ¬1<1 by decide)]at hc
     refine cl_loop (Hs:=h) ⟨iE,sE,vE⟩ hE (by omega) (by omega) hd5 (KX.of_ext (Ext.refl kx.inn)) hq hk0 (by omega) hbad ?_
     intro y h' k' kx' hq' cl cn k0
     refine ⟨_,_,k',rfl,kx.trans kx',hq',Yv.kx o12 hne kx',Yv.kx ob hbq kx',fun _=>ct (by decide),fun _=>cl,?_,k0⟩
     simp only[if_pos (show 0<1+1 by decide),if_pos (show 1<1+1 by decide)]
     omega
   ·rintro v y h' ⟨v',y',k',hvs,kx',hq',o12',ob',ct',ce',hc',hk0'⟩
    rw[Qx,wrap_i64 (by omega) (by omega)]
    exact ⟨m-1,by omega,i+1,k',y,by simp,by omega,kx',hq',o12',ob',ct',ce',hc',hk0'⟩
  ·rw[Q2 (by omega)]
   have:i=2:=by omega
   subst this
   simp only[if_pos (show 0<2 by decide),if_pos (show 1<2 by decide)]at hc
   exact ⟨k,kx,hq,o12,ct (by decide),ce (by decide),hc,hk0⟩
 clear kx hq o11
 rintro y12 h12 ⟨k,kx,hq,o12,ct,ce,hc,hk0⟩
 refine ldn_ok o12 (i:=6) (n:=3) (vs:=[u8n d.testTy,c.test,u8n d.testColor]) rfl (by rw[Y4];decide) ?_
 refine choice_ok kx.inn wU hU hq hk0 (by omega) (by omega) hd5 ?_
 intro h13 k13 b kx13 hq13 hb
 have kx:=kx.trans kx13
 have o13:=Yv.kx o12 hne kx13
 have hF:∀h k,KX G q H h->h[q]?=some (left k)->R (.bool false) h:=fun h' k' kx' hq'=>hR h' k' false kx' hq' (fun h=>by cases h)
 cases b
 ·exact no_choice o13 (no_choice o13 (hF _ _ kx hq13))
 obtain ⟨gU,cU,lU,nU,kU⟩:=hb rfl
 refine and_choice o13 (i:=43) (vs:=[u8n d.uniqTy,c.uniq,u8n d.uniqColor]) rfl (by rw[Y4];decide) ?_
 refine choice_ok kx.inn wQ hQ ⟨hq13,hq.out,Nat.zero_le _⟩ kU (by omega) (by omega) hd5 ?_
 intro h14 k14 b kx14 hq14 hb
 rw[Yq]
 have kx:=kx.trans kx14
 have o14:=Yv.kx o13 hne kx14
 cases b
 ·exact no_choice o14 (hF _ _ kx hq14)
 obtain ⟨gQ,cQ,lQ,nQ,kQ⟩:=hb rfl
 refine and_choice o14 (i:=46) (vs:=[u8n d.ambTy,c.amb,u8n d.ambColor]) rfl (by rw[Y4];decide) ?_
 refine choice_ok kx.inn wA hA ⟨hq14,hq.out,Nat.zero_le _⟩ kQ (by omega) (by omega) hd5 ?_
 intro h15 k15 b kx15 hq15 hb
 rw[Yq]
 have kx:=kx.trans kx15
 cases b
 ·exact hF _ _ kx hq15
 obtain ⟨gA,cA,lA,nA,kA⟩:=hb rfl
 refine hR h15 k15 true kx hq15 fun _=>⟨?_,?_,kA⟩
 ·rw[Qfs]
  refine ⟨⟨b3,b5,hlens.1,?_,fun s hs=>htx s (by simp[hs]),fun s hs=>htx s (by simp[hs]),fun s hs=>htx s.id ?_⟩,⟨hlens.2,b4⟩,⟨gU,gQ,gA⟩,⟨fun h=>cU (.inr h),fun h=>cQ (.inr h),cA (.inl rfl)⟩,ct,ce,lU,lQ,lA⟩
  ·exact ⟨htx _ (by simp),htx _ (by simp),htx _ (by simp),htx _ (by simp),htx _ (by simp)⟩
  ·exact List.mem_append_right _ (List.mem_map.2 ⟨s,hs,rfl⟩)
 ·rw[cntM];omega
mutual
theorem Clean_all:∀g:GM,Qe6 g
 |.mk d pos empty tables enemy test uniq amb=>cleanStep (Qdo tables) (Qdo enemy) (Qdo test) (Qdo uniq) (Qdo amb)
theorem Qdo:∀gs:List GM,∀k∈gs,Qe6 k
 |[],k,h=>by simp at h
 |g::gs,k,h=>by
  rcases List.mem_cons.1 h with h|h
  ·rw[h];exact Clean_all g
  ·exact Qdo gs k h
end
theorem monsterClean_ok {G:Cut} {H:Qf} (hG:G.In H) {g:GM} {cells:List Value} (hv:QaP G g cells) {R:Kn} (hR:∀(b:Bool) H',Ext G H G H'->(b=true->Qfs g/\cntM g<=20)->R (.bool b) H'):FnS prog 5 #[.agg cells.toArray] H R:=by
 apply w5
 unfold s5
 rw[QB,QB]
 have e:=Ext.refl hG
 have o:Yv H G (H.push (.cells (Value.agg cells.toArray).cells 38)) H.size (.cells cells.toArray 38 (0,0)):=Yv.fresh e _
 have e:=e.push (.cells (Value.agg cells.toArray).cells 38)
 generalize H.push (.cells (Value.agg cells.toArray).cells 38)=H1 at *
 have o2:Yv H G (H1.push (.cells z3 3)) H1.size (left 0):=Yv.fresh e _
 have o0:=o
 have o:=o.push (.cells z3 3)
 have hs:H.size<=H1.size:=e.keep.size
 have hne:H.size≠H1.size:=fun h=>by have:=YD o0.get;omega
 have e:=e.push (.cells z3 3)
 generalize H1.push (.cells z3 3)=H2 at *
 have hst:∀kp:Qf->Prop,StK H2 1 (.pointer (some ⟨H1.size,0,none⟩)) (.int .i64 20) kp=kp (setB H2 H1.size (left 20)):=fun kp=>ZQ o2.get Nat.one_pos (by simp) rfl
 rw[hst]
 clear hst
 have e:=e.set o2.out o2.new (left 20)
 have o:=o.set_ne hne (left 20)
 have o2:=o2.set (left 20)
 generalize setB H2 H1.size (left 20)=H3 at *
 rw[YG (n:=51) (vs:=cells) (by rw[Q9 o.get 51 (by simp[hv.len])];simp[<-hv.len])]
 refine Clean_all g G H3 cells H1.size 20 5 _ e.inn hv (Yv.zero o2) (by decide) (by decide) (by decide) (by decide) ?_
 intro H4 k b kx hq hb
 refine hR b H4 ⟨fun b o hbo=>?_,kx.inn,e.le,fun _ _=>rfl⟩ fun h=>?_
 ·exact kx.keep b o (fun h=>by have:=YD hbo;omega) (e.keep b o hbo)
 ·obtain ⟨h1,h2,h3⟩:=hb h
  exact ⟨h1,by omega⟩
end Go.Proofs
namespace Go.Proofs
open Go Go.Vc
open Tryz (prog)
theorem read_single (x:Nat) (hx:x<4294967296):
  (x%2147483648<8388608/\Ieee.single.read x= .number (x/2147483648%2==1) (x%2147483648) (-149))\/
  (8388608<=x%2147483648/\x%2147483648<2139095040/\Ieee.single.read x= .number (x/2147483648%2==1) (8388608+x%2147483648%8388608) (-149+((x%2147483648/8388608-1:Nat):Int)))\/
  (x%2147483648=2139095040/\Ieee.single.read x= .infinity (x/2147483648%2==1))\/Ieee.single.read x= .nan (x/2147483648%2==1) (x%2147483648-2139095040):=by
 have hs:Ieee.single.signWeight=2147483648:=by decide
 have hb:Ieee.single.binade=8388608:=by decide
 have hi:Ieee.single.infRung=2139095040:=by decide
 have hl:Ieee.single.leastPlace=-149:=by decide
 unfold Ieee.Format.read
 rw[hs,hb,hi,hl]
 by_cases h1:x%2147483648<8388608
 ·simp[h1]
 ·by_cases h2:x%2147483648<2139095040
  ·right;left
   exact ⟨by omega,h2,by simp only[if_neg h1,if_pos h2]⟩
  ·by_cases h3:x%2147483648=2139095040
   ·right;right;left
    exact ⟨h3,by simp only[if_neg h1,if_neg h2,if_pos h3]⟩
   ·right;right;right
    simp only[if_neg h1,if_neg h2,if_neg h3]
theorem cmp_int {a b:Int} (h:some (compare a b)=some Ordering.eq):a=b:=by
 have h:compare a b= .eq:=by simpa using h
 exact Std.LawfulEqCmp.eq_of_compare h
theorem pow_two_le {k:Nat} (h:0<k):∃t,0<t/\2^k=2*t:=by
 obtain ⟨j,rfl⟩:∃j,k=j+1:=⟨k-1,by omega⟩
 exact ⟨2^j,Nat.pos_of_ne_zero (by simp),by rw[Nat.pow_succ,Nat.mul_comm]⟩
theorem order_norm {x M E:Nat} (hx:x<4294967296) (hM:8388608<=M) (hM2:M<16777216) (h:(Ieee.single.read x).order (.number false M (-149+(E:Int)))=some .eq):x=(E+1)*8388608+(M-8388608):=by
 rcases read_single x hx with ⟨h1,h2⟩|⟨h1,h2,h3⟩|⟨h1,h2⟩|h1
 ·rw[h2]at h
  have h:=cmp_int h
  have e1:((-149:Int)-min (-149) (-149+(E:Int))).toNat=0:=by omega
  have e2:((-149+(E:Int))-min (-149) (-149+(E:Int))).toNat=E:=by omega
  rw[e1,e2]at h
  simp only[Ieee.signed,Nat.shiftLeft_eq,Nat.pow_zero,Nat.mul_one,Bool.false_eq_true,if_false]at h
  have hE:0<2^E:=Nat.pos_of_ne_zero (by simp)
  have hm:M<=M*2^E:=Nat.le_mul_of_pos_right _ hE
  generalize M*2^E=Z at *
  split at h<;>omega
 ·rw[h3]at h
  have h:=cmp_int h
  generalize hE':x%2147483648/8388608-1=E' at *
  generalize hM':x%2147483648%8388608=M' at *
  have hM'2:M'<8388608:=by omega
  rcases Nat.lt_trichotomy E' E with hlt|heq|hgt
  ·have e1:((-149+(E':Int))-min (-149+(E':Int)) (-149+(E:Int))).toNat=0:=by omega
   have e2:((-149+(E:Int))-min (-149+(E':Int)) (-149+(E:Int))).toNat=E-E':=by omega
   rw[e1,e2]at h
   obtain ⟨t,ht,hp⟩:=pow_two_le (k:=E-E') (by omega)
   simp only[Ieee.signed,Nat.shiftLeft_eq,Nat.pow_zero,Nat.mul_one,Bool.false_eq_true,if_false,hp]at h
   have hm:M*(2*1)<=M*(2*t):=Nat.mul_le_mul_left _ (by omega)
   generalize M*(2*t)=Z at *
   split at h<;>omega
  ·subst heq
   have e1:((-149+(E':Int))-min (-149+(E':Int)) (-149+(E':Int))).toNat=0:=by omega
   rw[e1]at h
   simp only[Ieee.signed,Nat.shiftLeft_eq,Nat.pow_zero,Nat.mul_one,Bool.false_eq_true,if_false]at h
   split at h
   ·omega
   ·rename_i hs
    have:x/2147483648%2≠1:=by simpa using hs
    omega
  ·have e1:((-149+(E':Int))-min (-149+(E':Int)) (-149+(E:Int))).toNat=E'-E:=by omega
   have e2:((-149+(E:Int))-min (-149+(E':Int)) (-149+(E:Int))).toNat=0:=by omega
   rw[e1,e2]at h
   obtain ⟨t,ht,hp⟩:=pow_two_le (k:=E'-E) (by omega)
   simp only[Ieee.signed,Nat.shiftLeft_eq,Nat.pow_zero,Nat.mul_one,Bool.false_eq_true,if_false,hp]at h
   have hm:(8388608+M')*(2*1)<=(8388608+M')*(2*t):=Nat.mul_le_mul_left _ (by omega)
   generalize (8388608+M')*(2*t)=Z at *
   split at h<;>omega
 ·rw[h2]at h
  simp only[Ieee.Datum.order]at h
  split at h<;>cases h
 ·rw[h1]at h
  cases h
theorem order_zero {x:Nat} (hx:x<4294967296) (h:(Ieee.single.read x).order (.number false 0 (-149))=some .eq):x=0\/x=2147483648:=by
 rcases read_single x hx with ⟨h1,h2⟩|⟨h1,h2,h3⟩|⟨h1,h2⟩|h1
 ·rw[h2]at h
  have h:=cmp_int h
  simp only[Ieee.signed,Nat.shiftLeft_eq,Nat.pow_zero,Nat.mul_one,Nat.zero_mul,Bool.false_eq_true,if_false]at h
  have e1:((-149:Int)-min (-149) (-149)).toNat=0:=by omega
  rw[e1]at h
  split at h<;>omega
 ·rw[h3]at h
  have h:=cmp_int h
  generalize hE':x%2147483648/8388608-1=E' at *
  simp only[Ieee.signed,Nat.shiftLeft_eq,Nat.pow_zero,Nat.mul_one,Nat.zero_mul,Bool.false_eq_true,if_false]at h
  generalize hk:((-149+(E':Int))-min (-149+(E':Int)) (-149)).toNat=k at *
  have hE:0<2^k:=Nat.pos_of_ne_zero (by simp)
  have hm:8388608+x%2147483648%8388608<=(8388608+x%2147483648%8388608)*2^k:=Nat.le_mul_of_pos_right _ hE
  generalize (8388608+x%2147483648%8388608)*2^k=Z at *
  split at h<;>omega
 ·rw[h2]at h
  simp only[Ieee.Datum.order]at h
  split at h<;>cases h
 ·rw[h1]at h
  cases h
theorem flU_1 (x:UInt32):flU x 1078530000=x:=by
 unfold flU
 split
 ·rename_i h
  have hr:Ieee.single.read (1078530000:UInt32).toNat= .number false 13176784 (-149+((127:Nat):Int)):=by decide
  have h:(Ieee.single.read x.toNat).order (Ieee.single.read (1078530000:UInt32).toNat)=some .eq:=h
  rw[hr]at h
  have:=order_norm x.toNat_lt (by decide) (by decide) h
  exact UInt32.toNat_inj.1 (by rw[this];decide)
 ·rfl
theorem flU_2 (x:UInt32):flU x 1077936128=x:=by
 unfold flU
 split
 ·rename_i h
  have hr:Ieee.single.read (1077936128:UInt32).toNat= .number false 12582912 (-149+((127:Nat):Int)):=by decide
  have h:(Ieee.single.read x.toNat).order (Ieee.single.read (1077936128:UInt32).toNat)=some .eq:=h
  rw[hr]at h
  have:=order_norm x.toNat_lt (by decide) (by decide) h
  exact UInt32.toNat_inj.1 (by rw[this];decide)
 ·rfl
theorem flU_3 (x:UInt32):flU x 0=negZ x:=by
 unfold flU negZ
 have hr:Ieee.single.read (0:UInt32).toNat= .number false 0 (-149):=by decide
 split
 ·rename_i h
  have h:(Ieee.single.read x.toNat).order (Ieee.single.read (0:UInt32).toNat)=some .eq:=h
  rw[hr]at h
  rcases order_zero x.toNat_lt h with h|h
  ·have:x=0:=UInt32.toNat_inj.1 (by rw[h];rfl)
   rw[this];rfl
  ·have:x=2147483648:=UInt32.toNat_inj.1 (by rw[h];rfl)
   rw[this];rfl
 ·rename_i h
  rw[if_neg]
  intro hx
  subst hx
  exact h (by decide)
mutual
theorem Qfs.small:∀{g:GM},Qfs g->Qcw g
 |.mk d pos empty tables enemy test uniq amb,h=>by
  rw[Qfs]at h
  obtain ⟨h1,⟨h2,h3⟩,⟨h4,h5,h6⟩,_,c1,c2,c3,c4,c5⟩:=h
  rw[Qcw]
  exact ⟨h1,h2,h3,h4,h5,h6,Zf.small c1,Zf.small c2,Zf.small c3,Zf.small c4,Zf.small c5⟩
theorem Zf.small:∀{gs:List GM},Zf gs->Zn gs
 |[],_=>by rw[Zn];trivial
 |g::gs,h=>by
  rw[Zf]at h
  rw[Zn]
  exact ⟨Qfs.small h.1,Zf.small h.2⟩
end
theorem GUn.le {amb:Bool} {ty:UInt8} {n:Nat} (h:GUn amb ty n):n<=1:=by
 rcases h with ⟨_,h⟩|⟨_,⟨_,_,h⟩|⟨_,h⟩⟩<;>omega
mutual
theorem Qcw.len:∀{g:GM},Qcw g->LenM g
 |.mk d pos empty tables enemy test uniq amb,h=>by
  rw[Qcw]at h
  obtain ⟨h1,h2,h3,h4,h5,h6,c1,c2,c3,c4,c5⟩:=h
  obtain ⟨a1,a2,a3,a4,a5,a6,a7,a8,a9,a10,a11,a12,a13⟩:=h1.lists
  have p1:=h1.npos
  have p2:=h1.nempty
  have u1:=h4.le
  have u2:=h5.le
  have u3:=h6.le
  rw[LenM]
  exact ⟨⟨by omega,by omega,a1,a5,a6,h2,by omega,by omega,by omega,by omega⟩,⟨a2,a3,a4,a7,a8,a9,a10,a11,a12,a13⟩,Zn.len c1,Zn.len c2,Zn.len c3,Zn.len c4,Zn.len c5⟩
theorem Zn.len:∀{gs:List GM},Zn gs->QgS gs
 |[],_=>by rw[QgS];trivial
 |g::gs,h=>by
  rw[Zn]at h
  rw[QgS]
  exact ⟨Qcw.len h.1,Zn.len h.2⟩
end
theorem QfX (gs:List GM):(Qbr gs).length=gs.length:=by rw[Qg6,List.length_map]
mutual
theorem read0_LenM:∀{g:GM},LenM g->LenM (Qid g)
 |.mk d pos empty tables enemy test uniq amb,h=>by
  rw[LenM]at h
  obtain ⟨h1,h2,c1,c2,c3,c4,c5⟩:=h
  rw[Qid,LenM]
  simp only[QfX]
  exact ⟨h1,h2,Qdk c1,Qdk c2,Qdk c3,Qdk c4,Qdk c5⟩
theorem Qdk:∀{gs:List GM},QgS gs->QgS (Qbr gs)
 |[],_=>by rw[Qbr,QgS];trivial
 |g::gs,h=>by
  rw[QgS]at h
  rw[Qbr,QgS]
  exact ⟨read0_LenM h.1,Qdk h.2⟩
end
mutual
def NormM:GM->Prop
 |.mk d pos empty tables enemy test uniq amb=>(d.pos=pos.head?/\d.empty=empty.head?)/\Qhp tables/\Qhp enemy/\Qhp test/\Qhp uniq/\Qhp amb
def Qhp:List GM->Prop
 |[]=>True
 |g::gs=>NormM g/\Qhp gs
end
theorem head_toList {α:Type} {l:List α} (h:l.length<=1):l.head?.toList=l:=by
 match l,h with
 |[],_=>rfl
 |[a],_=>rfl
theorem rd1_le:∀{ms:List Mon},ms.length<=1->rd1 ms=rdMs ms
 |[],_=>by rw[rd1,rdMs]
 |[m],_=>by rw[rd1,rdMs,rdMs]
theorem QgW (gs:List GM):(QbL gs).length=gs.length:=by rw[QgM,List.length_map]
theorem colR_clean {ty color:UInt8} (h:ty≠2->color=0):colR false ty color=color:=by
 unfold colR
 split
 ·rfl
 ·rename_i h'
  exact (h fun e=>h' ⟨rfl,e⟩).symm
theorem rdU_clean {amb:Bool} {ty:UInt8} {gs:List GM} (h:GUn amb ty gs.length):rdU amb ty gs=gs:=by
 unfold rdU
 split
 ·rename_i h'
  rcases h with ⟨_,h⟩|⟨h0,⟨_,_,h⟩|⟨h1,h⟩⟩
  ·exact (List.eq_nil_of_length_eq_zero h).symm
  ·exact (List.eq_nil_of_length_eq_zero h).symm
  ·exfalso
   rcases h' with h'|⟨h2,h3⟩
   ·exact h0 h'
   ·rcases h1 with h1|⟨h1,_⟩
    ·rw[h3]at h1;cases h1
    ·rw[h1]at h2;cases h2
 ·rfl
mutual
theorem rd_clean:∀{g:GM},Qfs g->NormM g->rdM (toM g)=Qid g
 |.mk d pos empty tables enemy test uniq amb,h,hn=>by
  rw[Qfs]at h
  obtain ⟨h1,⟨h2,h3⟩,⟨h4,h5,h6⟩,⟨k1,k2,k3⟩,c1,c2,c3,c4,c5⟩:=h
  rw[NormM]at hn
  obtain ⟨⟨n1,n2⟩,m1,m2,m3,m4,m5⟩:=hn
  rw[toM,rdM,Qid,rd1_le (by rw[QgW];exact h3),rd1_le (by rw[QgW];exact h4.le),rd1_le (by rw[QgW];exact h5.le),rd1_le (by rw[QgW];exact h6.le),
   Qel c1 m1,Qel c2 m2,Qel c3 m3,Qel c4 m4,Qel c5 m5,rdU_clean (by rw[QfX];exact h4),rdU_clean (by rw[QfX];exact h5),rdU_clean (by rw[QfX];exact h6)]
  simp only[head_toList h1.npos,head_toList h1.nempty]
  congr 1
  unfold rdD
  simp only[flU_1,flU_2,flU_3,colR_clean k1,colR_clean k2,<-n1,<-n2]
  have:colR true d.ambTy d.ambColor=d.ambColor:=by
   unfold colR
   rw[if_neg (by simp),k3]
  rw[this]
theorem Qel:∀{gs:List GM},Zf gs->Qhp gs->rdMs (QbL gs)=Qbr gs
 |[],_,_=>by rw[QbL,rdMs,Qbr]
 |g::gs,h,hn=>by
  rw[Zf]at h
  rw[Qhp]at hn
  rw[QbL,rdMs,Qbr,rd_clean h.1 hn.1,Qel h.2 hn.2]
end
theorem sum_le {l:List (List UInt8)} (h:∀s∈l,s.length<=300):(l.map List.length).sum<=300*l.length:=by
 induction l with
 |nil=>simp
 |cons a l ih=>
  have:=ih (fun s hs=>h s (List.mem_cons_of_mem _ hs))
  have:=h a List.mem_cons_self
  simp only[List.map_cons,List.sum_cons,List.length_cons]
  omega
mutual
theorem cost_le:∀{g:GM},Qcw g->Qcq (toM g)<=90000*cntM g
 |.mk d pos empty tables enemy test uniq amb,h=>by
  rw[Qcw]at h
  obtain ⟨h1,h2,h3,h4,h5,h6,c1,c2,c3,c4,c5⟩:=h
  obtain ⟨a1,a2,a3,a4,a5,a6,a7,a8,a9,a10,a11,a12,a13⟩:=h1.lists
  obtain ⟨b1,b2,b3,b4,b5⟩:=h1.texts
  have s1:=sum_le h1.strings
  have s2:=sum_le h1.strings2
  have s3:Qhq empty.head?<=300:=by
   cases empty with
   |nil=>exact Nat.zero_le _
   |cons a l=>exact h1.stat a List.mem_cons_self
  have d1:Qhy {d with pos:=pos.head?,empty:=empty.head?}<=80000:=by
   unfold Qhy
   simp only
   omega
  have e1:=QfU c1
  have e2:=QfU c2
  have e3:=QfU c3
  have e4:=QfU c4
  have e5:=QfU c5
  rw[toM,Qcq,cntM,QgW]
  clear s1 s2 s3 a1 a2 a3 a4 a5 a6 a7 a8 a9 a10 a11 a12 a13 b1 b2 b3 b4 b5
  omega
theorem QfU:∀{gs:List GM},Zn gs->ZI (QbL gs)<=90000*cntL gs
 |[],_=>by rw[QbL,ZI,cntL];omega
 |g::gs,h=>by
  rw[Zn]at h
  have e1:=cost_le h.1
  have e2:=QfU h.2
  rw[QbL,ZI,cntL]
  omega
end
end Go.Proofs
namespace Go.Proofs
open Go Go.Vc
open Tryz (prog)
theorem In.keep {G:Cut} {H H':Qf} (h:G.In H) (k:QaB H H'):G.In H':=fun b o hb=>k b o (h b o hb)
theorem pack_facts {g:GM} (hs:Qcw g) (hc:cntM g<=20):Qcq (toM g)<=400000000/\RootRd (ZC (toM g)) (toM g)/\(ZC (toM g)).length<2147483648:=by
 have h1:=cost_le hs
 have h2:=packAll_len (toM g)
 exact ⟨by omega,packAll_rd (WfM_of hs) (by omega),by omega⟩
def orcD:QcO:={pos:=none,mana:=150,hp:=80,name:=[111,114,99],inventory:=[],color:=0,testTy:=0,testColor:=0,test4:=[],strings:=[],nested:=[],empty:=none,bool:=false,s32:=0,u32:=0,s64:=0,u64:=0,s32a:=0,u32a:=0,s64a:=0,u64a:=0,bools:=[],f:=0,f2:=0,f3:=0,strings2:=[],abilities:=[],flex:=[],test5:=[],longs:=[],doubles:=[],parent:=false,refs:=[],singleWeak:=0,weak:=[],strong:=[],coOwning:=0,coOwnings:=[],nonOwning:=0,nonOwnings:=[],uniqTy:=0,uniqColor:=0,ambTy:=0,ambColor:=0,enums:=[],signedEnum:=0}
def nilGV:GV:=⟨.slice none 0 0,.slice none 0 0,.slice none 0 0,.slice none 0 0,.slice none 0 0,.slice none 0 0,.slice none 0 0,.slice none 0 0,.slice none 0 0,.slice none 0 0,.slice none 0 0,.slice none 0 0,.slice none 0 0,.slice none 0 0,.slice none 0 0,.slice none 0 0,.slice none 0 0,.slice none 0 0,.slice none 0 0,.slice none 0 0⟩
def orc:GM:=.mk orcD [] [] [] [] [] [] []
theorem fill_orc:Z7 z52.toList [(3,1,(.string ⟨#[111,114,99]⟩)),(2,1,(.int .i16 80)),(1,1,(.int .i16 150))]=some (Ym orcD nilGV):=by kernel_rfl
theorem orc_val (G:Cut):QaP G orc (Ym orcD nilGV):=by
 have n:∀es,SlV G es (.slice none 0 0) []:=SlV.nil G
 unfold orc
 rw[QaP]
 exact ⟨nilGV,rfl,⟨n _,n _,n _,n _,n _,n _,n _,n _,n _,n _,n _,n _,n _,n _,n _⟩,⟨[],n _,by rw[Za];trivial⟩,⟨[],n _,by rw[Za];trivial⟩,⟨[],n _,by rw[Za];trivial⟩,⟨[],n _,by rw[Za];trivial⟩,⟨[],n _,by rw[Za];trivial⟩⟩
theorem orc_small:Qcw orc:=by
 unfold orc
 rw[Qcw]
 refine ⟨⟨by decide,by decide,by decide,by decide,by decide,by decide,by simp⟩,by decide,by decide,Or.inl ⟨rfl,rfl⟩,Or.inl ⟨rfl,rfl⟩,Or.inl ⟨rfl,rfl⟩,?_⟩
 simp only[Zn,and_self]
theorem orc_cnt:cntM orc<=20:=by
 unfold orc
 simp[cntM,cntL]
theorem awake_ok {G:Cut} {H:Qf} (hG:G.In H) {R:Kn} (hR:∀H',QaB H H'->R (.bool true) H'):FnS prog 6 #[] H R:=by
 apply w6
 unfold s6
 have hf:=fill_orc
 unfold QQ
 simp only[hf]
 obtain ⟨h1,h2,h3⟩:=pack_facts orc_small orc_cnt
 refine Qgi (n:=0) hG (orc_val G) orc_small h1 (by decide) ?_
 intro H1 k1
 rw[ExtrK_0,ExtrK_1]
 refine Qgo h2 h3 (In.keep hG k1) ?_
 intro G2 H2 cells e2 hv2
 have k2:=k1.trans e2.keep
 have hl:=hv2.len
 have hone:=QaP.one hv2
 obtain ⟨d,c,rfl,hd⟩:∃d c,cells=Ym d c/\d.name=[111,114,99]/\d.hp=80/\d.mana=150:=by
  unfold orc at hv2
  rw[toM,rdM,QaP]at hv2
  obtain ⟨c,h,_⟩:=hv2
  exact ⟨_,c,h,rfl,rfl,rfl⟩
 obtain ⟨hd1,hd2,hd3⟩:=hd
 rw[ExtrK_0,ExtrK_1,QB]
 have e3:=(Ext.refl e2.inn).push (.cells z52 52)
 have o3:=Yv.fresh (Ext.refl e2.inn) (.cells z52 52)
 have k3:=k2.trans e3.keep
 generalize H2.push (.cells z52 52)=H3 at *
 rw[Yp (n:=51) (c':=(Ym d c).toArray) o3.get rfl (by simpa using hl) (by decide) (by simpa using hone)]
 have k4:=(k2.trans ((e3.set o3.out o3.new (.cells (Ym d c).toArray 52)).keep))
 have o4:=o3.set (.cells (Ym d c).toArray 52)
 generalize setB H3 H2.size (.cells (Ym d c).toArray 52)=H4 at *
 have l1:∀k:Value->Prop,LdK H4 (.pointer (some ⟨H2.size,1,none⟩)) k=k (Qcx d.mana):=fun k=>Qk ((Qu o4.get).trans rfl)
 have l2:∀k:Value->Prop,LdK H4 (.pointer (some ⟨H2.size,2,none⟩)) k=k (Qcx d.hp):=fun k=>Qk ((Qu o4.get).trans rfl)
 have l3:∀k:Value->Prop,LdK H4 (.pointer (some ⟨H2.size,3,none⟩)) k=k (YK d.name):=fun k=>Qk ((Qu o4.get).trans rfl)
 rw[hd3]at l1
 rw[hd2]at l2
 rw[hd1]at l3
 have bs:∀k:Value->Prop,Ql prog .eql 9 (YK [111,114,99]) (.string ⟨#[111,114,99]⟩) k=k (.bool true):=fun k=>eq_str k
 have b80:∀k:Value->Prop,Ql prog .eql 23 (Qcx 80) (.int .i16 80) k=k (.bool true):=fun k=>Qba k
 have b150:∀k:Value->Prop,Ql prog .eql 23 (Qcx 150) (.int .i16 150) k=k (.bool true):=fun k=>Qba k
 simp only[Yf,Yq,Qh,l1,l2,l3,bs,b80,b150]
 exact hR _ k4
set_option maxHeartbeats 1000000 in
theorem Qi9 {g:GM} {cells:List Value} {n:Nat} {G:Cut} {H:Qf} {R:Kn} (hG:G.In H) (hv:QaP G g cells) (hN:NormM g) (hn:n<65536) (hR:∀H',QaB H H'->R (.bool true) H'):FnS prog 3 #[.agg cells.toArray,.int .u16 (n:Nat)] H R:=by
 apply w3
 unfold s3
 rw[QB]
 have e:=Ext.refl hG
 have o:Yv H G (H.push (.cells (Value.agg cells.toArray).cells 38)) H.size (.cells cells.toArray 38 (0,0)):=Yv.fresh e _
 have e:=e.push (.cells (Value.agg cells.toArray).cells 38)
 generalize H.push (.cells (Value.agg cells.toArray).cells 38)=H1 at *
 have ld:∀{H':Qf} {G':Cut},Yv H G' H' H.size (.cells cells.toArray 38 (0,0))->∀k:Value->Prop,LdN H' 51 (ptr H.size) k=k (.agg cells.toArray):=fun o k=>YG (n:=51) (vs:=cells) (by rw[Q9 o.get 51 (by simp[hv.len])];simp[<-hv.len])
 rw[ld o]
 refine fits3_ok e.inn hv fun b H2 e2=>?_
 have e:=e.trans e2
 have o:=o.ext e2
 clear e2
 rw[Yo]
 refine ZF (fun _=>hR _ e.keep) fun _=>?_
 rw[ld o]
 refine monsterClean_ok e.inn hv fun b H3 e3 hcl=>?_
 have e:=e.trans e3
 have o:=o.ext e3
 clear e3
 have awake:∀H',QaB H H'->FnS prog 6 #[] H' R:=fun H' k=>awake_ok (In.keep hG k) fun H'' k'=>hR _ (k.trans k')
 rw[Yo]
 have aw:FnS prog 6 #[] H3 fun x19 h6=>R x19 h6:=awake _ e.keep
 cases b
 ·simp only[Bool.not_false,Y0,Yq,Qf3]
  exact aw
 obtain ⟨hc,hcnt⟩:=hcl rfl
 clear hcl
 simp only[Bool.not_true,Yy,ZM,Qby]
 refine Z2 (fun _=>aw) fun _=>?_
 clear aw
 rw[ld o]
 have hs:=hc.small
 have hL:=hs.len
 refine To_all g G H3 cells _ e.inn hv hL ?_
 intro G4 H4 cells4 e4 hv4
 have o:=o.ext e4
 have k4:=e.keep.trans e4.keep
 have hw:IntKind.i64.wrap (n:Int)=(n:Int):=wrap_i64 (by omega) (by omega)
 rw[Qm,hw]
 obtain ⟨h1,h2,h3⟩:=pack_facts hs hcnt
 refine Qgi (n:=n) e4.inn hv4 hs h1 hn ?_
 intro H5 k5
 rw[ExtrK_0,ExtrK_1]
 refine Qgo h2 h3 (In.keep e4.inn k5) ?_
 intro G6 H6 cells6 e6 hv6
 rw[rd_clean hc hN]at hv6
 have hL6:=read0_LenM hL
 have k6:=(k4.trans k5).trans e6.keep
 have o6:Yv H G6 H6 H.size (.cells cells.toArray 38 (0,0)):=by
  have o5:Yv H G4 H5 H.size (.cells cells.toArray 38 (0,0)):=⟨k5 _ _ o.get,o.out,o.new⟩
  exact o5.ext e6
 have hvx:QaP G6 g cells:=(hv.mono e4.le).mono e6.le
 rw[ExtrK_0,ExtrK_1,QB]
 have e7:=(Ext.refl e6.inn).push (.cells z52 52)
 have o7:=Yv.fresh (Ext.refl e6.inn) (.cells z52 52)
 generalize H6.push (.cells z52 52)=H7 at *
 rw[Yp (n:=51) (c':=cells6.toArray) o7.get rfl (by simpa using hv6.len) (by decide) (by simpa using QaP.one hv6)]
 have o6:=(o6.ext e7).set_ne (b':=H6.size) (by have:=YD o6.get;omega) (.cells cells6.toArray 52)
 have e8:=e7.set o7.out o7.new (.cells cells6.toArray 52)
 have o8:=o7.set (.cells cells6.toArray 52)
 generalize setB H7 H6.size (.cells cells6.toArray 52)=H8 at *
 simp only[Yf,Yq]
 have ld8:∀k:Value->Prop,LdN H8 51 (ptr H6.size) k=k (.agg cells6.toArray):=fun k=>YG (n:=51) (vs:=cells6) (by rw[Q9 o8.get 51 (by simp[hv6.len])];simp[<-hv6.len])
 simp only[ld8,ld o6]
 refine Of_all (Qid g) G6 H8 cells6 _ e8.inn hv6 hL6 ?_
 intro G9 H9 cells9 e9 hv9
 refine Q8 e9.keep.ext ?_
 refine read0_all g G9 H9 cells _ e9.inn (hvx.mono e9.le) hL ?_
 intro G10 H10 cells10 e10 hv10
 refine same_all (Qid g) G10 H10 cells9 cells10 _ e10.inn (hv9.mono e10.le) hv10 hL6 ?_
 intro H11 e11
 simp only[Yq,Yf]
 have k11:=(((k6.trans e8.keep).trans e9.keep).trans e10.keep).trans e11.keep
 exact awake_ok (In.keep hG k11) fun H12 k12=>hR _ (k11.trans k12)
end Go.Proofs
namespace Go.Proofs
open Go Go.Vc
open Tryz (prog)
theorem wf_u8 {n:Int} (h:(Lit.int .u8 n).wf=true):∃x:UInt8,Value.int .u8 n=u8n x:=by
 simp[Lit.wf,IntKind.min,IntKind.max,IntKind.bits,IntKind.signed]at h
 refine ⟨UInt8.ofNat n.toNat,?_⟩
 simp only[u8n,UInt8.toNat_ofNat']
 congr 1;omega
theorem wf_u16 {n:Int} (h:(Lit.int .u16 n).wf=true):∃x:UInt16,Value.int .u16 n=u16V x:=by
 simp[Lit.wf,IntKind.min,IntKind.max,IntKind.bits,IntKind.signed]at h
 refine ⟨UInt16.ofNat n.toNat,?_⟩
 simp only[u16V,UInt16.toNat_ofNat']
 congr 1;omega
theorem wf_u32 {n:Int} (h:(Lit.int .u32 n).wf=true):∃x:UInt32,Value.int .u32 n=ZK x:=by
 simp[Lit.wf,IntKind.min,IntKind.max,IntKind.bits,IntKind.signed]at h
 refine ⟨UInt32.ofNat n.toNat,?_⟩
 simp only[ZK,UInt32.toNat_ofNat']
 congr 1;omega
theorem wf_u64 {n:Int} (h:(Lit.int .u64 n).wf=true):∃x:UInt64,Value.int .u64 n=ZB x:=by
 simp[Lit.wf,IntKind.min,IntKind.max,IntKind.bits,IntKind.signed]at h
 refine ⟨UInt64.ofNat n.toNat,?_⟩
 simp only[ZB,UInt64.toNat_ofNat']
 congr 1;omega
theorem wf_i8 {n:Int} (h:(Lit.int .i8 n).wf=true):∃x:UInt8,Value.int .i8 n=i8V x:=by
 simp[Lit.wf,IntKind.min,IntKind.max,IntKind.bits,IntKind.signed]at h
 refine ⟨UInt8.ofNat (n%256).toNat,?_⟩
 simp only[i8V,UInt8.toNat_ofNat',IntKind.wrap,IntKind.bits,IntKind.signed]
 congr 1;simp;omega
theorem wf_i16 {n:Int} (h:(Lit.int .i16 n).wf=true):∃x:UInt16,Value.int .i16 n=Qcx x:=by
 simp[Lit.wf,IntKind.min,IntKind.max,IntKind.bits,IntKind.signed]at h
 refine ⟨UInt16.ofNat (n%65536).toNat,?_⟩
 simp only[Qcx,UInt16.toNat_ofNat',IntKind.wrap,IntKind.bits,IntKind.signed]
 congr 1;simp;omega
theorem wf_i32 {n:Int} (h:(Lit.int .i32 n).wf=true):∃x:UInt32,Value.int .i32 n=Qgw x:=by
 simp[Lit.wf,IntKind.min,IntKind.max,IntKind.bits,IntKind.signed]at h
 refine ⟨UInt32.ofNat (n%4294967296).toNat,?_⟩
 simp only[Qgw,UInt32.toNat_ofNat',IntKind.wrap,IntKind.bits,IntKind.signed]
 congr 1;simp;omega
theorem wf_i64 {n:Int} (h:(Lit.int .i64 n).wf=true):∃x:UInt64,Value.int .i64 n=QdX x:=by
 simp[Lit.wf,IntKind.min,IntKind.max,IntKind.bits,IntKind.signed]at h
 refine ⟨UInt64.ofNat (n%18446744073709551616).toNat,?_⟩
 simp only[QdX,UInt64.toNat_ofNat',IntKind.wrap,IntKind.bits,IntKind.signed]
 congr 1;simp;omega
theorem QgP {α β:Type} {f:α->β}:∀{items:List β},(∀it∈items,∃a,it=f a)->∃l:List α,items=l.map f
 |[],_=>⟨[],rfl⟩
 |x::xs,h=>by
  obtain ⟨a,ha⟩:=h x List.mem_cons_self
  obtain ⟨l,hl⟩:=QgP (items:=xs) (fun it hi=>h it (List.mem_cons_of_mem _ hi))
  exact ⟨a::l,by rw[ha,hl];rfl⟩
theorem QP {cs:List Value} {i:Nat} {v:Value} (h:(cs.drop i).take 1=[v]):cs[i]?=some v:=by
 have:((cs.drop i).take 1)[0]?=some v:=by rw[h];rfl
 rw[List.getElem?_take_of_lt (by decide),List.getElem?_drop]at this
 simpa using this
theorem QeW {cs ds:List Value} {i n j:Nat} (h:(cs.drop i).take n=ds) (hj:j<n):cs[i+j]?=ds[j]?:=by
 rw[<-h,List.getElem?_take_of_lt hj,List.getElem?_drop]
def Cut.of (H:Qf):Cut:=fun b=>H[b]?
theorem Cut.of_in (H:Qf):(Cut.of H).In H:=fun _ _ h=>h
section
variable {E:Type} {enc:TypeId×Value->E} {P:Program} {w:World} {base:Nat} {spare:Nat->Bool} {held:Bool}
theorem Ys {fuel:Nat} {t:TypeId} {fs:Array Field} {cs:List Value} {x:DataW E×List MemPlace} (ht:P.underlying t=some (.struct fs)) (h:DataW.trod enc P w base spare held fuel t cs=some x) {i ty off n:Nat} (hi:(fs[i]?).map (fun f=>(f.type,f.offset,P.cellsOf f.type))=some (ty,off,n)):
  ∃m y,m<fuel/\DataW.trod enc P w base spare held m ty ((cs.drop off).take n)=some y:=by
 obtain ⟨xs,m,rfl,_,_,hx,hf⟩:=DataW.trod_struct ht h
 cases hfi:fs[i]? with
 |none=>rw[hfi]at hi;cases hi
 |some f=>
  rw[hfi]at hi
  simp only[Option.map_some,Option.some.injEq,Prod.mk.injEq]at hi
  obtain ⟨rfl,rfl,rfl⟩:=hi
  have h1:=hf i f hfi
  have hl:i<xs.length:=by
   rw[hx]
   rcases Nat.lt_or_ge i fs.size with hh|hh
   ·exact hh
   ·rw[Array.getElem?_eq_none hh]at hfi;cases hfi
  rw[List.getElem?_eq_getElem hl]at h1
  exact ⟨m,_,Nat.lt_succ_self m,h1⟩
theorem QhO {fuel:Nat} {t:TypeId} {fs:Array Field} {cs:List Value} {x:DataW E×List MemPlace} (ht:P.underlying t=some (.struct fs)) (h:DataW.trod enc P w base spare held fuel t cs=some x) {n:Nat} (hn:P.cellsOf t=n):cs.length=n:=by
 obtain ⟨xs,m,rfl,_,hl,_⟩:=DataW.trod_struct ht h
 rw[hl,hn]
theorem flat_range {f:Nat->List Value} {L:List Value} {es o:Nat}:∀{n:Nat},o+n*es<=L.length->(∀i,i<n->f i=(L.drop (o+i*es)).take es)->((List.range n).map f).flatten=(L.drop o).take (n*es)
 |0,_,_=>by simp
 |n+1,hl,h=>by
  have hm:(n+1)*es=n*es+es:=by rw[Nat.add_mul,Nat.one_mul]
  rw[List.range_succ,List.map_append,List.flatten_append,flat_range (n:=n) (by omega) (fun i hi=>h i (by omega)),List.map_cons,List.map_nil,List.flatten_cons,List.flatten_nil,List.append_nil,h n (by omega),hm,List.take_add,List.drop_drop]
theorem sl_rd {fuel:Nat} {t e:TypeId} {es:Nat} {cs:List Value} {x:DataW E×List MemPlace} (ht:P.underlying t=some (.slice e)) (hes:P.cellsOf e=es) (h0:0<es) (h:DataW.trod enc P w base spare held fuel t cs=some x):
  ∃v items,cs=[v]/\SlV (Cut.of w.heap) es v items/\∀it∈items,∃m y,m<fuel/\DataW.trod enc P w base spare held m e it=some y:=by
 rcases DataW.trod_slice ht h with ⟨rfl,_⟩|⟨a,len,cap,elems,rest,n,rfl,rfl,_,_,hlc,_,hel,hx,_⟩
 ·exact ⟨_,[],rfl,SlV.nil _ _,by simp⟩
 ·subst hes
  generalize hes:P.cellsOf e=es at *
  by_cases hz:len=0
  ·subst hz
   exact ⟨_,[],rfl,⟨by simp,Or.inl ⟨some a,cap,rfl,rfl⟩⟩,by simp⟩
  have each:∀i,i<len->∃ci y,w.cells? base (a.add (i*es)) es=some ci/\DataW.trod enc P w base spare held n e ci=some y:=fun i hi=>by
   have h1:=hx i hi
   rw[List.getElem?_eq_getElem (by omega)]at h1
   obtain ⟨ci,h2,h3⟩:=Option.bind_eq_some_iff.1 h1
   exact ⟨ci,_,h2,h3⟩
  obtain ⟨c0,_,hc0,_⟩:=each 0 (by omega)
  obtain ⟨_,hl0,hg0⟩:=World.cells?_some hc0
  have hc00:=hg0 0 h0
  rw[List.getElem?_eq_getElem (by omega)]at hc00
  obtain ⟨b,o,spot⟩:=a
  have hs:spot=none:=by simpa [Addr.add]using World.cell?_spot hc00
  subst hs
  rw[Qf9,Qf9]at hc00
  have hblk:∃c ty fr,w.heap[b]?=some (.cells c ty fr):=by
   rw[cell?_eq]at hc00
   unfold QaH at hc00
   split at hc00
   ·rename_i c ty fr hb
    exact ⟨c,ty,fr,hb⟩
   ·cases hc00
  obtain ⟨c,ty,fr,hb⟩:=hblk
  have item:∀i,i<len->o+i*es+es<=c.size/\w.cells? base ⟨b,o+i*es,none⟩ es=some ((c.toList.drop (o+i*es)).take es):=fun i hi=>by
   obtain ⟨ci,_,h1,_⟩:=each i hi
   rw[Qf9]at h1
   obtain ⟨_,hl,hg⟩:=World.cells?_some h1
   have hcell:∀j,j<es->c[o+i*es+j]?=ci[j]?:=fun j hj=>by
    have:=hg j hj
    rw[Qf9,cell?_eq,Qu hb]at this
    exact this
   have hsz:o+i*es+es<=c.size:=by
    have:=hcell (es-1) (by omega)
    rw[List.getElem?_eq_getElem (by omega)]at this
    have hlt:o+i*es+(es-1)<c.size:=by
     rcases Nat.lt_or_ge (o+i*es+(es-1)) c.size with hh|hh
     ·exact hh
     ·rw[Array.getElem?_eq_none hh]at this;cases this
    omega
   refine ⟨hsz,?_⟩
   rw[h1]
   congr 1
   refine List.ext_getElem? fun j=>?_
   by_cases hj:j<es
   ·rw[List.getElem?_take_of_lt hj,List.getElem?_drop,<-hcell j hj]
    simp
   ·rw[List.getElem?_eq_none (by omega),List.getElem?_eq_none (by simp;omega)]
  have hend:=(item (len-1) (by omega)).1
  have hmul:len*es=(len-1)*es+es:=by
   obtain ⟨k,rfl⟩:∃k,len=k+1:=⟨len-1,by omega⟩
   rw[show k+1-1=k by omega,Nat.add_mul,Nat.one_mul]
  refine ⟨_,(List.range len).map (fun i=>(c.toList.drop (o+i*es)).take es),rfl,⟨fun it hi=>?_,Or.inr ⟨b,o,cap,c,ty,fr,by rw[List.length_map,List.length_range],hb,by rw[List.length_map,List.length_range];omega,?_,by rw[List.length_map,List.length_range];exact hlc⟩⟩,fun it hi=>?_⟩
  ·obtain ⟨i,hr,rfl⟩:=List.mem_map.1 hi
   have:=(item i (List.mem_range.1 hr)).1
   simp;omega
  ·rw[List.length_map,List.length_range]
   exact (flat_range (by rw[Array.length_toList];omega) (fun i _=>rfl)).symm
  ·obtain ⟨i,hr,rfl⟩:=List.mem_map.1 hi
   have hr:=List.mem_range.1 hr
   obtain ⟨ci,y,h1,h2⟩:=each i hr
   rw[Qf9,(item i hr).2]at h1
   cases h1
   exact ⟨n,y,Nat.lt_succ_self n,h2⟩
end
section
variable {E:Type} {enc:TypeId×Value->E} {w:World} {base:Nat} {spare:Nat->Bool} {held:Bool} {fuel:Nat} {cs:List Value} {x:DataW E×List MemPlace}
theorem rd_int8 (h:DataW.trod enc prog w base spare held fuel 36 cs=some x):∃x:UInt8,cs=[i8V x]:=by
 obtain ⟨n,rfl,_,hw⟩:=DataW.trod_int (P:=prog) (t:=36) (k:=.i8) (by kernel_rfl) h
 obtain ⟨x,hx⟩:=wf_i8 hw
 exact ⟨x,by rw[hx]⟩
theorem rd_int16 (h:DataW.trod enc prog w base spare held fuel 23 cs=some x):∃x:UInt16,cs=[Qcx x]:=by
 obtain ⟨n,rfl,_,hw⟩:=DataW.trod_int (P:=prog) (t:=23) (k:=.i16) (by kernel_rfl) h
 obtain ⟨x,hx⟩:=wf_i16 hw
 exact ⟨x,by rw[hx]⟩
theorem rd_int32 (h:DataW.trod enc prog w base spare held fuel 21 cs=some x):∃x:UInt32,cs=[Qgw x]:=by
 obtain ⟨n,rfl,_,hw⟩:=DataW.trod_int (P:=prog) (t:=21) (k:=.i32) (by kernel_rfl) h
 obtain ⟨x,hx⟩:=wf_i32 hw
 exact ⟨x,by rw[hx]⟩
theorem rd_int64 (h:DataW.trod enc prog w base spare held fuel 2 cs=some x):∃x:UInt64,cs=[QdX x]:=by
 obtain ⟨n,rfl,_,hw⟩:=DataW.trod_int (P:=prog) (t:=2) (k:=.i64) (by kernel_rfl) h
 obtain ⟨x,hx⟩:=wf_i64 hw
 exact ⟨x,by rw[hx]⟩
theorem rd_uint8 (h:DataW.trod enc prog w base spare held fuel 5 cs=some x):∃x:UInt8,cs=[u8n x]:=by
 obtain ⟨n,rfl,_,hw⟩:=DataW.trod_int (P:=prog) (t:=5) (k:=.u8) (by kernel_rfl) h
 obtain ⟨x,hx⟩:=wf_u8 hw
 exact ⟨x,by rw[hx]⟩
theorem rd_uint16 (h:DataW.trod enc prog w base spare held fuel 39 cs=some x):∃x:UInt16,cs=[u16V x]:=by
 obtain ⟨n,rfl,_,hw⟩:=DataW.trod_int (P:=prog) (t:=39) (k:=.u16) (by kernel_rfl) h
 obtain ⟨x,hx⟩:=wf_u16 hw
 exact ⟨x,by rw[hx]⟩
theorem Qbw (h:DataW.trod enc prog w base spare held fuel 30 cs=some x):∃x:UInt32,cs=[ZK x]:=by
 obtain ⟨n,rfl,_,hw⟩:=DataW.trod_int (P:=prog) (t:=30) (k:=.u32) (by kernel_rfl) h
 obtain ⟨x,hx⟩:=wf_u32 hw
 exact ⟨x,by rw[hx]⟩
theorem QdI (h:DataW.trod enc prog w base spare held fuel 31 cs=some x):∃x:UInt64,cs=[ZB x]:=by
 obtain ⟨n,rfl,_,hw⟩:=DataW.trod_int (P:=prog) (t:=31) (k:=.u64) (by kernel_rfl) h
 obtain ⟨x,hx⟩:=wf_u64 hw
 exact ⟨x,by rw[hx]⟩
theorem rd_bool (h:DataW.trod enc prog w base spare held fuel 4 cs=some x):∃b,cs=[.bool b]:=by
 obtain ⟨b,h,_⟩:=DataW.trod_bool (P:=prog) (t:=4) (by kernel_rfl) h
 exact ⟨b,h⟩
theorem Qdr (h:DataW.trod enc prog w base spare held fuel 9 cs=some x):∃s,cs=[YK s]:=by
 obtain ⟨s,h,_⟩:=DataW.trod_string (P:=prog) (t:=9) (by kernel_rfl) h
 exact ⟨s.data.toList,h⟩
theorem rd_Vec3 (h:DataW.trod enc prog w base spare held fuel 78 cs=some x):∃v:Qbb,cs=Zd v:=by
 have ht:(prog).underlying 78=some (.struct ((prog).fieldsOf 78)):=by kernel_rfl
 have hl:=QhO ht h (n:=7) (by kernel_rfl)
 obtain ⟨_,_,_,h0⟩:=Ys ht h (i:=0) (ty:=30) (off:=0) (n:=1) (by kernel_rfl)
 obtain ⟨x0,h0⟩:=Qbw h0
 have h0:=QP h0
 obtain ⟨_,_,_,h1⟩:=Ys ht h (i:=1) (ty:=30) (off:=1) (n:=1) (by kernel_rfl)
 obtain ⟨x1,h1⟩:=Qbw h1
 have h1:=QP h1
 obtain ⟨_,_,_,h2⟩:=Ys ht h (i:=2) (ty:=30) (off:=2) (n:=1) (by kernel_rfl)
 obtain ⟨x2,h2⟩:=Qbw h2
 have h2:=QP h2
 obtain ⟨_,_,_,h3⟩:=Ys ht h (i:=3) (ty:=31) (off:=3) (n:=1) (by kernel_rfl)
 obtain ⟨x3,h3⟩:=QdI h3
 have h3:=QP h3
 obtain ⟨_,_,_,h4⟩:=Ys ht h (i:=4) (ty:=5) (off:=4) (n:=1) (by kernel_rfl)
 obtain ⟨x4,h4⟩:=rd_uint8 h4
 have h4:=QP h4
 obtain ⟨_,_,_,h5⟩:=Ys ht h (i:=5) (ty:=23) (off:=5) (n:=1) (by kernel_rfl)
 obtain ⟨x5,h5⟩:=rd_int16 h5
 have h5:=QP h5
 obtain ⟨_,_,_,h6⟩:=Ys ht h (i:=6) (ty:=36) (off:=6) (n:=1) (by kernel_rfl)
 obtain ⟨x6,h6⟩:=rd_int8 h6
 have h6:=QP h6
 refine ⟨⟨x0,x1,x2,x3,x4,x5,x6⟩,List.ext_getElem? fun i=>?_⟩
 match i with
 |0=>exact h0
 |1=>exact h1
 |2=>exact h2
 |3=>exact h3
 |4=>exact h4
 |5=>exact h5
 |6=>exact h6
 |i+7=>rw[List.getElem?_eq_none (by omega)];rfl
theorem rd_Test (h:DataW.trod enc prog w base spare held fuel 83 cs=some x):∃v:Qbo,cs=Yu v:=by
 have ht:(prog).underlying 83=some (.struct ((prog).fieldsOf 83)):=by kernel_rfl
 have hl:=QhO ht h (n:=2) (by kernel_rfl)
 obtain ⟨_,_,_,h0⟩:=Ys ht h (i:=0) (ty:=23) (off:=0) (n:=1) (by kernel_rfl)
 obtain ⟨x0,h0⟩:=rd_int16 h0
 have h0:=QP h0
 obtain ⟨_,_,_,h1⟩:=Ys ht h (i:=1) (ty:=36) (off:=1) (n:=1) (by kernel_rfl)
 obtain ⟨x1,h1⟩:=rd_int8 h1
 have h1:=QP h1
 refine ⟨⟨x0,x1⟩,List.ext_getElem? fun i=>?_⟩
 match i with
 |0=>exact h0
 |1=>exact h1
 |i+2=>rw[List.getElem?_eq_none (by omega)];rfl
theorem rd_Stat (h:DataW.trod enc prog w base spare held fuel 89 cs=some x):∃v:QaX,cs=YM v:=by
 have ht:(prog).underlying 89=some (.struct ((prog).fieldsOf 89)):=by kernel_rfl
 have hl:=QhO ht h (n:=3) (by kernel_rfl)
 obtain ⟨_,_,_,h0⟩:=Ys ht h (i:=0) (ty:=9) (off:=0) (n:=1) (by kernel_rfl)
 obtain ⟨x0,h0⟩:=Qdr h0
 have h0:=QP h0
 obtain ⟨_,_,_,h1⟩:=Ys ht h (i:=1) (ty:=2) (off:=1) (n:=1) (by kernel_rfl)
 obtain ⟨x1,h1⟩:=rd_int64 h1
 have h1:=QP h1
 obtain ⟨_,_,_,h2⟩:=Ys ht h (i:=2) (ty:=39) (off:=2) (n:=1) (by kernel_rfl)
 obtain ⟨x2,h2⟩:=rd_uint16 h2
 have h2:=QP h2
 refine ⟨⟨x0,x1,x2⟩,List.ext_getElem? fun i=>?_⟩
 match i with
 |0=>exact h0
 |1=>exact h1
 |2=>exact h2
 |i+3=>rw[List.getElem?_eq_none (by omega)];rfl
theorem rd_Ability (h:DataW.trod enc prog w base spare held fuel 95 cs=some x):∃v:Qeu,cs=Zs v:=by
 have ht:(prog).underlying 95=some (.struct ((prog).fieldsOf 95)):=by kernel_rfl
 have hl:=QhO ht h (n:=2) (by kernel_rfl)
 obtain ⟨_,_,_,h0⟩:=Ys ht h (i:=0) (ty:=30) (off:=0) (n:=1) (by kernel_rfl)
 obtain ⟨x0,h0⟩:=Qbw h0
 have h0:=QP h0
 obtain ⟨_,_,_,h1⟩:=Ys ht h (i:=1) (ty:=30) (off:=1) (n:=1) (by kernel_rfl)
 obtain ⟨x1,h1⟩:=Qbw h1
 have h1:=QP h1
 refine ⟨⟨x0,x1⟩,List.ext_getElem? fun i=>?_⟩
 match i with
 |0=>exact h0
 |1=>exact h1
 |i+2=>rw[List.getElem?_eq_none (by omega)];rfl
theorem rd_pos (h:DataW.trod enc prog w base spare held fuel 22 cs=some x):∃v,∃l:List Qbb,cs=[v]/\SlV (Cut.of w.heap) 7 v (l.map Zd):=by
 obtain ⟨v,items,rfl,hs,hi⟩:=sl_rd (P:=prog) (t:=22) (e:=78) (es:=7) (by kernel_rfl) (by kernel_rfl) (by decide) h
 obtain ⟨l,rfl⟩:=QgP (f:=Zd) (fun it hit=>by
  obtain ⟨_,_,_,h⟩:=hi it hit
  obtain ⟨a,ha⟩:=rd_Vec3 h
  exact ⟨a,ha⟩)
 exact ⟨v,l,rfl,hs⟩
theorem rd_tests (h:DataW.trod enc prog w base spare held fuel 27 cs=some x):∃v,∃l:List Qbo,cs=[v]/\SlV (Cut.of w.heap) 2 v (l.map Yu):=by
 obtain ⟨v,items,rfl,hs,hi⟩:=sl_rd (P:=prog) (t:=27) (e:=83) (es:=2) (by kernel_rfl) (by kernel_rfl) (by decide) h
 obtain ⟨l,rfl⟩:=QgP (f:=Yu) (fun it hit=>by
  obtain ⟨_,_,_,h⟩:=hi it hit
  obtain ⟨a,ha⟩:=rd_Test h
  exact ⟨a,ha⟩)
 exact ⟨v,l,rfl,hs⟩
theorem rd_stats (h:DataW.trod enc prog w base spare held fuel 29 cs=some x):∃v,∃l:List QaX,cs=[v]/\SlV (Cut.of w.heap) 3 v (l.map YM):=by
 obtain ⟨v,items,rfl,hs,hi⟩:=sl_rd (P:=prog) (t:=29) (e:=89) (es:=3) (by kernel_rfl) (by kernel_rfl) (by decide) h
 obtain ⟨l,rfl⟩:=QgP (f:=YM) (fun it hit=>by
  obtain ⟨_,_,_,h⟩:=hi it hit
  obtain ⟨a,ha⟩:=rd_Stat h
  exact ⟨a,ha⟩)
 exact ⟨v,l,rfl,hs⟩
theorem rd_abils (h:DataW.trod enc prog w base spare held fuel 33 cs=some x):∃v,∃l:List Qeu,cs=[v]/\SlV (Cut.of w.heap) 2 v (l.map Zs):=by
 obtain ⟨v,items,rfl,hs,hi⟩:=sl_rd (P:=prog) (t:=33) (e:=95) (es:=2) (by kernel_rfl) (by kernel_rfl) (by decide) h
 obtain ⟨l,rfl⟩:=QgP (f:=Zs) (fun it hit=>by
  obtain ⟨_,_,_,h⟩:=hi it hit
  obtain ⟨a,ha⟩:=rd_Ability h
  exact ⟨a,ha⟩)
 exact ⟨v,l,rfl,hs⟩
theorem rd_strings (h:DataW.trod enc prog w base spare held fuel 28 cs=some x):∃v,∃l:List (List UInt8),cs=[v]/\SlV (Cut.of w.heap) 1 v (l.map Qg0):=by
 obtain ⟨v,items,rfl,hs,hi⟩:=sl_rd (P:=prog) (t:=28) (e:=9) (es:=1) (by kernel_rfl) (by kernel_rfl) (by decide) h
 obtain ⟨l,rfl⟩:=QgP (f:=Qg0) (fun it hit=>by
  obtain ⟨_,_,_,h⟩:=hi it hit
  obtain ⟨a,ha⟩:=Qdr h
  exact ⟨a,ha⟩)
 exact ⟨v,l,rfl,hs⟩
theorem rd_bools (h:DataW.trod enc prog w base spare held fuel 32 cs=some x):∃v,∃l:List Bool,cs=[v]/\SlV (Cut.of w.heap) 1 v (l.map Qif):=by
 obtain ⟨v,items,rfl,hs,hi⟩:=sl_rd (P:=prog) (t:=32) (e:=4) (es:=1) (by kernel_rfl) (by kernel_rfl) (by decide) h
 obtain ⟨l,rfl⟩:=QgP (f:=Qif) (fun it hit=>by
  obtain ⟨_,_,_,h⟩:=hi it hit
  obtain ⟨a,ha⟩:=rd_bool h
  exact ⟨a,ha⟩)
 exact ⟨v,l,rfl,hs⟩
theorem rd_i64s (h:DataW.trod enc prog w base spare held fuel 34 cs=some x):∃v,∃l:List UInt64,cs=[v]/\SlV (Cut.of w.heap) 1 v (l.map i64I):=by
 obtain ⟨v,items,rfl,hs,hi⟩:=sl_rd (P:=prog) (t:=34) (e:=2) (es:=1) (by kernel_rfl) (by kernel_rfl) (by decide) h
 obtain ⟨l,rfl⟩:=QgP (f:=i64I) (fun it hit=>by
  obtain ⟨_,_,_,h⟩:=hi it hit
  obtain ⟨a,ha⟩:=rd_int64 h
  exact ⟨a,ha⟩)
 exact ⟨v,l,rfl,hs⟩
theorem Qhr (h:DataW.trod enc prog w base spare held fuel 35 cs=some x):∃v,∃l:List UInt64,cs=[v]/\SlV (Cut.of w.heap) 1 v (l.map Qdf):=by
 obtain ⟨v,items,rfl,hs,hi⟩:=sl_rd (P:=prog) (t:=35) (e:=31) (es:=1) (by kernel_rfl) (by kernel_rfl) (by decide) h
 obtain ⟨l,rfl⟩:=QgP (f:=Qdf) (fun it hit=>by
  obtain ⟨_,_,_,h⟩:=hi it hit
  obtain ⟨a,ha⟩:=QdI h
  exact ⟨a,ha⟩)
 exact ⟨v,l,rfl,hs⟩
def MonRd (E:Type) (enc:TypeId×Value->E) (w:World) (base:Nat) (spare:Nat->Bool) (held:Bool) (fuel:Nat):Prop:=∀(cs:List Value) (x:DataW E×List MemPlace),DataW.trod enc prog w base spare held fuel 38 cs=some x->∃g:GM,NormM g/\QaP (Cut.of w.heap) g cs
theorem mons_of {F:Cut}:∀{items:List (List Value)},(∀it∈items,∃g:GM,NormM g/\QaP F g it)->∃gs,Qhp gs/\Za F gs items
 |[],_=>⟨[],by rw[Qhp];trivial,by rw[Za];trivial⟩
 |x::xs,h=>by
  obtain ⟨g,h1,h2⟩:=h x List.mem_cons_self
  obtain ⟨gs,h3,h4⟩:=mons_of (items:=xs) (fun it hi=>h it (List.mem_cons_of_mem _ hi))
  exact ⟨g::gs,by rw[Qhp];exact ⟨h1,h3⟩,by rw[Za];exact ⟨h2,h4⟩⟩
theorem rd_mons (hK:∀m,m<fuel->MonRd E enc w base spare held m) (h:DataW.trod enc prog w base spare held fuel 24 cs=some x):∃v gs,cs=[v]/\Qhp gs/\Qah (Cut.of w.heap) gs v:=by
 obtain ⟨v,items,rfl,hs,hi⟩:=sl_rd (P:=prog) (t:=24) (e:=38) (es:=51) (by kernel_rfl) (by kernel_rfl) (by decide) h
 obtain ⟨gs,h1,h2⟩:=mons_of (F:=Cut.of w.heap) (items:=items) (fun it hit=>by
  obtain ⟨m,y,hm,h⟩:=hi it hit
  exact hK m hm it y h)
 exact ⟨v,gs,rfl,h1,items,hs,h2⟩
theorem rd_choice (hK:∀m,m<fuel->MonRd E enc w base spare held m) (h:DataW.trod enc prog w base spare held fuel 26 cs=some x):∃(ty color:UInt8) (v:Value) (gs:List GM),cs=[u8n ty,v,u8n color]/\Qhp gs/\Qah (Cut.of w.heap) gs v:=by
 have ht:(prog).underlying 26=some (.struct ((prog).fieldsOf 26)):=by kernel_rfl
 have hl:=QhO ht h (n:=3) (by kernel_rfl)
 obtain ⟨_,_,_,h0⟩:=Ys ht h (i:=0) (ty:=5) (off:=0) (n:=1) (by kernel_rfl)
 obtain ⟨x0,h0⟩:=rd_uint8 h0
 obtain ⟨m1,_,hm1,h1⟩:=Ys ht h (i:=1) (ty:=24) (off:=1) (n:=1) (by kernel_rfl)
 obtain ⟨v,gs,h1,hn,hv⟩:=rd_mons (fun m hm=>hK m (by omega)) h1
 obtain ⟨_,_,_,h2⟩:=Ys ht h (i:=2) (ty:=5) (off:=2) (n:=1) (by kernel_rfl)
 obtain ⟨x2,h2⟩:=rd_uint8 h2
 refine ⟨x0,x2,v,gs,List.ext_getElem? fun i=>?_,hn,hv⟩
 match i with
 |0=>exact QP h0
 |1=>exact QP h1
 |2=>exact QP h2
 |i+3=>rw[List.getElem?_eq_none (by omega)];rfl
set_option maxHeartbeats 1000000 in
set_option maxRecDepth 8000 in
theorem rd_step (hK:∀m,m<fuel->MonRd E enc w base spare held m):MonRd E enc w base spare held fuel:=by
 intro cs x h
 have ht:(prog).underlying 38=some (.struct ((prog).fieldsOf 38)):=by kernel_rfl
 have hl:=QhO ht h (n:=51) (by kernel_rfl)
 obtain ⟨m0,_,hm0,h0⟩:=Ys ht h (i:=0) (ty:=22) (off:=0) (n:=1) (by kernel_rfl)
 obtain ⟨v0,l0,h0,s0⟩:=rd_pos h0
 have h0:=QP h0
 clear hm0
 obtain ⟨m1,_,hm1,h1⟩:=Ys ht h (i:=1) (ty:=23) (off:=1) (n:=1) (by kernel_rfl)
 obtain ⟨a1,h1⟩:=rd_int16 h1
 have h1:=QP h1
 clear hm1
 obtain ⟨m2,_,hm2,h2⟩:=Ys ht h (i:=2) (ty:=23) (off:=2) (n:=1) (by kernel_rfl)
 obtain ⟨a2,h2⟩:=rd_int16 h2
 have h2:=QP h2
 clear hm2
 obtain ⟨m3,_,hm3,h3⟩:=Ys ht h (i:=3) (ty:=9) (off:=3) (n:=1) (by kernel_rfl)
 obtain ⟨a3,h3⟩:=Qdr h3
 have h3:=QP h3
 clear hm3
 obtain ⟨m4,_,hm4,h4⟩:=Ys ht h (i:=4) (ty:=9) (off:=4) (n:=1) (by kernel_rfl)
 obtain ⟨a4,h4⟩:=Qdr h4
 have h4:=QP h4
 clear hm4
 obtain ⟨m5,_,hm5,h5⟩:=Ys ht h (i:=5) (ty:=5) (off:=5) (n:=1) (by kernel_rfl)
 obtain ⟨a5,h5⟩:=rd_uint8 h5
 have h5:=QP h5
 clear hm5
 obtain ⟨m6,_,hm6,h6⟩:=Ys ht h (i:=6) (ty:=26) (off:=6) (n:=3) (by kernel_rfl)
 obtain ⟨a6,a8,v7,g6,h6,n6,s6⟩:=rd_choice (fun m hm=>hK m (by omega)) h6
 have k6:cs[6]?=some (u8n a6):=QeW (n:=3) h6 (j:=0) (by decide)
 have k7:cs[7]?=some (v7):=QeW (n:=3) h6 (j:=1) (by decide)
 have k8:cs[8]?=some (u8n a8):=QeW (n:=3) h6 (j:=2) (by decide)
 clear hm6
 obtain ⟨m7,_,hm7,h7⟩:=Ys ht h (i:=7) (ty:=27) (off:=9) (n:=1) (by kernel_rfl)
 obtain ⟨v9,l9,h7,s9⟩:=rd_tests h7
 have h7:=QP h7
 clear hm7
 obtain ⟨m8,_,hm8,h8⟩:=Ys ht h (i:=8) (ty:=28) (off:=10) (n:=1) (by kernel_rfl)
 obtain ⟨v10,l10,h8,s10⟩:=rd_strings h8
 have h8:=QP h8
 clear hm8
 obtain ⟨m9,_,hm9,h9⟩:=Ys ht h (i:=9) (ty:=24) (off:=11) (n:=1) (by kernel_rfl)
 obtain ⟨v11,g11,h9,n11,s11⟩:=rd_mons (fun m hm=>hK m (by omega)) h9
 have h9:=QP h9
 clear hm9
 obtain ⟨m10,_,hm10,h10⟩:=Ys ht h (i:=10) (ty:=24) (off:=12) (n:=1) (by kernel_rfl)
 obtain ⟨v12,g12,h10,n12,s12⟩:=rd_mons (fun m hm=>hK m (by omega)) h10
 have h10:=QP h10
 clear hm10
 obtain ⟨m11,_,hm11,h11⟩:=Ys ht h (i:=11) (ty:=9) (off:=13) (n:=1) (by kernel_rfl)
 obtain ⟨a13,h11⟩:=Qdr h11
 have h11:=QP h11
 clear hm11
 obtain ⟨m12,_,hm12,h12⟩:=Ys ht h (i:=12) (ty:=29) (off:=14) (n:=1) (by kernel_rfl)
 obtain ⟨v14,l14,h12,s14⟩:=rd_stats h12
 have h12:=QP h12
 clear hm12
 obtain ⟨m13,_,hm13,h13⟩:=Ys ht h (i:=13) (ty:=4) (off:=15) (n:=1) (by kernel_rfl)
 obtain ⟨a15,h13⟩:=rd_bool h13
 have h13:=QP h13
 clear hm13
 obtain ⟨m14,_,hm14,h14⟩:=Ys ht h (i:=14) (ty:=21) (off:=16) (n:=1) (by kernel_rfl)
 obtain ⟨a16,h14⟩:=rd_int32 h14
 have h14:=QP h14
 clear hm14
 obtain ⟨m15,_,hm15,h15⟩:=Ys ht h (i:=15) (ty:=30) (off:=17) (n:=1) (by kernel_rfl)
 obtain ⟨a17,h15⟩:=Qbw h15
 have h15:=QP h15
 clear hm15
 obtain ⟨m16,_,hm16,h16⟩:=Ys ht h (i:=16) (ty:=2) (off:=18) (n:=1) (by kernel_rfl)
 obtain ⟨a18,h16⟩:=rd_int64 h16
 have h16:=QP h16
 clear hm16
 obtain ⟨m17,_,hm17,h17⟩:=Ys ht h (i:=17) (ty:=31) (off:=19) (n:=1) (by kernel_rfl)
 obtain ⟨a19,h17⟩:=QdI h17
 have h17:=QP h17
 clear hm17
 obtain ⟨m18,_,hm18,h18⟩:=Ys ht h (i:=18) (ty:=21) (off:=20) (n:=1) (by kernel_rfl)
 obtain ⟨a20,h18⟩:=rd_int32 h18
 have h18:=QP h18
 clear hm18
 obtain ⟨m19,_,hm19,h19⟩:=Ys ht h (i:=19) (ty:=30) (off:=21) (n:=1) (by kernel_rfl)
 obtain ⟨a21,h19⟩:=Qbw h19
 have h19:=QP h19
 clear hm19
 obtain ⟨m20,_,hm20,h20⟩:=Ys ht h (i:=20) (ty:=2) (off:=22) (n:=1) (by kernel_rfl)
 obtain ⟨a22,h20⟩:=rd_int64 h20
 have h20:=QP h20
 clear hm20
 obtain ⟨m21,_,hm21,h21⟩:=Ys ht h (i:=21) (ty:=31) (off:=23) (n:=1) (by kernel_rfl)
 obtain ⟨a23,h21⟩:=QdI h21
 have h21:=QP h21
 clear hm21
 obtain ⟨m22,_,hm22,h22⟩:=Ys ht h (i:=22) (ty:=32) (off:=24) (n:=1) (by kernel_rfl)
 obtain ⟨v24,l24,h22,s24⟩:=rd_bools h22
 have h22:=QP h22
 clear hm22
 obtain ⟨m23,_,hm23,h23⟩:=Ys ht h (i:=23) (ty:=30) (off:=25) (n:=1) (by kernel_rfl)
 obtain ⟨a25,h23⟩:=Qbw h23
 have h23:=QP h23
 clear hm23
 obtain ⟨m24,_,hm24,h24⟩:=Ys ht h (i:=24) (ty:=30) (off:=26) (n:=1) (by kernel_rfl)
 obtain ⟨a26,h24⟩:=Qbw h24
 have h24:=QP h24
 clear hm24
 obtain ⟨m25,_,hm25,h25⟩:=Ys ht h (i:=25) (ty:=30) (off:=27) (n:=1) (by kernel_rfl)
 obtain ⟨a27,h25⟩:=Qbw h25
 have h25:=QP h25
 clear hm25
 obtain ⟨m26,_,hm26,h26⟩:=Ys ht h (i:=26) (ty:=28) (off:=28) (n:=1) (by kernel_rfl)
 obtain ⟨v28,l28,h26,s28⟩:=rd_strings h26
 have h26:=QP h26
 clear hm26
 obtain ⟨m27,_,hm27,h27⟩:=Ys ht h (i:=27) (ty:=33) (off:=29) (n:=1) (by kernel_rfl)
 obtain ⟨v29,l29,h27,s29⟩:=rd_abils h27
 have h27:=QP h27
 clear hm27
 obtain ⟨m28,_,hm28,h28⟩:=Ys ht h (i:=28) (ty:=9) (off:=30) (n:=1) (by kernel_rfl)
 obtain ⟨a30,h28⟩:=Qdr h28
 have h28:=QP h28
 clear hm28
 obtain ⟨m29,_,hm29,h29⟩:=Ys ht h (i:=29) (ty:=27) (off:=31) (n:=1) (by kernel_rfl)
 obtain ⟨v31,l31,h29,s31⟩:=rd_tests h29
 have h29:=QP h29
 clear hm29
 obtain ⟨m30,_,hm30,h30⟩:=Ys ht h (i:=30) (ty:=34) (off:=32) (n:=1) (by kernel_rfl)
 obtain ⟨v32,l32,h30,s32⟩:=rd_i64s h30
 have h30:=QP h30
 clear hm30
 obtain ⟨m31,_,hm31,h31⟩:=Ys ht h (i:=31) (ty:=35) (off:=33) (n:=1) (by kernel_rfl)
 obtain ⟨v33,l33,h31,s33⟩:=Qhr h31
 have h31:=QP h31
 clear hm31
 obtain ⟨m32,_,hm32,h32⟩:=Ys ht h (i:=32) (ty:=4) (off:=34) (n:=1) (by kernel_rfl)
 obtain ⟨a34,h32⟩:=rd_bool h32
 have h32:=QP h32
 clear hm32
 obtain ⟨m33,_,hm33,h33⟩:=Ys ht h (i:=33) (ty:=35) (off:=35) (n:=1) (by kernel_rfl)
 obtain ⟨v35,l35,h33,s35⟩:=Qhr h33
 have h33:=QP h33
 clear hm33
 obtain ⟨m34,_,hm34,h34⟩:=Ys ht h (i:=34) (ty:=31) (off:=36) (n:=1) (by kernel_rfl)
 obtain ⟨a36,h34⟩:=QdI h34
 have h34:=QP h34
 clear hm34
 obtain ⟨m35,_,hm35,h35⟩:=Ys ht h (i:=35) (ty:=35) (off:=37) (n:=1) (by kernel_rfl)
 obtain ⟨v37,l37,h35,s37⟩:=Qhr h35
 have h35:=QP h35
 clear hm35
 obtain ⟨m36,_,hm36,h36⟩:=Ys ht h (i:=36) (ty:=35) (off:=38) (n:=1) (by kernel_rfl)
 obtain ⟨v38,l38,h36,s38⟩:=Qhr h36
 have h36:=QP h36
 clear hm36
 obtain ⟨m37,_,hm37,h37⟩:=Ys ht h (i:=37) (ty:=31) (off:=39) (n:=1) (by kernel_rfl)
 obtain ⟨a39,h37⟩:=QdI h37
 have h37:=QP h37
 clear hm37
 obtain ⟨m38,_,hm38,h38⟩:=Ys ht h (i:=38) (ty:=35) (off:=40) (n:=1) (by kernel_rfl)
 obtain ⟨v40,l40,h38,s40⟩:=Qhr h38
 have h38:=QP h38
 clear hm38
 obtain ⟨m39,_,hm39,h39⟩:=Ys ht h (i:=39) (ty:=31) (off:=41) (n:=1) (by kernel_rfl)
 obtain ⟨a41,h39⟩:=QdI h39
 have h39:=QP h39
 clear hm39
 obtain ⟨m40,_,hm40,h40⟩:=Ys ht h (i:=40) (ty:=35) (off:=42) (n:=1) (by kernel_rfl)
 obtain ⟨v42,l42,h40,s42⟩:=Qhr h40
 have h40:=QP h40
 clear hm40
 obtain ⟨m41,_,hm41,h41⟩:=Ys ht h (i:=41) (ty:=26) (off:=43) (n:=3) (by kernel_rfl)
 obtain ⟨a43,a45,v44,g43,h41,n43,s43⟩:=rd_choice (fun m hm=>hK m (by omega)) h41
 have k43:cs[43]?=some (u8n a43):=QeW (n:=3) h41 (j:=0) (by decide)
 have k44:cs[44]?=some (v44):=QeW (n:=3) h41 (j:=1) (by decide)
 have k45:cs[45]?=some (u8n a45):=QeW (n:=3) h41 (j:=2) (by decide)
 clear hm41
 obtain ⟨m42,_,hm42,h42⟩:=Ys ht h (i:=42) (ty:=26) (off:=46) (n:=3) (by kernel_rfl)
 obtain ⟨a46,a48,v47,g46,h42,n46,s46⟩:=rd_choice (fun m hm=>hK m (by omega)) h42
 have k46:cs[46]?=some (u8n a46):=QeW (n:=3) h42 (j:=0) (by decide)
 have k47:cs[47]?=some (v47):=QeW (n:=3) h42 (j:=1) (by decide)
 have k48:cs[48]?=some (u8n a48):=QeW (n:=3) h42 (j:=2) (by decide)
 clear hm42
 obtain ⟨m43,_,hm43,h43⟩:=Ys ht h (i:=43) (ty:=9) (off:=49) (n:=1) (by kernel_rfl)
 obtain ⟨a49,h43⟩:=Qdr h43
 have h43:=QP h43
 clear hm43
 obtain ⟨m44,_,hm44,h44⟩:=Ys ht h (i:=44) (ty:=36) (off:=50) (n:=1) (by kernel_rfl)
 obtain ⟨a50,h44⟩:=rd_int8 h44
 have h44:=QP h44
 clear hm44
 refine ⟨.mk {pos:=l0.head?,mana:=a1,hp:=a2,name:=a3,inventory:=a4,color:=a5,testTy:=a6,testColor:=a8,test4:=l9,strings:=l10,nested:=a13,empty:=l14.head?,bool:=a15,s32:=a16,u32:=a17,s64:=a18,u64:=a19,s32a:=a20,u32a:=a21,s64a:=a22,u64a:=a23,bools:=l24,f:=a25,f2:=a26,f3:=a27,strings2:=l28,abilities:=l29,flex:=a30,test5:=l31,longs:=l32,doubles:=l33,parent:=a34,refs:=l35,singleWeak:=a36,weak:=l37,strong:=l38,coOwning:=a39,coOwnings:=l40,nonOwning:=a41,nonOwnings:=l42,uniqTy:=a43,uniqColor:=a45,ambTy:=a46,ambColor:=a48,enums:=a49,signedEnum:=a50} l0 l14 g11 g12 g6 g43 g46,?_,?_⟩
 ·rw[NormM]
  exact ⟨⟨rfl,rfl⟩,n11,n12,n6,n43,n46⟩
 ·rw[QaP]
  refine ⟨⟨v0,v7,v9,v10,v11,v12,v14,v24,v28,v29,v31,v32,v33,v35,v37,v38,v40,v42,v44,v47⟩,?_,⟨s0,s9,s10,s14,s24,s28,s29,s31,s32,s33,s35,s37,s38,s40,s42⟩,s11,s12,s6,s43,s46⟩
  refine List.ext_getElem? fun i=>?_
  match i with
  |0=>exact h0
  |1=>exact h1
  |2=>exact h2
  |3=>exact h3
  |4=>exact h4
  |5=>exact h5
  |6=>exact k6
  |7=>exact k7
  |8=>exact k8
  |9=>exact h7
  |10=>exact h8
  |11=>exact h9
  |12=>exact h10
  |13=>exact h11
  |14=>exact h12
  |15=>exact h13
  |16=>exact h14
  |17=>exact h15
  |18=>exact h16
  |19=>exact h17
  |20=>exact h18
  |21=>exact h19
  |22=>exact h20
  |23=>exact h21
  |24=>exact h22
  |25=>exact h23
  |26=>exact h24
  |27=>exact h25
  |28=>exact h26
  |29=>exact h27
  |30=>exact h28
  |31=>exact h29
  |32=>exact h30
  |33=>exact h31
  |34=>exact h32
  |35=>exact h33
  |36=>exact h34
  |37=>exact h35
  |38=>exact h36
  |39=>exact h37
  |40=>exact h38
  |41=>exact h39
  |42=>exact h40
  |43=>exact k43
  |44=>exact k44
  |45=>exact k45
  |46=>exact k46
  |47=>exact k47
  |48=>exact k48
  |49=>exact h43
  |50=>exact h44
  |i+51=>rw[List.getElem?_eq_none (by omega),List.getElem?_eq_none (by rw[Y4];omega)]
theorem rd_all:∀fuel:Nat,MonRd E enc w base spare held fuel:=fun fuel=>by
 induction fuel using Nat.strongRecOn with
 |ind n ih=>exact rd_step ih
end
end Go.Proofs
namespace Go.Proofs.YtihojnnfjoldnaaGreat
open Go Go.Vc Go.Proofs Go.ChangeShapes Go.WideShapes Go.ChangeAt Go.RowKit
theorem own:ownKnob Tryz.prog.godebug=none:=by kernel_rfl
theorem laidOut:laidOutB Tryz.prog=true:=by kernel_rfl
theorem und38:Tryz.prog.underlying 38=some (.struct (Tryz.prog.fieldsOf 38)):=by kernel_rfl
theorem und39:Tryz.prog.underlying 39=some (.int .u16):=by kernel_rfl
set_option maxRecDepth 100000 in
theorem lifted (os:Os) (started:os.Started) (H:Type) (enc:TypeId×Value->H):
  ReturnsInHanded {} Tryz.checked os 3 .any (Rows.fnMonsterReadSpec.pre6 enc Tryz.prog Tryz.f3 Rows.fnMonsterReadRow.domain false) (Rows.fnMonsterReadSpec.post enc Tryz.prog Tryz.f3 false true false false):=by
 refine returnsInHanded_of_change (C:=Tryz.checked) own started (by kernel_rfl) Tryz.func3
  (ChangeSpec.witness6 (enc:=enc) (C:=Tryz.checked) false ⟨#[],#[.agg z38,.int .u16 0],[]⟩ 8 (by kernel_rfl) (by kernel_rfl) (by kernel_rfl) (by kernel_rfl)) ?_
 intro W base args ds gs before hval0 hW hcnd _
 have hval:∀(j:Nat) t v,Tryz.f3.params[j]?=some t->args[j]?=some v->Value.okWide Tryz.prog W .any base t v:=hval0
 have hW':=hW
 obtain ⟨p,q,hA0,hV,rfl,hfz,hnd⟩:=hW
 have hA:DataW.TrodAll enc Tryz.prog W 0 (fun _=>true) true Tryz.f3.params.toList args.toList ds p:=hA0
 rw[Tryz.params3]at hA hval
 obtain ⟨v0,v1,d0,d1,p0,p1,rfl,rfl,rfl,h0,h1⟩:=trodAll_two hA
 obtain ⟨rfl,rfl⟩:=trodVars_none hV
 have h0k:=h0
 have h1k:=h1
 obtain ⟨n,rfl,rfl,rfl,wn⟩:=open_int und39 (hval 1 39 v1 rfl rfl) h1
 clear hA0 hval0
 simp only[List.append_nil]at hW'
 have hlt:∀x∈p0,x.block<W.heap.size:=fun x hx=>by simpa using hW'.lt x (by simpa using hx)
 have ha:∀W':World,Below W.heap.size W W'->DataW.Trod enc Tryz.prog W' 0 (fun b=>decide (b<W.heap.size)) true 38 v0 d0 p0:=
  fun W' hn=>Below.trod laidOut (by kernel_rfl) (of_decide_eq_true (by kernel_rfl)) h0k hn hlt
 have hb:∀W':World,DataW.Trod enc Tryz.prog W' 0 (fun b=>decide (b<W.heap.size)) true 39 (.int .u16 n) (.lit (.int .u16 n)) []:=fun W'=>shut_int und39 wn
 obtain ⟨cells,rfl,_⟩:=okWide_struct und38 (hval 0 38 v0 rfl rfl)
 obtain ⟨fuel,hf⟩:=h0
 obtain ⟨g,hN,hv⟩:=rd_all (E:=H) (enc:=enc) (w:=W) (base:=0) (spare:=fun _=>true) (held:=true) fuel _ _ hf
 have hv:QaP (Cut.of W.heap) g cells.toList:=hv
 obtain ⟨k,rfl,hk⟩:∃k:Nat,n=(k:Int)/\k<65536:=by
  simp[Lit.wf,IntKind.min,IntKind.max,IntKind.bits,IntKind.signed]at wn
  exact ⟨n.toNat,by omega,by omega⟩
 have main:=Qi9 (n:=k) (R:=fun v H'=>v= .bool true/\QaB W.heap H') (Cut.of_in W.heap) hv hN hk (fun H' hk=>⟨rfl,hk⟩)
 refine (main W rfl).mono fun e W' ⟨v,he,⟨hvt,hkeep⟩,henv⟩=>?_
 subst he;subst hvt
 have hnx:Below W.heap.size W W':=⟨henv.2.1,henv.1,henv.2.2,hkeep.size,fun i hi=>by
  rw[Array.getElem?_eq_getElem hi]
  exact hkeep i _ (Array.getElem?_eq_getElem hi)⟩
 exact ⟨_,rfl,⟨_,_,_,[],_,[],hW',trodAll_mk1 (shut_bool (by kernel_rfl) true),trodAll_mk2 (ha _ hnx) (hb _),rfl,hnx.frame _,fun h=>by cases h⟩⟩
end Go.Proofs.YtihojnnfjoldnaaGreat
namespace Go.Proofs.YtihojnnfjoldnaaGreat
open Go Go.Vc Go.Proofs Go.ChangeShapes Go.WideShapes Go.ChangeAt Go.RowKit
theorem limb1:Tryz.prog.inPlace 3=["math.Float32frombits", "math.Float64frombits", "math.Float64bits", "math.Float32bits"]:=by kernel_rfl
theorem limb2:Tryz.prog.unfollowed 3=true:=by kernel_rfl
theorem limb3:Tryz.prog.recurses 3=true:=by kernel_rfl
theorem limb4:Tryz.prog.varsNamed 3=[]:=by kernel_rfl
theorem closed:joinedFacts Tryz.prog 3 Tryz.f3 Rows.fnMonsterReadSpec Rows.fnMonsterReadRow=true:=by
 unfold joinedFacts
 rw[limb1,limb2,limb3,limb4]
 kernel_rfl
theorem named:Tryz.prog.funcNamed "pub-tablature/laws.FnMonsterRead" =some 3:=by kernel_rfl
theorem FnMonsterRead_holds:Rows.FnMonsterReadSaid:=
 OpenClaim.holds_of_wide 3 Tryz.f3 rfl rfl rfl rfl rfl rfl rfl ⟨rfl,rfl,rfl,rfl,rfl⟩ rfl rfl rfl rfl rfl named Tryz.func3 closed
  (of_decide_eq_true (by kernel_rfl)) (by unfold Func.isWrapper;first|(rw[if_pos (by decide+kernel)];kernel_rfl)|(rw[if_neg (by decide+kernel)];exact ⟨rfl,rfl⟩))
  (fun os started H enc _=>lifted os started H enc)
end Go.Proofs.YtihojnnfjoldnaaGreat
