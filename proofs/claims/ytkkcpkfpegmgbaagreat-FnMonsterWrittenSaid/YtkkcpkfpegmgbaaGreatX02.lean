/- WHAT IS PROVED: the given statement of FnMonsterWritten, whatever the input: this is part 2 of 14. No conditions. -/
import Derived.Test.YtkkcpkfpegmgbaaGreatX01
import Derived.Laws.Strings
import Derived.Laws.Small
import Derived.Laws.Pointers
import Derived.Laws.StructEq
import Derived.Laws.Cover3
set_option linter.all false
namespace Go.Vc
open Go
def Qf8:List Oper->List Nat
 |[]=>[]
 |o::os=>match o.dst with
  |some d=>d::Qf8 os
  |none=>Qf8 os
def YK:Code->List Nat
 |.region _ ops _=>Qf8 ops.toList
 |.seq a b=>YK a++YK b
 |.cond _ a b=>YK a++YK b
 |.block _ a=>YK a
 |.loop a=>YK a
 |_=>[]
def asgC (c:Code):List Nat:=YK c
def Qhu:Code->Bool
 |.seq a b=>Qhu a||Qhu b
 |.cond _ a b=>Qhu a||Qhu b
 |.block _ a=>Qhu a
 |.loop _=>true
 |_=>false
def QiU:List Oper->List Nat
 |[]=>[]
 |o::os=>match o.op,o.dst with
  |.assign _,some d=>d::QiU os
  |_,_=>QiU os
def opsAll:List Oper->List Nat
 |[]=>[]
 |o::os=>match o.op,o.dst with
  |.alloc _,some d=>d::opsAll os
  |_,_=>opsAll os
def closM:List Nat->List Oper->List Nat
 |acc,[]=>acc
 |acc,o::os=>closM (acc++[Qew acc o.after.toList]) os
def isCall (o:Oper):Bool:=
 match o.op with
 |.call c=>match c.callee with
  |.value _=>true
  |_=>false
 |_=>false
def isAlloc (o:Oper):Bool:=
 match o.op with
 |.alloc _=>true
 |_=>false
def multi2 (ms:List Nat) (i:Nat):Nat->List Oper->Bool
 |_,[]=>false
 |j,o::os=>(isCall o&&!has (ms.getD i 0) j&&!has (ms.getD j 0) i)||multi2 ms i (j+1) os
def multi1 (ms:List Nat) (all:List Oper):Nat->List Oper->Bool
 |_,[]=>false
 |i,o::os=>(isAlloc o&&multi2 ms i 0 all)||multi1 ms all (i+1) os
def multiR (ops:List Oper):Bool:=multi1 (closM [] ops) ops 0 ops
def interN (a b:List Nat):List Nat:=a.filter fun t=>memN t b
def uniq:List Nat->List Nat
 |[]=>[]
 |x::xs=>cond (memN x xs) (uniq xs) (x::uniq xs)
def cap1:Nat->Nat
 |0=>0
 |_+1=>1
def pe (id:Nat):Code->Nat->Nat
 |.exit j,_=>cond (Nat.beq id j) 1 0
 |.cond _ a b,n=>pe id a n+pe id b n
 |.block _ a,n=>pe id a n
 |.loop a,n=>pe id a n
 |.seq a b,n=>pe id a n+pe id b n
 |_,_=>0
def pn:Code->Nat
 |.seq a b=>Nat.mul (cap1 (pn a)) (pn b)
 |.cond _ a b=>pn a+pn b
 |.block id a=>pn a+pe id a 0
 |.loop _=>0
 |.exit _=>0
 |.ret=>0
 |.region _ ops draw=>cond draw (cond (multiR ops.toList) 2 1) 1
 |_=>1
def selK (asg:List Nat):Fr->List Nat->List Nat
 |[],_=>[]
 |(t,_)::L,seen=>cond (cond (memN t asg) (!memN t seen) false) (t::selK asg L (t::seen)) (selK asg L seen)
def daC:Code->List Nat
 |.region _ ops draw=>cond draw (cond (multiR ops.toList) (QiU ops.toList++opsAll ops.toList) (QiU ops.toList)) (QiU ops.toList)
 |.seq a b=>daC a++daC b
 |.cond _ a b=>cond (Nat.beq (pn a) 0) (daC b) (cond (Nat.beq (pn b) 0) (daC a) (interN (daC a) (daC b)))
 |.block id a=>cond (Nat.beq (pe id a 0) 0) (daC a) []
 |_=>[]
def freshK (L:Fr):List Nat->List Nat
 |[]=>[]
 |t::ts=>match QdD L t with
  |some _=>freshK L ts
  |none=>t::freshK L ts
def joinK (a:Code) (L:Fr):List Nat:=freshK L (uniq (daC a))++selK (asgC a) L []
def dropL (ws:List Nat):Fr->Fr
 |[]=>[]
 |(t,v)::L=>cond (memN t ws) (dropL ws L) ((t,v)::dropL ws L)
def lookL (L:Fr):List Nat->(List Value->Prop)->Prop
 |[],k=>k []
 |t::ts,k=>match QdD L t with
  |some v=>lookL L ts fun vs=>k (v::vs)
  |none=>False
def zipS:List Nat->List Value->Fr->Fr
 |t::ts,v::vs,L=>(t,v)::zipS ts vs L
 |_,_,L=>L
def thenQ (K:Fr->Qe->Prop) (Q:Exit->Fr->Qe->Prop):Exit->Fr->Qe->Prop
 |.normal=>K
 |e=>Q e
def blockQ (id:Nat) (Q:Exit->Fr->Qe->Prop):Exit->Fr->Qe->Prop
 |.exit j=>cond (Nat.beq j id) (Q .normal) (Q (.exit j))
 |e=>Q e
def vc (P:Program) (cal:FuncId->Bool) (N:Nat):Code->Fr->Qe->(Exit->Fr->Qe->Prop)->Prop
 |.skip,L,H,Q=>Q .normal L H
 |.region _ ops draw,L,H,Q=>cond draw (vReg P cal N ops.toList L H (Q .normal)) (vops P cal N ops.toList ops.toList L H (Q .normal))
 |.seq a b,L,H,Q=>cond (Nat.ble (pn a) 1&&!Qhu a)
   (vc P cal N a L H (thenQ (fun L' H'=>vc P cal N b L' H' Q) Q))
   (QD (fun M=>vc P cal N a L H (thenQ (fun L' H'=>lookL L' (joinK a L) fun vs=>M vs H') Q))
    (fun M=>allV (joinK a L).length fun vs=>∀H',M vs H'->vc P cal N b (zipS (joinK a L) vs (dropL (YK a) L)) H' Q))
 |.cond c a b,L,H,Q=>evK L c fun v=>IfK v (vc P cal N a L H Q) (vc P cal N b L H Q)
 |.block id a,L,H,Q=>vc P cal N a L H (blockQ id Q)
 |.loop a,L,H,Q=>lookL L (selK (asgC a) L []) fun vs0=>Yu vs0 H fun I n=>
   allV (selK (asgC a) L []).length fun vs=>∀H',I n vs H'->
    vc P cal N a (zipS (selK (asgC a) L []) vs (dropL (YK a) L)) H' (thenQ (fun L' H''=>lookL L' (selK (asgC a) L []) fun vs'=>QS I n vs' H'') Q)
 |.exit id,L,H,Q=>Q (.exit id) L H
 |.ret,L,H,Q=>Q .ret L H
 |_,_,_,_=>False
theorem allV_iff {p:List Value->Prop}:∀{n:Nat},allV n p->∀vs,vs.length=n->p vs:=by
 intro n
 induction n generalizing p with
 |zero=>intro h vs hl;cases vs with
  |nil=>exact h
  |cons v vs=>simp at hl
 |succ n ih=>intro h vs hl;cases vs with
  |nil=>simp at hl
  |cons v vs=>exact ih (h v) vs (by simpa using hl)
def Looks (L:Fr):List Nat->List Value->Prop
 |[],[]=>True
 |t::ts,v::vs=>QdD L t=some v/\Looks L ts vs
 |_,_=>False
theorem Looks.length {L:Fr}:∀{ts:List Nat} {vs:List Value},Looks L ts vs->vs.length=ts.length
 |[],[],_=>rfl
 |t::ts,v::vs,h=>by simp[h.2.length]
 |[],_::_,h=>h.elim
 |_::_,[],h=>h.elim
theorem Qi9 {L:Fr}:∀{ts:List Nat} {k:List Value->Prop},lookL L ts k->∃vs,Looks L ts vs/\k vs
 |[],k,h=>⟨[],trivial,h⟩
 |t::ts,k,h=>by
  unfold lookL at h
  cases hl:QdD L t with
  |none=>simp[hl]at h
  |some v=>
   simp only[hl]at h
   obtain ⟨vs,h1,h2⟩:=Qi9 h
   exact ⟨v::vs,⟨hl,h1⟩,h2⟩
theorem look_zipS {L0 L:Fr} {t:Nat} {u:Value}:∀{ts:List Nat} {vs:List Value},Looks L0 ts vs->QdD (zipS ts vs L) t=some u->QdD L0 t=some u\/(t∉ts/\QdD L t=some u)
 |[],[],_,h=>.inr ⟨by simp,h⟩
 |s::ts,v::vs,hl,h=>by
  simp only[zipS,QdD]at h
  cases hb:Nat.beq s t with
  |true=>
   have:=Nat.eq_of_beq_eq_true hb;subst this
   simp only[hb,cond_true,Option.some.injEq]at h;subst h
   exact .inl hl.1
  |false=>
   simp only[hb,cond_false]at h
   rcases look_zipS hl.2 h with h'|⟨h1,h2⟩
   ·exact .inl h'
   ·exact .inr ⟨fun hm=>by
     rcases List.mem_cons.1 hm with rfl|hm
     ·simp at hb
     ·exact h1 hm,h2⟩
 |[],_::_,h,_=>h.elim
 |_::_,[],h,_=>h.elim
theorem QiX {L:Fr} {t:Nat}:∀{ts:List Nat} {vs:List Value},t∉ts->QdD (zipS ts vs L) t=QdD L t
 |[],_,_=>by simp[zipS]
 |_::_,[],_=>by simp[zipS]
 |s::ts,v::vs,h=>by
  simp only[zipS,QdD]
  have:Nat.beq s t=false:=by
   cases hb:Nat.beq s t with
   |false=>rfl
   |true=>exact absurd (by rw[<-Nat.eq_of_beq_eq_true hb];simp) h
  rw[this]
  exact QiX fun hm=>h (by simp[hm])
theorem QgI {ws:List Nat} {t:Nat}:∀{L:Fr},QdD (dropL ws L) t=if t∈ws then none else QdD L t
 |[]=>by simp[dropL,QdD]
 |(s,v)::L=>by
  unfold dropL
  cases hm:memN s ws with
  |true=>
   have hm':=Qfs.1 hm
   simp only[cond_true,QgI (L:=L),QdD]
   cases hb:Nat.beq s t with
   |true=>
    have:=Nat.eq_of_beq_eq_true hb;subst this
    simp[hm']
   |false=>rfl
  |false=>
   have hm':s∉ws:=fun h=>by rw[Qfs.2 h]at hm;cases hm
   simp only[cond_false,QdD,QgI (L:=L)]
   cases hb:Nat.beq s t with
   |true=>
    have:=Nat.eq_of_beq_eq_true hb;subst this
    simp[hm']
   |false=>rfl
theorem selK_sub {asg:List Nat}:∀{L:Fr} {seen:List Nat},∀t∈selK asg L seen,t∈asg
 |[],_,t,h=>by simp[selK]at h
 |(s,v)::L,seen,t,h=>by
  unfold selK at h
  cases hc:cond (memN s asg) (!memN s seen) false with
  |true=>
   rw[hc]at h
   rcases List.mem_cons.1 h with rfl|h
   ·cases hm:memN t asg with
    |true=>exact Qfs.1 hm
    |false=>simp[hm]at hc
   ·exact selK_sub t h
  |false=>
   rw[hc]at h
   exact selK_sub t h
theorem asgC_sub {c:Code}:∀t∈asgC c,t∈YK c:=fun _ h=>h
theorem opsDst_mem {ops:List Oper}:∀o∈ops,∀t,o.dst=some t->t∈Qf8 ops:=by
 induction ops with
 |nil=>intro o h;cases h
 |cons p ps ih=>
  intro o h t ht
  unfold Qf8
  rcases List.mem_cons.1 h with rfl|h
  ·rw[ht];simp
  ·cases hd:p.dst with
   |none=>exact ih o h t ht
   |some d=>simp[ih o h t ht]
theorem join_look {ts ws:List Nat} {L L':Fr} {vs:List Value} (hl:Looks L' ts vs) (hs:Qgp ws L L') {t:Nat} {u:Value}
  (h:QdD (zipS ts vs (dropL ws L)) t=some u):QdD L' t=some u:=by
 rcases look_zipS hl h with h'|⟨_,h'⟩
 ·exact h'
 ·rw[QgI]at h'
  split at h'
  ·cases h'
  ·rename_i hn;rw[hs t hn];exact h'
theorem join_same {ts ws ws':List Nat} {L:Fr} {vs:List Value} (hsub:∀t∈ts,t∈ws) (hw:∀t∈ws,t∈ws'):Qgp ws' L (zipS ts vs (dropL ws L)):=by
 intro t ht
 have h1:t∉ws:=fun h=>ht (hw t h)
 rw[QiX fun h=>h1 (hsub t h),QgI,if_neg h1]
theorem QdQ:∀{ops:List Oper},∀t∈QiU ops,t∈Qf8 ops
 |[],t,h=>by simp[QiU]at h
 |o::os,t,h=>by
  unfold QiU at h
  unfold Qf8
  split at h
  ·rename_i d _ hd
   rw[hd]
   rcases List.mem_cons.1 h with rfl|h
   ·simp
   ·simp[QdQ t h]
  ·cases hd:o.dst with
   |none=>exact QdQ t h
   |some d=>simp[QdQ t h]
theorem QgC:∀{ops:List Oper},∀t∈opsAll ops,t∈Qf8 ops
 |[],t,h=>by simp[opsAll]at h
 |o::os,t,h=>by
  unfold opsAll at h
  unfold Qf8
  split at h
  ·rename_i d _ hd
   rw[hd]
   rcases List.mem_cons.1 h with rfl|h
   ·simp
   ·simp[QgC t h]
  ·cases hd:o.dst with
   |none=>exact QgC t h
   |some d=>simp[QgC t h]
theorem daC_sub:∀{c:Code},∀t∈daC c,t∈YK c:=by
 intro c
 induction c with
 |region id ops draw=>
  intro t h
  simp only[daC,YK]at h⊢
  cases draw<;>simp only[cond_true,cond_false]at h
  ·exact QdQ t h
  ·cases hm:multiR ops.toList<;>rw[hm]at h<;>simp only[cond_true,cond_false,List.mem_append]at h
   ·exact QdQ t h
   ·exact h.elim (QdQ t) (QgC t)
 |seq a b iha ihb=>intro t h;simp only[daC,YK,List.mem_append]at h⊢;exact h.imp (iha t) (ihb t)
 |cond c a b iha ihb=>
  intro t h
  simp only[daC,YK,List.mem_append]at h⊢
  cases h1:Nat.beq (pn a) 0<;>rw[h1]at h<;>simp only[cond_true,cond_false]at h
  ·cases h2:Nat.beq (pn b) 0<;>rw[h2]at h<;>simp only[cond_true,cond_false]at h
   ·exact .inl (iha t (List.mem_filter.1 h).1)
   ·exact .inl (iha t h)
  ·exact .inr (ihb t h)
 |block id a ih=>
  intro t h
  simp only[daC,YK]at h⊢
  cases h1:Nat.beq (pe id a 0) 0<;>rw[h1]at h<;>simp only[cond_true,cond_false,List.not_mem_nil]at h
  exact ih t h
 |_=>intro t h;simp[daC]at h
theorem uniq_sub:∀{l:List Nat},∀t∈uniq l,t∈l
 |[],t,h=>by simp[uniq]at h
 |x::xs,t,h=>by
  unfold uniq at h
  cases hm:memN x xs<;>rw[hm]at h<;>simp only[cond_true,cond_false,List.mem_cons]at h⊢
  ·exact h.imp id (uniq_sub t)
  ·exact .inr (uniq_sub t h)
theorem QiP {L:Fr}:∀{l:List Nat},∀t∈freshK L l,t∈l
 |[],t,h=>by simp[freshK]at h
 |x::xs,t,h=>by
  unfold freshK at h
  split at h
  ·exact List.mem_cons_of_mem _ (QiP t h)
  ·rcases List.mem_cons.1 h with rfl|h
   ·simp
   ·exact List.mem_cons_of_mem _ (QiP t h)
theorem joinK_sub {a:Code} {L:Fr}:∀t∈joinK a L,t∈YK a:=by
 intro t h
 unfold joinK at h
 rcases List.mem_append.1 h with h|h
 ·exact daC_sub t (uniq_sub t (QiP t h))
 ·exact asgC_sub t (selK_sub t h)
theorem Qgp.trans {ws:List Nat} {A B C:Fr} (h:Qgp ws A B) (g:Qgp ws B C):Qgp ws A C:=fun t ht=>(g t ht).trans (h t ht)
theorem Qgp.mono {ws ws':List Nat} {A B:Fr} (h:Qgp ws A B) (hw:∀t∈ws,t∈ws'):Qgp ws' A B:=fun t ht=>h t fun h'=>ht (hw t h')
def Post (N:Nat) (ws:List Nat) (L:Fr) (w:World) (Q:Exit->Fr->Qe->Prop) (e:Exit) (a':Act) (w':World):Prop:=
 ∃L',Qdu N L' a'/\Qgp ws L L'/\Q e L' w'.heap/\Env w w'
theorem vc_sound {P:Program} {cal:FuncId->Bool} (hcal:CalOk P cal) {N:Nat}:∀(c:Code) {L:Fr} {a:Act} {w:World} {Q:Exit->Fr->Qe->Prop},Qdu N L a->
  vc P cal N c L w.heap Q->c.wp P (Post N (YK c) L w Q) a w:=by
 intro c
 induction c with
 |skip=>intro L a w Q ha h;exact wp_skip ⟨L,ha,Qgp.refl _ _,h,Env.refl w⟩
 |region id ops draw=>
  intro L a w Q ha h
  unfold vc at h
  cases draw with
  |true=>
   simp only[cond_true]at h
   have:=vReg_sound (id:=id) (ws:=Qf8 ops.toList) (L0:=L) (Q:=Post N (Qf8 ops.toList) L w Q) hcal ha opsDst_mem (Qgp.refl _ _) (fun L' a' w' h1 h2 h3 h4=>⟨L',h1,h2,h3,h4⟩) h
   simpa [YK]using this
  |false=>
   simp only[cond_false]at h
   have:=QiE (ws:=Qf8 ops.toList) (L0:=L) (w0:=w) (Q:=Post N (Qf8 ops.toList) L w Q) hcal (fun L' a' w' h1 h2 h3 h4=>⟨L',h1,h2,h3,h4⟩) ops.toList L a w opsDst_mem ha (Qgp.refl _ _) (Env.refl w) h
   exact wp_region_list (by simpa [YK]using this)
 |seq x y ihx ihy=>
  intro L a w Q ha h
  unfold vc at h
  cases hc:(Nat.ble (pn x) 1&&!Qhu x) with
  |true=>
   simp only[hc,cond_true]at h
   refine wp_seq (wp_mono (ihx ha h) ?_)
   rintro e a' w' ⟨L',hL',hs,hq,he⟩
   have other:Q e L' w'.heap->Post N (YK (.seq x y)) L w Q e a' w':=fun hq=>⟨L',hL',hs.mono (by simp only[YK];intro t ht;simp[ht]),hq,he⟩
   cases e with
   |normal=>
    refine wp_mono (ihy hL' hq) ?_
    rintro e a'' w'' ⟨L'',hL'',hs',hq',he'⟩
    exact ⟨L'',hL'',(hs.mono (by simp only[YK];intro t ht;simp[ht])).trans (hs'.mono (by simp only[YK];intro t ht;simp[ht])),hq',he.trans he'⟩
   |exit id=>exact other hq
   |goto l=>exact other hq
   |ret=>exact other hq
   |panic ch=>exact other hq
   |outgrown=>exact other hq
  |false=>
   simp only[hc,cond_false]at h
   obtain ⟨M,h1,h2⟩:=h
   refine wp_seq (wp_mono (ihx ha h1) ?_)
   rintro e a' w' ⟨L',hL',hs,hq,he⟩
   have other:Q e L' w'.heap->Post N (YK (.seq x y)) L w Q e a' w':=fun hq=>⟨L',hL',hs.mono (by simp only[YK];intro t ht;simp[ht]),hq,he⟩
   cases e with
   |normal=>
    obtain ⟨vs,hvs,hM⟩:=Qi9 hq
    have hv:=allV_iff h2 vs hvs.length w'.heap hM
    have hold:Qdu N (zipS (joinK x L) vs (dropL (YK x) L)) a':=⟨hL'.d,hL'.n,fun t u ht=>hL'.r t u (join_look hvs hs ht)⟩
    refine wp_mono (ihy hold hv) ?_
    rintro e a'' w'' ⟨L'',hL'',hs',hq',he'⟩
    exact ⟨L'',hL'',(join_same joinK_sub (by simp only[YK];intro t ht;simp[ht])).trans (hs'.mono (by simp only[YK];intro t ht;simp[ht])),hq',he.trans he'⟩
   |exit id=>exact other hq
   |goto l=>exact other hq
   |ret=>exact other hq
   |panic ch=>exact other hq
   |outgrown=>exact other hq
 |cond c x y ihx ihy=>
  intro L a w Q ha h
  unfold vc at h
  obtain ⟨v,hv,h⟩:=QeH.1 h
  unfold IfK at h
  split at h
  ·refine wp_cond_true (ha.ev hv) (wp_mono (ihx ha h) ?_)
   rintro e a' w' ⟨L',hL',hs,hq,he⟩
   exact ⟨L',hL',hs.mono (by simp only[YK];intro t ht;simp[ht]),hq,he⟩
  ·refine wp_cond_false (ha.ev hv) (wp_mono (ihy ha h) ?_)
   rintro e a' w' ⟨L',hL',hs,hq,he⟩
   exact ⟨L',hL',hs.mono (by simp only[YK];intro t ht;simp[ht]),hq,he⟩
  ·exact h.elim
 |block id x ih=>
  intro L a w Q ha h
  refine wp_block (wp_mono (ih ha h) ?_)
  rintro e a' w' ⟨L',hL',hs,hq,he⟩
  cases e with
  |exit j=>
   simp only[Exit.inBlock]
   simp only[blockQ]at hq
   cases hb:Nat.beq j id with
   |true=>
    rw[if_pos (Nat.eq_of_beq_eq_true hb)]
    rw[hb]at hq
    exact ⟨L',hL',hs,hq,he⟩
   |false=>
    rw[if_neg (fun e=>by subst e;simp at hb)]
    rw[hb]at hq
    exact ⟨L',hL',hs,hq,he⟩
  |normal=>exact ⟨L',hL',hs,hq,he⟩
  |goto l=>exact ⟨L',hL',hs,hq,he⟩
  |ret=>exact ⟨L',hL',hs,hq,he⟩
  |panic ch=>exact ⟨L',hL',hs,hq,he⟩
  |outgrown=>exact ⟨L',hL',hs,hq,he⟩
 |loop x ih=>
  intro L a w Q ha h
  unfold vc at h
  obtain ⟨vs0,hvs0,I,⟨n0,hI0⟩,hbody⟩:=Qi9 h
  have key:∀n,∀(vs:List Value) (L':Fr) (a':Act) (w':World),Qdu N L' a'->Qgp (YK x) L L'->Looks L' (selK (asgC x) L []) vs->I n vs w'.heap->Env w w'->
    (Code.loop x).wp P (Post N (YK x) L w Q) a' w':=by
   intro n0 vs0 L0 a0 w0 h1 h2 h3 h4 h5
   refine wp_loop (fun a' w'=>∃n vs L',Qdu N L' a'/\Qgp (YK x) L L'/\Looks L' (selK (asgC x) L []) vs/\I n vs w'.heap/\Env w w')
    (fun a' w'=>Classical.epsilon fun m=>(∃vs L',Qdu N L' a'/\Qgp (YK x) L L'/\Looks L' (selK (asgC x) L []) vs/\I m vs w'.heap/\Env w w')/\
     ∀k,(∃vs L',Qdu N L' a'/\Qgp (YK x) L L'/\Looks L' (selK (asgC x) L []) vs/\I k vs w'.heap/\Env w w')->m<=k) ⟨n0,vs0,L0,h1,h2,h3,h4,h5⟩ ?_
   intro a' w' hex
   let R:Act->World->Nat->Prop:=fun a' w' m=>∃vs L',Qdu N L' a'/\Qgp (YK x) L L'/\Looks L' (selK (asgC x) L []) vs/\I m vs w'.heap/\Env w w'
   have least:∀a' w',(∃m,R a' w' m)->∃m,R a' w' m/\∀k,R a' w' k->m<=k:=by
    intro a' w' ⟨m,hm⟩
    induction m using Nat.strongRecOn with
    |_ m ihm=>
     by_cases hlt:∃k,k<m/\R a' w' k
     ·obtain ⟨k,hk,hR⟩:=hlt;exact ihm k hk hR
     ·exact ⟨m,hm,fun k hk=>by
       rcases Nat.lt_or_ge k m with h|h
       ·exact absurd ⟨k,h,hk⟩ hlt
       ·exact h⟩
   have hsp:=Classical.epsilon_spec (least a' w' hex)
   generalize hm:(Classical.epsilon fun m=>R a' w' m/\∀k,R a' w' k->m<=k)=m at hsp
   obtain ⟨⟨vs,L',g1,g2,g3,g4,g5⟩,_⟩:=hsp
   have hv:=allV_iff (hbody m) vs g3.length w'.heap g4
   have hold:Qdu N (zipS (selK (asgC x) L []) vs (dropL (YK x) L)) a':=⟨g1.d,g1.n,fun t u ht=>g1.r t u (join_look g3 g2 ht)⟩
   refine wp_mono (ih hold hv) ?_
   rintro e a'' w'' ⟨L'',k1,k2,k3,k4⟩
   have k2':Qgp (YK x) L L'':=(join_same (fun t h=>asgC_sub t (selK_sub t h)) (fun _ h=>h)).trans k2
   cases e with
   |normal=>
    obtain ⟨vs',hvs',m',hm',hI'⟩:=Qi9 k3
    have hR:R a'' w'' m':=⟨vs',L'',k1,k2',hvs',hI',g5.trans k4⟩
    refine ⟨⟨m',hR⟩,?_⟩
    have hsp':=Classical.epsilon_spec (least a'' w'' ⟨m',hR⟩)
    show Classical.epsilon (fun m=>R a'' w'' m/\∀k,R a'' w'' k->m<=k)<m
    exact Nat.lt_of_le_of_lt (hsp'.2 m' hR) hm'
   |exit id=>exact ⟨L'',k1,k2',k3,g5.trans k4⟩
   |goto l=>exact ⟨L'',k1,k2',k3,g5.trans k4⟩
   |ret=>exact ⟨L'',k1,k2',k3,g5.trans k4⟩
   |panic ch=>exact ⟨L'',k1,k2',k3,g5.trans k4⟩
   |outgrown=>exact ⟨L'',k1,k2',k3,g5.trans k4⟩
  exact key n0 vs0 L a w ha (Qgp.refl _ _) hvs0 hI0 (Env.refl w)
 |exit id=>intro L a w Q ha h;exact wp_exit ⟨L,ha,Qgp.refl _ _,h,Env.refl w⟩
 |ret=>intro L a w Q ha h;exact wp_ret ⟨L,ha,Qgp.refl _ _,h,Env.refl w⟩
 |_=>intro L a w Q ha h;exact h.elim
def resL (P:Program) (L:Fr) (H:Qe):List ResultVar->(List Value->Prop)->Prop
 |[],k=>k []
 |.tmp t::rs,k=>match QdD L t with
  |some v=>resL P L H rs fun vs=>k (v::vs)
  |none=>False
 |.cell t T::rs,k=>match QdD L t with
  |some a=>match aggQ P T,QeT P T with
   |some true,some n=>LdN H n a fun v=>resL P L H rs fun vs=>k (v::vs)
   |some false,_=>LdK H a fun v=>resL P L H rs fun vs=>k (v::vs)
   |_,_=>False
  |none=>False
def oneV:List Value->Value
 |[v]=>v
 |vs=>.tuple vs.toArray
def retQ (P:Program) (rs:List ResultVar) (R:Kn):Exit->Fr->Qe->Prop
 |.normal,L,H=>resL P L H rs fun vs=>R (oneV vs) H
 |.ret,L,H=>resL P L H rs fun vs=>R (oneV vs) H
 |_,_,_=>False
def enumF:Nat->List Value->Fr
 |_,[]=>[]
 |i,v::vs=>(i,v)::enumF (i+1) vs
def vcF (P:Program) (cal:FuncId->Bool) (fn:Func) (args:List Value) (H:Qe) (R:Kn):Prop:=
 match fn.body with
 |some c=>cond (Nat.ble args.length fn.ntmps) (vc P cal fn.ntmps c (enumF 0 args) H (retQ P fn.results.toList R)) False
 |none=>False
theorem resL_run {P:Program} {L:Fr} {a:Act} {w:World} {N:Nat} (ha:Qdu N L a):∀{rs:List ResultVar} {k:List Value->Prop},resL P L w.heap rs k->
  ∃vs:List Value,vs.length=rs.length/\(rs.mapM fun
   |ResultVar.tmp t=>(pure (a.tmps.getD t undef):Sem Value)
   |.cell x t=>do loadVar t (<-asAddr (a.tmps.getD x undef))).run P w= .ok vs w/\k vs
 |[],k,h=>⟨[],rfl,by simp,h⟩
 |.tmp t::rs,k,h=>by
  unfold resL at h
  cases hl:QdD L t with
  |none=>simp[hl]at h
  |some v=>
   simp only[hl]at h
   obtain ⟨vs,h1,h2,h3⟩:=resL_run ha h
   exact ⟨v::vs,by simp[h1],by simp only[List.mapM_cons,Sem.run_bind,Sem.run_pure,Result.andThen_ok,ha.r t v hl,h2],h3⟩
 |.cell t T::rs,k,h=>by
  unfold resL at h
  cases hl:QdD L t with
  |none=>simp[hl]at h
  |some v=>
   simp only[hl]at h
   split at h
   ·rename_i n hag hs
    unfold LdN at h
    split at h
    ·rename_i ad
     split at h
     ·rename_i us hus
      obtain ⟨vs,h1,h2,h3⟩:=resL_run ha h
      refine ⟨.agg us.toArray::vs,by simp[h1],?_,h3⟩
      have hx:(do loadVar T (<-asAddr (a.tmps.getD t undef)):Sem Value).run P w= .ok (.agg us.toArray) w:=by
       rw[ha.r t _ hl]
       simp only[asAddr,Sem.run_bind,Sem.run_pure,Result.andThen_ok,loadVar,QgO hag,if_true,YZ hs,QcK hus]
      rw[List.mapM_cons,Sem.run_bind]
      refine (congrArg (fun r=>Result.andThen r _) hx).trans ?_
      simp only[Result.andThen_ok,Sem.run_bind,h2,Sem.run_pure]
     ·exact h.elim
    ·exact h.elim
   ·rename_i hag
    unfold LdK at h
    split at h
    ·rename_i ad
     split at h
     ·rename_i u hu
      obtain ⟨vs,h1,h2,h3⟩:=resL_run ha h
      refine ⟨u::vs,by simp[h1],?_,h3⟩
      have hx:(do loadVar T (<-asAddr (a.tmps.getD t undef)):Sem Value).run P w= .ok u w:=by
       rw[ha.r t _ hl]
       simp only[asAddr,Sem.run_bind,Sem.run_pure,Result.andThen_ok,loadVar,QgO hag,Bool.false_eq_true,if_false]
       rw[Qfi hu]
      rw[List.mapM_cons,Sem.run_bind]
      refine (congrArg (fun r=>Result.andThen r _) hx).trans ?_
      simp only[Result.andThen_ok,Sem.run_bind,h2,Sem.run_pure]
     ·exact h.elim
    ·exact h.elim
   ·exact h.elim
theorem look_enumF {vs:List Value}:∀{i t:Nat} {v:Value},QdD (enumF i vs) t=some v->i<=t/\vs[t-i]?=some v:=by
 induction vs with
 |nil=>intro i t v h;simp[enumF,QdD]at h
 |cons u vs ih=>
  intro i t v h
  simp only[enumF,QdD]at h
  cases hb:Nat.beq i t with
  |true=>
   have:=Nat.eq_of_beq_eq_true hb;subst this
   simp only[hb,cond_true,Option.some.injEq]at h;subst h
   simp
  |false=>
   simp only[hb,cond_false]at h
   obtain ⟨h1,h2⟩:=ih h
   refine ⟨by omega,?_⟩
   have:t-i=(t-(i+1))+1:=by omega
   rw[this];simpa using h2
theorem fn_of_vc {P:Program} {cal:FuncId->Bool} (hcal:CalOk P cal) {f:FuncId} {fn:Func} (hf:P.funcs[f]?=some fn) {args:List Value} {H:Qe} {R:Kn}
  (h:vcF P cal fn args H R):FnS P f args.toArray H R:=by
 intro w hw
 subst hw
 unfold vcF at h
 split at h
 ·rename_i c hc
  cases hb:Nat.ble args.length fn.ntmps with
  |false=>simp[hb]at h
  |true=>
   simp only[hb,cond_true]at h
   have hle:=Nat.le_of_ble_eq_true hb
   have hold:Qdu fn.ntmps (enumF 0 args) {tmps:=args.toArray++Array.replicate (fn.ntmps-args.toArray.size) undef,defers:=[]}:=by
    refine ⟨rfl,by simp;omega,fun t v ht=>?_⟩
    obtain ⟨_,h2⟩:=look_enumF ht
    simp only[Nat.sub_zero]at h2
    have hlt:t<args.length:=(List.getElem?_eq_some_iff.1 h2).1
    have h3:args[t]=v:=by rw[List.getElem?_eq_getElem hlt]at h2;exact Option.some.inj h2
    simp[Array.getD,Array.getElem_append,hlt,h3]
    omega
   refine calls_of_wp hf hc (wp_mono (vc_sound hcal c hold h) ?_)
   rintro e a' w' ⟨L',hL',_,hq,he⟩
   have fin:(resL P L' w'.heap fn.results.toList fun vs=>R (oneV vs) w'.heap)->a'.defers=[]/\∃v,(results fn a'.tmps).run P w'= .ok v w'/\∃u,Ending.returned v= .returned u/\R u w'.heap/\Env w w':=by
    intro hq
    obtain ⟨vs,h1,h2,h3⟩:=resL_run hL' hq
    refine ⟨hL'.d,oneV vs,?_,oneV vs,rfl,h3,he⟩
    unfold results
    rw[Array.mapM_eq_mapM_toList]
    simp only[Sem.run_bind,Sem.run_map,Sem.run_pure]
    refine (congrArg (fun r=>Result.andThen (Result.andThen r fun a w'=>Result.ok a.toArray w') _) h2).trans ?_
    simp only[Result.andThen_ok]
    congr 1
    match vs with
    |[]=>rfl
    |[v]=>rfl
    |v::u::us=>simp[oneV]
   cases e with
   |normal=>exact fin hq
   |ret=>exact fin hq
   |exit id=>exact hq.elim
   |goto l=>exact hq.elim
   |panic ch=>exact hq.elim
   |outgrown=>exact hq.elim
 ·exact h.elim
end Go.Vc
namespace Go.Vc
open Go
section rules
variable {P:Program} {H H':Qe} {k:Value->Prop} {kh:Kn} {kp:Qe->Prop}
theorem Qs {a:Addr}:Q3 (.pointer (some a)) k=k (.pointer (some a)):=rfl
theorem Qm {b n:Nat}:Qg (.pointer (some ⟨b,0,none⟩)) n k=k (.pointer (some ⟨b,n,none⟩)):=by
 unfold Qg;simp only[Addr.add]
 cases n with
 |zero=>rfl
 |succ n=>simp
theorem QdA {b o n:Nat}:Qg (.pointer (some ⟨b,o,none⟩)) n k=k (.pointer (some ⟨b,o+n,none⟩)):=by
 unfold Qg;simp only[Addr.add]
 cases n with
 |zero=>rfl
 |succ n=>simp
theorem Ql {a:Addr} {v:Value} (h:QaW H a=some v):LdK H (.pointer (some a)) k=k v:=by unfold LdK;simp only[h]
theorem YI {a:Addr} {n:Nat} {vs:List Value} (h:Zf H a 0 n=some vs):LdN H n (.pointer (some a)) k=k (.agg vs.toArray):=by unfold LdN;simp only[h]
theorem Qy {o:Obj}:Y5 H o kh=kh (.pointer (some ⟨H.size,0,none⟩)) (H.push o):=rfl
theorem QH {κ κ':IntKind} {n:Int}:QK κ (.int κ' n) k=k (.int κ (κ.wrap n)):=rfl
theorem QbK {a:Option Addr} {n c:Nat}:Yv (.slice a n c) k=k (.int .i64 n):=rfl
theorem Qdo {s:ByteArray}:QeL (.string s) k=k (.int .i64 s.size):=rfl
theorem CapK_sl {a:Option Addr} {n c:Nat}:CapK (.slice a n c) k=k (.int .i64 c):=rfl
theorem QhD {a b:Value}:QgT (.tuple #[a,b]) 0 k=k a:=rfl
theorem Qhw {a b:Value}:QgT (.tuple #[a,b]) 1 k=k b:=rfl
theorem Ye {a b:Value}:Yd (.bool true) a b k=k a:=rfl
theorem YY {a b:Value}:Yd (.bool false) a b k=k b:=rfl
theorem QbS {t e:Prop}:IfK (.bool true) t e=t:=rfl
theorem ZG {t e:Prop}:IfK (.bool false) t e=e:=rfl
theorem Yb {p:Prop} [Decidable p] {t e:Prop} (h:p):IfK (.bool (decide p)) t e=t:=by rw[decide_eq_true h];rfl
theorem QM {p:Prop} [Decidable p] {t e:Prop} (h:¬p):IfK (.bool (decide p)) t e=e:=by rw[decide_eq_false h];rfl
theorem Y9 {b:Bool} {t e:Prop} (h1:b=true->t) (h2:b=false->e):IfK (.bool b) t e:=by
 cases b
 ·exact h2 rfl
 ·exact h1 rfl
theorem Zd {p:Prop} [Decidable p] {t e:Prop} (h1:p->t) (h2:¬p->e):IfK (.bool (decide p)) t e:=
 Y9 (fun h=>h1 (of_decide_eq_true h)) (fun h=>h2 (of_decide_eq_false h))
theorem Qb {q:Prop}:Qi H H q=q:=propext ⟨fun h=>h.2,fun h=>⟨Qji.refl H,h⟩⟩
theorem Qn {q:Prop} (h:Qji H H') (hq:q):Qi H H' q:=⟨h,hq⟩
theorem QU {op:(Kn)->Prop}:Qc (.bool true) true op H kh=op kh:=propext ⟨fun h=>h.ok,fun h=>⟨h⟩⟩
theorem Y0 {op:(Kn)->Prop}:Qc (.bool false) false op H kh=op kh:=propext ⟨fun h=>h.ok,fun h=>⟨h⟩⟩
theorem Y8 {op:(Kn)->Prop}:Qc (.bool false) true op H kh=kh undef H:=propext ⟨fun h=>h.ok,fun h=>⟨h⟩⟩
theorem Yz {op:(Kn)->Prop}:Qc (.bool true) false op H kh=kh undef H:=propext ⟨fun h=>h.ok,fun h=>⟨h⟩⟩
theorem Q0 {A B:(List Value->Qe->Prop)->Prop} (M:List Value->Qe->Prop) (h1:A M) (h2:B M):QD A B:=⟨M,h1,h2⟩
theorem SlcK_lo {es b o n c:Nat} {κ:IntKind} {l:Int} (h0:0<=l) (h1:l<=n) (h2:n<=c):
  Qey es (.slice (some ⟨b,o,none⟩) n c) (some (.int κ l)) none k=k (.slice (some ⟨b,if c=l.toNat then o else o+l.toNat*es,none⟩) (n-l.toNat) (c-l.toNat)):=by
 unfold Qey;simp only[Qbm]
 apply propext
 constructor
 ·rintro ⟨_,_,_,h⟩
  simp only[Int.toNat_natCast]at h
  split at h
  ·rename_i hc;rw[if_pos hc];exact h
  ·rename_i hc;rw[if_neg hc]
   simp only[Option.map_some,Addr.add]at h
   split at h
   ·rename_i hz;rw[hz];exact h
   ·exact h
 ·intro h
  refine ⟨h0,h1,by omega,?_⟩
  simp only[Int.toNat_natCast]
  split
  ·rename_i hc;rw[if_pos hc]at h;exact h
  ·rename_i hc;rw[if_neg hc]at h
   simp only[Option.map_some,Addr.add]
   split
   ·rename_i hz;rw[hz]at h;exact h
   ·exact h
theorem SlcK_hi {es:Nat} {a:Option Addr} {n c:Nat} {κ:IntKind} {l:Int} (h0:0<=l) (h1:l<=c):
  Qey es (.slice a n c) none (some (.int κ l)) k=k (.slice a l.toNat c):=by
 unfold Qey;simp only[Qbm]
 apply propext
 have e:(if c=(0:Int).toNat then a else a.map (·.add ((0:Int).toNat*es)))=a:=by
  split
  ·rfl
  ·cases a<;>simp[Addr.add]
 constructor
 ·rintro ⟨_,_,_,h⟩
  rw[show ((0:Nat):Int)=0 from rfl,e]at h
  simpa using h
 ·intro h
  refine ⟨by simp,by simpa using h0,h1,?_⟩
  rw[show ((0:Nat):Int)=0 from rfl,e]
  simpa using h
theorem Qgv {es b o n c:Nat} {κ κ':IntKind} {l h:Int} (h0:0<=l) (h1:l<=h) (h2:h<=c):
  Qey es (.slice (some ⟨b,o,none⟩) n c) (some (.int κ l)) (some (.int κ' h)) k=
   k (.slice (some ⟨b,if c=l.toNat then o else o+l.toNat*es,none⟩) (h.toNat-l.toNat) (c-l.toNat)):=by
 unfold Qey;simp only[Qbm]
 apply propext
 constructor
 ·rintro ⟨_,_,_,h⟩
  split at h
  ·rename_i hc;rw[if_pos hc];exact h
  ·rename_i hc;rw[if_neg hc]
   simp only[Option.map_some,Addr.add]at h
   split at h
   ·rename_i hz;rw[hz];exact h
   ·exact h
 ·intro h
  refine ⟨h0,h1,h2,?_⟩
  split
  ·rename_i hc;rw[if_pos hc]at h;exact h
  ·rename_i hc;rw[if_neg hc]at h
   simp only[Option.map_some,Addr.add]
   split
   ·rename_i hz;rw[hz]at h;exact h
   ·exact h
theorem QR {es b o n c:Nat} {κ:IntKind} {i:Int} (h0:0<=i) (h1:i<n):
  Y1 es (.slice (some ⟨b,o,none⟩) n c) (.int κ i) k=k (.pointer (some ⟨b,o+i.toNat*es,none⟩)):=by
 unfold Y1;simp only[Addr.add]
 apply propext
 constructor
 ·rintro ⟨_,_,h⟩
  split at h
  ·rename_i hz;rw[hz];exact h
  ·exact h
 ·intro h
  refine ⟨h0,h1,?_⟩
  split
  ·rename_i hz;rw[hz]at h;exact h
  ·exact h
theorem Qgm {op:BinOp} {t:TypeId} {x y v:Value} (h:∀(ox oy:Operand) (w:World),(do eqGuard op t ox oy x y;binOp op t x y:Sem Value).run P w= .ok v w):
  Qk P op t x y k=k v:=by
 apply propext
 constructor
 ·rintro ⟨u,hu,hk⟩
  have h1:=h (.tmp 0) (.tmp 0) default
  have h2:=hu (.tmp 0) (.tmp 0) default
  rw[h1]at h2
  simp only[Result.ok.injEq,and_true]at h2
  rw[h2];exact hk
 ·intro hk;exact ⟨v,h,hk⟩
theorem PureK_of {s:Sem Value} {v:Value} (h:∀w,s.run P w= .ok v w):ZI P s k=k v:=by
 apply propext
 constructor
 ·rintro ⟨u,hu,hk⟩
  have h1:=h default
  rw[hu default]at h1
  simp only[Result.ok.injEq,and_true]at h1
  rw[<-h1];exact hk
 ·intro hk;exact ⟨v,h,hk⟩
theorem guard_int {op:BinOp} {t:TypeId} {ox oy:Operand} {κ κ':IntKind} {a b:Int} {w:World}:(eqGuard op t ox oy (.int κ a) (.int κ' b)).run P w= .ok () w:=by
 unfold eqGuard
 cases op<;>rfl
theorem Qbx {op:BinOp} {t:TypeId} {κ:IntKind} {a b:Int} {v:Value} (h:∀w,(binOp op t (.int κ a) (.int κ b)).run P w= .ok v w):Qk P op t (.int κ a) (.int κ b) k=k v:=
 Qgm fun ox oy w=>by simp only[Sem.run_bind,guard_int,Result.andThen_ok,h]
theorem QA {t:TypeId} {κ:IntKind} {a b:Int}:Qk P .add t (.int κ a) (.int κ b) k=k (.int κ (κ.wrap (a+b))):=
 Qbx fun w=>by simp[binOp,Op.intArith]
theorem QZ {t:TypeId} {κ:IntKind} {a b:Int}:Qk P .sub t (.int κ a) (.int κ b) k=k (.int κ (κ.wrap (a-b))):=
 Qbx fun w=>by simp[binOp,Op.intArith]
theorem Z1 {t:TypeId} {κ:IntKind} {a b:Int}:Qk P .mul t (.int κ a) (.int κ b) k=k (.int κ (κ.wrap (a*b))):=
 Qbx fun w=>by simp[binOp,Op.intArith]
theorem Yt {t:TypeId} {κ:IntKind} {a b:Int}:Qk P .eql t (.int κ a) (.int κ b) k=k (.bool (decide (a=b))):=
 Qbx fun w=>by simp[binOp,Op.intCmp];rfl
theorem Yp {t:TypeId} {κ:IntKind} {a b:Int}:Qk P .neq t (.int κ a) (.int κ b) k=k (.bool (decide (a≠b))):=
 Qbx fun w=>by simp[binOp,Op.intCmp];rfl
theorem Yr {t:TypeId} {κ:IntKind} {a b:Int}:Qk P .lss t (.int κ a) (.int κ b) k=k (.bool (decide (a<b))):=
 Qbx fun w=>by simp[binOp,Op.intCmp]
theorem Qex {t:TypeId} {κ:IntKind} {a b:Int}:Qk P .leq t (.int κ a) (.int κ b) k=k (.bool (decide (a<=b))):=
 Qbx fun w=>by simp[binOp,Op.intCmp]
theorem Qbv {t:TypeId} {κ:IntKind} {a b:Int}:Qk P .gtr t (.int κ a) (.int κ b) k=k (.bool (decide (b<a))):=
 Qbx fun w=>by simp[binOp,Op.intCmp]
theorem QgK {t:TypeId} {κ:IntKind} {a b:Int}:Qk P .geq t (.int κ a) (.int κ b) k=k (.bool (decide (b<=a))):=
 Qbx fun w=>by simp[binOp,Op.intCmp]
def Qbb (op:BinOp) (κ:IntKind) (a b:Int):Int:=
 match op with
 |.and=>κ.wrap (BitVec.ofInt κ.bits a&&& BitVec.ofInt κ.bits b).toNat
 |.or=>κ.wrap (BitVec.ofInt κ.bits a|||BitVec.ofInt κ.bits b).toNat
 |.xor=>κ.wrap (BitVec.ofInt κ.bits a^^^BitVec.ofInt κ.bits b).toNat
 |_=>0
theorem Qfk {t:TypeId} {κ:IntKind} {a b:Int}:Qk P .and t (.int κ a) (.int κ b) k=k (.int κ (Qbb .and κ a b)):=
 Qbx fun w=>by simp[binOp,Op.intBits,Qbb]
theorem QhB {t:TypeId} {κ:IntKind} {a b:Int}:Qk P .or t (.int κ a) (.int κ b) k=k (.int κ (Qbb .or κ a b)):=
 Qbx fun w=>by simp[binOp,Op.intBits,Qbb]
theorem Zi {t:TypeId} {κ κ':IntKind} {a b:Int} (h:0<=b):Qk P .shl t (.int κ a) (.int κ' b) k=k (.int κ (κ.wrap (a*2^(min b.toNat κ.bits)))):=
 Qgm fun ox oy w=>by
  simp only[Sem.run_bind,guard_int,Result.andThen_ok]
  have:¬b<0:=by omega
  simp[binOp,Op.shift,this]
theorem Zj {t:TypeId} {κ κ':IntKind} {a b:Int} (h:0<=b):Qk P .shr t (.int κ a) (.int κ' b) k=k (.int κ (a.fdiv (2^(min b.toNat κ.bits)))):=
 Qgm fun ox oy w=>by
  simp only[Sem.run_bind,guard_int,Result.andThen_ok]
  have:¬b<0:=by omega
  simp[binOp,Op.shift,this]
theorem Ym {b:Bool}:ZI P (Op.unary .not (.bool b)) k=k (.bool (!b)):=PureK_of fun w=>by simp[Op.unary]
theorem PureK_xor {κ:IntKind} {n:Int}:ZI P (Op.unary .xor (.int κ n)) k=k (.int κ (Qbb .xor κ (if κ.signed then -1 else κ.max) n)):=PureK_of fun w=>by
 simp[Op.unary,Op.intBits,Qbb]
theorem BinK_streq {t:TypeId} {a b:ByteArray}:Qk P .eql t (.string a) (.string b) k=k (.bool (a.toList==b.toList)):=Qgm fun ox oy w=>by
 simp[eqGuard,binOp_string_eql]
theorem BinK_strne {t:TypeId} {a b:ByteArray}:Qk P .neq t (.string a) (.string b) k=k (.bool (!(a.toList==b.toList))):=Qgm fun ox oy w=>by
 simp[eqGuard,binOp_string_neq]
theorem BinK_stradd {t:TypeId} {a b:ByteArray} (h:a.size+b.size<=9223372036854775807):Qk P .add t (.string a) (.string b) k=k (.string (a++b)):=Qgm fun ox oy w=>by
 simp[eqGuard,binOp_string_add,Op.stringOp];omega
theorem eqGuard_plain {op:BinOp} {t:TypeId} {ox oy:Operand} {x y:Value} {w:World} (h1:x≠.nilIface) (h2:∀c,x≠.agg c):(eqGuard op t ox oy x y).run P w= .ok () w:=by
 unfold eqGuard
 cases op<;>cases x<;>first|rfl|exact absurd rfl h1|exact absurd rfl (h2 _)
theorem Qde {op:BinOp} {t:TypeId} {x y v:Value} (h1:x≠.nilIface) (h2:∀c,x≠.agg c) (h:∀w,(binOp op t x y).run P w= .ok v w):Qk P op t x y k=k v:=
 Qgm fun ox oy w=>by simp only[Sem.run_bind,eqGuard_plain h1 h2,Result.andThen_ok,h]
theorem BinK_booleq {t:TypeId} (ht:P.underlying t=some .bool) {a b:Bool}:Qk P .eql t (.bool a) (.bool b) k=k (.bool (a==b)):=
 Qde (by simp) (by simp) fun w=>run_eql_bool w t a b ht
theorem BinK_boolne {t:TypeId} (ht:P.underlying t=some .bool) {a b:Bool}:Qk P .neq t (.bool a) (.bool b) k=k (.bool (!(a==b))):=
 Qde (by simp) (by simp) fun w=>run_neq_bool w t a b ht
theorem Y2 {t:TypeId} (ht:P.underlying t=some (.pointer (P.pointee t))) {a:Option Addr}:Qk P .eql t (.pointer a) (.pointer none) k=k (.bool a.isNone):=
 Qde (by simp) (by simp) fun w=>by simp only[binOp,Sem.run_bind,run_equal_pointer_nil w t a ht,Result.andThen_ok,Sem.run_pure]
theorem QT {t:TypeId} (ht:P.underlying t=some (.pointer (P.pointee t))) {a:Option Addr}:Qk P .neq t (.pointer a) (.pointer none) k=k (.bool (!a.isNone)):=
 Qde (by simp) (by simp) fun w=>by simp only[binOp,Sem.run_bind,run_equal_pointer_nil w t a ht,Result.andThen_ok,Sem.run_pure]
theorem BinK_sleq {t e:TypeId} (ht:P.underlying t=some (.slice e)) {a:Option Addr} {n c:Nat}:Qk P .eql t (.slice a n c) (.slice none 0 0) k=k (.bool a.isNone):=
 Qde (by simp) (by simp) fun w=>by simp only[binOp,Sem.run_bind,run_equal_slice_nil w t e a n c ht,Result.andThen_ok,Sem.run_pure]
theorem BinK_slne {t e:TypeId} (ht:P.underlying t=some (.slice e)) {a:Option Addr} {n c:Nat}:Qk P .neq t (.slice a n c) (.slice none 0 0) k=k (.bool (!a.isNone)):=
 Qde (by simp) (by simp) fun w=>by simp only[binOp,Sem.run_bind,run_equal_slice_nil w t e a n c ht,Result.andThen_ok,Sem.run_pure]
theorem wrap_u8 {n:Int} (h0:0<=n) (h1:n<256):IntKind.u8.wrap n=n:=by simp[IntKind.wrap,IntKind.bits,IntKind.signed];omega
theorem wrap_u16 {n:Int} (h0:0<=n) (h1:n<65536):IntKind.u16.wrap n=n:=by simp[IntKind.wrap,IntKind.bits,IntKind.signed];omega
theorem QW {n:Int} (h0:0<=n) (h1:n<4294967296):IntKind.u32.wrap n=n:=by simp[IntKind.wrap,IntKind.bits,IntKind.signed];omega
theorem QfC {n:Int} (h0:0<=n) (h1:n<18446744073709551616):IntKind.u64.wrap n=n:=by simp[IntKind.wrap,IntKind.bits,IntKind.signed];omega
theorem Zq {n:Int} (h0:-2147483648<=n) (h1:n<2147483648):IntKind.i32.wrap n=n:=by simp[IntKind.wrap,IntKind.bits,IntKind.signed];omega
theorem wrap_i64 {n:Int} (h0:-9223372036854775808<=n) (h1:n<9223372036854775808):IntKind.i64.wrap n=n:=by simp[IntKind.wrap,IntKind.bits,IntKind.signed];omega
end rules
end Go.Vc
namespace Go.Vc
open Go
theorem Qfa (κ:IntKind) (x:Int):(κ.wrap x)%(2^κ.bits:Int)=x%(2^κ.bits:Int):=by
 unfold IntKind.wrap
 simp only
 split
 ·rw[Int.sub_emod,Int.emod_emod_of_dvd _ (Int.dvd_refl _),Int.emod_self,Int.sub_zero,Int.emod_emod_of_dvd _ (Int.dvd_refl _)]
 ·exact Int.emod_emod_of_dvd _ (Int.dvd_refl _)
theorem wrap_congr (κ:IntKind) {x y:Int} (h:x%(2^κ.bits:Int)=y%(2^κ.bits:Int)):κ.wrap x=κ.wrap y:=by
 unfold IntKind.wrap;rw[h]
theorem Qfw (κ:IntKind) (x y:Int):κ.wrap (κ.wrap x*y)=κ.wrap (x*y):=by
 apply wrap_congr
 rw[Int.mul_emod,Qfa,<-Int.mul_emod]
theorem ofInt_wrap (κ:IntKind) (x:Int):BitVec.ofInt κ.bits (κ.wrap x)=BitVec.ofInt κ.bits x:=by
 apply BitVec.eq_of_toNat_eq
 rw[BitVec.toNat_ofInt,BitVec.toNat_ofInt]
 congr 1
 have:=Qfa κ x
 push_cast
 exact this
theorem Qgd {κ:IntKind} {a c n b:Nat} (ha:a<2^n) (hc:c=b*2^n) (hs:a+c<2^κ.bits):
  Qbb .or κ (κ.wrap a) (κ.wrap c)=κ.wrap ((a+c:Nat):Int):=by
 unfold Qbb
 simp only[ofInt_wrap]
 congr 2
 rw[BitVec.toNat_or,BitVec.toNat_ofInt,BitVec.toNat_ofInt]
 have h1:((a:Int)%((2^κ.bits:Nat):Int)).toNat=a:=by
  rw[<-Int.natCast_emod,Int.toNat_natCast,Nat.mod_eq_of_lt (by omega)]
 have h2:((c:Int)%((2^κ.bits:Nat):Int)).toNat=c:=by
  rw[<-Int.natCast_emod,Int.toNat_natCast,Nat.mod_eq_of_lt (by omega)]
 rw[h1,h2,hc,Nat.or_comm,Nat.mul_comm,<-Nat.two_pow_add_eq_or_of_lt ha]
 omega
def byteN (bs:List UInt8) (i:Nat):Nat:=(bs.getD i 0).toNat
theorem YG (bs:List UInt8) (i:Nat):byteN bs i<256:=(bs.getD i 0).toNat_lt
def le2 (bs:List UInt8) (o:Nat):Nat:=byteN bs o+256*byteN bs (o+1)
def le4 (bs:List UInt8) (o:Nat):Nat:=le2 bs o+65536*le2 bs (o+2)
def le8 (bs:List UInt8) (o:Nat):Nat:=le4 bs o+4294967296*le4 bs (o+4)
theorem le2_lt (bs:List UInt8) (o:Nat):le2 bs o<65536:=by
 have:=YG bs o;have:=YG bs (o+1);unfold le2;omega
theorem le4_lt (bs:List UInt8) (o:Nat):le4 bs o<4294967296:=by
 have:=le2_lt bs o;have:=le2_lt bs (o+2);unfold le4;omega
theorem le8_lt (bs:List UInt8) (o:Nat):le8 bs o<18446744073709551616:=by
 have:=le4_lt bs o;have:=le4_lt bs (o+4);unfold le8;omega
def YU (x:Int) (i:Nat):UInt8:=UInt8.ofNat ((x/2^(8*i))%256).toNat
def leB (x:Int) (n:Nat):List UInt8:=(List.range n).map (YU x)
theorem Qf (x:Int) (n:Nat):(leB x n).length=n:=by simp[leB]
theorem byteI_val (x:Int) (i:Nat):((YU x i).toNat:Int)=(x/2^(8*i))%256:=by
 unfold YU
 have h0:0<=(x/2^(8*i))%256:=Int.emod_nonneg _ (by omega)
 have h1:(x/2^(8*i))%256<256:=Int.emod_lt_of_pos _ (by omega)
 rw[UInt8.toNat_ofNat_of_lt' (by
  show ((x/2^(8*i))%256).toNat<256
  omega)]
 omega
theorem wrap_u8_eq (x:Int):IntKind.u8.wrap x=x%256:=by simp[IntKind.wrap,IntKind.bits,IntKind.signed]
theorem Zy (x:Int) (i:Nat):IntKind.u8.wrap (x.fdiv (2^(8*i)))=((YU x i).toNat:Int):=by
 rw[byteI_val,wrap_u8_eq,Int.fdiv_eq_ediv_of_nonneg _ (by exact Int.pow_nonneg (by omega))]
theorem byte_0 (x:Int):IntKind.u8.wrap x=((YU x 0).toNat:Int):=by
 rw[byteI_val,wrap_u8_eq];simp
def U8s (H:Qe) (b off:Nat) (bs:List UInt8):Prop:=∀i,i<bs.length->QaW H ⟨b,off+i,none⟩=some (.int .u8 (byteN bs i))
theorem U8s.at {H:Qe} {b off:Nat} {bs:List UInt8} (h:U8s H b off bs) {o i:Nat} (ho:o=off+i) (hi:i<bs.length):QaW H ⟨b,o,none⟩=some (.int .u8 (byteN bs i)):=by
 subst ho;exact h i hi
theorem get2_val {κ:IntKind} (hκ:16<=κ.bits) {b0 b1:Nat} (h0:b0<256) (h1:b1<256):
  Qbb .or κ (Qbb .or κ 0 (κ.wrap b0)) (κ.wrap (κ.wrap b1*2^(min 8 κ.bits)))=κ.wrap ((b0+256*b1:Nat):Int):=by
 have hp:(65536:Nat)<=2^κ.bits:=Nat.pow_le_pow_right (by omega:0<2) hκ
 have e0:Qbb .or κ 0 (κ.wrap b0)=κ.wrap b0:=by
  have:=Qgd (κ:=κ) (a:=0) (c:=b0) (n:=0) (b:=b0) (by omega) (by omega) (by omega)
  have h0:κ.wrap ((0:Nat):Int)=0:=by cases κ<;>decide
  rw[h0]at this;simpa using this
 rw[e0,Nat.min_eq_left (by omega),Qfw]
 have e1:((b1:Int)*2^8)=((b1*2^8:Nat):Int):=by rw[Int.natCast_mul,Int.natCast_pow];rfl
 rw[e1,Qgd (n:=8) (b:=b1) (by omega) rfl (by omega)]
 congr 2;omega
theorem get4_val {κ:IntKind} (hκ:32<=κ.bits) {b0 b1 b2 b3:Nat} (h0:b0<256) (h1:b1<256) (h2:b2<256) (h3:b3<256):
  Qbb .or κ (Qbb .or κ (Qbb .or κ (Qbb .or κ 0 (κ.wrap b0)) (κ.wrap (κ.wrap b1*2^(min 8 κ.bits)))) (κ.wrap (κ.wrap b2*2^(min 16 κ.bits)))) (κ.wrap (κ.wrap b3*2^(min 24 κ.bits)))=
   κ.wrap ((b0+256*b1+65536*b2+16777216*b3:Nat):Int):=by
 have hp:(4294967296:Nat)<=2^κ.bits:=Nat.pow_le_pow_right (by omega:0<2) hκ
 rw[get2_val (by omega) h0 h1,Nat.min_eq_left (by omega:16<=κ.bits),Nat.min_eq_left (by omega:24<=κ.bits),Qfw,Qfw]
 have e2:((b2:Int)*2^16)=((b2*2^16:Nat):Int):=by rw[Int.natCast_mul,Int.natCast_pow];rfl
 have e3:((b3:Int)*2^24)=((b3*2^24:Nat):Int):=by rw[Int.natCast_mul,Int.natCast_pow];rfl
 rw[e2,Qgd (n:=16) (b:=b2) (by omega) rfl (by omega),e3,Qgd (n:=24) (b:=b3) (by omega) rfl (by omega)]
 congr 2;omega
theorem get8_val {κ:IntKind} (hκ:64<=κ.bits) {b0 b1 b2 b3 b4 b5 b6 b7:Nat} (h0:b0<256) (h1:b1<256) (h2:b2<256) (h3:b3<256) (h4:b4<256) (h5:b5<256) (h6:b6<256) (h7:b7<256):
  Qbb .or κ (Qbb .or κ (Qbb .or κ (Qbb .or κ
   (Qbb .or κ (Qbb .or κ (Qbb .or κ (Qbb .or κ 0 (κ.wrap b0)) (κ.wrap (κ.wrap b1*2^(min 8 κ.bits)))) (κ.wrap (κ.wrap b2*2^(min 16 κ.bits)))) (κ.wrap (κ.wrap b3*2^(min 24 κ.bits))))
   (κ.wrap (κ.wrap b4*2^(min 32 κ.bits)))) (κ.wrap (κ.wrap b5*2^(min 40 κ.bits)))) (κ.wrap (κ.wrap b6*2^(min 48 κ.bits)))) (κ.wrap (κ.wrap b7*2^(min 56 κ.bits)))=
   κ.wrap ((b0+256*b1+65536*b2+16777216*b3+4294967296*(b4+256*b5+65536*b6+16777216*b7):Nat):Int):=by
 have hp:(18446744073709551616:Nat)<=2^κ.bits:=Nat.pow_le_pow_right (by omega:0<2) hκ
 rw[get4_val (by omega) h0 h1 h2 h3,Nat.min_eq_left (by omega:32<=κ.bits),Nat.min_eq_left (by omega:40<=κ.bits),Nat.min_eq_left (by omega:48<=κ.bits),Nat.min_eq_left (by omega:56<=κ.bits),
  Qfw,Qfw,Qfw,Qfw]
 have e4:((b4:Int)*2^32)=((b4*2^32:Nat):Int):=by rw[Int.natCast_mul,Int.natCast_pow];rfl
 have e5:((b5:Int)*2^40)=((b5*2^40:Nat):Int):=by rw[Int.natCast_mul,Int.natCast_pow];rfl
 have e6:((b6:Int)*2^48)=((b6*2^48:Nat):Int):=by rw[Int.natCast_mul,Int.natCast_pow];rfl
 have e7:((b7:Int)*2^56)=((b7*2^56:Nat):Int):=by rw[Int.natCast_mul,Int.natCast_pow];rfl
 rw[e4,Qgd (n:=32) (b:=b4) (by omega) rfl (by omega),e5,Qgd (n:=40) (b:=b5) (by omega) rfl (by omega),e6,Qgd (n:=48) (b:=b6) (by omega) rfl (by omega),
  e7,Qgd (n:=56) (b:=b7) (by omega) rfl (by omega)]
 congr 2;omega
theorem le4_eq (bs:List UInt8) (o:Nat):le4 bs o=byteN bs o+256*byteN bs (o+1)+65536*byteN bs (o+2)+16777216*byteN bs (o+3):=by
 unfold le4 le2;rw[show o+2+1=o+3 from rfl];omega
theorem le8_eq (bs:List UInt8) (o:Nat):le8 bs o=byteN bs o+256*byteN bs (o+1)+65536*byteN bs (o+2)+16777216*byteN bs (o+3)+
  4294967296*(byteN bs (o+4)+256*byteN bs (o+5)+65536*byteN bs (o+6)+16777216*byteN bs (o+7)):=by
 unfold le8;rw[le4_eq,le4_eq]
end Go.Vc
namespace Go.Vc
open Go
theorem ext_blocks {H H':Qe} (hx:∀(b:Nat) (o:Obj),H[b]?=some o->H'[b]?=some o):Qji H H':=by
 intro a v h
 unfold QaW at h⊢
 cases hb:H[a.block]? with
 |none=>rw[hb]at h;cases h
 |some o=>rw[hb]at h;rw[hx _ _ hb];exact h
def Qaf (H H':Qe):Prop:=∀(b:Nat) (o:Obj),H[b]?=some o->H'[b]?=some o
theorem Qaf.refl (H:Qe):Qaf H H:=fun _ _ h=>h
theorem Qaf.trans {A B C:Qe} (h:Qaf A B) (g:Qaf B C):Qaf A C:=fun b o x=>g b o (h b o x)
theorem Qaf.ext {H H':Qe} (h:Qaf H H'):Qji H H':=ext_blocks h
theorem Qaf.push (H:Qe) (o:Obj):Qaf H (H.push o):=by
 intro b x h
 have hlt:b<H.size:=by
  rcases Array.getElem?_eq_some_iff.1 h with ⟨h1,_⟩;exact h1
 rw[Array.getElem?_push,if_neg (by omega)];exact h
theorem Y3 {H:Qe} {b:Nat} {o:Obj} (h:H[b]?=some o):b<H.size:=by
 rcases Array.getElem?_eq_some_iff.1 h with ⟨h1,_⟩;exact h1
theorem Qh {H:Qe} {o:Obj}:(H.push o)[H.size]?=some o:=by simp
theorem Yy {H:Qe} {o x:Obj} {b:Nat} (h:H[b]?=some x):(H.push o)[b]?=some x:=Qaf.push H o b x h
theorem size_push {H:Qe} {o:Obj}:(H.push o).size=H.size+1:=Array.size_push ..
theorem Qaf.size {H H':Qe} (h:Qaf H H'):H.size<=H'.size:=by
 rcases Nat.eq_zero_or_pos H.size with h0|h0
 ·omega
 ·have h1:H[H.size-1]?=some (H[H.size-1]'(by omega)):=by rw[Array.getElem?_eq_getElem]
  have:=Y3 (h _ _ h1);omega
def setB (H:Qe) (b:Nat) (o:Obj):Qe:=H.setIfInBounds b o
theorem size_setB {H:Qe} {b:Nat} {o:Obj}:(setB H b o).size=H.size:=by simp[setB]
theorem QV {H:Qe} {b:Nat} {o x:Obj} (h:H[b]?=some x):(setB H b o)[b]?=some o:=by
 have:=Y3 h
 simp[setB,Array.getElem?_setIfInBounds,this]
theorem Qw {H:Qe} {b b':Nat} {o:Obj} (h:b'≠b):(setB H b o)[b']?=H[b']?:=by
 simp only[setB,Array.getElem?_setIfInBounds,if_neg (Ne.symm h)]
theorem Qe9 {H:Qe} {b:Nat} {o o':Obj}:setB (setB H b o) b o'=setB H b o':=by
 simp[setB,Array.setIfInBounds_setIfInBounds]
theorem Qaf.setB {H H':Qe} (h:Qaf H H') {b:Nat} (hb:H.size<=b) (o:Obj):Qaf H (setB H' b o):=by
 intro b' x hx
 have:=Y3 hx
 rw[Qw (by omega)];exact h _ _ hx
theorem setH_blk {H:Qe} {b i:Nat} {c:Array Value} {e:TypeId} {fr:Nat×Nat} {v:Value} (h:H[b]?=some (.cells c e fr)):
  setH H ⟨b,i,none⟩ v=setB H b (.cells (c.setIfInBounds i v) e fr):=by
 apply Array.ext_getElem?
 intro j
 simp only[setH,setB,Array.getElem?_modify,Array.getElem?_setIfInBounds]
 by_cases hj:b=j
 ·subst hj
  rw[if_pos rfl,if_pos rfl,if_pos (Y3 h),h];rfl
 ·rw[if_neg hj,if_neg hj]
theorem Qj {H:Qe} {b i:Nat} {c:Array Value} {e:TypeId} {fr:Nat×Nat} (h:H[b]?=some (.cells c e fr)):QaW H ⟨b,i,none⟩=c[i]?:=by
 unfold QaW;simp[h]
theorem frozenH_blk {H:Qe} {b i:Nat} {c:Array Value} {e:TypeId} {fr:Nat×Nat} (h:H[b]?=some (.cells c e fr)):frozenH H ⟨b,i,none⟩=(fr.1<=i&&i<fr.2):=by
 unfold frozenH;simp[h]
theorem QeC {b o i:Nat}:(Addr.mk b o none).add i=⟨b,o+i,none⟩:=by
 unfold Addr.add;split
 ·rename_i h;rw[h];rfl
 ·rfl
def Zt {α:Type}:List α->Nat->List α->List α
 |l,_,[]=>l
 |l,i,v::vs=>Zt (l.set i v) (i+1) vs
theorem Q7 {α:Type}:∀(vs l:List α) (i:Nat),(Zt l i vs).length=l.length
 |[],_,_=>rfl
 |v::vs,l,i=>by rw[Zt,Q7 vs];simp
theorem Qbq {α:Type}:∀(vs l:List α) (i:Nat),i+vs.length<=l.length->Zt l i vs=l.take i++vs++l.drop (i+vs.length)
 |[],l,i,_=>by simp[Zt]
 |v::vs,l,i,h=>by
  simp only[List.length_cons]at h
  rw[Zt,Qbq vs (l.set i v) (i+1) (by simp;omega)]
  rw[List.drop_set_of_lt (by omega),List.length_cons]
  rw[show i+1+vs.length=i+(vs.length+1) by omega]
  rw[List.take_set,List.take_add_one]
  have:l[i]?.toList=[l[i]'(by omega)]:=by rw[List.getElem?_eq_getElem (by omega)];rfl
  rw[this,List.set_append]
  simp[Nat.min_eq_left (show i<=l.length by omega)]
theorem Qes {b:Nat} {e:TypeId} {fr:Nat×Nat}:∀(vs:List Value) {H:Qe} {l:List Value} {o i:Nat},H[b]?=some (.cells l.toArray e fr)->(∀v∈vs,v.oneCell'=true)->
  o+i+vs.length<=l.length->(∀j,o+i<=j->j<o+i+vs.length->¬(fr.1<=j/\j<fr.2))->
  setN H ⟨b,o,none⟩ i vs=some (match vs with|[]=>H|_=>setB H b (.cells (Zt l (o+i) vs).toArray e fr))
 |[],H,l,o,i,h,_,_,_=>rfl
 |v::vs,H,l,o,i,h,h1,h2,h3=>by
  simp only[List.length_cons]at h2 h3
  have hfr:=h3 (o+i) (by omega) (by omega)
  have c1:frozenH H ⟨b,o+i,none⟩=false:=by
   rw[frozenH_blk h]
   simp only[Bool.and_eq_false_iff,decide_eq_false_iff_not]
   by_cases hq:fr.1<=o+i
   ·right;intro hh;exact hfr ⟨hq,hh⟩
   ·left;exact hq
  have c2:(QaW H ⟨b,o+i,none⟩).isSome=true:=by
   rw[Qj h];simp;omega
  rw[setN,QeC,if_pos ⟨h1 v (by simp),c2,c1⟩,setH_blk h]
  have hn:(setB H b (.cells (l.toArray.setIfInBounds (o+i) v) e fr))[b]?=some (.cells (l.set (o+i) v).toArray e fr):=by
   rw[QV h];simp
  rw[Qes vs hn (fun w hw=>h1 w (by simp[hw])) (by simp;omega) (fun j j1 j2=>h3 j (by omega) (by omega))]
  cases vs with
  |nil=>simp[Zt]
  |cons w ws=>
   rw[Qe9]
   congr 1
theorem Q4 {b:Nat} {c:Array Value} {e:TypeId} {fr:Nat×Nat} {H:Qe} (h:H[b]?=some (.cells c e fr)):∀(n:Nat) {o i:Nat},o+i+n<=c.size->
  Zf H ⟨b,o,none⟩ i n=some ((c.toList.drop (o+i)).take n)
 |0,_,_,_=>by simp[Zf]
 |n+1,o,i,hl=>by
  rw[Zf,QeC,Qj h,Array.getElem?_eq_getElem (by omega)]
  simp only
  rw[Q4 h n (by omega)]
  simp only
  rw[List.drop_eq_getElem_cons (l:=c.toList) (i:=o+i) (by simp;omega),List.take_succ_cons]
  simp[Nat.add_assoc]
section
variable {H:Qe} {kp:Qe->Prop}
theorem Qf3 {v:Value} (h:v.oneCell'=true):v.cells=#[v]:=by cases v<;>first|rfl|(simp[Value.oneCell']at h;done)
theorem Qas {b i:Nat} {c:Array Value} {e:TypeId} {fr:Nat×Nat} {v:Value} (h:H[b]?=some (.cells c e fr)) (hi:i<c.size) (hf:¬(fr.1<=i/\i<fr.2)) (hv:v.oneCell'=true):
  StK H 1 (.pointer (some ⟨b,i,none⟩)) v kp=kp (setB H b (.cells (c.setIfInBounds i v) e fr)):=by
 unfold StK
 simp only[Qf3 hv]
 have hl:c=c.toList.toArray:=by simp
 have hj:∀j,i+0<=j->j<i+0+[v].length->¬(fr.1<=j/\j<fr.2):=by
  intro j j1 j2
  simp only[List.length_cons,List.length_nil]at j2
  have e0:j=i:=by omega
  rw[e0];exact hf
 have:=Qes (b:=b) (e:=e) (fr:=fr) [v] (H:=H) (l:=c.toList) (o:=i) (i:=0) (by simpa using h) (by simpa using hv) (by simp;omega) hj
 rw[this]
 apply propext
 constructor
 ·rintro ⟨_,H',e1,hk⟩
  cases e1
  have e2:(Zt c.toList (i+0) [v]).toArray=c.setIfInBounds i v:=by apply Array.toList_inj.1;simp[Zt]
  rw[e2]at hk;exact hk
 ·intro hk
  refine ⟨rfl,_,rfl,?_⟩
  have e2:(Zt c.toList (i+0) [v]).toArray=c.setIfInBounds i v:=by apply Array.toList_inj.1;simp[Zt]
  rw[e2];exact hk
theorem Yg {b n:Nat} {c c':Array Value} {e:TypeId} (h:H[b]?=some (.cells c e (0,0))) (hn:c.size=n) (hn':c'.size=n) (h0:0<n) (hv:∀v∈c'.toList,v.oneCell'=true):
  StK H n (.pointer (some ⟨b,0,none⟩)) (.agg c') kp=kp (setB H b (.cells c' e (0,0))):=by
 unfold StK
 simp only[Value.cells]
 have:=Qes (b:=b) (e:=e) (fr:=(0,0)) c'.toList (H:=H) (l:=c.toList) (o:=0) (i:=0) (by simpa using h) hv (by simp;omega) (by simp)
 rw[this]
 have e2:Zt c.toList (0+0) c'.toList=c'.toList:=by
  rw[Qbq _ _ _ (by simp;omega)]
  have:c.toList.drop c'.size=[]:=by apply List.drop_eq_nil_of_le;simp;omega
  simp[this]
 rw[e2]
 cases hl:c'.toList with
 |nil=>have:=congrArg List.length hl;simp only[Array.length_toList,List.length_nil]at this;omega
 |cons x xs=>
  have e3:(x::xs).toArray=c':=by rw[<-hl]
  rw[e3]
  apply propext
  constructor
  ·rintro ⟨_,H',e1,hk⟩;cases e1;exact hk
  ·intro hk;exact ⟨hn',_,rfl,hk⟩
end
end Go.Vc
namespace Go.Vc
open Go
def u8c (L:List UInt8):Array Value:=(L.map fun b=>Value.int .u8 (b.toNat:Int)).toArray
theorem u8c_size {L:List UInt8}:(u8c L).size=L.length:=by simp[u8c]
theorem u8c_set {L:List UInt8} {i:Nat} {b:UInt8}:(u8c L).setIfInBounds i (.int .u8 (b.toNat:Int))=u8c (L.set i b):=by
 apply Array.toList_inj.1;simp[u8c,List.map_set]
theorem u8c_get {L:List UInt8} {i:Nat} (h:i<L.length):(u8c L)[i]?=some (.int .u8 (byteN L i)):=by
 simp[u8c,byteN,h,List.getD]
theorem QdX {H:Qe} {B:Nat} {L:List UInt8} {e:TypeId} {fr:Nat×Nat} (h:H[B]?=some (.cells (u8c L) e fr)):U8s H B 0 L:=by
 intro i hi
 rw[Qj h,Nat.zero_add,u8c_get hi]
def wr (H:Qe) (B:Nat) (e:TypeId) (L:List UInt8):Qe:=setB H B (.cells (u8c L) e (0,0))
theorem wr_get {H:Qe} {B:Nat} {e:TypeId} {L:List UInt8} {o:Obj} (h:H[B]?=some o):(wr H B e L)[B]?=some (.cells (u8c L) e (0,0)):=QV h
theorem wr_ne {H:Qe} {B b:Nat} {e:TypeId} {L:List UInt8} (h:b≠B):(wr H B e L)[b]?=H[b]?:=Qw h
theorem QdC {H:Qe} {B:Nat} {e:TypeId} {L:List UInt8} (h:H[B]?=some (.cells (u8c L) e (0,0))):wr H B e L=H:=by
 apply Array.ext_getElem?
 intro j
 by_cases hj:j=B
 ·subst hj;rw[wr_get h,h]
 ·rw[wr_ne hj]
theorem ZR {H:Qe} {kp:Qe->Prop} {B i:Nat} {e:TypeId} {L:List UInt8} {o:Obj} {b:UInt8} (h:H[B]?=some o) (hi:i<L.length):
  StK (wr H B e L) 1 (.pointer (some ⟨B,i,none⟩)) (.int .u8 (b.toNat:Int)) kp=kp (wr H B e (L.set i b)):=by
 rw[Qas (wr_get h) (by rw[u8c_size];exact hi) (by simp) rfl,u8c_set]
 show kp (setB (wr H B e L) B _)=_
 unfold wr
 rw[Qe9]
theorem leB_1 (x:Int):leB x 1=[YU x 0]:=rfl
theorem leB_2 (x:Int):leB x 2=[YU x 0,YU x 1]:=rfl
theorem leB_4 (x:Int):leB x 4=[YU x 0,YU x 1,YU x 2,YU x 3]:=rfl
theorem leB_8 (x:Int):leB x 8=[YU x 0,YU x 1,YU x 2,YU x 3,YU x 4,YU x 5,YU x 6,YU x 7]:=rfl
end Go.Vc
namespace Go.Vc
open Go
structure BS where
 buf:List UInt8
 min:Nat
 vt:List Nat
 oe:Nat
 vts:List Nat
 nested:Bool
 fin:Bool
abbrev Cut:=Nat->Option Obj
def Cut.upd (F:Cut) (b:Nat) (o:Obj):Cut:=fun b'=>if b'=b then some o else F b'
def Cut.le (F G:Cut):Prop:=∀b o,F b=some o->G b=some o
theorem Cut.le_refl (F:Cut):F.le F:=fun _ _ h=>h
theorem Cut.le_trans {A B C:Cut} (h:A.le B) (g:B.le C):A.le C:=fun b o x=>g b o (h b o x)
theorem Cut.upd_same {F:Cut} {b:Nat} {o:Obj}:F.upd b o b=some o:=by simp[Cut.upd]
theorem Cut.upd_ne {F:Cut} {b b':Nat} {o:Obj} (h:b'≠b):F.upd b o b'=F b':=by simp[Cut.upd,h]
theorem Cut.le_upd {F:Cut} {b:Nat} {o:Obj} (h:F b=none):F.le (F.upd b o):=by
 intro b' o' h'
 by_cases e:b'=b
 ·subst e;rw[h]at h';cases h'
 ·rw[Cut.upd_ne e];exact h'
def Cut.of (H:Qe):Cut:=fun b=>H[b]?
def QgU (W:List Nat):Array Value:=(W.map fun (n:Nat)=>Value.int .u32 (n:Int)).toArray
theorem QhW {W:List Nat}:(QgU W).size=W.length:=by simp[QgU]
theorem u32c_set {W:List Nat} {i n:Nat}:(QgU W).setIfInBounds i (.int .u32 (n:Int))=QgU (W.set i n):=by
 apply Array.toList_inj.1;simp[QgU,List.map_set]
theorem u32c_get {W:List Nat} {i:Nat} (h:i<W.length):(QgU W)[i]?=some (.int .u32 (W.getD i 0)):=by
 simp[QgU,h,List.getD]
def U32Sl (H:Qe) (V:Nat) (v:Value) (l:List Nat):Prop:=
 ∃(W:List Nat) (e:TypeId),v= .slice (some ⟨V,0,none⟩) l.length W.length/\H[V]?=some (.cells (QgU W) e (0,0))/\W.take l.length=l/\l.length<=W.length
abbrev QfL (B len cap:Nat) (S:BS) (vtv vtsv:Value) (head:Nat):Array Value:=
 #[.slice (some ⟨B,0,none⟩) len cap,.int .i64 S.min,vtv,.int .u32 S.oe,vtsv,.int .u32 head,.bool S.nested,.bool S.fin,.map none]
structure Raw (H:Qe) (p:Nat) (S:BS) (F:Cut) (B V T:Nat) (L:List UInt8) (len head:Nat) (vtv vtsv:Value) (e eB:TypeId):Prop where
 hp:H[p]?=some (.cells (QfL B len L.length S vtv vtsv head) e (0,0))
 hB:H[B]?=some (.cells (u8c L) eB (0,0))
 hV:(vtv= .slice none 0 0/\S.vt=[]/\V=p)\/(U32Sl H V vtv S.vt/\V≠p/\V≠B/\V≠T)
 hT:U32Sl H T vtsv S.vts
 pB:p≠B
 pT:p≠T
 BT:B≠T
 hF:∀b o,F b=some o->H[b]?=some o/\b≠p/\b≠B/\b≠V/\b≠T
 hlen:len<=L.length
 lt:len<1073741824
structure BuilderH (H:Qe) (p:Nat) (S:BS) (F:Cut) (head:Nat):Prop where
 ex:∃B V T L len vtv vtsv e eB,Raw H p S F B V T L len head vtv vtsv e eB/\head+S.buf.length=len/\(L.take len).drop head=S.buf
def Qd (H:Qe) (p:Nat) (S:BS) (F:Cut) (r:Nat):Prop:=∃head,r<=head/\BuilderH H p S F head
theorem Qd.room {H:Qe} {p:Nat} {S:BS} {F:Cut} {r r':Nat} (h:Qd H p S F r) (hr:r'<=r):Qd H p S F r':=by
 obtain ⟨hd,h1,h2⟩:=h
 exact ⟨hd,by omega,h2⟩
theorem Raw.weaken {H:Qe} {p:Nat} {S:BS} {F F':Cut} {B V T:Nat} {L:List UInt8} {len head:Nat} {vtv vtsv:Value} {e eB:TypeId}
  (h:Raw H p S F B V T L len head vtv vtsv e eB) (hF:F'.le F):Raw H p S F' B V T L len head vtv vtsv e eB:=
 {h with hF:=fun b o x=>h.hF b o (hF b o x)}
theorem Qd.weaken {H:Qe} {p:Nat} {S:BS} {F F':Cut} {r:Nat} (h:Qd H p S F r) (hF:F'.le F):Qd H p S F' r:=by
 obtain ⟨hd,h1,⟨B,V,T,L,len,vtv,vtsv,e,eB,hr,h2⟩⟩:=h
 exact ⟨hd,h1,⟨B,V,T,L,len,vtv,vtsv,e,eB,hr.weaken hF,h2⟩⟩
theorem Qd.get {H:Qe} {p:Nat} {S:BS} {F:Cut} {r:Nat} (h:Qd H p S F r) {b:Nat} {o:Obj} (hb:F b=some o):H[b]?=some o:=by
 obtain ⟨hd,h1,⟨B,V,T,L,len,vtv,vtsv,e,eB,hr,h2⟩⟩:=h
 exact (hr.hF b o hb).1
theorem Qd.none {H:Qe} {p:Nat} {S:BS} {F:Cut} {r:Nat} (h:Qd H p S F r):F H.size=none:=by
 cases hF:F H.size with
 |none=>rfl
 |some o=>have:=Y3 (h.get hF);omega
theorem Qd.lt {H:Qe} {p:Nat} {S:BS} {F:Cut} {r:Nat} (h:Qd H p S F r):S.buf.length<1073741824:=by
 obtain ⟨hd,h1,⟨B,V,T,L,len,vtv,vtsv,e,eB,hr,h2⟩⟩:=h
 have:=hr.lt;omega
theorem U32Sl.mono {H H':Qe} {V:Nat} {v:Value} {l:List Nat} (h:U32Sl H V v l) (hx:H'[V]?=H[V]?):U32Sl H' V v l:=by
 obtain ⟨W,e,h1,h2,h3⟩:=h
 exact ⟨W,e,h1,by rw[hx];exact h2,h3⟩
theorem Raw.frame {H H':Qe} {p:Nat} {S:BS} {F F':Cut} {B V T:Nat} {L:List UInt8} {len head:Nat} {vtv vtsv:Value} {e eB:TypeId}
  (h:Raw H p S F B V T L len head vtv vtsv e eB) (hx:∀b,(b=p\/b=B\/b=V\/b=T)->H'[b]?=H[b]?)
  (hF:∀b o,F' b=some o->H'[b]?=some o/\b≠p/\b≠B/\b≠V/\b≠T):Raw H' p S F' B V T L len head vtv vtsv e eB:=by
 refine ⟨by rw[hx p (by simp)];exact h.hp,by rw[hx B (by simp)];exact h.hB,?_,h.hT.mono (hx T (by simp)),h.pB,h.pT,h.BT,hF,h.hlen,h.lt⟩
 rcases h.hV with h1|⟨h1,h2⟩
 ·exact Or.inl h1
 ·exact Or.inr ⟨h1.mono (hx V (by simp)),h2⟩
theorem Raw.V_lt {H:Qe} {p:Nat} {S:BS} {F:Cut} {B V T:Nat} {L:List UInt8} {len head:Nat} {vtv vtsv:Value} {e eB:TypeId}
  (h:Raw H p S F B V T L len head vtv vtsv e eB):p<H.size/\B<H.size/\V<H.size/\T<H.size:=by
 have hp:=Y3 h.hp
 refine ⟨hp,Y3 h.hB,?_,?_⟩
 ·rcases h.hV with ⟨_,_,rfl⟩|⟨⟨W,e',_,h2,_⟩,_⟩
  ·exact hp
  ·exact Y3 h2
 ·obtain ⟨W,e',_,h2,_⟩:=h.hT
  exact Y3 h2
theorem Qd.push {H:Qe} {p:Nat} {S:BS} {F:Cut} {r:Nat} (h:Qd H p S F r) (o:Obj):Qd (H.push o) p S (F.upd H.size o) r:=by
 obtain ⟨hd,h1,⟨B,V,T,L,len,vtv,vtsv,e,eB,hr,h2⟩⟩:=h
 obtain ⟨l1,l2,l3,l4⟩:=hr.V_lt
 refine ⟨hd,h1,⟨B,V,T,L,len,vtv,vtsv,e,eB,hr.frame ?_ ?_,h2⟩⟩
 ·intro b hb
  rw[Array.getElem?_push,if_neg]
  rcases hb with rfl|rfl|rfl|rfl<;>omega
 ·intro b o' hb
  by_cases hs:b=H.size
  ·subst hs
   rw[Cut.upd_same]at hb
   cases hb
   exact ⟨Qh,by omega,by omega,by omega,by omega⟩
  ·rw[Cut.upd_ne hs]at hb
   have:=hr.hF b o' hb
   exact ⟨Yy this.1,this.2⟩
theorem Qd.set {H:Qe} {p:Nat} {S:BS} {F:Cut} {r:Nat} (h:Qd H p S F r) {b:Nat} {o:Obj} (hb:F b=some o) (o':Obj):Qd (setB H b o') p S (F.upd b o') r:=by
 obtain ⟨hd,h1,⟨B,V,T,L,len,vtv,vtsv,e,eB,hr,h2⟩⟩:=h
 obtain ⟨g0,g1,g2,g3,g4⟩:=hr.hF b o hb
 refine ⟨hd,h1,⟨B,V,T,L,len,vtv,vtsv,e,eB,hr.frame ?_ ?_,h2⟩⟩
 ·intro c hc
  rw[Qw]
  rcases hc with rfl|rfl|rfl|rfl<;>omega
 ·intro c o2 hc
  by_cases hs:c=b
  ·subst hs
   rw[Cut.upd_same]at hc
   cases hc
   exact ⟨QV g0,g1,g2,g3,g4⟩
  ·rw[Cut.upd_ne hs]at hc
   have:=hr.hF c o2 hc
   exact ⟨by rw[Qw hs];exact this.1,this.2⟩
theorem Raw.setp {H:Qe} {p:Nat} {S S':BS} {F:Cut} {B V T:Nat} {L:List UInt8} {len head head':Nat} {vtv vtsv:Value} {e eB:TypeId}
  (h:Raw H p S F B V T L len head vtv vtsv e eB) (h1:S'.vt=S.vt) (h2:S'.vts=S.vts):
  Raw (setB H p (.cells (QfL B len L.length S' vtv vtsv head') e (0,0))) p S' F B V T L len head' vtv vtsv e eB:=by
 refine ⟨QV h.hp,by rw[Qw (Ne.symm h.pB)];exact h.hB,?_,?_,h.pB,h.pT,h.BT,?_,h.hlen,h.lt⟩
 ·rw[h1]
  rcases h.hV with h3|⟨h3,h4⟩
  ·exact Or.inl h3
  ·exact Or.inr ⟨h3.mono (Qw h4.1),h4⟩
 ·rw[h2];exact h.hT.mono (Qw (Ne.symm h.pT))
 ·intro b o hb
  have:=h.hF b o hb
  exact ⟨by rw[Qw this.2.1];exact this.1,this.2⟩
theorem Raw.wr {H:Qe} {p:Nat} {S S':BS} {F:Cut} {B V T:Nat} {L L':List UInt8} {len head:Nat} {vtv vtsv:Value} {e eB:TypeId}
  (h:Raw H p S F B V T L len head vtv vtsv e eB) (hL:L'.length=L.length) (hS:QfL B len L.length S' vtv vtsv head=QfL B len L.length S vtv vtsv head) (h1:S'.vt=S.vt) (h2:S'.vts=S.vts):
  Raw (wr H B eB L') p S' F B V T L' len head vtv vtsv e eB:=by
 refine ⟨by rw[wr_ne h.pB,hL,hS];exact h.hp,wr_get h.hB,?_,?_,h.pB,h.pT,h.BT,?_,by rw[hL];exact h.hlen,h.lt⟩
 ·rw[h1]
  rcases h.hV with h3|⟨h3,h4⟩
  ·exact Or.inl h3
  ·exact Or.inr ⟨h3.mono (wr_ne h4.2.1),h4⟩
 ·rw[h2];exact h.hT.mono (wr_ne (Ne.symm h.BT))
 ·intro b o hb
  have:=h.hF b o hb
  exact ⟨by rw[wr_ne this.2.2.1];exact this.1,this.2⟩
def place (xs:List UInt8) (S:BS):BS:={S with buf:=xs++S.buf}
theorem QaG {L:List UInt8} {len head:Nat} {xs buf:List UInt8} (hl:len<=L.length) (hh:head+buf.length=len) (hb:(L.take len).drop head=buf) (hx:xs.length<=head):
  ((Zt L (head-xs.length) xs).take len).drop (head-xs.length)=xs++buf:=by
 rw[Qbq _ _ _ (by omega),show head-xs.length+xs.length=head by omega]
 have a1:(L.take (head-xs.length)++xs).length=head:=by simp;omega
 rw[List.take_append,a1,List.take_of_length_le (by rw[a1];omega),<-List.drop_take,hb,List.append_assoc,List.drop_append]
 have a2:(L.take (head-xs.length)).length=head-xs.length:=by simp;omega
 rw[a2,Nat.sub_self,List.drop_zero,List.drop_of_length_le (by omega),List.nil_append]
end Go.Vc
namespace Go.Vc
open Go
abbrev u8V (b:UInt8):Value:=.int .u8 (b.toNat:Int)
theorem putL_map {α β:Type} (f:α->β):∀(xs L:List α) (o:Nat),Zt (L.map f) o (xs.map f)=(Zt L o xs).map f
 |[],_,_=>rfl
 |x::xs,L,o=>by
  simp only[List.map_cons,Zt]
  rw[<-List.map_set,putL_map f xs]
theorem setN_u8 {H:Qe} {B:Nat} {e:TypeId} {L:List UInt8} (hB:H[B]?=some (.cells (u8c L) e (0,0))) {o:Nat} {xs:List UInt8} (h:o+xs.length<=L.length):
  setN H ⟨B,o,none⟩ 0 (xs.map u8V)=some (wr H B e (Zt L o xs)):=by
 have hB':H[B]?=some (.cells (L.map u8V).toArray e (0,0)):=hB
 have:=Qes (xs.map u8V) (o:=o) (i:=0) hB' (by intro v hv;simp at hv;obtain ⟨b,_,rfl⟩:=hv;rfl) (by simp;omega) (by simp)
 rw[this]
 cases xs with
 |nil=>simp only[List.map_nil,Zt];rw[QdC hB]
 |cons x xs=>
  simp only[List.map_cons]
  rw[<-List.map_cons,Nat.add_zero,putL_map]
  rfl
theorem QeV {H:Qe} {B:Nat} {e:TypeId} {fr:Nat×Nat} {L:List UInt8} (hB:H[B]?=some (.cells (u8c L) e fr)) {o n:Nat} (h:o+n<=L.length):
  Zf H ⟨B,o,none⟩ 0 n=some (((L.drop o).take n).map u8V):=by
 rw[Q4 hB n (by rw[u8c_size];omega)]
 simp[u8c,List.map_drop,List.map_take]
theorem mk_u8 {z:Array Value} (hz:z=#[.int .u8 0]) (n:Nat):(Array.range (n*z.size)).map (z[·%z.size]!)=u8c (List.replicate n 0):=by
 subst hz
 apply Array.toList_inj.1
 simp only[Array.toList_map,Array.toList_range,u8c,List.map_replicate]
 apply List.ext_getElem?
 intro i
 simp only[List.getElem?_map,List.size_toArray,List.length_cons,List.length_nil,Nat.zero_add,Nat.mul_one,Nat.mod_one]
 by_cases h:i<n
 ·simp[List.getElem?_range,List.getElem?_replicate,h]
 ·simp[List.getElem?_replicate,h]
theorem zero_u8 {z:Array Value} (hz:z=#[.int .u8 0]) (n:Nat):(Builtin.zeroCells z n)=u8c (List.replicate n 0):=by
 subst hz
 unfold Builtin.zeroCells
 first
  |exact mk_u8 rfl n
  |(apply Array.toList_inj.1;simp[u8c];done)
theorem mk_u32 {z:Array Value} (hz:z=#[.int .u32 0]) (n:Nat):(Array.range (n*z.size)).map (z[·%z.size]!)=QgU (List.replicate n 0):=by
 subst hz
 apply Array.toList_inj.1
 simp only[Array.toList_map,Array.toList_range,QgU,List.map_replicate]
 apply List.ext_getElem?
 intro i
 simp only[List.getElem?_map,List.size_toArray,List.length_cons,List.length_nil,Nat.zero_add,Nat.mul_one,Nat.mod_one]
 by_cases h:i<n
 ·simp[List.getElem?_range,List.getElem?_replicate,h]
 ·simp[List.getElem?_replicate,h]
theorem zero_u32 {z:Array Value} (hz:z=#[.int .u32 0]) (n:Nat):(Builtin.zeroCells z n)=QgU (List.replicate n 0):=by
 subst hz
 unfold Builtin.zeroCells
 first
  |exact mk_u32 rfl n
  |(apply Array.toList_inj.1;simp[QgU];done)
theorem QgA (a b:List UInt8):u8c a++u8c b=u8c (a++b):=by simp[u8c]
theorem u8V_arr (a:List UInt8):(a.map u8V).toArray=u8c a:=rfl
theorem high_and {n:Nat} (h:n<1073741824):Qbb .and .i64 (n:Int) 3221225472=0:=by
 unfold Qbb
 have e:(BitVec.ofInt IntKind.i64.bits (n:Int)&&& BitVec.ofInt IntKind.i64.bits 3221225472).toNat=0:=by
  rw[BitVec.toNat_and,BitVec.toNat_ofInt,BitVec.toNat_ofInt]
  have h1:((n:Int)%((2^IntKind.i64.bits:Nat):Int)).toNat=n:=by
   rw[<-Int.natCast_emod,Int.toNat_natCast,Nat.mod_eq_of_lt]
   have:(1073741824:Nat)<=2^IntKind.i64.bits:=by decide
   omega
  have h2:((3221225472:Int)%((2^IntKind.i64.bits:Nat):Int)).toNat=3*2^30:=by decide
  rw[h1,h2]
  apply Nat.eq_of_testBit_eq
  intro i
  rw[Nat.testBit_and,Nat.zero_testBit,Nat.testBit_mul_two_pow]
  by_cases hi:30<=i
  ·rw[Nat.testBit_lt_two_pow (Nat.lt_of_lt_of_le h (Nat.le_trans (by decide:1073741824<=2^30) (Nat.pow_le_pow_right (by omega) hi)))]
   rfl
  ·simp[hi]
 rw[e];rfl
theorem mask_and (x:Int) {m k:Nat} (hm:m=2^k) (hk:k<=62):Qbb .and .i64 x ((m:Int)-1)=x%m:=by
 unfold Qbb
 have hp:2^k<=2^62:=Nat.pow_le_pow_right (by omega) hk
 have h0:0<2^k:=Nat.two_pow_pos k
 have e:(BitVec.ofInt IntKind.i64.bits x&&& BitVec.ofInt IntKind.i64.bits ((m:Int)-1)).toNat=(x%m).toNat:=by
  rw[BitVec.toNat_and,BitVec.toNat_ofInt,BitVec.toNat_ofInt]
  have h2:(((m:Int)-1)%((2^IntKind.i64.bits:Nat):Int)).toNat=2^k-1:=by
   rw[hm,show (((2^k:Nat):Int)-1)=((2^k-1:Nat):Int) by omega,<-Int.natCast_emod,Int.toNat_natCast,Nat.mod_eq_of_lt]
   have:(2^62:Nat)<=2^IntKind.i64.bits:=by decide
   omega
  rw[h2,Nat.and_two_pow_sub_one_eq_mod]
  have h3:((2^IntKind.i64.bits:Nat):Int)≠0:=by decide
  have hn:=Int.emod_nonneg x h3
  have hd:((2^k:Nat):Int)∣((2^IntKind.i64.bits:Nat):Int):=by
   apply Int.natCast_dvd_natCast.2
   exact Nat.pow_dvd_pow 2 (Nat.le_trans hk (by decide:62<=IntKind.i64.bits))
  have h5:(x%((2^IntKind.i64.bits:Nat):Int))%((2^k:Nat):Int)=x%((2^k:Nat):Int):=Int.emod_emod_of_dvd x hd
  rw[hm,<-h5]
  have:(x%((2^IntKind.i64.bits:Nat):Int))=(((x%((2^IntKind.i64.bits:Nat):Int)).toNat:Nat):Int):=by omega
  rw[this,<-Int.natCast_emod,Int.toNat_natCast,Int.toNat_natCast]
 rw[e]
 have hm0:(m:Int)≠0:=by omega
 have h1:=Int.emod_nonneg x hm0
 have h2:=Int.emod_lt_of_pos x (show (0:Int)<m by omega)
 show IntKind.i64.wrap (((x%(m:Int)).toNat:Nat):Int)=_
 rw[wrap_i64 (by omega) (by omega)]
 omega
theorem BinK_quo {P:Program} {t:TypeId} {κ:IntKind} {a b:Int} {k:Value->Prop} (hb:b≠0):Qk P .quo t (.int κ a) (.int κ b) k=k (.int κ (κ.wrap (a.tdiv b))):=
 Qbx fun w=>by simp[binOp,Op.intArith,Op.intDiv,hb]
theorem BinK_rem {P:Program} {t:TypeId} {κ:IntKind} {a b:Int} {k:Value->Prop} (hb:b≠0):Qk P .rem t (.int κ a) (.int κ b) k=k (.int κ (a.tmod b)):=
 Qbx fun w=>by simp[binOp,Op.intArith,Op.intDiv,hb]
theorem xor_all {n:Nat} (h:n<4611686018427387904):Qbb .xor .i64 (if IntKind.i64.signed=true then -1 else IntKind.i64.max) (n:Int)=-(n:Int)-1:=by
 show Qbb .xor .i64 (-1) (n:Int)=_
 unfold Qbb
 show IntKind.i64.wrap (((BitVec.ofInt 64 (-1)^^^BitVec.ofInt 64 (n:Int)).toNat:Nat):Int)=_
 have h1:BitVec.ofInt 64 (-1)=BitVec.allOnes 64:=by decide
 rw[h1,BitVec.allOnes_xor,BitVec.toNat_not,BitVec.toNat_ofInt]
 have h2:((n:Int)%((2^64:Nat):Int)).toNat=n:=by
  rw[<-Int.natCast_emod,Int.toNat_natCast,Nat.mod_eq_of_lt (by omega)]
 rw[h2]
 have h3:((2^64-1-n:Nat):Int)=-(n:Int)-1+18446744073709551616:=by omega
 rw[h3]
 simp only[IntKind.wrap,IntKind.bits,IntKind.signed]
 simp
 omega
def padOf (size n:Nat):Nat:=((-(n:Int))%(size:Int)).toNat
theorem Zr {size n:Nat} (h:0<size):padOf size n<size:=by
 unfold padOf
 have h1:=Int.emod_nonneg (-(n:Int)) (show (size:Int)≠0 by omega)
 have h2:=Int.emod_lt_of_pos (-(n:Int)) (show (0:Int)<size by omega)
 omega
theorem padOf_int {size n:Nat} (h:0<size):(-(n:Int))%(size:Int)=(padOf size n:Nat):=by
 unfold padOf
 have h1:=Int.emod_nonneg (-(n:Int)) (show (size:Int)≠0 by omega)
 omega
theorem QeY {size n:Nat} (h:0<size):(n+padOf size n)%size=0:=by
 have h1:=padOf_int (n:=n) h
 have h2:((n:Int)+(padOf size n:Nat))%(size:Int)=0:=by
  rw[<-h1,Int.add_emod,Int.emod_emod_of_dvd _ (Int.dvd_refl _),<-Int.add_emod,Int.add_right_neg,Int.zero_emod]
 have h3:(((n+padOf size n)%size:Nat):Int)=0:=by
  rw[Int.natCast_emod,Int.natCast_add];exact h2
 omega
theorem ZY {size n:Nat} (h:n%size=0):padOf size n=0:=by
 unfold padOf
 have:((n:Int))%(size:Int)=0:=by rw[<-Int.natCast_emod,h];rfl
 have h2:(-(n:Int))%(size:Int)=0:=Int.emod_eq_zero_of_dvd (Int.dvd_neg.2 (Int.dvd_of_emod_eq_zero this))
 rw[h2];rfl
def prep (size add:Nat) (S:BS):BS:=place (List.replicate (padOf size (S.buf.length+add)) 0) {S with min:=Nat.max S.min size}
end Go.Vc
namespace Go.Vc
open Go
structure ZO where
 x:UInt32
 y:UInt32
 z:UInt32
 t1:UInt64
 t2:UInt8
 a:UInt16
 b:UInt8
structure Qb8 where
 a:UInt16
 b:UInt8
structure QeJ where
 id:UInt32
 dist:UInt32
structure ZJ where
 id:List UInt8
 val:UInt64
 count:UInt16
structure Qbt where
 pos:Option ZO
 mana:UInt16
 hp:UInt16
 name:List UInt8
 inventory:List UInt8
 color:UInt8
 testTy:UInt8
 testColor:UInt8
 test4:List Qb8
 strings:List (List UInt8)
 nested:List UInt8
 empty:Option ZJ
 bool:Bool
 s32:UInt32
 u32:UInt32
 s64:UInt64
 u64:UInt64
 s32a:UInt32
 u32a:UInt32
 s64a:UInt64
 u64a:UInt64
 bools:List Bool
 f:UInt32
 f2:UInt32
 f3:UInt32
 strings2:List (List UInt8)
 abilities:List QeJ
 flex:List UInt8
 test5:List Qb8
 longs:List UInt64
 doubles:List UInt64
 parent:Bool
 refs:List UInt64
 singleWeak:UInt64
 weak:List UInt64
 strong:List UInt64
 coOwning:UInt64
 coOwnings:List UInt64
 nonOwning:UInt64
 nonOwnings:List UInt64
 uniqTy:UInt8
 uniqColor:UInt8
 ambTy:UInt8
 ambColor:UInt8
 enums:List UInt8
 signedEnum:UInt8
inductive Mon where
 |mk (d:Qbt) (tables enemy test uniq amb:List Mon)
abbrev Yf (xs:List UInt8):Value:=.string ⟨xs.toArray⟩
abbrev i8V (x:UInt8):Value:=.int .i8 (IntKind.i8.wrap (x.toNat:Int))
abbrev Qbc (x:UInt16):Value:=.int .i16 (IntKind.i16.wrap (x.toNat:Int))
abbrev u16V (x:UInt16):Value:=.int .u16 (x.toNat:Int)
abbrev Qfl (x:UInt32):Value:=.int .i32 (IntKind.i32.wrap (x.toNat:Int))
abbrev Zz (x:UInt32):Value:=.int .u32 (x.toNat:Int)
abbrev Qdw (x:UInt64):Value:=.int .i64 (IntKind.i64.wrap (x.toNat:Int))
abbrev Ya (x:UInt64):Value:=.int .u64 (x.toNat:Int)
abbrev QcW (x:UInt32):Value:=.float .f32 x.toNat
abbrev f64V (x:UInt64):Value:=.float .f64 x.toNat
theorem Qec (xs:List UInt8):(ByteArray.mk xs.toArray).toList=xs:=by rw[ByteArray.toList_eq]
theorem Qau (xs:List UInt8):(ByteArray.mk xs.toArray).size=xs.length:=by
 show xs.toArray.size=_
 simp
def Za (F:Cut) (v:Value) (cells:Array Value):Prop:=∃q e,v= .pointer (some ⟨q,0,none⟩)/\F q=some (.cells cells e (0,0))
def QiG (F:Cut) (v:Value) (vs:List Value):Prop:=
 (v= .slice none 0 0/\vs=[])\/
 ∃b o c cells e fr,v= .slice (some ⟨b,o,none⟩) vs.length c/\F b=some (.cells cells e fr)/\o+vs.length<=cells.size/\(cells.toList.drop o).take vs.length=vs/\vs.length<=c
def QaH (F:Cut) (v:Value) (vs:List Value):Prop:=QiG F v vs/\(vs=[]->v= .slice none 0 0)
theorem Za.mono {F G:Cut} (h:F.le G) {v:Value} {cells:Array Value} (x:Za F v cells):Za G v cells:=by
 obtain ⟨q,e,h1,h2⟩:=x
 exact ⟨q,e,h1,h _ _ h2⟩
theorem QiG.mono {F G:Cut} (h:F.le G) {v:Value} {vs:List Value} (x:QiG F v vs):QiG G v vs:=by
 rcases x with x|⟨b,o,c,cells,e,fr,h1,h2,h3⟩
 ·exact Or.inl x
 ·exact Or.inr ⟨b,o,c,cells,e,fr,h1,h _ _ h2,h3⟩
theorem QaH.mono {F G:Cut} (h:F.le G) {v:Value} {vs:List Value} (x:QaH F v vs):QaH G v vs:=⟨x.1.mono h,x.2⟩
def Cut.In (F:Cut) (H:Qe):Prop:=∀b o,F b=some o->H[b]?=some o
theorem Qd.cut {H:Qe} {p:Nat} {S:BS} {F:Cut} {r:Nat} (h:Qd H p S F r):F.In H:=fun _ _ hb=>h.get hb
theorem QiG.len {F:Cut} {v:Value} {vs:List Value} (h:QiG F v vs) {k:Value->Prop}:Yv v k=k (.int .i64 vs.length):=by
 rcases h with ⟨rfl,rfl⟩|⟨b,o,c,cells,e,fr,rfl,_⟩<;>rfl
theorem QiG.idx {F:Cut} {v:Value} {vs:List Value} (h:QiG F v vs) {H:Qe} (hF:F.In H) {i:Nat} {x:Int} (hx:x=(i:Nat)) (hi:i<vs.length):
  ∃a,(∀k:Value->Prop,Y1 1 v (.int .i64 x) k=k (.pointer (some a)))/\QaW H a=some (vs[i]'hi):=by
 subst hx
 rcases h with ⟨rfl,rfl⟩|⟨b,o,c,cells,e,fr,rfl,h2,h3,h4,h5⟩
 ·simp at hi
 ·refine ⟨⟨b,o+i,none⟩,?_,?_⟩
  ·intro k
   rw[QR (by omega) (by omega),Int.toNat_natCast,Nat.mul_one]
  ·rw[Qj (hF _ _ h2)]
   have e1:vs[i]?=cells[o+i]?:=by
    rw[<-h4,List.getElem?_take,if_pos hi,List.getElem?_drop,Array.getElem?_toList]
   rw[<-e1,List.getElem?_eq_getElem hi]
theorem QiG.item {F:Cut} {v:Value} {vs:List Value} (h:QiG F v vs) {H:Qe} (hF:F.In H) {i:Nat} {x:Int} (hx:x=(i:Nat)) (hi:i<vs.length) {k:Value->Prop} (hk:k (vs[i]'hi)):
  Y1 1 v (.int .i64 x) fun y=>LdK H y k:=by
 obtain ⟨a,h1,h2⟩:=h.idx hF hx hi
 rw[h1,Ql h2];exact hk
theorem Za.ld {F:Cut} {v:Value} {cells:Array Value} (h:Za F v cells) {H:Qe} (hF:F.In H) {i:Nat} (x:Value) (hi:cells[i]?=some x) {k:Value->Prop} (hk:k x):
  Q3 v fun y=>Qg y i fun z=>LdK H z k:=by
 obtain ⟨q,e,rfl,h2⟩:=h
 rw[Qs,Qm,Ql ((Qj (hF _ _ h2)).trans hi)];exact hk
theorem QaH.neq {P:Program} {t e:TypeId} (ht:P.underlying t=some (.slice e)) {F:Cut} {v:Value} {vs:List Value} (h:QaH F v vs) {k:Value->Prop}:
  Qk P .neq t v (.slice none 0 0) k=k (.bool (decide (vs≠[]))):=by
 obtain ⟨h1,h2⟩:=h
 rcases h1 with ⟨rfl,rfl⟩|⟨b,o,c,cells,e',fr,rfl,h3⟩
 ·rw[BinK_slne ht];rfl
 ·rw[BinK_slne ht]
  have:vs≠[]:=fun h=>by have:=h2 h;simp at this
  rw[decide_eq_true this];rfl
theorem QiG.bytes {F:Cut} {xs:List UInt8} {v:Value} (h:QiG F v (xs.map u8V)):∃a c,v= .slice a xs.length c/\∀H:Qe,F.In H->QhN H 1 xs.length v=some (xs.map u8V):=by
 rcases h with ⟨rfl,h⟩|⟨b,o,c,cells,e',fr,rfl,h2,h3,h4,h5⟩
 ·have:xs=[]:=by simpa using h
  subst this
  exact ⟨none,0,rfl,fun H hF=>rfl⟩
 ·refine ⟨some ⟨b,o,none⟩,c,by simp,fun H hF=>?_⟩
  show Zf H ⟨b,o,none⟩ 0 (xs.length*1)=_
  rw[List.length_map]at h3 h4
  rw[Nat.mul_one,Q4 (hF _ _ h2) _ (by omega),Nat.add_zero,h4]
end Go.Vc
namespace Go.Vc
open Go
abbrev u8n (x:UInt8):Value:=.int .u8 (x.toNat:Int)
def SlV (F:Cut) (es:Nat) (v:Value) (items:List (List Value)):Prop:=
 (∀x∈items,x.length=es)/\((∃a c,v= .slice a 0 c/\items=[])\/
 ∃b o c cells e fr,v= .slice (some ⟨b,o,none⟩) items.length c/\F b=some (.cells cells e fr)/\o+items.length*es<=cells.size/\(cells.toList.drop o).take (items.length*es)=items.flatten/\items.length<=c)
theorem SlV.mono {F G:Cut} (h:F.le G) {es:Nat} {v:Value} {items:List (List Value)} (x:SlV F es v items):SlV G es v items:=by
 refine ⟨x.1,?_⟩
 rcases x.2 with x|⟨b,o,c,cells,e,fr,h1,h2,h3⟩
 ·exact Or.inl x
 ·exact Or.inr ⟨b,o,c,cells,e,fr,h1,h _ _ h2,h3⟩
theorem SlV.one {F:Cut} {es:Nat} {v:Value} {items:List (List Value)} (h:SlV F es v items):v.oneCell'=true:=by
 rcases h.2 with ⟨a,c,rfl,_⟩|⟨b,o,c,cells,e,fr,rfl,_⟩<;>rfl
theorem SlV.nil (F:Cut) (es:Nat):SlV F es (.slice none 0 0) []:=⟨by simp,Or.inl ⟨_,_,rfl,rfl⟩⟩
theorem SlV.len {F:Cut} {es:Nat} {v:Value} {items:List (List Value)} (h:SlV F es v items) {k:Value->Prop}:Yv v k=k (.int .i64 items.length):=by
 rcases h.2 with ⟨a,c,rfl,rfl⟩|⟨b,o,c,cells,e,fr,rfl,_⟩<;>rfl
theorem flatten_at {es:Nat}:∀{items:List (List Value)} (_:∀x∈items,x.length=es) {i:Nat} {x:List Value},items[i]?=some x->(items.flatten.drop (i*es)).take es=x
 |y::ys,h,0,x,hx=>by
  have:y=x:=by simpa using hx
  subst this
  rw[List.flatten_cons,Nat.zero_mul,List.drop_zero,<-h y List.mem_cons_self,List.take_left]
 |y::ys,h,i+1,x,hx=>by
  have hy:=h y List.mem_cons_self
  rw[List.flatten_cons,Nat.add_mul,Nat.one_mul,Nat.add_comm,<-hy,List.drop_append,List.drop_eq_nil_of_le (by omega),List.nil_append,show y.length+i*y.length-y.length=i*y.length by omega,hy]
  exact flatten_at (fun z hz=>h z (List.mem_cons_of_mem _ hz)) (by simpa using hx)
theorem SlV.idx {F:Cut} {es:Nat} {v:Value} {items:List (List Value)} (h:SlV F es v items) {H:Qe} (hF:F.In H) {i:Nat} {x:Int} (hx:x=(i:Nat)) {it:List Value} (hi:items[i]?=some it):
  ∃b o cells e fr,(∀k:Value->Prop,Y1 es v (.int .i64 x) k=k (.pointer (some ⟨b,o,none⟩)))/\H[b]?=some (.cells cells e fr)/\o+es<=cells.size/\(cells.toList.drop o).take es=it:=by
 subst hx
 have hl:i<items.length:=by
  rcases Nat.lt_or_ge i items.length with hh|hh
  ·exact hh
  ·rw[List.getElem?_eq_none hh]at hi;cases hi
 rcases h.2 with ⟨a,c,rfl,rfl⟩|⟨b,o,c,cells,e,fr,rfl,h2,h3,h4,h5⟩
 ·simp at hl
 ·have hm:i*es+es<=items.length*es:=by
   rw[<-Nat.succ_mul];exact Nat.mul_le_mul_right _ hl
  refine ⟨b,o+i*es,cells,e,fr,fun k=>by rw[QR (by omega) (by omega)];rfl,hF _ _ h2,by omega,?_⟩
  rw[<-flatten_at h.1 hi,<-h4,List.drop_take,List.take_take,List.drop_drop,Nat.min_eq_left (by omega)]
theorem SlV.list {F:Cut} {v:Value} {vs:List Value} (h:SlV F 1 v (vs.map fun x=>[x])) (hne:vs≠[]):QiG F v vs:=by
 have hfl:(vs.map fun x=>[x]).flatten=vs:=by
  clear h hne
  induction vs with
  |nil=>rfl
  |cons x xs ih=>simpa using ih
 rcases h.2 with ⟨a,c,h1,h2⟩|⟨b,o,c,cells,e,fr,h1,h2,h3,h4,h5⟩
 ·exact absurd (by simpa using h2) hne
 ·rw[List.length_map,Nat.mul_one]at h3 h4
  rw[List.length_map]at h1 h5
  rw[hfl]at h4
  exact Or.inr ⟨b,o,c,cells,e,fr,h1,h2,h3,h4,h5⟩
theorem SlV.listN {F:Cut} {v:Value} {vs:List Value} (h:SlV F 1 v (vs.map fun x=>[x])) (hn:vs=[]->v= .slice none 0 0):QaH F v vs:=by
 refine ⟨?_,hn⟩
 by_cases hne:vs=[]
 ·exact Or.inl ⟨hn hne,hne⟩
 ·exact h.list hne
theorem QaH.sl {F:Cut} {v:Value} {vs:List Value} (h:QaH F v vs):∃a n c,v= .slice a n c:=by
 rcases h.1 with ⟨h,_⟩|⟨b,o,c,cells,e,fr,h,_⟩
 ·exact ⟨_,_,_,h⟩
 ·exact ⟨_,_,_,h⟩
def Zg (v:ZO):List Value:=[Zz v.x,Zz v.y,Zz v.z,Ya v.t1,u8n v.t2,Qbc v.a,i8V v.b]
def Yw (t:Qb8):List Value:=[Qbc t.a,i8V t.b]
def ZN (t:QeJ):List Value:=[Zz t.id,Zz t.dist]
def YL (s:ZJ):List Value:=[Yf s.id,Qdw s.val,u16V s.count]
def Qfd (xs:List UInt8):List Value:=[Yf xs]
def QgW (b:Bool):List Value:=[.bool b]
def i64I (x:UInt64):List Value:=[Qdw x]
def Qai (x:UInt64):List Value:=[Ya x]
structure GV where
 pos:Value
 test:Value
 test4:Value
 strings:Value
 tables:Value
 enemy:Value
 empty:Value
 bools:Value
 strings2:Value
 abil:Value
 test5:Value
 longs:Value
 doubles:Value
 refs:Value
 weak:Value
 strong:Value
 coOwnings:Value
 nonOwnings:Value
 uniq:Value
 amb:Value
def Yk (d:Qbt) (c:GV):List Value:=
 [c.pos,Qbc d.mana,Qbc d.hp,Yf d.name,Yf d.inventory,u8n d.color,u8n d.testTy,c.test,u8n d.testColor,c.test4,c.strings,c.tables,c.enemy,Yf d.nested,c.empty,.bool d.bool,
  Qfl d.s32,Zz d.u32,Qdw d.s64,Ya d.u64,Qfl d.s32a,Zz d.u32a,Qdw d.s64a,Ya d.u64a,c.bools,Zz d.f,Zz d.f2,Zz d.f3,c.strings2,c.abil,Yf d.flex,c.test5,c.longs,c.doubles,
  .bool d.parent,c.refs,Ya d.singleWeak,c.weak,c.strong,Ya d.coOwning,c.coOwnings,Ya d.nonOwning,c.nonOwnings,u8n d.uniqTy,c.uniq,u8n d.uniqColor,u8n d.ambTy,c.amb,u8n d.ambColor,Yf d.enums,i8V d.signedEnum]
structure GD (F:Cut) (d:Qbt) (pos:List ZO) (empty:List ZJ) (c:GV):Prop where
 pos:SlV F 7 c.pos (pos.map Zg)
 test4:SlV F 2 c.test4 (d.test4.map Yw)
 strings:SlV F 1 c.strings (d.strings.map Qfd)
 empty:SlV F 3 c.empty (empty.map YL)
 bools:SlV F 1 c.bools (d.bools.map QgW)
 strings2:SlV F 1 c.strings2 (d.strings2.map Qfd)
 abil:SlV F 2 c.abil (d.abilities.map ZN)
 test5:SlV F 2 c.test5 (d.test5.map Yw)
 longs:SlV F 1 c.longs (d.longs.map i64I)
 doubles:SlV F 1 c.doubles (d.doubles.map Qai)
 refs:SlV F 1 c.refs (d.refs.map Qai)
 weak:SlV F 1 c.weak (d.weak.map Qai)
 strong:SlV F 1 c.strong (d.strong.map Qai)
 coOwnings:SlV F 1 c.coOwnings (d.coOwnings.map Qai)
 nonOwnings:SlV F 1 c.nonOwnings (d.nonOwnings.map Qai)
theorem GD.mono {F G:Cut} (h:F.le G) {d:Qbt} {pos:List ZO} {empty:List ZJ} {c:GV} (x:GD F d pos empty c):GD G d pos empty c:=
 ⟨x.pos.mono h,x.test4.mono h,x.strings.mono h,x.empty.mono h,x.bools.mono h,x.strings2.mono h,x.abil.mono h,x.test5.mono h,x.longs.mono h,x.doubles.mono h,x.refs.mono h,x.weak.mono h,x.strong.mono h,x.coOwnings.mono h,x.nonOwnings.mono h⟩
inductive GM where
 |mk (d:Qbt) (pos:List ZO) (empty:List ZJ) (tables enemy test uniq amb:List GM)
mutual
def QaX (F:Cut):GM->List Value->Prop
 |.mk d pos empty tables enemy test uniq amb,cells=>∃c:GV,cells=Yk d c/\GD F d pos empty c/\
   (∃i,SlV F 51 c.tables i/\Zh F tables i)/\(∃i,SlV F 51 c.enemy i/\Zh F enemy i)/\(∃i,SlV F 51 c.test i/\Zh F test i)/\(∃i,SlV F 51 c.uniq i/\Zh F uniq i)/\(∃i,SlV F 51 c.amb i/\Zh F amb i)
def Zh (F:Cut):List GM->List (List Value)->Prop
 |[],[]=>True
 |g::gs,x::xs=>QaX F g x/\Zh F gs xs
 |_,_=>False
end
def Qbu (F:Cut) (gs:List GM) (v:Value):Prop:=∃i,SlV F 51 v i/\Zh F gs i
theorem YP (d:Qbt) (c:GV):(Yk d c).length=51:=rfl
theorem QaX.len {F:Cut} {g:GM} {x:List Value} (h:QaX F g x):x.length=51:=by
 cases g with
 |mk d pos empty tables enemy test uniq amb=>
  rw[QaX]at h
  obtain ⟨c,rfl,_⟩:=h
  rfl
mutual
theorem QaX.mono {F G:Cut} (h:F.le G):∀{g:GM} {x:List Value},QaX F g x->QaX G g x
 |.mk d pos empty tables enemy test uniq amb,x,hv=>by
  rw[QaX]at hv⊢
  obtain ⟨c,h1,h2,⟨i1,a1,b1⟩,⟨i2,a2,b2⟩,⟨i3,a3,b3⟩,⟨i4,a4,b4⟩,⟨i5,a5,b5⟩⟩:=hv
  exact ⟨c,h1,h2.mono h,⟨i1,a1.mono h,Zh.mono h b1⟩,⟨i2,a2.mono h,Zh.mono h b2⟩,⟨i3,a3.mono h,Zh.mono h b3⟩,⟨i4,a4.mono h,Zh.mono h b4⟩,⟨i5,a5.mono h,Zh.mono h b5⟩⟩
theorem Zh.mono {F G:Cut} (h:F.le G):∀{gs:List GM} {xs:List (List Value)},Zh F gs xs->Zh G gs xs
 |[],[],hv=>by rw[Zh];trivial
 |g::gs,x::xs,hv=>by
  rw[Zh]at hv⊢
  exact ⟨QaX.mono h hv.1,Zh.mono h hv.2⟩
 |[],_::_,hv=>by simp only[Zh]at hv
 |_::_,[],hv=>by simp only[Zh]at hv
end
theorem Qbu.mono {F G:Cut} (h:F.le G) {gs:List GM} {v:Value} (x:Qbu F gs v):Qbu G gs v:=by
 obtain ⟨i,a,b⟩:=x
 exact ⟨i,a.mono h,b.mono h⟩
theorem Zh.len {F:Cut}:∀{gs:List GM} {xs:List (List Value)},Zh F gs xs->gs.length=xs.length
 |[],[],_=>rfl
 |g::gs,x::xs,h=>by
  rw[Zh]at h
  rw[List.length_cons,List.length_cons,Zh.len h.2]
 |[],_::_,hv=>by simp only[Zh]at hv
 |_::_,[],hv=>by simp only[Zh]at hv
theorem Zh.get {F:Cut}:∀{gs:List GM} {xs:List (List Value)},Zh F gs xs->∀{i:Nat} {g:GM},gs[i]?=some g->∃x,xs[i]?=some x/\QaX F g x
 |[],[],_,i,g,h=>by simp at h
 |g'::gs,x::xs,hv,i,g,h=>by
  rw[Zh]at hv
  cases i with
  |zero=>
   have:g'=g:=by simpa using h
   subst this
   exact ⟨x,rfl,hv.1⟩
  |succ i=>
   obtain ⟨y,h1,h2⟩:=Zh.get hv.2 (i:=i) (g:=g) (by simpa using h)
   exact ⟨y,by simpa using h1,h2⟩
 |[],_::_,hv,_,_,_=>by simp only[Zh]at hv
 |_::_,[],hv,_,_,_=>by simp only[Zh]at hv
theorem Zh.snoc {F:Cut}:∀{gs:List GM} {xs:List (List Value)} {g:GM} {x:List Value},Zh F gs xs->QaX F g x->Zh F (gs++[g]) (xs++[x])
 |[],[],g,x,_,h=>by
  show Zh F [g] [x]
  rw[Zh];exact ⟨h,by rw[Zh];trivial⟩
 |g'::gs,x'::xs,g,x,hv,h=>by
  rw[Zh]at hv
  show Zh F (g'::(gs++[g])) (x'::(xs++[x]))
  rw[Zh];exact ⟨hv.1,Zh.snoc hv.2 h⟩
 |[],_::_,_,_,hv,_=>by simp only[Zh]at hv
 |_::_,[],_,_,hv,_=>by simp only[Zh]at hv
end Go.Vc
namespace Go.Vc
open Go
structure Ext (G:Cut) (H:Qe) (G':Cut) (H':Qe):Prop where
 keep:Qaf H H'
 inn:G'.In H'
 le:G.le G'
 old:∀b,b<H.size->G' b=G b
theorem Ext.refl {G:Cut} {H:Qe} (h:G.In H):Ext G H G H:=⟨Qaf.refl H,h,Cut.le_refl G,fun _ _=>rfl⟩
theorem Ext.trans {G G' G'':Cut} {H H' H'':Qe} (h:Ext G H G' H') (k:Ext G' H' G'' H''):Ext G H G'' H'':=
 ⟨h.keep.trans k.keep,k.inn,Cut.le_trans h.le k.le,fun b hb=>by rw[k.old b (Nat.lt_of_lt_of_le hb h.keep.size),h.old b hb]⟩
theorem Cut.In.none {G:Cut} {H:Qe} (h:G.In H) {b:Nat} (hb:H.size<=b):G b=Option.none:=by
 cases hG:G b with
 |none=>rfl
 |some o=>have:=Y3 (h b o hG);omega
theorem Cut.In.push {G:Cut} {H:Qe} (h:G.In H) (o:Obj):G.In (H.push o):=fun b x hb=>Yy (h b x hb)
theorem Cut.In.upd {G:Cut} {H:Qe} (h:G.In H) {b:Nat} {o:Obj} (hb:H[b]?=some o):(G.upd b o).In H:=fun b' x hx=>by
 unfold Cut.upd at hx
 split at hx
 ·rename_i e;cases hx;rw[e];exact hb
 ·exact h b' x hx
theorem Ext.push {G0:Cut} {H0:Qe} {G:Cut} {H:Qe} (h:Ext G0 H0 G H) (o:Obj):Ext G0 H0 G (H.push o):=⟨h.keep.trans (Qaf.push H o),h.inn.push o,h.le,h.old⟩
theorem Ext.add {G0:Cut} {H0:Qe} {G:Cut} {H:Qe} (h:Ext G0 H0 G H) {b:Nat} {o:Obj} (hb:H[b]?=some o) (hg:G b=none) (h0:H0.size<=b):Ext G0 H0 (G.upd b o) H:=
 ⟨h.keep,h.inn.upd hb,Cut.le_trans h.le (Cut.le_upd hg),fun b' hb'=>by rw[Cut.upd_ne (by omega),h.old b' hb']⟩
theorem Ext.pushG {G0:Cut} {H0:Qe} {G:Cut} {H:Qe} (h:Ext G0 H0 G H) (o:Obj):Ext G0 H0 (G.upd H.size o) (H.push o):=
 (h.push o).add Qh (h.inn.none (Nat.le_refl _)) h.keep.size
theorem Ext.set {G0:Cut} {H0:Qe} {G:Cut} {H:Qe} (h:Ext G0 H0 G H) {b:Nat} (hg:G b=none) (h0:H0.size<=b) (o:Obj):Ext G0 H0 G (setB H b o):=
 ⟨h.keep.setB h0 o,fun b' x hb'=>by
  have:b'≠b:=fun e=>by subst e;rw[hg]at hb';cases hb'
  rw[Qw this];exact h.inn b' x hb',h.le,h.old⟩
structure Yj (H0:Qe) (G:Cut) (H:Qe) (b:Nat) (o:Obj):Prop where
 get:H[b]?=some o
 out:G b=none
 new:H0.size<=b
theorem Yj.ext {H0:Qe} {G G':Cut} {H H':Qe} {b:Nat} {o:Obj} (h:Yj H0 G H b o) (k:Ext G H G' H'):Yj H0 G' H' b o:=⟨k.keep b o h.get,by rw[k.old b (Y3 h.get)];exact h.out,h.new⟩
theorem Yj.push {H0:Qe} {G:Cut} {H:Qe} {b:Nat} {o:Obj} (h:Yj H0 G H b o) (x:Obj):Yj H0 G (H.push x) b o:=⟨Yy h.get,h.out,h.new⟩
theorem Yj.ne {H0:Qe} {G:Cut} {H:Qe} {b:Nat} {o:Obj} (h:Yj H0 G H b o):b≠H.size:=by have:=Y3 h.get;omega
theorem Yj.pushG {H0:Qe} {G:Cut} {H:Qe} {b:Nat} {o:Obj} (h:Yj H0 G H b o) (x:Obj):Yj H0 (G.upd H.size x) (H.push x) b o:=⟨Yy h.get,by rw[Cut.upd_ne h.ne];exact h.out,h.new⟩
theorem Yj.fresh {G0:Cut} {H0:Qe} {G:Cut} {H:Qe} (h:Ext G0 H0 G H) (o:Obj):Yj H0 G (H.push o) H.size o:=⟨Qh,h.inn.none (Nat.le_refl _),h.keep.size⟩
theorem Yj.set {H0:Qe} {G:Cut} {H:Qe} {b:Nat} {o:Obj} (h:Yj H0 G H b o) (o':Obj):Yj H0 G (setB H b o') b o':=⟨QV h.get,h.out,h.new⟩
theorem Yj.set_ne {H0:Qe} {G:Cut} {H:Qe} {b b':Nat} {o:Obj} (h:Yj H0 G H b o) (hne:b≠b') (o':Obj):Yj H0 G (setB H b' o') b o:=⟨by rw[Qw hne];exact h.get,h.out,h.new⟩
theorem Yj.upd_ne {H0:Qe} {G:Cut} {H:Qe} {b b':Nat} {o:Obj} (h:Yj H0 G H b o) (hne:b≠b') (o':Obj):Yj H0 (G.upd b' o') H b o:=⟨h.get,by rw[Cut.upd_ne hne];exact h.out,h.new⟩
def Cur (H0:Qe) (G:Cut) (H:Qe) (et:TypeId) (es:Nat) (v:Value) (items:List (List Value)) (bad:Nat->Prop):Prop:=
 (∀x∈items,x.length=es)/\((v= .slice none 0 0/\items=[])\/
 ∃b c cs,v= .slice (some ⟨b,0,none⟩) items.length c/\Yj H0 G H b (.cells cs et (0,0))/\¬bad b/\items.length*es<=cs.size/\c*es<=cs.size/\cs.toList.take (items.length*es)=items.flatten/\items.length<=c/\items≠[])
theorem Cur.nil {H0:Qe} {G:Cut} {H:Qe} {et:TypeId} {es:Nat} {bad:Nat->Prop}:Cur H0 G H et es (.slice none 0 0) [] bad:=⟨by simp,Or.inl ⟨rfl,rfl⟩⟩
theorem Cur.ext {H0:Qe} {G G':Cut} {H H':Qe} {et:TypeId} {es:Nat} {v:Value} {items:List (List Value)} {bad:Nat->Prop} (h:Cur H0 G H et es v items bad) (k:Ext G H G' H'):Cur H0 G' H' et es v items bad:=by
 refine ⟨h.1,?_⟩
 rcases h.2 with h|⟨b,c,cs,h1,h2,h3⟩
 ·exact Or.inl h
 ·exact Or.inr ⟨b,c,cs,h1,h2.ext k,h3⟩
theorem Cur.push {H0:Qe} {G:Cut} {H:Qe} {et:TypeId} {es:Nat} {v:Value} {items:List (List Value)} {bad:Nat->Prop} (h:Cur H0 G H et es v items bad) (o:Obj):Cur H0 G (H.push o) et es v items bad:=by
 refine ⟨h.1,?_⟩
 rcases h.2 with h|⟨b,c,cs,h1,h2,h3⟩
 ·exact Or.inl h
 ·exact Or.inr ⟨b,c,cs,h1,h2.push o,h3⟩
theorem Cur.set {H0:Qe} {G:Cut} {H:Qe} {et:TypeId} {es:Nat} {v:Value} {items:List (List Value)} {bad:Nat->Prop} (h:Cur H0 G H et es v items bad) {q:Nat} (hq:bad q) (o:Obj):Cur H0 G (setB H q o) et es v items bad:=by
 refine ⟨h.1,?_⟩
 rcases h.2 with h|⟨b,c,cs,h1,h2,h3,h4⟩
 ·exact Or.inl h
 ·exact Or.inr ⟨b,c,cs,h1,h2.set_ne (fun e=>h3 (by rw[e];exact hq)) o,h3,h4⟩
theorem Cur.done {G0:Cut} {H0:Qe} {G:Cut} {H:Qe} {et:TypeId} {es:Nat} {v:Value} {items:List (List Value)} {bad:Nat->Prop} (h:Cur H0 G H et es v items bad) (hE:Ext G0 H0 G H):
  ∃G',Ext G0 H0 G' H/\SlV G' es v items/\G.le G'/\(∀b o,bad b->Yj H0 G H b o->Yj H0 G' H b o):=by
 rcases h.2 with ⟨h1,h2⟩|⟨b,c,cs,h1,h2,h3,h4,h5,h6,h7,_⟩
 ·subst h1;subst h2
  exact ⟨G,hE,SlV.nil G es,Cut.le_refl G,fun _ _ _ h=>h⟩
 ·refine ⟨G.upd b (.cells cs et (0,0)),hE.add h2.get h2.out h2.new,⟨h.1,Or.inr ⟨b,0,c,cs,et,(0,0),h1,Cut.upd_same,by omega,by rw[List.drop_zero];exact h6,h7⟩⟩,Cut.le_upd h2.out,fun b' o hb' ho=>ho.upd_ne (fun e=>h3 (by rw[<-e];exact hb')) _⟩
theorem Cur.nilOf {H0:Qe} {G:Cut} {H:Qe} {et:TypeId} {es:Nat} {v:Value} {items:List (List Value)} {bad:Nat->Prop} (h:Cur H0 G H et es v items bad) (hi:items=[]):v= .slice none 0 0:=by
 rcases h.2 with h|⟨b,c,cs,h1,h2,h3,h4,h5,h6,h7,h8⟩
 ·exact h.1
 ·exact absurd hi h8
theorem Cur.one {H0:Qe} {G:Cut} {H:Qe} {et:TypeId} {es:Nat} {v:Value} {items:List (List Value)} {bad:Nat->Prop} (h:Cur H0 G H et es v items bad):v.oneCell'=true:=by
 rcases h.2 with ⟨rfl,_⟩|⟨b,c,cs,rfl,_⟩<;>rfl
theorem putL_take {L xs:List Value} {n:Nat} (h:n+xs.length<=L.length):(Zt L n xs).take (n+xs.length)=L.take n++xs:=by
 rw[Qbq _ _ _ h,List.take_left' (by simp;omega)]
theorem Cur.app {G0:Cut} {H0:Qe} {G:Cut} {H:Qe} {et:TypeId} {es bts:Nat} {zs:Array Value} {v:Value} {items:List (List Value)} {bad:Nat->Prop} (h:Cur H0 G H et es v items bad) (hE:Ext G0 H0 G H) {y:Nat} {yo:Nat} {cells:Array Value} {ye:TypeId} {fr:Nat×Nat} {it:List Value}
  (hy:H[y]?=some (.cells cells ye fr)) (hyc:yo+es<=cells.size) (hyi:(cells.toList.drop yo).take es=it) (hone:∀x∈it,x.oneCell'=true) (hes:0<es) (hb:0<bts) (hn:(items.length+1)*bts<=140737488355328) (hz:zs.size=es) {cap:Nat} (hbad:∀b,bad b->b<H.size) {k:Kn}
  (hk:∀v' H',Ext G0 H0 G H'->Cur H0 G H' et es v' (items++[it]) bad->(∀b o,bad b->Yj H0 G H b o->Yj H0 G H' b o)->k v' H'):
  Qbs H et es bts zs v (.slice (some ⟨y,yo,none⟩) 1 cap) k:=by
 have hl:it.length=es:=by rw[<-hyi];simp;omega
 have hnew:Qgs H (1*es) (.slice (some ⟨y,yo,none⟩) 1 cap)=some it:=by
  show Zf H ⟨y,yo,none⟩ 0 (1*es)=_
  rw[Nat.one_mul,Q4 hy es (by omega),Nat.add_zero,hyi]
 have hall:∀x∈items++[it],x.length=es:=fun x hx=>by
  rcases List.mem_append.1 hx with hx|hx
  ·exact h.1 x hx
  ·have:x=it:=by simpa using hx
   rw[this];exact hl
 have hfl:(items++[it]).flatten=items.flatten++it:=by simp
 have hlen:(items++[it]).length=items.length+1:=by simp
 have hflen:items.flatten.length=items.length*es:=by
  have:=h.1
  clear hfl hlen hn hk hall h
  induction items with
  |nil=>simp
  |cons x xs ih=>
   rw[List.flatten_cons,List.length_append,List.length_cons,ih (fun z hz=>this z (List.mem_cons_of_mem _ hz)),this x List.mem_cons_self,Nat.add_mul];omega
 have grow:∀(old:List Value) (c:Nat),old=items.flatten->items.length+1<=c->k (.slice (some ⟨H.size,0,none⟩) (items.length+1) c) (H.push (.cells ((old++it).toArray++Builtin.zeroCells zs (c-(items.length+1))) et)):=fun old c ho hc=>by
  subst ho
  have hsz:((items.flatten++it).toArray++Builtin.zeroCells zs (c-(items.length+1))).size=c*es:=by
   have hz2:(Builtin.zeroCells zs (c-(items.length+1))).size=(c-(items.length+1))*es:=by
    unfold Builtin.zeroCells
    simp[hz]
   rw[Array.size_append,hz2]
   simp only[List.size_toArray,List.length_append,hflen,hl]
   obtain ⟨d,rfl⟩:∃d,c=items.length+1+d:=⟨c-(items.length+1),by omega⟩
   rw[show items.length+1+d-(items.length+1)=d by omega,Nat.add_mul,Nat.add_mul];omega
  have hm:(items.length+1)*es<=c*es:=Nat.mul_le_mul_right _ hc
  refine hk _ _ (hE.push _) ⟨hall,Or.inr ⟨H.size,c,_,by rw[hlen],Yj.fresh hE _,fun hb=>by have:=hbad _ hb;omega,by rw[hlen,hsz];exact hm,by rw[hsz];exact Nat.le_refl _,?_,by rw[hlen];exact hc,by simp⟩⟩ (fun b o _ ho=>ho.push _)
  rw[hlen,hfl]
  have e:((items.flatten++it).toArray++Builtin.zeroCells zs (c-(items.length+1))).toList=(items.flatten++it)++(Builtin.zeroCells zs (c-(items.length+1))).toList:=by simp
  rw[e,List.take_left' (by rw[List.length_append,hflen,hl,Nat.add_mul];omega)]
 rcases h.2 with ⟨h1,h2⟩|⟨b,c,cs,h1,h2,h3,h4,h5,h6,h7,_⟩
 ·subst h1;subst h2
  refine ⟨fun hc=>by omega,fun hc=>⟨hb,by simpa using hn,[],it,rfl,hnew,fun c hc1 _=>?_⟩⟩
  have:=grow [] c rfl (by simpa using hc1)
  simpa using this
 ·subst h1
  refine ⟨fun hc=>⟨it,hnew,?_⟩,fun hc=>⟨hb,by simpa using hn,items.flatten,it,?_,hnew,fun c' hc1 _=>grow _ c' rfl hc1⟩⟩
  ·have hcm:(items.length+1)*es<=c*es:=Nat.mul_le_mul_right _ hc
   have hcm':(items.length+1)*es=items.length*es+es:=by rw[Nat.add_mul,Nat.one_mul]
   have hcm2:items.length*es+es<=cs.size:=by rw[<-hcm'];exact Nat.le_trans hcm h5
   have hcs:cs=cs.toList.toArray:=by simp
   have hset:=Qes (b:=b) (e:=et) (fr:=(0,0)) it (H:=H) (l:=cs.toList) (o:=items.length*es) (i:=0) (by rw[<-hcs];exact h2.get) hone (by simp;omega) (by simp)
   refine ⟨_,by show setN H (Addr.add ⟨b,0,none⟩ (items.length*es)) 0 it=_;rw[QeC,Nat.zero_add];exact hset,?_⟩
   cases it with
   |nil=>simp at hl;omega
   |cons x xs=>
    simp only[Nat.add_zero]
    refine hk _ _ (hE.set h2.out h2.new _) ⟨hall,Or.inr ⟨b,c,_,by rw[hlen],h2.set _,h3,?_,?_,?_,by rw[hlen];exact hc,by simp⟩⟩ (fun b' o hb' ho=>ho.set_ne (fun e=>h3 (by rw[<-e];exact hb')) _)
    ·rw[hlen];simp only[List.size_toArray,Q7,Array.length_toList];omega
    ·simp only[List.size_toArray,Q7,Array.length_toList];exact h5
    ·rw[hlen,hfl,hcm',<-hl,<-h6,hl]
     have:=putL_take (L:=cs.toList) (xs:=x::xs) (n:=items.length*es) (by rw[Array.length_toList,hl];exact hcm2)
     rw[hl]at this
     exact this
  ·show Zf H ⟨b,0,none⟩ 0 (items.length*es)=_
   rw[Q4 h2.get _ (by omega),Nat.add_zero,List.drop_zero,h6]
def Qaa (P:Program) (t:TypeId) (lenf:FuncId) (x0:Value) (B:Value->Qe->(Qe->Prop)->Prop) (h:Qe) (K:Qe->Prop):Prop:=
 QD (fun M=>Yu [(.int .i64 0)] h fun I n=>∀x:Value,∀h1:Qe,I n [x] h1->
  Qa P lenf #[x0] h1 fun y h2=>Qk P .lss t x y fun c=>IfK c (B x h2 fun h3=>Qk P .add t x (.int .i64 1) fun x'=>QS I n [x'] h3) (M [x] h2)) fun M=>∀x:Value,∀h':Qe,M [x] h'->K h'
theorem cntLoop_of {P:Program} {t:TypeId} {lenf:FuncId} {x0:Value} {B:Value->Qe->(Qe->Prop)->Prop} {h:Qe} {K:Qe->Prop} {n:Nat} (St:Nat->Qe->Prop) (h0:St 0 h) (hn:n<4611686018427387904)
  (hlen:∀i H (R:Kn),St i H->R (.int .i64 (n:Nat)) H->FnS P lenf #[x0] H R)
  (hB:∀i H (k:Qe->Prop),i<n->St i H->(∀H',St (i+1) H'->k H')->B (.int .i64 (i:Nat)) H k)
  (hK:∀H,St n H->K H):Qaa P t lenf x0 B h K:=by
 refine Q0 (fun _ H=>St n H) ⟨fun m vs H=>∃i,vs=[.int .i64 (i:Nat)]/\i+m=n/\St i H,⟨n,0,rfl,by omega,h0⟩,?_⟩ (fun x H hH=>hK H hH)
 rintro m x H ⟨i,hx,hi,hs⟩
 cases hx
 refine hlen i H _ hs ?_
 rw[Yr]
 by_cases hlt:i<n
 ·rw[Yb (by omega)]
  refine hB i H _ hlt hs fun H' hs'=>?_
  rw[QA,wrap_i64 (by omega) (by omega)]
  exact ⟨m-1,by omega,i+1,by simp,by omega,hs'⟩
 ·rw[QM (by omega)]
  have:i=n:=by omega
  subst this
  exact hs
def Qe4 (P:Program) (t:TypeId) (x1:Value) (fld:Nat) (h:Qe) (B:Value->Value->Qe->(Qe->Prop)->Prop) (K:Qe->Prop):Prop:=
 QD (fun M=>Qg x1 fld fun a=>LdK h a fun s=>Yv s fun n=>Yu [(.int .i64 0)] h fun I m=>∀x:Value,∀h1:Qe,I m [x] h1->
  Qk P .lss t x n fun c=>IfK c (B s x h1 fun h3=>Qk P .add t x (.int .i64 1) fun x'=>QS I m [x'] h3) (M [] h1)) fun M=>∀h':Qe,M [] h'->K h'
theorem QgG {P:Program} {t:TypeId} {x1:Value} {fld:Nat} {h:Qe} {B:Value->Value->Qe->(Qe->Prop)->Prop} {K:Qe->Prop} {n:Nat} {s:Value} (St:Nat->Qe->Prop) (h0:St 0 h) (hn:n<4611686018427387904)
  (hs:∀k:Value->Prop,k s->Qg x1 fld fun a=>LdK h a k) (hl:∀k:Value->Prop,Yv s k=k (.int .i64 (n:Nat)))
  (hB:∀i H (k:Qe->Prop),i<n->St i H->(∀H',St (i+1) H'->k H')->B s (.int .i64 (i:Nat)) H k)
  (hK:∀H,St n H->K H):Qe4 P t x1 fld h B K:=by
 refine Q0 (fun _ H=>St n H) (hs _ ?_) (fun H hH=>hK H hH)
 rw[hl]
 refine ⟨fun m vs H=>∃i,vs=[.int .i64 (i:Nat)]/\i+m=n/\St i H,⟨n,0,rfl,by omega,h0⟩,?_⟩
 rintro m x H ⟨i,hx,hi,hs⟩
 cases hx
 rw[Yr]
 by_cases hlt:i<n
 ·rw[Yb (by omega)]
  refine hB i H _ hlt hs fun H' hs'=>?_
  rw[QA,wrap_i64 (by omega) (by omega)]
  exact ⟨m-1,by omega,i+1,by simp,by omega,hs'⟩
 ·rw[QM (by omega)]
  have:i=n:=by omega
  subst this
  exact hs
def Qdc (P:Program) (t:TypeId) (x0:Value) (h:Qe) (B:Value->Value->Qe->(Kn)->Prop) (K:Kn):Prop:=
 QD (fun M=>Yv x0 fun n=>Yu [(.int .i64 0),(.slice none 0 0)] h fun I m=>∀x y:Value,∀h1:Qe,I m [x,y] h1->
  Qk P .lss t x n fun c=>IfK c (B x y h1 fun y' h3=>Qk P .add t x (.int .i64 1) fun x'=>QS I m [x',y'] h3) (M [y] h1)) fun M=>∀y:Value,∀h':Qe,M [y] h'->K y h'
theorem accLoop_of {P:Program} {t:TypeId} {x0:Value} {h:Qe} {B:Value->Value->Qe->(Kn)->Prop} {K:Kn} {n:Nat} (St:Nat->Kn) (h0:St 0 (.slice none 0 0) h) (hn:n<4611686018427387904)
  (hl:∀k:Value->Prop,Yv x0 k=k (.int .i64 (n:Nat)))
  (hB:∀i y H (k:Kn),i<n->St i y H->(∀y' H',St (i+1) y' H'->k y' H')->B (.int .i64 (i:Nat)) y H k)
  (hK:∀y H,St n y H->K y H):Qdc P t x0 h B K:=by
 refine Q0 (fun vs H=>∃y,vs=[y]/\St n y H) ?_ (fun y H hh=>by obtain ⟨y',e,h1⟩:=hh;cases e;exact hK _ H h1)
 rw[hl]
 refine ⟨fun m vs H=>∃i y,vs=[.int .i64 (i:Nat),y]/\i+m=n/\St i y H,⟨n,0,_,rfl,by omega,h0⟩,?_⟩
 rintro m x y H ⟨i,y',hx,hi,hs⟩
 cases hx
 rw[Yr]
 by_cases hlt:i<n
 ·rw[Yb (by omega)]
  refine hB i y H _ hlt hs fun y' H' hs'=>?_
  rw[QA,wrap_i64 (by omega) (by omega)]
  exact ⟨m-1,by omega,i+1,y',by simp,by omega,hs'⟩
 ·rw[QM (by omega)]
  have:i=n:=by omega
  subst this
  exact ⟨y,rfl,hs⟩
end Go.Vc
namespace Go.Vc
open Go
def Qe5 (x1:Value) (i:Nat) (h:Qe) (v:Value) (K:Qe->Prop):Prop:=Q3 x1 fun a=>Qg a i fun b=>StK h 1 b v K
def Qax (x1:Value) (i:Nat) (h:Qe) (K:Value->Prop):Prop:=Q3 x1 fun a=>Qg a i fun b=>LdK h b K
def putI (s x:Value) (h:Qe) (v:Value) (K:Qe->Prop):Prop:=Y1 1 s x fun b=>StK h 1 b v K
def lpS (P:Program) (f:FuncId) (x0 x1:Value) (fld:Nat) (x:Value) (h:Qe) (k:Qe->Prop):Prop:=
 Qax x1 fld h fun s=>Qa P f #[x0,x] h fun v h1=>Qi h h1 (putI s x h1 v k)
def lpT (P:Program) (f:FuncId) (x0 x1:Value) (fld:Nat) (x:Value) (h:Qe) (k:Qe->Prop):Prop:=
 Qax x1 fld h fun s=>Qa P f #[x0,x] h fun v h1=>Qi h h1 (QiN h1 v fun w=>putI s x h1 w k)
def lpO (P:Program) (z:Array Value) (t:TypeId) (f g:FuncId) (x0 x1:Value) (fld:Nat) (x:Value) (h:Qe) (k:Qe->Prop):Prop:=
 Qz z.toList [] fun o=>Y5 h (.cells z t) fun y h1=>StK h1 2 y o fun h2=>Qa P f #[x0,y,x] h2 fun _ h3=>Qax x1 fld h3 fun s=>Qa P g #[y] h3 fun v h4=>Qi h3 h4 (putI s x h4 v k)
def Qcm (P:Program) (t:TypeId) (x1:Value) (fld:Nat) (et:TypeId) (bts:Nat) (z:Array Value) (n:Value) (h:Qe) (B:Value->Qe->(Qe->Prop)->Prop) (K:Qe->Prop):Prop:=
 Qe3 h et bts z n n fun s h2=>Qe5 x1 fld h2 s fun h3=>QD (fun M=>Yu [(.int .i64 0)] h3 fun I m=>∀x:Value,∀h1:Qe,I m [x] h1->
  Qk P .lss t x n fun c=>IfK c (B x h1 fun h4=>Qk P .add t x (.int .i64 1) fun x'=>QS I m [x'] h4) (M [x] h1)) fun M=>∀x:Value,∀h':Qe,M [x] h'->K h'
def uniF (P:Program) (z:Array Value) (t:TypeId) (f ty un:FuncId) (x0 x1:Value) (fld:Nat) (h:Qe) (K:Qe->Prop):Prop:=
 Qz z.toList [] fun o=>Y5 h (.cells z t) fun y h1=>StK h1 2 y o fun h2=>QD (fun M=>Qa P f #[x0,y] h2 fun b h3=>IfK b (LdN h3 2 y fun tb=>Qa P ty #[x0] h3 fun k h4=>Qi h3 h4 (Qa P un #[k,tb] h4 fun v h5=>Qe5 x1 fld h5 v fun h6=>M [] h6)) (M [] h3)) fun M=>∀h':Qe,M [] h'->K h'
def rngF (P:Program) (t:TypeId) (x0:Value) (fld:Nat) (h:Qe) (B:Value->Qe->(Qe->Prop)->Prop) (K:Qe->Prop):Prop:=
 QD (fun M=>Qax x0 fld h fun s=>Yv s fun n=>Yu [(.int .i64 0)] h fun I m=>∀x:Value,∀h1:Qe,I m [x] h1->
  Qk P .lss t x n fun c=>IfK c (Y1 1 s x fun p=>LdK h1 p fun v=>B v h1 fun h3=>Qk P .add t x (.int .i64 1) fun x'=>QS I m [x'] h3) (M [] h1)) fun M=>∀h':Qe,M [] h'->K h'
theorem rngF_of {P:Program} {t:TypeId} {x0:Value} {fld:Nat} {h:Qe} {B:Value->Qe->(Qe->Prop)->Prop} {K:Qe->Prop} {G:Cut} {s:Value} {vs:List Value} (St:Nat->Qe->Prop) (h0:St 0 h) (hg:∀k:Value->Prop,k s->Qax x0 fld h k)
  (hs:SlV G 1 s (vs.map fun v=>[v])) (hin:∀i H,St i H->G.In H) (hn:vs.length<4611686018427387904)
  (hB:∀i v H (k:Qe->Prop),vs[i]?=some v->St i H->(∀H',St (i+1) H'->k H')->B v H k) (hK:∀H,St vs.length H->K H):rngF P t x0 fld h B K:=by
 refine Q0 (fun _ H=>St vs.length H) (hg _ ?_) (fun H hH=>hK H hH)
 rw[hs.len,List.length_map]
 refine ⟨fun m vs0 H=>∃i,vs0=[.int .i64 (i:Nat)]/\i+m=vs.length/\St i H,⟨vs.length,0,rfl,by omega,h0⟩,?_⟩
 rintro m x H ⟨i,hx,hi,hst⟩
 cases hx
 rw[Yr]
 by_cases hlt:i<vs.length
 ·rw[Yb (by omega)]
  obtain ⟨b,o,cells,e,fr,h1,h2,h3,h4⟩:=hs.idx (hin i H hst) (i:=i) rfl (it:=[vs[i]]) (by rw[List.getElem?_map,List.getElem?_eq_getElem hlt];rfl)
  have hc:cells[o]?=some vs[i]:=by
   have:(cells.toList.drop o)[0]?=some vs[i]:=by
    have e1:((cells.toList.drop o).take 1)[0]?=some vs[i]:=by rw[h4];rfl
    rwa [List.getElem?_take,if_pos (by decide)]at e1
   rwa [List.getElem?_drop,Nat.add_zero,Array.getElem?_toList]at this
  rw[h1,Ql ((Qj h2).trans hc)]
  refine hB i _ H _ (List.getElem?_eq_getElem hlt) hst fun H' hs'=>?_
  rw[QA,wrap_i64 (by omega) (by omega)]
  exact ⟨m-1,by omega,i+1,by simp,by omega,hs'⟩
 ·rw[QM (by omega)]
  have:i=vs.length:=by omega
  subst this
  exact hst
structure US (zs:List Value) (t:TypeId) (G0:Cut) (H0:Qe) (q:Nat) (G:Cut) (H:Qe) (done:List Value):Prop where
 ext:Ext G0 H0 G H
 o:Yj H0 G H q (.cells (done.reverse++zs.drop done.length).toArray t (0,0))
section
variable {zs:List Value} {t:TypeId} {G0:Cut} {H0:Qe} {q:Nat} {G:Cut} {H:Qe} {done:List Value} (us:US zs t G0 H0 q G H done)
include us
theorem US.next {G':Cut} {H':Qe} (h:Ext G H G' H'):US zs t G0 H0 q G' H' done:=⟨us.ext.trans h,us.o.ext h⟩
theorem US.push (o:Obj):US zs t G0 H0 q G (H.push o) done:=⟨us.ext.push o,us.o.push o⟩
theorem US.put {i:Nat} (hi:i=done.length) (hz:i<zs.length) {v:Value} (hv:v.oneCell'=true) {K:Qe->Prop} (hk:∀H',US zs t G0 H0 q G H' (v::done)->(∀b o,b≠q->Yj H0 G H b o->Yj H0 G H' b o)->K H'):Qe5 (.pointer (some ⟨q,0,none⟩)) i H v K:=by
 subst hi
 unfold Qe5
 rw[Qs,Qm,Qas us.o.get (by simp;omega) (by simp) hv]
 have e:(done.reverse++zs.drop done.length).toArray.setIfInBounds done.length v=((v::done).reverse++zs.drop (v::done).length).toArray:=by
  have e0:(zs.drop done.length).set 0 v=v::zs.drop (done.length+1):=by rw[List.drop_eq_getElem_cons hz];rfl
  rw[List.setIfInBounds_toArray,List.set_append_right _ _ (by simp),List.length_reverse,Nat.sub_self,e0]
  simp
 rw[e]
 exact hk _ ⟨us.ext.set us.o.out us.o.new _,us.o.set _⟩ (fun b o hb h=>h.set_ne hb _)
theorem US.skip {v:Value} (hz:zs[done.length]?=some v):US zs t G0 H0 q G H (v::done):=by
 have hl:done.length<zs.length:=by
  rcases Nat.lt_or_ge done.length zs.length with h|h
  ·exact h
  ·rw[List.getElem?_eq_none h]at hz;cases hz
 refine ⟨us.ext,?_⟩
 have e:(v::done).reverse++zs.drop (v::done).length=done.reverse++zs.drop done.length:=by
  rw[List.drop_eq_getElem_cons hl,List.getElem?_eq_getElem hl]at *
  cases hz
  simp
 rw[e];exact us.o
theorem US.get {i:Nat} {v:Value} (hi:done.reverse[i]?=some v) {K:Value->Prop} (hk:K v):Qax (.pointer (some ⟨q,0,none⟩)) i H K:=by
 unfold Qax
 have hl:i<done.reverse.length:=by
  rcases Nat.lt_or_ge i done.reverse.length with h|h
  ·exact h
  ·rw[List.getElem?_eq_none h]at hi;cases hi
 rw[Qs,Qm,Ql (v:=v) ((Qj us.o.get).trans (by simp[List.getElem?_append_left hl,hi]))]
 exact hk
end
def Fil (H0:Qe) (G:Cut) (H:Qe) (q b n:Nat) (et:TypeId) (vs:List Value):Prop:=
 b≠q/\∃cs:Array Value,Yj H0 G H b (.cells cs et (0,0))/\cs.size=n/\vs.length<=n/\cs.toList.take vs.length=vs
theorem Fil.ext {H0:Qe} {G G':Cut} {H H':Qe} {q b n:Nat} {et:TypeId} {vs:List Value} (h:Fil H0 G H q b n et vs) (k:Ext G H G' H'):Fil H0 G' H' q b n et vs:=by
 obtain ⟨h0,cs,h1,h2⟩:=h
 exact ⟨h0,cs,h1.ext k,h2⟩
theorem putL_take1 {cs:Array Value} {vs:List Value} {v:Value} (h:vs.length<cs.size) (ht:cs.toList.take vs.length=vs):(cs.setIfInBounds vs.length v).toList.take (vs++[v]).length=vs++[v]:=by
 rw[Array.toList_setIfInBounds,List.length_append,List.length_singleton]
 apply List.ext_getElem?
 intro j
 rw[List.getElem?_take]
 by_cases hj:j<vs.length+1
 ·rw[if_pos hj,List.getElem?_set]
  by_cases he:vs.length=j
  ·subst he
   rw[if_pos rfl,if_pos (by simpa using h)];simp
  ·rw[if_neg he,List.getElem?_append_left (by omega)]
   conv=>rhs;rw[<-ht]
   rw[List.getElem?_take,if_pos (by omega)]
 ·rw[if_neg hj,List.getElem?_eq_none (by simp;omega)]
theorem mkLoop_of {zs:List Value} {t:TypeId} {G0:Cut} {H0:Qe} {q:Nat} {G:Cut} {H:Qe} {done:List Value} (us:US zs t G0 H0 q G H done) {P:Program} {ti:TypeId} {fld:Nat} {et:TypeId} {bts:Nat} {z:Array Value} {n:Nat} {B:Value->Qe->(Qe->Prop)->Prop} {K:Qe->Prop}
  (hf:fld=done.length) (hz:fld<zs.length) (hz1:z.size=1) (hn:n<2147483648) (hb:bts<=16)
  (Q:Nat->Cut->Value->Prop) (hQ:∀i G G' v,Cut.le G G'->Q i G v->Q i G' v)
  (hB:∀i G1 H1 s (k:Qe->Prop),i<n->US zs t G0 H0 q G1 H1 (s::done)->G.le G1->
   (∀G2 H2 v,Ext G1 H1 G2 H2->v.oneCell'=true->Q i G2 v->putI s (.int .i64 (i:Nat)) H2 v k)->B (.int .i64 (i:Nat)) H1 k)
  (hK:∀G' H' s,US zs t G0 H0 q G' H' (s::done)->G.le G'->(∃vs:List Value,SlV G' 1 s (vs.map fun v=>[v])/\vs.length=n/\∀j v,vs[j]?=some v->Q j G' v)->K H'):
  Qcm P ti (.pointer (some ⟨q,0,none⟩)) fld et bts z (.int .i64 (n:Nat)) H B K:=by
 unfold Qcm
 have hbn:bts*n<=34359738368:=Nat.mul_le_mul hb (Nat.le_of_lt hn)
 have e2:(bts:Int)*n=((bts*n:Nat):Int):=(Int.natCast_mul _ _).symm
 generalize bts*n=bn at *
 refine ⟨by omega,Int.le_refl _,by rw[e2];omega,by omega,?_⟩
 rw[Int.toNat_natCast]
 have us1:=us.push (.cells ((Array.range (n*z.size)).map (z[·%z.size]!)) et)
 have o1:=Yj.fresh us.ext (.cells ((Array.range (n*z.size)).map (z[·%z.size]!)) et)
 have hne:H.size≠q:=(us.o.ne).symm
 have hsz:((Array.range (n*z.size)).map (z[·%z.size]!)).size=n:=by simp[hz1]
 generalize (Array.range (n*z.size)).map (z[·%z.size]!)=cs0 at *
 generalize H.push (.cells cs0 et)=H1 at *
 generalize H.size=b at *
 refine us1.put hf hz rfl fun H2 us2 hown=>?_
 have o2:=hown _ _ hne o1
 have hfil:Fil H0 G H2 q b n et []:=⟨hne,cs0,o2,hsz,Nat.zero_le _,rfl⟩
 have hL:∀vs:List Value,(Value.slice (some ⟨b,0,none⟩) n n::done).length=done.length+1:=fun _=>by simp
 refine Q0 (fun _ H'=>∃G' vs,US zs t G0 H0 q G' H' (.slice (some ⟨b,0,none⟩) n n::done)/\G.le G'/\Fil H0 G' H' q b n et vs/\vs.length=n/\∀j v,vs[j]?=some v->Q j G' v) ?_ ?_
 ·refine ⟨fun m vs0 H'=>∃i G' vs,vs0=[.int .i64 (i:Nat)]/\i+m=n/\US zs t G0 H0 q G' H' (.slice (some ⟨b,0,none⟩) n n::done)/\G.le G'/\Fil H0 G' H' q b n et vs/\vs.length=i/\∀j v,vs[j]?=some v->Q j G' v,
   ⟨n,0,G,[],rfl,by omega,us2,Cut.le_refl G,hfil,rfl,fun j v h=>by simp at h⟩,?_⟩
  rintro m x H' ⟨i,G',vs,hx,hi,u,le,fl,hl,hv⟩
  cases hx
  rw[Yr]
  by_cases hlt:i<n
  ·rw[Yb (by omega)]
   refine hB i G' H' _ _ hlt u le fun G2 H3 v e1 h1 h2=>?_
   have u2:=u.next e1
   obtain ⟨f0,cs,f1,f2,f3,f4⟩:=fl.ext e1
   unfold putI
   rw[QR (by omega) (by omega),Int.toNat_natCast,Nat.mul_one,Nat.zero_add,Qas f1.get (by omega) (by simp) h1,QA,wrap_i64 (by omega) (by omega)]
   refine ⟨m-1,by omega,i+1,G2,vs++[v],by simp,by omega,⟨u2.ext.set f1.out f1.new _,u2.o.set_ne (Ne.symm f0) _⟩,Cut.le_trans le e1.le,⟨f0,_,f1.set _,by simpa using f2,by simp;omega,?_⟩,by simp;omega,?_⟩
   ·rw[<-hl];exact putL_take1 (by omega) f4
   ·intro j w hj
    rcases Nat.lt_or_ge j vs.length with h|h
    ·exact hQ _ _ _ _ e1.le (hv j w (by rwa [List.getElem?_append_left h]at hj))
    ·have:j=vs.length:=by
      rcases Nat.lt_or_ge j (vs.length+1) with h'|h'
      ·omega
      ·rw[List.getElem?_eq_none (by simp;omega)]at hj;cases hj
     subst this
     rw[List.getElem?_append_right (Nat.le_refl _)]at hj
     simp at hj
     subst hj
     rw[hl];exact h2
  ·rw[QM (by omega)]
   exact ⟨G',vs,u,le,fl,by omega,hv⟩
 ·rintro x H' ⟨G',vs,u,le,⟨f0,cs,f1,f2,f3,f4⟩,hl,hv⟩
  refine hK (G'.upd b (.cells cs et (0,0))) H' _ ⟨u.ext.add f1.get f1.out f1.new,u.o.upd_ne (Ne.symm f0) _⟩ (Cut.le_trans le (Cut.le_upd f1.out)) ⟨vs,⟨by simp,Or.inr ⟨b,0,n,cs,et,(0,0),by simp[hl],Cut.upd_same,by simp[hl,f2],?_,by simp[hl]⟩⟩,hl,fun j v h=>hQ _ _ _ _ (Cut.le_upd f1.out) (hv j v h)⟩
  have e3:(vs.map fun v=>[v]).flatten=vs:=by
   clear hv f4 hl f3
   induction vs with
   |nil=>rfl
   |cons x xs ih=>simpa using ih
  rw[e3,List.drop_zero,List.length_map,Nat.mul_one]
  exact f4
theorem setB_pushed {H:Qe} {o o':Obj}:setB (H.push o) H.size o'=H.push o':=by
 apply Array.ext_getElem?
 intro j
 simp only[setB,Array.getElem?_setIfInBounds,Array.getElem?_push,Array.size_push]
 by_cases h:H.size=j
 ·subst h;simp
 ·rw[if_neg h]
  by_cases h2:j=H.size
  ·exact absurd h2.symm h
  ·rw[if_neg h2,if_neg h2]
theorem fresh_whole {H:Qe} {z:Array Value} {t:TypeId} {k:Kn} (hz:z.size=2) (ho:∀v∈z.toList,v.oneCell'=true) (hk:k (.pointer (some ⟨H.size,0,none⟩)) (H.push (.cells z t))):
  Qz z.toList [] fun o=>Y5 H (.cells z t) fun y h1=>StK h1 2 y o fun h2=>k y h2:=by
 have e:YJ z.toList []=some z.toList:=rfl
 unfold Qz
 simp only[e]
 have hz2:z.toList.toArray.size=2:=by simpa using hz
 rw[Qy,Yg Qh hz hz2 (by decide) (by simpa using ho),setB_pushed]
 have e2:z.toList.toArray=z:=by simp
 rw[e2];exact hk
section
variable {zs:List Value} {t:TypeId} {G0:Cut} {H0:Qe} {q:Nat} {G:Cut} {H:Qe} {done:List Value} {s:Value} (us:US zs t G0 H0 q G H (s::done)) {P:Program} {fld:Nat} (hf:fld=done.length) {f g:FuncId} {x0 x v:Value} {k:Qe->Prop}
include us hf
theorem lpS_of (hc:∀R:Kn,R v H->FnS P f #[x0,x] H R) (hp:putI s x H v k):lpS P f x0 (.pointer (some ⟨q,0,none⟩)) fld x H k:=by
 refine us.get (v:=s) (by rw[hf];simp) (hc _ (Qn (Qaf.refl _).ext hp))
theorem lpO_of {z c:Array Value} {tz:TypeId} {Q:Cut->Value->Prop} (hz:z.size=2) (ho:∀v∈z.toList,v.oneCell'=true) (hc:∀R:Kn,R (.bool true) (H.push (.cells c tz))->FnS P f #[x0,.pointer (some ⟨H.size,0,none⟩),x] (H.push (.cells z tz)) R)
  (hg:∀R:Kn,(∀G2 H2 v,Ext G (H.push (.cells c tz)) G2 H2->v.oneCell'=true->Q G2 v->R v H2)->FnS P g #[.pointer (some ⟨H.size,0,none⟩)] (H.push (.cells c tz)) R)
  (hp:∀G2 H2 v,Ext G H G2 H2->v.oneCell'=true->Q G2 v->putI s x H2 v k):lpO P z tz f g x0 (.pointer (some ⟨q,0,none⟩)) fld x H k:=by
 refine fresh_whole hz ho (hc _ ?_)
 refine (us.push _).get (v:=s) (by rw[hf];simp) (hg _ fun G2 H2 v e h1 h2=>Qn e.keep.ext (hp G2 H2 v (((Ext.refl us.ext.inn).push _).trans e) h1 h2))
end
theorem uniF_of {zs:List Value} {t:TypeId} {G0:Cut} {H0:Qe} {q:Nat} {G:Cut} {H:Qe} {done:List Value} (us:US zs t G0 H0 q G H done) {P:Program} {fld:Nat} (hf:fld=done.length) {f ty un:FuncId} {x0:Value} {K:Qe->Prop} {z:Array Value} {tz:TypeId} (Q:Cut->Value->Prop)
  (hz:z.size=2) (ho:∀v∈z.toList,v.oneCell'=true) (hzs:zs[fld]?=some (.pointer none))
  (h:((∀R:Kn,R (.bool false) (H.push (.cells z tz))->FnS P f #[x0,.pointer (some ⟨H.size,0,none⟩)] (H.push (.cells z tz)) R)/\∀G',Q G' (.pointer none))\/
   ∃c k,c.size=2/\(∀R:Kn,R (.bool true) (H.push (.cells c tz))->FnS P f #[x0,.pointer (some ⟨H.size,0,none⟩)] (H.push (.cells z tz)) R)/\
    (∀R:Kn,R k (H.push (.cells c tz))->FnS P ty #[x0] (H.push (.cells c tz)) R)/\
    ∀R:Kn,(∀G2 H2 v,Ext G (H.push (.cells c tz)) G2 H2->v.oneCell'=true->Q G2 v->R v H2)->FnS P un #[k,.agg c] (H.push (.cells c tz)) R)
  (hK:∀G' H' v,US zs t G0 H0 q G' H' (v::done)->G.le G'->Q G' v->K H'):uniF P z tz f ty un x0 (.pointer (some ⟨q,0,none⟩)) fld H K:=by
 have hfl:fld<zs.length:=by
  rcases Nat.lt_or_ge fld zs.length with h|h
  ·exact h
  ·rw[List.getElem?_eq_none h]at hzs;cases hzs
 refine fresh_whole hz ho ?_
 refine Q0 (fun _ H'=>∃G' v,US zs t G0 H0 q G' H' (v::done)/\G.le G'/\Q G' v) ?_ (fun H' ⟨G',v,h1,h2,h3⟩=>hK G' H' v h1 h2 h3)
 rcases h with ⟨h1,h2⟩|⟨c,k,hc,h1,h2,h3⟩
 ·refine h1 _ ?_
  rw[ZG]
  exact ⟨G,_,(us.push _).skip (by rw[<-hf];exact hzs),Cut.le_refl G,h2 G⟩
 ·refine h1 _ ?_
  rw[QbS,YI (n:=2) (vs:=c.toList) (by rw[Q4 Qh 2 (by omega),<-hc];simp;exact List.take_of_length_le (by simp))]
  refine h2 _ (Qn (Qaf.refl _).ext ?_)
  have e2:c.toList.toArray=c:=by simp
  rw[e2]
  refine h3 _ fun G2 H2 v e g1 g2=>?_
  refine ((us.push _).next e).put hf hfl g1 fun H3 u3 _=>?_
  exact ⟨G2,v,u3,e.le,g2⟩
end Go.Vc
namespace Go.Vc
open Go
mutual
inductive SV where
 |mk (kind elem:UInt8) (num:UInt64) (text:List UInt8) (nums:List UInt64) (kids:List SV) (slots:List SL)
inductive SL where
 |mk (has:Bool) (val:SV) (dflt:UInt64)
end
mutual
def VV (F:Cut):SV->List Value->Prop
 |.mk kind elem num text nums kids slots,cells=>∃cn ck cs,cells=[u8n kind,u8n elem,Ya num,Yf text,cn,ck,cs]/\SlV F 1 cn (nums.map Qai)/\(∃i,SlV F 7 ck i/\VVs F kids i)/\(∃i,SlV F 9 cs i/\VLs F slots i)
def VVs (F:Cut):List SV->List (List Value)->Prop
 |[],[]=>True
 |v::vs,x::xs=>VV F v x/\VVs F vs xs
 |_,_=>False
def VL (F:Cut):SL->List Value->Prop
 |.mk has v d,cells=>∃c,cells= .bool has::(c++[Ya d])/\VV F v c
def VLs (F:Cut):List SL->List (List Value)->Prop
 |[],[]=>True
 |v::vs,x::xs=>VL F v x/\VLs F vs xs
 |_,_=>False
end
theorem VV.len {F:Cut} {v:SV} {x:List Value} (h:VV F v x):x.length=7:=by
 cases v
 rw[VV]at h
 obtain ⟨_,_,_,rfl,_⟩:=h
 rfl
theorem VL.len {F:Cut} {v:SL} {x:List Value} (h:VL F v x):x.length=9:=by
 cases v
 rw[VL]at h
 obtain ⟨c,rfl,h⟩:=h
 simp[h.len]
theorem VV.one {F:Cut} {v:SV} {x:List Value} (h:VV F v x):∀y∈x,y.oneCell'=true:=by
 cases v
 rw[VV]at h
 obtain ⟨cn,ck,cs,rfl,h1,⟨_,h2,_⟩,⟨_,h3,_⟩⟩:=h
 intro y hy
 simp only[List.mem_cons,List.not_mem_nil,or_false]at hy
 rcases hy with rfl|rfl|rfl|rfl|rfl|rfl|rfl
 ·rfl
 ·rfl
 ·rfl
 ·rfl
 ·exact h1.one
 ·exact h2.one
 ·exact h3.one
theorem VL.one {F:Cut} {v:SL} {x:List Value} (h:VL F v x):∀y∈x,y.oneCell'=true:=by
 cases v
 rw[VL]at h
 obtain ⟨c,rfl,h⟩:=h
 intro y hy
 simp only[List.mem_cons,List.mem_append,List.not_mem_nil,or_false]at hy
 rcases hy with rfl|hy|rfl
 ·rfl
 ·exact h.one y hy
 ·rfl
mutual
theorem VV.mono {F G:Cut} (h:F.le G):∀(v:SV) (x:List Value),VV F v x->VV G v x
 |.mk kind elem num text nums kids slots,x,hv=>by
  rw[VV]at hv⊢
  obtain ⟨cn,ck,cs,h1,h2,⟨i,a,b⟩,⟨j,c,d⟩⟩:=hv
  exact ⟨cn,ck,cs,h1,h2.mono h,⟨i,a.mono h,VVs.mono h kids i b⟩,⟨j,c.mono h,VLs.mono h slots j d⟩⟩
theorem VVs.mono {F G:Cut} (h:F.le G):∀(vs:List SV) (xs:List (List Value)),VVs F vs xs->VVs G vs xs
 |[],[],hv=>by rw[VVs];trivial
 |v::vs,x::xs,hv=>by
  rw[VVs]at hv⊢
  exact ⟨VV.mono h v x hv.1,VVs.mono h vs xs hv.2⟩
 |[],_::_,hv=>by simp only[VVs]at hv
 |_::_,[],hv=>by simp only[VVs]at hv
theorem VL.mono {F G:Cut} (h:F.le G):∀(v:SL) (x:List Value),VL F v x->VL G v x
 |.mk has v d,x,hv=>by
  rw[VL]at hv⊢
  obtain ⟨c,h1,h2⟩:=hv
  exact ⟨c,h1,VV.mono h v c h2⟩
theorem VLs.mono {F G:Cut} (h:F.le G):∀(vs:List SL) (xs:List (List Value)),VLs F vs xs->VLs G vs xs
 |[],[],hv=>by rw[VLs];trivial
 |v::vs,x::xs,hv=>by
  rw[VLs]at hv⊢
  exact ⟨VL.mono h v x hv.1,VLs.mono h vs xs hv.2⟩
 |[],_::_,hv=>by simp only[VLs]at hv
 |_::_,[],hv=>by simp only[VLs]at hv
end
theorem VVs.get {F:Cut}:∀{vs:List SV} {xs:List (List Value)},VVs F vs xs->∀{i:Nat} {v:SV},vs[i]?=some v->∃x,xs[i]?=some x/\VV F v x
 |[],[],_,i,v,h=>by simp at h
 |v'::vs,x::xs,hv,i,v,h=>by
  rw[VVs]at hv
  cases i with
  |zero=>
   have:v'=v:=by simpa using h
   subst this
   exact ⟨x,rfl,hv.1⟩
  |succ i=>
   obtain ⟨y,h1,h2⟩:=VVs.get hv.2 (i:=i) (v:=v) (by simpa using h)
   exact ⟨y,by simpa using h1,h2⟩
 |[],_::_,hv,_,_,_=>by simp only[VVs]at hv
 |_::_,[],hv,_,_,_=>by simp only[VVs]at hv
theorem VLs.get {F:Cut}:∀{vs:List SL} {xs:List (List Value)},VLs F vs xs->∀{i:Nat} {v:SL},vs[i]?=some v->∃x,xs[i]?=some x/\VL F v x
 |[],[],_,i,v,h=>by simp at h
 |v'::vs,x::xs,hv,i,v,h=>by
  rw[VLs]at hv
  cases i with
  |zero=>
   have:v'=v:=by simpa using h
   subst this
   exact ⟨x,rfl,hv.1⟩
  |succ i=>
   obtain ⟨y,h1,h2⟩:=VLs.get hv.2 (i:=i) (v:=v) (by simpa using h)
   exact ⟨y,by simpa using h1,h2⟩
 |[],_::_,hv,_,_,_=>by simp only[VLs]at hv
 |_::_,[],hv,_,_,_=>by simp only[VLs]at hv
theorem VVs.snoc {F:Cut}:∀{vs:List SV} {xs:List (List Value)} {v:SV} {x:List Value},VVs F vs xs->VV F v x->VVs F (vs++[v]) (xs++[x])
 |[],[],v,x,_,h=>by
  show VVs F [v] [x]
  rw[VVs];exact ⟨h,by rw[VVs];trivial⟩
 |v'::vs,x'::xs,v,x,hv,h=>by
  rw[VVs]at hv
  show VVs F (v'::(vs++[v])) (x'::(xs++[x]))
  rw[VVs];exact ⟨hv.1,VVs.snoc hv.2 h⟩
 |[],_::_,_,_,hv,_=>by simp only[VVs]at hv
 |_::_,[],_,_,hv,_=>by simp only[VVs]at hv
theorem VVs.len {F:Cut}:∀{vs:List SV} {xs:List (List Value)},VVs F vs xs->vs.length=xs.length
 |[],[],_=>rfl
 |v::vs,x::xs,hv=>by rw[VVs]at hv;simp[VVs.len hv.2]
 |[],_::_,hv=>by simp only[VVs]at hv
 |_::_,[],hv=>by simp only[VVs]at hv
theorem VLs.len {F:Cut}:∀{vs:List SL} {xs:List (List Value)},VLs F vs xs->vs.length=xs.length
 |[],[],_=>rfl
 |v::vs,x::xs,hv=>by rw[VLs]at hv;simp[VLs.len hv.2]
 |[],_::_,hv=>by simp only[VLs]at hv
 |_::_,[],hv=>by simp only[VLs]at hv
theorem VLs.each {F:Cut} {vs:List SL} {xs:List (List Value)} (h:VLs F vs xs):∀x∈xs,x.length=9:=by
 induction xs generalizing vs with
 |nil=>simp
 |cons x xs ih=>
  cases vs with
  |nil=>simp only[VLs]at h
  |cons v vs=>
   rw[VLs]at h
   intro y hy
   rcases List.mem_cons.1 hy with rfl|hy
   ·exact h.1.len
   ·exact ih h.2 y hy
def QaS (kind elem:UInt8) (num:UInt64) (text:List UInt8):SV:=.mk kind elem num text [] [] []
theorem VV.flat (F:Cut) (kind elem:UInt8) (num:UInt64) (text:List UInt8):VV F (QaS kind elem num text) [u8n kind,u8n elem,Ya num,Yf text,.slice none 0 0,.slice none 0 0,.slice none 0 0]:=by
 rw[QaS,VV]
 exact ⟨_,_,_,rfl,SlV.nil F 1,⟨[],SlV.nil F 7,by rw[VVs];trivial⟩,⟨[],SlV.nil F 9,by rw[VLs];trivial⟩⟩
end Go.Vc
